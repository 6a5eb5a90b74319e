import PyProof.Rows.All
import Wide.All
import OpenK.AllK
import Wide.FinOn
import Lean
import PySem.Challenge.RW_ix0004_01
set_option Elab.async false
set_option linter.all false
set_option hygiene false
set_option compiler.extract_closed false
open PySem PySem.W PyProof.Rows PySem.Calls
local macro_rules | `(tactic| walk_at "mine rm") => `(tactic| first | exact room0 (by assumption) (by decide) | exact room1 (by assumption) (by decide) | exact room2 (by assumption) (by decide) | exact room3 (by assumption) (by decide) | omega)
local macro_rules | `(tactic| walk_at "mine evs") => `(tactic| first | ((with_reducible refine' EvI.sub ?ha_q ?hb_q); (case ha_q => walk_at "mine evs"); (case hb_q => walk_at "mine evs")) | ((with_reducible refine' EvI.add ?ha_q ?hb_q); (case ha_q => walk_at "mine evs"); (case hb_q => walk_at "mine evs")) | with_reducible exact EvI.const | ((with_reducible refine' EvI.mul ?ha_q ?hb_q ?hm_q); (case ha_q => walk_at "mine evs"); (case hb_q => walk_at "mine evs"); (case hm_q => first | mul_fits | exact PySem.IntMulOk.of_right (PySem.intBits_le_64 (by omega) (by omega)))) | ((with_reducible refine' EvI.mod ?ha_q ?hb_q ?hm_q); (case ha_q => walk_at "mine evs"); (case hb_q => walk_at "mine evs"); (case hm_q => decide)) | ((with_reducible refine' EvI.div ?ha_q ?hb_q ?hm_q ?hp_q); (case ha_q => walk_at "mine evs"); (case hb_q => walk_at "mine evs"); (case hm_q => decide); (case hp_q => exact PyProof.noPylong_of_log2 (by decide +kernel))) | ((with_reducible show EvI _ _ _ _ (Expr.Name _ _) _); k_dflt (first | (refine' EvI.name ?kF_q ?kv_q ?kb_q ?kc_q ?kd_q; (case kF_q => k_asm); (case kb_q => rfl); (case kc_q => rfl); (case kv_q => rfl); (case kd_q => decide)) | (refine' EvI.glob ?kF_q ?kX_q ?kT_q ?ke_q ?kb_q ?kc_q ?kd_q; (case kF_q => k_asm); (case kX_q => k_asm); (case kT_q => k_asm); (case kb_q => rfl); (case kc_q => rfl); (case ke_q => k_is); (case kd_q => decide)))) | ((with_reducible show EvI _ _ _ _ (Expr.Attribute (Expr.Name _ _) _ _) _); k_dflt (refine' EvI.attrI ?kF_q ?kv_q ?kb_q ?kc_q ?kd_q ?kX_q ?kI_q ?k4_q ?k5_q ?k6_q ?k7_q ?k8_q; (case kF_q => k_asm); (case kb_q => rfl); (case kc_q => rfl); (case kv_q => rfl); (case kd_q => decide); (case kX_q => k_asm); (case kI_q => k_inst); (case k4_q => k_is); (case k5_q => k_is); (case k6_q => k_is); (case k7_q => k_is); (case k8_q => k_get))))
local macro_rules | `(tactic| walk_at "mine ev") => `(tactic| first | ((with_reducible show wpAny _ _ (eval (Expr.BinOp _ _ _ _) _) _ _ _); refine' EvI.go ?h_q ?_; (case h_q => walk_at "mine evs"); (intro t_q k_q; (try dsimp only))) | ((with_reducible show wpAny _ _ (PySem.isTrue (Expr.Compare _ _ _ _) _ _) _ _ _); (first | refine' EvI.le ?h1_q ?h2_q ?h3_q ?_ | refine' EvI.lt ?h1_q ?h2_q ?h3_q ?_ | refine' EvI.gt ?h1_q ?h2_q ?h3_q ?_ | refine' EvI.ge ?h1_q ?h2_q ?h3_q ?_); (case h1_q => walk_at "mine evs"); (case h2_q => walk_at "mine evs"); (case h3_q => with_unfolding_all rfl); (intro k_q; (try dsimp only))))
local macro_rules | `(tactic| walk_at "mine room") => `(tactic| first | (dsimp only; walk_at "mine rm") | ((try simp only [depth_mark, depth_under_make, depth_under_kw, depth_in1, depth_deeper, units_deeper, units_in1, units_under_make]); (try dsimp only); walk_at "mine rm"))
local macro_rules | `(tactic| walk_at "mine one") => `(tactic| (first | walk_at "mine ev" | (k_unfold; (try dsimp only)) | (k_end; wrow_close) | walk1 | (dsimp only; walk1) | (leave1; walk_say "STEP leave1"; try dsimp only) | (dsimp only; k_unfold; (try dsimp only)) | (dsimp only [StepO]; k_unfold; (try dsimp only)) | fail "no step"))
local macro_rules | `(tactic| walk_at "mine enter") => `(tactic| (refine' enter ?k1_q ?k2_q ?k3_q ?k4_q ?k5_q ?kd_q ?k6_q ?k7_q ?k8_q ?k9_q ?_ ?c2_q ?c3_q ?c4_q ?c5_q; (case k1_q => assumption); (case k2_q => assumption); (case k3_q => assumption); (case k4_q => assumption); (case k5_q => assumption); (case kd_q => walk_at "mine rm"); (case k6_q => k_is); (case k7_q => k_is); (case k8_q => first | exact BindsTo.of_eq rfl | exact binds_K (Frag.In.keeps (by assumption) (Kept.keep (by assumption))) rfl (by k_is) rfl rfl rfl | exact binds_K (by k_in) rfl (by k_is) rfl rfl rfl); (case c5_q => decide); (case k9_q => exact locs rfl); (case c2_q => exact rfl); (case c3_q => exact rfl); (case c4_q => exact rfl); k_whole; intro L'_q h'_q F'_q N'_q K'_q; (try dsimp only); (try k_fold)))
local macro_rules | `(tactic| walk_at "mine wr") => `(tactic| ((repeat (refine List.forall_mem_cons.mpr ⟨?_, ?_⟩; (· k_mem))); exact List.forall_mem_nil _))
local macro_rules | `(tactic| walk_at "mine split") => `(tactic| (repeat' (first | exact Split.nil | (refine' Split.keep ?a_q ?_; (case a_q => k_all)) | refine' Split.drop ?_)))
local macro_rules | `(tactic| walk_at "mine con") => `(tactic| ((case kB_q => assumption); (case kF_q => k_asm); (case kX_q => assumption); (case kT_q => assumption); (case kN_q => k_asm); (case kf_q => exact rfl); (case kk_q => exact rfl); (case kw_q => walk_at "mine wr"); (case ks_q => walk_at "mine split"); (case kd_q => walk_at "mine room"); (case ku_q => walk_at "mine room")))
local macro_rules | `(tactic| walk_at "mine conE") => `(tactic| ((case kB_q => assumption); (case kF_q => k_asm); (case kX_q => assumption); (case kT_q => assumption); (case kN_q => k_asm); (case kf_q => exact rfl); (case kk_q => exact rfl); (case kw_q => walk_at "mine wr"); (case ks_q => walk_at "mine split"); (case kd_q => walk_at "mine room"); (case ku_q => walk_at "mine room")))
local macro_rules | `(tactic| k_room) => `(tactic| ((try simp only [depth_mark, depth_under_make, depth_under_kw, depth_in1, depth_deeper, depth_caller]); (try dsimp only); walk_at "mine rm"))
local macro_rules | `(tactic| walk_at "mine map") => `(tactic| (refine' map_off _ ?hs_q ?a_q; (case a_q => (intro y_q hy_q; (have nn : ∀ z, _ = true → y_q ≠ z := fun z hz e => by subst e; exact absurd (hz.symm.trans hy_q) (by decide)); (try dsimp only); (repeat rw [if_neg (nn _ (by decide))]); first | done | exact rfl)); (case hs_q => decide)))
local macro_rules | `(tactic| walk_at "mine oneD") => `(tactic| (first | walk_at "mine ev" | (k_unfold; (try dsimp only)) | (k_end; wrow_close) | (walk1; (try dsimp only [List.cons_append, List.nil_append])) | (dsimp only; walk1) | (leave1; walk_say "STEP leave1"; try dsimp only) | (dsimp only; k_unfold; (try dsimp only)) | (dsimp only [StepO]; k_unfold; (try dsimp only)) | fail "no step"))
local macro_rules | `(tactic| k_inst) => `(tactic| (refine' Mine.InstAt.of_base ?F_q ?h1_q ?h2_q; (case F_q => k_asm); (case h1_q => assumption); (case h2_q => assumption)))
local macro_rules | `(tactic| walk_at "mine dis") => `(tactic| (repeat' (first | exact List.forall_mem_nil _ | refine List.forall_mem_cons.mpr ⟨?_, ?_⟩ | (refine Or.inr (cls_ne ?_); (simp; done)) | (refine Or.inr (key_ne ?_); exact rfl) | (refine Or.inr (it_ne (by assumption) ?_); (simp; done)) | (refine Or.inr (it_ne' (by assumption) ?_); (simp; done)) | exact .inl (by k_ne))))
local macro_rules | `(tactic| walk_at "mine split2") => `(tactic| (repeat' (first | with_reducible exact Split2.nil | with_reducible exact Split2.all | with_reducible exact Split2.tail rows_off_buf | with_reducible exact Split2.tail rows_off_rs | (with_reducible refine Split2.tail (rowsT_off ?_); (simp; done)) | (with_reducible refine' Split2.drop2 ?h_q ?_; (case h_q => with_reducible k_mem)) | (refine' Split2.keep ?a_q ?_; (case a_q => walk_at "mine dis")) | refine' Split2.drop ?_ | exact Split2.nil)))
local macro_rules | `(tactic| walk_at "mine conF") => `(tactic| ((case kB_q => assumption); (case kF_q => k_asm); (case kX_q => assumption); (case kT_q => assumption); (case kN_q => k_asm); (case kf_q => exact rfl); (case kk_q => exact rfl); (case kw_q => walk_at "mine wr"); (case ks_q => walk_at "mine split2"); (case kr_q => walk_at "mine rd"); (case kd_q => walk_at "mine room"); (case ku_q => walk_at "mine room")))
local macro_rules | `(tactic| walk_at "mine rd") => `(tactic| first | exact List.forall_mem_nil _ | (refine fun p hp_q => Or.inl ?_; simp only [List.mem_cons, List.mem_append, rowsL_cons, List.not_mem_nil, or_false, List.append_assoc] at hp_q ⊢; (repeat' ((with_reducible refine Or.elim hp_q ?_ ?_) <;> clear hp_q <;> intro hp_q)); all_goals (first | walk_at "mine or" | (subst hp_q; simp; done))))
local macro_rules | `(tactic| walk_at "mine or") => `(tactic| first | with_reducible assumption | (with_reducible exact Or.inl (by with_reducible assumption)) | (refine Or.inr ?_; walk_at "mine or"))
local macro_rules | `(tactic| walk_at "mine sub") => `(tactic| (intro p_q hp_q; simp only [List.mem_cons, List.mem_append, rowsL_cons, List.not_mem_nil, or_false, List.append_assoc] at hp_q ⊢; (repeat' ((with_reducible refine Or.elim hp_q ?_ ?_) <;> clear hp_q <;> intro hp_q)); all_goals (first | walk_at "mine or" | (subst hp_q; simp; done))))
local macro_rules | `(tactic| walk_at "mine enterN") => `(tactic| (refine' enterN ?k1_q ?k2_q ?k3_q ?k4_q ?k5_q ?kd_q ?k6_q ?k7_q ?k8_q ?k9_q ?_ ?c2_q ?c3_q ?c4_q ?c5_q; (case k1_q => assumption); (case k2_q => assumption); (case k3_q => assumption); (case k4_q => assumption); (case k5_q => assumption); (case kd_q => walk_at "mine rm"); (case k6_q => k_is); (case k7_q => k_is); (case k8_q => first | exact BindsTo.of_eq rfl | exact binds_K (Frag.In.keeps (by assumption) (Kept.keep (by assumption))) rfl (by k_is) rfl rfl rfl | exact binds_K (by k_in) rfl (by k_is) rfl rfl rfl); (case c5_q => decide); (case k9_q => exact locs rfl); (case c2_q => exact rfl); (case c3_q => exact rfl); (case c4_q => exact rfl); k_whole; intro L'_q h'_q F'_q N'_q K'_q; (try dsimp only); (try k_fold)))
local macro_rules | `(tactic| walk_at "mine noerr") => `(tactic| (rotate_left; (focus (intro e'_q t'_q cls'_q vs'_q g₂'_q h'_q tk'_q hp'_q R'_q F'_q U'_q; exact hp'_q.elim))))
set_option hygiene true
set_option compiler.extract_closed true
section
open PySem PySem.W PyProof.Rows PySem.Calls
set_option linter.deprecated false
set_option maxRecDepth 100000
namespace Mine
/-- the goal behind a name: motives then hold a letter -/
theorem hid {P : Prop} (h : ∀ G : Prop, (P → G) → G) : P := h P id
namespace BA
open Builtin
noncomputable abbrev baObj (b : Array UInt8) : Obj := { cls := .type "bytearray", data := .bytearray b }
noncomputable abbrev IsBA (h : Heap) (a : Addr) (b : Array UInt8) : Prop := h.get? a = some (baObj b)

theorem look_buffer : typeLookup (.type "bytearray") "__buffer__" = pure (some (.builtin "bytearray.__buffer__")) := by rw [typeLookup_type, builtinLookup_eq_fast]; kernel_rfl
theorem look_release : typeLookup (.type "bytearray") "__release_buffer__" = pure (some (.builtin "bytearray.__release_buffer__")) := by rw [typeLookup_type, builtinLookup_eq_fast]; kernel_rfl
theorem slot_len : Slot "bytearray" "__len__" "bytearray.__len__" :=
  .of (owner := "bytearray") (n := "__len__") (by rw [typeLookup_type, builtinLookup_eq_fast]; kernel_rfl) (by decide +kernel) (by decide +kernel) (by decide +kernel)
    (by first | exact .inl (by decide +kernel) | exact .inr (by decide +kernel)) (by rw [isSubtype_type]; kernel_rfl)
theorem slot_item : Slot "bytearray" "__getitem__" "bytearray.__getitem__" :=
  .of (owner := "bytearray") (n := "__getitem__") (by rw [typeLookup_type, builtinLookup_eq_fast]; kernel_rfl) (by decide +kernel) (by decide +kernel) (by decide +kernel)
    (by first | exact .inl (by decide +kernel) | exact .inr (by decide +kernel)) (by rw [isSubtype_type]; kernel_rfl)
theorem slot_add : Slot "bytearray" "__add__" "bytearray.__add__" :=
  .of (owner := "bytearray") (n := "__add__") (by rw [typeLookup_type, builtinLookup_eq_fast]; kernel_rfl) (by decide +kernel) (by decide +kernel) (by decide +kernel)
    (by first | exact .inl (by decide +kernel) | exact .inr (by decide +kernel)) (by rw [isSubtype_type]; kernel_rfl)
theorem entry_len : entryFor table "bytearray.__len__" = some Builtin.«bytearray.__len__» := by first | exact entryFor_of_fast (by kernel_rfl) | exact entryFor_of_tree (by kernel_rfl)
theorem entry_item : entryFor table "bytearray.__getitem__" = some Builtin.«bytearray.__getitem__» := by first | exact entryFor_of_fast (by kernel_rfl) | exact entryFor_of_tree (by kernel_rfl)
theorem entry_add : entryFor table "bytearray.__add__" = some Builtin.«bytearray.__add__» := by first | exact entryFor_of_fast (by kernel_rfl) | exact entryFor_of_tree (by kernel_rfl)
theorem args_len (a : Value) : argsOk "bytearray.__len__" ⟨[a], []⟩ := by unfold argsOk; kernel_rfl
theorem args_item (a b : Value) : argsOk "bytearray.__getitem__" ⟨[a, b], []⟩ := by unfold argsOk; kernel_rfl
theorem args_add (a b : Value) : argsOk "bytearray.__add__" ⟨[a, b], []⟩ := by unfold argsOk; kernel_rfl
theorem noR_add : typeLookup (.type "bytearray") (dunderR "add") = pure none := by rw [typeLookup_type, builtinLookup_eq_fast]; kernel_rfl
theorem noFill_add : fillsNumberSlot (.type "bytearray") "add" = pure false := PyProof.Rows.fillsNumberSlot_seq (id := "bytearray.__add__") (r := none) slot_add.lookup (by decide +kernel) noR_add rfl
theorem seq_add : seqSlot? (.type "bytearray") "__add__" = pure (some (.builtin "bytearray.__add__")) := PyProof.Rows.seqSlot_of slot_add.lookup (by decide +kernel)

theorem sub_self : isSubtype (.type "bytearray") (.type "bytearray") = pure true := by rw [isSubtype_type]; kernel_rfl

section
variable {M : Model} {A : Around} {E : Value → Shared → Prop} {s : Shared} {a : Addr} {b c : Array UInt8} {t u : Tok}
theorem typeIs (h : IsBA s.heap a b) : s.TypeIs (.ref a) "bytearray" := ⟨_, h, rfl⟩
theorem if_false {α : Type} {c : Bool} {x y : Sem α} {Q : α → Shared → Prop} (hc : c = false) (h : wpAny M A y Q E s) : wpAny M A (if c = true then x else y) Q E s := by
  subst hc
  exact h
theorem if_true {α : Type} {c : Bool} {x y : Sem α} {Q : α → Shared → Prop} (hc : c = true) (h : wpAny M A x Q E s) : wpAny M A (if c = true then x else y) Q E s := by
  subst hc
  exact h
theorem payload_ {Q : Array UInt8 → Shared → Prop} (h : IsBA s.heap a b) (q : Q b s) : wpAny M A (Bytes.payload (.ref a)) Q E s := by
  unfold Bytes.payload Bytes.payload?
  exact wpAny_bind (wpAny_bind (wpAny_load h (wpAny_pure (wpAny_pure q))))
theorem own_ {name : String} {id : String} {n : String} {Q : Bool → Shared → Prop} (h : IsBA s.heap a b) (hl : typeLookup (.type "bytearray") name = pure (some (.builtin id))) (he : id.endsWith ("." ++ name) = true) (hd : id.dropRight (name.length + 1) = n) (hn : n = "bytearray") (q : Q true s) : wpAny M A (Bytes.slotIsOwn (.ref a) name) Q E s := by
  unfold Bytes.slotIsOwn
  refine wpAny_bind (wpAny_specialOf (typeIs h) hl ?_)
  dsimp only
  rw [he, hd, hn]
  exact wpAny_isInstance (typeIs h) sub_self q
theorem release_ {Q : Bool → Shared → Prop} (h : IsBA s.heap a b) (q : Q false s) : wpAny M A (Bytes.ownRelease (.ref a)) Q E s := by
  unfold Bytes.ownRelease
  exact wpAny_bind (own_ h look_release (by decide +kernel) (by decide +kernel) rfl (wpAny_pure q))
theorem buffer_ {id : String} {full : Bool} {Q : Option (Array UInt8) → Shared → Prop} (h : IsBA s.heap a b) (q : Q (some b) s) : wpAny M A (Bytes.buffer? id (.ref a) full) Q E s := by
  unfold Bytes.buffer?
  refine wpAny_bind (wpAny_specialOf (typeIs h) look_buffer ?_)
  dsimp only
  refine wpAny_bind (own_ h look_buffer (by decide +kernel) (by decide +kernel) rfl ?_)
  refine if_false rfl ?_
  refine wpAny_bind (wpAny_specialOf (typeIs h) look_buffer ?_)
  refine wpAny_bind (release_ h ?_)
  refine if_false rfl ?_
  exact wpAny_bind (payload_ h (wpAny_pure q))
theorem quiet_ {id : String} {Q : Option (Array UInt8) → Shared → Prop} (h : IsBA s.heap a b) (q : Q (some b) s) : wpAny M A (Bytes.bufferQuiet? id (.ref a)) Q E s := by
  unfold Bytes.bufferQuiet?
  exact wpAny_bind (wpAny_attempt (buffer_ h (wpAny_pure q)))
theorem tooLong_not {n : Nat} (h : n ≤ 16777216) : Bytes.tooLong n = false := by
  unfold Bytes.tooLong
  rw [sizeLine_eq]
  exact decide_eq_false (by omega)
theorem new_ {Q : Value → Shared → Prop} (hz : b.size ≤ 16777216) (h : Q (.ref s.heap.objs.size) { s with heap := s.heap.push (baObj b) }) : wpAny M A (Bytes.newBytearray b) Q E s := by
  unfold Bytes.newBytearray
  exact wpAny_newObj_type h (by show b.size ≤ sizeLine; rw [sizeLine_eq]; exact hz)
theorem add_body_ba {Q : Value → Shared → Prop} {d : Addr} (ha : IsBA s.heap a b) (hd : IsBA s.heap d c) (hz : b.size + c.size ≤ 16777216) (h : Q (.ref s.heap.objs.size) { s with heap := s.heap.push (baObj (b ++ c)) }) :
    wpAny M A (Builtin.«bytearray.__add__» ⟨[.ref a, .ref d], []⟩) (fun fin s' => ∃ v, fin = .done (.ret v) ∧ Q v s') E s := by
  show wpAny M A (Bytes.buffer? "bytearray.__add__" (.ref a) >>= fun r => _) _ E s
  refine wpAny_bind (buffer_ ha ?_)
  show wpAny M A (Bytes.bufferQuiet? "bytearray.__add__" (.ref d) >>= fun r => _) _ E s
  refine wpAny_bind (quiet_ hd ?_)
  refine if_false (tooLong_not hz) ?_
  exact wpAny_bind (new_ (by rw [Array.size_append]; exact hz) (wpAny_pure ⟨_, rfl, h⟩))
theorem add_body_b {Q : Value → Shared → Prop} (ha : IsBA s.heap a b) (hz : b.size + c.size ≤ 16777216) (h : Q (.ref s.heap.objs.size) { s with heap := s.heap.push (baObj (b ++ c)) }) :
    wpAny M A (Builtin.«bytearray.__add__» ⟨[.ref a, .bytes c t], []⟩) (fun fin s' => ∃ v, fin = .done (.ret v) ∧ Q v s') E s := by
  show wpAny M A (Bytes.buffer? "bytearray.__add__" (.ref a) >>= fun r => _) _ E s
  refine wpAny_bind (buffer_ ha ?_)
  show wpAny M A (Bytes.bufferQuiet? "bytearray.__add__" (.bytes c t) >>= fun r => _) _ E s
  refine wpAny_bind (wpAny_of_eq KBy.quiet_eq ?_)
  refine if_false (tooLong_not hz) ?_
  exact wpAny_bind (new_ (by rw [Array.size_append]; exact hz) (wpAny_pure ⟨_, rfl, h⟩))
theorem len_body {Q : Value → Shared → Prop} (ha : IsBA s.heap a b) (h : Q (.int b.size s.toks) { s with toks := s.toks + 1 }) :
    wpAny M A (Builtin.«bytearray.__len__» ⟨[.ref a], []⟩) (fun fin s' => ∃ v, fin = .done (.ret v) ∧ Q v s') E s := by
  show wpAny M A (Bytes.payload (.ref a) >>= fun r => _) _ E s
  refine wpAny_bind (payload_ ha ?_)
  exact wpAny_bind (wpAny_mkInt (wpAny_pure ⟨_, rfl, h⟩))
theorem item_body {Q : Value → Shared → Prop} {k : Int} {x : UInt8} (ha : IsBA s.heap a b) (h0 : 0 ≤ k) (h1 : k < 2 ^ 63) (hx : b[k.toNat]? = some x) (h : Q (.int x.toNat s.toks) { s with toks := s.toks + 1 }) :
    wpAny M A (Builtin.«bytearray.__getitem__» ⟨[.ref a, .int k t], []⟩) (fun fin s' => ∃ v, fin = .done (.ret v) ∧ Q v s') E s := by
  show wpAny M A (Bytes.subscript? (.int k t) >>= fun r => _) _ E s
  refine wpAny_bind (wpAny_of_eq (a := some k) ?_ ?_)
  · unfold Bytes.subscript?
    have hf : Bytes.fitsIndex k = true := by simp only [Bytes.fitsIndex, Bool.and_eq_true, decide_eq_true_eq]; omega
    show (if (!Bytes.fitsIndex k) = true then _ else _) = _
    rw [hf]; rfl
  · dsimp only
    refine wpAny_bind (payload_ ha ?_)
    have hlt : k.toNat < b.size := by
      rcases Nat.lt_or_ge k.toNat b.size with q | q
      · exact q
      · rw [Array.getElem?_eq_none q] at hx; cases hx
    have e : seqIndex? k b.size = some k.toNat := by
      have h2 : ¬ k < 0 := by omega
      have h3 : k < (b.size : Int) := by omega
      simp [seqIndex?, h2, h3, h0]
    rw [e]
    simp only [Option.bind_some, hx]
    wp_walk
    exact ⟨_, rfl, h⟩
theorem slice_body {Q : Value → Shared → Prop} {q : Addr} {l u : Value} {lo hi : Option Int} (ha : IsBA s.heap a b) (hS : s.heap.IsSliceOf q l u .none) (hl : IsPart l lo) (hu : IsPart u hi) (hz : (KBy.picked b lo hi).size ≤ 16777216)
    (h : Q (.ref s.heap.objs.size) { s with heap := s.heap.push (baObj (KBy.picked b lo hi)) }) :
    wpAny M A (Builtin.«bytearray.__getitem__» ⟨[.ref a, .ref q], []⟩) (fun fin s' => ∃ v, fin = .done (.ret v) ∧ Q v s') E s := by
  obtain ⟨o, ho, hc, hd⟩ := hS
  have hT : s.TypeIs (.ref q) "slice" := ⟨o, ho, hc⟩
  show wpAny M A (Bytes.subscript? (.ref q) >>= fun r => _) _ E s
  refine wpAny_bind ?_
  unfold Bytes.subscript?
  refine wpAny_bind (wpAny_specialOf hT slice_no_index (wpAny_pure ?_))
  refine wpAny_bind (wpAny_typeOf hT ?_)
  refine if_false (by rfl) ?_
  show wpAny M A (Bytes.sliceParts (.ref q) >>= fun r => _) _ E s
  refine wpAny_bind ?_
  unfold Bytes.sliceParts
  refine wpAny_bind (wpAny_field (x := .none) ho hd rfl ?_)
  kby_none
  refine wpAny_ite (KBy.ite_no (show ¬ ((Value.none == rawInt 0) = true) from Bool.false_ne_true) ?_)
  refine wpAny_bind (wpAny_field (x := l) ho hd rfl ?_)
  have go : wpAny M A (sliceIndices (rawPart lo) (rawPart hi) (rawPart none) b.size) (fun r s' => r = sliceBounds lo hi none b.size ∧ s' = s) (fun _ _ => False) s :=
    wpAny_of_eq (sliceIndices_raw lo hi none b.size (fun e => nomatch e)) ⟨rfl, rfl⟩
  cases hl <;> cases hu <;> (first
    | (kby_none; (refine wpAny_bind (wpAny_field (x := .none) ho hd rfl ?_)); kby_none)
    | (kby_none; (refine wpAny_bind (wpAny_field (x := .int _ _) ho hd rfl ?_)); kby_int)
    | (kby_int; (refine wpAny_bind (wpAny_field (x := .none) ho hd rfl ?_)); kby_none)
    | (kby_int; (refine wpAny_bind (wpAny_field (x := .int _ _) ho hd rfl ?_)); kby_int)) <;> refine wpAny_pure ?_
  all_goals
    refine wpAny_bind (payload_ ha ?_)
    refine wpAny_bind (wpAny_mono go (fun r s' hr => ?_) fun _ _ e => e.elim)
    obtain ⟨hr1, hr2⟩ := hr
    subst hr1 hr2
    exact wpAny_bind (new_ hz (wpAny_pure ⟨_, rfl, h⟩))
end
section
variable {prog : Program} {w : World} {A : Around} {E : Value → Shared → Prop} {s : Shared} {value slice : PySem.Expr} {a d : Addr} {b c : Array UInt8} {t : Tok} {h₀ : Heap} {L : Addr} {m : PySem.Str → Option Value} {news : List (Addr × Obj)} {l u : Value} {lo hi : Option Int} {Q : Value → Shared → Prop} {i : Int}
theorem slice_N (hF : Fr h₀ L s.heap m) (hN : News h₀ L s.heap news) (ha : IsBA s.heap a b) (hl : IsPart l lo) (hu : IsPart u hi) (hz : (KBy.picked b lo hi).size ≤ 16777216)
    (h : ∀ h' x, Fr h₀ L h' m → News h₀ L h' ((x, baObj (KBy.picked b lo hi)) :: news) → (∀ p ∈ news, p.1 < x) → Q (.ref x) { s with heap := h' })
    (hs : subscripted slice false (.ref a) (.ref s.heap.objs.size) = operate [.ref s.heap.objs.size, .ref a] (getItem (.ref a) (.ref s.heap.objs.size)) := by with_unfolding_all rfl) :
    wpAny (model prog w) A (subscriptTail value slice (.ref a) (.ref s.heap.objs.size)) Q E { s with heap := s.heap.push { cls := .type "slice", data := .fields #[l, u, .none] } } := by
  have ha' : IsBA (s.heap.push { cls := .type "slice", data := .fields #[l, u, .none] }) a b := Heap.get?_push_of_some _ ha
  refine tail_any (T := "bytearray") ⟨_, ha', rfl⟩ slot_item.lookup ?_ hs
  refine wpAny_getItem_slot (T := "bytearray") ⟨_, ha', rfl⟩ (by decide) slot_item (wpAny_call_entry slot_item ⟨_, ha', rfl⟩ entry_item ?_ (args_item _ _))
  refine slice_body (s := { s with heap := s.heap.push { cls := .type "slice", data := .fields #[l, u, .none] } }) ha' (Heap.IsSliceOf.new _ _ _ _) hl hu hz ?_
  have N1 := News.pushKeep hN { cls := .type "slice", data := .fields #[l, u, .none] }
  have F1 := hF.push { cls := .type "slice", data := .fields #[l, u, .none] }
  exact h _ _ (F1.push _) (News.push F1 N1 _ rfl) (fun p hp => Heap.lt_size (N1 p hp).1)
theorem item_N {k : Int} {x : UInt8} {ui : Tok} (ha : IsBA s.heap a b) (h0 : 0 ≤ k) (h1 : k < 2 ^ 63) (hx : b[k.toNat]? = some x) (h : Q (.int x.toNat s.toks) { s with toks := s.toks + 1 })
    (hs : subscripted slice false (.ref a) (.int k ui) = operate [.ref a, .int k ui] (getItem (.ref a) (.int k ui)) := by with_unfolding_all rfl) :
    wpAny (model prog w) A (subscriptTail value slice (.ref a) (.int k ui)) Q E s := by
  refine tail_any (T := "bytearray") ⟨_, ha, rfl⟩ slot_item.lookup ?_ hs
  refine wpAny_getItem_slot (T := "bytearray") ⟨_, ha, rfl⟩ (by decide) slot_item (wpAny_call_entry slot_item ⟨_, ha, rfl⟩ entry_item ?_ (args_item _ _))
  exact item_body ha h0 h1 hx h
theorem len_N (ha : IsBA s.heap a b) (hz : b.size ≤ 16777216) (h : Q (.int b.size (s.toks + 1)) { s with toks := s.toks + 1 + 1 }) : wpAny (model prog w) A (call (.builtin "len") [.ref a]) Q E s := by
  refine call_function_entry kind_len plain_len PySem.entry_len (args_len1 _) ?_
  unfold Builtin.«len»
  refine wpAny_bind (m := oneArg "len" _) (wpAny_pure ?_)
  refine wpAny_bind (m := callSpecial? (.ref a) (PySem.Str.ofString "__len__")) (wpAny_callSpecial?_slot (name := PySem.Str.ofString "__len__") (typeIs ha) slot_len
    (wpAny_call_entry slot_len (typeIs ha) entry_len ?_ (args_len _)))
  refine wpAny_mono (len_body (Q := fun v s' => v = .int b.size s.toks ∧ s' = { s with toks := s.toks + 1 }) ha ⟨rfl, rfl⟩) (fun fin s' hq => ?_) fun _ _ e => e
  obtain ⟨v, rfl, rfl, rfl⟩ := hq
  refine ⟨_, rfl, ?_⟩
  wp_walk
  refine wpAny_ite_false (decide_eq_false (by omega)) ?_
  wp_walk
  exact ⟨_, rfl, h⟩
theorem add_ba (hF : Fr h₀ L s.heap m) (hN : News h₀ L s.heap news) (ha : IsBA s.heap a b) (hd : IsBA s.heap d c) (hz : b.size + c.size ≤ 16777216)
    (h : ∀ h' x, Fr h₀ L h' m → News h₀ L h' ((x, baObj (b ++ c)) :: news) → (∀ p ∈ news, p.1 < x) → Q (.ref x) { s with heap := h' }) : wpAny (model prog w) A (binaryOp .Add (.ref a) (.ref d)) Q E s := by
  refine wpAny_binaryOp_concat (typeIs ha) (typeIs hd) noFill_add seq_add (wpAny_call_entry slot_add (typeIs ha) entry_add ?_ (args_add _ _))
  exact add_body_ba ha hd hz (h _ _ (hF.push _) (News.push hF hN _ rfl) (fun p hp => Heap.lt_size (hN p hp).1))
theorem concat_two {x y : Value} {T T' id : String} (ha : s.TypeIs x T) (hb : s.TypeIs y T') (hne : (Value.type T == Value.type T') = false)
    (hfill : fillsNumberSlot (.type T) "add" = pure false) (hfill' : fillsNumberSlot (.type T') "add" = pure false) (hseq : seqSlot? (.type T) "__add__" = pure (some (.builtin id)))
    (hc : wpAny (model prog w) A (call (.builtin id) [x, y]) Q E s) : wpAny (model prog w) A (binaryOp .Add x y) Q E s := by
  unfold binaryOp
  refine wpAny_holding ?_
  refine wpAny_bind (m := binaryOp1 "add" x y) ?_
  · simp only [binaryOp1]
    refine wpAny_bind (wpAny_typeOf ha (wpAny_bind (wpAny_typeOf hb (wpAny_bind (wpAny_of_eq hfill (wpAny_ite_false (by rw [hne]; rfl) (wpAny_bind (wpAny_of_eq hfill' ?_))))))))
    refine (?_ : wpAny _ _ (pure (none : Option Value)) _ _ _)
    refine wpAny_pure ?_
    refine wpAny_bind (wpAny_typeOf ha ?_)
    refine wpAny_bind (wpAny_of_eq hseq ?_)
    exact wpAny_bind (wpAny_rule hc)
theorem add_b (hF : Fr h₀ L s.heap m) (hN : News h₀ L s.heap news) (ha : IsBA s.heap a b) (hz : b.size + c.size ≤ 16777216)
    (h : ∀ h' x, Fr h₀ L h' m → News h₀ L h' ((x, baObj (b ++ c)) :: news) → (∀ p ∈ news, p.1 < x) → Q (.ref x) { s with heap := h' }) : wpAny (model prog w) A (binaryOp .Add (.ref a) (.bytes c t)) Q E s := by
  refine concat_two (typeIs ha) (typeIs_bytes s c t) (by decide) noFill_add KBy.noFill_bytes_add seq_add (wpAny_call_entry slot_add (typeIs ha) entry_add ?_ (args_add _ _))
  exact add_body_b ha hz (h _ _ (hF.push _) (News.push hF hN _ rfl) (fun p hp => Heap.lt_size (hN p hp).1))
end
theorem mro_ba : mroOf (.type "bytearray") = pure [.type "bytearray", .type "object"] := by rw [mroOf_type]; kernel_rfl
theorem lookup_new : typeLookup (.type "bytearray") "__new__" = pure (some (.builtin "bytearray.__new__")) := by rw [typeLookup_type, builtinLookup_eq_fast]; kernel_rfl
theorem slot_init : Slot "bytearray" "__init__" "bytearray.__init__" :=
  .of (owner := "bytearray") (n := "__init__") (by rw [typeLookup_type, builtinLookup_eq_fast]; kernel_rfl) (by decide +kernel) (by decide +kernel) (by decide +kernel)
    (by first | exact .inl (by decide +kernel) | exact .inr (by decide +kernel)) (by rw [isSubtype_type]; kernel_rfl)
theorem called_ba : TypeCalled "bytearray" "bytearray.__new__" "bytearray.__init__" :=
  ⟨by decide +kernel, by decide +kernel, ⟨_, _, mro_ba⟩, madeBy_type mro_ba lookup_new (by decide +kernel), by decide +kernel, by rw [isSubtype_type]; kernel_rfl, slot_init⟩
theorem typeCall_ba (a : Value) : checkTypeCall "bytearray" ⟨[a], []⟩ = pure () := by kernel_rfl
theorem newCall_ba (a : Value) : checkBuiltinCall "bytearray.__new__" ⟨[.type "bytearray", a], []⟩ = pure () := by kernel_rfl
theorem entry_new : entryFor table "bytearray.__new__" = some Builtin.«list.__new__» := entryFor_alias (id' := "list.__new__") (by kernel_rfl) rfl (by decide +kernel) (by kernel_rfl)
theorem plain_new : plainId "bytearray.__new__" = true := by decide +kernel
theorem entry_init : entryFor table "bytearray.__init__" = some Builtin.«bytearray.__init__» := by first | exact entryFor_of_fast (by kernel_rfl) | exact entryFor_of_tree (by kernel_rfl)
theorem args_init (a b : Value) : argsOk "bytearray.__init__" ⟨[a, b], []⟩ := by unfold argsOk; kernel_rfl
set_option maxRecDepth 1000000 in
set_option maxHeartbeats 4000000 in
theorem owner_new : ("bytearray.__new__".splitOn ".__new__").headD "" = "bytearray" := by simp +decide [String.splitOn, String.splitOnAux]
section
variable {prog : Program} {w : World} {A : Around} {E : Value → Shared → Prop} {s : Shared}
theorem code_new (a : Value) {Q₁ : Value → Shared → Prop}
    (h : Q₁ (.ref s.heap.objs.size) { s with heap := s.heap.push (baObj #[]) }) :
    codeAny (model prog w) A (.call (.builtin "bytearray.__new__") ⟨[.type "bytearray", a], []⟩) (wants Q₁ E) s := by
  refine codeAny_of_tree ?_
  show wpAny _ A.in1 (do checkBuiltinCall "bytearray.__new__" ⟨[.type "bytearray", a], []⟩; again (.builtin "bytearray.__new__" ⟨[.type "bytearray", a], []⟩)) _ _ s
  refine wpAny_bind (wpAny_of_eq (newCall_ba a) (wpAny_pure ⟨plainId_quiet plain_new _, codeAny_builtin_stack entry_new rfl fun p st => ?_⟩))
  rw [Around.under_plainId plain_new _]
  have hsub := sub_self
  have hown := owner_new
  obtain ⟨hp, g, d, tk, os⟩ := s
  simp only [hown]
  wp_walk
  exact h
end
end BA
end Mine
end
section
open PySem PySem.W PyProof.Rows PySem.Calls
set_option maxRecDepth 100000
namespace Mine

noncomputable def badId (id : String) : Bool := (["bytearray.__contains__", "bytearray.__mod__", "bytearray.__rmod__", "_struct.pack_into.held", "bytearray.find.held"] ++ Builtin.Bytes.decodersThatHold).contains id
theorem bad1 : ¬ badId "bytearray.__contains__" = false := by decide +kernel
theorem bad2 : ¬ badId "bytearray.__mod__" = false := by decide +kernel
theorem bad3 : ¬ badId "bytearray.__rmod__" = false := by decide +kernel
theorem bad4 : ¬ badId "_struct.pack_into.held" = false := by decide +kernel
theorem bad5 : ¬ badId "bytearray.find.held" = false := by decide +kernel
noncomputable def badCode : Code → Bool
  | .builtin id _ => badId id
  | _ => false
noncomputable def Clean (Γ : Ctx) : Prop := badCode Γ.code = false ∧ ∀ q ∈ Γ.below, badCode q.1 = false
structure wpN {α : Type} (M : Model) (A : Around) (t : Sem α) (Q : α → Shared → Prop) (E : Value → Shared → Prop) (s : Shared) : Prop where
  out : ∀ Γ p, Γ.In A → Clean Γ → Sem.wp M Γ t (fun a _ s' => Q a s') (fun e _ s' => E e s') p s
structure codeN (M : Model) (A : Around) (c : Code) (R : Result → Shared → Prop) (s : Shared) : Prop where
  out : ∀ Γ p, Γ.code = c → Γ.Below A → Clean Γ → wpCode M Γ R p s

theorem Clean.goto {Γ : Ctx} (h : Clean Γ) {c : Code} (hc : badCode c = false) : Clean (Γ.goto c) := ⟨hc, h.2⟩
theorem Clean.enter {Γ : Ctx} (h : Clean Γ) {c : Code} (hc : badCode c = false) (hd : Option Value) (p : Pos) : Clean (Γ.enter c hd p) :=
  ⟨hc, fun q hq => by
    rcases List.mem_cons.mp hq with rfl | hq
    · exact h.1
    · exact h.2 q hq⟩

section
variable {α β : Type} {M : Model} {A : Around} {E : Value → Shared → Prop} {s : Shared}
theorem wpN_of {t : Sem α} {Q : α → Shared → Prop} (h : wpAny M A t Q E s) : wpN M A t Q E s := ⟨fun Γ p hΓ _ => h Γ p hΓ⟩
theorem codeN_of {c : Code} {R : Result → Shared → Prop} (h : codeAny M A c R s) : codeN M A c R s := ⟨fun Γ p hc hΓ _ => h Γ p hc hΓ⟩
theorem wpN_pure {a : α} {Q : α → Shared → Prop} (h : Q a s) : wpN M A (pure a) Q E s := ⟨fun _ _ _ _ => h⟩
theorem wpN_mono {t : Sem α} {Q Q' : α → Shared → Prop} {E' : Value → Shared → Prop} (h : wpN M A t Q E s) (hQ : ∀ a s, Q a s → Q' a s) (hE : ∀ e s, E e s → E' e s) : wpN M A t Q' E' s :=
  ⟨fun Γ p hΓ hc => Sem.wp_mono M Γ t (fun a _ s => hQ a s) (fun e _ s => hE e s) p s (h.out Γ p hΓ hc)⟩
theorem wpN_bind {m : Sem α} {f : α → Sem β} {Q : β → Shared → Prop} (h : wpN M A m (fun a s' => wpN M A (f a) Q E s') E s) : wpN M A (m >>= f) Q E s := by
  refine ⟨fun Γ p hΓ hc => ?_⟩
  rw [Sem.wp_bind']
  exact Sem.wp_mono M Γ m (fun a p' s' h' => h'.out Γ p' hΓ hc) (fun _ _ _ h' => h') p s (h.out Γ p hΓ hc)
theorem wpN_any {m : Sem α} {f : α → Sem β} {Q : β → Shared → Prop} (h : wpAny M A m (fun a s' => wpN M A (f a) Q E s') E s) : wpN M A (m >>= f) Q E s := wpN_bind (wpN_of h)
theorem wpN_eq {m : Sem α} {f : α → Sem β} {a : α} {Q : β → Shared → Prop} (e : m = pure a) (h : wpN M A (f a) Q E s) : wpN M A (m >>= f) Q E s := by subst e; exact wpN_bind (wpN_pure h)
theorem wpN_tryCatch {m : Sem α} {k : Value → Sem α} {Q : α → Shared → Prop} (h : wpN M A m Q (fun e s' => wpN M A (k e) Q E s') s) : wpN M A (tryCatch m k) Q E s := by
  refine ⟨fun Γ p hΓ hc => ?_⟩
  rw [Sem.wp_tryCatch']
  exact Sem.wp_mono M Γ m (fun _ _ _ h' => h') (fun e p' s' h' => h'.out Γ p' hΓ hc) p s (h.out Γ p hΓ hc)
theorem wpN_onRaise {m : Sem α} {k : Value → Sem Unit} {Q : α → Shared → Prop} (h : wpN M A m Q (fun e s' => wpN M A (k e) (fun _ s'' => E e s'') E s') s) : wpN M A (m.onRaise k) Q E s := by
  refine ⟨fun Γ p hΓ hc => ?_⟩
  rw [Sem.wp_onRaise]
  exact Sem.wp_mono M Γ m (fun _ _ _ h' => h') (fun e p' s' h' => h'.out Γ p' hΓ hc) p s (h.out Γ p hΓ hc)
theorem wpN_attempt {m : Sem α} {Q : Except Value α → Shared → Prop} (h : wpN M A m (fun a => Q (.ok a)) (fun e => Q (.error e)) s) : wpN M A m.attempt Q E s := by
  refine ⟨fun Γ p hΓ hc => ?_⟩
  rw [Sem.wp_attempt]; exact h.out Γ p hΓ hc
theorem wpN_holding {vs : List Value} {m : Sem α} {Q : α → Shared → Prop} (h : wpN M A m Q E s) : wpN M A (holding vs m) Q E s := by
  refine ⟨fun Γ p hΓ hc => ?_⟩
  rw [Sem.wp_holding]; exact h.out Γ p hΓ hc
theorem wpN_keep {vs : List Value} {m : Sem α} {Q : α → Shared → Prop} (h : wpN M A m Q E s) : wpN M A (m.keep vs) Q E s := by
  refine ⟨fun Γ p hΓ hc => ?_⟩
  rw [Sem.wp_keep]; exact h.out Γ p hΓ hc
theorem codeN_mono {c : Code} {R R' : Result → Shared → Prop} (h : codeN M A c R s) (hR : ∀ r s, R r s → R' r s) : codeN M A c R' s := ⟨fun Γ p hc hΓ hcl => wpCode_mono hR (h.out Γ p hc hΓ hcl)⟩
theorem wpN_run {c : Code} {h : Option Value} {Q : Flow → Shared → Prop} (hb : badCode c = false)
    (hc : codeN M (A.mark h) c (fun r s' => match r with | .ok f => Q f s' | .error e => E e s') s) (hnb : h ≠ some byPass := by intro x; cases x) : wpN M A (run c h) Q E s :=
  ⟨fun Γ p hΓ hcl => by rw [Sem.wp_run]; exact hc.out _ p rfl (hΓ.enter c h p hnb) (hcl.enter hb h p)⟩
theorem wpN_runValue {c : Code} {Q : Value → Shared → Prop} (hb : badCode c = false)
    (hc : codeN M A c (fun r s' => match r with | .ok (.ret v) => Q v s' | .ok _ => False | .error e => E e s') s) : wpN M A (runValue c) Q E s :=
  ⟨fun Γ p hΓ hcl => by rw [Sem.wp_runValue]; exact hc.out _ p rfl (hΓ.enter c none p (by intro x; cases x)) (hcl.enter hb none p)⟩
theorem wpN_call {f : Value} {pos : List Value} {kw : List (Str × Value)} {Q : Value → Shared → Prop}
    (hc : codeN M A (.call f ⟨pos, kw⟩) (fun r s' => match r with | .ok (.ret v) => Q v s' | .ok _ => False | .error e => E e s') s) : wpN M A (call f pos kw) Q E s := wpN_runValue rfl hc
theorem codeN_of_tree {c : Code} {R : Result → Shared → Prop}
    (h : wpN M (A.under c) (M.den c) (fun fin s' => match fin with | .done f => R (.ok f) s' | .again c' => c'.quiet = true ∧ badCode c' = false ∧ codeN M A c' R s') (fun e s' => R (.error e) s') s) : codeN M A c R s := by
  refine ⟨fun Γ p hc hΓ hcl => ?_⟩
  rw [wpCode_iff_wp, hc]
  refine Sem.wp_mono M Γ _ (fun fin p' s' h' => ?_) (fun _ _ _ h' => h') p s (h.out Γ p (hc ▸ hΓ.in) hcl)
  cases fin with
  | done f => exact h'
  | again c' => exact ⟨h'.1, h'.2.2.out (Γ.goto c') p' rfl (hΓ.goto c') (hcl.goto h'.2.1)⟩
theorem wpN_if_false {c : Bool} {x y : Sem α} {Q : α → Shared → Prop} (hc : c = false) (h : wpN M A y Q E s) : wpN M A (if c = true then x else y) Q E s := by
  subst hc
  exact h
theorem wpN_if_true {c : Bool} {x y : Sem α} {Q : α → Shared → Prop} (hc : c = true) (h : wpN M A x Q E s) : wpN M A (if c = true then x else y) Q E s := by
  subst hc
  exact h
theorem wpN_exported {v : Value} {Q : Bool → Shared → Prop} (h : Q false s) : wpN M A (Builtin.Bytes.exported v) Q E s := by
  refine ⟨fun Γ p _ hcl => ?_⟩
  have key : ∀ b : Bool, b = false → Q b s := fun b hb => by subst hb; exact h
  refine key _ ?_
  rw [List.any_eq_false]
  rintro ⟨c, q⟩ hx
  have hb : badCode c = false := by
    rcases List.mem_cons.mp hx with e | hx
    · cases e; exact hcl.1
    · exact hcl.2 _ hx
  clear hx h key
  cases c
  case builtin id args =>
    obtain ⟨pos, kw⟩ := args
    have n1 : id ≠ "bytearray.__contains__" := fun e => by subst e; exact bad1 hb
    have n2 : id ≠ "bytearray.__mod__" := fun e => by subst e; exact bad2 hb
    have n3 : id ≠ "bytearray.__rmod__" := fun e => by subst e; exact bad3 hb
    have n4 : id ≠ "_struct.pack_into.held" := fun e => by subst e; exact bad4 hb
    have n5 : id ≠ "bytearray.find.held" := fun e => by subst e; exact bad5 hb
    have hd : Builtin.Bytes.decodersThatHold.contains id = false := by
      have hb' : (["bytearray.__contains__", "bytearray.__mod__", "bytearray.__rmod__", "_struct.pack_into.held", "bytearray.find.held"] ++ Builtin.Bytes.decodersThatHold).contains id = false := hb
      rw [List.contains_append] at hb'
      exact (Bool.or_eq_false_iff.mp hb').2
    delta Builtin.Bytes.exported.match_1
    dsimp only [Builtin.Bytes.exported._sparseCasesOn_1]
    rw [dif_neg n1, dif_neg n2, dif_neg n3, dif_neg n4, dif_neg n5]
    cases pos with
    | nil => exact Bool.false_ne_true
    | cons v t =>
      show ¬ (Builtin.Bytes.sameRef v _ && Builtin.Bytes.decodersThatHold.contains id) = true
      rw [hd, Bool.and_false]
      exact Bool.false_ne_true
  all_goals exact Bool.false_ne_true
end
end Mine
end
section
open PySem PySem.W PyProof.Rows PySem.Calls
set_option maxRecDepth 100000
namespace Mine

noncomputable abbrev WalkC (q : Program) (loose : List Str) (XP : (Str → Option Value) → Heap → Prop) (YP : World → Heap → Prop) (r : RowW) (d : DefRec) (kwd : List (Str × Expr)) : Prop :=
  ∀ (w : World) (s₀ s₁ : Shared) (mg mb : Str → Option Value), Ground q loose r.records XP w s₀ mg mb s₁.heap → YP w s₁.heap → ∀ (a : Addr) (o : Obj) (pm cd doc dV kV : Value), s₁.heap.get? a = some o →
    o.data = .func { docDef d.name d.params d.body d.scope pm cd doc with defaults := dV, kwdefaults := kV } → s₁.heap.CodeRec cd d.name → Dflts mg s₁.heap d.params kwd dV kV → mg d.name = some (.ref a) → s₁.gens = #[] →
    ∀ (args : List WData) (vals : List Value) (as : List Addr), r.claim.pre args = true → WData.layableAll args = true → ReadsAllW r.records (classAt s₀.heap) s₁.heap vals args as → WellAll w.params s₁.heap vals args → (∀ a ∈ as, (a == sysModules) = false) →
      wpN (model r.prog w) callerA (PySem.call (.ref a) vals) (fun v s' => GoodWG r.claim (classAt s₀.heap) (ExcName.means s₀.heap) args s₁ (.ok (.ret v)) s')
        (fun e s' => GoodWG r.claim (classAt s₀.heap) (ExcName.means s₀.heap) args s₁ (.error e) s') s₁

theorem clean_caller : Clean ⟨.builtin "claim.caller" {}, none, none, [], none⟩ := ⟨by show badId "claim.caller" = false; decide +kernel, fun _ h => nomatch h⟩

theorem ends_clean {prog : Program} {w : World} {t : Sem Fin} {s : Shared} {R : Result → Shared → Prop} (hreg : s.asleep)
    (h : wpN (model prog w) callerA t (fun fin s' => ∃ f, fin = .done f ∧ (R (.ok f) s' ∧ leftWithCleanup s'.gens = false)) (fun e s' => R (.error e) s' ∧ leftWithCleanup s'.gens = false) s) :
    ∃ n r s' s'', schedN (denote table) prog w n (.single s ⟨t, .builtin "claim.caller" {}, default, []⟩) = .halted (outcomeOf r) s' ∧ runN (denote table) prog w n s ⟨t, .builtin "claim.caller" {}, default, []⟩ = .halted (outcomeOf r) s' ∧
      s'.forget = s''.forget ∧ R r s'' := by
  obtain ⟨n, r, s₁, s₂, hs, hn, hfo, hR⟩ := wp_halts_full (M := model prog w) (R := R) hreg
    (Sem.wp_mono _ _ t (fun fin p' s' hq => by obtain ⟨f, rfl, hf⟩ := hq; exact hf) (fun _ _ _ hq => hq) default s (h.out _ default caller_in clean_caller))
  exact ⟨n, r, s₂, s₁, hs, hn, hfo, hR⟩

theorem PySem.W.holds_open {r : OpenRow} {q : Program} {loose : List Str} {Xt : Shared → Bool} {XP : (Str → Option Value) → Heap → Prop} {α : Type} {Yf : Shared → α} {Ya : World → α} {YP : World → Heap → Prop} {d : DefRec} {kwd : List (Str × Expr)} {N : Nat}
    (left : LeftO r.prog q loose Xt Yf Ya N) (hY : ∀ w s, Yf s = Ya w → YP w s.heap) (hYk : ∀ w h h', YP w h → (∀ b o, h.get? b = some o → h'.get? b = some o) → YP w h')
    (hX : ∀ s, Xt s = true → XP (s.heap.nsMap mainGlobals) s.heap) (hXk : ∀ mg h h', XP mg h → (∀ b o, h.get? b = some o → h'.get? b = some o) → XP mg h')
    (hdef : defOf q r.name = some (d, kwd)) (hp : r.prog.theDef r.name = some (d.params, d.body, d.scope)) (hk : kwWritten? d.params.kwonlyargs d.params.kw_defaults = some kwd) (hRf : ∀ s, Xt s = true → RecFacts r.records s.heap) (hwr : (!r.writes || r.records.isEmpty) = true)
    (k1 : r.wellSaid = true) (ok : (chainsOk q && opensWell r.prog && (frees r.toRowW && r.within.isEmpty)) = true) (hb : r.prog.bare) (hw : r.toRowW.promised)
    (call : WalkC q loose XP YP r.toRowW d kwd) : r.Holds := by
  refine ⟨k1, hw, ?_⟩
  obtain ⟨ok, k5⟩ := Bool.and_eq_true_iff.mp ok
  obtain ⟨hch, o1⟩ := Bool.and_eq_true_iff.mp ok
  obtain ⟨k5, k6⟩ := Bool.and_eq_true_iff.mp k5
  obtain ⟨hsame, hu, ha, hap, hm⟩ := frees_parts k5
  have hi := ident_freeW hu ha hap
  have hwi : r.toRowW.claim.within = [] := List.isEmpty_iff.mp k6
  refine ⟨⟨hb, o1, by show r.makers.map _ = []; rw [hm]; rfl⟩, hw.witness, fun w => ⟨(left.behind hX hch w).1, fun s' hs' => ?_⟩⟩
  refine hid fun GG hG => ?_
  obtain ⟨s₀, hf, hg0, s, hT, hz, hgens, hg, G00, y⟩ := (left.behind (XP := fun mg h => XP mg h ∧ RecFacts r.records h) (fun s hs => ⟨hX s hs, hRf s hs⟩) hch w).2 s' hs'
  have G0 : Ground q loose [] XP w s (s.heap.nsMap mainGlobals) (s.heap.nsMap builtinsNs) s.heap := ⟨G00.T, G00.B, G00.D, G00.TE, G00.TD, G00.W, G00.X.1, G00.cls, G00.has, G00.apart, G00.once, G00.K⟩
  have RF := G00.X.2
  have hgens : s.gens = #[] := Array.eq_empty_of_size_eq_zero (beq_iff_eq.mp hgens)
  have G : Ground q loose r.records XP w s _ _ s.heap := RF.ground G0
  refine hG ⟨s₀, hf, hg0, s, hT, fun n hn => ?_, RF.1, RF.2.1, ?_⟩
  all_goals clear hG
  · obtain rfl : n = r.name := by split at hn <;> simp_all
    exact pinned_of_view hg G0 hdef hp hk
  · intro args hpre hlay ord hord
    refine hid fun GG hG => ?_
    obtain ⟨⟨vs, s₁⟩, hlaid⟩ := Option.isSome_iff_exists.mp (layAllW_isSome (P := w.params) (ord := ord) G.has args r.args s (pre_splitW hpre).1)
    have keeps := layAllW_keeps _ _ _ hlaid
    have hal := layAllW_rest _ _ _ hlaid
    obtain ⟨as, hrd, hin, hold⟩ := reads_layAllW hord _ _ _ hlaid hlay s₁.heap (fun _ _ e => e)
    have L : Laid r.records w s s₁ args vs as := ⟨⟨ord, hord, hlaid⟩, hrd, hin, hold, keeps, hal.1.trans hgens, hal.2.2.1⟩
    have G₁ := G.keeps hXk keeps
    obtain ⟨a, o, pm, cd, doc, dV, kV, h1, h2, h3, h4, h5⟩ := G₁.fn hdef
    have h := call w s s₁ _ _ G₁ (hYk _ _ _ (hY w s y) keeps) a o pm cd doc dV kV h2 h3 h4 h5 (defOf_name hdef ▸ h1) L.gens args vs as hpre hlay L.reads L.well (L.low G.low)
    obtain ⟨RR, hRR, mk⟩ : ∃ RR : Result → Shared → Prop, (∀ res s', RR res s' → (r.toRowW.claim.Ends s args vs s₁ res s' ∧ s'.os = s.os ∧ (r.writes = true → namesKept r.prog r.keeps s.heap s'.heap ∧ ∀ x ∈ r.records, ∀ a, classAt s.heap x.1 = some a → recordClass s'.heap a x.1 (x.2.map (·.1)) = true))) ∧
        ∀ res s', GoodWG r.toRowW.claim (classAt s.heap) (ExcName.means s.heap) args s₁ res s' → RR res s' ∧ leftWithCleanup s'.gens = false := ⟨_, fun _ _ h => h, fun res s' g =>
      have z := g.laid (c := r.toRowW.claim) hsame hwi hi L
      ⟨⟨z.1, z.2.1, fun q => ⟨namesKept_of hT hg r.keeps keeps g.2.1.old, noTable hwr q⟩⟩, leftWithCleanup_false_of_bare z.2.2⟩⟩
    obtain ⟨k, res, s2, s3, hsched, hrun, hfo, hR⟩ := ends_clean (prog := r.prog) (w := w) (s := s₁) (t := (do
        match ← nsGet mainNs r.name with
        | some f => do ret (← PySem.call f vs)
        | none => unsupported "claim.caller:no-such-global")) (R := RR)
      (Shared.asleep_of_life hal.2.2.2 hz)
      (wpN_any (wpAny_nsGet G₁.T.g (by
        rw [h1]
        exact wpN_bind (wpN_mono h (fun v s' g => wpN_pure ⟨_, rfl, mk _ _ g⟩) fun e s' g => mk _ _ g))))
    obtain ⟨hcase, hos, hkp⟩ := hRR _ _ hR
    clear hR hRR mk
    obtain ⟨eh, _, _, eo, _⟩ := Shared.forget_eq hfo
    have hcase := hcase.congr eh
    rw [← eh] at hkp
    rw [← eo] at hos
    have hlife : s2.heap.life = s.heap.life := (runN_life _ _ _ hrun).trans hal.2.2.2
    refine hG ⟨vs, s₁, hlaid, k, _, s2, hsched, ?_, (fun _ i x hx => by rw [hgens] at hx; simp at hx), hkp, by rw [hlife], Shared.rest_eq hos⟩
    clear hG
    rcases hcase with ⟨v, rfl, d1, d2, d3, d4, d5⟩ | ⟨e, ob, cls, rfl, d1, d2, d3, d4, d5⟩
    · exact .inl ⟨v, rfl, d1, d2, d3, fun b o y _ => d4 b o y, d5⟩
    · exact .inr ⟨e, ob, cls, rfl, d1, d2, d3, d4, fun b o y _ => d5 b o y⟩
end Mine
end
section
open PySem PySem.W PyProof.Rows
set_option maxRecDepth 100000
set_option maxHeartbeats 8000000
namespace Mine
structure Tab where
  x : Nat → Str
  y : Nat → String
  p : Program
noncomputable def stA (p : Program) (i : Nat) : Stmt := match p.main.body.drop i with
  | s :: _ => s
  | [] => .Pass ⟨0,0,0,0⟩
noncomputable def stB (p : Program) (i j : Nat) : Stmt := match stA p i with
  | .ClassDef _ _ _ b _ _ _ _ _ _ _ => (match b.drop j with
    | s :: _ => s
    | [] => .Pass ⟨0,0,0,0⟩)
  | s => s
noncomputable def fdP : Stmt → Arguments
  | .FunctionDef _ a _ _ _ _ _ _ _ _ => a
  | _ => ⟨[],[],none,[],[],none,[]⟩
noncomputable def fdB : Stmt → FuncBody
  | .FunctionDef _ _ b _ _ _ _ _ _ _ => .stmts b
  | _ => .stmts []
noncomputable def fdL : Stmt → List Stmt
  | .FunctionDef _ _ b _ _ _ _ _ _ _ => b
  | _ => []
noncomputable def fdS : Stmt → Scope
  | .FunctionDef _ _ _ _ _ _ s _ _ _ => s
  | _ => ⟨.module, [], false, false, []⟩
noncomputable def cds : List (List Nat) := [[60,109,111,100,117,108,101,62],[47,99,108,97,105,109,47,99,117,116,46,112,121],[95,95,109,97,105,110,95,95],[95,95,110,97,109,101,95,95],[108,97,119,95,105,120,48,48,48,52,95,48,49],[95,95,100,111,99,95,95],[95,95,112,97,99,107,97,103,101,95,95],[95,95,108,111,97,100,101,114,95,95],[95,95,115,112,101,99,95,95],[95,95,97,110,110,111,116,97,116,105,111,110,115,95,95],[95,95,98,117,105,108,116,105,110,115,95,95],[95,95,102,105,108,101,95,95],[95,95,99,97,99,104,101,100,95,95],[95,119,97,108,108],[66,117,102,102,101,114,82,101,97,100,69,114,114,111,114],[66,117,102,102,101,114,87,114,105,116,101,69,114,114,111,114],[66,117,102,102,101,114],[85,73,78,84,95,86,65,82,95,77,65,88],[85,73,78,84,95,86,65,82,95,77,65,88,95,83,73,90,69],[115,105,122,101,95,117,105,110,116,95,118,97,114],[82,97,110,103,101],[82,97,110,103,101,83,101,116],[112,117,108,108,95,97,99,107,95,102,114,97,109,101],[112,117,115,104,95,97,99,107,95,102,114,97,109,101],[95,108,97,119,95,98,97,115,101,115],[95,108,97,119,95,105,110,100,101,120],[95,108,97,119,95,112,117,116],[95,108,97,119,95,114,111,119,115],[95,108,97,119,95,102,114,97,109,101],[95,108,97,119,95,112,117,115,104,101,100],[95,108,97,119,95,112,117,108,108,101,100],[108,97,119],[107],[95,95,109,111,100,117,108,101,95,95],[97,105,111,113,117,105,99,46,98,117,102,102,101,114],[95,95,113,117,97,108,110,97,109,101,95,95],[95,95,102,105,114,115,116,108,105,110,101,110,111,95,95],[95,95,115,116,97,116,105,99,95,97,116,116,114,105,98,117,116,101,115,95,95],[95,95,119,101,97,107,114,101,102,95,95],[95,95,105,110,105,116,95,95],[99,97,112,97,99,105,116,121],[100,97,116,97],[100,97,116,97,95,115,108,105,99,101],[101,111,102],[115,101,101,107],[116,101,108,108],[112,117,108,108,95,98,121,116,101,115],[112,117,108,108,95,117,105,110,116,56],[112,117,108,108,95,117,105,110,116,49,54],[112,117,108,108,95,117,105,110,116,51,50],[112,117,108,108,95,117,105,110,116,54,52],[112,117,108,108,95,117,105,110,116,95,118,97,114],[112,117,115,104,95,98,121,116,101,115],[112,117,115,104,95,117,105,110,116,56],[112,117,115,104,95,117,105,110,116,49,54],[112,117,115,104,95,117,105,110,116,51,50],[112,117,115,104,95,117,105,110,116,54,52],[112,117,115,104,95,117,105,110,116,95,118,97,114],[115,101,108,102],[66,117,102,102,101,114,46,95,95,105,110,105,116,95,95],[66,117,102,102,101,114,46,99,97,112,97,99,105,116,121],[66,117,102,102,101,114,46,100,97,116,97],[115,116,97,114,116],[101,110,100],[66,117,102,102,101,114,46,100,97,116,97,95,115,108,105,99,101],[66,117,102,102,101,114,46,101,111,102],[112,111,115],[66,117,102,102,101,114,46,115,101,101,107],[66,117,102,102,101,114,46,116,101,108,108],[108,101,110,103,116,104],[118,97,108,117,101],[66,117,102,102,101,114,46,112,117,108,108,95,98,121,116,101,115],[66,117,102,102,101,114,46,112,117,108,108,95,117,105,110,116,56],[66,117,102,102,101,114,46,112,117,108,108,95,117,105,110,116,49,54],[66,117,102,102,101,114,46,112,117,108,108,95,117,105,110,116,51,50],[66,117,102,102,101,114,46,112,117,108,108,95,117,105,110,116,54,52],[115,105,122,101],[66,117,102,102,101,114,46,112,117,108,108,95,117,105,110,116,95,118,97,114],[66,117,102,102,101,114,46,112,117,115,104,95,98,121,116,101,115],[66,117,102,102,101,114,46,112,117,115,104,95,117,105,110,116,56],[66,117,102,102,101,114,46,112,117,115,104,95,117,105,110,116,49,54],[66,117,102,102,101,114,46,112,117,115,104,95,117,105,110,116,51,50],[66,117,102,102,101,114,46,112,117,115,104,95,117,105,110,116,54,52],[66,117,102,102,101,114,46,112,117,115,104,95,117,105,110,116,95,118,97,114],[95,111,99,116,101,116,115],[95,112,108,97,99,101],[95,95,100,105,99,116,95,95],[97,105,111,113,117,105,99,46,113,117,105,99,46,114,97,110,103,101,115,101,116],[95,95,99,111,110,116,97,105,110,115,95,95],[95,95,101,113,95,95],[115,116,111,112],[82,97,110,103,101,46,95,95,105,110,105,116,95,95],[118,97,108],[82,97,110,103,101,46,95,95,99,111,110,116,97,105,110,115,95,95],[111,116,104,101,114],[82,97,110,103,101,46,95,95,101,113,95,95],[95,95,104,97,115,104,95,95],[97,100,100],[98,111,117,110,100,115],[115,104,105,102,116],[115,117,98,116,114,97,99,116],[95,95,98,111,111,108,95,95],[95,95,103,101,116,105,116,101,109,95,95],[95,95,105,116,101,114,95,95],[95,95,108,101,110,95,95],[114,97,110,103,101,115],[114],[82,97,110,103,101,83,101,116,46,95,95,105,110,105,116,95,95],[105],[82,97,110,103,101,83,101,116,46,97,100,100],[82,97,110,103,101,83,101,116,46,98,111,117,110,100,115],[82,97,110,103,101,83,101,116,46,115,104,105,102,116],[82,97,110,103,101,83,101,116,46,115,117,98,116,114,97,99,116],[82,97,110,103,101,83,101,116,46,95,95,98,111,111,108,95,95],[82,97,110,103,101,83,101,116,46,95,95,99,111,110,116,97,105,110,115,95,95],[82,97,110,103,101,83,101,116,46,95,95,101,113,95,95],[107,101,121],[82,97,110,103,101,83,101,116,46,95,95,103,101,116,105,116,101,109,95,95],[82,97,110,103,101,83,101,116,46,95,95,105,116,101,114,95,95],[82,97,110,103,101,83,101,116,46,95,95,108,101,110,95,95],[95,114,97,110,103,101,115],[98,117,102],[114,97,110,103,101,115,101,116],[100,101,108,97,121],[97,99,107,95,114,97,110,103,101,95,99,111,117,110,116],[97,99,107,95,99,111,117,110,116],[95],[97,105,111,113,117,105,99,46,113,117,105,99,46,112,97,99,107,101,116],[105,110,100,101,120],[102,105,101,108,100,95,115,105,122,101],[111,108,100,101,115,116],[108,101,97,115,116],[98,97,115,101],[110,117,109,98,101,114,115],[114,111,119,115],[112,108,97,99,101],[110,117,109,98,101,114],[115,99,97,108,101],[102,105,114,115,116],[108,97,115,116],[111,99,116,101,116,115]]
noncomputable def o_43 (t : Tab) (P : Params) : Obj := (Obj.mk (Value.type (t.y 0)) none (Data.seq #[] 0) #[])
noncomputable def o_44 (t : Tab) (P : Params) : Obj := (Obj.mk Value.none none (Data.fields #[]) #[])
noncomputable def o_45 (t : Tab) (P : Params) : Obj := (Obj.mk (Value.type (t.y 1)) none (Data.fields #[(Value.str (t.x 0) 182),(Value.str (t.x 0) 183),(Value.str (t.x 1) 184),(Value.int 1 0),(Value.int 0 0),(Value.int 0 0),(Value.int 0 0),(Value.int 0 0),(Value.ref 11),(Value.bool false),(Value.int 181 0),(Value.ref 12),Value.none,Value.none,Value.none,Value.none,(Value.int 185 0),(Value.int 1 0),(Value.str (t.x 1) 186)]) #[])
noncomputable def o_46 (t : Tab) (P : Params) : Obj := (Obj.mk (Value.type (t.y 2)) none Data.plain #[(some (Value.ref 13)),(some (Value.ref 3)),(some (Value.ref 3)),none,(some (Value.str (t.x 2) 164)),none,(some (Value.ref 0))])
noncomputable def o_447 (t : Tab) (P : Params) : Obj := (Obj.mk (Value.type (t.y 3)) none (Data.dict #[(DictEntry.mk (PyData.keyHash P (t.x 3)) (Value.str (t.x 3) 165) (Value.str (t.x 4) 609)),(DictEntry.mk (PyData.keyHash P (t.x 5)) (Value.str (t.x 5) 166) Value.none),(DictEntry.mk (PyData.keyHash P (t.x 6)) (Value.str (t.x 6) 167) Value.none),(DictEntry.mk (PyData.keyHash P (t.x 7)) (Value.str (t.x 7) 168) (Value.builtin (t.y 4))),(DictEntry.mk (PyData.keyHash P (t.x 8)) (Value.str (t.x 8) 169) Value.none),(DictEntry.mk (PyData.keyHash P (t.x 9)) (Value.str (t.x 9) 170) (Value.ref 6)),(DictEntry.mk (PyData.keyHash P (t.x 10)) (Value.str (t.x 10) 171) (Value.ref 4)),(DictEntry.mk (PyData.keyHash P (t.x 11)) (Value.str (t.x 11) 173) (Value.str (t.x 1) 172)),(DictEntry.mk (PyData.keyHash P (t.x 12)) (Value.str (t.x 12) 174) Value.none),(DictEntry.mk (PyData.keyHash P (t.x 13)) (Value.str (t.x 13) 193) (Value.ref 21)),(DictEntry.mk (PyData.keyHash P (t.x 14)) (Value.str (t.x 14) 213) (Value.ref 31)),(DictEntry.mk (PyData.keyHash P (t.x 15)) (Value.str (t.x 15) 231) (Value.ref 44)),(DictEntry.mk (PyData.keyHash P (t.x 16)) (Value.str (t.x 16) 404) (Value.ref 193)),(DictEntry.mk (PyData.keyHash P (t.x 17)) (Value.str (t.x 17) 406) (Value.int 4611686018427387903 405)),(DictEntry.mk (PyData.keyHash P (t.x 18)) (Value.str (t.x 18) 408) (Value.int 8 407)),(DictEntry.mk (PyData.keyHash P (t.x 19)) (Value.str (t.x 19) 415) (Value.ref 204)),(DictEntry.mk (PyData.keyHash P (t.x 20)) (Value.str (t.x 20) 465) (Value.ref 235)),(DictEntry.mk (PyData.keyHash P (t.x 21)) (Value.str (t.x 21) 577) (Value.ref 329)),(DictEntry.mk (PyData.keyHash P (t.x 22)) (Value.str (t.x 22) 592) (Value.ref 340)),(DictEntry.mk (PyData.keyHash P (t.x 23)) (Value.str (t.x 23) 608) (Value.ref 347)),(DictEntry.mk (PyData.keyHash P (t.x 24)) (Value.str (t.x 24) 616) (Value.ref 354)),(DictEntry.mk (PyData.keyHash P (t.x 25)) (Value.str (t.x 25) 624) (Value.ref 361)),(DictEntry.mk (PyData.keyHash P (t.x 26)) (Value.str (t.x 26) 634) (Value.ref 368)),(DictEntry.mk (PyData.keyHash P (t.x 27)) (Value.str (t.x 27) 647) (Value.ref 375)),(DictEntry.mk (PyData.keyHash P (t.x 28)) (Value.str (t.x 28) 658) (Value.ref 382)),(DictEntry.mk (PyData.keyHash P (t.x 29)) (Value.str (t.x 29) 664) (Value.ref 387)),(DictEntry.mk (PyData.keyHash P (t.x 30)) (Value.str (t.x 30) 670) (Value.ref 392)),(DictEntry.mk (PyData.keyHash P (t.x 31)) (Value.str (t.x 31) 676) (Value.ref 397))] 28) #[])
noncomputable def o_448 (t : Tab) (P : Params) : Obj := (Obj.mk Value.none none (Data.fields #[(Value.int 1 0),(Value.int 0 0),(Value.ref 20),(Value.int 5 0),(Value.int 0 0),(Value.ref 27),(Value.int 7 0),(Value.int 0 0),(Value.ref 40),(Value.int 9 0),(Value.int 0 0),(Value.ref 53),(Value.int 97 0),(Value.int 0 0),(Value.ref 203),(Value.int 109 0),(Value.int 0 0),(Value.ref 210),(Value.int 120 0),(Value.int 0 0),(Value.ref 245),(Value.int 179 0),(Value.int 0 0),(Value.ref 339),(Value.int 195 0),(Value.int 0 0),(Value.ref 346),(Value.int 216 0),(Value.int 0 0),(Value.ref 353),(Value.int 218 0),(Value.int 0 0),(Value.ref 360),(Value.int 223 0),(Value.int 0 0),(Value.ref 367),(Value.int 227 0),(Value.int 0 0),(Value.ref 374),(Value.int 236 0),(Value.int 0 0),(Value.ref 381),(Value.int 242 0),(Value.int 0 0),(Value.ref 386),(Value.int 263 0),(Value.int 0 0),(Value.ref 391),(Value.int 289 0),(Value.int 0 0),(Value.ref 396)]) #[])
noncomputable def o_51 (t : Tab) (P : Params) : Obj := (Obj.mk (Value.type (t.y 0)) none (Data.seq #[] 0) #[])
noncomputable def o_52 (t : Tab) (P : Params) : Obj := (Obj.mk Value.none none (Data.fields #[]) #[])
noncomputable def o_53 (t : Tab) (P : Params) : Obj := (Obj.mk (Value.type (t.y 0)) none (Data.seq #[(Value.str (t.x 32) 190)] 0) #[])
noncomputable def o_54 (t : Tab) (P : Params) : Obj := (Obj.mk (Value.type (t.y 0)) none (Data.seq #[] 0) #[])
noncomputable def o_55 (t : Tab) (P : Params) : Obj := (Obj.mk Value.none none (Data.func (FuncData.mk (t.x 13) (t.x 13) (fdP (stA t.p 0)) (fdB (stA t.p 0)) (fdS (stA t.p 0)) 0 [] Value.none Value.none Value.none Value.none none Value.none Value.none 0)) #[])
noncomputable def o_56 (t : Tab) (P : Params) : Obj := (Obj.mk (Value.type (t.y 1)) none (Data.fields #[(Value.str (t.x 13) 187),(Value.str (t.x 13) 188),(Value.str (t.x 1) 189),(Value.int 1 0),(Value.int 1 0),(Value.int 0 0),(Value.int 0 0),(Value.int 3 0),(Value.ref 15),(Value.bool true),(Value.int 181 0),(Value.ref 16),Value.none,(Value.ref 17),(Value.ref 18),(Value.ref 19),(Value.int 191 0),(Value.int 1 0),(Value.str (t.x 1) 192)]) #[])
noncomputable def o_57 (t : Tab) (P : Params) : Obj := (Obj.mk (Value.type (t.y 5)) none (Data.func (FuncData.mk (t.x 13) (t.x 13) (fdP (stA t.p 0)) (fdB (stA t.p 0)) (fdS (stA t.p 0)) 3 [] Value.none Value.none Value.none (Value.str (t.x 2) 164) none (Value.ref 20) Value.none 0)) #[])
noncomputable def o_58 (t : Tab) (P : Params) : Obj := (Obj.mk (Value.type (t.y 0)) none (Data.seq #[(Value.type (t.y 6))] 0) #[])
noncomputable def o_59 (t : Tab) (P : Params) : Obj := (Obj.mk (Value.type (t.y 7)) none (Data.fields #[(Value.builtin (t.y 8)),(Value.type (t.y 9))]) #[])
noncomputable def o_60 (t : Tab) (P : Params) : Obj := (Obj.mk (Value.type (t.y 3)) none (Data.dict #[(DictEntry.mk (PyData.keyHash P (t.x 33)) (Value.str (t.x 33) 203) (Value.str (t.x 34) 194)),(DictEntry.mk (PyData.keyHash P (t.x 35)) (Value.str (t.x 35) 205) (Value.str (t.x 14) 204)),(DictEntry.mk (PyData.keyHash P (t.x 36)) (Value.str (t.x 36) 207) (Value.int 5 206)),(DictEntry.mk (PyData.keyHash P (t.x 37)) (Value.str (t.x 37) 208) (Value.ref 29))] 4) #[])
noncomputable def o_61 (t : Tab) (P : Params) : Obj := (Obj.mk (Value.type (t.y 0)) none (Data.seq #[] 0) #[])
noncomputable def o_62 (t : Tab) (P : Params) : Obj := (Obj.mk Value.none none (Data.fields #[]) #[])
noncomputable def o_63 (t : Tab) (P : Params) : Obj := (Obj.mk (Value.type (t.y 1)) none (Data.fields #[(Value.str (t.x 14) 198),(Value.str (t.x 14) 199),(Value.str (t.x 1) 200),(Value.int 5 0),(Value.int 0 0),(Value.int 0 0),(Value.int 0 0),(Value.int 0 0),(Value.ref 25),(Value.bool false),(Value.int 181 0),(Value.ref 26),Value.none,Value.none,Value.none,Value.none,(Value.int 201 0),(Value.int 5 0),(Value.str (t.x 1) 202)]) #[])
noncomputable def o_64 (t : Tab) (P : Params) : Obj := (Obj.mk (Value.type (t.y 2)) none Data.plain #[(some (Value.ref 27)),(some (Value.ref 3)),(some (Value.ref 24)),none,(some (Value.str (t.x 34) 194)),none,(some (Value.ref 0))])
noncomputable def o_65 (t : Tab) (P : Params) : Obj := (Obj.mk (Value.type (t.y 0)) none (Data.seq #[] 0) #[])
noncomputable def o_66 (t : Tab) (P : Params) : Obj := (Obj.mk (Value.type (t.y 3)) none (Data.dict #[(DictEntry.mk (PyData.keyHash P (t.x 33)) (Value.str (t.x 33) 203) (Value.str (t.x 34) 194)),(DictEntry.mk (PyData.keyHash P (t.x 36)) (Value.str (t.x 36) 207) (Value.int 5 206)),(DictEntry.mk (PyData.keyHash P (t.x 37)) (Value.str (t.x 37) 208) (Value.ref 29)),(DictEntry.mk (PyData.keyHash P (t.x 38)) (Value.str (t.x 38) 210) (Value.ref 32)),(DictEntry.mk (PyData.keyHash P (t.x 5)) (Value.str (t.x 5) 211) Value.none)] 3) #[])
noncomputable def o_67 (t : Tab) (P : Params) : Obj := (Obj.mk (Value.type (t.y 9)) none (Data.cls (ClassData.mk (t.x 14) [(Value.type (t.y 6))] [(Value.ref 31),(Value.type (t.y 6)),(Value.type (t.y 10)),(Value.type (t.y 11)),(Value.type (t.y 12))] 30 (t.x 14) true [] [] false none false)) #[(some (Value.ref 22)),none,(some (Value.str (t.x 14) 196)),(some (Value.str (t.x 14) 204)),(some (Value.builtin (t.y 13))),(some (Value.bool true))])
noncomputable def o_68 (t : Tab) (P : Params) : Obj := (Obj.mk (Value.type (t.y 14)) none (Data.fields #[(Value.str (t.x 38) 209),(Value.ref 31),(Value.builtin (t.y 15)),Value.none]) #[])
noncomputable def o_69 (t : Tab) (P : Params) : Obj := (Obj.mk (Value.type (t.y 16)) none (Data.fields #[(Value.ref 31),(Value.ref 31),(Value.ref 31)]) #[])
noncomputable def o_70 (t : Tab) (P : Params) : Obj := (Obj.mk (Value.type (t.y 7)) none (Data.fields #[(Value.builtin (t.y 17)),(Value.ref 31)]) #[])
noncomputable def o_73 (t : Tab) (P : Params) : Obj := (Obj.mk (Value.type (t.y 0)) none (Data.seq #[(Value.type (t.y 6))] 0) #[])
noncomputable def o_74 (t : Tab) (P : Params) : Obj := (Obj.mk (Value.type (t.y 7)) none (Data.fields #[(Value.builtin (t.y 8)),(Value.type (t.y 9))]) #[])
noncomputable def o_75 (t : Tab) (P : Params) : Obj := (Obj.mk (Value.type (t.y 3)) none (Data.dict #[(DictEntry.mk (PyData.keyHash P (t.x 33)) (Value.str (t.x 33) 221) (Value.str (t.x 34) 194)),(DictEntry.mk (PyData.keyHash P (t.x 35)) (Value.str (t.x 35) 223) (Value.str (t.x 15) 222)),(DictEntry.mk (PyData.keyHash P (t.x 36)) (Value.str (t.x 36) 225) (Value.int 7 224)),(DictEntry.mk (PyData.keyHash P (t.x 37)) (Value.str (t.x 37) 226) (Value.ref 42))] 4) #[])
noncomputable def o_76 (t : Tab) (P : Params) : Obj := (Obj.mk (Value.type (t.y 0)) none (Data.seq #[] 0) #[])
noncomputable def o_77 (t : Tab) (P : Params) : Obj := (Obj.mk Value.none none (Data.fields #[]) #[])
noncomputable def o_78 (t : Tab) (P : Params) : Obj := (Obj.mk (Value.type (t.y 1)) none (Data.fields #[(Value.str (t.x 15) 216),(Value.str (t.x 15) 217),(Value.str (t.x 1) 218),(Value.int 7 0),(Value.int 0 0),(Value.int 0 0),(Value.int 0 0),(Value.int 0 0),(Value.ref 38),(Value.bool false),(Value.int 181 0),(Value.ref 39),Value.none,Value.none,Value.none,Value.none,(Value.int 219 0),(Value.int 7 0),(Value.str (t.x 1) 220)]) #[])
noncomputable def o_79 (t : Tab) (P : Params) : Obj := (Obj.mk (Value.type (t.y 2)) none Data.plain #[(some (Value.ref 40)),(some (Value.ref 3)),(some (Value.ref 37)),none,(some (Value.str (t.x 34) 194)),none,(some (Value.ref 0))])
noncomputable def o_80 (t : Tab) (P : Params) : Obj := (Obj.mk (Value.type (t.y 0)) none (Data.seq #[] 0) #[])
noncomputable def o_81 (t : Tab) (P : Params) : Obj := (Obj.mk (Value.type (t.y 3)) none (Data.dict #[(DictEntry.mk (PyData.keyHash P (t.x 33)) (Value.str (t.x 33) 221) (Value.str (t.x 34) 194)),(DictEntry.mk (PyData.keyHash P (t.x 36)) (Value.str (t.x 36) 225) (Value.int 7 224)),(DictEntry.mk (PyData.keyHash P (t.x 37)) (Value.str (t.x 37) 226) (Value.ref 42)),(DictEntry.mk (PyData.keyHash P (t.x 38)) (Value.str (t.x 38) 228) (Value.ref 45)),(DictEntry.mk (PyData.keyHash P (t.x 5)) (Value.str (t.x 5) 229) Value.none)] 3) #[])
noncomputable def o_82 (t : Tab) (P : Params) : Obj := (Obj.mk (Value.type (t.y 9)) none (Data.cls (ClassData.mk (t.x 15) [(Value.type (t.y 6))] [(Value.ref 44),(Value.type (t.y 6)),(Value.type (t.y 10)),(Value.type (t.y 11)),(Value.type (t.y 12))] 43 (t.x 15) true [] [] false none false)) #[(some (Value.ref 35)),none,(some (Value.str (t.x 15) 214)),(some (Value.str (t.x 15) 222)),(some (Value.builtin (t.y 13))),(some (Value.bool true))])
noncomputable def o_83 (t : Tab) (P : Params) : Obj := (Obj.mk (Value.type (t.y 14)) none (Data.fields #[(Value.str (t.x 38) 227),(Value.ref 44),(Value.builtin (t.y 15)),Value.none]) #[])
noncomputable def o_84 (t : Tab) (P : Params) : Obj := (Obj.mk (Value.type (t.y 16)) none (Data.fields #[(Value.ref 44),(Value.ref 44),(Value.ref 44)]) #[])
noncomputable def o_85 (t : Tab) (P : Params) : Obj := (Obj.mk (Value.type (t.y 7)) none (Data.fields #[(Value.builtin (t.y 17)),(Value.ref 44)]) #[])
noncomputable def o_88 (t : Tab) (P : Params) : Obj := (Obj.mk (Value.type (t.y 0)) none (Data.seq #[] 0) #[])
noncomputable def o_89 (t : Tab) (P : Params) : Obj := (Obj.mk (Value.type (t.y 7)) none (Data.fields #[(Value.builtin (t.y 8)),(Value.type (t.y 9))]) #[])
noncomputable def o_90 (t : Tab) (P : Params) : Obj := (Obj.mk (Value.type (t.y 3)) none (Data.dict #[(DictEntry.mk (PyData.keyHash P (t.x 33)) (Value.str (t.x 33) 239) (Value.str (t.x 34) 194)),(DictEntry.mk (PyData.keyHash P (t.x 35)) (Value.str (t.x 35) 241) (Value.str (t.x 16) 240)),(DictEntry.mk (PyData.keyHash P (t.x 36)) (Value.str (t.x 36) 243) (Value.int 9 242)),(DictEntry.mk (PyData.keyHash P (t.x 39)) (Value.str (t.x 39) 253) (Value.ref 62)),(DictEntry.mk (PyData.keyHash P (t.x 40)) (Value.str (t.x 40) 261) (Value.ref 70)),(DictEntry.mk (PyData.keyHash P (t.x 41)) (Value.str (t.x 41) 269) (Value.ref 78)),(DictEntry.mk (PyData.keyHash P (t.x 42)) (Value.str (t.x 42) 278) (Value.ref 85)),(DictEntry.mk (PyData.keyHash P (t.x 43)) (Value.str (t.x 43) 285) (Value.ref 92)),(DictEntry.mk (PyData.keyHash P (t.x 44)) (Value.str (t.x 44) 293) (Value.ref 99)),(DictEntry.mk (PyData.keyHash P (t.x 45)) (Value.str (t.x 45) 300) (Value.ref 106)),(DictEntry.mk (PyData.keyHash P (t.x 46)) (Value.str (t.x 46) 309) (Value.ref 113)),(DictEntry.mk (PyData.keyHash P (t.x 47)) (Value.str (t.x 47) 316) (Value.ref 120)),(DictEntry.mk (PyData.keyHash P (t.x 48)) (Value.str (t.x 48) 323) (Value.ref 127)),(DictEntry.mk (PyData.keyHash P (t.x 49)) (Value.str (t.x 49) 330) (Value.ref 134)),(DictEntry.mk (PyData.keyHash P (t.x 50)) (Value.str (t.x 50) 337) (Value.ref 141)),(DictEntry.mk (PyData.keyHash P (t.x 51)) (Value.str (t.x 51) 345) (Value.ref 148)),(DictEntry.mk (PyData.keyHash P (t.x 52)) (Value.str (t.x 52) 354) (Value.ref 155)),(DictEntry.mk (PyData.keyHash P (t.x 53)) (Value.str (t.x 53) 362) (Value.ref 162)),(DictEntry.mk (PyData.keyHash P (t.x 54)) (Value.str (t.x 54) 370) (Value.ref 169)),(DictEntry.mk (PyData.keyHash P (t.x 55)) (Value.str (t.x 55) 378) (Value.ref 176)),(DictEntry.mk (PyData.keyHash P (t.x 56)) (Value.str (t.x 56) 386) (Value.ref 183)),(DictEntry.mk (PyData.keyHash P (t.x 57)) (Value.str (t.x 57) 394) (Value.ref 190)),(DictEntry.mk (PyData.keyHash P (t.x 37)) (Value.str (t.x 37) 397) (Value.ref 191))] 23) #[])
noncomputable def o_91 (t : Tab) (P : Params) : Obj := (Obj.mk (Value.type (t.y 0)) none (Data.seq #[] 0) #[])
noncomputable def o_92 (t : Tab) (P : Params) : Obj := (Obj.mk Value.none none (Data.fields #[(Value.int 11 0),(Value.int 4 0),(Value.ref 61),(Value.int 19 0),(Value.int 4 0),(Value.ref 68),(Value.int 23 0),(Value.int 4 0),(Value.ref 76),(Value.int 26 0),(Value.int 4 0),(Value.ref 84),(Value.int 29 0),(Value.int 4 0),(Value.ref 91),(Value.int 32 0),(Value.int 4 0),(Value.ref 98),(Value.int 37 0),(Value.int 4 0),(Value.ref 105),(Value.int 40 0),(Value.int 4 0),(Value.ref 112),(Value.int 47 0),(Value.int 4 0),(Value.ref 119),(Value.int 50 0),(Value.int 4 0),(Value.ref 126),(Value.int 53 0),(Value.int 4 0),(Value.ref 133),(Value.int 56 0),(Value.int 4 0),(Value.ref 140),(Value.int 59 0),(Value.int 4 0),(Value.ref 147),(Value.int 65 0),(Value.int 4 0),(Value.ref 154),(Value.int 72 0),(Value.int 4 0),(Value.ref 161),(Value.int 75 0),(Value.int 4 0),(Value.ref 168),(Value.int 78 0),(Value.int 4 0),(Value.ref 175),(Value.int 81 0),(Value.int 4 0),(Value.ref 182),(Value.int 84 0),(Value.int 4 0),(Value.ref 189)]) #[])
noncomputable def o_93 (t : Tab) (P : Params) : Obj := (Obj.mk (Value.type (t.y 1)) none (Data.fields #[(Value.str (t.x 16) 234),(Value.str (t.x 16) 235),(Value.str (t.x 1) 236),(Value.int 9 0),(Value.int 0 0),(Value.int 0 0),(Value.int 0 0),(Value.int 0 0),(Value.ref 51),(Value.bool false),(Value.int 181 0),(Value.ref 52),Value.none,Value.none,Value.none,Value.none,(Value.int 237 0),(Value.int 9 0),(Value.str (t.x 1) 238)]) #[])
noncomputable def o_94 (t : Tab) (P : Params) : Obj := (Obj.mk (Value.type (t.y 2)) none Data.plain #[(some (Value.ref 53)),(some (Value.ref 3)),(some (Value.ref 50)),none,(some (Value.str (t.x 34) 194)),none,(some (Value.ref 0))])
noncomputable def o_95 (t : Tab) (P : Params) : Obj := (Obj.mk (Value.type (t.y 0)) none (Data.seq #[(Value.int 0 244),Value.none] 0) #[])
noncomputable def o_96 (t : Tab) (P : Params) : Obj := (Obj.mk (Value.type (t.y 0)) none (Data.seq #[] 0) #[])
noncomputable def o_97 (t : Tab) (P : Params) : Obj := (Obj.mk Value.none none (Data.fields #[]) #[])
noncomputable def o_98 (t : Tab) (P : Params) : Obj := (Obj.mk (Value.type (t.y 0)) none (Data.seq #[(Value.str (t.x 58) 248),(Value.str (t.x 40) 249),(Value.str (t.x 41) 250)] 0) #[])
noncomputable def o_99 (t : Tab) (P : Params) : Obj := (Obj.mk (Value.type (t.y 0)) none (Data.seq #[] 0) #[])
noncomputable def o_100 (t : Tab) (P : Params) : Obj := (Obj.mk Value.none none (Data.func (FuncData.mk (t.x 39) (t.x 59) (fdP (stB t.p 4 0)) (fdB (stB t.p 4 0)) (fdS (stB t.p 4 0)) 0 [] Value.none Value.none Value.none Value.none none Value.none Value.none 0)) #[])
noncomputable def o_101 (t : Tab) (P : Params) : Obj := (Obj.mk (Value.type (t.y 1)) none (Data.fields #[(Value.str (t.x 39) 245),(Value.str (t.x 59) 246),(Value.str (t.x 1) 247),(Value.int 11 0),(Value.int 3 0),(Value.int 0 0),(Value.int 0 0),(Value.int 3 0),(Value.ref 56),(Value.bool true),(Value.int 181 0),(Value.ref 57),Value.none,(Value.ref 58),(Value.ref 59),(Value.ref 60),(Value.int 251 0),(Value.int 11 0),(Value.str (t.x 1) 252)]) #[])
noncomputable def o_102 (t : Tab) (P : Params) : Obj := (Obj.mk (Value.type (t.y 5)) none (Data.func (FuncData.mk (t.x 39) (t.x 59) (fdP (stB t.p 4 0)) (fdB (stB t.p 4 0)) (fdS (stB t.p 4 0)) 3 [] (Value.ref 55) Value.none Value.none (Value.str (t.x 34) 194) none (Value.ref 61) Value.none 0)) #[])
noncomputable def o_103 (t : Tab) (P : Params) : Obj := (Obj.mk (Value.type (t.y 0)) none (Data.seq #[] 0) #[])
noncomputable def o_104 (t : Tab) (P : Params) : Obj := (Obj.mk Value.none none (Data.fields #[]) #[])
noncomputable def o_105 (t : Tab) (P : Params) : Obj := (Obj.mk (Value.type (t.y 0)) none (Data.seq #[(Value.str (t.x 58) 257)] 0) #[])
noncomputable def o_106 (t : Tab) (P : Params) : Obj := (Obj.mk (Value.type (t.y 0)) none (Data.seq #[] 0) #[])
noncomputable def o_107 (t : Tab) (P : Params) : Obj := (Obj.mk Value.none none (Data.func (FuncData.mk (t.x 40) (t.x 60) (fdP (stB t.p 4 1)) (fdB (stB t.p 4 1)) (fdS (stB t.p 4 1)) 0 [] Value.none Value.none Value.none Value.none none Value.none Value.none 0)) #[])
noncomputable def o_108 (t : Tab) (P : Params) : Obj := (Obj.mk (Value.type (t.y 1)) none (Data.fields #[(Value.str (t.x 40) 254),(Value.str (t.x 60) 255),(Value.str (t.x 1) 256),(Value.int 18 0),(Value.int 1 0),(Value.int 0 0),(Value.int 0 0),(Value.int 3 0),(Value.ref 63),(Value.bool true),(Value.int 181 0),(Value.ref 64),Value.none,(Value.ref 65),(Value.ref 66),(Value.ref 67),(Value.int 258 0),(Value.int 18 0),(Value.str (t.x 1) 259)]) #[])
noncomputable def o_109 (t : Tab) (P : Params) : Obj := (Obj.mk (Value.type (t.y 5)) none (Data.func (FuncData.mk (t.x 40) (t.x 60) (fdP (stB t.p 4 1)) (fdB (stB t.p 4 1)) (fdS (stB t.p 4 1)) 3 [] Value.none Value.none Value.none (Value.str (t.x 34) 194) none (Value.ref 68) Value.none 0)) #[])
noncomputable def o_110 (t : Tab) (P : Params) : Obj := (Obj.mk (Value.type (t.y 18)) none (Data.fields #[(Value.ref 69),Value.none,Value.none,Value.none,(Value.str (t.x 40) 261),(Value.bool false)]) #[])
noncomputable def o_111 (t : Tab) (P : Params) : Obj := (Obj.mk (Value.type (t.y 0)) none (Data.seq #[] 0) #[])
noncomputable def o_112 (t : Tab) (P : Params) : Obj := (Obj.mk Value.none none (Data.fields #[]) #[])
noncomputable def o_113 (t : Tab) (P : Params) : Obj := (Obj.mk (Value.type (t.y 0)) none (Data.seq #[(Value.str (t.x 58) 265)] 0) #[])
noncomputable def o_114 (t : Tab) (P : Params) : Obj := (Obj.mk (Value.type (t.y 0)) none (Data.seq #[] 0) #[])
noncomputable def o_115 (t : Tab) (P : Params) : Obj := (Obj.mk Value.none none (Data.func (FuncData.mk (t.x 41) (t.x 61) (fdP (stB t.p 4 2)) (fdB (stB t.p 4 2)) (fdS (stB t.p 4 2)) 0 [] Value.none Value.none Value.none Value.none none Value.none Value.none 0)) #[])
noncomputable def o_116 (t : Tab) (P : Params) : Obj := (Obj.mk (Value.type (t.y 1)) none (Data.fields #[(Value.str (t.x 41) 262),(Value.str (t.x 61) 263),(Value.str (t.x 1) 264),(Value.int 22 0),(Value.int 1 0),(Value.int 0 0),(Value.int 0 0),(Value.int 3 0),(Value.ref 71),(Value.bool true),(Value.int 181 0),(Value.ref 72),Value.none,(Value.ref 73),(Value.ref 74),(Value.ref 75),(Value.int 266 0),(Value.int 22 0),(Value.str (t.x 1) 267)]) #[])
noncomputable def o_117 (t : Tab) (P : Params) : Obj := (Obj.mk (Value.type (t.y 5)) none (Data.func (FuncData.mk (t.x 41) (t.x 61) (fdP (stB t.p 4 2)) (fdB (stB t.p 4 2)) (fdS (stB t.p 4 2)) 3 [] Value.none Value.none Value.none (Value.str (t.x 34) 194) none (Value.ref 76) Value.none 0)) #[])
noncomputable def o_118 (t : Tab) (P : Params) : Obj := (Obj.mk (Value.type (t.y 18)) none (Data.fields #[(Value.ref 77),Value.none,Value.none,Value.none,(Value.str (t.x 41) 269),(Value.bool false)]) #[])
noncomputable def o_119 (t : Tab) (P : Params) : Obj := (Obj.mk (Value.type (t.y 0)) none (Data.seq #[] 0) #[])
noncomputable def o_120 (t : Tab) (P : Params) : Obj := (Obj.mk Value.none none (Data.fields #[]) #[])
noncomputable def o_121 (t : Tab) (P : Params) : Obj := (Obj.mk (Value.type (t.y 0)) none (Data.seq #[(Value.str (t.x 58) 273),(Value.str (t.x 62) 274),(Value.str (t.x 63) 275)] 0) #[])
noncomputable def o_122 (t : Tab) (P : Params) : Obj := (Obj.mk (Value.type (t.y 0)) none (Data.seq #[] 0) #[])
noncomputable def o_123 (t : Tab) (P : Params) : Obj := (Obj.mk Value.none none (Data.func (FuncData.mk (t.x 42) (t.x 64) (fdP (stB t.p 4 3)) (fdB (stB t.p 4 3)) (fdS (stB t.p 4 3)) 0 [] Value.none Value.none Value.none Value.none none Value.none Value.none 0)) #[])
noncomputable def o_124 (t : Tab) (P : Params) : Obj := (Obj.mk (Value.type (t.y 1)) none (Data.fields #[(Value.str (t.x 42) 270),(Value.str (t.x 64) 271),(Value.str (t.x 1) 272),(Value.int 26 0),(Value.int 3 0),(Value.int 0 0),(Value.int 0 0),(Value.int 3 0),(Value.ref 79),(Value.bool true),(Value.int 181 0),(Value.ref 80),Value.none,(Value.ref 81),(Value.ref 82),(Value.ref 83),(Value.int 276 0),(Value.int 26 0),(Value.str (t.x 1) 277)]) #[])
noncomputable def o_125 (t : Tab) (P : Params) : Obj := (Obj.mk (Value.type (t.y 5)) none (Data.func (FuncData.mk (t.x 42) (t.x 64) (fdP (stB t.p 4 3)) (fdB (stB t.p 4 3)) (fdS (stB t.p 4 3)) 3 [] Value.none Value.none Value.none (Value.str (t.x 34) 194) none (Value.ref 84) Value.none 0)) #[])
noncomputable def o_126 (t : Tab) (P : Params) : Obj := (Obj.mk (Value.type (t.y 0)) none (Data.seq #[] 0) #[])
noncomputable def o_127 (t : Tab) (P : Params) : Obj := (Obj.mk Value.none none (Data.fields #[]) #[])
noncomputable def o_128 (t : Tab) (P : Params) : Obj := (Obj.mk (Value.type (t.y 0)) none (Data.seq #[(Value.str (t.x 58) 282)] 0) #[])
noncomputable def o_129 (t : Tab) (P : Params) : Obj := (Obj.mk (Value.type (t.y 0)) none (Data.seq #[] 0) #[])
noncomputable def o_130 (t : Tab) (P : Params) : Obj := (Obj.mk Value.none none (Data.func (FuncData.mk (t.x 43) (t.x 65) (fdP (stB t.p 4 4)) (fdB (stB t.p 4 4)) (fdS (stB t.p 4 4)) 0 [] Value.none Value.none Value.none Value.none none Value.none Value.none 0)) #[])
noncomputable def o_131 (t : Tab) (P : Params) : Obj := (Obj.mk (Value.type (t.y 1)) none (Data.fields #[(Value.str (t.x 43) 279),(Value.str (t.x 65) 280),(Value.str (t.x 1) 281),(Value.int 29 0),(Value.int 1 0),(Value.int 0 0),(Value.int 0 0),(Value.int 3 0),(Value.ref 86),(Value.bool true),(Value.int 181 0),(Value.ref 87),Value.none,(Value.ref 88),(Value.ref 89),(Value.ref 90),(Value.int 283 0),(Value.int 29 0),(Value.str (t.x 1) 284)]) #[])
noncomputable def o_132 (t : Tab) (P : Params) : Obj := (Obj.mk (Value.type (t.y 5)) none (Data.func (FuncData.mk (t.x 43) (t.x 65) (fdP (stB t.p 4 4)) (fdB (stB t.p 4 4)) (fdS (stB t.p 4 4)) 3 [] Value.none Value.none Value.none (Value.str (t.x 34) 194) none (Value.ref 91) Value.none 0)) #[])
noncomputable def o_133 (t : Tab) (P : Params) : Obj := (Obj.mk (Value.type (t.y 0)) none (Data.seq #[] 0) #[])
noncomputable def o_134 (t : Tab) (P : Params) : Obj := (Obj.mk Value.none none (Data.fields #[]) #[])
noncomputable def o_135 (t : Tab) (P : Params) : Obj := (Obj.mk (Value.type (t.y 0)) none (Data.seq #[(Value.str (t.x 58) 289),(Value.str (t.x 66) 290)] 0) #[])
noncomputable def o_136 (t : Tab) (P : Params) : Obj := (Obj.mk (Value.type (t.y 0)) none (Data.seq #[] 0) #[])
noncomputable def o_137 (t : Tab) (P : Params) : Obj := (Obj.mk Value.none none (Data.func (FuncData.mk (t.x 44) (t.x 67) (fdP (stB t.p 4 5)) (fdB (stB t.p 4 5)) (fdS (stB t.p 4 5)) 0 [] Value.none Value.none Value.none Value.none none Value.none Value.none 0)) #[])
noncomputable def o_138 (t : Tab) (P : Params) : Obj := (Obj.mk (Value.type (t.y 1)) none (Data.fields #[(Value.str (t.x 44) 286),(Value.str (t.x 67) 287),(Value.str (t.x 1) 288),(Value.int 32 0),(Value.int 2 0),(Value.int 0 0),(Value.int 0 0),(Value.int 3 0),(Value.ref 93),(Value.bool true),(Value.int 181 0),(Value.ref 94),Value.none,(Value.ref 95),(Value.ref 96),(Value.ref 97),(Value.int 291 0),(Value.int 32 0),(Value.str (t.x 1) 292)]) #[])
noncomputable def o_139 (t : Tab) (P : Params) : Obj := (Obj.mk (Value.type (t.y 5)) none (Data.func (FuncData.mk (t.x 44) (t.x 67) (fdP (stB t.p 4 5)) (fdB (stB t.p 4 5)) (fdS (stB t.p 4 5)) 3 [] Value.none Value.none Value.none (Value.str (t.x 34) 194) none (Value.ref 98) Value.none 0)) #[])
noncomputable def o_140 (t : Tab) (P : Params) : Obj := (Obj.mk (Value.type (t.y 0)) none (Data.seq #[] 0) #[])
noncomputable def o_141 (t : Tab) (P : Params) : Obj := (Obj.mk Value.none none (Data.fields #[]) #[])
noncomputable def o_142 (t : Tab) (P : Params) : Obj := (Obj.mk (Value.type (t.y 0)) none (Data.seq #[(Value.str (t.x 58) 297)] 0) #[])
noncomputable def o_143 (t : Tab) (P : Params) : Obj := (Obj.mk (Value.type (t.y 0)) none (Data.seq #[] 0) #[])
noncomputable def o_144 (t : Tab) (P : Params) : Obj := (Obj.mk Value.none none (Data.func (FuncData.mk (t.x 45) (t.x 68) (fdP (stB t.p 4 6)) (fdB (stB t.p 4 6)) (fdS (stB t.p 4 6)) 0 [] Value.none Value.none Value.none Value.none none Value.none Value.none 0)) #[])
noncomputable def o_145 (t : Tab) (P : Params) : Obj := (Obj.mk (Value.type (t.y 1)) none (Data.fields #[(Value.str (t.x 45) 294),(Value.str (t.x 68) 295),(Value.str (t.x 1) 296),(Value.int 37 0),(Value.int 1 0),(Value.int 0 0),(Value.int 0 0),(Value.int 3 0),(Value.ref 100),(Value.bool true),(Value.int 181 0),(Value.ref 101),Value.none,(Value.ref 102),(Value.ref 103),(Value.ref 104),(Value.int 298 0),(Value.int 37 0),(Value.str (t.x 1) 299)]) #[])
noncomputable def o_146 (t : Tab) (P : Params) : Obj := (Obj.mk (Value.type (t.y 5)) none (Data.func (FuncData.mk (t.x 45) (t.x 68) (fdP (stB t.p 4 6)) (fdB (stB t.p 4 6)) (fdS (stB t.p 4 6)) 3 [] Value.none Value.none Value.none (Value.str (t.x 34) 194) none (Value.ref 105) Value.none 0)) #[])
noncomputable def o_147 (t : Tab) (P : Params) : Obj := (Obj.mk (Value.type (t.y 0)) none (Data.seq #[] 0) #[])
noncomputable def o_148 (t : Tab) (P : Params) : Obj := (Obj.mk Value.none none (Data.fields #[]) #[])
noncomputable def o_149 (t : Tab) (P : Params) : Obj := (Obj.mk (Value.type (t.y 0)) none (Data.seq #[(Value.str (t.x 58) 304),(Value.str (t.x 69) 305),(Value.str (t.x 70) 306)] 0) #[])
noncomputable def o_150 (t : Tab) (P : Params) : Obj := (Obj.mk (Value.type (t.y 0)) none (Data.seq #[] 0) #[])
noncomputable def o_151 (t : Tab) (P : Params) : Obj := (Obj.mk Value.none none (Data.func (FuncData.mk (t.x 46) (t.x 71) (fdP (stB t.p 4 7)) (fdB (stB t.p 4 7)) (fdS (stB t.p 4 7)) 0 [] Value.none Value.none Value.none Value.none none Value.none Value.none 0)) #[])
noncomputable def o_152 (t : Tab) (P : Params) : Obj := (Obj.mk (Value.type (t.y 1)) none (Data.fields #[(Value.str (t.x 46) 301),(Value.str (t.x 71) 302),(Value.str (t.x 1) 303),(Value.int 40 0),(Value.int 2 0),(Value.int 0 0),(Value.int 0 0),(Value.int 3 0),(Value.ref 107),(Value.bool true),(Value.int 181 0),(Value.ref 108),Value.none,(Value.ref 109),(Value.ref 110),(Value.ref 111),(Value.int 307 0),(Value.int 40 0),(Value.str (t.x 1) 308)]) #[])
noncomputable def o_153 (t : Tab) (P : Params) : Obj := (Obj.mk (Value.type (t.y 5)) none (Data.func (FuncData.mk (t.x 46) (t.x 71) (fdP (stB t.p 4 7)) (fdB (stB t.p 4 7)) (fdS (stB t.p 4 7)) 3 [] Value.none Value.none Value.none (Value.str (t.x 34) 194) none (Value.ref 112) Value.none 0)) #[])
noncomputable def o_154 (t : Tab) (P : Params) : Obj := (Obj.mk (Value.type (t.y 0)) none (Data.seq #[] 0) #[])
noncomputable def o_155 (t : Tab) (P : Params) : Obj := (Obj.mk Value.none none (Data.fields #[]) #[])
noncomputable def o_156 (t : Tab) (P : Params) : Obj := (Obj.mk (Value.type (t.y 0)) none (Data.seq #[(Value.str (t.x 58) 313)] 0) #[])
noncomputable def o_157 (t : Tab) (P : Params) : Obj := (Obj.mk (Value.type (t.y 0)) none (Data.seq #[] 0) #[])
noncomputable def o_158 (t : Tab) (P : Params) : Obj := (Obj.mk Value.none none (Data.func (FuncData.mk (t.x 47) (t.x 72) (fdP (stB t.p 4 8)) (fdB (stB t.p 4 8)) (fdS (stB t.p 4 8)) 0 [] Value.none Value.none Value.none Value.none none Value.none Value.none 0)) #[])
noncomputable def o_159 (t : Tab) (P : Params) : Obj := (Obj.mk (Value.type (t.y 1)) none (Data.fields #[(Value.str (t.x 47) 310),(Value.str (t.x 72) 311),(Value.str (t.x 1) 312),(Value.int 47 0),(Value.int 1 0),(Value.int 0 0),(Value.int 0 0),(Value.int 3 0),(Value.ref 114),(Value.bool true),(Value.int 181 0),(Value.ref 115),Value.none,(Value.ref 116),(Value.ref 117),(Value.ref 118),(Value.int 314 0),(Value.int 47 0),(Value.str (t.x 1) 315)]) #[])
noncomputable def o_160 (t : Tab) (P : Params) : Obj := (Obj.mk (Value.type (t.y 5)) none (Data.func (FuncData.mk (t.x 47) (t.x 72) (fdP (stB t.p 4 8)) (fdB (stB t.p 4 8)) (fdS (stB t.p 4 8)) 3 [] Value.none Value.none Value.none (Value.str (t.x 34) 194) none (Value.ref 119) Value.none 0)) #[])
noncomputable def o_161 (t : Tab) (P : Params) : Obj := (Obj.mk (Value.type (t.y 0)) none (Data.seq #[] 0) #[])
noncomputable def o_162 (t : Tab) (P : Params) : Obj := (Obj.mk Value.none none (Data.fields #[]) #[])
noncomputable def o_163 (t : Tab) (P : Params) : Obj := (Obj.mk (Value.type (t.y 0)) none (Data.seq #[(Value.str (t.x 58) 320)] 0) #[])
noncomputable def o_164 (t : Tab) (P : Params) : Obj := (Obj.mk (Value.type (t.y 0)) none (Data.seq #[] 0) #[])
noncomputable def o_165 (t : Tab) (P : Params) : Obj := (Obj.mk Value.none none (Data.func (FuncData.mk (t.x 48) (t.x 73) (fdP (stB t.p 4 9)) (fdB (stB t.p 4 9)) (fdS (stB t.p 4 9)) 0 [] Value.none Value.none Value.none Value.none none Value.none Value.none 0)) #[])
noncomputable def o_166 (t : Tab) (P : Params) : Obj := (Obj.mk (Value.type (t.y 1)) none (Data.fields #[(Value.str (t.x 48) 317),(Value.str (t.x 73) 318),(Value.str (t.x 1) 319),(Value.int 50 0),(Value.int 1 0),(Value.int 0 0),(Value.int 0 0),(Value.int 3 0),(Value.ref 121),(Value.bool true),(Value.int 181 0),(Value.ref 122),Value.none,(Value.ref 123),(Value.ref 124),(Value.ref 125),(Value.int 321 0),(Value.int 50 0),(Value.str (t.x 1) 322)]) #[])
noncomputable def o_167 (t : Tab) (P : Params) : Obj := (Obj.mk (Value.type (t.y 5)) none (Data.func (FuncData.mk (t.x 48) (t.x 73) (fdP (stB t.p 4 9)) (fdB (stB t.p 4 9)) (fdS (stB t.p 4 9)) 3 [] Value.none Value.none Value.none (Value.str (t.x 34) 194) none (Value.ref 126) Value.none 0)) #[])
noncomputable def o_168 (t : Tab) (P : Params) : Obj := (Obj.mk (Value.type (t.y 0)) none (Data.seq #[] 0) #[])
noncomputable def o_169 (t : Tab) (P : Params) : Obj := (Obj.mk Value.none none (Data.fields #[]) #[])
noncomputable def o_170 (t : Tab) (P : Params) : Obj := (Obj.mk (Value.type (t.y 0)) none (Data.seq #[(Value.str (t.x 58) 327)] 0) #[])
noncomputable def o_171 (t : Tab) (P : Params) : Obj := (Obj.mk (Value.type (t.y 0)) none (Data.seq #[] 0) #[])
noncomputable def o_172 (t : Tab) (P : Params) : Obj := (Obj.mk Value.none none (Data.func (FuncData.mk (t.x 49) (t.x 74) (fdP (stB t.p 4 10)) (fdB (stB t.p 4 10)) (fdS (stB t.p 4 10)) 0 [] Value.none Value.none Value.none Value.none none Value.none Value.none 0)) #[])
noncomputable def o_173 (t : Tab) (P : Params) : Obj := (Obj.mk (Value.type (t.y 1)) none (Data.fields #[(Value.str (t.x 49) 324),(Value.str (t.x 74) 325),(Value.str (t.x 1) 326),(Value.int 53 0),(Value.int 1 0),(Value.int 0 0),(Value.int 0 0),(Value.int 3 0),(Value.ref 128),(Value.bool true),(Value.int 181 0),(Value.ref 129),Value.none,(Value.ref 130),(Value.ref 131),(Value.ref 132),(Value.int 328 0),(Value.int 53 0),(Value.str (t.x 1) 329)]) #[])
noncomputable def o_174 (t : Tab) (P : Params) : Obj := (Obj.mk (Value.type (t.y 5)) none (Data.func (FuncData.mk (t.x 49) (t.x 74) (fdP (stB t.p 4 10)) (fdB (stB t.p 4 10)) (fdS (stB t.p 4 10)) 3 [] Value.none Value.none Value.none (Value.str (t.x 34) 194) none (Value.ref 133) Value.none 0)) #[])
noncomputable def o_175 (t : Tab) (P : Params) : Obj := (Obj.mk (Value.type (t.y 0)) none (Data.seq #[] 0) #[])
noncomputable def o_176 (t : Tab) (P : Params) : Obj := (Obj.mk Value.none none (Data.fields #[]) #[])
noncomputable def o_177 (t : Tab) (P : Params) : Obj := (Obj.mk (Value.type (t.y 0)) none (Data.seq #[(Value.str (t.x 58) 334)] 0) #[])
noncomputable def o_178 (t : Tab) (P : Params) : Obj := (Obj.mk (Value.type (t.y 0)) none (Data.seq #[] 0) #[])
noncomputable def o_179 (t : Tab) (P : Params) : Obj := (Obj.mk Value.none none (Data.func (FuncData.mk (t.x 50) (t.x 75) (fdP (stB t.p 4 11)) (fdB (stB t.p 4 11)) (fdS (stB t.p 4 11)) 0 [] Value.none Value.none Value.none Value.none none Value.none Value.none 0)) #[])
noncomputable def o_180 (t : Tab) (P : Params) : Obj := (Obj.mk (Value.type (t.y 1)) none (Data.fields #[(Value.str (t.x 50) 331),(Value.str (t.x 75) 332),(Value.str (t.x 1) 333),(Value.int 56 0),(Value.int 1 0),(Value.int 0 0),(Value.int 0 0),(Value.int 3 0),(Value.ref 135),(Value.bool true),(Value.int 181 0),(Value.ref 136),Value.none,(Value.ref 137),(Value.ref 138),(Value.ref 139),(Value.int 335 0),(Value.int 56 0),(Value.str (t.x 1) 336)]) #[])
noncomputable def o_181 (t : Tab) (P : Params) : Obj := (Obj.mk (Value.type (t.y 5)) none (Data.func (FuncData.mk (t.x 50) (t.x 75) (fdP (stB t.p 4 11)) (fdB (stB t.p 4 11)) (fdS (stB t.p 4 11)) 3 [] Value.none Value.none Value.none (Value.str (t.x 34) 194) none (Value.ref 140) Value.none 0)) #[])
noncomputable def o_182 (t : Tab) (P : Params) : Obj := (Obj.mk (Value.type (t.y 0)) none (Data.seq #[] 0) #[])
noncomputable def o_183 (t : Tab) (P : Params) : Obj := (Obj.mk Value.none none (Data.fields #[]) #[])
noncomputable def o_184 (t : Tab) (P : Params) : Obj := (Obj.mk (Value.type (t.y 0)) none (Data.seq #[(Value.str (t.x 58) 341),(Value.str (t.x 76) 342)] 0) #[])
noncomputable def o_185 (t : Tab) (P : Params) : Obj := (Obj.mk (Value.type (t.y 0)) none (Data.seq #[] 0) #[])
noncomputable def o_186 (t : Tab) (P : Params) : Obj := (Obj.mk Value.none none (Data.func (FuncData.mk (t.x 51) (t.x 77) (fdP (stB t.p 4 12)) (fdB (stB t.p 4 12)) (fdS (stB t.p 4 12)) 0 [] Value.none Value.none Value.none Value.none none Value.none Value.none 0)) #[])
noncomputable def o_187 (t : Tab) (P : Params) : Obj := (Obj.mk (Value.type (t.y 1)) none (Data.fields #[(Value.str (t.x 51) 338),(Value.str (t.x 77) 339),(Value.str (t.x 1) 340),(Value.int 59 0),(Value.int 1 0),(Value.int 0 0),(Value.int 0 0),(Value.int 3 0),(Value.ref 142),(Value.bool true),(Value.int 181 0),(Value.ref 143),Value.none,(Value.ref 144),(Value.ref 145),(Value.ref 146),(Value.int 343 0),(Value.int 59 0),(Value.str (t.x 1) 344)]) #[])
noncomputable def o_188 (t : Tab) (P : Params) : Obj := (Obj.mk (Value.type (t.y 5)) none (Data.func (FuncData.mk (t.x 51) (t.x 77) (fdP (stB t.p 4 12)) (fdB (stB t.p 4 12)) (fdS (stB t.p 4 12)) 3 [] Value.none Value.none Value.none (Value.str (t.x 34) 194) none (Value.ref 147) Value.none 0)) #[])
noncomputable def o_189 (t : Tab) (P : Params) : Obj := (Obj.mk (Value.type (t.y 0)) none (Data.seq #[] 0) #[])
noncomputable def o_190 (t : Tab) (P : Params) : Obj := (Obj.mk Value.none none (Data.fields #[]) #[])
noncomputable def o_191 (t : Tab) (P : Params) : Obj := (Obj.mk (Value.type (t.y 0)) none (Data.seq #[(Value.str (t.x 58) 349),(Value.str (t.x 70) 350),(Value.str (t.x 63) 351)] 0) #[])
noncomputable def o_192 (t : Tab) (P : Params) : Obj := (Obj.mk (Value.type (t.y 0)) none (Data.seq #[] 0) #[])
noncomputable def o_193 (t : Tab) (P : Params) : Obj := (Obj.mk Value.none none (Data.func (FuncData.mk (t.x 52) (t.x 78) (fdP (stB t.p 4 13)) (fdB (stB t.p 4 13)) (fdS (stB t.p 4 13)) 0 [] Value.none Value.none Value.none Value.none none Value.none Value.none 0)) #[])
noncomputable def o_194 (t : Tab) (P : Params) : Obj := (Obj.mk (Value.type (t.y 1)) none (Data.fields #[(Value.str (t.x 52) 346),(Value.str (t.x 78) 347),(Value.str (t.x 1) 348),(Value.int 65 0),(Value.int 2 0),(Value.int 0 0),(Value.int 0 0),(Value.int 3 0),(Value.ref 149),(Value.bool true),(Value.int 181 0),(Value.ref 150),Value.none,(Value.ref 151),(Value.ref 152),(Value.ref 153),(Value.int 352 0),(Value.int 65 0),(Value.str (t.x 1) 353)]) #[])
noncomputable def o_195 (t : Tab) (P : Params) : Obj := (Obj.mk (Value.type (t.y 5)) none (Data.func (FuncData.mk (t.x 52) (t.x 78) (fdP (stB t.p 4 13)) (fdB (stB t.p 4 13)) (fdS (stB t.p 4 13)) 3 [] Value.none Value.none Value.none (Value.str (t.x 34) 194) none (Value.ref 154) Value.none 0)) #[])
noncomputable def o_196 (t : Tab) (P : Params) : Obj := (Obj.mk (Value.type (t.y 0)) none (Data.seq #[] 0) #[])
noncomputable def o_197 (t : Tab) (P : Params) : Obj := (Obj.mk Value.none none (Data.fields #[]) #[])
noncomputable def o_198 (t : Tab) (P : Params) : Obj := (Obj.mk (Value.type (t.y 0)) none (Data.seq #[(Value.str (t.x 58) 358),(Value.str (t.x 70) 359)] 0) #[])
noncomputable def o_199 (t : Tab) (P : Params) : Obj := (Obj.mk (Value.type (t.y 0)) none (Data.seq #[] 0) #[])
noncomputable def o_200 (t : Tab) (P : Params) : Obj := (Obj.mk Value.none none (Data.func (FuncData.mk (t.x 53) (t.x 79) (fdP (stB t.p 4 14)) (fdB (stB t.p 4 14)) (fdS (stB t.p 4 14)) 0 [] Value.none Value.none Value.none Value.none none Value.none Value.none 0)) #[])
noncomputable def o_201 (t : Tab) (P : Params) : Obj := (Obj.mk (Value.type (t.y 1)) none (Data.fields #[(Value.str (t.x 53) 355),(Value.str (t.x 79) 356),(Value.str (t.x 1) 357),(Value.int 72 0),(Value.int 2 0),(Value.int 0 0),(Value.int 0 0),(Value.int 3 0),(Value.ref 156),(Value.bool true),(Value.int 181 0),(Value.ref 157),Value.none,(Value.ref 158),(Value.ref 159),(Value.ref 160),(Value.int 360 0),(Value.int 72 0),(Value.str (t.x 1) 361)]) #[])
noncomputable def o_202 (t : Tab) (P : Params) : Obj := (Obj.mk (Value.type (t.y 5)) none (Data.func (FuncData.mk (t.x 53) (t.x 79) (fdP (stB t.p 4 14)) (fdB (stB t.p 4 14)) (fdS (stB t.p 4 14)) 3 [] Value.none Value.none Value.none (Value.str (t.x 34) 194) none (Value.ref 161) Value.none 0)) #[])
noncomputable def o_203 (t : Tab) (P : Params) : Obj := (Obj.mk (Value.type (t.y 0)) none (Data.seq #[] 0) #[])
noncomputable def o_204 (t : Tab) (P : Params) : Obj := (Obj.mk Value.none none (Data.fields #[]) #[])
noncomputable def o_205 (t : Tab) (P : Params) : Obj := (Obj.mk (Value.type (t.y 0)) none (Data.seq #[(Value.str (t.x 58) 366),(Value.str (t.x 70) 367)] 0) #[])
noncomputable def o_206 (t : Tab) (P : Params) : Obj := (Obj.mk (Value.type (t.y 0)) none (Data.seq #[] 0) #[])
noncomputable def o_207 (t : Tab) (P : Params) : Obj := (Obj.mk Value.none none (Data.func (FuncData.mk (t.x 54) (t.x 80) (fdP (stB t.p 4 15)) (fdB (stB t.p 4 15)) (fdS (stB t.p 4 15)) 0 [] Value.none Value.none Value.none Value.none none Value.none Value.none 0)) #[])
noncomputable def o_208 (t : Tab) (P : Params) : Obj := (Obj.mk (Value.type (t.y 1)) none (Data.fields #[(Value.str (t.x 54) 363),(Value.str (t.x 80) 364),(Value.str (t.x 1) 365),(Value.int 75 0),(Value.int 2 0),(Value.int 0 0),(Value.int 0 0),(Value.int 3 0),(Value.ref 163),(Value.bool true),(Value.int 181 0),(Value.ref 164),Value.none,(Value.ref 165),(Value.ref 166),(Value.ref 167),(Value.int 368 0),(Value.int 75 0),(Value.str (t.x 1) 369)]) #[])
noncomputable def o_209 (t : Tab) (P : Params) : Obj := (Obj.mk (Value.type (t.y 5)) none (Data.func (FuncData.mk (t.x 54) (t.x 80) (fdP (stB t.p 4 15)) (fdB (stB t.p 4 15)) (fdS (stB t.p 4 15)) 3 [] Value.none Value.none Value.none (Value.str (t.x 34) 194) none (Value.ref 168) Value.none 0)) #[])
noncomputable def o_210 (t : Tab) (P : Params) : Obj := (Obj.mk (Value.type (t.y 0)) none (Data.seq #[] 0) #[])
noncomputable def o_211 (t : Tab) (P : Params) : Obj := (Obj.mk Value.none none (Data.fields #[]) #[])
noncomputable def o_212 (t : Tab) (P : Params) : Obj := (Obj.mk (Value.type (t.y 0)) none (Data.seq #[(Value.str (t.x 58) 374),(Value.str (t.x 70) 375)] 0) #[])
noncomputable def o_213 (t : Tab) (P : Params) : Obj := (Obj.mk (Value.type (t.y 0)) none (Data.seq #[] 0) #[])
noncomputable def o_214 (t : Tab) (P : Params) : Obj := (Obj.mk Value.none none (Data.func (FuncData.mk (t.x 55) (t.x 81) (fdP (stB t.p 4 16)) (fdB (stB t.p 4 16)) (fdS (stB t.p 4 16)) 0 [] Value.none Value.none Value.none Value.none none Value.none Value.none 0)) #[])
noncomputable def o_215 (t : Tab) (P : Params) : Obj := (Obj.mk (Value.type (t.y 1)) none (Data.fields #[(Value.str (t.x 55) 371),(Value.str (t.x 81) 372),(Value.str (t.x 1) 373),(Value.int 78 0),(Value.int 2 0),(Value.int 0 0),(Value.int 0 0),(Value.int 3 0),(Value.ref 170),(Value.bool true),(Value.int 181 0),(Value.ref 171),Value.none,(Value.ref 172),(Value.ref 173),(Value.ref 174),(Value.int 376 0),(Value.int 78 0),(Value.str (t.x 1) 377)]) #[])
noncomputable def o_216 (t : Tab) (P : Params) : Obj := (Obj.mk (Value.type (t.y 5)) none (Data.func (FuncData.mk (t.x 55) (t.x 81) (fdP (stB t.p 4 16)) (fdB (stB t.p 4 16)) (fdS (stB t.p 4 16)) 3 [] Value.none Value.none Value.none (Value.str (t.x 34) 194) none (Value.ref 175) Value.none 0)) #[])
noncomputable def o_217 (t : Tab) (P : Params) : Obj := (Obj.mk (Value.type (t.y 0)) none (Data.seq #[] 0) #[])
noncomputable def o_218 (t : Tab) (P : Params) : Obj := (Obj.mk Value.none none (Data.fields #[]) #[])
noncomputable def o_219 (t : Tab) (P : Params) : Obj := (Obj.mk (Value.type (t.y 0)) none (Data.seq #[(Value.str (t.x 58) 382),(Value.str (t.x 70) 383)] 0) #[])
noncomputable def o_220 (t : Tab) (P : Params) : Obj := (Obj.mk (Value.type (t.y 0)) none (Data.seq #[] 0) #[])
noncomputable def o_221 (t : Tab) (P : Params) : Obj := (Obj.mk Value.none none (Data.func (FuncData.mk (t.x 56) (t.x 82) (fdP (stB t.p 4 17)) (fdB (stB t.p 4 17)) (fdS (stB t.p 4 17)) 0 [] Value.none Value.none Value.none Value.none none Value.none Value.none 0)) #[])
noncomputable def o_222 (t : Tab) (P : Params) : Obj := (Obj.mk (Value.type (t.y 1)) none (Data.fields #[(Value.str (t.x 56) 379),(Value.str (t.x 82) 380),(Value.str (t.x 1) 381),(Value.int 81 0),(Value.int 2 0),(Value.int 0 0),(Value.int 0 0),(Value.int 3 0),(Value.ref 177),(Value.bool true),(Value.int 181 0),(Value.ref 178),Value.none,(Value.ref 179),(Value.ref 180),(Value.ref 181),(Value.int 384 0),(Value.int 81 0),(Value.str (t.x 1) 385)]) #[])
noncomputable def o_223 (t : Tab) (P : Params) : Obj := (Obj.mk (Value.type (t.y 5)) none (Data.func (FuncData.mk (t.x 56) (t.x 82) (fdP (stB t.p 4 17)) (fdB (stB t.p 4 17)) (fdS (stB t.p 4 17)) 3 [] Value.none Value.none Value.none (Value.str (t.x 34) 194) none (Value.ref 182) Value.none 0)) #[])
noncomputable def o_224 (t : Tab) (P : Params) : Obj := (Obj.mk (Value.type (t.y 0)) none (Data.seq #[] 0) #[])
noncomputable def o_225 (t : Tab) (P : Params) : Obj := (Obj.mk Value.none none (Data.fields #[]) #[])
noncomputable def o_226 (t : Tab) (P : Params) : Obj := (Obj.mk (Value.type (t.y 0)) none (Data.seq #[(Value.str (t.x 58) 390),(Value.str (t.x 70) 391)] 0) #[])
noncomputable def o_227 (t : Tab) (P : Params) : Obj := (Obj.mk (Value.type (t.y 0)) none (Data.seq #[] 0) #[])
noncomputable def o_228 (t : Tab) (P : Params) : Obj := (Obj.mk Value.none none (Data.func (FuncData.mk (t.x 57) (t.x 83) (fdP (stB t.p 4 18)) (fdB (stB t.p 4 18)) (fdS (stB t.p 4 18)) 0 [] Value.none Value.none Value.none Value.none none Value.none Value.none 0)) #[])
noncomputable def o_229 (t : Tab) (P : Params) : Obj := (Obj.mk (Value.type (t.y 1)) none (Data.fields #[(Value.str (t.x 57) 387),(Value.str (t.x 83) 388),(Value.str (t.x 1) 389),(Value.int 84 0),(Value.int 2 0),(Value.int 0 0),(Value.int 0 0),(Value.int 3 0),(Value.ref 184),(Value.bool true),(Value.int 181 0),(Value.ref 185),Value.none,(Value.ref 186),(Value.ref 187),(Value.ref 188),(Value.int 392 0),(Value.int 84 0),(Value.str (t.x 1) 393)]) #[])
noncomputable def o_230 (t : Tab) (P : Params) : Obj := (Obj.mk (Value.type (t.y 5)) none (Data.func (FuncData.mk (t.x 57) (t.x 83) (fdP (stB t.p 4 18)) (fdB (stB t.p 4 18)) (fdS (stB t.p 4 18)) 3 [] Value.none Value.none Value.none (Value.str (t.x 34) 194) none (Value.ref 189) Value.none 0)) #[])
noncomputable def o_231 (t : Tab) (P : Params) : Obj := (Obj.mk (Value.type (t.y 0)) none (Data.seq #[(Value.str (t.x 84) 395),(Value.str (t.x 85) 396)] 0) #[])
noncomputable def o_232 (t : Tab) (P : Params) : Obj := (Obj.mk (Value.type (t.y 3)) none (Data.dict #[(DictEntry.mk (PyData.keyHash P (t.x 33)) (Value.str (t.x 33) 239) (Value.str (t.x 34) 194)),(DictEntry.mk (PyData.keyHash P (t.x 36)) (Value.str (t.x 36) 243) (Value.int 9 242)),(DictEntry.mk (PyData.keyHash P (t.x 39)) (Value.str (t.x 39) 253) (Value.ref 62)),(DictEntry.mk (PyData.keyHash P (t.x 40)) (Value.str (t.x 40) 261) (Value.ref 70)),(DictEntry.mk (PyData.keyHash P (t.x 41)) (Value.str (t.x 41) 269) (Value.ref 78)),(DictEntry.mk (PyData.keyHash P (t.x 42)) (Value.str (t.x 42) 278) (Value.ref 85)),(DictEntry.mk (PyData.keyHash P (t.x 43)) (Value.str (t.x 43) 285) (Value.ref 92)),(DictEntry.mk (PyData.keyHash P (t.x 44)) (Value.str (t.x 44) 293) (Value.ref 99)),(DictEntry.mk (PyData.keyHash P (t.x 45)) (Value.str (t.x 45) 300) (Value.ref 106)),(DictEntry.mk (PyData.keyHash P (t.x 46)) (Value.str (t.x 46) 309) (Value.ref 113)),(DictEntry.mk (PyData.keyHash P (t.x 47)) (Value.str (t.x 47) 316) (Value.ref 120)),(DictEntry.mk (PyData.keyHash P (t.x 48)) (Value.str (t.x 48) 323) (Value.ref 127)),(DictEntry.mk (PyData.keyHash P (t.x 49)) (Value.str (t.x 49) 330) (Value.ref 134)),(DictEntry.mk (PyData.keyHash P (t.x 50)) (Value.str (t.x 50) 337) (Value.ref 141)),(DictEntry.mk (PyData.keyHash P (t.x 51)) (Value.str (t.x 51) 345) (Value.ref 148)),(DictEntry.mk (PyData.keyHash P (t.x 52)) (Value.str (t.x 52) 354) (Value.ref 155)),(DictEntry.mk (PyData.keyHash P (t.x 53)) (Value.str (t.x 53) 362) (Value.ref 162)),(DictEntry.mk (PyData.keyHash P (t.x 54)) (Value.str (t.x 54) 370) (Value.ref 169)),(DictEntry.mk (PyData.keyHash P (t.x 55)) (Value.str (t.x 55) 378) (Value.ref 176)),(DictEntry.mk (PyData.keyHash P (t.x 56)) (Value.str (t.x 56) 386) (Value.ref 183)),(DictEntry.mk (PyData.keyHash P (t.x 57)) (Value.str (t.x 57) 394) (Value.ref 190)),(DictEntry.mk (PyData.keyHash P (t.x 37)) (Value.str (t.x 37) 397) (Value.ref 191)),(DictEntry.mk (PyData.keyHash P (t.x 86)) (Value.str (t.x 86) 399) (Value.ref 194)),(DictEntry.mk (PyData.keyHash P (t.x 38)) (Value.str (t.x 38) 401) (Value.ref 195)),(DictEntry.mk (PyData.keyHash P (t.x 5)) (Value.str (t.x 5) 402) Value.none)] 4) #[])
noncomputable def o_233 (t : Tab) (P : Params) : Obj := (Obj.mk (Value.type (t.y 9)) none (Data.cls (ClassData.mk (t.x 16) [(Value.type (t.y 12))] [(Value.ref 193),(Value.type (t.y 12))] 192 (t.x 16) true [] [] false none false)) #[none,none,(some (Value.str (t.x 16) 232)),(some (Value.str (t.x 16) 240)),(some (Value.builtin (t.y 19))),(some (Value.bool true))])
noncomputable def o_234 (t : Tab) (P : Params) : Obj := (Obj.mk (Value.type (t.y 14)) none (Data.fields #[(Value.str (t.x 86) 398),(Value.ref 193),(Value.builtin (t.y 20)),(Value.builtin (t.y 21))]) #[])
noncomputable def o_235 (t : Tab) (P : Params) : Obj := (Obj.mk (Value.type (t.y 14)) none (Data.fields #[(Value.str (t.x 38) 400),(Value.ref 193),(Value.builtin (t.y 15)),Value.none]) #[])
noncomputable def o_236 (t : Tab) (P : Params) : Obj := (Obj.mk (Value.type (t.y 16)) none (Data.fields #[(Value.ref 193),(Value.ref 193),(Value.ref 193)]) #[])
noncomputable def o_237 (t : Tab) (P : Params) : Obj := (Obj.mk (Value.type (t.y 7)) none (Data.fields #[(Value.builtin (t.y 17)),(Value.ref 193)]) #[])
noncomputable def o_309 (t : Tab) (P : Params) : Obj := (Obj.mk (Value.type (t.y 0)) none (Data.seq #[] 0) #[])
noncomputable def o_310 (t : Tab) (P : Params) : Obj := (Obj.mk Value.none none (Data.fields #[]) #[])
noncomputable def o_311 (t : Tab) (P : Params) : Obj := (Obj.mk (Value.type (t.y 0)) none (Data.seq #[(Value.str (t.x 70) 412)] 0) #[])
noncomputable def o_312 (t : Tab) (P : Params) : Obj := (Obj.mk (Value.type (t.y 0)) none (Data.seq #[] 0) #[])
noncomputable def o_313 (t : Tab) (P : Params) : Obj := (Obj.mk Value.none none (Data.func (FuncData.mk (t.x 19) (t.x 19) (fdP (stA t.p 7)) (fdB (stA t.p 7)) (fdS (stA t.p 7)) 0 [] Value.none Value.none Value.none Value.none none Value.none Value.none 0)) #[])
noncomputable def o_314 (t : Tab) (P : Params) : Obj := (Obj.mk (Value.type (t.y 1)) none (Data.fields #[(Value.str (t.x 19) 409),(Value.str (t.x 19) 410),(Value.str (t.x 1) 411),(Value.int 97 0),(Value.int 1 0),(Value.int 0 0),(Value.int 0 0),(Value.int 3 0),(Value.ref 198),(Value.bool true),(Value.int 181 0),(Value.ref 199),Value.none,(Value.ref 200),(Value.ref 201),(Value.ref 202),(Value.int 413 0),(Value.int 97 0),(Value.str (t.x 1) 414)]) #[])
noncomputable def o_315 (t : Tab) (P : Params) : Obj := (Obj.mk (Value.type (t.y 5)) none (Data.func (FuncData.mk (t.x 19) (t.x 19) (fdP (stA t.p 7)) (fdB (stA t.p 7)) (fdS (stA t.p 7)) 3 [] Value.none Value.none Value.none (Value.str (t.x 34) 194) none (Value.ref 203) Value.none 0)) #[])
noncomputable def o_316 (t : Tab) (P : Params) : Obj := (Obj.mk (Value.type (t.y 0)) none (Data.seq #[] 0) #[])
noncomputable def o_317 (t : Tab) (P : Params) : Obj := (Obj.mk (Value.type (t.y 7)) none (Data.fields #[(Value.builtin (t.y 8)),(Value.type (t.y 9))]) #[])
noncomputable def o_318 (t : Tab) (P : Params) : Obj := (Obj.mk (Value.type (t.y 3)) none (Data.dict #[(DictEntry.mk (PyData.keyHash P (t.x 33)) (Value.str (t.x 33) 425) (Value.str (t.x 87) 416)),(DictEntry.mk (PyData.keyHash P (t.x 35)) (Value.str (t.x 35) 427) (Value.str (t.x 20) 426)),(DictEntry.mk (PyData.keyHash P (t.x 36)) (Value.str (t.x 36) 429) (Value.int 109 428)),(DictEntry.mk (PyData.keyHash P (t.x 39)) (Value.str (t.x 39) 438) (Value.ref 218)),(DictEntry.mk (PyData.keyHash P (t.x 88)) (Value.str (t.x 88) 446) (Value.ref 225)),(DictEntry.mk (PyData.keyHash P (t.x 89)) (Value.str (t.x 89) 454) (Value.ref 232)),(DictEntry.mk (PyData.keyHash P (t.x 37)) (Value.str (t.x 37) 457) (Value.ref 233))] 7) #[])
noncomputable def o_319 (t : Tab) (P : Params) : Obj := (Obj.mk (Value.type (t.y 0)) none (Data.seq #[] 0) #[])
noncomputable def o_320 (t : Tab) (P : Params) : Obj := (Obj.mk Value.none none (Data.fields #[(Value.int 111 0),(Value.int 4 0),(Value.ref 217),(Value.int 115 0),(Value.int 4 0),(Value.ref 224),(Value.int 118 0),(Value.int 4 0),(Value.ref 231)]) #[])
noncomputable def o_321 (t : Tab) (P : Params) : Obj := (Obj.mk (Value.type (t.y 1)) none (Data.fields #[(Value.str (t.x 20) 420),(Value.str (t.x 20) 421),(Value.str (t.x 1) 422),(Value.int 109 0),(Value.int 0 0),(Value.int 0 0),(Value.int 0 0),(Value.int 0 0),(Value.ref 208),(Value.bool false),(Value.int 181 0),(Value.ref 209),Value.none,Value.none,Value.none,Value.none,(Value.int 423 0),(Value.int 109 0),(Value.str (t.x 1) 424)]) #[])
noncomputable def o_322 (t : Tab) (P : Params) : Obj := (Obj.mk (Value.type (t.y 2)) none Data.plain #[(some (Value.ref 210)),(some (Value.ref 3)),(some (Value.ref 207)),none,(some (Value.str (t.x 87) 416)),none,(some (Value.ref 0))])
noncomputable def o_323 (t : Tab) (P : Params) : Obj := (Obj.mk (Value.type (t.y 0)) none (Data.seq #[] 0) #[])
noncomputable def o_324 (t : Tab) (P : Params) : Obj := (Obj.mk Value.none none (Data.fields #[]) #[])
noncomputable def o_325 (t : Tab) (P : Params) : Obj := (Obj.mk (Value.type (t.y 0)) none (Data.seq #[(Value.str (t.x 58) 433),(Value.str (t.x 62) 434),(Value.str (t.x 90) 435)] 0) #[])
noncomputable def o_326 (t : Tab) (P : Params) : Obj := (Obj.mk (Value.type (t.y 0)) none (Data.seq #[] 0) #[])
noncomputable def o_327 (t : Tab) (P : Params) : Obj := (Obj.mk Value.none none (Data.func (FuncData.mk (t.x 39) (t.x 91) (fdP (stB t.p 9 0)) (fdB (stB t.p 9 0)) (fdS (stB t.p 9 0)) 0 [] Value.none Value.none Value.none Value.none none Value.none Value.none 0)) #[])
noncomputable def o_328 (t : Tab) (P : Params) : Obj := (Obj.mk (Value.type (t.y 1)) none (Data.fields #[(Value.str (t.x 39) 430),(Value.str (t.x 91) 431),(Value.str (t.x 1) 432),(Value.int 111 0),(Value.int 3 0),(Value.int 0 0),(Value.int 0 0),(Value.int 3 0),(Value.ref 212),(Value.bool true),(Value.int 181 0),(Value.ref 213),Value.none,(Value.ref 214),(Value.ref 215),(Value.ref 216),(Value.int 436 0),(Value.int 111 0),(Value.str (t.x 1) 437)]) #[])
noncomputable def o_329 (t : Tab) (P : Params) : Obj := (Obj.mk (Value.type (t.y 5)) none (Data.func (FuncData.mk (t.x 39) (t.x 91) (fdP (stB t.p 9 0)) (fdB (stB t.p 9 0)) (fdS (stB t.p 9 0)) 3 [] Value.none Value.none Value.none (Value.str (t.x 87) 416) none (Value.ref 217) Value.none 0)) #[])
noncomputable def o_330 (t : Tab) (P : Params) : Obj := (Obj.mk (Value.type (t.y 0)) none (Data.seq #[] 0) #[])
noncomputable def o_331 (t : Tab) (P : Params) : Obj := (Obj.mk Value.none none (Data.fields #[]) #[])
noncomputable def o_332 (t : Tab) (P : Params) : Obj := (Obj.mk (Value.type (t.y 0)) none (Data.seq #[(Value.str (t.x 58) 442),(Value.str (t.x 92) 443)] 0) #[])
noncomputable def o_333 (t : Tab) (P : Params) : Obj := (Obj.mk (Value.type (t.y 0)) none (Data.seq #[] 0) #[])
noncomputable def o_334 (t : Tab) (P : Params) : Obj := (Obj.mk Value.none none (Data.func (FuncData.mk (t.x 88) (t.x 93) (fdP (stB t.p 9 1)) (fdB (stB t.p 9 1)) (fdS (stB t.p 9 1)) 0 [] Value.none Value.none Value.none Value.none none Value.none Value.none 0)) #[])
noncomputable def o_335 (t : Tab) (P : Params) : Obj := (Obj.mk (Value.type (t.y 1)) none (Data.fields #[(Value.str (t.x 88) 439),(Value.str (t.x 93) 440),(Value.str (t.x 1) 441),(Value.int 115 0),(Value.int 2 0),(Value.int 0 0),(Value.int 0 0),(Value.int 3 0),(Value.ref 219),(Value.bool true),(Value.int 181 0),(Value.ref 220),Value.none,(Value.ref 221),(Value.ref 222),(Value.ref 223),(Value.int 444 0),(Value.int 115 0),(Value.str (t.x 1) 445)]) #[])
noncomputable def o_336 (t : Tab) (P : Params) : Obj := (Obj.mk (Value.type (t.y 5)) none (Data.func (FuncData.mk (t.x 88) (t.x 93) (fdP (stB t.p 9 1)) (fdB (stB t.p 9 1)) (fdS (stB t.p 9 1)) 3 [] Value.none Value.none Value.none (Value.str (t.x 87) 416) none (Value.ref 224) Value.none 0)) #[])
noncomputable def o_337 (t : Tab) (P : Params) : Obj := (Obj.mk (Value.type (t.y 0)) none (Data.seq #[] 0) #[])
noncomputable def o_338 (t : Tab) (P : Params) : Obj := (Obj.mk Value.none none (Data.fields #[]) #[])
noncomputable def o_339 (t : Tab) (P : Params) : Obj := (Obj.mk (Value.type (t.y 0)) none (Data.seq #[(Value.str (t.x 58) 450),(Value.str (t.x 94) 451)] 0) #[])
noncomputable def o_340 (t : Tab) (P : Params) : Obj := (Obj.mk (Value.type (t.y 0)) none (Data.seq #[] 0) #[])
noncomputable def o_341 (t : Tab) (P : Params) : Obj := (Obj.mk Value.none none (Data.func (FuncData.mk (t.x 89) (t.x 95) (fdP (stB t.p 9 2)) (fdB (stB t.p 9 2)) (fdS (stB t.p 9 2)) 0 [] Value.none Value.none Value.none Value.none none Value.none Value.none 0)) #[])
noncomputable def o_342 (t : Tab) (P : Params) : Obj := (Obj.mk (Value.type (t.y 1)) none (Data.fields #[(Value.str (t.x 89) 447),(Value.str (t.x 95) 448),(Value.str (t.x 1) 449),(Value.int 118 0),(Value.int 2 0),(Value.int 0 0),(Value.int 0 0),(Value.int 3 0),(Value.ref 226),(Value.bool true),(Value.int 181 0),(Value.ref 227),Value.none,(Value.ref 228),(Value.ref 229),(Value.ref 230),(Value.int 452 0),(Value.int 118 0),(Value.str (t.x 1) 453)]) #[])
noncomputable def o_343 (t : Tab) (P : Params) : Obj := (Obj.mk (Value.type (t.y 5)) none (Data.func (FuncData.mk (t.x 89) (t.x 95) (fdP (stB t.p 9 2)) (fdB (stB t.p 9 2)) (fdS (stB t.p 9 2)) 3 [] Value.none Value.none Value.none (Value.str (t.x 87) 416) none (Value.ref 231) Value.none 0)) #[])
noncomputable def o_344 (t : Tab) (P : Params) : Obj := (Obj.mk (Value.type (t.y 0)) none (Data.seq #[(Value.str (t.x 62) 455),(Value.str (t.x 90) 456)] 0) #[])
noncomputable def o_345 (t : Tab) (P : Params) : Obj := (Obj.mk (Value.type (t.y 3)) none (Data.dict #[(DictEntry.mk (PyData.keyHash P (t.x 33)) (Value.str (t.x 33) 425) (Value.str (t.x 87) 416)),(DictEntry.mk (PyData.keyHash P (t.x 36)) (Value.str (t.x 36) 429) (Value.int 109 428)),(DictEntry.mk (PyData.keyHash P (t.x 39)) (Value.str (t.x 39) 438) (Value.ref 218)),(DictEntry.mk (PyData.keyHash P (t.x 88)) (Value.str (t.x 88) 446) (Value.ref 225)),(DictEntry.mk (PyData.keyHash P (t.x 89)) (Value.str (t.x 89) 454) (Value.ref 232)),(DictEntry.mk (PyData.keyHash P (t.x 37)) (Value.str (t.x 37) 457) (Value.ref 233)),(DictEntry.mk (PyData.keyHash P (t.x 86)) (Value.str (t.x 86) 459) (Value.ref 236)),(DictEntry.mk (PyData.keyHash P (t.x 38)) (Value.str (t.x 38) 461) (Value.ref 237)),(DictEntry.mk (PyData.keyHash P (t.x 5)) (Value.str (t.x 5) 462) Value.none),(DictEntry.mk (PyData.keyHash P (t.x 96)) (Value.str (t.x 96) 463) Value.none)] 5) #[])
noncomputable def o_346 (t : Tab) (P : Params) : Obj := (Obj.mk (Value.type (t.y 9)) none (Data.cls (ClassData.mk (t.x 20) [(Value.type (t.y 12))] [(Value.ref 235),(Value.type (t.y 12))] 234 (t.x 20) true [] [] false none false)) #[none,none,(some (Value.str (t.x 20) 418)),(some (Value.str (t.x 20) 426)),(some (Value.builtin (t.y 19))),(some (Value.bool true))])
noncomputable def o_347 (t : Tab) (P : Params) : Obj := (Obj.mk (Value.type (t.y 14)) none (Data.fields #[(Value.str (t.x 86) 458),(Value.ref 235),(Value.builtin (t.y 20)),(Value.builtin (t.y 21))]) #[])
noncomputable def o_348 (t : Tab) (P : Params) : Obj := (Obj.mk (Value.type (t.y 14)) none (Data.fields #[(Value.str (t.x 38) 460),(Value.ref 235),(Value.builtin (t.y 15)),Value.none]) #[])
noncomputable def o_349 (t : Tab) (P : Params) : Obj := (Obj.mk (Value.type (t.y 16)) none (Data.fields #[(Value.ref 235),(Value.ref 235),(Value.ref 235)]) #[])
noncomputable def o_350 (t : Tab) (P : Params) : Obj := (Obj.mk (Value.type (t.y 7)) none (Data.fields #[(Value.builtin (t.y 17)),(Value.ref 235)]) #[])
noncomputable def o_353 (t : Tab) (P : Params) : Obj := (Obj.mk (Value.type (t.y 0)) none (Data.seq #[] 0) #[])
noncomputable def o_354 (t : Tab) (P : Params) : Obj := (Obj.mk (Value.type (t.y 7)) none (Data.fields #[(Value.builtin (t.y 8)),(Value.type (t.y 9))]) #[])
noncomputable def o_355 (t : Tab) (P : Params) : Obj := (Obj.mk (Value.type (t.y 3)) none (Data.dict #[(DictEntry.mk (PyData.keyHash P (t.x 33)) (Value.str (t.x 33) 473) (Value.str (t.x 87) 416)),(DictEntry.mk (PyData.keyHash P (t.x 35)) (Value.str (t.x 35) 475) (Value.str (t.x 21) 474)),(DictEntry.mk (PyData.keyHash P (t.x 36)) (Value.str (t.x 36) 477) (Value.int 120 476)),(DictEntry.mk (PyData.keyHash P (t.x 39)) (Value.str (t.x 39) 486) (Value.ref 255)),(DictEntry.mk (PyData.keyHash P (t.x 97)) (Value.str (t.x 97) 497) (Value.ref 263)),(DictEntry.mk (PyData.keyHash P (t.x 98)) (Value.str (t.x 98) 504) (Value.ref 270)),(DictEntry.mk (PyData.keyHash P (t.x 99)) (Value.str (t.x 99) 511) (Value.ref 277)),(DictEntry.mk (PyData.keyHash P (t.x 100)) (Value.str (t.x 100) 520) (Value.ref 284)),(DictEntry.mk (PyData.keyHash P (t.x 101)) (Value.str (t.x 101) 527) (Value.ref 291)),(DictEntry.mk (PyData.keyHash P (t.x 88)) (Value.str (t.x 88) 536) (Value.ref 298)),(DictEntry.mk (PyData.keyHash P (t.x 89)) (Value.str (t.x 89) 544) (Value.ref 305)),(DictEntry.mk (PyData.keyHash P (t.x 102)) (Value.str (t.x 102) 552) (Value.ref 312)),(DictEntry.mk (PyData.keyHash P (t.x 103)) (Value.str (t.x 103) 560) (Value.ref 319)),(DictEntry.mk (PyData.keyHash P (t.x 104)) (Value.str (t.x 104) 567) (Value.ref 326)),(DictEntry.mk (PyData.keyHash P (t.x 37)) (Value.str (t.x 37) 569) (Value.ref 327))] 15) #[])
noncomputable def o_356 (t : Tab) (P : Params) : Obj := (Obj.mk (Value.type (t.y 0)) none (Data.seq #[] 0) #[])
noncomputable def o_357 (t : Tab) (P : Params) : Obj := (Obj.mk Value.none none (Data.fields #[(Value.int 122 0),(Value.int 4 0),(Value.ref 254),(Value.int 127 0),(Value.int 4 0),(Value.ref 262),(Value.int 146 0),(Value.int 4 0),(Value.ref 269),(Value.int 149 0),(Value.int 4 0),(Value.ref 276),(Value.int 152 0),(Value.int 4 0),(Value.ref 283),(Value.int 155 0),(Value.int 4 0),(Value.ref 290),(Value.int 158 0),(Value.int 4 0),(Value.ref 297),(Value.int 164 0),(Value.int 4 0),(Value.ref 304),(Value.int 169 0),(Value.int 4 0),(Value.ref 311),(Value.int 172 0),(Value.int 4 0),(Value.ref 318),(Value.int 176 0),(Value.int 4 0),(Value.ref 325)]) #[])
noncomputable def o_358 (t : Tab) (P : Params) : Obj := (Obj.mk (Value.type (t.y 1)) none (Data.fields #[(Value.str (t.x 21) 468),(Value.str (t.x 21) 469),(Value.str (t.x 1) 470),(Value.int 120 0),(Value.int 0 0),(Value.int 0 0),(Value.int 0 0),(Value.int 0 0),(Value.ref 243),(Value.bool false),(Value.int 181 0),(Value.ref 244),Value.none,Value.none,Value.none,Value.none,(Value.int 471 0),(Value.int 120 0),(Value.str (t.x 1) 472)]) #[])
noncomputable def o_359 (t : Tab) (P : Params) : Obj := (Obj.mk (Value.type (t.y 2)) none Data.plain #[(some (Value.ref 245)),(some (Value.ref 3)),(some (Value.ref 242)),none,(some (Value.str (t.x 87) 416)),none,(some (Value.ref 0))])
noncomputable def o_360 (t : Tab) (P : Params) : Obj := (Obj.mk (Value.type (t.y 22)) none (Data.seq #[] 0) #[])
noncomputable def o_361 (t : Tab) (P : Params) : Obj := (Obj.mk (Value.type (t.y 0)) none (Data.seq #[(Value.ref 247)] 0) #[])
noncomputable def o_362 (t : Tab) (P : Params) : Obj := (Obj.mk (Value.type (t.y 0)) none (Data.seq #[] 0) #[])
noncomputable def o_363 (t : Tab) (P : Params) : Obj := (Obj.mk Value.none none (Data.fields #[]) #[])
noncomputable def o_364 (t : Tab) (P : Params) : Obj := (Obj.mk (Value.type (t.y 0)) none (Data.seq #[(Value.str (t.x 58) 481),(Value.str (t.x 105) 482),(Value.str (t.x 106) 483)] 0) #[])
noncomputable def o_365 (t : Tab) (P : Params) : Obj := (Obj.mk (Value.type (t.y 0)) none (Data.seq #[] 0) #[])
noncomputable def o_366 (t : Tab) (P : Params) : Obj := (Obj.mk Value.none none (Data.func (FuncData.mk (t.x 39) (t.x 107) (fdP (stB t.p 10 0)) (fdB (stB t.p 10 0)) (fdS (stB t.p 10 0)) 0 [] Value.none Value.none Value.none Value.none none Value.none Value.none 0)) #[])
noncomputable def o_367 (t : Tab) (P : Params) : Obj := (Obj.mk (Value.type (t.y 1)) none (Data.fields #[(Value.str (t.x 39) 478),(Value.str (t.x 107) 479),(Value.str (t.x 1) 480),(Value.int 122 0),(Value.int 2 0),(Value.int 0 0),(Value.int 0 0),(Value.int 3 0),(Value.ref 249),(Value.bool true),(Value.int 181 0),(Value.ref 250),Value.none,(Value.ref 251),(Value.ref 252),(Value.ref 253),(Value.int 484 0),(Value.int 122 0),(Value.str (t.x 1) 485)]) #[])
noncomputable def o_368 (t : Tab) (P : Params) : Obj := (Obj.mk (Value.type (t.y 5)) none (Data.func (FuncData.mk (t.x 39) (t.x 107) (fdP (stB t.p 10 0)) (fdB (stB t.p 10 0)) (fdS (stB t.p 10 0)) 3 [] (Value.ref 248) Value.none Value.none (Value.str (t.x 87) 416) none (Value.ref 254) Value.none 0)) #[])
noncomputable def o_369 (t : Tab) (P : Params) : Obj := (Obj.mk (Value.type (t.y 0)) none (Data.seq #[Value.none] 0) #[])
noncomputable def o_370 (t : Tab) (P : Params) : Obj := (Obj.mk (Value.type (t.y 0)) none (Data.seq #[] 0) #[])
noncomputable def o_371 (t : Tab) (P : Params) : Obj := (Obj.mk Value.none none (Data.fields #[]) #[])
noncomputable def o_372 (t : Tab) (P : Params) : Obj := (Obj.mk (Value.type (t.y 0)) none (Data.seq #[(Value.str (t.x 58) 490),(Value.str (t.x 62) 491),(Value.str (t.x 90) 492),(Value.str (t.x 108) 493),(Value.str (t.x 106) 494)] 0) #[])
noncomputable def o_373 (t : Tab) (P : Params) : Obj := (Obj.mk (Value.type (t.y 0)) none (Data.seq #[] 0) #[])
noncomputable def o_374 (t : Tab) (P : Params) : Obj := (Obj.mk Value.none none (Data.func (FuncData.mk (t.x 97) (t.x 109) (fdP (stB t.p 10 1)) (fdB (stB t.p 10 1)) (fdS (stB t.p 10 1)) 0 [] Value.none Value.none Value.none Value.none none Value.none Value.none 0)) #[])
noncomputable def o_375 (t : Tab) (P : Params) : Obj := (Obj.mk (Value.type (t.y 1)) none (Data.fields #[(Value.str (t.x 97) 487),(Value.str (t.x 109) 488),(Value.str (t.x 1) 489),(Value.int 127 0),(Value.int 3 0),(Value.int 0 0),(Value.int 0 0),(Value.int 3 0),(Value.ref 257),(Value.bool true),(Value.int 181 0),(Value.ref 258),Value.none,(Value.ref 259),(Value.ref 260),(Value.ref 261),(Value.int 495 0),(Value.int 127 0),(Value.str (t.x 1) 496)]) #[])
noncomputable def o_376 (t : Tab) (P : Params) : Obj := (Obj.mk (Value.type (t.y 5)) none (Data.func (FuncData.mk (t.x 97) (t.x 109) (fdP (stB t.p 10 1)) (fdB (stB t.p 10 1)) (fdS (stB t.p 10 1)) 3 [] (Value.ref 256) Value.none Value.none (Value.str (t.x 87) 416) none (Value.ref 262) Value.none 0)) #[])
noncomputable def o_377 (t : Tab) (P : Params) : Obj := (Obj.mk (Value.type (t.y 0)) none (Data.seq #[] 0) #[])
noncomputable def o_378 (t : Tab) (P : Params) : Obj := (Obj.mk Value.none none (Data.fields #[]) #[])
noncomputable def o_379 (t : Tab) (P : Params) : Obj := (Obj.mk (Value.type (t.y 0)) none (Data.seq #[(Value.str (t.x 58) 501)] 0) #[])
noncomputable def o_380 (t : Tab) (P : Params) : Obj := (Obj.mk (Value.type (t.y 0)) none (Data.seq #[] 0) #[])
noncomputable def o_381 (t : Tab) (P : Params) : Obj := (Obj.mk Value.none none (Data.func (FuncData.mk (t.x 98) (t.x 110) (fdP (stB t.p 10 2)) (fdB (stB t.p 10 2)) (fdS (stB t.p 10 2)) 0 [] Value.none Value.none Value.none Value.none none Value.none Value.none 0)) #[])
noncomputable def o_382 (t : Tab) (P : Params) : Obj := (Obj.mk (Value.type (t.y 1)) none (Data.fields #[(Value.str (t.x 98) 498),(Value.str (t.x 110) 499),(Value.str (t.x 1) 500),(Value.int 146 0),(Value.int 1 0),(Value.int 0 0),(Value.int 0 0),(Value.int 3 0),(Value.ref 264),(Value.bool true),(Value.int 181 0),(Value.ref 265),Value.none,(Value.ref 266),(Value.ref 267),(Value.ref 268),(Value.int 502 0),(Value.int 146 0),(Value.str (t.x 1) 503)]) #[])
noncomputable def o_383 (t : Tab) (P : Params) : Obj := (Obj.mk (Value.type (t.y 5)) none (Data.func (FuncData.mk (t.x 98) (t.x 110) (fdP (stB t.p 10 2)) (fdB (stB t.p 10 2)) (fdS (stB t.p 10 2)) 3 [] Value.none Value.none Value.none (Value.str (t.x 87) 416) none (Value.ref 269) Value.none 0)) #[])
noncomputable def o_384 (t : Tab) (P : Params) : Obj := (Obj.mk (Value.type (t.y 0)) none (Data.seq #[] 0) #[])
noncomputable def o_385 (t : Tab) (P : Params) : Obj := (Obj.mk Value.none none (Data.fields #[]) #[])
noncomputable def o_386 (t : Tab) (P : Params) : Obj := (Obj.mk (Value.type (t.y 0)) none (Data.seq #[(Value.str (t.x 58) 508)] 0) #[])
noncomputable def o_387 (t : Tab) (P : Params) : Obj := (Obj.mk (Value.type (t.y 0)) none (Data.seq #[] 0) #[])
noncomputable def o_388 (t : Tab) (P : Params) : Obj := (Obj.mk Value.none none (Data.func (FuncData.mk (t.x 99) (t.x 111) (fdP (stB t.p 10 3)) (fdB (stB t.p 10 3)) (fdS (stB t.p 10 3)) 0 [] Value.none Value.none Value.none Value.none none Value.none Value.none 0)) #[])
noncomputable def o_389 (t : Tab) (P : Params) : Obj := (Obj.mk (Value.type (t.y 1)) none (Data.fields #[(Value.str (t.x 99) 505),(Value.str (t.x 111) 506),(Value.str (t.x 1) 507),(Value.int 149 0),(Value.int 1 0),(Value.int 0 0),(Value.int 0 0),(Value.int 3 0),(Value.ref 271),(Value.bool true),(Value.int 181 0),(Value.ref 272),Value.none,(Value.ref 273),(Value.ref 274),(Value.ref 275),(Value.int 509 0),(Value.int 149 0),(Value.str (t.x 1) 510)]) #[])
noncomputable def o_390 (t : Tab) (P : Params) : Obj := (Obj.mk (Value.type (t.y 5)) none (Data.func (FuncData.mk (t.x 99) (t.x 111) (fdP (stB t.p 10 3)) (fdB (stB t.p 10 3)) (fdS (stB t.p 10 3)) 3 [] Value.none Value.none Value.none (Value.str (t.x 87) 416) none (Value.ref 276) Value.none 0)) #[])
noncomputable def o_391 (t : Tab) (P : Params) : Obj := (Obj.mk (Value.type (t.y 0)) none (Data.seq #[] 0) #[])
noncomputable def o_392 (t : Tab) (P : Params) : Obj := (Obj.mk Value.none none (Data.fields #[]) #[])
noncomputable def o_393 (t : Tab) (P : Params) : Obj := (Obj.mk (Value.type (t.y 0)) none (Data.seq #[(Value.str (t.x 58) 515),(Value.str (t.x 62) 516),(Value.str (t.x 90) 517)] 0) #[])
noncomputable def o_394 (t : Tab) (P : Params) : Obj := (Obj.mk (Value.type (t.y 0)) none (Data.seq #[] 0) #[])
noncomputable def o_395 (t : Tab) (P : Params) : Obj := (Obj.mk Value.none none (Data.func (FuncData.mk (t.x 100) (t.x 112) (fdP (stB t.p 10 4)) (fdB (stB t.p 10 4)) (fdS (stB t.p 10 4)) 0 [] Value.none Value.none Value.none Value.none none Value.none Value.none 0)) #[])
noncomputable def o_396 (t : Tab) (P : Params) : Obj := (Obj.mk (Value.type (t.y 1)) none (Data.fields #[(Value.str (t.x 100) 512),(Value.str (t.x 112) 513),(Value.str (t.x 1) 514),(Value.int 152 0),(Value.int 3 0),(Value.int 0 0),(Value.int 0 0),(Value.int 3 0),(Value.ref 278),(Value.bool true),(Value.int 181 0),(Value.ref 279),Value.none,(Value.ref 280),(Value.ref 281),(Value.ref 282),(Value.int 518 0),(Value.int 152 0),(Value.str (t.x 1) 519)]) #[])
noncomputable def o_397 (t : Tab) (P : Params) : Obj := (Obj.mk (Value.type (t.y 5)) none (Data.func (FuncData.mk (t.x 100) (t.x 112) (fdP (stB t.p 10 4)) (fdB (stB t.p 10 4)) (fdS (stB t.p 10 4)) 3 [] Value.none Value.none Value.none (Value.str (t.x 87) 416) none (Value.ref 283) Value.none 0)) #[])
noncomputable def o_398 (t : Tab) (P : Params) : Obj := (Obj.mk (Value.type (t.y 0)) none (Data.seq #[] 0) #[])
noncomputable def o_399 (t : Tab) (P : Params) : Obj := (Obj.mk Value.none none (Data.fields #[]) #[])
noncomputable def o_400 (t : Tab) (P : Params) : Obj := (Obj.mk (Value.type (t.y 0)) none (Data.seq #[(Value.str (t.x 58) 524)] 0) #[])
noncomputable def o_401 (t : Tab) (P : Params) : Obj := (Obj.mk (Value.type (t.y 0)) none (Data.seq #[] 0) #[])
noncomputable def o_402 (t : Tab) (P : Params) : Obj := (Obj.mk Value.none none (Data.func (FuncData.mk (t.x 101) (t.x 113) (fdP (stB t.p 10 5)) (fdB (stB t.p 10 5)) (fdS (stB t.p 10 5)) 0 [] Value.none Value.none Value.none Value.none none Value.none Value.none 0)) #[])
noncomputable def o_403 (t : Tab) (P : Params) : Obj := (Obj.mk (Value.type (t.y 1)) none (Data.fields #[(Value.str (t.x 101) 521),(Value.str (t.x 113) 522),(Value.str (t.x 1) 523),(Value.int 155 0),(Value.int 1 0),(Value.int 0 0),(Value.int 0 0),(Value.int 3 0),(Value.ref 285),(Value.bool true),(Value.int 181 0),(Value.ref 286),Value.none,(Value.ref 287),(Value.ref 288),(Value.ref 289),(Value.int 525 0),(Value.int 155 0),(Value.str (t.x 1) 526)]) #[])
noncomputable def o_404 (t : Tab) (P : Params) : Obj := (Obj.mk (Value.type (t.y 5)) none (Data.func (FuncData.mk (t.x 101) (t.x 113) (fdP (stB t.p 10 5)) (fdB (stB t.p 10 5)) (fdS (stB t.p 10 5)) 3 [] Value.none Value.none Value.none (Value.str (t.x 87) 416) none (Value.ref 290) Value.none 0)) #[])
noncomputable def o_405 (t : Tab) (P : Params) : Obj := (Obj.mk (Value.type (t.y 0)) none (Data.seq #[] 0) #[])
noncomputable def o_406 (t : Tab) (P : Params) : Obj := (Obj.mk Value.none none (Data.fields #[]) #[])
noncomputable def o_407 (t : Tab) (P : Params) : Obj := (Obj.mk (Value.type (t.y 0)) none (Data.seq #[(Value.str (t.x 58) 531),(Value.str (t.x 92) 532),(Value.str (t.x 106) 533)] 0) #[])
noncomputable def o_408 (t : Tab) (P : Params) : Obj := (Obj.mk (Value.type (t.y 0)) none (Data.seq #[] 0) #[])
noncomputable def o_409 (t : Tab) (P : Params) : Obj := (Obj.mk Value.none none (Data.func (FuncData.mk (t.x 88) (t.x 114) (fdP (stB t.p 10 6)) (fdB (stB t.p 10 6)) (fdS (stB t.p 10 6)) 0 [] Value.none Value.none Value.none Value.none none Value.none Value.none 0)) #[])
noncomputable def o_410 (t : Tab) (P : Params) : Obj := (Obj.mk (Value.type (t.y 1)) none (Data.fields #[(Value.str (t.x 88) 528),(Value.str (t.x 114) 529),(Value.str (t.x 1) 530),(Value.int 158 0),(Value.int 2 0),(Value.int 0 0),(Value.int 0 0),(Value.int 3 0),(Value.ref 292),(Value.bool true),(Value.int 181 0),(Value.ref 293),Value.none,(Value.ref 294),(Value.ref 295),(Value.ref 296),(Value.int 534 0),(Value.int 158 0),(Value.str (t.x 1) 535)]) #[])
noncomputable def o_411 (t : Tab) (P : Params) : Obj := (Obj.mk (Value.type (t.y 5)) none (Data.func (FuncData.mk (t.x 88) (t.x 114) (fdP (stB t.p 10 6)) (fdB (stB t.p 10 6)) (fdS (stB t.p 10 6)) 3 [] Value.none Value.none Value.none (Value.str (t.x 87) 416) none (Value.ref 297) Value.none 0)) #[])
noncomputable def o_412 (t : Tab) (P : Params) : Obj := (Obj.mk (Value.type (t.y 0)) none (Data.seq #[] 0) #[])
noncomputable def o_413 (t : Tab) (P : Params) : Obj := (Obj.mk Value.none none (Data.fields #[]) #[])
noncomputable def o_414 (t : Tab) (P : Params) : Obj := (Obj.mk (Value.type (t.y 0)) none (Data.seq #[(Value.str (t.x 58) 540),(Value.str (t.x 94) 541)] 0) #[])
noncomputable def o_415 (t : Tab) (P : Params) : Obj := (Obj.mk (Value.type (t.y 0)) none (Data.seq #[] 0) #[])
noncomputable def o_416 (t : Tab) (P : Params) : Obj := (Obj.mk Value.none none (Data.func (FuncData.mk (t.x 89) (t.x 115) (fdP (stB t.p 10 7)) (fdB (stB t.p 10 7)) (fdS (stB t.p 10 7)) 0 [] Value.none Value.none Value.none Value.none none Value.none Value.none 0)) #[])
noncomputable def o_417 (t : Tab) (P : Params) : Obj := (Obj.mk (Value.type (t.y 1)) none (Data.fields #[(Value.str (t.x 89) 537),(Value.str (t.x 115) 538),(Value.str (t.x 1) 539),(Value.int 164 0),(Value.int 2 0),(Value.int 0 0),(Value.int 0 0),(Value.int 3 0),(Value.ref 299),(Value.bool true),(Value.int 181 0),(Value.ref 300),Value.none,(Value.ref 301),(Value.ref 302),(Value.ref 303),(Value.int 542 0),(Value.int 164 0),(Value.str (t.x 1) 543)]) #[])
noncomputable def o_418 (t : Tab) (P : Params) : Obj := (Obj.mk (Value.type (t.y 5)) none (Data.func (FuncData.mk (t.x 89) (t.x 115) (fdP (stB t.p 10 7)) (fdB (stB t.p 10 7)) (fdS (stB t.p 10 7)) 3 [] Value.none Value.none Value.none (Value.str (t.x 87) 416) none (Value.ref 304) Value.none 0)) #[])
noncomputable def o_419 (t : Tab) (P : Params) : Obj := (Obj.mk (Value.type (t.y 0)) none (Data.seq #[] 0) #[])
noncomputable def o_420 (t : Tab) (P : Params) : Obj := (Obj.mk Value.none none (Data.fields #[]) #[])
noncomputable def o_421 (t : Tab) (P : Params) : Obj := (Obj.mk (Value.type (t.y 0)) none (Data.seq #[(Value.str (t.x 58) 548),(Value.str (t.x 116) 549)] 0) #[])
noncomputable def o_422 (t : Tab) (P : Params) : Obj := (Obj.mk (Value.type (t.y 0)) none (Data.seq #[] 0) #[])
noncomputable def o_423 (t : Tab) (P : Params) : Obj := (Obj.mk Value.none none (Data.func (FuncData.mk (t.x 102) (t.x 117) (fdP (stB t.p 10 8)) (fdB (stB t.p 10 8)) (fdS (stB t.p 10 8)) 0 [] Value.none Value.none Value.none Value.none none Value.none Value.none 0)) #[])
noncomputable def o_424 (t : Tab) (P : Params) : Obj := (Obj.mk (Value.type (t.y 1)) none (Data.fields #[(Value.str (t.x 102) 545),(Value.str (t.x 117) 546),(Value.str (t.x 1) 547),(Value.int 169 0),(Value.int 2 0),(Value.int 0 0),(Value.int 0 0),(Value.int 3 0),(Value.ref 306),(Value.bool true),(Value.int 181 0),(Value.ref 307),Value.none,(Value.ref 308),(Value.ref 309),(Value.ref 310),(Value.int 550 0),(Value.int 169 0),(Value.str (t.x 1) 551)]) #[])
noncomputable def o_425 (t : Tab) (P : Params) : Obj := (Obj.mk (Value.type (t.y 5)) none (Data.func (FuncData.mk (t.x 102) (t.x 117) (fdP (stB t.p 10 8)) (fdB (stB t.p 10 8)) (fdS (stB t.p 10 8)) 3 [] Value.none Value.none Value.none (Value.str (t.x 87) 416) none (Value.ref 311) Value.none 0)) #[])
noncomputable def o_426 (t : Tab) (P : Params) : Obj := (Obj.mk (Value.type (t.y 0)) none (Data.seq #[] 0) #[])
noncomputable def o_427 (t : Tab) (P : Params) : Obj := (Obj.mk Value.none none (Data.fields #[]) #[])
noncomputable def o_428 (t : Tab) (P : Params) : Obj := (Obj.mk (Value.type (t.y 0)) none (Data.seq #[(Value.str (t.x 58) 556),(Value.str (t.x 106) 557)] 0) #[])
noncomputable def o_429 (t : Tab) (P : Params) : Obj := (Obj.mk (Value.type (t.y 0)) none (Data.seq #[] 0) #[])
noncomputable def o_430 (t : Tab) (P : Params) : Obj := (Obj.mk Value.none none (Data.func (FuncData.mk (t.x 103) (t.x 118) (fdP (stB t.p 10 9)) (fdB (stB t.p 10 9)) (fdS (stB t.p 10 9)) 0 [] Value.none Value.none Value.none Value.none none Value.none Value.none 0)) #[])
noncomputable def o_431 (t : Tab) (P : Params) : Obj := (Obj.mk (Value.type (t.y 1)) none (Data.fields #[(Value.str (t.x 103) 553),(Value.str (t.x 118) 554),(Value.str (t.x 1) 555),(Value.int 172 0),(Value.int 1 0),(Value.int 0 0),(Value.int 0 0),(Value.int 35 0),(Value.ref 313),(Value.bool true),(Value.int 181 0),(Value.ref 314),Value.none,(Value.ref 315),(Value.ref 316),(Value.ref 317),(Value.int 558 0),(Value.int 172 0),(Value.str (t.x 1) 559)]) #[])
noncomputable def o_432 (t : Tab) (P : Params) : Obj := (Obj.mk (Value.type (t.y 5)) none (Data.func (FuncData.mk (t.x 103) (t.x 118) (fdP (stB t.p 10 9)) (fdB (stB t.p 10 9)) (fdS (stB t.p 10 9)) 3 [] Value.none Value.none Value.none (Value.str (t.x 87) 416) none (Value.ref 318) Value.none 0)) #[])
noncomputable def o_433 (t : Tab) (P : Params) : Obj := (Obj.mk (Value.type (t.y 0)) none (Data.seq #[] 0) #[])
noncomputable def o_434 (t : Tab) (P : Params) : Obj := (Obj.mk Value.none none (Data.fields #[]) #[])
noncomputable def o_435 (t : Tab) (P : Params) : Obj := (Obj.mk (Value.type (t.y 0)) none (Data.seq #[(Value.str (t.x 58) 564)] 0) #[])
noncomputable def o_436 (t : Tab) (P : Params) : Obj := (Obj.mk (Value.type (t.y 0)) none (Data.seq #[] 0) #[])
noncomputable def o_437 (t : Tab) (P : Params) : Obj := (Obj.mk Value.none none (Data.func (FuncData.mk (t.x 104) (t.x 119) (fdP (stB t.p 10 10)) (fdB (stB t.p 10 10)) (fdS (stB t.p 10 10)) 0 [] Value.none Value.none Value.none Value.none none Value.none Value.none 0)) #[])
noncomputable def o_438 (t : Tab) (P : Params) : Obj := (Obj.mk (Value.type (t.y 1)) none (Data.fields #[(Value.str (t.x 104) 561),(Value.str (t.x 119) 562),(Value.str (t.x 1) 563),(Value.int 176 0),(Value.int 1 0),(Value.int 0 0),(Value.int 0 0),(Value.int 3 0),(Value.ref 320),(Value.bool true),(Value.int 181 0),(Value.ref 321),Value.none,(Value.ref 322),(Value.ref 323),(Value.ref 324),(Value.int 565 0),(Value.int 176 0),(Value.str (t.x 1) 566)]) #[])
noncomputable def o_439 (t : Tab) (P : Params) : Obj := (Obj.mk (Value.type (t.y 5)) none (Data.func (FuncData.mk (t.x 104) (t.x 119) (fdP (stB t.p 10 10)) (fdB (stB t.p 10 10)) (fdS (stB t.p 10 10)) 3 [] Value.none Value.none Value.none (Value.str (t.x 87) 416) none (Value.ref 325) Value.none 0)) #[])
noncomputable def o_440 (t : Tab) (P : Params) : Obj := (Obj.mk (Value.type (t.y 0)) none (Data.seq #[(Value.str (t.x 120) 568)] 0) #[])
noncomputable def o_441 (t : Tab) (P : Params) : Obj := (Obj.mk (Value.type (t.y 3)) none (Data.dict #[(DictEntry.mk (PyData.keyHash P (t.x 33)) (Value.str (t.x 33) 473) (Value.str (t.x 87) 416)),(DictEntry.mk (PyData.keyHash P (t.x 36)) (Value.str (t.x 36) 477) (Value.int 120 476)),(DictEntry.mk (PyData.keyHash P (t.x 39)) (Value.str (t.x 39) 486) (Value.ref 255)),(DictEntry.mk (PyData.keyHash P (t.x 97)) (Value.str (t.x 97) 497) (Value.ref 263)),(DictEntry.mk (PyData.keyHash P (t.x 98)) (Value.str (t.x 98) 504) (Value.ref 270)),(DictEntry.mk (PyData.keyHash P (t.x 99)) (Value.str (t.x 99) 511) (Value.ref 277)),(DictEntry.mk (PyData.keyHash P (t.x 100)) (Value.str (t.x 100) 520) (Value.ref 284)),(DictEntry.mk (PyData.keyHash P (t.x 101)) (Value.str (t.x 101) 527) (Value.ref 291)),(DictEntry.mk (PyData.keyHash P (t.x 88)) (Value.str (t.x 88) 536) (Value.ref 298)),(DictEntry.mk (PyData.keyHash P (t.x 89)) (Value.str (t.x 89) 544) (Value.ref 305)),(DictEntry.mk (PyData.keyHash P (t.x 102)) (Value.str (t.x 102) 552) (Value.ref 312)),(DictEntry.mk (PyData.keyHash P (t.x 103)) (Value.str (t.x 103) 560) (Value.ref 319)),(DictEntry.mk (PyData.keyHash P (t.x 104)) (Value.str (t.x 104) 567) (Value.ref 326)),(DictEntry.mk (PyData.keyHash P (t.x 37)) (Value.str (t.x 37) 569) (Value.ref 327)),(DictEntry.mk (PyData.keyHash P (t.x 86)) (Value.str (t.x 86) 571) (Value.ref 330)),(DictEntry.mk (PyData.keyHash P (t.x 38)) (Value.str (t.x 38) 573) (Value.ref 331)),(DictEntry.mk (PyData.keyHash P (t.x 5)) (Value.str (t.x 5) 574) Value.none),(DictEntry.mk (PyData.keyHash P (t.x 96)) (Value.str (t.x 96) 575) Value.none)] 5) #[])
noncomputable def o_442 (t : Tab) (P : Params) : Obj := (Obj.mk (Value.type (t.y 9)) none (Data.cls (ClassData.mk (t.x 21) [(Value.type (t.y 12))] [(Value.ref 329),(Value.type (t.y 12))] 328 (t.x 21) true [] [] false none false)) #[none,none,(some (Value.str (t.x 21) 466)),(some (Value.str (t.x 21) 474)),(some (Value.builtin (t.y 19))),(some (Value.bool true))])
noncomputable def o_443 (t : Tab) (P : Params) : Obj := (Obj.mk (Value.type (t.y 14)) none (Data.fields #[(Value.str (t.x 86) 570),(Value.ref 329),(Value.builtin (t.y 20)),(Value.builtin (t.y 21))]) #[])
noncomputable def o_444 (t : Tab) (P : Params) : Obj := (Obj.mk (Value.type (t.y 14)) none (Data.fields #[(Value.str (t.x 38) 572),(Value.ref 329),(Value.builtin (t.y 15)),Value.none]) #[])
noncomputable def o_445 (t : Tab) (P : Params) : Obj := (Obj.mk (Value.type (t.y 16)) none (Data.fields #[(Value.ref 329),(Value.ref 329),(Value.ref 329)]) #[])
noncomputable def o_446 (t : Tab) (P : Params) : Obj := (Obj.mk (Value.type (t.y 7)) none (Data.fields #[(Value.builtin (t.y 17)),(Value.ref 329)]) #[])
noncomputable def o_449 (t : Tab) (P : Params) : Obj := (Obj.mk (Value.type (t.y 0)) none (Data.seq #[] 0) #[])
noncomputable def o_450 (t : Tab) (P : Params) : Obj := (Obj.mk Value.none none (Data.fields #[]) #[])
noncomputable def o_451 (t : Tab) (P : Params) : Obj := (Obj.mk (Value.type (t.y 0)) none (Data.seq #[(Value.str (t.x 121) 583),(Value.str (t.x 122) 584),(Value.str (t.x 63) 585),(Value.str (t.x 123) 586),(Value.str (t.x 124) 587),(Value.str (t.x 125) 588),(Value.str (t.x 126) 589)] 0) #[])
noncomputable def o_452 (t : Tab) (P : Params) : Obj := (Obj.mk (Value.type (t.y 0)) none (Data.seq #[] 0) #[])
noncomputable def o_453 (t : Tab) (P : Params) : Obj := (Obj.mk Value.none none (Data.func (FuncData.mk (t.x 22) (t.x 22) (fdP (stA t.p 12)) (fdB (stA t.p 12)) (fdS (stA t.p 12)) 0 [] Value.none Value.none Value.none Value.none none Value.none Value.none 0)) #[])
noncomputable def o_454 (t : Tab) (P : Params) : Obj := (Obj.mk (Value.type (t.y 1)) none (Data.fields #[(Value.str (t.x 22) 580),(Value.str (t.x 22) 581),(Value.str (t.x 1) 582),(Value.int 179 0),(Value.int 1 0),(Value.int 0 0),(Value.int 0 0),(Value.int 3 0),(Value.ref 334),(Value.bool true),(Value.int 181 0),(Value.ref 335),Value.none,(Value.ref 336),(Value.ref 337),(Value.ref 338),(Value.int 590 0),(Value.int 179 0),(Value.str (t.x 1) 591)]) #[])
noncomputable def o_455 (t : Tab) (P : Params) : Obj := (Obj.mk (Value.type (t.y 5)) none (Data.func (FuncData.mk (t.x 22) (t.x 22) (fdP (stA t.p 12)) (fdB (stA t.p 12)) (fdS (stA t.p 12)) 3 [] Value.none Value.none Value.none (Value.str (t.x 127) 578) none (Value.ref 339) Value.none 0)) #[])
noncomputable def o_456 (t : Tab) (P : Params) : Obj := (Obj.mk (Value.type (t.y 0)) none (Data.seq #[] 0) #[])
noncomputable def o_457 (t : Tab) (P : Params) : Obj := (Obj.mk Value.none none (Data.fields #[]) #[])
noncomputable def o_458 (t : Tab) (P : Params) : Obj := (Obj.mk (Value.type (t.y 0)) none (Data.seq #[(Value.str (t.x 121) 596),(Value.str (t.x 122) 597),(Value.str (t.x 123) 598),(Value.str (t.x 40) 599),(Value.str (t.x 105) 600),(Value.str (t.x 128) 601),(Value.str (t.x 106) 602),(Value.str (t.x 129) 603),(Value.str (t.x 130) 604),(Value.str (t.x 62) 605)] 0) #[])
noncomputable def o_459 (t : Tab) (P : Params) : Obj := (Obj.mk (Value.type (t.y 0)) none (Data.seq #[] 0) #[])
noncomputable def o_460 (t : Tab) (P : Params) : Obj := (Obj.mk Value.none none (Data.func (FuncData.mk (t.x 23) (t.x 23) (fdP (stA t.p 13)) (fdB (stA t.p 13)) (fdS (stA t.p 13)) 0 [] Value.none Value.none Value.none Value.none none Value.none Value.none 0)) #[])
noncomputable def o_461 (t : Tab) (P : Params) : Obj := (Obj.mk (Value.type (t.y 1)) none (Data.fields #[(Value.str (t.x 23) 593),(Value.str (t.x 23) 594),(Value.str (t.x 1) 595),(Value.int 195 0),(Value.int 4 0),(Value.int 0 0),(Value.int 0 0),(Value.int 3 0),(Value.ref 341),(Value.bool true),(Value.int 181 0),(Value.ref 342),Value.none,(Value.ref 343),(Value.ref 344),(Value.ref 345),(Value.int 606 0),(Value.int 195 0),(Value.str (t.x 1) 607)]) #[])
noncomputable def o_462 (t : Tab) (P : Params) : Obj := (Obj.mk (Value.type (t.y 5)) none (Data.func (FuncData.mk (t.x 23) (t.x 23) (fdP (stA t.p 13)) (fdB (stA t.p 13)) (fdS (stA t.p 13)) 3 [] Value.none Value.none Value.none (Value.str (t.x 127) 578) none (Value.ref 346) Value.none 0)) #[])
noncomputable def o_463 (t : Tab) (P : Params) : Obj := (Obj.mk (Value.type (t.y 0)) none (Data.seq #[] 0) #[])
noncomputable def o_464 (t : Tab) (P : Params) : Obj := (Obj.mk Value.none none (Data.fields #[]) #[])
noncomputable def o_465 (t : Tab) (P : Params) : Obj := (Obj.mk (Value.type (t.y 0)) none (Data.seq #[] 0) #[])
noncomputable def o_466 (t : Tab) (P : Params) : Obj := (Obj.mk (Value.type (t.y 0)) none (Data.seq #[] 0) #[])
noncomputable def o_467 (t : Tab) (P : Params) : Obj := (Obj.mk Value.none none (Data.func (FuncData.mk (t.x 24) (t.x 24) (fdP (stA t.p 15)) (fdB (stA t.p 15)) (fdS (stA t.p 15)) 0 [] Value.none Value.none Value.none Value.none none Value.none Value.none 0)) #[])
noncomputable def o_468 (t : Tab) (P : Params) : Obj := (Obj.mk (Value.type (t.y 1)) none (Data.fields #[(Value.str (t.x 24) 611),(Value.str (t.x 24) 612),(Value.str (t.x 1) 613),(Value.int 216 0),(Value.int 0 0),(Value.int 0 0),(Value.int 0 0),(Value.int 3 0),(Value.ref 348),(Value.bool true),(Value.int 181 0),(Value.ref 349),Value.none,(Value.ref 350),(Value.ref 351),(Value.ref 352),(Value.int 614 0),(Value.int 216 0),(Value.str (t.x 1) 615)]) #[])
noncomputable def o_469 (t : Tab) (P : Params) : Obj := (Obj.mk (Value.type (t.y 5)) none (Data.func (FuncData.mk (t.x 24) (t.x 24) (fdP (stA t.p 15)) (fdB (stA t.p 15)) (fdS (stA t.p 15)) 3 [] Value.none Value.none Value.none (Value.str (t.x 4) 609) none (Value.ref 353) Value.none 0)) #[])
noncomputable def o_470 (t : Tab) (P : Params) : Obj := (Obj.mk (Value.type (t.y 0)) none (Data.seq #[] 0) #[])
noncomputable def o_471 (t : Tab) (P : Params) : Obj := (Obj.mk Value.none none (Data.fields #[]) #[])
noncomputable def o_472 (t : Tab) (P : Params) : Obj := (Obj.mk (Value.type (t.y 0)) none (Data.seq #[(Value.str (t.x 70) 620),(Value.str (t.x 128) 621)] 0) #[])
noncomputable def o_473 (t : Tab) (P : Params) : Obj := (Obj.mk (Value.type (t.y 0)) none (Data.seq #[] 0) #[])
noncomputable def o_474 (t : Tab) (P : Params) : Obj := (Obj.mk Value.none none (Data.func (FuncData.mk (t.x 25) (t.x 25) (fdP (stA t.p 16)) (fdB (stA t.p 16)) (fdS (stA t.p 16)) 0 [] Value.none Value.none Value.none Value.none none Value.none Value.none 0)) #[])
noncomputable def o_475 (t : Tab) (P : Params) : Obj := (Obj.mk (Value.type (t.y 1)) none (Data.fields #[(Value.str (t.x 25) 617),(Value.str (t.x 25) 618),(Value.str (t.x 1) 619),(Value.int 218 0),(Value.int 1 0),(Value.int 0 0),(Value.int 0 0),(Value.int 3 0),(Value.ref 355),(Value.bool true),(Value.int 181 0),(Value.ref 356),Value.none,(Value.ref 357),(Value.ref 358),(Value.ref 359),(Value.int 622 0),(Value.int 218 0),(Value.str (t.x 1) 623)]) #[])
noncomputable def o_476 (t : Tab) (P : Params) : Obj := (Obj.mk (Value.type (t.y 5)) none (Data.func (FuncData.mk (t.x 25) (t.x 25) (fdP (stA t.p 16)) (fdB (stA t.p 16)) (fdS (stA t.p 16)) 3 [] Value.none Value.none Value.none (Value.str (t.x 4) 609) none (Value.ref 360) Value.none 0)) #[])
noncomputable def o_477 (t : Tab) (P : Params) : Obj := (Obj.mk (Value.type (t.y 0)) none (Data.seq #[] 0) #[])
noncomputable def o_478 (t : Tab) (P : Params) : Obj := (Obj.mk Value.none none (Data.fields #[]) #[])
noncomputable def o_479 (t : Tab) (P : Params) : Obj := (Obj.mk (Value.type (t.y 0)) none (Data.seq #[(Value.str (t.x 70) 628),(Value.str (t.x 131) 629),(Value.str (t.x 128) 630),(Value.str (t.x 76) 631)] 0) #[])
noncomputable def o_480 (t : Tab) (P : Params) : Obj := (Obj.mk (Value.type (t.y 0)) none (Data.seq #[] 0) #[])
noncomputable def o_481 (t : Tab) (P : Params) : Obj := (Obj.mk Value.none none (Data.func (FuncData.mk (t.x 26) (t.x 26) (fdP (stA t.p 17)) (fdB (stA t.p 17)) (fdS (stA t.p 17)) 0 [] Value.none Value.none Value.none Value.none none Value.none Value.none 0)) #[])
noncomputable def o_482 (t : Tab) (P : Params) : Obj := (Obj.mk (Value.type (t.y 1)) none (Data.fields #[(Value.str (t.x 26) 625),(Value.str (t.x 26) 626),(Value.str (t.x 1) 627),(Value.int 223 0),(Value.int 2 0),(Value.int 0 0),(Value.int 0 0),(Value.int 3 0),(Value.ref 362),(Value.bool true),(Value.int 181 0),(Value.ref 363),Value.none,(Value.ref 364),(Value.ref 365),(Value.ref 366),(Value.int 632 0),(Value.int 223 0),(Value.str (t.x 1) 633)]) #[])
noncomputable def o_483 (t : Tab) (P : Params) : Obj := (Obj.mk (Value.type (t.y 5)) none (Data.func (FuncData.mk (t.x 26) (t.x 26) (fdP (stA t.p 17)) (fdB (stA t.p 17)) (fdS (stA t.p 17)) 3 [] Value.none Value.none Value.none (Value.str (t.x 4) 609) none (Value.ref 367) Value.none 0)) #[])
noncomputable def o_484 (t : Tab) (P : Params) : Obj := (Obj.mk (Value.type (t.y 0)) none (Data.seq #[] 0) #[])
noncomputable def o_485 (t : Tab) (P : Params) : Obj := (Obj.mk Value.none none (Data.fields #[]) #[])
noncomputable def o_486 (t : Tab) (P : Params) : Obj := (Obj.mk (Value.type (t.y 0)) none (Data.seq #[(Value.str (t.x 132) 638),(Value.str (t.x 133) 639),(Value.str (t.x 134) 640),(Value.str (t.x 135) 641),(Value.str (t.x 136) 642),(Value.str (t.x 137) 643),(Value.str (t.x 138) 644)] 0) #[])
noncomputable def o_487 (t : Tab) (P : Params) : Obj := (Obj.mk (Value.type (t.y 0)) none (Data.seq #[] 0) #[])
noncomputable def o_488 (t : Tab) (P : Params) : Obj := (Obj.mk Value.none none (Data.func (FuncData.mk (t.x 27) (t.x 27) (fdP (stA t.p 18)) (fdB (stA t.p 18)) (fdS (stA t.p 18)) 0 [] Value.none Value.none Value.none Value.none none Value.none Value.none 0)) #[])
noncomputable def o_489 (t : Tab) (P : Params) : Obj := (Obj.mk (Value.type (t.y 1)) none (Data.fields #[(Value.str (t.x 27) 635),(Value.str (t.x 27) 636),(Value.str (t.x 1) 637),(Value.int 227 0),(Value.int 2 0),(Value.int 0 0),(Value.int 0 0),(Value.int 3 0),(Value.ref 369),(Value.bool true),(Value.int 181 0),(Value.ref 370),Value.none,(Value.ref 371),(Value.ref 372),(Value.ref 373),(Value.int 645 0),(Value.int 227 0),(Value.str (t.x 1) 646)]) #[])
noncomputable def o_490 (t : Tab) (P : Params) : Obj := (Obj.mk (Value.type (t.y 5)) none (Data.func (FuncData.mk (t.x 27) (t.x 27) (fdP (stA t.p 18)) (fdB (stA t.p 18)) (fdS (stA t.p 18)) 3 [] Value.none Value.none Value.none (Value.str (t.x 4) 609) none (Value.ref 374) Value.none 0)) #[])
noncomputable def o_491 (t : Tab) (P : Params) : Obj := (Obj.mk (Value.type (t.y 0)) none (Data.seq #[] 0) #[])
noncomputable def o_492 (t : Tab) (P : Params) : Obj := (Obj.mk Value.none none (Data.fields #[]) #[])
noncomputable def o_493 (t : Tab) (P : Params) : Obj := (Obj.mk (Value.type (t.y 0)) none (Data.seq #[(Value.str (t.x 134) 651),(Value.str (t.x 123) 652),(Value.str (t.x 139) 653),(Value.str (t.x 140) 654),(Value.str (t.x 32) 655)] 0) #[])
noncomputable def o_494 (t : Tab) (P : Params) : Obj := (Obj.mk (Value.type (t.y 0)) none (Data.seq #[] 0) #[])
noncomputable def o_495 (t : Tab) (P : Params) : Obj := (Obj.mk Value.none none (Data.func (FuncData.mk (t.x 28) (t.x 28) (fdP (stA t.p 19)) (fdB (stA t.p 19)) (fdS (stA t.p 19)) 0 [] Value.none Value.none Value.none Value.none none Value.none Value.none 0)) #[])
noncomputable def o_496 (t : Tab) (P : Params) : Obj := (Obj.mk (Value.type (t.y 1)) none (Data.fields #[(Value.str (t.x 28) 648),(Value.str (t.x 28) 649),(Value.str (t.x 1) 650),(Value.int 236 0),(Value.int 2 0),(Value.int 0 0),(Value.int 0 0),(Value.int 3 0),(Value.ref 376),(Value.bool true),(Value.int 181 0),(Value.ref 377),Value.none,(Value.ref 378),(Value.ref 379),(Value.ref 380),(Value.int 656 0),(Value.int 236 0),(Value.str (t.x 1) 657)]) #[])
noncomputable def o_497 (t : Tab) (P : Params) : Obj := (Obj.mk (Value.type (t.y 5)) none (Data.func (FuncData.mk (t.x 28) (t.x 28) (fdP (stA t.p 19)) (fdB (stA t.p 19)) (fdS (stA t.p 19)) 3 [] Value.none Value.none Value.none (Value.str (t.x 4) 609) none (Value.ref 381) Value.none 0)) #[])
noncomputable def o_498 (t : Tab) (P : Params) : Obj := (Obj.mk (Value.type (t.y 0)) none (Data.seq #[] 0) #[])
noncomputable def o_499 (t : Tab) (P : Params) : Obj := (Obj.mk Value.none none (Data.fields #[]) #[])
noncomputable def o_500 (t : Tab) (P : Params) : Obj := (Obj.mk Value.none none (Data.func (FuncData.mk (t.x 29) (t.x 29) (fdP (stA t.p 20)) (fdB (stA t.p 20)) (fdS (stA t.p 20)) 0 [] Value.none Value.none Value.none Value.none none Value.none Value.none 0)) #[])
noncomputable def o_501 (t : Tab) (P : Params) : Obj := (Obj.mk (Value.type (t.y 1)) none (Data.fields #[(Value.str (t.x 29) 659),(Value.str (t.x 29) 660),(Value.str (t.x 1) 661),(Value.int 242 0),(Value.int 5 0),(Value.int 0 0),(Value.int 0 0),(Value.int 3 0),(Value.ref 383),(Value.bool true),(Value.int 181 0),(Value.ref 384),Value.none,Value.none,Value.none,(Value.ref 385),(Value.int 662 0),(Value.int 242 0),(Value.str (t.x 1) 663)]) #[])
noncomputable def o_502 (t : Tab) (P : Params) : Obj := (Obj.mk (Value.type (t.y 5)) none (Data.func (FuncData.mk (t.x 29) (t.x 29) (fdP (stA t.p 20)) (fdB (stA t.p 20)) (fdS (stA t.p 20)) 3 [] Value.none Value.none Value.none (Value.str (t.x 4) 609) none (Value.ref 386) Value.none 0)) #[])
noncomputable def o_503 (t : Tab) (P : Params) : Obj := (Obj.mk (Value.type (t.y 0)) none (Data.seq #[] 0) #[])
noncomputable def o_504 (t : Tab) (P : Params) : Obj := (Obj.mk Value.none none (Data.fields #[]) #[])
noncomputable def o_505 (t : Tab) (P : Params) : Obj := (Obj.mk Value.none none (Data.func (FuncData.mk (t.x 30) (t.x 30) (fdP (stA t.p 21)) (fdB (stA t.p 21)) (fdS (stA t.p 21)) 0 [] Value.none Value.none Value.none Value.none none Value.none Value.none 0)) #[])
noncomputable def o_506 (t : Tab) (P : Params) : Obj := (Obj.mk (Value.type (t.y 1)) none (Data.fields #[(Value.str (t.x 30) 665),(Value.str (t.x 30) 666),(Value.str (t.x 1) 667),(Value.int 263 0),(Value.int 4 0),(Value.int 0 0),(Value.int 0 0),(Value.int 3 0),(Value.ref 388),(Value.bool true),(Value.int 181 0),(Value.ref 389),Value.none,Value.none,Value.none,(Value.ref 390),(Value.int 668 0),(Value.int 263 0),(Value.str (t.x 1) 669)]) #[])
noncomputable def o_507 (t : Tab) (P : Params) : Obj := (Obj.mk (Value.type (t.y 5)) none (Data.func (FuncData.mk (t.x 30) (t.x 30) (fdP (stA t.p 21)) (fdB (stA t.p 21)) (fdS (stA t.p 21)) 3 [] Value.none Value.none Value.none (Value.str (t.x 4) 609) none (Value.ref 391) Value.none 0)) #[])
noncomputable def o_508 (t : Tab) (P : Params) : Obj := (Obj.mk (Value.type (t.y 0)) none (Data.seq #[] 0) #[])
noncomputable def o_509 (t : Tab) (P : Params) : Obj := (Obj.mk Value.none none (Data.fields #[]) #[])
noncomputable def o_510 (t : Tab) (P : Params) : Obj := (Obj.mk Value.none none (Data.func (FuncData.mk (t.x 31) (t.x 31) (fdP (stA t.p 22)) (fdB (stA t.p 22)) (fdS (stA t.p 22)) 0 [] Value.none Value.none Value.none Value.none none Value.none Value.none 0)) #[])
noncomputable def o_511 (t : Tab) (P : Params) : Obj := (Obj.mk (Value.type (t.y 1)) none (Data.fields #[(Value.str (t.x 31) 671),(Value.str (t.x 31) 672),(Value.str (t.x 1) 673),(Value.int 289 0),(Value.int 1 0),(Value.int 0 0),(Value.int 0 0),(Value.int 3 0),(Value.ref 393),(Value.bool true),(Value.int 181 0),(Value.ref 394),Value.none,Value.none,Value.none,(Value.ref 395),(Value.int 674 0),(Value.int 289 0),(Value.str (t.x 1) 675)]) #[])
noncomputable def o_512 (t : Tab) (P : Params) : Obj := (Obj.mk (Value.type (t.y 5)) none (Data.func (FuncData.mk (t.x 31) (t.x 31) (fdP (stA t.p 22)) (fdB (stA t.p 22)) (fdS (stA t.p 22)) 3 [] Value.none Value.none Value.none (Value.str (t.x 4) 609) none (Value.ref 396) Value.none 0)) #[])
noncomputable def heap0 (t : Tab) (P : Params) : Heap := ⟨⟨[W.boot_o_0 P,W.boot_o_1 P,W.boot_o_2 P,W.boot_o_3 P,W.boot_o_4 P,W.boot_o_5 P,W.boot_o_6 P,W.boot_o_7 P,W.boot_o_8 P,W.boot_o_9 P,W.boot_o_10 P,o_43 t P,o_44 t P,o_45 t P,o_46 t P]⟩, {}⟩
noncomputable def heapF (t : Tab) (P : Params) : Heap := ⟨⟨[W.boot_o_0 P,W.boot_o_1 P,W.boot_o_2 P,o_447 t P,W.boot_o_4 P,W.boot_o_5 P,W.boot_o_6 P,W.boot_o_7 P,W.boot_o_8 P,W.boot_o_9 P,W.boot_o_10 P,o_43 t P,o_448 t P,o_45 t P,o_46 t P,o_51 t P,o_52 t P,o_53 t P,o_54 t P,o_55 t P,o_56 t P,o_57 t P,o_58 t P,o_59 t P,o_60 t P,o_61 t P,o_62 t P,o_63 t P,o_64 t P,o_65 t P,o_66 t P,o_67 t P,o_68 t P,o_69 t P,o_70 t P,o_73 t P,o_74 t P,o_75 t P,o_76 t P,o_77 t P,o_78 t P,o_79 t P,o_80 t P,o_81 t P,o_82 t P,o_83 t P,o_84 t P,o_85 t P,o_88 t P,o_89 t P,o_90 t P,o_91 t P,o_92 t P,o_93 t P,o_94 t P,o_95 t P,o_96 t P,o_97 t P,o_98 t P,o_99 t P,o_100 t P,o_101 t P,o_102 t P,o_103 t P,o_104 t P,o_105 t P,o_106 t P,o_107 t P,o_108 t P,o_109 t P,o_110 t P,o_111 t P,o_112 t P,o_113 t P,o_114 t P,o_115 t P,o_116 t P,o_117 t P,o_118 t P,o_119 t P,o_120 t P,o_121 t P,o_122 t P,o_123 t P,o_124 t P,o_125 t P,o_126 t P,o_127 t P,o_128 t P,o_129 t P,o_130 t P,o_131 t P,o_132 t P,o_133 t P,o_134 t P,o_135 t P,o_136 t P,o_137 t P,o_138 t P,o_139 t P,o_140 t P,o_141 t P,o_142 t P,o_143 t P,o_144 t P,o_145 t P,o_146 t P,o_147 t P,o_148 t P,o_149 t P,o_150 t P,o_151 t P,o_152 t P,o_153 t P,o_154 t P,o_155 t P,o_156 t P,o_157 t P,o_158 t P,o_159 t P,o_160 t P,o_161 t P,o_162 t P,o_163 t P,o_164 t P,o_165 t P,o_166 t P,o_167 t P,o_168 t P,o_169 t P,o_170 t P,o_171 t P,o_172 t P,o_173 t P,o_174 t P,o_175 t P,o_176 t P,o_177 t P,o_178 t P,o_179 t P,o_180 t P,o_181 t P,o_182 t P,o_183 t P,o_184 t P,o_185 t P,o_186 t P,o_187 t P,o_188 t P,o_189 t P,o_190 t P,o_191 t P,o_192 t P,o_193 t P,o_194 t P,o_195 t P,o_196 t P,o_197 t P,o_198 t P,o_199 t P,o_200 t P,o_201 t P,o_202 t P,o_203 t P,o_204 t P,o_205 t P,o_206 t P,o_207 t P,o_208 t P,o_209 t P,o_210 t P,o_211 t P,o_212 t P,o_213 t P,o_214 t P,o_215 t P,o_216 t P,o_217 t P,o_218 t P,o_219 t P,o_220 t P,o_221 t P,o_222 t P,o_223 t P,o_224 t P,o_225 t P,o_226 t P,o_227 t P,o_228 t P,o_229 t P,o_230 t P,o_231 t P,o_232 t P,o_233 t P,o_234 t P,o_235 t P,o_236 t P,o_237 t P,o_309 t P,o_310 t P,o_311 t P,o_312 t P,o_313 t P,o_314 t P,o_315 t P,o_316 t P,o_317 t P,o_318 t P,o_319 t P,o_320 t P,o_321 t P,o_322 t P,o_323 t P,o_324 t P,o_325 t P,o_326 t P,o_327 t P,o_328 t P,o_329 t P,o_330 t P,o_331 t P,o_332 t P,o_333 t P,o_334 t P,o_335 t P,o_336 t P,o_337 t P,o_338 t P,o_339 t P,o_340 t P,o_341 t P,o_342 t P,o_343 t P,o_344 t P,o_345 t P,o_346 t P,o_347 t P,o_348 t P,o_349 t P,o_350 t P,o_353 t P,o_354 t P,o_355 t P,o_356 t P,o_357 t P,o_358 t P,o_359 t P,o_360 t P,o_361 t P,o_362 t P,o_363 t P,o_364 t P,o_365 t P,o_366 t P,o_367 t P,o_368 t P,o_369 t P,o_370 t P,o_371 t P,o_372 t P,o_373 t P,o_374 t P,o_375 t P,o_376 t P,o_377 t P,o_378 t P,o_379 t P,o_380 t P,o_381 t P,o_382 t P,o_383 t P,o_384 t P,o_385 t P,o_386 t P,o_387 t P,o_388 t P,o_389 t P,o_390 t P,o_391 t P,o_392 t P,o_393 t P,o_394 t P,o_395 t P,o_396 t P,o_397 t P,o_398 t P,o_399 t P,o_400 t P,o_401 t P,o_402 t P,o_403 t P,o_404 t P,o_405 t P,o_406 t P,o_407 t P,o_408 t P,o_409 t P,o_410 t P,o_411 t P,o_412 t P,o_413 t P,o_414 t P,o_415 t P,o_416 t P,o_417 t P,o_418 t P,o_419 t P,o_420 t P,o_421 t P,o_422 t P,o_423 t P,o_424 t P,o_425 t P,o_426 t P,o_427 t P,o_428 t P,o_429 t P,o_430 t P,o_431 t P,o_432 t P,o_433 t P,o_434 t P,o_435 t P,o_436 t P,o_437 t P,o_438 t P,o_439 t P,o_440 t P,o_441 t P,o_442 t P,o_443 t P,o_444 t P,o_445 t P,o_446 t P,o_449 t P,o_450 t P,o_451 t P,o_452 t P,o_453 t P,o_454 t P,o_455 t P,o_456 t P,o_457 t P,o_458 t P,o_459 t P,o_460 t P,o_461 t P,o_462 t P,o_463 t P,o_464 t P,o_465 t P,o_466 t P,o_467 t P,o_468 t P,o_469 t P,o_470 t P,o_471 t P,o_472 t P,o_473 t P,o_474 t P,o_475 t P,o_476 t P,o_477 t P,o_478 t P,o_479 t P,o_480 t P,o_481 t P,o_482 t P,o_483 t P,o_484 t P,o_485 t P,o_486 t P,o_487 t P,o_488 t P,o_489 t P,o_490 t P,o_491 t P,o_492 t P,o_493 t P,o_494 t P,o_495 t P,o_496 t P,o_497 t P,o_498 t P,o_499 t P,o_500 t P,o_501 t P,o_502 t P,o_503 t P,o_504 t P,o_505 t P,o_506 t P,o_507 t P,o_508 t P,o_509 t P,o_510 t P,o_511 t P,o_512 t P]⟩, {}⟩
noncomputable def tree0 (t : Tab) (P : Params) : W.BT := (.node (W.boot_o_0 P) (.node (W.boot_o_1 P) (.node (W.boot_o_3 P) (.node (W.boot_o_7 P) .nil .nil) (.node (o_43 t P) .nil .nil)) (.node (W.boot_o_5 P) (.node (W.boot_o_9 P) .nil .nil) (.node (o_45 t P) .nil .nil))) (.node (W.boot_o_2 P) (.node (W.boot_o_4 P) (.node (W.boot_o_8 P) .nil .nil) (.node (o_44 t P) .nil .nil)) (.node (W.boot_o_6 P) (.node (W.boot_o_10 P) .nil .nil) (.node (o_46 t P) .nil .nil))))
noncomputable def treeF (t : Tab) (P : Params) : W.BT := (.node (W.boot_o_0 P) (.node (W.boot_o_1 P) (.node (o_447 t P) (.node (W.boot_o_7 P) (.node (o_51 t P) (.node (o_67 t P) (.node (o_103 t P) (.node (o_167 t P) (.node (o_368 t P) .nil .nil) (.node (o_498 t P) .nil .nil)) (.node (o_231 t P) (.node (o_432 t P) .nil .nil) .nil)) (.node (o_135 t P) (.node (o_199 t P) (.node (o_400 t P) .nil .nil) .nil) (.node (o_334 t P) (.node (o_466 t P) .nil .nil) .nil))) (.node (o_85 t P) (.node (o_119 t P) (.node (o_183 t P) (.node (o_384 t P) .nil .nil) .nil) (.node (o_318 t P) (.node (o_450 t P) .nil .nil) .nil)) (.node (o_151 t P) (.node (o_215 t P) (.node (o_416 t P) .nil .nil) .nil) (.node (o_350 t P) (.node (o_482 t P) .nil .nil) .nil)))) (.node (o_59 t P) (.node (o_77 t P) (.node (o_111 t P) (.node (o_175 t P) (.node (o_376 t P) .nil .nil) (.node (o_506 t P) .nil .nil)) (.node (o_310 t P) (.node (o_440 t P) .nil .nil) .nil)) (.node (o_143 t P) (.node (o_207 t P) (.node (o_408 t P) .nil .nil) .nil) (.node (o_342 t P) (.node (o_474 t P) .nil .nil) .nil))) (.node (o_95 t P) (.node (o_127 t P) (.node (o_191 t P) (.node (o_392 t P) .nil .nil) .nil) (.node (o_326 t P) (.node (o_458 t P) .nil .nil) .nil)) (.node (o_159 t P) (.node (o_223 t P) (.node (o_424 t P) .nil .nil) .nil) (.node (o_360 t P) (.node (o_490 t P) .nil .nil) .nil))))) (.node (o_43 t P) (.node (o_55 t P) (.node (o_73 t P) (.node (o_107 t P) (.node (o_171 t P) (.node (o_372 t P) .nil .nil) (.node (o_502 t P) .nil .nil)) (.node (o_235 t P) (.node (o_436 t P) .nil .nil) .nil)) (.node (o_139 t P) (.node (o_203 t P) (.node (o_404 t P) .nil .nil) .nil) (.node (o_338 t P) (.node (o_470 t P) .nil .nil) .nil))) (.node (o_91 t P) (.node (o_123 t P) (.node (o_187 t P) (.node (o_388 t P) .nil .nil) .nil) (.node (o_322 t P) (.node (o_454 t P) .nil .nil) .nil)) (.node (o_155 t P) (.node (o_219 t P) (.node (o_420 t P) .nil .nil) .nil) (.node (o_356 t P) (.node (o_486 t P) .nil .nil) .nil)))) (.node (o_63 t P) (.node (o_81 t P) (.node (o_115 t P) (.node (o_179 t P) (.node (o_380 t P) .nil .nil) (.node (o_510 t P) .nil .nil)) (.node (o_314 t P) (.node (o_444 t P) .nil .nil) .nil)) (.node (o_147 t P) (.node (o_211 t P) (.node (o_412 t P) .nil .nil) .nil) (.node (o_346 t P) (.node (o_478 t P) .nil .nil) .nil))) (.node (o_99 t P) (.node (o_131 t P) (.node (o_195 t P) (.node (o_396 t P) .nil .nil) .nil) (.node (o_330 t P) (.node (o_462 t P) .nil .nil) .nil)) (.node (o_163 t P) (.node (o_227 t P) (.node (o_428 t P) .nil .nil) .nil) (.node (o_364 t P) (.node (o_494 t P) .nil .nil) .nil)))))) (.node (W.boot_o_5 P) (.node (W.boot_o_9 P) (.node (o_53 t P) (.node (o_69 t P) (.node (o_105 t P) (.node (o_169 t P) (.node (o_370 t P) .nil .nil) (.node (o_500 t P) .nil .nil)) (.node (o_233 t P) (.node (o_434 t P) .nil .nil) .nil)) (.node (o_137 t P) (.node (o_201 t P) (.node (o_402 t P) .nil .nil) .nil) (.node (o_336 t P) (.node (o_468 t P) .nil .nil) .nil))) (.node (o_89 t P) (.node (o_121 t P) (.node (o_185 t P) (.node (o_386 t P) .nil .nil) .nil) (.node (o_320 t P) (.node (o_452 t P) .nil .nil) .nil)) (.node (o_153 t P) (.node (o_217 t P) (.node (o_418 t P) .nil .nil) .nil) (.node (o_354 t P) (.node (o_484 t P) .nil .nil) .nil)))) (.node (o_61 t P) (.node (o_79 t P) (.node (o_113 t P) (.node (o_177 t P) (.node (o_378 t P) .nil .nil) (.node (o_508 t P) .nil .nil)) (.node (o_312 t P) (.node (o_442 t P) .nil .nil) .nil)) (.node (o_145 t P) (.node (o_209 t P) (.node (o_410 t P) .nil .nil) .nil) (.node (o_344 t P) (.node (o_476 t P) .nil .nil) .nil))) (.node (o_97 t P) (.node (o_129 t P) (.node (o_193 t P) (.node (o_394 t P) .nil .nil) .nil) (.node (o_328 t P) (.node (o_460 t P) .nil .nil) .nil)) (.node (o_161 t P) (.node (o_225 t P) (.node (o_426 t P) .nil .nil) .nil) (.node (o_362 t P) (.node (o_492 t P) .nil .nil) .nil))))) (.node (o_45 t P) (.node (o_57 t P) (.node (o_75 t P) (.node (o_109 t P) (.node (o_173 t P) (.node (o_374 t P) .nil .nil) (.node (o_504 t P) .nil .nil)) (.node (o_237 t P) (.node (o_438 t P) .nil .nil) .nil)) (.node (o_141 t P) (.node (o_205 t P) (.node (o_406 t P) .nil .nil) .nil) (.node (o_340 t P) (.node (o_472 t P) .nil .nil) .nil))) (.node (o_93 t P) (.node (o_125 t P) (.node (o_189 t P) (.node (o_390 t P) .nil .nil) .nil) (.node (o_324 t P) (.node (o_456 t P) .nil .nil) .nil)) (.node (o_157 t P) (.node (o_221 t P) (.node (o_422 t P) .nil .nil) .nil) (.node (o_358 t P) (.node (o_488 t P) .nil .nil) .nil)))) (.node (o_65 t P) (.node (o_83 t P) (.node (o_117 t P) (.node (o_181 t P) (.node (o_382 t P) .nil .nil) (.node (o_512 t P) .nil .nil)) (.node (o_316 t P) (.node (o_446 t P) .nil .nil) .nil)) (.node (o_149 t P) (.node (o_213 t P) (.node (o_414 t P) .nil .nil) .nil) (.node (o_348 t P) (.node (o_480 t P) .nil .nil) .nil))) (.node (o_101 t P) (.node (o_133 t P) (.node (o_197 t P) (.node (o_398 t P) .nil .nil) .nil) (.node (o_332 t P) (.node (o_464 t P) .nil .nil) .nil)) (.node (o_165 t P) (.node (o_229 t P) (.node (o_430 t P) .nil .nil) .nil) (.node (o_366 t P) (.node (o_496 t P) .nil .nil) .nil))))))) (.node (W.boot_o_2 P) (.node (W.boot_o_4 P) (.node (W.boot_o_8 P) (.node (o_52 t P) (.node (o_68 t P) (.node (o_104 t P) (.node (o_168 t P) (.node (o_369 t P) .nil .nil) (.node (o_499 t P) .nil .nil)) (.node (o_232 t P) (.node (o_433 t P) .nil .nil) .nil)) (.node (o_136 t P) (.node (o_200 t P) (.node (o_401 t P) .nil .nil) .nil) (.node (o_335 t P) (.node (o_467 t P) .nil .nil) .nil))) (.node (o_88 t P) (.node (o_120 t P) (.node (o_184 t P) (.node (o_385 t P) .nil .nil) .nil) (.node (o_319 t P) (.node (o_451 t P) .nil .nil) .nil)) (.node (o_152 t P) (.node (o_216 t P) (.node (o_417 t P) .nil .nil) .nil) (.node (o_353 t P) (.node (o_483 t P) .nil .nil) .nil)))) (.node (o_60 t P) (.node (o_78 t P) (.node (o_112 t P) (.node (o_176 t P) (.node (o_377 t P) .nil .nil) (.node (o_507 t P) .nil .nil)) (.node (o_311 t P) (.node (o_441 t P) .nil .nil) .nil)) (.node (o_144 t P) (.node (o_208 t P) (.node (o_409 t P) .nil .nil) .nil) (.node (o_343 t P) (.node (o_475 t P) .nil .nil) .nil))) (.node (o_96 t P) (.node (o_128 t P) (.node (o_192 t P) (.node (o_393 t P) .nil .nil) .nil) (.node (o_327 t P) (.node (o_459 t P) .nil .nil) .nil)) (.node (o_160 t P) (.node (o_224 t P) (.node (o_425 t P) .nil .nil) .nil) (.node (o_361 t P) (.node (o_491 t P) .nil .nil) .nil))))) (.node (o_448 t P) (.node (o_56 t P) (.node (o_74 t P) (.node (o_108 t P) (.node (o_172 t P) (.node (o_373 t P) .nil .nil) (.node (o_503 t P) .nil .nil)) (.node (o_236 t P) (.node (o_437 t P) .nil .nil) .nil)) (.node (o_140 t P) (.node (o_204 t P) (.node (o_405 t P) .nil .nil) .nil) (.node (o_339 t P) (.node (o_471 t P) .nil .nil) .nil))) (.node (o_92 t P) (.node (o_124 t P) (.node (o_188 t P) (.node (o_389 t P) .nil .nil) .nil) (.node (o_323 t P) (.node (o_455 t P) .nil .nil) .nil)) (.node (o_156 t P) (.node (o_220 t P) (.node (o_421 t P) .nil .nil) .nil) (.node (o_357 t P) (.node (o_487 t P) .nil .nil) .nil)))) (.node (o_64 t P) (.node (o_82 t P) (.node (o_116 t P) (.node (o_180 t P) (.node (o_381 t P) .nil .nil) (.node (o_511 t P) .nil .nil)) (.node (o_315 t P) (.node (o_445 t P) .nil .nil) .nil)) (.node (o_148 t P) (.node (o_212 t P) (.node (o_413 t P) .nil .nil) .nil) (.node (o_347 t P) (.node (o_479 t P) .nil .nil) .nil))) (.node (o_100 t P) (.node (o_132 t P) (.node (o_196 t P) (.node (o_397 t P) .nil .nil) .nil) (.node (o_331 t P) (.node (o_463 t P) .nil .nil) .nil)) (.node (o_164 t P) (.node (o_228 t P) (.node (o_429 t P) .nil .nil) .nil) (.node (o_365 t P) (.node (o_495 t P) .nil .nil) .nil)))))) (.node (W.boot_o_6 P) (.node (W.boot_o_10 P) (.node (o_54 t P) (.node (o_70 t P) (.node (o_106 t P) (.node (o_170 t P) (.node (o_371 t P) .nil .nil) (.node (o_501 t P) .nil .nil)) (.node (o_234 t P) (.node (o_435 t P) .nil .nil) .nil)) (.node (o_138 t P) (.node (o_202 t P) (.node (o_403 t P) .nil .nil) .nil) (.node (o_337 t P) (.node (o_469 t P) .nil .nil) .nil))) (.node (o_90 t P) (.node (o_122 t P) (.node (o_186 t P) (.node (o_387 t P) .nil .nil) .nil) (.node (o_321 t P) (.node (o_453 t P) .nil .nil) .nil)) (.node (o_154 t P) (.node (o_218 t P) (.node (o_419 t P) .nil .nil) .nil) (.node (o_355 t P) (.node (o_485 t P) .nil .nil) .nil)))) (.node (o_62 t P) (.node (o_80 t P) (.node (o_114 t P) (.node (o_178 t P) (.node (o_379 t P) .nil .nil) (.node (o_509 t P) .nil .nil)) (.node (o_313 t P) (.node (o_443 t P) .nil .nil) .nil)) (.node (o_146 t P) (.node (o_210 t P) (.node (o_411 t P) .nil .nil) .nil) (.node (o_345 t P) (.node (o_477 t P) .nil .nil) .nil))) (.node (o_98 t P) (.node (o_130 t P) (.node (o_194 t P) (.node (o_395 t P) .nil .nil) .nil) (.node (o_329 t P) (.node (o_461 t P) .nil .nil) .nil)) (.node (o_162 t P) (.node (o_226 t P) (.node (o_427 t P) .nil .nil) .nil) (.node (o_363 t P) (.node (o_493 t P) .nil .nil) .nil))))) (.node (o_46 t P) (.node (o_58 t P) (.node (o_76 t P) (.node (o_110 t P) (.node (o_174 t P) (.node (o_375 t P) .nil .nil) (.node (o_505 t P) .nil .nil)) (.node (o_309 t P) (.node (o_439 t P) .nil .nil) .nil)) (.node (o_142 t P) (.node (o_206 t P) (.node (o_407 t P) .nil .nil) .nil) (.node (o_341 t P) (.node (o_473 t P) .nil .nil) .nil))) (.node (o_94 t P) (.node (o_126 t P) (.node (o_190 t P) (.node (o_391 t P) .nil .nil) .nil) (.node (o_325 t P) (.node (o_457 t P) .nil .nil) .nil)) (.node (o_158 t P) (.node (o_222 t P) (.node (o_423 t P) .nil .nil) .nil) (.node (o_359 t P) (.node (o_489 t P) .nil .nil) .nil)))) (.node (o_66 t P) (.node (o_84 t P) (.node (o_118 t P) (.node (o_182 t P) (.node (o_383 t P) .nil .nil) .nil) (.node (o_317 t P) (.node (o_449 t P) .nil .nil) .nil)) (.node (o_150 t P) (.node (o_214 t P) (.node (o_415 t P) .nil .nil) .nil) (.node (o_349 t P) (.node (o_481 t P) .nil .nil) .nil))) (.node (o_102 t P) (.node (o_134 t P) (.node (o_198 t P) (.node (o_399 t P) .nil .nil) .nil) (.node (o_333 t P) (.node (o_465 t P) .nil .nil) .nil)) (.node (o_166 t P) (.node (o_230 t P) (.node (o_431 t P) .nil .nil) .nil) (.node (o_367 t P) (.node (o_497 t P) .nil .nil) .nil))))))))
noncomputable def frag (t : Tab) (P : Params) : W.Frag := [(nat_lit 2,W.boot_o_2 P),(nat_lit 3,o_447 t P),(nat_lit 15,o_51 t P),(nat_lit 17,o_53 t P),(nat_lit 18,o_54 t P),(nat_lit 20,o_56 t P),(nat_lit 21,o_57 t P),(nat_lit 22,o_58 t P),(nat_lit 29,o_65 t P),(nat_lit 30,o_66 t P),(nat_lit 31,o_67 t P),(nat_lit 32,o_68 t P),(nat_lit 35,o_73 t P),(nat_lit 42,o_80 t P),(nat_lit 43,o_81 t P),(nat_lit 44,o_82 t P),(nat_lit 45,o_83 t P),(nat_lit 55,o_95 t P),(nat_lit 56,o_96 t P),(nat_lit 58,o_98 t P),(nat_lit 59,o_99 t P),(nat_lit 61,o_101 t P),(nat_lit 62,o_102 t P),(nat_lit 63,o_103 t P),(nat_lit 65,o_105 t P),(nat_lit 66,o_106 t P),(nat_lit 68,o_108 t P),(nat_lit 69,o_109 t P),(nat_lit 70,o_110 t P),(nat_lit 71,o_111 t P),(nat_lit 73,o_113 t P),(nat_lit 74,o_114 t P),(nat_lit 76,o_116 t P),(nat_lit 77,o_117 t P),(nat_lit 78,o_118 t P),(nat_lit 79,o_119 t P),(nat_lit 81,o_121 t P),(nat_lit 82,o_122 t P),(nat_lit 84,o_124 t P),(nat_lit 85,o_125 t P),(nat_lit 86,o_126 t P),(nat_lit 88,o_128 t P),(nat_lit 89,o_129 t P),(nat_lit 91,o_131 t P),(nat_lit 92,o_132 t P),(nat_lit 93,o_133 t P),(nat_lit 95,o_135 t P),(nat_lit 96,o_136 t P),(nat_lit 98,o_138 t P),(nat_lit 99,o_139 t P),(nat_lit 100,o_140 t P),(nat_lit 102,o_142 t P),(nat_lit 103,o_143 t P),(nat_lit 105,o_145 t P),(nat_lit 106,o_146 t P),(nat_lit 107,o_147 t P),(nat_lit 109,o_149 t P),(nat_lit 110,o_150 t P),(nat_lit 112,o_152 t P),(nat_lit 113,o_153 t P),(nat_lit 114,o_154 t P),(nat_lit 116,o_156 t P),(nat_lit 117,o_157 t P),(nat_lit 119,o_159 t P),(nat_lit 120,o_160 t P),(nat_lit 121,o_161 t P),(nat_lit 123,o_163 t P),(nat_lit 124,o_164 t P),(nat_lit 126,o_166 t P),(nat_lit 127,o_167 t P),(nat_lit 128,o_168 t P),(nat_lit 130,o_170 t P),(nat_lit 131,o_171 t P),(nat_lit 133,o_173 t P),(nat_lit 134,o_174 t P),(nat_lit 135,o_175 t P),(nat_lit 137,o_177 t P),(nat_lit 138,o_178 t P),(nat_lit 140,o_180 t P),(nat_lit 141,o_181 t P),(nat_lit 142,o_182 t P),(nat_lit 144,o_184 t P),(nat_lit 145,o_185 t P),(nat_lit 147,o_187 t P),(nat_lit 148,o_188 t P),(nat_lit 149,o_189 t P),(nat_lit 151,o_191 t P),(nat_lit 152,o_192 t P),(nat_lit 154,o_194 t P),(nat_lit 155,o_195 t P),(nat_lit 156,o_196 t P),(nat_lit 158,o_198 t P),(nat_lit 159,o_199 t P),(nat_lit 161,o_201 t P),(nat_lit 162,o_202 t P),(nat_lit 163,o_203 t P),(nat_lit 165,o_205 t P),(nat_lit 166,o_206 t P),(nat_lit 168,o_208 t P),(nat_lit 169,o_209 t P),(nat_lit 170,o_210 t P),(nat_lit 172,o_212 t P),(nat_lit 173,o_213 t P),(nat_lit 175,o_215 t P),(nat_lit 176,o_216 t P),(nat_lit 177,o_217 t P),(nat_lit 179,o_219 t P),(nat_lit 180,o_220 t P),(nat_lit 182,o_222 t P),(nat_lit 183,o_223 t P),(nat_lit 184,o_224 t P),(nat_lit 186,o_226 t P),(nat_lit 187,o_227 t P),(nat_lit 189,o_229 t P),(nat_lit 190,o_230 t P),(nat_lit 191,o_231 t P),(nat_lit 192,o_232 t P),(nat_lit 193,o_233 t P),(nat_lit 194,o_234 t P),(nat_lit 195,o_235 t P),(nat_lit 198,o_309 t P),(nat_lit 200,o_311 t P),(nat_lit 201,o_312 t P),(nat_lit 203,o_314 t P),(nat_lit 204,o_315 t P),(nat_lit 212,o_323 t P),(nat_lit 214,o_325 t P),(nat_lit 215,o_326 t P),(nat_lit 217,o_328 t P),(nat_lit 218,o_329 t P),(nat_lit 219,o_330 t P),(nat_lit 221,o_332 t P),(nat_lit 222,o_333 t P),(nat_lit 224,o_335 t P),(nat_lit 225,o_336 t P),(nat_lit 226,o_337 t P),(nat_lit 228,o_339 t P),(nat_lit 229,o_340 t P),(nat_lit 231,o_342 t P),(nat_lit 232,o_343 t P),(nat_lit 233,o_344 t P),(nat_lit 234,o_345 t P),(nat_lit 235,o_346 t P),(nat_lit 236,o_347 t P),(nat_lit 237,o_348 t P),(nat_lit 247,o_360 t P),(nat_lit 248,o_361 t P),(nat_lit 249,o_362 t P),(nat_lit 251,o_364 t P),(nat_lit 252,o_365 t P),(nat_lit 254,o_367 t P),(nat_lit 255,o_368 t P),(nat_lit 256,o_369 t P),(nat_lit 257,o_370 t P),(nat_lit 259,o_372 t P),(nat_lit 260,o_373 t P),(nat_lit 262,o_375 t P),(nat_lit 263,o_376 t P),(nat_lit 264,o_377 t P),(nat_lit 266,o_379 t P),(nat_lit 267,o_380 t P),(nat_lit 269,o_382 t P),(nat_lit 270,o_383 t P),(nat_lit 271,o_384 t P),(nat_lit 273,o_386 t P),(nat_lit 274,o_387 t P),(nat_lit 276,o_389 t P),(nat_lit 277,o_390 t P),(nat_lit 278,o_391 t P),(nat_lit 280,o_393 t P),(nat_lit 281,o_394 t P),(nat_lit 283,o_396 t P),(nat_lit 284,o_397 t P),(nat_lit 285,o_398 t P),(nat_lit 287,o_400 t P),(nat_lit 288,o_401 t P),(nat_lit 290,o_403 t P),(nat_lit 291,o_404 t P),(nat_lit 292,o_405 t P),(nat_lit 294,o_407 t P),(nat_lit 295,o_408 t P),(nat_lit 297,o_410 t P),(nat_lit 298,o_411 t P),(nat_lit 299,o_412 t P),(nat_lit 301,o_414 t P),(nat_lit 302,o_415 t P),(nat_lit 304,o_417 t P),(nat_lit 305,o_418 t P),(nat_lit 306,o_419 t P),(nat_lit 308,o_421 t P),(nat_lit 309,o_422 t P),(nat_lit 311,o_424 t P),(nat_lit 312,o_425 t P),(nat_lit 313,o_426 t P),(nat_lit 315,o_428 t P),(nat_lit 316,o_429 t P),(nat_lit 318,o_431 t P),(nat_lit 319,o_432 t P),(nat_lit 320,o_433 t P),(nat_lit 322,o_435 t P),(nat_lit 323,o_436 t P),(nat_lit 325,o_438 t P),(nat_lit 326,o_439 t P),(nat_lit 327,o_440 t P),(nat_lit 328,o_441 t P),(nat_lit 329,o_442 t P),(nat_lit 330,o_443 t P),(nat_lit 331,o_444 t P),(nat_lit 334,o_449 t P),(nat_lit 336,o_451 t P),(nat_lit 337,o_452 t P),(nat_lit 339,o_454 t P),(nat_lit 340,o_455 t P),(nat_lit 341,o_456 t P),(nat_lit 343,o_458 t P),(nat_lit 344,o_459 t P),(nat_lit 346,o_461 t P),(nat_lit 347,o_462 t P),(nat_lit 348,o_463 t P),(nat_lit 350,o_465 t P),(nat_lit 351,o_466 t P),(nat_lit 353,o_468 t P),(nat_lit 354,o_469 t P),(nat_lit 355,o_470 t P),(nat_lit 357,o_472 t P),(nat_lit 358,o_473 t P),(nat_lit 360,o_475 t P),(nat_lit 361,o_476 t P),(nat_lit 362,o_477 t P),(nat_lit 364,o_479 t P),(nat_lit 365,o_480 t P),(nat_lit 367,o_482 t P),(nat_lit 368,o_483 t P),(nat_lit 369,o_484 t P),(nat_lit 371,o_486 t P),(nat_lit 372,o_487 t P),(nat_lit 374,o_489 t P),(nat_lit 375,o_490 t P),(nat_lit 376,o_491 t P),(nat_lit 378,o_493 t P),(nat_lit 379,o_494 t P),(nat_lit 381,o_496 t P),(nat_lit 382,o_497 t P),(nat_lit 383,o_498 t P),(nat_lit 386,o_501 t P),(nat_lit 387,o_502 t P),(nat_lit 388,o_503 t P),(nat_lit 391,o_506 t P),(nat_lit 392,o_507 t P),(nat_lit 393,o_508 t P),(nat_lit 396,o_511 t P),(nat_lit 397,o_512 t P)]
noncomputable def addrs : List Addr := [2,3,15,17,18,20,21,22,29,30,31,32,35,42,43,44,45,55,56,58,59,61,62,63,65,66,68,69,70,71,73,74,76,77,78,79,81,82,84,85,86,88,89,91,92,93,95,96,98,99,100,102,103,105,106,107,109,110,112,113,114,116,117,119,120,121,123,124,126,127,128,130,131,133,134,135,137,138,140,141,142,144,145,147,148,149,151,152,154,155,156,158,159,161,162,163,165,166,168,169,170,172,173,175,176,177,179,180,182,183,184,186,187,189,190,191,192,193,194,195,198,200,201,203,204,212,214,215,217,218,219,221,222,224,225,226,228,229,231,232,233,234,235,236,237,247,248,249,251,252,254,255,256,257,259,260,262,263,264,266,267,269,270,271,273,274,276,277,278,280,281,283,284,285,287,288,290,291,292,294,295,297,298,299,301,302,304,305,306,308,309,311,312,313,315,316,318,319,320,322,323,325,326,327,328,329,330,331,334,336,337,339,340,341,343,344,346,347,348,350,351,353,354,355,357,358,360,361,362,364,365,367,368,369,371,372,374,375,376,378,379,381,382,383,386,387,388,391,392,393,396,397]
noncomputable def nx : List Stmt → List Stmt
  | _ :: l => l
  | [] => []
noncomputable def hdS : List Stmt → Stmt
  | s :: _ => s
  | [] => .Pass ⟨0,0,0,0⟩
noncomputable def clsB : Stmt → List Stmt
  | .ClassDef _ _ _ b _ _ _ _ _ _ _ => b
  | _ => []
inductive Wr {α : Type} (x : α) : Type
  | mk : Wr x
/-- the heap; its functions' parameters, bodies and scopes are taken out of the given program -/
noncomputable def hd.heap_39 : Params → W.Frag := fun P => by
  refine (fun (x : W.Frag) (_ : Wr (α := List (Arguments × FuncBody × Scope)) [(?p0, ?b0, ?s0), (?p1, ?b1, ?s1), (?p2, ?b2, ?s2), (?p3, ?b3, ?s3), (?p4, ?b4, ?s4), (?p5, ?b5, ?s5), (?p6, ?b6, ?s6), (?p7, ?b7, ?s7), (?p8, ?b8, ?s8), (?p9, ?b9, ?s9), (?p10, ?b10, ?s10), (?p11, ?b11, ?s11), (?p12, ?b12, ?s12), (?p13, ?b13, ?s13), (?p14, ?b14, ?s14), (?p15, ?b15, ?s15), (?p16, ?b16, ?s16), (?p17, ?b17, ?s17), (?p18, ?b18, ?s18), (?p19, ?b19, ?s19), (?p20, ?b20, ?s20), (?p21, ?b21, ?s21), (?p22, ?b22, ?s22), (?p23, ?b23, ?s23), (?p24, ?b24, ?s24), (?p25, ?b25, ?s25), (?p26, ?b26, ?s26), (?p27, ?b27, ?s27), (?p28, ?b28, ?s28), (?p29, ?b29, ?s29), (?p30, ?b30, ?s30), (?p31, ?b31, ?s31), (?p32, ?b32, ?s32), (?p33, ?b33, ?s33), (?p34, ?b34, ?s34), (?p35, ?b35, ?s35), (?p36, ?b36, ?s36), (?p37, ?b37, ?s37), (?p38, ?b38, ?s38), (?p39, ?b39, ?s39), (?p40, ?b40, ?s40), (?p41, ?b41, ?s41), (?p42, ?b42, ?s42), (?p43, ?b43, ?s43), (?p44, ?b44, ?s44)]) => x) ((nat_lit 2,(Obj.mk Value.none none (Data.dict #[] 0) #[])) ::
(nat_lit 3,(Obj.mk (Value.type "dict") none (Data.dict #[(DictEntry.mk (PyData.keyHash P (Str.ofString "__name__")) (Value.str (Str.ofString "__name__") 165) (Value.str (Str.ofString "law_ix0004_01") 609)),(DictEntry.mk (PyData.keyHash P (Str.ofString "__doc__")) (Value.str (Str.ofString "__doc__") 166) Value.none),(DictEntry.mk (PyData.keyHash P (Str.ofString "__package__")) (Value.str (Str.ofString "__package__") 167) Value.none),(DictEntry.mk (PyData.keyHash P (Str.ofString "__loader__")) (Value.str (Str.ofString "__loader__") 168) (Value.builtin "__main__.__loader__#opaque")),(DictEntry.mk (PyData.keyHash P (Str.ofString "__spec__")) (Value.str (Str.ofString "__spec__") 169) Value.none),(DictEntry.mk (PyData.keyHash P (Str.ofString "__annotations__")) (Value.str (Str.ofString "__annotations__") 170) (Value.ref 6)),(DictEntry.mk (PyData.keyHash P (Str.ofString "__builtins__")) (Value.str (Str.ofString "__builtins__") 171) (Value.ref 4)),(DictEntry.mk (PyData.keyHash P (Str.ofString "__file__")) (Value.str (Str.ofString "__file__") 173) (Value.str (Str.ofString "/claim/cut.py") 172)),(DictEntry.mk (PyData.keyHash P (Str.ofString "__cached__")) (Value.str (Str.ofString "__cached__") 174) Value.none),(DictEntry.mk (PyData.keyHash P (Str.ofString "_wall")) (Value.str (Str.ofString "_wall") 193) (Value.ref 21)),(DictEntry.mk (PyData.keyHash P (Str.ofString "BufferReadError")) (Value.str (Str.ofString "BufferReadError") 213) (Value.ref 31)),(DictEntry.mk (PyData.keyHash P (Str.ofString "BufferWriteError")) (Value.str (Str.ofString "BufferWriteError") 231) (Value.ref 44)),(DictEntry.mk (PyData.keyHash P (Str.ofString "Buffer")) (Value.str (Str.ofString "Buffer") 404) (Value.ref 193)),(DictEntry.mk (PyData.keyHash P (Str.ofString "UINT_VAR_MAX")) (Value.str (Str.ofString "UINT_VAR_MAX") 406) (Value.int 4611686018427387903 405)),(DictEntry.mk (PyData.keyHash P (Str.ofString "UINT_VAR_MAX_SIZE")) (Value.str (Str.ofString "UINT_VAR_MAX_SIZE") 408) (Value.int 8 407)),(DictEntry.mk (PyData.keyHash P (Str.ofString "size_uint_var")) (Value.str (Str.ofString "size_uint_var") 415) (Value.ref 204)),(DictEntry.mk (PyData.keyHash P (Str.ofString "Range")) (Value.str (Str.ofString "Range") 465) (Value.ref 235)),(DictEntry.mk (PyData.keyHash P (Str.ofString "RangeSet")) (Value.str (Str.ofString "RangeSet") 577) (Value.ref 329)),(DictEntry.mk (PyData.keyHash P (Str.ofString "pull_ack_frame")) (Value.str (Str.ofString "pull_ack_frame") 592) (Value.ref 340)),(DictEntry.mk (PyData.keyHash P (Str.ofString "push_ack_frame")) (Value.str (Str.ofString "push_ack_frame") 608) (Value.ref 347)),(DictEntry.mk (PyData.keyHash P (Str.ofString "_law_bases")) (Value.str (Str.ofString "_law_bases") 616) (Value.ref 354)),(DictEntry.mk (PyData.keyHash P (Str.ofString "_law_index")) (Value.str (Str.ofString "_law_index") 624) (Value.ref 361)),(DictEntry.mk (PyData.keyHash P (Str.ofString "_law_put")) (Value.str (Str.ofString "_law_put") 634) (Value.ref 368)),(DictEntry.mk (PyData.keyHash P (Str.ofString "_law_rows")) (Value.str (Str.ofString "_law_rows") 647) (Value.ref 375)),(DictEntry.mk (PyData.keyHash P (Str.ofString "_law_frame")) (Value.str (Str.ofString "_law_frame") 658) (Value.ref 382)),(DictEntry.mk (PyData.keyHash P (Str.ofString "_law_pushed")) (Value.str (Str.ofString "_law_pushed") 664) (Value.ref 387)),(DictEntry.mk (PyData.keyHash P (Str.ofString "_law_pulled")) (Value.str (Str.ofString "_law_pulled") 670) (Value.ref 392)),(DictEntry.mk (PyData.keyHash P (Str.ofString "law")) (Value.str (Str.ofString "law") 676) (Value.ref 397))] 28) #[])) ::
(nat_lit 15,(Obj.mk (Value.type "tuple") none (Data.seq #[] 0) #[])) ::
(nat_lit 17,(Obj.mk (Value.type "tuple") none (Data.seq #[(Value.str (Str.ofString "k") 190)] 0) #[])) ::
(nat_lit 18,(Obj.mk (Value.type "tuple") none (Data.seq #[] 0) #[])) ::
(nat_lit 20,(Obj.mk (Value.type "code") none (Data.fields #[(Value.str (Str.ofString "_wall") 187),(Value.str (Str.ofString "_wall") 188),(Value.str (Str.ofString "/claim/cut.py") 189),(Value.int 1 0),(Value.int 1 0),(Value.int 0 0),(Value.int 0 0),(Value.int 3 0),(Value.ref 15),(Value.bool true),(Value.int 181 0),(Value.ref 16),Value.none,(Value.ref 17),(Value.ref 18),(Value.ref 19),(Value.int 191 0),(Value.int 1 0),(Value.str (Str.ofString "/claim/cut.py") 192)]) #[])) ::
(nat_lit 21,(Obj.mk (Value.type "function") none (Data.func (FuncData.mk (Str.ofString "_wall") (Str.ofString "_wall") ?p0 ?b0 ?s0 3 [] Value.none Value.none Value.none (Value.str (Str.ofString "__main__") 164) none (Value.ref 20) Value.none 0)) #[])) ::
(nat_lit 22,(Obj.mk (Value.type "tuple") none (Data.seq #[(Value.type "ValueError")] 0) #[])) ::
(nat_lit 29,(Obj.mk (Value.type "tuple") none (Data.seq #[] 0) #[])) ::
(nat_lit 30,(Obj.mk (Value.type "dict") none (Data.dict #[(DictEntry.mk (PyData.keyHash P (Str.ofString "__module__")) (Value.str (Str.ofString "__module__") 203) (Value.str (Str.ofString "aioquic.buffer") 194)),(DictEntry.mk (PyData.keyHash P (Str.ofString "__firstlineno__")) (Value.str (Str.ofString "__firstlineno__") 207) (Value.int 5 206)),(DictEntry.mk (PyData.keyHash P (Str.ofString "__static_attributes__")) (Value.str (Str.ofString "__static_attributes__") 208) (Value.ref 29)),(DictEntry.mk (PyData.keyHash P (Str.ofString "__weakref__")) (Value.str (Str.ofString "__weakref__") 210) (Value.ref 32)),(DictEntry.mk (PyData.keyHash P (Str.ofString "__doc__")) (Value.str (Str.ofString "__doc__") 211) Value.none)] 3) #[])) ::
(nat_lit 31,(Obj.mk (Value.type "type") none (Data.cls (ClassData.mk (Str.ofString "BufferReadError") [(Value.type "ValueError")] [(Value.ref 31),(Value.type "ValueError"),(Value.type "Exception"),(Value.type "BaseException"),(Value.type "object")] 30 (Str.ofString "BufferReadError") true [] [] false none false)) #[(some (Value.ref 22)),none,(some (Value.str (Str.ofString "BufferReadError") 196)),(some (Value.str (Str.ofString "BufferReadError") 204)),(some (Value.builtin "ValueError.__new__")),(some (Value.bool true))])) ::
(nat_lit 32,(Obj.mk (Value.type "getset_descriptor") none (Data.fields #[(Value.str (Str.ofString "__weakref__") 209),(Value.ref 31),(Value.builtin "ExceptionGroup.__weakref__"),Value.none]) #[])) ::
(nat_lit 35,(Obj.mk (Value.type "tuple") none (Data.seq #[(Value.type "ValueError")] 0) #[])) ::
(nat_lit 42,(Obj.mk (Value.type "tuple") none (Data.seq #[] 0) #[])) ::
(nat_lit 43,(Obj.mk (Value.type "dict") none (Data.dict #[(DictEntry.mk (PyData.keyHash P (Str.ofString "__module__")) (Value.str (Str.ofString "__module__") 221) (Value.str (Str.ofString "aioquic.buffer") 194)),(DictEntry.mk (PyData.keyHash P (Str.ofString "__firstlineno__")) (Value.str (Str.ofString "__firstlineno__") 225) (Value.int 7 224)),(DictEntry.mk (PyData.keyHash P (Str.ofString "__static_attributes__")) (Value.str (Str.ofString "__static_attributes__") 226) (Value.ref 42)),(DictEntry.mk (PyData.keyHash P (Str.ofString "__weakref__")) (Value.str (Str.ofString "__weakref__") 228) (Value.ref 45)),(DictEntry.mk (PyData.keyHash P (Str.ofString "__doc__")) (Value.str (Str.ofString "__doc__") 229) Value.none)] 3) #[])) ::
(nat_lit 44,(Obj.mk (Value.type "type") none (Data.cls (ClassData.mk (Str.ofString "BufferWriteError") [(Value.type "ValueError")] [(Value.ref 44),(Value.type "ValueError"),(Value.type "Exception"),(Value.type "BaseException"),(Value.type "object")] 43 (Str.ofString "BufferWriteError") true [] [] false none false)) #[(some (Value.ref 35)),none,(some (Value.str (Str.ofString "BufferWriteError") 214)),(some (Value.str (Str.ofString "BufferWriteError") 222)),(some (Value.builtin "ValueError.__new__")),(some (Value.bool true))])) ::
(nat_lit 45,(Obj.mk (Value.type "getset_descriptor") none (Data.fields #[(Value.str (Str.ofString "__weakref__") 227),(Value.ref 44),(Value.builtin "ExceptionGroup.__weakref__"),Value.none]) #[])) ::
(nat_lit 55,(Obj.mk (Value.type "tuple") none (Data.seq #[(Value.int 0 244),Value.none] 0) #[])) ::
(nat_lit 56,(Obj.mk (Value.type "tuple") none (Data.seq #[] 0) #[])) ::
(nat_lit 58,(Obj.mk (Value.type "tuple") none (Data.seq #[(Value.str (Str.ofString "self") 248),(Value.str (Str.ofString "capacity") 249),(Value.str (Str.ofString "data") 250)] 0) #[])) ::
(nat_lit 59,(Obj.mk (Value.type "tuple") none (Data.seq #[] 0) #[])) ::
(nat_lit 61,(Obj.mk (Value.type "code") none (Data.fields #[(Value.str (Str.ofString "__init__") 245),(Value.str (Str.ofString "Buffer.__init__") 246),(Value.str (Str.ofString "/claim/cut.py") 247),(Value.int 11 0),(Value.int 3 0),(Value.int 0 0),(Value.int 0 0),(Value.int 3 0),(Value.ref 56),(Value.bool true),(Value.int 181 0),(Value.ref 57),Value.none,(Value.ref 58),(Value.ref 59),(Value.ref 60),(Value.int 251 0),(Value.int 11 0),(Value.str (Str.ofString "/claim/cut.py") 252)]) #[])) ::
(nat_lit 62,(Obj.mk (Value.type "function") none (Data.func (FuncData.mk (Str.ofString "__init__") (Str.ofString "Buffer.__init__") ?p1 ?b1 ?s1 3 [] (Value.ref 55) Value.none Value.none (Value.str (Str.ofString "aioquic.buffer") 194) none (Value.ref 61) Value.none 0)) #[])) ::
(nat_lit 63,(Obj.mk (Value.type "tuple") none (Data.seq #[] 0) #[])) ::
(nat_lit 65,(Obj.mk (Value.type "tuple") none (Data.seq #[(Value.str (Str.ofString "self") 257)] 0) #[])) ::
(nat_lit 66,(Obj.mk (Value.type "tuple") none (Data.seq #[] 0) #[])) ::
(nat_lit 68,(Obj.mk (Value.type "code") none (Data.fields #[(Value.str (Str.ofString "capacity") 254),(Value.str (Str.ofString "Buffer.capacity") 255),(Value.str (Str.ofString "/claim/cut.py") 256),(Value.int 18 0),(Value.int 1 0),(Value.int 0 0),(Value.int 0 0),(Value.int 3 0),(Value.ref 63),(Value.bool true),(Value.int 181 0),(Value.ref 64),Value.none,(Value.ref 65),(Value.ref 66),(Value.ref 67),(Value.int 258 0),(Value.int 18 0),(Value.str (Str.ofString "/claim/cut.py") 259)]) #[])) ::
(nat_lit 69,(Obj.mk (Value.type "function") none (Data.func (FuncData.mk (Str.ofString "capacity") (Str.ofString "Buffer.capacity") ?p2 ?b2 ?s2 3 [] Value.none Value.none Value.none (Value.str (Str.ofString "aioquic.buffer") 194) none (Value.ref 68) Value.none 0)) #[])) ::
(nat_lit 70,(Obj.mk (Value.type "property") none (Data.fields #[(Value.ref 69),Value.none,Value.none,Value.none,(Value.str (Str.ofString "capacity") 261),(Value.bool false)]) #[])) ::
(nat_lit 71,(Obj.mk (Value.type "tuple") none (Data.seq #[] 0) #[])) ::
(nat_lit 73,(Obj.mk (Value.type "tuple") none (Data.seq #[(Value.str (Str.ofString "self") 265)] 0) #[])) ::
(nat_lit 74,(Obj.mk (Value.type "tuple") none (Data.seq #[] 0) #[])) ::
(nat_lit 76,(Obj.mk (Value.type "code") none (Data.fields #[(Value.str (Str.ofString "data") 262),(Value.str (Str.ofString "Buffer.data") 263),(Value.str (Str.ofString "/claim/cut.py") 264),(Value.int 22 0),(Value.int 1 0),(Value.int 0 0),(Value.int 0 0),(Value.int 3 0),(Value.ref 71),(Value.bool true),(Value.int 181 0),(Value.ref 72),Value.none,(Value.ref 73),(Value.ref 74),(Value.ref 75),(Value.int 266 0),(Value.int 22 0),(Value.str (Str.ofString "/claim/cut.py") 267)]) #[])) ::
(nat_lit 77,(Obj.mk (Value.type "function") none (Data.func (FuncData.mk (Str.ofString "data") (Str.ofString "Buffer.data") ?p3 ?b3 ?s3 3 [] Value.none Value.none Value.none (Value.str (Str.ofString "aioquic.buffer") 194) none (Value.ref 76) Value.none 0)) #[])) ::
(nat_lit 78,(Obj.mk (Value.type "property") none (Data.fields #[(Value.ref 77),Value.none,Value.none,Value.none,(Value.str (Str.ofString "data") 269),(Value.bool false)]) #[])) ::
(nat_lit 79,(Obj.mk (Value.type "tuple") none (Data.seq #[] 0) #[])) ::
(nat_lit 81,(Obj.mk (Value.type "tuple") none (Data.seq #[(Value.str (Str.ofString "self") 273),(Value.str (Str.ofString "start") 274),(Value.str (Str.ofString "end") 275)] 0) #[])) ::
(nat_lit 82,(Obj.mk (Value.type "tuple") none (Data.seq #[] 0) #[])) ::
(nat_lit 84,(Obj.mk (Value.type "code") none (Data.fields #[(Value.str (Str.ofString "data_slice") 270),(Value.str (Str.ofString "Buffer.data_slice") 271),(Value.str (Str.ofString "/claim/cut.py") 272),(Value.int 26 0),(Value.int 3 0),(Value.int 0 0),(Value.int 0 0),(Value.int 3 0),(Value.ref 79),(Value.bool true),(Value.int 181 0),(Value.ref 80),Value.none,(Value.ref 81),(Value.ref 82),(Value.ref 83),(Value.int 276 0),(Value.int 26 0),(Value.str (Str.ofString "/claim/cut.py") 277)]) #[])) ::
(nat_lit 85,(Obj.mk (Value.type "function") none (Data.func (FuncData.mk (Str.ofString "data_slice") (Str.ofString "Buffer.data_slice") ?p4 ?b4 ?s4 3 [] Value.none Value.none Value.none (Value.str (Str.ofString "aioquic.buffer") 194) none (Value.ref 84) Value.none 0)) #[])) ::
(nat_lit 86,(Obj.mk (Value.type "tuple") none (Data.seq #[] 0) #[])) ::
(nat_lit 88,(Obj.mk (Value.type "tuple") none (Data.seq #[(Value.str (Str.ofString "self") 282)] 0) #[])) ::
(nat_lit 89,(Obj.mk (Value.type "tuple") none (Data.seq #[] 0) #[])) ::
(nat_lit 91,(Obj.mk (Value.type "code") none (Data.fields #[(Value.str (Str.ofString "eof") 279),(Value.str (Str.ofString "Buffer.eof") 280),(Value.str (Str.ofString "/claim/cut.py") 281),(Value.int 29 0),(Value.int 1 0),(Value.int 0 0),(Value.int 0 0),(Value.int 3 0),(Value.ref 86),(Value.bool true),(Value.int 181 0),(Value.ref 87),Value.none,(Value.ref 88),(Value.ref 89),(Value.ref 90),(Value.int 283 0),(Value.int 29 0),(Value.str (Str.ofString "/claim/cut.py") 284)]) #[])) ::
(nat_lit 92,(Obj.mk (Value.type "function") none (Data.func (FuncData.mk (Str.ofString "eof") (Str.ofString "Buffer.eof") ?p5 ?b5 ?s5 3 [] Value.none Value.none Value.none (Value.str (Str.ofString "aioquic.buffer") 194) none (Value.ref 91) Value.none 0)) #[])) ::
(nat_lit 93,(Obj.mk (Value.type "tuple") none (Data.seq #[] 0) #[])) ::
(nat_lit 95,(Obj.mk (Value.type "tuple") none (Data.seq #[(Value.str (Str.ofString "self") 289),(Value.str (Str.ofString "pos") 290)] 0) #[])) ::
(nat_lit 96,(Obj.mk (Value.type "tuple") none (Data.seq #[] 0) #[])) ::
(nat_lit 98,(Obj.mk (Value.type "code") none (Data.fields #[(Value.str (Str.ofString "seek") 286),(Value.str (Str.ofString "Buffer.seek") 287),(Value.str (Str.ofString "/claim/cut.py") 288),(Value.int 32 0),(Value.int 2 0),(Value.int 0 0),(Value.int 0 0),(Value.int 3 0),(Value.ref 93),(Value.bool true),(Value.int 181 0),(Value.ref 94),Value.none,(Value.ref 95),(Value.ref 96),(Value.ref 97),(Value.int 291 0),(Value.int 32 0),(Value.str (Str.ofString "/claim/cut.py") 292)]) #[])) ::
(nat_lit 99,(Obj.mk (Value.type "function") none (Data.func (FuncData.mk (Str.ofString "seek") (Str.ofString "Buffer.seek") ?p6 ?b6 ?s6 3 [] Value.none Value.none Value.none (Value.str (Str.ofString "aioquic.buffer") 194) none (Value.ref 98) Value.none 0)) #[])) ::
(nat_lit 100,(Obj.mk (Value.type "tuple") none (Data.seq #[] 0) #[])) ::
(nat_lit 102,(Obj.mk (Value.type "tuple") none (Data.seq #[(Value.str (Str.ofString "self") 297)] 0) #[])) ::
(nat_lit 103,(Obj.mk (Value.type "tuple") none (Data.seq #[] 0) #[])) ::
(nat_lit 105,(Obj.mk (Value.type "code") none (Data.fields #[(Value.str (Str.ofString "tell") 294),(Value.str (Str.ofString "Buffer.tell") 295),(Value.str (Str.ofString "/claim/cut.py") 296),(Value.int 37 0),(Value.int 1 0),(Value.int 0 0),(Value.int 0 0),(Value.int 3 0),(Value.ref 100),(Value.bool true),(Value.int 181 0),(Value.ref 101),Value.none,(Value.ref 102),(Value.ref 103),(Value.ref 104),(Value.int 298 0),(Value.int 37 0),(Value.str (Str.ofString "/claim/cut.py") 299)]) #[])) ::
(nat_lit 106,(Obj.mk (Value.type "function") none (Data.func (FuncData.mk (Str.ofString "tell") (Str.ofString "Buffer.tell") ?p7 ?b7 ?s7 3 [] Value.none Value.none Value.none (Value.str (Str.ofString "aioquic.buffer") 194) none (Value.ref 105) Value.none 0)) #[])) ::
(nat_lit 107,(Obj.mk (Value.type "tuple") none (Data.seq #[] 0) #[])) ::
(nat_lit 109,(Obj.mk (Value.type "tuple") none (Data.seq #[(Value.str (Str.ofString "self") 304),(Value.str (Str.ofString "length") 305),(Value.str (Str.ofString "value") 306)] 0) #[])) ::
(nat_lit 110,(Obj.mk (Value.type "tuple") none (Data.seq #[] 0) #[])) ::
(nat_lit 112,(Obj.mk (Value.type "code") none (Data.fields #[(Value.str (Str.ofString "pull_bytes") 301),(Value.str (Str.ofString "Buffer.pull_bytes") 302),(Value.str (Str.ofString "/claim/cut.py") 303),(Value.int 40 0),(Value.int 2 0),(Value.int 0 0),(Value.int 0 0),(Value.int 3 0),(Value.ref 107),(Value.bool true),(Value.int 181 0),(Value.ref 108),Value.none,(Value.ref 109),(Value.ref 110),(Value.ref 111),(Value.int 307 0),(Value.int 40 0),(Value.str (Str.ofString "/claim/cut.py") 308)]) #[])) ::
(nat_lit 113,(Obj.mk (Value.type "function") none (Data.func (FuncData.mk (Str.ofString "pull_bytes") (Str.ofString "Buffer.pull_bytes") ?p8 ?b8 ?s8 3 [] Value.none Value.none Value.none (Value.str (Str.ofString "aioquic.buffer") 194) none (Value.ref 112) Value.none 0)) #[])) ::
(nat_lit 114,(Obj.mk (Value.type "tuple") none (Data.seq #[] 0) #[])) ::
(nat_lit 116,(Obj.mk (Value.type "tuple") none (Data.seq #[(Value.str (Str.ofString "self") 313)] 0) #[])) ::
(nat_lit 117,(Obj.mk (Value.type "tuple") none (Data.seq #[] 0) #[])) ::
(nat_lit 119,(Obj.mk (Value.type "code") none (Data.fields #[(Value.str (Str.ofString "pull_uint8") 310),(Value.str (Str.ofString "Buffer.pull_uint8") 311),(Value.str (Str.ofString "/claim/cut.py") 312),(Value.int 47 0),(Value.int 1 0),(Value.int 0 0),(Value.int 0 0),(Value.int 3 0),(Value.ref 114),(Value.bool true),(Value.int 181 0),(Value.ref 115),Value.none,(Value.ref 116),(Value.ref 117),(Value.ref 118),(Value.int 314 0),(Value.int 47 0),(Value.str (Str.ofString "/claim/cut.py") 315)]) #[])) ::
(nat_lit 120,(Obj.mk (Value.type "function") none (Data.func (FuncData.mk (Str.ofString "pull_uint8") (Str.ofString "Buffer.pull_uint8") ?p9 ?b9 ?s9 3 [] Value.none Value.none Value.none (Value.str (Str.ofString "aioquic.buffer") 194) none (Value.ref 119) Value.none 0)) #[])) ::
(nat_lit 121,(Obj.mk (Value.type "tuple") none (Data.seq #[] 0) #[])) ::
(nat_lit 123,(Obj.mk (Value.type "tuple") none (Data.seq #[(Value.str (Str.ofString "self") 320)] 0) #[])) ::
(nat_lit 124,(Obj.mk (Value.type "tuple") none (Data.seq #[] 0) #[])) ::
(nat_lit 126,(Obj.mk (Value.type "code") none (Data.fields #[(Value.str (Str.ofString "pull_uint16") 317),(Value.str (Str.ofString "Buffer.pull_uint16") 318),(Value.str (Str.ofString "/claim/cut.py") 319),(Value.int 50 0),(Value.int 1 0),(Value.int 0 0),(Value.int 0 0),(Value.int 3 0),(Value.ref 121),(Value.bool true),(Value.int 181 0),(Value.ref 122),Value.none,(Value.ref 123),(Value.ref 124),(Value.ref 125),(Value.int 321 0),(Value.int 50 0),(Value.str (Str.ofString "/claim/cut.py") 322)]) #[])) ::
(nat_lit 127,(Obj.mk (Value.type "function") none (Data.func (FuncData.mk (Str.ofString "pull_uint16") (Str.ofString "Buffer.pull_uint16") ?p10 ?b10 ?s10 3 [] Value.none Value.none Value.none (Value.str (Str.ofString "aioquic.buffer") 194) none (Value.ref 126) Value.none 0)) #[])) ::
(nat_lit 128,(Obj.mk (Value.type "tuple") none (Data.seq #[] 0) #[])) ::
(nat_lit 130,(Obj.mk (Value.type "tuple") none (Data.seq #[(Value.str (Str.ofString "self") 327)] 0) #[])) ::
(nat_lit 131,(Obj.mk (Value.type "tuple") none (Data.seq #[] 0) #[])) ::
(nat_lit 133,(Obj.mk (Value.type "code") none (Data.fields #[(Value.str (Str.ofString "pull_uint32") 324),(Value.str (Str.ofString "Buffer.pull_uint32") 325),(Value.str (Str.ofString "/claim/cut.py") 326),(Value.int 53 0),(Value.int 1 0),(Value.int 0 0),(Value.int 0 0),(Value.int 3 0),(Value.ref 128),(Value.bool true),(Value.int 181 0),(Value.ref 129),Value.none,(Value.ref 130),(Value.ref 131),(Value.ref 132),(Value.int 328 0),(Value.int 53 0),(Value.str (Str.ofString "/claim/cut.py") 329)]) #[])) ::
(nat_lit 134,(Obj.mk (Value.type "function") none (Data.func (FuncData.mk (Str.ofString "pull_uint32") (Str.ofString "Buffer.pull_uint32") ?p11 ?b11 ?s11 3 [] Value.none Value.none Value.none (Value.str (Str.ofString "aioquic.buffer") 194) none (Value.ref 133) Value.none 0)) #[])) ::
(nat_lit 135,(Obj.mk (Value.type "tuple") none (Data.seq #[] 0) #[])) ::
(nat_lit 137,(Obj.mk (Value.type "tuple") none (Data.seq #[(Value.str (Str.ofString "self") 334)] 0) #[])) ::
(nat_lit 138,(Obj.mk (Value.type "tuple") none (Data.seq #[] 0) #[])) ::
(nat_lit 140,(Obj.mk (Value.type "code") none (Data.fields #[(Value.str (Str.ofString "pull_uint64") 331),(Value.str (Str.ofString "Buffer.pull_uint64") 332),(Value.str (Str.ofString "/claim/cut.py") 333),(Value.int 56 0),(Value.int 1 0),(Value.int 0 0),(Value.int 0 0),(Value.int 3 0),(Value.ref 135),(Value.bool true),(Value.int 181 0),(Value.ref 136),Value.none,(Value.ref 137),(Value.ref 138),(Value.ref 139),(Value.int 335 0),(Value.int 56 0),(Value.str (Str.ofString "/claim/cut.py") 336)]) #[])) ::
(nat_lit 141,(Obj.mk (Value.type "function") none (Data.func (FuncData.mk (Str.ofString "pull_uint64") (Str.ofString "Buffer.pull_uint64") ?p12 ?b12 ?s12 3 [] Value.none Value.none Value.none (Value.str (Str.ofString "aioquic.buffer") 194) none (Value.ref 140) Value.none 0)) #[])) ::
(nat_lit 142,(Obj.mk (Value.type "tuple") none (Data.seq #[] 0) #[])) ::
(nat_lit 144,(Obj.mk (Value.type "tuple") none (Data.seq #[(Value.str (Str.ofString "self") 341),(Value.str (Str.ofString "size") 342)] 0) #[])) ::
(nat_lit 145,(Obj.mk (Value.type "tuple") none (Data.seq #[] 0) #[])) ::
(nat_lit 147,(Obj.mk (Value.type "code") none (Data.fields #[(Value.str (Str.ofString "pull_uint_var") 338),(Value.str (Str.ofString "Buffer.pull_uint_var") 339),(Value.str (Str.ofString "/claim/cut.py") 340),(Value.int 59 0),(Value.int 1 0),(Value.int 0 0),(Value.int 0 0),(Value.int 3 0),(Value.ref 142),(Value.bool true),(Value.int 181 0),(Value.ref 143),Value.none,(Value.ref 144),(Value.ref 145),(Value.ref 146),(Value.int 343 0),(Value.int 59 0),(Value.str (Str.ofString "/claim/cut.py") 344)]) #[])) ::
(nat_lit 148,(Obj.mk (Value.type "function") none (Data.func (FuncData.mk (Str.ofString "pull_uint_var") (Str.ofString "Buffer.pull_uint_var") ?p13 ?b13 ?s13 3 [] Value.none Value.none Value.none (Value.str (Str.ofString "aioquic.buffer") 194) none (Value.ref 147) Value.none 0)) #[])) ::
(nat_lit 149,(Obj.mk (Value.type "tuple") none (Data.seq #[] 0) #[])) ::
(nat_lit 151,(Obj.mk (Value.type "tuple") none (Data.seq #[(Value.str (Str.ofString "self") 349),(Value.str (Str.ofString "value") 350),(Value.str (Str.ofString "end") 351)] 0) #[])) ::
(nat_lit 152,(Obj.mk (Value.type "tuple") none (Data.seq #[] 0) #[])) ::
(nat_lit 154,(Obj.mk (Value.type "code") none (Data.fields #[(Value.str (Str.ofString "push_bytes") 346),(Value.str (Str.ofString "Buffer.push_bytes") 347),(Value.str (Str.ofString "/claim/cut.py") 348),(Value.int 65 0),(Value.int 2 0),(Value.int 0 0),(Value.int 0 0),(Value.int 3 0),(Value.ref 149),(Value.bool true),(Value.int 181 0),(Value.ref 150),Value.none,(Value.ref 151),(Value.ref 152),(Value.ref 153),(Value.int 352 0),(Value.int 65 0),(Value.str (Str.ofString "/claim/cut.py") 353)]) #[])) ::
(nat_lit 155,(Obj.mk (Value.type "function") none (Data.func (FuncData.mk (Str.ofString "push_bytes") (Str.ofString "Buffer.push_bytes") ?p14 ?b14 ?s14 3 [] Value.none Value.none Value.none (Value.str (Str.ofString "aioquic.buffer") 194) none (Value.ref 154) Value.none 0)) #[])) ::
(nat_lit 156,(Obj.mk (Value.type "tuple") none (Data.seq #[] 0) #[])) ::
(nat_lit 158,(Obj.mk (Value.type "tuple") none (Data.seq #[(Value.str (Str.ofString "self") 358),(Value.str (Str.ofString "value") 359)] 0) #[])) ::
(nat_lit 159,(Obj.mk (Value.type "tuple") none (Data.seq #[] 0) #[])) ::
(nat_lit 161,(Obj.mk (Value.type "code") none (Data.fields #[(Value.str (Str.ofString "push_uint8") 355),(Value.str (Str.ofString "Buffer.push_uint8") 356),(Value.str (Str.ofString "/claim/cut.py") 357),(Value.int 72 0),(Value.int 2 0),(Value.int 0 0),(Value.int 0 0),(Value.int 3 0),(Value.ref 156),(Value.bool true),(Value.int 181 0),(Value.ref 157),Value.none,(Value.ref 158),(Value.ref 159),(Value.ref 160),(Value.int 360 0),(Value.int 72 0),(Value.str (Str.ofString "/claim/cut.py") 361)]) #[])) ::
(nat_lit 162,(Obj.mk (Value.type "function") none (Data.func (FuncData.mk (Str.ofString "push_uint8") (Str.ofString "Buffer.push_uint8") ?p15 ?b15 ?s15 3 [] Value.none Value.none Value.none (Value.str (Str.ofString "aioquic.buffer") 194) none (Value.ref 161) Value.none 0)) #[])) ::
(nat_lit 163,(Obj.mk (Value.type "tuple") none (Data.seq #[] 0) #[])) ::
(nat_lit 165,(Obj.mk (Value.type "tuple") none (Data.seq #[(Value.str (Str.ofString "self") 366),(Value.str (Str.ofString "value") 367)] 0) #[])) ::
(nat_lit 166,(Obj.mk (Value.type "tuple") none (Data.seq #[] 0) #[])) ::
(nat_lit 168,(Obj.mk (Value.type "code") none (Data.fields #[(Value.str (Str.ofString "push_uint16") 363),(Value.str (Str.ofString "Buffer.push_uint16") 364),(Value.str (Str.ofString "/claim/cut.py") 365),(Value.int 75 0),(Value.int 2 0),(Value.int 0 0),(Value.int 0 0),(Value.int 3 0),(Value.ref 163),(Value.bool true),(Value.int 181 0),(Value.ref 164),Value.none,(Value.ref 165),(Value.ref 166),(Value.ref 167),(Value.int 368 0),(Value.int 75 0),(Value.str (Str.ofString "/claim/cut.py") 369)]) #[])) ::
(nat_lit 169,(Obj.mk (Value.type "function") none (Data.func (FuncData.mk (Str.ofString "push_uint16") (Str.ofString "Buffer.push_uint16") ?p16 ?b16 ?s16 3 [] Value.none Value.none Value.none (Value.str (Str.ofString "aioquic.buffer") 194) none (Value.ref 168) Value.none 0)) #[])) ::
(nat_lit 170,(Obj.mk (Value.type "tuple") none (Data.seq #[] 0) #[])) ::
(nat_lit 172,(Obj.mk (Value.type "tuple") none (Data.seq #[(Value.str (Str.ofString "self") 374),(Value.str (Str.ofString "value") 375)] 0) #[])) ::
(nat_lit 173,(Obj.mk (Value.type "tuple") none (Data.seq #[] 0) #[])) ::
(nat_lit 175,(Obj.mk (Value.type "code") none (Data.fields #[(Value.str (Str.ofString "push_uint32") 371),(Value.str (Str.ofString "Buffer.push_uint32") 372),(Value.str (Str.ofString "/claim/cut.py") 373),(Value.int 78 0),(Value.int 2 0),(Value.int 0 0),(Value.int 0 0),(Value.int 3 0),(Value.ref 170),(Value.bool true),(Value.int 181 0),(Value.ref 171),Value.none,(Value.ref 172),(Value.ref 173),(Value.ref 174),(Value.int 376 0),(Value.int 78 0),(Value.str (Str.ofString "/claim/cut.py") 377)]) #[])) ::
(nat_lit 176,(Obj.mk (Value.type "function") none (Data.func (FuncData.mk (Str.ofString "push_uint32") (Str.ofString "Buffer.push_uint32") ?p17 ?b17 ?s17 3 [] Value.none Value.none Value.none (Value.str (Str.ofString "aioquic.buffer") 194) none (Value.ref 175) Value.none 0)) #[])) ::
(nat_lit 177,(Obj.mk (Value.type "tuple") none (Data.seq #[] 0) #[])) ::
(nat_lit 179,(Obj.mk (Value.type "tuple") none (Data.seq #[(Value.str (Str.ofString "self") 382),(Value.str (Str.ofString "value") 383)] 0) #[])) ::
(nat_lit 180,(Obj.mk (Value.type "tuple") none (Data.seq #[] 0) #[])) ::
(nat_lit 182,(Obj.mk (Value.type "code") none (Data.fields #[(Value.str (Str.ofString "push_uint64") 379),(Value.str (Str.ofString "Buffer.push_uint64") 380),(Value.str (Str.ofString "/claim/cut.py") 381),(Value.int 81 0),(Value.int 2 0),(Value.int 0 0),(Value.int 0 0),(Value.int 3 0),(Value.ref 177),(Value.bool true),(Value.int 181 0),(Value.ref 178),Value.none,(Value.ref 179),(Value.ref 180),(Value.ref 181),(Value.int 384 0),(Value.int 81 0),(Value.str (Str.ofString "/claim/cut.py") 385)]) #[])) ::
(nat_lit 183,(Obj.mk (Value.type "function") none (Data.func (FuncData.mk (Str.ofString "push_uint64") (Str.ofString "Buffer.push_uint64") ?p18 ?b18 ?s18 3 [] Value.none Value.none Value.none (Value.str (Str.ofString "aioquic.buffer") 194) none (Value.ref 182) Value.none 0)) #[])) ::
(nat_lit 184,(Obj.mk (Value.type "tuple") none (Data.seq #[] 0) #[])) ::
(nat_lit 186,(Obj.mk (Value.type "tuple") none (Data.seq #[(Value.str (Str.ofString "self") 390),(Value.str (Str.ofString "value") 391)] 0) #[])) ::
(nat_lit 187,(Obj.mk (Value.type "tuple") none (Data.seq #[] 0) #[])) ::
(nat_lit 189,(Obj.mk (Value.type "code") none (Data.fields #[(Value.str (Str.ofString "push_uint_var") 387),(Value.str (Str.ofString "Buffer.push_uint_var") 388),(Value.str (Str.ofString "/claim/cut.py") 389),(Value.int 84 0),(Value.int 2 0),(Value.int 0 0),(Value.int 0 0),(Value.int 3 0),(Value.ref 184),(Value.bool true),(Value.int 181 0),(Value.ref 185),Value.none,(Value.ref 186),(Value.ref 187),(Value.ref 188),(Value.int 392 0),(Value.int 84 0),(Value.str (Str.ofString "/claim/cut.py") 393)]) #[])) ::
(nat_lit 190,(Obj.mk (Value.type "function") none (Data.func (FuncData.mk (Str.ofString "push_uint_var") (Str.ofString "Buffer.push_uint_var") ?p19 ?b19 ?s19 3 [] Value.none Value.none Value.none (Value.str (Str.ofString "aioquic.buffer") 194) none (Value.ref 189) Value.none 0)) #[])) ::
(nat_lit 191,(Obj.mk (Value.type "tuple") none (Data.seq #[(Value.str (Str.ofString "_octets") 395),(Value.str (Str.ofString "_place") 396)] 0) #[])) ::
(nat_lit 192,(Obj.mk (Value.type "dict") none (Data.dict #[(DictEntry.mk (PyData.keyHash P (Str.ofString "__module__")) (Value.str (Str.ofString "__module__") 239) (Value.str (Str.ofString "aioquic.buffer") 194)),(DictEntry.mk (PyData.keyHash P (Str.ofString "__firstlineno__")) (Value.str (Str.ofString "__firstlineno__") 243) (Value.int 9 242)),(DictEntry.mk (PyData.keyHash P (Str.ofString "__init__")) (Value.str (Str.ofString "__init__") 253) (Value.ref 62)),(DictEntry.mk (PyData.keyHash P (Str.ofString "capacity")) (Value.str (Str.ofString "capacity") 261) (Value.ref 70)),(DictEntry.mk (PyData.keyHash P (Str.ofString "data")) (Value.str (Str.ofString "data") 269) (Value.ref 78)),(DictEntry.mk (PyData.keyHash P (Str.ofString "data_slice")) (Value.str (Str.ofString "data_slice") 278) (Value.ref 85)),(DictEntry.mk (PyData.keyHash P (Str.ofString "eof")) (Value.str (Str.ofString "eof") 285) (Value.ref 92)),(DictEntry.mk (PyData.keyHash P (Str.ofString "seek")) (Value.str (Str.ofString "seek") 293) (Value.ref 99)),(DictEntry.mk (PyData.keyHash P (Str.ofString "tell")) (Value.str (Str.ofString "tell") 300) (Value.ref 106)),(DictEntry.mk (PyData.keyHash P (Str.ofString "pull_bytes")) (Value.str (Str.ofString "pull_bytes") 309) (Value.ref 113)),(DictEntry.mk (PyData.keyHash P (Str.ofString "pull_uint8")) (Value.str (Str.ofString "pull_uint8") 316) (Value.ref 120)),(DictEntry.mk (PyData.keyHash P (Str.ofString "pull_uint16")) (Value.str (Str.ofString "pull_uint16") 323) (Value.ref 127)),(DictEntry.mk (PyData.keyHash P (Str.ofString "pull_uint32")) (Value.str (Str.ofString "pull_uint32") 330) (Value.ref 134)),(DictEntry.mk (PyData.keyHash P (Str.ofString "pull_uint64")) (Value.str (Str.ofString "pull_uint64") 337) (Value.ref 141)),(DictEntry.mk (PyData.keyHash P (Str.ofString "pull_uint_var")) (Value.str (Str.ofString "pull_uint_var") 345) (Value.ref 148)),(DictEntry.mk (PyData.keyHash P (Str.ofString "push_bytes")) (Value.str (Str.ofString "push_bytes") 354) (Value.ref 155)),(DictEntry.mk (PyData.keyHash P (Str.ofString "push_uint8")) (Value.str (Str.ofString "push_uint8") 362) (Value.ref 162)),(DictEntry.mk (PyData.keyHash P (Str.ofString "push_uint16")) (Value.str (Str.ofString "push_uint16") 370) (Value.ref 169)),(DictEntry.mk (PyData.keyHash P (Str.ofString "push_uint32")) (Value.str (Str.ofString "push_uint32") 378) (Value.ref 176)),(DictEntry.mk (PyData.keyHash P (Str.ofString "push_uint64")) (Value.str (Str.ofString "push_uint64") 386) (Value.ref 183)),(DictEntry.mk (PyData.keyHash P (Str.ofString "push_uint_var")) (Value.str (Str.ofString "push_uint_var") 394) (Value.ref 190)),(DictEntry.mk (PyData.keyHash P (Str.ofString "__static_attributes__")) (Value.str (Str.ofString "__static_attributes__") 397) (Value.ref 191)),(DictEntry.mk (PyData.keyHash P (Str.ofString "__dict__")) (Value.str (Str.ofString "__dict__") 399) (Value.ref 194)),(DictEntry.mk (PyData.keyHash P (Str.ofString "__weakref__")) (Value.str (Str.ofString "__weakref__") 401) (Value.ref 195)),(DictEntry.mk (PyData.keyHash P (Str.ofString "__doc__")) (Value.str (Str.ofString "__doc__") 402) Value.none)] 4) #[])) ::
(nat_lit 193,(Obj.mk (Value.type "type") none (Data.cls (ClassData.mk (Str.ofString "Buffer") [(Value.type "object")] [(Value.ref 193),(Value.type "object")] 192 (Str.ofString "Buffer") true [] [] false none false)) #[none,none,(some (Value.str (Str.ofString "Buffer") 232)),(some (Value.str (Str.ofString "Buffer") 240)),(some (Value.builtin "object.__new__")),(some (Value.bool true))])) ::
(nat_lit 194,(Obj.mk (Value.type "getset_descriptor") none (Data.fields #[(Value.str (Str.ofString "__dict__") 398),(Value.ref 193),(Value.builtin "function.__dict__"),(Value.builtin "function.__dict__#set")]) #[])) ::
(nat_lit 195,(Obj.mk (Value.type "getset_descriptor") none (Data.fields #[(Value.str (Str.ofString "__weakref__") 400),(Value.ref 193),(Value.builtin "ExceptionGroup.__weakref__"),Value.none]) #[])) ::
(nat_lit 198,(Obj.mk (Value.type "tuple") none (Data.seq #[] 0) #[])) ::
(nat_lit 200,(Obj.mk (Value.type "tuple") none (Data.seq #[(Value.str (Str.ofString "value") 412)] 0) #[])) ::
(nat_lit 201,(Obj.mk (Value.type "tuple") none (Data.seq #[] 0) #[])) ::
(nat_lit 203,(Obj.mk (Value.type "code") none (Data.fields #[(Value.str (Str.ofString "size_uint_var") 409),(Value.str (Str.ofString "size_uint_var") 410),(Value.str (Str.ofString "/claim/cut.py") 411),(Value.int 97 0),(Value.int 1 0),(Value.int 0 0),(Value.int 0 0),(Value.int 3 0),(Value.ref 198),(Value.bool true),(Value.int 181 0),(Value.ref 199),Value.none,(Value.ref 200),(Value.ref 201),(Value.ref 202),(Value.int 413 0),(Value.int 97 0),(Value.str (Str.ofString "/claim/cut.py") 414)]) #[])) ::
(nat_lit 204,(Obj.mk (Value.type "function") none (Data.func (FuncData.mk (Str.ofString "size_uint_var") (Str.ofString "size_uint_var") ?p20 ?b20 ?s20 3 [] Value.none Value.none Value.none (Value.str (Str.ofString "aioquic.buffer") 194) none (Value.ref 203) Value.none 0)) #[])) ::
(nat_lit 212,(Obj.mk (Value.type "tuple") none (Data.seq #[] 0) #[])) ::
(nat_lit 214,(Obj.mk (Value.type "tuple") none (Data.seq #[(Value.str (Str.ofString "self") 433),(Value.str (Str.ofString "start") 434),(Value.str (Str.ofString "stop") 435)] 0) #[])) ::
(nat_lit 215,(Obj.mk (Value.type "tuple") none (Data.seq #[] 0) #[])) ::
(nat_lit 217,(Obj.mk (Value.type "code") none (Data.fields #[(Value.str (Str.ofString "__init__") 430),(Value.str (Str.ofString "Range.__init__") 431),(Value.str (Str.ofString "/claim/cut.py") 432),(Value.int 111 0),(Value.int 3 0),(Value.int 0 0),(Value.int 0 0),(Value.int 3 0),(Value.ref 212),(Value.bool true),(Value.int 181 0),(Value.ref 213),Value.none,(Value.ref 214),(Value.ref 215),(Value.ref 216),(Value.int 436 0),(Value.int 111 0),(Value.str (Str.ofString "/claim/cut.py") 437)]) #[])) ::
(nat_lit 218,(Obj.mk (Value.type "function") none (Data.func (FuncData.mk (Str.ofString "__init__") (Str.ofString "Range.__init__") ?p21 ?b21 ?s21 3 [] Value.none Value.none Value.none (Value.str (Str.ofString "aioquic.quic.rangeset") 416) none (Value.ref 217) Value.none 0)) #[])) ::
(nat_lit 219,(Obj.mk (Value.type "tuple") none (Data.seq #[] 0) #[])) ::
(nat_lit 221,(Obj.mk (Value.type "tuple") none (Data.seq #[(Value.str (Str.ofString "self") 442),(Value.str (Str.ofString "val") 443)] 0) #[])) ::
(nat_lit 222,(Obj.mk (Value.type "tuple") none (Data.seq #[] 0) #[])) ::
(nat_lit 224,(Obj.mk (Value.type "code") none (Data.fields #[(Value.str (Str.ofString "__contains__") 439),(Value.str (Str.ofString "Range.__contains__") 440),(Value.str (Str.ofString "/claim/cut.py") 441),(Value.int 115 0),(Value.int 2 0),(Value.int 0 0),(Value.int 0 0),(Value.int 3 0),(Value.ref 219),(Value.bool true),(Value.int 181 0),(Value.ref 220),Value.none,(Value.ref 221),(Value.ref 222),(Value.ref 223),(Value.int 444 0),(Value.int 115 0),(Value.str (Str.ofString "/claim/cut.py") 445)]) #[])) ::
(nat_lit 225,(Obj.mk (Value.type "function") none (Data.func (FuncData.mk (Str.ofString "__contains__") (Str.ofString "Range.__contains__") ?p22 ?b22 ?s22 3 [] Value.none Value.none Value.none (Value.str (Str.ofString "aioquic.quic.rangeset") 416) none (Value.ref 224) Value.none 0)) #[])) ::
(nat_lit 226,(Obj.mk (Value.type "tuple") none (Data.seq #[] 0) #[])) ::
(nat_lit 228,(Obj.mk (Value.type "tuple") none (Data.seq #[(Value.str (Str.ofString "self") 450),(Value.str (Str.ofString "other") 451)] 0) #[])) ::
(nat_lit 229,(Obj.mk (Value.type "tuple") none (Data.seq #[] 0) #[])) ::
(nat_lit 231,(Obj.mk (Value.type "code") none (Data.fields #[(Value.str (Str.ofString "__eq__") 447),(Value.str (Str.ofString "Range.__eq__") 448),(Value.str (Str.ofString "/claim/cut.py") 449),(Value.int 118 0),(Value.int 2 0),(Value.int 0 0),(Value.int 0 0),(Value.int 3 0),(Value.ref 226),(Value.bool true),(Value.int 181 0),(Value.ref 227),Value.none,(Value.ref 228),(Value.ref 229),(Value.ref 230),(Value.int 452 0),(Value.int 118 0),(Value.str (Str.ofString "/claim/cut.py") 453)]) #[])) ::
(nat_lit 232,(Obj.mk (Value.type "function") none (Data.func (FuncData.mk (Str.ofString "__eq__") (Str.ofString "Range.__eq__") ?p23 ?b23 ?s23 3 [] Value.none Value.none Value.none (Value.str (Str.ofString "aioquic.quic.rangeset") 416) none (Value.ref 231) Value.none 0)) #[])) ::
(nat_lit 233,(Obj.mk (Value.type "tuple") none (Data.seq #[(Value.str (Str.ofString "start") 455),(Value.str (Str.ofString "stop") 456)] 0) #[])) ::
(nat_lit 234,(Obj.mk (Value.type "dict") none (Data.dict #[(DictEntry.mk (PyData.keyHash P (Str.ofString "__module__")) (Value.str (Str.ofString "__module__") 425) (Value.str (Str.ofString "aioquic.quic.rangeset") 416)),(DictEntry.mk (PyData.keyHash P (Str.ofString "__firstlineno__")) (Value.str (Str.ofString "__firstlineno__") 429) (Value.int 109 428)),(DictEntry.mk (PyData.keyHash P (Str.ofString "__init__")) (Value.str (Str.ofString "__init__") 438) (Value.ref 218)),(DictEntry.mk (PyData.keyHash P (Str.ofString "__contains__")) (Value.str (Str.ofString "__contains__") 446) (Value.ref 225)),(DictEntry.mk (PyData.keyHash P (Str.ofString "__eq__")) (Value.str (Str.ofString "__eq__") 454) (Value.ref 232)),(DictEntry.mk (PyData.keyHash P (Str.ofString "__static_attributes__")) (Value.str (Str.ofString "__static_attributes__") 457) (Value.ref 233)),(DictEntry.mk (PyData.keyHash P (Str.ofString "__dict__")) (Value.str (Str.ofString "__dict__") 459) (Value.ref 236)),(DictEntry.mk (PyData.keyHash P (Str.ofString "__weakref__")) (Value.str (Str.ofString "__weakref__") 461) (Value.ref 237)),(DictEntry.mk (PyData.keyHash P (Str.ofString "__doc__")) (Value.str (Str.ofString "__doc__") 462) Value.none),(DictEntry.mk (PyData.keyHash P (Str.ofString "__hash__")) (Value.str (Str.ofString "__hash__") 463) Value.none)] 5) #[])) ::
(nat_lit 235,(Obj.mk (Value.type "type") none (Data.cls (ClassData.mk (Str.ofString "Range") [(Value.type "object")] [(Value.ref 235),(Value.type "object")] 234 (Str.ofString "Range") true [] [] false none false)) #[none,none,(some (Value.str (Str.ofString "Range") 418)),(some (Value.str (Str.ofString "Range") 426)),(some (Value.builtin "object.__new__")),(some (Value.bool true))])) ::
(nat_lit 236,(Obj.mk (Value.type "getset_descriptor") none (Data.fields #[(Value.str (Str.ofString "__dict__") 458),(Value.ref 235),(Value.builtin "function.__dict__"),(Value.builtin "function.__dict__#set")]) #[])) ::
(nat_lit 237,(Obj.mk (Value.type "getset_descriptor") none (Data.fields #[(Value.str (Str.ofString "__weakref__") 460),(Value.ref 235),(Value.builtin "ExceptionGroup.__weakref__"),Value.none]) #[])) ::
(nat_lit 247,(Obj.mk (Value.type "list") none (Data.seq #[] 0) #[])) ::
(nat_lit 248,(Obj.mk (Value.type "tuple") none (Data.seq #[(Value.ref 247)] 0) #[])) ::
(nat_lit 249,(Obj.mk (Value.type "tuple") none (Data.seq #[] 0) #[])) ::
(nat_lit 251,(Obj.mk (Value.type "tuple") none (Data.seq #[(Value.str (Str.ofString "self") 481),(Value.str (Str.ofString "ranges") 482),(Value.str (Str.ofString "r") 483)] 0) #[])) ::
(nat_lit 252,(Obj.mk (Value.type "tuple") none (Data.seq #[] 0) #[])) ::
(nat_lit 254,(Obj.mk (Value.type "code") none (Data.fields #[(Value.str (Str.ofString "__init__") 478),(Value.str (Str.ofString "RangeSet.__init__") 479),(Value.str (Str.ofString "/claim/cut.py") 480),(Value.int 122 0),(Value.int 2 0),(Value.int 0 0),(Value.int 0 0),(Value.int 3 0),(Value.ref 249),(Value.bool true),(Value.int 181 0),(Value.ref 250),Value.none,(Value.ref 251),(Value.ref 252),(Value.ref 253),(Value.int 484 0),(Value.int 122 0),(Value.str (Str.ofString "/claim/cut.py") 485)]) #[])) ::
(nat_lit 255,(Obj.mk (Value.type "function") none (Data.func (FuncData.mk (Str.ofString "__init__") (Str.ofString "RangeSet.__init__") ?p24 ?b24 ?s24 3 [] (Value.ref 248) Value.none Value.none (Value.str (Str.ofString "aioquic.quic.rangeset") 416) none (Value.ref 254) Value.none 0)) #[])) ::
(nat_lit 256,(Obj.mk (Value.type "tuple") none (Data.seq #[Value.none] 0) #[])) ::
(nat_lit 257,(Obj.mk (Value.type "tuple") none (Data.seq #[] 0) #[])) ::
(nat_lit 259,(Obj.mk (Value.type "tuple") none (Data.seq #[(Value.str (Str.ofString "self") 490),(Value.str (Str.ofString "start") 491),(Value.str (Str.ofString "stop") 492),(Value.str (Str.ofString "i") 493),(Value.str (Str.ofString "r") 494)] 0) #[])) ::
(nat_lit 260,(Obj.mk (Value.type "tuple") none (Data.seq #[] 0) #[])) ::
(nat_lit 262,(Obj.mk (Value.type "code") none (Data.fields #[(Value.str (Str.ofString "add") 487),(Value.str (Str.ofString "RangeSet.add") 488),(Value.str (Str.ofString "/claim/cut.py") 489),(Value.int 127 0),(Value.int 3 0),(Value.int 0 0),(Value.int 0 0),(Value.int 3 0),(Value.ref 257),(Value.bool true),(Value.int 181 0),(Value.ref 258),Value.none,(Value.ref 259),(Value.ref 260),(Value.ref 261),(Value.int 495 0),(Value.int 127 0),(Value.str (Str.ofString "/claim/cut.py") 496)]) #[])) ::
(nat_lit 263,(Obj.mk (Value.type "function") none (Data.func (FuncData.mk (Str.ofString "add") (Str.ofString "RangeSet.add") ?p25 ?b25 ?s25 3 [] (Value.ref 256) Value.none Value.none (Value.str (Str.ofString "aioquic.quic.rangeset") 416) none (Value.ref 262) Value.none 0)) #[])) ::
(nat_lit 264,(Obj.mk (Value.type "tuple") none (Data.seq #[] 0) #[])) ::
(nat_lit 266,(Obj.mk (Value.type "tuple") none (Data.seq #[(Value.str (Str.ofString "self") 501)] 0) #[])) ::
(nat_lit 267,(Obj.mk (Value.type "tuple") none (Data.seq #[] 0) #[])) ::
(nat_lit 269,(Obj.mk (Value.type "code") none (Data.fields #[(Value.str (Str.ofString "bounds") 498),(Value.str (Str.ofString "RangeSet.bounds") 499),(Value.str (Str.ofString "/claim/cut.py") 500),(Value.int 146 0),(Value.int 1 0),(Value.int 0 0),(Value.int 0 0),(Value.int 3 0),(Value.ref 264),(Value.bool true),(Value.int 181 0),(Value.ref 265),Value.none,(Value.ref 266),(Value.ref 267),(Value.ref 268),(Value.int 502 0),(Value.int 146 0),(Value.str (Str.ofString "/claim/cut.py") 503)]) #[])) ::
(nat_lit 270,(Obj.mk (Value.type "function") none (Data.func (FuncData.mk (Str.ofString "bounds") (Str.ofString "RangeSet.bounds") ?p26 ?b26 ?s26 3 [] Value.none Value.none Value.none (Value.str (Str.ofString "aioquic.quic.rangeset") 416) none (Value.ref 269) Value.none 0)) #[])) ::
(nat_lit 271,(Obj.mk (Value.type "tuple") none (Data.seq #[] 0) #[])) ::
(nat_lit 273,(Obj.mk (Value.type "tuple") none (Data.seq #[(Value.str (Str.ofString "self") 508)] 0) #[])) ::
(nat_lit 274,(Obj.mk (Value.type "tuple") none (Data.seq #[] 0) #[])) ::
(nat_lit 276,(Obj.mk (Value.type "code") none (Data.fields #[(Value.str (Str.ofString "shift") 505),(Value.str (Str.ofString "RangeSet.shift") 506),(Value.str (Str.ofString "/claim/cut.py") 507),(Value.int 149 0),(Value.int 1 0),(Value.int 0 0),(Value.int 0 0),(Value.int 3 0),(Value.ref 271),(Value.bool true),(Value.int 181 0),(Value.ref 272),Value.none,(Value.ref 273),(Value.ref 274),(Value.ref 275),(Value.int 509 0),(Value.int 149 0),(Value.str (Str.ofString "/claim/cut.py") 510)]) #[])) ::
(nat_lit 277,(Obj.mk (Value.type "function") none (Data.func (FuncData.mk (Str.ofString "shift") (Str.ofString "RangeSet.shift") ?p27 ?b27 ?s27 3 [] Value.none Value.none Value.none (Value.str (Str.ofString "aioquic.quic.rangeset") 416) none (Value.ref 276) Value.none 0)) #[])) ::
(nat_lit 278,(Obj.mk (Value.type "tuple") none (Data.seq #[] 0) #[])) ::
(nat_lit 280,(Obj.mk (Value.type "tuple") none (Data.seq #[(Value.str (Str.ofString "self") 515),(Value.str (Str.ofString "start") 516),(Value.str (Str.ofString "stop") 517)] 0) #[])) ::
(nat_lit 281,(Obj.mk (Value.type "tuple") none (Data.seq #[] 0) #[])) ::
(nat_lit 283,(Obj.mk (Value.type "code") none (Data.fields #[(Value.str (Str.ofString "subtract") 512),(Value.str (Str.ofString "RangeSet.subtract") 513),(Value.str (Str.ofString "/claim/cut.py") 514),(Value.int 152 0),(Value.int 3 0),(Value.int 0 0),(Value.int 0 0),(Value.int 3 0),(Value.ref 278),(Value.bool true),(Value.int 181 0),(Value.ref 279),Value.none,(Value.ref 280),(Value.ref 281),(Value.ref 282),(Value.int 518 0),(Value.int 152 0),(Value.str (Str.ofString "/claim/cut.py") 519)]) #[])) ::
(nat_lit 284,(Obj.mk (Value.type "function") none (Data.func (FuncData.mk (Str.ofString "subtract") (Str.ofString "RangeSet.subtract") ?p28 ?b28 ?s28 3 [] Value.none Value.none Value.none (Value.str (Str.ofString "aioquic.quic.rangeset") 416) none (Value.ref 283) Value.none 0)) #[])) ::
(nat_lit 285,(Obj.mk (Value.type "tuple") none (Data.seq #[] 0) #[])) ::
(nat_lit 287,(Obj.mk (Value.type "tuple") none (Data.seq #[(Value.str (Str.ofString "self") 524)] 0) #[])) ::
(nat_lit 288,(Obj.mk (Value.type "tuple") none (Data.seq #[] 0) #[])) ::
(nat_lit 290,(Obj.mk (Value.type "code") none (Data.fields #[(Value.str (Str.ofString "__bool__") 521),(Value.str (Str.ofString "RangeSet.__bool__") 522),(Value.str (Str.ofString "/claim/cut.py") 523),(Value.int 155 0),(Value.int 1 0),(Value.int 0 0),(Value.int 0 0),(Value.int 3 0),(Value.ref 285),(Value.bool true),(Value.int 181 0),(Value.ref 286),Value.none,(Value.ref 287),(Value.ref 288),(Value.ref 289),(Value.int 525 0),(Value.int 155 0),(Value.str (Str.ofString "/claim/cut.py") 526)]) #[])) ::
(nat_lit 291,(Obj.mk (Value.type "function") none (Data.func (FuncData.mk (Str.ofString "__bool__") (Str.ofString "RangeSet.__bool__") ?p29 ?b29 ?s29 3 [] Value.none Value.none Value.none (Value.str (Str.ofString "aioquic.quic.rangeset") 416) none (Value.ref 290) Value.none 0)) #[])) ::
(nat_lit 292,(Obj.mk (Value.type "tuple") none (Data.seq #[] 0) #[])) ::
(nat_lit 294,(Obj.mk (Value.type "tuple") none (Data.seq #[(Value.str (Str.ofString "self") 531),(Value.str (Str.ofString "val") 532),(Value.str (Str.ofString "r") 533)] 0) #[])) ::
(nat_lit 295,(Obj.mk (Value.type "tuple") none (Data.seq #[] 0) #[])) ::
(nat_lit 297,(Obj.mk (Value.type "code") none (Data.fields #[(Value.str (Str.ofString "__contains__") 528),(Value.str (Str.ofString "RangeSet.__contains__") 529),(Value.str (Str.ofString "/claim/cut.py") 530),(Value.int 158 0),(Value.int 2 0),(Value.int 0 0),(Value.int 0 0),(Value.int 3 0),(Value.ref 292),(Value.bool true),(Value.int 181 0),(Value.ref 293),Value.none,(Value.ref 294),(Value.ref 295),(Value.ref 296),(Value.int 534 0),(Value.int 158 0),(Value.str (Str.ofString "/claim/cut.py") 535)]) #[])) ::
(nat_lit 298,(Obj.mk (Value.type "function") none (Data.func (FuncData.mk (Str.ofString "__contains__") (Str.ofString "RangeSet.__contains__") ?p30 ?b30 ?s30 3 [] Value.none Value.none Value.none (Value.str (Str.ofString "aioquic.quic.rangeset") 416) none (Value.ref 297) Value.none 0)) #[])) ::
(nat_lit 299,(Obj.mk (Value.type "tuple") none (Data.seq #[] 0) #[])) ::
(nat_lit 301,(Obj.mk (Value.type "tuple") none (Data.seq #[(Value.str (Str.ofString "self") 540),(Value.str (Str.ofString "other") 541)] 0) #[])) ::
(nat_lit 302,(Obj.mk (Value.type "tuple") none (Data.seq #[] 0) #[])) ::
(nat_lit 304,(Obj.mk (Value.type "code") none (Data.fields #[(Value.str (Str.ofString "__eq__") 537),(Value.str (Str.ofString "RangeSet.__eq__") 538),(Value.str (Str.ofString "/claim/cut.py") 539),(Value.int 164 0),(Value.int 2 0),(Value.int 0 0),(Value.int 0 0),(Value.int 3 0),(Value.ref 299),(Value.bool true),(Value.int 181 0),(Value.ref 300),Value.none,(Value.ref 301),(Value.ref 302),(Value.ref 303),(Value.int 542 0),(Value.int 164 0),(Value.str (Str.ofString "/claim/cut.py") 543)]) #[])) ::
(nat_lit 305,(Obj.mk (Value.type "function") none (Data.func (FuncData.mk (Str.ofString "__eq__") (Str.ofString "RangeSet.__eq__") ?p31 ?b31 ?s31 3 [] Value.none Value.none Value.none (Value.str (Str.ofString "aioquic.quic.rangeset") 416) none (Value.ref 304) Value.none 0)) #[])) ::
(nat_lit 306,(Obj.mk (Value.type "tuple") none (Data.seq #[] 0) #[])) ::
(nat_lit 308,(Obj.mk (Value.type "tuple") none (Data.seq #[(Value.str (Str.ofString "self") 548),(Value.str (Str.ofString "key") 549)] 0) #[])) ::
(nat_lit 309,(Obj.mk (Value.type "tuple") none (Data.seq #[] 0) #[])) ::
(nat_lit 311,(Obj.mk (Value.type "code") none (Data.fields #[(Value.str (Str.ofString "__getitem__") 545),(Value.str (Str.ofString "RangeSet.__getitem__") 546),(Value.str (Str.ofString "/claim/cut.py") 547),(Value.int 169 0),(Value.int 2 0),(Value.int 0 0),(Value.int 0 0),(Value.int 3 0),(Value.ref 306),(Value.bool true),(Value.int 181 0),(Value.ref 307),Value.none,(Value.ref 308),(Value.ref 309),(Value.ref 310),(Value.int 550 0),(Value.int 169 0),(Value.str (Str.ofString "/claim/cut.py") 551)]) #[])) ::
(nat_lit 312,(Obj.mk (Value.type "function") none (Data.func (FuncData.mk (Str.ofString "__getitem__") (Str.ofString "RangeSet.__getitem__") ?p32 ?b32 ?s32 3 [] Value.none Value.none Value.none (Value.str (Str.ofString "aioquic.quic.rangeset") 416) none (Value.ref 311) Value.none 0)) #[])) ::
(nat_lit 313,(Obj.mk (Value.type "tuple") none (Data.seq #[] 0) #[])) ::
(nat_lit 315,(Obj.mk (Value.type "tuple") none (Data.seq #[(Value.str (Str.ofString "self") 556),(Value.str (Str.ofString "r") 557)] 0) #[])) ::
(nat_lit 316,(Obj.mk (Value.type "tuple") none (Data.seq #[] 0) #[])) ::
(nat_lit 318,(Obj.mk (Value.type "code") none (Data.fields #[(Value.str (Str.ofString "__iter__") 553),(Value.str (Str.ofString "RangeSet.__iter__") 554),(Value.str (Str.ofString "/claim/cut.py") 555),(Value.int 172 0),(Value.int 1 0),(Value.int 0 0),(Value.int 0 0),(Value.int 35 0),(Value.ref 313),(Value.bool true),(Value.int 181 0),(Value.ref 314),Value.none,(Value.ref 315),(Value.ref 316),(Value.ref 317),(Value.int 558 0),(Value.int 172 0),(Value.str (Str.ofString "/claim/cut.py") 559)]) #[])) ::
(nat_lit 319,(Obj.mk (Value.type "function") none (Data.func (FuncData.mk (Str.ofString "__iter__") (Str.ofString "RangeSet.__iter__") ?p33 ?b33 ?s33 3 [] Value.none Value.none Value.none (Value.str (Str.ofString "aioquic.quic.rangeset") 416) none (Value.ref 318) Value.none 0)) #[])) ::
(nat_lit 320,(Obj.mk (Value.type "tuple") none (Data.seq #[] 0) #[])) ::
(nat_lit 322,(Obj.mk (Value.type "tuple") none (Data.seq #[(Value.str (Str.ofString "self") 564)] 0) #[])) ::
(nat_lit 323,(Obj.mk (Value.type "tuple") none (Data.seq #[] 0) #[])) ::
(nat_lit 325,(Obj.mk (Value.type "code") none (Data.fields #[(Value.str (Str.ofString "__len__") 561),(Value.str (Str.ofString "RangeSet.__len__") 562),(Value.str (Str.ofString "/claim/cut.py") 563),(Value.int 176 0),(Value.int 1 0),(Value.int 0 0),(Value.int 0 0),(Value.int 3 0),(Value.ref 320),(Value.bool true),(Value.int 181 0),(Value.ref 321),Value.none,(Value.ref 322),(Value.ref 323),(Value.ref 324),(Value.int 565 0),(Value.int 176 0),(Value.str (Str.ofString "/claim/cut.py") 566)]) #[])) ::
(nat_lit 326,(Obj.mk (Value.type "function") none (Data.func (FuncData.mk (Str.ofString "__len__") (Str.ofString "RangeSet.__len__") ?p34 ?b34 ?s34 3 [] Value.none Value.none Value.none (Value.str (Str.ofString "aioquic.quic.rangeset") 416) none (Value.ref 325) Value.none 0)) #[])) ::
(nat_lit 327,(Obj.mk (Value.type "tuple") none (Data.seq #[(Value.str (Str.ofString "_ranges") 568)] 0) #[])) ::
(nat_lit 328,(Obj.mk (Value.type "dict") none (Data.dict #[(DictEntry.mk (PyData.keyHash P (Str.ofString "__module__")) (Value.str (Str.ofString "__module__") 473) (Value.str (Str.ofString "aioquic.quic.rangeset") 416)),(DictEntry.mk (PyData.keyHash P (Str.ofString "__firstlineno__")) (Value.str (Str.ofString "__firstlineno__") 477) (Value.int 120 476)),(DictEntry.mk (PyData.keyHash P (Str.ofString "__init__")) (Value.str (Str.ofString "__init__") 486) (Value.ref 255)),(DictEntry.mk (PyData.keyHash P (Str.ofString "add")) (Value.str (Str.ofString "add") 497) (Value.ref 263)),(DictEntry.mk (PyData.keyHash P (Str.ofString "bounds")) (Value.str (Str.ofString "bounds") 504) (Value.ref 270)),(DictEntry.mk (PyData.keyHash P (Str.ofString "shift")) (Value.str (Str.ofString "shift") 511) (Value.ref 277)),(DictEntry.mk (PyData.keyHash P (Str.ofString "subtract")) (Value.str (Str.ofString "subtract") 520) (Value.ref 284)),(DictEntry.mk (PyData.keyHash P (Str.ofString "__bool__")) (Value.str (Str.ofString "__bool__") 527) (Value.ref 291)),(DictEntry.mk (PyData.keyHash P (Str.ofString "__contains__")) (Value.str (Str.ofString "__contains__") 536) (Value.ref 298)),(DictEntry.mk (PyData.keyHash P (Str.ofString "__eq__")) (Value.str (Str.ofString "__eq__") 544) (Value.ref 305)),(DictEntry.mk (PyData.keyHash P (Str.ofString "__getitem__")) (Value.str (Str.ofString "__getitem__") 552) (Value.ref 312)),(DictEntry.mk (PyData.keyHash P (Str.ofString "__iter__")) (Value.str (Str.ofString "__iter__") 560) (Value.ref 319)),(DictEntry.mk (PyData.keyHash P (Str.ofString "__len__")) (Value.str (Str.ofString "__len__") 567) (Value.ref 326)),(DictEntry.mk (PyData.keyHash P (Str.ofString "__static_attributes__")) (Value.str (Str.ofString "__static_attributes__") 569) (Value.ref 327)),(DictEntry.mk (PyData.keyHash P (Str.ofString "__dict__")) (Value.str (Str.ofString "__dict__") 571) (Value.ref 330)),(DictEntry.mk (PyData.keyHash P (Str.ofString "__weakref__")) (Value.str (Str.ofString "__weakref__") 573) (Value.ref 331)),(DictEntry.mk (PyData.keyHash P (Str.ofString "__doc__")) (Value.str (Str.ofString "__doc__") 574) Value.none),(DictEntry.mk (PyData.keyHash P (Str.ofString "__hash__")) (Value.str (Str.ofString "__hash__") 575) Value.none)] 5) #[])) ::
(nat_lit 329,(Obj.mk (Value.type "type") none (Data.cls (ClassData.mk (Str.ofString "RangeSet") [(Value.type "object")] [(Value.ref 329),(Value.type "object")] 328 (Str.ofString "RangeSet") true [] [] false none false)) #[none,none,(some (Value.str (Str.ofString "RangeSet") 466)),(some (Value.str (Str.ofString "RangeSet") 474)),(some (Value.builtin "object.__new__")),(some (Value.bool true))])) ::
(nat_lit 330,(Obj.mk (Value.type "getset_descriptor") none (Data.fields #[(Value.str (Str.ofString "__dict__") 570),(Value.ref 329),(Value.builtin "function.__dict__"),(Value.builtin "function.__dict__#set")]) #[])) ::
(nat_lit 331,(Obj.mk (Value.type "getset_descriptor") none (Data.fields #[(Value.str (Str.ofString "__weakref__") 572),(Value.ref 329),(Value.builtin "ExceptionGroup.__weakref__"),Value.none]) #[])) ::
(nat_lit 334,(Obj.mk (Value.type "tuple") none (Data.seq #[] 0) #[])) ::
(nat_lit 336,(Obj.mk (Value.type "tuple") none (Data.seq #[(Value.str (Str.ofString "buf") 583),(Value.str (Str.ofString "rangeset") 584),(Value.str (Str.ofString "end") 585),(Value.str (Str.ofString "delay") 586),(Value.str (Str.ofString "ack_range_count") 587),(Value.str (Str.ofString "ack_count") 588),(Value.str (Str.ofString "_") 589)] 0) #[])) ::
(nat_lit 337,(Obj.mk (Value.type "tuple") none (Data.seq #[] 0) #[])) ::
(nat_lit 339,(Obj.mk (Value.type "code") none (Data.fields #[(Value.str (Str.ofString "pull_ack_frame") 580),(Value.str (Str.ofString "pull_ack_frame") 581),(Value.str (Str.ofString "/claim/cut.py") 582),(Value.int 179 0),(Value.int 1 0),(Value.int 0 0),(Value.int 0 0),(Value.int 3 0),(Value.ref 334),(Value.bool true),(Value.int 181 0),(Value.ref 335),Value.none,(Value.ref 336),(Value.ref 337),(Value.ref 338),(Value.int 590 0),(Value.int 179 0),(Value.str (Str.ofString "/claim/cut.py") 591)]) #[])) ::
(nat_lit 340,(Obj.mk (Value.type "function") none (Data.func (FuncData.mk (Str.ofString "pull_ack_frame") (Str.ofString "pull_ack_frame") ?p35 ?b35 ?s35 3 [] Value.none Value.none Value.none (Value.str (Str.ofString "aioquic.quic.packet") 578) none (Value.ref 339) Value.none 0)) #[])) ::
(nat_lit 341,(Obj.mk (Value.type "tuple") none (Data.seq #[] 0) #[])) ::
(nat_lit 343,(Obj.mk (Value.type "tuple") none (Data.seq #[(Value.str (Str.ofString "buf") 596),(Value.str (Str.ofString "rangeset") 597),(Value.str (Str.ofString "delay") 598),(Value.str (Str.ofString "capacity") 599),(Value.str (Str.ofString "ranges") 600),(Value.str (Str.ofString "index") 601),(Value.str (Str.ofString "r") 602),(Value.str (Str.ofString "field_size") 603),(Value.str (Str.ofString "oldest") 604),(Value.str (Str.ofString "start") 605)] 0) #[])) ::
(nat_lit 344,(Obj.mk (Value.type "tuple") none (Data.seq #[] 0) #[])) ::
(nat_lit 346,(Obj.mk (Value.type "code") none (Data.fields #[(Value.str (Str.ofString "push_ack_frame") 593),(Value.str (Str.ofString "push_ack_frame") 594),(Value.str (Str.ofString "/claim/cut.py") 595),(Value.int 195 0),(Value.int 4 0),(Value.int 0 0),(Value.int 0 0),(Value.int 3 0),(Value.ref 341),(Value.bool true),(Value.int 181 0),(Value.ref 342),Value.none,(Value.ref 343),(Value.ref 344),(Value.ref 345),(Value.int 606 0),(Value.int 195 0),(Value.str (Str.ofString "/claim/cut.py") 607)]) #[])) ::
(nat_lit 347,(Obj.mk (Value.type "function") none (Data.func (FuncData.mk (Str.ofString "push_ack_frame") (Str.ofString "push_ack_frame") ?p36 ?b36 ?s36 3 [] Value.none Value.none Value.none (Value.str (Str.ofString "aioquic.quic.packet") 578) none (Value.ref 346) Value.none 0)) #[])) ::
(nat_lit 348,(Obj.mk (Value.type "tuple") none (Data.seq #[] 0) #[])) ::
(nat_lit 350,(Obj.mk (Value.type "tuple") none (Data.seq #[] 0) #[])) ::
(nat_lit 351,(Obj.mk (Value.type "tuple") none (Data.seq #[] 0) #[])) ::
(nat_lit 353,(Obj.mk (Value.type "code") none (Data.fields #[(Value.str (Str.ofString "_law_bases") 611),(Value.str (Str.ofString "_law_bases") 612),(Value.str (Str.ofString "/claim/cut.py") 613),(Value.int 216 0),(Value.int 0 0),(Value.int 0 0),(Value.int 0 0),(Value.int 3 0),(Value.ref 348),(Value.bool true),(Value.int 181 0),(Value.ref 349),Value.none,(Value.ref 350),(Value.ref 351),(Value.ref 352),(Value.int 614 0),(Value.int 216 0),(Value.str (Str.ofString "/claim/cut.py") 615)]) #[])) ::
(nat_lit 354,(Obj.mk (Value.type "function") none (Data.func (FuncData.mk (Str.ofString "_law_bases") (Str.ofString "_law_bases") ?p37 ?b37 ?s37 3 [] Value.none Value.none Value.none (Value.str (Str.ofString "law_ix0004_01") 609) none (Value.ref 353) Value.none 0)) #[])) ::
(nat_lit 355,(Obj.mk (Value.type "tuple") none (Data.seq #[] 0) #[])) ::
(nat_lit 357,(Obj.mk (Value.type "tuple") none (Data.seq #[(Value.str (Str.ofString "value") 620),(Value.str (Str.ofString "index") 621)] 0) #[])) ::
(nat_lit 358,(Obj.mk (Value.type "tuple") none (Data.seq #[] 0) #[])) ::
(nat_lit 360,(Obj.mk (Value.type "code") none (Data.fields #[(Value.str (Str.ofString "_law_index") 617),(Value.str (Str.ofString "_law_index") 618),(Value.str (Str.ofString "/claim/cut.py") 619),(Value.int 218 0),(Value.int 1 0),(Value.int 0 0),(Value.int 0 0),(Value.int 3 0),(Value.ref 355),(Value.bool true),(Value.int 181 0),(Value.ref 356),Value.none,(Value.ref 357),(Value.ref 358),(Value.ref 359),(Value.int 622 0),(Value.int 218 0),(Value.str (Str.ofString "/claim/cut.py") 623)]) #[])) ::
(nat_lit 361,(Obj.mk (Value.type "function") none (Data.func (FuncData.mk (Str.ofString "_law_index") (Str.ofString "_law_index") ?p38 ?b38 ?s38 3 [] Value.none Value.none Value.none (Value.str (Str.ofString "law_ix0004_01") 609) none (Value.ref 360) Value.none 0)) #[])) ::
(nat_lit 362,(Obj.mk (Value.type "tuple") none (Data.seq #[] 0) #[])) ::
(nat_lit 364,(Obj.mk (Value.type "tuple") none (Data.seq #[(Value.str (Str.ofString "value") 628),(Value.str (Str.ofString "least") 629),(Value.str (Str.ofString "index") 630),(Value.str (Str.ofString "size") 631)] 0) #[])) ::
(nat_lit 365,(Obj.mk (Value.type "tuple") none (Data.seq #[] 0) #[])) ::
(nat_lit 367,(Obj.mk (Value.type "code") none (Data.fields #[(Value.str (Str.ofString "_law_put") 625),(Value.str (Str.ofString "_law_put") 626),(Value.str (Str.ofString "/claim/cut.py") 627),(Value.int 223 0),(Value.int 2 0),(Value.int 0 0),(Value.int 0 0),(Value.int 3 0),(Value.ref 362),(Value.bool true),(Value.int 181 0),(Value.ref 363),Value.none,(Value.ref 364),(Value.ref 365),(Value.ref 366),(Value.int 632 0),(Value.int 223 0),(Value.str (Str.ofString "/claim/cut.py") 633)]) #[])) ::
(nat_lit 368,(Obj.mk (Value.type "function") none (Data.func (FuncData.mk (Str.ofString "_law_put") (Str.ofString "_law_put") ?p39 ?b39 ?s39 3 [] Value.none Value.none Value.none (Value.str (Str.ofString "law_ix0004_01") 609) none (Value.ref 367) Value.none 0)) #[])) ::
(nat_lit 369,(Obj.mk (Value.type "tuple") none (Data.seq #[] 0) #[])) ::
(nat_lit 371,(Obj.mk (Value.type "tuple") none (Data.seq #[(Value.str (Str.ofString "base") 638),(Value.str (Str.ofString "numbers") 639),(Value.str (Str.ofString "rows") 640),(Value.str (Str.ofString "place") 641),(Value.str (Str.ofString "number") 642),(Value.str (Str.ofString "scale") 643),(Value.str (Str.ofString "first") 644)] 0) #[])) ::
(nat_lit 372,(Obj.mk (Value.type "tuple") none (Data.seq #[] 0) #[])) ::
(nat_lit 374,(Obj.mk (Value.type "code") none (Data.fields #[(Value.str (Str.ofString "_law_rows") 635),(Value.str (Str.ofString "_law_rows") 636),(Value.str (Str.ofString "/claim/cut.py") 637),(Value.int 227 0),(Value.int 2 0),(Value.int 0 0),(Value.int 0 0),(Value.int 3 0),(Value.ref 369),(Value.bool true),(Value.int 181 0),(Value.ref 370),Value.none,(Value.ref 371),(Value.ref 372),(Value.ref 373),(Value.int 645 0),(Value.int 227 0),(Value.str (Str.ofString "/claim/cut.py") 646)]) #[])) ::
(nat_lit 375,(Obj.mk (Value.type "function") none (Data.func (FuncData.mk (Str.ofString "_law_rows") (Str.ofString "_law_rows") ?p40 ?b40 ?s40 3 [] Value.none Value.none Value.none (Value.str (Str.ofString "law_ix0004_01") 609) none (Value.ref 374) Value.none 0)) #[])) ::
(nat_lit 376,(Obj.mk (Value.type "tuple") none (Data.seq #[] 0) #[])) ::
(nat_lit 378,(Obj.mk (Value.type "tuple") none (Data.seq #[(Value.str (Str.ofString "rows") 651),(Value.str (Str.ofString "delay") 652),(Value.str (Str.ofString "last") 653),(Value.str (Str.ofString "octets") 654),(Value.str (Str.ofString "k") 655)] 0) #[])) ::
(nat_lit 379,(Obj.mk (Value.type "tuple") none (Data.seq #[] 0) #[])) ::
(nat_lit 381,(Obj.mk (Value.type "code") none (Data.fields #[(Value.str (Str.ofString "_law_frame") 648),(Value.str (Str.ofString "_law_frame") 649),(Value.str (Str.ofString "/claim/cut.py") 650),(Value.int 236 0),(Value.int 2 0),(Value.int 0 0),(Value.int 0 0),(Value.int 3 0),(Value.ref 376),(Value.bool true),(Value.int 181 0),(Value.ref 377),Value.none,(Value.ref 378),(Value.ref 379),(Value.ref 380),(Value.int 656 0),(Value.int 236 0),(Value.str (Str.ofString "/claim/cut.py") 657)]) #[])) ::
(nat_lit 382,(Obj.mk (Value.type "function") none (Data.func (FuncData.mk (Str.ofString "_law_frame") (Str.ofString "_law_frame") ?p41 ?b41 ?s41 3 [] Value.none Value.none Value.none (Value.str (Str.ofString "law_ix0004_01") 609) none (Value.ref 381) Value.none 0)) #[])) ::
(nat_lit 383,(Obj.mk (Value.type "tuple") none (Data.seq #[] 0) #[])) ::
(nat_lit 386,(Obj.mk (Value.type "code") none (Data.fields #[(Value.str (Str.ofString "_law_pushed") 659),(Value.str (Str.ofString "_law_pushed") 660),(Value.str (Str.ofString "/claim/cut.py") 661),(Value.int 242 0),(Value.int 5 0),(Value.int 0 0),(Value.int 0 0),(Value.int 3 0),(Value.ref 383),(Value.bool true),(Value.int 181 0),(Value.ref 384),Value.none,Value.none,Value.none,(Value.ref 385),(Value.int 662 0),(Value.int 242 0),(Value.str (Str.ofString "/claim/cut.py") 663)]) #[])) ::
(nat_lit 387,(Obj.mk (Value.type "function") none (Data.func (FuncData.mk (Str.ofString "_law_pushed") (Str.ofString "_law_pushed") ?p42 ?b42 ?s42 3 [] Value.none Value.none Value.none (Value.str (Str.ofString "law_ix0004_01") 609) none (Value.ref 386) Value.none 0)) #[])) ::
(nat_lit 388,(Obj.mk (Value.type "tuple") none (Data.seq #[] 0) #[])) ::
(nat_lit 391,(Obj.mk (Value.type "code") none (Data.fields #[(Value.str (Str.ofString "_law_pulled") 665),(Value.str (Str.ofString "_law_pulled") 666),(Value.str (Str.ofString "/claim/cut.py") 667),(Value.int 263 0),(Value.int 4 0),(Value.int 0 0),(Value.int 0 0),(Value.int 3 0),(Value.ref 388),(Value.bool true),(Value.int 181 0),(Value.ref 389),Value.none,Value.none,Value.none,(Value.ref 390),(Value.int 668 0),(Value.int 263 0),(Value.str (Str.ofString "/claim/cut.py") 669)]) #[])) ::
(nat_lit 392,(Obj.mk (Value.type "function") none (Data.func (FuncData.mk (Str.ofString "_law_pulled") (Str.ofString "_law_pulled") ?p43 ?b43 ?s43 3 [] Value.none Value.none Value.none (Value.str (Str.ofString "law_ix0004_01") 609) none (Value.ref 391) Value.none 0)) #[])) ::
(nat_lit 393,(Obj.mk (Value.type "tuple") none (Data.seq #[] 0) #[])) ::
(nat_lit 396,(Obj.mk (Value.type "code") none (Data.fields #[(Value.str (Str.ofString "law") 671),(Value.str (Str.ofString "law") 672),(Value.str (Str.ofString "/claim/cut.py") 673),(Value.int 289 0),(Value.int 1 0),(Value.int 0 0),(Value.int 0 0),(Value.int 3 0),(Value.ref 393),(Value.bool true),(Value.int 181 0),(Value.ref 394),Value.none,Value.none,Value.none,(Value.ref 395),(Value.int 674 0),(Value.int 289 0),(Value.str (Str.ofString "/claim/cut.py") 675)]) #[])) ::
(nat_lit 397,(Obj.mk (Value.type "function") none (Data.func (FuncData.mk (Str.ofString "law") (Str.ofString "law") ?p44 ?b44 ?s44 3 [] Value.none Value.none Value.none (Value.str (Str.ofString "law_ix0004_01") 609) none (Value.ref 396) Value.none 0)) #[])) :: []) ?h
  case h =>
    have h : Wr (α := List (Arguments × FuncBody × Scope)) [(fdP (hdS Challenge.pw_ix0004_01.main.body), fdB (hdS Challenge.pw_ix0004_01.main.body), fdS (hdS Challenge.pw_ix0004_01.main.body)), (fdP (hdS (clsB (hdS (nx (nx (nx (nx Challenge.pw_ix0004_01.main.body))))))), fdB (hdS (clsB (hdS (nx (nx (nx (nx Challenge.pw_ix0004_01.main.body))))))), fdS (hdS (clsB (hdS (nx (nx (nx (nx Challenge.pw_ix0004_01.main.body)))))))), (fdP (hdS (nx (clsB (hdS (nx (nx (nx (nx Challenge.pw_ix0004_01.main.body)))))))), fdB (hdS (nx (clsB (hdS (nx (nx (nx (nx Challenge.pw_ix0004_01.main.body)))))))), fdS (hdS (nx (clsB (hdS (nx (nx (nx (nx Challenge.pw_ix0004_01.main.body))))))))), (fdP (hdS (nx (nx (clsB (hdS (nx (nx (nx (nx Challenge.pw_ix0004_01.main.body))))))))), fdB (hdS (nx (nx (clsB (hdS (nx (nx (nx (nx Challenge.pw_ix0004_01.main.body))))))))), fdS (hdS (nx (nx (clsB (hdS (nx (nx (nx (nx Challenge.pw_ix0004_01.main.body)))))))))), (fdP (hdS (nx (nx (nx (clsB (hdS (nx (nx (nx (nx Challenge.pw_ix0004_01.main.body)))))))))), fdB (hdS (nx (nx (nx (clsB (hdS (nx (nx (nx (nx Challenge.pw_ix0004_01.main.body)))))))))), fdS (hdS (nx (nx (nx (clsB (hdS (nx (nx (nx (nx Challenge.pw_ix0004_01.main.body))))))))))), (fdP (hdS (nx (nx (nx (nx (clsB (hdS (nx (nx (nx (nx Challenge.pw_ix0004_01.main.body))))))))))), fdB (hdS (nx (nx (nx (nx (clsB (hdS (nx (nx (nx (nx Challenge.pw_ix0004_01.main.body))))))))))), fdS (hdS (nx (nx (nx (nx (clsB (hdS (nx (nx (nx (nx Challenge.pw_ix0004_01.main.body)))))))))))), (fdP (hdS (nx (nx (nx (nx (nx (clsB (hdS (nx (nx (nx (nx Challenge.pw_ix0004_01.main.body)))))))))))), fdB (hdS (nx (nx (nx (nx (nx (clsB (hdS (nx (nx (nx (nx Challenge.pw_ix0004_01.main.body)))))))))))), fdS (hdS (nx (nx (nx (nx (nx (clsB (hdS (nx (nx (nx (nx Challenge.pw_ix0004_01.main.body))))))))))))), (fdP (hdS (nx (nx (nx (nx (nx (nx (clsB (hdS (nx (nx (nx (nx Challenge.pw_ix0004_01.main.body))))))))))))), fdB (hdS (nx (nx (nx (nx (nx (nx (clsB (hdS (nx (nx (nx (nx Challenge.pw_ix0004_01.main.body))))))))))))), fdS (hdS (nx (nx (nx (nx (nx (nx (clsB (hdS (nx (nx (nx (nx Challenge.pw_ix0004_01.main.body)))))))))))))), (fdP (hdS (nx (nx (nx (nx (nx (nx (nx (clsB (hdS (nx (nx (nx (nx Challenge.pw_ix0004_01.main.body)))))))))))))), fdB (hdS (nx (nx (nx (nx (nx (nx (nx (clsB (hdS (nx (nx (nx (nx Challenge.pw_ix0004_01.main.body)))))))))))))), fdS (hdS (nx (nx (nx (nx (nx (nx (nx (clsB (hdS (nx (nx (nx (nx Challenge.pw_ix0004_01.main.body))))))))))))))), (fdP (hdS (nx (nx (nx (nx (nx (nx (nx (nx (clsB (hdS (nx (nx (nx (nx Challenge.pw_ix0004_01.main.body))))))))))))))), fdB (hdS (nx (nx (nx (nx (nx (nx (nx (nx (clsB (hdS (nx (nx (nx (nx Challenge.pw_ix0004_01.main.body))))))))))))))), fdS (hdS (nx (nx (nx (nx (nx (nx (nx (nx (clsB (hdS (nx (nx (nx (nx Challenge.pw_ix0004_01.main.body)))))))))))))))), (fdP (hdS (nx (nx (nx (nx (nx (nx (nx (nx (nx (clsB (hdS (nx (nx (nx (nx Challenge.pw_ix0004_01.main.body)))))))))))))))), fdB (hdS (nx (nx (nx (nx (nx (nx (nx (nx (nx (clsB (hdS (nx (nx (nx (nx Challenge.pw_ix0004_01.main.body)))))))))))))))), fdS (hdS (nx (nx (nx (nx (nx (nx (nx (nx (nx (clsB (hdS (nx (nx (nx (nx Challenge.pw_ix0004_01.main.body))))))))))))))))), (fdP (hdS (nx (nx (nx (nx (nx (nx (nx (nx (nx (nx (clsB (hdS (nx (nx (nx (nx Challenge.pw_ix0004_01.main.body))))))))))))))))), fdB (hdS (nx (nx (nx (nx (nx (nx (nx (nx (nx (nx (clsB (hdS (nx (nx (nx (nx Challenge.pw_ix0004_01.main.body))))))))))))))))), fdS (hdS (nx (nx (nx (nx (nx (nx (nx (nx (nx (nx (clsB (hdS (nx (nx (nx (nx Challenge.pw_ix0004_01.main.body)))))))))))))))))), (fdP (hdS (nx (nx (nx (nx (nx (nx (nx (nx (nx (nx (nx (clsB (hdS (nx (nx (nx (nx Challenge.pw_ix0004_01.main.body)))))))))))))))))), fdB (hdS (nx (nx (nx (nx (nx (nx (nx (nx (nx (nx (nx (clsB (hdS (nx (nx (nx (nx Challenge.pw_ix0004_01.main.body)))))))))))))))))), fdS (hdS (nx (nx (nx (nx (nx (nx (nx (nx (nx (nx (nx (clsB (hdS (nx (nx (nx (nx Challenge.pw_ix0004_01.main.body))))))))))))))))))), (fdP (hdS (nx (nx (nx (nx (nx (nx (nx (nx (nx (nx (nx (nx (clsB (hdS (nx (nx (nx (nx Challenge.pw_ix0004_01.main.body))))))))))))))))))), fdB (hdS (nx (nx (nx (nx (nx (nx (nx (nx (nx (nx (nx (nx (clsB (hdS (nx (nx (nx (nx Challenge.pw_ix0004_01.main.body))))))))))))))))))), fdS (hdS (nx (nx (nx (nx (nx (nx (nx (nx (nx (nx (nx (nx (clsB (hdS (nx (nx (nx (nx Challenge.pw_ix0004_01.main.body)))))))))))))))))))), (fdP (hdS (nx (nx (nx (nx (nx (nx (nx (nx (nx (nx (nx (nx (nx (clsB (hdS (nx (nx (nx (nx Challenge.pw_ix0004_01.main.body)))))))))))))))))))), fdB (hdS (nx (nx (nx (nx (nx (nx (nx (nx (nx (nx (nx (nx (nx (clsB (hdS (nx (nx (nx (nx Challenge.pw_ix0004_01.main.body)))))))))))))))))))), fdS (hdS (nx (nx (nx (nx (nx (nx (nx (nx (nx (nx (nx (nx (nx (clsB (hdS (nx (nx (nx (nx Challenge.pw_ix0004_01.main.body))))))))))))))))))))), (fdP (hdS (nx (nx (nx (nx (nx (nx (nx (nx (nx (nx (nx (nx (nx (nx (clsB (hdS (nx (nx (nx (nx Challenge.pw_ix0004_01.main.body))))))))))))))))))))), fdB (hdS (nx (nx (nx (nx (nx (nx (nx (nx (nx (nx (nx (nx (nx (nx (clsB (hdS (nx (nx (nx (nx Challenge.pw_ix0004_01.main.body))))))))))))))))))))), fdS (hdS (nx (nx (nx (nx (nx (nx (nx (nx (nx (nx (nx (nx (nx (nx (clsB (hdS (nx (nx (nx (nx Challenge.pw_ix0004_01.main.body)))))))))))))))))))))), (fdP (hdS (nx (nx (nx (nx (nx (nx (nx (nx (nx (nx (nx (nx (nx (nx (nx (clsB (hdS (nx (nx (nx (nx Challenge.pw_ix0004_01.main.body)))))))))))))))))))))), fdB (hdS (nx (nx (nx (nx (nx (nx (nx (nx (nx (nx (nx (nx (nx (nx (nx (clsB (hdS (nx (nx (nx (nx Challenge.pw_ix0004_01.main.body)))))))))))))))))))))), fdS (hdS (nx (nx (nx (nx (nx (nx (nx (nx (nx (nx (nx (nx (nx (nx (nx (clsB (hdS (nx (nx (nx (nx Challenge.pw_ix0004_01.main.body))))))))))))))))))))))), (fdP (hdS (nx (nx (nx (nx (nx (nx (nx (nx (nx (nx (nx (nx (nx (nx (nx (nx (clsB (hdS (nx (nx (nx (nx Challenge.pw_ix0004_01.main.body))))))))))))))))))))))), fdB (hdS (nx (nx (nx (nx (nx (nx (nx (nx (nx (nx (nx (nx (nx (nx (nx (nx (clsB (hdS (nx (nx (nx (nx Challenge.pw_ix0004_01.main.body))))))))))))))))))))))), fdS (hdS (nx (nx (nx (nx (nx (nx (nx (nx (nx (nx (nx (nx (nx (nx (nx (nx (clsB (hdS (nx (nx (nx (nx Challenge.pw_ix0004_01.main.body)))))))))))))))))))))))), (fdP (hdS (nx (nx (nx (nx (nx (nx (nx (nx (nx (nx (nx (nx (nx (nx (nx (nx (nx (clsB (hdS (nx (nx (nx (nx Challenge.pw_ix0004_01.main.body)))))))))))))))))))))))), fdB (hdS (nx (nx (nx (nx (nx (nx (nx (nx (nx (nx (nx (nx (nx (nx (nx (nx (nx (clsB (hdS (nx (nx (nx (nx Challenge.pw_ix0004_01.main.body)))))))))))))))))))))))), fdS (hdS (nx (nx (nx (nx (nx (nx (nx (nx (nx (nx (nx (nx (nx (nx (nx (nx (nx (clsB (hdS (nx (nx (nx (nx Challenge.pw_ix0004_01.main.body))))))))))))))))))))))))), (fdP (hdS (nx (nx (nx (nx (nx (nx (nx (nx (nx (nx (nx (nx (nx (nx (nx (nx (nx (nx (clsB (hdS (nx (nx (nx (nx Challenge.pw_ix0004_01.main.body))))))))))))))))))))))))), fdB (hdS (nx (nx (nx (nx (nx (nx (nx (nx (nx (nx (nx (nx (nx (nx (nx (nx (nx (nx (clsB (hdS (nx (nx (nx (nx Challenge.pw_ix0004_01.main.body))))))))))))))))))))))))), fdS (hdS (nx (nx (nx (nx (nx (nx (nx (nx (nx (nx (nx (nx (nx (nx (nx (nx (nx (nx (clsB (hdS (nx (nx (nx (nx Challenge.pw_ix0004_01.main.body)))))))))))))))))))))))))), (fdP (hdS (nx (nx (nx (nx (nx (nx (nx Challenge.pw_ix0004_01.main.body)))))))), fdB (hdS (nx (nx (nx (nx (nx (nx (nx Challenge.pw_ix0004_01.main.body)))))))), fdS (hdS (nx (nx (nx (nx (nx (nx (nx Challenge.pw_ix0004_01.main.body))))))))), (fdP (hdS (clsB (hdS (nx (nx (nx (nx (nx (nx (nx (nx (nx Challenge.pw_ix0004_01.main.body)))))))))))), fdB (hdS (clsB (hdS (nx (nx (nx (nx (nx (nx (nx (nx (nx Challenge.pw_ix0004_01.main.body)))))))))))), fdS (hdS (clsB (hdS (nx (nx (nx (nx (nx (nx (nx (nx (nx Challenge.pw_ix0004_01.main.body))))))))))))), (fdP (hdS (nx (clsB (hdS (nx (nx (nx (nx (nx (nx (nx (nx (nx Challenge.pw_ix0004_01.main.body))))))))))))), fdB (hdS (nx (clsB (hdS (nx (nx (nx (nx (nx (nx (nx (nx (nx Challenge.pw_ix0004_01.main.body))))))))))))), fdS (hdS (nx (clsB (hdS (nx (nx (nx (nx (nx (nx (nx (nx (nx Challenge.pw_ix0004_01.main.body)))))))))))))), (fdP (hdS (nx (nx (clsB (hdS (nx (nx (nx (nx (nx (nx (nx (nx (nx Challenge.pw_ix0004_01.main.body)))))))))))))), fdB (hdS (nx (nx (clsB (hdS (nx (nx (nx (nx (nx (nx (nx (nx (nx Challenge.pw_ix0004_01.main.body)))))))))))))), fdS (hdS (nx (nx (clsB (hdS (nx (nx (nx (nx (nx (nx (nx (nx (nx Challenge.pw_ix0004_01.main.body))))))))))))))), (fdP (hdS (clsB (hdS (nx (nx (nx (nx (nx (nx (nx (nx (nx (nx Challenge.pw_ix0004_01.main.body))))))))))))), fdB (hdS (clsB (hdS (nx (nx (nx (nx (nx (nx (nx (nx (nx (nx Challenge.pw_ix0004_01.main.body))))))))))))), fdS (hdS (clsB (hdS (nx (nx (nx (nx (nx (nx (nx (nx (nx (nx Challenge.pw_ix0004_01.main.body)))))))))))))), (fdP (hdS (nx (clsB (hdS (nx (nx (nx (nx (nx (nx (nx (nx (nx (nx Challenge.pw_ix0004_01.main.body)))))))))))))), fdB (hdS (nx (clsB (hdS (nx (nx (nx (nx (nx (nx (nx (nx (nx (nx Challenge.pw_ix0004_01.main.body)))))))))))))), fdS (hdS (nx (clsB (hdS (nx (nx (nx (nx (nx (nx (nx (nx (nx (nx Challenge.pw_ix0004_01.main.body))))))))))))))), (fdP (hdS (nx (nx (clsB (hdS (nx (nx (nx (nx (nx (nx (nx (nx (nx (nx Challenge.pw_ix0004_01.main.body))))))))))))))), fdB (hdS (nx (nx (clsB (hdS (nx (nx (nx (nx (nx (nx (nx (nx (nx (nx Challenge.pw_ix0004_01.main.body))))))))))))))), fdS (hdS (nx (nx (clsB (hdS (nx (nx (nx (nx (nx (nx (nx (nx (nx (nx Challenge.pw_ix0004_01.main.body)))))))))))))))), (fdP (hdS (nx (nx (nx (clsB (hdS (nx (nx (nx (nx (nx (nx (nx (nx (nx (nx Challenge.pw_ix0004_01.main.body)))))))))))))))), fdB (hdS (nx (nx (nx (clsB (hdS (nx (nx (nx (nx (nx (nx (nx (nx (nx (nx Challenge.pw_ix0004_01.main.body)))))))))))))))), fdS (hdS (nx (nx (nx (clsB (hdS (nx (nx (nx (nx (nx (nx (nx (nx (nx (nx Challenge.pw_ix0004_01.main.body))))))))))))))))), (fdP (hdS (nx (nx (nx (nx (clsB (hdS (nx (nx (nx (nx (nx (nx (nx (nx (nx (nx Challenge.pw_ix0004_01.main.body))))))))))))))))), fdB (hdS (nx (nx (nx (nx (clsB (hdS (nx (nx (nx (nx (nx (nx (nx (nx (nx (nx Challenge.pw_ix0004_01.main.body))))))))))))))))), fdS (hdS (nx (nx (nx (nx (clsB (hdS (nx (nx (nx (nx (nx (nx (nx (nx (nx (nx Challenge.pw_ix0004_01.main.body)))))))))))))))))), (fdP (hdS (nx (nx (nx (nx (nx (clsB (hdS (nx (nx (nx (nx (nx (nx (nx (nx (nx (nx Challenge.pw_ix0004_01.main.body)))))))))))))))))), fdB (hdS (nx (nx (nx (nx (nx (clsB (hdS (nx (nx (nx (nx (nx (nx (nx (nx (nx (nx Challenge.pw_ix0004_01.main.body)))))))))))))))))), fdS (hdS (nx (nx (nx (nx (nx (clsB (hdS (nx (nx (nx (nx (nx (nx (nx (nx (nx (nx Challenge.pw_ix0004_01.main.body))))))))))))))))))), (fdP (hdS (nx (nx (nx (nx (nx (nx (clsB (hdS (nx (nx (nx (nx (nx (nx (nx (nx (nx (nx Challenge.pw_ix0004_01.main.body))))))))))))))))))), fdB (hdS (nx (nx (nx (nx (nx (nx (clsB (hdS (nx (nx (nx (nx (nx (nx (nx (nx (nx (nx Challenge.pw_ix0004_01.main.body))))))))))))))))))), fdS (hdS (nx (nx (nx (nx (nx (nx (clsB (hdS (nx (nx (nx (nx (nx (nx (nx (nx (nx (nx Challenge.pw_ix0004_01.main.body)))))))))))))))))))), (fdP (hdS (nx (nx (nx (nx (nx (nx (nx (clsB (hdS (nx (nx (nx (nx (nx (nx (nx (nx (nx (nx Challenge.pw_ix0004_01.main.body)))))))))))))))))))), fdB (hdS (nx (nx (nx (nx (nx (nx (nx (clsB (hdS (nx (nx (nx (nx (nx (nx (nx (nx (nx (nx Challenge.pw_ix0004_01.main.body)))))))))))))))))))), fdS (hdS (nx (nx (nx (nx (nx (nx (nx (clsB (hdS (nx (nx (nx (nx (nx (nx (nx (nx (nx (nx Challenge.pw_ix0004_01.main.body))))))))))))))))))))), (fdP (hdS (nx (nx (nx (nx (nx (nx (nx (nx (clsB (hdS (nx (nx (nx (nx (nx (nx (nx (nx (nx (nx Challenge.pw_ix0004_01.main.body))))))))))))))))))))), fdB (hdS (nx (nx (nx (nx (nx (nx (nx (nx (clsB (hdS (nx (nx (nx (nx (nx (nx (nx (nx (nx (nx Challenge.pw_ix0004_01.main.body))))))))))))))))))))), fdS (hdS (nx (nx (nx (nx (nx (nx (nx (nx (clsB (hdS (nx (nx (nx (nx (nx (nx (nx (nx (nx (nx Challenge.pw_ix0004_01.main.body)))))))))))))))))))))), (fdP (hdS (nx (nx (nx (nx (nx (nx (nx (nx (nx (clsB (hdS (nx (nx (nx (nx (nx (nx (nx (nx (nx (nx Challenge.pw_ix0004_01.main.body)))))))))))))))))))))), fdB (hdS (nx (nx (nx (nx (nx (nx (nx (nx (nx (clsB (hdS (nx (nx (nx (nx (nx (nx (nx (nx (nx (nx Challenge.pw_ix0004_01.main.body)))))))))))))))))))))), fdS (hdS (nx (nx (nx (nx (nx (nx (nx (nx (nx (clsB (hdS (nx (nx (nx (nx (nx (nx (nx (nx (nx (nx Challenge.pw_ix0004_01.main.body))))))))))))))))))))))), (fdP (hdS (nx (nx (nx (nx (nx (nx (nx (nx (nx (nx (clsB (hdS (nx (nx (nx (nx (nx (nx (nx (nx (nx (nx Challenge.pw_ix0004_01.main.body))))))))))))))))))))))), fdB (hdS (nx (nx (nx (nx (nx (nx (nx (nx (nx (nx (clsB (hdS (nx (nx (nx (nx (nx (nx (nx (nx (nx (nx Challenge.pw_ix0004_01.main.body))))))))))))))))))))))), fdS (hdS (nx (nx (nx (nx (nx (nx (nx (nx (nx (nx (clsB (hdS (nx (nx (nx (nx (nx (nx (nx (nx (nx (nx Challenge.pw_ix0004_01.main.body)))))))))))))))))))))))), (fdP (hdS (nx (nx (nx (nx (nx (nx (nx (nx (nx (nx (nx (nx Challenge.pw_ix0004_01.main.body))))))))))))), fdB (hdS (nx (nx (nx (nx (nx (nx (nx (nx (nx (nx (nx (nx Challenge.pw_ix0004_01.main.body))))))))))))), fdS (hdS (nx (nx (nx (nx (nx (nx (nx (nx (nx (nx (nx (nx Challenge.pw_ix0004_01.main.body)))))))))))))), (fdP (hdS (nx (nx (nx (nx (nx (nx (nx (nx (nx (nx (nx (nx (nx Challenge.pw_ix0004_01.main.body)))))))))))))), fdB (hdS (nx (nx (nx (nx (nx (nx (nx (nx (nx (nx (nx (nx (nx Challenge.pw_ix0004_01.main.body)))))))))))))), fdS (hdS (nx (nx (nx (nx (nx (nx (nx (nx (nx (nx (nx (nx (nx Challenge.pw_ix0004_01.main.body))))))))))))))), (fdP (hdS (nx (nx (nx (nx (nx (nx (nx (nx (nx (nx (nx (nx (nx (nx (nx Challenge.pw_ix0004_01.main.body)))))))))))))))), fdB (hdS (nx (nx (nx (nx (nx (nx (nx (nx (nx (nx (nx (nx (nx (nx (nx Challenge.pw_ix0004_01.main.body)))))))))))))))), fdS (hdS (nx (nx (nx (nx (nx (nx (nx (nx (nx (nx (nx (nx (nx (nx (nx Challenge.pw_ix0004_01.main.body))))))))))))))))), (fdP (hdS (nx (nx (nx (nx (nx (nx (nx (nx (nx (nx (nx (nx (nx (nx (nx (nx Challenge.pw_ix0004_01.main.body))))))))))))))))), fdB (hdS (nx (nx (nx (nx (nx (nx (nx (nx (nx (nx (nx (nx (nx (nx (nx (nx Challenge.pw_ix0004_01.main.body))))))))))))))))), fdS (hdS (nx (nx (nx (nx (nx (nx (nx (nx (nx (nx (nx (nx (nx (nx (nx (nx Challenge.pw_ix0004_01.main.body)))))))))))))))))), (fdP (hdS (nx (nx (nx (nx (nx (nx (nx (nx (nx (nx (nx (nx (nx (nx (nx (nx (nx Challenge.pw_ix0004_01.main.body)))))))))))))))))), fdB (hdS (nx (nx (nx (nx (nx (nx (nx (nx (nx (nx (nx (nx (nx (nx (nx (nx (nx Challenge.pw_ix0004_01.main.body)))))))))))))))))), fdS (hdS (nx (nx (nx (nx (nx (nx (nx (nx (nx (nx (nx (nx (nx (nx (nx (nx (nx Challenge.pw_ix0004_01.main.body))))))))))))))))))), (fdP (hdS (nx (nx (nx (nx (nx (nx (nx (nx (nx (nx (nx (nx (nx (nx (nx (nx (nx (nx Challenge.pw_ix0004_01.main.body))))))))))))))))))), fdB (hdS (nx (nx (nx (nx (nx (nx (nx (nx (nx (nx (nx (nx (nx (nx (nx (nx (nx (nx Challenge.pw_ix0004_01.main.body))))))))))))))))))), fdS (hdS (nx (nx (nx (nx (nx (nx (nx (nx (nx (nx (nx (nx (nx (nx (nx (nx (nx (nx Challenge.pw_ix0004_01.main.body)))))))))))))))))))), (fdP (hdS (nx (nx (nx (nx (nx (nx (nx (nx (nx (nx (nx (nx (nx (nx (nx (nx (nx (nx (nx Challenge.pw_ix0004_01.main.body)))))))))))))))))))), fdB (hdS (nx (nx (nx (nx (nx (nx (nx (nx (nx (nx (nx (nx (nx (nx (nx (nx (nx (nx (nx Challenge.pw_ix0004_01.main.body)))))))))))))))))))), fdS (hdS (nx (nx (nx (nx (nx (nx (nx (nx (nx (nx (nx (nx (nx (nx (nx (nx (nx (nx (nx Challenge.pw_ix0004_01.main.body))))))))))))))))))))), (fdP (hdS (nx (nx (nx (nx (nx (nx (nx (nx (nx (nx (nx (nx (nx (nx (nx (nx (nx (nx (nx (nx Challenge.pw_ix0004_01.main.body))))))))))))))))))))), fdB (hdS (nx (nx (nx (nx (nx (nx (nx (nx (nx (nx (nx (nx (nx (nx (nx (nx (nx (nx (nx (nx Challenge.pw_ix0004_01.main.body))))))))))))))))))))), fdS (hdS (nx (nx (nx (nx (nx (nx (nx (nx (nx (nx (nx (nx (nx (nx (nx (nx (nx (nx (nx (nx Challenge.pw_ix0004_01.main.body)))))))))))))))))))))), (fdP (hdS (nx (nx (nx (nx (nx (nx (nx (nx (nx (nx (nx (nx (nx (nx (nx (nx (nx (nx (nx (nx (nx Challenge.pw_ix0004_01.main.body)))))))))))))))))))))), fdB (hdS (nx (nx (nx (nx (nx (nx (nx (nx (nx (nx (nx (nx (nx (nx (nx (nx (nx (nx (nx (nx (nx Challenge.pw_ix0004_01.main.body)))))))))))))))))))))), fdS (hdS (nx (nx (nx (nx (nx (nx (nx (nx (nx (nx (nx (nx (nx (nx (nx (nx (nx (nx (nx (nx (nx Challenge.pw_ix0004_01.main.body))))))))))))))))))))))), (fdP (hdS (nx (nx (nx (nx (nx (nx (nx (nx (nx (nx (nx (nx (nx (nx (nx (nx (nx (nx (nx (nx (nx (nx Challenge.pw_ix0004_01.main.body))))))))))))))))))))))), fdB (hdS (nx (nx (nx (nx (nx (nx (nx (nx (nx (nx (nx (nx (nx (nx (nx (nx (nx (nx (nx (nx (nx (nx Challenge.pw_ix0004_01.main.body))))))))))))))))))))))), fdS (hdS (nx (nx (nx (nx (nx (nx (nx (nx (nx (nx (nx (nx (nx (nx (nx (nx (nx (nx (nx (nx (nx (nx Challenge.pw_ix0004_01.main.body))))))))))))))))))))))))] := .mk
    dsimp only [fdP, fdB, fdS, nx, hdS, clsB, PySem.Challenge.pw_ix0004_01] at h
    exact h
end Mine
end
section
open PySem PySem.W PyProof.Rows PySem.Calls
set_option maxRecDepth 100000
set_option maxHeartbeats 8000000
namespace Mine
noncomputable def ys : List String := ["tuple","code","frame","dict","__main__.__loader__#opaque","function","ValueError","builtin_function_or_method","type.__prepare__","type","Exception","BaseException","object","ValueError.__new__","getset_descriptor","ExceptionGroup.__weakref__","super","object.__init_subclass__","property","object.__new__","function.__dict__","function.__dict__#set","list"]
theorem pr_ys : (fun _ : List String => true) ys = true := by k_qdec
noncomputable def sRaw (c : List Nat) : Str := Str.ofString (String.ofList (c.map Char.ofNat))
noncomputable def sTw (c : List Nat) : Str := ⟨⟨c⟩⟩
theorem sRaw_eq {c : List Nat} (h : c.all (fun n => Nat.blt n 55296) = true) : sRaw c = sTw c := by
  unfold sRaw sTw
  rw [Fast.ofString_ofList, List.map_map]
  have e : c.map (Char.toNat ∘ Char.ofNat) = c := by
    induction c with
    | nil => rfl
    | cons a l ih =>
      rw [List.all_cons, Bool.and_eq_true] at h
      have ha : a < 55296 := Nat.le_of_ble_eq_true h.1
      rw [List.map_cons, ih h.2]
      congr 1
      show (Char.ofNat a).toNat = a
      unfold Char.ofNat
      rw [dif_pos (Or.inl ha)]
      rfl
  rw [e]
theorem tab_eq : ∀ {l : List (List Nat)}, l.all (fun c => c.all (fun n => Nat.blt n 55296)) = true → l.map sRaw = l.map sTw
  | [], _ => rfl
  | c :: l, h => by
    rw [List.all_cons, Bool.and_eq_true] at h
    rw [List.map_cons, List.map_cons, sRaw_eq h.1, tab_eq h.2]
noncomputable def rt (p : Program) : Tab := ⟨fun i => (cds.map sRaw).getD i ⟨#[]⟩, fun i => ys.getD i "", p⟩
noncomputable def zt (p : Program) : Tab := ⟨fun i => (cds.map sTw).getD i ⟨#[]⟩, fun i => Fast.tw13352928957712943912.getD i "", p⟩
theorem rt_zt (p : Program) : rt p = zt p := by
  unfold rt zt
  rw [tab_eq (by decide +kernel), ← Fast.te13352928957712943912]
theorem frag_raw (P : Params) : frag (rt PySem.Challenge.pw_ix0004_01) P = hd.heap_39 P := by kernel_rfl
theorem frag_eq : frag (zt PySem.Challenge.pw_ix0004_01) = hd.heap_39 := by rw [← rt_zt]; exact funext frag_raw
theorem by_tw {α : Type} {a a' b b' : World → OsState → α} (h1 : a = a') (h2 : b = b') (h : ∀ w os, a' w os = b' w os) : ∀ w os, a w os = b w os := by subst h1; subst h2; exact h
noncomputable def env (p : Program) : Env := { scope := p.main.scope, locals := mainNs, globals := mainNs, cells := [], code := Value.ref 13, frame := some 14 }
noncomputable def bE (p : Program) : List Stmt := behindTheImports p
noncomputable def cE (p : Program) : Code := Code.body (bE p) (env p)
noncomputable def p0 : Pos := ⟨0,0,0,0⟩
noncomputable def pF : Pos := ⟨289,0,300,68⟩
noncomputable def BF : List Frame := [topFrame p0]
noncomputable def a0 (p : Program) (w : World) (os : OsState) := topGo treeTable p w 11 (some (Value.ref 6)) 12 { heap := boot_heap w.params, drawn := boot_drawn, toks := boot_toks, os := os } (topStub p)
noncomputable def b0 (p : Program) (w : World) (os : OsState) : Option (Shared × Thread) := some ({ heap := heap0 (zt p) w.params, toks := 187, os := os }, ⟨denote treeTable (.body (bE p) (env p)), (cE p), p0, BF⟩)
noncomputable def a1 (p : Program) (w : World) (os : OsState) := segRun treeTable p w 11 (some (Value.ref 6)) 1 1 { heap := heap0 (zt p) w.params, toks := 187, os := os } (blockOf (bE p) (env p) (cE p) p0 [topFrame p0])
noncomputable def b1 (p : Program) (w : World) (os : OsState) : Option (Flow × Shared × Code × Pos) := some (.next, (SharedT.mk (tree0 (zt p) w.params) 15 {} #[] {} 187 os).abs, (cE p), p0)
noncomputable def a2 (p : Program) (w : World) (os : OsState) := segRunT treeTable p w 11 (some (Value.ref 6)) 1 2555 (SharedT.mk (tree0 (zt p) w.params) 15 {} #[] {} 187 os) (piecesOf (bE p) (env p) (cE p) p0 [topFrame p0])
noncomputable def b2 (p : Program) (w : World) (os : OsState) : Option (Flow × SharedT × Code × Pos) := some (.next, SharedT.mk (treeF (zt p) w.params) 398 {} #[] {} 677 os, (cE p), pF)
noncomputable def a3 (p : Program) (w : World) (os : OsState) := topRun treeTable p w 11 (some (Value.ref 6)) 2 (SharedT.mk (treeF (zt p) w.params) 398 {} #[] {} 677 os).abs ⟨doneF .next, (cE p), pF, [topFrame p0]⟩
noncomputable def b3 (p : Program) (w : World) (os : OsState) : Option Shared := some { heap := heapF (zt p) w.params, toks := 677, os := os }
theorem q0 : (fun (_ : Program → World → OsState → Option (Shared × Thread)) (_ : Program → World → OsState → Option (Shared × Thread)) => true) a0 b0 = true := by k_qdec
theorem q1 : (fun (_ : Program → World → OsState → Option (Flow × Shared × Code × Pos)) (_ : Program → World → OsState → Option (Flow × Shared × Code × Pos)) => true) a1 b1 = true := by k_qdec
theorem q2 : (fun (_ : Program → World → OsState → Option (Flow × SharedT × Code × Pos)) (_ : Program → World → OsState → Option (Flow × SharedT × Code × Pos)) => true) a2 b2 = true := by k_qdec
theorem q3 : (fun (_ : Program → World → OsState → Option Shared) (_ : Program → World → OsState → Option Shared) => true) a3 b3 = true := by k_qdec
theorem e0 : ∀ w os, a0 PySem.Challenge.pw_ix0004_01 w os = b0 PySem.Challenge.pw_ix0004_01 w os := by_tw (congrFun Fast.te7546355087261336868 PySem.Challenge.pw_ix0004_01) (congrFun Fast.te6472066770762156974 PySem.Challenge.pw_ix0004_01) fun w os => by kernel_rfl
theorem e1 : ∀ w os, a1 PySem.Challenge.pw_ix0004_01 w os = b1 PySem.Challenge.pw_ix0004_01 w os := by_tw (congrFun Fast.te17586722937113387880 PySem.Challenge.pw_ix0004_01) (congrFun Fast.te12628306236224689797 PySem.Challenge.pw_ix0004_01) fun w os => by kernel_rfl
theorem e2 : ∀ w os, a2 PySem.Challenge.pw_ix0004_01 w os = b2 PySem.Challenge.pw_ix0004_01 w os := by_tw (congrFun Fast.te9694735274323795700 PySem.Challenge.pw_ix0004_01) (congrFun Fast.te5507945473589486150 PySem.Challenge.pw_ix0004_01) fun w os => by kernel_rfl
theorem e3 : ∀ w os, a3 PySem.Challenge.pw_ix0004_01 w os = b3 PySem.Challenge.pw_ix0004_01 w os := by_tw (congrFun Fast.te7774803424077196646 PySem.Challenge.pw_ix0004_01) (congrFun Fast.te8636133837685876770 PySem.Challenge.pw_ix0004_01) fun w os => by kernel_rfl
theorem run_all (w : World) (os : OsState) : topRun treeTable PySem.Challenge.pw_ix0004_01 w 11 (some (Value.ref 6)) (12 + (1 + (2555 + 2))) { heap := boot_heap w.params, drawn := boot_drawn, toks := boot_toks, os := os } (topStub PySem.Challenge.pw_ix0004_01) = some { heap := heapF (zt PySem.Challenge.pw_ix0004_01) w.params, toks := 677, os := os } := by
  have k2 := piece_app (rest := []) (segRun_of (e2 w os)) (piece_nil (e3 w os))
  rw [List.append_nil] at k2
  exact go_top (e0 w os) (piece_block (e1 w os) k2)
end Mine
end
section
open PySem PySem.W PyProof.Rows PySem.Calls
set_option maxRecDepth 100000
set_option maxHeartbeats 8000000
namespace Mine
noncomputable def keep : List Nat := [0,2,3,4,5,6,7,9,10,12,13,15,16,17,18,19,20,21,22]
noncomputable def view (p : Program) : Program := { p with main := { p.main with body := keep.map (stA p) } }
noncomputable def hd.view_39 : Program := { PySem.Challenge.pw_ix0004_01 with main := { PySem.Challenge.pw_ix0004_01.main with body := keep.map (stA PySem.Challenge.pw_ix0004_01) } }
noncomputable def looseN : List Str := [Str.ofString "Buffer", Str.ofString "RangeSet"]
noncomputable def HK : Hook := kHook (frag (zt PySem.Challenge.pw_ix0004_01)) addrs (fun _ => by kernel_rfl)
noncomputable def XtP (p : Program) (r : WRecords) (s : Shared) : Bool := xlAt (view p) [] s && recOk r s
noncomputable def XtK (s : Shared) : Bool := xlAt hd.view_39 [] s && recOk (RowW.records PySem.Challenge.rw_ix0004_01.row.toRowW) s
noncomputable def a4 (w : World) (_ : OsState) := ((boot_heap w.params).isNs mainGlobals && (#[] : Array GenState).size == 0, (boot_heap w.params).objs.size, (boot_heap w.params).nsMap mainGlobals "__annotations__")
noncomputable def b4 (_ : World) (_ : OsState) : Bool × Nat × Option Value := (true, 11, some (Value.ref 6))
noncomputable def sF (p : Program) (w : World) (os : OsState) : Shared := { heap := heapF (zt p) w.params, toks := 677, os := os }
noncomputable def a5 (p : Program) (w : World) (os : OsState) : Bool := staticsOk (importedModules p.main.body) (boot_heap w.params) (heapF (zt p) w.params) && namesBound p (heapF (zt p) w.params) && gensDone (sF p w os) && laidKept (boot_heap w.params) (heapF (zt p) w.params)
noncomputable def b5 (_ : World) (_ : OsState) : Bool := true
noncomputable def a6 (p : Program) (r : WRecords) (w : World) (os : OsState) := openSeen (view p) looseN (importedModules p.main.body) (XtP p r) true (sF p w os)
noncomputable def b6 (p : Program) (_ : World) (_ : OsState) := openGood (view p) looseN
theorem q4 : (fun (_ : World → OsState → Bool × Nat × Option Value) => true) a4 = true := by k_qdec
theorem q5 : (fun (_ : Program → World → OsState → Bool) => true) a5 = true := by k_qdec
theorem q6 : (fun (_ : Program → WRecords → World → OsState → _) (_ : Program → World → OsState → _) => true) a6 b6 = true := by k_qdec
theorem e4 : ∀ w os, a4 w os = b4 w os := by_tw Fast.te12343262256022191877 rfl fun w os => by kernel_rfl
theorem e5 : ∀ w os, a5 PySem.Challenge.pw_ix0004_01 w os = b5 w os := by_tw (congrFun Fast.te4290364815016095728 PySem.Challenge.pw_ix0004_01) rfl fun w os => by kernel_rfl
theorem e6 : ∀ w os, a6 PySem.Challenge.pw_ix0004_01 (RowW.records PySem.Challenge.rw_ix0004_01.row.toRowW) w os = b6 PySem.Challenge.pw_ix0004_01 w os := by_tw (congrFun (congrFun Fast.te7377164799542587675 PySem.Challenge.pw_ix0004_01) (RowW.records PySem.Challenge.rw_ix0004_01.row.toRowW)) (congrFun Fast.te459509631683465424 PySem.Challenge.pw_ix0004_01) fun w os => by kernel_rfl
theorem e7 (w : World) (os : OsState) : HK.obs (sF PySem.Challenge.pw_ix0004_01 w os) = HK.val w := by
  show addrs.map (heapF (zt PySem.Challenge.pw_ix0004_01) w.params).get? = (frag (zt PySem.Challenge.pw_ix0004_01) w.params).map fun p => some p.2
  kernel_rfl
end Mine
end
section
open PySem PySem.W PyProof.Rows PySem.Calls
set_option maxRecDepth 100000
set_option maxHeartbeats 8000000
namespace Mine
theorem op_plain : opening PySem.Challenge.pw_ix0004_01 = plainProg PySem.Challenge.pw_ix0004_01.main.scope.names := by kernel_rfl
theorem fence_none (s : Shared) : fenceModules? PySem.Challenge.pw_ix0004_01 s = some s := by kernel_rfl
theorem left : LeftO PySem.Challenge.rw_ix0004_01.row.prog hd.view_39 looseN XtK HK.obs HK.val 5234 :=
  LeftO.of_pieces (boot_open op_plain (by decide +kernel) fence_none) (fun w => e4 w default) run_all (by decide +kernel) (fun w => funext fun os => by
    show (a5 PySem.Challenge.pw_ix0004_01 w os, a6 PySem.Challenge.pw_ix0004_01 (RowW.records PySem.Challenge.rw_ix0004_01.row.toRowW) w os, HK.obs (sF PySem.Challenge.pw_ix0004_01 w os)) = (true, openGood hd.view_39 looseN, HK.val w)
    rw [e5 w os, e6 w os, e7 w os]
    rfl)
theorem by_tw1 {α : Type} {a a' b b' : α} (h1 : a = a') (h2 : b = b') (h : a' = b') : a = b := by subst h1; subst h2; exact h
noncomputable def lawR (p : Program) : DefRec := ⟨Str.ofString "law", fdP (stA p 22), fdL (stA p 22), fdS (stA p 22), ⟨289,0,300,68⟩⟩
noncomputable def lawRec : DefRec := ⟨Str.ofString "law", fdP (stA PySem.Challenge.pw_ix0004_01 22), fdL (stA PySem.Challenge.pw_ix0004_01 22), fdS (stA PySem.Challenge.pw_ix0004_01 22), ⟨289,0,300,68⟩⟩
noncomputable def a8 (p : Program) (n : Str) := defOf (view p) n
noncomputable def b8 (p : Program) : Option (DefRec × List (Str × Expr)) := some (lawR p, [])
noncomputable def a9 (p : Program) (n : Str) := p.theDef n
noncomputable def b9 (p : Program) : Option (Arguments × List Stmt × Scope) := some ((lawR p).params, (lawR p).body, (lawR p).scope)
theorem q8 : (fun (_ : Program → Str → Option (DefRec × List (Str × Expr))) (_ : Program → Option (DefRec × List (Str × Expr))) => true) a8 b8 = true := by k_qdec
theorem q9 : (fun (_ : Program → Str → Option (Arguments × List Stmt × Scope)) (_ : Program → Option (Arguments × List Stmt × Scope)) => true) a9 b9 = true := by k_qdec
theorem e8 : defOf hd.view_39 PySem.Challenge.rw_ix0004_01.row.name = some (lawRec, []) := by_tw1 (congrFun (congrFun Fast.te15865603961368068012 PySem.Challenge.pw_ix0004_01) PySem.Challenge.rw_ix0004_01.row.name) (congrFun Fast.te4520457684626321701 PySem.Challenge.pw_ix0004_01) (by kernel_rfl)
theorem e9 : PySem.Challenge.rw_ix0004_01.row.prog.theDef PySem.Challenge.rw_ix0004_01.row.name = some (lawRec.params, lawRec.body, lawRec.scope) := by_tw1 (congrFun (congrFun Fast.te6594559255202615530 PySem.Challenge.rw_ix0004_01.row.prog) PySem.Challenge.rw_ix0004_01.row.name) (congrFun Fast.te13870413796247454784 PySem.Challenge.pw_ix0004_01) (by kernel_rfl)
theorem hd (walk : WalkC hd.view_39 [Str.ofString "Buffer", Str.ofString "RangeSet"] (XL hd.view_39 []) (fun w h => InK hd.heap_39 w h) PySem.Challenge.rw_ix0004_01.row.toRowW lawRec []) : PySem.Challenge.rw_ix0004_01.Holds := by
  w_on
  refine holds_law (by decide +kernel) fun said => ?_
  rw [← frag_eq] at walk
  exact PySem.W.holds_open left HK.of HK.keeps (fun s e => xl_of s (Bool.and_eq_true_iff.mp e).1) XL.keeps e8 e9 (by kernel_rfl) (fun s e => recFacts_of (Bool.and_eq_true_iff.mp e).2) (by rfl) (by first | assumption | decide +kernel) (by decide +kernel) ⟨rfl, rfl, rfl, rfl, rfl, by decide +kernel⟩ (by w_witness2) walk
end Mine
end
section
open PySem PySem.W PyProof.Rows PySem.Calls
set_option maxRecDepth 100000
set_option linter.deprecated false
namespace Mine
namespace BA
open Builtin
theorem bind_init (v : Value) : Bytes.bindOptional "bytearray.__init__" "bytearray" ["source", "encoding", "errors"] [v] [] = pure [some v, none, none] := by kernel_rfl
theorem no_str_bytes (b : Array UInt8) (t : Tok) : asStr? (.bytes b t) = pure none := by rfl
theorem bytes_no_index : typeLookup (.type "bytes") "__index__" = pure none := by rw [typeLookup_type, builtinLookup_eq_fast]; kernel_rfl
section
variable {prog : Program} {w : World} {A : Around} {E : Value → Shared → Prop} {s : Shared} {x : Addr} {b : Array UInt8} {t : Tok}
theorem write_ {c : Array UInt8} {f : Array UInt8 → Array UInt8} {M : Model} {Q : Unit → Shared → Prop} (hx : IsBA s.heap x b) (hf : f b = c) (hz : c.size ≤ 16777216)
    (h : ∀ h', h'.get? x = some (baObj c) → h'.objs.size = s.heap.objs.size → (∀ a o, a ≠ x → s.heap.get? a = some o → h'.get? a = some o) → Q () { s with heap := h' }) : wpAny M A (Bytes.write (.ref x) f) Q E s := by
  show wpAny _ _ (updateBytearray x f) _ _ _
  unfold updateBytearray
  refine wpAny_bind (wpAny_load hx ?_)
  show wpAny _ _ (update x (Obj.mapBytearray f) >>= fun _ => lookBehind x) _ _ _
  refine wpAny_bind (wpAny_update hx ?_)
  have h2 : (s.heap.update x (Obj.mapBytearray f)).get? x = some (baObj c) := by
    rw [← hf]
    exact Heap.get?_update_self (Obj.mapBytearray f) hx rfl
  refine wpAny_lookBehind h2 ?_ (h _ h2 (Heap.size_after_update ..) fun a o hn e => (Heap.get?_update_other _ _ (Ne.symm hn)).trans e)
  show (if c.size > sizeLine then some "bytearray:memory" else none) = none
  rw [if_neg (by rw [sizeLine_eq]; omega)]
theorem exportsOf_ {M : Model} {Q : Nat → Shared → Prop} (hx : IsBA s.heap x b) (h : Q 0 s) : wpAny M A (Bytes.exportsOf (.ref x)) Q E s := by
  unfold Bytes.exportsOf
  exact wpAny_bind (wpAny_load hx (wpAny_pure h))
theorem init_bytes {Q : Value → Shared → Prop} (hx : IsBA s.heap x #[]) (hz : b.size ≤ 16777216)
    (h : ∀ h', h'.get? x = some (baObj b) → h'.objs.size = s.heap.objs.size → (∀ a o, a ≠ x → s.heap.get? a = some o → h'.get? a = some o) → Q .none { s with heap := h' }) :
    wpN (model prog w) A (Builtin.«bytearray.__init__» ⟨[.ref x, .bytes b t], []⟩) (fun fin s' => ∃ v, fin = .done (.ret v) ∧ Q v s') E s := by
  show wpN _ A (Bytes.ownRelease (.ref x) >>= fun r => _) _ E s
  refine wpN_any (release_ hx ?_)
  refine wpN_if_false rfl ?_
  refine wpN_eq (bind_init _) ?_
  refine wpN_eq (a := ()) rfl ?_
  refine wpN_eq (a := ()) rfl ?_
  refine wpN_bind (m := (Bytes.exported (.ref x) <||> _)) ?_
  refine wpN_bind (wpN_exported ?_)
  refine wpN_of ?_
  refine wpAny_bind (exportsOf_ hx (wpAny_pure ?_))
  refine wpN_of ?_
  refine if_false rfl ?_
  refine wpAny_bind (write_ hx rfl (Nat.zero_le _) fun h1 hx1 hs1 hk1 => ?_)
  refine wpAny_bind (wpAny_of_eq (no_str_bytes b t) ?_)
  refine if_false rfl ?_
  refine wpAny_bind (wpAny_of_eq (a := ()) rfl ?_)
  refine wpAny_bind (wpAny_specialOf (typeIs_bytes _ b t) bytes_no_index ?_)
  refine if_false rfl ?_
  refine wpAny_bind (wpAny_of_eq (a := some b) ?_ ?_)
  · unfold Bytes.buffer?
    rw [KBy.special_eq KBy.look_buffer, KBy.own_buffer, KBy.own_release]
    kernel_rfl
  · refine wpAny_bind (wpAny_rule ?_)
    refine wpAny_bind (write_ hx1 rfl hz fun h2 hx2 hs2 hk2 => ?_)
    exact wpAny_pure ⟨_, rfl, h h2 hx2 (hs2.trans hs1) fun a o hn e => hk2 a o hn (hk1 a o hn e)⟩
theorem no_str_int (n : Int) (t : Tok) : asStr? (.int n t) = pure none := by rfl
theorem int_index : typeLookup (.type "int") "__index__" = pure (some (.builtin "int.__index__")) := by rw [typeLookup_type, builtinLookup_eq_fast]; kernel_rfl
theorem init_int {Q : Value → Shared → Prop} {n : Int} (hx : IsBA s.heap x #[]) (h0 : 0 ≤ n) (hz : n ≤ 16777216)
    (h : ∀ h', h'.get? x = some (baObj (Array.replicate n.toNat 0)) → h'.objs.size = s.heap.objs.size → (∀ a o, a ≠ x → s.heap.get? a = some o → h'.get? a = some o) → Q .none { s with heap := h' }) :
    wpN (model prog w) A (Builtin.«bytearray.__init__» ⟨[.ref x, .int n t], []⟩) (fun fin s' => ∃ v, fin = .done (.ret v) ∧ Q v s') E s := by
  show wpN _ A (Bytes.ownRelease (.ref x) >>= fun r => _) _ E s
  refine wpN_any (release_ hx ?_)
  refine wpN_if_false rfl ?_
  refine wpN_eq (bind_init _) ?_
  refine wpN_eq (a := ()) rfl ?_
  refine wpN_eq (a := ()) rfl ?_
  refine wpN_bind (m := (Bytes.exported (.ref x) <||> _)) ?_
  refine wpN_bind (wpN_exported ?_)
  refine wpN_of ?_
  refine wpAny_bind (exportsOf_ hx (wpAny_pure ?_))
  refine wpN_of ?_
  refine if_false rfl ?_
  refine wpAny_bind (write_ hx rfl (Nat.zero_le _) fun h1 hx1 hs1 hk1 => ?_)
  refine wpAny_bind (wpAny_of_eq (no_str_int n t) ?_)
  refine if_false rfl ?_
  refine wpAny_bind (wpAny_of_eq (a := ()) rfl ?_)
  refine wpAny_bind (wpAny_specialOf (typeIs_int _ n t) int_index ?_)
  refine if_true rfl ?_
  refine wpAny_bind (wpAny_attempt (wpAny_of_eq (rfl : asIndex (.int n t) = pure n) ?_))
  have hf : Bytes.fitsIndex n = true := by simp only [Bytes.fitsIndex, Bool.and_eq_true, decide_eq_true_eq]; omega
  refine if_false (by rw [hf]; rfl) ?_
  refine wpAny_ite_false (decide_eq_false (show ¬ n < 0 by omega)) ?_
  refine if_false (by rw [beq_eq_false_iff_ne]; omega) ?_
  refine if_false (tooLong_not (by omega)) ?_
  refine wpAny_bind (wpAny_rule ?_)
  by_cases hp : n > 0
  · refine wpAny_ite_true (decide_eq_true hp) ?_
    refine wpAny_bind (write_ hx1 rfl (by rw [Array.size_replicate]; omega) fun h2 hx2 hs2 hk2 => ?_)
    exact wpAny_pure ⟨_, rfl, h h2 hx2 (hs2.trans hs1) fun a o hn e => hk2 a o hn (hk1 a o hn e)⟩
  · refine wpAny_ite_false (decide_eq_false hp) ?_
    have e : n = 0 := by omega
    subst e
    exact wpAny_pure ⟨_, rfl, h h1 hx1 hs1 hk1⟩
end
end BA
end Mine
end
section
open PySem PySem.W PyProof.Rows PySem.Calls
set_option maxRecDepth 100000
set_option linter.deprecated false
namespace Mine
section
variable {prog : Program} {w : World} {A : Around} {E : Value → Shared → Prop} {s : Shared} {R : Result → Shared → Prop}
theorem codeN_builtin {id : String} {args : Args} {b : Builtin} (hb : entryFor table id = some b)
    (h : wpN (model prog w) (A.under (.builtin id args)) (b args) (fun fin s' => match fin with | .done f => R (.ok f) s' | .again c' => c'.quiet = true ∧ badCode c' = false ∧ codeN (model prog w) A c' R s') (fun e s' => R (.error e) s') s) :
    codeN (model prog w) A (.builtin id args) R s := by
  refine codeN_of_tree ?_
  show wpN _ _ (match entryFor table id with | some b => b args | none => unsupported ((withoutEnding? id "#data").getD id)) _ _ s
  rw [hb]; exact h
theorem codeN_call_builtin {id : String} {args : Args} {b : Builtin} (hp : plainId id = true) (hg : badId id = false) (hb : entryFor table id = some b) (hc : wpAny (model prog w) A.in1 (checkBuiltinCall id args) (fun _ s₁ => s₁ = s) (fun _ _ => False) s)
    (h : wpN (model prog w) A.in1 (b args) (fun fin s' => match fin with | .done f => R (.ok f) s' | .again c' => c'.quiet = true ∧ badCode c' = false ∧ codeN (model prog w) A c' R s') (fun e s' => R (.error e) s') s) :
    codeN (model prog w) A (.call (.builtin id) args) R s := by
  refine codeN_of_tree ?_
  show wpN _ A.in1 (do checkBuiltinCall id args; again (.builtin id args)) _ _ s
  refine wpN_any (wpAny_mono hc (fun _ s₁ e => ?_) fun _ _ e => e.elim)
  subst e
  refine wpN_pure ⟨plainId_quiet hp _, hg, codeN_builtin hb ?_⟩
  rw [Around.under_plainId hp _]
  exact h
namespace BA
theorem sub_ba : isSubtype (.type "bytearray") (.type "bytearray") = pure true := sub_self
theorem call_core {v : Value} {Q : Value → Shared → Prop}
    (hi : IsBA (s.heap.push (baObj #[])) s.heap.objs.size #[] → wpN (model prog w) A.in1.in1 (Builtin.«bytearray.__init__» ⟨[.ref s.heap.objs.size, v], []⟩) (fun fin s' => ∃ r, fin = .done (.ret r) ∧ r = .none ∧ Q (.ref s.heap.objs.size) s') E { s with heap := s.heap.push (baObj #[]) }) :
    wpN (model prog w) A (call (.type "bytearray") [v]) Q E s := by
  have ft := called_ba
  refine wpN_call (codeN_of_tree ?_)
  show wpN _ _ (callAny (.type "bytearray") _) _ _ _
  refine wpN_pure ⟨Code.quiet_builtin _ (by decide +kernel), by show badId "type.__call__" = false; decide +kernel, codeN_builtin F.entry_type_call ?_⟩
  rw [Around.under_plain (weight_type_call_type "bytearray" [v] []) rfl]
  unfold Builtin.«type.__call__»
  have h1 := ft.notType
  have h2 := ft.canCreate
  dsimp only
  refine wpN_if_false h1 ?_
  refine wpN_if_false h2 ?_
  refine wpN_eq (typeCall_ba v) ?_
  refine wpN_eq mro_ba ?_
  refine wpN_if_false rfl ?_
  refine wpN_eq ft.made ?_
  refine wpN_eq (a := .builtin "bytearray.__new__") rfl ?_
  refine wpN_bind (wpN_holding (wpN_of (wpAny_call (code_new v ?_))))
  have hx : IsBA (s.heap.push (baObj #[])) s.heap.objs.size #[] := Heap.get?_push_size _ rfl
  have hT : ({ s with heap := s.heap.push (baObj #[]) } : Shared).TypeIs (.ref s.heap.objs.size) "bytearray" := ⟨_, hx, rfl⟩
  refine wpN_any (wpAny_isInstance hT sub_self ?_)
  refine wpN_if_false rfl ?_
  refine wpN_bind (wpN_holding ?_)
  unfold callSpecial?
  refine wpN_any (wpAny_specialOf hT slot_init.lookup ?_)
  refine wpN_holding ?_
  refine wpN_eq (slot_init.bind _) ?_
  refine wpN_bind (wpN_call (codeN_call_builtin slot_init.plain (by decide +kernel) entry_init (slot_init.check _ _ _ _ _ _ _ _ hT (args_init _ _) rfl) ?_))
  refine wpN_mono (hi hx) (fun fin s' hq => ?_) fun _ _ e => e
  obtain ⟨r, rfl, rfl, hq⟩ := hq
  exact wpN_pure (wpN_if_false rfl (wpN_pure hq))
theorem callN_bytes {b : Array UInt8} {t : Tok} {Q : Value → Shared → Prop} (hz : b.size ≤ 16777216)
    (h : ∀ h' x, h'.get? x = some (baObj b) → s.heap.get? x = none → (∀ a o, s.heap.get? a = some o → h'.get? a = some o) → s.heap.objs.size < h'.objs.size → Q (.ref x) { s with heap := h' }) : wpN (model prog w) A (call (.type "bytearray") [.bytes b t]) Q E s := by
  refine call_core fun hx => ?_
  refine wpN_mono (init_bytes (Q := fun r s' => r = .none ∧ Q (.ref s.heap.objs.size) s') hx hz fun h' hx' hs hk => ⟨rfl, h h' _ hx' ?_ (fun a o e => hk a o (Nat.ne_of_lt (Heap.lt_size e)) (Heap.get?_push_of_some _ e)) ?_⟩) (fun _ _ ⟨v, e, q⟩ => ⟨v, e, q⟩) fun _ _ e => e
  · cases q : s.heap.get? s.heap.objs.size with
    | none => rfl
    | some o => exact absurd (Heap.lt_size q) (Nat.lt_irrefl _)
  · rw [hs, Heap.size_push]; exact Nat.lt_succ_self _
theorem callN_int {n : Int} {t : Tok} {Q : Value → Shared → Prop} (h0 : 0 ≤ n) (hz : n ≤ 16777216)
    (h : ∀ h' x, h'.get? x = some (baObj (Array.replicate n.toNat 0)) → s.heap.get? x = none → (∀ a o, s.heap.get? a = some o → h'.get? a = some o) → s.heap.objs.size < h'.objs.size → Q (.ref x) { s with heap := h' }) : wpN (model prog w) A (call (.type "bytearray") [.int n t]) Q E s := by
  refine call_core fun hx => ?_
  refine wpN_mono (init_int (Q := fun r s' => r = .none ∧ Q (.ref s.heap.objs.size) s') hx h0 hz fun h' hx' hs hk => ⟨rfl, h h' _ hx' ?_ (fun a o e => hk a o (Nat.ne_of_lt (Heap.lt_size e)) (Heap.get?_push_of_some _ e)) ?_⟩) (fun _ _ ⟨v, e, q⟩ => ⟨v, e, q⟩) fun _ _ e => e
  · cases q : s.heap.get? s.heap.objs.size with
    | none => rfl
    | some o => exact absurd (Heap.lt_size q) (Nat.lt_irrefl _)
  · rw [hs, Heap.size_push]; exact Nat.lt_succ_self _
end BA
end
end Mine
end
section
open PySem PySem.W PyProof.Rows PySem.Calls
set_option maxRecDepth 100000
namespace Mine
section
variable {prog : Program} {w : World} {A : Around} {E : Value → Shared → Prop} {s : Shared} {R : Result → Shared → Prop}
theorem codeN_call_builtin_at {id : String} {args : Args} {b : Builtin} (hqt : (Code.builtin id args).quiet = true) (hg : badId id = false) (hb : entryFor table id = some b) (hc : wpAny (model prog w) A.in1 (checkBuiltinCall id args) (fun _ s₁ => s₁ = s) (fun _ _ => False) s)
    (h : wpN (model prog w) (A.under (.builtin id args)) (b args) (fun fin s' => match fin with | .done f => R (.ok f) s' | .again c' => c'.quiet = true ∧ badCode c' = false ∧ codeN (model prog w) A c' R s') (fun e s' => R (.error e) s') s) :
    codeN (model prog w) A (.call (.builtin id) args) R s := by
  refine codeN_of_tree ?_
  show wpN _ A.in1 (do checkBuiltinCall id args; again (.builtin id args)) _ _ s
  refine wpN_any (wpAny_mono hc (fun _ s₁ e => ?_) fun _ _ e => e.elim)
  subst e
  exact wpN_pure ⟨hqt, hg, codeN_builtin hb h⟩
end
section
variable {prog : Program} {w : World} {A : Around} {K : Frag} {C fI : Addr} {R : Result → Shared → Prop} {h : Heap} {g : Array GenState} {d : Drawn} {t : Nat} {os : OsState}
theorem makeN_core {rest : List Value} {kw : List (Str × Value)} (X : K.In h) (hm : makesIn K C = true) (hi : findIn K (.ref C) "__init__" = some (some (.ref fI))) (hf : typeIn K (.ref fI) = some (.type "function"))
    (hq : codeN (model prog w) (A.under (.builtin "type.__call__" ⟨.ref C :: rest, kw⟩)) (.call (.ref fI) ⟨.ref (h.objs.size + 1) :: rest, kw⟩) (InitBack (h.objs.size + 1) R) ⟨(h.push emptyDict).push (instObj C h.objs.size), g, d, t, os⟩) :
    codeN (model prog w) A (.call (.ref C) ⟨rest, kw⟩) R ⟨h, g, d, t, os⟩ := by
  have Y' := makes_of (M := model prog w) X hm
  obtain ⟨⟨oc, od, cd, sl, hC, e1, e2, e4⟩, made, base, self, top, call, typ⟩ := makes_of (M := model prog w) X hm
  refine codeN_of_tree ?_
  show wpN _ _ (callAny (.ref C) _) _ _ _
  refine wpN_any (m := load C) (wpAny_load hC ?_)
  show wpN _ _ (callAny.viaDunder (.ref C) _) _ _ _
  unfold callAny.viaDunder
  refine wpN_any (call.at ?_)
  dsimp only
  rw [tc_bind]
  refine wpN_bind (wpN_pure (wpN_bind (wpN_pure ?_)))
  refine wpN_pure (a := Fin.again (.call (.builtin "type.__call__") ⟨.ref C :: rest, kw⟩)) ⟨rfl, rfl, ?_⟩
  refine codeN_call_builtin_at (Code.quiet_builtin _ (by decide +kernel)) (by decide +kernel) entry_typeCall (check_slot tc_kind tc_split typ (tc_args _ _ _) rfl) ?_
  unfold Builtin.«type.__call__»
  have hmr : Looks (model prog w) h (mroOf (.ref C)) cd.mro := ((Looks.ld (part := none) hC).andThen .now).andThen .now
  dsimp only
  refine wpN_if_false rfl ?_
  refine wpN_any (hmr.at ?_)
  refine wpN_if_false e4 ?_
  refine wpN_any (made.at ?_)
  refine wpN_eq (a := .builtin "object.__new__") rfl ?_
  refine wpN_bind (wpN_holding (wpN_of (wpAny_call (new_K Y' (looks_findIn X hi) (.inl rfl) ?_))))
  have k : ∀ b o, h.get? b = some o → ((h.push emptyDict).push (instObj C h.objs.size)).get? b = some o := fun b o e => Heap.get?_push_of_some _ (Heap.get?_push_of_some _ e)
  have hx : ((h.push emptyDict).push (instObj C h.objs.size)).get? (h.objs.size + 1) = some (instObj C h.objs.size) := by heap_get
  have t1 : Looks (model prog w) ((h.push emptyDict).push (instObj C h.objs.size)) (typeOf (.ref (h.objs.size + 1))) (.ref C) := (Looks.ld hx).andThen .now
  have X' : K.In ((h.push emptyDict).push (instObj C h.objs.size)) := X.keeps k
  have t2 : Looks (model prog w) ((h.push emptyDict).push (instObj C h.objs.size)) (isInstance (.ref (h.objs.size + 1)) (.ref C)) true := by
    unfold isInstance
    exact t1.andThen (self.keeps k)
  refine wpN_any (m := isInstance (.ref (h.objs.size + 1)) (.ref C)) (t2.at ?_)
  refine wpN_if_false rfl ?_
  refine wpN_bind (wpN_holding ?_)
  unfold callSpecial?
  have t3 : Looks (model prog w) ((h.push emptyDict).push (instObj C h.objs.size)) (specialOf (.ref (h.objs.size + 1)) "__init__") (some (.ref fI)) := by
    unfold specialOf
    exact t1.andThen ((looks_findIn X hi).keeps k)
  refine wpN_any (t3.at ?_)
  refine wpN_holding ?_
  refine wpN_any ((bind_fn X' (.ref (h.objs.size + 1)) hf).at ?_)
  refine wpN_bind (wpN_call (codeN_mono hq fun r s' z => ?_))
  rcases r with e | (v | _ | _ | _) <;> first | exact z | exact z.elim | skip
  obtain ⟨rfl, z⟩ := z
  exact wpN_pure (wpN_if_false rfl (wpN_pure z))
end

section
variable {prog : Program} {w : World} {s : Shared} {R : Result → Shared → Prop}
/-- the shape in which my contracts hold their surroundings -/
noncomputable abbrev AX (dp un : Nat) (gd : Option (List Code)) (l : List Env) : Around := { handled := none, depth := dp, frames := some l, guards := gd, units := un }
structure Kept (g h : Heap) : Prop where
  keep : ∀ b o, g.get? b = some o → h.get? b = some o
  size : g.objs.size ≤ h.objs.size
noncomputable def Led (g h : Heap) (l : List (Addr × Obj)) : Prop := ∀ p ∈ l, h.get? p.1 = some p.2 ∧ g.get? p.1 = none
theorem Kept.refl (h : Heap) : Kept h h := ⟨fun _ _ e => e, Nat.le_refl _⟩
theorem Kept.trans {a b c : Heap} (x : Kept a b) (y : Kept b c) : Kept a c := ⟨fun q o e => y.keep q o (x.keep q o e), Nat.le_trans x.size y.size⟩
theorem Kept.of_fr {g h : Heap} {L : Addr} {m : Str → Option Value} (F : Fr g L h m) : Kept g h := ⟨F.keep, Nat.le_of_lt (Nat.lt_of_le_of_lt F.above F.ns.lt)⟩
theorem Led.of_news {g h : Heap} {L : Addr} {l : List (Addr × Obj)} (N : News g L h l) : Led g h l := fun p hp => ⟨(N p hp).1, (N p hp).2.2⟩
theorem Led.sub {g h : Heap} {l l' : List (Addr × Obj)} (N : Led g h l) (hs : ∀ p ∈ l', p ∈ l) : Led g h l' := fun p hp => N p (hs p hp)
theorem news_sub {g h : Heap} {L : Addr} {l l' : List (Addr × Obj)} (N : News g L h l) (hs : ∀ p ∈ l', p ∈ l) : News g L h l' := fun p hp => N p (hs p hp)

theorem enter {dp un : Nat} {gd : Option (List Code)} {l : List Env} {A₀ : Around} {base g : Heap} {K : Frag} {p : Program} {loose : List Str} {mean : ExcName → Option Value} {mg mb : Str → Option Value}
    {name qual : Str} {params : Arguments} {body : List Stmt} {scope : Scope} {dV kV doc pm cdv ct oc : Value} {an od : Option Addr} {osl : Array (Option Value)} {f : Addr} {args : Args} {binds : List (Str × Value)} {wr : List (Addr × Obj)}
    (_B : Below A₀ base l g) (X : K.In g) (T : Top p loose mean mg mb g) (Kp : Kept g s.heap) (N : Led g s.heap wr) (hdp : dp < recursionLimit)
    (ho : K.lookup f = some ⟨oc, od, .func (fnOf name qual params body scope dV kV doc pm an cdv ct), osl⟩) (hcd : codeIn K cdv qual = true)
    (hbind : BindsTo s (fnOf name qual params body scope dV kV doc pm an cdv ct) args binds) (hloc : ∀ y ∈ binds, scope.names.lookup y.1 = some .local)
    (h : ∀ L h₁, Fr g L h₁ (fun y => binds.reverse.lookup y) → News g L h₁ wr → Kept s.heap h₁ →
      wpAny (model prog w) ((AX dp un gd l).deeper (envOf qual scope L f cdv)) (execs body (envOf qual scope L f cdv))
        (fun fl s' => R (.ok (.ret (match fl with | .ret v => v | _ => .none))) s')
        (fun e s' => wpAny (model prog w) ((AX dp un gd l).deeper (envOf qual scope L f cdv)) (leaving (envOf qual scope L f cdv) e) (fun _ s'' => R (.error e) s'') (fun e' s'' => R (.error e') s'') s')
        { s with heap := h₁, toks := s.toks + binds.length })
    (hco : scope.isCoroutine = false) (hgen : scope.isGenerator = false) (hk : scope.kind = .function)
    (hcell : ∀ x ∈ scope.names, x.2 ≠ .cell) : codeAny (model prog w) (AX dp un gd l) (.call (.ref f) args) R s := by
  refine codeAny_call_def (fd := fnOf name qual params body scope dV kV doc pm an cdv ct) (body := body) (binds := binds) hdp (Kp.keep _ _ (X _ _ ho)) rfl (T.nolimit.keeps Kp.keep) (codeRec_of (X.keeps Kp.keep) hcd) rfl hbind hcell hloc (fun h₁ hns hk₁ => ?_) hco hgen hk
  refine h s.heap.objs.size h₁ ⟨hns, fun b o e => hk₁ b o (Kp.keep b o e), Kp.size⟩ (fun p hp => ⟨hk₁ _ _ (N p hp).1, Nat.ne_of_lt (Heap.lt_size (N p hp).1), (N p hp).2⟩) ⟨hk₁, Nat.le_of_lt hns.lt⟩
theorem codeN_func {A : Around} {body : List Stmt} {env : Env}
    (h : wpN (model prog w) (A.deeper env) (execs body env) (fun f s' => R (.ok (.ret (match f with | .ret v => v | _ => .none))) s')
      (fun e s' => wpAny (model prog w) (A.deeper env) (leaving env e) (fun _ s'' => R (.error e) s'') (fun e' s'' => R (.error e') s'') s') s) :
    codeN (model prog w) A (.func body env) R s := by
  refine codeN_of_tree ?_
  show wpN _ (A.deeper env) (do point; match ← (execs body env).onRaise (leaving env) with | .ret v => ret v | _ => ret .none) _ _ s
  refine wpN_any (wpAny_point (wpN_bind (wpN_onRaise (wpN_mono h (fun f s' h' => ?_) fun _ _ h' => wpN_of h'))))
  cases f <;> exact wpN_pure h'
theorem codeN_call_function {A : Around} {a : Addr} {args : Args} {o : Obj} {fd : FuncData} {body : List Stmt} (hroom : A.depth < recursionLimit) (ho : s.heap.get? a = some o)
    (hd' : o.data = .func fd) (hco : fd.scope.isCoroutine = false) (hgen : fd.scope.isGenerator = false) (hbody : fd.body = .stmts body) (hcd : s.heap.CodeRec fd.code fd.qualname)
    (h : wpAny (model prog w) A.in1 (bindArgs fd args) (fun binds s₁ =>
      wpAny (model prog w) A.in1 (newFunctionEnv fd.scope fd.globals fd.closure binds (fd.qualname ++ ".<locals>.") (some a) fd.code none fd.builtins)
        (fun env s₂ => s₂.heap.NoLimit ∧ codeN (model prog w) A (.func body env) R s₂) (fun _ _ => False) s₁) (fun _ _ => False) s) :
    codeN (model prog w) A (.call (.ref a) args) R s := by
  refine codeN_of_tree ?_
  refine wpN_of ?_
  show wpAny _ A.in1 (callAny (.ref a) args) _ _ s
  simp only [callAny]
  refine wpAny_bind (wpAny_load ho ?_)
  obtain ⟨c, oc, vs, tq, hc, hoc, hdc, hq⟩ := hcd
  simp only [hd', callFunction, hco, hgen, hbody, hc]
  rw [hc] at h
  refine wpAny_bind (m := field (.ref c) 1) (wpAny_field hoc hdc hq (wpAny_bind (wpAny_pure ?_)))
  exact wpAny_bind (wpAny_mono h (fun binds s₁ h₁ => wpAny_bind (wpAny_mono h₁ (fun env s₂ h₂ => wpAny_bind (wpAny_enterFrame h₂.1 hroom
    (wpAny_pure ⟨rfl, rfl, h₂.2⟩))) fun _ _ h' => h'.elim)) fun _ _ h' => h'.elim)
theorem enterN {dp un : Nat} {gd : Option (List Code)} {l : List Env} {A₀ : Around} {base g : Heap} {K : Frag} {p : Program} {loose : List Str} {mean : ExcName → Option Value} {mg mb : Str → Option Value}
    {name qual : Str} {params : Arguments} {body : List Stmt} {scope : Scope} {dV kV doc pm cdv ct oc : Value} {an od : Option Addr} {osl : Array (Option Value)} {f : Addr} {args : Args} {binds : List (Str × Value)} {wr : List (Addr × Obj)}
    (_B : Below A₀ base l g) (X : K.In g) (T : Top p loose mean mg mb g) (Kp : Kept g s.heap) (N : Led g s.heap wr) (hdp : dp < recursionLimit)
    (ho : K.lookup f = some ⟨oc, od, .func (fnOf name qual params body scope dV kV doc pm an cdv ct), osl⟩) (hcd : codeIn K cdv qual = true)
    (hbind : BindsTo s (fnOf name qual params body scope dV kV doc pm an cdv ct) args binds) (hloc : ∀ y ∈ binds, scope.names.lookup y.1 = some .local)
    (h : ∀ L h₁, Fr g L h₁ (fun y => binds.reverse.lookup y) → News g L h₁ wr → Kept s.heap h₁ →
      wpN (model prog w) ((AX dp un gd l).deeper (envOf qual scope L f cdv)) (execs body (envOf qual scope L f cdv))
        (fun fl s' => R (.ok (.ret (match fl with | .ret v => v | _ => .none))) s')
        (fun e s' => wpAny (model prog w) ((AX dp un gd l).deeper (envOf qual scope L f cdv)) (leaving (envOf qual scope L f cdv) e) (fun _ s'' => R (.error e) s'') (fun e' s'' => R (.error e') s'') s')
        { s with heap := h₁, toks := s.toks + binds.length })
    (hco : scope.isCoroutine = false) (hgen : scope.isGenerator = false) (hk : scope.kind = .function)
    (hcell : ∀ x ∈ scope.names, x.2 ≠ .cell) : codeN (model prog w) (AX dp un gd l) (.call (.ref f) args) R s := by
  refine codeN_call_function (fd := fnOf name qual params body scope dV kV doc pm an cdv ct) (body := body) hdp (Kp.keep _ _ (X _ _ ho)) rfl hco hgen rfl (codeRec_of (X.keeps Kp.keep) hcd) (hbind _ _ _ _ ?_)
  refine wpAny_newFunctionEnv hcell hloc (fun h₁ hns hsb => ?_) hk
  have hk₁ : ∀ b o, s.heap.get? b = some o → h₁.get? b = some o := fun b o e => hsb.extBut b o (Nat.ne_of_lt (Heap.lt_size e)) (Heap.get?_push_of_some _ e)
  refine ⟨(T.nolimit.keeps Kp.keep).keeps hk₁, codeN_func ?_⟩
  exact h s.heap.objs.size h₁ ⟨hns, fun b o e => hk₁ b o (Kp.keep b o e), Kp.size⟩ (fun p hp => ⟨hk₁ _ _ (N p hp).1, Nat.ne_of_lt (Heap.lt_size (N p hp).1), (N p hp).2⟩) ⟨hk₁, Nat.le_of_lt hns.lt⟩
theorem wpN_execs_cons {M : Model} {A : Around} {E : Value → Shared → Prop} {env : Env} {st : Stmt} {rest : List Stmt} {Q : Flow → Shared → Prop}
    (h : wpN M A (exec st env) (fun f s' => match f with | .next => wpN M A (execs rest env) Q E s' | f => Q f s') E s) : wpN M A (execs (st :: rest) env) Q E s := by
  rw [execs_cons]
  refine wpN_bind (wpN_mono h (fun f s' hq => ?_) fun _ _ e => e)
  cases f with
  | next => exact hq
  | brk => exact wpN_pure hq
  | cont => exact wpN_pure hq
  | ret v => exact wpN_pure hq
end
end Mine
end
section
open PySem PySem.W PyProof.Rows PySem.Calls
set_option maxRecDepth 100000
namespace Mine
theorem room0 {a n m c : Nat} (h : a + n < c) (hm : m ≤ n) : a + m < c := Nat.lt_of_le_of_lt (Nat.add_le_add_left hm a) h
theorem room1 {a k n m c : Nat} (h : a + n < c) (hm : k + m ≤ n) : a + k + m < c := by rw [Nat.add_assoc]; exact room0 h hm
theorem room2 {a j k n m c : Nat} (h : a + n < c) (hm : j + (k + m) ≤ n) : a + j + k + m < c := by rw [Nat.add_assoc]; exact room1 h hm
theorem room3 {a i j k n m c : Nat} (h : a + n < c) (hm : i + (j + (k + m)) ≤ n) : a + i + j + k + m < c := by rw [Nat.add_assoc]; exact room2 h hm
/-- an expression's number, whatever comes behind: the tokens alone have moved -/
noncomputable def EvI (M : Model) (A : Around) (env : Env) (s : Shared) (e : PySem.Expr) (n : Int) : Prop :=
  ∀ (k : Nat) (Q : Value → Shared → Prop) (E : Value → Shared → Prop), (∀ t k', Q (.int n t) ⟨s.heap, s.gens, s.drawn, k', s.os⟩) → wpAny M A (eval e env) Q E ⟨s.heap, s.gens, s.drawn, k, s.os⟩
section
variable {prog : Program} {w : World} {A : Around} {env : Env} {s : Shared} {l r : PySem.Expr} {pos : Pos} {a b n : Int}
theorem EvI.of {M : Model} {e : PySem.Expr} (h : ∀ (k : Nat) (Q : Value → Shared → Prop) (E : Value → Shared → Prop), (∀ t k', Q (.int n t) ⟨s.heap, s.gens, s.drawn, k', s.os⟩) → wpAny M A (eval e env) Q E ⟨s.heap, s.gens, s.drawn, k, s.os⟩) : EvI M A env s e n := h
theorem EvI.go {M : Model} {e : PySem.Expr} {Q E : Value → Shared → Prop} (h : EvI M A env s e n) (k : ∀ t k', Q (.int n t) ⟨s.heap, s.gens, s.drawn, k', s.os⟩) : wpAny M A (eval e env) Q E s := h s.toks Q E k
theorem EvI.const {M : Model} {k : Nat} : EvI M A env s (.Constant (.int n) k pos) n := fun _ _ _ hq => wpAny_Constant_int (hq _ _)
theorem EvI.add (h1 : EvI (model prog w) A env s l a) (h2 : EvI (model prog w) A env s r b) : EvI (model prog w) A env s (.BinOp l .Add r pos) (a + b) :=
  fun _ _ _ hq => wpAny_BinOp (h1 _ _ _ fun _ _ => h2 _ _ _ fun _ _ => add_int (hq _ _))
theorem EvI.sub (h1 : EvI (model prog w) A env s l a) (h2 : EvI (model prog w) A env s r b) : EvI (model prog w) A env s (.BinOp l .Sub r pos) (a - b) :=
  fun _ _ _ hq => wpAny_BinOp (h1 _ _ _ fun _ _ => h2 _ _ _ fun _ _ => sub_int (hq _ _))
theorem EvI.mul (h1 : EvI (model prog w) A env s l a) (h2 : EvI (model prog w) A env s r b) (hm : IntMulOk a b) : EvI (model prog w) A env s (.BinOp l .Mult r pos) (a * b) :=
  fun _ _ _ hq => wpAny_BinOp (h1 _ _ _ fun _ _ => h2 _ _ _ fun _ _ => mul_int (hq _ _) hm)
theorem EvI.mulb (h1 : EvI (model prog w) A env s l a) (h2 : EvI (model prog w) A env s r b) (h3 : -(2 ^ 64) < b) (h4 : b < 2 ^ 64) : EvI (model prog w) A env s (.BinOp l .Mult r pos) (a * b) :=
  .mul h1 h2 (PySem.IntMulOk.of_right (PySem.intBits_le_64 h3 h4))
theorem EvI.mod (h1 : EvI (model prog w) A env s l a) (h2 : EvI (model prog w) A env s r b) (hb : 0 < b) : EvI (model prog w) A env s (.BinOp l .Mod r pos) (a % b) :=
  fun _ _ _ hq => wpAny_BinOp (h1 _ _ _ fun _ _ => h2 _ _ _ fun _ _ => mod_int' (Int.ne_of_gt hb) (by rw [Int.fmod_eq_emod_of_nonneg a (Int.le_of_lt hb)]; exact hq _ _))
theorem EvI.div (h1 : EvI (model prog w) A env s l a) (h2 : EvI (model prog w) A env s r b) (hb : 0 < b) (hp : Builtin.divisionGoesByPylong a b = false) : EvI (model prog w) A env s (.BinOp l .FloorDiv r pos) (a / b) :=
  fun _ _ _ hq => wpAny_BinOp (h1 _ _ _ fun _ _ => h2 _ _ _ fun _ _ => floordiv_int (Int.ne_of_gt hb) (by rw [Int.fdiv_eq_ediv_of_nonneg a (Int.le_of_lt hb)]; exact hq _ _) (.inl hp))
section
variable {K : Frag} {h₀ : Heap} {L a₀ y C : Addr} {m mg mb : Str → Option Value} {cn : Str} {cs : Scope} {ccd : Value} {cl : List (Str × Addr)} {p : Program} {loose : List Str} {mean : ExcName → Option Value} {x atn : Str} {np : Pos} {t : Tok} {ox : Obj} {es : List DictEntry} {n' : Nat} {av : Option Value}
theorem EvI.name {M : Model} (F : Fr h₀ L s.heap m) (hv : m x = some (.int n t)) (hk : cs.kind = .function) (hx : (envX cn cs L a₀ ccd cl).kindOf x = some .local) (hd : (x == ("__debug__" : Str)) = false) : EvI M A (envX cn cs L a₀ ccd cl) s (.Name x pos) n :=
  fun k _ _ hq => nameX_L (s := ⟨s.heap, s.gens, s.drawn, k, s.os⟩) F hv (hq _ _) hk hx hd
theorem EvI.glob {M : Model} (F : Fr h₀ L s.heap m) (X : K.In h₀) (T : TopRead p loose mg mb h₀) (e : nsIn K mainGlobals x = some (some (.int n t))) (hk : cs.kind = .function) (hx : (envX cn cs L a₀ ccd cl).kindOf x = some .globalImplicit) (hd : (x == ("__debug__" : Str)) = false) :
    EvI M A (envX cn cs L a₀ ccd cl) s (.Name x pos) n := fun k _ _ hq => nameX_K (s := ⟨s.heap, s.gens, s.drawn, k, s.os⟩) F X T e (hq _ _) hk hx hd
theorem EvI.attrI (F : Fr h₀ L s.heap m) (hv : m x = some (.ref y)) (hk : cs.kind = .function) (hx : (envX cn cs L a₀ ccd cl).kindOf x = some .local) (hd : (x == ("__debug__" : Str)) = false) (X₀ : K.In h₀) (I : InstAt s.heap y ox C (some (dictOf es n')))
    (hg : plainGet K C atn = true) (hh : hasDictIn K C = true) (ha : findIn K (.ref C) atn = some av) (hn : noGet K av = true) (hl : getL atn es = some (some (.int n t))) : EvI (model prog w) A (envX cn cs L a₀ ccd cl) s (.Attribute (.Name x np) atn pos) n :=
  fun k _ _ hq => Attribute_name (nameX_L (s := ⟨s.heap, s.gens, s.drawn, k, s.os⟩) F hv (get_own (s := ⟨s.heap, s.gens, s.drawn, k, s.os⟩) F X₀ I hg hh ha hn hl rfl (hq _ _)) hk hx hd)
end
variable {Q : Bool → Shared → Prop} {E : Value → Shared → Prop} {whole : Sem Value}
theorem EvI.lt (h1 : EvI (model prog w) A env s l a) (h2 : EvI (model prog w) A env s r b) (hm : behindInMarks .Lt r = false) (k : ∀ k', Q (decide (a < b)) ⟨s.heap, s.gens, s.drawn, k', s.os⟩) :
    wpAny (model prog w) A (PySem.isTrue (.Compare l [.Lt] [r] pos) env whole) Q E s := wpAny_isTrue_Compare1 (h1 _ _ _ fun _ _ => h2 _ _ _ fun _ _ => lt_int (wpAny_truthy_bool (k _))) hm
theorem EvI.gt (h1 : EvI (model prog w) A env s l a) (h2 : EvI (model prog w) A env s r b) (hm : behindInMarks .Gt r = false) (k : ∀ k', Q (decide (b < a)) ⟨s.heap, s.gens, s.drawn, k', s.os⟩) :
    wpAny (model prog w) A (PySem.isTrue (.Compare l [.Gt] [r] pos) env whole) Q E s := wpAny_isTrue_Compare1 (h1 _ _ _ fun _ _ => h2 _ _ _ fun _ _ => gt_int (wpAny_truthy_bool (k _))) hm
theorem EvI.le (h1 : EvI (model prog w) A env s l a) (h2 : EvI (model prog w) A env s r b) (hm : behindInMarks .LtE r = false) (k : ∀ k', Q (decide (a ≤ b)) ⟨s.heap, s.gens, s.drawn, k', s.os⟩) :
    wpAny (model prog w) A (PySem.isTrue (.Compare l [.LtE] [r] pos) env whole) Q E s := wpAny_isTrue_Compare1 (h1 _ _ _ fun _ _ => h2 _ _ _ fun _ _ => le_int (wpAny_truthy_bool (k _))) hm
theorem EvI.ge (h1 : EvI (model prog w) A env s l a) (h2 : EvI (model prog w) A env s r b) (hm : behindInMarks .GtE r = false) (k : ∀ k', Q (decide (b ≤ a)) ⟨s.heap, s.gens, s.drawn, k', s.os⟩) :
    wpAny (model prog w) A (PySem.isTrue (.Compare l [.GtE] [r] pos) env whole) Q E s := wpAny_isTrue_Compare1 (h1 _ _ _ fun _ _ => h2 _ _ _ fun _ _ => ge_int (wpAny_truthy_bool (k _))) hm
end
end Mine
end
section
open PySem PySem.W PyProof.Rows PySem.Calls
set_option maxRecDepth 100000
namespace Mine
noncomputable abbrev LS : List Str := looseW hd.view_39 [Str.ofString "Buffer", Str.ofString "RangeSet"]
noncomputable abbrev PG : Program := PySem.Challenge.rw_ix0004_01.row.prog

theorem hide_kept (h : Heap) (as : List Addr) : Kept (hideAll h as) h := ⟨fun _ _ e => of_hideAll _ e, Nat.le_of_eq (hideAll_size _ _)⟩
/-- out of a frame and its ledger: what a callee's contract asks, and the way back -/
theorem use {w : World} {dp un : Nat} {gd : Option (List Code)} {outer : List Env} {env : Env} {A₀ : Around} {base h₀ : Heap} {L : Addr} {s : Shared} {m : Str → Option Value} {mean : ExcName → Option Value} {mg mb : Str → Option Value} {news : List (Addr × Obj)}
    (B : Below A₀ base outer h₀) (F : Fr h₀ L s.heap m) (X : (hd.heap_39 w.params).In h₀) (T : Top hd.view_39 LS mean mg mb h₀) (N : News h₀ L s.heap news) (hf : env.frame = some L) (hke : env.scope.kind = .function)
    (wr rest : List (Addr × Obj)) (hwr : ∀ p ∈ wr, p ∈ news) (hrest : ∀ p ∈ rest, p ∈ news) (hdis : ∀ p ∈ rest, ∀ q ∈ wr, p.1 ≠ q.1) :
    ∃ g, Below (AX dp un gd (env :: outer)) base (env :: outer) g ∧ (hd.heap_39 w.params).In g ∧ Top hd.view_39 LS mean mg mb g ∧ Kept g s.heap ∧ Led g s.heap wr ∧
      ∀ h' news', Kept g h' → Led g h' news' → Fr h₀ L h' m ∧ News h₀ L h' (news' ++ rest) := by
  have nm : ∀ b o, h₀.get? b = some o → b ∉ wr.map (·.1) := fun b o e q => by
    obtain ⟨p, hp, rfl⟩ := List.mem_map.mp q
    rw [(N p (hwr p hp)).2.2] at e; cases e
  have st : h₀.StaysIn (hideAll s.heap (wr.map (·.1))) := fun b o e => hideAll_get _ (F.keep b o e) (nm b o e)
  obtain ⟨oL, es, ep, hL, hLd, hLk, hLf⟩ := F.ns
  have nL : L ∉ wr.map (·.1) := fun q => by
    obtain ⟨p, hp, e⟩ := List.mem_map.mp q
    exact (N p (hwr p hp)).2.1 e
  have hLg := hideAll_get (wr.map (·.1)) hL nL
  have hbase : base.get? L = none := by
    cases hq : base.get? L with
    | none => rfl
    | some o => exact absurd (Nat.lt_of_lt_of_le (Heap.lt_size (B.stays L o hq)) F.above) (Nat.lt_irrefl _)
  have hN : ∀ p ∈ wr, (hideAll s.heap (wr.map (·.1))).get? p.1 = none := fun p hp => hideAll_none _ (List.mem_map_of_mem hp)
  have hR : ∀ p ∈ rest, (hideAll s.heap (wr.map (·.1))).get? p.1 = some p.2 := fun p hp => hideAll_get _ (N p (hrest p hp)).1 fun q => by
    obtain ⟨q', hq', e⟩ := List.mem_map.mp q
    exact hdis p hp q' hq' e.symm
  have hK := hide_kept s.heap (wr.map (·.1))
  generalize hideAll s.heap (wr.map (·.1)) = gg at st hLg hN hR hK
  refine ⟨gg, ⟨rfl, fun b o e => st b o (B.stays b o e), ⟨by rw [hke]; decide, ⟨L, oL, hf, hbase, hLg, fun vs => by rw [hLd]; exact fun z => nomatch z⟩, B.frames.of_keeps fun b o e _ => ⟨o, st b o e, rfl⟩⟩⟩, X.keeps st, T.keeps st, hK, fun p hp => ⟨(N p (hwr p hp)).1, hN p hp⟩, fun h' news' K' N' => ⟨⟨⟨oL, es, ep, K'.keep L oL hLg, hLd, hLk, hLf⟩, fun b o e => K'.keep b o (st b o e), F.above⟩, fun p hp => ?_⟩⟩
  rcases List.mem_append.mp hp with hp | hp
  · refine ⟨(N' p hp).1, fun q => ?_, ?_⟩
    · have := (N' p hp).2; rw [q, hLg] at this; cases this
    · cases q : h₀.get? p.1 with
      | none => rfl
      | some o => have := (N' p hp).2; rw [st _ _ q] at this; cases this
  · exact ⟨K'.keep _ _ (hR p hp), (N p (hrest p hp)).2⟩
theorem led_ne {g h : Heap} {l : List (Addr × Obj)} {a b : Addr} {o₁ o₂ : Obj} (N : Led g h l) (h1 : (a, o₁) ∈ l) (h2 : (b, o₂) ∈ l) (hne : o₁ ≠ o₂) : @Ne Nat a b := fun e => by
  have x := (N _ h1).1
  have y := (N _ h2).1
  dsimp only at x y
  have e' : (a : Addr) = b := e
  rw [e', y] at x
  exact hne (Option.some.inj x).symm
/-- a def's contract: what it may change, what stands behind it; D: the room it wants -/
noncomputable def Con (w : World) (mean : ExcName → Option Value) (mg mb : Str → Option Value) (D : Nat) (f : Addr) (pos : List Value) (kw : List (Str × Value)) (wr : List (Addr × Obj)) (post : Value → List (Addr × Obj) → Prop) : Prop :=
  ∀ (dp un : Nat) (gd : Option (List Code)) (l : List Env) (base g : Heap) (s : Shared) (R : Result → Shared → Prop), Below (AX dp un gd l) base l g → (hd.heap_39 w.params).In g → Top hd.view_39 LS mean mg mb g → Kept g s.heap → Led g s.heap wr →
    dp + D < recursionLimit → un + 10 * D < cLine → (∀ v news' h' tk, post v news' → Kept g h' → Led g h' news' → R (.ok (.ret v)) { s with heap := h', toks := tk }) → codeAny (model PG w) (AX dp un gd l) (.call (.ref f) ⟨pos, kw⟩) R s
inductive Split (wr : List (Addr × Obj)) : List (Addr × Obj) → List (Addr × Obj) → Prop
  | nil : Split wr [] []
  | keep {p r r'} : (∀ q ∈ wr, q.1 ≠ p.1) → Split wr r r' → Split wr (p :: r) (p :: r')
  | drop {p r r'} : Split wr r r' → Split wr (p :: r) r'
theorem Split.sub {wr : List (Addr × Obj)} : ∀ {l r : List (Addr × Obj)}, Split wr l r → (∀ p ∈ r, p ∈ l) ∧ ∀ p ∈ r, ∀ q ∈ wr, p.1 ≠ q.1
  | _, _, .nil => ⟨fun _ h => h, fun _ h => nomatch h⟩
  | _, _, .keep h x => ⟨fun p hp => by
      rcases List.mem_cons.mp hp with rfl | hp
      · exact .head _
      · exact .tail _ (x.sub.1 p hp), fun p hp q hq => by
      rcases List.mem_cons.mp hp with rfl | hp
      · exact Ne.symm (h q hq)
      · exact x.sub.2 p hp q hq⟩
  | _, _, .drop x => ⟨fun p hp => .tail _ (x.sub.1 p hp), x.sub.2⟩
theorem Con.call {w : World} {dp un : Nat} {gd : Option (List Code)} {outer : List Env} {env : Env} {A₀ : Around} {base h₀ : Heap} {L : Addr} {s : Shared} {m : Str → Option Value} {mean : ExcName → Option Value} {mg mb : Str → Option Value} {news wr rest : List (Addr × Obj)}
    {D : Nat} {f : Addr} {pos : List Value} {kw : List (Str × Value)} {post : Value → List (Addr × Obj) → Prop} {Q E : Value → Shared → Prop} (C : Con w mean mg mb D f pos kw wr post)
    (B : Below A₀ base outer h₀) (F : Fr h₀ L s.heap m) (X : (hd.heap_39 w.params).In h₀) (T : Top hd.view_39 LS mean mg mb h₀) (N : News h₀ L s.heap news) (hf : env.frame = some L) (hke : env.scope.kind = .function)
    (hwr : ∀ p ∈ wr, p ∈ news) (hs : Split wr news rest) (hdp : dp + D < recursionLimit) (hun : un + 10 * D < cLine)
    (k : ∀ v news' h' tk, post v news' → Fr h₀ L h' m → News h₀ L h' (news' ++ rest) → Q v { s with heap := h', toks := tk }) :
    wpAny (model PG w) (AX dp un gd (env :: outer)) (call (.ref f) pos kw) Q E s := by
  obtain ⟨g, B', X', T', K', N', back⟩ := use (dp := dp) (un := un) (gd := gd) B F X T N hf hke wr rest hwr hs.sub.1 hs.sub.2
  refine wpAny_call (C dp un gd _ base g s _ B' X' T' K' N' hdp hun fun v news' h' tk hp K2 L2 => ?_)
  obtain ⟨F3, N3⟩ := back h' news' K2 L2
  exact k v news' h' tk hp F3 N3
theorem fill : PySem.Challenge.rw_ix0004_01.Holds → hd.heap_39 = hd.heap_39 := by k_fill; intro _; rfl
end Mine
end
section
open PySem PySem.W PyProof.Rows PySem.Calls
set_option maxRecDepth 100000
set_option maxHeartbeats 8000000
namespace Mine
noncomputable abbrev bufD (P : Params) (o : Addr) (k : Int) (t1 t2 t3 : Tok) : Obj := dictOf [⟨PyData.keyHash P (Str.ofString "_octets"), .str (Str.ofString "_octets") t1, .ref o⟩, ⟨PyData.keyHash P (Str.ofString "_place"), .str (Str.ofString "_place") t2, .int k t3⟩] 2
/-- a Buffer: its object x, its dict d, its octets o, its place k -/
noncomputable abbrev bufL (P : Params) (x d o : Addr) (bs : List UInt8) (k : Int) (t1 t2 t3 : Tok) : List (Addr × Obj) := [(x, instObj 193 d), (d, bufD P o k t1 t2 t3), (o, BA.baObj bs.toArray)]
theorem cls_ne {o₁ o₂ : Obj} (h : o₁.cls ≠ o₂.cls) : o₁ ≠ o₂ := fun e => h (congrArg Obj.cls e)
theorem led_ba {g h : Heap} {L a : Addr} {news : List (Addr × Obj)} {b : Array UInt8} (N : News g L h news) (hm : (a, BA.baObj b) ∈ news) : BA.IsBA h a b := (N _ hm).1
theorem len_app {prog : Program} {w : World} {A : Around} {E : Value → Shared → Prop} {s : Shared} {a : Addr} {p q : List UInt8} {Q : Value → Shared → Prop} (ha : BA.IsBA s.heap a (p ++ q).toArray) (hz : p.length + q.length ≤ 16777216)
    (h : Q (.int ((p.length : Int) + (q.length : Int)) (s.toks + 1)) { s with toks := s.toks + 1 + 1 }) : wpAny (model prog w) A (call (.builtin "len") [.ref a]) Q E s := by
  have e : (((p ++ q).toArray.size : Nat) : Int) = (p.length : Int) + (q.length : Int) := by simp
  exact BA.len_N ha (by simpa using hz) (by rw [e]; exact h)
theorem led3 {g h : Heap} {L : Addr} {news : List (Addr × Obj)} {p1 p2 p3 : Addr × Obj} (N : News g L h news) (h1 : p1 ∈ news) (h2 : p2 ∈ news) (h3 : p3 ∈ news) : Led g h [p1, p2, p3] := fun p hp => by
  have := Led.of_news N
  simp only [List.mem_cons, List.not_mem_nil, or_false] at hp
  rcases hp with rfl | rfl | rfl
  · exact this _ h1
  · exact this _ h2
  · exact this _ h3
theorem picked_lo (pre old : List UInt8) : KBy.picked (pre ++ old).toArray none (some (pre.length : Int)) = pre.toArray := by
  rw [KBc.picked_eq]
  simp [clipAt_nat]
theorem picked_hi (pre old : List UInt8) (n : Nat) : KBy.picked (pre ++ old).toArray (some ((pre.length : Int) + (n : Int))) none = (old.drop n).toArray := by
  rw [KBc.picked_eq]
  have e : (pre.length : Int) + (n : Int) = ((pre.length + n : Nat) : Int) := by omega
  rw [e]
  simp only [Option.elim, clipAt_nat, List.size_toArray, List.length_append]
  congr 1
  by_cases hn : n ≤ old.length
  · rw [Nat.min_eq_left (by omega), List.take_of_length_le (by simp; omega), List.drop_append, List.drop_of_length_le (by omega)]
    simp
  · rw [Nat.min_eq_right (by omega), List.drop_of_length_le (l := old) (by omega)]
    simp

theorem push_bytes {w : World} {mean : ExcName → Option Value} {mg mb : Str → Option Value} {x d o : Addr} {t1 t2 t3 t4 : Tok} {pre old : List UInt8} {v : Array UInt8} (hv : v.size ≤ old.length) (hz : pre.length + old.length ≤ 100000) :
    Con w mean mg mb 5 155 [.ref x, .bytes v t4] [] (bufL w.params x d o (pre ++ old) pre.length t1 t2 t3)
      (fun r news' => r = .none ∧ ∃ o' t3', news' = bufL w.params x d o' (pre ++ v.toList ++ old.drop v.size) (pre.length + v.size) t1 t2 t3') := by
  intro dp un gd l base g s R B X T Kp N hdp hun ret
  w_on
  have hxd : @Ne Nat x d := led_ne N (.head _) (.tail _ (.head _)) (cls_ne (by simp))
  have hxo : @Ne Nat x o := led_ne N (.head _) (.tail _ (.tail _ (.head _))) (cls_ne (by simp))
  have hdo : @Ne Nat d o := led_ne N (.tail _ (.head _)) (.tail _ (.tail _ (.head _))) (cls_ne (by simp))
  walk_at "mine enter"
  repeat' (first | ((with_reducible show wpAny _ _ (binaryOp Operator.Add _ _) _ _ _); (k_here; (with_reducible show wpAny _ _ (binaryOp _ (Value.ref _) (Value.ref _)) _ _ _); (with_reducible rename Fr _ _ _ _ => F'_q); (with_reducible rename News _ _ _ _ => N'_q); (refine' BA.add_ba F'_q N'_q ?ba_q ?bb_q ?hz_q ?_; (case ba_q => exact led_ba N'_q (by k_mem)); (case bb_q => exact led_ba N'_q (by k_mem)); (case hz_q => (((try simp only [Array.size_append]); refine Nat.le_trans (by first | exact Nat.add_le_add (Nat.add_le_add (KBc.size_picked_le _ _ _) (Nat.le_refl _)) (KBc.size_picked_le _ _ _) | exact Nat.add_le_add (KBc.size_picked_le _ _ _) (Nat.le_refl _) | exact KBc.size_picked_le _ _ _) ?_; simp only [List.size_toArray, List.length_append]; omega))); intro h'_q x'_q F'_q N'_q l1_q; (try k_lt l1_q); (try k_sweep); (try dsimp only)))) | ((with_reducible show wpAny _ _ (binaryOp Operator.Add _ _) _ _ _); (k_here; (with_reducible show wpAny _ _ (binaryOp _ (Value.ref _) (Value.bytes _ _)) _ _ _); (with_reducible rename Fr _ _ _ _ => F'_q); (with_reducible rename News _ _ _ _ => N'_q); (refine' BA.add_b F'_q N'_q ?ba_q ?hz_q ?_; (case ba_q => exact led_ba N'_q (by k_mem)); (case hz_q => (((try simp only [Array.size_append]); refine Nat.le_trans (by first | exact Nat.add_le_add (Nat.add_le_add (KBc.size_picked_le _ _ _) (Nat.le_refl _)) (KBc.size_picked_le _ _ _) | exact Nat.add_le_add (KBc.size_picked_le _ _ _) (Nat.le_refl _) | exact KBc.size_picked_le _ _ _) ?_; simp only [List.size_toArray, List.length_append]; omega))); intro h'_q x'_q F'_q N'_q l1_q; (try k_lt l1_q); (try k_sweep); (try dsimp only)))) | ((with_reducible show wpAny _ _ (call _ _) _ _ _); (k_here; (with_reducible show wpAny _ _ (call (Value.builtin "len") [Value.ref _]) _ _ _); (with_reducible rename News _ _ _ _ => N'_q); (refine' len_app ?ba_q ?hz_q ?_; (case ba_q => exact led_ba N'_q (by k_mem)); (case hz_q => first | with_reducible assumption | omega); k_whole))) | ((with_reducible show wpAny _ _ (subscriptTail _ _ _ _) _ _ _); (k_here; (with_reducible show wpAny _ _ (subscriptTail _ (Expr.Slice _ _ none _) (Value.ref _) (Value.ref _)) _ _ _); (with_reducible rename Fr _ _ _ _ => F'_q); (with_reducible rename News _ _ _ _ => N'_q); (refine' BA.slice_N (s := ⟨_, _, _, _, _⟩) F'_q N'_q ?ba_q (by constructor) (by constructor) ?hz_q ?_; (case ba_q => exact led_ba N'_q (by k_mem)); (case hz_q => (((try simp only [Array.size_append]); refine Nat.le_trans (by first | exact Nat.add_le_add (Nat.add_le_add (KBc.size_picked_le _ _ _) (Nat.le_refl _)) (KBc.size_picked_le _ _ _) | exact Nat.add_le_add (KBc.size_picked_le _ _ _) (Nat.le_refl _) | exact KBc.size_picked_le _ _ _) ?_; simp only [List.size_toArray, List.length_append]; omega))); intro h'_q x'_q F'_q N'_q l1_q; (try k_lt l1_q); (try k_sweep); (try dsimp only)))) | walk_at "mine one")
  (with_reducible rename Fr _ _ _ _ => F1)
  (with_reducible rename News _ _ _ _ => N1)
  rw [picked_lo, picked_hi, show pre.toArray ++ v ++ (old.drop v.size).toArray = (pre ++ v.toList ++ old.drop v.size).toArray from by simp] at N1
  refine' ret _ _ _ _ ⟨rfl, _, _, rfl⟩ (Kept.of_fr F1) (led3 N1 ?a ?b ?c)
  case a => k_mem
  case b => k_mem
  case c => k_mem
end Mine
end
section
open PySem PySem.W PyProof.Rows PySem.Calls
set_option maxRecDepth 100000
set_option maxHeartbeats 8000000
namespace Mine
/-- x in k octets, the greatest first -/
noncomputable def beI (k : Nat) (x : Int) : List UInt8 := ((KTBy.little k x).reverse).map fun i => UInt8.ofNat i.toNat
theorem beI_length (k : Nat) (x : Int) : (beI k x).length = k := by simp [beI, KTBy.little_length]
theorem toList_of_ints {b : Array UInt8} {k : Nat} {x : Int} (h : KBw.bInts b = (KTBy.little k x).reverse) : b.toList = beI k x := by
  unfold beI
  rw [← h]
  unfold KBw.bInts
  rw [List.map_map]
  conv => lhs; rw [← List.map_id b.toList]
  refine List.map_congr_left fun c _ => ?_
  show c = UInt8.ofNat ((c.toNat : Int).toNat)
  rw [Int.toNat_natCast, UInt8.ofNat_toNat]
theorem and_apart {v : Int} (k : Nat) (c : Nat) (h0 : 0 ≤ v) (h1 : v < 2 ^ k) : Builtin.bitAnd v ((2 ^ k * c : Nat) : Int) = 0 := by
  obtain ⟨n, rfl⟩ := Int.eq_ofNat_of_zero_le h0
  have hn : n < 2 ^ k := by
    have : ((n : Nat) : Int) < ((2 ^ k : Nat) : Int) := by rw [Int.natCast_pow]; exact h1
    exact Int.ofNat_lt.mp this
  have e1 : decide (0 ≤ ((n : Nat) : Int)) = true := decide_eq_true (by omega)
  have e2 : decide (0 ≤ ((2 ^ k * c : Nat) : Int)) = true := decide_eq_true (Int.natCast_nonneg _)
  unfold Builtin.bitAnd
  rw [e1, e2]
  show ((((n : Int).toNat &&& ((2 ^ k * c : Nat) : Int).toNat : Nat)) : Int) = 0
  rw [Int.toNat_natCast, Int.toNat_natCast]
  have : n &&& (2 ^ k * c) = 0 := by
    refine Nat.eq_of_testBit_eq fun i => ?_
    rw [Nat.testBit_and, Nat.zero_testBit]
    by_cases hi : i < k
    · rw [Nat.testBit_two_pow_mul]
      simp [Nat.not_le.mpr hi]
    · rw [Nat.testBit_lt_two_pow (Nat.lt_of_lt_of_le hn (Nat.pow_le_pow_right (by decide) (Nat.le_of_not_lt hi)))]
      rfl
  rw [this]
  rfl
theorem or_apart {v : Int} (k c : Nat) (h0 : 0 ≤ v) (h1 : v < 2 ^ k) : Builtin.bitOr v ((2 ^ k * c : Nat) : Int) = v + ((2 ^ k * c : Nat) : Int) := by
  rw [bitOr_and, and_apart k c h0 h1]
  omega
section
variable {prog : Program} {w : World} {A : Around} {E : Value → Shared → Prop} {s : Shared} {Q : Value → Shared → Prop} {v : Int} {t u : Tok}
theorem or14 (h0 : 0 ≤ v) (h1 : v ≤ 16383) (h : Q (.int (v + 16384) s.toks) { s with toks := s.toks + 1 }) : wpAny (model prog w) A (binaryOp .BitOr (.int v t) (.int 16384 u)) Q E s := by
  refine or_int ?_
  rw [show Builtin.bitOr v 16384 = v + 16384 from or_apart 14 1 h0 (by omega)]
  exact h
theorem or30 (h0 : 0 ≤ v) (h1 : v ≤ 1073741823) (h : Q (.int (v + 2147483648) s.toks) { s with toks := s.toks + 1 }) : wpAny (model prog w) A (binaryOp .BitOr (.int v t) (.int 2147483648 u)) Q E s := by
  refine or_int ?_
  rw [show Builtin.bitOr v 2147483648 = v + 2147483648 from or_apart 30 2 h0 (by omega)]
  exact h
theorem or62 (h0 : 0 ≤ v) (h1 : v < 4611686018427387904) (h : Q (.int (v + 13835058055282163712) s.toks) { s with toks := s.toks + 1 }) : wpAny (model prog w) A (binaryOp .BitOr (.int v t) (.int 13835058055282163712 u)) Q E s := by
  refine or_int ?_
  rw [show Builtin.bitOr v 13835058055282163712 = v + 13835058055282163712 from or_apart 62 3 h0 (by omega)]
  exact h
theorem tobytes {x B : Int} (k : Nat) {t1 t2 t3 : Tok} (hk : k ≤ 8) (hB : (256 : Int) ^ k = B) (h0 : 0 ≤ x) (h1 : x < B) (h : ∀ t' k', Q (.bytes (beI k x).toArray t') { s with toks := k' }) :
    wpAny (model prog w) A (call (.builtin "int.to_bytes") [.int x t1, .int (k : Int) t2, .str (PySem.Str.ofString "big") t3]) Q E s := by
  refine KTBy.to_big hk hB h0 h1 fun b t' k' hb _ => ?_
  rw [show b = (beI k x).toArray from by rw [← toList_of_ints hb, Array.toArray_toList]]
  exact h t' k'
end
/-- the octets of a number by QUIC's variable length -/
noncomputable def vidx (v : Int) : Nat := if v ≤ 63 then 0 else if v ≤ 16383 then 1 else if v ≤ 1073741823 then 2 else 3
noncomputable def venc (v : Int) : List UInt8 := if v ≤ 63 then beI 1 v else if v ≤ 16383 then beI 2 (v + 16384) else if v ≤ 1073741823 then beI 4 (v + 2147483648) else beI 8 (v + 13835058055282163712)
theorem venc_length (v : Int) : (venc v).length = 2 ^ vidx v := by
  unfold venc vidx
  split
  · simp [beI_length]
  · split
    · simp [beI_length]
    · split <;> simp [beI_length]
theorem push_uint_var {w : World} {mean : ExcName → Option Value} {mg mb : Str → Option Value} {x d o : Addr} {t1 t2 t3 t4 : Tok} {pre old : List UInt8} {v : Int} (h0 : 0 ≤ v) (h1 : v < 4611686018427387904) (hv : (venc v).length ≤ old.length) (hz : pre.length + old.length ≤ 100000) :
    Con w mean mg mb 10 190 [.ref x, .int v t4] [] (bufL w.params x d o (pre ++ old) pre.length t1 t2 t3)
      (fun r news' => r = .none ∧ ∃ o' t3', news' = bufL w.params x d o' (pre ++ venc v ++ old.drop (venc v).length) (pre.length + (venc v).length) t1 t2 t3') := by
  intro dp un gd l base g s R B X T Kp N hdp hun ret
  w_on
  have hxd : @Ne Nat x d := led_ne N (.head _) (.tail _ (.head _)) (cls_ne (by simp))
  have hxo : @Ne Nat x o := led_ne N (.head _) (.tail _ (.tail _ (.head _))) (cls_ne (by simp))
  have hdo : @Ne Nat d o := led_ne N (.tail _ (.head _)) (.tail _ (.tail _ (.head _))) (cls_ne (by simp))
  have split : (v ≤ 63 ∧ venc v = beI 1 v) ∨ (¬ v ≤ 63 ∧ v ≤ 16383 ∧ venc v = beI 2 (v + 16384)) ∨ (¬ v ≤ 63 ∧ ¬ v ≤ 16383 ∧ v ≤ 1073741823 ∧ venc v = beI 4 (v + 2147483648)) ∨ (¬ v ≤ 63 ∧ ¬ v ≤ 16383 ∧ ¬ v ≤ 1073741823 ∧ venc v = beI 8 (v + 13835058055282163712)) := by
    unfold venc
    by_cases c1 : v ≤ 63
    · exact .inl ⟨c1, by rw [if_pos c1]⟩
    · by_cases c2 : v ≤ 16383
      · exact .inr (.inl ⟨c1, c2, by rw [if_neg c1, if_pos c2]⟩)
      · by_cases c3 : v ≤ 1073741823
        · exact .inr (.inr (.inl ⟨c1, c2, c3, by rw [if_neg c1, if_neg c2, if_pos c3]⟩))
        · exact .inr (.inr (.inr ⟨c1, c2, c3, by rw [if_neg c1, if_neg c2, if_neg c3]⟩))
  rcases split with ⟨c1, e⟩ | ⟨c1, c2, e⟩ | ⟨c1, c2, c3, e⟩ | ⟨c1, c2, c3, e⟩ <;> rw [e, beI_length] at hv <;> rw [e, beI_length] at ret
  all_goals
    walk_at "mine enter"
    repeat' (first | (with_reducible (((with_reducible show wpAny _ _ (binaryOp Operator.BitOr _ _) _ _ _); (k_here; (first | refine or14 (by assumption) (by assumption) ?_ | refine or30 (by assumption) (by assumption) ?_ | refine or62 (by assumption) (by assumption) ?_))))) | (with_reducible (((with_reducible show wpAny _ _ (call (Value.builtin "int.to_bytes") _) _ _ _); (k_here; (first | (with_unfolding_all refine tobytes (B := 256) 1 (by decide) (by decide) (by omega) (by omega) ?_) | (with_unfolding_all refine tobytes (B := 65536) 2 (by decide) (by decide) (by omega) (by omega) ?_) | (with_unfolding_all refine tobytes (B := 4294967296) 4 (by decide) (by decide) (by omega) (by omega) ?_) | (with_unfolding_all refine tobytes (B := 18446744073709551616) 8 (by decide) (by decide) (by omega) (by omega) ?_)); intro _ _; (try dsimp only))))) | (with_reducible (((with_reducible show wpAny _ _ (call _ _) _ _ _); (k_here; (with_reducible show wpAny _ _ (call (Value.ref 155) [Value.ref _, Value.bytes _ _]) _ _ _); k_dflt (refine' Con.call (push_bytes ?hv_q ?hz_q) ?kB_q ?kF_q ?kX_q ?kT_q ?kN_q ?kf_q ?kk_q ?kw_q ?ks_q ?kd_q ?ku_q ?_; walk_at "mine con"; (case hv_q => (simp only [List.size_toArray, beI_length]; omega)); (case hz_q => first | with_reducible assumption | omega); intro v'_q news'_q h'_q tk'_q hp'_q F'_q N'_q; obtain ⟨hv'_q, o'_q, t3'_q, hn'_q⟩ := hp'_q; subst hv'_q; subst hn'_q; dsimp only [bufL, List.cons_append, List.nil_append] at N'_q; (try k_sweep); (try dsimp only)))))) | walk_at "mine one")
    (with_reducible rename Fr _ _ _ _ => F1)
    (with_reducible rename News _ _ _ _ => N1)
    simp only [List.size_toArray, beI_length] at N1
    exact ret _ _ _ _ ⟨rfl, _, _, rfl⟩ (Kept.of_fr F1) (Led.of_news N1)
end Mine
end
section
open PySem PySem.W PyProof.Rows PySem.Calls
set_option maxRecDepth 100000
namespace Mine
/-- the turns of a frame: sizes and gaps, the newest first; s: the start of the row before -/
noncomputable def fgap : Int → List (Int × Int) → List UInt8
  | _, [] => []
  | s, (a, b) :: r => venc (s - b - 1) ++ venc (b - a - 1) ++ fgap a r
/-- a frame of rows, the newest first -/
noncomputable def fenc (delay : Int) : List (Int × Int) → List UInt8
  | [] => []
  | (a, b) :: r => venc (b - 1) ++ venc delay ++ venc (r.length : Int) ++ venc (b - 1 - a) ++ fgap a r
/-- how many rows are written -/
noncomputable def cntOf (n : Nat) (M cap : Int) : Nat := if 2 * ((n : Int) + 1) * 8 > cap then (min (n : Int) (cap / (2 * ((2 ^ vidx M : Nat) : Int)) - 1)).toNat else n
/-- the greater of two, as max says it -/
noncomputable abbrev mx (a b : Int) : Int := if b > a then b else a
/-- rows, the newest first: apart, in order, none below 0, none above 2 ** 62 -/
noncomputable def OkR : List (Int × Int) → Prop
  | [] => True
  | (a, b) :: r => 0 ≤ a ∧ a < b ∧ b ≤ 4611686018427387904 ∧ (∀ q ∈ r.head?, q.2 < a) ∧ OkR r
end Mine
end
section
open PySem PySem.W PyProof.Rows PySem.Calls
set_option maxRecDepth 100000
namespace Mine
/-- as `use`, and what stands in the callee's ground of the caller's own -/
theorem use2 {w : World} {dp un : Nat} {gd : Option (List Code)} {outer : List Env} {env : Env} {A₀ : Around} {base h₀ : Heap} {L : Addr} {s : Shared} {m : Str → Option Value} {mean : ExcName → Option Value} {mg mb : Str → Option Value} {news : List (Addr × Obj)}
    (B : Below A₀ base outer h₀) (F : Fr h₀ L s.heap m) (X : (hd.heap_39 w.params).In h₀) (T : Top hd.view_39 LS mean mg mb h₀) (N : News h₀ L s.heap news) (hf : env.frame = some L) (hke : env.scope.kind = .function)
    (wr rest : List (Addr × Obj)) (hwr : ∀ p ∈ wr, p ∈ news) (hrest : ∀ p ∈ rest, p ∈ news) (hdis : ∀ p ∈ rest, ∀ q ∈ wr, p.1 ≠ q.1) :
    ∃ g, (Below (AX dp un gd (env :: outer)) base (env :: outer) g ∧ (hd.heap_39 w.params).In g ∧ Top hd.view_39 LS mean mg mb g ∧ Kept g s.heap ∧ Led g s.heap wr ∧
      ∀ h' news', Kept g h' → Led g h' news' → Fr h₀ L h' m ∧ News h₀ L h' (news' ++ rest)) ∧ Fr h₀ L g m ∧ (∀ p ∈ rest, g.get? p.1 = some p.2) ∧ ∀ b o, h₀.get? b = some o → g.get? b = some o := by
  have nm : ∀ b o, h₀.get? b = some o → b ∉ wr.map (·.1) := fun b o e q => by
    obtain ⟨p, hp, rfl⟩ := List.mem_map.mp q
    rw [(N p (hwr p hp)).2.2] at e; cases e
  have st : h₀.StaysIn (hideAll s.heap (wr.map (·.1))) := fun b o e => hideAll_get _ (F.keep b o e) (nm b o e)
  obtain ⟨oL, es, ep, hL, hLd, hLk, hLf⟩ := F.ns
  have nL : L ∉ wr.map (·.1) := fun q => by
    obtain ⟨p, hp, e⟩ := List.mem_map.mp q
    exact (N p (hwr p hp)).2.1 e
  have hLg := hideAll_get (wr.map (·.1)) hL nL
  have hbase : base.get? L = none := by
    cases hq : base.get? L with
    | none => rfl
    | some o => exact absurd (Nat.lt_of_lt_of_le (Heap.lt_size (B.stays L o hq)) F.above) (Nat.lt_irrefl _)
  have hN : ∀ p ∈ wr, (hideAll s.heap (wr.map (·.1))).get? p.1 = none := fun p hp => hideAll_none _ (List.mem_map_of_mem hp)
  have hR : ∀ p ∈ rest, (hideAll s.heap (wr.map (·.1))).get? p.1 = some p.2 := fun p hp => hideAll_get _ (N p (hrest p hp)).1 fun q => by
    obtain ⟨q', hq', e⟩ := List.mem_map.mp q
    exact hdis p hp q' hq' e.symm
  have hK := hide_kept s.heap (wr.map (·.1))
  generalize hideAll s.heap (wr.map (·.1)) = gg at st hLg hN hR hK
  refine ⟨gg, ⟨⟨rfl, fun b o e => st b o (B.stays b o e), ⟨by rw [hke]; decide, ⟨L, oL, hf, hbase, hLg, fun vs => by rw [hLd]; exact fun z => nomatch z⟩, B.frames.of_keeps fun b o e _ => ⟨o, st b o e, rfl⟩⟩⟩, X.keeps st, T.keeps st, hK, fun p hp => ⟨(N p (hwr p hp)).1, hN p hp⟩, fun h' news' K' N' => ⟨⟨⟨oL, es, ep, K'.keep L oL hLg, hLd, hLk, hLf⟩, fun b o e => K'.keep b o (st b o e), F.above⟩, fun p hp => ?_⟩⟩, ⟨⟨oL, es, ep, hLg, hLd, hLk, hLf⟩, st, F.above⟩, hR, st⟩
  rcases List.mem_append.mp hp with hp | hp
  · refine ⟨(N' p hp).1, fun q => ?_, ?_⟩
    · have := (N' p hp).2; rw [q, hLg] at this; cases this
    · cases q : h₀.get? p.1 with
      | none => rfl
      | some o => have := (N' p hp).2; rw [st _ _ q] at this; cases this
  · exact ⟨K'.keep _ _ (hR p hp), (N p (hrest p hp)).2⟩
/-- a def's contract with errors: rd what it may lean on (it stands in the ground), err the class of what it may raise -/
noncomputable def ConE (w : World) (mean : ExcName → Option Value) (mg mb : Str → Option Value) (D : Nat) (f : Addr) (pos : List Value) (kw : List (Str × Value)) (rd wr : List (Addr × Obj)) (post : Value → List (Addr × Obj) → Prop) (err : Value → Prop) : Prop :=
  ∀ (dp un : Nat) (gd : Option (List Code)) (l : List Env) (base g : Heap) (s : Shared) (R : Result → Shared → Prop), Below (AX dp un gd l) base l g → (hd.heap_39 w.params).In g → Top hd.view_39 LS mean mg mb g → Kept g s.heap → Led g s.heap wr → (∀ p ∈ rd, g.get? p.1 = some p.2) →
    dp + D < recursionLimit → un + 10 * D < cLine → (∀ v news' h' tk, post v news' → Kept g h' → Led g h' news' → R (.ok (.ret v)) { s with heap := h', toks := tk }) →
    (∀ e t cls vs h' tk, err cls → RaisedK base l e cls t vs [] h' → g.UpToSlots h' → R (.error (.ref e)) { s with heap := h', toks := tk }) → codeAny (model PG w) (AX dp un gd l) (.call (.ref f) ⟨pos, kw⟩) R s
theorem Con.toE {w : World} {mean : ExcName → Option Value} {mg mb : Str → Option Value} {D : Nat} {f : Addr} {pos : List Value} {kw : List (Str × Value)} {wr : List (Addr × Obj)} {post : Value → List (Addr × Obj) → Prop} (C : Con w mean mg mb D f pos kw wr post) :
    ConE w mean mg mb D f pos kw [] wr post (fun _ => False) := fun dp un gd l base g s R B X T K N _ h1 h2 k _ => C dp un gd l base g s R B X T K N h1 h2 k
theorem ConE.callE {w : World} {dp un : Nat} {gd : Option (List Code)} {outer : List Env} {env : Env} {A₀ : Around} {base h₀ : Heap} {L : Addr} {s : Shared} {m : Str → Option Value} {mean : ExcName → Option Value} {mg mb : Str → Option Value} {news wr rd rest : List (Addr × Obj)}
    {D : Nat} {f : Addr} {pos : List Value} {kw : List (Str × Value)} {post : Value → List (Addr × Obj) → Prop} {err : Value → Prop} {Q E : Value → Shared → Prop} (C : ConE w mean mg mb D f pos kw rd wr post err)
    (B : Below A₀ base outer h₀) (F : Fr h₀ L s.heap m) (X : (hd.heap_39 w.params).In h₀) (T : Top hd.view_39 LS mean mg mb h₀) (N : News h₀ L s.heap news) (hf : env.frame = some L) (hke : env.scope.kind = .function)
    (hwr : ∀ p ∈ wr, p ∈ news) (hs : Split wr news rest) (hrd : ∀ p ∈ rd, p ∈ rest ∨ h₀.get? p.1 = some p.2) (hdp : dp + D < recursionLimit) (hun : un + 10 * D < cLine)
    (k : ∀ v news' h' tk, post v news' → Fr h₀ L h' m → News h₀ L h' (news' ++ rest) → Q v { s with heap := h', toks := tk })
    (ke : ∀ e t cls vs g₂ h' tk, err cls → RaisedK base (env :: outer) e cls t vs [] h' → Fr h₀ L g₂ m → g₂.UpToSlots h' → E (.ref e) { s with heap := h', toks := tk }) :
    wpAny (model PG w) (AX dp un gd (env :: outer)) (call (.ref f) pos kw) Q E s := by
  obtain ⟨g, ⟨B', X', T', K', N', back⟩, Fg, hR, st⟩ := use2 (dp := dp) (un := un) (gd := gd) B F X T N hf hke wr rest hwr hs.sub.1 hs.sub.2
  refine wpAny_call (C dp un gd _ base g s _ B' X' T' K' N' (fun p hp => (hrd p hp).elim (hR p) (st _ _)) hdp hun (fun v news' h' tk hp K2 L2 => ?_) fun e t cls vs h' tk hc hr hu => ?_)
  · obtain ⟨F3, N3⟩ := back h' news' K2 L2
    exact k v news' h' tk hp F3 N3
  · exact ke e t cls vs g h' tk hc hr Fg hu
end Mine
end
section
open PySem PySem.W PyProof.Rows PySem.Calls
set_option maxRecDepth 100000
namespace Mine
/-- what a turn of a loop must reach: the ledger its of the loop's own iterators stands, Jn holds of all else -/
noncomputable def StepO (h₀ : Heap) (L : Addr) (ws : List (Addr × String)) (its : List (Addr × Obj)) (Jn : (Str → Option Value) → List (Addr × Obj) → Prop) (s₁ : Shared) (Q : Flow → Shared → Prop) (f : Flow) (s₃ : Shared) : Prop :=
  match f with
  | .ret v => Q (.ret v) s₃
  | .brk => Q .next s₃
  | _ => ∃ h' tk m' news', s₃ = { s₁ with heap := h', toks := tk } ∧ Fr h₀ L h' m' ∧ News h₀ L h' (its ++ news') ∧ (∀ p ∈ news', ∀ x ∈ ws, p.2.cls ≠ .type x.2) ∧ Jn m' news'
section
variable {prog : Program} {w : World} {A : Around} {E : Value → Shared → Prop} {s : Shared} {env : Env} {h₀ : Heap} {target : Expr} {body : List Stmt} {Q : Flow → Shared → Prop}
theorem objs_cls : ∀ {ws : List (Addr × String)} {its : List (Addr × Obj)}, Objs ws its → ∀ q ∈ its, ∃ x ∈ ws, q.2.cls = .type x.2
  | [], [], _, q, hq => nomatch hq
  | [], _ :: _, h, q, hq => by cases h
  | _ :: _, [], h, q, hq => nomatch hq
  | x :: ws, p :: its, ⟨h1, h2⟩, q, hq => by
    rcases List.mem_cons.mp hq with rfl | hq
    · exact ⟨x, .head _, h1.2⟩
    · obtain ⟨y, hy, e⟩ := objs_cls h2 q hq
      exact ⟨y, .tail _ hy, e⟩
theorem objs_cons {x : Addr × String} {ws : List (Addr × String)} {its : List (Addr × Obj)} (h : Objs (x :: ws) its) : ∃ o r, its = (x.1, o) :: r ∧ o.cls = .type x.2 ∧ Objs ws r := by
  cases its with
  | nil => exact False.elim h
  | cons p r =>
    have h' : (p.1 = x.1 ∧ p.2.cls = .type x.2) ∧ Objs ws r := h
    exact ⟨p.2, r, by rw [← h'.1.1], h'.1.2, h'.2⟩
theorem objs_nil {its : List (Addr × Obj)} (h : Objs [] its) : its = [] := by
  cases its with
  | nil => rfl
  | cons p r => exact False.elim h
theorem objs_one {I : Addr} {n : String} {its : List (Addr × Obj)} (h : Objs [(I, n)] its) : ∃ o, its = [(I, o)] ∧ o.cls = .type n := by
  obtain ⟨o, r, rfl, e2, h2⟩ := objs_cons h
  have := objs_nil h2
  subst this
  exact ⟨o, rfl, e2⟩
theorem objs_two {I I' : Addr} {n n' : String} {its : List (Addr × Obj)} (h : Objs [(I, n), (I', n')] its) : ∃ o o', its = [(I, o), (I', o')] ∧ o.cls = .type n ∧ o'.cls = .type n' := by
  obtain ⟨o, r, rfl, e2, h2⟩ := objs_cons h
  obtain ⟨o', rfl, e3⟩ := objs_one h2
  exact ⟨o, o', rfl, e2, e3⟩
theorem turns_J {I : Addr} {fp wr : List Addr} {n : Nat} {P Md : Nat → Value → Heap → Prop} {St : Nat → Heap → Prop} {ws : List (Addr × String)} {keep : List (Addr × Obj)} {m₀ : Str → Option Value} {news : List (Addr × Obj)} {hp : Heap} {tk0 : Nat}
    (W : KTurns prog w A target I fp wr n P Md St)
    (hobj : ∀ i h, St i h → ∃ its, Objs ws its ∧ ∀ p ∈ its, h.get? p.1 = some p.2)
    (hws : ∀ b ∈ ws.map (·.1), b ∈ fp ∧ h₀.get? b = none) (hwr : ∀ b ∈ wr, b ∈ ws.map (·.1))
    (hfp : ∀ b ∈ fp, b ∈ ws.map (·.1) ∨ (∃ o, (b, o) ∈ keep) ∨ ∃ o, h₀.get? b = some o) (hL : env.locals ∉ fp) (hnw : ∀ p ∈ news, p.1 ∉ wr) (hst : St 0 hp)
    (F : Fr h₀ env.locals hp m₀) (N : News h₀ env.locals hp news)
    (J : Nat → (Str → Option Value) → List (Addr × Obj) → Prop) (hk : ∀ i m nx, J i m nx → ∀ p ∈ keep, p ∈ nx) (h0 : J 0 m₀ news)
    (turn : ∀ i v m₁ news₁ h₁ tk₁ its, i < n → P i v h₁ → J i m₁ news₁ → Objs ws its → Fr h₀ env.locals h₁ m₁ → News h₀ env.locals h₁ (its ++ news₁) →
      wpAny (model prog w) A (assign target env v) (fun _ s₂ => wpAny (model prog w) A (execs body env) (StepO h₀ env.locals ws its (J (i + 1)) { s with heap := h₁, toks := tk₁ } Q) E s₂) E { s with heap := h₁, toks := tk₁ })
    (done : ∀ h' tk m' news', Fr h₀ env.locals h' m' → News h₀ env.locals h' news' → J n m' news' → Q .next { s with heap := h', toks := tk }) :
    TurnsAt prog w A h₀ env target body Q E (.ref I) { s with heap := hp, toks := tk0 } := by
  refine ⟨I, fp, wr, n, P, Md, St, m₀, news, J, rfl, W, hL, fun b hb => (hws b (hwr b hb)).2, hnw, hst, F, N, h0, ?_, fun h' tk m' news' F' N' _ hJ => done h' tk m' news' F' N' hJ⟩
  intro i v m₁ news₁ h₁ tk₁ own hin hP hJ hoff hown hget hall hst₁ F₁ N₁
  obtain ⟨its, hits, hval⟩ := hobj (i + 1) h₁ hst₁
  have hmap := hits.map
  have hin' : ∀ p ∈ its, p ∈ own := fun p hp => by
    have h1 : p.1 ∈ ws.map (·.1) := by rw [← hmap]; exact List.mem_map_of_mem hp
    exact hall _ (hws _ h1).1 (hws _ h1).2 _ (hval p hp)
  have N₂ : News h₀ env.locals h₁ (its ++ news₁) := fun p hp => (List.mem_append.mp hp).elim (fun hp => N₁ _ (List.mem_append_left _ (hin' p hp))) fun hp => N₁ _ (List.mem_append_right _ hp)
  have fin : ∀ s₃, (∃ h' tk m' news', s₃ = { s with heap := h', toks := tk } ∧ Fr h₀ env.locals h' m' ∧ News h₀ env.locals h' (its ++ news') ∧ (∀ p ∈ news', ∀ x ∈ ws, p.2.cls ≠ .type x.2) ∧ J (i + 1) m' news') →
      LoopStepU h₀ env.locals wr own (J (i + 1)) { s with heap := h₁, toks := tk₁ } .next s₃ := by
    rintro s₃ ⟨h', tk, m', news', e, F', N', ho, hJ'⟩
    refine ⟨rfl, h', tk, m', news', e, F', fun p hp => ?_, fun p hp hI => ?_, hJ'⟩
    · rcases List.mem_append.mp hp with hp | hp
      · have h2 : h₁.get? p.1 = some p.2 := hget _ hp
        rcases hfp _ (hown _ hp) with h3 | ⟨o, h3⟩ | ⟨o, h3⟩
        · rw [← hmap] at h3
          obtain ⟨q, hq, e⟩ := List.mem_map.mp h3
          have h5 := hval q hq
          rw [e, h2] at h5
          have : q = p := Prod.ext e (Option.some.inj h5).symm
          exact this ▸ N' _ (List.mem_append_left _ hq)
        · have h4 := (N₁ _ (List.mem_append_right _ (hk _ _ _ hJ _ h3))).1
          have h4' : h₁.get? p.1 = some o := h4
          rw [h2] at h4'
          have : p = (p.1, o) := Prod.ext rfl (Option.some.inj h4')
          rw [this]
          exact N' _ (List.mem_append_right _ (hk _ _ _ hJ' _ h3))
        · have h4 := (N₁ _ (List.mem_append_left _ hp)).2.2
          rw [h3] at h4; cases h4
      · exact N' _ (List.mem_append_right _ hp)
    · have h4 : p.1 ∈ its.map (·.1) := by rw [hmap]; exact hwr _ hI
      obtain ⟨q, hq, e⟩ := List.mem_map.mp h4
      obtain ⟨x, hx, hc⟩ := objs_cls hits q hq
      have a1 := (N' _ (List.mem_append_left _ hq)).1
      have a2 := (N' _ (List.mem_append_right _ hp)).1
      rw [e, a2] at a1
      exact ho p hp x hx (by rw [Option.some.inj a1]; exact hc)
  refine wpAny_mono (turn i v m₁ news₁ h₁ tk₁ its hin hP hJ hits F₁ N₂) (fun _ s₂ h₂ => wpAny_mono h₂ (fun f s₃ p => ?_) fun _ _ e => e) fun _ _ e => e
  cases f with
  | ret v => exact p
  | brk => exact p
  | next => exact fin _ p
  | cont => exact fin _ p
theorem list_J {l : Addr} {vs : List Value} {m₀ : Str → Option Value} {news keep : List (Addr × Obj)} (J : Nat → (Str → Option Value) → List (Addr × Obj) → Prop)
    (hh : A.handled = none) (F : Fr h₀ env.locals s.heap m₀) (N : News h₀ env.locals s.heap news) (hl : s.heap.IsList l vs.toArray) (hkeep : (∃ o, (l, o) ∈ keep) ∨ ∃ o, h₀.get? l = some o)
    (hk : ∀ i m nx, J i m nx → ∀ p ∈ keep, p ∈ nx) (h0 : J 0 m₀ news)
    (turn : ∀ i v m₁ news₁ h₁ tk₁ I it, vs[i]? = some v → J i m₁ news₁ → it.cls = .type "list_iterator" → Fr h₀ env.locals h₁ m₁ → News h₀ env.locals h₁ ((I, it) :: news₁) →
      wpAny (model prog w) A (assign target env v) (fun _ s₂ => wpAny (model prog w) A (execs body env) (StepO h₀ env.locals [(I, "list_iterator")] [(I, it)] (J (i + 1)) { s with heap := h₁, toks := tk₁ } Q) E s₂) E { s with heap := h₁, toks := tk₁ })
    (done : ∀ h' tk m' news', Fr h₀ env.locals h' m' → News h₀ env.locals h' news' → J vs.length m' news' → Q .next { s with heap := h', toks := tk }) :
    wpAny (model prog w) A (pyIter (.ref l)) (fun it s₂ => TurnsAt prog w A h₀ env target body Q E it s₂) E s := by
  have hls := hl
  obtain ⟨ol, hol, hcl, n', hdl⟩ := id hl
  have hlt : l < s.heap.objs.size := Heap.lt_size hol
  have hne : l ≠ s.heap.objs.size := Nat.ne_of_lt hlt
  have hLl : l ≠ env.locals := fun e => by
    obtain ⟨oL, es, ep, hL, hLd, _⟩ := F.ns
    rw [e, hL] at hol
    cases hol
    rw [hLd] at hdl; cases hdl
  refine wpAny_pyIter_list hl ?_
  refine turns_J (tk0 := s.toks) (ws := [(s.heap.objs.size, "list_iterator")]) (keep := keep) (KTurns.ofWalks (Walks.list hh s.heap.objs.size l hne vs.toArray) fun i v s Q E st q => letGo_listiter st.1 q) (fun i h st => ?_) (fun b hb => ?_) (fun b hb => by simpa using hb) (fun b hb => ?_) ?_ (fun p hp hI => ?_) ?_ (F.push _) (fun p hp => ⟨Heap.get?_push_of_some _ (N p hp).1, (N p hp).2⟩) J hk h0 ?_ ?_
  · obtain ⟨it, hit, hic, _⟩ := st.1
    exact ⟨[(s.heap.objs.size, it)], ⟨⟨rfl, hic⟩, trivial⟩, fun p hp => by rw [List.mem_singleton.mp hp]; exact hit⟩
  · have hb' : b = s.heap.objs.size := by simpa using hb
    rw [hb']
    exact ⟨List.mem_cons_self .., next_is_new F⟩
  · have hb' : b = s.heap.objs.size ∨ b = l := by simpa using hb
    rcases hb' with e | e
    · exact .inl (by simp [e])
    · exact .inr (e ▸ hkeep)
  · intro hI
    rcases List.mem_cons.mp hI with e | hI
    · exact absurd F.ns.lt (e ▸ Nat.lt_irrefl _)
    · exact hLl (List.mem_singleton.mp hI).symm
  · exact absurd (Heap.lt_size (N p hp).1) ((List.mem_singleton.mp hI) ▸ Nat.lt_irrefl _)
  · exact ⟨⟨_, Heap.get?_push_size _ rfl, rfl, rfl⟩, hl.at fun o e => Heap.get?_push_of_some _ e⟩
  · intro i v m₁ news₁ h₁ tk₁ its hin hP hJ hits F₁ N₁
    obtain ⟨qo, rfl, e2⟩ := objs_one hits
    exact turn i v m₁ news₁ h₁ tk₁ _ qo (by have hP' : vs.toArray[i]? = some v := hP; simpa using hP') hJ e2 F₁ N₁
  · intro h' tk m' news' F' N' hJ
    exact done h' tk m' news' F' N' (by simpa using hJ)
theorem range_J {r : Addr} {a₀ b₀ c₀ : Int} {t₀ u₀ v₀ : Tok} {n : Nat} {m₀ : Str → Option Value} {news : List (Addr × Obj)} (J : Nat → (Str → Option Value) → List (Addr × Obj) → Prop)
    (hh : A.handled = none) (hr : IsRange s.heap r a₀ b₀ c₀ t₀ u₀ v₀) (hsmall : Builtin.Range.small a₀ b₀ c₀ = true) (hn : Builtin.Range.rangeSize a₀ b₀ c₀ = (n : Int)) (F : Fr h₀ env.locals s.heap m₀) (N : News h₀ env.locals s.heap news)
    (h0 : J 0 m₀ news)
    (turn : ∀ i t m₁ news₁ h₁ tk₁ I it, i < n → J i m₁ news₁ → it.cls = .type "range_iterator" → Fr h₀ env.locals h₁ m₁ → News h₀ env.locals h₁ ((I, it) :: news₁) →
      wpAny (model prog w) A (assign target env (.int (a₀ + (i : Int) * c₀) t)) (fun _ s₂ => wpAny (model prog w) A (execs body env) (StepO h₀ env.locals [(I, "range_iterator")] [(I, it)] (J (i + 1)) { s with heap := h₁, toks := tk₁ } Q) E s₂) E { s with heap := h₁, toks := tk₁ })
    (done : ∀ h' tk m' news', Fr h₀ env.locals h' m' → News h₀ env.locals h' news' → J n m' news' → Q .next { s with heap := h', toks := tk })
    (hgo : ∀ I i v (s : Shared) (Q : Unit → Shared → Prop) (E : Value → Shared → Prop), IsRangeIter s.heap I (a₀ + ((i : Nat) : Int) * c₀) ((n : Int) - (i : Nat)) c₀ → Q () s → wpAny (model prog w) A (letOwnedTupleGo target (.ref I) v) Q E s := by intro _ _ _ _ _ _ _ h; exact wpAny_of_eq (a := ()) rfl h) :
    wpAny (model prog w) A (pyIter (.ref r)) (fun it s₂ => TurnsAt prog w A h₀ env target body Q E it s₂) E s := by
  refine wpAny_pyIter_range hr hsmall ?_
  have W : Walks prog w A s.heap.objs.size [s.heap.objs.size] [s.heap.objs.size] n (fun i v => i < n ∧ ∃ t, v = .int (a₀ + i * c₀) t)
      (fun i h => IsRangeIter h s.heap.objs.size (a₀ + (i : Nat) * c₀) ((n : Int) - (i : Nat)) c₀) := (Walks.range hh _ a₀ c₀ n).bound
  refine turns_J (tk0 := s.toks) (ws := [(s.heap.objs.size, "range_iterator")]) (keep := []) (KTurns.ofWalks W fun i v s Q E st q => hgo _ i v s Q E st q) (fun i h st => ?_) (fun b hb => ?_) (fun b hb => by simpa using hb) (fun b hb => .inl (by simpa using hb)) ?_ (fun p hp hI => ?_) (by show IsRangeIter _ _ _ _ _; rw [hn]; simpa using Heap.get?_push_size _ rfl) (F.push _) (fun p hp => ⟨Heap.get?_push_of_some _ (N p hp).1, (N p hp).2⟩) J (fun _ _ _ _ _ h => nomatch h) h0 ?_ ?_
  · exact ⟨[(s.heap.objs.size, _)], ⟨⟨rfl, rfl⟩, trivial⟩, fun p hp => by rw [List.mem_singleton.mp hp]; exact st⟩
  · have hb' : b = s.heap.objs.size := by simpa using hb
    rw [hb']
    exact ⟨List.mem_cons_self .., next_is_new F⟩
  · intro hI
    exact absurd F.ns.lt ((List.mem_singleton.mp hI) ▸ Nat.lt_irrefl _)
  · exact absurd (Heap.lt_size (N p hp).1) ((List.mem_singleton.mp hI) ▸ Nat.lt_irrefl _)
  · intro i v m₁ news₁ h₁ tk₁ its hin hP hJ hits F₁ N₁
    obtain ⟨_, t, rfl⟩ := hP
    obtain ⟨qo, rfl, e2⟩ := objs_one hits
    exact turn i t m₁ news₁ h₁ tk₁ _ qo hin hJ e2 F₁ N₁
  · exact done
theorem enum_J {elts : List Expr} {k : Nat} {pos : Pos} {l : Addr} {vs : List Value} {m₀ : Str → Option Value} {news keep : List (Addr × Obj)} (J : Nat → (Str → Option Value) → List (Addr × Obj) → Prop)
    (hh : A.handled = none) (F : Fr h₀ env.locals s.heap m₀) (N : News h₀ env.locals s.heap news) (hl : s.heap.IsList l vs.toArray) (hkeep : (∃ o, (l, o) ∈ keep) ∨ ∃ o, h₀.get? l = some o)
    (hk : ∀ i m nx, J i m nx → ∀ p ∈ keep, p ∈ nx) (h0 : J 0 m₀ news)
    (turn : ∀ i v t T m₁ news₁ h₁ tk₁ I I' it it', vs[i]? = some v → J i m₁ news₁ → it.cls = .type "enumerate" → it'.cls = .type "list_iterator" → IsTup h₁ T #[.int (i : Int) t, v] → Fr h₀ env.locals h₁ m₁ → News h₀ env.locals h₁ ((I, it) :: (I', it') :: news₁) →
      wpAny (model prog w) A (assign (.Tuple elts k pos) env (.ref T)) (fun _ s₂ => wpAny (model prog w) A (execs body env) (StepO h₀ env.locals [(I, "enumerate"), (I', "list_iterator")] [(I, it), (I', it')] (J (i + 1)) { s with heap := h₁, toks := tk₁ } Q) E s₂) E { s with heap := h₁, toks := tk₁ })
    (done : ∀ h' tk m' news', Fr h₀ env.locals h' m' → News h₀ env.locals h' news' → J vs.length m' news' → Q .next { s with heap := h', toks := tk }) :
    wpAny (model prog w) A (call (.type "enumerate") [.ref l]) (fun xv s₁ => wpAny (model prog w) A (pyIter xv) (fun it s₂ => TurnsAt prog w A h₀ env (.Tuple elts k pos) body Q E it s₂) E s₁) E s := by
  obtain ⟨ol, hol, hcl, n', hdl⟩ := id hl
  have hlt : l < s.heap.objs.size := Heap.lt_size hol
  have hLs : env.locals < s.heap.objs.size := F.ns.lt
  have hLl : l ≠ env.locals := fun e => by
    obtain ⟨oL, es, ep, hL, hLd, _⟩ := F.ns
    rw [e, hL] at hol
    cases hol
    rw [hLd] at hdl; cases hdl
  refine call_enumerate_list hl fun h' hE hI hsz hk' => ?_
  refine wpAny_pyIter_enum hE ?_
  refine turns_J (tk0 := s.toks) (ws := [(s.heap.objs.size + 1, "enumerate"), (s.heap.objs.size, "list_iterator")]) (keep := keep) (KTurns.ofWalksU (WalksT.enumerate hh (s.heap.objs.size + 1) s.heap.objs.size l (Nat.succ_ne_self _) (ktu_ne 1 hlt) (Nat.ne_of_lt hlt) vs.toArray).toU) ?_ ?_ ?_ ?_ ?_ ?_ ?_ (F.keeps hk') (N.grown hk') J hk h0 ?_ ?_
  · rintro i h ⟨⟨old, he⟩, ⟨oi, hoi, hic, _⟩, _⟩
    have he' : ∃ oe : Obj, h.get? (s.heap.objs.size + 1) = some oe ∧ oe.cls = .type "enumerate" := ⟨_, he, rfl⟩
    obtain ⟨oe, h1, h2⟩ := he'
    refine ⟨[(s.heap.objs.size + 1, oe), (s.heap.objs.size, oi)], ⟨⟨rfl, h2⟩, ⟨rfl, hic⟩, trivial⟩, fun p hp => ?_⟩
    rcases List.mem_cons.mp hp with rfl | hp
    · exact h1
    · rw [List.mem_singleton.mp hp]; exact hoi
  · intro b hb
    have hb' : b = s.heap.objs.size + 1 ∨ b = s.heap.objs.size := by simpa using hb
    rcases hb' with rfl | rfl
    · exact ⟨by simp, ktu_new F (Nat.le_add_right _ _)⟩
    · exact ⟨by simp, ktu_new F (Nat.le_refl _)⟩
  · intro b hb
    simpa using hb
  · intro b hb
    have hb' : b = s.heap.objs.size + 1 ∨ b = s.heap.objs.size ∨ b = l := by simpa using hb
    rcases hb' with rfl | rfl | rfl
    · exact .inl (by simp)
    · exact .inl (by simp)
    · exact .inr hkeep
  · intro hI'
    have hb' : env.locals = s.heap.objs.size + 1 ∨ env.locals = s.heap.objs.size ∨ env.locals = l := by simpa using hI'
    rcases hb' with e | e | e
    · exact ktu_ne 1 hLs e
    · exact Nat.ne_of_lt hLs e
    · exact hLl e.symm
  · intro p hp hI'
    have hb' : p.1 = s.heap.objs.size + 1 ∨ p.1 = s.heap.objs.size := by simpa using hI'
    have hlp := Heap.lt_size (N p hp).1
    rcases hb' with e | e
    · exact ktu_ne 1 hlp e
    · exact Nat.ne_of_lt hlp e
  · exact ⟨⟨.none, hE⟩, hI, hl.at fun o e => hk' l o e⟩
  · intro i v m₁ news₁ h₁ tk₁ its hin hP hJ hits F₁ N₁
    obtain ⟨T, vals, rfl, ⟨t, x, hx, rfl⟩, hT⟩ := hP
    obtain ⟨o, o', rfl, e2, e3⟩ := objs_two hits
    exact turn i x t T m₁ news₁ h₁ tk₁ _ _ o o' (by simpa using hx) hJ e2 e3 hT F₁ N₁
  · intro h' tk m' news' F' N' hJ
    exact done h' tk m' news' F' N' (by simpa using hJ)
end
end Mine
end
section
open PySem PySem.W PyProof.Rows PySem.Calls
set_option maxRecDepth 100000
set_option maxHeartbeats 8000000
namespace Mine
structure RG where
  (r d : Addr) (a b : Int) (t1 t2 ta tb : Tok)
noncomputable abbrev rngD (P : Params) (a b : Int) (t1 t2 ta tb : Tok) : Obj := dictOf [⟨PyData.keyHash P (Str.ofString "start"), .str (Str.ofString "start") t1, .int a ta⟩, ⟨PyData.keyHash P (Str.ofString "stop"), .str (Str.ofString "stop") t2, .int b tb⟩] 2
noncomputable abbrev rgL (P : Params) (x : RG) : List (Addr × Obj) := [(x.r, instObj 235 x.d), (x.d, rngD P x.a x.b x.t1 x.t2 x.ta x.tb)]
noncomputable def rowsL (P : Params) (rs : List RG) : List (Addr × Obj) := rs.flatMap (rgL P)
noncomputable abbrev rsD (P : Params) (l : Addr) (t : Tok) : Obj := dictOf [⟨PyData.keyHash P (Str.ofString "_ranges"), .str (Str.ofString "_ranges") t, .ref l⟩] 1
noncomputable abbrev refsOf (rs : List RG) : List Value := rs.map fun y => .ref y.r
noncomputable abbrev rsL (P : Params) (x d l : Addr) (rs : List RG) (n : Nat) (t : Tok) : List (Addr × Obj) := [(x, instObj 329 d), (d, rsD P l t), (l, listOf (refsOf rs).toArray n)]
noncomputable def Halt (P : Prop) : Prop := P
theorem halt {P : Prop} (h : Halt P) : P := h
theorem InstAt.of_base {h₀ h : Heap} {L x C dx : Addr} {m : Str → Option Value} {od : Obj} {sl : Array (Option Value)} (F : Fr h₀ L h m) (h1 : h₀.get? x = some (⟨.ref C, some dx, .plain, sl⟩ : Obj)) (h2 : h₀.get? dx = some od) :
    PySem.W.InstAt h x ⟨.ref C, some dx, .plain, sl⟩ C (some od) := ⟨F.keep _ _ h1, rfl, rfl, F.keep _ _ h2⟩
theorem fr_map {g h : Heap} {L : Addr} {m : Str → Option Value} (_ : Fr g L h m) : ∃ m', m' = m := ⟨m, rfl⟩
noncomputable abbrev upd (st : List Str) (u m₀ : Str → Option Value) : Str → Option Value := fun y => if st.contains y = true then u y else m₀ y
theorem upd_off {st st' : List Str} {u m₀ : Str → Option Value} {y : Str} (hs : ∀ z ∈ st', st.contains z = true) (hy : st.contains y = false) : upd st' u m₀ y = m₀ y := by
  show (if st'.contains y = true then u y else m₀ y) = m₀ y
  rw [if_neg]
  intro hc
  have := hs y (List.contains_iff_mem.mp hc)
  rw [hy] at this; cases this
theorem map_off {st : List Str} (st' : List Str) {u m m₀ : Str → Option Value} (hs : ∀ z ∈ st', st.contains z = true) (h : ∀ y, st.contains y = false → m y = upd st' u m₀ y) : ∀ y, st.contains y = false → m y = m₀ y := fun y hy => (h y hy).trans (upd_off hs hy)
theorem trk0 {st : List Str} {m m₀ : Str → Option Value} (ho : ∀ y, st.contains y = false → m y = m₀ y) : m = upd st m m₀ := by
  funext y
  show m y = if st.contains y = true then m y else m₀ y
  cases h : st.contains y with
  | true => simp
  | false => simpa using ho y h
theorem list_at {h : Heap} {g : Heap} {L l : Addr} {news : List (Addr × Obj)} {its : Array Value} {n : Nat} (N : News g L h news) (hm : (l, listOf its n) ∈ news) : h.IsList l its := ⟨_, (N _ hm).1, rfl, n, rfl⟩
theorem news_ne {g h : Heap} {L : Addr} {l : List (Addr × Obj)} {a b : Addr} {o₁ o₂ : Obj} (N : News g L h l) (h1 : (a, o₁) ∈ l) (h2 : (b, o₂) ∈ l) (hne : o₁.cls ≠ o₂.cls) : @Ne Nat a b := fun e => by
  have x := (N _ h1).1
  have y := (N _ h2).1
  dsimp only at x y
  have e' : (a : Addr) = b := e
  rw [e', y] at x
  exact hne (by rw [Option.some.inj x])
theorem news_neT {g h : Heap} {L : Addr} {l : List (Addr × Obj)} {a b : Addr} {o₁ o₂ : Obj} {n : String} (N : News g L h l) (h1 : (a, o₁) ∈ l) (h2 : (b, o₂) ∈ l) (hc : o₁.cls = .type n) (hne : Value.type n ≠ o₂.cls) : @Ne Nat a b := news_ne N h1 h2 (by rw [hc]; exact hne)
theorem tyne {a b : String} (h : a ≠ b) : Value.type a ≠ Value.type b := fun e => h (by injection e)
theorem ins0 (l : List Value) (y : Value) : kl_ins l 0 y = y :: l := by
  unfold kl_ins
  simp
theorem rows_at {P : Params} {rs : List RG} {g : Heap} (h : ∀ p ∈ rowsL P rs, g.get? p.1 = some p.2) : ∀ y ∈ rs, g.get? y.r = some (instObj 235 y.d) ∧ g.get? y.d = some (rngD P y.a y.b y.t1 y.t2 y.ta y.tb) := fun y hy =>
  ⟨h (y.r, instObj 235 y.d) (List.mem_flatMap.mpr ⟨y, hy, .head _⟩), h (y.d, rngD P y.a y.b y.t1 y.t2 y.ta y.tb) (List.mem_flatMap.mpr ⟨y, hy, .tail _ (.head _)⟩)⟩
theorem fin_range {P : Params} {g h : Heap} {L x d l r dd : Addr} {a b : Int} {t t1 t2 ta tb : Tok} {rs' : RG → List RG} {all : List (Addr × Obj)} {n : Nat} {its : Array Value}
    (N : News g L h ((r, instObj 235 dd) :: (dd, rngD P a b t1 t2 ta tb) :: all)) (hx : (x, instObj 329 d) ∈ all) (hd : (d, rsD P l t) ∈ all) (hl : (l, listOf its n) ∈ all) (he : ∀ y : RG, y.r = r → its = (refsOf (rs' y)).toArray) :
    ∃ (y : RG) (n' : Nat), y.a = a ∧ y.b = b ∧ Led g h (rsL P x d l (rs' y) n' t ++ rgL P y) := by
  refine ⟨⟨r, dd, a, b, t1, t2, ta, tb⟩, n, rfl, rfl, fun p hp => ?_⟩
  rw [he ⟨r, dd, a, b, t1, t2, ta, tb⟩ rfl] at hl
  refine Led.of_news N p ?_
  simp only [List.mem_append, List.mem_cons, List.not_mem_nil, or_false] at hp
  rcases hp with (rfl | rfl | rfl) | rfl | rfl
  · exact .tail _ (.tail _ hx)
  · exact .tail _ (.tail _ hd)
  · exact .tail _ (.tail _ hl)
  · exact .head _
  · exact .tail _ (.head _)
theorem mp_cons {m m' : Str → Option Value} {x : Str} {v : Value} (q : m' = m) (e : m x = some v) : (fun y => if y = x then some v else m' y) = m := by
  subst q
  funext y
  by_cases q : y = x
  · rw [if_pos q, q, e]
  · rw [if_neg q]
theorem fr_eq {g h : Heap} {L : Addr} {m m' : Str → Option Value} (q : m' = m) (F : Fr g L h m) : Fr g L h m' := q ▸ F
/-- what stands at the loop of RangeSet.add -/
inductive AJ (x : Addr) (a b : Int) (ta tb : Tok) (nx0 : List (Addr × Obj)) (m : Str → Option Value) (nx : List (Addr × Obj)) : Prop
  | mk (hn : nx = nx0) (h1 : m (Str.ofString "self") = some (.ref x)) (h2 : m (Str.ofString "start") = some (.int a ta)) (h3 : m (Str.ofString "stop") = some (.int b tb)) : AJ x a b ta tb nx0 m nx
theorem add_front {w : World} {mean : ExcName → Option Value} {mg mb : Str → Option Value} {x d l : Addr} {t1 ta tb : Tok} {rs : List RG} {n : Nat} {a b : Int} (hab : a < b) (hsz : rs.length ≤ 1000000) (hlt : ∀ y ∈ rs.head?, b < y.a) :
    ConE w mean mg mb 10 263 [.ref x, .int a ta, .int b tb] [] (rowsL w.params rs) (rsL w.params x d l rs n t1)
      (fun r news' => r = .none ∧ ∃ y n', y.a = a ∧ y.b = b ∧ news' = rsL w.params x d l (y :: rs) n' t1 ++ rgL w.params y)
      (fun _ => False) := by
  intro dp un gd ll base g s R B X T Kp N hrd hdp hun ret fail
  w_on
  have hxd : @Ne Nat x d := led_ne N (.head _) (.tail _ (.head _)) (cls_ne (by simp))
  have hxl : @Ne Nat x l := led_ne N (.head _) (.tail _ (.tail _ (.head _))) (cls_ne (by simp))
  have hdl : @Ne Nat d l := led_ne N (.tail _ (.head _)) (.tail _ (.tail _ (.head _))) (cls_ne (by simp))
  walk_at "mine enter"
  repeat' (first | (with_reducible (((with_reducible show wpAny _ _ (exec (Stmt.For _ _ _ _ _) _) _ _ _); (k_here; (rename Fr _ _ _ _ => lF'_q); (with_unfolding_all refine' For_turns lF'_q ?_; k_whole))))) | (with_reducible (((with_reducible show wpAny _ _ (call (Value.type _) _) _ _ _); (k_here; (with_reducible show wpAny _ _ (call (Value.type _) [Value.ref _]) (fun xv s₁ => wpAny _ _ (pyIter xv) (fun it s₂ => TurnsAt _ _ _ _ _ _ _ _ _ it s₂) _ s₁) _ _); refine halt ?_)))) | walk_at "mine oneD")
  refine halt ?_
  (with_reducible rename Fr _ _ _ _ => F1)
  (with_reducible rename News _ _ _ _ => N1)
  refine enum_J (keep := rsL w.params x d l rs n t1) (fun i m nx => i = 0 ∧ AJ x a b ta tb (rsL w.params x d l rs n t1) m nx) rfl F1 N1 (list_at N1 (.tail _ (.tail _ (.head _)))) ?hkeep ?hk ?h0 ?turn ?done
  case hk => exact fun i m nx hj p hp => hj.2.casesOn fun e _ _ _ => e ▸ hp
  case h0 => exact ⟨rfl, rfl, rfl, rfl, rfl⟩
  case hkeep => exact .inl ⟨_, .tail _ (.tail _ (.head _))⟩
  case turn =>
    rintro i v t T' m₁ news₁ h₁ tk₁ I I' it it' hv ⟨rfl, rfl, h1, h2, h3⟩ hc hc' hT F2 N2
    have F3 : Fr g L'_q _ _ := fr_eq (mp_cons (mp_cons (mp_cons rfl h3) h2) h1) F2
    clear F1 N1 F2 h1 h2 h3
    cases rs with
    | nil => simp at hv
    | cons y0 rs =>
      obtain ⟨hr0, hd0⟩ := rows_at hrd y0 (.head _)
      have hb : b < y0.a := hlt y0 rfl
      have hv' : v = .ref y0.r := by simpa using hv.symm
      subst hv'
      have hIl := news_neT N2 (.head _) (.tail _ (.tail _ (.tail _ (.tail _ (.head _))))) hc (tyne (by decide))
      have hIl' := news_neT N2 (.tail _ (.head _)) (.tail _ (.tail _ (.tail _ (.tail _ (.head _))))) hc' (tyne (by decide))
      repeat' (first | (with_reducible (((with_reducible show wpAny _ _ (call _ _) _ _ _); (k_here; (with_reducible show wpAny _ _ (call (Value.builtin _) [Value.ref _, Value.int _ _, _]) _ _ _); k_dflt (refine' kl_insert ?F_q ?N_q ?f_q ?e_q ?U_q ?z_q ?_; (case F_q => k_asm); (case N_q => k_asm); (case f_q => rfl); (case e_q => exact ins0 _ _); (case U_q => k_upd); (case z_q => (simp only [List.length_map, List.size_toArray]; rw [sizeLine_eq]; omega)); intro h'_q F'_q N'_q; (try k_sweep); (try dsimp only)))))) | walk_at "mine oneD")
      (with_reducible rename Fr _ _ _ _ => F3)
      (with_reducible rename News _ _ _ _ => N3)
      obtain ⟨y, n', ya, yb, hL⟩ := fin_range (rs' := fun y => y :: y0 :: rs) N3 (by k_mem) (by k_mem) (by k_mem) (fun y hy => by simp [refsOf, hy])
      exact ret _ _ _ _ ⟨rfl, y, n', ya, yb, rfl⟩ (Kept.of_fr F3) hL
  case done =>
    rintro h' tk m' news' F2 N2 ⟨h0, rfl, h1, h2, h3⟩
    have F3 : Fr g L'_q _ _ := fr_eq (mp_cons (mp_cons (mp_cons rfl h3) h2) h1) F2
    clear F1 N1 F2 h1 h2 h3
    cases rs with
    | cons y0 rs => simp at h0
    | nil =>
      repeat' (first | (with_reducible (((with_reducible show wpAny _ _ (call _ _) _ _ _); (k_here; (with_reducible show wpAny _ _ (call (Value.builtin _) [Value.ref _, _]) _ _ _); k_dflt (refine' append_K ?k1_q ?k2_q ?k3_q ?_ ?z_q; (case k1_q => k_asm); (case k2_q => k_asm); (case k3_q => k_upd); (case z_q => (simp only [List.length_map, List.size_toArray]; rw [sizeLine_eq]; omega)); intro h'_q F'_q N'_q; (try k_sweep); (try dsimp only)))))) | walk_at "mine oneD")
      (with_reducible rename Fr _ _ _ _ => F3)
      (with_reducible rename News _ _ _ _ => N3)
      obtain ⟨y, n', ya, yb, hL⟩ := fin_range (rs' := fun y => [y]) N3 (by k_mem) (by k_mem) (by k_mem) (fun y hy => by simp [refsOf, hy])
      exact ret _ _ _ _ ⟨rfl, y, n', ya, yb, rfl⟩ (Kept.of_fr F3) hL
theorem StepO.go {h₀ h' : Heap} {L : Addr} {ws : List (Addr × String)} {its news' : List (Addr × Obj)} {Jn : (Str → Option Value) → List (Addr × Obj) → Prop} {s₁ : Shared} {Q : Flow → Shared → Prop} {f : Flow} {tk : Nat} {m' : Str → Option Value} (hf : f = .next ∨ f = .cont)
    (F : Fr h₀ L h' m') (N : News h₀ L h' (its ++ news')) (hc : ∀ p ∈ news', ∀ x ∈ ws, p.2.cls ≠ .type x.2) (hJ : Jn m' news') : StepO h₀ L ws its Jn s₁ Q f { s₁ with heap := h', toks := tk } := by
  rcases hf with rfl | rfl <;> exact ⟨h', tk, m', news', rfl, F, N, hc, hJ⟩
theorem rs_cls {P : Params} {x d l : Addr} {rs : List RG} {n : Nat} {t : Tok} {ws : List (Addr × String)} (h : ∀ y ∈ ws, y.2 ≠ "dict" ∧ y.2 ≠ "list") : ∀ p ∈ rsL P x d l rs n t, ∀ y ∈ ws, p.2.cls ≠ .type y.2 := by
  intro p hp y hy
  simp only [List.mem_cons, List.not_mem_nil, or_false] at hp
  rcases hp with rfl | rfl | rfl
  · exact fun e => nomatch e
  · exact tyne (Ne.symm (h y hy).1)
  · exact tyne (Ne.symm (h y hy).2)
theorem add_back {w : World} {mean : ExcName → Option Value} {mg mb : Str → Option Value} {x d l : Addr} {t1 ta tb : Tok} {rs : List RG} {n : Nat} {a b : Int} (hab : a < b) (hsz : rs.length ≤ 1000000) (hlt : ∀ y ∈ rs, y.a < y.b ∧ y.b < a) :
    ConE w mean mg mb 10 263 [.ref x, .int a ta, .int b tb] [] (rowsL w.params rs) (rsL w.params x d l rs n t1)
      (fun r news' => r = .none ∧ ∃ y n', y.a = a ∧ y.b = b ∧ news' = rsL w.params x d l (rs ++ [y]) n' t1 ++ rgL w.params y)
      (fun _ => False) := by
  intro dp un gd ll base g s R B X T Kp N hrd hdp hun ret fail
  w_on
  have hxd : @Ne Nat x d := led_ne N (.head _) (.tail _ (.head _)) (cls_ne (by simp))
  have hxl : @Ne Nat x l := led_ne N (.head _) (.tail _ (.tail _ (.head _))) (cls_ne (by simp))
  have hdl : @Ne Nat d l := led_ne N (.tail _ (.head _)) (.tail _ (.tail _ (.head _))) (cls_ne (by simp))
  walk_at "mine enter"
  repeat' (first | (with_reducible (((with_reducible show wpAny _ _ (exec (Stmt.For _ _ _ _ _) _) _ _ _); (k_here; (rename Fr _ _ _ _ => lF'_q); (with_unfolding_all refine' For_turns lF'_q ?_; k_whole))))) | (with_reducible (((with_reducible show wpAny _ _ (call (Value.type _) _) _ _ _); (k_here; (with_reducible show wpAny _ _ (call (Value.type _) [Value.ref _]) (fun xv s₁ => wpAny _ _ (pyIter xv) (fun it s₂ => TurnsAt _ _ _ _ _ _ _ _ _ it s₂) _ s₁) _ _); refine halt ?_)))) | walk_at "mine oneD")
  refine halt ?_
  (with_reducible rename Fr _ _ _ _ => F1)
  (with_reducible rename News _ _ _ _ => N1)
  refine enum_J (keep := rsL w.params x d l rs n t1) (fun _ m nx => AJ x a b ta tb (rsL w.params x d l rs n t1) m nx) rfl F1 N1 (list_at N1 (.tail _ (.tail _ (.head _)))) ?hkeep ?hk ?h0 ?turn ?done
  case hk => exact fun i m nx hj p hp => hj.casesOn fun e _ _ _ => e ▸ hp
  case h0 => exact ⟨rfl, rfl, rfl, rfl⟩
  case hkeep => exact .inl ⟨_, .tail _ (.tail _ (.head _))⟩
  case turn =>
    rintro i v t T' m₁ news₁ h₁ tk₁ I I' it it' hv ⟨rfl, h1, h2, h3⟩ hc hc' hT F2 N2
    have F3 : Fr g L'_q _ _ := fr_eq (mp_cons (mp_cons (mp_cons rfl h3) h2) h1) F2
    clear F1 N1 F2 h1 h2 h3
    obtain ⟨y0, hy0, hv'⟩ : ∃ y0 ∈ rs, v = .ref y0.r := by
      have := List.mem_of_getElem? hv
      obtain ⟨y, hy, e⟩ := List.mem_map.mp this
      exact ⟨y, hy, e.symm⟩
    obtain ⟨hr0, hd0⟩ := rows_at hrd y0 hy0
    obtain ⟨hb1, hb2⟩ := hlt y0 hy0
    subst hv'
    repeat' walk_at "mine oneD"
    (with_reducible rename Fr _ _ _ _ => F3)
    (with_reducible rename News _ _ _ _ => N3)
    exact StepO.go (.inr rfl) F3 N3 (rs_cls (by simp)) ⟨rfl, rfl, rfl, rfl⟩
  case done =>
    rintro h' tk m' news' F2 N2 ⟨rfl, h1, h2, h3⟩
    have F3 : Fr g L'_q _ _ := fr_eq (mp_cons (mp_cons (mp_cons rfl h3) h2) h1) F2
    clear F1 N1 F2 h1 h2 h3
    repeat' (first | (with_reducible (((with_reducible show wpAny _ _ (call _ _) _ _ _); (k_here; (with_reducible show wpAny _ _ (call (Value.builtin _) [Value.ref _, _]) _ _ _); k_dflt (refine' append_K ?k1_q ?k2_q ?k3_q ?_ ?z_q; (case k1_q => k_asm); (case k2_q => k_asm); (case k3_q => k_upd); (case z_q => (simp only [List.length_map, List.size_toArray]; rw [sizeLine_eq]; omega)); intro h'_q F'_q N'_q; (try k_sweep); (try dsimp only)))))) | walk_at "mine oneD")
    (with_reducible rename Fr _ _ _ _ => F3)
    (with_reducible rename News _ _ _ _ => N3)
    obtain ⟨y, n', ya, yb, hL⟩ := fin_range (rs' := fun y => rs ++ [y]) N3 (by k_mem) (by k_mem) (by k_mem) (fun y hy => by simp [refsOf, hy])
    exact ret _ _ _ _ ⟨rfl, y, n', ya, yb, rfl⟩ (Kept.of_fr F3) hL
end Mine
end
section
open PySem PySem.W PyProof.Rows PySem.Calls
set_option maxRecDepth 100000
set_option linter.deprecated false
namespace Mine
namespace BA
open Builtin
theorem noBytes : typeLookup (.type "bytearray") "__bytes__" = pure none := by rw [typeLookup_type, builtinLookup_eq_fast]; kernel_rfl
theorem noIndex : typeLookup (.type "bytearray") "__index__" = pure none := by rw [typeLookup_type, builtinLookup_eq_fast]; kernel_rfl
section
variable {prog : Program} {w : World} {A : Around} {E : Value → Shared → Prop} {s : Shared} {a : Addr} {b : Array UInt8} {Q : Value → Shared → Prop}
theorem bytes_new (ha : IsBA s.heap a b) (hz : b.size ≤ 16777216) (hQ : ∀ t k, Q (.bytes b t) { s with toks := k }) :
    codeAny (model prog w) A (.call (.builtin "bytes.__new__") ⟨[.type "bytes", .ref a], []⟩) (wants Q E) s := by
  refine codeAny_of_tree ?_
  show wpAny _ A.in1 (do checkBuiltinCall "bytes.__new__" ⟨[.type "bytes", .ref a], []⟩; again (.builtin "bytes.__new__" ⟨[.type "bytes", .ref a], []⟩)) _ _ s
  refine wpAny_bind (wpAny_of_eq (F.bm_newCall _) (wpAny_pure ⟨plainId_quiet F.bm_plain _, codeAny_builtin F.bm_entry ?_⟩))
  rw [Around.under_plainId F.bm_plain _]
  have hT : s.TypeIs (.ref a) "bytearray" := ⟨_, ha, rfl⟩
  unfold Builtin.«bytes.__new__»
  refine wpAny_bind (wpAny_of_eq (a := true) rfl ?_)
  refine if_false rfl ?_
  refine wpAny_bind (wpAny_of_eq F.bm_sub ?_)
  refine if_false rfl ?_
  refine wpAny_bind (wpAny_of_eq (F.bm_bind _) ?_)
  refine wpAny_bind (wpAny_of_eq (a := ()) rfl ?_)
  refine wpAny_bind (wpAny_of_eq (a := ()) rfl ?_)
  refine if_false rfl ?_
  refine wpAny_bind (wpAny_specialOf hT noBytes ?_)
  refine wpAny_bind (wpAny_bind ?_)
  show wpAny _ _ (load a >>= _) _ _ _
  refine wpAny_bind (wpAny_load ha ?_)
  refine wpAny_pure (wpAny_pure ?_)
  refine if_false rfl ?_
  refine wpAny_bind (wpAny_specialOf hT noIndex ?_)
  refine if_true rfl ?_
  first
    | show wpAny _ _ (Bytes.buffer? "bytes.__new__" (.ref a) true >>= _) _ _ _
    | (refine wpAny_bind ?_; show wpAny _ _ (Bytes.buffer? "bytes.__new__" (.ref a) true >>= _) _ _ _)
  refine wpAny_bind (buffer_ ha ?_)
  refine wpAny_bind (wpAny_rule ?_)
  refine wpAny_bind (wpAny_mkBytes ?_ (by rw [sizeLine_eq]; exact hz))
  exact wpAny_pure (hQ _ _)
theorem bytes_of (ha : IsBA s.heap a b) (hz : b.size ≤ 16777216) (hQ : ∀ t k, Q (.bytes b t) { s with toks := k }) : wpAny (model prog w) A (call (.type "bytes") [.ref a]) Q E s := by
  refine callType_codes (Q₁ := fun obj s₁ => s₁.TypeIs obj "bytes" ∧ Q obj s₁) F.bm_called (F.bm_typeCall _) F.entry_object_init (bytes_new ha hz fun t k => ⟨typeIs_bytes _ _ _, hQ t k⟩) fun obj s₁ h₁ => ?_
  exact ⟨h₁.1, F.args_object_init_2 obj _, object_init_meets F.bm_called.init.lookup F.bm_called.made (by decide) prog w A.in1 _ s₁ ⟨h₁.1, rfl, h₁.2⟩⟩
end
end BA
end Mine
end
section
open PySem PySem.W PyProof.Rows PySem.Calls
set_option maxRecDepth 100000
set_option maxHeartbeats 8000000
namespace Mine
theorem len_bs {prog : Program} {w : World} {A : Around} {E : Value → Shared → Prop} {s : Shared} {a : Addr} {bs : List UInt8} {Q : Value → Shared → Prop} (ha : BA.IsBA s.heap a bs.toArray) (hz : bs.length ≤ 16777216)
    (h : Q (.int (bs.length : Int) (s.toks + 1)) { s with toks := s.toks + 1 + 1 }) : wpAny (model prog w) A (call (.builtin "len") [.ref a]) Q E s :=
  BA.len_N ha (by simpa using hz) (by simpa using h)
theorem picked_mid (bs : List UInt8) (k n : Nat) (h : k + n ≤ bs.length) : KBy.picked bs.toArray (some (k : Int)) (some ((k : Int) + (n : Int))) = ((bs.drop k).take n).toArray := by
  rw [KBc.picked_eq]
  have e : (k : Int) + (n : Int) = ((k + n : Nat) : Int) := by omega
  rw [e]
  simp only [Option.elim, clipAt_nat, List.size_toArray]
  congr 1
  rw [Nat.min_eq_left h, Nat.min_eq_left (by omega)]
  congr 1
  omega
theorem raised_nil {base : Heap} {l : List Env} {e : Addr} {cls : Value} {t : Addr} {vs : List Value} {news : List (Addr × Obj)} {h : Heap} (R : RaisedK base l e cls t vs news h) : RaisedK base l e cls t vs [] h := by
  obtain ⟨⟨B, h1, _, h3⟩, h4⟩ := R
  exact ⟨⟨B, h1, (fun q hq => nomatch hq), h3⟩, h4⟩
theorem pull_bytes {w : World} {mean : ExcName → Option Value} {mg mb : Str → Option Value} {x d o : Addr} {t1 t2 t3 t4 : Tok} {bs : List UInt8} {k n : Nat} (hz : bs.length ≤ 100000) (hk : k ≤ 100000) (hn : n ≤ 100000) :
    ConE w mean mg mb 5 113 [.ref x, .int n t4] [] [] (bufL w.params x d o bs k t1 t2 t3)
      (fun r news' => k + n ≤ bs.length ∧ (∃ t, r = .bytes ((bs.drop k).take n).toArray t) ∧ ∃ t3', news' = bufL w.params x d o bs ((k : Int) + (n : Int)) t1 t2 t3')
      (fun cls => ¬ k + n ≤ bs.length ∧ cls = .ref 31) := by
  intro dp un gd l base g s R B X T Kp N _ hdp hun ret fail
  w_on
  have hxd : @Ne Nat x d := led_ne N (.head _) (.tail _ (.head _)) (cls_ne (by simp))
  have hxo : @Ne Nat x o := led_ne N (.head _) (.tail _ (.tail _ (.head _))) (cls_ne (by simp))
  have hdo : @Ne Nat d o := led_ne N (.tail _ (.head _)) (.tail _ (.tail _ (.head _))) (cls_ne (by simp))
  by_cases hc : k + n ≤ bs.length
  · walk_at "mine enter"
    repeat' (first | ((with_reducible show wpAny _ _ (call _ _) _ _ _); (k_here; (with_reducible show wpAny _ _ (call (Value.builtin "len") [Value.ref _]) _ _ _); (with_reducible rename News _ _ _ _ => N'_q); (first | (refine' len_app ?ba_q ?hz_q ?_; (case ba_q => exact led_ba N'_q (by k_mem)); (case hz_q => first | with_reducible assumption | omega); k_whole) | (refine' len_bs ?ba_q ?hz_q ?_; (case ba_q => exact led_ba N'_q (by k_mem)); (case hz_q => first | with_reducible assumption | omega); k_whole)))) | ((with_reducible show wpAny _ _ (call _ _) _ _ _); (k_here; (with_reducible show wpAny _ _ (call (Value.type "bytes") [Value.ref _]) _ _ _); (with_reducible rename News _ _ _ _ => N'_q); (refine' BA.bytes_of ?ba_q ?hz_q ?_; (case ba_q => exact led_ba N'_q (by k_mem)); (case hz_q => (((try simp only [Array.size_append]); refine Nat.le_trans (by first | exact Nat.add_le_add (Nat.add_le_add (KBc.size_picked_le _ _ _) (Nat.le_refl _)) (KBc.size_picked_le _ _ _) | exact Nat.add_le_add (KBc.size_picked_le _ _ _) (Nat.le_refl _) | exact KBc.size_picked_le _ _ _) ?_; simp only [List.size_toArray, List.length_append]; omega))); intro _ _; (try dsimp only)))) | ((with_reducible show wpAny _ _ (subscriptTail _ _ _ _) _ _ _); (k_here; (with_reducible show wpAny _ _ (subscriptTail _ (Expr.Slice _ _ none _) (Value.ref _) (Value.ref _)) _ _ _); (with_reducible rename Fr _ _ _ _ => F'_q); (with_reducible rename News _ _ _ _ => N'_q); (refine' BA.slice_N (s := ⟨_, _, _, _, _⟩) F'_q N'_q ?ba_q (by constructor) (by constructor) ?hz_q ?_; (case ba_q => exact led_ba N'_q (by k_mem)); (case hz_q => (((try simp only [Array.size_append]); refine Nat.le_trans (by first | exact Nat.add_le_add (Nat.add_le_add (KBc.size_picked_le _ _ _) (Nat.le_refl _)) (KBc.size_picked_le _ _ _) | exact Nat.add_le_add (KBc.size_picked_le _ _ _) (Nat.le_refl _) | exact KBc.size_picked_le _ _ _) ?_; simp only [List.size_toArray, List.length_append]; omega))); intro h'_q x'_q F'_q N'_q l1_q; (try k_lt l1_q); (try k_sweep); (try dsimp only)))) | walk_at "mine one")
    (with_reducible rename Fr _ _ _ _ => F1)
    (with_reducible rename News _ _ _ _ => N1)
    rw [picked_mid _ _ _ hc]
    refine' ret _ _ _ _ ⟨hc, ⟨_, rfl⟩, _, rfl⟩ (Kept.of_fr F1) (led3 N1 ?a ?b ?c)
    case a => k_mem
    case b => k_mem
    case c => k_mem
  · walk_at "mine enter"
    repeat' (first | ((with_reducible show wpAny _ _ (call _ _) _ _ _); (k_here; (with_reducible show wpAny _ _ (call (Value.builtin "len") [Value.ref _]) _ _ _); (with_reducible rename News _ _ _ _ => N'_q); (first | (refine' len_app ?ba_q ?hz_q ?_; (case ba_q => exact led_ba N'_q (by k_mem)); (case hz_q => first | with_reducible assumption | omega); k_whole) | (refine' len_bs ?ba_q ?hz_q ?_; (case ba_q => exact led_ba N'_q (by k_mem)); (case hz_q => first | with_reducible assumption | omega); k_whole)))) | walk_at "mine one")
    (with_reducible rename RaisedK _ _ _ _ _ _ _ _ => R1)
    (with_reducible rename Heap.UpToSlots _ _ => U1)
    exact fail _ _ _ _ _ _ ⟨hc, rfl⟩ (raised_nil R1) U1
end Mine
end
section
open PySem PySem.W PyProof.Rows PySem.Calls
set_option maxRecDepth 100000
set_option maxHeartbeats 8000000
namespace Mine
/-- the number that stands in these octets, the greatest first -/
noncomputable def uval (l : List UInt8) : Int := KFB.value (KBw.bInts l.toArray)
theorem uval_nat (l : List UInt8) : uval l = ((l.foldl (fun (acc : Nat) (b : UInt8) => acc * 256 + b.toNat) 0 : Nat) : Int) := by
  unfold uval KFB.value KBw.bInts
  rw [KFB.fold_cast]
  rfl
theorem uval_nonneg (l : List UInt8) : 0 ≤ uval l := by rw [uval_nat]; exact Int.natCast_nonneg _
/-- QUIC's variable length number at place k: its value, the place behind it -/
noncomputable def pv (bs : List UInt8) (k : Nat) : Option (Int × Nat) :=
  match bs[k]? with
  | none => none
  | some c => if k + 2 ^ (c.toNat / 64) ≤ bs.length then some (uval ((bs.drop k).take (2 ^ (c.toNat / 64))) % 2 ^ (8 * 2 ^ (c.toNat / 64) - 2), k + 2 ^ (c.toNat / 64)) else none
theorem bitAnd_mask {x : Int} (m : Nat) (hx : 0 ≤ x) : Builtin.bitAnd x ((2 : Int) ^ m - 1) = x % 2 ^ m := by
  obtain ⟨n, rfl⟩ := Int.eq_ofNat_of_zero_le hx
  have e1 : (2 : Int) ^ m - 1 = ((2 ^ m - 1 : Nat) : Int) := by
    have : 1 ≤ 2 ^ m := Nat.one_le_two_pow
    push_cast [Int.ofNat_sub this]
    rfl
  rw [e1]
  unfold Builtin.bitAnd
  rw [decide_eq_true (show 0 ≤ ((n : Nat) : Int) by omega), decide_eq_true (show 0 ≤ ((2 ^ m - 1 : Nat) : Int) from Int.natCast_nonneg _)]
  show (((((n : Int).toNat &&& ((2 ^ m - 1 : Nat) : Int).toNat : Nat))) : Int) = _
  rw [Int.toNat_natCast, Int.toNat_natCast, Nat.and_two_pow_sub_one_eq_mod]
  push_cast
  rfl
section
variable {prog : Program} {w : World} {A : Around} {E : Value → Shared → Prop} {s : Shared} {Q : Value → Shared → Prop} {t u : Tok}
theorem lsh {n : Int} (m : Nat) (r : Int) (hr : (2 : Int) ^ m = r) (hm : m ≤ 1000) (hn : n = (m : Int)) (h : Q (.int r s.toks) { s with toks := s.toks + 1 }) : wpAny (model prog w) A (binaryOp .LShift (.int 1 t) (.int n u)) Q E s := by
  subst hn hr
  refine lshift_int_small (by omega) (by omega) (by decide) ?_
  rw [Int.toNat_natCast, Int.one_mul]
  exact h
theorem shr6 {c : Nat} {j : Int} (hj : ((c / 64 : Nat) : Int) = j) (h : Q (.int j s.toks) { s with toks := s.toks + 1 }) : wpAny (model prog w) A (binaryOp .RShift (.int (c : Int) t) (.int 6 u)) Q E s := by
  subst hj
  refine rshift_int (by decide) ?_
  rw [show (c : Int).fdiv (2 ^ (6 : Int).toNat) = ((c / 64 : Nat) : Int) from by
    show (c : Int).fdiv 64 = _
    rw [Int.fdiv_eq_ediv_of_nonneg _ (by omega)]
    omega]
  exact h
theorem andM {x y : Int} (m : Nat) (r : Int) (hr : (2 : Int) ^ m = r) (hy : y = r - 1) (hx : 0 ≤ x) (h : Q (.int (x % r) s.toks) { s with toks := s.toks + 1 }) : wpAny (model prog w) A (binaryOp .BitAnd (.int x t) (.int y u)) Q E s := by
  subst hy hr
  refine and_int ?_
  rw [bitAnd_mask m hx]
  exact h
end
theorem led_item2 {bs : List UInt8} {k : Nat} {c : UInt8} (hc : bs[k]? = some c) : bs.toArray[((k : Nat) : Int).toNat]? = some c := by
  rw [Int.toNat_natCast]; simpa using hc

theorem pull_uint_var {w : World} {mean : ExcName → Option Value} {mg mb : Str → Option Value} {x d o : Addr} {t1 t2 t3 : Tok} {bs : List UInt8} {k : Nat} (hz : bs.length ≤ 100000) (hk : k ≤ 100000) :
    ConE w mean mg mb 10 148 [.ref x] [] [] (bufL w.params x d o bs k t1 t2 t3)
      (fun r news' => ∃ v k', pv bs k = some (v, k') ∧ (∃ t, r = .int v t) ∧ ∃ t3', news' = bufL w.params x d o bs (k' : Int) t1 t2 t3')
      (fun cls => pv bs k = none ∧ cls = .ref 31) := by
  intro dp un gd l base g s R B X T Kp N _ hdp hun ret fail
  w_on
  have hxd : @Ne Nat x d := led_ne N (.head _) (.tail _ (.head _)) (cls_ne (by simp))
  have hxo : @Ne Nat x o := led_ne N (.head _) (.tail _ (.tail _ (.head _))) (cls_ne (by simp))
  have hdo : @Ne Nat d o := led_ne N (.tail _ (.head _)) (.tail _ (.tail _ (.head _))) (cls_ne (by simp))
  cases hcc : bs[k]? with
  | none =>
    have hlen : bs.length ≤ k := by simpa using hcc
    have hp : pv bs k = none := by unfold pv; rw [hcc]
    walk_at "mine enter"
    repeat' (first | ((with_reducible show wpAny _ _ (call _ _) _ _ _); (k_here; (with_reducible show wpAny _ _ (call (Value.builtin "len") [Value.ref _]) _ _ _); (with_reducible rename News _ _ _ _ => N'_q); (first | (refine' len_app ?ba_q ?hz_q ?_; (case ba_q => exact led_ba N'_q (by k_mem)); (case hz_q => first | with_reducible assumption | omega); k_whole) | (refine' len_bs ?ba_q ?hz_q ?_; (case ba_q => exact led_ba N'_q (by k_mem)); (case hz_q => first | with_reducible assumption | omega); k_whole)))) | walk_at "mine one")
    (with_reducible rename RaisedK _ _ _ _ _ _ _ _ => R1)
    (with_reducible rename Heap.UpToSlots _ _ => U1)
    exact fail _ _ _ _ _ _ ⟨hp, rfl⟩ (raised_nil R1) U1
  | some c =>
    have hlen : k < bs.length := by
      rcases Nat.lt_or_ge k bs.length with q | q
      · exact q
      · rw [List.getElem?_eq_none q] at hcc; cases hcc
    have hp : pv bs k = if k + 2 ^ (c.toNat / 64) ≤ bs.length then some (uval ((bs.drop k).take (2 ^ (c.toNat / 64))) % 2 ^ (8 * 2 ^ (c.toNat / 64) - 2), k + 2 ^ (c.toNat / 64)) else none := by unfold pv; rw [hcc]
    have hlt : c.toNat < 256 := c.toNat_lt
    have hj3 : c.toNat / 64 ≤ 3 := Nat.le_of_lt_succ (Nat.div_lt_of_lt_mul hlt)
    generalize hjc : c.toNat / 64 = j at hp hj3
    have hj : ((c.toNat / 64 : Nat) : Int) = (j : Int) := congrArg _ hjc
    have hn8 : 1 ≤ 2 ^ j ∧ 2 ^ j ≤ 8 := ⟨Nat.one_le_two_pow, Nat.pow_le_pow_right (by decide) hj3⟩
    have hjn : (2 : Int) ^ j = ((2 ^ j : Nat) : Int) := (Int.natCast_pow 2 j).symm
    generalize 2 ^ j = n at hp hn8 hjn
    obtain ⟨hn1, hn8⟩ := hn8
    obtain ⟨m, hm⟩ : ∃ m, m = 8 * n - 2 := ⟨_, rfl⟩
    rw [← hm] at hp
    have hm8 : 8 * (n : Int) - 2 = (m : Int) := by rw [hm]; omega
    have hm6 : m ≤ 100 := by omega
    obtain ⟨RR, hmR⟩ : ∃ RR, (2 : Int) ^ m = RR := ⟨_, rfl⟩
    rw [hmR] at hp
    clear hm hjc
    by_cases hc : k + n ≤ bs.length
    · have hp2 := hp.trans (if_pos hc)
      walk_at "mine enter"
      repeat' (first | (with_reducible (((with_reducible show wpAny _ _ (binaryOp Operator.BitAnd _ _) _ _ _); (k_here; k_dflt (refine andM m _ hmR rfl (uval_nonneg _) ?_))))) | (with_reducible (((with_reducible show wpAny _ _ (binaryOp Operator.LShift _ _) _ _ _); (k_here; first | refine lsh j _ hjn (Nat.le_trans hj3 (by decide)) rfl ?_ | refine lsh m _ hmR (by omega) hm8 ?_)))) | (with_reducible (((with_reducible show wpAny _ _ (binaryOp Operator.RShift _ _) _ _ _); (k_here; refine shr6 (by assumption) ?_)))) | ((with_reducible show wpAny _ _ (call _ _) _ _ _); (k_here; (with_reducible show wpAny _ _ (call (Value.builtin "len") [Value.ref _]) _ _ _); (with_reducible rename News _ _ _ _ => N'_q); (first | (refine' len_app ?ba_q ?hz_q ?_; (case ba_q => exact led_ba N'_q (by k_mem)); (case hz_q => first | with_reducible assumption | omega); k_whole) | (refine' len_bs ?ba_q ?hz_q ?_; (case ba_q => exact led_ba N'_q (by k_mem)); (case hz_q => first | with_reducible assumption | omega); k_whole)))) | (with_reducible (((with_reducible show wpAny _ _ (call _ _) _ _ _); (k_here; (with_reducible show wpAny _ _ (call (Value.ref 113) [Value.ref _, Value.int _ _]) _ _ _); k_dflt (refine' ConE.callE (pull_bytes ?hz_q ?hk_q ?hn_q) ?kB_q ?kF_q ?kX_q ?kT_q ?kN_q ?kf_q ?kk_q ?kw_q ?ks_q ?kr_q ?kd_q ?ku_q ?_ ?_; (((case hz_q => first | with_reducible assumption | omega); (case hk_q => first | with_reducible assumption | omega); (case hn_q => first | with_reducible assumption | omega); walk_at "mine conE"; (case kr_q => exact fun p hp => nomatch hp); (first | (rotate_left; (focus (intro e'_q t'_q cls'_q vs'_q g₂'_q h'_q tk'_q hp'_q R'_q F'_q U'_q; exact absurd (by omega) hp'_q.1)); (intro v'_q news'_q h'_q tk'_q hp'_q F'_q N'_q; obtain ⟨hb'_q, ⟨t'_q, hv'_q⟩, t3'_q, hn'_q⟩ := hp'_q; subst hv'_q; subst hn'_q; dsimp only [bufL, List.cons_append, List.nil_append] at N'_q; (try k_sweep); (try dsimp only))) | ((focus (intro v'_q news'_q h'_q tk'_q hp'_q F'_q N'_q; exact absurd hp'_q.1 (by omega))); (intro e'_q t'_q cls'_q vs'_q g₂'_q h'_q tk'_q hp'_q R'_q F'_q U'_q; obtain ⟨hb'_q, hc'_q⟩ := hp'_q; subst hc'_q; (try dsimp only))))))))))) | (with_reducible (((with_reducible show wpAny _ _ (call _ _) _ _ _); (k_here; (with_reducible show wpAny _ _ (call (Value.ref _) [Value.bytes _ _, Value.str _ _]) _ _ _); k_dflt (refine KFB.call_big (by k_asm) (by k_mem) rfl (by (rw [KBw.ints_length]; simp only [List.size_toArray, List.length_take]; omega)) ?_; intro t'_q k'_q; (try dsimp only)))))) | ((with_reducible show wpAny _ _ (subscriptTail _ _ _ _) _ _ _); (k_here; (with_reducible show wpAny _ _ (subscriptTail _ _ (Value.ref _) (Value.int _ _)) _ _ _); (with_reducible rename News _ _ _ _ => N'_q); (refine' BA.item_N (led_ba N'_q ?ba_q) ?k0_q ?k1_q ?kx_q ?_; (case ba_q => k_mem); (case k0_q => first | with_reducible assumption | omega); (case k1_q => first | with_reducible assumption | omega); (case kx_q => exact led_item2 (by assumption)); (try dsimp only)))) | walk_at "mine one")
      (with_reducible rename Fr _ _ _ _ => F1)
      (with_reducible rename News _ _ _ _ => N1)
      rw [show ((k : Int) + (n : Int)) = ((k + n : Nat) : Int) from rfl] at N1
      refine' ret _ _ _ _ ⟨_, _, hp2, ⟨_, rfl⟩, _, rfl⟩ (Kept.of_fr F1) (led3 N1 ?a ?b ?c)
      case a => k_mem
      case b => k_mem
      case c => k_mem
    · have hp2 : pv bs k = none := hp.trans (if_neg hc)
      walk_at "mine enter"
      repeat' (first | (with_reducible (((with_reducible show wpAny _ _ (binaryOp Operator.LShift _ _) _ _ _); (k_here; first | refine lsh j _ hjn (Nat.le_trans hj3 (by decide)) rfl ?_ | refine lsh m _ hmR (by omega) hm8 ?_)))) | (with_reducible (((with_reducible show wpAny _ _ (binaryOp Operator.RShift _ _) _ _ _); (k_here; refine shr6 (by assumption) ?_)))) | ((with_reducible show wpAny _ _ (call _ _) _ _ _); (k_here; (with_reducible show wpAny _ _ (call (Value.builtin "len") [Value.ref _]) _ _ _); (with_reducible rename News _ _ _ _ => N'_q); (first | (refine' len_app ?ba_q ?hz_q ?_; (case ba_q => exact led_ba N'_q (by k_mem)); (case hz_q => first | with_reducible assumption | omega); k_whole) | (refine' len_bs ?ba_q ?hz_q ?_; (case ba_q => exact led_ba N'_q (by k_mem)); (case hz_q => first | with_reducible assumption | omega); k_whole)))) | (with_reducible (((with_reducible show wpAny _ _ (call _ _) _ _ _); (k_here; (with_reducible show wpAny _ _ (call (Value.ref 113) [Value.ref _, Value.int _ _]) _ _ _); k_dflt (refine' ConE.callE (pull_bytes ?hz_q ?hk_q ?hn_q) ?kB_q ?kF_q ?kX_q ?kT_q ?kN_q ?kf_q ?kk_q ?kw_q ?ks_q ?kr_q ?kd_q ?ku_q ?_ ?_; (((case hz_q => first | with_reducible assumption | omega); (case hk_q => first | with_reducible assumption | omega); (case hn_q => first | with_reducible assumption | omega); walk_at "mine conE"; (case kr_q => exact fun p hp => nomatch hp); (first | (rotate_left; (focus (intro e'_q t'_q cls'_q vs'_q g₂'_q h'_q tk'_q hp'_q R'_q F'_q U'_q; exact absurd (by omega) hp'_q.1)); (intro v'_q news'_q h'_q tk'_q hp'_q F'_q N'_q; obtain ⟨hb'_q, ⟨t'_q, hv'_q⟩, t3'_q, hn'_q⟩ := hp'_q; subst hv'_q; subst hn'_q; dsimp only [bufL, List.cons_append, List.nil_append] at N'_q; (try k_sweep); (try dsimp only))) | ((focus (intro v'_q news'_q h'_q tk'_q hp'_q F'_q N'_q; exact absurd hp'_q.1 (by omega))); (intro e'_q t'_q cls'_q vs'_q g₂'_q h'_q tk'_q hp'_q R'_q F'_q U'_q; obtain ⟨hb'_q, hc'_q⟩ := hp'_q; subst hc'_q; (try dsimp only))))))))))) | ((with_reducible show wpAny _ _ (subscriptTail _ _ _ _) _ _ _); (k_here; (with_reducible show wpAny _ _ (subscriptTail _ _ (Value.ref _) (Value.int _ _)) _ _ _); (with_reducible rename News _ _ _ _ => N'_q); (refine' BA.item_N (led_ba N'_q ?ba_q) ?k0_q ?k1_q ?kx_q ?_; (case ba_q => k_mem); (case k0_q => first | with_reducible assumption | omega); (case k1_q => first | with_reducible assumption | omega); (case kx_q => exact led_item2 (by assumption)); (try dsimp only)))) | walk_at "mine one")
      (with_reducible rename RaisedK _ _ _ _ _ _ _ _ => R1)
      (with_reducible rename Heap.UpToSlots _ _ => U1)
      exact fail _ _ _ _ _ _ ⟨hp2, rfl⟩ (raised_nil R1) U1
end Mine
end
section
open PySem PySem.W PyProof.Rows PySem.Calls
set_option maxRecDepth 100000
set_option maxHeartbeats 8000000
namespace Mine
theorem pv_lt {bs : List UInt8} {k k' : Nat} {v : Int} (h : pv bs k = some (v, k')) : v < 4611686018427387904 := by
  unfold pv at h
  cases hc : bs[k]? with
  | none => rw [hc] at h; cases h
  | some c =>
    rw [hc] at h
    dsimp only at h
    have hlt : c.toNat < 256 := c.toNat_lt
    split at h
    · obtain ⟨rfl, rfl⟩ := Prod.mk.inj (Option.some.inj h)
      have hj : c.toNat / 64 = 0 ∨ c.toNat / 64 = 1 ∨ c.toNat / 64 = 2 ∨ c.toNat / 64 = 3 := by omega
      rcases hj with hj | hj | hj | hj <;> rw [hj]
      · exact Int.lt_of_lt_of_le (Int.emod_lt_of_pos _ (by decide)) (by decide)
      · exact Int.lt_of_lt_of_le (Int.emod_lt_of_pos _ (by decide)) (by decide)
      · exact Int.lt_of_lt_of_le (Int.emod_lt_of_pos _ (by decide)) (by decide)
      · exact Int.lt_of_lt_of_le (Int.emod_lt_of_pos _ (by decide)) (by decide)
    · cases h
theorem pv_some {bs : List UInt8} {k k' : Nat} {v : Int} (h : pv bs k = some (v, k')) : 0 ≤ v ∧ k < k' ∧ k' ≤ bs.length := by
  unfold pv at h
  cases hc : bs[k]? with
  | none => rw [hc] at h; cases h
  | some c =>
    rw [hc] at h
    dsimp only at h
    have hp : 0 < 2 ^ (c.toNat / 64) := Nat.pow_pos (by decide)
    split at h
    · obtain ⟨rfl, rfl⟩ := Prod.mk.inj (Option.some.inj h)
      exact ⟨Int.emod_nonneg _ (Int.ne_of_gt (Int.pow_pos (by decide))), by omega, by assumption⟩
    · cases h
/-- the loop of pull_ack_frame, on numbers: n turns from place k, the lowest e, the rows so far -/
noncomputable def prow (bs : List UInt8) : Nat → Nat → Int → List (Int × Int) → Option (Nat × Int × List (Int × Int))
  | 0, k, e, rows => some (k, e, rows)
  | n + 1, k, e, rows => match pv bs k with
    | none => none
    | some (g, k1) => match pv bs k1 with
      | none => none
      | some (c, k2) => prow bs n k2 (e - (g + 2) - c) ((e - (g + 2) - c, e - (g + 2) + 1) :: rows)
/-- pull_ack_frame, on numbers: the place behind, the lowest, the rows, the delay -/
noncomputable def pack (bs : List UInt8) (k : Nat) : Option (Nat × Int × List (Int × Int) × Int) :=
  match pv bs k with
  | none => none
  | some (e, k1) => match pv bs k1 with
    | none => none
    | some (dl, k2) => match pv bs k2 with
      | none => none
      | some (n, k3) => match pv bs k3 with
        | none => none
        | some (c, k4) => match prow bs n.toNat k4 (e - c) [(e - c, e + 1)] with
          | none => none
          | some (k5, low, rows) => some (k5, low, rows, dl)
theorem pack_eq {bs : List UInt8} {k k1 k2 k3 k4 : Nat} {e dl n c : Int} (h1 : pv bs k = some (e, k1)) (h2 : pv bs k1 = some (dl, k2)) (h3 : pv bs k2 = some (n, k3)) (h4 : pv bs k3 = some (c, k4)) :
    pack bs k = (prow bs n.toNat k4 (e - c) [(e - c, e + 1)]).map fun q => (q.1, q.2.1, q.2.2, dl) := by
  unfold pack
  simp only [h1, h2, h3, h4]
  cases prow bs n.toNat k4 (e - c) [(e - c, e + 1)] <;> rfl
theorem pack_n1 {bs : List UInt8} {k : Nat} (h1 : pv bs k = none) : pack bs k = none := by unfold pack; rw [h1]
theorem pack_n2 {bs : List UInt8} {k k1 : Nat} {e : Int} (h2 : pv bs k1 = none) (h1 : pv bs k = some (e, k1)) : pack bs k = none := by unfold pack; rw [h1]; dsimp only; rw [h2]
theorem pack_n3 {bs : List UInt8} {k k1 k2 : Nat} {e dl : Int} (h3 : pv bs k2 = none) (h2 : pv bs k1 = some (dl, k2)) (h1 : pv bs k = some (e, k1)) : pack bs k = none := by unfold pack; rw [h1]; dsimp only; rw [h2]; dsimp only; rw [h3]
theorem pack_n4 {bs : List UInt8} {k k1 k2 k3 : Nat} {e dl n : Int} (h4 : pv bs k3 = none) (h3 : pv bs k2 = some (n, k3)) (h2 : pv bs k1 = some (dl, k2)) (h1 : pv bs k = some (e, k1)) : pack bs k = none := by
  unfold pack; rw [h1]; dsimp only; rw [h2]; dsimp only; rw [h3]; dsimp only; rw [h4]
theorem prow_n1 {bs : List UInt8} {n k : Nat} {e : Int} {rows : List (Int × Int)} (h1 : pv bs k = none) : prow bs (n + 1) k e rows = none := by unfold prow; rw [h1]
theorem prow_n2 {bs : List UInt8} {n k k1 : Nat} {e g : Int} {rows : List (Int × Int)} (h2 : pv bs k1 = none) (h1 : pv bs k = some (g, k1)) : prow bs (n + 1) k e rows = none := by unfold prow; rw [h1]; dsimp only; rw [h2]
theorem prow_s {bs : List UInt8} {n k k1 k2 : Nat} {e g c : Int} {rows : List (Int × Int)} (h2 : pv bs k1 = some (c, k2)) (h1 : pv bs k = some (g, k1)) :
    prow bs (n + 1) k e rows = prow bs n k2 (e - (g + 2) - c) ((e - (g + 2) - c, e - (g + 2) + 1) :: rows) := by
  conv => lhs; unfold prow
  rw [h1]; dsimp only; rw [h2]
/-- what of a ledger stays aside when wr is lent out: apart by address or by object; the tail may be an unknown list -/
inductive Split2 (wr : List (Addr × Obj)) : List (Addr × Obj) → List (Addr × Obj) → Prop
  | nil : Split2 wr [] []
  | keep {p r r'} : (∀ q ∈ wr, @Ne Nat q.1 p.1 ∨ q.2 ≠ p.2) → Split2 wr r r' → Split2 wr (p :: r) (p :: r')
  | drop {p r r'} : Split2 wr r r' → Split2 wr (p :: r) r'
  | tail {t} : (∀ p ∈ t, ∀ q ∈ wr, q.2 ≠ p.2) → Split2 wr t t
theorem Split2.drop2 {wr : List (Addr × Obj)} {p : Addr × Obj} {r r' : List (Addr × Obj)} (_ : p ∈ wr) (x : Split2 wr r r') : Split2 wr (p :: r) r' := .drop x
theorem Split2.sub {wr : List (Addr × Obj)} : ∀ {l r : List (Addr × Obj)}, Split2 wr l r → (∀ p ∈ r, p ∈ l) ∧ ∀ p ∈ r, ∀ q ∈ wr, @Ne Nat q.1 p.1 ∨ q.2 ≠ p.2
  | _, _, .nil => ⟨fun _ h => h, fun _ h => nomatch h⟩
  | _, _, .keep h x => ⟨fun p hp => by
      rcases List.mem_cons.mp hp with rfl | hp
      · exact .head _
      · exact .tail _ (x.sub.1 p hp), fun p hp q hq => by
      rcases List.mem_cons.mp hp with rfl | hp
      · exact h q hq
      · exact x.sub.2 p hp q hq⟩
  | _, _, .drop x => ⟨fun p hp => .tail _ (x.sub.1 p hp), x.sub.2⟩
  | _, _, .tail h => ⟨fun _ h => h, fun p hp q hq => .inr (h p hp q hq)⟩
theorem ConE.call2 {w : World} {dp un : Nat} {gd : Option (List Code)} {outer : List Env} {env : Env} {A₀ : Around} {base h₀ : Heap} {L : Addr} {s : Shared} {m : Str → Option Value} {mean : ExcName → Option Value} {mg mb : Str → Option Value} {news wr rd rest : List (Addr × Obj)}
    {D : Nat} {f : Addr} {pos : List Value} {kw : List (Str × Value)} {post : Value → List (Addr × Obj) → Prop} {err : Value → Prop} {Q E : Value → Shared → Prop} (C : ConE w mean mg mb D f pos kw rd wr post err)
    (B : Below A₀ base outer h₀) (F : Fr h₀ L s.heap m) (X : (hd.heap_39 w.params).In h₀) (T : Top hd.view_39 LS mean mg mb h₀) (N : News h₀ L s.heap news) (hf : env.frame = some L) (hke : env.scope.kind = .function)
    (hwr : ∀ p ∈ wr, p ∈ news) (hs : Split2 wr news rest) (hrd : ∀ p ∈ rd, p ∈ rest ∨ h₀.get? p.1 = some p.2) (hdp : dp + D < recursionLimit) (hun : un + 10 * D < cLine)
    (k : ∀ v news' h' tk, post v news' → Fr h₀ L h' m → News h₀ L h' (news' ++ rest) → Q v { s with heap := h', toks := tk })
    (ke : ∀ e t cls vs g₂ h' tk, err cls → RaisedK base (env :: outer) e cls t vs [] h' → Fr h₀ L g₂ m → g₂.UpToSlots h' → E (.ref e) { s with heap := h', toks := tk }) :
    wpAny (model PG w) (AX dp un gd (env :: outer)) (call (.ref f) pos kw) Q E s := by
  obtain ⟨g, ⟨B', X', T', K', N', back⟩, Fg, hR, st⟩ := use2 (dp := dp) (un := un) (gd := gd) B F X T N hf hke wr rest hwr hs.sub.1 fun p hp q hq e => by
    rcases hs.sub.2 p hp q hq with h | h
    · exact h e.symm
    · have h1 := (N _ (hs.sub.1 p hp)).1
      have h2 := (N _ (hwr q hq)).1
      rw [e, h2] at h1
      exact h (Option.some.inj h1)
  refine wpAny_call (C dp un gd _ base g s _ B' X' T' K' N' (fun p hp => (hrd p hp).elim (hR p) (st _ _)) hdp hun (fun v news' h' tk hp K2 L2 => ?_) fun e t cls vs h' tk hc hr hu => ?_)
  · obtain ⟨F3, N3⟩ := back h' news' K2 L2
    exact k v news' h' tk hp F3 N3
  · exact ke e t cls vs g h' tk hc hr Fg hu
/-- a callee that changes nothing and gives one value back, but for its token -/
theorem ConE.callT {w : World} {dp un : Nat} {gd : Option (List Code)} {outer : List Env} {env : Env} {A₀ : Around} {base h₀ : Heap} {L : Addr} {s : Shared} {m : Str → Option Value} {mean : ExcName → Option Value} {mg mb : Str → Option Value} {news rd : List (Addr × Obj)}
    {D : Nat} {f : Addr} {pos : List Value} {kw : List (Str × Value)} {r : Tok → Value} {Q E : Value → Shared → Prop} (C : ConE w mean mg mb D f pos kw rd [] (fun v news' => (∃ t, v = r t) ∧ news' = []) (fun _ => False))
    (B : Below A₀ base outer h₀) (F : Fr h₀ L s.heap m) (X : (hd.heap_39 w.params).In h₀) (T : Top hd.view_39 LS mean mg mb h₀) (N : News h₀ L s.heap news) (hf : env.frame = some L) (hke : env.scope.kind = .function)
    (hrd : ∀ p ∈ rd, p ∈ news ∨ h₀.get? p.1 = some p.2) (hdp : dp + D < recursionLimit) (hun : un + 10 * D < cLine)
    (k : ∀ t h' tk, Fr h₀ L h' m → News h₀ L h' news → Q (r t) { s with heap := h', toks := tk }) :
    wpAny (model PG w) (AX dp un gd (env :: outer)) (call (.ref f) pos kw) Q E s :=
  ConE.call2 C B F X T N hf hke (fun _ h => nomatch h) (.tail fun _ _ _ h => nomatch h) hrd hdp hun (fun v news' h' tk hp F' N' => by
    obtain ⟨⟨t, rfl⟩, rfl⟩ := hp
    exact k t h' tk F' N') fun _ _ _ _ _ _ _ hp => hp.elim
noncomputable def bodyAt (K : Frag) (f : Addr) : List Stmt := match K.lookup f with
  | some ⟨_, _, .func fd, _⟩ => (match fd.body with
    | .stmts b => b
    | _ => [])
  | _ => []
noncomputable def envAt (K : Frag) (f L : Addr) : Env := match K.lookup f with
  | some ⟨_, _, .func fd, _⟩ => envOf fd.qualname fd.scope L f fd.code
  | _ => default
section
variable {K : Frag} {name qual : Str} {params : Arguments} {body : List Stmt} {scope : Scope} {dV kV doc pm cdv ct oc : Value} {an od : Option Addr} {osl : Array (Option Value)} {f : Addr}
theorem at_of (ho : K.lookup f = some ⟨oc, od, .func (fnOf name qual params body scope dV kV doc pm an cdv ct), osl⟩) : bodyAt K f = body ∧ ∀ L, envAt K f L = envOf qual scope L f cdv := by
  constructor
  · unfold bodyAt; rw [ho]
  · intro L; unfold envAt; rw [ho]
end
theorem fr_pick {g h : Heap} {L : Addr} {m : Str → Option Value} {x : Str} {v : Value} (F : Fr g L h m) (e : m x = some v) : Fr g L h (fun y => if y = x then some v else m y) := fr_eq (mp_cons rfl e) F
theorem fr_abs {g h : Heap} {L : Addr} {m : Str → Option Value} (F : Fr g L h m) : ∃ m', m' = m ∧ Fr g L h m' := ⟨m, rfl, F⟩
noncomputable abbrev pairsOf (rs : List RG) : List (Int × Int) := rs.map fun y => (y.a, y.b)
theorem buf_cls {P : Params} {x d o : Addr} {bs : List UInt8} {k : Int} {t1 t2 t3 : Tok} {ws : List (Addr × String)} (h : ∀ y ∈ ws, y.2 ≠ "dict" ∧ y.2 ≠ "bytearray") : ∀ p ∈ bufL P x d o bs k t1 t2 t3, ∀ y ∈ ws, p.2.cls ≠ .type y.2 := by
  intro p hp y hy
  simp only [List.mem_cons, List.not_mem_nil, or_false] at hp
  rcases hp with rfl | rfl | rfl
  · exact fun e => nomatch e
  · exact tyne (Ne.symm (h y hy).1)
  · exact tyne (Ne.symm (h y hy).2)
theorem rows_cls' {P : Params} {rs : List RG} {ws : List (Addr × String)} (h : ∀ y ∈ ws, y.2 ≠ "dict") : ∀ p ∈ rowsL P rs, ∀ y ∈ ws, p.2.cls ≠ .type y.2 := by
  intro p hp y hy
  obtain ⟨z, _, hz⟩ := List.mem_flatMap.mp hp
  simp only [List.mem_cons, List.not_mem_nil, or_false] at hz
  rcases hz with rfl | rfl
  · exact fun e => nomatch e
  · exact tyne (Ne.symm (h y hy))
theorem all_app {α : Type} {p : α → Prop} {a b : List α} (ha : ∀ x ∈ a, p x) (hb : ∀ x ∈ b, p x) : ∀ x ∈ a ++ b, p x := fun x hx => (List.mem_append.mp hx).elim (ha x) (hb x)
theorem rowsL_cons {P : Params} {y : RG} {rs : List RG} : rowsL P (y :: rs) = rgL P y ++ rowsL P rs := rfl
theorem trk1 {st : List Str} {m m₀ : Str → Option Value} {x : Str} {v : Value} (hx : m x = some v) (ho : ∀ y, (x :: st).contains y = false → m y = m₀ y) : m = fun y => if y = x then some v else upd st m m₀ y := by
  funext y
  by_cases e : y = x
  · rw [if_pos e, e, hx]
  · rw [if_neg e]
    show m y = if st.contains y = true then m y else m₀ y
    cases h : st.contains y with
    | true => simp
    | false =>
      simp only [Bool.false_eq_true, if_false]
      exact ho y (by
        show (x :: st).contains y = false
        rw [List.contains_cons, h]
        simp [e])
theorem trk2 {st : List Str} {m m₀ : Str → Option Value} {x x' : Str} {v v' : Value} (hx : m x = some v) (hx' : m x' = some v') (ho : ∀ y, (x :: x' :: st).contains y = false → m y = m₀ y) : m = fun y => if y = x then some v else if y = x' then some v' else upd st m m₀ y := by
  funext y
  by_cases e : y = x
  · rw [if_pos e, e, hx]
  · rw [if_neg e]
    by_cases e' : y = x'
    · rw [if_pos e', e', hx']
    · rw [if_neg e']
      show m y = if st.contains y = true then m y else m₀ y
      cases h : st.contains y with
      | true => simp
      | false =>
        simp only [Bool.false_eq_true, if_false]
        exact ho y (by
          show (x :: x' :: st).contains y = false
          rw [List.contains_cons, List.contains_cons, h]
          simp [e, e'])
theorem dict_ne {a b : List DictEntry} {n m : Nat} (h : a ≠ b) : dictOf a n ≠ dictOf b m := fun e => h (by
  have := congrArg Obj.data e
  injection this with h1 h2
  exact Array.toList_inj.mpr h1)
theorem str_ne {a b : Str} {h₁ h₂ : Int} {t u : Tok} {v v' : Value} {l l' : List DictEntry} (h : a ≠ b) : (⟨h₁, .str a t, v⟩ : DictEntry) :: l ≠ ⟨h₂, .str b u, v'⟩ :: l' := fun e => h (by
  have := (List.cons.inj e).1
  injection this with _ h2 _
  injection h2)
/-- the first key of a dict: it tells two dicts of this law apart -/
noncomputable def firstKey (o : Obj) : Option Str := match o.data with
  | .dict es _ => (match es.toList with
    | e :: _ => (match e.key with
      | .str x _ => some x
      | _ => none)
    | [] => none)
  | _ => none
theorem key_ne {a b : Obj} (h : (firstKey a == firstKey b) = false) : a ≠ b := fun e => by
  subst e
  rw [beq_self_eq_true] at h
  cases h
theorem bufD_rsD {P : Params} {o l : Addr} {k : Int} {t1 t2 t3 t : Tok} : bufD P o k t1 t2 t3 ≠ rsD P l t := dict_ne (str_ne (by decide))
theorem rsD_bufD {P : Params} {o l : Addr} {k : Int} {t1 t2 t3 t : Tok} : rsD P l t ≠ bufD P o k t1 t2 t3 := dict_ne (str_ne (by decide))
theorem bufD_rngD {P : Params} {o : Addr} {k a b : Int} {t1 t2 t3 u1 u2 ua ub : Tok} : bufD P o k t1 t2 t3 ≠ rngD P a b u1 u2 ua ub := dict_ne (str_ne (by decide))
theorem rsD_rngD {P : Params} {l : Addr} {a b : Int} {t u1 u2 ua ub : Tok} : rsD P l t ≠ rngD P a b u1 u2 ua ub := dict_ne (str_ne (by decide))
theorem rows_cls {P : Params} {rs : List RG} : ∀ p ∈ rowsL P rs, (∃ d, p.2 = instObj 235 d) ∨ ∃ a b t1 t2 ta tb, p.2 = rngD P a b t1 t2 ta tb := fun p hp => by
  obtain ⟨y, _, hy⟩ := List.mem_flatMap.mp hp
  simp only [List.mem_cons, List.not_mem_nil, or_false] at hy
  rcases hy with rfl | rfl
  · exact .inl ⟨_, rfl⟩
  · exact .inr ⟨_, _, _, _, _, _, rfl⟩
theorem rows_off_buf {P : Params} {rs : List RG} {x d o : Addr} {bs : List UInt8} {k : Int} {t1 t2 t3 : Tok} : ∀ p ∈ rowsL P rs, ∀ q ∈ bufL P x d o bs k t1 t2 t3, q.2 ≠ p.2 := by
  intro p hp q hq
  simp only [List.mem_cons, List.not_mem_nil, or_false] at hq
  rcases rows_cls p hp with ⟨d', e⟩ | ⟨a, b, u1, u2, ua, ub, e⟩ <;> rw [e] <;> rcases hq with rfl | rfl | rfl
  · exact cls_ne (by simp)
  · exact cls_ne (by simp)
  · exact cls_ne (by simp)
  · exact cls_ne (by simp)
  · exact dict_ne (str_ne (by decide))
  · exact cls_ne (by simp)
theorem rows_off_rs {P : Params} {rs : List RG} {x d l : Addr} {rs' : List RG} {n : Nat} {t : Tok} : ∀ p ∈ rowsL P rs, ∀ q ∈ rsL P x d l rs' n t, q.2 ≠ p.2 := by
  intro p hp q hq
  simp only [List.mem_cons, List.not_mem_nil, or_false] at hq
  rcases rows_cls p hp with ⟨d', e⟩ | ⟨a, b, u1, u2, ua, ub, e⟩ <;> rw [e] <;> rcases hq with rfl | rfl | rfl
  · exact cls_ne (by simp)
  · exact cls_ne (by simp)
  · exact cls_ne (by simp)
  · exact cls_ne (by simp)
  · exact dict_ne (str_ne (by decide))
  · exact cls_ne (by simp)
theorem iter_nil {prog : Program} {w : World} {A : Around} {E : Value → Shared → Prop} {s : Shared} {env : Env} {h₀ : Heap} {target : PySem.Expr} {body : List Stmt} {Q : Flow → Shared → Prop} {l : Addr} {m₀ : Str → Option Value} {news : List (Addr × Obj)} {K : Frag} {n : Nat}
    (hh : A.handled = none) (F : Fr h₀ env.locals s.heap m₀) (N : News h₀ env.locals s.heap news) (X : K.In h₀) (e : K.lookup l = some { cls := .type "list", data := .seq #[] n })
    (h : ∀ h' tk, Fr h₀ env.locals h' m₀ → News h₀ env.locals h' news → Q .next { s with heap := h', toks := tk }) :
    wpAny (model prog w) A (pyIter (.ref l)) (fun it s₂ => TurnsAt prog w A h₀ env target body Q E it s₂) E s :=
  list_J (vs := []) (keep := []) (fun _ m nx => m = m₀ ∧ nx = news) hh F N ⟨_, F.keep _ _ (X _ _ e), rfl, _, rfl⟩ (.inr ⟨_, X _ _ e⟩) (fun _ _ _ _ _ hp => nomatch hp) ⟨rfl, rfl⟩
    (fun i v _ _ _ _ _ _ hv => by simp at hv) fun h' tk m' news' F' N' hj => by
      obtain ⟨rfl, rfl⟩ := hj
      exact h h' tk F' N'
theorem ack_sub {P : Params} {g h : Heap} {L I xr dr lr x d o : Addr} {it : Obj} {tr t1 t2 t3 : Tok} {n : Nat} {its : Array Value} {y : RG} {rest : List RG} {bs : List UInt8} {k : Int} {all : List (Addr × Obj)}
    (N : News g L h all) (hI : (I, it) ∈ all) (h1 : (xr, instObj 329 dr) ∈ all) (h2 : (dr, rsD P lr tr) ∈ all) (h3 : (lr, listOf its n) ∈ all) (he : its = (refsOf (y :: rest)).toArray)
    (h4 : (y.r, instObj 235 y.d) ∈ all) (h5 : (y.d, rngD P y.a y.b y.t1 y.t2 y.ta y.tb) ∈ all) (h6 : (x, instObj 193 d) ∈ all) (h7 : (d, bufD P o k t1 t2 t3) ∈ all) (h8 : (o, BA.baObj bs.toArray) ∈ all) (ht : ∀ p ∈ rowsL P rest, p ∈ all) :
    News g L h ([(I, it)] ++ (rsL P xr dr lr (y :: rest) n tr ++ (rgL P y ++ (bufL P x d o bs k t1 t2 t3 ++ rowsL P rest)))) := by
  subst he
  refine news_sub N fun p hp => ?_
  simp only [List.mem_cons, List.mem_append, List.not_mem_nil, or_false] at hp
  rcases hp with rfl | (rfl | rfl | rfl) | (rfl | rfl) | (rfl | rfl | rfl) | hp
  all_goals first | assumption | exact ht _ hp
noncomputable abbrev tupO (vs : List Value) : Obj := { cls := .type "tuple", data := .seq vs.toArray 0 }
theorem ack_fin {P : Params} {g h : Heap} {L T xr dr lr x d o : Addr} {tr t1 t2 t3 td : Tok} {n : Nat} {rs : List RG} {bs : List UInt8} {k dl : Int} {all : List (Addr × Obj)}
    (N : News g L h all) (hT : (T, tupO [.ref xr, .int dl td]) ∈ all) (h1 : (xr, instObj 329 dr) ∈ all) (h2 : (dr, rsD P lr tr) ∈ all) (h3 : (lr, listOf (refsOf rs).toArray n) ∈ all)
    (h6 : (x, instObj 193 d) ∈ all) (h7 : (d, bufD P o k t1 t2 t3) ∈ all) (h8 : (o, BA.baObj bs.toArray) ∈ all) (ht : ∀ p ∈ rowsL P rs, p ∈ all) :
    Led g h ((T, tupO [.ref xr, .int dl td]) :: (rsL P xr dr lr rs n tr ++ (bufL P x d o bs k t1 t2 t3 ++ rowsL P rs))) := by
  refine Led.of_news (news_sub N fun p hp => ?_)
  simp only [List.mem_cons, List.mem_append, List.not_mem_nil, or_false] at hp
  rcases hp with rfl | (rfl | rfl | rfl) | (rfl | rfl | rfl) | hp
  all_goals first | assumption | exact ht _ hp
end Mine
end
section
open PySem PySem.W PyProof.Rows PySem.Calls
set_option maxRecDepth 100000
namespace Mine
/-- a tuple of two ints in the ledger -/
structure TR where
  (t : Addr) (a b : Int) (ta tb : Tok)
noncomputable abbrev trO (y : TR) : Addr × Obj := (y.t, tupO [.int y.a y.ta, .int y.b y.tb])
noncomputable def rowsT (l : List TR) : List (Addr × Obj) := l.map trO
noncomputable abbrev refsT (l : List TR) : List Value := l.map fun y => .ref y.t
noncomputable abbrev pairsT (l : List TR) : List (Int × Int) := l.map fun y => (y.a, y.b)
theorem datT : ∀ (l : List TR), DatAll (rowsT l) (refsT l) ((pairsT l).map fun q => Dat.tuple [.int q.1, .int q.2])
  | [] => .nil
  | y :: l => .cons (.tuple (.head _) (.cons (.int _ _) (.cons (.int _ _) .nil))) ((datT l).mono fun _ h => .tail _ h)
theorem mem_rowsT {l : List TR} {y : TR} (h : y ∈ l) : trO y ∈ rowsT l := List.mem_map_of_mem h
theorem rowsT_cls {l : List TR} {ws : List (Addr × String)} (h : ∀ y ∈ ws, y.2 ≠ "tuple") : ∀ p ∈ rowsT l, ∀ y ∈ ws, p.2.cls ≠ .type y.2 := by
  intro p hp y hy
  obtain ⟨z, _, rfl⟩ := List.mem_map.mp hp
  exact tyne (Ne.symm (h y hy))
theorem rowsT_off {wr : List (Addr × Obj)} {l : List TR} (h : ∀ q ∈ wr, q.2.cls ≠ .type "tuple") : ∀ p ∈ rowsT l, ∀ q ∈ wr, q.2 ≠ p.2 := by
  intro p hp q hq e
  obtain ⟨z, _, rfl⟩ := List.mem_map.mp hp
  exact h q hq (by rw [e])
theorem Split2.all {l : List (Addr × Obj)} : Split2 [] l l := .tail fun _ _ _ h => nomatch h
theorem append_S {prog : Program} {w : World} {A : Around} {E : Value → Shared → Prop} {s : Shared} {h₀ : Heap} {L D : Addr} {m : Str → Option Value} {news rest : List (Addr × Obj)} {its : Array Value} {n : Nat} {x : Value} {Q : Value → Shared → Prop}
    (F : Fr h₀ L s.heap m) (N : News h₀ L s.heap news) (hm : (D, listOf its n) ∈ news) (hs : Split2 [(D, listOf its n)] news rest) (hz : its.size ≤ 16777216)
    (h : ∀ h', Fr h₀ L h' m → News h₀ L h' ((D, listOf (its.push x) (n + 1)) :: rest) → Q .none { s with heap := h' }) : wpAny (model prog w) A (call (.builtin "list.append") [.ref D, x]) Q E s := by
  refine append_at (hsz := by rw [sizeLine_eq]; exact hz) (N _ hm).1 fun h' hs' hD' => ?_
  have z := N _ hm
  refine h h' (F.change hs' z.2.1 z.2.2) fun p hp => ?_
  rcases List.mem_cons.mp hp with rfl | hp
  · exact ⟨hD', z.2⟩
  · have y := N p (hs.sub.1 p hp)
    refine ⟨hs'.extBut _ _ (fun e => ?_) y.1, y.2⟩
    rcases hs.sub.2 p hp _ (.head _) with q | q
    · exact q e.symm
    · have y1 := y.1
      have z1 := z.1
      rw [e] at y1
      rw [z1] at y1
      exact q (Option.some.inj y1)
/-- the rows of the law, on numbers -/
noncomputable def scl (n : Int) : Int := if (n / 45) % 4 = 2 then 20 else if (n / 45) % 4 = 3 then 1000000 else 1
noncomputable def lfst (p n : Int) : Int := p + (1 + n % 5) * scl n
noncomputable def lnxt (p n : Int) : Int := lfst p n + (1 + n / 5 % 9) * scl n
noncomputable def lrows : Int → List Int → List (Int × Int)
  | _, [] => []
  | p, n :: ns => (lfst p n, lnxt p n) :: lrows (lnxt p n) ns
noncomputable def lend : Int → List Int → Int
  | p, [] => p
  | p, n :: ns => lend (lnxt p n) ns
theorem lrows_snoc : ∀ (ns : List Int) (p n : Int), lrows p (ns ++ [n]) = lrows p ns ++ [(lfst (lend p ns) n, lnxt (lend p ns) n)] ∧ lend p (ns ++ [n]) = lnxt (lend p ns) n
  | [], _, _ => ⟨rfl, rfl⟩
  | m :: ns, p, n => by
    have ih := lrows_snoc ns (lnxt p m) n
    refine ⟨?_, ih.2⟩
    show (lfst p m, lnxt p m) :: lrows (lnxt p m) (ns ++ [n]) = _
    rw [ih.1]; rfl
theorem lrows_length : ∀ (ns : List Int) (p : Int), (lrows p ns).length = ns.length
  | [], _ => rfl
  | _ :: ns, _ => by
    show (lrows _ ns).length + 1 = ns.length + 1
    rw [lrows_length ns]
theorem scl_range (n : Int) : scl n = 1 ∨ scl n = 20 ∨ scl n = 1000000 := by
  unfold scl
  split
  · exact .inr (.inl rfl)
  · split
    · exact .inr (.inr rfl)
    · exact .inl rfl
theorem lnxt_range (p n : Int) : p + 1 ≤ lfst p n ∧ lfst p n ≤ p + 5000000 ∧ lfst p n + 1 ≤ lnxt p n ∧ lnxt p n ≤ p + 14000000 := by
  unfold lnxt lfst
  have h1 := Int.emod_nonneg n (show (5 : Int) ≠ 0 by decide)
  have h2 := Int.emod_lt_of_pos n (show (0 : Int) < 5 by decide)
  have h3 := Int.emod_nonneg (n / 5) (show (9 : Int) ≠ 0 by decide)
  have h4 := Int.emod_lt_of_pos (n / 5) (show (0 : Int) < 9 by decide)
  rcases scl_range n with e | e | e <;> rw [e] <;> omega
end Mine
end
section
open PySem PySem.W PyProof.Rows PySem.Calls
set_option maxRecDepth 100000
set_option maxHeartbeats 8000000
namespace Mine
theorem size_uint_var {w : World} {mean : ExcName → Option Value} {mg mb : Str → Option Value} {v FS : Int} {t1 : Tok} (h1 : v < 4611686018427387904) (hF : ((2 ^ vidx v : Nat) : Int) = FS) :
    Con w mean mg mb 5 204 [.int v t1] [] [] (fun r news' => (∃ t, r = .int FS t) ∧ news' = []) := by
  subst hF
  intro dp un gd l base g s R B X T Kp N hdp hun ret
  w_on
  have split : (v ≤ 63 ∧ vidx v = 0) ∨ (¬ v ≤ 63 ∧ v ≤ 16383 ∧ vidx v = 1) ∨ (¬ v ≤ 63 ∧ ¬ v ≤ 16383 ∧ v ≤ 1073741823 ∧ vidx v = 2) ∨ (¬ v ≤ 63 ∧ ¬ v ≤ 16383 ∧ ¬ v ≤ 1073741823 ∧ vidx v = 3) := by
    unfold vidx
    by_cases c1 : v ≤ 63
    · exact .inl ⟨c1, by rw [if_pos c1]⟩
    · by_cases c2 : v ≤ 16383
      · exact .inr (.inl ⟨c1, c2, by rw [if_neg c1, if_pos c2]⟩)
      · by_cases c3 : v ≤ 1073741823
        · exact .inr (.inr (.inl ⟨c1, c2, c3, by rw [if_neg c1, if_neg c2, if_pos c3]⟩))
        · exact .inr (.inr (.inr ⟨c1, c2, c3, by rw [if_neg c1, if_neg c2, if_neg c3]⟩))
  rcases split with ⟨c1, e⟩ | ⟨c1, c2, e⟩ | ⟨c1, c2, c3, e⟩ | ⟨c1, c2, c3, e⟩ <;> rw [e] at ret
  all_goals
    walk_at "mine enter"
    repeat' walk_at "mine one"
    (with_reducible rename Fr _ _ _ _ => F1)
    (with_reducible rename News _ _ _ _ => N1)
    exact ret _ _ _ _ ⟨⟨_, rfl⟩, rfl⟩ (Kept.of_fr F1) (Led.of_news N1)
theorem len_base {prog : Program} {w : World} {A : Around} {E : Value → Shared → Prop} {s : Shared} {h₀ : Heap} {L l : Addr} {m : Str → Option Value} {rs : List RG} {Q : Value → Shared → Prop} (F : Fr h₀ L s.heap m) (hl : h₀.IsList l (refsOf rs).toArray) (hz : rs.length ≤ 1000000)
    (h : ∀ t k, Q (.int (rs.length : Int) t) { s with toks := k }) : wpAny (model prog w) A (call (.builtin "len") [.ref l]) Q E s := by
  have e : (((refsOf rs).toArray.size : Nat) : Int) = (rs.length : Int) := by simp
  refine call_len_list (hl.at (F.keep l)) (by rw [e]; omega) ?_
  rw [e]; exact h _ _
theorem item_base {prog : Program} {w : World} {A : Around} {E : Value → Shared → Prop} {s : Shared} {h₀ : Heap} {L l : Addr} {m : Str → Option Value} {rs : List RG} {Q : Value → Shared → Prop} {value slice : PySem.Expr} {i : Int} {u : Tok} {y : RG} (F : Fr h₀ L s.heap m) (hl : h₀.IsList l (refsOf rs).toArray)
    (h0 : 0 ≤ i) (h1 : i < 1000000) (hy : rs[i.toNat]? = some y) (h : Q (.ref y.r) s)
    (hs : subscripted slice false (.ref l) (.int i u) = operate [.ref l, .int i u] (getItem (.ref l) (.int i u)) := by with_unfolding_all rfl) : wpAny (model prog w) A (subscriptTail value slice (.ref l) (.int i u)) Q E s :=
  tail_any (hl.at (F.keep l)).typeIs slot_list_getitem.lookup (wpAny_getItem_list (hl.at (F.keep l)) h0 (by omega) (by simp [hy]) h) hs
theorem rs_len {w : World} {mean : ExcName → Option Value} {mg mb : Str → Option Value} {xr dr lr : Addr} {tr : Tok} {rs : List RG} {nl : Nat} (hlen : rs.length ≤ 1000000) :
    ConE w mean mg mb 5 326 [.ref xr] [] (rsL w.params xr dr lr rs nl tr) [] (fun r news' => (∃ t, r = .int (rs.length : Int) t) ∧ news' = []) (fun _ => False) := by
  intro dp un gd ll base g s R B X T Kp N hrd hdp hun ret fail
  w_on
  have hgx : g.get? xr = some (instObj 329 dr) := hrd _ (.head _)
  have hgd : g.get? dr = some (rsD w.params lr tr) := hrd _ (.tail _ (.head _))
  have hgl : g.IsList lr (refsOf rs).toArray := ⟨_, hrd (lr, listOf (refsOf rs).toArray nl) (.tail _ (.tail _ (.head _))), rfl, _, rfl⟩
  walk_at "mine enter"
  repeat' (first | (with_reducible (((with_reducible show wpAny _ _ (call _ _) _ _ _); (k_here; (with_reducible show wpAny _ _ (call (Value.builtin "len") [Value.ref _]) _ _ _); (refine' len_base ?F_q ?hl_q ?hz_q ?_; (case F_q => k_asm); (case hl_q => assumption); (case hz_q => first | with_reducible assumption | omega); intro _ _; (try dsimp only)))))) | walk_at "mine one")
  (with_reducible rename Fr _ _ _ _ => F1)
  (with_reducible rename News _ _ _ _ => N1)
  exact ret _ _ _ _ ⟨by first | exact ⟨_, rfl⟩ | rfl, rfl⟩ (Kept.of_fr F1) (Led.of_news N1)
theorem rs_item {w : World} {mean : ExcName → Option Value} {mg mb : Str → Option Value} {xr dr lr : Addr} {ti tr : Tok} {rs : List RG} {nl : Nat} {i : Int} {y : RG} (hi : 0 ≤ i) (hi2 : i < 1000000) (hy : rs[i.toNat]? = some y) :
    ConE w mean mg mb 5 312 [.ref xr, .int i ti] [] (rsL w.params xr dr lr rs nl tr) [] (fun r news' => r = .ref y.r ∧ news' = []) (fun _ => False) := by
  intro dp un gd ll base g s R B X T Kp N hrd hdp hun ret fail
  w_on
  have hgx : g.get? xr = some (instObj 329 dr) := hrd _ (.head _)
  have hgd : g.get? dr = some (rsD w.params lr tr) := hrd _ (.tail _ (.head _))
  have hgl : g.IsList lr (refsOf rs).toArray := ⟨_, hrd (lr, listOf (refsOf rs).toArray nl) (.tail _ (.tail _ (.head _))), rfl, _, rfl⟩
  walk_at "mine enter"
  repeat' (first | (with_reducible (((with_reducible show wpAny _ _ (subscriptTail _ _ _ _) _ _ _); (k_here; (with_reducible show wpAny _ _ (subscriptTail _ _ (Value.ref _) (Value.int _ _)) _ _ _); (refine' item_base ?F_q ?hl_q ?h0_q ?h1_q ?hy_q ?_; (case F_q => k_asm); (case hl_q => assumption); (case h0_q => first | with_reducible assumption | omega); (case h1_q => first | with_reducible assumption | omega); (case hy_q => assumption); k_whole))))) | walk_at "mine one")
  (with_reducible rename Fr _ _ _ _ => F1)
  (with_reducible rename News _ _ _ _ => N1)
  exact ret _ _ _ _ ⟨by first | exact ⟨_, rfl⟩ | rfl, rfl⟩ (Kept.of_fr F1) (Led.of_news N1)
end Mine
end
section
open PySem PySem.W PyProof.Rows PySem.Calls
set_option maxRecDepth 100000
set_option maxHeartbeats 8000000
namespace Mine
noncomputable def JoinPost (h₀ : Heap) (L : Addr) (s : Shared) (J : (Str → Option Value) → List (Addr × Obj) → Prop) (f : Flow) (s' : Shared) : Prop :=
  f = .next ∧ ∃ h' tk m' news', s' = { s with heap := h', toks := tk } ∧ Fr h₀ L h' m' ∧ News h₀ L h' news' ∧ J m' news'
theorem JoinPost.intro {h₀ h' : Heap} {L : Addr} {s : Shared} {J : (Str → Option Value) → List (Addr × Obj) → Prop} {tk : Nat} {m' : Str → Option Value} {news' : List (Addr × Obj)} (F : Fr h₀ L h' m') (N : News h₀ L h' news') (j : J m' news') :
    JoinPost h₀ L s J .next { s with heap := h', toks := tk } := ⟨rfl, h', tk, m', news', rfl, F, N, j⟩
theorem exec_join {M : Model} {A : Around} {E : Value → Shared → Prop} {s : Shared} {env : Env} {h₀ : Heap} {L : Addr} {st : Stmt} {Q : Flow → Shared → Prop} {m : Str → Option Value} (_F : Fr h₀ L s.heap m) (J : (Str → Option Value) → List (Addr × Obj) → Prop)
    (h1 : wpAny M A (exec st env) (JoinPost h₀ L s J) E s)
    (h2 : ∀ h' tk m' news', Fr h₀ L h' m' → News h₀ L h' news' → J m' news' → Q .next { s with heap := h', toks := tk }) : wpAny M A (exec st env) Q E s :=
  wpAny_mono h1 (fun f s' ⟨e, h', tk, m', news', e', F, N, j⟩ => by subst e; subst e'; exact h2 h' tk m' news' F N j) fun _ _ e => e
theorem buf_get {g h : Heap} {L : Addr} {p1 p2 : Addr × Obj} {o : Addr} {p q : List UInt8} {r : List (Addr × Obj)} (_ : News g L h (p1 :: p2 :: (o, BA.baObj (p ++ q).toArray) :: r)) : ∃ p' q', p' = p ∧ q' = q := ⟨p, q, rfl, rfl⟩
theorem WhileStep2.go {h₀ h' : Heap} {L : Addr} {s : Shared} {J : Nat → (Str → Option Value) → List (Addr × Obj) → Prop} {Q : Flow → Shared → Prop} {n n' tk : Nat} {m₂ : Str → Option Value} {news₂ : List (Addr × Obj)}
    (F : Fr h₀ L h' m₂) (N : News h₀ L h' news₂) (hn : n' < n) (hJ : J n' m₂ news₂) : WhileStep2 h₀ L s J Q n .next { s with heap := h', toks := tk } := ⟨h', tk, m₂, news₂, n', rfl, F, N, hn, hJ⟩
/-- push_uint_var called: n octets more must find room behind -/
theorem push_uint_call {w : World} {dp un : Nat} {gd : Option (List Code)} {outer : List Env} {env : Env} {A₀ : Around} {base h₀ : Heap} {L : Addr} {s : Shared} {m : Str → Option Value} {mean : ExcName → Option Value} {mg mb : Str → Option Value} {news rest : List (Addr × Obj)} {Q E : Value → Shared → Prop}
    {x d o : Addr} {t1 t2 t3 t4 : Tok} {pre old : List UInt8} {v : Int} {n : Nat}
    (B : Below A₀ base outer h₀) (F : Fr h₀ L s.heap m) (X : (hd.heap_39 w.params).In h₀) (T : Top hd.view_39 LS mean mg mb h₀) (N : News h₀ L s.heap news) (hf : env.frame = some L) (hke : env.scope.kind = .function)
    (hwr : ∀ p ∈ bufL w.params x d o (pre ++ old) pre.length t1 t2 t3, p ∈ news) (hs : Split (bufL w.params x d o (pre ++ old) pre.length t1 t2 t3) news rest) (hdp : dp + 10 < recursionLimit) (hun : un + 10 * 10 < cLine)
    (h0 : 0 ≤ v) (h1 : v < 4611686018427387904) (hv : (venc v).length + n ≤ old.length) (hz : pre.length + old.length ≤ 100000)
    (k : ∀ o' t3' old' pre' h' tk, old' = old.drop (venc v).length → pre' = pre ++ venc v → n ≤ old'.length → pre'.length + old'.length ≤ 100000 → Fr h₀ L h' m →
      News h₀ L h' ((x, instObj 193 d) :: (d, bufD w.params o' pre'.length t1 t2 t3') :: (o', BA.baObj (pre' ++ old').toArray) :: rest) → Q .none { s with heap := h', toks := tk }) :
    wpAny (model PG w) (AX dp un gd (env :: outer)) (call (.ref 190) [.ref x, .int v t4]) Q E s :=
  Con.call (push_uint_var h0 h1 (Nat.le_trans (Nat.le_add_right _ _) hv) hz) B F X T N hf hke hwr hs hdp hun fun v' news' h' tk hp F' N' => by
    obtain ⟨rfl, o', t3', rfl⟩ := hp
    rw [show ((pre.length : Int) + ((venc v).length : Int)) = ((pre ++ venc v).length : Int) from by rw [List.length_append, Int.natCast_add]] at N'
    exact k o' t3' _ _ h' tk rfl rfl (by rw [List.length_drop]; omega) (by rw [List.length_drop, List.length_append]; omega) F' N'
theorem rs_item_call {w : World} {dp un : Nat} {gd : Option (List Code)} {outer : List Env} {env : Env} {A₀ : Around} {base h₀ : Heap} {L : Addr} {s : Shared} {m : Str → Option Value} {mean : ExcName → Option Value} {mg mb : Str → Option Value} {news : List (Addr × Obj)} {Q E : Value → Shared → Prop}
    {xr dr lr : Addr} {ti tr : Tok} {rs : List RG} {nl : Nat} {i : Int} {y : RG}
    (B : Below A₀ base outer h₀) (F : Fr h₀ L s.heap m) (X : (hd.heap_39 w.params).In h₀) (T : Top hd.view_39 LS mean mg mb h₀) (N : News h₀ L s.heap news) (hf : env.frame = some L) (hke : env.scope.kind = .function)
    (hrd : ∀ p ∈ rsL w.params xr dr lr rs nl tr, h₀.get? p.1 = some p.2) (hdp : dp + 5 < recursionLimit) (hun : un + 10 * 5 < cLine)
    (h0 : 0 ≤ i) (h1 : i < 1000000) (hy : rs[i.toNat]? = some y) (k : ∀ h' tk, Fr h₀ L h' m → News h₀ L h' news → Q (.ref y.r) { s with heap := h', toks := tk }) :
    wpAny (model PG w) (AX dp un gd (env :: outer)) (call (.ref 312) [.ref xr, .int i ti]) Q E s :=
  ConE.call2 (rs_item h0 h1 hy) B F X T N hf hke (fun _ h => nomatch h) (.tail fun _ _ _ h => nomatch h) (fun p hp => .inr (hrd p hp)) hdp hun (fun v' news' h' tk hp F' N' => by
    obtain ⟨rfl, rfl⟩ := hp
    exact k h' tk F' N') fun _ _ _ _ _ _ _ hp => hp.elim
set_option hygiene false in
local macro_rules | `(tactic| walk_at "mine split2") => `(tactic| (repeat' (first | with_reducible exact Split2.nil | with_reducible exact Split2.tail rows_off_buf | with_reducible exact Split2.tail rows_off_rs | (with_reducible refine' Split2.drop2 ?h_q ?_; (case h_q => with_reducible k_mem)) | (refine' Split2.keep ?a_q ?_; (case a_q => walk_at "mine dis")) | refine' Split2.drop ?_ | exact Split2.nil)))
theorem take_last {rs : List RG} {i : Nat} (h0 : 0 < i) (h1 : i ≤ rs.length) : ∃ y, rs[i - 1]? = some y ∧ y ∈ rs ∧ (pairsOf (rs.take i)).reverse = (y.a, y.b) :: (pairsOf (rs.take (i - 1))).reverse := by
  obtain ⟨j, rfl⟩ : ∃ j, i = j + 1 := ⟨i - 1, by omega⟩
  have hj : j < rs.length := h1
  refine ⟨rs[j], by simp, List.getElem_mem hj, ?_⟩
  rw [Nat.add_sub_cancel, pairsOf, List.take_succ_eq_append_getElem hj, List.map_append, List.reverse_append]
  rfl
/-- what stands at the loop of push_ack_frame: n turns are left, e is written -/
inductive JB (P : Params) (x d xr : Addr) (t1 t2 tR tO : Tok) (od : Int) (pre old fin : List UInt8) (rs : List RG) (cn q n : Nat) (m : Str → Option Value) (nx : List (Addr × Obj)) : Prop
  | mk (i : Int) (tI : Tok) (st : Int) (tS : Tok) (e : List UInt8) (o' : Addr) (t3' : Tok) (h1 : m (Str.ofString "buf") = some (.ref x)) (h2 : m (Str.ofString "rangeset") = some (.ref xr))
      (h3 : m (Str.ofString "ranges") = some (.int (cn : Nat) tR)) (h4 : m (Str.ofString "oldest") = some (.int od tO)) (h5 : m (Str.ofString "index") = some (.int i tI)) (h6 : m (Str.ofString "start") = some (.int st tS))
      (hn : nx = bufL P x d o' (pre ++ e ++ old.drop e.length) ((pre ++ e).length : Nat) t1 t2 t3') (hi : i = ((n + q : Nat) : Int)) (hs0 : 0 ≤ st) (hs1 : st ≤ 4611686018427387904)
      (hhd : ∀ p ∈ ((pairsOf (rs.take (n + q))).reverse).head?, p.2 < st) (hok : OkR (pairsOf (rs.take (n + q))).reverse) (hf : e ++ fgap st (((pairsOf (rs.take (n + q))).reverse).take n) = fin)
theorem bud {e v1 v2 r fin old pre : List UInt8} (h : e ++ (v1 ++ v2 ++ r) = fin) (hf : fin.length ≤ old.length) (hz : pre.length + old.length ≤ 100000) : v1.length + (v2.length + 0) ≤ (old.drop e.length).length ∧ (pre ++ e).length + (old.drop e.length).length ≤ 100000 := by
  subst h
  simp only [List.length_append, List.length_drop] at *
  omega
theorem news2 {P : Params} {g h : Heap} {L x d o : Addr} {t1 t2 t3 : Tok} {pre e v1 v2 old p1 p2 o1 o2 : List UInt8} (N : News g L h [(x, instObj 193 d), (d, bufD P o p2.length t1 t2 t3), (o, BA.baObj (p2 ++ o2).toArray)])
    (ho2 : o2 = o1.drop v2.length) (hp2 : p2 = p1 ++ v2) (ho1 : o1 = (old.drop e.length).drop v1.length) (hp1 : p1 = pre ++ e ++ v1) :
    News g L h (bufL P x d o (pre ++ (e ++ v1 ++ v2) ++ old.drop (e ++ v1 ++ v2).length) ((pre ++ (e ++ v1 ++ v2)).length : Nat) t1 t2 t3) := by
  subst ho2 hp2 ho1 hp1
  rw [List.drop_drop, List.drop_drop, ← List.length_append, ← List.length_append, List.append_assoc (pre ++ e), List.append_assoc pre, ← List.append_assoc e] at N
  exact N
section
variable {w : World} {mean : ExcName → Option Value} {mg mb : Str → Option Value} {x d o xr dr lr : Addr} {t1 t2 t3 tr : Tok} {nl : Nat} {rs : List RG} {dp un : Nat} {gd : Option (List Code)} {ll : List Env} {base g : Heap} {s : Shared} {L : Addr} {Q : Flow → Shared → Prop} {m₀ : Str → Option Value}
theorem push_ack_loop {pre old e fin : List UInt8} {tR tO tI tS : Tok} {od i st : Int} {cn q : Nat}
    (B : Below (AX dp un gd ll) base ll g) (X : (hd.heap_39 w.params).In g) (T : Top hd.view_39 LS mean mg mb g) (hdp : dp + 25 < recursionLimit) (hun : un + 10 * 25 < cLine)
    (hgs : ∀ p ∈ rsL w.params xr dr lr rs nl tr, g.get? p.1 = some p.2) (hgr : ∀ y ∈ rs, g.get? y.r = some (instObj 235 y.d) ∧ g.get? y.d = some (rngD w.params y.a y.b y.t1 y.t2 y.ta y.tb))
    (F : Fr g L s.heap (fun y => if y = Str.ofString "buf" then some (.ref x) else if y = Str.ofString "rangeset" then some (.ref xr) else if y = Str.ofString "ranges" then some (.int (cn : Nat) tR) else if y = Str.ofString "oldest" then some (.int od tO) else
      if y = Str.ofString "index" then some (.int i tI) else if y = Str.ofString "start" then some (.int st tS) else m₀ y))
    (N : News g L s.heap (bufL w.params x d o (pre ++ e ++ old.drop e.length) ((pre ++ e).length : Nat) t1 t2 t3)) (hz : pre.length + old.length ≤ 100000) (hfl : fin.length ≤ old.length) (hcn : cn - 1 + q < rs.length) (hlen : rs.length ≤ 1000) (hod : od = (q : Int))
    (hi : i = ((cn - 1 + q : Nat) : Int)) (hs0 : 0 ≤ st) (hs1 : st ≤ 4611686018427387904)
    (hhd : ∀ p ∈ ((pairsOf (rs.take (cn - 1 + q))).reverse).head?, p.2 < st) (hok : OkR (pairsOf (rs.take (cn - 1 + q))).reverse) (hf : e ++ fgap st (((pairsOf (rs.take (cn - 1 + q))).reverse).take (cn - 1)) = fin)
    (ret : ∀ m' o' t3' h' tk, Fr g L h' m' → News g L h' (bufL w.params x d o' (pre ++ fin ++ old.drop fin.length) ((pre ++ fin).length : Nat) t1 t2 t3') → Q (.ret (.int (cn : Nat) tR)) { s with heap := h', toks := tk }) :
    wpAny (model PG w) ((AX dp un gd ll).deeper (envAt (hd.heap_39 w.params) 347 L)) (execs ((bodyAt (hd.heap_39 w.params) 347).drop 10) (envAt (hd.heap_39 w.params) 347 L)) Q (fun _ _ => False) s := by
  w_on
  obtain ⟨hb, he⟩ := at_of (K := hd.heap_39 w.params) (f := 347) (by k_is)
  rw [hb, he]
  clear hb he
  simp only [List.drop_succ_cons, List.drop_zero]
  have hgx : g.get? xr = some (instObj 329 dr) := hgs _ (.head _)
  have hgd : g.get? dr = some (rsD w.params lr tr) := hgs _ (.tail _ (.head _))
  have hJ : JB w.params x d xr t1 t2 tR tO od pre old fin rs cn q (cn - 1) (fun y => if y = Str.ofString "buf" then some (.ref x) else if y = Str.ofString "rangeset" then some (.ref xr) else if y = Str.ofString "ranges" then some (.int (cn : Nat) tR) else if y = Str.ofString "oldest" then some (.int od tO) else
      if y = Str.ofString "index" then some (.int i tI) else if y = Str.ofString "start" then some (.int st tS) else m₀ y) (bufL w.params x d o (pre ++ e ++ old.drop e.length) ((pre ++ e).length : Nat) t1 t2 t3) := .mk i tI st tS e o t3 rfl rfl rfl rfl rfl rfl rfl hi hs0 hs1 hhd hok hf
  clear hi hs0 hs1 hhd hok hf
  refine wpAny_execs_cons ?_
  refine While_inv2 (fun n m nx => n ≤ cn - 1 ∧ JB w.params x d xr t1 t2 tR tO od pre old fin rs cn q n m nx) F N (n₀ := cn - 1) ⟨Nat.le_refl _, hJ⟩ ?turn
  case turn =>
    rintro n m₁ news₁ h₁ tk₁ F2 N2 ⟨hn, hJ2⟩
    clear F N hJ
    obtain ⟨i, tI, st, tS, e, o', t3', h1, h2, h3, h4, h5, h6, rfl, hi, hs0, hs1, hhd, hok, hf⟩ := hJ2
    have F3 := fr_eq (mp_cons (mp_cons (mp_cons (mp_cons (mp_cons (mp_cons rfl h6) h5) h4) h3) h2) h1) F2
    clear F2 h1 h2 h3 h4 h5 h6
    have hrs : n + q < rs.length := by omega
    clear hcn
    cases n with
    | zero =>
      rw [List.take_zero, fgap, List.append_nil] at hf
      subst hf
      repeat' walk_at "mine oneD"
      (with_reducible rename Fr _ _ _ _ => F4)
      (with_reducible rename News _ _ _ _ => N4)
      exact ret _ _ _ _ _ F4 N4
    | succ n =>
      obtain ⟨y, hy, hym, hyt⟩ := take_last (rs := rs) (i := n + 1 + q) (by omega) (Nat.le_of_lt hrs)
      have hi' : i - 1 = ((n + q : Nat) : Int) := by rw [hi]; omega
      have e1 : n + 1 + q - 1 = n + q := by omega
      rw [e1] at hy hyt
      have hy' : rs[(i - 1).toNat]? = some y := by rw [hi']; exact hy
      obtain ⟨hyr, hyd⟩ := hgr y hym
      rw [hyt] at hhd hok hf
      obtain ⟨ok1, ok2, ok3, ok4, ok5⟩ := hok
      have hlt : y.b < st := hhd _ rfl
      rw [List.take_succ_cons, fgap] at hf
      obtain ⟨b1, b2⟩ := bud hf hfl hz
      clear hhd hy hyt
      repeat' (first | (with_reducible (((with_reducible show wpAny _ _ (call _ _) _ _ _); (k_here; (k_dflt (show wpAny _ _ (call (Value.ref 190) [Value.ref _, Value.int _ _]) _ _ _)); k_dflt (refine' push_uint_call ?kB_q ?kF_q ?kX_q ?kT_q ?kN_q ?kf_q ?kk_q ?kw_q ?ks_q ?kd_q ?ku_q ?h0_q ?h1_q ?hv_q ?hz_q ?_; walk_at "mine con"; (case h0_q => first | with_reducible assumption | omega); (case h1_q => first | with_reducible assumption | omega); (case hv_q => assumption); (case hz_q => assumption); (intro o'_q t3'_q old'_q pre'_q h'_q tk'_q ho'_q hp'_q hn'_q hz'_q F'_q N'_q; (try k_sweep); (try dsimp only))))))) | (with_reducible (((with_reducible show wpAny _ _ (call _ _) _ _ _); (k_here; (k_dflt (show wpAny _ _ (call (Value.ref 312) [Value.ref _, Value.int _ _]) _ _ _)); k_dflt (refine' rs_item_call ?kB_q ?kF_q ?kX_q ?kT_q ?kN_q ?kf_q ?kk_q ?kr_q ?kd_q ?ku_q ?h0_q ?h1_q ?hy_q ?_; (case kB_q => assumption); (case kF_q => k_asm); (case kX_q => assumption); (case kT_q => assumption); (case kN_q => k_asm); (case kf_q => exact rfl); (case kk_q => exact rfl); (case kr_q => assumption); (case kd_q => walk_at "mine room"); (case ku_q => walk_at "mine room"); (case h0_q => first | with_reducible assumption | omega); (case h1_q => first | with_reducible assumption | omega); (case hy_q => assumption); (intro h'_q tk'_q F'_q N'_q; (try k_sweep); (try dsimp only))))))) | walk_at "mine oneD")
      (with_reducible rename Fr _ _ _ _ => F4)
      (with_reducible rename News _ _ _ _ => N4)
      exact WhileStep2.go F4 (news2 N4 (by assumption) (by assumption) (by assumption) (by assumption)) (Nat.lt_succ_self n)
        ⟨Nat.le_of_succ_le hn, .mk _ _ y.a _ _ _ _ rfl rfl rfl rfl rfl rfl rfl hi' ok1 (Int.le_trans (Int.le_of_lt (Int.lt_trans ok2 hlt)) hs1) ok4 ok5 (by rw [← hf]; simp only [List.append_assoc])⟩
theorem news4 {P : Params} {g h : Heap} {L x d o : Addr} {t1 t2 t3 : Tok} {pre v1 v2 v3 v4 old p1 p2 p3 p4 o1 o2 o3 o4 : List UInt8} (N : News g L h [(x, instObj 193 d), (d, bufD P o p4.length t1 t2 t3), (o, BA.baObj (p4 ++ o4).toArray)])
    (ho4 : o4 = o3.drop v4.length) (hp4 : p4 = p3 ++ v4) (ho3 : o3 = o2.drop v3.length) (hp3 : p3 = p2 ++ v3) (ho2 : o2 = o1.drop v2.length) (hp2 : p2 = p1 ++ v2) (ho1 : o1 = old.drop v1.length) (hp1 : p1 = pre ++ v1) :
    News g L h (bufL P x d o (pre ++ (v1 ++ v2 ++ v3 ++ v4) ++ old.drop (v1 ++ v2 ++ v3 ++ v4).length) ((pre ++ (v1 ++ v2 ++ v3 ++ v4)).length : Nat) t1 t2 t3) := by
  subst ho4 hp4 ho3 hp3 ho2 hp2 ho1 hp1
  simp only [List.drop_drop, List.append_assoc, List.length_append, Nat.add_assoc] at N ⊢
  exact N
theorem push_ack_mid {pre old fin : List UInt8} {tR tI tD : Tok} {n1 delay : Int} {y0 : RG} {cn q : Nat} {xs : List (Int × Int)}
    (B : Below (AX dp un gd ll) base ll g) (X : (hd.heap_39 w.params).In g) (T : Top hd.view_39 LS mean mg mb g) (hdp : dp + 25 < recursionLimit) (hun : un + 10 * 25 < cLine)
    (hgs : ∀ p ∈ rsL w.params xr dr lr rs nl tr, g.get? p.1 = some p.2) (hgr : ∀ y ∈ rs, g.get? y.r = some (instObj 235 y.d) ∧ g.get? y.d = some (rngD w.params y.a y.b y.t1 y.t2 y.ta y.tb))
    (F : Fr g L s.heap (fun y => if y = Str.ofString "buf" then some (.ref x) else if y = Str.ofString "rangeset" then some (.ref xr) else if y = Str.ofString "delay" then some (.int delay tD) else if y = Str.ofString "ranges" then some (.int (cn : Nat) tR) else
      if y = Str.ofString "index" then some (.int n1 tI) else if y = Str.ofString "r" then some (.ref y0.r) else m₀ y))
    (N : News g L s.heap (bufL w.params x d o (pre ++ old) pre.length t1 t2 t3)) (hz : pre.length + old.length ≤ 100000) (hn1 : n1 = (rs.length : Int) - 1) (hcn : 1 ≤ cn) (hq : q + cn = rs.length) (hlen : rs.length ≤ 1000) (hd0 : 0 ≤ delay) (hd1 : delay < 4611686018427387904)
    (hym : y0 ∈ rs) (hxs : (pairsOf (rs.take (rs.length - 1))).reverse = xs) (hok : OkR ((y0.a, y0.b) :: xs))
    (hb : (venc (y0.b - 1)).length + ((venc delay).length + ((venc ((cn : Int) - 1)).length + ((venc (y0.b - 1 - y0.a)).length + 0))) ≤ old.length)
    (hf : venc (y0.b - 1) ++ venc delay ++ venc ((cn : Int) - 1) ++ venc (y0.b - 1 - y0.a) ++ fgap y0.a (xs.take (cn - 1)) = fin) (hfl : fin.length ≤ old.length)
    (ret : ∀ m' o' t3' h' tk, Fr g L h' m' → News g L h' (bufL w.params x d o' (pre ++ fin ++ old.drop fin.length) ((pre ++ fin).length : Nat) t1 t2 t3') → Q (.ret (.int (cn : Nat) tR)) { s with heap := h', toks := tk }) :
    wpAny (model PG w) ((AX dp un gd ll).deeper (envAt (hd.heap_39 w.params) 347 L)) (execs ((bodyAt (hd.heap_39 w.params) 347).drop 4) (envAt (hd.heap_39 w.params) 347 L)) Q (fun _ _ => False) s := by
  w_on
  obtain ⟨hb', he⟩ := at_of (K := hd.heap_39 w.params) (f := 347) (by k_is)
  rw [hb', he]
  simp only [List.drop_succ_cons, List.drop_zero]
  obtain ⟨hyr, hyd⟩ := hgr y0 hym
  obtain ⟨ok1, ok2, ok3, ok4, ok5⟩ := hok
  have done := fun o' t3' m₀' h' tk tO tS F' N' => push_ack_loop (m₀ := m₀') (tS := tS) (od := n1 - (cn : Int) + 1) (e := venc (y0.b - 1) ++ venc delay ++ venc ((cn : Int) - 1) ++ venc (y0.b - 1 - y0.a)) (q := q) (i := n1) (st := y0.a) (cn := cn) (tI := tI) (tR := tR) (o := o') (t3 := t3') (s := { s with heap := h', toks := tk }) (tO := tO) B X T hdp hun hgs hgr F' N' hz hfl (by omega) hlen (by omega) (by omega) ok1 (Int.le_trans (Int.le_of_lt ok2) ok3)
    (by rw [show cn - 1 + q = rs.length - 1 from by omega, hxs]; exact ok4) (by rw [show cn - 1 + q = rs.length - 1 from by omega, hxs]; exact ok5) (by rw [show cn - 1 + q = rs.length - 1 from by omega, hxs]; exact hf) ret
  rw [hb', he] at done
  simp only [List.drop_succ_cons, List.drop_zero] at done
  clear hb' he ret hfl hxs
  repeat' (first | (with_reducible (((with_reducible show wpAny _ _ (call _ _) _ _ _); (k_here; (k_dflt (show wpAny _ _ (call (Value.ref 190) [Value.ref _, Value.int _ _]) _ _ _)); k_dflt (refine' push_uint_call ?kB_q ?kF_q ?kX_q ?kT_q ?kN_q ?kf_q ?kk_q ?kw_q ?ks_q ?kd_q ?ku_q ?h0_q ?h1_q ?hv_q ?hz_q ?_; walk_at "mine con"; (case h0_q => first | with_reducible assumption | omega); (case h1_q => first | with_reducible assumption | omega); (case hv_q => assumption); (case hz_q => assumption); (intro o'_q t3'_q old'_q pre'_q h'_q tk'_q ho'_q hp'_q hn'_q hz'_q F'_q N'_q; (try k_sweep); (try dsimp only))))))) | (with_reducible (((with_reducible show wpAny _ _ (execs (_ :: _) _) _ _ _); (k_here; (k_dflt (show wpAny _ _ (execs (Stmt.While _ _ _ _ :: _) _) _ _ _)); refine halt ?_)))) | walk_at "mine oneD")
  (with_reducible rename Fr _ _ _ _ => F1)
  (with_reducible rename News _ _ _ _ => N1)
  exact done _ _ _ _ _ _ _ (fr_eq (mp_cons (mp_cons (mp_cons (mp_cons (mp_cons (mp_cons rfl rfl) rfl) rfl) rfl) rfl) rfl) F1) (news4 N1 (by assumption) (by assumption) (by assumption) (by assumption) (by assumption) (by assumption) (by assumption) (by assumption))
end
/-- the numbers of a frame that is written -/
inductive AckF (rs : List RG) (delay cap a b : Int) (xs : List (Int × Int)) (n : Nat) : Prop
  | mk (y0 : RG) (cn q : Nat) (FS : Int) (h1 : y0.a = a) (h2 : y0.b = b) (hym : y0 ∈ rs) (hy : rs[((rs.length : Int) - 1).toNat]? = some y0) (hxs : (pairsOf (rs.take (rs.length - 1))).reverse = xs) (hc : cntOf rs.length (mx (b - 1) delay) cap = cn)
      (hF : ((2 ^ vidx (mx (b - 1) delay) : Nat) : Int) = FS) (hF1 : 1 ≤ FS) (hF8 : FS ≤ 8) (hq : 2 ≤ Int.fdiv cap (2 * FS)) (hq2 : Int.fdiv cap (2 * FS) ≤ cap) (hcn : 1 ≤ cn) (hn : q + cn = rs.length)
      (hcnt : (cn : Int) = if 2 * ((rs.length : Int) + 1) * 8 > cap then min (rs.length : Int) (Int.fdiv cap (2 * FS) - 1) else (rs.length : Int))
      (hb : (venc (b - 1)).length + ((venc delay).length + ((venc ((cn : Int) - 1)).length + ((venc (b - 1 - a)).length + 0))) ≤ n)
      (hf : venc (b - 1) ++ venc delay ++ venc ((cn : Int) - 1) ++ venc (b - 1 - a) ++ fgap a (xs.take (cn - 1)) = fenc delay (((a, b) :: xs).take cn)) : AckF rs delay cap a b xs n
theorem ack_facts {rs : List RG} {delay cap a b : Int} {xs : List (Int × Int)} {n : Nat} (hxs : (pairsOf rs).reverse = (a, b) :: xs) (hc0 : 32 ≤ cap)
    (hfit : (fenc delay (((a, b) :: xs).take (cntOf rs.length (mx (b - 1) delay) cap))).length ≤ n) : AckF rs delay cap a b xs n := by
  have hn0 : 0 < rs.length := by
    cases rs with
    | nil => cases hxs
    | cons y r => exact Nat.succ_pos _
  obtain ⟨y0, hy0, hym, htk⟩ := take_last hn0 (Nat.le_refl _)
  rw [List.take_of_length_le (Nat.le_refl _), hxs] at htk
  injection htk with htk1 htk2
  injection htk1 with ha hb
  have hy0' : rs[((rs.length : Int) - 1).toNat]? = some y0 := by rw [← hy0]; congr 1; omega
  have hxl : xs.length = rs.length - 1 := by rw [htk2]; simp [pairsOf]
  have hFS : ∃ FS : Int, ((2 ^ vidx (mx (b - 1) delay) : Nat) : Int) = FS ∧ 1 ≤ FS ∧ FS ≤ 8 := ⟨_, rfl, by
    unfold vidx
    split
    · decide
    · split
      · decide
      · split <;> decide⟩
  obtain ⟨FS, hF, hF1, hF8⟩ := hFS
  have hq : 2 ≤ cap / (2 * FS) := Int.le_ediv_of_mul_le (by omega) (by omega)
  have hq2 : cap / (2 * FS) ≤ cap := Int.ediv_le_self _ (by omega)
  have hcnt : ((cntOf rs.length (mx (b - 1) delay) cap : Nat) : Int) = if 2 * ((rs.length : Int) + 1) * 8 > cap then min (rs.length : Int) (cap / (2 * FS) - 1) else (rs.length : Int) := by
    unfold cntOf
    rw [hF]
    split
    · rw [Int.toNat_of_nonneg (by omega)]
    · rfl
  rw [← Int.fdiv_eq_ediv_of_nonneg cap (by omega)] at hq hq2 hcnt
  generalize hc : cntOf rs.length (mx (b - 1) delay) cap = cn at hfit hcnt
  have hcn : 1 ≤ cn ∧ cn ≤ rs.length := by split at hcnt <;> omega
  clear hy0
  have hf : venc (b - 1) ++ venc delay ++ venc ((cn : Int) - 1) ++ venc (b - 1 - a) ++ fgap a (xs.take (cn - 1)) = fenc delay (((a, b) :: xs).take cn) := by
    obtain ⟨c', rfl⟩ : ∃ c', cn = c' + 1 := ⟨cn - 1, by omega⟩
    rw [List.take_succ_cons, Nat.add_sub_cancel]
    show _ = venc (b - 1) ++ venc delay ++ venc ((xs.take c').length : Int) ++ venc (b - 1 - a) ++ fgap a (xs.take c')
    rw [List.length_take, Nat.min_eq_left (by omega)]
    congr 4
    omega
  refine .mk y0 cn (rs.length - cn) FS ha.symm hb.symm hym hy0' htk2.symm hc hF hF1 hF8 hq hq2 hcn.1 (Nat.sub_add_cancel hcn.2) hcnt ?_ hf
  rw [← hf] at hfit
  simp only [List.length_append] at hfit
  omega
/-- where the two ways of the first test meet -/
inductive JA (nx0 : List (Addr × Obj)) (x xr yr : Addr) (n1 delay : Int) (cn : Nat) (m : Str → Option Value) (nx : List (Addr × Obj)) : Prop
  | mk (tR tI tD : Tok) (hn : nx = nx0) (h1 : m (Str.ofString "buf") = some (.ref x)) (h2 : m (Str.ofString "rangeset") = some (.ref xr)) (h3 : m (Str.ofString "delay") = some (.int delay tD)) (h4 : m (Str.ofString "ranges") = some (.int (cn : Nat) tR))
      (h5 : m (Str.ofString "index") = some (.int n1 tI)) (h6 : m (Str.ofString "r") = some (.ref yr)) : JA nx0 x xr yr n1 delay cn m nx
theorem push_ack_frame {w : World} {mean : ExcName → Option Value} {mg mb : Str → Option Value} {x d o xr dr lr : Addr} {t1 t2 t3 td tc tr : Tok} {nl : Nat} {pre old : List UInt8} {rs : List RG} {delay cap a b : Int} {xs : List (Int × Int)}
    (hxs : (pairsOf rs).reverse = (a, b) :: xs) (hok : OkR ((a, b) :: xs)) (hd0 : 0 ≤ delay) (hd1 : delay < 4611686018427387904) (hc0 : 32 ≤ cap) (hc1 : cap ≤ 100000) (hlen : rs.length ≤ 1000)
    (hz : pre.length + old.length ≤ 100000) (hfit : (fenc delay (((a, b) :: xs).take (cntOf rs.length (mx (b - 1) delay) cap))).length ≤ old.length) :
    ConE w mean mg mb 25 347 [.ref x, .ref xr, .int delay td, .int cap tc] [] (rsL w.params xr dr lr rs nl tr ++ rowsL w.params rs) (bufL w.params x d o (pre ++ old) pre.length t1 t2 t3)
      (fun r news' => ∃ o' t3' t, r = .int (cntOf rs.length (mx (b - 1) delay) cap : Nat) t ∧ ∀ e, e = fenc delay (((a, b) :: xs).take (cntOf rs.length (mx (b - 1) delay) cap)) → news' = bufL w.params x d o' (pre ++ e ++ old.drop e.length) ((pre ++ e).length : Nat) t1 t2 t3')
      (fun _ => False) := by
  intro dp un gd ll base g s R B X T Kp N hrd hdp hun ret fail
  w_on
  have hgs : ∀ p ∈ rsL w.params xr dr lr rs nl tr, g.get? p.1 = some p.2 := fun p hp => hrd p (List.mem_append_left _ hp)
  have hgr := rows_at (P := w.params) (g := g) (rs := rs) (fun p hp => hrd p (List.mem_append_right _ hp))
  have hgx : g.get? xr = some (instObj 329 dr) := hgs _ (.head _)
  have hgd : g.get? dr = some (rsD w.params lr tr) := hgs _ (.tail _ (.head _))
  obtain ⟨y0, cn, q, FS, rfl, rfl, hym, hy, hxs', hc, hF, hF1, hF8, hq, hq2, hcn, hn, hcnt, hb, hf⟩ := ack_facts hxs hc0 hfit
  rw [hc] at hfit ret
  obtain ⟨hyr, hyd⟩ := hgr y0 hym
  have hb62 : y0.b ≤ 4611686018427387904 := hok.2.2.1
  walk_at "mine enter"
  repeat' (first | (with_reducible (((with_reducible show wpAny _ _ (call _ _) _ _ _); (k_here; (k_dflt (show wpAny _ _ (call (Value.ref 312) [Value.ref _, Value.int _ _]) _ _ _)); k_dflt (refine' rs_item_call ?kB_q ?kF_q ?kX_q ?kT_q ?kN_q ?kf_q ?kk_q ?kr_q ?kd_q ?ku_q ?h0_q ?h1_q ?hy_q ?_; (case kB_q => assumption); (case kF_q => k_asm); (case kX_q => assumption); (case kT_q => assumption); (case kN_q => k_asm); (case kf_q => exact rfl); (case kk_q => exact rfl); (case kr_q => assumption); (case kd_q => walk_at "mine room"); (case ku_q => walk_at "mine room"); (case h0_q => first | with_reducible assumption | omega); (case h1_q => first | with_reducible assumption | omega); (case hy_q => assumption); (intro h'_q tk'_q F'_q N'_q; (try k_sweep); (try dsimp only))))))) | (with_reducible (((with_reducible show wpAny _ _ (call _ _) _ _ _); (k_here; (k_dflt (show wpAny _ _ (call (Value.ref 326) [Value.ref _]) _ _ _)); k_dflt (refine' ConE.callT (rs_len ?hz_q) ?kB_q ?kF_q ?kX_q ?kT_q ?kN_q ?kf_q ?kk_q ?kr_q ?kd_q ?ku_q ?_; (case kB_q => assumption); (case kF_q => k_asm); (case kX_q => assumption); (case kT_q => assumption); (case kN_q => k_asm); (case kf_q => exact rfl); (case kk_q => exact rfl); (case kr_q => exact fun p hp => Or.inr ((by assumption : ∀ p ∈ rsL _ _ _ _ _ _ _, Heap.get? _ p.1 = some p.2) p hp)); (case kd_q => walk_at "mine room"); (case ku_q => walk_at "mine room"); (case hz_q => first | with_reducible assumption | omega); (intro t'_q h'_q tk'_q F'_q N'_q; (try k_sweep); (try dsimp only [PySem.W.LenBack]); (try (refine ⟨⟨by omega, by omega⟩, ?_⟩)); (try dsimp only))))))) | (with_reducible (((with_reducible show wpAny _ _ (execs (_ :: _) _) _ _ _); (k_here; (k_dflt (show wpAny _ _ (execs (Stmt.If _ _ _ _ :: Stmt.Assign _ _ _ :: _) _) _ _ _)); refine halt ?_)))) | walk_at "mine oneD")
  refine halt ?_
  (with_reducible rename Fr _ _ _ _ => F1)
  (with_reducible rename News _ _ _ _ => N1)
  refine wpAny_execs_cons ?_
  refine exec_join F1 (JA (bufL w.params x d o (pre ++ old) pre.length t1 t2 t3) x xr y0.r ((rs.length : Int) - 1) delay cn) ?_ ?_
  · repeat' (first | (with_reducible (((with_reducible show wpAny _ _ (call _ _) _ _ _); (k_here; (k_dflt (show wpAny _ _ (call (Value.ref 204) [Value.int _ _]) _ _ _)); k_dflt (refine' ConE.callT (Con.toE (size_uint_var ?h1_q ?hF_q)) ?kB_q ?kF_q ?kX_q ?kT_q ?kN_q ?kf_q ?kk_q ?kr_q ?kd_q ?ku_q ?_; (case kB_q => assumption); (case kF_q => k_asm); (case kX_q => assumption); (case kT_q => assumption); (case kN_q => k_asm); (case kf_q => exact rfl); (case kk_q => exact rfl); (case kr_q => exact fun p hp => nomatch hp); (case kd_q => walk_at "mine room"); (case ku_q => walk_at "mine room"); (case h1_q => first | with_reducible assumption | omega); (case hF_q => assumption); (intro t'_q h'_q tk'_q F'_q N'_q; (try k_sweep); (try dsimp only))))))) | walk_at "mine oneD")
    all_goals
      (with_reducible rename Fr _ _ _ _ => F2)
      (with_reducible rename News _ _ _ _ => N2)
    · refine JoinPost.intro F2 N2 (.mk _ _ _ rfl rfl rfl rfl ((rfl : _ = some (Value.int _ _)).trans (congrArg (fun z => some (Value.int z _)) ?_)) rfl rfl)
      split at hcnt <;> split <;> omega
    · refine JoinPost.intro F2 N2 (.mk _ _ _ rfl rfl rfl rfl ((rfl : _ = some (Value.int (rs.length : Int) _)).trans (congrArg (fun z => some (Value.int z _)) ?_)) rfl rfl)
      split at hcnt <;> omega
  · intro h' tk m₁ news₁ F2 N2 hJ
    obtain ⟨tR, tI, tD, rfl, h1, h2, h3, h4, h5, h6⟩ := hJ
    have F3 := fr_eq (mp_cons (mp_cons (mp_cons (mp_cons (mp_cons (mp_cons rfl h6) h5) h4) h3) h2) h1) F2
    have done := push_ack_mid (Q := qk) (s := { s with heap := h', toks := tk }) (fin := fenc delay (((y0.a, y0.b) :: xs).take cn)) B X T hdp hun hgs hgr F3 N2 hz rfl hcn hn hlen hd0 hd1 hym hxs' hok hb hf hfit
      (fun m' o' t3' h' tk F' N' => ret _ _ _ _ ⟨_, _, _, rfl, fun e' he' => by rw [he']⟩ (Kept.of_fr F') (Led.of_news N'))
    obtain ⟨hb', he⟩ := at_of (K := hd.heap_39 w.params) (f := 347) (by k_is)
    rw [hb', he] at done
    simp only [List.drop_succ_cons, List.drop_zero] at done
    exact wpAny_mono done (fun _ _ h => h) fun _ _ h => h.elim
end Mine
end
section
open PySem PySem.W PyProof.Rows PySem.Calls
set_option maxRecDepth 100000
set_option maxHeartbeats 8000000
namespace Mine
theorem vidx_cases (v : Int) : (v ≤ 63 ∧ vidx v = 0) ∨ (¬ v ≤ 63 ∧ v ≤ 16383 ∧ vidx v = 1) ∨ (¬ v ≤ 63 ∧ ¬ v ≤ 16383 ∧ v ≤ 1073741823 ∧ vidx v = 2) ∨ (¬ v ≤ 63 ∧ ¬ v ≤ 16383 ∧ ¬ v ≤ 1073741823 ∧ vidx v = 3) := by
  unfold vidx
  by_cases c1 : v ≤ 63
  · exact .inl ⟨c1, by rw [if_pos c1]⟩
  · by_cases c2 : v ≤ 16383
    · exact .inr (.inl ⟨c1, c2, by rw [if_neg c1, if_pos c2]⟩)
    · by_cases c3 : v ≤ 1073741823
      · exact .inr (.inr (.inl ⟨c1, c2, c3, by rw [if_neg c1, if_neg c2, if_pos c3]⟩))
      · exact .inr (.inr (.inr ⟨c1, c2, c3, by rw [if_neg c1, if_neg c2, if_neg c3]⟩))
theorem vidx_le {v : Int} {n : Nat} (h : vidx v ≤ n) : (n = 0 → v ≤ 63) ∧ (n = 1 → v ≤ 16383) ∧ (n = 2 → v ≤ 1073741823) := by
  rcases vidx_cases v with ⟨c, e⟩ | ⟨_, c, e⟩ | ⟨_, _, c, e⟩ | ⟨_, _, _, e⟩ <;> rw [e] at h <;> refine ⟨fun q => ?_, fun q => ?_, fun q => ?_⟩ <;> subst q <;> first | exact Int.le_trans c (by decide) | exact absurd h (by decide)
theorem vidx_3 (v : Int) : vidx v ≤ 3 := by
  rcases vidx_cases v with ⟨_, e⟩ | ⟨_, _, e⟩ | ⟨_, _, _, e⟩ | ⟨_, _, _, e⟩ <;> rw [e] <;> decide
theorem upto3 {i : Nat} (h : i ≤ 3) : i = 0 ∨ i = 1 ∨ i = 2 ∨ i = 3 := by omega
theorem vidx_max {v : Int} {l i : Nat} (hl : l ≤ 3) (hi : i = max (vidx v) l) : (i = 0 ∧ v ≤ 63) ∨ (i = 1 ∧ v ≤ 16383) ∨ (i = 2 ∧ v ≤ 1073741823) ∨ i = 3 := by
  have a : vidx v ≤ i := hi ▸ Nat.le_max_left _ _
  obtain ⟨c0, c1, c2⟩ := vidx_le a
  rcases upto3 (hi ▸ Nat.max_le.mpr ⟨vidx_3 v, hl⟩ : i ≤ 3) with e | e | e | e
  · exact .inl ⟨e, c0 e⟩
  · exact .inr (.inl ⟨e, c1 e⟩)
  · exact .inr (.inr (.inl ⟨e, c2 e⟩))
  · exact .inr (.inr (.inr e))
theorem j_cases {v j : Int} (h0 : 0 ≤ j) (h3 : j ≤ 3) : (j = 0 ∧ v < 64) ∨ (j = 0 ∧ 64 ≤ v) ∨ (j = 1 ∧ v < 16384) ∨ (j = 1 ∧ 16384 ≤ v) ∨ (j = 2 ∧ v < 1073741824) ∨ (j = 2 ∧ 1073741824 ≤ v) ∨ j = 3 := by
  obtain ⟨n, rfl⟩ := Int.eq_ofNat_of_zero_le h0
  rcases upto3 (Int.ofNat_le.mp h3) with rfl | rfl | rfl | rfl
  · exact (Int.lt_or_le v 64).elim (fun h => .inl ⟨rfl, h⟩) fun h => .inr (.inl ⟨rfl, h⟩)
  · exact (Int.lt_or_le v 16384).elim (fun h => .inr (.inr (.inl ⟨rfl, h⟩))) fun h => .inr (.inr (.inr (.inl ⟨rfl, h⟩)))
  · exact (Int.lt_or_le v 1073741824).elim (fun h => .inr (.inr (.inr (.inr (.inl ⟨rfl, h⟩))))) fun h => .inr (.inr (.inr (.inr (.inr (.inl ⟨rfl, h⟩)))))
  · exact .inr (.inr (.inr (.inr (.inr (.inr rfl)))))
/-- a number in at least 2 ** l octets -/
noncomputable def vput (v : Int) (l : Nat) : List UInt8 :=
  if max (vidx v) l = 0 then beI 1 v else if max (vidx v) l = 1 then beI 2 (v + 16384) else if max (vidx v) l = 2 then beI 4 (v + 2147483648) else beI 8 (v + 13835058055282163712)
theorem vput_zero (v : Int) : vput v 0 = venc v := by
  unfold vput venc
  rw [Nat.max_eq_left (Nat.zero_le _)]
  rcases vidx_cases v with ⟨c1, e⟩ | ⟨c1, c2, e⟩ | ⟨c1, c2, c3, e⟩ | ⟨c1, c2, c3, e⟩ <;> rw [e] <;> simp [*]
theorem shl_to {prog : Program} {w : World} {A : Around} {E : Value → Shared → Prop} {s : Shared} {Q : Value → Shared → Prop} {a k : Int} {t u : Tok} (r : Int) (hr : a * 2 ^ k.toNat = r) (hk : 0 ≤ k) (hk2 : k ≤ 1000000) (ha : a.natAbs < 2 ^ 64) (h : Q (.int r s.toks) { s with toks := s.toks + 1 }) :
    wpAny (model prog w) A (binaryOp .LShift (.int a t) (.int k u)) Q E s := by
  subst hr
  exact lshift_int_small hk hk2 ha h
inductive IJ (v : Int) (t1 : Tok) (n : Nat) (m : Str → Option Value) (nx : List (Addr × Obj)) : Prop
  | mk (j : Int) (tj : Tok) (h1 : m (Str.ofString "index") = some (.int j tj)) (h2 : m (Str.ofString "value") = some (.int v t1)) (hn : nx = []) (h3 : 0 ≤ j) (h4 : j ≤ (vidx v : Nat)) (h5 : n = 4 - j.toNat) : IJ v t1 n m nx
theorem law_index {w : World} {mean : ExcName → Option Value} {mg mb : Str → Option Value} {v : Int} {t1 : Tok} (h0 : 0 ≤ v) (h1 : v < 4611686018427387904) :
    Con w mean mg mb 5 361 [.int v t1] [] [] (fun r news' => (∃ t, r = .int (vidx v : Nat) t) ∧ news' = []) := by
  intro dp un gd l base g s R B X T Kp N hdp hun ret
  w_on
  have hvc := (id (vidx_cases v) : Halt _)
  walk_at "mine enter"
  repeat' (first | (with_reducible (((with_reducible show wpAny _ _ (exec _ _) _ _ _); (k_here; (with_reducible show wpAny _ _ (exec (Stmt.While _ _ _ _) _) _ _ _); refine halt ?_)))) | walk_at "mine oneD")
  (with_reducible rename Fr _ _ _ _ => F1)
  (with_reducible rename News _ _ _ _ => N1)
  refine halt ?_
  refine While_inv2 (IJ v t1) F1 N1 (n₀ := 4) ?h0 ?turn
  case h0 => exact ⟨0, _, rfl, rfl, rfl, Int.le_refl _, Int.natCast_nonneg _, rfl⟩
  case turn =>
    rintro n m₁ news₁ h₁ tk₁ F2 N2 ⟨j, tj, e1, e2, rfl, hj0, hj1, hn⟩
    have F3 : Fr g _ _ _ := fr_eq (mp_cons (mp_cons rfl e2) e1) F2
    clear F1 N1 F2 e1 e2
    have hj := j_cases (v := v) hj0 (Int.le_trans hj1 (Int.ofNat_le.mpr (vidx_3 v)))
    rcases hj with ⟨rfl, hb⟩ | ⟨rfl, hb⟩ | ⟨rfl, hb⟩ | ⟨rfl, hb⟩ | ⟨rfl, hb⟩ | ⟨rfl, hb⟩ | rfl
    case' inr.inr.inr.inr.inr.inr => have hb : v < 4611686018427387904 := h1
    all_goals
      replace hj1 : Halt (_ ≤ ((vidx v : Nat) : Int)) := hj1
      iterate 17 ((first | (with_reducible (((with_reducible show wpAny _ _ (binaryOp Operator.LShift _ _) _ _ _); (k_here; (with_reducible show wpAny _ _ (binaryOp _ (Value.int 1 _) (Value.int _ _)) _ _ _); (first | (refine' shl_to 1 ?hr_q ?hk_q ?h2_q ?ha_q ?_; (case hr_q => (simp; done)); (case hk_q => first | with_reducible assumption | omega); (case h2_q => first | with_reducible assumption | omega); (case ha_q => decide)) | (refine' shl_to 2 ?hr_q ?hk_q ?h2_q ?ha_q ?_; (case hr_q => (simp; done)); (case hk_q => first | with_reducible assumption | omega); (case h2_q => first | with_reducible assumption | omega); (case ha_q => decide)) | (refine' shl_to 4 ?hr_q ?hk_q ?h2_q ?ha_q ?_; (case hr_q => (simp; done)); (case hk_q => first | with_reducible assumption | omega); (case h2_q => first | with_reducible assumption | omega); (case ha_q => decide)) | (refine' shl_to 8 ?hr_q ?hk_q ?h2_q ?ha_q ?_; (case hr_q => (simp; done)); (case hk_q => first | with_reducible assumption | omega); (case h2_q => first | with_reducible assumption | omega); (case ha_q => decide)) | (refine' shl_to 64 ?hr_q ?hk_q ?h2_q ?ha_q ?_; (case hr_q => (simp; done)); (case hk_q => first | with_reducible assumption | omega); (case h2_q => first | with_reducible assumption | omega); (case ha_q => decide)) | (refine' shl_to 16384 ?hr_q ?hk_q ?h2_q ?ha_q ?_; (case hr_q => (simp; done)); (case hk_q => first | with_reducible assumption | omega); (case h2_q => first | with_reducible assumption | omega); (case ha_q => decide)) | (refine' shl_to 1073741824 ?hr_q ?hk_q ?h2_q ?ha_q ?_; (case hr_q => (simp; done)); (case hk_q => first | with_reducible assumption | omega); (case h2_q => first | with_reducible assumption | omega); (case ha_q => decide)) | (refine' shl_to 4611686018427387904 ?hr_q ?hk_q ?h2_q ?ha_q ?_; (case hr_q => (simp; done)); (case hk_q => first | with_reducible assumption | omega); (case h2_q => first | with_reducible assumption | omega); (case ha_q => decide))))))) | walk_at "mine oneD"))
      first | rw [if_pos (decide_eq_true hb)] | rw [if_neg (by rw [decide_eq_true_eq]; omega)]
      replace hb : Halt _ := hb
      replace h1 : Halt _ := h1
      replace h0 : Halt _ := h0
      repeat' walk_at "mine oneD"
      unfold Halt at hvc hj1 hb h1 h0
      (with_reducible rename Fr _ _ _ _ => F3)
      (with_reducible rename News _ _ _ _ => N3)
      first
        | (refine WhileStep2.go F3 N3 ?_ ⟨_, _, rfl, rfl, rfl, ?_, ?_, rfl⟩
           · omega
           · omega
           · omega)
        | exact ret _ _ _ _ ⟨⟨_, congrArg (fun z => Value.int z _) (by omega)⟩, rfl⟩ (Kept.of_fr F3) (Led.of_news N3)
end Mine
end
section
open PySem PySem.W PyProof.Rows PySem.Calls
set_option maxRecDepth 100000
set_option maxHeartbeats 8000000
namespace Mine
inductive PJ2 (v : Int) (t1 : Tok) (i : Nat) (m : Str → Option Value) (nx : List (Addr × Obj)) : Prop
  | mk (t : Tok) (hn : nx = []) (h1 : m (Str.ofString "index") = some (.int (i : Nat) t)) (h2 : m (Str.ofString "value") = some (.int v t1)) : PJ2 v t1 i m nx
theorem law_put {w : World} {mean : ExcName → Option Value} {mg mb : Str → Option Value} {v : Int} {l : Nat} {t1 t2 : Tok} (h0 : 0 ≤ v) (h1 : v < 4611686018427387904) (hl : l ≤ 3) :
    Con w mean mg mb 10 368 [.int v t1, .int (l : Nat) t2] [] [] (fun r news' => (∃ t, r = .bytes (vput v l).toArray t) ∧ news' = []) := by
  intro dp un gd ll base g s R B X T Kp N hdp hun ret
  w_on
  have hi : ∃ i : Nat, i = max (vidx v) l := ⟨_, rfl⟩
  obtain ⟨i, hi⟩ := hi
  have hv : vput v l = if i = 0 then beI 1 v else if i = 1 then beI 2 (v + 16384) else if i = 2 then beI 4 (v + 2147483648) else beI 8 (v + 13835058055282163712) := by rw [hi]; rfl
  have hv0 : i = 0 → vput v l = beI 1 (v + 0) := fun e => by rw [hv, if_pos e, Int.add_zero]
  have hv1 : i = 1 → vput v l = beI 2 (v + 16384) := fun e => by rw [hv, if_neg (by omega), if_pos e]
  have hv2 : i = 2 → vput v l = beI 4 (v + 2147483648) := fun e => by rw [hv, if_neg (by omega), if_neg (by omega), if_pos e]
  have hv3 : i = 3 → vput v l = beI 8 (v + 13835058055282163712) := fun e => by rw [hv, if_neg (by omega), if_neg (by omega), if_neg (by omega)]
  have hi3 := vidx_max hl hi
  walk_at "mine enter"
  (with_reducible rename Fr _ _ _ _ => F1)
  (with_reducible rename News _ _ _ _ => N1)
  refine wpAny_execs_cons ?_
  refine exec_join F1 (PJ2 v t1 i) ?_ ?_
  · clear hi3 hv hv0 hv1 hv2 hv3
    repeat' (first | (with_reducible (((with_reducible show wpAny _ _ (call _ _) _ _ _); (k_here; (k_dflt (show wpAny _ _ (call (Value.ref 361) [Value.int _ _]) _ _ _)); k_dflt (refine' ConE.callT (Con.toE (law_index ?h0_q ?h1_q)) ?kB_q ?kF_q ?kX_q ?kT_q ?kN_q ?kf_q ?kk_q ?kr_q ?kd_q ?ku_q ?_; (case kB_q => assumption); (case kF_q => k_asm); (case kX_q => assumption); (case kT_q => assumption); (case kN_q => k_asm); (case kf_q => exact rfl); (case kk_q => exact rfl); (case kr_q => exact fun p hp => nomatch hp); (case kd_q => walk_at "mine room"); (case ku_q => walk_at "mine room"); (case h0_q => first | with_reducible assumption | omega); (case h1_q => first | with_reducible assumption | omega); (intro t'_q h'_q tk'_q F'_q N'_q; (try k_sweep); (try dsimp only))))))) | walk_at "mine oneD")
    (with_reducible rename Fr _ _ _ _ => F2)
    (with_reducible rename News _ _ _ _ => N2)
    refine JoinPost.intro F2 N2 (.mk _ rfl ((if_pos rfl).trans (congrArg (fun z => some (Value.int z _)) ?_)) rfl)
    split <;> omega
  · rintro h' tk m₁ news₁ F2 N2 ⟨tc', rfl, h1, h2⟩
    have F3 : Fr g _ _ _ := fr_eq (mp_cons (mp_cons rfl h2) h1) F2
    clear F1 N1 hi F2 h1 h2
    dsimp only
    rcases hi3 with ⟨rfl, hb⟩ | ⟨rfl, hb⟩ | ⟨rfl, hb⟩ | rfl
    all_goals
      first | rw [hv0 rfl] at ret | rw [hv1 rfl] at ret | rw [hv2 rfl] at ret | rw [hv3 rfl] at ret
      clear hv hv0 hv1 hv2 hv3
      repeat' (first | (with_reducible (((with_reducible show wpAny _ _ (binaryOp Operator.LShift _ _) _ _ _); (k_here; (with_reducible show wpAny _ _ (binaryOp _ (Value.int _ _) (Value.int _ _)) _ _ _); (first | (refine' shl_to 0 ?hr_q ?hk_q ?h2_q ?ha_q ?_; (case hr_q => (simp; done)); (case hk_q => first | with_reducible assumption | omega); (case h2_q => first | with_reducible assumption | omega); (case ha_q => decide)) | (refine' shl_to 1 ?hr_q ?hk_q ?h2_q ?ha_q ?_; (case hr_q => (simp; done)); (case hk_q => first | with_reducible assumption | omega); (case h2_q => first | with_reducible assumption | omega); (case ha_q => decide)) | (refine' shl_to 2 ?hr_q ?hk_q ?h2_q ?ha_q ?_; (case hr_q => (simp; done)); (case hk_q => first | with_reducible assumption | omega); (case h2_q => first | with_reducible assumption | omega); (case ha_q => decide)) | (refine' shl_to 4 ?hr_q ?hk_q ?h2_q ?ha_q ?_; (case hr_q => (simp; done)); (case hk_q => first | with_reducible assumption | omega); (case h2_q => first | with_reducible assumption | omega); (case ha_q => decide)) | (refine' shl_to 8 ?hr_q ?hk_q ?h2_q ?ha_q ?_; (case hr_q => (simp; done)); (case hk_q => first | with_reducible assumption | omega); (case h2_q => first | with_reducible assumption | omega); (case ha_q => decide)) | (refine' shl_to 64 ?hr_q ?hk_q ?h2_q ?ha_q ?_; (case hr_q => (simp; done)); (case hk_q => first | with_reducible assumption | omega); (case h2_q => first | with_reducible assumption | omega); (case ha_q => decide)) | (refine' shl_to 16384 ?hr_q ?hk_q ?h2_q ?ha_q ?_; (case hr_q => (simp; done)); (case hk_q => first | with_reducible assumption | omega); (case h2_q => first | with_reducible assumption | omega); (case ha_q => decide)) | (refine' shl_to 1073741824 ?hr_q ?hk_q ?h2_q ?ha_q ?_; (case hr_q => (simp; done)); (case hk_q => first | with_reducible assumption | omega); (case h2_q => first | with_reducible assumption | omega); (case ha_q => decide)) | (refine' shl_to 2147483648 ?hr_q ?hk_q ?h2_q ?ha_q ?_; (case hr_q => (simp; done)); (case hk_q => first | with_reducible assumption | omega); (case h2_q => first | with_reducible assumption | omega); (case ha_q => decide)) | (refine' shl_to 13835058055282163712 ?hr_q ?hk_q ?h2_q ?ha_q ?_; (case hr_q => (simp; done)); (case hk_q => first | with_reducible assumption | omega); (case h2_q => first | with_reducible assumption | omega); (case ha_q => decide))))))) | (with_reducible (((with_reducible show wpAny _ _ (call (Value.builtin "int.to_bytes") _) _ _ _); (k_here; (first | (with_unfolding_all refine tobytes (B := 256) 1 (by decide) (by decide) (by omega) (by omega) ?_) | (with_unfolding_all refine tobytes (B := 65536) 2 (by decide) (by decide) (by omega) (by omega) ?_) | (with_unfolding_all refine tobytes (B := 4294967296) 4 (by decide) (by decide) (by omega) (by omega) ?_) | (with_unfolding_all refine tobytes (B := 18446744073709551616) 8 (by decide) (by decide) (by omega) (by omega) ?_)); intro _ _; (try dsimp only))))) | walk_at "mine oneD")
      (with_reducible rename Fr _ _ _ _ => F3)
      (with_reducible rename News _ _ _ _ => N3)
      first
        | exact ret _ _ _ _ ⟨⟨_, rfl⟩, rfl⟩ (Kept.of_fr F3) (Led.of_news N3)
end Mine
end
section
open PySem PySem.W PyProof.Rows PySem.Calls
set_option maxRecDepth 100000
set_option maxHeartbeats 8000000
namespace Mine
section
variable {prog : Program} {w : World} {A : Around} {E : Value → Shared → Prop} {s : Shared} {Q : Value → Shared → Prop} {a b : Int} {t u : Tok}
theorem div_lit (hb : 0 < b) (hp : Builtin.divisionGoesByPylong a b = false) (h : Q (.int (a / b) s.toks) { s with toks := s.toks + 1 }) : wpAny (model prog w) A (binaryOp .FloorDiv (.int a t) (.int b u)) Q E s :=
  floordiv_int (by omega) (by rw [Int.fdiv_eq_ediv_of_nonneg a (by omega)]; exact h) (.inl hp)
theorem mod_lit (hb : 0 < b) (h : Q (.int (a % b) s.toks) { s with toks := s.toks + 1 }) : wpAny (model prog w) A (binaryOp .Mod (.int a t) (.int b u)) Q E s :=
  mod_int' (by omega) (by rw [Int.fmod_eq_emod_of_nonneg a (by omega)]; exact h)
theorem mul_b (h1 : -(2 ^ 64) < b) (h2 : b < 2 ^ 64) (h : Q (.int (a * b) s.toks) { s with toks := s.toks + 1 }) : wpAny (model prog w) A (binaryOp .Mult (.int a t) (.int b u)) Q E s :=
  PyProof.Rows.mul_int h (PySem.IntMulOk.of_right (PySem.intBits_le_64 h1 h2))
end
theorem rows_fin {g h : Heap} {L I D T : Addr} {it : Obj} {its : Array Value} {n : Nat} {trs : List TR} {a b : Int} {ta tb : Tok} {all : List (Addr × Obj)} (N : News g L h all) (hI : (I, it) ∈ all) (hD : (D, listOf its n) ∈ all) (hT : (T, tupO [.int a ta, .int b tb]) ∈ all)
    (he : its = (refsT (trs ++ [⟨T, a, b, ta, tb⟩])).toArray) (ht : ∀ p ∈ rowsT trs, p ∈ all) : News g L h ([(I, it)] ++ ((D, listOf (refsT (trs ++ [⟨T, a, b, ta, tb⟩])).toArray n) :: rowsT (trs ++ [⟨T, a, b, ta, tb⟩]))) := by
  subst he
  refine news_sub N fun p hp => ?_
  simp only [rowsT, List.map_append, List.map_cons, List.map_nil, List.mem_cons, List.mem_append, List.not_mem_nil, or_false] at hp
  rcases hp with rfl | rfl | hp | rfl
  · exact hI
  · simpa [refsT] using hD
  · exact ht p hp
  · exact hT
theorem truthy_L {prog : Program} {w : World} {A : Around} {E : Value → Shared → Prop} {s : Shared} {h₀ : Heap} {L D : Addr} {news : List (Addr × Obj)} {its : Array Value} {n : Nat} {b : Bool} {Q : Bool → Shared → Prop} (N : News h₀ L s.heap news) (hm : (D, listOf its n) ∈ news) (hz : its.size ≤ 16777216) (hb : (!its.isEmpty) = b) (h : ∀ k, Q b { s with toks := k }) :
    wpAny (model prog w) A (truthy (.ref D)) Q E s := by
  subst hb
  exact wpAny_truthy_list (list_at N hm) (by omega) (h _)
theorem one_fin {g h : Heap} {L l T : Addr} {n : Nat} {a b : Int} {ta tb : Tok} {r : List (Addr × Obj)} (N : News g L h ((l, listOf #[.ref T] n) :: (T, tupO [.int a ta, .int b tb]) :: r)) : Led g h ((l, listOf (refsT [⟨T, a, b, ta, tb⟩]).toArray n) :: rowsT [⟨T, a, b, ta, tb⟩]) := by
  refine Led.of_news (news_sub N fun p hp => ?_)
  simp only [rowsT, List.map_cons, List.map_nil, List.mem_cons, List.not_mem_nil, or_false] at hp
  rcases hp with rfl | rfl
  · exact .head _
  · exact .tail _ (.head _)
theorem news_head {g h : Heap} {L a : Addr} {o : Obj} {r : List (Addr × Obj)} (_ : News g L h ((a, o) :: r)) : ∃ a', a' = a := ⟨a, rfl⟩
/-- what stands at the loop of _law_rows -/
inductive RJ (D : Addr) (base0 : Int) (t1 : Tok) (ns : List Int) (i : Nat) (m : Str → Option Value) (nx : List (Addr × Obj)) : Prop
  | mk (trs : List TR) (n : Nat) (p : Int) (tp : Tok) (h1 : m (Str.ofString "place") = some (.int p tp)) (h2 : m (Str.ofString "rows") = some (.ref D)) (h3 : m (Str.ofString "base") = some (.int base0 t1)) (hn : nx = (D, listOf (refsT trs).toArray n) :: rowsT trs) (htr : pairsT trs = lrows base0 (ns.take i))
      (hp : p = lend base0 (ns.take i)) (hp0 : base0 ≤ p) (hp1 : p ≤ base0 + 14000000 * i) : RJ D base0 t1 ns i m nx
theorem law_rows {w : World} {mean : ExcName → Option Value} {mg mb : Str → Option Value} {base0 : Int} {ln : Addr} {vsN : List Value} {ns : List Int} {nN : Nat} {t1 : Tok} (h0 : 0 ≤ base0) (h1 : base0 ≤ 4611686018427387904) (hI : IntsAre vsN ns) (hlen : ns.length ≤ 30) :
    ConE w mean mg mb 10 375 [.int base0 t1, .ref ln] [] [(ln, listOf vsN.toArray nN)] []
      (fun r news' => ∃ D n trs, r = .ref D ∧ news' = (D, listOf (refsT trs).toArray n) :: rowsT trs ∧ pairsT trs = if ns = [] then [(base0, base0 + 1)] else lrows base0 ns) (fun _ => False) := by
  intro dp un gd ll base g s R B X T Kp N hrd hdp hun ret fail
  w_on
  have hgl : g.get? ln = some (listOf vsN.toArray nN) := hrd _ (.head _)
  walk_at "mine enter"
  repeat' (first | (with_reducible (((with_reducible show wpAny _ _ (exec (Stmt.For _ _ _ _ _) _) _ _ _); (k_here; (rename Fr _ _ _ _ => lF'_q); (with_unfolding_all refine' For_turns lF'_q ?_; k_whole))))) | (with_reducible (((with_reducible show wpAny _ _ (pyIter _) _ _ _); (k_here; (with_reducible show wpAny _ _ (pyIter (Value.ref _)) (fun it s₂ => TurnsAt _ _ _ _ _ _ _ _ _ it s₂) _ _); refine halt ?_)))) | walk_at "mine oneD")
  refine halt ?_
  (with_reducible rename Fr _ _ _ _ => F1)
  (with_reducible rename News _ _ _ _ => N1)
  obtain ⟨D, hD⟩ := news_head N1
  subst hD
  refine list_J (vs := vsN) (keep := []) (RJ D base0 t1 ns) rfl F1 N1 ⟨_, F1.keep _ _ hgl, rfl, _, rfl⟩ (.inr ⟨_, hgl⟩) (fun _ _ _ _ _ h => nomatch h) ?h0 ?turn ?done
  case h0 => exact ⟨[], 0, base0, _, rfl, rfl, rfl, rfl, rfl, rfl, Int.le_refl _, by omega⟩
  case turn =>
    rintro i v m₁ news₁ h₁ tk₁ I it hv ⟨trs, n, p, tp, e1, e2, e3, rfl, htr, hp, hp0, hp1⟩ hc F2 N2
    obtain ⟨nn, tn, rfl, hnn⟩ := hI.at i v hv
    have F3 : Fr g L'_q _ _ := fr_eq (mp_cons (mp_cons (mp_cons rfl e3) e2) e1) F2
    clear F1 N1 F2 e1 e2 e3
    have hi : i < ns.length := by
      rcases Nat.lt_or_ge i ns.length with q | q
      · exact q
      · rw [List.getElem?_eq_none q] at hnn; cases hnn
    have hrg := lnxt_range p nn
    have hsc : 1 ≤ scl nn ∧ scl nn ≤ 1000000 := by rcases scl_range nn with e | e | e <;> rw [e] <;> decide
    obtain ⟨hsc1, hsc2⟩ := hsc
    have htl : trs.length = i := by
      have := congrArg List.length htr
      rw [List.length_map, lrows_length, List.length_take] at this
      omega
    have hmenu : ([1, 1, 20, 10 ^ Int.toNat 6] : List Int).getD (nn / 45 % 4).toNat 0 = scl nn := by
      have h1 := Int.emod_nonneg (nn / 45) (show (4 : Int) ≠ 0 by decide)
      have h2 := Int.emod_lt_of_pos (nn / 45) (show (0 : Int) < 4 by decide)
      have hq : nn / 45 % 4 = 0 ∨ nn / 45 % 4 = 1 ∨ nn / 45 % 4 = 2 ∨ nn / 45 % 4 = 3 := by omega
      unfold scl
      rcases hq with e | e | e | e <;> rw [e] <;> rfl
    have hDI := news_neT N2 (.head _) (.tail _ (.head _)) hc (tyne (by decide))
    repeat' (first | (with_reducible (((with_reducible show wpAny _ _ (binaryOp Operator.Mod _ _) _ _ _); (k_here; (with_reducible show wpAny _ _ (binaryOp _ (Value.int _ _) (Value.int _ _)) _ _ _); (refine' mod_lit ?hb_q ?_; (case hb_q => decide)))))) | (with_reducible (((with_reducible show wpAny _ _ (binaryOp Operator.Mult _ _) _ _ _); (k_here; (with_reducible show wpAny _ _ (binaryOp _ (Value.int _ _) (Value.int _ _)) _ _ _); (refine' mul_b ?h1_q ?h2_q ?_; (case h1_q => first | with_reducible assumption | omega); (case h2_q => first | with_reducible assumption | omega)))))) | (with_reducible (((with_reducible show wpAny _ _ (call _ _) _ _ _); (k_here; (with_reducible show wpAny _ _ (call (Value.builtin _) [Value.ref _, _]) _ _ _); k_dflt (refine' append_S ?F_q ?N_q ?m_q ?s_q ?z_q ?_; (case F_q => k_asm); (case N_q => k_asm); (case m_q => k_mem); (case s_q => walk_at "mine split2"); (case z_q => (simp only [List.length_map, List.size_toArray]; omega)); intro h'_q F'_q N'_q; (try k_sweep); (try dsimp only)))))) | walk_at "mine oneD")
    (with_reducible rename Fr _ _ _ _ => F3)
    (with_reducible rename News _ _ _ _ => N3)
    rw [hmenu] at F3 N3
    have N4 := rows_fin (I := I) (D := D) (trs := trs) N3 (by k_mem) (.head _) (.tail _ (.head _)) (by simp [refsT]) (by walk_at "mine sub")
    refine StepO.go (.inl rfl) F3 N4 (List.forall_mem_cons.mpr ⟨by simp, rowsT_cls (by simp)⟩) ⟨_, _, lnxt p nn, _, rfl, rfl, rfl, rfl, ?_, ?_, by omega, by omega⟩
    · have e : ns.take (i + 1) = ns.take i ++ [nn] := by rw [List.take_succ, hnn]; rfl
      rw [e, (lrows_snoc _ _ _).1, ← htr, ← hp, pairsT, List.map_append]; rfl
    · have e : ns.take (i + 1) = ns.take i ++ [nn] := by rw [List.take_succ, hnn]; rfl
      rw [e, (lrows_snoc _ _ _).2, ← hp]
  case done =>
    rintro h' tk m' news' F2 N2 ⟨trs, n, p, tp, e1, e2, e3, rfl, htr, hp, hp0, hp1⟩
    have F3 : Fr g L'_q _ _ := fr_eq (mp_cons (mp_cons rfl e3) e2) F2
    clear F1 N1 F2 e1 e2 e3
    have hvl := hI.length
    rw [hvl, List.take_length] at htr
    cases trs with
    | nil =>
      have hns : ns = [] := by
        have := congrArg List.length htr
        rw [lrows_length] at this
        exact List.eq_nil_of_length_eq_zero this.symm
      rw [if_pos hns] at ret
      dsimp only [refsT, rowsT, List.map_nil] at N2
      repeat' (first | ((with_reducible show wpAny _ _ (truthy _) _ _ _); (k_here; (with_reducible show wpAny _ _ (truthy (Value.ref _)) _ _ _); (first | (refine' truthy_L (b := true) ?N_q ?m_q ?z_q ?b_q ?_; (case N_q => k_asm); (case m_q => k_mem); (case z_q => (simp only [List.length_map, List.size_toArray, List.length_cons, List.length_nil]; omega)); (case b_q => rfl)) | (refine' truthy_L (b := false) ?N_q ?m_q ?z_q ?b_q ?_; (case N_q => k_asm); (case m_q => k_mem); (case z_q => (simp only [List.length_map, List.size_toArray, List.length_cons, List.length_nil]; omega)); (case b_q => rfl))); intro _; (try dsimp only))) | walk_at "mine oneD")
      (with_reducible rename Fr _ _ _ _ => F3)
      (with_reducible rename News _ _ _ _ => N3)
      exact ret _ _ _ _ ⟨_, _, _, rfl, rfl, rfl⟩ (Kept.of_fr F3) (one_fin N3)
    | cons y0 trs =>
      have hns : ns ≠ [] := fun e => by rw [e] at htr; simp [lrows] at htr
      rw [if_neg hns] at ret
      have htl : trs.length + 1 ≤ 30 := by
        have := congrArg List.length htr
        rw [lrows_length] at this
        simp only [List.length_map, List.length_cons] at this
        omega
      dsimp only [refsT, List.map_cons] at N2
      repeat' (first | ((with_reducible show wpAny _ _ (truthy _) _ _ _); (k_here; (with_reducible show wpAny _ _ (truthy (Value.ref _)) _ _ _); (first | (refine' truthy_L (b := true) ?N_q ?m_q ?z_q ?b_q ?_; (case N_q => k_asm); (case m_q => k_mem); (case z_q => (simp only [List.length_map, List.size_toArray, List.length_cons, List.length_nil]; omega)); (case b_q => rfl)) | (refine' truthy_L (b := false) ?N_q ?m_q ?z_q ?b_q ?_; (case N_q => k_asm); (case m_q => k_mem); (case z_q => (simp only [List.length_map, List.size_toArray, List.length_cons, List.length_nil]; omega)); (case b_q => rfl))); intro _; (try dsimp only))) | walk_at "mine oneD")
      (with_reducible rename Fr _ _ _ _ => F3)
      (with_reducible rename News _ _ _ _ => N3)
      exact ret _ _ _ _ ⟨D, _, y0 :: trs, rfl, rfl, htr⟩ (Kept.of_fr F3) (Led.of_news N3)
end Mine
end
section
open PySem PySem.W PyProof.Rows PySem.Calls
set_option maxRecDepth 100000
set_option maxHeartbeats 8000000
namespace Mine
section
variable {prog : Program} {w : World} {A : Around} {E : Value → Shared → Prop} {s : Shared} {Q : Value → Shared → Prop} {value slice : PySem.Expr} {u : Tok} {h₀ : Heap} {L D : Addr} {m : Str → Option Value} {trs : List TR} {i : Int} {y : TR}
theorem itemT {h : Heap} (hl : h.IsList D (refsT trs).toArray) (k : ∀ o, h.get? D = some o → s.heap.get? D = some o) (h0 : 0 ≤ i) (h1 : i < 1000000) (hy : trs[i.toNat]? = some y) (hq : Q (.ref y.t) s)
    (hs : subscripted slice false (.ref D) (.int i u) = operate [.ref D, .int i u] (getItem (.ref D) (.int i u)) := by with_unfolding_all rfl) : wpAny (model prog w) A (subscriptTail value slice (.ref D) (.int i u)) Q E s :=
  tail_any (hl.at k).typeIs slot_list_getitem.lookup (wpAny_getItem_list (hl.at k) h0 (by omega) (by simp [hy]) hq) hs
theorem itemT_last {h : Heap} (hl : h.IsList D (refsT trs).toArray) (k : ∀ o, h.get? D = some o → s.heap.get? D = some o) (hi : i = -1) (hlen : trs.length ≤ 1000000) (hy : trs[trs.length - 1]? = some y) (hq : Q (.ref y.t) s)
    (hs : subscripted slice false (.ref D) (.int i u) = operate [.ref D, .int i u] (getItem (.ref D) (.int i u)) := by with_unfolding_all rfl) : wpAny (model prog w) A (subscriptTail value slice (.ref D) (.int i u)) Q E s := by
  subst hi
  have hp : 0 < trs.length := by
    rcases Nat.eq_zero_or_pos trs.length with e | e
    · rw [List.length_eq_zero_iff.mp e] at hy; cases hy
    · exact e
  refine tail_any (hl.at k).typeIs slot_list_getitem.lookup (wpAny_getItem_list_neg (hl.at k) (by decide) (by simp; omega) (by decide) ?_ hq) hs
  have e : (-1 + ((refsT trs).toArray.size : Int)).toNat = trs.length - 1 := by simp; omega
  rw [e]
  simp [hy]
theorem tupB0 {t : Addr} {v0 v1 : Value} (F : Fr h₀ L s.heap m) (ht : h₀.get? t = some (tupO [v0, v1])) (hq : Q v0 s) (hs : subscripted slice false (.ref t) (.int 0 u) = operate [.ref t, .int 0 u] (getItem (.ref t) (.int 0 u)) := by with_unfolding_all rfl) :
    wpAny (model prog w) A (subscriptTail value slice (.ref t) (.int 0 u)) Q E s :=
  item_tupleT (l := [v0, v1]) ⟨_, F.keep _ _ ht, rfl, _, rfl⟩ (by decide) (by decide) (j := 0) rfl rfl hq hs
theorem tupB1 {t : Addr} {v0 v1 : Value} (F : Fr h₀ L s.heap m) (ht : h₀.get? t = some (tupO [v0, v1])) (hq : Q v1 s) (hs : subscripted slice false (.ref t) (.int 1 u) = operate [.ref t, .int 1 u] (getItem (.ref t) (.int 1 u)) := by with_unfolding_all rfl) :
    wpAny (model prog w) A (subscriptTail value slice (.ref t) (.int 1 u)) Q E s :=
  item_tupleT (l := [v0, v1]) ⟨_, F.keep _ _ ht, rfl, _, rfl⟩ (by decide) (by decide) (j := 1) rfl rfl hq hs
theorem itemTB (F : Fr h₀ L s.heap m) (hl : h₀.IsList D (refsT trs).toArray) (h0 : 0 ≤ i) (h1 : i < 1000000) (hy : trs[i.toNat]? = some y) (hq : Q (.ref y.t) s)
    (hs : subscripted slice false (.ref D) (.int i u) = operate [.ref D, .int i u] (getItem (.ref D) (.int i u)) := by with_unfolding_all rfl) : wpAny (model prog w) A (subscriptTail value slice (.ref D) (.int i u)) Q E s := itemT hl (F.keep D) h0 h1 hy hq hs
theorem itemTB_last (F : Fr h₀ L s.heap m) (hl : h₀.IsList D (refsT trs).toArray) (hi : i = -1) (hlen : trs.length ≤ 1000000) (hy : trs[trs.length - 1]? = some y) (hq : Q (.ref y.t) s)
    (hs : subscripted slice false (.ref D) (.int i u) = operate [.ref D, .int i u] (getItem (.ref D) (.int i u)) := by with_unfolding_all rfl) : wpAny (model prog w) A (subscriptTail value slice (.ref D) (.int i u)) Q E s := itemT_last hl (F.keep D) hi hlen hy hq hs
theorem lenTB (F : Fr h₀ L s.heap m) (hl : h₀.IsList D (refsT trs).toArray) (hz : trs.length ≤ 1000000) (h : ∀ t k, Q (.int (trs.length : Int) t) { s with toks := k }) : wpAny (model prog w) A (call (.builtin "len") [.ref D]) Q E s := by
  have e : (((refsT trs).toArray.size : Nat) : Int) = (trs.length : Int) := by simp
  refine call_len_list (hl.at (F.keep D)) (by rw [e]; omega) ?_
  rw [e]; exact h _ _
theorem add_bytesL {p q : List UInt8} {t : Tok} (hz : p.length + q.length ≤ 16777216) (h : ∀ t' k, Q (.bytes (p ++ q).toArray t') { s with toks := k }) : wpAny (model prog w) A (binaryOp .Add (.bytes p.toArray t) (.bytes q.toArray u)) Q E s := by
  refine KBy.add_bytes (by simpa using hz) fun t' k => ?_
  rw [show p.toArray ++ q.toArray = (p ++ q).toArray from by simp]
  exact h t' k
end
theorem law_put0 {w : World} {mean : ExcName → Option Value} {mg mb : Str → Option Value} {v : Int} {t1 t2 : Tok} (h0 : 0 ≤ v) (h1 : v < 4611686018427387904) :
    Con w mean mg mb 10 368 [.int v t1, .int 0 t2] [] [] (fun r news' => (∃ t, r = .bytes (venc v).toArray t) ∧ news' = []) := by
  rw [← vput_zero]
  exact law_put (l := 0) h0 h1 (by decide)
theorem takeT_last {trs : List TR} {i : Nat} (h0 : 0 < i) (h1 : i ≤ trs.length) : ∃ y, trs[i - 1]? = some y ∧ y ∈ trs ∧ (pairsT (trs.take i)).reverse = (y.a, y.b) :: (pairsT (trs.take (i - 1))).reverse := by
  obtain ⟨j, rfl⟩ : ∃ j, i = j + 1 := ⟨i - 1, by omega⟩
  have hj : j < trs.length := h1
  refine ⟨trs[j], by simp, List.getElem_mem hj, ?_⟩
  rw [Nat.add_sub_cancel, pairsT, List.take_succ_eq_append_getElem hj, List.map_append, List.reverse_append]
  rfl
theorem range_dn (n : Nat) : Builtin.Range.rangeSize ((n : Int) + 1 - 2) (-1) (-1) = (n : Int) := by
  unfold Builtin.Range.rangeSize
  rw [if_neg (by decide)]
  split
  · rw [show (- -1 : Int) = 1 from rfl, Int.ediv_one]; omega
  · omega
/-- what stands at the loop of _law_frame -/
inductive HJ (D : Addr) (trs : List TR) (fin : List UInt8) (i : Nat) (m : Str → Option Value) (nx : List (Addr × Obj)) : Prop
  | mk (oct : List UInt8) (to : Tok) (h1 : m (Str.ofString "octets") = some (.bytes oct.toArray to)) (h2 : m (Str.ofString "rows") = some (.ref D)) (hn : nx = []) (z : TR) (hz : trs[trs.length - 1 - i]? = some z) (hzm : z ∈ trs)
      (hhd : ∀ q ∈ ((pairsT (trs.take (trs.length - 1 - i))).reverse).head?, q.2 < z.a) (hza : z.a ≤ 4611686018427387904) (hok : OkR (pairsT (trs.take (trs.length - 1 - i))).reverse) (hf : oct ++ fgap z.a (pairsT (trs.take (trs.length - 1 - i))).reverse = fin) : HJ D trs fin i m nx
theorem law_frame {w : World} {mean : ExcName → Option Value} {mg mb : Str → Option Value} {D : Addr} {trs : List TR} {n : Nat} {delay a b : Int} {xs : List (Int × Int)} {t1 : Tok} (hxs : (pairsT trs).reverse = (a, b) :: xs) (hok : OkR ((a, b) :: xs)) (hd0 : 0 ≤ delay) (hd1 : delay < 4611686018427387904) (hlen : trs.length ≤ 1000)
    (hfit : (fenc delay ((a, b) :: xs)).length ≤ 100000) :
    ConE w mean mg mb 15 382 [.ref D, .int delay t1] [] ((D, listOf (refsT trs).toArray n) :: rowsT trs) []
      (fun r news' => (∃ t, r = .bytes (fenc delay ((a, b) :: xs)).toArray t) ∧ news' = []) (fun _ => False) := by
  intro dp un gd ll base g s R B X T Kp N hrd hdp hun ret fail
  w_on
  have hgl : g.IsList D (refsT trs).toArray := ⟨_, hrd _ (.head _), rfl, _, rfl⟩
  have hgt : ∀ y ∈ trs, g.get? y.t = some (tupO [.int y.a y.ta, .int y.b y.tb]) := fun y hy => hrd _ (.tail _ (mem_rowsT hy))
  have hn0 : 0 < trs.length := by
    cases trs with
    | nil => simp at hxs
    | cons y r => exact Nat.succ_pos _
  obtain ⟨y0, hy0, hym, htk⟩ := takeT_last hn0 (Nat.le_refl _)
  rw [List.take_of_length_le (Nat.le_refl _), hxs] at htk
  injection htk with htk1 htk2
  injection htk1 with ha hb
  subst ha hb
  have hgy0 := hgt y0 hym
  obtain ⟨ok1, ok2, ok3, ok4, ok5⟩ := hok
  have hxl : xs.length = trs.length - 1 := by rw [htk2]; simp [pairsT]
  have hfe : fenc delay ((y0.a, y0.b) :: xs) = venc (y0.b - 1) ++ venc delay ++ venc ((trs.length : Int) - 1) ++ venc (y0.b - y0.a - 1) ++ fgap y0.a xs := by
    show venc (y0.b - 1) ++ venc delay ++ venc (xs.length : Int) ++ venc (y0.b - 1 - y0.a) ++ fgap y0.a xs = _
    rw [hxl, show ((trs.length - 1 : Nat) : Int) = (trs.length : Int) - 1 from by omega, show y0.b - 1 - y0.a = y0.b - y0.a - 1 from by omega]
  have hfl : (venc (y0.b - 1)).length + (venc delay).length + (venc ((trs.length : Int) - 1)).length + (venc (y0.b - y0.a - 1)).length + (fgap y0.a xs).length ≤ 100000 := by
    rw [hfe] at hfit
    simp only [List.length_append] at hfit
    exact hfit
  walk_at "mine enter"
  repeat' (first | (with_reducible (((with_reducible show wpAny _ _ (exec (Stmt.For _ _ _ _ _) _) _ _ _); (k_here; (rename Fr _ _ _ _ => lF'_q); (with_unfolding_all refine' For_turns lF'_q ?_; k_whole))))) | (with_reducible (((with_reducible show wpAny _ _ (binaryOp Operator.Add _ _) _ _ _); (k_here; (with_reducible show wpAny _ _ (binaryOp _ (Value.bytes (List.toArray _) _) (Value.bytes (List.toArray _) _)) _ _ _); (refine' add_bytesL ?hz_q ?_; (case hz_q => ((try simp only [List.length_append]); omega)); intro _ _; (try dsimp only)))))) | (with_reducible (((with_reducible show wpAny _ _ (call _ _) _ _ _); (k_here; (with_reducible show wpAny _ _ (call (Value.builtin "len") [Value.ref _]) _ _ _); (refine' lenTB ?F_q ?hl_q ?hz_q ?_; (case F_q => k_asm); (case hl_q => assumption); (case hz_q => first | with_reducible assumption | omega); intro _ _; (try dsimp only)))))) | (with_reducible (((with_reducible show wpAny _ _ (call _ _) _ _ _); (k_here; (k_dflt (show wpAny _ _ (call (Value.ref 368) [Value.int _ _, Value.int 0 _]) _ _ _)); k_dflt (refine' ConE.callT (Con.toE (law_put0 ?h0_q ?h1_q)) ?kB_q ?kF_q ?kX_q ?kT_q ?kN_q ?kf_q ?kk_q ?kr_q ?kd_q ?ku_q ?_; (case kB_q => assumption); (case kF_q => k_asm); (case kX_q => assumption); (case kT_q => assumption); (case kN_q => k_asm); (case kf_q => exact rfl); (case kk_q => exact rfl); (case kr_q => exact fun p hp => nomatch hp); (case kd_q => walk_at "mine room"); (case ku_q => walk_at "mine room"); (case h0_q => first | with_reducible assumption | omega); (case h1_q => first | with_reducible assumption | omega); (intro t'_q h'_q tk'_q F'_q N'_q; (try k_sweep); (try dsimp only))))))) | (with_reducible (((with_reducible show wpAny _ _ (pyIter _) _ _ _); (k_here; (with_reducible show wpAny _ _ (pyIter (Value.ref _)) (fun it s₂ => TurnsAt _ _ _ _ _ _ _ _ _ it s₂) _ _); refine halt ?_)))) | (with_reducible (((with_reducible show wpAny _ _ (subscriptTail _ _ _ _) _ _ _); (k_here; (with_reducible show wpAny _ _ (subscriptTail _ _ (Value.ref _) (Value.int 1 _)) _ _ _); (refine' tupB1 ?F_q ?ht_q ?_; (case F_q => k_asm); (case ht_q => with_reducible assumption); k_whole))))) | (with_reducible (((with_reducible show wpAny _ _ (subscriptTail _ _ _ _) _ _ _); (k_here; (with_reducible show wpAny _ _ (subscriptTail _ _ (Value.ref _) (Value.int 0 _)) _ _ _); (refine' tupB0 ?F_q ?ht_q ?_; (case F_q => k_asm); (case ht_q => with_reducible assumption); k_whole))))) | (with_reducible (((with_reducible show wpAny _ _ (subscriptTail _ _ _ _) _ _ _); (k_here; (with_reducible show wpAny _ _ (subscriptTail _ _ (Value.ref _) (Value.int (-1) _)) _ _ _); (refine' itemTB_last ?F_q ?hl_q ?hi_q ?h1_q ?hy_q ?_; (case F_q => k_asm); (case hl_q => with_reducible assumption); (case hi_q => rfl); (case h1_q => first | with_reducible assumption | omega); (case hy_q => with_reducible assumption); k_whole))))) | walk_at "mine oneD")
  (with_reducible rename Fr _ _ _ _ => F1)
  (with_reducible rename News _ _ _ _ => N1)
  rename IsRange _ _ _ _ _ _ _ _ => hr
  refine halt ?_
  refine range_J (n := trs.length - 1) (HJ D trs (fenc delay ((y0.a, y0.b) :: xs)))
    rfl hr (PySem.W.small_down (by omega) (by omega) (by omega) (by omega)) (by rw [← range_dn (trs.length - 1)]; congr 1; omega) F1 N1 ?h0 ?turn ?done
  case h0 =>
    refine ⟨_, _, rfl, rfl, rfl, y0, hy0, hym, ?_, Int.le_trans (Int.le_of_lt ok2) ok3, ?_, ?_⟩
    · rw [Nat.sub_zero, ← htk2]; exact ok4
    · rw [Nat.sub_zero, ← htk2]; exact ok5
    · rw [Nat.sub_zero, ← htk2, hfe]
  case turn =>
    rintro i t m₁ news₁ h₁ tk₁ I it hin ⟨oct, to, h1, h2, rfl, z, hz, hzm, hhd, hza, hokr, htot⟩ hc F2 N2
    have F3 : Fr g L'_q _ _ := fr_eq (mp_cons (mp_cons rfl h2) h1) F2
    clear F1 N1 hr F2 h1 h2
    obtain ⟨y, hy, hym', hyt⟩ := takeT_last (trs := trs) (i := trs.length - 1 - i) (by omega) (by omega)
    have hz' : trs[((trs.length : Int) - 2 + (i : Int) * -1 + 1).toNat]? = some z := by rw [← hz]; congr 1; omega
    have hy' : trs[((trs.length : Int) - 2 + (i : Int) * -1).toNat]? = some y := by rw [← hy]; congr 1; omega
    have hgz := hgt z hzm
    have hgy := hgt y hym'
    rw [hyt] at hhd hokr htot
    obtain ⟨ok1', ok2', ok3', ok4', ok5'⟩ := hokr
    have hlt := hhd _ rfl
    dsimp only at hlt
    have htot2 : oct ++ (venc (z.a - y.b - 1) ++ venc (y.b - y.a - 1) ++ fgap y.a ((pairsT (trs.take (trs.length - 1 - i - 1))).reverse)) = fenc delay ((y0.a, y0.b) :: xs) := htot
    have hle : oct.length + (venc (z.a - y.b - 1)).length + (venc (y.b - y.a - 1)).length ≤ 100000 := by
      rw [← htot2] at hfit
      simp only [List.length_append] at hfit
      omega
    have hsub : trs.length - 1 - (i + 1) = trs.length - 1 - i - 1 := by omega
    repeat' (first | (with_reducible (((with_reducible show wpAny _ _ (subscriptTail _ _ _ _) _ _ _); (k_here; (with_reducible show wpAny _ _ (subscriptTail _ _ (Value.ref _) (Value.int _ _)) _ _ _); (refine' itemTB ?F_q ?hl_q ?h0_q ?h1_q ?hy_q ?_; (case F_q => k_asm); (case hl_q => with_reducible assumption); (case h0_q => first | with_reducible assumption | omega); (case h1_q => first | with_reducible assumption | omega); (case hy_q => with_reducible assumption); k_whole))))) | (with_reducible (((with_reducible show wpAny _ _ (binaryOp Operator.Add _ _) _ _ _); (k_here; (with_reducible show wpAny _ _ (binaryOp _ (Value.bytes (List.toArray _) _) (Value.bytes (List.toArray _) _)) _ _ _); (refine' add_bytesL ?hz_q ?_; (case hz_q => ((try simp only [List.length_append]); omega)); intro _ _; (try dsimp only)))))) | (with_reducible (((with_reducible show wpAny _ _ (call _ _) _ _ _); (k_here; (k_dflt (show wpAny _ _ (call (Value.ref 368) [Value.int _ _, Value.int 0 _]) _ _ _)); k_dflt (refine' ConE.callT (Con.toE (law_put0 ?h0_q ?h1_q)) ?kB_q ?kF_q ?kX_q ?kT_q ?kN_q ?kf_q ?kk_q ?kr_q ?kd_q ?ku_q ?_; (case kB_q => assumption); (case kF_q => k_asm); (case kX_q => assumption); (case kT_q => assumption); (case kN_q => k_asm); (case kf_q => exact rfl); (case kk_q => exact rfl); (case kr_q => exact fun p hp => nomatch hp); (case kd_q => walk_at "mine room"); (case ku_q => walk_at "mine room"); (case h0_q => first | with_reducible assumption | omega); (case h1_q => first | with_reducible assumption | omega); (intro t'_q h'_q tk'_q F'_q N'_q; (try k_sweep); (try dsimp only))))))) | (with_reducible (((with_reducible show wpAny _ _ (subscriptTail _ _ _ _) _ _ _); (k_here; (with_reducible show wpAny _ _ (subscriptTail _ _ (Value.ref _) (Value.int 1 _)) _ _ _); (refine' tupB1 ?F_q ?ht_q ?_; (case F_q => k_asm); (case ht_q => with_reducible assumption); k_whole))))) | (with_reducible (((with_reducible show wpAny _ _ (subscriptTail _ _ _ _) _ _ _); (k_here; (with_reducible show wpAny _ _ (subscriptTail _ _ (Value.ref _) (Value.int 0 _)) _ _ _); (refine' tupB0 ?F_q ?ht_q ?_; (case F_q => k_asm); (case ht_q => with_reducible assumption); k_whole))))) | walk_at "mine oneD")
    (with_reducible rename Fr _ _ _ _ => F3)
    (with_reducible rename News _ _ _ _ => N3)
    refine StepO.go (.inl rfl) F3 N3 (fun _ h => nomatch h) ⟨oct ++ venc (z.a - y.b - 1) ++ venc (y.b - y.a - 1), _, rfl, rfl, rfl, y, ?_, hym', ?_, ?_, ?_, ?_⟩
    · rw [hsub]; exact hy
    · rw [hsub]; exact ok4'
    · omega
    · rw [hsub]; exact ok5'
    · rw [hsub, ← htot2]; simp only [List.append_assoc]
  case done =>
    rintro h' tk m₁ news₁ F2 N2 ⟨oct, to, h1, h2, rfl, z, hz, hzm, hhd, hza, hokr, htot⟩
    have F3 : Fr g L'_q _ _ := fr_eq (mp_cons rfl h1) F2
    clear F1 N1 hr F2 h1 h2
    rw [Nat.sub_self, List.take_zero] at htot
    have htot' : oct = fenc delay ((y0.a, y0.b) :: xs) := by rw [← htot]; simp [fgap, pairsT]
    repeat' walk_at "mine oneD"
    (with_reducible rename Fr _ _ _ _ => F3)
    (with_reducible rename News _ _ _ _ => N3)
    rw [htot'] at *
    exact ret _ _ _ _ ⟨⟨_, rfl⟩, rfl⟩ (Kept.of_fr F3) (Led.of_news N3)
end Mine
end
section
open PySem PySem.W PyProof.Rows PySem.Calls
set_option maxRecDepth 100000
namespace Mine
section
variable {M : Model} {A : Around} {E : Value → Shared → Prop} {s : Shared} {env : Env}
theorem wpN_If {test body orelse pos} {Q : Flow → Shared → Prop}
    (h : wpAny M A (isTrue test env (eval test env)) (fun b s₂ => if b = true then wpN M A (execs body env) Q E s₂ else wpN M A (execs orelse env) Q E s₂) E s) :
    wpN M A (exec (.If test body orelse pos) env) Q E s := by
  rw [exec_If]
  refine wpN_any (wpAny_standAt (wpN_any (wpAny_mono h (fun b s₂ h₂ => ?_) fun _ _ e => e)))
  cases b with
  | true => exact h₂
  | false => exact h₂
theorem wpN_IfN {test body orelse pos} {Q : Flow → Shared → Prop}
    (h : wpN M A (isTrue test env (eval test env)) (fun b s₂ => if b = true then wpN M A (execs body env) Q E s₂ else wpN M A (execs orelse env) Q E s₂) E s) :
    wpN M A (exec (.If test body orelse pos) env) Q E s := by
  rw [exec_If]
  refine wpN_any (wpAny_standAt (wpN_bind (wpN_mono h (fun b s₂ h₂ => ?_) fun _ _ e => e)))
  cases b with
  | true => exact h₂
  | false => exact h₂
theorem wpN_Return {e pos} {Q : Flow → Shared → Prop} (h : wpN M A (eval e env) (fun v => Q (.ret v)) E s) : wpN M A (exec (.Return (some e) pos) env) Q E s := by
  rw [exec_Return_some]
  exact wpN_any (wpAny_standAt (wpN_bind (wpN_mono h (fun v s' hq => wpN_pure hq) fun _ _ e => e)))
theorem wpN_Assign {t value : PySem.Expr} {pos : Pos} {Q : Flow → Shared → Prop}
    (h : wpN M A (eval value env) (fun v s₁ => wpAny M A (assign t env v) (fun _ => Q .next) E s₁) E s)
    (hs : swapsWithSole [t] value pos.line env = pure false := by rfl) (hw : swappedStores [t] value env = pure none := by rfl) (he : (assignEach [t] env).map (·.2) = [assign t env] := by rfl) :
    wpN M A (exec (.Assign [t] value pos) env) Q E s := by
  rw [exec_Assign_arm]
  refine wpN_any (wpAny_standAt ?_)
  rw [hs]
  refine wpN_eq rfl ?_
  rw [if_neg (by decide)]
  refine wpN_bind (wpN_mono h (fun v s₁ h₁ => ?_) fun _ _ x => x)
  rw [hw]
  refine wpN_eq rfl ?_
  rw [he]
  refine wpN_of ?_
  show wpAny M A (do assignAll v [assign t env]; pure .next) Q E s₁
  exact wpAny_bind (wpAny_mono h₁ (fun _ _ x => wpAny_pure x) fun _ _ x => x)
theorem wpN_Call {id : Str} {p pos : Pos} {args : List Expr} {keywords : List Keyword} {Q : Value → Shared → Prop}
    (h : wpAny M A (eval (.Name id p) env) (fun f s₁ => wpN M A (callWith pos f [] (backTo pos (starEach args env)) (backToKw pos (keywordEach keywords env))) Q E s₁) E s) :
    wpN M A (eval (.Call (.Name id p) args keywords pos) env) Q E s := by
  rw [arm_eval_Call_Name']
  exact wpN_any h
theorem wpN_Expr {e pos} {Q : Flow → Shared → Prop} (h : wpN M A (eval e env) (fun v s' => wpAny M A (dropValue e pos v) Q E s') E s)
    (hi : interactive env = false := by rfl) (hs : swapsWith e none pos.line env = pure false := by rfl) : wpN M A (exec (.Expr e pos) env) Q E s := by
  rw [exec_Expr env e pos hi hs]
  exact wpN_any (wpAny_standAt (wpN_bind (wpN_mono h (fun v s' h' => wpN_of h') fun _ _ x => x)))
theorem wpN_Try {body : List Stmt} {handlers : List ExceptHandler} {orelse : List Stmt} {pos : Pos} {Q : Flow → Shared → Prop} (hne : handlers.isEmpty = false)
    (h : wpN M A (execs body env) (fun f s' => match f with | .next => wpN M A (execs orelse env) Q E s' | f => Q f s')
      (fun e s₁ => wpAny M A (noteFrame e env) (fun _ s₂ => wpAny M A (setFlight e none) (fun _ s₃ => wpAny M A (handleBy e env handlers) Q E s₃) E s₂) E s₁) s) :
    wpN M A (exec (.Try body handlers orelse [] pos) env) Q E s := by
  rw [arm_exec_Try]
  refine wpN_any (wpAny_standAt ?_)
  unfold tryStmt
  refine wpN_if_true rfl ?_
  refine wpN_bind (wpN_attempt (wpN_mono h (fun f s' hq => ?_) fun e s' hq => ?_))
  · cases f with
    | next => exact hq
    | brk => exact wpN_pure hq
    | cont => exact wpN_pure hq
    | ret v => exact wpN_pure hq
  · refine wpN_of ?_
    refine wpAny_bind (wpAny_mono hq (fun _ s₂ h₂ => ?_) fun _ _ x => x)
    refine BA.if_false hne ?_
    refine wpAny_bind (wpAny_mono h₂ (fun _ s₃ h₃ => ?_) fun _ _ x => x)
    refine BA.if_false rfl ?_
    refine BA.if_false rfl ?_
    exact h₃
section
variable {K : Frag} {pos : Pos} {f : Value} {first : List Value} {Q : Value → Shared → Prop}
theorem callWithN_of {P : Heap → Prop} {args : List (Bool × Sem Value)} {keywords : List (Option Str × Sem Value)} (hplain : (args.any (·.1) || keywords.any (·.1.isNone)) = false)
    (hk : ∀ h, P h → ∃ k, (k = Keeper.frame ∨ k = Keeper.machine ∨ k = Keeper.boundFrame) ∧ Looks M h (keeperOf f) k)
    (h : wpN M A (evalArgs f true args keywords) (fun a s₁ => P s₁.heap ∧ wpN M A (call f (first ++ a.pos) a.kw) Q E s₁) E s) : wpN M A (callWith pos f first args keywords) Q E s := by
  unfold callWith
  refine wpN_bind (wpN_holding (wpN_mono h (fun a s₁ h₁ => wpN_any (wpAny_standAt ?_)) fun _ _ x => x))
  obtain ⟨k, hk', L⟩ := hk _ h₁.1
  simp only [hplain]
  refine wpN_any (L.here ?_)
  have tail : ∀ {t : Sem Value}, wpN M A t Q E s₁ → wpN M A (t >>= fun r => holding [r] point >>= fun _ => pure r) Q E s₁ :=
    fun ht => wpN_bind (wpN_mono ht (fun r s₂ hr => wpN_any (wpAny_holding (wpAny_point (wpN_pure hr)))) fun _ _ x => x)
  have marked (mk : Value) : wpN M A (callMarked mk f (first ++ a.pos) a.kw) Q E s₁ := by unfold callMarked; exact wpN_keep h₁.2
  rcases hk' with rfl | rfl | rfl <;> dsimp only <;> first | exact tail h₁.2 | (split <;> first | exact tail h₁.2 | exact tail (marked _))
theorem callWithN_K {e : Expr} {rest : List Expr} (hk : keepIn K f = true) (h : wpAny M A (spliced (backTo pos (starEach (e :: rest) env))) (fun vs s₁ => K.In s₁.heap ∧ wpN M A (call f (first ++ vs)) Q E s₁) E s)
    (he : starEach (e :: rest) env = (false, eval e env) :: starEach rest env := by rfl) (hplain : (backTo pos (starEach rest env)).any (·.1) = false := by rfl) :
    wpN M A (callWith pos f first (backTo pos (starEach (e :: rest) env)) []) Q E s := by
  rw [he] at h ⊢
  exact callWithN_of (by show ((false || (backTo pos (starEach rest env)).any (·.1)) || false) = false; rw [hplain]; rfl) (keeps_K hk) (wpN_of (evalArgs_plain h))
theorem callWithN_KW0 {kws : List Keyword} (hk : keepIn K f = true) (hall : (backToKw pos (keywordEach kws env)).all (·.1.isSome) = true)
    (h : wpAny M A (evalAll ((backToKw pos (keywordEach kws env)).map (·.2))) (fun ks s₂ => K.In s₂.heap ∧ wpN M A (call f (first ++ []) (((backToKw pos (keywordEach kws env)).filterMap (·.1)).zip ks)) Q E s₂) E s)
    (hplain : ((backTo pos (starEach [] env)).any (·.1) || (backToKw pos (keywordEach kws env)).any (·.1.isNone)) = false := by rfl) :
    wpN M A (callWith pos f first (backTo pos (starEach [] env)) (backToKw pos (keywordEach kws env))) Q E s :=
  callWithN_of hplain (keeps_K hk) (wpN_of (evalArgs_kw2_nil hall h))
/-- a call of a built-in class, its arguments by wpAny -/
theorem callWithN_type {T : String} {e : Expr} {rest : List Expr} (h : wpAny M A (spliced (backTo pos (starEach (e :: rest) env))) (fun vs s₁ => wpN M A (call (.type T) vs) Q E s₁) E s)
    (he : starEach (e :: rest) env = (false, eval e env) :: starEach rest env := by rfl) (hplain : (backTo pos (starEach rest env)).any (·.1) = false := by rfl) :
    wpN M A (callWith pos (.type T) [] (backTo pos (starEach (e :: rest) env)) []) Q E s := by
  rw [he] at h ⊢
  exact callWithN_of (P := fun _ => True) (by show ((false || (backTo pos (starEach rest env)).any (·.1)) || false) = false; rw [hplain]; rfl) (fun _ _ => ⟨.machine, .inr (.inl rfl), .now⟩) (wpN_of (evalArgs_plain (wpAny_mono h (fun _ _ x => ⟨trivial, x⟩) fun _ _ x => x)))
/-- a call whose one argument makes a Buffer -/
theorem callWithN_KN {e : Expr} (hk : keepIn K f = true) (h : wpN M A (eval e env) (fun v s₁ => K.In s₁.heap ∧ wpN M A (call f (first ++ [v])) Q E s₁) E s)
    (he : backTo pos (starEach [e] env) = [(false, eval e env)] := by rfl) :
    wpN M A (callWith pos f first (backTo pos (starEach [e] env)) []) Q E s := by
  rw [he]
  refine callWithN_of rfl (keeps_K hk) ?_
  unfold evalArgs
  show wpN M A (spliced [(false, eval e env)] >>= _) _ E s
  unfold spliced
  refine wpN_bind (wpN_bind (wpN_mono h (fun v s₁ h₁ => ?_) fun _ _ x => x))
  refine wpN_eq rfl ?_
  refine wpN_bind (wpN_holding ?_)
  unfold spliced
  refine wpN_pure (wpN_pure ?_)
  refine wpN_holding ?_
  exact wpN_eq rfl (wpN_eq rfl (wpN_pure h₁))
end
end
end Mine
end
section
open PySem PySem.W PyProof.Rows PySem.Calls
set_option maxRecDepth 100000
set_option maxHeartbeats 8000000
namespace Mine
/-- a def's contract in N: no error; the generators stay bare -/
noncomputable def ConN (w : World) (mean : ExcName → Option Value) (mg mb : Str → Option Value) (D : Nat) (f : Addr) (pos : List Value) (kw : List (Str × Value)) (rd wr : List (Addr × Obj)) (post : Value → List (Addr × Obj) → Prop) : Prop :=
  ∀ (dp un : Nat) (gd : Option (List Code)) (l : List Env) (base g : Heap) (s : Shared) (R : Result → Shared → Prop), Below (AX dp un gd l) base l g → (hd.heap_39 w.params).In g → Top hd.view_39 LS mean mg mb g → Kept g s.heap → Led g s.heap wr → (∀ p ∈ rd, g.get? p.1 = some p.2) → AllBare s.gens →
    dp + D < recursionLimit → un + 10 * D < cLine → (∀ v news' h' tk gens', post v news' → AllBare gens' → Kept g h' → Led g h' news' → R (.ok (.ret v)) ⟨h', gens', s.drawn, tk, s.os⟩) → codeN (model PG w) (AX dp un gd l) (.call (.ref f) ⟨pos, kw⟩) R s
theorem ConN.call {w : World} {dp un : Nat} {gd : Option (List Code)} {outer : List Env} {env : Env} {A₀ : Around} {base h₀ : Heap} {L : Addr} {s : Shared} {m : Str → Option Value} {mean : ExcName → Option Value} {mg mb : Str → Option Value} {news wr rd rest : List (Addr × Obj)}
    {D : Nat} {f : Addr} {pos : List Value} {kw : List (Str × Value)} {post : Value → List (Addr × Obj) → Prop} {Q E : Value → Shared → Prop} (C : ConN w mean mg mb D f pos kw rd wr post)
    (B : Below A₀ base outer h₀) (F : Fr h₀ L s.heap m) (X : (hd.heap_39 w.params).In h₀) (T : Top hd.view_39 LS mean mg mb h₀) (N : News h₀ L s.heap news) (hf : env.frame = some L) (hke : env.scope.kind = .function)
    (hwr : ∀ p ∈ wr, p ∈ news) (hs : Split2 wr news rest) (hrd : ∀ p ∈ rd, p ∈ rest ∨ h₀.get? p.1 = some p.2) (hb : AllBare s.gens) (hdp : dp + D < recursionLimit) (hun : un + 10 * D < cLine)
    (k : ∀ v news' h' tk gens', post v news' → AllBare gens' → Fr h₀ L h' m → News h₀ L h' (news' ++ rest) → Q v ⟨h', gens', s.drawn, tk, s.os⟩) :
    wpN (model PG w) (AX dp un gd (env :: outer)) (call (.ref f) pos kw) Q E s := by
  obtain ⟨g, ⟨B', X', T', K', N', back⟩, Fg, hR, st⟩ := use2 (dp := dp) (un := un) (gd := gd) B F X T N hf hke wr rest hwr hs.sub.1 fun p hp q hq e => by
    rcases hs.sub.2 p hp q hq with h | h
    · exact h e.symm
    · have h1 := (N _ (hs.sub.1 p hp)).1
      have h2 := (N _ (hwr q hq)).1
      rw [e, h2] at h1
      exact h (Option.some.inj h1)
  refine wpN_call (C dp un gd _ base g s _ B' X' T' K' N' (fun p hp => (hrd p hp).elim (hR p) (st _ _)) hb hdp hun (fun v news' h' tk gens' hp hb' K2 L2 => ?_))
  obtain ⟨F3, N3⟩ := back h' news' K2 L2
  exact k v news' h' tk gens' hp hb' F3 N3
theorem push_led {g h : Heap} (K : Kept g h) : Kept g ((h.push emptyDict).push (instObj 193 h.objs.size)) ∧ Led g ((h.push emptyDict).push (instObj 193 h.objs.size)) [(h.objs.size + 1, instObj 193 h.objs.size), (h.objs.size, dictOf [] 0)] := by
  have none : ∀ a : Nat, h.objs.size ≤ a → g.get? a = none := fun a ha => by
    cases e : g.get? a with
    | none => rfl
    | some o => exact absurd (Heap.lt_size e) (Nat.not_lt.mpr (Nat.le_trans K.size ha))
  refine ⟨⟨fun b o e => Heap.get?_push_of_some _ (Heap.get?_push_of_some _ (K.keep b o e)), ?_⟩, fun p hp => ?_⟩
  · rw [Heap.size_push, Heap.size_push]
    exact Nat.le_trans K.size (Nat.le_succ_of_le (Nat.le_succ _))
  · simp only [List.mem_cons, List.not_mem_nil, or_false] at hp
    rcases hp with rfl | rfl
    · exact ⟨by heap_get, none _ (Nat.le_succ _)⟩
    · exact ⟨by heap_get, none _ (Nat.le_refl _)⟩
theorem news_new {g h h' : Heap} {L o : Addr} {m : Str → Option Value} {news : List (Addr × Obj)} {ob : Obj} (F : Fr g L h m) (N : News g L h news) (hk : ∀ a o, h.get? a = some o → h'.get? a = some o) (ho : h'.get? o = some ob) (hf : h.get? o = none) : News g L h' ((o, ob) :: news) := fun p hp => by
  rcases List.mem_cons.mp hp with rfl | hp
  · refine ⟨ho, fun e => ?_, ?_⟩
    · obtain ⟨oL, _, _, hL, _⟩ := F.ns
      have e' : o = L := e
      rw [← e', hf] at hL; cases hL
    · cases q : g.get? o with
      | none => rfl
      | some z => have := F.keep _ _ q; rw [hf] at this; cases this
  · exact N.grown hk p hp
theorem assign_Attr {M : Model} {A : Around} {E : Value → Shared → Prop} {s : Shared} {env : Env} {o : PySem.Expr} {attr : Str} {pos : Pos} {v : Value} {Q : Unit → Shared → Prop}
    (h : wpAny M A (eval o env) (fun ov s₂ => wpAny M A (setAttr ov attr v) Q E s₂) E s) : wpAny M A (assign (.Attribute o attr pos) env v) Q E s := fun Γ p hΓ => by
  simp only [assign_Attribute, Sem.wp_bind', Sem.wp_holding, Sem.wp_cmd_standAt, Sem.wp_release, Sem.wp_pure']
  exact Sem.wp_mono M Γ _ (fun ov _ s₂ h₂ => h₂ Γ _ hΓ) (fun _ _ _ h' => h') _ _ (h Γ _ hΓ)
theorem buffer_cap {w : World} {mean : ExcName → Option Value} {mg mb : Str → Option Value} {n : Int} {t : Tok} (h0 : 0 ≤ n) (hn : n ≤ 100000) :
    ConN w mean mg mb 10 193 [] [(Str.ofString "capacity", .int n t)] [] [] (fun r news' => ∃ x d o t1 t2 t3, r = .ref x ∧ news' = bufL w.params x d o (List.replicate n.toNat 0) 0 t1 t2 t3) := by
  intro dp un gd l base g s R B X T Kp N hrd hb hdp hun ret
  w_on
  have Xs := X.keeps Kp.keep
  obtain ⟨hp, gg, dd, tt, os⟩ := s
  obtain ⟨Kp', N'⟩ := push_led Kp
  refine makeN_core (fI := 62) Xs (by k_is) (by k_is) (by k_is) ?_
  show codeN _ (AX (dp + 1) (un + 1) gd l) _ _ _
  generalize hx : hp.objs.size + 1 = x at N' ⊢
  generalize hp.objs.size = d at N' Kp' ⊢
  generalize (hp.push emptyDict).push (instObj 193 d) = hq at N' Kp' ⊢
  clear N Xs Kp
  walk_at "mine enterN"
  refine wpN_execs_cons (wpN_If ?_)
  repeat' walk_at "mine one"
  refine wpN_execs_cons (wpN_Assign (wpN_Call ?_))
  repeat' walk_at "mine one"
  refine callWithN_type ?_
  repeat' walk_at "mine one"
  (with_reducible rename Fr _ _ _ _ => F1)
  (with_reducible rename News _ _ _ _ => N1)
  refine BA.callN_int h0 (by omega) fun h'' o ho hf hk hsz => ?_
  have F2 := F1.keeps hk
  have N2 := news_new F1 N1 hk ho hf
  have hxd : @Ne Nat x d := news_ne N2 (.tail _ (.head _)) (.tail _ (.tail _ (.head _))) (by simp)
  have hxo : @Ne Nat x o := news_ne N2 (.tail _ (.head _)) (.head _) (by simp)
  have hdo : @Ne Nat d o := news_ne N2 (.tail _ (.tail _ (.head _))) (.head _) (by simp)
  clear F1 N1 hk ho hf hsz
  dsimp only at F2 N2
  rw [show Array.replicate n.toNat (0 : UInt8) = (List.replicate n.toNat 0).toArray from by simp] at N2
  repeat' walk_at "mine one"
  refine wpN_of (wpAny_execs_nil ?_)
  refine wpN_execs_cons (wpN_of ?_)
  repeat' walk_at "mine one"
  refine wpN_of (wpAny_execs_nil ?_)
  (with_reducible rename Fr _ _ _ _ => F3)
  (with_reducible rename News _ _ _ _ => N3)
  refine' ⟨rfl, ret _ _ _ _ _ ⟨x, d, o, _, _, _, rfl, rfl⟩ hb (Kept.of_fr F3) (led3 N3 ?a ?b ?c)⟩
  case a => k_mem
  case b => k_mem
  case c => k_mem
theorem buffer_data {w : World} {mean : ExcName → Option Value} {mg mb : Str → Option Value} {bs : List UInt8} {t : Tok} (hn : bs.length ≤ 100000) :
    ConN w mean mg mb 10 193 [] [(Str.ofString "data", .bytes bs.toArray t)] [] [] (fun r news' => ∃ x d o t1 t2 t3, r = .ref x ∧ news' = bufL w.params x d o bs 0 t1 t2 t3) := by
  intro dp un gd l base g s R B X T Kp N hrd hb hdp hun ret
  w_on
  have Xs := X.keeps Kp.keep
  obtain ⟨hp, gg, dd, tt, os⟩ := s
  obtain ⟨Kp', N'⟩ := push_led Kp
  refine makeN_core (fI := 62) Xs (by k_is) (by k_is) (by k_is) ?_
  show codeN _ (AX (dp + 1) (un + 1) gd l) _ _ _
  generalize hx : hp.objs.size + 1 = x at N' ⊢
  generalize hp.objs.size = d at N' Kp' ⊢
  generalize (hp.push emptyDict).push (instObj 193 d) = hq at N' Kp' ⊢
  clear N Xs Kp
  walk_at "mine enterN"
  refine wpN_execs_cons (wpN_If ?_)
  repeat' walk_at "mine one"
  refine wpN_execs_cons (wpN_Assign (wpN_Call ?_))
  repeat' walk_at "mine one"
  refine callWithN_type ?_
  repeat' walk_at "mine one"
  (with_reducible rename Fr _ _ _ _ => F1)
  (with_reducible rename News _ _ _ _ => N1)
  refine BA.callN_bytes (by simp only [List.size_toArray]; omega) fun h'' o ho hf hk hsz => ?_
  have F2 := F1.keeps hk
  have N2 := news_new F1 N1 hk ho hf
  have hxd : @Ne Nat x d := news_ne N2 (.tail _ (.head _)) (.tail _ (.tail _ (.head _))) (by simp)
  have hxo : @Ne Nat x o := news_ne N2 (.tail _ (.head _)) (.head _) (by simp)
  have hdo : @Ne Nat d o := news_ne N2 (.tail _ (.tail _ (.head _))) (.head _) (by simp)
  clear F1 N1 hk ho hf hsz
  dsimp only at F2 N2
  repeat' walk_at "mine one"
  refine wpN_of (wpAny_execs_nil ?_)
  refine wpN_execs_cons (wpN_of ?_)
  repeat' walk_at "mine one"
  refine wpN_of (wpAny_execs_nil ?_)
  (with_reducible rename Fr _ _ _ _ => F3)
  (with_reducible rename News _ _ _ _ => N3)
  refine' ⟨rfl, ret _ _ _ _ _ ⟨x, d, o, _, _, _, rfl, rfl⟩ hb (Kept.of_fr F3) (led3 N3 ?a ?b ?c)⟩
  case a => k_mem
  case b => k_mem
  case c => k_mem
end Mine
end
section
open PySem PySem.W PyProof.Rows PySem.Calls
set_option maxRecDepth 100000
set_option maxHeartbeats 2000000
namespace Mine
theorem picked_pre (bs : List UInt8) (k : Nat) (h : k ≤ bs.length) : KBy.picked bs.toArray none (some (k : Int)) = (bs.take k).toArray := by
  rw [KBc.picked_eq]
  simp [clipAt_nat, Nat.min_eq_left h]
/-- Buffer.data, Buffer.tell: reads; the buffer stands in the ground -/
theorem buf_data {w : World} {mean : ExcName → Option Value} {mg mb : Str → Option Value} {x d o : Addr} {t1 t2 t3 : Tok} {bs : List UInt8} {k : Nat} (hz : bs.length ≤ 100000) (hk : k ≤ bs.length) :
    Con w mean mg mb 5 77 [.ref x] [] (bufL w.params x d o bs (k : Nat) t1 t2 t3) (fun r news' => (∃ t, r = .bytes (bs.take k).toArray t) ∧ news' = bufL w.params x d o bs (k : Nat) t1 t2 t3) := by
  intro dp un gd ll base g s R B X T Kp N hdp hun ret
  w_on
  have hxd : @Ne Nat x d := led_ne N (.head _) (.tail _ (.head _)) (cls_ne (by simp))
  have hxo : @Ne Nat x o := led_ne N (.head _) (.tail _ (.tail _ (.head _))) (cls_ne (by simp))
  have hdo : @Ne Nat d o := led_ne N (.tail _ (.head _)) (.tail _ (.tail _ (.head _))) (cls_ne (by simp))
  walk_at "mine enter"
  repeat' (first | ((with_reducible show wpAny _ _ (call _ _) _ _ _); (k_here; (with_reducible show wpAny _ _ (call (Value.type "bytes") [Value.ref _]) _ _ _); (with_reducible rename News _ _ _ _ => N'_q); (refine' BA.bytes_of ?ba_q ?hz_q ?_; (case ba_q => exact led_ba N'_q (by k_mem)); (case hz_q => (((try simp only [Array.size_append]); refine Nat.le_trans (by first | exact Nat.add_le_add (Nat.add_le_add (KBc.size_picked_le _ _ _) (Nat.le_refl _)) (KBc.size_picked_le _ _ _) | exact Nat.add_le_add (KBc.size_picked_le _ _ _) (Nat.le_refl _) | exact KBc.size_picked_le _ _ _) ?_; simp only [List.size_toArray, List.length_append]; omega))); intro _ _; (try dsimp only)))) | ((with_reducible show wpAny _ _ (subscriptTail _ _ _ _) _ _ _); (k_here; (with_reducible show wpAny _ _ (subscriptTail _ (Expr.Slice _ _ none _) (Value.ref _) (Value.ref _)) _ _ _); (with_reducible rename Fr _ _ _ _ => F'_q); (with_reducible rename News _ _ _ _ => N'_q); (refine' BA.slice_N (s := ⟨_, _, _, _, _⟩) F'_q N'_q ?ba_q (by constructor) (by constructor) ?hz_q ?_; (case ba_q => exact led_ba N'_q (by k_mem)); (case hz_q => (((try simp only [Array.size_append]); refine Nat.le_trans (by first | exact Nat.add_le_add (Nat.add_le_add (KBc.size_picked_le _ _ _) (Nat.le_refl _)) (KBc.size_picked_le _ _ _) | exact Nat.add_le_add (KBc.size_picked_le _ _ _) (Nat.le_refl _) | exact KBc.size_picked_le _ _ _) ?_; simp only [List.size_toArray, List.length_append]; omega))); intro h'_q x'_q F'_q N'_q l1_q; (try k_lt l1_q); (try k_sweep); (try dsimp only)))) | walk_at "mine oneD")
  (with_reducible rename Fr _ _ _ _ => F1)
  (with_reducible rename News _ _ _ _ => N1)
  rw [picked_pre bs k hk]
  refine' ret _ _ _ _ ⟨⟨_, rfl⟩, rfl⟩ (Kept.of_fr F1) (led3 N1 ?a ?b ?c)
  case a => k_mem
  case b => k_mem
  case c => k_mem
theorem buf_tell {w : World} {mean : ExcName → Option Value} {mg mb : Str → Option Value} {x d o : Addr} {t1 t2 t3 : Tok} {bs : List UInt8} {k : Nat} :
    Con w mean mg mb 5 106 [.ref x] [] (bufL w.params x d o bs (k : Nat) t1 t2 t3) (fun r news' => (∃ t, r = .int (k : Nat) t) ∧ news' = bufL w.params x d o bs (k : Nat) t1 t2 t3) := by
  intro dp un gd ll base g s R B X T Kp N hdp hun ret
  w_on
  have hxd : @Ne Nat x d := led_ne N (.head _) (.tail _ (.head _)) (cls_ne (by simp))
  have hxo : @Ne Nat x o := led_ne N (.head _) (.tail _ (.tail _ (.head _))) (cls_ne (by simp))
  have hdo : @Ne Nat d o := led_ne N (.tail _ (.head _)) (.tail _ (.tail _ (.head _))) (cls_ne (by simp))
  walk_at "mine enter"
  repeat' walk_at "mine oneD"
  (with_reducible rename Fr _ _ _ _ => F1)
  (with_reducible rename News _ _ _ _ => N1)
  exact ret _ _ _ _ ⟨⟨_, rfl⟩, rfl⟩ (Kept.of_fr F1) (Led.of_news N1)
theorem buf_seek {w : World} {mean : ExcName → Option Value} {mg mb : Str → Option Value} {x d o : Addr} {t1 t2 t3 tp : Tok} {bs : List UInt8} {k : Int} {p : Nat} (hz : bs.length ≤ 100000) (hp : p ≤ bs.length) :
    Con w mean mg mb 5 99 [.ref x, .int (p : Nat) tp] [] (bufL w.params x d o bs k t1 t2 t3) (fun r news' => r = .none ∧ ∃ t3', news' = bufL w.params x d o bs (p : Nat) t1 t2 t3') := by
  intro dp un gd ll base g s R B X T Kp N hdp hun ret
  w_on
  have hxd : @Ne Nat x d := led_ne N (.head _) (.tail _ (.head _)) (cls_ne (by simp))
  have hxo : @Ne Nat x o := led_ne N (.head _) (.tail _ (.tail _ (.head _))) (cls_ne (by simp))
  have hdo : @Ne Nat d o := led_ne N (.tail _ (.head _)) (.tail _ (.tail _ (.head _))) (cls_ne (by simp))
  walk_at "mine enter"
  repeat' (first | ((with_reducible show wpAny _ _ (call _ _) _ _ _); (k_here; (with_reducible show wpAny _ _ (call (Value.builtin "len") [Value.ref _]) _ _ _); (with_reducible rename News _ _ _ _ => N'_q); (first | (refine' len_app ?ba_q ?hz_q ?_; (case ba_q => exact led_ba N'_q (by k_mem)); (case hz_q => first | with_reducible assumption | omega); k_whole) | (refine' len_bs ?ba_q ?hz_q ?_; (case ba_q => exact led_ba N'_q (by k_mem)); (case hz_q => first | with_reducible assumption | omega); k_whole)))) | walk_at "mine oneD")
  (with_reducible rename Fr _ _ _ _ => F1)
  (with_reducible rename News _ _ _ _ => N1)
  refine' ret _ _ _ _ ⟨rfl, _, rfl⟩ (Kept.of_fr F1) (led3 N1 ?a ?b ?c)
  case a => k_mem
  case b => k_mem
  case c => k_mem
end Mine
end
section
open PySem PySem.W PyProof.Rows PySem.Calls
set_option maxRecDepth 100000
namespace Mine
theorem uval_snoc (l : List UInt8) (c : UInt8) : uval (l ++ [c]) = uval l * 256 + (c.toNat : Int) := by
  rw [uval_nat, uval_nat, List.foldl_append]
  simp only [List.foldl_cons, List.foldl_nil]
  omega
theorem beI_succ (n : Nat) (x : Int) : beI (n + 1) x = beI n (x / 256) ++ [UInt8.ofNat (x % 256).toNat] := by
  unfold beI
  show ((x % 256 :: KTBy.little n (x / 256)).reverse).map _ = _
  rw [List.reverse_cons, List.map_append]
  rfl
theorem uval_beI : ∀ (n : Nat) (x : Int), 0 ≤ x → x < 256 ^ n → uval (beI n x) = x
  | 0, x, h0, h1 => by
    have : x = 0 := by
      have : (256 : Int) ^ 0 = 1 := rfl
      omega
    subst this
    rfl
  | n + 1, x, h0, h1 => by
    have h2 : x / 256 < 256 ^ n := by
      rw [Int.pow_succ] at h1
      exact Int.ediv_lt_of_lt_mul (by decide) h1
    rw [beI_succ, uval_snoc, uval_beI n (x / 256) (by omega) h2]
    have h3 : ((UInt8.ofNat (x % 256).toNat).toNat : Int) = x % 256 := by
      rw [UInt8.toNat_ofNat']
      have := Int.emod_nonneg x (show (256 : Int) ≠ 0 by decide)
      have := Int.emod_lt_of_pos x (show (0 : Int) < 256 by decide)
      omega
    rw [h3]
    omega
theorem pv_at {pre e post : List UInt8} {c : UInt8} {r : List UInt8} (he : e = c :: r) (hl : e.length = 2 ^ (c.toNat / 64)) :
    pv (pre ++ (e ++ post)) pre.length = some (uval e % 2 ^ (8 * 2 ^ (c.toNat / 64) - 2), pre.length + e.length) := by
  have hc : (pre ++ (e ++ post))[pre.length]? = some c := by subst he; simp
  unfold pv
  rw [hc]
  dsimp only
  rw [← hl, if_pos (by simp)]
  rw [List.drop_left' rfl, List.take_left' rfl]
theorem pv_cut {pre e : List UInt8} {j : Nat} {c : UInt8} {r : List UInt8} (he : e = c :: r) (hl : e.length = 2 ^ (c.toNat / 64)) (hj : j < e.length) : pv (pre ++ e.take j) pre.length = none := by
  unfold pv
  cases j with
  | zero => simp
  | succ j =>
    have hc : (pre ++ e.take (j + 1))[pre.length]? = some c := by subst he; simp
    rw [hc]
    dsimp only
    rw [← hl, if_neg]
    rw [List.length_append, List.length_take]
    omega
theorem beI_head (n : Nat) (x : Int) : ∃ r, beI (n + 1) x = UInt8.ofNat (x / 256 ^ n % 256).toNat :: r := by
  induction n generalizing x with
  | zero => exact ⟨[], by rw [beI_succ]; simp [beI, KTBy.little]⟩
  | succ n ih =>
    obtain ⟨r, hr⟩ := ih (x / 256)
    refine ⟨r ++ [UInt8.ofNat (x % 256).toNat], ?_⟩
    rw [beI_succ, hr, List.cons_append]
    congr 4
    rw [Int.ediv_ediv_of_nonneg (by decide), Int.pow_succ, Int.mul_comm]
theorem byte64 {y : Int} {j : Nat} (h : y / 64 = (j : Int)) (hj : j ≤ 3) : y.toNat % 2 ^ 8 / 64 = j := by omega
/-- what a written number reads as -/
theorem vput_parts (v : Int) (l : Nat) (h0 : 0 ≤ v) (h1 : v < 4611686018427387904) (hl : l ≤ 3) : ∃ c r, vput v l = c :: r ∧ (vput v l).length = 2 ^ (c.toNat / 64) ∧ uval (vput v l) % 2 ^ (8 * 2 ^ (c.toNat / 64) - 2) = v := by
  have hi : ∃ i : Nat, i = max (vidx v) l := ⟨_, rfl⟩
  obtain ⟨i, hi⟩ := hi
  have hv : vput v l = if i = 0 then beI 1 v else if i = 1 then beI 2 (v + 16384) else if i = 2 then beI 4 (v + 2147483648) else beI 8 (v + 13835058055282163712) := by rw [hi]; rfl
  have hi3 := vidx_max hl hi
  have key : ∀ (n j : Nat) (W x : Int), 64 * 256 ^ n = W → v < W → x = v + (j : Int) * W → j ≤ 3 → n + 1 = 2 ^ j → (2 : Int) ^ (8 * 2 ^ j - 2) = W →
      ∃ c r, beI (n + 1) x = c :: r ∧ (beI (n + 1) x).length = 2 ^ (c.toNat / 64) ∧ uval (beI (n + 1) x) % 2 ^ (8 * 2 ^ (c.toNat / 64) - 2) = v := fun n j W x hW hv hx hj hn hm => by
    obtain ⟨r, hr⟩ := beI_head n x
    have hP : (0 : Int) < 256 ^ n := Int.pow_pos (by decide)
    have hW0 : 0 < W := Int.lt_of_le_of_lt h0 hv
    have hj' : (j : Int) * W ≤ 3 * W := Int.mul_le_mul_of_nonneg_right (Int.ofNat_le.mpr hj) (Int.le_of_lt hW0)
    have hx0 : 0 ≤ x := by rw [hx]; exact Int.add_nonneg h0 (Int.mul_nonneg (Int.natCast_nonneg j) (Int.le_of_lt hW0))
    have hx1 : x < 256 ^ (n + 1) := by rw [Int.pow_succ, Int.mul_comm]; omega
    have hxd : x / W = (j : Int) := by rw [hx, Int.add_mul_ediv_right _ _ (Int.ne_of_gt hW0), Int.ediv_eq_zero_of_lt h0 hv, Int.zero_add]
    have hxm : x % W = v := by rw [hx, Int.add_mul_emod_self_right, Int.emod_eq_of_lt h0 hv]
    have hc0 := Int.emod_nonneg (x / 256 ^ n) (show (256 : Int) ≠ 0 by decide)
    have hcn : (UInt8.ofNat (x / 256 ^ n % 256).toNat).toNat / 64 = j := by
      have e1 : x / 256 ^ n % 256 = x / 256 ^ n := Int.emod_eq_of_lt (Int.ediv_nonneg hx0 (Int.le_of_lt hP)) (Int.ediv_lt_of_lt_mul hP (by rw [Int.pow_succ, Int.mul_comm] at hx1; exact hx1))
      have e2 : x / 256 ^ n / 64 = (j : Int) := by rw [Int.ediv_ediv_of_nonneg (Int.le_of_lt hP), Int.mul_comm, hW, hxd]
      rw [UInt8.toNat_ofNat', e1]
      exact byte64 e2 hj
    refine ⟨_, r, hr, ?_, ?_⟩
    · rw [hcn, beI_length, hn]
    · rw [hcn, uval_beI _ _ hx0 hx1, hm, hxm]
  rcases hi3 with ⟨rfl, hb⟩ | ⟨rfl, hb⟩ | ⟨rfl, hb⟩ | rfl
  · rw [hv, if_pos rfl]
    exact key 0 0 64 v rfl (Int.lt_of_le_of_lt hb (by decide)) (Int.add_zero v).symm (by decide) rfl rfl
  · rw [hv, if_neg (by decide), if_pos rfl]
    exact key 1 1 16384 (v + 16384) rfl (Int.lt_of_le_of_lt hb (by decide)) rfl (by decide) rfl rfl
  · rw [hv, if_neg (by decide), if_neg (by decide), if_pos rfl]
    exact key 3 2 1073741824 (v + 2147483648) rfl (Int.lt_of_le_of_lt hb (by decide)) rfl (by decide) rfl rfl
  · rw [hv, if_neg (by decide), if_neg (by decide), if_neg (by decide)]
    exact key 7 3 4611686018427387904 (v + 13835058055282163712) rfl h1 rfl (by decide) rfl rfl
theorem pv_vput (pre post : List UInt8) (v : Int) (l : Nat) (h0 : 0 ≤ v) (h1 : v < 4611686018427387904) (hl : l ≤ 3) : pv (pre ++ (vput v l ++ post)) pre.length = some (v, pre.length + (vput v l).length) := by
  obtain ⟨c, r, h2, h3, h4⟩ := vput_parts v l h0 h1 hl
  rw [pv_at h2 h3, h4]
theorem pv_vcut (pre : List UInt8) (v : Int) (l j : Nat) (h0 : 0 ≤ v) (h1 : v < 4611686018427387904) (hl : l ≤ 3) (hj : j < (vput v l).length) : pv (pre ++ (vput v l).take j) pre.length = none := by
  obtain ⟨c, r, h2, h3, h4⟩ := vput_parts v l h0 h1 hl
  exact pv_cut h2 h3 hj
end Mine
end
section
open PySem PySem.W PyProof.Rows PySem.Calls
set_option maxRecDepth 100000
namespace Mine
/-- gaps and sizes by the law's own writer, each with the least index of its length -/
noncomputable def gfr : List (Int × Int × Nat) → List UInt8
  | [] => []
  | (g, z, l) :: r => vput g l ++ vput z l ++ gfr r
noncomputable def gframe (e dl : Int) (l0 ld : Nat) (z : Int) (tl : List (Int × Int × Nat)) : List UInt8 := vput e l0 ++ vput dl ld ++ vput (tl.length : Int) l0 ++ vput z l0 ++ gfr tl
noncomputable def grow : Int → List (Int × Int × Nat) → List (Int × Int) → Int × List (Int × Int)
  | e, [], acc => (e, acc)
  | e, (g, z, _) :: r, acc => grow (e - (g + 2) - z) r ((e - (g + 2) - z, e - (g + 2) + 1) :: acc)
noncomputable def OkG (tl : List (Int × Int × Nat)) : Prop := ∀ q ∈ tl, 0 ≤ q.1 ∧ q.1 < 4611686018427387904 ∧ 0 ≤ q.2.1 ∧ q.2.1 < 4611686018427387904 ∧ q.2.2 ≤ 3
theorem prow_gfr : ∀ (tl : List (Int × Int × Nat)) (pre post : List UInt8) (e : Int) (acc : List (Int × Int)), OkG tl →
    prow (pre ++ (gfr tl ++ post)) tl.length pre.length e acc = some (pre.length + (gfr tl).length, (grow e tl acc).1, (grow e tl acc).2)
  | [], pre, post, e, acc, _ => rfl
  | (g, z, l) :: r, pre, post, e, acc, ok => by
    obtain ⟨h1, h2, h3, h4, h5⟩ := ok _ (.head _)
    dsimp only at h1 h2 h3 h4 h5
    have e1 : pre ++ (gfr ((g, z, l) :: r) ++ post) = pre ++ (vput g l ++ (vput z l ++ (gfr r ++ post))) := by simp [gfr]
    have e2 : pre ++ (vput g l ++ (vput z l ++ (gfr r ++ post))) = (pre ++ vput g l) ++ (vput z l ++ (gfr r ++ post)) := by simp
    have e3 : pre ++ (vput g l ++ (vput z l ++ (gfr r ++ post))) = (pre ++ vput g l ++ vput z l) ++ (gfr r ++ post) := by simp
    have p1 := pv_vput pre (vput z l ++ (gfr r ++ post)) g l h1 h2 h5
    have p2 := pv_vput (pre ++ vput g l) (gfr r ++ post) z l h3 h4 h5
    rw [← e2, List.length_append] at p2
    have ih := prow_gfr r (pre ++ vput g l ++ vput z l) post (e - (g + 2) - z) ((e - (g + 2) - z, e - (g + 2) + 1) :: acc) fun q hq => ok q (.tail _ hq)
    rw [← e3] at ih
    simp only [List.length_append] at ih
    rw [e1, List.length_cons]
    unfold prow
    rw [p1]
    dsimp only
    rw [p2]
    dsimp only
    rw [ih]
    simp only [gfr, grow, List.length_append, Nat.add_assoc]
theorem pack_gframe (pre post : List UInt8) {e dl z : Int} {l0 ld : Nat} {tl : List (Int × Int × Nat)} (he0 : 0 ≤ e) (he1 : e < 4611686018427387904) (hd0 : 0 ≤ dl) (hd1 : dl < 4611686018427387904) (hz0 : 0 ≤ z) (hz1 : z < 4611686018427387904) (hl0 : l0 ≤ 3) (hld : ld ≤ 3) (hn : tl.length < 1000) (ok : OkG tl) :
    pack (pre ++ (gframe e dl l0 ld z tl ++ post)) pre.length = some (pre.length + (gframe e dl l0 ld z tl).length, (grow (e - z) tl [(e - z, e + 1)]).1, (grow (e - z) tl [(e - z, e + 1)]).2, dl) := by
  have e1 : pre ++ (gframe e dl l0 ld z tl ++ post) = pre ++ (vput e l0 ++ (vput dl ld ++ (vput (tl.length : Int) l0 ++ (vput z l0 ++ (gfr tl ++ post))))) := by simp [gframe]
  have p1 := pv_vput pre (vput dl ld ++ (vput (tl.length : Int) l0 ++ (vput z l0 ++ (gfr tl ++ post)))) e l0 he0 he1 hl0
  have p2 := pv_vput (pre ++ vput e l0) (vput (tl.length : Int) l0 ++ (vput z l0 ++ (gfr tl ++ post))) dl ld hd0 hd1 hld
  have p3 := pv_vput (pre ++ vput e l0 ++ vput dl ld) (vput z l0 ++ (gfr tl ++ post)) (tl.length : Int) l0 (by omega) (by omega) hl0
  have p4 := pv_vput (pre ++ vput e l0 ++ vput dl ld ++ vput (tl.length : Int) l0) (gfr tl ++ post) z l0 hz0 hz1 hl0
  have p5 := prow_gfr tl (pre ++ vput e l0 ++ vput dl ld ++ vput (tl.length : Int) l0 ++ vput z l0) post (e - z) [(e - z, e + 1)] ok
  simp only [List.append_assoc] at p1 p2 p3 p4 p5
  simp only [List.length_append, ← Nat.add_assoc] at p1 p2 p3 p4 p5
  rw [e1]
  unfold pack
  rw [p1]
  dsimp only
  rw [p2]
  dsimp only
  rw [p3]
  dsimp only
  rw [p4]
  dsimp only
  rw [Int.toNat_natCast, p5]
  simp only [gframe, List.length_append, ← Nat.add_assoc]
theorem take_two {α : Type} (a b : List α) (j : Nat) : (j < a.length ∧ (a ++ b).take j = a.take j) ∨ (a.length ≤ j ∧ (a ++ b).take j = a ++ b.take (j - a.length)) := by
  rcases Nat.lt_or_ge j a.length with h | h
  · exact .inl ⟨h, List.take_append_of_le_length (Nat.le_of_lt h)⟩
  · refine .inr ⟨h, ?_⟩
    rw [List.take_append, List.take_of_length_le h]
theorem prow_cut : ∀ (tl : List (Int × Int × Nat)) (pre : List UInt8) (e : Int) (acc : List (Int × Int)) (j : Nat), OkG tl → j < (gfr tl).length → prow (pre ++ (gfr tl).take j) tl.length pre.length e acc = none
  | [], pre, e, acc, j, _, hj => absurd hj (Nat.not_lt_zero _)
  | (g, z, l) :: r, pre, e, acc, j, ok, hj => by
    obtain ⟨h1, h2, h3, h4, h5⟩ := ok _ (.head _)
    dsimp only at h1 h2 h3 h4 h5
    have e1 : gfr ((g, z, l) :: r) = vput g l ++ (vput z l ++ gfr r) := by simp [gfr]
    rw [e1] at hj ⊢
    rw [List.length_cons]
    rcases take_two (vput g l) (vput z l ++ gfr r) j with ⟨c1, t1⟩ | ⟨c1, t1⟩
    · rw [t1]
      unfold prow
      rw [pv_vcut pre g l j h1 h2 h5 c1]
    · rw [t1]
      have p1 := pv_vput pre ((vput z l ++ gfr r).take (j - (vput g l).length)) g l h1 h2 h5
      unfold prow
      rw [p1]
      dsimp only
      rcases take_two (vput z l) (gfr r) (j - (vput g l).length) with ⟨c2, t2⟩ | ⟨c2, t2⟩
      · have p2 := pv_vcut (pre ++ vput g l) z l (j - (vput g l).length) h3 h4 h5 c2
        rw [List.length_append, List.append_assoc] at p2
        rw [t2, p2]
      · have p2 := pv_vput (pre ++ vput g l) ((gfr r).take (j - (vput g l).length - (vput z l).length)) z l h3 h4 h5
        rw [List.length_append, List.append_assoc] at p2
        rw [t2, p2]
        dsimp only
        have ih := prow_cut r (pre ++ vput g l ++ vput z l) (e - (g + 2) - z) ((e - (g + 2) - z, e - (g + 2) + 1) :: acc) (j - (vput g l).length - (vput z l).length) (fun q hq => ok q (.tail _ hq)) (by simp only [List.length_append] at hj; omega)
        simp only [List.length_append, List.append_assoc, Nat.add_assoc] at ih ⊢
        exact ih
theorem pack_cut {e dl z : Int} {l0 ld : Nat} {tl : List (Int × Int × Nat)} (he0 : 0 ≤ e) (he1 : e < 4611686018427387904) (hd0 : 0 ≤ dl) (hd1 : dl < 4611686018427387904) (hz0 : 0 ≤ z) (hz1 : z < 4611686018427387904) (hl0 : l0 ≤ 3) (hld : ld ≤ 3) (hn : tl.length < 1000) (ok : OkG tl) (j : Nat) (hj : j < (gframe e dl l0 ld z tl).length) :
    pack ((gframe e dl l0 ld z tl).take j) 0 = none := by
  have e1 : gframe e dl l0 ld z tl = vput e l0 ++ (vput dl ld ++ (vput (tl.length : Int) l0 ++ (vput z l0 ++ gfr tl))) := by simp [gframe]
  rw [e1] at hj ⊢
  unfold pack
  rcases take_two (vput e l0) (vput dl ld ++ (vput (tl.length : Int) l0 ++ (vput z l0 ++ gfr tl))) j with ⟨c1, t1⟩ | ⟨c1, t1⟩
  · have p1 := pv_vcut [] e l0 j he0 he1 hl0 c1
    rw [List.nil_append, List.length_nil] at p1
    rw [t1, p1]
  have p1 := fun q => pv_vput [] q e l0 he0 he1 hl0
  simp only [List.nil_append, List.length_nil, Nat.zero_add] at p1
  rw [t1, p1]
  dsimp only
  rcases take_two (vput dl ld) (vput (tl.length : Int) l0 ++ (vput z l0 ++ gfr tl)) (j - (vput e l0).length) with ⟨c2, t2⟩ | ⟨c2, t2⟩
  · rw [t2, pv_vcut (vput e l0) dl ld _ hd0 hd1 hld c2]
  have p2 := fun q => pv_vput (vput e l0) q dl ld hd0 hd1 hld
  rw [t2, p2]
  dsimp only
  rcases take_two (vput (tl.length : Int) l0) (vput z l0 ++ gfr tl) (j - (vput e l0).length - (vput dl ld).length) with ⟨c3, t3⟩ | ⟨c3, t3⟩
  · have p3 := pv_vcut (vput e l0 ++ vput dl ld) (tl.length : Int) l0 _ (by omega) (by omega) hl0 c3
    rw [List.length_append, List.append_assoc] at p3
    rw [t3, p3]
  have p3 := fun q => pv_vput (vput e l0 ++ vput dl ld) q (tl.length : Int) l0 (by omega) (by omega) hl0
  simp only [List.length_append, List.append_assoc, ← Nat.add_assoc] at p3
  rw [t3, p3]
  dsimp only
  rcases take_two (vput z l0) (gfr tl) (j - (vput e l0).length - (vput dl ld).length - (vput (tl.length : Int) l0).length) with ⟨c4, t4⟩ | ⟨c4, t4⟩
  · have p4 := pv_vcut (vput e l0 ++ vput dl ld ++ vput (tl.length : Int) l0) z l0 _ hz0 hz1 hl0 c4
    simp only [List.length_append, List.append_assoc, ← Nat.add_assoc] at p4
    rw [t4, p4]
  have p4 := fun q => pv_vput (vput e l0 ++ vput dl ld ++ vput (tl.length : Int) l0) q z l0 hz0 hz1 hl0
  simp only [List.length_append, List.append_assoc, ← Nat.add_assoc] at p4
  rw [t4, p4]
  dsimp only
  have p5 := prow_cut tl (vput e l0 ++ vput dl ld ++ vput (tl.length : Int) l0 ++ vput z l0) (e - z) [(e - z, e + 1)] (j - (vput e l0).length - (vput dl ld).length - (vput (tl.length : Int) l0).length - (vput z l0).length) ok (by simp only [List.length_append] at hj; omega)
  simp only [List.length_append, List.append_assoc, ← Nat.add_assoc] at p5
  rw [Int.toNat_natCast, p5]
/-- a set's frame is one of these -/
noncomputable def gaps : Int → List (Int × Int) → List (Int × Int × Nat)
  | _, [] => []
  | s, (a, b) :: r => (s - b - 1, b - a - 1, 0) :: gaps a r
theorem fgap_gfr : ∀ (xs : List (Int × Int)) (s : Int), fgap s xs = gfr (gaps s xs)
  | [], _ => rfl
  | (a, b) :: r, s => by
    show venc (s - b - 1) ++ venc (b - a - 1) ++ fgap a r = vput (s - b - 1) 0 ++ vput (b - a - 1) 0 ++ gfr (gaps a r)
    rw [vput_zero, vput_zero, fgap_gfr r a]
theorem gaps_length : ∀ (xs : List (Int × Int)) (s : Int), (gaps s xs).length = xs.length
  | [], _ => rfl
  | (a, b) :: r, s => by
    show (gaps a r).length + 1 = r.length + 1
    rw [gaps_length r a]
theorem fenc_gframe (delay a b : Int) (xs : List (Int × Int)) : fenc delay ((a, b) :: xs) = gframe (b - 1) delay 0 0 (b - 1 - a) (gaps a xs) := by
  show venc (b - 1) ++ venc delay ++ venc (xs.length : Int) ++ venc (b - 1 - a) ++ fgap a xs = _
  unfold gframe
  rw [vput_zero, vput_zero, vput_zero, vput_zero, gaps_length, fgap_gfr]
theorem grow_gaps : ∀ (xs : List (Int × Int)) (s : Int) (acc : List (Int × Int)), (grow s (gaps s xs) acc).2 = xs.reverse ++ acc ∧ (grow s (gaps s xs) acc).1 = (match xs.getLast? with | some q => q.1 | none => s)
  | [], s, acc => ⟨rfl, rfl⟩
  | (a, b) :: r, s, acc => by
    have e1 : s - (s - b - 1 + 2) - (b - a - 1) = a := by omega
    have e2 : s - (s - b - 1 + 2) + 1 = b := by omega
    have ih := grow_gaps r a ((a, b) :: acc)
    show (grow (s - (s - b - 1 + 2) - (b - a - 1)) (gaps a r) ((s - (s - b - 1 + 2) - (b - a - 1), s - (s - b - 1 + 2) + 1) :: acc)).2 = _ ∧ (grow (s - (s - b - 1 + 2) - (b - a - 1)) (gaps a r) ((s - (s - b - 1 + 2) - (b - a - 1), s - (s - b - 1 + 2) + 1) :: acc)).1 = _
    rw [e1, e2]
    refine ⟨by rw [ih.1]; simp, ?_⟩
    rw [ih.2]
    cases r with
    | nil => rfl
    | cons q r =>
      rw [List.getLast?_cons_cons]
      rw [List.getLast?_eq_some_getLast (List.cons_ne_nil q r)]
theorem okG_gaps : ∀ (xs : List (Int × Int)) (s : Int), s ≤ 4611686018427387904 → (∀ q ∈ xs.head?, q.2 < s) → OkR xs → OkG (gaps s xs)
  | [], _, _, _, _ => fun _ h => nomatch h
  | (a, b) :: r, s, hs, hh, ⟨h1, h2, h3, h4, h5⟩ => by
    have hb := hh _ rfl
    dsimp only at hb
    intro q hq
    rcases List.mem_cons.mp hq with rfl | hq
    · exact ⟨by dsimp only; omega, by dsimp only; omega, by dsimp only; omega, by dsimp only; omega, Nat.zero_le _⟩
    · exact okG_gaps r a (by omega) h4 h5 q hq
end Mine
end
section
open PySem PySem.W PyProof.Rows PySem.Calls
set_option maxRecDepth 100000
namespace Mine
section
variable {M : Model} {A : Around} {R : GenEnd} {Y : Protocol} {n : Nat} {s₀ : Shared} {c : Code} {fs : List Frame} {s : Shared} {env : Env}
  {K : Flow → Sem Fin} {H : Value → Sem Fin} {gd : Bool → Bool} {lv : List Value → List Value}
theorem seg_For {target iter : PySem.Expr} {body orelse : List Stmt} {pos : Pos}
    (h : wpAny M (A.over c fs) (eval iter env) (fun xv s₁ => wpAny M (A.over c fs) (pyIter xv) (fun it s₂ => ∀ p,
      Seg M A R Y n s₀ (.forLoop target it body orelse env) (M.den (.forLoop target it body orelse env))
        (.ret (fun r => ((match r with | .ok f => (.pure f : Sem Flow) | .error e => .raise e).onRaise fun (x : Value) => do
          if (← field x 1) == Value.none then unsupported "frame.own-activation:exception-without-traceback"
          setFlight x env.frame).wrap K H gd lv) none (gd false) (lv []) c p [] :: fs) s₂) (fun x s' => Seg M A R Y n s₀ c (H x) fs s') s₁) (fun x s' => Seg M A R Y n s₀ c (H x) fs s') s)
    (hs : ∀ x, foldedSetIterable iter env x = pure x) :
    Seg M A R Y n s₀ c ((exec (.For target iter body orelse pos) env).wrap K H gd lv) fs s := by
  rw [arm_exec_For]
  refine seg_bind_wrap (wpAny_standAt ?_)
  refine seg_bind_wrap (wpAny_mono h (fun xv s₁ h₁ => ?_) fun _ _ e => e)
  rw [hs]
  refine seg_bind_wrap (wpAny_pure ?_)
  refine seg_bind_wrap (wpAny_standAt ?_)
  refine seg_bind_wrap (wpAny_holding (wpAny_mono h₁ (fun it s₂ h₂ => ?_) fun _ _ e => e))
  exact seg_call h₂
end
/-- what a sleeping generator of RangeSet.__iter__ leans on: its frame, its list iterator, the list -/
noncomputable def GSt (h₀ : Heap) (Lg Jt lr : Addr) (vs : List Value) (i : Nat) (h : Heap) : Prop :=
  (∀ b o, h₀.get? b = some o → h.get? b = some o) ∧ (∃ m, h.Ns Lg m) ∧ h.IsListIter Jt lr i ∧ h.IsList lr vs.toArray
noncomputable def gR (Lg Jt : Addr) : GenEnd := fun n s₀ r s₁ => r = .ok (.ret .none) ∧ (n = 0 ∧ GenSince Lg [Jt] s₀ s₁)
noncomputable def gY (h₀ : Heap) (Lg Jt lr : Addr) (vs : List Value) : Protocol := fun m s₀ v s kap =>
  (∃ i, i + m + 1 = vs.length ∧ vs[i]? = some v ∧ GSt h₀ Lg Jt lr vs (i + 1) s.heap ∧ ∀ s'' : Shared, GSt h₀ Lg Jt lr vs (i + 1) s''.heap → kap (.send .none) s'') ∧ GenSince Lg [Jt] s₀ s
section
variable {prog : Program} {w : World} {A : Around}
theorem seg_turns {h₀ : Heap} {Lg Jt lr : Addr} {vs : List Value} {env : Env} {x : Str} {px p1 p2 p3 : Pos} {kk : Result → Sem Fin} {l0 : List Value} {c1 : Code} {pp : Pos} {kp : List Value}
    (hh : A.handled = none) (hLe : env.locals = Lg) (hJL : Jt ≠ Lg) (hlJ : lr ≠ Jt) (hlL : lr ≠ Lg) (hJ₀ : h₀.get? Jt = none) (hL₀ : h₀.get? Lg = none)
    (hx : env.kindOf x = some .local) (hp : (env.scope.kind == .class || (env.scope.kind == .module && env.locals != env.globals)) = false) (hk : env.scope.kind = .function) (hco : env.scope.isCoroutine = false) (hi : interactive env = false) (hd : (x == ("__debug__" : Str)) = false)
    (hkk : kk (.ok .next) = .pure (.done (.ret .none))) :
    ∀ (k i : Nat) (s₀ s : Shared), vs.length - i = k → i ≤ vs.length → GSt h₀ Lg Jt lr vs i s.heap → GenSince Lg [Jt] s₀ s →
      Seg (model prog w) A (gR Lg Jt) (gY h₀ Lg Jt lr vs) (vs.length - i) s₀ (.forLoop (.Name x px) (.ref Jt) [.Expr (.Yield (some (.Name x p1)) p2) p3] [] env)
        ((model prog w).den (.forLoop (.Name x px) (.ref Jt) [.Expr (.Yield (some (.Name x p1)) p2) p3] [] env)) [.ret kk none false l0 c1 pp kp] s := by
  have hh' : (A.over (.forLoop (.Name x px) (.ref Jt) [.Expr (.Yield (some (.Name x p1)) p2) p3] [] env) [.ret kk none false l0 c1 pp kp]).handled = none := hh
  have W := Walks.list (prog := prog) (w := w) hh' Jt lr hlJ vs.toArray
  intro k
  induction k with
  | zero =>
    intro i s₀ s hk' hle st hsince
    have hin : i = vs.length := by omega
    subst hin
    obtain ⟨st0, ⟨m, hm⟩, st1, st2⟩ := st
    show Seg _ A _ _ _ s₀ _ ((forTurn (.Name x px) (.ref Jt) [.Expr (.Yield (some (.Name x p1)) p2) p3] [] env).onRaise (fun x => do noteFrame x env; theTreesLotGoes x)) _ s
    unfold forTurn
    rw [Sem.onRaise_eq_wrap]
    refine seg_bind_wrap (wpAny_standAt ?_)
    refine seg_bind_wrap (wpAny_onRaise (W.done s _ _ (by simpa using ⟨st1, st2⟩) fun h' tk hk' => ?_))
    refine seg_again rfl ?_
    show Seg _ A _ _ _ s₀ (.block [] env) (.pure (.done .next)) _ _
    refine seg_leaf (.ok .next) ?_
    rw [hkk]
    refine seg_end (.ok (.ret .none)) ⟨rfl, by omega, hsince.step fun b o _ hw e => hk' b o hw e⟩
  | succ k ih =>
    intro i s₀ s hk' hle st hsince
    have hlt : i < vs.length := by omega
    obtain ⟨st0, ⟨m, hm⟩, st1, st2⟩ := st
    show Seg _ A _ _ _ s₀ _ ((forTurn (.Name x px) (.ref Jt) [.Expr (.Yield (some (.Name x p1)) p2) p3] [] env).onRaise (fun x => do noteFrame x env; theTreesLotGoes x)) _ s
    unfold forTurn
    rw [Sem.onRaise_eq_wrap]
    refine seg_bind_wrap (wpAny_standAt ?_)
    refine seg_bind_wrap (wpAny_onRaise (W.item i s _ _ (by simpa using hlt) ⟨st1, st2⟩ fun v h₁ tk₁ hv st' hk₁ => ?_))
    refine seg_bind_wrap (wpAny_of_eq (rfl : letOwnedTupleGo (.Name x px) (.ref Jt) v = pure ()) ?_)
    have hm₁ : h₁.Ns env.locals m := hLe ▸ hm.at' fun o e => hk₁ Lg o (by simpa using Ne.symm hJL) e
    refine seg_bind_wrap (wpAny_assign_Name (wpAny_storeName_local hx hm₁ (fun h₂ hn₂ hs₂ => ?_) hp))
    rw [Sem.bind_eq_wrap', Sem.wrap_wrap]
    rw [show vs.length - i = (vs.length - (i + 1)) + 1 from by omega]
    refine seg_execs_cons (seg_Expr_Yield rfl rfl rfl ?_ hco hi)
    refine wpAny_Name (wpAny_loadName_local hk hx hn₂ (if_pos rfl) ?_) hd
    rw [hLe] at hn₂ hs₂
    have gst : GSt h₀ Lg Jt lr vs (i + 1) h₂ := by
      refine ⟨fun b o e => ?_, ⟨_, hn₂⟩, ?_, ?_⟩
      · refine hs₂.extBut b o (fun q => by rw [q, hL₀] at e; cases e) (hk₁ b o (fun q => ?_) (st0 b o e))
        rw [List.mem_singleton.mp q, hJ₀] at e; cases e
      · obtain ⟨o, ho, r⟩ := st'.1
        exact ⟨o, hs₂.extBut _ _ hJL ho, r⟩
      · obtain ⟨o, ho, r⟩ := st'.2
        exact ⟨o, hs₂.extBut _ _ hlL ho, r⟩
    intro kap hkap
    refine ⟨⟨i, by omega, by simpa using hv, gst, fun s'' st'' => hkap .none s'' ?_⟩, hsince.step fun b o hC hw e => hs₂.extBut b o hC (hk₁ b o hw e)⟩
    exact seg_again rfl (ih (i + 1) s'' s'' (by omega) hlt st'' (GenSince.refl _ _ _))
theorem seg_start {h₀ : Heap} {Lg lr : Addr} {vs : List Value} {env : Env} {x : Str} {iter : PySem.Expr} {px p1 p2 p3 p4 : Pos} {s₀ s : Shared} {m : Str → Option Value}
    (hh : A.handled = none) (hLe : env.locals = Lg) (hlL : lr ≠ Lg) (hL₀ : h₀.get? Lg = none) (hs₀ : GenSince Lg [s.heap.objs.size] s₀ s) (st : (∀ b o, h₀.get? b = some o → s.heap.get? b = some o) ∧ s.heap.Ns Lg m ∧ s.heap.IsList lr vs.toArray)
    (hx : env.kindOf x = some .local) (hp : (env.scope.kind == .class || (env.scope.kind == .module && env.locals != env.globals)) = false) (hk : env.scope.kind = .function) (hco : env.scope.isCoroutine = false) (hi : interactive env = false) (hd : (x == ("__debug__" : Str)) = false)
    (hs : ∀ x, foldedSetIterable iter env x = pure x)
    (hev : ∀ (A' : Around) E' (Q : Value → Shared → Prop), A'.handled = none → (∀ tk, Q (.ref lr) { s with toks := tk }) → wpAny (model prog w) A' (eval iter env) Q E' s) :
    Seg (model prog w) A (gR Lg s.heap.objs.size) (gY h₀ Lg s.heap.objs.size lr vs) vs.length s₀ (.func [.For (.Name x px) iter [.Expr (.Yield (some (.Name x p1)) p2) p3] [] p4] env)
      ((model prog w).den (.func [.For (.Name x px) iter [.Expr (.Yield (some (.Name x p1)) p2) p3] [] p4] env)) [] s := by
  refine seg_func (seg_execs_cons (seg_For ?_ hs))
  refine hev _ _ _ hh fun tk => ?_
  obtain ⟨st0, hm, hl⟩ := st
  have hlt : lr < s.heap.objs.size := by obtain ⟨_, e, _⟩ := hl; exact Heap.lt_size e
  have hLlt : Lg < s.heap.objs.size := hm.lt
  refine wpAny_pyIter_list hl ?_
  intro p
  have up : ∀ b o, s.heap.get? b = some o → (s.heap.push { cls := .type "list_iterator", data := .fields #[.ref lr, .int 0 0] }).get? b = some o := fun b o e => Heap.get?_push_of_some _ e
  refine seg_turns (A := A) hh hLe (Ne.symm (Nat.ne_of_lt hLlt)) (Nat.ne_of_lt hlt) hlL ?_ hL₀ hx hp hk hco hi hd rfl vs.length 0 s₀ _ (by omega) (Nat.zero_le _) ⟨fun b o e => up b o (st0 b o e), ⟨m, hm.push _⟩, ⟨_, Heap.get?_push_size _ rfl, rfl, rfl⟩, hl.push _⟩ (hs₀.step fun b o _ _ e => up b o e)
  cases q : h₀.get? s.heap.objs.size with
  | none => rfl
  | some o => exact absurd (Heap.lt_size (st0 _ _ q)) (Nat.lt_irrefl _)
end
end Mine
end
section
open PySem PySem.W PyProof.Rows PySem.Calls
set_option maxRecDepth 100000
set_option maxHeartbeats 8000000
namespace Mine
section
variable {prog : Program} {w : World} {A : Around} {E : Value → Shared → Prop} {s : Shared}
theorem pyNext_genB {a : Addr} {g n : Nat} {gs : GenState} {P : Nat → Shared → Shared → Prop} {Y : Protocol} {Q : Option Value → Shared → Prop} (hh : A.handled = none) (hl : s.heap.NoLimit) (hroom : A.depth < recursionLimit)
    (hg : s.heap.IsGen a g) (hgs : s.gens[g]? = some gs) (hgo : gs.Goes (model prog w) A.in1 (fun n s₀ r s₁ => r = .ok (.ret .none) ∧ P n s₀ s₁) Y n (.send .none) (s.setGen g .running))
    (hY : ∀ v s₁ gs', gs'.bare = true → Y (n - 1) (s.setGen g .running) v s₁ (fun r' s'' => match n with
        | 0 => False
        | m + 1 => gs'.Goes (model prog w) A.in1 (fun n s₀ r s₁ => r = .ok (.ret .none) ∧ P n s₀ s₁) Y m r' s'') → Q (some v) (s₁.setGen g gs'))
    (hP : ∀ s₁, P n (s.setGen g .running) s₁ → ∀ h', (∀ b o, s₁.heap.get? b = some o → h'.get? b = some o) → Q none { s₁.setGen g .finished with heap := h' }) :
    wpAny (model prog w) A (pyNext (.ref a)) Q E s := by
  unfold pyNext
  refine wpAny_bind (wpAny_attempt (wpAny_callSpecial?_slot (name := PySem.Str.ofString "__next__") hg.typeIs slot_gen_next (wpAny_call_entry slot_gen_next hg.typeIs entry_gen_next ?_ (args_gen_next _))))
  show wpAny _ _ (Builtin.Generator.genWake (.ref a) (.send .none)) _ _ s
  unfold Builtin.Generator.genWake
  refine wpAny_bind (wpAny_holding (wpAny_genNumber hg (wpAny_bind (wpAny_genState hgs ?_))))
  cases gs with
  | running => exact hgo.elim
  | finished => exact hgo.elim
  | _ =>
    refine wpAny_bind (wpAny_roomToWake hl hroom ?_)
    show wpAny _ _ (.resume g (.send .none) [] _) _ _ s
    refine wpAny_resumeQ hgs hgo (fun x s₁ hx => ?_) (fun v s₁ gs' hb hv => wpAny_pure ⟨v, rfl, wpAny_pure (hY v s₁ gs' hb hv)⟩)
    obtain ⟨rfl, hp⟩ := hx
    show wpAny _ _ (newExc (.type "StopIteration") [] >>= _) _ _ _
    refine wpAny_bind ?_
    simp only [newExc, newTuple]
    refine wpAny_bind (wpAny_newObj_type ?_ (by size_fits))
    refine wpAny_bind (m := firstArgMember _ _) (wpAny_of_eq (a := Value.none) (by first | rfl | (simp only [firstArgMember]; rfl)) ?_)
    refine wpAny_newObj_type ?_ (by size_fits)
    simp only [raiseNew]
    refine wpAny_bind (wpAny_bind (wpAny_handled ?_))
    rw [show A.in1.handled = none from hh]
    refine wpAny_throw ?_
    refine wpAny_bind (wpAny_isInstance (T := "StopIteration") (b := true) ⟨_, Heap.get?_push_size _ rfl, rfl⟩ isSubtype_stop ?_)
    exact wpAny_pure (hP s₁ hp _ fun b o hb => Heap.get?_push_of_some _ (Heap.get?_push_of_some _ hb))
noncomputable def GenGo (prog : Program) (w : World) (A : Around) (h₀ : Heap) (Lg lr : Addr) (vs : List Value) (j : Nat) (own fixed : List (Addr × Obj)) (gs : GenState) : Prop :=
  ∀ s'' : Shared, (∀ b o, h₀.get? b = some o → s''.heap.get? b = some o) → (∀ p ∈ own, s''.heap.get? p.1 = some p.2) → (∀ p ∈ fixed, s''.heap.get? p.1 = some p.2) →
    ∃ Jt, (own.map (·.1) = [Lg, Jt] ∨ (own.map (·.1) = [Lg] ∧ s''.heap.get? Jt = none)) ∧ gs.Goes (model prog w) A.in1 (gR Lg Jt) (gY h₀ Lg Jt lr vs) (vs.length - j) (.send .none) s''
theorem gen_bare {g : Nat} {gs gs' : GenState} (hgs : s.gens[g]? = some gs) (hb : gs'.bare = true) : ((s.setGen g .running).setGen g gs').gens[g]? = some gs' ∧ (AllBare s.gens → AllBare ((s.setGen g .running).setGen g gs').gens) :=
  ⟨setGen_self (gs := .running) (setGen_self hgs), (GenOnlyQ.of ((GenOnly.setGen s g .running).trans (GenOnly.setGen _ g gs')) (setGen_self (gs := .running) (setGen_self hgs)) hb).bare⟩
theorem gen_item {h₀ : Heap} {I Lg lr : Addr} {g : Nat} {gs : GenState} {vs : List Value} {j : Nat} {own fixed : List (Addr × Obj)} {ol : Obj} {Q : Option Value → Shared → Prop} (hh : A.handled = none) (hl : s.heap.NoLimit) (hroom : A.depth < recursionLimit)
    (hg : s.heap.IsGen I g) (hgs : s.gens[g]? = some gs) (hk : ∀ b o, h₀.get? b = some o → s.heap.get? b = some o) (ho : ∀ p ∈ own, s.heap.get? p.1 = some p.2) (hf : ∀ p ∈ fixed, s.heap.get? p.1 = some p.2) (hlr : (lr, ol) ∈ fixed) (hol : ol.cls = .type "list" ∧ ∃ n, ol.data = .seq vs.toArray n)
    (G : GenGo prog w A h₀ Lg lr vs j own fixed gs) (hj : j < vs.length)
    (k : ∀ v h' tk gens' gs' own', vs[j]? = some v → (∀ b o, b ∉ own.map (·.1) → b ∉ own'.map (·.1) → s.heap.get? b = some o → h'.get? b = some o) → (∀ p ∈ own', h'.get? p.1 = some p.2 ∧ (p.1 ∈ own.map (·.1) ∨ s.heap.get? p.1 = none)) → (∀ b ∈ own.map (·.1), b ∈ own'.map (·.1)) →
      GenGo prog w A h₀ Lg lr vs (j + 1) own' fixed gs' → gens'[g]? = some gs' → (AllBare s.gens → AllBare gens') → Q (some v) ⟨h', gens', s.drawn, tk, s.os⟩) :
    wpAny (model prog w) A (pyNext (.ref I)) Q E s := by
  obtain ⟨Jt, hJ, hgo⟩ := G (s.setGen g .running) hk ho hf
  refine pyNext_genB (P := fun n s₀ s₁ => n = 0 ∧ GenSince Lg [Jt] s₀ s₁) hh hl hroom hg hgs hgo (fun v s₁ gs' hb hv => ?_) fun s₁ hp => absurd hp.1 (by omega)
  obtain ⟨⟨i, hi, hvi, hst, hkap⟩, ⟨h₁, tk₁, rfl, hk₁⟩⟩ := hv
  have hij : i = j := by omega
  subst hij
  obtain ⟨m, hm⟩ : ∃ m, vs.length - i = m + 1 := ⟨vs.length - i - 1, by omega⟩
  obtain ⟨st0, ⟨mm, hmm⟩, ⟨oJ, hJ1, hJ2, hJ3⟩, hl'⟩ := hst
  obtain ⟨oL, es, ep, hoL, hdL, hkL, hfL⟩ := hmm
  have hb' := gen_bare hgs hb
  have inown : ∀ b, b ∈ own.map (·.1) → b ∈ [Lg, Jt] := fun b hb => by
    rcases hJ with e | e
    · rwa [e] at hb
    · rw [e.1] at hb
      exact List.mem_cons.mpr (.inl (List.mem_singleton.mp hb))
  refine k v h₁ tk₁ _ gs' [(Lg, oL), (Jt, oJ)] hvi (fun b o h1 h2 e => hk₁ b o (fun q => h2 (by simp [q])) (fun q => h2 (by simp [List.mem_singleton.mp q])) e) (fun p hp => ?_) (fun b hb => by simpa using inown b hb) (fun s'' h1 h2 h3 => ?_) hb'.1 hb'.2
  · rcases List.mem_cons.mp hp with rfl | hp
    · refine ⟨hoL, .inl ?_⟩
      rcases hJ with e | e
      · rw [e]; simp
      · rw [e.1]; simp
    · rw [List.mem_singleton.mp hp]
      refine ⟨hJ1, ?_⟩
      rcases hJ with e | e
      · rw [e]; simp
      · exact .inr e.2
  · refine ⟨Jt, .inl rfl, ?_⟩
    have e : vs.length - (i + 1) = m := by omega
    rw [e]
    rw [hm] at hkap
    refine hkap s'' ⟨h1, ⟨mm, oL, es, ep, h2 (Lg, oL) (by simp), hdL, hkL, hfL⟩, ⟨oJ, h2 (Jt, oJ) (by simp), hJ2, hJ3⟩, ⟨ol, h3 _ hlr, hol.1, hol.2⟩⟩
theorem gen_done {h₀ : Heap} {I Lg lr : Addr} {g : Nat} {gs : GenState} {vs : List Value} {own fixed : List (Addr × Obj)} {Q : Option Value → Shared → Prop} (hh : A.handled = none) (hl : s.heap.NoLimit) (hroom : A.depth < recursionLimit)
    (hg : s.heap.IsGen I g) (hgs : s.gens[g]? = some gs) (hk : ∀ b o, h₀.get? b = some o → s.heap.get? b = some o) (ho : ∀ p ∈ own, s.heap.get? p.1 = some p.2) (hf : ∀ p ∈ fixed, s.heap.get? p.1 = some p.2)
    (G : GenGo prog w A h₀ Lg lr vs vs.length own fixed gs)
    (k : ∀ h' tk gens', (∀ b o, b ∉ own.map (·.1) → s.heap.get? b = some o → h'.get? b = some o) → (AllBare s.gens → AllBare gens') → Q none ⟨h', gens', s.drawn, tk, s.os⟩) :
    wpAny (model prog w) A (pyNext (.ref I)) Q E s := by
  obtain ⟨Jt, hJ, hgo⟩ := G (s.setGen g .running) hk ho hf
  rw [Nat.sub_self] at hgo
  refine pyNext_genB (P := fun n s₀ s₁ => n = 0 ∧ GenSince Lg [Jt] s₀ s₁) hh hl hroom hg hgs hgo (fun v s₁ gs' hb hv => ?_) fun s₁ hp h' hk' => ?_
  · obtain ⟨⟨i, hi, hvi, hst, hkap⟩, _⟩ := hv
    exact False.elim (hkap s₁ hst)
  · obtain ⟨_, h₁, tk₁, rfl, hk₁⟩ := hp
    refine k h' tk₁ _ (fun b o hb e => hk' b o (hk₁ b o (fun q => hb ?_) (fun q => ?_) e)) (gen_bare (gs' := .finished) hgs rfl).2
    · rcases hJ with e | e
      · rw [e, q]; simp
      · rw [e.1, q]; simp
    · have q' := List.mem_singleton.mp q
      rcases hJ with e' | e'
      · exact hb (by rw [e', q']; simp)
      · have := e'.2
        rw [← q'] at this
        rw [show (s.setGen g GenState.running).heap = s.heap from rfl] at this
        have e2 : s.heap.get? b = some o := e
        rw [this] at e2; cases e2
end
end Mine
end
section
open PySem PySem.W PyProof.Rows PySem.Calls
set_option maxRecDepth 100000
set_option maxHeartbeats 8000000
namespace Mine
section
variable {prog : Program} {w : World} {s : Shared} {R : Result → Shared → Prop}
theorem enterG {dp un : Nat} {gd : Option (List Code)} {l : List Env} {A₀ : Around} {base g : Heap} {K : Frag} {p : Program} {loose : List Str} {mean : ExcName → Option Value} {mg mb : Str → Option Value}
    {name qual : Str} {params : Arguments} {body : List Stmt} {scope : Scope} {dV kV doc pm cdv ct oc : Value} {an od : Option Addr} {osl : Array (Option Value)} {f : Addr} {args : Args} {binds : List (Str × Value)} {wr : List (Addr × Obj)}
    (_B : Below A₀ base l g) (X : K.In g) (T : Top p loose mean mg mb g) (Kp : Kept g s.heap) (N : Led g s.heap wr) (hdp : dp < recursionLimit)
    (ho : K.lookup f = some ⟨oc, od, .func (fnOf name qual params body scope dV kV doc pm an cdv ct), osl⟩) (hcd : codeIn K cdv qual = true)
    (hbind : BindsTo s (fnOf name qual params body scope dV kV doc pm an cdv ct) args binds) (hloc : ∀ y ∈ binds, scope.names.lookup y.1 = some .local)
    (h : ∀ L h₁ tk t1 t2, Fr g L h₁ (fun y => binds.reverse.lookup y) → News g L h₁ wr → Kept s.heap h₁ → s.heap.get? L = none →
      R (.ok (.ret (.ref h₁.objs.size))) ⟨h₁.push { cls := .type "generator", data := .fields #[.int s.gens.size 0, .str name t1, .str qual t2] }, s.gens.push (.fresh (.func body (envOf qual scope L f cdv))), s.drawn, tk, s.os⟩)
    (hco : scope.isCoroutine = false) (hgen : scope.isGenerator = true) (hk : scope.kind = .function)
    (hcell : ∀ x ∈ scope.names, x.2 ≠ .cell) : codeAny (model prog w) (AX dp un gd l) (.call (.ref f) args) R s := by
  refine codeAny_call_generator (fd := fnOf name qual params body scope dV kV doc pm an cdv ct) (body := body) hdp (Kp.keep _ _ (X _ _ ho)) rfl hco hgen rfl (codeRec_of (X.keeps Kp.keep) hcd) (hbind _ _ _ _ ?_)
  refine wpAny_newFunctionEnv hcell hloc (fun h₁ hns hsb => ?_) hk
  have hk₁ : ∀ b o, s.heap.get? b = some o → h₁.get? b = some o := fun b o e => hsb.extBut b o (Nat.ne_of_lt (Heap.lt_size e)) (Heap.get?_push_of_some _ e)
  refine ⟨(T.nolimit.keeps Kp.keep).keeps hk₁, ?_⟩
  exact h s.heap.objs.size h₁ _ _ _ ⟨hns, fun b o e => hk₁ b o (Kp.keep b o e), Kp.size⟩ (fun p hp => ⟨hk₁ _ _ (N p hp).1, Nat.ne_of_lt (Heap.lt_size (N p hp).1), (N p hp).2⟩) ⟨hk₁, Nat.le_of_lt hns.lt⟩ (by
    cases q : s.heap.get? s.heap.objs.size with
    | none => rfl
    | some o => exact absurd (Heap.lt_size q) (Nat.lt_irrefl _))
end
theorem rs_gen {w : World} {dp un : Nat} {gd : Option (List Code)} {outer : List Env} {env : Env} {A₀ : Around} {base h₀ : Heap} {L : Addr} {s : Shared} {m : Str → Option Value} {mean : ExcName → Option Value} {mg mb : Str → Option Value} {news : List (Addr × Obj)}
    {xr dr lr : Addr} {tr : Tok} {rs : List RG} {nl : Nat} {Q E : Value → Shared → Prop}
    (B : Below A₀ base outer h₀) (F : Fr h₀ L s.heap m) (X : (hd.heap_39 w.params).In h₀) (T : Top hd.view_39 LS mean mg mb h₀) (N : News h₀ L s.heap news) (hf : env.frame = some L) (hke : env.scope.kind = .function)
    (h1 : (xr, instObj 329 dr) ∈ news) (h2 : (dr, rsD w.params lr tr) ∈ news) (h3 : (lr, listOf (refsOf rs).toArray nl) ∈ news) (hdp : dp + 5 < recursionLimit) (hun : un + 50 < cLine)
    (k : ∀ I Lg oL og c h' tk, Fr h₀ L h' m → News h₀ L h' ((I, og) :: (Lg, oL) :: news) → og.cls = .type "generator" → (∃ nm qn, og.data = .fields #[.int s.gens.size 0, nm, qn]) → og.slots = #[] → (@Ne Nat I Lg) → (∀ p ∈ news, @Ne Nat p.1 Lg ∧ @Ne Nat p.1 I) →
      (∀ A' : Around, A'.handled = none → GenGo PG w A' h₀ Lg lr (refsOf rs) 0 [(Lg, oL)] [(xr, instObj 329 dr), (dr, rsD w.params lr tr), (lr, listOf (refsOf rs).toArray nl)] (.fresh c)) → Q (.ref I) ⟨h', s.gens.push (.fresh c), s.drawn, tk, s.os⟩) :
    wpAny (model PG w) (AX dp un gd (env :: outer)) (pyIter (.ref xr)) Q E s := by
  w_on
  refine owit_iter (C := 329) (f := 319) F X (PySem.W.InstAt.of_news N h1 h2) (by k_is) (by k_is) ?_
  obtain ⟨g, ⟨B', X', T', K', N', back⟩, Fg, hR, st⟩ := use2 (dp := dp) (un := un) (gd := gd) B F X T N hf hke [] news (fun _ h => nomatch h) (fun _ h => h) (fun _ _ _ h => nomatch h)
  refine wpAny_call ?_
  refine enterG B' X' T' K' N' (by omega) (by k_is) (by k_is) (BindsTo.of_eq rfl) (locs rfl) (fun Lg hh tk t1 t2 FG NG KG hLg => ?_) rfl rfl rfl (by decide)
  dsimp only
  have hgL : g.get? Lg = none := Heap.get?_none_of_le FG.above
  have hoL := FG.ns
  obtain ⟨oL, es, ep, hoL, hdL, hkL, hfL⟩ := id hoL
  obtain ⟨F2, N2⟩ := back hh [] ⟨FG.keep, Nat.le_of_lt (Nat.lt_of_le_of_lt FG.above FG.ns.lt)⟩ (fun _ h => nomatch h)
  rw [List.nil_append] at N2
  have hsz : ∀ b o, hh.get? b = some o → @Ne Nat b hh.objs.size := fun b o e => Nat.ne_of_lt (Heap.lt_size e)
  have h0L : h₀.get? Lg = none := by
    cases q : h₀.get? Lg with
    | none => rfl
    | some o => have := st _ _ q; rw [hgL] at this; cases this
  have hLL : Lg ≠ L := fun e => by
    obtain ⟨o, _, _, ho, _⟩ := Fg.ns
    rw [e, ho] at hgL; cases hgL
  have hnL : ∀ p ∈ news, @Ne Nat p.1 Lg := fun p hp e => by
    have := hR p hp
    have e' : p.1 = Lg := e
    rw [e', hgL] at this; cases this
  have h0I : h₀.get? hh.objs.size = none := by
    cases q : h₀.get? hh.objs.size with
    | none => rfl
    | some o => exact absurd rfl (hsz _ _ (F2.keep _ _ q))
  show OwitIt _ _ _ _ (.ref hh.objs.size) _
  unfold OwitIt
  have up : ∀ b o, hh.get? b = some o → (hh.push { cls := .type "generator", data := .fields #[.int s.gens.size 0, .str (Str.ofString "__iter__") t1, .str (Str.ofString "RangeSet.__iter__") t2] }).get? b = some o := fun b o e => Heap.get?_push_of_some _ e
  refine wpAny_specialOf (T := "generator") ⟨_, Heap.get?_push_size _ rfl, rfl⟩ slot_gen_next.lookup ?_
  refine k hh.objs.size Lg oL { cls := .type "generator", data := .fields #[.int s.gens.size 0, .str (Str.ofString "__iter__") t1, .str (Str.ofString "RangeSet.__iter__") t2] } _ _ _ (F2.keeps up) (fun p hp => ?_) rfl ⟨_, _, rfl⟩ rfl (fun e => hsz _ _ hoL e.symm) (fun p hp => ⟨hnL p hp, hsz _ _ (N2 p hp).1⟩) ?_
  · rcases List.mem_cons.mp hp with rfl | hp
    · exact ⟨Heap.get?_push_size _ rfl, fun e => by
        obtain ⟨o, _, _, ho, _⟩ := F2.ns
        exact hsz _ _ ho e.symm, h0I⟩
    · rcases List.mem_cons.mp hp with rfl | hp
      · exact ⟨up _ _ hoL, hLL, h0L⟩
      · exact ⟨up _ _ (N2 p hp).1, (N2 p hp).2⟩
  · intro A' hA' s'' hs0 hs1 hs2
    refine ⟨s''.heap.objs.size, .inr ⟨rfl, ?_⟩, ?_⟩
    · cases q : s''.heap.get? s''.heap.objs.size with
      | none => rfl
      | some o => exact absurd (Heap.lt_size q) (Nat.lt_irrefl _)
    · have hns : s''.heap.Ns Lg _ := ⟨oL, es, ep, hs1 (Lg, oL) (.head _), hdL, hkL, hfL⟩
      have F3 : Fr h₀ Lg s''.heap _ := ⟨hns, hs0, Nat.le_trans F.above (by
        obtain ⟨o, _, _, ho, _⟩ := Fg.ns
        exact Nat.le_of_lt (Nat.lt_of_lt_of_le (Heap.lt_size ho) FG.above))⟩
      have hl3 : s''.heap.IsList lr (refsOf rs).toArray := ⟨_, hs2 _ (.tail _ (.tail _ (.head _))), rfl, _, rfl⟩
      have N3 : News h₀ Lg s''.heap [(xr, instObj 329 dr), (dr, rsD w.params lr tr)] := fun p hp => by
        simp only [List.mem_cons, List.not_mem_nil, or_false] at hp
        rcases hp with rfl | rfl
        · exact ⟨hs2 _ (.head _), hnL _ h1, (N _ h1).2.2⟩
        · exact ⟨hs2 _ (.tail _ (.head _)), hnL _ h2, (N _ h2).2.2⟩
      refine ⟨rfl, ?_⟩
      refine seg_start hA' rfl (hnL _ h3) h0L (GenSince.refl _ _ _) ⟨hs0, hns, hl3⟩ rfl rfl rfl rfl rfl (by decide) (fun _ => rfl) ?_
      intro A' E' Q' hh' hQ'
      clear hs0 hs1 hs2 hns hl3 F2 N2 B' X' T' K' N' back Fg hR st FG NG KG k F N h1 h2 h3 hnL up
      repeat' walk_at "mine one"
      exact hQ' _
end Mine
end
section
open PySem PySem.W PyProof.Rows PySem.Calls
set_option maxRecDepth 100000
set_option maxHeartbeats 8000000
namespace Mine
noncomputable abbrev rowD (q : Int × Int) : Dat := .tuple [.int q.1, .int q.2]
theorem take_snoc {rs : List RG} {j : Nat} (hj : j < rs.length) : (pairsOf (rs.take (j + 1))).map rowD = (pairsOf (rs.take j)).map rowD ++ [rowD (rs[j].a, rs[j].b)] := by
  rw [pairsOf, pairsOf, List.take_succ_eq_append_getElem hj, List.map_append, List.map_append]
  rfl
/-- what stands at a comprehension's loop over a RangeSet -/
inductive LCJ (w : World) (dp un : Nat) (gd : Option (List Code)) (env : Env) (outer : List Env) (h₀ : Heap) (L : Addr) (m : Str → Option Value) (news : List (Addr × Obj)) (s : Shared) (xr dr lr : Addr) (tr : Tok) (rs : List RG) (nl : Nat) (C D I Lg : Addr) (og : Obj) (k : Nat) (s' : Shared) : Prop
  | mk (h : Heap) (tk j : Nat) (ys : List Value) (tups own : List (Addr × Obj)) (gs : GenState) (gens' : Array GenState) (oC : Obj) (m₂ : Str → Option Value) (e1 : s' = ⟨h, gens', s.drawn, tk, s.os⟩) (e2 : j ≤ rs.length) (e3 : k = rs.length + 1 - j) (F : Fr h₀ L h m)
      (N : News h₀ L h ((C, oC) :: (D, LCg.lst ys) :: (I, og) :: (own ++ (tups ++ news)))) (h1 : LCg.NsObj oC m₂) (h2 : ys.length = j) (h3 : DatAll tups ys ((pairsOf (rs.take j)).map rowD)) (h4 : gens'[s.gens.size]? = some gs) (h5 : AllBare gens')
      (h6 : GenGo PG w (AX dp un gd (env :: outer)) h₀ Lg lr (refsOf rs) j own [(xr, instObj 329 dr), (dr, rsD w.params lr tr), (lr, listOf (refsOf rs).toArray nl)] gs)
      (h7 : ∀ p ∈ (D, LCg.lst ys) :: (I, og) :: (own ++ (tups ++ news)), @Ne Nat p.1 C) (h8 : ∀ p ∈ (I, og) :: (own ++ (tups ++ news)), @Ne Nat p.1 D) (h9 : ∀ p ∈ (I, og) :: (tups ++ news), p.1 ∉ own.map (·.1)) : LCJ w dp un gd env outer h₀ L m news s xr dr lr tr rs nl C D I Lg og k s'
theorem ListComp_gen {w : World} {dp un : Nat} {gd : Option (List Code)} {outer : List Env} {env : Env} {A₀ : Around} {base h₀ : Heap} {L : Addr} {s : Shared} {m : Str → Option Value} {mean : ExcName → Option Value} {mg mb : Str → Option Value} {news : List (Addr × Obj)}
    {xr dr lr : Addr} {tr : Tok} {rs : List RG} {nl : Nat} {Q E : Value → Shared → Prop} {elt iter : PySem.Expr} {x : Str} {px : Pos} {scope : Scope} {cl : List (Str × Addr)} {pos : Pos}
    (B : Below A₀ base outer h₀) (F : Fr h₀ L s.heap m) (X : (hd.heap_39 w.params).In h₀) (T : Top hd.view_39 LS mean mg mb h₀) (N : News h₀ L s.heap news) (hf : env.frame = some L) (hke : env.scope.kind = .function)
    (h1 : (xr, instObj 329 dr) ∈ news) (h2 : (dr, rsD w.params lr tr) ∈ news) (h3 : (lr, listOf (refsOf rs).toArray nl) ∈ news) (h4 : ∀ p ∈ rowsL w.params rs, p ∈ news) (hdp : dp + 5 < recursionLimit) (hun : un + 50 < cLine) (hb : AllBare s.gens) (hsz : rs.length ≤ 1000000)
    (hclos : closureFor scope env = pure cl) (hcell : ∀ y ∈ scope.names, y.2 ≠ .cell) (hkind : scope.kind = .function) (hnames : ∀ y ∈ scope.names, y.2 = .local → scope.names.lookup y.1 = some .local) (hx : scope.names.lookup x = some .local)
    (hiter : ∀ E' Q', (∀ tk, Q' (.ref xr) { s with toks := tk }) → wpAny (model PG w) (AX dp un gd (env :: outer)) (eval iter env) Q' E' s)
    (helt : ∀ (s' : Shared) (C : Addr) (oC : Obj) (m₂ : Str → Option Value) (y : RG) (rest : List (Addr × Obj)) (Q' E' : Value → Shared → Prop), LCg.NsObj oC m₂ → m₂ x = some (.ref y.r) → Fr h₀ L s'.heap m → News h₀ L s'.heap ((C, oC) :: (y.r, instObj 235 y.d) :: (y.d, rngD w.params y.a y.b y.t1 y.t2 y.ta y.tb) :: rest) →
      (∀ Ta h' tk, Fr h₀ L h' m → News h₀ L h' ((Ta, tupO [.int y.a y.ta, .int y.b y.tb]) :: (C, oC) :: (y.r, instObj 235 y.d) :: (y.d, rngD w.params y.a y.b y.t1 y.t2 y.ta y.tb) :: rest) → (∀ p ∈ (C, oC) :: rest, @Ne Nat p.1 Ta) → Q' (.ref Ta) { s' with heap := h', toks := tk }) →
      wpAny (model PG w) (AX dp un gd (env :: outer)) (eval elt (compEnvC scope cl C env)) Q' E' s')
    (k : ∀ D ys tups h' tk gens', Fr h₀ L h' m → News h₀ L h' ((D, listOf ys.toArray ys.length) :: (tups ++ news)) → DatAll tups ys ((pairsOf rs).map rowD) → AllBare gens' → Q (.ref D) ⟨h', gens', s.drawn, tk, s.os⟩)
    (hs : ∀ x, foldedSetIterable iter env x = pure x := by intro _; rfl) :
    wpAny (model PG w) (AX dp un gd (env :: outer)) (eval (.ListComp elt [⟨.Name x px, iter, [], 0⟩] scope pos) env) Q E s := by
  rw [eval_ListComp]
  refine wpAny_comprehension_free (use := none) rfl hs hclos hkind hnames ?_
  refine hiter _ _ fun tk0 => ?_
  refine rs_gen (s := { s with toks := tk0 }) B F X T N hf hke h1 h2 h3 hdp hun fun I Lg oL og c h' tk F1 N1 og1 og2 og3 hIL hnn G => ?_
  have G' := G (AX dp un gd (env :: outer)) rfl
  clear G
  obtain ⟨nm, qn, og2⟩ := og2
  refine wpAny_newObj_type (wpAny_newFunctionEnv hcell (by intro y hy; simp at hy) (fun hc hnsC hsbC => ?_) hkind)
  dsimp only at hnsC hsbC ⊢
  generalize hH2 : h'.push { cls := .type "list", dict := none, data := .seq ([] : List Value).toArray } = H2 at hnsC hsbC ⊢
  have hC : H2.objs.size = h'.objs.size + 1 := by rw [← hH2, Heap.size_push]
  have hDC : @Ne Nat h'.objs.size H2.objs.size := by rw [hC]; exact Nat.ne_of_lt (Nat.lt_succ_self _)
  have below : ∀ b o, h'.get? b = some o → @Ne Nat b H2.objs.size ∧ @Ne Nat b h'.objs.size := fun b o e => by
    have hb := Heap.lt_size e
    exact ⟨by rw [hC]; exact Nat.ne_of_lt (Nat.lt_succ_of_lt hb), Nat.ne_of_lt hb⟩
  have old : ∀ b o, h'.get? b = some o → hc.get? b = some o := fun b o e => hsbC.extBut b o (below b o e).1 (Heap.get?_push_of_some _ (hH2 ▸ Heap.get?_push_of_some _ e))
  have hacc : hc.get? h'.objs.size = some (LCg.lst []) := hsbC.extBut _ _ hDC (Heap.get?_push_of_some _ (hH2 ▸ Heap.get?_push_size _ rfl))
  have fresh₀ : ∀ a : Nat, h'.objs.size ≤ a → h₀.get? a = none := fun a ha => by
    cases e : h₀.get? a with
    | none => rfl
    | some o' => exact absurd (Heap.lt_size (F1.keep _ _ e)) (Nat.not_lt.mpr ha)
  have hD₀ : h₀.get? h'.objs.size = none := fresh₀ _ (Nat.le_refl _)
  have hC₀ : h₀.get? H2.objs.size = none := fresh₀ _ (by rw [hC]; exact Nat.le_succ _)
  have hLlt : L < h'.objs.size := F1.ns.lt
  have hDL : @Ne Nat h'.objs.size L := Ne.symm (Nat.ne_of_lt hLlt)
  have hCL : @Ne Nat H2.objs.size L := by rw [hC]; exact Ne.symm (Nat.ne_of_lt (Nat.lt_succ_of_lt hLlt))
  have offC : ∀ p ∈ (I, og) :: (Lg, oL) :: news, @Ne Nat p.1 H2.objs.size ∧ @Ne Nat p.1 h'.objs.size := fun p hp => below _ _ (N1 p hp).1
  generalize H2.objs.size = C at *
  generalize h'.objs.size = D at *
  obtain ⟨oC0, hoC0, hnC0⟩ := LCg.ns_obj hnsC
  have hroom : (AX dp un gd (env :: outer)).depth < recursionLimit := Nat.lt_of_le_of_lt (Nat.le_add_right _ _) hdp
  have hlen : (refsOf rs).length = rs.length := by simp
  have loop : ∀ s₃ : Shared, (∃ tk, s₃ = ⟨hc, s.gens.push (.fresh c), s.drawn, tk, s.os⟩) →
      codeAny (model PG w) (AX dp un gd (env :: outer)) (.compLoop (.ListComp elt [⟨.Name x px, iter, [], 0⟩] scope pos) 0 (.ref I) (.ref D) (compEnvC scope cl C env)) (compPost (model PG w) (AX dp un gd (env :: outer)) E none Q (.ref D) C) s₃ := by
    rintro s₃ ⟨tk₃, rfl⟩
    refine codeAny_compLoop_tests
      (LCJ w dp un gd env outer h₀ L m news s xr dr lr tr rs nl C D I Lg og) ?_ (rs.length + 1)
      ⟨hc, _, 0, [], [], [(Lg, oL)], .fresh c, _, oC0, _, rfl, Nat.zero_le _, rfl, F1.keeps old, ?_, hnC0, rfl, .nil, Array.getElem?_push_size .., hb.push rfl, G', ?_, ?_, ?_⟩
    · rintro kk s' ⟨h, tk, j, ys, tups, own, gs, gens', oC, m₂, rfl, hj, rfl, F', N', hnC, hyl, hDat, hgs, hbare, hG, apC, apD, apO⟩
      have hNC := (N' _ (.head _)).1
      have hg : h.IsGen I s.gens.size := ⟨og, nm, qn, (N' _ (.tail _ (.tail _ (.head _)))).1, og1, og2, og3⟩
      have hown : ∀ p ∈ own, (h.get? p.1 = some p.2 ∧ p.1 ≠ L ∧ h₀.get? p.1 = none) := fun p hp => N' p (.tail _ (.tail _ (.tail _ (List.mem_append_left _ hp))))
      have hnews : ∀ p ∈ tups ++ news, (h.get? p.1 = some p.2 ∧ p.1 ≠ L ∧ h₀.get? p.1 = none) := fun p hp => N' p (.tail _ (.tail _ (.tail _ (List.mem_append_right _ hp))))
      have hfix : ∀ p ∈ [(xr, instObj 329 dr), (dr, rsD w.params lr tr), (lr, listOf (refsOf rs).toArray nl)], h.get? p.1 = some p.2 := fun p hp => by
        simp only [List.mem_cons, List.not_mem_nil, or_false] at hp
        rcases hp with rfl | rfl | rfl
        · exact (hnews _ (List.mem_append_right _ h1)).1
        · exact (hnews _ (List.mem_append_right _ h2)).1
        · exact (hnews _ (List.mem_append_right _ h3)).1
      have hnl : h.NoLimit := T.nolimit.keeps F'.keep
      have ownL : L ∉ own.map (·.1) := fun q => by
        obtain ⟨p, hp, e⟩ := List.mem_map.mp q
        exact (hown p hp).2.1 e
      have own0 : ∀ b o, h₀.get? b = some o → b ∉ own.map (·.1) := fun b o e q => by
        obtain ⟨p, hp, rfl⟩ := List.mem_map.mp q
        rw [(hown p hp).2.2] at e; cases e
      obtain ⟨oLL, hoLL⟩ : ∃ o, h.get? L = some o := let ⟨o, _, _, e, _⟩ := F'.ns; ⟨o, e⟩
      have ownC : C ∉ own.map (·.1) := fun q => by
        obtain ⟨p, hp, e⟩ := List.mem_map.mp q
        exact apC p (.tail _ (.tail _ (List.mem_append_left _ hp))) e
      have ownD : D ∉ own.map (·.1) := fun q => by
        obtain ⟨p, hp, e⟩ := List.mem_map.mp q
        exact apD p (.tail _ (List.mem_append_left _ hp)) e
      by_cases hlt : j < rs.length
      · refine gen_item (s := ⟨h, gens', s.drawn, tk, s.os⟩) rfl hnl hroom hg hgs F'.keep (fun p hp => (hown p hp).1) hfix (.tail _ (.tail _ (.head _))) ⟨rfl, _, rfl⟩ hG (by rw [hlen]; exact hlt) fun v h₁ tk₁ gens₁ gs₁ own₁ hv hk₁ ho₁ hsub₁ hG₁ hgs₁ hb₁ => ?_
        have hv' : v = .ref rs[j].r := by simpa [hlt] using hv.symm
        subst hv'
        have own1 : ∀ b o, h.get? b = some o → b ∉ own.map (·.1) → b ∉ own₁.map (·.1) := fun b o e hb q => by
          obtain ⟨p, hp, rfl⟩ := List.mem_map.mp q
          rcases (ho₁ p hp).2 with z | z
          · exact hb z
          · rw [show h.get? p.1 = none from z] at e; cases e
        have keep1 : ∀ b o, h.get? b = some o → b ∉ own.map (·.1) → h₁.get? b = some o := fun b o e hb => hk₁ b o hb (own1 b o e hb) e
        have F1' : Fr h₀ L h₁ m := ⟨F'.ns.at' fun o e => keep1 L o e ownL, fun b o e => keep1 b o (F'.keep b o e) (own0 b o e), F'.above⟩
        have NC1 : h₁.get? C = some oC := keep1 _ _ hNC ownC
        have hm1 : h₁.Ns C m₂ := hnC.ns NC1
        have NO1 : ∀ p ∈ own₁, h₁.get? p.1 = some p.2 ∧ p.1 ≠ L ∧ h₀.get? p.1 = none ∧ p.1 ≠ C ∧ p.1 ≠ D := fun p hp => by
          refine ⟨(ho₁ p hp).1, ?_⟩
          rcases (ho₁ p hp).2 with z | z
          · obtain ⟨q, hq, e⟩ := List.mem_map.mp z
            rw [← e]
            exact ⟨(hown q hq).2.1, (hown q hq).2.2, apC q (.tail _ (.tail _ (List.mem_append_left _ hq))), apD q (.tail _ (List.mem_append_left _ hq))⟩
          · have z' : h.get? p.1 = none := z
            refine ⟨fun e => ?_, ?_, fun e => ?_, fun e => ?_⟩
            · rw [e, hoLL] at z'; cases z'
            · cases q : h₀.get? p.1 with
              | none => rfl
              | some o => rw [F'.keep _ _ q] at z'; cases z'
            · rw [e, hNC] at z'; cases z'
            · rw [e, (N' _ (.tail _ (.head _))).1] at z'; cases z'
        refine wpAny_assign_Name (wpAny_storeName_local (lookup_relabel_local hx) hm1 (fun h₂ hn₂ hs₂ => ?_) (by simp [compEnvC, relabel, hkind]))
        refine wpAny_tests_nil ?_
        simp only [if_true]
        obtain ⟨oC2, heC2, hoC2⟩ := LCg.ns_obj hn₂
        have F2 : Fr h₀ L h₂ m := F1'.change hs₂ hCL hC₀
        have k2 : ∀ b o, h₁.get? b = some o → @Ne Nat b C → h₂.get? b = some o := fun b o e hne => hs₂.extBut b o hne e
        have ND2 : h₂.get? D = some (LCg.lst ys) := k2 _ _ (keep1 _ _ (N' _ (.tail _ (.head _))).1 ownD) hDC
        have NI2 : h₂.get? I = some og ∧ I ≠ L ∧ h₀.get? I = none := ⟨k2 _ _ (keep1 _ _ (N' _ (.tail _ (.tail _ (.head _)))).1 (apO _ (.head _))) (apC _ (.tail _ (.head _))), (N' _ (.tail _ (.tail _ (.head _)))).2⟩
        have NN2 : ∀ p ∈ tups ++ news, h₂.get? p.1 = some p.2 ∧ p.1 ≠ L ∧ h₀.get? p.1 = none := fun p hp =>
          ⟨k2 _ _ (keep1 _ _ (hnews p hp).1 (apO p (.tail _ hp))) (apC p (.tail _ (.tail _ (List.mem_append_right _ hp)))), (hnews p hp).2⟩
        have NR2 : News h₀ L h₂ ((D, LCg.lst ys) :: (I, og) :: (own₁ ++ (tups ++ news))) := fun p hp => by
          rcases List.mem_cons.mp hp with rfl | hp
          · exact ⟨ND2, hDL, hD₀⟩
          · rcases List.mem_cons.mp hp with rfl | hp
            · exact NI2
            · rcases List.mem_append.mp hp with hp | hp
              · have z := NO1 p hp
                exact ⟨k2 _ _ z.1 z.2.2.2.1, z.2.1, z.2.2.1⟩
              · exact NN2 p hp
        have hyr : (rs[j].r, instObj 235 rs[j].d) ∈ news := h4 _ (List.mem_flatMap.mpr ⟨rs[j], List.getElem_mem hlt, .head _⟩)
        have hyd : (rs[j].d, rngD w.params rs[j].a rs[j].b rs[j].t1 rs[j].t2 rs[j].ta rs[j].tb) ∈ news := h4 _ (List.mem_flatMap.mpr ⟨rs[j], List.getElem_mem hlt, .tail _ (.head _)⟩)
        refine helt _ C oC2 _ rs[j] ((D, LCg.lst ys) :: (I, og) :: (own₁ ++ (tups ++ news))) _ _ hoC2 (if_pos rfl) F2 (fun p hp => ?_) fun Ta h₃ tk₃ F3 N3 hTa => ?_
        · rcases List.mem_cons.mp hp with rfl | hp
          · exact ⟨heC2, hCL, hC₀⟩
          · rcases List.mem_cons.mp hp with rfl | hp
            · exact NN2 _ (List.mem_append_right _ hyr)
            · rcases List.mem_cons.mp hp with rfl | hp
              · exact NN2 _ (List.mem_append_right _ hyd)
              · exact NR2 p hp
        · have zT := N3 _ (.head _)
          have zC := (N3 _ (.tail _ (.head _))).1
          have zR : ∀ p ∈ (D, LCg.lst ys) :: (I, og) :: (own₁ ++ (tups ++ news)), h₃.get? p.1 = some p.2 ∧ p.1 ≠ L ∧ h₀.get? p.1 = none := fun p hp => N3 p (.tail _ (.tail _ (.tail _ (.tail _ hp))))
          have apD1 : ∀ p ∈ (I, og) :: (own₁ ++ (tups ++ news)), @Ne Nat p.1 D := fun p hp => by
            rcases List.mem_cons.mp hp with rfl | hp
            · exact apD _ (.head _)
            · rcases List.mem_append.mp hp with hp | hp
              · exact (NO1 p hp).2.2.2.2
              · exact apD p (.tail _ (List.mem_append_right _ hp))
          have apC1 : ∀ p ∈ (D, LCg.lst ys) :: (I, og) :: (own₁ ++ (tups ++ news)), @Ne Nat p.1 C := fun p hp => by
            rcases List.mem_cons.mp hp with rfl | hp
            · exact hDC
            · rcases List.mem_cons.mp hp with rfl | hp
              · exact apC _ (.tail _ (.head _))
              · rcases List.mem_append.mp hp with hp | hp
                · exact (NO1 p hp).2.2.2.1
                · exact apC p (.tail _ (.tail _ (List.mem_append_right _ hp)))
          have apO1 : ∀ p ∈ (I, og) :: (tups ++ news), p.1 ∉ own₁.map (·.1) := fun p hp => by
            rcases List.mem_cons.mp hp with rfl | hp
            · exact own1 _ _ (N' _ (.tail _ (.tail _ (.head _)))).1 (apO _ (.head _))
            · exact own1 _ _ (hnews p hp).1 (apO p (.tail _ hp))
          refine append_at (hsz := by show ys.toArray.size ≤ sizeLine; rw [List.size_toArray, hyl, sizeLine_eq]; omega) (zR _ (.head _)).1 fun h₅ hs₅ hD₅ => ?_
          have hD₅' : h₅.get? D = some (LCg.lst (ys ++ [.ref Ta])) := hD₅.trans (congrArg some (LCg.lst_snoc ys (.ref Ta)))
          have k5 : ∀ b o, h₃.get? b = some o → @Ne Nat b D → h₅.get? b = some o := fun b o e hne => hs₅.extBut b o hne e
          have hTD : @Ne Nat Ta D := Ne.symm (hTa (D, LCg.lst ys) (.tail _ (.head _)))
          have hTC : @Ne Nat Ta C := Ne.symm (hTa (C, oC2) (.head _))
          have mem5 : ∀ p ∈ (Ta, tupO [.int rs[j].a rs[j].ta, .int rs[j].b rs[j].tb]) :: (tups ++ news), p ∈ (tups ++ [(Ta, tupO [.int rs[j].a rs[j].ta, .int rs[j].b rs[j].tb])]) ++ news := fun p hp => by
            simp only [List.mem_cons, List.mem_append, List.not_mem_nil, or_false] at hp ⊢
            rcases hp with h | h | h
            · exact .inl (.inr h)
            · exact .inl (.inl h)
            · exact .inr h
          have mem6 : ∀ p ∈ (tups ++ [(Ta, tupO [.int rs[j].a rs[j].ta, .int rs[j].b rs[j].tb])]) ++ news, p = (Ta, tupO [.int rs[j].a rs[j].ta, .int rs[j].b rs[j].tb]) ∨ p ∈ tups ++ news := fun p hp => by
            simp only [List.mem_cons, List.mem_append, List.not_mem_nil, or_false] at hp ⊢
            rcases hp with (h | h) | h
            · exact .inr (.inl h)
            · exact .inl h
            · exact .inr (.inr h)
          refine ⟨rs.length + 1 - (j + 1), by omega, h₅, tk₃, j + 1, ys ++ [.ref Ta], tups ++ [(Ta, tupO [.int rs[j].a rs[j].ta, .int rs[j].b rs[j].tb])], own₁, gs₁, gens₁, oC2, _, rfl, hlt, rfl, F3.change hs₅ hDL hD₀, fun p hp => ?_, hoC2, by rw [List.length_append, List.length_singleton, hyl], ?_, hgs₁, hb₁ hbare, hG₁, fun p hp => ?_, fun p hp => ?_, fun p hp => ?_⟩
          · rcases List.mem_cons.mp hp with rfl | hp
            · exact ⟨k5 _ _ zC (Ne.symm hDC), hCL, hC₀⟩
            · rcases List.mem_cons.mp hp with rfl | hp
              · exact ⟨hD₅', hDL, hD₀⟩
              · rcases List.mem_cons.mp hp with rfl | hp
                · exact ⟨k5 _ _ (zR _ (.tail _ (.head _))).1 (apD1 _ (.head _)), (zR _ (.tail _ (.head _))).2⟩
                · rcases List.mem_append.mp hp with hp | hp
                  · have z := zR p (.tail _ (.tail _ (List.mem_append_left _ hp)))
                    exact ⟨k5 _ _ z.1 (NO1 p hp).2.2.2.2, z.2⟩
                  · rcases mem6 p hp with rfl | hp
                    · exact ⟨k5 _ _ zT.1 hTD, zT.2⟩
                    · have z := zR p (.tail _ (.tail _ (List.mem_append_right _ hp)))
                      exact ⟨k5 _ _ z.1 (apD1 p (.tail _ (List.mem_append_right _ hp))), z.2⟩
          · rw [take_snoc hlt]
            exact (hDat.mono fun p hp => List.mem_append_left _ hp).append (.one (.tuple (List.mem_append_right _ (.head _)) (.cons (.int _ _) (.cons (.int _ _) .nil))))
          · rcases List.mem_cons.mp hp with rfl | hp
            · exact hDC
            · rcases List.mem_cons.mp hp with rfl | hp
              · exact apC1 _ (.tail _ (.head _))
              · rcases List.mem_append.mp hp with hp | hp
                · exact (NO1 p hp).2.2.2.1
                · rcases mem6 p hp with rfl | hp
                  · exact hTC
                  · exact apC1 p (.tail _ (.tail _ (List.mem_append_right _ hp)))
          · rcases List.mem_cons.mp hp with rfl | hp
            · exact apD1 _ (.head _)
            · rcases List.mem_append.mp hp with hp | hp
              · exact (NO1 p hp).2.2.2.2
              · rcases mem6 p hp with rfl | hp
                · exact hTD
                · exact apD1 p (.tail _ (List.mem_append_right _ hp))
          · rcases List.mem_cons.mp hp with rfl | hp
            · exact apO1 _ (.head _)
            · rcases mem6 p hp with rfl | hp
              · intro q
                obtain ⟨z, hz, e⟩ := List.mem_map.mp q
                exact hTa z (.tail _ (.tail _ (.tail _ (List.mem_append_left _ hz)))) e
              · exact apO1 p (.tail _ hp)
      · obtain rfl : j = rs.length := Nat.le_antisymm hj (Nat.not_lt.mp hlt)
        rw [← hlen] at hG
        refine gen_done (s := ⟨h, gens', s.drawn, tk, s.os⟩) rfl hnl hroom hg hgs F'.keep (fun p hp => (hown p hp).1) hfix hG fun h₁ tk₁ gens₁ hk₁ hb₁ => ?_
        have F1' : Fr h₀ L h₁ m := ⟨F'.ns.at' fun o e => hk₁ L o ownL e, fun b o e => hk₁ b o (own0 b o e) (F'.keep b o e), F'.above⟩
        refine ⟨m₂, hnC.ns (hk₁ _ _ ownC hNC), fun h'' hs'' => k D ys tups h'' tk₁ gens₁ (F1'.change hs'' hCL hC₀) (fun p hp => ?_) (by rw [List.take_length] at hDat; exact hDat) (hb₁ hbare)⟩
        rcases List.mem_cons.mp hp with rfl | hp
        · exact ⟨hs''.extBut _ _ hDC (hk₁ _ _ ownD (N' _ (.tail _ (.head _))).1), hDL, hD₀⟩
        · have z := hnews p hp
          exact ⟨hs''.extBut _ _ (apC p (.tail _ (.tail _ (List.mem_append_right _ hp)))) (hk₁ _ _ (apO p (.tail _ hp)) z.1), z.2⟩
    · intro p hp
      rcases List.mem_cons.mp hp with rfl | hp
      · exact ⟨hoC0, hCL, hC₀⟩
      · rcases List.mem_cons.mp hp with rfl | hp
        · exact ⟨hacc, hDL, hD₀⟩
        · exact ⟨old _ _ (N1 p hp).1, (N1 p hp).2⟩
    · intro p hp
      rcases List.mem_cons.mp hp with rfl | hp
      · exact hDC
      · exact (offC p hp).1
    · exact fun p hp => (offC p hp).2
    · intro p hp q
      have q' : p.1 = Lg := by simpa using q
      rcases List.mem_cons.mp hp with rfl | hp
      · exact hIL q'
      · exact (hnn p hp).1 q'
  have hgI : hc.IsGen I s.gens.size := ⟨og, nm, qn, old _ _ (N1 _ (.head _)).1, og1, og2, og3⟩
  exact codeAny_compStart_list (loop _ ⟨_, rfl⟩) (wpAny_pyIter_gen hgI (loop _ ⟨_, rfl⟩))
end Mine
end
section
open PySem PySem.W PyProof.Rows PySem.Calls
set_option maxRecDepth 100000
set_option maxHeartbeats 8000000
namespace Mine
theorem it_ne {a b : Obj} {n : String} (h : b.cls = .type n) (h' : a.cls ≠ .type n) : a ≠ b := fun e => h' (by rw [e]; exact h)
theorem it_ne' {a b : Obj} {n : String} (h : a.cls = .type n) (h' : b.cls ≠ .type n) : a ≠ b := fun e => h' (by rw [← e]; exact h)
/-- pull_uint_var called -/
theorem pull_uint_call {w : World} {dp un : Nat} {gd : Option (List Code)} {outer : List Env} {env : Env} {A₀ : Around} {base h₀ : Heap} {L : Addr} {s : Shared} {m : Str → Option Value} {mean : ExcName → Option Value} {mg mb : Str → Option Value} {news rest : List (Addr × Obj)} {Q E : Value → Shared → Prop}
    {x d o : Addr} {t1 t2 t3 : Tok} {bs : List UInt8} {k : Nat} (B : Below A₀ base outer h₀) (F : Fr h₀ L s.heap m) (X : (hd.heap_39 w.params).In h₀) (T : Top hd.view_39 LS mean mg mb h₀) (N : News h₀ L s.heap news) (hf : env.frame = some L) (hke : env.scope.kind = .function)
    (hwr : ∀ p ∈ bufL w.params x d o bs k t1 t2 t3, p ∈ news) (hs : Split2 (bufL w.params x d o bs k t1 t2 t3) news rest) (hdp : dp + 10 < recursionLimit) (hun : un + 10 * 10 < cLine) (hz : bs.length ≤ 100000) (hk : k ≤ 100000)
    (k1 : ∀ v k' t t3' h' tk, pv bs k = some (v, k') → 0 ≤ v → k < k' → k' ≤ bs.length → Fr h₀ L h' m → News h₀ L h' ((x, instObj 193 d) :: (d, bufD w.params o (k' : Int) t1 t2 t3') :: (o, BA.baObj bs.toArray) :: rest) → Q (.int v t) { s with heap := h', toks := tk })
    (ke : ∀ e t vs g₂ h' tk, pv bs k = none → RaisedK base (env :: outer) e (.ref 31) t vs [] h' → Fr h₀ L g₂ m → g₂.UpToSlots h' → E (.ref e) { s with heap := h', toks := tk }) :
    wpAny (model PG w) (AX dp un gd (env :: outer)) (call (.ref 148) [.ref x]) Q E s :=
  ConE.call2 (pull_uint_var hz hk) B F X T N hf hke hwr hs (fun _ h => nomatch h) hdp hun (fun r news' h' tk hp F' N' => by
    obtain ⟨v, k', h1, ⟨t, rfl⟩, t3', rfl⟩ := hp
    obtain ⟨h2, h3, h4⟩ := pv_some h1
    exact k1 v k' t t3' h' tk h1 h2 h3 h4 F' N') fun e t cls vs g₂ h' tk hp R F' U => by
    obtain ⟨hn, rfl⟩ := hp
    exact ke e t vs g₂ h' tk hn R F' U
/-- RangeSet.add called: the first row -/
theorem add_first_call {w : World} {dp un : Nat} {gd : Option (List Code)} {outer : List Env} {env : Env} {A₀ : Around} {base h₀ : Heap} {L : Addr} {s : Shared} {m : Str → Option Value} {mean : ExcName → Option Value} {mg mb : Str → Option Value} {news rest : List (Addr × Obj)} {Q E : Value → Shared → Prop}
    {x d l : Addr} {t1 ta tb : Tok} {n : Nat} {a b : Int} (B : Below A₀ base outer h₀) (F : Fr h₀ L s.heap m) (X : (hd.heap_39 w.params).In h₀) (T : Top hd.view_39 LS mean mg mb h₀) (N : News h₀ L s.heap news) (hf : env.frame = some L) (hke : env.scope.kind = .function)
    (hwr : ∀ p ∈ rsL w.params x d l [] n t1, p ∈ news) (hs : Split2 (rsL w.params x d l [] n t1) news rest) (hdp : dp + 10 < recursionLimit) (hun : un + 10 * 10 < cLine) (hab : a < b)
    (k : ∀ y n' h' tk, y.a = a → y.b = b → Fr h₀ L h' m → News h₀ L h' ((x, instObj 329 d) :: (d, rsD w.params l t1) :: (l, listOf (refsOf [y]).toArray n') :: (y.r, instObj 235 y.d) :: (y.d, rngD w.params y.a y.b y.t1 y.t2 y.ta y.tb) :: rest) → Q .none { s with heap := h', toks := tk }) :
    wpAny (model PG w) (AX dp un gd (env :: outer)) (call (.ref 263) [.ref x, .int a ta, .int b tb]) Q E s :=
  ConE.call2 (add_front (rs := []) hab (Nat.zero_le _) fun _ h => nomatch h) B F X T N hf hke hwr hs (fun _ h => nomatch h) hdp hun (fun r news' h' tk hp F' N' => by
    obtain ⟨rfl, y, n', h1, h2, rfl⟩ := hp
    exact k y n' h' tk h1 h2 F' N') fun _ _ _ _ _ _ _ hp => hp.elim
/-- RangeSet.add called: a row in front of y0 -/
theorem add_front_call {w : World} {dp un : Nat} {gd : Option (List Code)} {outer : List Env} {env : Env} {A₀ : Around} {base h₀ : Heap} {L : Addr} {s : Shared} {m : Str → Option Value} {mean : ExcName → Option Value} {mg mb : Str → Option Value} {news rest : List (Addr × Obj)} {Q E : Value → Shared → Prop}
    {x d l : Addr} {t1 ta tb : Tok} {n : Nat} {a b : Int} {y0 : RG} {rs : List RG} (B : Below A₀ base outer h₀) (F : Fr h₀ L s.heap m) (X : (hd.heap_39 w.params).In h₀) (T : Top hd.view_39 LS mean mg mb h₀) (N : News h₀ L s.heap news) (hf : env.frame = some L) (hke : env.scope.kind = .function)
    (hwr : ∀ p ∈ rsL w.params x d l (y0 :: rs) n t1, p ∈ news) (hs : Split2 (rsL w.params x d l (y0 :: rs) n t1) news rest) (hrd : ∀ p ∈ rowsL w.params (y0 :: rs), p ∈ rest ∨ h₀.get? p.1 = some p.2) (hdp : dp + 10 < recursionLimit) (hun : un + 10 * 10 < cLine)
    (hab : a < b) (hsz : (y0 :: rs).length ≤ 1000000) (hlt : b < y0.a)
    (k : ∀ y n' h' tk, y.a = a → y.b = b → Fr h₀ L h' m → News h₀ L h' ((x, instObj 329 d) :: (d, rsD w.params l t1) :: (l, listOf (refsOf (y :: y0 :: rs)).toArray n') :: (y.r, instObj 235 y.d) :: (y.d, rngD w.params y.a y.b y.t1 y.t2 y.ta y.tb) :: rest) → Q .none { s with heap := h', toks := tk }) :
    wpAny (model PG w) (AX dp un gd (env :: outer)) (call (.ref 263) [.ref x, .int a ta, .int b tb]) Q E s :=
  ConE.call2 (add_front (rs := y0 :: rs) hab hsz fun y hy => by cases hy; exact hlt) B F X T N hf hke hwr hs hrd hdp hun (fun r news' h' tk hp F' N' => by
    obtain ⟨rfl, y, n', h1, h2, rfl⟩ := hp
    exact k y n' h' tk h1 h2 F' N') fun _ _ _ _ _ _ _ hp => hp.elim
set_option hygiene false in
local macro_rules | `(tactic| walk_at "mine split2") => `(tactic| (repeat' (first | with_reducible exact Split2.nil | with_reducible exact Split2.tail rows_off_buf | with_reducible exact Split2.tail rows_off_rs | (with_reducible refine' Split2.drop2 ?h_q ?_; (case h_q => with_reducible k_mem)) | (refine' Split2.keep ?a_q ?_; (case a_q => walk_at "mine dis")) | refine' Split2.drop ?_ | exact Split2.nil)))
theorem range_n {n : Int} (h : 0 ≤ n) : Builtin.Range.rangeSize 0 n 1 = ((n.toNat : Nat) : Int) := by
  unfold Builtin.Range.rangeSize
  rw [if_pos (by decide)]
  split
  · rw [Int.ediv_one]; omega
  · omega
/-- what stands at the loop of pull_ack_frame: i turns are done -/
inductive PJ (P : Params) (x d o : Addr) (t1 t2 td : Tok) (bs : List UInt8) (dl : Int) (n : Nat) (F0 : Option (Nat × Int × List (Int × Int))) (i : Nat) (m : Str → Option Value) (nx : List (Addr × Obj)) : Prop
  | mk (xr dr lr : Addr) (tr : Tok) (n' : Nat) (y0 : RG) (rest : List RG) (e : Int) (tE : Tok) (kk : Nat) (t3 : Tok) (h1 : m (Str.ofString "end") = some (.int e tE)) (h2 : m (Str.ofString "rangeset") = some (.ref xr)) (h3 : m (Str.ofString "buf") = some (.ref x)) (h4 : m (Str.ofString "delay") = some (.int dl td))
      (hn : nx = rsL P xr dr lr (y0 :: rest) n' tr ++ (rgL P y0 ++ (bufL P x d o bs (kk : Nat) t1 t2 t3 ++ rowsL P rest)))
      (hkk : kk ≤ bs.length) (hlen : rest.length + 1 ≤ kk) (hye : y0.a = e) (hpr : prow bs (n - i) kk e (pairsOf (y0 :: rest)) = F0) : PJ P x d o t1 t2 td bs dl n F0 i m nx
theorem pj_step {bs : List UInt8} {n kk k1 k2 : Nat} {e g c : Int} {yy : RG} {rest : List RG} {F0 : Option (Nat × Int × List (Int × Int))} (hpr : prow bs (n + 1) kk e (pairsOf rest) = F0) (h2 : pv bs k1 = some (c, k2)) (h1 : pv bs kk = some (g, k1))
    (ha : yy.a = e - (g + 2) - c) (hb : yy.b = e - (g + 2) + 1) : prow bs n k2 (e - (g + 2) - c) (pairsOf (yy :: rest)) = F0 := by
  rw [← hpr, prow_s h2 h1]
  simp only [pairsOf, List.map_cons, ha, hb]
theorem pj_cls {P : Params} {I xr dr lr x d o : Addr} {rs : List RG} {n : Nat} {tr t1 t2 t3 : Tok} {y : RG} {bs : List UInt8} {k : Int} {rest : List RG} :
    ∀ p ∈ rsL P xr dr lr rs n tr ++ (rgL P y ++ (bufL P x d o bs k t1 t2 t3 ++ rowsL P rest)), ∀ z ∈ [(I, "range_iterator")], p.2.cls ≠ .type z.2 :=
  all_app (rs_cls (by simp)) (all_app (by simp) (all_app (buf_cls (by simp)) (rows_cls' (by simp))))
theorem pull_ack_loop {w : World} {mean : ExcName → Option Value} {mg mb : Str → Option Value} {x d o xr dr lr : Addr} {t1 t2 t3 tr tE td tn : Tok} {n' kk : Nat} {dp un : Nat} {gd : Option (List Code)} {ll : List Env} {base g : Heap} {s : Shared} {L : Addr} {Q : Flow → Shared → Prop} {E : Value → Shared → Prop} {m₀ : Str → Option Value}
    {bs : List UInt8} {y0 : RG} {e dl nn : Int} {F0 : Option (Nat × Int × List (Int × Int))}
    (B : Below (AX dp un gd ll) base ll g) (X : (hd.heap_39 w.params).In g) (T : Top hd.view_39 LS mean mg mb g) (hdp : dp + 25 < recursionLimit) (hun : un + 10 * 25 < cLine) (hz : bs.length ≤ 100000)
    (F : Fr g L s.heap (fun y => if y = Str.ofString "end" then some (.int e tE) else if y = Str.ofString "rangeset" then some (.ref xr) else if y = Str.ofString "buf" then some (.ref x) else if y = Str.ofString "delay" then some (.int dl td) else if y = Str.ofString "ack_range_count" then some (.int nn tn) else m₀ y))
    (N : News g L s.heap ((xr, instObj 329 dr) :: (dr, rsD w.params lr tr) :: (lr, listOf (refsOf [y0]).toArray n') :: (y0.r, instObj 235 y0.d) :: (y0.d, rngD w.params y0.a y0.b y0.t1 y0.t2 y0.ta y0.tb) :: (x, instObj 193 d) :: (d, bufD w.params o (kk : Nat) t1 t2 t3) :: (o, BA.baObj bs.toArray) :: rowsL w.params []))
    (hkk : kk ≤ bs.length) (hlen : 1 ≤ kk) (hye : y0.a = e) (hn0 : 0 ≤ nn) (hn1 : nn < 4611686018427387904) (hpr : prow bs nn.toNat kk e (pairsOf [y0]) = F0)
    (hE : PassesOwn (model PG w) ((AX dp un gd ll).deeper (envAt (hd.heap_39 w.params) 340 L)) (envAt (hd.heap_39 w.params) 340 L) E)
    (ret : ∀ T xr dr lr tr n' rs t3' k' low td' m' h' tk, F0 = some (k', low, pairsOf rs) → 0 ≤ low → Fr g L h' m' → Led g h' ((T, tupO [.ref xr, .int dl td']) :: (rsL w.params xr dr lr rs n' tr ++ (bufL w.params x d o bs (k' : Nat) t1 t2 t3' ++ rowsL w.params rs))) → Q (.ret (.ref T)) { s with heap := h', toks := tk })
    (fail : ∀ e t vs g₂ m' h' tk, F0 = none → RaisedK base (envAt (hd.heap_39 w.params) 340 L :: ll) e (.ref 31) t vs [] h' → Fr g L g₂ m' → g₂.UpToSlots h' → E (.ref e) { s with heap := h', toks := tk })
    (fail2 : ∀ e m' nx k' low rows h1 h' tk vs, F0 = some (k', low, rows) → low < 0 → Fr g L h1 m' → News g L h1 nx → h1.MadeExc h' e "ValueError" vs → E (.ref e) { s with heap := h', toks := tk }) :
    wpAny (model PG w) ((AX dp un gd ll).deeper (envAt (hd.heap_39 w.params) 340 L)) (execs ((bodyAt (hd.heap_39 w.params) 340).drop 7) (envAt (hd.heap_39 w.params) 340 L)) Q E s := by
  w_on
  obtain ⟨hb, he⟩ := at_of (K := hd.heap_39 w.params) (f := 340) (by k_is)
  rw [he] at fail hE
  rw [hb, he]
  clear hb he
  simp only [List.drop_succ_cons, List.drop_zero]
  refine wpAny_execs_cons ?_
  refine For_turns F ?_ (fun _ => rfl) hE
  repeat' (first | (with_reducible (((with_reducible show wpAny _ _ (pyIter _) _ _ _); (k_here; (with_reducible show wpAny _ _ (pyIter (Value.ref _)) (fun it s₂ => TurnsAt _ _ _ _ _ _ _ _ _ it s₂) _ _); refine halt ?_)))) | walk_at "mine oneD")
  (with_reducible rename Fr _ _ _ _ => F1)
  (with_reducible rename News _ _ _ _ => N1)
  rename IsRange _ _ _ _ _ _ _ _ => hr
  refine halt ?_
  refine range_J (n := nn.toNat) (PJ w.params x d o t1 t2 td bs dl nn.toNat F0) rfl hr (small_one (by decide) (by decide) (by omega) hn1) (range_n hn0) F1 N1 (.mk xr dr lr tr n' y0 [] e tE kk t3 rfl rfl rfl rfl rfl hkk hlen hye hpr) ?turn ?done
  case turn =>
    intro i t m₁ news₁ h₁ tk₁ I it hin hJ hc F2 N2
    obtain ⟨xr, dr, lr, tr, n', y0, rest, e, tE, kk, t3, h1, h2, h3, h4, rfl, hkk, hlen, hye, hpr⟩ := hJ
    have F3 : Fr g L _ _ := fr_eq (mp_cons (mp_cons (mp_cons (mp_cons rfl h4) h3) h2) h1) F2
    replace N2 : News g L _ _ := N2
    clear F1 N1 F2 hr h1 h2 h3 h4
    rw [show nn.toNat - i = (nn.toNat - (i + 1)) + 1 from by omega] at hpr
    clear hin
    dsimp only [rsL, rgL, bufL, List.cons_append, List.nil_append] at N2
    repeat' (first | (with_reducible (((with_reducible show wpAny _ _ (call _ _) _ _ _); (k_here; (k_dflt (show wpAny _ _ (call (Value.ref 263) [Value.ref _, Value.int _ _, Value.int _ _]) _ _ _)); k_dflt (refine' add_front_call ?kB_q ?kF_q ?kX_q ?kT_q ?kN_q ?kf_q ?kk_q ?kw_q ?ks_q ?kr_q ?kd_q ?ku_q ?hab_q ?hsz_q ?hlt_q ?_; (case kB_q => assumption); (case kF_q => k_asm); (case kX_q => assumption); (case kT_q => assumption); (case kN_q => k_asm); (case kf_q => exact rfl); (case kk_q => exact rfl); (case kw_q => walk_at "mine wr"); (case ks_q => walk_at "mine split2"); (case kr_q => walk_at "mine rd"); (case kd_q => walk_at "mine room"); (case ku_q => walk_at "mine room"); (case hab_q => first | with_reducible assumption | omega); (case hsz_q => (simp only [List.length_cons]; omega)); (case hlt_q => first | with_reducible assumption | omega); (intro yy'_q nn'_q h'_q tk'_q ha'_q hb'_q F'_q N'_q; (try k_sweep); (try dsimp only))))))) | (with_reducible (((with_reducible show wpAny _ _ (call _ _) _ _ _); (k_here; (k_dflt (show wpAny _ _ (call (Value.ref 148) [Value.ref _]) _ _ _)); k_dflt (refine' pull_uint_call ?kB_q ?kF_q ?kX_q ?kT_q ?kN_q ?kf_q ?kk_q ?kw_q ?ks_q ?kd_q ?ku_q ?hz_q ?hk_q ?_ ?_; (case kB_q => assumption); (case kF_q => k_asm); (case kX_q => assumption); (case kT_q => assumption); (case kN_q => k_asm); (case kf_q => exact rfl); (case kk_q => exact rfl); (case kw_q => walk_at "mine wr"); (case ks_q => walk_at "mine split2"); (case kd_q => walk_at "mine room"); (case ku_q => walk_at "mine room"); (case hz_q => first | with_reducible assumption | omega); (case hk_q => first | with_reducible assumption | omega); (intro v'_q k'_q t'_q t3'_q h'_q tk'_q hv'_q h0'_q hk'_q hl'_q F'_q N'_q; (try k_sweep); (try dsimp only)); rotate_left; (intro e'_q t'_q vs'_q g'_q h'_q tk'_q hv'_q R'_q F'_q U'_q; (try dsimp only); refine halt ?_); rotate_left))))) | walk_at "mine oneD")
    · (with_reducible rename Fr g _ _ _ => F4)
      (with_reducible rename News g _ _ _ => N4)
      (with_reducible rename Mine.RG => yy)
      have N5 := ack_sub (I := I) (xr := xr) (lr := lr) (x := x) (d := d) (o := o) (y := yy) (rest := y0 :: rest) N4 (by k_mem) (by k_mem) (by k_mem) (by k_mem) rfl (by k_mem) (by k_mem) (by k_mem) (by k_mem) (by k_mem) ?tail
      case tail => walk_at "mine sub"
      exact StepO.go (.inl rfl) F4 N5 pj_cls (.mk xr dr lr tr _ yy (y0 :: rest) _ _ _ _ rfl rfl rfl rfl rfl (by assumption) (by simp only [List.length_cons]; omega) (by assumption) (pj_step hpr (by assumption) (by assumption) (by assumption) (by assumption)))
    · exact fail _ _ _ _ _ _ _ (by rw [← hpr]; exact prow_n2 (by assumption) (by assumption)) (by assumption) (by assumption) (by assumption)
    · exact fail _ _ _ _ _ _ _ (by rw [← hpr]; exact prow_n1 (by assumption)) (by assumption) (by assumption) (by assumption)
  case done =>
    intro h' tk m₁ news₁ F2 N2 hJ
    obtain ⟨xr, dr, lr, tr, n', y0, rest, e, tE, kk, t3, h1, h2, h3, h4, rfl, hkk, hlen, hye, hpr⟩ := hJ
    have F3 : Fr g L _ _ := fr_eq (mp_cons (mp_cons (mp_cons (mp_cons rfl h4) h3) h2) h1) F2
    replace N2 : News g L _ _ := N2
    clear F1 N1 F2 hr h1 h2 h3 h4
    rw [Nat.sub_self] at hpr
    dsimp only [rsL, rgL, bufL, List.cons_append, List.nil_append] at N2
    have B2 := B.push (name := Str.ofString "") (scope := ⟨.function, [], false, false, []⟩) (a := 0) (cd := .none) F3 rfl
    repeat' walk_at "mine oneD"
    · exact fail2 _ _ _ _ _ _ _ _ _ _ hpr.symm (by assumption) F3 N2 (by assumption)
    · (with_reducible rename Fr g _ _ _ => F4)
      (with_reducible rename News g _ _ _ => N4)
      have hL := ack_fin (x := x) (d := d) (o := o) (xr := xr) (dr := dr) (lr := lr) (rs := y0 :: rest) N4 (by k_mem) (by k_mem) (by k_mem) (by k_mem) (by k_mem) (by k_mem) (by k_mem) ?tail
      case tail => walk_at "mine sub"
      exact ret _ _ _ _ _ _ _ _ _ _ _ _ _ _ hpr.symm (by omega) F4 hL
theorem pull_ack_frame {w : World} {mean : ExcName → Option Value} {mg mb : Str → Option Value} {x d o : Addr} {t1 t2 t3 : Tok} {bs : List UInt8} {k : Nat} (hz : bs.length ≤ 100000) (hk : k ≤ 100000) :
    ConE w mean mg mb 25 340 [.ref x] [] [] (bufL w.params x d o bs k t1 t2 t3)
      (fun r news' => ∃ T xr dr lr tr n' rs t3' k' low dl td, pack bs k = some (k', low, pairsOf rs, dl) ∧ 0 ≤ low ∧ r = .ref T ∧ news' = (T, tupO [.ref xr, .int dl td]) :: (rsL w.params xr dr lr rs n' tr ++ (bufL w.params x d o bs (k' : Nat) t1 t2 t3' ++ rowsL w.params rs)))
      (fun cls => (pack bs k = none ∧ cls = .ref 31) ∨ ∃ k' low rows dl, pack bs k = some (k', low, rows, dl) ∧ low < 0 ∧ cls = .type "ValueError") := by
  intro dp un gd ll base g s R B X T Kp N hrd hdp hun ret fail
  w_on
  walk_at "mine enter"
  obtain ⟨hb', he⟩ := at_of (K := hd.heap_39 w.params) (f := 340) (by k_is)
  have hfail : ∀ e t vs g₂ m' h' tk, pack bs k = none → RaisedK base (envAt (hd.heap_39 w.params) 340 L'_q :: ll) e (.ref 31) t vs [] h' → Fr g L'_q g₂ m' → g₂.UpToSlots h' → ek (.ref e) { s with heap := h', toks := tk } := by
    rw [he]
    intro e t vs g₂ m' h' tk hp R1 F1 U1
    clear F'_q N'_q K'_q hb' he ret
    repeat' walk_at "mine oneD"
    exact fail _ _ _ _ _ _ (.inl ⟨hp, rfl⟩) (by assumption) (by assumption)
  have hfail2 : ∀ e m' nx k' low rows dl h1 h' tk vs, pack bs k = some (k', low, rows, dl) → low < 0 → Fr g L'_q h1 m' → News g L'_q h1 nx → h1.MadeExc h' e "ValueError" vs → ek (.ref e) { s with heap := h', toks := tk } := by
    intro e m' nx k' low rows dl h1 h' tk vs hp hl F1 N1 X1
    clear F'_q N'_q K'_q hb' he ret hfail
    repeat' walk_at "mine oneD"
    (with_reducible rename RaisedK _ _ _ _ _ _ _ _ => R1)
    exact fail _ _ _ _ _ _ (.inr ⟨_, _, _, _, hp, hl, rfl⟩) (raised_nil R1) (by assumption)
  have hfail' := hfail
  rw [he] at hfail'
  repeat' (first | (with_reducible (((with_reducible show wpAny _ _ (exec (Stmt.For _ _ _ _ _) _) _ _ _); (k_here; (rename Fr _ _ _ _ => lF'_q); (with_unfolding_all refine' For_turns lF'_q ?_; k_whole))))) | (with_reducible (((with_reducible show wpAny _ _ (call _ _) _ _ _); (k_here; (k_dflt (show wpAny _ _ (call (Value.ref 263) [Value.ref _, Value.int _ _, Value.int _ _]) _ _ _)); k_dflt (refine' add_first_call ?kB_q ?kF_q ?kX_q ?kT_q ?kN_q ?kf_q ?kk_q ?kw_q ?ks_q ?kd_q ?ku_q ?hab_q ?_; (case kB_q => assumption); (case kF_q => k_asm); (case kX_q => assumption); (case kT_q => assumption); (case kN_q => k_asm); (case kf_q => exact rfl); (case kk_q => exact rfl); (case kw_q => walk_at "mine wr"); (case ks_q => walk_at "mine split2"); (case kd_q => walk_at "mine room"); (case ku_q => walk_at "mine room"); (case hab_q => first | with_reducible assumption | omega); (intro yy'_q nn'_q h'_q tk'_q ha'_q hb'_q F'_q N'_q; (try k_sweep); (try dsimp only))))))) | (with_reducible (((with_reducible show wpAny _ _ (call _ _) _ _ _); (k_here; (k_dflt (show wpAny _ _ (call (Value.ref 148) [Value.ref _]) _ _ _)); k_dflt (refine' pull_uint_call ?kB_q ?kF_q ?kX_q ?kT_q ?kN_q ?kf_q ?kk_q ?kw_q ?ks_q ?kd_q ?ku_q ?hz_q ?hk_q ?_ ?_; (case kB_q => assumption); (case kF_q => k_asm); (case kX_q => assumption); (case kT_q => assumption); (case kN_q => k_asm); (case kf_q => exact rfl); (case kk_q => exact rfl); (case kw_q => walk_at "mine wr"); (case ks_q => walk_at "mine split2"); (case kd_q => walk_at "mine room"); (case ku_q => walk_at "mine room"); (case hz_q => first | with_reducible assumption | omega); (case hk_q => first | with_reducible assumption | omega); (intro v'_q k'_q t'_q t3'_q h'_q tk'_q hv'_q h0'_q hk'_q hl'_q F'_q N'_q; (try k_sweep); (try dsimp only)); rotate_left; (intro e'_q t'_q vs'_q g'_q h'_q tk'_q hv'_q R'_q F'_q U'_q; (try dsimp only); refine halt ?_); rotate_left))))) | (with_reducible (((with_reducible show wpAny _ _ (execs (_ :: _) _) _ _ _); (k_here; (k_dflt (show wpAny _ _ (execs (Stmt.For _ (Expr.Call _ _ _ _) _ _ _ :: _) _) _ _ _)); refine halt ?_)))) | (with_reducible (((with_reducible show wpAny _ _ (pyIter _) _ _ _); (k_here; (with_reducible show wpAny _ _ (pyIter (Value.ref _)) (fun it s₂ => TurnsAt _ _ _ _ _ _ _ _ _ it s₂) _ _); k_dflt (refine' iter_nil ?h_q ?F_q ?N_q ?X_q ?e_q ?_; (case h_q => exact rfl); (case F_q => k_asm); (case N_q => k_asm); (case X_q => k_asm); (case e_q => k_is); intro h'_q tk'_q F'_q N'_q; (try k_sweep); (try dsimp only)))))) | walk_at "mine oneD")
  rotate_left
  · exact hfail' _ _ _ _ _ _ _ (pack_n4 (by assumption) (by assumption) (by assumption) (by assumption)) (by assumption) (by assumption) (by assumption)
  · exact hfail' _ _ _ _ _ _ _ (pack_n3 (by assumption) (by assumption) (by assumption)) (by assumption) (by assumption) (by assumption)
  · exact hfail' _ _ _ _ _ _ _ (pack_n2 (by assumption) (by assumption)) (by assumption) (by assumption) (by assumption)
  · exact hfail' _ _ _ _ _ _ _ (pack_n1 (by assumption)) (by assumption) (by assumption) (by assumption)
  (with_reducible rename Fr g _ _ _ => F1)
  (with_reducible rename News g _ _ _ => N1)
  (with_reducible rename Mine.RG => yy0)
  have h1 := ‹pv bs k = _›
  have h4 := ‹pv bs _ = some (_, k'_q)›
  have hpk := pack_eq h1 (by assumption) (by assumption) h4
  clear hfail' F'_q
  unfold Halt
  have hd7 := congrArg (List.drop 7) hb'
  simp only [List.drop_succ_cons, List.drop_zero] at hd7
  rw [← he, ← hd7]
  refine pull_ack_loop B X T hdp hun hz (fr_eq (mp_cons (mp_cons (mp_cons (mp_cons (mp_cons rfl rfl) rfl) rfl) rfl) rfl) F1) N1 (by assumption) (by omega) (by assumption) (by assumption) (pv_lt (by assumption)) (by simp only [pairsOf, List.map_cons, List.map_nil, ‹yy0.a = _›, ‹yy0.b = _›]; exact rfl) ?_
    (fun T xr dr lr tr n' rs t3' k' low td' m' h' tk hF hl F' N' => ret _ _ _ _ ⟨T, xr, dr, lr, tr, n', rs, t3', k', low, _, td', by rw [hpk, hF]; rfl, hl, rfl, rfl⟩ (Kept.of_fr F') N')
    (fun e t vs g₂ m' h' tk hF => hfail _ _ _ _ _ _ _ (by rw [hpk, hF]; rfl)) fun e m' nx k' low rows h1 h' tk vs hF => hfail2 _ _ _ _ _ _ _ _ _ _ _ (by rw [hpk, hF]; rfl)
  rw [he]
  passes_own
end Mine
end
section
open PySem PySem.W PyProof.Rows PySem.Calls
set_option maxRecDepth 100000
namespace Mine
/-- rows in order, the oldest first -/
noncomputable def Asc : List (Int × Int) → Prop
  | [] => True
  | (a, b) :: r => a < b ∧ (∀ q ∈ r, b < q.1) ∧ Asc r
theorem asc_get : ∀ {l : List (Int × Int)} {i : Nat} {q : Int × Int}, Asc l → l[i]? = some q → q.1 < q.2
  | (a, b) :: r, 0, q, h, e => by cases e; exact h.1
  | (a, b) :: r, i + 1, q, h, e => asc_get (l := r) (i := i) h.2.2 (by simpa using e)
theorem asc_lt : ∀ {l : List (Int × Int)} {i j : Nat} {p q : Int × Int}, Asc l → i < j → l[i]? = some p → l[j]? = some q → p.2 < q.1
  | (a, b) :: r, 0, j + 1, p, q, h, _, e, f => by
    cases e
    have f' : r[j]? = some q := by simpa using f
    exact h.2.1 q (List.mem_of_getElem? f')
  | (a, b) :: r, i + 1, j + 1, p, q, h, hij, e, f => asc_lt (l := r) (i := i) (j := j) h.2.2 (by omega) (by simpa using e) (by simpa using f)
theorem lrows_asc : ∀ (ns : List Int) (p : Int), Asc (lrows p ns) ∧ ∀ q ∈ lrows p ns, p < q.1
  | [], _ => ⟨trivial, fun _ h => nomatch h⟩
  | n :: ns, p => by
    have h := lnxt_range p n
    have ih := lrows_asc ns (lnxt p n)
    refine ⟨⟨by omega, ih.2, ih.1⟩, fun q hq => ?_⟩
    rcases List.mem_cons.mp hq with rfl | hq
    · dsimp only; omega
    · have := ih.2 q hq
      omega
theorem lrows_lt : ∀ (ns : List Int) (p : Int), ∀ q ∈ lrows p ns, q.2 ≤ p + 14000000 * ns.length
  | [], _, _, h => nomatch h
  | n :: ns, p, q, hq => by
    have h := lnxt_range p n
    rcases List.mem_cons.mp hq with rfl | hq
    · simp only [List.length_cons]; omega
    · have := lrows_lt ns (lnxt p n) q hq
      simp only [List.length_cons]
      omega
theorem okR_snoc : ∀ (l : List (Int × Int)) (a b : Int), OkR l → 0 ≤ a → a < b → b ≤ 4611686018427387904 → (∀ q ∈ l, b < q.1) → OkR (l ++ [(a, b)])
  | [], a, b, _, h0, h1, h2, _ => ⟨h0, h1, h2, (fun _ h => nomatch h), trivial⟩
  | (c, d) :: r, a, b, ⟨o1, o2, o3, o4, o5⟩, h0, h1, h2, h3 => by
    refine ⟨o1, o2, o3, fun q hq => ?_, okR_snoc r a b o5 h0 h1 h2 fun q hq => h3 q (.tail _ hq)⟩
    cases r with
    | nil => cases hq; exact h3 _ (.head _)
    | cons z r => exact o4 q hq
theorem okR_reverse : ∀ (l : List (Int × Int)), Asc l → (∀ q ∈ l, 0 ≤ q.1 ∧ q.2 ≤ 4611686018427387904) → OkR l.reverse
  | [], _, _ => trivial
  | (a, b) :: r, ⟨h1, h2, h3⟩, hb => by
    rw [List.reverse_cons]
    have := hb _ (.head _)
    exact okR_snoc _ a b (okR_reverse r h3 fun q hq => hb q (.tail _ hq)) this.1 h1 this.2 fun q hq => h2 q (List.mem_reverse.mp hq)
/-- how many rows the law counts -/
theorem cnt_eq {n c : Nat} {M cap f : Int} (hf : ((2 ^ vidx M : Nat) : Int) = f) (hc0 : 32 ≤ cap) (h1 : 1 ≤ c) (h2 : c ≤ n) (h3 : c = 1 ∨ 2 * ((c : Int) + 1) * f ≤ cap) (h4 : ¬ ((c : Int) < n ∧ 2 * ((c : Int) + 2) * f ≤ cap)) : cntOf n M cap = c := by
  have hf1 : 1 ≤ f := hf ▸ Int.ofNat_le.mpr Nat.one_le_two_pow
  have hf8 : f ≤ 8 := hf ▸ Int.ofNat_le.mpr (Nat.pow_le_pow_right (by decide) (vidx_3 M))
  have hp : 0 < 2 * f := Int.mul_pos (by decide) hf1
  have key : ∀ z : Int, 2 * z * f ≤ cap ↔ z ≤ cap / (2 * f) := fun z => by rw [Int.le_ediv_iff_mul_le hp, Int.mul_left_comm, Int.mul_assoc]
  have hD : 2 ≤ cap / (2 * f) := (key 2).mp (Int.le_trans (Int.mul_le_mul_of_nonneg_left hf8 (by decide)) hc0)
  have h5 : 2 * ((n : Int) + 1) * 8 ≤ cap → (c : Int) < n → (c : Int) + 2 ≤ cap / (2 * f) := fun h q => (key _).mp (Int.le_trans (Int.mul_le_mul (by omega) hf8 (Int.le_of_lt hf1) (by omega)) h)
  rw [key] at h3 h4
  unfold cntOf
  rw [hf]
  generalize cap / (2 * f) = D at *
  clear key hp hf
  split <;> omega
end Mine
end
section
open PySem PySem.W PyProof.Rows PySem.Calls
set_option maxRecDepth 100000
namespace Mine
section
variable {prog : Program} {w : World} {A : Around} {E : Value → Shared → Prop} {s : Shared} {Q : Value → Shared → Prop} {value slice : PySem.Expr} {h₀ : Heap} {L D : Addr} {m : Str → Option Value} {trs : List TR} {news : List (Addr × Obj)}
theorem list_slice_N {a : Nat} {lo : Int} {tl : Tok} (F : Fr h₀ L s.heap m) (N : News h₀ L s.heap news) (hl : h₀.IsList D (refsT trs).toArray) (hlo : lo = (a : Int)) (ha : a ≤ trs.length) (hz : trs.length ≤ 1000000)
    (h : ∀ h' x, Fr h₀ L h' m → News h₀ L h' ((x, listOf (refsT (trs.drop a)).toArray 0) :: news) → (∀ p ∈ news, p.1 < x) → Q (.ref x) { s with heap := h' })
    (hs : subscripted slice false (.ref D) (.ref s.heap.objs.size) = operate [.ref s.heap.objs.size, .ref D] (getItem (.ref D) (.ref s.heap.objs.size)) := by with_unfolding_all rfl) :
    wpAny (model prog w) A (subscriptTail value slice (.ref D) (.ref s.heap.objs.size)) Q E { s with heap := s.heap.push { cls := .type "slice", data := .fields #[.int lo tl, .none, .none] } } := by
  subst hlo
  have hl' : (s.heap.push { cls := .type "slice", data := .fields #[.int (a : Int) tl, .none, .none] }).IsList D (refsT trs).toArray := (hl.at (F.keep D)).push _
  have hp : slicePick (refsT trs).toArray (some (a : Int)) none none = (refsT (trs.drop a)).toArray := by
    rw [slicePick_from _ _ (by simpa using ha)]
    simp [refsT, List.map_drop]
  refine tail_any (T := "list") hl'.typeIs slot_list_getitem.lookup ?_ hs
  refine wpAny_getItem_list_slice (s := { s with heap := s.heap.push { cls := .type "slice", data := .fields #[.int (a : Int) tl, .none, .none] } }) hl' (Heap.IsSliceOf.new _ _ _ _) (.int _ _) .none .none (by simp) ?_ (by rw [List.size_toArray, List.length_map, sizeLine_eq]; omega)
  rw [hp]
  have N1 := News.pushKeep N { cls := .type "slice", data := .fields #[.int (a : Int) tl, .none, .none] }
  have F1 := F.push { cls := .type "slice", data := .fields #[.int (a : Int) tl, .none, .none] }
  exact h _ _ (F1.push _) (News.push F1 N1 _ rfl) (fun p hp => Heap.lt_size (N1 p hp).1)
end
theorem rowsT_drop {trs : List TR} {a : Nat} : ∀ p ∈ rowsT (trs.drop a), p ∈ rowsT trs := fun p hp => by
  obtain ⟨z, hz, rfl⟩ := List.mem_map.mp hp
  exact List.mem_map_of_mem (List.mem_of_mem_drop hz)
end Mine
end
section
open PySem PySem.W PyProof.Rows PySem.Calls
set_option maxRecDepth 100000
namespace Mine
theorem vidx_mono {v M : Int} (h : v ≤ M) : vidx v ≤ vidx M := by
  rcases vidx_cases v with ⟨c1, e⟩ | ⟨c1, c2, e⟩ | ⟨c1, c2, c3, e⟩ | ⟨c1, c2, c3, e⟩ <;> rcases vidx_cases M with ⟨d1, e'⟩ | ⟨d1, d2, e'⟩ | ⟨d1, d2, d3, e'⟩ | ⟨d1, d2, d3, e'⟩ <;> omega
theorem venc_le {v M : Int} (h : v ≤ M) : (venc v).length ≤ 2 ^ vidx M := by
  rw [venc_length]
  exact Nat.pow_le_pow_right (by decide) (vidx_mono h)
theorem fgap_len : ∀ (xs : List (Int × Int)) (s M : Int), s ≤ M + 1 → (∀ q ∈ xs.head?, q.2 < s) → OkR xs → (fgap s xs).length ≤ 2 * xs.length * 2 ^ vidx M
  | [], _, _, _, _, _ => Nat.zero_le _
  | (a, b) :: r, s, M, hs, hh, ⟨h1, h2, h3, h4, h5⟩ => by
    have hb := hh _ rfl
    dsimp only at hb
    have g1 : (venc (s - b - 1)).length ≤ 2 ^ vidx M := venc_le (by omega)
    have g2 : (venc (b - a - 1)).length ≤ 2 ^ vidx M := venc_le (by omega)
    have ih := fgap_len r a M (by omega) h4 h5
    show (venc (s - b - 1) ++ venc (b - a - 1) ++ fgap a r).length ≤ _
    rw [List.length_append, List.length_append, List.length_cons]
    have e : 2 * (r.length + 1) * 2 ^ vidx M = 2 * r.length * 2 ^ vidx M + 2 ^ vidx M + 2 ^ vidx M := by
      rw [Nat.mul_add, Nat.add_mul]; omega
    omega
theorem mx_ge (a b : Int) : a ≤ mx a b ∧ b ≤ mx a b := by
  unfold mx
  split <;> omega
theorem fenc_len {delay a b : Int} {xs : List (Int × Int)} (hok : OkR ((a, b) :: xs)) (hn : xs.length ≤ 60) : (fenc delay ((a, b) :: xs)).length ≤ 2 * (xs.length + 2) * 2 ^ vidx (mx (b - 1) delay) := by
  obtain ⟨h1, h2, h3, h4, h5⟩ := hok
  have hm := mx_ge (b - 1) delay
  generalize mx (b - 1) delay = M at hm
  have g1 : (venc (b - 1)).length ≤ 2 ^ vidx M := venc_le hm.1
  have g2 : (venc delay).length ≤ 2 ^ vidx M := venc_le hm.2
  have g3 : (venc (xs.length : Int)).length ≤ 2 ^ vidx M := by
    have : (venc (xs.length : Int)).length = 1 := by
      rw [venc_length]
      unfold vidx
      rw [if_pos (by omega)]
    rw [this]
    exact Nat.pow_pos (by decide)
  have g4 : (venc (b - 1 - a)).length ≤ 2 ^ vidx M := venc_le (by omega)
  have g5 := fgap_len xs a M (by omega) h4 h5
  show (venc (b - 1) ++ venc delay ++ venc (xs.length : Int) ++ venc (b - 1 - a) ++ fgap a xs).length ≤ _
  simp only [List.length_append]
  have e : 2 * (xs.length + 2) * 2 ^ vidx M = 2 * xs.length * 2 ^ vidx M + 2 ^ vidx M + 2 ^ vidx M + 2 ^ vidx M + 2 ^ vidx M := by
    rw [Nat.mul_add, Nat.add_mul]; omega
  omega
theorem okR_take : ∀ (l : List (Int × Int)) (k : Nat), OkR l → OkR (l.take k)
  | [], k, _ => by simp [OkR]
  | _ :: _, 0, _ => trivial
  | (a, b) :: r, k + 1, ⟨h1, h2, h3, h4, h5⟩ => by
    refine ⟨h1, h2, h3, fun q hq => ?_, okR_take r k h5⟩
    cases r with
    | nil => simp at hq
    | cons z r =>
      cases k with
      | zero => cases hq
      | succ k => exact h4 q hq
/-- the newest rows, the newest first -/
theorem newest_rev {trs : List TR} {y : TR} {xs : List (Int × Int)} {cn : Nat} (h : (pairsT trs).reverse = (y.a, y.b) :: xs) (h1 : 1 ≤ cn) (h2 : cn ≤ trs.length) : (pairsT (trs.drop (trs.length - cn))).reverse = (y.a, y.b) :: xs.take (cn - 1) := by
  have e : pairsT (trs.drop (trs.length - cn)) = (pairsT trs).drop ((pairsT trs).length - cn) := by rw [pairsT, pairsT, List.map_drop, List.length_map]
  rw [e, List.reverse_drop]
  rw [show (pairsT trs).length - ((pairsT trs).length - cn) = cn from by rw [List.length_map]; omega, h]
  obtain ⟨c, rfl⟩ : ∃ c, cn = c + 1 := ⟨cn - 1, by omega⟩
  rfl
end Mine
end
section
open PySem PySem.W PyProof.Rows PySem.Calls
set_option maxRecDepth 100000
namespace Mine
/-- push_bytes into a fresh buffer -/
theorem push_lead {w : World} {mean : ExcName → Option Value} {mg mb : Str → Option Value} {x d o : Addr} {t1 t2 t3 t4 : Tok} {v : List UInt8} {n cap : Int} (hn : n = (v.toArray.size : Int) + cap) (hc : 0 ≤ cap) (hz : n ≤ 100000) :
    Con w mean mg mb 5 155 [.ref x, .bytes v.toArray t4] [] (bufL w.params x d o (List.replicate n.toNat 0) 0 t1 t2 t3)
      (fun r news' => r = .none ∧ ∃ o' t3' old', old'.length = cap.toNat ∧ news' = bufL w.params x d o' (v ++ old') ((v.length : Nat) : Int) t1 t2 t3') := by
  intro dp un gd ll base g s R B X T Kp N hdp hun ret
  have hs : v.toArray.size = v.length := by simp
  refine push_bytes (pre := []) (old := List.replicate n.toNat 0) (v := v.toArray) (by simp; omega) (by simp; omega) dp un gd ll base g s R B X T Kp N hdp hun fun r news' h' tk hp K' L' => ?_
  obtain ⟨rfl, o', t3', rfl⟩ := hp
  refine ret _ _ _ _ ⟨rfl, o', t3', (List.replicate n.toNat 0).drop v.length, ?_, ?_⟩ K' L'
  · simp; omega
  · simp
theorem buf_data2 {w : World} {mean : ExcName → Option Value} {mg mb : Str → Option Value} {x d o : Addr} {t1 t2 t3 : Tok} {pre old : List UInt8} (hz : pre.length + old.length ≤ 100000) :
    Con w mean mg mb 5 77 [.ref x] [] (bufL w.params x d o (pre ++ old) ((pre.length : Nat) : Int) t1 t2 t3) (fun r news' => (∃ t, r = .bytes pre.toArray t) ∧ news' = bufL w.params x d o (pre ++ old) ((pre.length : Nat) : Int) t1 t2 t3) := by
  have := buf_data (w := w) (mean := mean) (mg := mg) (mb := mb) (x := x) (d := d) (o := o) (t1 := t1) (t2 := t2) (t3 := t3) (bs := pre ++ old) (k := pre.length) (by simp; omega) (by simp)
  rw [List.take_left' rfl] at this
  exact this
theorem pull_ok {w : World} {mean : ExcName → Option Value} {mg mb : Str → Option Value} {x d o : Addr} {t1 t2 t3 : Tok} {bs : List UInt8} {k k1 : Nat} {low dl : Int} {ps : List (Int × Int)} (hz : bs.length ≤ 100000) (hk : k ≤ 100000)
    (hp : pack bs k = some (k1, low, ps, dl)) (hlow : 0 ≤ low) :
    ConE w mean mg mb 25 340 [.ref x] [] [] (bufL w.params x d o bs k t1 t2 t3)
      (fun r news' => ∃ T xr dr lr tr n' rs t3' td, pairsOf rs = ps ∧ r = .ref T ∧ news' = (T, tupO [.ref xr, .int dl td]) :: (rsL w.params xr dr lr rs n' tr ++ (bufL w.params x d o bs (k1 : Nat) t1 t2 t3' ++ rowsL w.params rs)))
      (fun _ => False) := by
  intro dp un gd ll base g s R B X T Kp N hrd hdp hun ret fail
  refine pull_ack_frame hz hk dp un gd ll base g s R B X T Kp N hrd hdp hun (fun r news' h' tk hq K' L' => ?_) fun e t cls vs h' tk hq => ?_
  · obtain ⟨T, xr, dr, lr, tr, n', rs, t3', k', low', dl', td, hpk, hlow', hr, hn⟩ := hq
    rw [hp] at hpk
    have hpk := Option.some.inj hpk
    injection hpk with e1 hpk
    injection hpk with e2 hpk
    injection hpk with e3 e4
    subst e1 e2 e3 e4
    exact ret _ _ _ _ ⟨T, xr, dr, lr, tr, n', rs, t3', td, rfl, hr, hn⟩ K' L'
  · rcases hq with ⟨hq, _⟩ | ⟨k', low', rows, dl', hq, hl, _⟩
    · rw [hp] at hq; cases hq
    · rw [hp] at hq
      have hq := Option.some.inj hq
      injection hq with e1 hq
      injection hq with e2 hq
      omega
theorem allLt_mem {d : Nat} {l : List (Addr × Obj)} (h : AllLt d l) : ∀ p ∈ l, @LT.lt Nat _ p.1 d := by
  induction l with
  | nil => intro p hp; cases hp
  | cons a r ih =>
    intro p hp
    cases hp with
    | head => exact h.1
    | tail _ hp => exact ih h.2 p hp
theorem news_all {h : Heap} {all : List (Addr × Obj)} (H : ∀ p ∈ all, h.get? p.1 = some p.2) : ∃ e L, News e L h all :=
  ⟨hideAll h (List.range h.objs.size), h.objs.size, fun p hp => ⟨H p hp, Nat.ne_of_lt (Heap.lt_size (H p hp)), hideAll_none _ (List.mem_range.mpr (Heap.lt_size (H p hp)))⟩⟩
theorem rowD_ok (l : List (Int × Int)) : ∀ d ∈ l.map rowD, kqdOk 8 d = true := fun d hd => by
  obtain ⟨q, _, rfl⟩ := List.mem_map.mp hd
  simp [kqdOk]
section
variable {prog : Program} {w : World} {A : Around} {E : Value → Shared → Prop} {s : Shared} {Q : Value → Shared → Prop} {D1 D2 : Addr} {ys zs : List Value} {k1 k2 : Nat} {n1 n2 : List (Addr × Obj)} {p1 p2 : List (Int × Int)}
theorem rows_ne (h1 : s.heap.get? D1 = some (listOf ys.toArray k1)) (L1 : ∀ p ∈ n1, s.heap.get? p.1 = some p.2) (A1 : DatAll n1 ys (p1.map rowD)) (h2 : s.heap.get? D2 = some (listOf zs.toArray k2)) (L2 : ∀ p ∈ n2, s.heap.get? p.1 = some p.2) (A2 : DatAll n2 zs (p2.map rowD))
    (hu : A.units + 64 < cLine) (e : p1 = p2) (h : Q (.bool false) s) : wpAny (model prog w) A (compareOp .NotEq (.ref D1) (.ref D2)) Q E s := by
  obtain ⟨g, L, N⟩ := news_all (h := s.heap) (all := (D1, listOf ys.toArray k1) :: (D2, listOf zs.toArray k2) :: (n1 ++ n2)) fun p hp => by
    simp only [List.mem_cons, List.mem_append] at hp
    rcases hp with rfl | rfl | hp | hp
    · exact h1
    · exact h2
    · exact L1 p hp
    · exact L2 p hp
  refine kqd_ne N (.head _) rfl rfl A1 (fun p hp => .tail _ (.tail _ (List.mem_append_left _ hp))) (.tail _ (.head _)) rfl rfl A2 (fun p hp => .tail _ (.tail _ (List.mem_append_right _ hp))) (rowD_ok _) (rowD_ok _) hu ?_
  subst e
  simpa using h
theorem rows_eq (h1 : s.heap.get? D1 = some (listOf ys.toArray k1)) (L1 : ∀ p ∈ n1, s.heap.get? p.1 = some p.2) (A1 : DatAll n1 ys (p1.map rowD)) (h2 : s.heap.get? D2 = some (listOf zs.toArray k2)) (L2 : ∀ p ∈ n2, s.heap.get? p.1 = some p.2) (A2 : DatAll n2 zs (p2.map rowD))
    (hu : A.units + 64 < cLine) (e : p1 = p2) (h : Q (.bool true) s) : wpAny (model prog w) A (compareOp .Eq (.ref D1) (.ref D2)) Q E s := by
  obtain ⟨g, L, N⟩ := news_all (h := s.heap) (all := (D1, listOf ys.toArray k1) :: (D2, listOf zs.toArray k2) :: (n1 ++ n2)) fun p hp => by
    simp only [List.mem_cons, List.mem_append] at hp
    rcases hp with rfl | rfl | hp | hp
    · exact h1
    · exact h2
    · exact L1 p hp
    · exact L2 p hp
  refine kqd_eq N (.head _) rfl rfl A1 (fun p hp => .tail _ (.tail _ (List.mem_append_left _ hp))) (.tail _ (.head _)) rfl rfl A2 (fun p hp => .tail _ (.tail _ (List.mem_append_right _ hp))) (rowD_ok _) (rowD_ok _) hu ?_
  subst e
  simpa using h
end
end Mine
end
section
open PySem PySem.W PyProof.Rows PySem.Calls
set_option maxRecDepth 100000
namespace Mine
theorem okR_nonneg : ∀ (l : List (Int × Int)), OkR l → ∀ q ∈ l, 0 ≤ q.1
  | (a, b) :: r, ⟨h1, _, _, _, h5⟩, q, hq => by
    rcases List.mem_cons.mp hq with rfl | hq
    · exact h1
    · exact okR_nonneg r h5 q hq
theorem pack_due (pre post : List UInt8) {delay a b : Int} {xs : List (Int × Int)} (hok : OkR ((a, b) :: xs)) (hd0 : 0 ≤ delay) (hd1 : delay < 4611686018427387904) (hn : xs.length < 1000) :
    ∃ low, 0 ≤ low ∧ pack (pre ++ (fenc delay ((a, b) :: xs) ++ post)) pre.length = some (pre.length + (fenc delay ((a, b) :: xs)).length, low, ((a, b) :: xs).reverse, delay) := by
  obtain ⟨h1, h2, h3, h4, h5⟩ := id hok
  have e1 : b - 1 - (b - 1 - a) = a := by omega
  have e2 : b - 1 + 1 = b := by omega
  have hp := pack_gframe pre post (e := b - 1) (dl := delay) (z := b - 1 - a) (l0 := 0) (ld := 0) (tl := gaps a xs) (by omega) (by omega) hd0 hd1 (by omega) (by omega) (by omega) (by omega) (by rw [gaps_length]; exact hn) (okG_gaps xs a (by omega) h4 h5)
  rw [← fenc_gframe, e1, e2] at hp
  obtain ⟨g1, g2⟩ := grow_gaps xs a [(a, b)]
  rw [g1, g2] at hp
  refine ⟨_, ?_, by rw [hp, List.reverse_cons]⟩
  cases e : xs.getLast? with
  | none => exact h1
  | some q => exact okR_nonneg _ h5 q (List.mem_of_getLast? e)
end Mine
end
section
open PySem PySem.W PyProof.Rows PySem.Calls
set_option maxRecDepth 100000
set_option maxHeartbeats 1000000
namespace Mine
theorem buf_out {P : Params} {g h : Heap} {L x d o : Addr} {news : List (Addr × Obj)} {bs : List UInt8} {k : Int} {t1 t2 t3 : Tok} (N : News g L h news) (h1 : (x, instObj 193 d) ∈ news) (h2 : (d, bufD P o k t1 t2 t3) ∈ news) (h3 : (o, BA.baObj bs.toArray) ∈ news) :
    News g L h [(x, instObj 193 d), (d, bufD P o k t1 t2 t3), (o, BA.baObj bs.toArray)] := news_sub N fun p hp => by
  simp only [List.mem_cons, List.not_mem_nil, or_false] at hp
  rcases hp with rfl | rfl | rfl
  · exact h1
  · exact h2
  · exact h3
theorem pushed_tail2 {w : World} {mean : ExcName → Option Value} {mg mb : Str → Option Value} {nws : List TR} {delay : Int} {lead due : List UInt8} {td tl tdu : Tok} {y0 : TR} {xs : List (Int × Int)} {kn : Nat}
    {dp un : Nat} {gd : Option (List Code)} {ll : List Env} {base g : Heap} {s : Shared} {L nw : Addr} {m₀ : Str → Option Value} {Q : Flow → Shared → Prop} {E : Value → Shared → Prop}
    (hd0 : 0 ≤ delay) (hd1 : delay < 4611686018427387904) (hlen : nws.length ≤ 30) (hld : lead.length ≤ 2) (hok : OkR ((y0.a, y0.b) :: xs))
    (hrev : (pairsT nws).reverse = (y0.a, y0.b) :: xs) (hdue : fenc delay ((y0.a, y0.b) :: xs) = due) (hdl : (due.length : Int) ≤ 500)
    (B : Below (AX dp un gd ll) base ll g) (X : (hd.heap_39 w.params).In g) (T : Top hd.view_39 LS mean mg mb g) (hrd : ∀ p ∈ rowsT nws, g.get? p.1 = some p.2)
    (hdp : dp + 60 < recursionLimit) (hun : un + 10 * 60 < cLine) (hbare : AllBare s.gens)
    (F : Fr g L s.heap (fun y => if y = Str.ofString "due" then some (.bytes due.toArray tdu) else if y = Str.ofString "newest" then some (.ref nw) else if y = Str.ofString "delay" then some (.int delay td) else if y = Str.ofString "lead" then some (.bytes lead.toArray tl) else m₀ y))
    (N : News g L s.heap [(nw, listOf (refsT nws).toArray kn)])
    (ret : ∀ h' tk gens', AllBare gens' → Kept g h' → Q (.ret (.bool true)) ⟨h', gens', s.drawn, tk, s.os⟩) :
    wpN (model PG w) ((AX dp un gd ll).deeper (envAt (hd.heap_39 w.params) 387 L)) (execs ((bodyAt (hd.heap_39 w.params) 387).drop 11) (envAt (hd.heap_39 w.params) 387 L)) Q E s := by
  w_on
  obtain ⟨hb, he⟩ := at_of (K := hd.heap_39 w.params) (f := 387) (by k_is)
  rw [hb, he]
  clear hb he
  simp only [List.drop_succ_cons, List.drop_zero]
  obtain ⟨hp, gg, dd, tt, os⟩ := s
  dsimp only at F N hbare ret
  refine wpN_execs_cons (wpN_Assign (wpN_Call ?_))
  repeat' walk_at "mine oneD"
  refine callWithN_KW0 (K := hd.heap_39 w.params) (by k_is) rfl ?_
  repeat' (first | (with_reducible (((with_reducible show wpAny _ _ (binaryOp Operator.Add _ _) _ _ _); (k_here; (with_reducible show wpAny _ _ (binaryOp _ (Value.bytes (List.toArray _) _) (Value.bytes (List.toArray _) _)) _ _ _); (refine' add_bytesL ?hz_q ?_; (case hz_q => ((try simp only [List.length_append, List.length_cons, List.length_nil]); omega)); intro _ _; (try dsimp only)))))) | walk_at "mine oneD")
  have hbk : (lead ++ due ++ lead ++ [(Int.toNat 5).toUInt8]).length ≤ 600 := by simp only [List.length_append, List.length_cons, List.length_nil]; omega
  obtain ⟨low, hlow, hpk⟩ := pack_due lead (lead ++ [(Int.toNat 5).toUInt8]) hok hd0 hd1 (show xs.length < 1000 by
    have := congrArg List.length hrev
    simp only [List.length_reverse, List.length_map, List.length_cons] at this
    omega)
  rw [← List.append_assoc, ← List.append_assoc, hdue, ← hrev, List.reverse_reverse] at hpk
  generalize hbs : lead ++ due ++ lead ++ [(Int.toNat 5).toUInt8] = bs at hbk hpk
  have hlb : lead.length ≤ bs.length := by rw [← hbs]; simp only [List.length_append]; omega
  refine' ConN.call (buffer_data (bs := bs) ?hn) ?kB ?kF ?kX ?kT ?kN ?kf ?kk ?kw ?ks ?kr ?kb ?kd ?ku ?_
  (case kB => assumption); (case kF => k_asm); (case kX => assumption); (case kT => assumption); (case kN => k_asm); (case kf => exact rfl); (case kk => exact rfl); (case kw => walk_at "mine wr"); (case ks => walk_at "mine split2")
  (case kr => exact List.forall_mem_nil _); (case kb => exact hbare); (case kd => walk_at "mine room"); (case ku => walk_at "mine room"); (case hn => omega)
  rintro vb newsb hb2 tkb gensb ⟨xb, db, ob, tb1, tb2, tb3, rfl, rfl⟩ hbare2 F3 N3
  dsimp only [bufL, List.cons_append, List.nil_append] at N3
  repeat' walk_at "mine oneD"
  refine wpN_execs_cons (wpN_of ?_)
  repeat' (first | (with_reducible (((with_reducible show wpAny _ _ (call _ _) _ _ _); (k_here; (k_dflt (show wpAny _ _ (call (Value.ref 99) [Value.ref _, Value.int _ _]) _ _ _)); k_dflt (refine' ConE.call2 (Con.toE (buf_seek ?hz_q ?hp_q)) ?kB_q ?kF_q ?kX_q ?kT_q ?kN_q ?kf_q ?kk_q ?kw_q ?ks_q ?kr_q ?kd_q ?ku_q ?_ ?_; walk_at "mine conF"; (case hz_q => first | with_reducible assumption | omega); (case hp_q => ((try simp only [List.length_append, List.size_toArray]); omega)); walk_at "mine noerr"; (intro v'_q news'_q h'_q tk'_q hp'_q F'_q N'_q; obtain ⟨hv'_q, t3'_q, hn'_q⟩ := hp'_q; subst hv'_q; subst hn'_q; dsimp only [bufL, List.cons_append, List.nil_append] at N'_q; (try k_sweep); (try dsimp only))))))) | walk_at "mine oneD")
  refine wpN_execs_cons (wpN_of ?_)
  repeat' (first | (with_reducible (((with_reducible show wpAny _ _ (call _ _) _ _ _); (k_here; (k_dflt (show wpAny _ _ (call (Value.ref 340) [Value.ref _]) _ _ _)); k_dflt (refine' ConE.call2 (pull_ok ?hz_q ?hk_q ?hp_q ?hl_q) ?kB_q ?kF_q ?kX_q ?kT_q ?kN_q ?kf_q ?kk_q ?kw_q ?ks_q ?kr_q ?kd_q ?ku_q ?_ ?_; walk_at "mine conF"; (case hp_q => assumption); (case hl_q => assumption); (case hz_q => first | with_reducible assumption | omega); (case hk_q => (simp only [List.size_toArray]; omega)); walk_at "mine noerr"; (intro v'_q news'_q h'_q tk'_q hp'_q F'_q N'_q; obtain ⟨T'_q, xr'_q, dr'_q, lr'_q, tr'_q, n'_q, rs'_q, t3'_q, td'_q, hrs'_q, hv'_q, hn'_q⟩ := hp'_q; subst hv'_q; subst hn'_q; dsimp only [bufL, rsL, List.cons_append, List.nil_append] at N'_q; (try k_sweep); (try dsimp only))))))) | walk_at "mine oneD")
  refine wpN_execs_cons (wpN_of ?_)
  repeat' (first | (with_reducible (((with_reducible show wpAny _ _ (eval _ _) _ _ _); (k_here; (with_reducible show wpAny _ _ (eval (Expr.ListComp _ _ _ _) _) _ _ _); refine halt ?_)))) | walk_at "mine oneD")
  (with_reducible rename Fr g L _ _ => F1)
  (with_reducible rename News g L _ _ => N1)
  (with_reducible rename List RG => rs)
  have hrs := ‹pairsOf rs = pairsT nws›
  have hrl : rs.length = nws.length := by
    have := congrArg List.length hrs
    simpa using this
  refine halt ?_
  refine' ListComp_gen (rs := rs) B F1 X T N1 rfl rfl ?h1 ?h2 ?h3 ?h4 ?hdp ?hun hbare2 ?hsz ?hclos ?hcell ?hkind ?hnames ?hx ?hiter ?helt ?k
  rotate_left 2
  case h1 => k_mem
  case h2 => k_mem
  case h3 => k_mem
  case h4 => walk_at "mine sub"
  case hdp => walk_at "mine room"
  case hun => walk_at "mine room"
  case hsz => omega
  case hclos => rfl
  case hcell => decide
  case hkind => rfl
  case hnames => decide
  case hx => rfl
  case hiter =>
    intro E' Q' hq
    repeat' walk_at "mine oneD"
    exact hq _
  case helt =>
    intro s' C oC m₂ y rest Q' E' hoC hm2 F2 N2 hk
    repeat' walk_at "mine oneD"
    refine hk _ _ _ (by assumption) (by assumption) fun p hp => ?_
    have l1 := ‹C < _ ∧ _›
    rcases List.mem_cons.mp hp with rfl | hp
    · exact Nat.ne_of_lt l1.1
    · exact Nat.ne_of_lt (allLt_mem l1.2.2.2 p hp)
  case k =>
    intro D1 ys tups h1 tk1 gens1 F2 N2 hda hb2
    repeat' (first | (with_reducible (((with_reducible show wpAny _ _ (compareOp _ _ _) _ _ _); (k_here; (with_reducible show wpAny _ _ (compareOp _ (Value.ref _) (Value.ref _)) _ _ _); refine halt ?_)))) | walk_at "mine oneD")
    refine halt ?_
    refine rows_eq (p1 := pairsOf rs) (p2 := pairsT nws) (n2 := rowsT nws) (N2 _ (.head _)).1 (fun p hp => (N2 p (.tail _ (List.mem_append_left _ hp))).1) hda (k2 := kn) (zs := refsT nws) (N2 (nw, listOf (refsT nws).toArray kn) (by simp)).1 (fun p hp => F2.keep _ _ (hrd _ hp)) (datT nws) ?_ hrs ?_
    · walk_at "mine room"
    have N3 := buf_out (x := xb) (bs := bs) N2 (.tail _ (List.mem_append_right _ (by k_mem))) (.tail _ (List.mem_append_right _ (by k_mem))) (.tail _ (List.mem_append_right _ (by k_mem)))
    have hK := Kept.of_fr F2
    clear N2 N1 F1 hda
    repeat' (first | (with_reducible (((with_reducible show wpAny _ _ (call _ _) _ _ _); (k_here; (k_dflt (show wpAny _ _ (call (Value.ref 106) [Value.ref _]) _ _ _)); k_dflt (refine' ConE.call2 (Con.toE buf_tell) ?kB_q ?kF_q ?kX_q ?kT_q ?kN_q ?kf_q ?kk_q ?kw_q ?ks_q ?kr_q ?kd_q ?ku_q ?_ ?_; walk_at "mine conF"; walk_at "mine noerr"; (intro v'_q news'_q h'_q tk'_q hp'_q F'_q N'_q; obtain ⟨⟨t'_q, hv'_q⟩, hn'_q⟩ := hp'_q; subst hv'_q; subst hn'_q; dsimp only [bufL, List.cons_append, List.nil_append] at N'_q; (try k_sweep); (try dsimp only))))))) | walk_at "mine oneD")
    · rw [show (((lead.length + due.length : Nat) : Int) == (lead.toArray.size : Int) + (due.toArray.size : Int)) = true from beq_iff_eq.mpr (by simp only [List.size_toArray]; omega)]
      exact ret _ _ _ hb2 (Kept.of_fr (by assumption))
    · rw [show (delay == delay) = true from beq_self_eq_true _]
      exact ret _ _ _ hb2 hK
end Mine
end
section
open PySem PySem.W PyProof.Rows PySem.Calls
set_option maxRecDepth 100000
set_option maxHeartbeats 1000000
namespace Mine
theorem push_ack2 {w : World} {mean : ExcName → Option Value} {mg mb : Str → Option Value} {x d o xr dr lr : Addr} {t1 t2 t3 td tc tr : Tok} {nl cn : Nat} {pre old due : List UInt8} {rs : List RG} {delay cap a b : Int} {xs : List (Int × Int)}
    (hxs : (pairsOf rs).reverse = (a, b) :: xs) (hok : OkR ((a, b) :: xs)) (hd0 : 0 ≤ delay) (hd1 : delay < 4611686018427387904) (hc0 : 32 ≤ cap) (hc1 : cap ≤ 100000) (hlen : rs.length ≤ 1000)
    (hz : pre.length + old.length ≤ 100000) (hcr : cntOf rs.length (mx (b - 1) delay) cap = cn) (hfe : fenc delay (((a, b) :: xs).take cn) = due) (hfit : due.length ≤ old.length) :
    ConE w mean mg mb 25 347 [.ref x, .ref xr, .int delay td, .int cap tc] [] (rsL w.params xr dr lr rs nl tr ++ rowsL w.params rs) (bufL w.params x d o (pre ++ old) pre.length t1 t2 t3)
      (fun r news' => ∃ o' t3' t pre' old', r = .int (cn : Nat) t ∧ pre' = pre ++ due ∧ pre'.length + old'.length = pre.length + old.length ∧ news' = bufL w.params x d o' (pre' ++ old') ((pre'.length : Nat) : Int) t1 t2 t3')
      (fun _ => False) := by
  subst hcr hfe
  intro dp un gd ll base g s R B X T Kp N hrd hdp hun ret fail
  refine push_ack_frame hxs hok hd0 hd1 hc0 hc1 hlen hz hfit dp un gd ll base g s R B X T Kp N hrd hdp hun (fun r news' h' tk hp K' L' => ?_) fail
  obtain ⟨o', t3', t, hr, hn⟩ := hp
  have hn' := hn _ rfl
  subst hn'
  refine ret _ _ _ _ ⟨o', t3', t, pre ++ fenc delay (((a, b) :: xs).take (cntOf rs.length (mx (b - 1) delay) cap)), old.drop (fenc delay (((a, b) :: xs).take (cntOf rs.length (mx (b - 1) delay) cap))).length, hr, rfl, ?_, rfl⟩ K' L'
  rw [List.length_append, List.length_drop]; omega
section
variable {prog : Program} {w : World} {A : Around} {E : Value → Shared → Prop} {s : Shared} {value slice : PySem.Expr} {a : Addr} {pre old : List UInt8} {t : Tok} {h₀ : Heap} {L : Addr} {m : PySem.Str → Option Value} {news : List (Addr × Obj)} {Q : Value → Shared → Prop}
theorem slice_pre (hF : Fr h₀ L s.heap m) (hN : News h₀ L s.heap news) (ha : BA.IsBA s.heap a (pre ++ old).toArray) (hz : pre.length ≤ 16777216)
    (h : ∀ h' x, Fr h₀ L h' m → News h₀ L h' ((x, BA.baObj pre.toArray) :: news) → (∀ p ∈ news, p.1 < x) → Q (.ref x) { s with heap := h' })
    (hs : subscripted slice false (.ref a) (.ref s.heap.objs.size) = operate [.ref s.heap.objs.size, .ref a] (getItem (.ref a) (.ref s.heap.objs.size)) := by with_unfolding_all rfl) :
    wpAny (model prog w) A (subscriptTail value slice (.ref a) (.ref s.heap.objs.size)) Q E { s with heap := s.heap.push { cls := .type "slice", data := .fields #[.none, .int ((pre.length : Nat) : Int) t, .none] } } := by
  refine BA.slice_N hF hN ha .none (.int _ t) ?_ ?_ hs
  · rw [picked_lo]; simpa using hz
  · rw [picked_lo]; exact h
end
theorem pushed_tail {w : World} {mean : ExcName → Option Value} {mg mb : Str → Option Value} {D : Addr} {trs : List TR} {n : Nat} {delay cap : Int} {lead due : List UInt8} {td tc tl tcn tdu : Tok} {y0 : TR} {xs : List (Int × Int)} {rs : List RG} {cn a0 nn : Nat}
    {dp un : Nat} {gd : Option (List Code)} {ll : List Env} {base g : Heap} {s : Shared} {L x d l xb db ob nw : Addr} {tr tb1 tb2 tb3 : Tok} {m₀ : Str → Option Value} {Q : Flow → Shared → Prop} {E : Value → Shared → Prop}
    (hd0 : 0 ≤ delay) (hd1 : delay < 4611686018427387904) (hc0 : 32 ≤ cap) (hc1 : cap ≤ 500) (hlen : trs.length ≤ 30) (hld : lead.length ≤ 2)
    (hokA : OkR ((y0.a, y0.b) :: (pairsT (List.take (trs.length - 1) trs)).reverse)) (htk : (pairsT trs).reverse = (y0.a, y0.b) :: (pairsT (trs.take (trs.length - 1))).reverse) (hrs : pairsOf rs = pairsT trs)
    (hcn : cn = cntOf trs.length (mx (y0.b - 1) delay) cap) (hcn1 : 1 ≤ cn) (hxs : (pairsT (trs.take (trs.length - 1))).reverse.take (cn - 1) = xs) (hrev : (pairsT (trs.drop a0)).reverse = (y0.a, y0.b) :: xs)
    (hdue : fenc delay ((y0.a, y0.b) :: xs) = due) (hdl : (due.length : Int) ≤ cap)
    (B : Below (AX dp un gd ll) base ll g) (X : (hd.heap_39 w.params).In g) (T : Top hd.view_39 LS mean mg mb g) (hrd : ∀ p ∈ (D, listOf (refsT trs).toArray n) :: rowsT trs, g.get? p.1 = some p.2)
    (hdp : dp + 60 < recursionLimit) (hun : un + 10 * 60 < cLine) (hbare : AllBare s.gens)
    (F : Fr g L s.heap (fun y => if y = Str.ofString "buf" then some (.ref xb) else if y = Str.ofString "due" then some (.bytes due.toArray tdu) else if y = Str.ofString "newest" then some (.ref nw) else if y = Str.ofString "count" then some (.int (cn : Int) tcn) else if y = Str.ofString "kept" then some (.ref x) else
      if y = Str.ofString "rows" then some (.ref D) else if y = Str.ofString "delay" then some (.int delay td) else if y = Str.ofString "capacity" then some (.int cap tc) else if y = Str.ofString "lead" then some (.bytes lead.toArray tl) else m₀ y))
    (N : News g L s.heap (bufL w.params xb db ob (List.replicate ((lead.toArray.size : Int) + cap).toNat 0) 0 tb1 tb2 tb3 ++ (nw, listOf (refsT (trs.drop a0)).toArray 0) :: (x, instObj 329 d) :: (d, rsD w.params l tr) :: (l, listOf (refsOf rs).toArray nn) :: rowsL w.params rs))
    (ret : ∀ h' tk gens', AllBare gens' → Kept g h' → Q (.ret (.bool true)) ⟨h', gens', s.drawn, tk, s.os⟩) :
    wpN (model PG w) ((AX dp un gd ll).deeper (envAt (hd.heap_39 w.params) 387 L)) (execs ((bodyAt (hd.heap_39 w.params) 387).drop 8) (envAt (hd.heap_39 w.params) 387 L)) Q E s := by
  w_on
  obtain ⟨hb, he⟩ := at_of (K := hd.heap_39 w.params) (f := 387) (by k_is)
  rw [hb, he]
  clear hb he
  simp only [List.drop_succ_cons, List.drop_zero]
  dsimp only [bufL, List.cons_append, List.nil_append] at N
  obtain ⟨hp, gg, dd, tt, os⟩ := s
  dsimp only at F N hbare ret
  have hrl : rs.length = trs.length := by
    have := congrArg List.length hrs
    simpa using this
  have hxs1 : (pairsOf rs).reverse = (y0.a, y0.b) :: (pairsT (trs.take (trs.length - 1))).reverse := by rw [hrs]; exact htk
  have hcr : cntOf rs.length (mx (y0.b - 1) delay) cap = cn := by rw [hrl]; exact hcn.symm
  have hfe : fenc delay (((y0.a, y0.b) :: (pairsT (trs.take (trs.length - 1))).reverse).take cn) = due := by
    obtain ⟨c, rfl⟩ : ∃ c, cn = c + 1 := ⟨cn - 1, by omega⟩
    rw [← hdue, ← hxs]; rfl
  refine wpN_execs_cons (wpN_of ?_)
  repeat' (first | (with_reducible (((with_reducible show wpAny _ _ (call _ _) _ _ _); (k_here; (k_dflt (show wpAny _ _ (call (Value.ref 155) [Value.ref _, Value.bytes _ _]) _ _ _)); k_dflt (refine' ConE.call2 (Con.toE (push_lead ?hn_q ?hc_q ?hz_q)) ?kB_q ?kF_q ?kX_q ?kT_q ?kN_q ?kf_q ?kk_q ?kw_q ?ks_q ?kr_q ?kd_q ?ku_q ?_ ?_; walk_at "mine conF"; (case hn_q => rfl); (case hc_q => first | with_reducible assumption | omega); (case hz_q => (simp only [List.size_toArray]; omega)); walk_at "mine noerr"; (intro v'_q news'_q h'_q tk'_q hp'_q F'_q N'_q; obtain ⟨hv'_q, o'_q, t3'_q, old'_q, hol_q, hn'_q⟩ := hp'_q; subst hv'_q; subst hn'_q; dsimp only [bufL, List.cons_append, List.nil_append] at N'_q; (try k_sweep); (try dsimp only))))))) | walk_at "mine oneD")
  refine wpN_execs_cons (wpN_of ?_)
  repeat' (first | (with_reducible (((with_reducible show wpAny _ _ (binaryOp Operator.Add _ _) _ _ _); (k_here; (with_reducible show wpAny _ _ (binaryOp _ (Value.bytes (List.toArray _) _) (Value.bytes (List.toArray _) _)) _ _ _); (refine' add_bytesL ?hz_q ?_; (case hz_q => ((try simp only [List.length_append]); omega)); intro _ _; (try dsimp only)))))) | (with_reducible (((with_reducible show wpAny _ _ (call _ _) _ _ _); (k_here; (k_dflt (show wpAny _ _ (call (Value.ref 347) [Value.ref _, Value.ref _, Value.int _ _, Value.int _ _]) _ _ _)); k_dflt (refine' ConE.call2 (push_ack2 ?hxs_q ?hok_q ?hd0_q ?hd1_q ?hc0_q ?hc1_q ?hlen_q ?hz_q ?hcr_q ?hfe_q ?hfit_q) ?kB_q ?kF_q ?kX_q ?kT_q ?kN_q ?kf_q ?kk_q ?kw_q ?ks_q ?kr_q ?kd_q ?ku_q ?_ ?_; walk_at "mine conF"; (case hxs_q => assumption); (case hok_q => assumption); (case hd0_q => first | with_reducible assumption | omega); (case hd1_q => first | with_reducible assumption | omega); (case hc0_q => first | with_reducible assumption | omega); (case hc1_q => first | with_reducible assumption | omega); (case hlen_q => first | with_reducible assumption | omega); (case hz_q => first | with_reducible assumption | omega); (case hcr_q => assumption); (case hfe_q => assumption); (case hfit_q => first | with_reducible assumption | omega); walk_at "mine noerr"; (intro v'_q news'_q h'_q tk'_q hp'_q F'_q N'_q; obtain ⟨o'_q, t3'_q, t'_q, pre'_q, old'_q, hv'_q, hpre_q, hol_q, hn'_q⟩ := hp'_q; subst hv'_q; subst hn'_q; dsimp only [bufL, List.cons_append, List.nil_append] at N'_q; (try k_sweep); (try dsimp only))))))) | ((with_reducible show wpAny _ _ (call _ _) _ _ _); (k_here; (with_reducible show wpAny _ _ (call (Value.type "bytes") [Value.ref _]) _ _ _); (with_reducible rename News _ _ _ _ => N'_q); (refine' BA.bytes_of ?ba_q ?hz_q ?_; (case ba_q => exact led_ba N'_q (by k_mem)); (case hz_q => (simp only [List.size_toArray]; omega)); intro _ _; (try dsimp only)))) | ((with_reducible show wpAny _ _ (subscriptTail _ _ _ _) _ _ _); (k_here; (with_reducible show wpAny _ _ (subscriptTail _ (Expr.Slice none _ none _) (Value.ref _) (Value.ref _)) _ _ _); (with_reducible rename Fr _ _ _ _ => F'_q); (with_reducible rename News _ _ _ _ => N'_q); (refine' slice_pre (s := ⟨_, _, _, _, _⟩) F'_q N'_q ?ba_q ?hz_q ?_; (case ba_q => exact led_ba N'_q (by k_mem)); (case hz_q => first | with_reducible assumption | omega); intro h'_q x'_q F'_q N'_q l1_q; (try k_lt l1_q); (try k_sweep); (try dsimp only)))) | walk_at "mine oneD")
  · exact absurd rfl ‹¬ (cn : Int) = (cn : Int)›
  · exact absurd ‹_ = lead ++ due› (bne_iff_ne.mp ‹(_ != lead ++ due) = true›)
  refine wpN_execs_cons (wpN_of ?_)
  repeat' (first | (with_reducible (((with_reducible show wpAny _ _ (eval _ _) _ _ _); (k_here; (with_reducible show wpAny _ _ (eval (Expr.ListComp _ _ _ _) _) _ _ _); refine halt ?_)))) | walk_at "mine oneD")
  (with_reducible rename Fr g L _ _ => F1)
  (with_reducible rename News g L _ _ => N1)
  refine halt ?_
  refine' ListComp_gen (rs := rs) (xr := x) (dr := d) (lr := l) B F1 X T N1 rfl rfl ?h1 ?h2 ?h3 ?h4 ?hdp ?hun hbare ?hsz ?hclos ?hcell ?hkind ?hnames ?hx ?hiter ?helt ?k
  case h1 => k_mem
  case h2 => k_mem
  case h3 => k_mem
  case h4 => walk_at "mine sub"
  case hdp => walk_at "mine room"
  case hun => walk_at "mine room"
  case hsz => omega
  case hclos => rfl
  case hcell => decide
  case hkind => rfl
  case hnames => decide
  case hx => rfl
  case hiter =>
    intro E' Q' hq
    repeat' walk_at "mine oneD"
    exact hq _
  case helt =>
    intro s' C oC m₂ y rest Q' E' hoC hm2 F2 N2 hk
    repeat' walk_at "mine oneD"
    refine hk _ _ _ (by assumption) (by assumption) fun p hp => ?_
    have l1 := ‹C < _ ∧ _›
    rcases List.mem_cons.mp hp with rfl | hp
    · exact Nat.ne_of_lt l1.1
    · exact Nat.ne_of_lt (allLt_mem l1.2.2.2 p hp)
  case k =>
    intro D1 ys tups h1 tk1 gens1 F2 N2 hda hb2
    repeat' (first | (with_reducible (((with_reducible show wpAny _ _ (compareOp _ _ _) _ _ _); (k_here; (with_reducible show wpAny _ _ (compareOp _ (Value.ref _) (Value.ref _)) _ _ _); refine halt ?_)))) | walk_at "mine oneD")
    refine halt ?_
    refine rows_ne (p1 := pairsOf rs) (p2 := pairsT trs) (N2 _ (.head _)).1 (fun p hp => (N2 p (.tail _ (List.mem_append_left _ hp))).1) hda (F2.keep _ _ (hrd _ (.head _))) (fun p hp => F2.keep _ _ (hrd _ (.tail _ hp))) (datT trs) ?_ hrs ?_
    · walk_at "mine room"
    have N3 : News g L h1 [(nw, listOf (refsT (trs.drop a0)).toArray 0)] := news_sub N2 fun p hp => by
      rw [List.mem_singleton.mp hp]; simp
    have F3 := fr_pick (x := Str.ofString "due") (v := .bytes due.toArray tdu) (fr_pick (x := Str.ofString "newest") (v := .ref nw) (fr_pick (x := Str.ofString "delay") (v := .int delay td) (fr_pick (x := Str.ofString "lead") (v := .bytes lead.toArray tl) F2 rfl) rfl) rfl) rfl
    clear N2 N1 F1 hda F2
    repeat' walk_at "mine oneD"
    have hK : Kept g h1 := Kept.of_fr F3
    have hok : OkR ((y0.a, y0.b) :: xs) := by
      have := okR_take _ cn hokA
      obtain ⟨c, rfl⟩ : ∃ c, cn = c + 1 := ⟨cn - 1, by omega⟩
      rw [← hxs]
      exact this
    have hnl : (trs.drop a0).length ≤ 30 := by rw [List.length_drop]; omega
    have done := pushed_tail2 (nws := trs.drop a0) (E := E) (s := ⟨h1, gens1, dd, tk1, os⟩) hd0 hd1 hnl hld hok hrev hdue (by omega) B X T (fun p hp => hrd _ (.tail _ (rowsT_drop p hp))) hdp hun hb2 F3 N3 ret
    obtain ⟨hb, he⟩ := at_of (K := hd.heap_39 w.params) (f := 387) (by k_is)
    rw [hb, he] at done
    simp only [List.drop_succ_cons, List.drop_zero] at done
    exact done
end Mine
end
section
open PySem PySem.W PyProof.Rows PySem.Calls
set_option maxRecDepth 100000
set_option maxHeartbeats 1000000
namespace Mine
theorem rs0 {P : Params} {g h : Heap} {L l x d : Addr} {t : Tok} (N : News g L h [(l, listOf #[] 0), (x, instObj 329 d), (d, rsD P l t)]) : ∃ x' d' l' t', x' = x ∧ d' = d ∧ l' = l ∧ t' = t ∧ News g L h (rsL P x' d' l' [] 0 t' ++ rowsL P []) := by
  refine ⟨x, d, l, t, rfl, rfl, rfl, rfl, news_sub N fun p hp => ?_⟩
  simp only [rowsL, List.flatMap_nil, List.append_nil, List.mem_cons, List.not_mem_nil, or_false] at hp
  rcases hp with rfl | rfl | rfl
  · exact .tail _ (.head _)
  · exact .tail _ (.tail _ (.head _))
  · exact .head _
theorem rowsL_snoc {P : Params} {rs : List RG} {y : RG} : rowsL P (rs ++ [y]) = rowsL P rs ++ rgL P y := by simp [rowsL]
theorem add_fin {P : Params} {g h : Heap} {L I x d l : Addr} {it : Obj} {t : Tok} {n : Nat} {rs rs' : List RG} {y : RG} {its : Array Value} {all : List (Addr × Obj)} (N : News g L h all) (hI : (I, it) ∈ all) (h1 : (x, instObj 329 d) ∈ all) (h2 : (d, rsD P l t) ∈ all) (h3 : (l, listOf its n) ∈ all) (he : its = (refsOf rs').toArray)
    (h4 : (y.r, instObj 235 y.d) ∈ all) (h5 : (y.d, rngD P y.a y.b y.t1 y.t2 y.ta y.tb) ∈ all) (ht : ∀ p ∈ rowsL P rs, p ∈ all) (hr : rs' = rs ++ [y] ∨ rs' = y :: rs) : News g L h ([(I, it)] ++ (rsL P x d l rs' n t ++ rowsL P rs')) := by
  subst he
  refine news_sub N fun p hp => ?_
  have hsub : ∀ p ∈ rowsL P rs', p ∈ all := fun p hp => by
    have : p ∈ rowsL P rs ∨ p ∈ rgL P y := by
      rcases hr with rfl | rfl
      · rw [rowsL_snoc] at hp; exact List.mem_append.mp hp
      · rw [rowsL_cons] at hp; exact (List.mem_append.mp hp).symm
    rcases this with h | h
    · exact ht p h
    · simp only [List.mem_cons, List.not_mem_nil, or_false] at h
      rcases h with rfl | rfl
      · exact h4
      · exact h5
  simp only [List.mem_cons, List.mem_append, List.not_mem_nil, or_false] at hp
  rcases hp with rfl | (rfl | rfl | rfl) | hp
  · exact hI
  · exact h1
  · exact h2
  · exact h3
  · exact hsub p hp
theorem range_up (n : Nat) : Builtin.Range.rangeSize 0 (n : Int) 1 = (n : Int) := by
  unfold Builtin.Range.rangeSize
  rw [if_pos (by decide)]
  split
  · rw [Int.ediv_one]; omega
  · omega
theorem shl_vidx {prog : Program} {w : World} {A : Around} {E : Value → Shared → Prop} {s : Shared} {Q : Value → Shared → Prop} {v f : Int} {t u : Tok} (hf : ((2 ^ vidx v : Nat) : Int) = f) (h : Q (.int f s.toks) { s with toks := s.toks + 1 }) :
    wpAny (model prog w) A (binaryOp .LShift (.int 1 t) (.int ((vidx v : Nat) : Int) u)) Q E s := by
  have hv : vidx v ≤ 3 := by rcases vidx_cases v with ⟨_, e⟩ | ⟨_, _, e⟩ | ⟨_, _, _, e⟩ | ⟨_, _, _, e⟩ <;> rw [e] <;> decide
  refine shl_to f ?_ (by omega) (by omega) (by decide) h
  rw [← hf, Int.toNat_natCast, Int.one_mul, Int.natCast_pow]
  rfl
/-- from `newest =` on -/
theorem pushed_new {w : World} {mean : ExcName → Option Value} {mg mb : Str → Option Value} {D : Addr} {trs : List TR} {n : Nat} {delay cap : Int} {lead : List UInt8} {td tc tl : Tok} {y0 : TR} {rs : List RG} {nn : Nat}
    {dp un : Nat} {gd : Option (List Code)} {ll : List Env} {base g : Heap} {s : Shared} {L x d l : Addr} {tr : Tok} {m₀ : Str → Option Value} {Q : Flow → Shared → Prop} {E : Value → Shared → Prop} {f : Int} {cn : Nat} {tcn : Tok}
    (hasc : Asc (pairsT trs)) (hbd : ∀ q ∈ pairsT trs, 0 ≤ q.1 ∧ q.2 ≤ 4611686018427387904) (hd0 : 0 ≤ delay) (hd1 : delay < 4611686018427387904) (hc0 : 32 ≤ cap) (hc1 : cap ≤ 500) (hlen : trs.length ≤ 30) (hld : lead.length ≤ 2) (hrs' : pairsOf rs = pairsT trs) (htk : (pairsT trs).reverse = (y0.a, y0.b) :: (pairsT (trs.take (trs.length - 1))).reverse) (hf : ((2 ^ vidx (mx (y0.b - 1) delay) : Nat) : Int) = f) (hf18 : 1 ≤ f ∧ f ≤ 8)
    (hcn : cn = cntOf trs.length (mx (y0.b - 1) delay) cap) (hcn1 : 1 ≤ cn) (hcn2 : cn ≤ trs.length) (hcn3 : cn = 1 ∨ 2 * ((cn : Int) + 1) * f ≤ cap)
    (B : Below (AX dp un gd ll) base ll g) (X : (hd.heap_39 w.params).In g) (T : Top hd.view_39 LS mean mg mb g) (hrd : ∀ p ∈ (D, listOf (refsT trs).toArray n) :: rowsT trs, g.get? p.1 = some p.2)
    (hdp : dp + 60 < recursionLimit) (hun : un + 10 * 60 < cLine) (hbare : AllBare s.gens)
    (F : Fr g L s.heap (fun y => if y = Str.ofString "count" then some (.int (cn : Int) tcn) else if y = Str.ofString "kept" then some (.ref x) else if y = Str.ofString "rows" then some (.ref D) else if y = Str.ofString "delay" then some (.int delay td) else if y = Str.ofString "capacity" then some (.int cap tc) else if y = Str.ofString "lead" then some (.bytes lead.toArray tl) else m₀ y))
    (N : News g L s.heap (rsL w.params x d l rs nn tr ++ rowsL w.params rs))
    (ret : ∀ h' tk gens', AllBare gens' → Kept g h' → Q (.ret (.bool true)) ⟨h', gens', s.drawn, tk, s.os⟩) :
    wpN (model PG w) ((AX dp un gd ll).deeper (envAt (hd.heap_39 w.params) 387 L)) (execs ((bodyAt (hd.heap_39 w.params) 387).drop 5) (envAt (hd.heap_39 w.params) 387 L)) Q E s := by
  w_on
  obtain ⟨hb, he⟩ := at_of (K := hd.heap_39 w.params) (f := 387) (by k_is)
  rw [hb, he]
  simp only [List.drop_succ_cons, List.drop_zero]
  have hd8 := congrArg (List.drop 8) hb
  simp only [List.drop_succ_cons, List.drop_zero] at hd8
  clear hb
  dsimp only [rsL, List.cons_append, List.nil_append] at N
  have hgl : g.IsList D (refsT trs).toArray := ⟨_, hrd _ (.head _), rfl, _, rfl⟩
  obtain ⟨hp, gg, dd, tt, os⟩ := s
  dsimp only at F N hbare ret
  have hrev := newest_rev htk hcn1 hcn2
  have hbdr : ∀ q ∈ pairsT trs, 0 ≤ q.1 ∧ q.2 ≤ 4611686018427387904 := hbd
  have hokA : OkR ((y0.a, y0.b) :: (pairsT (trs.take (trs.length - 1))).reverse) := htk ▸ okR_reverse _ hasc hbd
  have hokN : OkR ((y0.a, y0.b) :: ((pairsT (trs.take (trs.length - 1))).reverse.take (cn - 1))) := by
    have := okR_take _ cn hokA
    obtain ⟨c, rfl⟩ : ∃ c, cn = c + 1 := ⟨cn - 1, by omega⟩
    exact this
  have hxl : ((pairsT (trs.take (trs.length - 1))).reverse.take (cn - 1)).length = cn - 1 := by
    rw [List.length_take, List.length_reverse, List.length_map, List.length_take]; omega
  have hdl : ((fenc delay ((y0.a, y0.b) :: ((pairsT (trs.take (trs.length - 1))).reverse.take (cn - 1)))).length : Int) ≤ cap := by
    have h1 := fenc_len (delay := delay) hokN (by omega)
    rw [hxl] at h1
    have h2 : ((2 * (cn - 1 + 2) * 2 ^ vidx (mx (y0.b - 1) delay) : Nat) : Int) = 2 * ((cn : Int) + 1) * f := by
      rw [← hf, Int.natCast_mul, Int.natCast_mul]
      congr 2
      omega
    have h3 : 2 * ((cn : Int) + 1) * f ≤ cap := by
      rcases hcn3 with e | e
      · rw [e]; omega
      · exact e
    omega
  generalize hxs : (pairsT (trs.take (trs.length - 1))).reverse.take (cn - 1) = xs at hrev hokN hdl
  have hlo : (trs.length : Int) - (cn : Int) = ((trs.length - cn : Nat) : Int) := by omega
  have hgr : ∀ p ∈ rowsT (trs.drop (trs.length - cn)), g.get? p.1 = some p.2 := fun p hp => hrd _ (.tail _ (rowsT_drop p hp))
  generalize trs.length - cn = a0 at hlo hgr hrev
  have ha0 : a0 ≤ trs.length := by omega
  refine wpN_execs_cons (wpN_of ?_)
  repeat' (first | (with_reducible (((with_reducible show wpAny _ _ (call _ _) _ _ _); (k_here; (with_reducible show wpAny _ _ (call (Value.builtin "len") [Value.ref _]) _ _ _); (refine' lenTB ?F_q ?hl_q ?hz_q ?_; (case F_q => k_asm); (case hl_q => assumption); (case hz_q => first | with_reducible assumption | omega); intro _ _; (try dsimp only)))))) | (with_reducible (((with_reducible show wpAny _ _ (subscriptTail _ _ _ _) _ _ _); (k_here; (with_reducible show wpAny _ _ (subscriptTail _ (Expr.Slice _ none none _) (Value.ref _) (Value.ref _)) _ _ _); (with_reducible rename Fr _ _ _ _ => F'_q); (with_reducible rename News _ _ _ _ => N'_q); (refine' list_slice_N (s := ⟨_, _, _, _, _⟩) F'_q N'_q ?hl_q ?lo_q ?ha_q ?hz_q ?_; (case hl_q => with_reducible assumption); (case lo_q => with_reducible assumption); (case ha_q => first | with_reducible assumption | omega); (case hz_q => first | with_reducible assumption | omega); intro h'_q x'_q F'_q N'_q l1_q; (try k_lt l1_q); (try k_sweep); (try dsimp only)))))) | walk_at "mine oneD")
  refine wpN_execs_cons (wpN_of ?_)
  repeat' (first | (with_reducible (((with_reducible show wpAny _ _ (call _ _) _ _ _); (k_here; (k_dflt (show wpAny _ _ (call (Value.ref 382) [Value.ref _, Value.int _ _]) _ _ _)); k_dflt (refine' ConE.callT (law_frame (trs := List.drop _ _) ?hxs_q ?hok_q ?hd0_q ?hd1_q ?hlen_q ?hfit_q) ?kB_q ?kF_q ?kX_q ?kT_q ?kN_q ?kf_q ?kk_q ?kr_q ?kd_q ?ku_q ?_; (case kB_q => assumption); (case kF_q => k_asm); (case kX_q => assumption); (case kT_q => assumption); (case kN_q => k_asm); (case kf_q => exact rfl); (case kk_q => exact rfl); (case kr_q => (refine List.forall_mem_cons.mpr ⟨Or.inl ?_, fun p hp => Or.inr ?_⟩; (· k_mem); (· exact (by assumption : ∀ p ∈ rowsT (List.drop _ _), Heap.get? _ p.1 = some p.2) p hp))); (case kd_q => walk_at "mine room"); (case ku_q => walk_at "mine room"); (case hxs_q => assumption); (case hok_q => assumption); (case hd0_q => assumption); (case hd1_q => assumption); (case hlen_q => (rw [List.length_drop]; omega)); (case hfit_q => first | with_reducible assumption | omega); (intro t'_q h'_q tk'_q F'_q N'_q; (try k_sweep); (try dsimp only))))))) | walk_at "mine oneD")
  generalize hdue : fenc delay ((y0.a, y0.b) :: xs) = due at *
  refine wpN_execs_cons (wpN_Assign (wpN_Call ?_))
  repeat' walk_at "mine oneD"
  refine callWithN_KW0 (K := hd.heap_39 w.params) (by k_is) rfl ?_
  repeat' walk_at "mine oneD"
  refine' ConN.call (buffer_cap ?h0 ?hn) ?kB ?kF ?kX ?kT ?kN ?kf ?kk ?kw ?ks ?kr ?kb ?kd ?ku ?_
  (case kB => assumption); (case kF => k_asm); (case kX => assumption); (case kT => assumption); (case kN => k_asm); (case kf => exact rfl); (case kk => exact rfl); (case kw => walk_at "mine wr"); (case ks => walk_at "mine split2")
  (case kr => exact List.forall_mem_nil _); (case kb => exact hbare); (case kd => walk_at "mine room"); (case ku => walk_at "mine room"); (case h0 => (simp only [List.size_toArray]; omega)); (case hn => (simp only [List.size_toArray]; omega))
  rintro vb newsb hb2 tkb gensb ⟨xb, db, ob, tb1, tb2, tb3, rfl, rfl⟩ hbare2 F3 N3
  dsimp only [bufL, List.cons_append, List.nil_append] at N3
  repeat' walk_at "mine oneD"
  (with_reducible rename Fr g _ _ _ => F4)
  (with_reducible rename News g _ _ _ => N4)
  rw [← he, ← hd8]
  exact pushed_tail hd0 hd1 hc0 hc1 hlen hld hokA htk hrs' hcn hcn1 hxs hrev hdue hdl B X T hrd hdp hun hbare2 (fr_eq (mp_cons (mp_cons (mp_cons (mp_cons (mp_cons (mp_cons (mp_cons (mp_cons (mp_cons rfl rfl) rfl) rfl) rfl) rfl) rfl) rfl) rfl) rfl) F4) N4 fun h' tk gens' hb hK => ret _ _ _ hb hK
inductive CK (D x : Addr) (td tc tl : Tok) (delay cap : Int) (lead : List UInt8) (nx0 : List (Addr × Obj)) (len : Nat) (f cap' : Int) (cn : Nat) (m : Str → Option Value) (nx : List (Addr × Obj)) : Prop
  | mk (tcn : Tok) (h0 : m (Str.ofString "count") = some (.int (cn : Int) tcn)) (hn : nx = nx0) (h1 : m (Str.ofString "kept") = some (.ref x)) (h2 : m (Str.ofString "rows") = some (.ref D)) (h3 : m (Str.ofString "delay") = some (.int delay td)) (h4 : m (Str.ofString "capacity") = some (.int cap tc)) (h5 : m (Str.ofString "lead") = some (.bytes lead.toArray tl))
      (hk1 : 1 ≤ cn) (hk2 : cn ≤ len) (hk3 : cn = 1 ∨ 2 * ((cn : Int) + 1) * f ≤ cap') : CK D x td tc tl delay cap lead nx0 len f cap' cn m nx
inductive CJ (D x : Addr) (td tc tl : Tok) (delay cap : Int) (lead : List UInt8) (nx0 : List (Addr × Obj)) (len : Nat) (f : Int) (n : Nat) (m : Str → Option Value) (nx : List (Addr × Obj)) : Prop
  | mk (c : Nat) (tcn tf : Tok) (h0 : m (Str.ofString "count") = some (.int (c : Int) tcn)) (hn : nx = nx0) (h1 : m (Str.ofString "kept") = some (.ref x)) (h2 : m (Str.ofString "rows") = some (.ref D)) (h3 : m (Str.ofString "delay") = some (.int delay td)) (h4 : m (Str.ofString "capacity") = some (.int cap tc)) (h5 : m (Str.ofString "lead") = some (.bytes lead.toArray tl)) (h6 : m (Str.ofString "field") = some (.int f tf))
      (hk1 : 1 ≤ c) (hk2 : c ≤ len) (hk3 : c = 1 ∨ 2 * ((c : Int) + 1) * f ≤ cap) (hk : n = len - c) : CJ D x td tc tl delay cap lead nx0 len f n m nx
/-- from `field =` on -/
theorem pushed_mid {w : World} {mean : ExcName → Option Value} {mg mb : Str → Option Value} {D : Addr} {trs : List TR} {n : Nat} {delay cap : Int} {lead : List UInt8} {td tc tl : Tok} {rs : List RG} {nn : Nat}
    {dp un : Nat} {gd : Option (List Code)} {ll : List Env} {base g : Heap} {s : Shared} {L x d l : Addr} {tr : Tok} {m₀ : Str → Option Value} {Q : Flow → Shared → Prop}
    (hne0 : 0 < trs.length) (hasc : Asc (pairsT trs)) (hbd : ∀ q ∈ pairsT trs, 0 ≤ q.1 ∧ q.2 ≤ 4611686018427387904) (hd0 : 0 ≤ delay) (hd1 : delay < 4611686018427387904) (hc0 : 32 ≤ cap) (hc1 : cap ≤ 500) (hlen : trs.length ≤ 30) (hld : lead.length ≤ 2) (hrs' : pairsOf rs = pairsT trs)
    (B : Below (AX dp un gd ll) base ll g) (X : (hd.heap_39 w.params).In g) (T : Top hd.view_39 LS mean mg mb g) (hrd : ∀ p ∈ (D, listOf (refsT trs).toArray n) :: rowsT trs, g.get? p.1 = some p.2)
    (hdp : dp + 60 < recursionLimit) (hun : un + 10 * 60 < cLine) (hbare : AllBare s.gens)
    (F : Fr g L s.heap (fun y => if y = Str.ofString "kept" then some (.ref x) else if y = Str.ofString "rows" then some (.ref D) else if y = Str.ofString "delay" then some (.int delay td) else if y = Str.ofString "capacity" then some (.int cap tc) else if y = Str.ofString "lead" then some (.bytes lead.toArray tl) else m₀ y))
    (N : News g L s.heap (rsL w.params x d l rs nn tr ++ rowsL w.params rs))
    (ret : ∀ h' tk gens', AllBare gens' → Kept g h' → Q (.ret (.bool true)) ⟨h', gens', s.drawn, tk, s.os⟩) :
    wpN (model PG w) ((AX dp un gd ll).deeper (envAt (hd.heap_39 w.params) 387 L)) (execs ((bodyAt (hd.heap_39 w.params) 387).drop 2) (envAt (hd.heap_39 w.params) 387 L)) Q (fun _ _ => False) s := by
  w_on
  obtain ⟨hb, he⟩ := at_of (K := hd.heap_39 w.params) (f := 387) (by k_is)
  rw [hb, he]
  have hd5 := congrArg (List.drop 5) hb
  simp only [List.drop_succ_cons, List.drop_zero] at hd5 ⊢
  clear hb
  have hgl : g.IsList D (refsT trs).toArray := ⟨_, hrd _ (.head _), rfl, _, rfl⟩
  have hgt : ∀ y ∈ trs, g.get? y.t = some (tupO [.int y.a y.ta, .int y.b y.tb]) := fun y hy => hrd _ (.tail _ (mem_rowsT hy))
  dsimp only [rsL, List.cons_append, List.nil_append] at N
  obtain ⟨hp, gg, dd, tt, os⟩ := s
  dsimp only at F N hbare ret
  obtain ⟨y0, hy0, hym, htk⟩ := takeT_last hne0 (Nat.le_refl _)
  rw [List.take_of_length_le (Nat.le_refl _)] at htk
  have hgy0 := hgt y0 hym
  have hb0 := hbd (y0.a, y0.b) (List.mem_map.mpr ⟨y0, hym, rfl⟩)
  dsimp only at hb0
  obtain ⟨hb0, hb1⟩ := hb0
  have hab0 : y0.a < y0.b := asc_get hasc (i := trs.length - 1) (q := (y0.a, y0.b)) (by rw [List.getElem?_map, hy0]; rfl)
  obtain ⟨f, hf⟩ : ∃ f, ((2 ^ vidx (mx (y0.b - 1) delay) : Nat) : Int) = f := ⟨_, rfl⟩
  have hfs : f = 1 ∨ f = 2 ∨ f = 4 ∨ f = 8 := by
    rw [← hf]
    rcases vidx_cases (mx (y0.b - 1) delay) with ⟨_, e⟩ | ⟨_, _, e⟩ | ⟨_, _, _, e⟩ | ⟨_, _, _, e⟩ <;> rw [e] <;> decide
  have hf18 : 1 ≤ f ∧ f ≤ 8 := by omega
  obtain ⟨cn, hcn⟩ : ∃ cn, cn = cntOf trs.length (mx (y0.b - 1) delay) cap := ⟨_, rfl⟩
  refine wpN_execs_cons (wpN_of ?_)
  repeat' (first | (with_reducible (((with_reducible show wpAny _ _ (binaryOp Operator.LShift _ _) _ _ _); (k_here; (with_reducible show wpAny _ _ (binaryOp _ (Value.int 1 _) (Value.int ((vidx _ : Nat) : Int) _)) _ _ _); (refine' shl_vidx ?hf_q ?_; (case hf_q => assumption)))))) | (with_reducible (((with_reducible show wpAny _ _ (call _ _) _ _ _); (k_here; (k_dflt (show wpAny _ _ (call (Value.ref 361) [Value.int _ _]) _ _ _)); k_dflt (refine' ConE.callT (Con.toE (law_index ?h0_q ?h1_q)) ?kB_q ?kF_q ?kX_q ?kT_q ?kN_q ?kf_q ?kk_q ?kr_q ?kd_q ?ku_q ?_; (case kB_q => assumption); (case kF_q => k_asm); (case kX_q => assumption); (case kT_q => assumption); (case kN_q => k_asm); (case kf_q => exact rfl); (case kk_q => exact rfl); (case kr_q => exact fun p hp => nomatch hp); (case kd_q => walk_at "mine room"); (case ku_q => walk_at "mine room"); (case h0_q => first | with_reducible assumption | omega); (case h1_q => first | with_reducible assumption | omega); (intro t'_q h'_q tk'_q F'_q N'_q; (try k_sweep); (try dsimp only))))))) | (with_reducible (((with_reducible show wpAny _ _ (subscriptTail _ _ _ _) _ _ _); (k_here; (with_reducible show wpAny _ _ (subscriptTail _ _ (Value.ref _) (Value.int 1 _)) _ _ _); (refine' tupB1 ?F_q ?ht_q ?_; (case F_q => k_asm); (case ht_q => with_reducible assumption); k_whole))))) | (with_reducible (((with_reducible show wpAny _ _ (subscriptTail _ _ _ _) _ _ _); (k_here; (with_reducible show wpAny _ _ (subscriptTail _ _ (Value.ref _) (Value.int (-1) _)) _ _ _); (refine' itemTB_last ?F_q ?hl_q ?hi_q ?h1_q ?hy_q ?_; (case F_q => k_asm); (case hl_q => with_reducible assumption); (case hi_q => rfl); (case h1_q => first | with_reducible assumption | omega); (case hy_q => with_reducible assumption); k_whole))))) | walk_at "mine oneD")
  refine wpN_execs_cons (wpN_of ?_)
  repeat' walk_at "mine oneD"
  refine wpN_execs_cons (wpN_of ?_)
  repeat' (first | (with_reducible (((with_reducible show wpAny _ _ (exec _ _) _ _ _); (k_here; (with_reducible show wpAny _ _ (exec (Stmt.While _ _ _ _) _) _ _ _); refine halt ?_)))) | walk_at "mine oneD")
  (with_reducible rename Fr _ _ _ _ => F1)
  (with_reducible rename News _ _ _ _ => N1)
  refine halt ?_
  refine exec_join F1 (CK D x td tc tl delay cap lead (rsL w.params x d l rs nn tr ++ rowsL w.params rs) trs.length f cap cn) ?_ ?_
  · refine While_inv2 (CJ D x td tc tl delay cap lead (rsL w.params x d l rs nn tr ++ rowsL w.params rs) trs.length f) F1 N1 (n₀ := trs.length - 1) ?h0 ?turn
    case h0 => exact .mk 1 _ _ rfl rfl rfl rfl rfl rfl rfl rfl (Nat.le_refl _) hne0 (.inl rfl) rfl
    case turn =>
      intro n₁ m₁ news₁ h₁ tk₁ F2 N2 hJ
      obtain ⟨c, tcn, tf, h0, rfl, h1, h2, h3, h4, h5, h6, hc1', hc2', hc3', hn1⟩ := hJ
      have F3 : Fr g L _ _ := fr_eq (mp_cons (mp_cons (mp_cons (mp_cons (mp_cons (mp_cons (mp_cons rfl h6) h5) h4) h3) h2) h1) h0) F2
      clear F1 N1 F2 h0 h1 h2 h3 h4 h5 h6
      dsimp only [rsL, List.cons_append, List.nil_append] at N2
      have hcase : ((c : Int) < trs.length ∧ 2 * ((c : Int) + 2) * f ≤ cap) ∨ ((c : Int) < trs.length ∧ ¬ 2 * ((c : Int) + 2) * f ≤ cap) ∨ ¬ (c : Int) < trs.length := by
        rcases Int.lt_or_le (c : Int) trs.length with q | q
        · exact (Decidable.em (2 * ((c : Int) + 2) * f ≤ cap)).elim (fun z => .inl ⟨q, z⟩) fun z => .inr (.inl ⟨q, z⟩)
        · exact .inr (.inr (Int.not_lt.mpr q))
      rcases hcase with ⟨q1, q2⟩ | ⟨q1, q2⟩ | q1
      · repeat' (first | (with_reducible (((with_reducible show wpAny _ _ (binaryOp Operator.Mult _ _) _ _ _); (k_here; (with_reducible show wpAny _ _ (binaryOp _ (Value.int _ _) (Value.int _ _)) _ _ _); (refine' mul_b ?h1_q ?h2_q ?_; (case h1_q => first | with_reducible assumption | omega); (case h2_q => first | with_reducible assumption | omega)))))) | (with_reducible (((with_reducible show wpAny _ _ (call _ _) _ _ _); (k_here; (with_reducible show wpAny _ _ (call (Value.builtin "len") [Value.ref _]) _ _ _); (refine' lenTB ?F_q ?hl_q ?hz_q ?_; (case F_q => k_asm); (case hl_q => assumption); (case hz_q => first | with_reducible assumption | omega); intro _ _; (try dsimp only)))))) | walk_at "mine oneD")
        (with_reducible rename Fr g _ _ _ => F3)
        (with_reducible rename News g _ _ _ => N3)
        have e1 : (c : Int) + 1 = ((c + 1 : Nat) : Int) := rfl
        refine WhileStep2.go F3 N3 ?_ (.mk (c + 1) _ _ ((if_pos rfl).trans (congrArg (fun z => some (Value.int z _)) e1)) rfl rfl rfl rfl rfl rfl rfl (Nat.le_add_left _ _) (by omega) (.inr ?_) rfl)
        · omega
        · rw [show ((c + 1 : Nat) : Int) + 1 = (c : Int) + 2 from by omega]; exact q2
      · repeat' (first | (with_reducible (((with_reducible show wpAny _ _ (binaryOp Operator.Mult _ _) _ _ _); (k_here; (with_reducible show wpAny _ _ (binaryOp _ (Value.int _ _) (Value.int _ _)) _ _ _); (refine' mul_b ?h1_q ?h2_q ?_; (case h1_q => first | with_reducible assumption | omega); (case h2_q => first | with_reducible assumption | omega)))))) | (with_reducible (((with_reducible show wpAny _ _ (call _ _) _ _ _); (k_here; (with_reducible show wpAny _ _ (call (Value.builtin "len") [Value.ref _]) _ _ _); (refine' lenTB ?F_q ?hl_q ?hz_q ?_; (case F_q => k_asm); (case hl_q => assumption); (case hz_q => first | with_reducible assumption | omega); intro _ _; (try dsimp only)))))) | walk_at "mine oneD")
        (with_reducible rename Fr g _ _ _ => F3)
        (with_reducible rename News g _ _ _ => N3)
        have e1 : cn = c := hcn.trans (cnt_eq hf hc0 hc1' hc2' hc3' fun z => q2 z.2)
        subst e1
        exact JoinPost.intro F3 N3 (.mk _ rfl rfl rfl rfl rfl rfl rfl hc1' hc2' hc3')
      · repeat' (first | (with_reducible (((with_reducible show wpAny _ _ (call _ _) _ _ _); (k_here; (with_reducible show wpAny _ _ (call (Value.builtin "len") [Value.ref _]) _ _ _); (refine' lenTB ?F_q ?hl_q ?hz_q ?_; (case F_q => k_asm); (case hl_q => assumption); (case hz_q => first | with_reducible assumption | omega); intro _ _; (try dsimp only)))))) | walk_at "mine oneD")
        (with_reducible rename Fr g _ _ _ => F3)
        (with_reducible rename News g _ _ _ => N3)
        have e1 : cn = c := hcn.trans (cnt_eq hf hc0 hc1' hc2' hc3' fun z => q1 z.1)
        subst e1
        exact JoinPost.intro F3 N3 (.mk _ rfl rfl rfl rfl rfl rfl rfl hc1' hc2' hc3')
  · intro h' tk m₁ news₁ F2 N2 hJ
    obtain ⟨tcn, h0, rfl, h1, h2, h3, h4, h5, hk1, hk2, hk3⟩ := hJ
    dsimp only
    rw [← he, ← hd5]
    exact pushed_new hasc hbd hd0 hd1 hc0 hc1 hlen hld hrs' htk hf hf18 hcn hk1 hk2 hk3 B X T hrd hdp hun hbare (fr_eq (mp_cons (mp_cons (mp_cons (mp_cons (mp_cons (mp_cons rfl h5) h4) h3) h2) h1) h0) F2) N2 ret
inductive KJ (P : Params) (D x d l : Addr) (td tc tl : Tok) (delay cap : Int) (lead : List UInt8) (turned : Bool) (trs : List TR) (i : Nat) (m : Str → Option Value) (nx : List (Addr × Obj)) : Prop
  | mk (rs : List RG) (nn : Nat) (tr : Tok) (hn : nx = rsL P x d l rs nn tr ++ rowsL P rs) (h1 : m (Str.ofString "kept") = some (.ref x)) (h2 : m (Str.ofString "rows") = some (.ref D)) (h3 : m (Str.ofString "delay") = some (.int delay td)) (h4 : m (Str.ofString "capacity") = some (.int cap tc)) (h5 : m (Str.ofString "lead") = some (.bytes lead.toArray tl)) (h6 : m (Str.ofString "turned") = some (.bool turned))
      (hl : rs.length = i) (hp : pairsOf rs = if turned = true then (pairsT trs).drop (trs.length - i) else (pairsT trs).take i) : KJ P D x d l td tc tl delay cap lead turned trs i m nx
theorem law_pushed {w : World} {mean : ExcName → Option Value} {mg mb : Str → Option Value} {D : Addr} {trs : List TR} {n : Nat} {turned : Bool} {delay cap : Int} {lead : List UInt8} {td tc tl : Tok} (hne : trs ≠ []) (hasc : Asc (pairsT trs)) (hbd : ∀ q ∈ pairsT trs, 0 ≤ q.1 ∧ q.2 ≤ 4611686018427387904)
    (hd0 : 0 ≤ delay) (hd1 : delay < 4611686018427387904) (hc0 : 32 ≤ cap) (hc1 : cap ≤ 500) (hlen : trs.length ≤ 30) (hld : lead.length ≤ 2) :
    ConN w mean mg mb 60 387 [.ref D, .bool turned, .int delay td, .int cap tc, .bytes lead.toArray tl] [] ((D, listOf (refsT trs).toArray n) :: rowsT trs) [] (fun r news' => r = .bool true ∧ news' = []) := by
  intro dp un gd ll base g s R B X T Kp N hrd hbare hdp hun ret
  w_on
  have hgl : g.IsList D (refsT trs).toArray := ⟨_, hrd _ (.head _), rfl, _, rfl⟩
  have hgt : ∀ y ∈ trs, g.get? y.t = some (tupO [.int y.a y.ta, .int y.b y.tb]) := fun y hy => hrd _ (.tail _ (mem_rowsT hy))
  walk_at "mine enterN"
  refine wpN_execs_cons (wpN_of ?_)
  repeat' (first | (with_reducible (((with_reducible show wpAny _ _ (exec (Stmt.For _ _ _ _ _) _) _ _ _); (k_here; (rename Fr _ _ _ _ => lF'_q); (with_unfolding_all refine' For_turns lF'_q ?_; k_whole))))) | (with_reducible (((with_reducible show wpAny _ _ (pyIter _) _ _ _); (k_here; (with_reducible show wpAny _ _ (pyIter (Value.ref _)) (fun it s₂ => TurnsAt _ _ _ _ _ _ _ _ _ it s₂) _ _); k_dflt (refine' iter_nil ?h_q ?F_q ?N_q ?X_q ?e_q ?_; (case h_q => exact rfl); (case F_q => k_asm); (case N_q => k_asm); (case X_q => k_asm); (case e_q => k_is); intro h'_q tk'_q F'_q N'_q; (try k_sweep); (try dsimp only)))))) | walk_at "mine oneD")
  refine wpN_execs_cons (wpN_of ?_)
  repeat' (first | (with_reducible (((with_reducible show wpAny _ _ (exec (Stmt.For _ _ _ _ _) _) _ _ _); (k_here; (rename Fr _ _ _ _ => lF'_q); (with_unfolding_all refine' For_turns lF'_q ?_; k_whole))))) | (with_reducible (((with_reducible show wpAny _ _ (call _ _) _ _ _); (k_here; (with_reducible show wpAny _ _ (call (Value.builtin "len") [Value.ref _]) _ _ _); (refine' lenTB ?F_q ?hl_q ?hz_q ?_; (case F_q => k_asm); (case hl_q => assumption); (case hz_q => first | with_reducible assumption | omega); intro _ _; (try dsimp only)))))) | (with_reducible (((with_reducible show wpAny _ _ (pyIter _) _ _ _); (k_here; (with_reducible show wpAny _ _ (pyIter (Value.ref _)) (fun it s₂ => TurnsAt _ _ _ _ _ _ _ _ _ it s₂) _ _); refine halt ?_)))) | walk_at "mine oneD")
  (with_reducible rename Fr _ _ _ _ => F1)
  (with_reducible rename News _ _ _ _ => N1)
  rename IsRange _ _ _ _ _ _ _ _ => hr
  obtain ⟨x, d, l, tr, e1, e2, e3, e4, N1'⟩ := rs0 N1
  subst e1 e2 e3 e4
  refine halt ?_
  have hne0 : 0 < trs.length := List.length_pos_iff.mpr hne
  refine range_J (n := trs.length) (KJ w.params D x d l td tc tl delay cap lead turned trs)
    rfl hr (small_one (by omega) (by omega) (by omega) (by omega)) (range_up _) F1 N1' ?h0 ?turn ?done
  case h0 => exact ⟨[], 0, _, rfl, rfl, rfl, rfl, rfl, rfl, rfl, rfl, by cases turned <;> simp⟩
  case turn =>
    rintro i t m₁ news₁ h₁ tk₁ I it hin ⟨rs, nn, tr, rfl, h1, h2, h3, h4, h5, h6, hrl, hrs⟩ hc F2 N2
    have F3 : Fr g L'_q _ _ := fr_eq (mp_cons (mp_cons (mp_cons (mp_cons (mp_cons (mp_cons rfl h6) h5) h4) h3) h2) h1) F2
    clear F1 N1 N1' hr F2 h1 h2 h3 h4 h5 h6
    dsimp only [rsL, List.cons_append, List.nil_append] at N2
    cases turned with
    | false =>
      rw [if_neg (by decide)] at hrs
      have hy : trs[(0 + (i : Int) * 1).toNat]? = some trs[i] := by rw [show (0 + (i : Int) * 1).toNat = i from by omega]; simp [hin]
      have hgy := hgt trs[i] (List.getElem_mem hin)
      have hyp : (pairsT trs)[i]? = some (trs[i].a, trs[i].b) := by simp [hin]
      have hab0 := asc_get hasc hyp
      dsimp only at hab0
      have hadd : ∀ y' ∈ rs, y'.a < y'.b ∧ y'.b < trs[i].a := fun y' hy' => by
        obtain ⟨j, hj, e⟩ := List.getElem_of_mem hy'
        have hp : (pairsOf rs)[j]? = some (y'.a, y'.b) := by simp [hj, e]
        rw [hrs, List.getElem?_take] at hp
        split at hp
        · rename_i hji
          exact ⟨asc_get hasc hp, asc_lt hasc hji hp hyp⟩
        · cases hp
      have htk : (pairsT trs).take (i + 1) = (pairsT trs).take i ++ [(trs[i].a, trs[i].b)] := by rw [List.take_succ, hyp]; rfl
      generalize trs[i] = y at *
      repeat' (first | (with_reducible (((with_reducible show wpAny _ _ (subscriptTail _ _ _ _) _ _ _); (k_here; (with_reducible show wpAny _ _ (subscriptTail _ _ (Value.ref _) (Value.int _ _)) _ _ _); (refine' itemTB ?F_q ?hl_q ?h0_q ?h1_q ?hy_q ?_; (case F_q => k_asm); (case hl_q => with_reducible assumption); (case h0_q => first | with_reducible assumption | omega); (case h1_q => first | with_reducible assumption | omega); (case hy_q => with_reducible assumption); k_whole))))) | (with_reducible (((with_reducible show wpAny _ _ (call _ _) _ _ _); (k_here; (k_dflt (show wpAny _ _ (call (Value.ref 263) [Value.ref _, Value.int _ _, Value.int _ _]) _ _ _)); k_dflt (first | (refine' ConE.call2 (add_front ?hab_q ?hsz_q ?hlt_q) ?kB_q ?kF_q ?kX_q ?kT_q ?kN_q ?kf_q ?kk_q ?kw_q ?ks_q ?kr_q ?kd_q ?ku_q ?_ ?_; ((walk_at "mine conF"; (case hab_q => first | with_reducible assumption | omega); (case hsz_q => first | with_reducible assumption | omega); (case hlt_q => assumption); (rotate_left; (focus (intro e'_q t'_q cls'_q vs'_q g₂'_q h'_q tk'_q hp'_q R'_q F'_q U'_q; exact hp'_q.elim)); (intro v'_q news'_q h'_q tk'_q hp'_q F'_q N'_q; obtain ⟨hv'_q, yy_q, nn'_q, hya_q, hyb_q, hn'_q⟩ := hp'_q; subst hv'_q; subst hn'_q; dsimp only [rsL, rgL, List.cons_append, List.nil_append] at N'_q; (try k_sweep); (try dsimp only)))))) | (refine' ConE.call2 (add_back ?hab_q ?hsz_q ?hlt_q) ?kB_q ?kF_q ?kX_q ?kT_q ?kN_q ?kf_q ?kk_q ?kw_q ?ks_q ?kr_q ?kd_q ?ku_q ?_ ?_; ((walk_at "mine conF"; (case hab_q => first | with_reducible assumption | omega); (case hsz_q => first | with_reducible assumption | omega); (case hlt_q => assumption); (rotate_left; (focus (intro e'_q t'_q cls'_q vs'_q g₂'_q h'_q tk'_q hp'_q R'_q F'_q U'_q; exact hp'_q.elim)); (intro v'_q news'_q h'_q tk'_q hp'_q F'_q N'_q; obtain ⟨hv'_q, yy_q, nn'_q, hya_q, hyb_q, hn'_q⟩ := hp'_q; subst hv'_q; subst hn'_q; dsimp only [rsL, rgL, List.cons_append, List.nil_append] at N'_q; (try k_sweep); (try dsimp only))))))))))) | (with_reducible (((with_reducible show wpAny _ _ (subscriptTail _ _ _ _) _ _ _); (k_here; (with_reducible show wpAny _ _ (subscriptTail _ _ (Value.ref _) (Value.int 1 _)) _ _ _); (refine' tupB1 ?F_q ?ht_q ?_; (case F_q => k_asm); (case ht_q => with_reducible assumption); k_whole))))) | (with_reducible (((with_reducible show wpAny _ _ (subscriptTail _ _ _ _) _ _ _); (k_here; (with_reducible show wpAny _ _ (subscriptTail _ _ (Value.ref _) (Value.int 0 _)) _ _ _); (refine' tupB0 ?F_q ?ht_q ?_; (case F_q => k_asm); (case ht_q => with_reducible assumption); k_whole))))) | walk_at "mine oneD")
      (with_reducible rename Fr g _ _ _ => F3)
      (with_reducible rename News g _ _ _ => N3)
      (with_reducible rename Mine.RG => yy)
      have N4 := add_fin (I := I) (x := x) (d := d) (l := l) (rs := rs) (rs' := rs ++ [yy]) (y := yy) N3 (by k_mem) (by k_mem) (by k_mem) (by k_mem) rfl (by k_mem) (by k_mem) (by walk_at "mine sub") (.inl rfl)
      refine StepO.go (.inl rfl) F3 N4 (all_app (rs_cls (by simp)) (rows_cls' (by simp))) ⟨rs ++ [yy], _, _, rfl, rfl, rfl, rfl, rfl, rfl, rfl, by rw [List.length_append, List.length_singleton, hrl], ?_⟩
      · have ha := ‹yy.a = _›
        have hb := ‹yy.b = _›
        rw [if_neg (by decide), htk, ← hrs, pairsOf, List.map_append]
        simp only [List.map_cons, List.map_nil, ha, hb]
    | true =>
      rw [if_pos rfl] at hrs
      have hj : trs.length - 1 - i < trs.length := by omega
      have hy : trs[((trs.length : Int) - 1 - (0 + (i : Int) * 1)).toNat]? = some trs[trs.length - 1 - i] := by rw [show ((trs.length : Int) - 1 - (0 + (i : Int) * 1)).toNat = trs.length - 1 - i from by omega]; simp [hj]
      have hgy := hgt trs[trs.length - 1 - i] (List.getElem_mem hj)
      have hyp : (pairsT trs)[trs.length - 1 - i]? = some (trs[trs.length - 1 - i].a, trs[trs.length - 1 - i].b) := by simp [hj]
      have hab0 := asc_get hasc hyp
      dsimp only at hab0
      have hadd : ∀ y' ∈ rs.head?, trs[trs.length - 1 - i].b < y'.a := fun y' hy' => by
        have hp : (pairsOf rs)[0]? = some (y'.a, y'.b) := by
          cases rs with
          | nil => cases hy'
          | cons z r => cases hy'; rfl
        rw [hrs, List.getElem?_drop] at hp
        exact asc_lt hasc (by omega) hyp hp
      have hdr : (pairsT trs).drop (trs.length - (i + 1)) = (trs[trs.length - 1 - i].a, trs[trs.length - 1 - i].b) :: (pairsT trs).drop (trs.length - i) := by
        have h1 : trs.length - (i + 1) < (pairsT trs).length := by rw [List.length_map]; omega
        rw [List.drop_eq_getElem_cons h1]
        congr 1
        · rw [List.getElem_map]
          congr 2 <;> (congr 1; omega)
        · congr 1; omega
      generalize trs[trs.length - 1 - i] = y at *
      repeat' (first | (with_reducible (((with_reducible show wpAny _ _ (subscriptTail _ _ _ _) _ _ _); (k_here; (with_reducible show wpAny _ _ (subscriptTail _ _ (Value.ref _) (Value.int _ _)) _ _ _); (refine' itemTB ?F_q ?hl_q ?h0_q ?h1_q ?hy_q ?_; (case F_q => k_asm); (case hl_q => with_reducible assumption); (case h0_q => first | with_reducible assumption | omega); (case h1_q => first | with_reducible assumption | omega); (case hy_q => with_reducible assumption); k_whole))))) | (with_reducible (((with_reducible show wpAny _ _ (call _ _) _ _ _); (k_here; (with_reducible show wpAny _ _ (call (Value.builtin "len") [Value.ref _]) _ _ _); (refine' lenTB ?F_q ?hl_q ?hz_q ?_; (case F_q => k_asm); (case hl_q => assumption); (case hz_q => first | with_reducible assumption | omega); intro _ _; (try dsimp only)))))) | (with_reducible (((with_reducible show wpAny _ _ (call _ _) _ _ _); (k_here; (k_dflt (show wpAny _ _ (call (Value.ref 263) [Value.ref _, Value.int _ _, Value.int _ _]) _ _ _)); k_dflt (first | (refine' ConE.call2 (add_front ?hab_q ?hsz_q ?hlt_q) ?kB_q ?kF_q ?kX_q ?kT_q ?kN_q ?kf_q ?kk_q ?kw_q ?ks_q ?kr_q ?kd_q ?ku_q ?_ ?_; ((walk_at "mine conF"; (case hab_q => first | with_reducible assumption | omega); (case hsz_q => first | with_reducible assumption | omega); (case hlt_q => assumption); (rotate_left; (focus (intro e'_q t'_q cls'_q vs'_q g₂'_q h'_q tk'_q hp'_q R'_q F'_q U'_q; exact hp'_q.elim)); (intro v'_q news'_q h'_q tk'_q hp'_q F'_q N'_q; obtain ⟨hv'_q, yy_q, nn'_q, hya_q, hyb_q, hn'_q⟩ := hp'_q; subst hv'_q; subst hn'_q; dsimp only [rsL, rgL, List.cons_append, List.nil_append] at N'_q; (try k_sweep); (try dsimp only)))))) | (refine' ConE.call2 (add_back ?hab_q ?hsz_q ?hlt_q) ?kB_q ?kF_q ?kX_q ?kT_q ?kN_q ?kf_q ?kk_q ?kw_q ?ks_q ?kr_q ?kd_q ?ku_q ?_ ?_; ((walk_at "mine conF"; (case hab_q => first | with_reducible assumption | omega); (case hsz_q => first | with_reducible assumption | omega); (case hlt_q => assumption); (rotate_left; (focus (intro e'_q t'_q cls'_q vs'_q g₂'_q h'_q tk'_q hp'_q R'_q F'_q U'_q; exact hp'_q.elim)); (intro v'_q news'_q h'_q tk'_q hp'_q F'_q N'_q; obtain ⟨hv'_q, yy_q, nn'_q, hya_q, hyb_q, hn'_q⟩ := hp'_q; subst hv'_q; subst hn'_q; dsimp only [rsL, rgL, List.cons_append, List.nil_append] at N'_q; (try k_sweep); (try dsimp only))))))))))) | (with_reducible (((with_reducible show wpAny _ _ (subscriptTail _ _ _ _) _ _ _); (k_here; (with_reducible show wpAny _ _ (subscriptTail _ _ (Value.ref _) (Value.int 1 _)) _ _ _); (refine' tupB1 ?F_q ?ht_q ?_; (case F_q => k_asm); (case ht_q => with_reducible assumption); k_whole))))) | (with_reducible (((with_reducible show wpAny _ _ (subscriptTail _ _ _ _) _ _ _); (k_here; (with_reducible show wpAny _ _ (subscriptTail _ _ (Value.ref _) (Value.int 0 _)) _ _ _); (refine' tupB0 ?F_q ?ht_q ?_; (case F_q => k_asm); (case ht_q => with_reducible assumption); k_whole))))) | walk_at "mine oneD")
      (with_reducible rename Fr g _ _ _ => F3)
      (with_reducible rename News g _ _ _ => N3)
      (with_reducible rename Mine.RG => yy)
      have N4 := add_fin (I := I) (x := x) (d := d) (l := l) (rs := rs) (rs' := yy :: rs) (y := yy) N3 (by k_mem) (by k_mem) (by k_mem) (by k_mem) rfl (by k_mem) (by k_mem) (by walk_at "mine sub") (.inr rfl)
      refine StepO.go (.inl rfl) F3 N4 (all_app (rs_cls (by simp)) (rows_cls' (by simp))) ⟨yy :: rs, _, _, rfl, rfl, rfl, rfl, rfl, rfl, rfl, by rw [List.length_cons, hrl], ?_⟩
      · have ha := ‹yy.a = _›
        have hb := ‹yy.b = _›
        rw [if_pos rfl, hdr, ← hrs, pairsOf, List.map_cons, ha, hb]
  case done =>
    rintro h' tk m₁ news₁ F2 N2 ⟨rs, nn, tr, rfl, h1, h2, h3, h4, h5, h6, hrl, hrs⟩
    have hrs' : pairsOf rs = pairsT trs := by
      rw [hrs]
      split
      · rw [Nat.sub_self, List.drop_zero]
      · rw [← List.length_map (f := fun y : TR => (y.a, y.b)), List.take_length]
    dsimp only
    obtain ⟨hb, he⟩ := at_of (K := hd.heap_39 w.params) (f := 387) (by k_is)
    have hd2 := congrArg (List.drop 2) hb
    simp only [List.drop_succ_cons, List.drop_zero] at hd2
    rw [← he, ← hd2]
    exact wpN_mono (pushed_mid hne0 hasc hbd hd0 hd1 hc0 hc1 hlen hld hrs' B X T hrd hdp hun hbare (Q := fun fl s' => R (.ok (.ret (match fl with | .ret v => v | _ => .none))) s') (fr_eq (mp_cons (mp_cons (mp_cons (mp_cons (mp_cons rfl h5) h4) h3) h2) h1) F2) N2 fun h' tk gens' hb hK => ret _ _ _ _ _ ⟨rfl, rfl⟩ hb hK fun _ h => nomatch h) (fun _ _ h => h) fun _ _ h => h.elim
end Mine
end
section
open PySem PySem.W PyProof.Rows PySem.Calls
set_option maxRecDepth 100000
set_option maxHeartbeats 400000
namespace Mine
theorem funFrames_on {base : Heap} : ∀ {l : List Env} {h h' : Heap}, (∀ b ∈ l.filterMap (·.frame), ∀ o, h.get? b = some o → h'.get? b = some o) → h.FunFrames base l → h'.FunFrames base l
  | [], _, _, _, _ => trivial
  | env :: rest, h, h', k, ⟨hk, ⟨L, o, hf, hn, ho, hd⟩, hr⟩ => by
    have e : (env :: rest).filterMap (·.frame) = L :: rest.filterMap (·.frame) := by rw [List.filterMap_cons, hf]
    refine ⟨hk, ⟨L, o, hf, hn, k L (e ▸ .head _) o ho, hd⟩, funFrames_on (fun b hb o ho => k b (e ▸ .tail _ hb) o ho) hr⟩
/-- all addresses but those of the base and of the frames -/
noncomputable def others (base g : Heap) (fs : List Addr) : List Addr := (List.range g.objs.size).filter fun b => (base.get? b).isNone && !fs.contains b
theorem others_not {base g : Heap} {fs : List Addr} {b : Addr} (h : (∃ o, base.get? b = some o) ∨ b ∈ fs) : b ∉ others base g fs := fun q => by
  obtain ⟨_, q⟩ := List.mem_filter.mp q
  simp only [Bool.and_eq_true, Bool.not_eq_true', Option.isNone_iff_eq_none] at q
  rcases h with ⟨o, h⟩ | h
  · rw [h] at q; cases q.1
  · rw [List.contains_iff_mem.mpr h] at q; cases q.2
theorem others_get {base g : Heap} {fs : List Addr} {b : Addr} {o : Obj} (h : (hideAll g (others base g fs)).get? b = some o) : g.get? b = some o ∧ ((∃ o, base.get? b = some o) ∨ b ∈ fs) := by
  have hg := of_hideAll _ h
  refine ⟨hg, ?_⟩
  rcases Classical.em ((∃ o, base.get? b = some o) ∨ b ∈ fs) with q | q
  · exact q
  · have hm : b ∈ others base g fs := by
      refine List.mem_filter.mpr ⟨List.mem_range.mpr (Heap.lt_size hg), ?_⟩
      simp only [Bool.and_eq_true, Bool.not_eq_true', Option.isNone_iff_eq_none]
      refine ⟨?_, ?_⟩
      · cases e : base.get? b with
        | none => rfl
        | some o => exact absurd (.inl ⟨o, e⟩) q
      · cases e : fs.contains b with
        | false => rfl
        | true => exact absurd (.inr (List.contains_iff_mem.mp e)) q
    rw [hideAll_none _ hm] at h; cases h
theorem others_keep {base g : Heap} {fs : List Addr} {b : Addr} {o : Obj} (h : g.get? b = some o) (hb : (∃ o, base.get? b = some o) ∨ b ∈ fs) : (hideAll g (others base g fs)).get? b = some o := hideAll_get _ h (others_not hb)
theorem raisedSN_of {A₀ : Around} {base h₀ g₂ h' : Heap} {outer : List Env} {name : Str} {scope : Scope} {L a e t : Addr} {cd cls : Value} {vs : List Value} {m : Str → Option Value}
    (B : Below A₀ base outer h₀) (R : RaisedK base (envOf name scope L a cd :: outer) e cls t vs [] h') (F : Fr h₀ L g₂ m) (U : g₂.UpToSlots h') (D : KtsDicts (outer.filterMap (·.frame)) h₀) :
    ∃ G g, RaisedSN base G (envOf name scope L a cd :: outer) e cls [] h' ∧ Fr g L G m ∧ Below A₀ base outer g ∧ G.UpToSlots h' ∧ KtsDicts (outer.filterMap (·.frame)) g := by
  obtain ⟨⟨Bh, hB, _, hfl, hnew⟩, htup⟩ := R
  have hfr : (envOf name scope L a cd :: outer).filterMap (·.frame) = L :: outer.filterMap (·.frame) := rfl
  obtain ⟨oL, es, ep, hL, hLd, hLk, hLf⟩ := F.ns
  obtain ⟨fs, hfs⟩ : ∃ fs, fs = outer.filterMap (·.frame) := ⟨_, rfl⟩
  have h1 : ∀ b o, (hideAll g₂ (others base g₂ (L :: fs))).get? b = some o → b ∉ (envOf name scope L a cd :: outer).filterMap (·.frame) → Bh.get? b = some o := by
    intro b o h nm
    rw [hfr, ← hfs] at nm
    obtain ⟨h1, h2⟩ := others_get h
    rcases h2 with ⟨o', h2⟩ | h2
    · have h3 := F.keep _ _ (B.stays _ _ h2)
      rw [h1] at h3
      rw [Option.some.inj h3]
      exact hB _ _ h2
    · exact absurd h2 nm
  have h2 : RaisedSN base (hideAll g₂ (others base g₂ (L :: fs))) (envOf name scope L a cd :: outer) e cls [] h' := by
    refine Exists.intro Bh (Exists.intro (.ref t) (And.intro hB (And.intro h1 (And.intro ?_ hfl))))
    intro q hq
    cases hq
  have h3 : Fr (hideAll h₀ (others base h₀ fs)) L (hideAll g₂ (others base g₂ (L :: fs))) m := by
    refine ⟨⟨oL, es, ep, others_keep hL (.inr (.head _)), hLd, hLk, hLf⟩, fun b o h => ?_, ?_⟩
    · obtain ⟨h1, h2⟩ := others_get h
      exact others_keep (F.keep _ _ h1) (h2.imp id fun q => .tail _ q)
    · rw [hideAll_size]; exact F.above
  have h4 : Below A₀ base outer (hideAll h₀ (others base h₀ fs)) := by
    refine ⟨B.stack, fun b o h => others_keep (B.stays _ _ h) (.inl ⟨o, h⟩), funFrames_on (fun b hb o ho => others_keep ho (.inr (hfs ▸ hb))) B.frames⟩
  have h5 : (hideAll g₂ (others base g₂ (L :: fs))).UpToSlots h' := fun b o h hd => U b o (others_get h).1 hd
  have h6 : KtsDicts (outer.filterMap (·.frame)) (hideAll h₀ (others base h₀ fs)) := fun b hb => by
    obtain ⟨o, es, n, ho, hd⟩ := D b hb
    exact ⟨o, es, n, others_keep ho (.inr (hfs ▸ hb)), hd⟩
  exact ⟨_, _, h2, h3, h4, h5, h6⟩
end Mine
end
section
open PySem PySem.W PyProof.Rows PySem.Calls
set_option maxRecDepth 100000
set_option maxHeartbeats 1000000
namespace Mine
theorem pull_none {w : World} {mean : ExcName → Option Value} {mg mb : Str → Option Value} {x d o : Addr} {t1 t2 t3 : Tok} {bs : List UInt8} (hz : bs.length ≤ 100000) (hp : pack bs 0 = none) :
    ConE w mean mg mb 25 340 [.ref x] [] [] (bufL w.params x d o bs 0 t1 t2 t3) (fun _ _ => False) (fun cls => cls = .ref 31) := by
  intro dp un gd ll base g s R B X T Kp N hrd hdp hun ret fail
  refine pull_ack_frame (k := 0) hz (Nat.zero_le _) dp un gd ll base g s R B X T Kp N hrd hdp hun (fun r news' h' tk hq K' L' => ?_) fun e t cls vs h' tk hq => fail e t cls vs h' tk ?_
  · obtain ⟨T, xr, dr, lr, tr, n', rs, t3', k', low', dl', td, hpk, _⟩ := hq
    rw [hp] at hpk; cases hpk
  · rcases hq with ⟨_, hc⟩ | ⟨k', low', rows, dl', hq, _⟩
    · exact hc
    · rw [hp] at hq; cases hq
section
variable {prog : Program} {w : World} {A : Around} {E : Value → Shared → Prop} {s : Shared} {value slice : PySem.Expr} {h₀ : Heap} {L : Addr} {m : PySem.Str → Option Value} {news : List (Addr × Obj)} {Q : Value → Shared → Prop}
theorem slice_take {oct : List UInt8} {j : Int} {t tj : Tok} (hF : Fr h₀ L s.heap m) (hN : News h₀ L s.heap news) (h0 : 0 ≤ j) (hz : oct.length ≤ 16777216)
    (h : ∀ h' t' k, Fr h₀ L h' m → News h₀ L h' news → Q (.bytes (oct.take j.toNat).toArray t') { s with heap := h', toks := k })
    (hs : subscripted slice false (.bytes oct.toArray t) (.ref s.heap.objs.size) = operate [.ref s.heap.objs.size, .bytes oct.toArray t] (getItem (.bytes oct.toArray t) (.ref s.heap.objs.size)) := by with_unfolding_all rfl)
    (ht : ∀ r, letTemporaryGo value (.bytes oct.toArray t) r = pure () := by intro _; with_unfolding_all rfl) :
    wpAny (model prog w) A (subscriptTail value slice (.bytes oct.toArray t) (.ref s.heap.objs.size)) Q E { s with heap := s.heap.push { cls := .type "slice", data := .fields #[.none, .int j tj, .none] } } := by
  have e : KBy.picked oct.toArray none (some j) = (oct.take j.toNat).toArray := by
    rw [KBc.picked_eq]
    have hj : j = (j.toNat : Int) := by omega
    rw [hj]
    simp only [Option.elim, clipAt_nat, List.size_toArray, List.drop_zero, Nat.sub_zero, Int.toNat_natCast, List.toList_toArray]
    rcases Nat.le_total j.toNat oct.length with q | q
    · rw [Nat.min_eq_left q]
    · rw [Nat.min_eq_right q, List.take_of_length_le (Nat.le_refl _), List.take_of_length_le q]
  refine KBc.slice_K hF hN rfl .none (.int _ _) ?_ (fun h' t' k F' N' _ => ?_) hs ht
  · rw [KBw.ints_length]; simpa using hz
  · rw [e]; exact h h' t' k F' N'
end
theorem pulled_try2 {w : World} {mean : ExcName → Option Value} {mg mb : Str → Option Value} {oct : List UInt8} {cut : Int} {toc tcu : Tok}
    {dp un : Nat} {gd : Option (List Code)} {ll : List Env} {base g : Heap} {s : Shared} {L : Addr} {m₀ : Str → Option Value} {Q : Flow → Shared → Prop}
    (hl0 : 0 < oct.length) (hl1 : oct.length ≤ 1000) (hcut : ∀ j, j < oct.length → pack (oct.take j) 0 = none)
    (B : Below (AX dp un gd ll) base ll g) (X : (hd.heap_39 w.params).In g) (T : Top hd.view_39 LS mean mg mb g) (XB : (hd.heap_39 w.params).In base) (TB : Top hd.view_39 LS mean mg mb base) (D : KtsDicts (ll.filterMap (·.frame)) g)
    (hdp : dp + 60 < recursionLimit) (hun : un + 10 * 60 < cLine) (hbare : AllBare s.gens)
    (F : Fr g L s.heap (fun y => if y = Str.ofString "octets" then some (.bytes oct.toArray toc) else if y = Str.ofString "cut" then some (.int cut tcu) else m₀ y))
    (ret : ∀ h' tk gens', AllBare gens' → base.StaysIn h' → Q (.ret (.bool true)) ⟨h', gens', s.drawn, tk, s.os⟩) :
    wpN (model PG w) ((AX dp un gd ll).deeper (envAt (hd.heap_39 w.params) 392 L)) (execs ((bodyAt (hd.heap_39 w.params) 392).drop 7) (envAt (hd.heap_39 w.params) 392 L)) Q (fun _ _ => False) s := by
  w_on
  obtain ⟨hb, he⟩ := at_of (K := hd.heap_39 w.params) (f := 392) (by k_is)
  rw [hb, he]
  clear hb he
  simp only [List.drop_succ_cons, List.drop_zero]
  obtain ⟨hp, gg, dd, tt, os⟩ := s
  have N : News g L hp [] := fun _ h => nomatch h
  dsimp only at F hbare ret
  have hj0 : 0 ≤ cut % (oct.toArray.size : Int) := Int.emod_nonneg _ (by simp only [List.size_toArray]; omega)
  have hj1 : (cut % (oct.toArray.size : Int)).toNat < oct.length := by
    have := Int.emod_lt_of_pos cut (show (0 : Int) < (oct.toArray.size : Int) by simp only [List.size_toArray]; omega)
    simp only [List.size_toArray] at this hj0 ⊢
    omega
  refine wpN_execs_cons (wpN_Try rfl ?_)
  refine wpN_execs_cons (wpN_Expr (wpN_Call ?_))
  repeat' walk_at "mine oneD"
  refine callWithN_KN (K := hd.heap_39 w.params) (by k_is) (wpN_Call ?_)
  repeat' walk_at "mine oneD"
  refine callWithN_KW0 (K := hd.heap_39 w.params) (by k_is) rfl ?_
  repeat' (first | (with_reducible (((with_reducible show wpAny _ _ (binaryOp Operator.Mod _ _) _ _ _); (k_here; (with_reducible show wpAny _ _ (binaryOp _ (Value.int _ _) (Value.int _ _)) _ _ _); (refine' mod_lit ?hb_q ?_; (case hb_q => ((try simp only [List.size_toArray]); omega))))))) | (with_reducible (((with_reducible show wpAny _ _ (subscriptTail _ _ _ _) _ _ _); (k_here; (with_reducible show wpAny _ _ (subscriptTail _ (Expr.Slice none _ none _) (Value.bytes _ _) (Value.ref _)) _ _ _); (with_reducible rename Fr _ _ _ _ => F'_q); (with_reducible rename News _ _ _ _ => N'_q); (refine' slice_take (s := ⟨_, _, _, _, _⟩) F'_q N'_q ?h0_q ?hz_q ?_; (case h0_q => assumption); (case hz_q => first | with_reducible assumption | omega); intro h'_q t'_q k'_q F'_q N'_q; (try dsimp only)))))) | walk_at "mine oneD")
  have hpk := hcut _ hj1
  have hbl : (oct.take (cut % (oct.toArray.size : Int)).toNat).length ≤ 1000 := by rw [List.length_take]; omega
  generalize oct.take (cut % (oct.toArray.size : Int)).toNat = bs at hpk hbl ⊢
  refine' ConN.call (buffer_data (bs := bs) ?hn) ?kB ?kF ?kX ?kT ?kN ?kf ?kk ?kw ?ks ?kr ?kb ?kd ?ku ?_
  (case kB => assumption); (case kF => k_asm); (case kX => assumption); (case kT => assumption); (case kN => k_asm); (case kf => exact rfl); (case kk => exact rfl); (case kw => walk_at "mine wr"); (case ks => walk_at "mine split2")
  (case kr => exact List.forall_mem_nil _); (case kb => exact hbare); (case kd => walk_at "mine room"); (case ku => walk_at "mine room"); (case hn => omega)
  rintro vb newsb hb2 tkb gensb ⟨xb, db, ob, tb1, tb2, tb3, rfl, rfl⟩ hbare2 F3 N3
  dsimp only [bufL, List.cons_append, List.nil_append] at N3
  refine ⟨X.keeps F3.keep, wpN_of ?_⟩
  refine' ConE.call2 (pull_none ?hz hpk) ?kB ?kF ?kX ?kT ?kN ?kf ?kk ?kw ?ks ?kr ?kd ?ku ?_ ?_
  (case kB => assumption); (case kF => k_asm); (case kX => assumption); (case kT => assumption); (case kN => k_asm); (case kf => exact rfl); (case kk => exact rfl); (case kw => walk_at "mine wr"); (case ks => walk_at "mine split2")
  (case kr => exact List.forall_mem_nil _); (case kd => walk_at "mine room"); (case ku => walk_at "mine room"); (case hz => omega)
  · intro v' news' h' tk' hp'
    exact hp'.elim
  · intro e t cls vs g₂ h' tk' hc R F' U
    subst hc
    obtain ⟨G, g', RN, FG, BG, UG, DG⟩ := raisedSN_of B R F' U D
    clear F3 N3 B R F' U D X T
    repeat' walk_at "mine oneD"
    (with_reducible rename Below _ _ _ _ => B9)
    (with_reducible rename Fr _ _ _ _ => F9)
    exact ret _ _ _ hbare2 fun b o e => F9.keep _ _ (B9.stays _ _ e)
end Mine
end
section
open PySem PySem.W PyProof.Rows PySem.Calls
set_option maxRecDepth 100000
set_option maxHeartbeats 1000000
namespace Mine
theorem pull_neg {w : World} {mean : ExcName → Option Value} {mg mb : Str → Option Value} {x d o : Addr} {t1 t2 t3 : Tok} {bs : List UInt8} {k1 : Nat} {low dl : Int} {ps : List (Int × Int)} (hz : bs.length ≤ 100000) (hp : pack bs 0 = some (k1, low, ps, dl)) (hlow : low < 0) :
    ConE w mean mg mb 25 340 [.ref x] [] [] (bufL w.params x d o bs 0 t1 t2 t3) (fun _ _ => False) (fun cls => cls = .type "ValueError") := by
  intro dp un gd ll base g s R B X T Kp N hrd hdp hun ret fail
  refine pull_ack_frame (k := 0) hz (Nat.zero_le _) dp un gd ll base g s R B X T Kp N hrd hdp hun (fun r news' h' tk hq K' L' => ?_) fun e t cls vs h' tk hq => fail e t cls vs h' tk ?_
  · obtain ⟨T, xr, dr, lr, tr, n', rs, t3', k', low', dl', td, hpk, hl, _⟩ := hq
    rw [hp] at hpk
    have hpk := Option.some.inj hpk
    injection hpk with e1 hpk
    injection hpk with e2 hpk
    omega
  · rcases hq with ⟨hq, _⟩ | ⟨k', low', rows, dl', hq, _, hc⟩
    · rw [hp] at hq; cases hq
    · exact hc
theorem pulled_tries {w : World} {mean : ExcName → Option Value} {mg mb : Str → Option Value} {oct : List UInt8} {cut low delay : Int} {k1 kR : Nat} {rws : List TR} {R : Addr} {toc tcu tlo tdl : Tok}
    {dp un : Nat} {gd : Option (List Code)} {ll : List Env} {base g : Heap} {s : Shared} {L : Addr} {m₀ : Str → Option Value} {Q : Flow → Shared → Prop}
    (hl0 : 0 < oct.length) (hl1 : oct.length ≤ 1000) (hcut : ∀ j, j < oct.length → pack (oct.take j) 0 = none) (hpk : pack oct 0 = some (k1, low, pairsT rws, delay)) (hlen : rws.length ≤ 30)
    (B : Below (AX dp un gd ll) base ll g) (X : (hd.heap_39 w.params).In g) (T : Top hd.view_39 LS mean mg mb g) (XB : (hd.heap_39 w.params).In base) (TB : Top hd.view_39 LS mean mg mb base) (D : KtsDicts (ll.filterMap (·.frame)) g)
    (hdp : dp + 60 < recursionLimit) (hun : un + 10 * 60 < cLine) (hbare : AllBare s.gens)
    (F : Fr g L s.heap (fun y => if y = Str.ofString "octets" then some (.bytes oct.toArray toc) else if y = Str.ofString "cut" then some (.int cut tcu) else if y = Str.ofString "low" then some (.int low tlo) else if y = Str.ofString "rows" then some (.ref R) else if y = Str.ofString "delay" then some (.int delay tdl) else m₀ y))
    (N : News g L s.heap ((R, listOf (refsT rws).toArray kR) :: rowsT rws))
    (ret : ∀ h' tk gens', AllBare gens' → base.StaysIn h' → Q (.ret (.bool true)) ⟨h', gens', s.drawn, tk, s.os⟩) :
    wpN (model PG w) ((AX dp un gd ll).deeper (envAt (hd.heap_39 w.params) 392 L)) (execs ((bodyAt (hd.heap_39 w.params) 392).drop 6) (envAt (hd.heap_39 w.params) 392 L)) Q (fun _ _ => False) s := by
  w_on
  obtain ⟨hb, he⟩ := at_of (K := hd.heap_39 w.params) (f := 392) (by k_is)
  rw [hb, he]
  clear hb he
  simp only [List.drop_succ_cons, List.drop_zero]
  obtain ⟨hp, gg, dd, tt, os⟩ := s
  dsimp only at F N hbare ret
  refine wpN_execs_cons (wpN_Try rfl ?_)
  refine wpN_execs_cons (wpN_Assign (wpN_Call ?_))
  repeat' walk_at "mine oneD"
  refine callWithN_KN (K := hd.heap_39 w.params) (by k_is) (wpN_Call ?_)
  repeat' walk_at "mine oneD"
  refine callWithN_KW0 (K := hd.heap_39 w.params) (by k_is) rfl ?_
  repeat' walk_at "mine oneD"
  refine' ConN.call (buffer_data (bs := oct) ?hn) ?kB ?kF ?kX ?kT ?kN ?kf ?kk ?kw ?ks ?kr ?kb ?kd ?ku ?_
  (case kB => assumption); (case kF => k_asm); (case kX => assumption); (case kT => assumption); (case kN => k_asm); (case kf => exact rfl); (case kk => exact rfl); (case kw => walk_at "mine wr"); (case ks => walk_at "mine split2")
  (case kr => exact List.forall_mem_nil _); (case kb => exact hbare); (case kd => walk_at "mine room"); (case ku => walk_at "mine room"); (case hn => omega)
  rintro vb newsb hb2 tkb gensb ⟨xb, db, ob, tb1, tb2, tb3, rfl, rfl⟩ hbare2 F3 N3
  dsimp only [bufL, List.cons_append, List.nil_append] at N3
  refine ⟨X.keeps F3.keep, wpN_of ?_⟩
  rcases Int.lt_or_le low 0 with hlow | hlow
  · refine' ConE.call2 (pull_neg ?hz hpk hlow) ?kB ?kF ?kX ?kT ?kN ?kf ?kk ?kw ?ks ?kr ?kd ?ku ?_ ?_
    (case kB => assumption); (case kF => k_asm); (case kX => assumption); (case kT => assumption); (case kN => k_asm); (case kf => exact rfl); (case kk => exact rfl); (case kw => walk_at "mine wr"); (case ks => walk_at "mine split2")
    (case kr => exact List.forall_mem_nil _); (case kd => walk_at "mine room"); (case ku => walk_at "mine room"); (case hz => omega)
    · intro v' news' h' tk' hp'
      exact hp'.elim
    · intro e t cls vs g₂ h' tk' hc Rz F' U
      subst hc
      obtain ⟨G, g', RN, FG, BG, UG, DG⟩ := raisedSN_of B Rz F' U D
      clear F3 N3 B Rz F' U D X T
      repeat' walk_at "mine oneD"
      (with_reducible rename Below _ _ _ _ => B9)
      (with_reducible rename Fr _ _ _ _ => F9)
      (with_reducible rename Frag.In _ _ => X9)
      (with_reducible rename Top _ _ _ _ _ _ => T9)
      (with_reducible rename KtsDicts _ _ => D9)
      have F10 := fr_pick (x := Str.ofString "octets") (v := .bytes oct.toArray toc) (fr_pick (x := Str.ofString "cut") (v := .int cut tcu) F9 rfl) rfl
      have done := fun tk => pulled_try2 (s := ⟨_, gensb, dd, tk, os⟩) hl0 hl1 hcut B9 X9 T9 XB TB D9 hdp hun hbare2 F10 ret
      obtain ⟨hb, he⟩ := at_of (K := hd.heap_39 w.params) (f := 392) (by k_is)
      rw [hb, he] at done
      simp only [List.drop_succ_cons, List.drop_zero] at done
      exact done _
  · repeat' (first | (with_reducible (((with_reducible show wpAny _ _ (call _ _) _ _ _); (k_here; (k_dflt (show wpAny _ _ (call (Value.ref 340) [Value.ref _]) _ _ _)); k_dflt (refine' ConE.call2 (pull_ok ?hz_q ?hk_q ?hp_q ?hl_q) ?kB_q ?kF_q ?kX_q ?kT_q ?kN_q ?kf_q ?kk_q ?kw_q ?ks_q ?kr_q ?kd_q ?ku_q ?_ ?_; walk_at "mine conF"; (case hp_q => assumption); (case hl_q => assumption); (case hz_q => first | with_reducible assumption | omega); (case hk_q => (simp only [List.size_toArray]; omega)); walk_at "mine noerr"; (intro v'_q news'_q h'_q tk'_q hp'_q F'_q N'_q; obtain ⟨T'_q, xr'_q, dr'_q, lr'_q, tr'_q, n'_q, rs'_q, t3'_q, td'_q, hrs'_q, hv'_q, hn'_q⟩ := hp'_q; subst hv'_q; subst hn'_q; dsimp only [bufL, rsL, List.cons_append, List.nil_append] at N'_q; (try k_sweep); (try dsimp only))))))) | walk_at "mine oneD")
    (with_reducible rename Fr g L _ _ => F1)
    (with_reducible rename News g L _ _ => N1)
    (with_reducible rename List RG => rs)
    have hrs := ‹pairsOf rs = pairsT rws›
    have hrl : rs.length = rws.length := by
      have := congrArg List.length hrs
      simpa using this
    refine wpN_execs_cons (wpN_of ?_)
    repeat' (first | (with_reducible (((with_reducible show wpAny _ _ (eval _ _) _ _ _); (k_here; (with_reducible show wpAny _ _ (eval (Expr.ListComp _ _ _ _) _) _ _ _); refine halt ?_)))) | walk_at "mine oneD")
    refine halt ?_
    refine' ListComp_gen (rs := rs) B F1 X T N1 rfl rfl ?h1 ?h2 ?h3 ?h4 ?hdp ?hun hbare2 ?hsz ?hclos ?hcell ?hkind ?hnames ?hx ?hiter ?helt ?k
    rotate_left 2
    case h1 => k_mem
    case h2 => k_mem
    case h3 => k_mem
    case h4 => walk_at "mine sub"
    case hdp => walk_at "mine room"
    case hun => walk_at "mine room"
    case hsz => omega
    case hclos => rfl
    case hcell => decide
    case hkind => rfl
    case hnames => decide
    case hx => rfl
    case hiter =>
      intro E' Q' hq
      repeat' walk_at "mine oneD"
      exact hq _
    case helt =>
      intro s' C oC m₂ y rest Q' E' hoC hm2 F2 N2 hk
      repeat' walk_at "mine oneD"
      refine hk _ _ _ (by assumption) (by assumption) fun p hp => ?_
      have l1 := ‹C < _ ∧ _›
      rcases List.mem_cons.mp hp with rfl | hp
      · exact Nat.ne_of_lt l1.1
      · exact Nat.ne_of_lt (allLt_mem l1.2.2.2 p hp)
    case k =>
      intro D1 ys tups h1 tk1 gens1 F2 N2 hda hb2
      repeat' (first | (with_reducible (((with_reducible show wpAny _ _ (compareOp _ _ _) _ _ _); (k_here; (with_reducible show wpAny _ _ (compareOp _ (Value.ref _) (Value.ref _)) _ _ _); refine halt ?_)))) | walk_at "mine oneD")
      refine halt ?_
      refine rows_ne (p1 := pairsOf rs) (p2 := pairsT rws) (n2 := rowsT rws) (N2 _ (.head _)).1 (fun p hp => (N2 p (.tail _ (List.mem_append_left _ hp))).1) hda (k2 := kR) (zs := refsT rws) (N2 (R, listOf (refsT rws).toArray kR) (by simp)).1 (fun p hp => (N2 p (by simp [hp])).1) (datT rws) ?_ hrs ?_
      · walk_at "mine room"
      repeat' walk_at "mine oneD"
      · exact absurd rfl ‹¬ delay = delay›
      refine wpN_of (wpAny_execs_nil ?_)
      refine wpN_of (wpAny_execs_nil ?_)
      have F10 := fr_pick (x := Str.ofString "octets") (v := .bytes oct.toArray toc) (fr_pick (x := Str.ofString "cut") (v := .int cut tcu) F2 rfl) rfl
      have done := fun tk => pulled_try2 (s := ⟨_, gens1, dd, tk, os⟩) hl0 hl1 hcut B X T XB TB D hdp hun hb2 F10 ret
      obtain ⟨hb, he⟩ := at_of (K := hd.heap_39 w.params) (f := 392) (by k_is)
      rw [hb, he] at done
      simp only [List.drop_succ_cons, List.drop_zero] at done
      exact done _
end Mine
end
section
open PySem PySem.W PyProof.Rows PySem.Calls
set_option maxRecDepth 100000
set_option maxHeartbeats 1000000
namespace Mine
/-- a tuple of three ints in the ledger -/
structure T3 where
  (t : Addr) (a b : Int) (c : Nat) (ta tb tc : Tok)
noncomputable abbrev trO3 (y : T3) : Addr × Obj := (y.t, tupO [.int y.a y.ta, .int y.b y.tb, .int ((y.c : Nat) : Int) y.tc])
noncomputable def rows3 (l : List T3) : List (Addr × Obj) := l.map trO3
noncomputable abbrev refs3 (l : List T3) : List Value := l.map fun y => .ref y.t
noncomputable abbrev trips (l : List T3) : List (Int × Int × Nat) := l.map fun y => (y.a, y.b, y.c)
theorem mem_rows3 {l : List T3} {y : T3} (h : y ∈ l) : trO3 y ∈ rows3 l := List.mem_map_of_mem h
theorem rows3_cls {l : List T3} {ws : List (Addr × String)} (h : ∀ y ∈ ws, y.2 ≠ "tuple") : ∀ p ∈ rows3 l, ∀ y ∈ ws, p.2.cls ≠ .type y.2 := by
  intro p hp y hy
  obtain ⟨z, _, rfl⟩ := List.mem_map.mp hp
  exact tyne (Ne.symm (h y hy))
section
variable {prog : Program} {w : World} {A : Around} {E : Value → Shared → Prop} {s : Shared} {Q : Value → Shared → Prop} {value slice : PySem.Expr} {u : Tok} {h₀ : Heap} {L D : Addr} {m : Str → Option Value} {l : List T3} {news : List (Addr × Obj)} {k : Nat} {y : T3}
theorem item3_0 (N : News h₀ L s.heap news) (hm : (D, listOf (refs3 l).toArray k) ∈ news) (hy : l[0]? = some y) (hq : Q (.ref y.t) s)
    (hs : subscripted slice false (.ref D) (.int 0 u) = operate [.ref D, .int 0 u] (getItem (.ref D) (.int 0 u)) := by with_unfolding_all rfl) : wpAny (model prog w) A (subscriptTail value slice (.ref D) (.int 0 u)) Q E s :=
  tail_any (list_at N hm).typeIs slot_list_getitem.lookup (wpAny_getItem_list (list_at N hm) (by decide) (by decide) (by simp [hy]) hq) hs
theorem item3_last {i : Int} (N : News h₀ L s.heap news) (hm : (D, listOf (refs3 l).toArray k) ∈ news) (hi : i = -1) (hlen : l.length ≤ 1000000) (hy : l[l.length - 1]? = some y) (hq : Q (.ref y.t) s)
    (hs : subscripted slice false (.ref D) (.int i u) = operate [.ref D, .int i u] (getItem (.ref D) (.int i u)) := by with_unfolding_all rfl) : wpAny (model prog w) A (subscriptTail value slice (.ref D) (.int i u)) Q E s := by
  subst hi
  have hp : 0 < l.length := by
    rcases Nat.eq_zero_or_pos l.length with e | e
    · rw [List.length_eq_zero_iff.mp e] at hy; cases hy
    · exact e
  refine tail_any (list_at N hm).typeIs slot_list_getitem.lookup (wpAny_getItem_list_neg (list_at N hm) (by decide) (by simp; omega) (by decide) ?_ hq) hs
  have e : (-1 + ((refs3 l).toArray.size : Int)).toNat = l.length - 1 := by simp; omega
  rw [e]
  simp [hy]
theorem len3 (N : News h₀ L s.heap news) (hm : (D, listOf (refs3 l).toArray k) ∈ news) (hz : l.length ≤ 1000000) (h : ∀ t k, Q (.int (l.length : Int) t) { s with toks := k }) : wpAny (model prog w) A (call (.builtin "len") [.ref D]) Q E s := by
  have e : (((refs3 l).toArray.size : Nat) : Int) = (l.length : Int) := by simp
  refine call_len_list (list_at N hm) (by rw [e]; omega) ?_
  rw [e]; exact h _ _
theorem slice3 {a : Nat} {lo : Int} {tl : Tok} (F : Fr h₀ L s.heap m) (N : News h₀ L s.heap news) (hm : (D, listOf (refs3 l).toArray k) ∈ news) (hlo : lo = (a : Int)) (ha : a ≤ l.length) (hz : l.length ≤ 1000000)
    (h : ∀ h' x, Fr h₀ L h' m → News h₀ L h' ((x, listOf (refs3 (l.drop a)).toArray 0) :: news) → (∀ p ∈ news, p.1 < x) → Q (.ref x) { s with heap := h' })
    (hs : subscripted slice false (.ref D) (.ref s.heap.objs.size) = operate [.ref s.heap.objs.size, .ref D] (getItem (.ref D) (.ref s.heap.objs.size)) := by with_unfolding_all rfl) :
    wpAny (model prog w) A (subscriptTail value slice (.ref D) (.ref s.heap.objs.size)) Q E { s with heap := s.heap.push { cls := .type "slice", data := .fields #[.int lo tl, .none, .none] } } := by
  subst hlo
  have hl' : (s.heap.push { cls := .type "slice", data := .fields #[.int (a : Int) tl, .none, .none] }).IsList D (refs3 l).toArray := (list_at N hm).push _
  have hp : slicePick (refs3 l).toArray (some (a : Int)) none none = (refs3 (l.drop a)).toArray := by
    rw [slicePick_from _ _ (by simpa using ha)]
    simp [refs3, List.map_drop]
  refine tail_any (T := "list") hl'.typeIs slot_list_getitem.lookup ?_ hs
  refine wpAny_getItem_list_slice (s := { s with heap := s.heap.push { cls := .type "slice", data := .fields #[.int (a : Int) tl, .none, .none] } }) hl' (Heap.IsSliceOf.new _ _ _ _) (.int _ _) .none .none (by simp) ?_ (by rw [List.size_toArray, List.length_map, sizeLine_eq]; omega)
  rw [hp]
  have N1 := News.pushKeep N { cls := .type "slice", data := .fields #[.int (a : Int) tl, .none, .none] }
  have F1 := F.push { cls := .type "slice", data := .fields #[.int (a : Int) tl, .none, .none] }
  exact h _ _ (F1.push _) (News.push F1 N1 _ rfl) (fun p hp => Heap.lt_size (N1 p hp).1)
theorem add_rows {P R : Addr} {n1 n2 : Nat} {v : Value} {vs : List Value} (F : Fr h₀ L s.heap m) (N : News h₀ L s.heap news) (h1 : (P, listOf #[v] n1) ∈ news) (h2 : (R, listOf vs.toArray n2) ∈ news) (hz : vs.length ≤ 1000000)
    (h : ∀ D h', Fr h₀ L h' m → News h₀ L h' ((D, listOf (v :: vs).toArray 0) :: news) → (∀ p ∈ news, p.1 < D) → Q (.ref D) { s with heap := h' }) : wpAny (model prog w) A (binaryOp .Add (.ref P) (.ref R)) Q E s :=
  kmk_add_lit F N (list_at N h1) (list_at N h2) (zs := v :: vs) rfl h (by
    rw [sizeLine_eq]
    show [v].length + vs.length ≤ _
    simp only [List.length_cons, List.length_nil]
    omega)
end
theorem gfr_append : ∀ (a b : List (Int × Int × Nat)), gfr (a ++ b) = gfr a ++ gfr b
  | [], _ => rfl
  | (g, z, l) :: a, b => by
    show vput g l ++ vput z l ++ gfr (a ++ b) = vput g l ++ vput z l ++ gfr a ++ gfr b
    rw [gfr_append a b]
    simp only [List.append_assoc]
theorem grow_snoc : ∀ (tl : List (Int × Int × Nat)) (e : Int) (acc : List (Int × Int)) (g z : Int) (l : Nat),
    grow e (tl ++ [(g, z, l)]) acc = ((grow e tl acc).1 - (g + 2) - z, ((grow e tl acc).1 - (g + 2) - z, (grow e tl acc).1 - (g + 2) + 1) :: (grow e tl acc).2)
  | [], _, _, _, _, _ => rfl
  | (g', z', l') :: tl, e, acc, g, z, l => grow_snoc tl (e - (g' + 2) - z') ((e - (g' + 2) - z', e - (g' + 2) + 1) :: acc) g z l
theorem vput_len (v : Int) (l : Nat) (hl : l ≤ 3) : 1 ≤ (vput v l).length ∧ (vput v l).length ≤ 8 := by
  unfold vput
  split
  · simp [beI_length]
  · split
    · simp [beI_length]
    · split <;> simp [beI_length]
theorem gfr_len : ∀ (tl : List (Int × Int × Nat)), (∀ q ∈ tl, q.2.2 ≤ 3) → (gfr tl).length ≤ 16 * tl.length
  | [], _ => Nat.le_refl _
  | (g, z, l) :: r, h => by
    have h1 := h _ (.head _)
    dsimp only at h1
    have a := vput_len g l h1
    have b := vput_len z l h1
    have ih := gfr_len r fun q hq => h q (.tail _ hq)
    show (vput g l ++ vput z l ++ gfr r).length ≤ 16 * (r.length + 1)
    rw [List.length_append, List.length_append]
    omega
theorem grow_len : ∀ (tl : List (Int × Int × Nat)) (e : Int) (acc : List (Int × Int)), (grow e tl acc).2.length = tl.length + acc.length
  | [], _, _ => by simp [grow]
  | (g, z, l) :: tl, e, acc => by
    show (grow (e - (g + 2) - z) tl ((e - (g + 2) - z, e - (g + 2) + 1) :: acc)).2.length = _
    rw [grow_len tl, List.length_cons, List.length_cons]
    omega
theorem trk3 {st : List Str} {m m₀ : Str → Option Value} {x x' x'' : Str} {v v' v'' : Value} (hx : m x = some v) (hx' : m x' = some v') (hx'' : m x'' = some v'') (ho : ∀ y, (x :: x' :: x'' :: st).contains y = false → m y = m₀ y) : m = fun y => if y = x then some v else if y = x' then some v' else if y = x'' then some v'' else upd st m m₀ y := by
  funext y
  by_cases e : y = x
  · rw [if_pos e, e, hx]
  · rw [if_neg e]
    by_cases e' : y = x'
    · rw [if_pos e', e', hx']
    · rw [if_neg e']
      by_cases e'' : y = x''
      · rw [if_pos e'', e'', hx'']
      · rw [if_neg e'']
        show m y = if st.contains y = true then m y else m₀ y
        cases h : st.contains y with
        | true => simp
        | false =>
          simp only [Bool.false_eq_true, if_false]
          exact ho y (by
            show (x :: x' :: x'' :: st).contains y = false
            rw [List.contains_cons, List.contains_cons, List.contains_cons, h]
            simp [e, e', e''])
theorem pull_start {g h : Heap} {L R T P : Addr} {n k : Nat} {a b : Int} {ta tb : Tok} {trs : List T3} {all : List (Addr × Obj)} (N : News g L h ((R, listOf #[.ref T] n) :: (T, tupO [.int a ta, .int b tb]) :: all)) (hP : (P, listOf (refs3 trs).toArray k) ∈ all) (ht : ∀ p ∈ rows3 trs, p ∈ all) :
    ∃ rws : List TR, pairsT rws = [(a, b)] ∧ News g L h ((R, listOf (refsT rws).toArray n) :: (P, listOf (refs3 trs).toArray k) :: (rowsT rws ++ rows3 trs)) := by
  refine ⟨[⟨T, a, b, ta, tb⟩], rfl, news_sub N fun p hp => ?_⟩
  simp only [rowsT, List.map_cons, List.map_nil, List.mem_cons, List.mem_append, List.not_mem_nil, or_false] at hp
  rcases hp with rfl | rfl | rfl | hp
  · exact .head _
  · exact .tail _ (.tail _ hP)
  · exact .tail _ (.head _)
  · exact .tail _ (.tail _ (ht p hp))
theorem turn3_fin {g h : Heap} {L I x R T P : Addr} {it : Obj} {n k kP : Nat} {a b : Int} {ta tb : Tok} {l trs : List T3} {rws : List TR} {all : List (Addr × Obj)} (N : News g L h all) (hI : (I, it) ∈ all) (hx : (x, listOf (refs3 l).toArray k) ∈ all) (hP : (P, listOf (refs3 trs).toArray kP) ∈ all)
    (hR : (R, listOf (.ref T :: refsT rws).toArray n) ∈ all) (hT : (T, tupO [.int a ta, .int b tb]) ∈ all) (ht : ∀ p ∈ rowsT rws, p ∈ all) (h3 : ∀ p ∈ rows3 trs, p ∈ all) :
    News g L h ([(I, it)] ++ ((x, listOf (refs3 l).toArray k) :: (R, listOf (refsT (⟨T, a, b, ta, tb⟩ :: rws)).toArray n) :: (P, listOf (refs3 trs).toArray kP) :: (rowsT (⟨T, a, b, ta, tb⟩ :: rws) ++ rows3 trs))) := by
  refine news_sub N fun p hp => ?_
  simp only [rowsT, List.map_cons, List.mem_cons, List.mem_append, List.not_mem_nil, or_false] at hp
  rcases hp with rfl | rfl | rfl | rfl | (rfl | hp) | hp
  · exact hI
  · exact hx
  · exact hR
  · exact hP
  · exact hT
  · exact ht p hp
  · exact h3 p hp
end Mine
end
section
open PySem PySem.W PyProof.Rows PySem.Calls
set_option maxRecDepth 100000
set_option maxHeartbeats 1000000
namespace Mine
set_option hygiene false in
local macro_rules | `(tactic| walk_at "mine mem3") => `(tactic| first | exact List.Mem.head _ | assumption | (refine' List.Mem.tail _ ?_; walk_at "mine mem3"))
/-- what stands at the loop of _law_pulled -/
inductive VJ (x P : Addr) (kP : Nat) (trs : List T3) (A : List UInt8) (tl : List (Int × Int × Nat)) (lo0 : Int) (r0 : List (Int × Int)) (delay cut : Int) (tdl tcu : Tok) (i : Nat) (m : Str → Option Value) (nx : List (Addr × Obj)) : Prop
  | mk (oct : List UInt8) (lo : Int) (rws : List TR) (R : Addr) (kR : Nat) (toc tlo : Tok) (h1 : m (Str.ofString "octets") = some (.bytes oct.toArray toc)) (h2 : m (Str.ofString "low") = some (.int lo tlo)) (h3 : m (Str.ofString "rows") = some (.ref R))
      (h4 : m (Str.ofString "delay") = some (.int delay tdl)) (h5 : m (Str.ofString "cut") = some (.int cut tcu))
      (hn : nx = (x, listOf (refs3 (trs.drop 1)).toArray 0) :: (R, listOf (refsT rws).toArray kR) :: (P, listOf (refs3 trs).toArray kP) :: (rowsT rws ++ rows3 trs)) (hoct : oct = A ++ gfr (tl.take i)) (hlo : lo = (grow lo0 (tl.take i) r0).1) (hrw : pairsT rws = (grow lo0 (tl.take i) r0).2) : VJ x P kP trs A tl lo0 r0 delay cut tdl tcu i m nx
theorem pulled_loop {w : World} {mean : ExcName → Option Value} {mg mb : Str → Option Value} {cut greatest delay z0 : Int} {l0 ld : Nat} {trs : List T3} {P R0 : Addr} {kP kR0 : Nat} {tcu tdl toc0 tlo0 : Tok} {rws0 : List TR}
    {dp un : Nat} {gd : Option (List Code)} {ll : List Env} {base g : Heap} {s : Shared} {L : Addr} {m₀ : Str → Option Value} {Q : Flow → Shared → Prop}
    (hg0 : 0 ≤ greatest) (hg1 : greatest < 4611686018427387904) (hd0 : 0 ≤ delay) (hd1 : delay < 4611686018427387904) (hlen : trs.length ≤ 24) (hlen0 : 1 ≤ trs.length) (hz0 : 0 ≤ z0) (hz1 : z0 ≤ 1000) (hl0 : l0 ≤ 3) (hld : ld ≤ 3)
    (hok : ∀ y ∈ trs, 0 ≤ y.a ∧ y.a ≤ 1000 ∧ 0 ≤ y.b ∧ y.b ≤ 1000 ∧ y.c ≤ 3) (hrw0 : pairsT rws0 = [(greatest - z0, greatest + 1)])
    (B : Below (AX dp un gd ll) base ll g) (X : (hd.heap_39 w.params).In g) (T : Top hd.view_39 LS mean mg mb g) (XB : (hd.heap_39 w.params).In base) (TB : Top hd.view_39 LS mean mg mb base) (D : KtsDicts (ll.filterMap (·.frame)) g)
    (hdp : dp + 60 < recursionLimit) (hun : un + 10 * 60 < cLine) (hbare : AllBare s.gens)
    (F : Fr g L s.heap (fun y => if y = Str.ofString "rows" then some (.ref R0) else if y = Str.ofString "low" then some (.int (greatest - z0) tlo0) else if y = Str.ofString "octets" then some (.bytes (vput greatest l0 ++ vput delay ld ++ vput ((trs.length : Int) - 1) l0 ++ vput z0 l0).toArray toc0) else
      if y = Str.ofString "pairs" then some (.ref P) else if y = Str.ofString "delay" then some (.int delay tdl) else if y = Str.ofString "cut" then some (.int cut tcu) else m₀ y))
    (N : News g L s.heap ((R0, listOf (refsT rws0).toArray kR0) :: (P, listOf (refs3 trs).toArray kP) :: (rowsT rws0 ++ rows3 trs)))
    (ret : ∀ h' tk gens', AllBare gens' → base.StaysIn h' → Q (.ret (.bool true)) ⟨h', gens', s.drawn, tk, s.os⟩) :
    wpN (model PG w) ((AX dp un gd ll).deeper (envAt (hd.heap_39 w.params) 392 L)) (execs ((bodyAt (hd.heap_39 w.params) 392).drop 5) (envAt (hd.heap_39 w.params) 392 L)) Q (fun _ _ => False) s := by
  w_on
  obtain ⟨hb, he⟩ := at_of (K := hd.heap_39 w.params) (f := 392) (by k_is)
  rw [hb, he]
  clear hb he
  simp only [List.drop_succ_cons, List.drop_zero]
  obtain ⟨hp, gg, dd, tt, os⟩ := s
  dsimp only at F N hbare ret
  have v1 := vput_len greatest l0 hl0
  have v2 := vput_len delay ld hld
  have v3 := vput_len ((trs.length : Int) - 1) l0 hl0
  have v4 := vput_len z0 l0 hl0
  obtain ⟨A, hA⟩ : ∃ A, A = vput greatest l0 ++ vput delay ld ++ vput ((trs.length : Int) - 1) l0 ++ vput z0 l0 := ⟨_, rfl⟩
  rw [← hA] at F
  have hAl : A.length ≤ 32 := by rw [hA]; simp only [List.length_append]; omega
  have hAp : 1 ≤ A.length := by rw [hA]; simp only [List.length_append]; omega
  clear v1 v2 v3 v4
  refine wpN_execs_cons (wpN_of ?_)
  repeat' (first | (with_reducible (((with_reducible show wpAny _ _ (exec (Stmt.For _ _ _ _ _) _) _ _ _); (k_here; (rename Fr _ _ _ _ => lF'_q); (with_unfolding_all refine' For_turns lF'_q ?_; k_whole))))) | (with_reducible (((with_reducible show wpAny _ _ (pyIter _) _ _ _); (k_here; (with_reducible show wpAny _ _ (pyIter (Value.ref _)) (fun it s₂ => TurnsAt _ _ _ _ _ _ _ _ _ it s₂) _ _); refine halt ?_)))) | ((with_reducible show wpAny _ _ (subscriptTail _ _ _ _) _ _ _); (k_here; (with_reducible show wpAny _ _ (subscriptTail _ (Expr.Slice _ none none _) (Value.ref _) (Value.ref _)) _ _ _); (with_reducible rename Fr _ _ _ _ => F'_q); (with_reducible rename News _ _ _ _ => N'_q); (refine' slice3 (a := 1) (s := ⟨_, _, _, _, _⟩) F'_q N'_q ?hm_q ?lo_q ?ha_q ?hz_q ?_; (case hm_q => k_mem); (case lo_q => rfl); (case ha_q => first | with_reducible assumption | omega); (case hz_q => first | with_reducible assumption | omega); intro h'_q x'_q F'_q N'_q l1_q; (try k_lt l1_q); (try k_sweep); (try dsimp only)))) | walk_at "mine oneD")
  (with_reducible rename Fr g _ _ _ => F1)
  (with_reducible rename News g _ _ _ => N1)
  obtain ⟨tl, htl⟩ : ∃ tl, tl = trips (trs.drop 1) := ⟨_, rfl⟩
  have htll : tl.length = trs.length - 1 := by rw [htl, List.length_map, List.length_drop]
  have hokd : ∀ y ∈ trs.drop 1, 0 ≤ y.a ∧ y.a ≤ 1000 ∧ 0 ≤ y.b ∧ y.b ≤ 1000 ∧ y.c ≤ 3 := fun y hy => hok y (List.mem_of_mem_drop hy)
  have hok3 : ∀ q ∈ tl, 0 ≤ q.1 ∧ q.1 ≤ 1000 ∧ 0 ≤ q.2.1 ∧ q.2.1 ≤ 1000 ∧ q.2.2 ≤ 3 := fun q hq => by
    rw [htl] at hq
    obtain ⟨y, hy, rfl⟩ := List.mem_map.mp hq
    exact hokd y hy
  (rename Addr => x)
  refine list_J (vs := refs3 (trs.drop 1)) (keep := [(x, listOf (refs3 (trs.drop 1)).toArray 0)]) (VJ x P kP trs A tl (greatest - z0) [(greatest - z0, greatest + 1)] delay cut tdl tcu)
    rfl F1 N1 (list_at N1 (.head _)) (.inl ⟨_, .head _⟩) ?hk ?h0 ?turn ?done
  case hk =>
    rintro i m nx ⟨oct, lo, rws, R, kR, toc, tlo, _, _, _, _, _, rfl, _⟩ p hp
    rw [List.mem_singleton.mp hp]
    exact .head _
  case h0 => exact ⟨A, greatest - z0, rws0, R0, kR0, _, _, rfl, rfl, rfl, rfl, rfl, rfl, by simp [gfr], rfl, hrw0⟩
  case turn =>
    rintro i v m₂ news₁ h₁ tk₁ I it hv ⟨oct, lo, rws, R, kR, toc, tlo, h1, h2, h3, h4, h5, rfl, hoct, hlo, hrw⟩ hc F2 N2
    have F3 : Fr g L _ _ := fr_eq (mp_cons (mp_cons (mp_cons (mp_cons (mp_cons rfl h5) h4) h3) h2) h1) F2
    clear F1 N1 F2 h1 h2 h3 h4 h5
    obtain ⟨y, hy, rfl⟩ : ∃ y, (trs.drop 1)[i]? = some y ∧ v = .ref y.t := by
      rw [List.getElem?_map] at hv
      cases e : (trs.drop 1)[i]? with
      | none => rw [e] at hv; cases hv
      | some y => rw [e] at hv; exact ⟨y, rfl, (Option.some.inj hv).symm⟩
    have hyt : y ∈ trs := List.mem_of_mem_drop (List.mem_of_getElem? hy)
    obtain ⟨o1, o2, o3, o4, o5⟩ := hok y hyt
    have hi : i < tl.length := by
      rcases Nat.lt_or_ge i (trs.drop 1).length with q | q
      · rw [htl, List.length_map]; exact q
      · rw [List.getElem?_eq_none q] at hy; cases hy
    have hyl : tl[i]? = some (y.a, y.b, y.c) := by rw [htl, List.getElem?_map, hy]; rfl
    have htk : tl.take (i + 1) = tl.take i ++ [(y.a, y.b, y.c)] := by rw [List.take_succ, hyl]; rfl
    have hol : oct.length ≤ 32 + 16 * 24 := by
      have := gfr_len (tl.take i) fun q hq => (hok3 q (List.mem_of_mem_take hq)).2.2.2.2
      rw [hoct, List.length_append]
      rw [List.length_take] at this
      omega
    have hrl : rws.length ≤ 30 := by
      have := congrArg List.length hrw
      rw [grow_len, List.length_map, List.length_take] at this
      simp only [List.length_cons, List.length_nil] at this
      omega
    have v1 := vput_len y.a y.c o5
    have v2 := vput_len y.b y.c o5
    replace N2 : News g L h₁ (trO3 y :: (I, it) :: (x, listOf (refs3 (trs.drop 1)).toArray 0) :: (R, listOf (refsT rws).toArray kR) :: (P, listOf (refs3 trs).toArray kP) :: (rowsT rws ++ rows3 trs)) := news_sub N2 fun p hp => by
      rcases List.mem_cons.mp hp with rfl | hp
      · exact .tail _ (.tail _ (.tail _ (.tail _ (List.mem_append_right _ (mem_rows3 hyt)))))
      · exact hp
    repeat' (first | ((with_reducible show wpAny _ _ (binaryOp Operator.Add _ _) _ _ _); (k_here; (with_reducible show wpAny _ _ (binaryOp _ (Value.ref _) (Value.ref _)) _ _ _); (with_reducible rename Fr _ _ _ _ => F'_q); (with_reducible rename News _ _ _ _ => N'_q); (refine' add_rows F'_q N'_q ?h1_q ?h2_q ?hz_q ?_; (case h1_q => k_mem); (case h2_q => k_mem); (case hz_q => ((try simp only [List.length_map]); omega)); intro D'_q h'_q F'_q N'_q l1_q; (try k_lt l1_q); (try k_sweep); (try dsimp only)))) | (with_reducible (((with_reducible show wpAny _ _ (binaryOp Operator.Add _ _) _ _ _); (k_here; (with_reducible show wpAny _ _ (binaryOp _ (Value.bytes (List.toArray _) _) (Value.bytes (List.toArray _) _)) _ _ _); (refine' add_bytesL ?hz_q ?_; (case hz_q => ((try simp only [List.length_append]); omega)); intro _ _; (try dsimp only)))))) | (with_reducible (((with_reducible show wpAny _ _ (call _ _) _ _ _); (k_here; (k_dflt (show wpAny _ _ (call (Value.ref 368) [Value.int _ _, Value.int ((_ : Nat) : Int) _]) _ _ _)); k_dflt (refine' ConE.callT (Con.toE (law_put ?h0_q ?h1_q ?hl_q)) ?kB_q ?kF_q ?kX_q ?kT_q ?kN_q ?kf_q ?kk_q ?kr_q ?kd_q ?ku_q ?_; (case kB_q => assumption); (case kF_q => k_asm); (case kX_q => assumption); (case kT_q => assumption); (case kN_q => k_asm); (case kf_q => exact rfl); (case kk_q => exact rfl); (case kr_q => exact fun p hp => nomatch hp); (case kd_q => walk_at "mine room"); (case ku_q => walk_at "mine room"); (case h0_q => first | with_reducible assumption | omega); (case h1_q => first | with_reducible assumption | omega); (case hl_q => first | with_reducible assumption | omega); (intro t'_q h'_q tk'_q F'_q N'_q; (try k_sweep); (try dsimp only))))))) | walk_at "mine oneD")
    (with_reducible rename Fr g _ _ _ => F3)
    (with_reducible rename News g _ _ _ => N3)
    have N4 := turn3_fin (I := I) (x := x) (P := P) (trs := trs) (rws := rws) N3 (by k_mem) (by k_mem) (by k_mem) (.head _) (by k_mem) (by walk_at "mine sub") (by walk_at "mine sub")
    refine StepO.go (.inl rfl) F3 N4 (List.forall_mem_cons.mpr ⟨by simp, List.forall_mem_cons.mpr ⟨by simp, List.forall_mem_cons.mpr ⟨by simp, all_app (rowsT_cls (by simp)) (rows3_cls (by simp))⟩⟩⟩) ⟨_, _, _, _, _, _, _, rfl, rfl, rfl, rfl, rfl, rfl, ?_, ?_, ?_⟩
    · rw [htk, gfr_append, hoct]
      simp [gfr]
    · rw [htk, grow_snoc]
      dsimp only
      rw [← hlo]
      omega
    · rw [htk, grow_snoc, ← hlo, ← hrw]
      show (lo - y.a - 2 - y.b, lo - y.a - 2 + 1) :: pairsT rws = (lo - (y.a + 2) - y.b, lo - (y.a + 2) + 1) :: pairsT rws
      rw [show lo - y.a - 2 = lo - (y.a + 2) from by omega]
  case done =>
    rintro h' tk m₂ news₁ F2 N2 ⟨oct, lo, rws, R, kR, toc, tlo, h1, h2, h3, h4, h5, rfl, hoct, hlo, hrw⟩
    clear F1 N1
    dsimp only
    have e1 : tl.take (refs3 (trs.drop 1)).length = tl := List.take_of_length_le (by rw [htl, List.length_map, List.length_map]; exact Nat.le_refl _)
    rw [e1] at hoct hlo hrw
    have hfr : oct = gframe greatest delay l0 ld z0 tl := by
      rw [hoct, hA]
      unfold gframe
      rw [show ((tl.length : Nat) : Int) = (trs.length : Int) - 1 from by omega]
    have hokG : OkG tl := fun q hq => by
      have := hok3 q hq
      refine ⟨this.1, by omega, this.2.2.1, by omega, this.2.2.2.2⟩
    have hpk := pack_gframe [] [] (e := greatest) (dl := delay) (z := z0) (l0 := l0) (ld := ld) (tl := tl) hg0 hg1 hd0 hd1 hz0 (by omega) hl0 hld (by omega) hokG
    simp only [List.nil_append, List.append_nil, List.length_nil, Nat.zero_add] at hpk
    rw [← hfr, ← hlo, ← hrw] at hpk
    have hcut : ∀ j, j < oct.length → pack (oct.take j) 0 = none := fun j hj => by
      rw [hfr] at hj ⊢
      exact pack_cut hg0 hg1 hd0 hd1 hz0 (by omega) hl0 hld (by omega) hokG j hj
    have hol := gfr_len tl fun q hq => (hok3 q hq).2.2.2.2
    have hoc : oct.length = A.length + (gfr tl).length := by rw [hoct, List.length_append]
    have hrl : rws.length ≤ 30 := by
      have := congrArg List.length hrw
      rw [grow_len, List.length_map] at this
      simp only [List.length_cons, List.length_nil] at this
      omega
    have N3 : News g L h' ((R, listOf (refsT rws).toArray kR) :: rowsT rws) := news_sub N2 fun p hp => by
      rcases List.mem_cons.mp hp with rfl | hp
      · exact .tail _ (.head _)
      · exact .tail _ (.tail _ (.tail _ (List.mem_append_left _ hp)))
    have F3 : Fr g L _ _ := fr_eq (mp_cons (mp_cons (mp_cons (mp_cons (mp_cons rfl h4) h3) h2) h5) h1) F2
    have done := fun tk => pulled_tries (s := ⟨_, gg, dd, tk, os⟩) (by omega) (by omega) hcut hpk hrl B X T XB TB D hdp hun hbare F3 N3 ret
    obtain ⟨hb, he⟩ := at_of (K := hd.heap_39 w.params) (f := 392) (by k_is)
    rw [hb, he] at done
    simp only [List.drop_succ_cons, List.drop_zero] at done
    exact done _
end Mine
end
section
open PySem PySem.W PyProof.Rows PySem.Calls
set_option maxRecDepth 100000
set_option maxHeartbeats 1000000
namespace Mine
set_option hygiene false in
local macro_rules | `(tactic| walk_at "mine mem3") => `(tactic| first | exact List.Mem.head _ | assumption | (refine' List.Mem.tail _ ?_; walk_at "mine mem3"))
theorem pulled_rest {w : World} {mean : ExcName → Option Value} {mg mb : Str → Option Value} {cut greatest delay : Int} {trs : List T3} {y0 yl : T3} {P : Addr} {kP : Nat} {tgr tcu tdl : Tok}
    {dp un : Nat} {gd : Option (List Code)} {ll : List Env} {base g : Heap} {s : Shared} {L : Addr} {m₀ : Str → Option Value} {Q : Flow → Shared → Prop}
    (hg0 : 0 ≤ greatest) (hg1 : greatest < 4611686018427387904) (hd0 : 0 ≤ delay) (hd1 : delay < 4611686018427387904) (hlen : trs.length ≤ 24) (hlen0 : 1 ≤ trs.length) (hy0 : trs[0]? = some y0) (hyl : trs[trs.length - 1]? = some yl)
    (hok : ∀ y ∈ trs, 0 ≤ y.a ∧ y.a ≤ 1000 ∧ 0 ≤ y.b ∧ y.b ≤ 1000 ∧ y.c ≤ 3)
    (B : Below (AX dp un gd ll) base ll g) (X : (hd.heap_39 w.params).In g) (T : Top hd.view_39 LS mean mg mb g) (XB : (hd.heap_39 w.params).In base) (TB : Top hd.view_39 LS mean mg mb base) (D : KtsDicts (ll.filterMap (·.frame)) g)
    (hdp : dp + 60 < recursionLimit) (hun : un + 10 * 60 < cLine) (hbare : AllBare s.gens)
    (F : Fr g L s.heap (fun y => if y = Str.ofString "pairs" then some (.ref P) else if y = Str.ofString "greatest" then some (.int greatest tgr) else if y = Str.ofString "delay" then some (.int delay tdl) else if y = Str.ofString "cut" then some (.int cut tcu) else m₀ y))
    (N : News g L s.heap ((P, listOf (refs3 trs).toArray kP) :: rows3 trs))
    (ret : ∀ h' tk gens', AllBare gens' → base.StaysIn h' → Q (.ret (.bool true)) ⟨h', gens', s.drawn, tk, s.os⟩) :
    wpN (model PG w) ((AX dp un gd ll).deeper (envAt (hd.heap_39 w.params) 392 L)) (execs ((bodyAt (hd.heap_39 w.params) 392).drop 2) (envAt (hd.heap_39 w.params) 392 L)) Q (fun _ _ => False) s := by
  w_on
  obtain ⟨hb, he⟩ := at_of (K := hd.heap_39 w.params) (f := 392) (by k_is)
  rw [hb, he]
  clear hb he
  simp only [List.drop_succ_cons, List.drop_zero]
  obtain ⟨hp, gg, dd, tt, os⟩ := s
  dsimp only at F N hbare ret
  have hm0 : y0 ∈ trs := List.mem_of_getElem? hy0
  have hml : yl ∈ trs := List.mem_of_getElem? hyl
  obtain ⟨o1, o2, o3, o4, o5⟩ := hok _ hm0
  obtain ⟨p1, p2, p3, p4, p5⟩ := hok _ hml
  have v1 := vput_len greatest y0.c o5
  have v2 := vput_len delay yl.c p5
  have v3 := vput_len ((trs.length : Int) - 1) y0.c o5
  have v4 := vput_len y0.b y0.c o5
  replace N : News g L hp (trO3 y0 :: trO3 yl :: (P, listOf (refs3 trs).toArray kP) :: rows3 trs) := news_sub N fun p hp => by
    simp only [List.mem_cons] at hp ⊢
    rcases hp with rfl | rfl | rfl | hp
    · exact .inr (mem_rows3 hm0)
    · exact .inr (mem_rows3 hml)
    · exact .inl rfl
    · exact .inr hp
  refine wpN_execs_cons (wpN_of ?_)
  repeat' (first | (with_reducible (((with_reducible show wpAny _ _ (binaryOp Operator.Add _ _) _ _ _); (k_here; (with_reducible show wpAny _ _ (binaryOp _ (Value.bytes (List.toArray _) _) (Value.bytes (List.toArray _) _)) _ _ _); (refine' add_bytesL ?hz_q ?_; (case hz_q => ((try simp only [List.length_append]); omega)); intro _ _; (try dsimp only)))))) | ((with_reducible show wpAny _ _ (call _ _) _ _ _); (k_here; (with_reducible show wpAny _ _ (call (Value.builtin "len") [Value.ref _]) _ _ _); (refine' len3 ?N_q ?hm_q ?hz_q ?_; (case N_q => k_asm); (case hm_q => k_mem); (case hz_q => first | with_reducible assumption | omega); intro _ _; (try dsimp only)))) | (with_reducible (((with_reducible show wpAny _ _ (call _ _) _ _ _); (k_here; (k_dflt (show wpAny _ _ (call (Value.ref 368) [Value.int _ _, Value.int ((_ : Nat) : Int) _]) _ _ _)); k_dflt (refine' ConE.callT (Con.toE (law_put ?h0_q ?h1_q ?hl_q)) ?kB_q ?kF_q ?kX_q ?kT_q ?kN_q ?kf_q ?kk_q ?kr_q ?kd_q ?ku_q ?_; (case kB_q => assumption); (case kF_q => k_asm); (case kX_q => assumption); (case kT_q => assumption); (case kN_q => k_asm); (case kf_q => exact rfl); (case kk_q => exact rfl); (case kr_q => exact fun p hp => nomatch hp); (case kd_q => walk_at "mine room"); (case ku_q => walk_at "mine room"); (case h0_q => first | with_reducible assumption | omega); (case h1_q => first | with_reducible assumption | omega); (case hl_q => first | with_reducible assumption | omega); (intro t'_q h'_q tk'_q F'_q N'_q; (try k_sweep); (try dsimp only))))))) | ((with_reducible show wpAny _ _ (subscriptTail _ _ _ _) _ _ _); (k_here; (with_reducible show wpAny _ _ (subscriptTail _ _ (Value.ref _) (Value.int 0 _)) _ _ _); (refine' item3_0 ?N_q ?hm_q ?hy_q ?_; (case N_q => k_asm); (case hm_q => k_mem); (case hy_q => with_reducible assumption); k_whole))) | ((with_reducible show wpAny _ _ (subscriptTail _ _ _ _) _ _ _); (k_here; (with_reducible show wpAny _ _ (subscriptTail _ _ (Value.ref _) (Value.int (-1) _)) _ _ _); (refine' item3_last ?N_q ?hm_q ?hi_q ?hz_q ?hy_q ?_; (case N_q => k_asm); (case hm_q => k_mem); (case hi_q => rfl); (case hz_q => first | with_reducible assumption | omega); (case hy_q => with_reducible assumption); k_whole))) | walk_at "mine oneD")
  refine wpN_execs_cons (wpN_of ?_)
  repeat' (first | ((with_reducible show wpAny _ _ (subscriptTail _ _ _ _) _ _ _); (k_here; (with_reducible show wpAny _ _ (subscriptTail _ _ (Value.ref _) (Value.int 0 _)) _ _ _); (refine' item3_0 ?N_q ?hm_q ?hy_q ?_; (case N_q => k_asm); (case hm_q => k_mem); (case hy_q => with_reducible assumption); k_whole))) | walk_at "mine oneD")
  refine wpN_execs_cons (wpN_of ?_)
  repeat' walk_at "mine oneD"
  (with_reducible rename Fr g _ _ _ => F1)
  (with_reducible rename News g _ _ _ => N1)
  obtain ⟨rws0, hrw0, N2⟩ := pull_start (P := P) (k := kP) (trs := trs) N1 (by k_mem) (fun p hp => .tail _ (.tail _ (.tail _ hp)))
  clear N1
  have F3 := fr_pick (x := Str.ofString "rows") (v := .ref _) (fr_pick (x := Str.ofString "low") (v := .int (greatest - y0.b) _) (fr_pick (x := Str.ofString "octets") (v := .bytes (vput greatest y0.c ++ vput delay yl.c ++ vput ((trs.length : Int) - 1) y0.c ++ vput y0.b y0.c).toArray _) (fr_pick (x := Str.ofString "pairs") (v := .ref P) (fr_pick (x := Str.ofString "delay") (v := .int delay tdl) (fr_pick (x := Str.ofString "cut") (v := .int cut tcu) F1 rfl) rfl) rfl) rfl) rfl) rfl
  have done := fun tk => pulled_loop (s := ⟨_, gg, dd, tk, os⟩) hg0 hg1 hd0 hd1 hlen hlen0 o3 o4 o5 p5 hok hrw0 B X T XB TB D hdp hun hbare F3 N2 ret
  obtain ⟨hb, he⟩ := at_of (K := hd.heap_39 w.params) (f := 392) (by k_is)
  rw [hb, he] at done
  simp only [List.drop_succ_cons, List.drop_zero] at done
  exact done _
end Mine
end
section
open PySem PySem.W PyProof.Rows PySem.Calls
set_option maxRecDepth 100000
set_option maxHeartbeats 1000000
namespace Mine
noncomputable def trip (n : Int) : Int × Int × Nat := (n % 6 * (1 + n / 36 % 9), n / 6 % 6 * (1 + n / 36 % 9), (n / 324 % 4).toNat)
section
open LCg
theorem comp3 {prog : Program} {w : World} {A : Around} {s : Shared} {h₀ : Heap} {L : Addr} {m : Str → Option Value} {env : Env} {elt : Expr} {x : Str} {scope : Scope} {cl : List (Str × Addr)} {S : List (Addr × Obj) → Prop} {Fin : List Value → List (Addr × Obj) → Prop}
    {vsN : List Value} {ns : List Int} {news0 : List (Addr × Obj)} (hI : IntsAre vsN ns) (hS : ∀ nw, S nw)
    (helt : ∀ (n : Int) (t : Tok) (C : Addr) (oC : Obj) (m₂ : Str → Option Value) (h : Heap) (tk : Nat) (nw : List (Addr × Obj)) (Q' E' : Value → Shared → Prop), NsObj oC m₂ → m₂ x = some (.int n t) → Fr h₀ L h m → News h₀ L h ((C, oC) :: nw) →
      (∀ Ta h' tk' ta tb tc, Fr h₀ L h' m → News h₀ L h' ((Ta, tupO [.int (trip n).1 ta, .int (trip n).2.1 tb, .int (n / 324 % 4) tc]) :: (C, oC) :: nw) → (∀ p ∈ (C, oC) :: nw, @LT.lt Nat _ p.1 Ta) → Q' (.ref Ta) { s with heap := h', toks := tk' }) →
      wpAny (model prog w) A (eval elt (compEnvC scope cl C env)) Q' E' { s with heap := h, toks := tk })
    (fin : ∀ trs, trips trs = ns.map trip → Fin (refs3 trs) (rows3 trs ++ news0)) :
    ∀ (k i : Nat) (trs : List T3), i + k = ns.length → trips trs = (ns.take i).map trip → CompRest prog w A h₀ L m env elt x scope cl s S (fun i v => vsN.toArray[i]? = some v) Fin k i (refs3 trs) (rows3 trs ++ news0) := by
  intro k
  induction k with
  | zero =>
    intro i trs hi ht
    refine CompRest.zero (fin trs ?_)
    rw [ht, List.take_of_length_le (by omega)]
  | succ k ih =>
    intro i trs hi ht
    refine CompRest.succ fun v I oI C oC D m₂ h tk E' hP hNs hm2 F N off hne => ?_
    obtain ⟨n, t, rfl, hn⟩ := hI.at i v (by simpa using hP)
    refine helt n t C oC m₂ h tk ((I, oI) :: (D, lst (refs3 trs)) :: (rows3 trs ++ news0)) _ E' hNs hm2 F (news_sub N fun p hp => ?_) fun Ta h' tk' ta tb tc F' N' hlt => ?_
    · rcases List.mem_cons.mp hp with rfl | hp
      · exact .tail _ (.head _)
      · rcases List.mem_cons.mp hp with rfl | hp
        · exact .head _
        · exact .tail _ (.tail _ hp)
    · have hc : n / 324 % 4 = (((n / 324 % 4).toNat : Nat) : Int) := by omega
      rw [hc] at N'
      have ht' : trips (trs ++ [⟨Ta, (trip n).1, (trip n).2.1, (n / 324 % 4).toNat, ta, tb, tc⟩]) = (ns.take (i + 1)).map trip := by
        rw [trips, List.map_append, List.take_add_one, hn, List.map_append]
        show trips trs ++ _ = _
        rw [ht]; rfl
      have nx := ih (i + 1) (trs ++ [⟨Ta, (trip n).1, (trip n).2.1, (n / 324 % 4).toNat, ta, tb, tc⟩]) (by omega) ht'
      have er : refs3 trs ++ [.ref Ta] = refs3 (trs ++ [⟨Ta, (trip n).1, (trip n).2.1, (n / 324 % 4).toNat, ta, tb, tc⟩]) := by simp
      rw [← er] at nx
      refine CompEnd.intro F' N' _ (fun p hp => ?_) (Off3.of fun p hp => ?_) (hS _) nx
      · simp only [rows3, List.map_append, List.map_cons, List.map_nil, List.mem_cons, List.mem_append, List.not_mem_nil, or_false] at hp
        rcases hp with rfl | rfl | rfl | (hp | rfl) | hp
        · exact .tail _ (.tail _ (.head _))
        · exact .tail _ (.head _)
        · exact .tail _ (.tail _ (.tail _ (.head _)))
        · exact .tail _ (.tail _ (.tail _ (.tail _ (List.mem_append_left _ hp))))
        · exact .head _
        · exact .tail _ (.tail _ (.tail _ (.tail _ (List.mem_append_right _ hp))))
      · simp only [rows3, List.map_append, List.map_cons, List.map_nil, List.mem_cons, List.mem_append, List.not_mem_nil, or_false] at hp
        have z := off.mem
        rcases hp with (hp | rfl) | hp
        · exact z p (List.mem_append_left _ hp)
        · exact ⟨Ne.symm (Nat.ne_of_lt (hlt (I, oI) (.tail _ (.head _)))), Ne.symm (Nat.ne_of_lt (hlt (C, oC) (.head _))), Ne.symm (Nat.ne_of_lt (hlt (D, _) (.tail _ (.tail _ (.head _)))))⟩
        · exact z p (List.mem_append_right _ hp)
end
end Mine
end
section
open PySem PySem.W PyProof.Rows PySem.Calls
set_option maxRecDepth 100000
set_option maxHeartbeats 1000000
namespace Mine
theorem trip_range (n : Int) : 0 ≤ (trip n).1 ∧ (trip n).1 ≤ 1000 ∧ 0 ≤ (trip n).2.1 ∧ (trip n).2.1 ≤ 1000 ∧ (trip n).2.2 ≤ 3 := by
  have h1 := Int.emod_nonneg n (show (6 : Int) ≠ 0 by decide)
  have h2 := Int.emod_lt_of_pos n (show (0 : Int) < 6 by decide)
  have h3 := Int.emod_nonneg (n / 6) (show (6 : Int) ≠ 0 by decide)
  have h4 := Int.emod_lt_of_pos (n / 6) (show (0 : Int) < 6 by decide)
  have h5 := Int.emod_nonneg (n / 36) (show (9 : Int) ≠ 0 by decide)
  have h6 := Int.emod_lt_of_pos (n / 36) (show (0 : Int) < 9 by decide)
  show 0 ≤ n % 6 * (1 + n / 36 % 9) ∧ n % 6 * (1 + n / 36 % 9) ≤ 1000 ∧ 0 ≤ n / 6 % 6 * (1 + n / 36 % 9) ∧ n / 6 % 6 * (1 + n / 36 % 9) ≤ 1000 ∧ (n / 324 % 4).toNat ≤ 3
  generalize n % 6 = a at *
  generalize n / 6 % 6 = b at *
  generalize n / 36 % 9 = c at *
  have ha : a = 0 ∨ a = 1 ∨ a = 2 ∨ a = 3 ∨ a = 4 ∨ a = 5 := by omega
  have hb : b = 0 ∨ b = 1 ∨ b = 2 ∨ b = 3 ∨ b = 4 ∨ b = 5 := by omega
  refine ⟨?_, ?_, ?_, ?_, by omega⟩
  · rcases ha with rfl | rfl | rfl | rfl | rfl | rfl <;> omega
  · rcases ha with rfl | rfl | rfl | rfl | rfl | rfl <;> omega
  · rcases hb with rfl | rfl | rfl | rfl | rfl | rfl <;> omega
  · rcases hb with rfl | rfl | rfl | rfl | rfl | rfl <;> omega
theorem truthyG {prog : Program} {w : World} {A : Around} {E : Value → Shared → Prop} {s : Shared} {h₀ : Heap} {L D : Addr} {m : Str → Option Value} {its : Array Value} {n : Nat} {b : Bool} {Q : Bool → Shared → Prop} (F : Fr h₀ L s.heap m) (hm : h₀.get? D = some (listOf its n)) (hz : its.size ≤ 16777216) (hb : (!its.isEmpty) = b) (h : ∀ k, Q b { s with toks := k }) :
    wpAny (model prog w) A (truthy (.ref D)) Q E s := by
  subst hb
  exact wpAny_truthy_list (l := D) ⟨_, F.keep _ _ hm, rfl, _, rfl⟩ (by omega) (h _)
theorem pull_zero {g h : Heap} {L P T : Addr} {n : Nat} {ta tb tc : Tok} (N : News g L h [(P, listOf #[.ref T] n), (T, tupO [.int 0 ta, .int 0 tb, .int 0 tc])]) : ∃ trs : List T3, trips trs = [(0, 0, 0)] ∧ News g L h ((P, listOf (refs3 trs).toArray n) :: rows3 trs) :=
  ⟨[⟨T, 0, 0, 0, ta, tb, tc⟩], rfl, N⟩
theorem law_pulled {w : World} {mean : ExcName → Option Value} {mg mb : Str → Option Value} {greatest delay cut : Int} {tgr tdl tcu : Tok} {ln : Addr} {vsN : List Value} {ns : List Int} {nN : Nat}
    (hg0 : 0 ≤ greatest) (hg1 : greatest < 4611686018427387904) (hd0 : 0 ≤ delay) (hd1 : delay < 4611686018427387904) (hI : IntsAre vsN ns) (hlen : ns.length ≤ 24)
    {dp un : Nat} {gd : Option (List Code)} {l : List Env} {base g : Heap} {s : Shared} {R : Result → Shared → Prop}
    (B : Below (AX dp un gd l) base l g) (X : (hd.heap_39 w.params).In g) (T : Top hd.view_39 LS mean mg mb g) (XB : (hd.heap_39 w.params).In base) (TB : Top hd.view_39 LS mean mg mb base) (D : KtsDicts (l.filterMap (·.frame)) g)
    (Kp : Kept g s.heap) (hrd : g.get? ln = some (listOf vsN.toArray nN)) (hbare : AllBare s.gens) (hdp : dp + 61 < recursionLimit) (hun : un + 10 * 61 < cLine)
    (ret : ∀ h' tk gens', AllBare gens' → base.StaysIn h' → R (.ok (.ret (.bool true))) ⟨h', gens', s.drawn, tk, s.os⟩) :
    codeN (model PG w) (AX dp un gd l) (.call (.ref 392) ⟨[.int greatest tgr, .int delay tdl, .ref ln, .int cut tcu], []⟩) R s := by
  w_on
  have N : Led g s.heap [] := fun _ h => nomatch h
  walk_at "mine enterN"
  refine wpN_mono (E := fun _ _ => False) ?_ (fun _ _ h => h) (fun _ _ h => h.elim)
  refine wpN_execs_cons (wpN_of ?_)
  repeat' walk_at "mine oneD"
  (with_reducible rename Fr g _ _ _ => F1)
  (with_reducible rename News g _ _ _ => N1)
  replace F1 := fr_pick (x := Str.ofString "pairs") (v := .ref _) (fr_pick (x := Str.ofString "greatest") (v := .int greatest tgr) (fr_pick (x := Str.ofString "delay") (v := .int delay tdl) (fr_pick (x := Str.ofString "cut") (v := .int cut tcu) (fr_pick (x := Str.ofString "numbers") (v := .ref ln) F1 rfl) rfl) rfl) rfl) rfl
  have hvl := hI.length
  have hz : vsN.toArray.size ≤ 16777216 := by rw [List.size_toArray]; omega
  refine wpN_execs_cons (wpN_of ?_)
  obtain ⟨m₀, hm₀⟩ := fr_map F1
  refine exec_join F1 (fun m nx => ∃ trs P kP, trips trs = (if ns = [] then [(0, 0, 0)] else ns.map trip) ∧ m (Str.ofString "pairs") = some (.ref P) ∧ (∀ y, [Str.ofString "pairs"].contains y = false → m y = m₀ y) ∧ nx = (P, listOf (refs3 trs).toArray kP) :: rows3 trs) ?_ ?_
  · rcases Classical.em (ns = []) with hns | hns
    · have hb : (!vsN.toArray.isEmpty) = false := by
        have : vsN = [] := List.length_eq_zero_iff.mp (by rw [hvl, hns]; rfl)
        rw [this]; rfl
      repeat' (first | (with_reducible (((with_reducible show wpAny _ _ (truthy _) _ _ _); (k_here; (with_reducible show wpAny _ _ (truthy (Value.ref _)) _ _ _); (refine' truthyG ?F_q ?hm_q ?hz_q ?hb_q ?_; (case F_q => k_asm); (case hm_q => assumption); (case hz_q => assumption); (case hb_q => assumption); intro _; (try dsimp only)))))) | walk_at "mine oneD")
      (with_reducible rename Fr g _ _ _ => F2)
      (with_reducible rename News g _ _ _ => N2)
      obtain ⟨trs, ht, N3⟩ := pull_zero N2
      exact JoinPost.intro F2 N3 ⟨trs, _, _, by rw [if_pos hns]; exact ht, rfl, fun y hy => by rw [hm₀], rfl⟩
    · have hb : (!vsN.toArray.isEmpty) = true := by
        cases vsN with
        | nil => exact absurd (List.length_eq_zero_iff.mp hvl.symm) hns
        | cons v r => rfl
      repeat' (first | (with_reducible (((with_reducible show wpAny _ _ (exec _ _) _ _ _); (k_here; (with_reducible show wpAny _ _ (exec (Stmt.Assign _ (Expr.ListComp _ _ _ _) _) _) _ _ _); refine halt ?_)))) | (with_reducible (((with_reducible show wpAny _ _ (truthy _) _ _ _); (k_here; (with_reducible show wpAny _ _ (truthy (Value.ref _)) _ _ _); (refine' truthyG ?F_q ?hm_q ?hz_q ?hb_q ?_; (case F_q => k_asm); (case hm_q => assumption); (case hz_q => assumption); (case hb_q => assumption); intro _; (try dsimp only)))))) | walk_at "mine oneD")
      refine halt ?_
      refine LCg.Assign_ListComp_U (F₀ := F1) (by rfl) (by with_unfolding_all rfl) (by with_unfolding_all rfl) (by decide) (by rfl) (by decide) (by rfl) (by rfl) (by rfl) ?_
      repeat' walk_at "mine oneD"
      refine LCg.CompSrc.base (its := vsN.toArray) (by rfl) F1 N1 ⟨_, hrd, rfl, _, rfl⟩ (by rw [sizeLine_eq]; exact hz) fun gg => ?_
      refine comp3 (vsN := vsN) (ns := ns) hI (fun _ => .inl ⟨_, hrd, rfl, _, rfl⟩) ?helt ?fin vsN.toArray.size 0 [] (by rw [List.size_toArray]; omega) rfl
      case helt =>
        intro n t C oC m₂ h tk nw Q' E' hoC hm2 F2 N2 hk
        clear F1 N1
        repeat' (first | (with_reducible (((with_reducible show wpAny _ _ (binaryOp Operator.FloorDiv _ _) _ _ _); (k_here; (with_reducible show wpAny _ _ (binaryOp _ (Value.int _ _) (Value.int _ _)) _ _ _); (refine' div_lit ?hb_q ?hp_q ?_; (case hb_q => decide); (case hp_q => exact PyProof.noPylong_of_log2 (by decide +kernel))))))) | (with_reducible (((with_reducible show wpAny _ _ (binaryOp Operator.Mod _ _) _ _ _); (k_here; (with_reducible show wpAny _ _ (binaryOp _ (Value.int _ _) (Value.int _ _)) _ _ _); (refine' mod_lit ?hb_q ?_; (case hb_q => decide)))))) | (with_reducible (((with_reducible show wpAny _ _ (binaryOp Operator.Mult _ _) _ _ _); (k_here; (with_reducible show wpAny _ _ (binaryOp _ (Value.int _ _) (Value.int _ _)) _ _ _); (refine' mul_b ?h1_q ?h2_q ?_; (case h1_q => first | with_reducible assumption | omega); (case h2_q => first | with_reducible assumption | omega)))))) | walk_at "mine oneD")
        refine hk _ _ _ _ _ _ (by assumption) (by assumption) fun p hp => ?_
        have l1 := ‹C < _ ∧ _›
        rcases List.mem_cons.mp hp with rfl | hp
        · exact l1.1
        · exact allLt_mem l1.2 p hp
      case fin =>
        intro trs ht D h tk F2 N2 off
        have N3 : News g _ h ((D, listOf (refs3 trs).toArray (refs3 trs).length) :: rows3 trs) := news_sub N2 fun p hp => by
          rcases List.mem_cons.mp hp with rfl | hp
          · exact .head _
          · exact .tail _ (List.mem_append_left _ hp)
        clear N2 off N1 F1
        dsimp only
        repeat' walk_at "mine oneD"
        refine JoinPost.intro F2 N3 ⟨trs, D, _, by rw [if_neg hns]; exact ht, rfl, fun y hy => ?_, rfl⟩
        rw [hm₀]
        exact if_neg fun e => by subst e; exact absurd hy (by decide)
  · rintro h' tk m₁ news₁ F2 N2 ⟨trs, P, kP, ht, hmp, hm, rfl⟩
    rw [trk1 (st := []) hmp hm] at F2
    subst hm₀
    clear F1 N1
    dsimp only
    have htl : trs.length = if ns = [] then 1 else ns.length := by
      have := congrArg List.length ht
      rw [List.length_map] at this
      rw [this]
      split
      · rfl
      · rw [List.length_map]
    have hlen0 : 1 ≤ trs.length := by
      rw [htl]
      split
      · exact Nat.le_refl _
      · rename_i hns
        exact List.length_pos_iff.mpr hns
    have hlen1 : trs.length ≤ 24 := by
      rw [htl]
      split <;> omega
    have hok : ∀ y ∈ trs, 0 ≤ y.a ∧ y.a ≤ 1000 ∧ 0 ≤ y.b ∧ y.b ≤ 1000 ∧ y.c ≤ 3 := fun y hy => by
      have hm : (y.a, y.b, y.c) ∈ trips trs := List.mem_map.mpr ⟨y, hy, rfl⟩
      rw [ht] at hm
      split at hm
      · have e := List.mem_singleton.mp hm
        injection e with e1 e2
        injection e2 with e2 e3
        omega
      · obtain ⟨n, _, e⟩ := List.mem_map.mp hm
        have b := trip_range n
        rw [e] at b
        exact b
    obtain ⟨y0, hy0⟩ : ∃ y0, trs[0]? = some y0 := ⟨trs[0], List.getElem?_eq_getElem _⟩
    obtain ⟨yl, hyl⟩ : ∃ yl, trs[trs.length - 1]? = some yl := ⟨trs[trs.length - 1], List.getElem?_eq_getElem _⟩
    have F3 := fr_pick (x := Str.ofString "pairs") (v := .ref P) (fr_pick (x := Str.ofString "greatest") (v := .int greatest tgr) (fr_pick (x := Str.ofString "delay") (v := .int delay tdl) (fr_pick (x := Str.ofString "cut") (v := .int cut tcu) F2 rfl) rfl) rfl) rfl
    have done := fun tk => pulled_rest (Q := fun fl s' => R (.ok (.ret (match fl with | .ret v => v | _ => .none))) s') (s := ⟨h', s.gens, s.drawn, tk, s.os⟩) hg0 hg1 hd0 hd1 hlen1 hlen0 hy0 hyl hok B X T XB TB D (by omega) (by omega) hbare F3 N2 fun h' tk gens' hb hK => ret h' tk gens' hb hK
    obtain ⟨hb, he⟩ := at_of (K := hd.heap_39 w.params) (f := 392) (by k_is)
    rw [hb, he] at done
    simp only [List.drop_succ_cons, List.drop_zero] at done
    exact done _
end Mine
end
section
open PySem PySem.W PyProof.Rows PySem.Calls
set_option maxRecDepth 100000
set_option maxHeartbeats 1000000
namespace Mine
noncomputable def envAtC (K : Frag) (f L : Addr) : Env := match K.lookup f with
  | some ⟨_, _, .func fd, _⟩ => envOfC fd.qualname fd.scope L f fd.code
  | _ => default
theorem atC_of {K : Frag} {name qual : Str} {params : Arguments} {body : List Stmt} {scope : Scope} {dV kV doc pm cdv ct oc : Value} {an od : Option Addr} {osl : Array (Option Value)} {f : Addr} (ho : K.lookup f = some ⟨oc, od, .func (fnOf name qual params body scope dV kV doc pm an cdv ct), osl⟩) : bodyAt K f = body ∧ ∀ L, envAtC K f L = envOfC qual scope L f cdv := by
  constructor
  · unfold bodyAt; rw [ho]
  · intro L; unfold envAtC; rw [ho]
theorem wpN_not_call {M : Model} {A : Around} {E : Value → Shared → Prop} {s : Shared} {env : Env} {f : Expr} {args : List Expr} {kws : List Keyword} {pos p' : Pos} {whole : Sem Value} {Q : Bool → Shared → Prop}
    (h : wpN M A (eval (.Call f args kws pos) env) (fun v s₁ => v = .bool true ∧ Q false s₁) E s) : wpN M A (isTrue (.UnaryOp .Not (.Call f args kws pos) p') env whole) Q E s := by
  rw [arm_isTrue_UnaryOp]
  refine wpN_bind ?_
  show wpN M A (do let v ← eval (.Call f args kws pos) env; standAt (Expr.Call f args kws pos).pos; holding [v] (truthy v)) _ E s
  refine wpN_bind (wpN_mono h (fun v s₁ hv => ?_) fun _ _ x => x)
  obtain ⟨rfl, hq⟩ := hv
  refine wpN_any (wpAny_standAt (wpN_of (wpAny_holding ?_)))
  exact wpAny_of_eq (a := true) rfl (wpN_pure hq)
theorem menu7 (k : Int) (h0 : 0 ≤ k) (h1 : k < 7) : 0 ≤ ([0, 3, 62, 16380, 1073741819, 10 ^ Int.toNat 12, 4611686018427387904 - 1073741824] : List Int).getD k.toNat 0 ∧ ([0, 3, 62, 16380, 1073741819, 10 ^ Int.toNat 12, 4611686018427387904 - 1073741824] : List Int).getD k.toNat 0 ≤ 4611686017353646080 := by
  have h : k = 0 ∨ k = 1 ∨ k = 2 ∨ k = 3 ∨ k = 4 ∨ k = 5 ∨ k = 6 := by omega
  rcases h with rfl | rfl | rfl | rfl | rfl | rfl | rfl <;> decide
theorem menu4 (k : Int) (h0 : 0 ≤ k) (h1 : k < 4) : 0 < ([64, 16384, 1 * 2 ^ Int.toNat 30, 1 * 2 ^ Int.toNat 62] : List Int).getD k.toNat 0 ∧ ([64, 16384, 1 * 2 ^ Int.toNat 30, 1 * 2 ^ Int.toNat 62] : List Int).getD k.toNat 0 ≤ 4611686018427387904 := by
  have h : k = 0 ∨ k = 1 ∨ k = 2 ∨ k = 3 := by omega
  rcases h with rfl | rfl | rfl | rfl <;> decide
theorem menu4' (k : Int) : 0 < ([64, 16384, 1 * 2 ^ Int.toNat 30, 1 * 2 ^ Int.toNat 62] : List Int).getD (k % 4).toNat 0 ∧ ([64, 16384, 1 * 2 ^ Int.toNat 30, 1 * 2 ^ Int.toNat 62] : List Int).getD (k % 4).toNat 0 ≤ 4611686018427387904 :=
  menu4 _ (Int.emod_nonneg _ (by decide)) (Int.emod_lt_of_pos _ (by decide))
theorem mod_menu {prog : Program} {w : World} {A : Around} {E : Value → Shared → Prop} {s : Shared} {Q : Value → Shared → Prop} {a k : Int} {t u : Tok} (h : Q (.int (a % ([64, 16384, 1 * 2 ^ Int.toNat 30, 1 * 2 ^ Int.toNat 62] : List Int).getD (k % 4).toNat 0) s.toks) { s with toks := s.toks + 1 }) :
    wpAny (model prog w) A (binaryOp .Mod (.int a t) (.int (([64, 16384, 1 * 2 ^ Int.toNat 30, 1 * 2 ^ Int.toNat 62] : List Int).getD (k % 4).toNat 0) u)) Q E s := mod_lit (menu4' k).1 h
theorem slice_script {prog : Program} {w : World} {A : Around} {E : Value → Shared → Prop} {s : Shared} {Q : Value → Shared → Prop} {value slice : PySem.Expr} {g : Heap} {L ax : Addr} {m : Str → Option Value} {vs : List Value} {ns : List Int} {news : List (Addr × Obj)} {x y : Int} {tx ty : Tok}
    (F : Fr g L s.heap m) (N : News g L s.heap news) (hl : g.IsList ax vs.toArray) (hI : IntsAre vs ns) (h0 : 0 ≤ x) (h1 : 0 ≤ y) (hz : ns.length ≤ 1000000)
    (h : ∀ h' z us ms, IntsAre us ms → ms.length ≤ y.toNat - x.toNat → Fr g L h' m → News g L h' ((z, listOf us.toArray 0) :: news) → (∀ p ∈ news, p.1 < z) → Q (.ref z) { s with heap := h' })
    (hs : subscripted slice false (.ref ax) (.ref s.heap.objs.size) = operate [.ref s.heap.objs.size, .ref ax] (getItem (.ref ax) (.ref s.heap.objs.size)) := by with_unfolding_all rfl) :
    wpAny (model prog w) A (subscriptTail value slice (.ref ax) (.ref s.heap.objs.size)) Q E { s with heap := s.heap.push { cls := .type "slice", data := .fields #[.int x tx, .int y ty, .none] } } := by
  have hl' : (s.heap.push { cls := .type "slice", data := .fields #[.int x tx, .int y ty, .none] }).IsList ax vs.toArray := (hl.at (F.keep ax)).push _
  refine tail_any (T := "list") hl'.typeIs slot_list_getitem.lookup ?_ hs
  refine wpAny_getItem_list_slice (s := { s with heap := s.heap.push { cls := .type "slice", data := .fields #[.int x tx, .int y ty, .none] } }) hl' (Heap.IsSliceOf.new _ _ _ _) (.int _ _) (.int _ _) .none (by simp) ?_ (by rw [List.size_toArray, hI.length, sizeLine_eq]; omega)
  have N1 := News.pushKeep N { cls := .type "slice", data := .fields #[.int x tx, .int y ty, .none] }
  have F1 := F.push { cls := .type "slice", data := .fields #[.int x tx, .int y ty, .none] }
  have hr := kmk_run hI h0 h1
  have e : slicePick vs.toArray (some x) (some y) none = (slicePick vs.toArray (some x) (some y) none).toList.toArray := by rw [Array.toArray_toList]
  rw [e]
  exact h _ _ _ _ hr (by rw [List.length_take]; omega) (F1.push _) (News.push F1 N1 _ rfl) (fun p hp => Heap.lt_size (N1 p hp).1)
end Mine
end
section
open PySem PySem.W PyProof.Rows PySem.Calls
set_option maxRecDepth 100000
set_option maxHeartbeats 1000000
namespace Mine
theorem lead_len (x : Int) : ((List.replicate (x / 400 % 3).toNat [Nat.toUInt8 7]).flatten).length ≤ 2 := by
  have h1 := Int.emod_nonneg (x / 400) (show (3 : Int) ≠ 0 by decide)
  have h2 := Int.emod_lt_of_pos (x / 400) (show (0 : Int) < 3 by decide)
  have h3 : (x / 400 % 3).toNat = 0 ∨ (x / 400 % 3).toNat = 1 ∨ (x / 400 % 3).toNat = 2 := by omega
  rcases h3 with e | e | e <;> rw [e] <;> decide
theorem law_pulled_call {w : World} {dp un : Nat} {gd : Option (List Code)} {env : Env} {g : Heap} {L : Addr} {s : Shared} {m : Str → Option Value} {mean : ExcName → Option Value} {mg mb : Str → Option Value} {news : List (Addr × Obj)} {Q E : Value → Shared → Prop}
    {greatest delay cut : Int} {tgr tdl tcu : Tok} {ln : Addr} {vsN : List Value} {ns : List Int} {nN : Nat}
    (hg0 : 0 ≤ greatest) (hg1 : greatest < 4611686018427387904) (hd0 : 0 ≤ delay) (hd1 : delay < 4611686018427387904) (hI : IntsAre vsN ns) (hlen : ns.length ≤ 24)
    (B : Below (AX dp un gd []) g [] g) (F : Fr g L s.heap m) (X : (hd.heap_39 w.params).In g) (T : Top hd.view_39 LS mean mg mb g) (N : News g L s.heap news) (hf : env.frame = some L) (hke : env.scope.kind = .function)
    (hm : (ln, listOf vsN.toArray nN) ∈ news) (hbare : AllBare s.gens) (hdp : dp + 1 + 61 < recursionLimit) (hun : un + 3 + 10 * 61 < cLine)
    (k : ∀ h' tk gens', AllBare gens' → g.StaysIn h' → Q (.bool true) ⟨h', gens', s.drawn, tk, s.os⟩) :
    wpN (model PG w) ((AX dp un gd []).deeper env) (call (.ref 392) [.int greatest tgr, .int delay tdl, .ref ln, .int cut tcu]) Q E s := by
  obtain ⟨g', ⟨B', X', T', K', _, _⟩, Fg, hR, st⟩ := use2 (w := w) (dp := dp + 1) (un := un + 3) (gd := gd) (env := env) B F X T N hf hke [] news (fun _ h => nomatch h) (fun _ h => h) (fun _ _ _ h => nomatch h)
  refine wpN_call ?_
  refine law_pulled hg0 hg1 hd0 hd1 hI hlen B' X' T' X T ?_ K' (hR _ hm) hbare (by omega) (by omega) fun h' tk gens' hb hs => k h' tk gens' hb hs
  intro a ha
  obtain ⟨oL, es, ep, hoL, hdL, _⟩ := Fg.ns
  have e : [env].filterMap (·.frame) = [L] := by simp [hf]
  rw [e] at ha
  have e : a = L := List.mem_singleton.mp ha
  exact ⟨oL, es, ep, e ▸ hoL, hdL⟩
theorem law_tail2 {w : World} {mean : ExcName → Option Value} {mg mb : Str → Option Value} {ax D L R : Addr} {vs : List Value} {ns : List Int} {a0 a1 a2 b delay : Int} {t0 t1 t2 tb tdl : Tok} {trs : List TR} {nR : Nat} {g h : Heap} {gg : Array GenState} {dd : Drawn} {tk : Nat} {os : OsState} {oc : Obj} {m₀ : Str → Option Value} {Q : Flow → Shared → Prop} {dp un : Nat} {gd : Option (List Code)}
    (hb0 : 0 ≤ b) (hb1 : b ≤ 4611686017353646080) (hd0 : 0 ≤ delay) (hd1 : delay < 4611686018427387904) (hne : trs ≠ []) (hasc : Asc (pairsT trs)) (hbd : ∀ q ∈ pairsT trs, 0 ≤ q.1 ∧ q.2 ≤ 4611686018427387904) (hlt : trs.length ≤ 30)
    (X : (hd.heap_39 w.params).In g) (T : Top hd.view_39 LS mean mg mb g) (hL : g.IsList ax vs.toArray) (hI : IntsAre vs ns) (hlen : ns.length ≤ 63) (hbare : AllBare gg) (hoc : oc.data = .cell (some (.ref ax)))
    (B : Below (AX dp un gd []) g [] g) (hdp : dp + 100 < recursionLimit) (hun : un + 1000 < cLine)
    (F : Fr g L h (fun y => if y = Str.ofString "rows" then some (.ref R) else if y = Str.ofString "delay" then some (.int delay tdl) else if y = Str.ofString "base" then some (.int b tb) else if y = Str.ofString "head" then some (.ref D) else m₀ y))
    (N : News g L h ((R, listOf (refsT trs).toArray nR) :: (D, listOf #[.int a0 t0, .int a1 t1, .int a2 t2] 3) :: (L + 1, oc) :: rowsT trs))
    (ret : ∀ h' tk gens', AllBare gens' → g.StaysIn h' → Q (.ret (.bool true)) ⟨h', gens', dd, tk, os⟩) :
    wpN (model PG w) ((AX dp un gd []).deeper (envAtC (hd.heap_39 w.params) 397 L)) (execs ((bodyAt (hd.heap_39 w.params) 397).drop 4) (envAtC (hd.heap_39 w.params) 397 L)) Q (fun _ _ => False) ⟨h, gg, dd, tk, os⟩ := by
  w_on
  obtain ⟨hb, he⟩ := atC_of (K := hd.heap_39 w.params) (f := 397) (by k_is)
  rw [hb, he]
  clear hb he
  simp only [List.drop_succ_cons, List.drop_zero]
  refine wpN_execs_cons (wpN_of ?_)
  repeat' (first | (with_reducible (((with_reducible show wpAny _ _ (binaryOp Operator.FloorDiv _ _) _ _ _); (k_here; (with_reducible show wpAny _ _ (binaryOp _ (Value.int _ _) (Value.int _ _)) _ _ _); (refine' div_lit ?hb_q ?hp_q ?_; (case hb_q => decide); (case hp_q => exact PyProof.noPylong_of_log2 (by decide +kernel))))))) | (with_reducible (((with_reducible show wpAny _ _ (binaryOp Operator.Mod _ _) _ _ _); (k_here; (with_reducible show wpAny _ _ (binaryOp _ (Value.int _ _) (Value.int _ _)) _ _ _); (refine' mod_lit ?hb_q ?_; (case hb_q => decide)))))) | walk_at "mine oneD")
  (with_reducible rename Fr g _ _ _ => F1)
  (with_reducible rename News g _ _ _ => N1)
  have hll := lead_len ([a0, a1, a2].getD 1 0)
  generalize (List.replicate ([a0, a1, a2].getD 1 0 / 400 % 3).toNat [Nat.toUInt8 7]).flatten = lead at F1 hll
  have N2 : News g L _ ((R, listOf (refsT trs).toArray nR) :: (D, listOf #[.int a0 t0, .int a1 t1, .int a2 t2] 3) :: (L + 1, oc) :: rowsT trs) := news_sub N1 fun p hp => .tail _ hp
  clear N1
  refine wpN_execs_cons (wpN_IfN (wpN_not_call (wpN_Call ?_)))
  repeat' walk_at "mine oneD"
  refine callWithN_K (K := hd.heap_39 w.params) (by k_is) ?_
  repeat' (first | (with_reducible (((with_reducible show wpAny _ _ (binaryOp Operator.FloorDiv _ _) _ _ _); (k_here; (with_reducible show wpAny _ _ (binaryOp _ (Value.int _ _) (Value.int _ _)) _ _ _); (refine' div_lit ?hb_q ?hp_q ?_; (case hb_q => decide); (case hp_q => exact PyProof.noPylong_of_log2 (by decide +kernel))))))) | (with_reducible (((with_reducible show wpAny _ _ (binaryOp Operator.Mod _ _) _ _ _); (k_here; (with_reducible show wpAny _ _ (binaryOp _ (Value.int _ _) (Value.int _ _)) _ _ _); (refine' mod_lit ?hb_q ?_; (case hb_q => decide)))))) | walk_at "mine oneD")
  refine' ConN.call (law_pushed hne hasc hbd hd0 hd1 ?hc0 ?hc1 hlt hll) ?kB ?kF ?kX ?kT ?kN ?kf ?kk ?kw ?ks ?kr ?kb ?kd ?ku ?_
  (case hc0 => omega); (case hc1 => omega); (case kB => assumption); (case kF => k_asm); (case kX => assumption); (case kT => assumption); (case kN => k_asm); (case kf => exact rfl); (case kk => exact rfl); (case kw => walk_at "mine wr"); (case ks => exact Split2.all)
  (case kr => exact List.forall_mem_cons.mpr ⟨.inl (.head _), fun p hp => .inl (.tail _ (.tail _ (.tail _ hp)))⟩); (case kb => exact hbare); (case kd => walk_at "mine room"); (case ku => walk_at "mine room")
  rintro v news' h2 tk2 gens2 ⟨rfl, rfl⟩ hbare2 F2 N3
  rw [List.nil_append] at N3
  refine ⟨rfl, ?_⟩
  rw [if_neg Bool.false_ne_true]
  refine wpN_of (wpAny_execs_nil ?_)
  clear N2
  refine wpN_execs_cons (wpN_of ?_)
  repeat' (first | (with_reducible (((with_reducible show wpAny _ _ (binaryOp Operator.FloorDiv _ _) _ _ _); (k_here; (with_reducible show wpAny _ _ (binaryOp _ (Value.int _ _) (Value.int _ _)) _ _ _); (refine' div_lit ?hb_q ?hp_q ?_; (case hb_q => decide); (case hp_q => exact PyProof.noPylong_of_log2 (by decide +kernel))))))) | (with_reducible (((with_reducible show wpAny _ _ (binaryOp Operator.Mod _ _) _ _ _); (k_here; (with_reducible show wpAny _ _ (binaryOp _ (Value.int _ _) (Value.int _ _)) _ _ _); (refine' mod_lit ?hb_q ?_; (case hb_q => decide)))))) | walk_at "mine oneD")
  (with_reducible rename Fr g _ _ _ => F4)
  (with_reducible rename News g _ _ _ => N4)
  obtain ⟨m₁, hm₁⟩ := fr_map F4
  have hg0 := Int.emod_nonneg ([a0, a1, a2].getD 1 0 / 5) (show (900 : Int) ≠ 0 by decide)
  have hg1 := Int.emod_lt_of_pos ([a0, a1, a2].getD 1 0 / 5) (show (0 : Int) < 900 by decide)
  refine wpN_execs_cons (wpN_of ?_)
  refine exec_join F4 (fun m nx => nx = (R, listOf (refsT trs).toArray nR) :: (D, listOf #[.int a0 t0, .int a1 t1, .int a2 t2] 3) :: (L + 1, oc) :: rowsT trs ∧ (∃ gr tgr, m (Str.ofString "greatest") = some (.int gr tgr) ∧ 0 ≤ gr ∧ gr < 4611686018427387904) ∧ (∀ y, [Str.ofString "greatest"].contains y = false → m y = m₁ y)) ?_ ?_
  · repeat' (first | (with_reducible (((with_reducible show wpAny _ _ (binaryOp Operator.FloorDiv _ _) _ _ _); (k_here; (with_reducible show wpAny _ _ (binaryOp _ (Value.int _ _) (Value.int _ _)) _ _ _); (refine' div_lit ?hb_q ?hp_q ?_; (case hb_q => decide); (case hp_q => exact PyProof.noPylong_of_log2 (by decide +kernel))))))) | (with_reducible (((with_reducible show wpAny _ _ (binaryOp Operator.Mod _ _) _ _ _); (k_here; (with_reducible show wpAny _ _ (binaryOp _ (Value.int _ _) (Value.int _ _)) _ _ _); (refine' mod_lit ?hb_q ?_; (case hb_q => decide)))))) | walk_at "mine oneD")
    · (with_reducible rename Fr g _ _ _ => F5)
      (with_reducible rename News g _ _ _ => N5)
      refine JoinPost.intro F5 N5 ⟨rfl, ⟨_, _, rfl, by omega, by omega⟩, fun y hy => ?_⟩
      rw [hm₁]
      exact if_neg fun e => by subst e; exact absurd hy (by decide)
    · (with_reducible rename Fr g _ _ _ => F5)
      (with_reducible rename News g _ _ _ => N5)
      refine JoinPost.intro F5 N5 ⟨rfl, ⟨_, _, rfl, by omega, by omega⟩, fun y hy => ?_⟩
      rw [hm₁]
  · rintro h' tk m₂ news₁ F5 N5 ⟨rfl, ⟨gr, tgr, hmg, hgr0, hgr1⟩, hm2⟩
    rw [trk1 (st := []) hmg hm2] at F5
    subst hm₁
    clear F4 N4
    dsimp only
    refine wpN_execs_cons (wpN_Return (wpN_Call ?_))
    repeat' walk_at "mine oneD"
    refine callWithN_K (K := hd.heap_39 w.params) (by k_is) ?_
    repeat' (first | (with_reducible (((with_reducible show wpAny _ _ (binaryOp Operator.FloorDiv _ _) _ _ _); (k_here; (with_reducible show wpAny _ _ (binaryOp _ (Value.int _ _) (Value.int _ _)) _ _ _); (refine' div_lit ?hb_q ?hp_q ?_; (case hb_q => decide); (case hp_q => exact PyProof.noPylong_of_log2 (by decide +kernel))))))) | (with_reducible (((with_reducible show wpAny _ _ (subscriptTail _ _ _ _) _ _ _); (k_here; (with_reducible show wpAny _ _ (subscriptTail _ (Expr.Slice (some _) (some _) none _) (Value.ref _) (Value.ref _)) _ _ _); (with_reducible rename Fr _ _ _ _ => F'_q); (with_reducible rename News _ _ _ _ => N'_q); (refine' slice_script (s := ⟨_, _, _, _, _⟩) F'_q N'_q ?hl_q ?hI_q ?h0_q ?h1_q ?hz_q ?_; (case hl_q => assumption); (case hI_q => assumption); (case h0_q => decide); (case h1_q => decide); (case hz_q => first | with_reducible assumption | omega); intro h'_q z'_q us'_q ms'_q hI'_q hlen'_q F'_q N'_q l1_q; (try k_lt l1_q); (try k_sweep); (try dsimp only)))))) | walk_at "mine oneD")
    (with_reducible rename Fr g _ _ _ => F6)
    (with_reducible rename News g _ _ _ => N6)
    (with_reducible rename IntsAre _ _ => hI6)
    refine law_pulled_call hgr0 hgr1 hd0 hd1 hI6 (by omega) B F6 X T N6 rfl rfl (.head _) hbare2 (by omega) (by omega) fun h' tk gens' hb hs => ret h' tk gens' hb hs
end Mine
end
section
open PySem PySem.W PyProof.Rows PySem.Calls
set_option maxRecDepth 100000
set_option maxHeartbeats 1000000
namespace Mine
theorem rows_facts {trs : List TR} {b : Int} {ms : List Int} (pr : pairsT trs = if ms = [] then [(b, b + 1)] else lrows b ms) (hm : ms.length ≤ 24) (hb0 : 0 ≤ b) (hb1 : b ≤ 4611686017353646080) :
    trs ≠ [] ∧ Asc (pairsT trs) ∧ (∀ q ∈ pairsT trs, 0 ≤ q.1 ∧ q.2 ≤ 4611686018427387904) ∧ trs.length ≤ 30 := by
  have hl : trs.length = if ms = [] then 1 else ms.length := by
    have := congrArg List.length pr
    rw [List.length_map] at this
    rw [this]
    split
    · rfl
    · rw [lrows_length]
  refine ⟨fun e => ?_, ?_, fun q hq => ?_, ?_⟩
  · rw [e] at hl
    split at hl
    · cases hl
    · rename_i hms
      exact hms (List.length_eq_zero_iff.mp hl.symm)
  · rw [pr]
    split
    · exact ⟨by omega, (fun _ h => nomatch h), trivial⟩
    · exact (lrows_asc ms b).1
  · rw [pr] at hq
    split at hq
    · rw [List.mem_singleton.mp hq]
      dsimp only
      omega
    · have h1 := (lrows_asc ms b).2 q hq
      have h2 := lrows_lt ms b q hq
      omega
  · rw [hl]
    split <;> omega
theorem rows_led {g h : Heap} {L R : Addr} {n : Nat} {trs : List TR} {z d c : Addr × Obj} (N : News g L h ((R, listOf (refsT trs).toArray n) :: (rowsT trs ++ [z, d, c]))) : News g L h ((R, listOf (refsT trs).toArray n) :: d :: c :: rowsT trs) := news_sub N fun p hp => by
  simp only [List.mem_cons] at hp
  rcases hp with rfl | rfl | rfl | hp
  · exact .head _
  · exact .tail _ (List.mem_append_right _ (.tail _ (.head _)))
  · exact .tail _ (List.mem_append_right _ (.tail _ (.tail _ (.head _))))
  · exact .tail _ (List.mem_append_left _ hp)
theorem law_tail {w : World} {mean : ExcName → Option Value} {mg mb : Str → Option Value} {ax D L : Addr} {vs : List Value} {ns : List Int} {a0 a1 a2 : Int} {t0 t1 t2 : Tok} {g h : Heap} {gg : Array GenState} {dd : Drawn} {tk : Nat} {os : OsState} {oc : Obj} {m₀ : Str → Option Value} {Q : Flow → Shared → Prop} {dp un : Nat} {gd : Option (List Code)}
    (X : (hd.heap_39 w.params).In g) (T : Top hd.view_39 LS mean mg mb g) (hL : g.IsList ax vs.toArray) (hI : IntsAre vs ns) (hlen : ns.length ≤ 63) (hbare : AllBare gg) (hoc : oc.data = .cell (some (.ref ax)))
    (B : Below (AX dp un gd []) g [] g) (hdp : dp + 100 < recursionLimit) (hun : un + 1000 < cLine)
    (F : Fr g L h (fun y => if y = Str.ofString "head" then some (.ref D) else m₀ y)) (N : News g L h [(D, listOf #[.int a0 t0, .int a1 t1, .int a2 t2] 3), (L + 1, oc)])
    (ret : ∀ h' tk gens', AllBare gens' → g.StaysIn h' → Q (.ret (.bool true)) ⟨h', gens', dd, tk, os⟩) :
    wpN (model PG w) ((AX dp un gd []).deeper (envAtC (hd.heap_39 w.params) 397 L)) (execs ((bodyAt (hd.heap_39 w.params) 397).drop 1) (envAtC (hd.heap_39 w.params) 397 L)) Q (fun _ _ => False) ⟨h, gg, dd, tk, os⟩ := by
  w_on
  obtain ⟨hb, he⟩ := atC_of (K := hd.heap_39 w.params) (f := 397) (by k_is)
  rw [hb, he]
  clear hb he
  simp only [List.drop_succ_cons, List.drop_zero]
  refine wpN_execs_cons (wpN_of ?_)
  repeat' (first | (with_reducible (((with_reducible show wpAny _ _ (binaryOp Operator.Mod _ _) _ _ _); (k_here; (with_reducible show wpAny _ _ (binaryOp _ (Value.int _ _) (Value.int _ _)) _ _ _); (refine' mod_lit ?hb_q ?_; (case hb_q => decide)))))) | walk_at "mine oneD")
  (with_reducible rename Fr g _ _ _ => F1)
  (with_reducible rename News g _ _ _ => N1)
  have N2 : News g L _ [(D, listOf #[.int a0 t0, .int a1 t1, .int a2 t2] 3), (L + 1, oc)] := news_sub N1 fun p hp => .tail _ hp
  clear N1
  have hb := menu7 ([a0, a1, a2].getD (Int.toNat 0) 0 % 7) (Int.emod_nonneg _ (by decide)) (Int.emod_lt_of_pos _ (by decide))
  generalize ([0, 3, 62, 16380, 1073741819, 10 ^ Int.toNat 12, 4611686018427387904 - 1073741824] : List Int).getD ([a0, a1, a2].getD (Int.toNat 0) 0 % 7).toNat 0 = b at F1 hb
  obtain ⟨hb0, hb1⟩ := hb
  refine wpN_execs_cons (wpN_of ?_)
  repeat' (first | (with_reducible (((with_reducible show wpAny _ _ (binaryOp Operator.FloorDiv _ _) _ _ _); (k_here; (with_reducible show wpAny _ _ (binaryOp _ (Value.int _ _) (Value.int _ _)) _ _ _); (refine' div_lit ?hb_q ?hp_q ?_; (case hb_q => decide); (case hp_q => exact PyProof.noPylong_of_log2 (by decide +kernel))))))) | (with_reducible (((with_reducible show wpAny _ _ (binaryOp Operator.Mod _ _) _ _ _); (k_here; (with_reducible show wpAny _ _ (binaryOp _ (Value.int _ _) (Value.int (List.getD _ _ _) _)) _ _ _); (refine' mod_menu ?_))))) | (with_reducible (((with_reducible show wpAny _ _ (binaryOp Operator.Mod _ _) _ _ _); (k_here; (with_reducible show wpAny _ _ (binaryOp _ (Value.int _ _) (Value.int _ _)) _ _ _); (refine' mod_lit ?hb_q ?_; (case hb_q => decide)))))) | walk_at "mine oneD")
  (with_reducible rename Fr g _ _ _ => F3)
  (with_reducible rename News g _ _ _ => N3)
  have N4 : News g L _ [(D, listOf #[.int a0 t0, .int a1 t1, .int a2 t2] 3), (L + 1, oc)] := news_sub N3 fun p hp => .tail _ hp
  clear N3
  have hd := menu4' ([a0, a1, a2].getD (Int.toNat 2) 0)
  generalize ([64, 16384, 1 * 2 ^ Int.toNat 30, 1 * 2 ^ Int.toNat 62] : List Int).getD ([a0, a1, a2].getD (Int.toNat 2) 0 % 4).toNat 0 = M at F3 hd
  have hd0 := Int.emod_nonneg ([a0, a1, a2].getD (Int.toNat 2) 0 / 4) (show M ≠ 0 by omega)
  have hd1 := Int.emod_lt_of_pos ([a0, a1, a2].getD (Int.toNat 2) 0 / 4) (show 0 < M by omega)
  generalize ([a0, a1, a2].getD (Int.toNat 2) 0 / 4) % M = delay at F3 hd0 hd1
  replace hd1 : delay < 4611686018427387904 := by omega
  clear hd
  refine wpN_execs_cons (wpN_of ?_)
  repeat' (first | (with_reducible (((with_reducible show wpAny _ _ (call _ _) _ _ _); (k_here; (k_dflt (show wpAny _ _ (call (Value.ref 375) [Value.int _ _, Value.ref _]) _ _ _)); k_dflt (refine' ConE.call2 (law_rows ?h0_q ?h1_q ?hI_q ?hl_q) ?kB_q ?kF_q ?kX_q ?kT_q ?kN_q ?kf_q ?kk_q ?kw_q ?ks_q ?kr_q ?kd_q ?ku_q ?_ ?_; (case hI_q => assumption); walk_at "mine conF"; (case h0_q => first | with_reducible assumption | omega); (case h1_q => first | with_reducible assumption | omega); (case hl_q => first | with_reducible assumption | omega); walk_at "mine noerr"; (intro v'_q news'_q h'_q tk'_q hp'_q F'_q N'_q; obtain ⟨D'_q, n'_q, trs'_q, hv'_q, hn'_q, hpr'_q⟩ := hp'_q; subst hv'_q; subst hn'_q; dsimp only [List.cons_append, List.nil_append] at N'_q; (try k_sweep); (try dsimp only))))))) | (with_reducible (((with_reducible show wpAny _ _ (subscriptTail _ _ _ _) _ _ _); (k_here; (with_reducible show wpAny _ _ (subscriptTail _ (Expr.Slice (some _) (some _) none _) (Value.ref _) (Value.ref _)) _ _ _); (with_reducible rename Fr _ _ _ _ => F'_q); (with_reducible rename News _ _ _ _ => N'_q); (refine' slice_script (s := ⟨_, _, _, _, _⟩) F'_q N'_q ?hl_q ?hI_q ?h0_q ?h1_q ?hz_q ?_; (case hl_q => assumption); (case hI_q => assumption); (case h0_q => decide); (case h1_q => decide); (case hz_q => first | with_reducible assumption | omega); intro h'_q z'_q us'_q ms'_q hI'_q hlen'_q F'_q N'_q l1_q; (try k_lt l1_q); (try k_sweep); (try dsimp only)))))) | walk_at "mine oneD")
  (with_reducible rename Fr g _ _ _ => F5)
  (with_reducible rename News g _ _ _ => N5)
  (with_reducible rename List TR => trs)
  rename pairsT trs = _ => hpr
  rename List.length _ ≤ Int.toNat 27 - Int.toNat 3 => hml
  obtain ⟨r1, r2, r3, r4⟩ := rows_facts hpr (by omega) hb0 hb1
  have N6 := rows_led N5
  have done := fun tk => law_tail2 (tk := tk) hb0 hb1 hd0 hd1 r1 r2 r3 r4 X T hL hI hlen hbare hoc B hdp hun F5 N6 ret
  obtain ⟨hb, he⟩ := atC_of (K := hd.heap_39 w.params) (f := 397) (by k_is)
  rw [hb, he] at done
  simp only [List.drop_succ_cons, List.drop_zero] at done
  exact done _
end Mine
end
section
open PySem PySem.W PyProof.Rows PySem.Calls
set_option maxRecDepth 100000
set_option maxHeartbeats 1000000
namespace Mine
theorem enterNC {prog : Program} {w : World} {s : Shared} {R : Result → Shared → Prop} {dp un : Nat} {gd : Option (List Code)} {K : Frag} {p : Program} {loose : List Str} {mean : ExcName → Option Value} {mg mb : Str → Option Value}
    {name qual : Str} {params : Arguments} {body : List Stmt} {scope : Scope} {doc pm cdv ct oc dV kV : Value} {an od : Option Addr} {osl : Array (Option Value)} {f : Addr} {args : Args} {binds : List (Str × Value)}
    (X : K.In s.heap) (T : Top p loose mean mg mb s.heap) (hdp : dp < recursionLimit)
    (ho : K.lookup f = some ⟨oc, od, .func (fnOf name qual params body scope dV kV doc pm an cdv ct), osl⟩) (hcd : codeIn K cdv qual = true)
    (hbind : BindsTo s (fnOf name qual params body scope dV kV doc pm an cdv ct) args binds)
    (hkind : ∀ n, ∀ x ∈ binds, scope.names.lookup x.1 = some .local ∨ (scope.names.lookup x.1 = some .cell ∧ ((cellsFrom n scope.names []).lookup x.1).isSome = true))
    (hnd : ((cellsFrom 0 scope.names []).map (·.1)).Nodup)
    (h : ∀ h₁ tk cells, Fr s.heap s.heap.objs.size h₁ (bindL (envOfC qual scope s.heap.objs.size f cdv).kindOf binds fun _ => none) → News s.heap s.heap.objs.size h₁ cells →
      CellsAre (bindC (envOfC qual scope s.heap.objs.size f cdv).kindOf binds fun _ => none) (cellsFrom (s.heap.objs.size + 1) scope.names []) cells →
      wpN (model prog w) ((AX dp un gd []).deeper (envOfC qual scope s.heap.objs.size f cdv)) (execs body (envOfC qual scope s.heap.objs.size f cdv))
        (fun fl s' => R (.ok (.ret (match fl with | .ret v => v | _ => .none))) s')
        (fun _ _ => False)
        { s with heap := h₁, toks := tk })
    (hco : scope.isCoroutine = false) (hgen : scope.isGenerator = false) (hk : scope.kind = .function) : codeN (model prog w) (AX dp un gd []) (.call (.ref f) args) R s := by
  refine codeN_call_function (fd := fnOf name qual params body scope dV kV doc pm an cdv ct) (body := body) hdp (X _ _ ho) rfl hco hgen rfl (codeRec_of X hcd) (hbind _ _ _ _ ?_)
  refine wpAny_newFunctionEnv_cells hk (hkind _) fun env' he s' x => ?_
  subst he
  refine ⟨T.nolimit.keeps x.toInCall.keep, codeN_func ?_⟩
  obtain ⟨h₁, tk, rfl, _⟩ := x.done
  obtain ⟨cells, NC, Y⟩ := Cl.news (h₀ := s.heap) (Nat.le_refl _) fun n c hm => ⟨x.cell n c (lookup_of_mem_nodup (cellsFrom_names scope.names 0 (s.heap.objs.size + 1) [] [] rfl ▸ hnd) hm), x.above n c hm⟩
  exact wpN_mono (h h₁ tk cells ⟨x.toInCall.ns, x.toInCall.keep, Nat.le_refl _⟩ NC Y) (fun _ _ h => h) (fun _ _ h => h.elim)
theorem three_ints {ys : List Value} {ns : List Int} (h : IntsAre ys ns) (hl : ns.length = 3) : ∃ a0 a1 a2 t0 t1 t2, ys = [.int a0 t0, .int a1 t1, .int a2 t2] := by
  cases h with
  | nil => cases hl
  | cons a0 t0 h =>
    cases h with
    | nil => cases hl
    | cons a1 t1 h =>
      cases h with
      | nil => cases hl
      | cons a2 t2 h =>
        cases h with
        | nil => exact ⟨_, _, _, _, _, _, rfl⟩
        | cons a3 t3 h => cases hl
theorem law_ok {w : World} {mean : ExcName → Option Value} {mg mb : Str → Option Value} {ax : Addr} {vs : List Value} {ns : List Int} {s : Shared} {R : Result → Shared → Prop}
    (X : (hd.heap_39 w.params).In s.heap) (T : Top hd.view_39 LS mean mg mb s.heap) (hL : s.heap.IsList ax vs.toArray) (hI : IntsAre vs ns) (hlen : ns.length ≤ 63) (hbare : AllBare s.gens)
    (ret : ∀ h' tk gens', AllBare gens' → s.heap.StaysIn h' → R (.ok (.ret (.bool true))) ⟨h', gens', s.drawn, tk, s.os⟩) :
    codeN (model PG w) callerA (.call (.ref 397) ⟨[.ref ax], []⟩) R s := by
  w_on
  have B : Below callerA s.heap [] s.heap := below_caller _
  show codeN (model PG w) (AX (1 + claimMargin) 4 (some []) []) (.call (.ref 397) ⟨[.ref ax], []⟩) R s
  refine' enterNC X T ?k1 ?k6 ?k7 ?k8 ?k9 ?k10 ?_ ?c2 ?c3 ?c4
  (case k1 => decide); (case k6 => k_is); (case k7 => k_is)
  (case k8 => first | exact BindsTo.of_eq rfl | exact binds_K X rfl (by k_is) rfl rfl rfl)
  (case k9 => intro n; exact kinds_of (by kinds_ok)); (case k10 => decide)
  (case c2 => exact rfl); (case c3 => exact rfl); (case c4 => exact rfl)
  intro h₁ tk cells F N Y
  cells_open Y
  rename Obj => oc
  have hoc : oc.data = .cell (some (.ref ax)) := by assumption
  clear Y
  replace F : Fr s.heap s.heap.objs.size h₁ (fun _ => none) := F
  obtain ⟨hp, gg, dd, tt, os⟩ := s
  dsimp only at X T hL hbare ret B F N ⊢
  refine wpN_execs_cons (wpN_of ?_)
  repeat' walk_at "mine oneD"
  (with_reducible rename Fr _ _ _ _ => F1)
  (with_reducible rename News _ _ _ _ => N1)
  (with_reducible rename IntsAre _ _ => hI8)
  obtain ⟨a0, a1, a2, t0, t1, t2, e⟩ := three_ints hI8 rfl
  subst e
  have done := fun tk => law_tail (tk := tk) (Q := fun fl s' => R (.ok (.ret (match fl with | .ret v => v | _ => .none))) s') (gg := gg) (dd := dd) (os := os) (t0 := t0) (t1 := t1) (t2 := t2) X T hL hI hlen hbare hoc B (by decide) (by decide) F1 N1 fun h' tk gens' hb hs => ret h' tk gens' hb hs
  obtain ⟨hb, he⟩ := atC_of (K := hd.heap_39 w.params) (f := 397) (by k_is)
  rw [hb, he] at done
  simp only [List.drop_succ_cons, List.drop_zero] at done
  exact done _
end Mine
end
open PySem PySem.W PyProof.Rows PySem.Calls
set_option maxRecDepth 100000
set_option maxHeartbeats 1000000
theorem PySem.Challenge.cw_ix0004_01_holds : PySem.Challenge.rw_ix0004_01.Holds := by
  w_on
  refine Mine.hd ?_
  w_strict (
    k_fill
    intro w s₀ s₁ mg mb G Y fa o pm cd doc dV kV ho hd hcd hD hmg hg args vals as hpre hlay hrd hwl hlo
    have KX : (Mine.hd.heap_39 w.params).In s₁.heap := Y
    have X := (Ground.X G).1
    have V := (Ground.X G).2
    refine Ground.open G ?_
    intro T B D TE TW
    have hfa : mg (Str.ofString "law") = some (.ref 397) := mg_of KX T.g (by k_is)
    have hfe : fa = 397 := by
      have e := hmg.symm.trans hfa
      injection e with e
      injection e
    subst hfe
    clear hmg hfa ho hd hcd hD
    wrow_args hpre hlay hrd hwl hlo
    refine Mine.wpN_call ?_
    refine Mine.codeN_mono (Mine.law_ok (R := fun r s' => r = .ok (.ret (.bool true)) ∧ s₁.heap.StaysIn s'.heap ∧ AllBare s'.gens ∧ s'.os = s₁.os) KX T (by assumption) (by assumption) (by omega) ?_ fun h' tk gens' hb hs => ⟨rfl, hs, hb, rfl⟩) ?_
    · exact AllBare.of_eq hg
    · rintro r s' ⟨rfl, h1, h2, h3⟩
      refine ⟨.inl ⟨.bool true, ofPy (.bool true), [], rfl, ?_, ?_, ?_, ?_⟩, OldK.of_keep h1, h3, h2⟩
      · intro cls; rfl
      · exact ReadsW.bool _
      · first | (with_unfolding_all rfl; done) | (kernel_rfl; done) | (decide; done)
      · intro _; exact ⟨List.nodup_nil, fun _ h => nomatch h⟩)
