import PyProof.Rows.All
import KE.LcSums
import KE.KSorted
import Wide.FinOn
import OpenK.AllK
import Wide.All
import PySem.Challenge.RW_oy0098_02
set_option Elab.async false
set_option linter.all false
local macro_rules | `(tactic| omega) => `(tactic| first | lia | omega +splitDisjunctions)
section
open PySem PySem.W PyProof.Rows
set_option maxRecDepth 100000
namespace Mine

theorem slot_si_next : Slot "set_iterator" "__next__" "set_iterator.__next__" :=
  .of (owner := "set_iterator") (n := "__next__") (by rw [typeLookup_type, builtinLookup_eq_fast]; kernel_rfl) (by decide +kernel) (by decide +kernel) (by decide +kernel)
    (by first | exact .inl (by decide +kernel) | exact .inr (by decide +kernel)) (by rw [isSubtype_type]; kernel_rfl)
theorem entry_si_next : entryFor table "set_iterator.__next__" = some Builtin.«set_iterator.__next__» := entryFor_of_tree (by kernel_rfl)
theorem args_si_next (a : Value) : argsOk "set_iterator.__next__" ⟨[a], []⟩ := by unfold argsOk; kernel_rfl
theorem slot_si_iter : Slot "set_iterator" "__iter__" "set_iterator.__iter__" :=
  .of (owner := "set_iterator") (n := "__iter__") (by rw [typeLookup_type, builtinLookup_eq_fast]; kernel_rfl) (by decide +kernel) (by decide +kernel) (by decide +kernel)
    (by first | exact .inl (by decide +kernel) | exact .inr (by decide +kernel)) (by rw [isSubtype_type]; kernel_rfl)
theorem entry_si_iter : entryFor table "set_iterator.__iter__" = some Builtin.«dict_keyiterator.__iter__» :=
  entryFor_alias (id' := "dict_keyiterator.__iter__") (by rw [fastTable_eq_tree]; kernel_rfl) (by first | rfl | decide +kernel) (by decide +kernel) (by rw [fastTable_eq_tree]; kernel_rfl)
theorem args_si_iter (a : Value) : argsOk "set_iterator.__iter__" ⟨[a], []⟩ := by unfold argsOk; kernel_rfl
theorem entry_set_iter : entryFor table "set.__iter__" = some Builtin.«frozenset.__iter__» :=
  entryFor_alias (id' := "frozenset.__iter__") (by rw [fastTable_eq_tree]; kernel_rfl) (by first | rfl | decide +kernel) (by decide +kernel) (by rw [fastTable_eq_tree]; kernel_rfl)

/-- where the walk stands ahead of turn i -/
noncomputable def slotAt (t : SetTable) : Nat → Nat
  | 0 => 0
  | i + 1 => if t.led then t.place.getD i 0 + 1 else 0
noncomputable def siObj (a : Addr) (ep : Nat) (t : SetTable) (i : Nat) : Obj := { cls := .type "set_iterator", data := .fields #[rawInt (slotAt t i), rawInt i, .ref a, rawInt t.place.size, rawInt ep] }

theorem setDrawn_eq (a : Addr) : setDrawn a = (do
  let (es, _, t) ← setState a
  let byText ← setsByText
  return !byText && (!t.plain && decide (es.size > 1))) := rfl
theorem setNext_eq (a : Addr) (slot given epochThen : Nat) : setNext a slot given epochThen = (do
  let (es, epoch, t) ← setState a
  if ← setsByText then
    if epoch != epochThen then unsupported "set_iterator.__next__:elements-changed"
    return ((← setWalk a)[given]?).map fun e => (e.2, slot)
  if (!t.plain && decide (es.size > 1)) then unsupported "set_iterator.__next__:the-table-is-plain-no-more"
  (do if !t.led && !es.isEmpty then unsupported "set:maker-not-led")
  let i := SetTable.below t.place slot
  return match es[i]?, t.place[i]? with
    | some (_, x), some j => some (x, j + 1)
    | _, _ => none) := rfl
theorem setWalk_eq (a : Addr) : setWalk a = (do
  let (es, epoch, t) ← setState a
  if ← setsByText then return pickOrder ((← ask).params.setOrder a epoch) es
  if (!t.plain && decide (es.size > 1)) then return (← drawOrder es.size es.toList).toArray
  (do if !t.led && es.size > 1 then unsupported "set:maker-not-led")
  return es) := rfl

section
variable {prog : Program} {w : World} {A : Around} {E : Value → Shared → Prop} {s : Shared}
theorem setsByText_ok {Q : Bool → Shared → Prop} (h : Q (w.params.followText "set-order") s) : wpAny (model prog w) A setsByText Q E s := by
  unfold setsByText
  exact wpAny_bind (wpAny_askSetting (wpAny_pure h))

variable {a : Addr} {es : Array (Int × Value)} {ep : Nat} {t : SetTable}
theorem iter_set {Q : Value → Shared → Prop} (ho : s.heap.get? a = some ⟨.type "set", none, .set es ep t, #[]⟩) (hf : t.fits es.size = true) (h1 : es.size ≤ 1)
    (h : Q (.ref s.heap.objs.size) { s with heap := s.heap.push (siObj a ep t 0) }) : wpAny (model prog w) A (pyIter (.ref a)) Q E s := by
  have hT : s.TypeIs (.ref a) "set" := ⟨_, ho, rfl⟩
  have hp : t.place.size = es.size := by simp only [SetTable.fits, Bool.and_eq_true, beq_iff_eq] at hf; exact hf.1
  refine wpAny_pyIter_slot hT F.slot_set_iter (wpAny_call_entry F.slot_set_iter hT entry_set_iter ?_ (F.args_set_iter_1 _))
  unfold Builtin.«frozenset.__iter__» Builtin.Frozenset.slot0 Builtin.Frozenset.sizeOf
  refine wpAny_bind (wpAny_bind (wpAny_of_eq (a := (Value.ref a, [])) rfl (wpAny_of_eq (a := a) rfl ?_)))
  refine wpAny_bind (wpAny_bind (wpAny_setEntries_of ho rfl hf (wpAny_pure ?_)))
  rw [setDrawn_eq]
  refine wpAny_bind (wpAny_bind (wpAny_setState_of ho rfl hf (wpAny_bind (setsByText_ok (wpAny_pure ?_)))))
  rw [show (!w.params.followText "set-order" && (!t.plain && decide (es.size > 1))) = false by rw [decide_eq_false (by omega)]; simp]
  simp only [Bool.false_eq_true, if_false]
  refine wpAny_bind (wpAny_pure (wpAny_bind (wpAny_setEpoch_of ho rfl hf ?_)))
  unfold newFields
  refine wpAny_bind (wpAny_newObj_type ?_)
  refine wpAny_pure ⟨_, rfl, "set_iterator", _, ⟨_, Heap.get?_push_size _ rfl, rfl⟩, slot_si_next.lookup, ?_⟩
  rw [← hp]
  exact h

theorem below_one_zero (j : Nat) : SetTable.below #[j] 0 = 0 := by simp [SetTable.below, SetTable.below.go]
theorem below_one_succ (j : Nat) : SetTable.below #[j] (j + 1) = 1 := by simp [SetTable.below, SetTable.below.go]
theorem pick_one (f : Nat → Nat) (x : Int × Value) : pickOrder f #[x] = #[x] := by
  unfold pickOrder; simp [pickOrder.go, Nat.mod_one]
theorem pick_none (f : Nat → Nat) : pickOrder f (#[] : Array (Int × Value)) = #[] := rfl

/-- what the next turn of a set of at most one gives -/
theorem setNext_one {h : Int} {x : Value} {i : Nat} {Q : Option (Value × Nat) → Shared → Prop} (ho : s.heap.get? a = some ⟨.type "set", none, .set #[(h, x)] ep t, #[]⟩) (hf : t.fits 1 = true) (hled : t.led = !w.params.followText "set-order")
    (q0 : i = 0 → Q (some (x, slotAt t 1)) s) (q1 : i = 1 → Q none s) (hi : i ≤ 1) : wpAny (model prog w) A (setNext a (slotAt t i) i ep) Q E s := by
  have hp : t.place.size = 1 := by simp only [SetTable.fits, Bool.and_eq_true, beq_iff_eq] at hf; exact hf.1
  obtain ⟨j, hj⟩ : ∃ j, t.place = #[j] := by
    rcases t with ⟨mask, ⟨pl⟩, dm, fg, ld, mv, pn⟩
    match pl, hp with
    | [j], _ => exact ⟨j, rfl⟩
  rw [setNext_eq]
  refine wpAny_bind (wpAny_setState_of ho rfl hf (wpAny_bind (setsByText_ok ?_)))
  cases hb : w.params.followText "set-order" with
  | true =>
    rw [hb] at hled
    simp only [if_true, bne_self_eq_false, Bool.false_eq_true, if_false]
    refine wpAny_bind ?_
    rw [setWalk_eq]
    refine wpAny_bind (wpAny_setState_of ho rfl hf (wpAny_bind (setsByText_ok ?_)))
    rw [hb]
    simp only [if_true]
    refine wpAny_bind (wpAny_askSetting (wpAny_pure (wpAny_pure ?_)))
    rw [pick_one]
    rcases Nat.le_one_iff_eq_zero_or_eq_one.mp hi with rfl | rfl
    · have := q0 rfl
      rw [show slotAt t 1 = 0 by show (if t.led then _ else _) = _; rw [hled]; rfl] at this
      exact this
    · exact q1 rfl
  | false =>
    have hl : t.led = true := by rw [hled, hb]; rfl
    simp only [Bool.false_eq_true, if_false]
    rw [show (!t.plain && decide ((#[(h, x)] : Array (Int × Value)).size > 1)) = false by rw [decide_eq_false (by simp)]; simp]
    simp only [Bool.false_eq_true, if_false, hl, Bool.not_true, Bool.false_and]
    refine wpAny_bind (wpAny_pure ?_)
    have h1 : slotAt t 1 = j + 1 := by show (if t.led then t.place.getD 0 0 + 1 else 0) = _; rw [hl, hj]; rfl
    rcases Nat.le_one_iff_eq_zero_or_eq_one.mp hi with rfl | rfl
    · rw [show slotAt t 0 = 0 from rfl, hj, below_one_zero]
      have := q0 rfl
      rw [h1] at this
      exact wpAny_pure this
    · rw [h1, hj, below_one_succ]
      exact wpAny_pure (q1 rfl)
theorem setNext_none {slot i : Nat} {Q : Option (Value × Nat) → Shared → Prop} (ho : s.heap.get? a = some ⟨.type "set", none, .set #[] ep t, #[]⟩) (hf : t.fits 0 = true) (q : Q none s) : wpAny (model prog w) A (setNext a slot i ep) Q E s := by
  rw [setNext_eq]
  refine wpAny_bind (wpAny_setState_of ho rfl hf (wpAny_bind (setsByText_ok ?_)))
  cases hb : w.params.followText "set-order" with
  | true =>
    simp only [if_true, bne_self_eq_false, Bool.false_eq_true, if_false]
    refine wpAny_bind ?_
    rw [setWalk_eq]
    refine wpAny_bind (wpAny_setState_of ho rfl hf (wpAny_bind (setsByText_ok ?_)))
    rw [hb]
    simp only [if_true]
    refine wpAny_bind (wpAny_askSetting (wpAny_pure (wpAny_pure ?_)))
    rw [pick_none]
    exact q
  | false =>
    simp only [Bool.false_eq_true, if_false]
    rw [show (!t.plain && decide ((#[] : Array (Int × Value)).size > 1)) = false by rw [decide_eq_false (by decide)]; simp]
    simp only [Bool.false_eq_true, if_false, show (#[] : Array (Int × Value)).isEmpty = true from rfl, Bool.not_true, Bool.and_false]
    refine wpAny_bind (wpAny_pure ?_)
    exact wpAny_pure q

theorem fieldsOf_ok {I : Addr} {o : Obj} {vs : Array Value} {Q : Array Value → Shared → Prop} (ho : s.heap.get? I = some o) (hd : o.data = .fields vs) (q : Q vs s) : wpAny (model prog w) A (fieldsOf (.ref I)) Q E s := by
  unfold fieldsOf
  refine wpAny_bind (wpAny_load ho ?_)
  rw [hd]
  exact wpAny_pure q
theorem next_set_item {I : Addr} {h : Int} {x : Value} {Q : Option Value → Shared → Prop} (hI : s.heap.get? I = some (siObj a ep t 0)) (ho : s.heap.get? a = some ⟨.type "set", none, .set #[(h, x)] ep t, #[]⟩) (hf : t.fits 1 = true) (hled : t.led = !w.params.followText "set-order")
    (q : ∀ h', h'.get? I = some (siObj a ep t 1) → Heap.SameBut I s.heap h' → Q (some x) { s with heap := h' }) : wpAny (model prog w) A (pyNext (.ref I)) Q E s := by
  have hp : t.place.size = 1 := by simp only [SetTable.fits, Bool.and_eq_true, beq_iff_eq] at hf; exact hf.1
  have hT : s.TypeIs (.ref I) "set_iterator" := ⟨_, hI, rfl⟩
  unfold pyNext
  refine wpAny_bind (wpAny_attempt (wpAny_callSpecial?_slot (name := Str.ofString "__next__") hT slot_si_next (wpAny_call_entry slot_si_next hT entry_si_next ?_ (args_si_next _))))
  unfold Builtin.«set_iterator.__next__»
  refine wpAny_bind (wpAny_of_eq (a := (Value.ref I, [])) rfl ?_)
  refine wpAny_bind (fieldsOf_ok hI rfl ?_)
  dsimp only [rawInt]
  refine wpAny_bind (wpAny_setEntries_of ho rfl hf ?_)
  rw [show ((((#[(h, x)] : Array (Int × Value)).size : Nat) : Int) != (t.place.size : Int)) = false by rw [hp]; rfl]
  simp only [Bool.false_eq_true, if_false]
  show wpAny _ _ (setNext a ((slotAt t 0 : Nat) : Int).toNat ((0 : Nat) : Int).toNat ((ep : Nat) : Int).toNat >>= _) _ _ _
  simp only [Int.toNat_natCast]
  refine wpAny_bind (setNext_one ho hf hled (fun _ => ?_) (fun q => by cases q) (Nat.zero_le _))
  dsimp only
  refine wpAny_bind (wpAny_setField hI rfl (by simp) ?_)
  have e1 := Heap.get?_update_self (h := s.heap) (Obj.mapFields fun vs => vs.setIfInBounds 0 (rawInt (slotAt t 1 : Nat))) hI (by rfl)
  refine wpAny_bind (wpAny_setField e1 rfl (by simp) ?_)
  refine wpAny_pure ⟨x, rfl, wpAny_pure (q _ ?_ ((Heap.SameBut.update ..).trans (Heap.SameBut.update ..)))⟩
  have e2 := Heap.get?_update_self (h := s.heap.update I (Obj.mapFields fun vs => vs.setIfInBounds 0 (rawInt (slotAt t 1 : Nat)))) (Obj.mapFields fun vs => vs.setIfInBounds 1 (rawInt ((0 : Nat) + 1))) e1 (by rfl)
  exact e2
theorem next_set_end {I : Addr} {i : Nat} {Q : Option Value → Shared → Prop} {es : Array (Int × Value)} (hh : A.handled = none) (hI : s.heap.get? I = some (siObj a ep t i)) (ho : s.heap.get? a = some ⟨.type "set", none, .set es ep t, #[]⟩) (hf : t.fits es.size = true)
    (hn : ∀ A E (Q : Option (Value × Nat) → Shared → Prop), Q none s → wpAny (model prog w) A (setNext a (slotAt t i) i ep) Q E s)
    (q : ∀ h', Heap.ExtBut I s.heap h' → Q none { s with heap := h' }) : wpAny (model prog w) A (pyNext (.ref I)) Q E s := by
  have hp : t.place.size = es.size := by simp only [SetTable.fits, Bool.and_eq_true, beq_iff_eq] at hf; exact hf.1
  have hT : s.TypeIs (.ref I) "set_iterator" := ⟨_, hI, rfl⟩
  unfold pyNext
  refine wpAny_bind (wpAny_attempt (wpAny_callSpecial?_slot (name := Str.ofString "__next__") hT slot_si_next (wpAny_call_entry slot_si_next hT entry_si_next ?_ (args_si_next _))))
  unfold Builtin.«set_iterator.__next__»
  refine wpAny_bind (wpAny_of_eq (a := (Value.ref I, [])) rfl ?_)
  refine wpAny_bind (fieldsOf_ok hI rfl ?_)
  dsimp only [rawInt]
  refine wpAny_bind (wpAny_setEntries_of ho rfl hf ?_)
  rw [show ((es.size : Int) != (t.place.size : Int)) = false by rw [hp]; simp]
  simp only [Bool.false_eq_true, if_false]
  show wpAny _ _ (setNext a ((slotAt t i : Nat) : Int).toNat ((i : Nat) : Int).toNat ((ep : Nat) : Int).toNat >>= _) _ _ _
  simp only [Int.toNat_natCast]
  refine wpAny_bind (hn _ _ _ ?_)
  dsimp only
  refine wpAny_bind (wpAny_setField hI rfl (by simp) ?_)
  refine wpAny_bind ?_
  simp only [newExc, newTuple]
  refine wpAny_bind (wpAny_newObj_type ?_ (by size_fits))
  refine wpAny_bind (m := firstArgMember _ _) (wpAny_of_eq (a := Value.none) (by first | rfl | (simp only [firstArgMember]; rfl)) ?_)
  refine wpAny_newObj_type ?_ (by size_fits)
  simp only [raiseNew]
  refine wpAny_bind (wpAny_handled ?_)
  first | rw [show A.in1.handled = none from hh] | rw [hh]
  refine wpAny_bind (wpAny_pure (wpAny_throw ?_))
  refine wpAny_bind (wpAny_isInstance (T := "StopIteration") (b := true) ⟨_, Heap.get?_push_size _ rfl, rfl⟩ isSubtype_stop ?_)
  exact wpAny_pure (q _ (((Heap.SameBut.update ..).extBut.push _).push _))
theorem iter_si {I : Addr} {i : Nat} {Q : Value → Shared → Prop} (hI : s.heap.get? I = some (siObj a ep t i)) (q : Q (.ref I) s) : wpAny (model prog w) A (pyIter (.ref I)) Q E s := by
  have hT : s.TypeIs (.ref I) "set_iterator" := ⟨_, hI, rfl⟩
  refine wpAny_pyIter_slot hT slot_si_iter (wpAny_call_entry slot_si_iter hT entry_si_iter ?_ (args_si_iter _))
  show wpAny _ _ (ret (.ref I)) _ _ s
  exact wpAny_pure ⟨_, rfl, "set_iterator", _, hT, slot_si_next.lookup, q⟩
end
end Mine
end

section
open PySem PySem.W PyProof.Rows
set_option maxRecDepth 100000
namespace Mine
theorem lay_one (led : Bool) (h : Int) (x : Value) : layNew (.fresh 0 0 led) #[] h x = (#[(h, x)], { SetTable.fresh 0 0 led with place := #[SetTable.bits h % 8] }, false, false) := by
  have hs : ∀ j, (SetTable.fresh 0 0 led).slot j = .empty := fun j => by simp [SetTable.slot, SetTable.fresh, SetTable.has]
  have hp : ∀ f p n, SetTable.probe.go (SetTable.fresh 0 0 led) f h (n + 1) p = some (.empty p.j p.dummy) := fun f p n => by
    rw [SetTable.probe.go, hs]
  have hf : (SetTable.fresh 0 0 led).freeSlot h = some (SetTable.bits h % 8, false) := by
    unfold SetTable.freeSlot SetTable.probe
    rw [show 10 * SetTable.turns (SetTable.fresh 0 0 led).mask = 219 + 1 from rfl, hp]
    rfl
  unfold layNew
  rw [hf]
  simp [SetTable.put, SetTable.fresh, SetTable.insertAt, SetTable.has, SetTable.orStandIn, SetTable.fits, SetTable.fill, SetTable.below, SetTable.below.go]

section
variable {prog : Program} {w : World} {A : Around} {E : Value → Shared → Prop} {s : Shared}
/-- one text into a set just made -/
theorem add_one {a : Addr} {led : Bool} {x : Str} {tk : Tok} {Q : Bool → Shared → Prop} (ho : s.heap.get? a = some ⟨.type "set", none, .set #[] 0 (.fresh 0 0 led), #[]⟩)
    (q : ∀ h' ep t, Heap.SameBut a s.heap h' → h'.get? a = some ⟨.type "set", none, .set #[((strKind prog w).hash x, .str x tk)] ep t, #[]⟩ → t.fits 1 = true → t.led = led → Q true { s with heap := h' }) :
    wpAny (model prog w) A (setAddHashed a (.str x tk) ((strKind prog w).hash x)) Q E s := by
  have hkey : (strKind prog w).is x (.str x tk) = true := strKind_is _ _ x tk
  have hf : (SetTable.fresh 0 0 led).fits (#[] : Array (Int × Value)).size = true := rfl
  have hel : ElemsOf (strKind prog w) (#[] : Array (Int × Value)).toList := fun e he => by simp at he
  unfold setAddHashed setAddHashedIn
  refine wpAny_holding (wpAny_bind (wpAny_setState_of ho rfl hf ?_))
  dsimp only
  rw [byScan_of (knd := strKind prog w) (es := #[]) rfl (by decide) hel]
  simp only [↓reduceIte]
  unfold setAddByScan
  refine wpAny_bind ?_
  refine wpAny_bind (wpAny_rule ?_)
  refine wpAny_bind (wpAny_setScan_of hkey ho rfl hf hel ?_)
  dsimp only
  rw [lay_one]
  dsimp only [List.findIdx?_nil]
  refine wpAny_bind (wpAny_pure ?_)
  show wpAny _ _ (hashByValue 8 (Value.str x tk) >>= _) _ _ _
  refine wpAny_bind (wpAny_of_eq (a := false) (hashByValue_scannable 8 (x := .str x tk) rfl) ?_)
  simp only [Bool.false_eq_true, if_false]
  refine wpAny_bind (wpAny_storeSet_of ho rfl ?_ (by show 1 ≤ sizeLine; decide))
  rw [show (!false && SetTable.tooFull { SetTable.fresh 0 0 led with place := #[SetTable.bits ((strKind prog w).hash x) % 8], plain := false }) = false from rfl]
  simp only [Bool.false_eq_true, if_false]
  refine wpAny_pure (wpAny_pure ?_)
  exact q _ _ _ (Heap.SameBut.update ..) (Heap.get?_update_self _ ho rfl) rfl rfl

theorem set_new_led (a : Value) {Q₁ : Value → Shared → Prop}
    (h : Q₁ (.ref s.heap.objs.size) { s with heap := s.heap.push { cls := .type "set", dict := none, data := .set #[] 0 (.fresh 0 0 (!w.params.followText "set-order")) } }) :
    codeAny (model prog w) A (.call (.builtin "set.__new__") ⟨[.type "set", a], []⟩) (wants Q₁ E) s := by
  refine codeAny_of_tree ?_
  show wpAny _ A.in1 (do checkBuiltinCall "set.__new__" ⟨[.type "set", a], []⟩; again (.builtin "set.__new__" ⟨[.type "set", a], []⟩)) _ _ s
  refine wpAny_bind (wpAny_of_eq (F.newCall_set_1 a) (wpAny_pure ⟨plainId_quiet F.plain_set_new _, codeAny_builtin F.entry_set_new ?_⟩))
  rw [Around.under_plainId F.plain_set_new _]
  unfold Builtin.«set.__new__» Builtin.Frozenset.newClass
  have hsub := sub_set_self
  obtain ⟨hp, g, d, tk, os⟩ := s
  dsimp only
  wp_walk
  refine wpAny_askSetting (wpAny_pure ?_)
  dsimp only
  simp only [newObj]
  refine wpAny_bind (wpAny_alloc (wpAny_pure ?_))
  exact wpAny_pure h

set_option maxHeartbeats 3200000 in
theorem call_set_str {l : Addr} {n : Nat} {x : Str} {tx : Tok} {Q : Value → Shared → Prop} (hh : A.handled = none) (hl : s.heap.get? l = some ⟨.type "list", none, .seq #[.str x tx] n, #[]⟩)
    (h : ∀ (h' : Heap) (tk : Nat) ep t, h'.get? s.heap.objs.size = some ⟨.type "set", none, .set #[((strKind prog w).hash x, .str x tx)] ep t, #[]⟩ → t.fits 1 = true → t.led = (!w.params.followText "set-order") →
      (∀ b o, b < s.heap.objs.size → s.heap.get? b = some o → h'.get? b = some o) → Q (.ref s.heap.objs.size) { s with heap := h', toks := tk }) :
    wpAny (model prog w) A (call (.type "set") [.ref l]) Q E s := by
  obtain ⟨c, tl, hmro⟩ := F.called_set.mro
  have hmade := F.called_set.made
  have hsub := F.called_set.sub
  refine wpAny_call (codeAny_of_tree ?_)
  show wpAny _ _ (callAny (.type "set") _) _ _ _
  refine wpAny_pure ⟨Code.quiet_builtin _ (by decide +kernel), codeAny_builtin F.entry_type_call ?_⟩
  rw [Around.under_plain (weight_type_call_type "set" [.ref l] []) rfl]
  have h1 := F.called_set.notType
  have h2 := F.called_set.canCreate
  have hct := F.typeCall_set_1 (.ref l)
  repeat (any_goals (first | assumption | wp_step))
  refine codeAny_mono (set_new_led (.ref l) (E := E) (Q₁ := fun obj s₁ => obj = .ref s.heap.objs.size ∧ s₁ = { s with heap := s.heap.push { cls := .type "set", dict := none, data := .set #[] 0 (.fresh 0 0 (!w.params.followText "set-order")) } }) ⟨rfl, rfl⟩) fun r s₁ hr => ?_
  generalize hled : (!w.params.followText "set-order") = led at *
  cases r with
  | error e => exact hr
  | ok fl =>
    cases fl with
    | ret obj =>
      obtain ⟨rfl, rfl⟩ := hr
      have hS : (s.heap.push { cls := .type "set", dict := none, data := .set #[] 0 (.fresh 0 0 led) }).get? s.heap.objs.size = some { cls := .type "set", dict := none, data := .set #[] 0 (.fresh 0 0 led) } := Heap.get?_push_size _ rfl
      have hT : Shared.TypeIs { s with heap := s.heap.push { cls := .type "set", dict := none, data := .set #[] 0 (.fresh 0 0 led) } } (.ref s.heap.objs.size) "set" := ⟨_, hS, rfl⟩
      have hli := F.called_set.init.lookup
      have hbi := F.called_set.init.bind (.ref s.heap.objs.size)
      repeat (any_goals (first | assumption | wp_step))
      refine codeAny_mono (codeAny_call_builtin (R := wants (fun r s₂ => r = .none ∧ ∃ h' tk ep t, s₂ = { s with heap := h', toks := tk } ∧
          h'.get? s.heap.objs.size = some ⟨.type "set", none, .set #[((strKind prog w).hash x, .str x tx)] ep t, #[]⟩ ∧ t.fits 1 = true ∧ t.led = led ∧
          (∀ b o, b < s.heap.objs.size → s.heap.get? b = some o → h'.get? b = some o)) E) F.called_set.init.plain F.entry_set_init (check_set_init_1 hT ?_)) fun r₂ s₂ hr₂ => ?_
      · have hol' : (s.heap.push { cls := .type "set", dict := none, data := .set #[] 0 (.fresh 0 0 led) }).get? l = some { cls := .type "list", dict := none, data := .seq #[.str x tx] n, slots := #[] } := Heap.get?_push_of_some _ hl
        have hsls := F.sub_list_set
        have hslf := F.sub_list_frozenset
        have hne : (Value.type "list" == Value.type "dict") = false := by decide
        have hl1 : (s.heap.push { cls := .type "set", dict := none, data := .set #[] 0 (.fresh 0 0 led) }).IsList l #[.str x tx] := ⟨_, hol', rfl, n, rfl⟩
        unfold Builtin.«set.__init__» noKeywords Builtin.Frozenset.updateFrom
        generalize hPI : pyIter = PI
        wp_walk
        subst hPI
        refine wpAny_pyIter_list hl1 ?_
        refine wpAny_bind (wpAny_runValue ?_)
        have hlS : l < s.heap.objs.size := Heap.lt_size hl
        have hIsz : (s.heap.push { cls := .type "set", dict := none, data := .set #[] 0 (.fresh 0 0 led) }).objs.size = s.heap.objs.size + 1 := Heap.size_push ..
        generalize hH : (s.heap.push { cls := .type "set", dict := none, data := .set #[] 0 (.fresh 0 0 led) }) = H at *
        have hit : (H.push { cls := .type "list_iterator", data := .fields #[.ref l, .int 0 0] }).IsListIter H.objs.size l 0 := ⟨_, Heap.get?_push_size _ rfl, rfl, rfl⟩
        have hl2 : (H.push { cls := .type "list_iterator", data := .fields #[.ref l, .int 0 0] }).IsList l #[.str x tx] := hl1.push _
        have hS2 : (H.push { cls := .type "list_iterator", data := .fields #[.ref l, .int 0 0] }).get? s.heap.objs.size = some { cls := .type "set", dict := none, data := .set #[] 0 (.fresh 0 0 led) } := Heap.get?_push_of_some _ hS
        have neI : s.heap.objs.size ≠ H.objs.size := by rw [hIsz]; exact Nat.ne_of_lt (Nat.lt_succ_self _)
        have nel : l ≠ H.objs.size := by rw [hIsz]; exact Nat.ne_of_lt (Nat.lt_succ_of_lt hlS)
        refine codeAny_builtin F.entry_set_update_loop ?_
        rw [Around.under_plainId F.plain_set_update_loop _]
        show wpAny _ _ (pyNext (.ref H.objs.size) >>= _) _ _ _
        refine wpAny_bind (wpAny_pyNext_list_item hit hl2 (x := .str x tx) rfl fun h₁ hit₁ hs₁ => ?_)
        show wpAny _ _ (holding [Value.str x tx] (setAdd s.heap.objs.size (.str x tx)) >>= _) _ _ _
        refine wpAny_bind (wpAny_holding ?_)
        unfold setAdd
        refine wpAny_holding ?_
        refine wpAny_bind ((strKind prog w).pyHash (k := x) (strKind_is _ _ _ _) ?_)
        refine add_one (led := led) ((hs₁.2 _ neI).trans hS2) fun h₂ ep t hs₂ hS₂ hf hld => ?_
        refine wpAny_pure ⟨Code.quiet_builtin _ (by decide +kernel), ?_⟩
        refine codeAny_builtin F.entry_set_update_loop ?_
        rw [Around.under_plainId F.plain_set_update_loop _]
        show wpAny _ _ (pyNext (.ref H.objs.size) >>= _) _ _ _
        have hit₂ : h₂.IsListIter H.objs.size l 1 := by
          obtain ⟨o, e1, e2⟩ := hit₁
          exact ⟨o, (hs₂.2 _ (Ne.symm neI)).trans e1, e2⟩
        have hl₂ : h₂.IsList l #[.str x tx] := by
          obtain ⟨o, e1, e2⟩ := hl2
          exact ⟨o, (hs₂.2 _ (Nat.ne_of_lt hlS)).trans ((hs₁.2 _ nel).trans e1), e2⟩
        refine wpAny_bind (wpAny_pyNext_list_end (by simpa using hh) hit₂ hl₂ rfl fun h₃ hs₃ => ?_)
        show wpAny _ _ (ret Value.none) _ _ _
        refine wpAny_pure ?_
        show wpAny _ _ _ _ _ _
        refine wpAny_pure ?_
        show wpAny _ _ (ret Value.none) _ _ _
        refine wpAny_pure ⟨rfl, h₃, _, ep, t, rfl, hs₃ _ _ neI hS₂, hf, hld, fun b o hb e => ?_⟩
        have hb1 : b ≠ s.heap.objs.size := Nat.ne_of_lt hb
        have hb2 : b ≠ H.objs.size := by rw [hIsz]; exact Nat.ne_of_lt (Nat.lt_succ_of_lt hb)
        refine hs₃ b o hb2 ((hs₂.2 b hb1).trans ((hs₁.2 b hb2).trans (Heap.get?_push_of_some _ ?_)))
        rw [← hH]; exact Heap.get?_push_of_some _ e
      · cases r₂ with
        | error e => exact hr₂
        | ok fl₂ =>
          cases fl₂ with
          | ret r =>
            obtain ⟨rfl, h', tk, ep, t, rfl, hS', hf, hld, hk'⟩ := hr₂
            repeat (any_goals (first | assumption | wp_step))
            exact h _ _ ep t hS' hf hld hk'
          | _ => exact hr₂.elim
    | _ => exact hr.elim
end
end Mine
end

section
open PySem PySem.W PyProof.Rows
set_option maxRecDepth 100000
namespace Mine

inductive V where
  | none | bool (b : Bool) | int (i : Int) | str (s : Str) | ref (a : Addr) | typ (n : String)

noncomputable def absV : Value → Option V
  | .none => some .none
  | .bool b => some (.bool b)
  | .int i _ => some (.int i)
  | .str s _ => some (.str s)
  | .ref a => some (.ref a)
  | .type n => some (.typ n)
  | _ => Option.none

theorem abs_none {v : Value} (h : absV v = some .none) : v = .none := by cases v <;> simp_all [absV]
theorem abs_bool {v : Value} {b : Bool} (h : absV v = some (.bool b)) : v = .bool b := by cases v <;> simp_all [absV]
theorem abs_int {v : Value} {i : Int} (h : absV v = some (.int i)) : ∃ t, v = .int i t := by cases v <;> simp_all [absV]
theorem abs_str {v : Value} {x : Str} (h : absV v = some (.str x)) : ∃ t, v = .str x t := by cases v <;> simp_all [absV]
theorem abs_ref {v : Value} {a : Addr} (h : absV v = some (.ref a)) : v = .ref a := by cases v <;> simp_all [absV]
theorem abs_typ {v : Value} {n : String} (h : absV v = some (.typ n)) : v = .type n := by cases v <;> simp_all [absV]

inductive O where
  | list (xs : List V)
  | tuple (xs : List V)
  | di (n : Nat) (f : Int → Option V)
  | ds (n : Nat) (f : Str → Option V)
  | inst (c d : Addr)
  | set (xs : List Str) (ep : Nat) (t : SetTable)
  | ns (n : Nat) (f : Str → Option V)

noncomputable abbrev Sto := Addr → Option O
noncomputable abbrev Loc := String → Option V

noncomputable def AbsL (vs : List Value) (xs : List V) : Prop := vs.map absV = xs.map some

theorem AbsL.length {vs : List Value} {xs : List V} (h : AbsL vs xs) : vs.length = xs.length := by
  have := congrArg List.length h; simpa using this
theorem AbsL.nil : AbsL [] [] := rfl
theorem AbsL.cons {v : Value} {x : V} {vs : List Value} {xs : List V} (h : absV v = some x) (r : AbsL vs xs) : AbsL (v :: vs) (x :: xs) := by
  unfold AbsL at *; simp [h, r]
theorem AbsL.append {vs ws : List Value} {xs ys : List V} (h : AbsL vs xs) (r : AbsL ws ys) : AbsL (vs ++ ws) (xs ++ ys) := by
  unfold AbsL at *; simp [h, r]
theorem AbsL.get {vs : List Value} {xs : List V} (h : AbsL vs xs) {i : Nat} {x : V} (hx : xs[i]? = some x) : ∃ v, vs[i]? = some v ∧ absV v = some x := by
  have e : (vs.map absV)[i]? = (xs.map some)[i]? := by rw [h]
  simp only [List.getElem?_map, hx, Option.map_some] at e
  cases hv : vs[i]? with
  | none => simp [hv] at e
  | some v => simp [hv] at e; exact ⟨v, rfl, e⟩
theorem AbsL.inv_cons {v : Value} {vs : List Value} {xs : List V} (h : AbsL (v :: vs) xs) : ∃ x ys, xs = x :: ys ∧ absV v = some x ∧ AbsL vs ys := by
  cases xs with
  | nil => unfold AbsL at h; simp at h
  | cons x ys => unfold AbsL at h; simp at h; exact ⟨x, ys, rfl, h.1, h.2⟩
theorem AbsL.inv_cons' {x : V} {vs : List Value} {xs : List V} (h : AbsL vs (x :: xs)) : ∃ v ws, vs = v :: ws ∧ absV v = some x ∧ AbsL ws xs := by
  cases vs with
  | nil => unfold AbsL at h; simp at h
  | cons v ws => unfold AbsL at h; simp at h; exact ⟨v, ws, rfl, h.1, h.2⟩
theorem AbsL.inv_nil' {vs : List Value} (h : AbsL vs []) : vs = [] := by unfold AbsL at h; simpa using h
theorem AbsL.set {vs : List Value} {xs : List V} (h : AbsL vs xs) {v : Value} {x : V} (hv : absV v = some x) (i : Nat) : AbsL (vs.set i v) (xs.set i x) := by
  unfold AbsL at *; rw [List.map_set, List.map_set, h, hv]
theorem AbsL.take {vs : List Value} {xs : List V} (h : AbsL vs xs) (i : Nat) : AbsL (vs.take i) (xs.take i) := by
  unfold AbsL at *; rw [List.map_take, List.map_take, h]
theorem AbsL.drop {vs : List Value} {xs : List V} (h : AbsL vs xs) (i : Nat) : AbsL (vs.drop i) (xs.drop i) := by
  unfold AbsL at *; rw [List.map_drop, List.map_drop, h]
/-- what a dict's finding gives, abstracted -/
noncomputable def OptR : Option Value → Option V → Prop
  | none, none => True
  | some v, some x => absV v = some x
  | _, _ => False

structure Cx where
  prog : Program
  w : World
  base : Heap
  gens : Array GenState
  os : OsState

noncomputable abbrev Cx.M (C : Cx) : Model := model C.prog C.w

noncomputable def DR {prog : Program} {w : World} {κ : Type} [DecidableEq κ] (knd : KeyKind prog w κ) (ob : Obj) (n : Nat) (f : κ → Option V) : Prop :=
  ∃ es ep kvs, ob = ⟨.type "dict", none, .dict es ep, #[]⟩ ∧ KeysOf knd es ∧ Pairs knd es.toList kvs ∧ (kvs.map (·.1)).Nodup ∧ kvs.length ≤ n ∧ ∀ k, OptR (valueAt kvs k) (f k)
theorem DR.dictOf {prog : Program} {w : World} {κ : Type} [DecidableEq κ] {knd : KeyKind prog w κ} {ob : Obj} {n : Nat} {f : κ → Option V} (h : DR knd ob n f) {hp : Heap} {a : Addr} (e : hp.get? a = some ob) :
    ∃ kvs, hp.DictOf knd a kvs ∧ kvs.length ≤ n ∧ ∀ k, OptR (valueAt kvs k) (f k) := by
  obtain ⟨es, ep, kvs, rfl, hk, hp', hn, hl, hf⟩ := h
  exact ⟨kvs, ⟨_, es, ep, e, ⟨rfl, rfl, rfl⟩, rfl, hk, hp', hn⟩, hl, hf⟩
theorem DR.of_dictOf {prog : Program} {w : World} {κ : Type} [DecidableEq κ] {knd : KeyKind prog w κ} {n : Nat} {f : κ → Option V} {hp : Heap} {a : Addr} {kvs : List (κ × Value)} (h : hp.DictOf knd a kvs) (hl : kvs.length ≤ n)
    (hf : ∀ k, OptR (valueAt kvs k) (f k)) : ∃ ob, hp.get? a = some ob ∧ DR knd ob n f := by
  obtain ⟨o, es, ep, ho, hc, hd, hk, hp', hn⟩ := h
  refine ⟨o, ho, es, ep, kvs, ?_, hk, hp', hn, hl, hf⟩
  obtain ⟨c, dd, dt, sl⟩ := o
  obtain ⟨h1, h2, h3⟩ := hc
  simp only at h1 h2 h3 hd
  rw [h1, h2, h3, hd]
theorem stored_length {κ : Type} [DecidableEq κ] (kvs : List (κ × Value)) (k : κ) (v : Value) : (stored kvs k v).length ≤ kvs.length + 1 := by
  unfold stored; split <;> simp
theorem valueAt_stored {κ : Type} [DecidableEq κ] (kvs : List (κ × Value)) (k j : κ) (v : Value) : valueAt (stored kvs k v) j = if j = k then some v else valueAt kvs j := by
  unfold stored
  split
  · rename_i h
    unfold valueAt
    induction kvs with
    | nil => simp at h
    | cons kv r ih =>
      by_cases hk : kv.1 = k
      · by_cases hj : j = k
        · subst hj; simp [hk]
        · have : ¬ k = j := fun e => hj e.symm
          have hr : (List.map (fun kv => if kv.fst = k then (kv.fst, v) else kv) r).find? (fun kv => decide (kv.1 = j)) = r.find? fun kv => decide (kv.1 = j) := by
            clear ih h
            induction r with
            | nil => rfl
            | cons x r ih =>
              rw [List.map_cons, List.find?_cons, List.find?_cons, ih]
              by_cases hx : x.1 = k
              · have : ¬ x.1 = j := fun e => hj (e.symm.trans hx)
                rw [if_pos hx]; simp [this]
              · rw [if_neg hx]
          rw [List.map_cons, if_pos hk, List.find?_cons, List.find?_cons, hr]
          simp [hk, this, hj]
      · have h' : r.any (fun kv => decide (kv.1 = k)) = true := by simpa [hk] using h
        rw [List.map_cons, if_neg hk, List.find?_cons, List.find?_cons]
        by_cases hj : kv.1 = j
        · have : ¬ j = k := fun e => hk (hj.trans e)
          simp [hj, this]
        · simp only [hj, decide_false]; exact ih h'
  · rename_i h
    unfold valueAt
    rw [List.find?_append]
    have h' : ∀ x ∈ kvs, ¬ x.1 = k := fun x hx e => h (List.any_eq_true.mpr ⟨x, hx, by simpa using e⟩)
    by_cases hj : j = k
    · subst hj
      have : kvs.find? (fun kv => decide (kv.1 = j)) = none := by
        rw [List.find?_eq_none]; intro x hx; simpa using h' x hx
      rw [this]; simp
    · have : ¬ k = j := fun e => hj e.symm
      rw [if_neg hj]
      cases kvs.find? (fun kv => decide (kv.1 = j)) <;> simp [this]

/-- an object of the machine is one of ours -/
noncomputable def OR (C : Cx) (ob : Obj) : O → Prop
  | .list xs => ∃ vs n, ob = ⟨.type "list", none, .seq vs n, #[]⟩ ∧ AbsL vs.toList xs
  | .tuple xs => ∃ vs n, ob = ⟨.type "tuple", none, .seq vs n, #[]⟩ ∧ AbsL vs.toList xs
  | .di n f => DR (intKind C.prog C.w) ob n f
  | .ds n f => DR (strKind C.prog C.w) ob n f
  | .inst c d => ob = instObj c d
  | .set xs ep t => ∃ es, ob = ⟨.type "set", none, .set es ep t, #[]⟩ ∧ t.fits xs.length = true ∧ (match xs with
    | [] => es = #[]
    | [x] => (∃ tk, es = #[((strKind C.prog C.w).hash x, .str x tk)]) ∧ t.led = !C.w.params.followText "set-order"
    | _ => False)
  | .ns n f => ∃ es ep, ob.data = .dict es ep ∧ es.size ≤ n ∧ StrKeys es ∧ ∀ x, OptR (nsFind es x) (f x)

structure Base (C : Cx) (σ : Sto) (s : Shared) : Prop where
  keep : ∀ b o, C.base.get? b = some o → s.heap.get? b = some o
  size : C.base.objs.size ≤ s.heap.objs.size
  sto : ∀ a o, σ a = some o → ∃ ob, s.heap.get? a = some ob ∧ OR C ob o
  dyn : ∀ a, σ a ≠ none → C.base.objs.size ≤ a
  gens : s.gens = C.gens
  os : s.os = C.os

/-- all that is not ours to turn stays (a frame's slots may be filled); what is new in the store is new in the heap. fr: the frame's own -/
structure Kp (fr : Addr → Prop) (σ σ' : Sto) (h h' : Heap) : Prop where
  keep : ∀ b o, h.get? b = some o → σ b = none → ¬ fr b → ∃ sl, h'.get? b = some { o with slots := sl }
  recs : ∀ b o, h.get? b = some o → σ b = none → ¬ fr b → (∀ es ep, o.data ≠ .dict es ep) → h'.get? b = some o
  there : ∀ b o, h.get? b = some o → σ b = none → ∃ o', h'.get? b = some o'
  fresh : ∀ b, σ' b ≠ none → σ b ≠ none ∨ h.get? b = none

noncomputable abbrev NoFr : Addr → Prop := fun _ => False

theorem Kp.refl (fr : Addr → Prop) (σ : Sto) (h : Heap) : Kp fr σ σ h h := ⟨fun _ o e _ _ => ⟨o.slots, e⟩, fun _ _ e _ _ _ => e, fun _ o e _ => ⟨o, e⟩, fun _ q => .inl q⟩
theorem Kp.nn {fr : Addr → Prop} {σ σ' : Sto} {h h' : Heap} (k : Kp fr σ σ' h h') {b : Addr} {o : Obj} (e : h.get? b = some o) (hn : σ b = none) : σ' b = none := by
  cases hb : σ' b with
  | none => rfl
  | some x =>
    rcases k.fresh b (by rw [hb]; simp) with q | q
    · exact absurd hn q
    · rw [q] at e; cases e
theorem Kp.trans {fr : Addr → Prop} {σ σ' σ'' : Sto} {h h' h'' : Heap} (k : Kp fr σ σ' h h') (k' : Kp fr σ' σ'' h' h'') : Kp fr σ σ'' h h'' := by
  refine ⟨fun b o e hn hf => ?_, fun b o e hn hf hd => k'.recs b o (k.recs b o e hn hf hd) (k.nn e hn) hf hd, fun b o e hn => ?_, fun b q => ?_⟩
  · obtain ⟨sl, e'⟩ := k.keep b o e hn hf
    obtain ⟨sl', e''⟩ := k'.keep b _ e' (k.nn e hn) hf
    exact ⟨sl', e''⟩
  · obtain ⟨o', e'⟩ := k.there b o e hn
    exact k'.there b o' e' (k.nn e hn)
  · cases hs : h.get? b with
    | none => exact .inr rfl
    | some o =>
      left
      intro hn
      obtain ⟨o', e'⟩ := k.there b o hs hn
      rcases k'.fresh b q with q | q
      · exact q (k.nn hs hn)
      · rw [q] at e'; cases e'
theorem Kp.weak {fr : Addr → Prop} {σ σ' : Sto} {h h' : Heap} (k : Kp NoFr σ σ' h h') : Kp fr σ σ' h h' := ⟨fun b o e hn _ => k.keep b o e hn id, fun b o e hn _ => k.recs b o e hn id, k.there, k.fresh⟩
theorem Kp.wk {fr fr' : Addr → Prop} {σ σ' : Sto} {h h' : Heap} (hf : ∀ b, fr b → fr' b) (k : Kp fr σ σ' h h') : Kp fr' σ σ' h h' := ⟨fun b o e hn hb => k.keep b o e hn fun q => hb (hf b q), fun b o e hn hb => k.recs b o e hn fun q => hb (hf b q), k.there, k.fresh⟩
theorem Kp.of_keep {fr : Addr → Prop} {σ : Sto} {h h' : Heap} (k : ∀ b o, h.get? b = some o → h'.get? b = some o) : Kp fr σ σ h h' :=
  ⟨fun b o e _ _ => ⟨o.slots, k b o e⟩, fun b o e _ _ _ => k b o e, fun b o e _ => ⟨o, k b o e⟩, fun _ q => .inl q⟩

/-- not protected: not there, or ours -/
noncomputable def Unp (σ : Sto) (h : Heap) (b : Addr) : Prop := h.get? b = none ∨ σ b ≠ none
theorem Unp.back {fr : Addr → Prop} {σ σ' : Sto} {h h' : Heap} (k : Kp fr σ σ' h h') {b : Addr} (q : Unp σ' h' b) : Unp σ h b := by
  cases hs : h.get? b with
  | none => exact .inl hs
  | some o =>
    right
    intro hn
    obtain ⟨o', e'⟩ := k.there b o hs hn
    rcases q with q | q
    · rw [q] at e'; cases e'
    · exact q (k.nn hs hn)

/-- an IndexError in the heap, its context c, with or without a traceback; P of it and of its traceback -/
noncomputable def ExcAt (c : Value) (P : Addr → Prop) (h : Heap) (x : Addr) : Prop :=
  P x ∧ ∃ o vs, h.get? x = some o ∧ o.cls = .type "IndexError" ∧ o.data = .fields vs ∧ vs.size = 6 ∧
    (vs[1]? = some .none ∨ ∃ t ot ts, P t ∧ t ≠ x ∧ vs[1]? = some (.ref t) ∧ h.get? t = some ot ∧ ot.data = .fields ts ∧ 3 < ts.size) ∧ vs[2]? = some c

/-- what is being handled: 0 nothing, 3 nothing, 1 nothing or a first IndexError, 2 anything. At 0 what is raised has no context -/
noncomputable def HM (m : Nat) (σ : Sto) (h : Heap) (v : Option Value) : Prop :=
  (m = 0 ∨ m = 3 → v = none) ∧ (m = 1 → v = none ∨ ∃ x, v = some (.ref x) ∧ ExcAt .none (fun b => σ b = none) h x)

structure Ok0 (C : Cx) (d m : Nat) (A : Around) (σ : Sto) (s : Shared) : Prop where
  base : Base C σ s
  depth : A.depth + 2 * d + 4 ≤ recursionLimit
  units : A.units + 8 * d + 100 ≤ cLine
  frames : ∃ l, A.frames = some l ∧ s.heap.FunFrames C.base l ∧ ∀ b ∈ l.filterMap (·.frame), σ b = none ∧ ∃ o es ep, s.heap.get? b = some o ∧ o.data = .dict es ep
  hand : HM m σ s.heap A.handled

theorem funFrames_data {h h' base : Heap} : ∀ {l : List Env}, h.FunFrames base l → (∀ b ∈ l.filterMap (·.frame), ∀ o, h.get? b = some o → (∀ vs, o.data ≠ .fields vs) → ∃ o', h'.get? b = some o' ∧ ∀ vs, o'.data ≠ .fields vs) → h'.FunFrames base l
  | [], _, _ => trivial
  | env :: rest, ⟨hk, ⟨L, o, hf, hn, ho, hd⟩, hr⟩, k => by
    rw [List.filterMap_cons, hf] at k
    obtain ⟨o', e, hd'⟩ := k L (.head _) o ho hd
    exact ⟨hk, ⟨L, _, hf, hn, e, hd'⟩, funFrames_data hr fun b hb => k b (.tail _ hb)⟩

theorem ExcAt.kp {σ σ' : Sto} {h h' : Heap} (k : Kp NoFr σ σ' h h') {c : Value} {x : Addr} (q : ExcAt c (fun b => σ b = none) h x) : ExcAt c (fun b => σ' b = none) h' x := by
  obtain ⟨hx, o, vs, ho, hc, hd, hsz, h1, h2⟩ := q
  obtain ⟨sl, e⟩ := k.keep x o ho hx id
  refine ⟨k.nn ho hx, _, vs, e, hc, hd, hsz, ?_, h2⟩
  rcases h1 with h1 | ⟨t, ot, ts, ht, htx, h1, hot, hdt, hs⟩
  · exact .inl h1
  · obtain ⟨sl', e'⟩ := k.keep t ot hot ht id
    exact .inr ⟨t, _, ts, k.nn hot ht, htx, h1, e', hdt, hs⟩
theorem HM.kp {m : Nat} {σ σ' : Sto} {h h' : Heap} (k : Kp NoFr σ σ' h h') {v : Option Value} (q : HM m σ h v) : HM m σ' h' v :=
  ⟨q.1, fun e => (q.2 e).imp id fun ⟨x, e, hx⟩ => ⟨x, e, hx.kp k⟩⟩

theorem Ok0.kp {C : Cx} {d m : Nat} {A : Around} {σ σ' : Sto} {s s' : Shared} (h : Ok0 C d m A σ s) (b : Base C σ' s') (k : Kp NoFr σ σ' s.heap s'.heap) : Ok0 C d m A σ' s' := by
  obtain ⟨l, hl, hf, hn⟩ := h.frames
  refine ⟨b, h.depth, h.units, ⟨l, hl, funFrames_data hf fun b hb o ho hd => ?_, fun b hb => ?_⟩, h.hand.kp k⟩
  · obtain ⟨sl, e⟩ := k.keep b o ho (hn b hb).1 id
    exact ⟨_, e, hd⟩
  · obtain ⟨h1, o, es, ep, ho, hd⟩ := hn b hb
    obtain ⟨sl, e⟩ := k.keep b o ho h1 id
    exact ⟨k.nn ho h1, _, es, ep, e, hd⟩

/-- the frame at hand -/
structure Ok (C : Cx) (d m : Nat) (A : Around) (ns : List (Str × NameKind)) (env : Env) (ρ : Loc) (σ : Sto) (s : Shared) : Prop extends Ok0 C d m A σ s where
  kind : env.scope.kind = .function
  names : env.scope.names = ns
  glob : env.globals = mainGlobals
  blt : env.builtins = builtinsNs
  above : C.base.objs.size ≤ env.locals
  new : σ env.locals = none
  loc : ∃ mp, s.heap.Ns env.locals mp ∧ ∀ x v, ρ x = some v → ns.lookup (Str.ofString x) = some .local → ∃ cv, mp (Str.ofString x) = some cv ∧ absV cv = some v
  cell : ∀ x : Str, ns.lookup x = some .cell ∨ ns.lookup x = some .free → ∃ c ov, env.cells.lookup x = some c ∧ s.heap.IsCell c ov ∧ (∀ y v, x = Str.ofString y → ρ y = some v → ∃ cv, ov = some cv ∧ absV cv = some v)
  apart : env.cells.Pairwise fun x y => x.2 ≠ y.2
  cnew : ∀ x c, env.cells.lookup x = some c → σ c = none ∧ C.base.objs.size ≤ c ∧ c ≠ env.locals ∧ ∃ ov, s.heap.IsCell c ov
  vis : ∀ x v, ρ x = some v → ns.lookup (Str.ofString x) = some .local ∨ ns.lookup (Str.ofString x) = some .cell ∨ ns.lookup (Str.ofString x) = some .free

theorem ns_slots {h h' : Heap} {a : Addr} {m : Str → Option Value} (n : h.Ns a m) (k : ∀ o, h.get? a = some o → ∃ sl, h'.get? a = some { o with slots := sl }) : h'.Ns a m := by
  obtain ⟨o, es, ep, ho, r⟩ := n
  obtain ⟨sl, e⟩ := k o ho
  exact ⟨_, es, ep, e, r⟩
theorem cell_slots {h h' : Heap} {a : Addr} {v : Option Value} (n : h.IsCell a v) (k : ∀ o, h.get? a = some o → ∃ sl, h'.get? a = some { o with slots := sl }) : h'.IsCell a v := by
  obtain ⟨o, ho, r⟩ := n
  obtain ⟨sl, e⟩ := k o ho
  exact ⟨_, e, r⟩

theorem Ok.kp {C : Cx} {d m : Nat} {A : Around} {ns : List (Str × NameKind)} {env : Env} {ρ : Loc} {σ σ' : Sto} {s s' : Shared} (h : Ok C d m A ns env ρ σ s) (b : Base C σ' s') (k : Kp NoFr σ σ' s.heap s'.heap) :
    Ok C d m A ns env ρ σ' s' := by
  obtain ⟨mp, hm, hv⟩ := h.loc
  obtain ⟨o, es, ep, ho, r⟩ := id hm
  refine { toOk0 := h.toOk0.kp b k, kind := h.kind, names := h.names, glob := h.glob, blt := h.blt, above := h.above, new := k.nn ho h.new, loc := ⟨mp, ns_slots hm fun o e => k.keep _ o e h.new id, hv⟩, cell := fun x hx => ?_, apart := h.apart, cnew := fun x c hx => ?_, vis := h.vis }
  · obtain ⟨c, ov, hc, hi, hq⟩ := h.cell x hx
    exact ⟨c, ov, hc, cell_slots hi fun o e => k.keep _ o e (h.cnew _ _ hc).1 id, hq⟩
  · obtain ⟨h1, h2, h3, ov, h4⟩ := h.cnew x c hx
    obtain ⟨o, ho, hd⟩ := id h4
    exact ⟨k.nn ho h1, h2, h3, ov, cell_slots h4 fun o e => k.keep _ o e h1 id⟩

theorem Base.tok {C : Cx} {σ : Sto} {s : Shared} (b : Base C σ s) (t : Nat) : Base C σ { s with toks := t } := ⟨b.keep, b.size, b.sto, b.dyn, b.gens, b.os⟩

/-- the frame's own objects -/
noncomputable def frOf (env : Env) : Addr → Prop := fun b => b = env.locals ∨ ∃ x, env.cells.lookup x = some b
/-- what an expression may turn of it -/
noncomputable def frE (env : Env) : Addr → Prop := fun b => b = env.locals

theorem frE_of {env : Env} : ∀ b, frE env b → frOf env b := fun _ q => .inl q
section
variable (C : Cx) (d m : Nat) (A : Around) (ns : List (Str × NameKind)) (env : Env)
/-- what an expression's end says -/
inductive EP (ρ : Loc) (σ : Sto) (s : Shared) (Q : V → Sto → Prop) (v : Value) (s' : Shared) : Prop
  | mk (av : V) (σ' : Sto) (h1 : absV v = some av) (h2 : Ok C d m A ns env ρ σ' s') (h3 : Kp (frE env) σ σ' s.heap s'.heap) (h4 : Q av σ')
/-- an IndexError leaves it -/
inductive XP (fr : Addr → Prop) (σ : Sto) (s : Shared) (X : Loc → Sto → Prop) (e : Value) (s' : Shared) : Prop
  | mk (x : Addr) (c : Value) (ρ' : Loc) (σ' : Sto) (h1 : e = .ref x) (h2 : ExcAt c (fun b => σ' b = none ∧ Unp σ s.heap b) s'.heap x) (h3 : m = 0 → c = .none) (h4 : Ok C d m A ns env ρ' σ' s') (h5 : Kp fr σ σ' s.heap s'.heap) (h6 : X ρ' σ')
inductive BP (ρ : Loc) (σ : Sto) (s : Shared) (Q : Bool → Sto → Prop) (v : Bool) (s' : Shared) : Prop
  | mk (σ' : Sto) (h2 : Ok C d m A ns env ρ σ' s') (h3 : Kp (frE env) σ σ' s.heap s'.heap) (h4 : Q v σ')
inductive LP (ρ : Loc) (σ : Sto) (s : Shared) (Q : List V → Sto → Prop) (vs : List Value) (s' : Shared) : Prop
  | mk (xs : List V) (σ' : Sto) (h1 : AbsL vs xs) (h2 : Ok C d m A ns env ρ σ' s') (h3 : Kp (frE env) σ σ' s.heap s'.heap) (h4 : Q xs σ')
/-- an expression's X: the names stand as they stood -/
noncomputable def XE (ρ : Loc) (X : Sto → Prop) : Loc → Sto → Prop := fun ρ' σ => ρ' = ρ ∧ X σ
end

section
variable {C : Cx} {d m : Nat} {A : Around} {ns : List (Str × NameKind)} {env : Env} {ρ : Loc}
theorem EP.back {σ σ₁ : Sto} {s s₁ : Shared} (k : Kp (frE env) σ σ₁ s.heap s₁.heap) {Q : V → Sto → Prop} {v : Value} {s' : Shared} (h : EP C d m A ns env ρ σ₁ s₁ Q v s') : EP C d m A ns env ρ σ s Q v s' := by
  obtain ⟨av, σ', h1, h2, h3, h4⟩ := h
  exact ⟨av, σ', h1, h2, k.trans h3, h4⟩
theorem BP.back {σ σ₁ : Sto} {s s₁ : Shared} (k : Kp (frE env) σ σ₁ s.heap s₁.heap) {Q : Bool → Sto → Prop} {v : Bool} {s' : Shared} (h : BP C d m A ns env ρ σ₁ s₁ Q v s') : BP C d m A ns env ρ σ s Q v s' := by
  obtain ⟨σ', h2, h3, h4⟩ := h
  exact ⟨σ', h2, k.trans h3, h4⟩
theorem ExcAt.mono {c : Value} {P P' : Addr → Prop} (hp : ∀ b, P b → P' b) {h : Heap} {x : Addr} (q : ExcAt c P h x) : ExcAt c P' h x := by
  obtain ⟨hx, o, vs, ho, hc, hd, hsz, h1, h2⟩ := q
  refine ⟨hp _ hx, o, vs, ho, hc, hd, hsz, h1.imp id ?_, h2⟩
  rintro ⟨t, ot, ts, ht, r⟩
  exact ⟨t, ot, ts, hp _ ht, r⟩
theorem XP.back {fr : Addr → Prop} {σ σ₁ : Sto} {s s₁ : Shared} (k : Kp fr σ σ₁ s.heap s₁.heap) {X : Loc → Sto → Prop} {e : Value} {s' : Shared} (h : XP C d m A ns env fr σ₁ s₁ X e s') : XP C d m A ns env fr σ s X e s' := by
  obtain ⟨x, c, ρ', σ', h1, h2, h3, h4, h5, h6⟩ := h
  exact ⟨x, c, ρ', σ', h1, h2.mono fun b q => ⟨q.1, q.2.back k⟩, h3, h4, k.trans h5, h6⟩
theorem XP.imp {fr fr' : Addr → Prop} {σ : Sto} {s : Shared} {X X' : Loc → Sto → Prop} (hf : ∀ b, fr b → fr' b) (hx : ∀ ρ σ, X ρ σ → X' ρ σ) {e : Value} {s' : Shared} (h : XP C d m A ns env fr σ s X e s') : XP C d m A ns env fr' σ s X' e s' := by
  obtain ⟨x, c, ρ', σ', h1, h2, h3, h4, h5, h6⟩ := h
  exact ⟨x, c, ρ', σ', h1, h2, h3, h4, h5.wk hf, hx _ _ h6⟩
end

noncomputable abbrev ET := Loc → Sto → (V → Sto → Prop) → (Sto → Prop) → Prop
noncomputable abbrev BT := Loc → Sto → (Bool → Sto → Prop) → (Sto → Prop) → Prop
noncomputable abbrev LT := Loc → Sto → (List V → Sto → Prop) → (Sto → Prop) → Prop

/-- a tree of a value, from here -/
noncomputable abbrev TE (C : Cx) (d m : Nat) (A : Around) (ns : List (Str × NameKind)) (env : Env) (ρ : Loc) (t : Sem Value) (σ : Sto) (s : Shared) (Q : V → Sto → Prop) (X : Sto → Prop) : Prop :=
  wpAny C.M A t (EP C d m A ns env ρ σ s Q) (XP C d m A ns env (frE env) σ s (XE ρ X)) s
noncomputable abbrev TB (C : Cx) (d m : Nat) (A : Around) (ns : List (Str × NameKind)) (env : Env) (ρ : Loc) (t : Sem Bool) (σ : Sto) (s : Shared) (Q : Bool → Sto → Prop) (X : Sto → Prop) : Prop :=
  wpAny C.M A t (BP C d m A ns env ρ σ s Q) (XP C d m A ns env (frE env) σ s (XE ρ X)) s
noncomputable abbrev TL (C : Cx) (d m : Nat) (A : Around) (ns : List (Str × NameKind)) (env : Env) (ρ : Loc) (t : Sem (List Value)) (σ : Sto) (s : Shared) (Q : List V → Sto → Prop) (X : Sto → Prop) : Prop :=
  wpAny C.M A t (LP C d m A ns env ρ σ s Q) (XP C d m A ns env (frE env) σ s (XE ρ X)) s

noncomputable def SE (C : Cx) (d m : Nat) (ns : List (Str × NameKind)) (pe : Expr) (W : ET) : Prop :=
  ∀ A env ρ σ s Q X, Ok C d m A ns env ρ σ s → W ρ σ Q X → TE C d m A ns env ρ (eval pe env) σ s Q X
noncomputable def SB (C : Cx) (d m : Nat) (ns : List (Str × NameKind)) (pe : Expr) (W : BT) : Prop :=
  ∀ A env ρ σ s Q X, Ok C d m A ns env ρ σ s → W ρ σ Q X → TB C d m A ns env ρ (isTrue pe env (eval pe env)) σ s Q X

section
variable {C : Cx} {d m : Nat} {A : Around} {ns : List (Str × NameKind)} {env : Env} {ρ : Loc}
/-- go on behind an expression; σ₀, s₀: where the whole began -/
theorem te_go {σ₀ σ : Sto} {s₀ s : Shared} {t : Sem Value} {K : V → Sto → Prop} {X : Sto → Prop} {R : Value → Shared → Prop}
    (k₀ : Kp (frE env) σ₀ σ s₀.heap s.heap) (h : TE C d m A ns env ρ t σ s K X)
    (hk : ∀ v av σ₁ s₁, absV v = some av → Ok C d m A ns env ρ σ₁ s₁ → Kp (frE env) σ₀ σ₁ s₀.heap s₁.heap → K av σ₁ → R v s₁) : wpAny C.M A t R (XP C d m A ns env (frE env) σ₀ s₀ (XE ρ X)) s := by
  refine wpAny_mono h (fun v s₁ q => ?_) fun _ _ q => q.back k₀
  obtain ⟨av, σ₁, h1, h2, h3, h4⟩ := q
  exact hk v av σ₁ s₁ h1 h2 (k₀.trans h3) h4
/-- an end from further on -/
theorem te_end {t : Sem Value} {σ₀ σ : Sto} {s₀ s : Shared} {Q : V → Sto → Prop} {X : Sto → Prop} (k : Kp (frE env) σ₀ σ s₀.heap s.heap) (h : TE C d m A ns env ρ t σ s Q X) :
    wpAny C.M A t (EP C d m A ns env ρ σ₀ s₀ Q) (XP C d m A ns env (frE env) σ₀ s₀ (XE ρ X)) s := wpAny_mono h (fun _ _ q => q.back k) fun _ _ q => q.back k
/-- a step that raises nothing -/
theorem te_quiet {t : Sem Value} {σ₀ σ : Sto} {s₀ s : Shared} {Q : V → Sto → Prop} {E : Value → Shared → Prop} (k : Kp (frE env) σ₀ σ s₀.heap s.heap) (h : wpAny C.M A t (EP C d m A ns env ρ σ s Q) (fun _ _ => False) s) :
    wpAny C.M A t (EP C d m A ns env ρ σ₀ s₀ Q) E s := wpAny_mono h (fun _ _ q => q.back k) fun _ _ q => q.elim

theorem ep_of {σ σ' : Sto} {s s' : Shared} {Q : V → Sto → Prop} {v : Value} {av : V} (ok : Ok C d m A ns env ρ σ s) (b : Base C σ' s') (k : Kp NoFr σ σ' s.heap s'.heap) (hv : absV v = some av) (h : Q av σ') :
    EP C d m A ns env ρ σ s Q v s' := ⟨av, σ', hv, ok.kp b k, k.weak, h⟩
theorem ep_same {σ : Sto} {s : Shared} {Q : V → Sto → Prop} {v : Value} {av : V} (ok : Ok C d m A ns env ρ σ s) (hv : absV v = some av) (h : Q av σ) : EP C d m A ns env ρ σ s Q v s := ⟨av, σ, hv, ok, .refl .., h⟩
theorem ep_tok {σ : Sto} {s : Shared} {Q : V → Sto → Prop} {v : Value} {av : V} {t : Nat} (ok : Ok C d m A ns env ρ σ s) (hv : absV v = some av) (h : Q av σ) : EP C d m A ns env ρ σ s Q v { s with toks := t } :=
  ep_of ok (ok.base.tok t) (.refl ..) hv h
theorem bp_of {σ σ' : Sto} {s s' : Shared} {Q : Bool → Sto → Prop} {v : Bool} (ok : Ok C d m A ns env ρ σ s) (b : Base C σ' s') (k : Kp NoFr σ σ' s.heap s'.heap) (h : Q v σ') :
    BP C d m A ns env ρ σ s Q v s' := ⟨σ', ok.kp b k, k.weak, h⟩
theorem bp_same {σ : Sto} {s : Shared} {Q : Bool → Sto → Prop} {v : Bool} (ok : Ok C d m A ns env ρ σ s) (h : Q v σ) : BP C d m A ns env ρ σ s Q v s := ⟨σ, ok, .refl .., h⟩
theorem bp_tok {σ : Sto} {s : Shared} {Q : Bool → Sto → Prop} {v : Bool} {t : Nat} (ok : Ok C d m A ns env ρ σ s) (h : Q v σ) : BP C d m A ns env ρ σ s Q v { s with toks := t } := bp_of ok (ok.base.tok t) (.refl ..) h
end

noncomputable def upd {α : Type} (σ : Addr → Option α) (a : Addr) (o : α) : Addr → Option α := fun b => if b = a then some o else σ b
theorem upd_self {α : Type} (σ : Addr → Option α) (a : Addr) (o : α) : upd σ a o a = some o := if_pos rfl
theorem upd_ne {α : Type} (σ : Addr → Option α) {a b : Addr} (o : α) (h : b ≠ a) : upd σ a o b = σ b := if_neg h

/-- a new object -/
theorem Base.push {C : Cx} {σ : Sto} {s : Shared} (b : Base C σ s) (ob : Obj) (o : O) (hf : ob.isFreed = false) (h : OR C ob o) :
    Base C (upd σ s.heap.objs.size o) { s with heap := s.heap.push ob } := by
  refine ⟨fun a x e => Heap.get?_push_of_some _ (b.keep a x e), Nat.le_trans b.size (by rw [Heap.size_push]; omega), fun a x e => ?_, fun a e => ?_, b.gens, b.os⟩
  · by_cases q : a = s.heap.objs.size
    · subst q; rw [upd_self] at e; cases e; exact ⟨ob, Heap.get?_push_size _ hf, h⟩
    · rw [upd_ne _ _ q] at e; obtain ⟨x', h1, h2⟩ := b.sto a x e; exact ⟨x', Heap.get?_push_of_some _ h1, h2⟩
  · by_cases q : a = s.heap.objs.size
    · subst q; exact b.size
    · rw [upd_ne _ _ q] at e; exact b.dyn a e
theorem Base.no {C : Cx} {σ : Sto} {s : Shared} (b : Base C σ s) : σ s.heap.objs.size = none := by
  cases h : σ s.heap.objs.size with
  | none => rfl
  | some o => obtain ⟨ob, e, _⟩ := b.sto _ _ h; exact absurd (Heap.lt_size e) (Nat.lt_irrefl _)
theorem size_none (h : Heap) : h.get? h.objs.size = none := by
  cases e : h.get? h.objs.size with
  | none => rfl
  | some o => exact absurd (Heap.lt_size e) (Nat.lt_irrefl _)
theorem Kp.push {fr : Addr → Prop} {σ : Sto} {h : Heap} (ob : Obj) (o : O) : Kp fr σ (upd σ h.objs.size o) h (h.push ob) := by
  refine ⟨fun b x e _ _ => ⟨x.slots, Heap.get?_push_of_some _ e⟩, fun b x e _ _ _ => Heap.get?_push_of_some _ e, fun b x e _ => ⟨x, Heap.get?_push_of_some _ e⟩, fun b q => ?_⟩
  by_cases e : b = h.objs.size
  · subst e; exact .inr (size_none h)
  · rw [upd_ne _ _ e] at q; exact .inl q
/-- an object of ours turned -/
theorem Base.turn {C : Cx} {σ : Sto} {s : Shared} {h' : Heap} {a : Addr} {ob : Obj} {o o' : O} (b : Base C σ s) (ha : σ a = some o) (hs : Heap.SameBut a s.heap h') (he : h'.get? a = some ob) (h : OR C ob o') :
    Base C (upd σ a o') { s with heap := h' } := by
  have hd := b.dyn a (by rw [ha]; simp)
  refine ⟨fun c x e => (hs.2 c fun q => ?_).trans (b.keep c x e), by show _ ≤ h'.objs.size; rw [hs.1]; exact b.size, fun c x e => ?_, fun c e => ?_, b.gens, b.os⟩
  · subst q; exact absurd (Heap.lt_size e) (Nat.not_lt.mpr hd)
  · by_cases q : c = a
    · subst q; rw [upd_self] at e; cases e; exact ⟨ob, he, h⟩
    · rw [upd_ne _ _ q] at e; obtain ⟨x', h1, h2⟩ := b.sto c x e; exact ⟨x', (hs.2 c q).trans h1, h2⟩
  · by_cases q : c = a
    · subst q; exact hd
    · rw [upd_ne _ _ q] at e; exact b.dyn c e
theorem Kp.turn {fr : Addr → Prop} {σ : Sto} {h h' : Heap} {a : Addr} {o o' : O} (ha : σ a = some o) (hs : Heap.SameBut a h h') : Kp fr σ (upd σ a o') h h' := by
  have ne : ∀ b, σ b = none → b ≠ a := fun b e q => by rw [q, ha] at e; cases e
  refine ⟨fun b x e hn _ => ⟨x.slots, (hs.2 b (ne b hn)).trans e⟩, fun b x e hn _ _ => (hs.2 b (ne b hn)).trans e, fun b x e hn => ⟨x, (hs.2 b (ne b hn)).trans e⟩, fun b q => ?_⟩
  by_cases e : b = a
  · subst e; left; rw [ha]; simp
  · rw [upd_ne _ _ e] at q; exact .inl q

theorem Base.turnT {C : Cx} {σ : Sto} {s : Shared} {h' : Heap} {a : Addr} {ob : Obj} {o : O} (o' : O) {t : Nat} (b : Base C σ s) (ha : σ a = some o) (hs : Heap.SameBut a s.heap h') (he : h'.get? a = some ob) (h : OR C ob o') :
    Base C (upd σ a o') { s with heap := h', toks := t } := (b.turn ha hs he h).tok t
section
variable {C : Cx} {d m : Nat} {A : Around} {ns : List (Str × NameKind)} {env : Env} {ρ : Loc}
theorem ep_turn {σ : Sto} {s : Shared} {h' : Heap} {t : Nat} {a : Addr} {ob : Obj} {o : O} (o' : O) {Q : V → Sto → Prop} {v : Value} {av : V} (ok : Ok C d m A ns env ρ σ s) (ha : σ a = some o) (hs : Heap.SameBut a s.heap h') (he : h'.get? a = some ob) (h : OR C ob o')
    (hv : absV v = some av) (q : Q av (upd σ a o')) : EP C d m A ns env ρ σ s Q v { s with heap := h', toks := t } := ep_of ok (ok.base.turnT o' ha hs he h) (.turn ha hs) hv q
theorem ep_push {σ : Sto} {s : Shared} {t : Nat} {ob : Obj} (o : O) {Q : V → Sto → Prop} (ok : Ok C d m A ns env ρ σ s) (hf : ob.isFreed = false) (h : OR C ob o) (q : Q (.ref s.heap.objs.size) (upd σ s.heap.objs.size o)) :
    EP C d m A ns env ρ σ s Q (.ref s.heap.objs.size) { s with heap := s.heap.push ob, toks := t } := ep_of ok ((ok.base.push ob o hf h).tok t) (.push ..) rfl q
end

noncomputable def opt {α : Type} (o : Option α) (k : α → Prop) : Prop := match o with | some a => k a | none => False
theorem opt_elim {α : Type} {o : Option α} {k : α → Prop} (h : opt o k) : ∃ a, o = some a ∧ k a := by cases o with | none => exact h.elim | some a => exact ⟨a, rfl, h⟩

end Mine
end

section
open PySem PySem.W PyProof.Rows
set_option maxRecDepth 100000
namespace Mine

section
variable {C : Cx} {d m : Nat} {ns : List (Str × NameKind)}

noncomputable def wNm (x : String) : ET := fun ρ σ Q _ => opt (ρ x) fun v => Q v σ
theorem se_name {x : String} {pos : Pos} (h1 : (Str.ofString x == ("__debug__" : Str)) = false := by decide +kernel) (h2 : (Str.ofString x == ("__classdict__" : Str)) = false := by decide +kernel) :
    SE C d m ns (.Name (Str.ofString x) pos) (wNm x) := by
  intro A env ρ σ s Q X ok w
  obtain ⟨v, hv, q⟩ := opt_elim w
  have hk : env.kindOf (Str.ofString x) = ns.lookup (Str.ofString x) := by rw [Env.kindOf, ok.names]
  refine wpAny_Name ?_ h1
  rcases ok.vis x v hv with e | e | e
  · obtain ⟨mp, hn, hm⟩ := ok.loc
    obtain ⟨cv, hc, ha⟩ := hm x v hv e
    exact wpAny_loadName_local ok.kind (hk.trans e) hn hc (ep_same ok ha q)
  · obtain ⟨c, ov, hc, hi, ho⟩ := ok.cell _ (.inl e)
    obtain ⟨cv, rfl, ha⟩ := ho x v rfl hv
    exact wpAny_loadName_cell ok.kind (hk.trans e) hc hi (ep_same ok ha q)
  · obtain ⟨c, ov, hc, hi, ho⟩ := ok.cell _ (.inr e)
    obtain ⟨cv, rfl, ha⟩ := ho x v rfl hv
    exact wpAny_loadName_free ok.kind (hk.trans e) hc hi (ep_same ok ha q) h2

noncomputable def wInt (i : Int) : ET := fun _ σ Q _ => Q (.int i) σ
theorem se_int {i : Int} {k : Nat} {pos : Pos} : SE C d m ns (.Constant (.int i) k pos) (wInt i) :=
  fun _ _ _ _ _ _ _ ok w => wpAny_Constant_int (ep_tok ok rfl w)
noncomputable def wStr (x : String) : ET := fun _ σ Q _ => Q (.str (Str.ofString x)) σ
theorem se_str {x : String} {k : Nat} {pos : Pos} : SE C d m ns (.Constant (.str (Str.ofString x)) k pos) (wStr x) :=
  fun _ _ _ _ _ _ _ ok w => Calls.Constant_str (ep_tok ok rfl w)
noncomputable def wNone : ET := fun _ σ Q _ => Q .none σ
theorem se_none {k : Nat} {pos : Pos} : SE C d m ns (.Constant .none k pos) wNone :=
  fun _ _ _ _ _ _ _ ok w => wpAny_Constant_none (ep_same ok rfl w)
noncomputable def wBool (b : Bool) : ET := fun _ σ Q _ => Q (.bool b) σ
theorem se_bool {b : Bool} {k : Nat} {pos : Pos} : SE C d m ns (.Constant (.bool b) k pos) (wBool b) :=
  fun _ _ _ _ _ _ _ ok w => wpAny_Constant_bool (ep_same ok rfl w)

/-- two operands, then a step f of ours -/
noncomputable def w2 (f : V → V → Sto → (V → Sto → Prop) → Prop) (a b : ET) : ET := fun ρ σ Q X => a ρ σ (fun va σ => b ρ σ (fun vb σ => f va vb σ Q) X) X

/-- the step f is what the machine's operation does (it raises nothing) -/
noncomputable def Op2 (C : Cx) (t : Value → Value → Sem Value) (f : V → V → Sto → (V → Sto → Prop) → Prop) : Prop :=
  ∀ (d m : Nat) A ns env ρ σ s Q a b va vb, Ok C d m A ns env ρ σ s → absV a = some va → absV b = some vb → f va vb σ Q → wpAny C.M A (t a b) (EP C d m A ns env ρ σ s Q) (fun _ _ => False) s

theorem se_binop {op : Operator} {l r : Expr} {pos : Pos} {wl wr : ET} {f : V → V → Sto → (V → Sto → Prop) → Prop} (hf : Op2 C (binaryOp op) f) (hl : SE C d m ns l wl) (hr : SE C d m ns r wr) :
    SE C d m ns (.BinOp l op r pos) (w2 f wl wr) := by
  intro A env ρ σ s Q X ok w
  refine wpAny_BinOp (te_go (.refl ..) (hl A env ρ σ s _ X ok w) fun a va σ₁ s₁ ha ok₁ k₁ q₁ => te_go k₁ (hr A env ρ σ₁ s₁ _ X ok₁ q₁) fun b vb σ₂ s₂ hb ok₂ k₂ q₂ => ?_)
  exact te_quiet k₂ (hf d m A ns env ρ σ₂ s₂ Q a b va vb ok₂ ha hb q₂)
/-- a comparison under a test: its value is a bool -/
noncomputable def w2b (f : V → V → Sto → (V → Sto → Prop) → Prop) (a b : ET) : BT := fun ρ σ Q X => a ρ σ (fun va σ => b ρ σ (fun vb σ => f va vb σ fun v σ => match v with | .bool t => Q t σ | _ => False) X) X
theorem sb_compare {op : CmpOp} {l r : Expr} {pos : Pos} {wl wr : ET} {f : V → V → Sto → (V → Sto → Prop) → Prop} (hf : Op2 C (compareOp op) f) (hl : SE C d m ns l wl) (hr : SE C d m ns r wr)
    (hm : behindInMarks op r = false := by with_unfolding_all rfl) : SB C d m ns (.Compare l [op] [r] pos) (w2b f wl wr) := by
  intro A env ρ σ s Q X ok w
  refine wpAny_isTrue_Compare1 (te_go (.refl ..) (hl A env ρ σ s _ X ok w) fun a va σ₁ s₁ ha ok₁ k₁ q₁ => te_go k₁ (hr A env ρ σ₁ s₁ _ X ok₁ q₁) fun b vb σ₂ s₂ hb ok₂ k₂ q₂ => ?_) hm
  refine wpAny_mono (hf d m A ns env ρ σ₂ s₂ _ a b va vb ok₂ ha hb q₂) (fun v s₃ q => ?_) fun _ _ q => q.elim
  obtain ⟨av, σ₃, h1, h2, h3, h4⟩ := q
  cases av with
  | bool t => rw [abs_bool h1]; exact wpAny_truthy_bool ⟨σ₃, h2, k₂.trans h3, h4⟩
  | _ => exact h4.elim

/-- the truth of a value -/
noncomputable def truthW (v : V) (σ : Sto) (k : Bool → Prop) : Prop := match v with
  | .none => k false
  | .bool b => k b
  | .int i => k (i != 0)
  | .str x => x.length ≤ 1000000 ∧ k (x.length != 0)
  | .ref a => (match σ a with
    | some (.list xs) => xs.length ≤ 1000000 ∧ k (!xs.isEmpty)
    | some (.ds 0 _) => k false
    | _ => False)
  | _ => False
noncomputable def wTru (a : ET) : BT := fun ρ σ Q X => a ρ σ (fun v σ => truthW v σ fun b => Q b σ) X

noncomputable def wNot (a : BT) : BT := fun ρ σ Q X => a ρ σ (fun b σ => Q (!b) σ) X
theorem sb_not {x : Expr} {pos : Pos} {w : BT} (h : SB C d m ns x w) : SB C d m ns (.UnaryOp .Not x pos) (wNot w) := by
  intro A env ρ σ s Q X ok q
  exact wpAny_isTrue_Not (wpAny_mono (h A env ρ σ s _ X ok q) (fun _ _ ⟨σ₁, a1, a2, a3⟩ => ⟨σ₁, a1, a2, a3⟩) fun _ _ q => q)
noncomputable def wAndB (a b : BT) : BT := fun ρ σ Q X => a ρ σ (fun t σ => if t then b ρ σ Q X else Q false σ) X
noncomputable def wOrB (a b : BT) : BT := fun ρ σ Q X => a ρ σ (fun t σ => if t then Q true σ else b ρ σ Q X) X
noncomputable def wTrueB : BT := fun _ σ Q _ => Q true σ
noncomputable def wFalseB : BT := fun _ σ Q _ => Q false σ

noncomputable def SA (C : Cx) (d m : Nat) (ns : List (Str × NameKind)) (op : BoolOp) (es : List Expr) (W : BT) : Prop :=
  ∀ A env ρ σ s Q X, Ok C d m A ns env ρ σ s → W ρ σ Q X → TB C d m A ns env ρ (allTrue op es env) σ s Q X
theorem sa_and_nil : SA C d m ns .And [] wTrueB := fun _ _ _ _ _ _ _ ok w => wpAny_allTrue_And_nil (bp_same ok w)
theorem sa_or_nil : SA C d m ns .Or [] wFalseB := fun _ _ _ _ _ _ _ ok w => wpAny_allTrue_Or_nil (bp_same ok w)
theorem sa_and_cons {x : Expr} {r : List Expr} {a b : BT} (h : SB C d m ns x a) (g : SA C d m ns .And r b) : SA C d m ns .And (x :: r) (wAndB a b) := by
  intro A env ρ σ s Q X ok w
  refine wpAny_allTrue_And_cons (wpAny_mono (h A env ρ σ s _ X ok w) (fun t s₁ q => ?_) fun _ _ q => q)
  obtain ⟨σ₁, h2, h3, h4⟩ := q
  cases t with
  | true => exact wpAny_mono (g A env ρ σ₁ s₁ Q X h2 (by simpa using h4)) (fun _ _ q => q.back h3) fun _ _ q => q.back h3
  | false => exact ⟨σ₁, h2, h3, by simpa using h4⟩
theorem sa_or_cons {x : Expr} {r : List Expr} {a b : BT} (h : SB C d m ns x a) (g : SA C d m ns .Or r b) : SA C d m ns .Or (x :: r) (wOrB a b) := by
  intro A env ρ σ s Q X ok w
  refine wpAny_allTrue_Or_cons (wpAny_mono (h A env ρ σ s _ X ok w) (fun t s₁ q => ?_) fun _ _ q => q)
  obtain ⟨σ₁, h2, h3, h4⟩ := q
  cases t with
  | false => exact wpAny_mono (g A env ρ σ₁ s₁ Q X h2 (by simpa using h4)) (fun _ _ q => q.back h3) fun _ _ q => q.back h3
  | true => exact ⟨σ₁, h2, h3, by simpa using h4⟩
theorem sb_boolop {op : BoolOp} {es : List Expr} {pos : Pos} {w : BT} (h : SA C d m ns op es w) : SB C d m ns (.BoolOp op es pos) w :=
  fun A env ρ σ s Q X ok q => wpAny_isTrue_BoolOp (h A env ρ σ s Q X ok q)

noncomputable def wIf (t : BT) (a b : ET) : ET := fun ρ σ Q X => t ρ σ (fun c σ => if c then a ρ σ Q X else b ρ σ Q X) X
theorem se_ifexp {t a b : Expr} {pos : Pos} {wt : BT} {wa wb : ET} (ht : SB C d m ns t wt) (ha : SE C d m ns a wa) (hb : SE C d m ns b wb) : SE C d m ns (.IfExp t a b pos) (wIf wt wa wb) := by
  intro A env ρ σ s Q X ok w
  refine wpAny_IfExp (wpAny_mono (ht A env ρ σ s _ X ok w) (fun c s₁ q => ?_) fun _ _ q => q)
  obtain ⟨σ₁, h2, h3, h4⟩ := q
  cases c with
  | true => exact wpAny_mono (ha A env ρ σ₁ s₁ Q X h2 (by simpa using h4)) (fun _ _ q => q.back h3) fun _ _ q => q.back h3
  | false => exact wpAny_mono (hb A env ρ σ₁ s₁ Q X h2 (by simpa using h4)) (fun _ _ q => q.back h3) fun _ _ q => q.back h3
end
end Mine
end

section
open PySem PySem.W PyProof.Rows
set_option maxRecDepth 100000
namespace Mine

/-- the text's own objects, the built-in names -/
structure Sta (C : Cx) (K : Frag) : Prop where
  kin : K.In C.base
  nolim : C.base.NoLimit
  lo : sysModules < C.base.objs.size
  blt : ∃ mb, C.base.Ns builtinsNs mb ∧ ∀ x : Str, x ≠ "__name__" → mb x = bootBuiltins x

section
variable {C : Cx} {K : Frag} {d m : Nat} {A : Around} {ns : List (Str × NameKind)} {env : Env} {ρ : Loc} {σ : Sto} {s : Shared}

theorem glob_name {x : Str} {pos : Pos} {v : Value} {Q : Value → Shared → Prop} {E : Value → Shared → Prop} (S : Sta C K) (hx : nsIn K mainGlobals x = some (some v)) (hk : ns.lookup x = some .globalImplicit)
    (ok : Ok C d m A ns env ρ σ s) (h : Q v s) (hd : (x == ("__debug__" : Str)) = false := by decide +kernel) : wpAny C.M A (eval (.Name x pos) env) Q E s := by
  refine Calls.Name_function_global ok.kind (by rw [Env.kindOf, ok.names]; exact hk) ?_ hd
  unfold loadGlobal
  rw [ok.glob]
  exact wpAny_bind (looks_nsIn (S.kin.keeps ok.base.keep) hx A _ E s (fun _ _ e => e) (wpAny_pure h))
theorem blt_name {x : Str} {pos : Pos} {v : Value} {Q : Value → Shared → Prop} {E : Value → Shared → Prop} (S : Sta C K) (hx : nsIn K mainGlobals x = some none) (hk : ns.lookup x = some .globalImplicit)
    (hb : bootBuiltins x = some v) (ok : Ok C d m A ns env ρ σ s) (h : Q v s) (hd : (x == ("__debug__" : Str)) = false := by decide +kernel) (hn : x ≠ "__name__" := by decide +kernel) : wpAny C.M A (eval (.Name x pos) env) Q E s := by
  refine Calls.Name_function_global ok.kind (by rw [Env.kindOf, ok.names]; exact hk) ?_ hd
  unfold loadGlobal
  rw [ok.glob, ok.blt]
  obtain ⟨mb, hmb, hv⟩ := S.blt
  refine wpAny_bind (looks_nsIn (S.kin.keeps ok.base.keep) hx A _ E s (fun _ _ e => e) ?_)
  refine wpAny_bind (wpAny_nsGet (hmb.keeps ok.base.keep) ?_)
  rw [hv x hn, hb]; exact wpAny_pure h
end

section
variable {C : Cx} {K : Frag} {d m : Nat} {ns : List (Str × NameKind)}

/-- the arguments, or a display's items -/
noncomputable def SL (C : Cx) (d m : Nat) (ns : List (Str × NameKind)) (es : List Expr) (W : LT) : Prop :=
  ∀ A env ρ σ s Q X pos, Ok C d m A ns env ρ σ s → W ρ σ Q X → TL C d m A ns env ρ (spliced (backTo pos (starEach es env))) σ s Q X ∧
    (∀ f, wpAny C.M A (evalArgs f true (backTo pos (starEach es env)) []) (fun a s' => a.kw = [] ∧ LP C d m A ns env ρ σ s Q a.pos s') (XP C d m A ns env (frE env) σ s (XE ρ X)) s) ∧ (backTo pos (starEach es env)).any (·.1) = false
noncomputable def wNil : LT := fun _ σ Q _ => Q [] σ
noncomputable def wCons (a : ET) (b : LT) : LT := fun ρ σ Q X => a ρ σ (fun v σ => b ρ σ (fun vs σ => Q (v :: vs) σ) X) X
theorem sl_nil : SL C d m ns [] wNil := fun _ _ _ σ _ _ _ _ ok w => ⟨Calls.spliced_nil ⟨[], σ, .nil, ok, .refl .., w⟩, fun _ => PySem.evalArgs_none ⟨rfl, [], σ, .nil, ok, .refl .., w⟩, rfl⟩
theorem sl_cons {e : Expr} {es : List Expr} {a : ET} {b : LT} (h : SE C d m ns e a) (g : SL C d m ns es b) (hs : ∀ env, starEach (e :: es) env = (false, eval e env) :: starEach es env := by intro _; rfl)
    (hg : ∀ pos env, (backTo pos (starEach es env)).any (·.1) = false := by intro _ _; rfl) : SL C d m ns (e :: es) (wCons a b) := by
  intro A env ρ σ s Q X pos ok w
  have main : TL C d m A ns env ρ (spliced (backTo pos (starEach (e :: es) env))) σ s Q X := by
    show wpAny C.M A (spliced (backTo pos (starEach (e :: es) env))) _ _ s
    rw [hs]
    refine Calls.spliced_cons (te_go (.refl ..) (h A env ρ σ s _ X ok w) fun v av σ₁ s₁ hv ok₁ k₁ q₁ => ?_)
    refine wpAny_mono (g A env ρ σ₁ s₁ _ X pos ok₁ q₁).1 (fun vs s₂ q => ?_) fun _ _ q => q.back k₁
    obtain ⟨xs, σ₂, h1, h2, h3, h4⟩ := q
    exact ⟨av :: xs, σ₂, .cons hv h1, h2, k₁.trans h3, h4⟩
  refine ⟨main, fun f => ?_, ?_⟩
  · rw [hs] at main ⊢
    exact Calls.evalArgs_plain (wpAny_mono main (fun _ _ q => ⟨rfl, q⟩) fun _ _ q => q)
  · rw [hs]; simp only [backTo, List.map_cons, List.any_cons, Bool.false_or]; exact hg pos env

/-- a call of a value fv with these arguments is our step f -/
noncomputable def OpN (C : Cx) (d m : Nat) (fv : Value) (f : List V → Sto → (V → Sto → Prop) → Prop) : Prop :=
  ∀ A ns env ρ σ s Q vs xs, Ok C d m A ns env ρ σ s → AbsL vs xs → f xs σ Q → wpAny C.M A (call fv vs) (EP C d m A ns env ρ σ s Q) (fun _ _ => False) s

noncomputable def wCall (f : List V → Sto → (V → Sto → Prop) → Prop) (b : LT) : ET := fun ρ σ Q X => b ρ σ (fun vs σ => f vs σ Q) X

theorem se_call_builtin {x : String} {np pos : Pos} {es : List Expr} {id : String} {b : LT} {f : List V → Sto → (V → Sto → Prop) → Prop} (S : Sta C K) (hf : OpN C d m (.builtin id) f) (h : SL C d m ns es b)
    (hx : nsIn K mainGlobals (Str.ofString x) = some none) (hk : ns.lookup (Str.ofString x) = some .globalImplicit) (hb : bootBuiltins (Str.ofString x) = some (.builtin id))
    (hd : (Str.ofString x == ("__debug__" : Str)) = false := by decide +kernel) (hn : Str.ofString x ≠ "__name__" := by decide +kernel) :
    SE C d m ns (.Call (.Name (Str.ofString x) np) es [] pos) (wCall f b) := by
  intro A env ρ σ s Q X ok w
  refine wpAny_Call_ofName (blt_name S hx hk hb ok ?_ hd hn)
  obtain ⟨h1, h2, h3⟩ := h A env ρ σ s _ X pos ok w
  refine Calls.callWith_builtin h3 (wpAny_mono (h2 _) (fun a s₁ q => ?_) fun _ _ q => q)
  obtain ⟨hkw, xs, σ₁, ha, ok₁, k₁, q₁⟩ := q
  rw [hkw, List.nil_append]
  exact te_quiet k₁ (hf A ns env ρ σ₁ s₁ Q a.pos xs ok₁ ha q₁)
theorem se_call_type {x : String} {np pos : Pos} {es : List Expr} {T : String} {b : LT} {f : List V → Sto → (V → Sto → Prop) → Prop} (S : Sta C K) (hf : OpN C d m (.type T) f) (h : SL C d m ns es b)
    (hx : nsIn K mainGlobals (Str.ofString x) = some none) (hk : ns.lookup (Str.ofString x) = some .globalImplicit) (hb : bootBuiltins (Str.ofString x) = some (.type T))
    (hd : (Str.ofString x == ("__debug__" : Str)) = false := by decide +kernel) (hn : Str.ofString x ≠ "__name__" := by decide +kernel) :
    SE C d m ns (.Call (.Name (Str.ofString x) np) es [] pos) (wCall f b) := by
  intro A env ρ σ s Q X ok w
  refine wpAny_Call_ofName (blt_name S hx hk hb ok ?_ hd hn)
  obtain ⟨h1, h2, h3⟩ := h A env ρ σ s _ X pos ok w
  refine PyProof.Rows.callWith_type h3 (wpAny_mono (h2 _) (fun a s₁ q => ?_) fun _ _ q => q)
  obtain ⟨hkw, xs, σ₁, ha, ok₁, k₁, q₁⟩ := q
  rw [hkw, List.nil_append]
  exact te_quiet k₁ (hf A ns env ρ σ₁ s₁ Q a.pos xs ok₁ ha q₁)

/-- a contract of a function of the text -/
noncomputable def FW (C : Cx) (d : Nat) (f : Addr) (xs : List V) (σ : Sto) (Q : V → Sto → Prop) : Prop :=
  ∀ A s vs, Ok0 C d 0 A σ s → AbsL vs xs → codeAny C.M A (.call (.ref f) ⟨vs, []⟩) (fun r s' => ∃ v av σ', r = .ok (.ret v) ∧ absV v = some av ∧ Base C σ' s' ∧ Kp NoFr σ σ' s.heap s'.heap ∧ Q av σ') s
noncomputable def FnOk (C : Cx) (d : Nat) (f : Addr) (T : List V → Sto → (V → Sto → Prop) → Prop) : Prop := ∀ xs σ Q, T xs σ Q → FW C d f xs σ Q

theorem fw_call {A : Around} {env : Env} {ρ : Loc} {σ : Sto} {s : Shared} {Q : V → Sto → Prop} {f : Addr} {vs : List Value} {xs : List V} (ok : Ok C d 0 A ns env ρ σ s) (ha : AbsL vs xs) (h : FW C d f xs σ Q) :
    wpAny C.M A (call (.ref f) vs) (EP C d 0 A ns env ρ σ s Q) (fun _ _ => False) s := by
  refine wpAny_call (codeAny_mono (h A s vs ok.toOk0 ha) fun r s' q => ?_)
  obtain ⟨v, av, σ', rfl, h1, h2, h3, h4⟩ := q
  exact ep_of ok h2 h3 h1 h4

noncomputable def isFnAt (K : Frag) (f : Addr) : Bool := match K.lookup f with
  | some ⟨_, _, .func _, _⟩ => true
  | _ => false
theorem isFnAt_of {h : Heap} (X : K.In h) {f : Addr} (e : isFnAt K f = true) : ∃ o fd, h.get? f = some o ∧ o.data = .func fd := by
  unfold isFnAt at e
  split at e
  · rename_i c dd fd sl ho; exact ⟨_, fd, X _ _ ho, rfl⟩
  · cases e

theorem se_call_own {x : String} {np pos : Pos} {es : List Expr} {f : Addr} {b : LT} {T : List V → Sto → (V → Sto → Prop) → Prop} (S : Sta C K) (hf : FnOk C d f T) (h : SL C d 0 ns es b)
    (hx : nsIn K mainGlobals (Str.ofString x) = some (some (.ref f))) (hk : ns.lookup (Str.ofString x) = some .globalImplicit) (hfn : isFnAt K f = true)
    (hd : (Str.ofString x == ("__debug__" : Str)) = false := by decide +kernel) : SE C d 0 ns (.Call (.Name (Str.ofString x) np) es [] pos) (wCall T b) := by
  intro A env ρ σ s Q X ok w
  refine wpAny_Call_ofName (glob_name S hx hk ok ?_ hd)
  obtain ⟨h1, h2, h3⟩ := h A env ρ σ s _ X pos ok w
  obtain ⟨o, fd, ho, hdat⟩ := isFnAt_of S.kin hfn
  refine Calls.callWith_function (o := o) (fd := fd) (wpAny_mono (h2 _) (fun a s₁ q => ?_) fun _ _ q => q)
  obtain ⟨hkw, xs, σ₁, ha, ok₁, k₁, q₁⟩ := q
  refine ⟨⟨ok₁.base.keep _ _ ho, hdat⟩, ?_⟩
  rw [hkw, List.nil_append]
  exact te_quiet k₁ (fw_call ok₁ ha (hf _ _ _ q₁))

/-- displays -/
noncomputable def lim : Nat := 1000000
noncomputable def newL (xs : List V) (σ : Sto) (Q : V → Sto → Prop) : Prop := xs.length ≤ lim ∧ ∀ a, σ a = none → Q (.ref a) (upd σ a (.list xs))
noncomputable def newT (xs : List V) (σ : Sto) (Q : V → Sto → Prop) : Prop := xs.length ≤ lim ∧ ∀ a, σ a = none → Q (.ref a) (upd σ a (.tuple xs))
theorem lim_le {n : Nat} (h : n ≤ lim) : n ≤ sizeLine := Nat.le_trans h (by decide)

theorem newList_ok {A : Around} {env : Env} {ρ : Loc} {σ : Sto} {s : Shared} {Q : V → Sto → Prop} {E : Value → Shared → Prop} {vs : List Value} {xs : List V} (ok : Ok C d m A ns env ρ σ s) (ha : AbsL vs xs) (h : newL xs σ Q) :
    wpAny C.M A (newList vs) (EP C d m A ns env ρ σ s Q) E s := by
  have hl := ha.length
  refine PySem.wpAny_newList (ep_of ok (ok.base.push _ (.list xs) rfl ⟨vs.toArray, 0, rfl, ha⟩) (.push ..) rfl (h.2 _ ok.base.no)) (by rw [hl]; exact lim_le h.1)
theorem newTuple_ok {A : Around} {env : Env} {ρ : Loc} {σ : Sto} {s : Shared} {Q : V → Sto → Prop} {E : Value → Shared → Prop} {vs : List Value} {xs : List V} (ok : Ok C d m A ns env ρ σ s) (ha : AbsL vs xs) (h : newT xs σ Q) :
    wpAny C.M A (newTuple vs) (EP C d m A ns env ρ σ s Q) E s := by
  have hl := ha.length
  refine PySem.wpAny_newTuple (ep_of ok (ok.base.push _ (.tuple xs) rfl ⟨vs.toArray, 0, rfl, ha⟩) (.push ..) rfl (h.2 _ ok.base.no)) (by rw [hl]; exact lim_le h.1)
theorem se_list {es : List Expr} {pos : Pos} {b : LT} (h : SL C d m ns es b) : SE C d m ns (.List es pos) (wCall newL b) := by
  intro A env ρ σ s Q X ok w
  refine List_ (wpAny_mono (h A env ρ σ s _ X pos ok w).1 (fun vs s₁ q => ?_) fun _ _ q => q)
  obtain ⟨xs, σ₁, ha, ok₁, k₁, q₁⟩ := q
  exact te_quiet k₁ (newList_ok ok₁ ha q₁)
theorem se_tuple {es : List Expr} {k : Nat} {pos : Pos} {b : LT} (h : SL C d m ns es b) : SE C d m ns (.Tuple es k pos) (wCall newT b) := by
  intro A env ρ σ s Q X ok w
  refine Tuple_ (wpAny_mono (h A env ρ σ s _ X pos ok w).1 (fun vs s₁ q => ?_) fun _ _ q => q)
  obtain ⟨xs, σ₁, ha, ok₁, k₁, q₁⟩ := q
  exact te_quiet k₁ (newTuple_ok ok₁ ha q₁)
end
end Mine
end

section
open PySem PySem.W PyProof.Rows
set_option maxRecDepth 100000
namespace Mine

inductive F where
  | next | brk | cont | ret (v : V)
noncomputable abbrev ST := Loc → Sto → (F → Loc → Sto → Prop) → (Loc → Sto → Prop) → Prop

/-- a function's own frame, on top -/
noncomputable def InFn (A : Around) (env : Env) : Prop := ∃ outer, A.frames = some (env :: outer) ∧ env.frame = some env.locals

noncomputable def FlR (Q : F → Loc → Sto → Prop) (ρ : Loc) (σ : Sto) : Flow → Prop
  | .next => Q .next ρ σ
  | .brk => Q .brk ρ σ
  | .cont => Q .cont ρ σ
  | .ret v => ∃ av, absV v = some av ∧ Q (.ret av) ρ σ

inductive SP (C : Cx) (d m : Nat) (A : Around) (ns : List (Str × NameKind)) (env : Env) (σ : Sto) (s : Shared) (Q : F → Loc → Sto → Prop) (fl : Flow) (s' : Shared) : Prop
  | mk (ρ' : Loc) (σ' : Sto) (h1 : Ok C d m A ns env ρ' σ' s') (h2 : Kp (frOf env) σ σ' s.heap s'.heap) (h3 : FlR Q ρ' σ' fl)
noncomputable abbrev TS (C : Cx) (d m : Nat) (A : Around) (ns : List (Str × NameKind)) (env : Env) (t : Sem Flow) (σ : Sto) (s : Shared) (Q : F → Loc → Sto → Prop) (X : Loc → Sto → Prop) : Prop :=
  wpAny C.M A t (SP C d m A ns env σ s Q) (XP C d m A ns env (frOf env) σ s X) s
noncomputable def S1 (C : Cx) (d m : Nat) (ns : List (Str × NameKind)) (p : Stmt) (W : ST) : Prop :=
  ∀ A env ρ σ s Q X, Ok C d m A ns env ρ σ s → InFn A env → W ρ σ Q X → TS C d m A ns env (exec p env) σ s Q X
noncomputable def SS (C : Cx) (d m : Nat) (ns : List (Str × NameKind)) (ps : List Stmt) (W : ST) : Prop :=
  ∀ A env ρ σ s Q X, Ok C d m A ns env ρ σ s → InFn A env → W ρ σ Q X → TS C d m A ns env (execs ps env) σ s Q X

section
variable {C : Cx} {d m : Nat} {A : Around} {ns : List (Str × NameKind)} {env : Env}
theorem SP.back {σ σ₁ : Sto} {s s₁ : Shared} (k : Kp (frOf env) σ σ₁ s.heap s₁.heap) {Q : F → Loc → Sto → Prop} {fl : Flow} {s' : Shared} (h : SP C d m A ns env σ₁ s₁ Q fl s') : SP C d m A ns env σ s Q fl s' := by
  obtain ⟨ρ', σ', h2, h3, h4⟩ := h
  exact ⟨ρ', σ', h2, k.trans h3, h4⟩
theorem ts_end {t : Sem Flow} {σ₀ σ : Sto} {s₀ s : Shared} {Q : F → Loc → Sto → Prop} {X : Loc → Sto → Prop} (k : Kp (frOf env) σ₀ σ s₀.heap s.heap) (h : TS C d m A ns env t σ s Q X) :
    wpAny C.M A t (SP C d m A ns env σ₀ s₀ Q) (XP C d m A ns env (frOf env) σ₀ s₀ X) s := wpAny_mono h (fun _ _ q => q.back k) fun _ _ q => q.back k
/-- an expression within a statement -/
theorem ts_go {ρ : Loc} {σ₀ σ : Sto} {s₀ s : Shared} {t : Sem Value} {K : V → Sto → Prop} {X : Loc → Sto → Prop} {R : Value → Shared → Prop}
    (k₀ : Kp (frOf env) σ₀ σ s₀.heap s.heap) (h : TE C d m A ns env ρ t σ s K (X ρ))
    (hk : ∀ v av σ₁ s₁, absV v = some av → Ok C d m A ns env ρ σ₁ s₁ → Kp (frOf env) σ₀ σ₁ s₀.heap s₁.heap → K av σ₁ → R v s₁) : wpAny C.M A t R (XP C d m A ns env (frOf env) σ₀ s₀ X) s := by
  refine wpAny_mono h (fun v s₁ q => ?_) fun _ _ q => (q.imp frE_of fun ρ' σ' e => e.1 ▸ e.2).back k₀
  obtain ⟨av, σ₁, h1, h2, h3, h4⟩ := q
  exact hk v av σ₁ s₁ h1 h2 (k₀.trans (h3.wk frE_of)) h4
theorem tsb_go {ρ : Loc} {σ₀ σ : Sto} {s₀ s : Shared} {t : Sem Bool} {K : Bool → Sto → Prop} {X : Loc → Sto → Prop} {R : Bool → Shared → Prop}
    (k₀ : Kp (frOf env) σ₀ σ s₀.heap s.heap) (h : TB C d m A ns env ρ t σ s K (X ρ))
    (hk : ∀ v σ₁ s₁, Ok C d m A ns env ρ σ₁ s₁ → Kp (frOf env) σ₀ σ₁ s₀.heap s₁.heap → K v σ₁ → R v s₁) : wpAny C.M A t R (XP C d m A ns env (frOf env) σ₀ s₀ X) s := by
  refine wpAny_mono h (fun v s₁ q => ?_) fun _ _ q => (q.imp frE_of fun ρ' σ' e => e.1 ▸ e.2).back k₀
  obtain ⟨σ₁, h2, h3, h4⟩ := q
  exact hk v σ₁ s₁ h2 (k₀.trans (h3.wk frE_of)) h4
end

noncomputable def updl (ρ : Loc) (x : String) (v : V) : Loc := fun y => if y = x then some v else ρ y

theorem ofString_inj {x y : String} (h : Str.ofString x = Str.ofString y) : x = y := by
  rw [Str.ofString_eq_toList, Str.ofString_eq_toList] at h
  have h1 : (x.toList.map Char.toNat) = (y.toList.map Char.toNat) := by simpa using h
  have h2 : x.toList = y.toList := by
    have hinj : Function.Injective Char.toNat := fun a b e => by
      apply Char.ext; apply UInt32.toNat_inj.mp; exact e
    exact (List.map_inj_right (fun a b e => hinj e)).mp h1
  exact String.toList_inj.mp h2

section
variable {C : Cx} {d m : Nat} {A : Around} {ns : List (Str × NameKind)} {env : Env} {ρ : Loc} {σ : Sto} {s : Shared}
/-- an object that is neither the text's nor ours is turned, and is no record -/
theorem Base.other {h' : Heap} {a : Addr} {t : Nat} (b : Base C σ s) (ha : σ a = none) (hb : C.base.objs.size ≤ a) (hs : Heap.SameBut a s.heap h') : Base C σ { s with heap := h', toks := t } := by
  refine ⟨fun c x e => (hs.2 c fun q => ?_).trans (b.keep c x e), by show _ ≤ h'.objs.size; rw [hs.1]; exact b.size, fun c x e => ?_, b.dyn, b.gens, b.os⟩
  · subst q; exact absurd (Heap.lt_size e) (Nat.not_lt.mpr hb)
  · obtain ⟨x', h1, h2⟩ := b.sto c x e
    exact ⟨x', (hs.2 c fun q => by rw [q, ha] at e; cases e).trans h1, h2⟩
theorem Kp.other {fr : Addr → Prop} {h h' : Heap} {a : Addr} {o' : Obj} (hf : fr a) (ho : h'.get? a = some o') (hs : Heap.SameBut a h h') : Kp fr σ σ h h' := by
  refine ⟨fun b x e hn hb => ⟨x.slots, (hs.2 b fun q => hb (q ▸ hf)).trans e⟩, fun b x e hn hb _ => (hs.2 b fun q => hb (q ▸ hf)).trans e, fun b x e hn => ?_, fun b q => .inl q⟩
  by_cases q : b = a
  · subst q; exact ⟨o', ho⟩
  · exact ⟨x, (hs.2 b q).trans e⟩
theorem Ok0.other {h' : Heap} {a : Addr} {t : Nat} {o o' : Obj} (ok : Ok0 C d m A σ s) (ha : σ a = none) (hb : C.base.objs.size ≤ a) (hs : Heap.SameBut a s.heap h') (ho : s.heap.get? a = some o) (hd : ∀ vs, o.data ≠ .fields vs)
    (ho' : h'.get? a = some o') (hd' : ∀ vs, o'.data ≠ .fields vs) (hdd : (∃ es ep, o.data = .dict es ep) → ∃ es ep, o'.data = .dict es ep) : Ok0 C d m A σ { s with heap := h', toks := t } := by
  obtain ⟨l, hl, hf, hn⟩ := ok.frames
  refine ⟨ok.base.other ha hb hs, ok.depth, ok.units, ⟨l, hl, funFrames_data hf fun b _ x hx hdx => ?_, fun b hb => ?_⟩, ok.hand.1, fun e => (ok.hand.2 e).imp id ?_⟩
  · by_cases q : b = a
    · subst q; exact ⟨o', ho', hd'⟩
    · exact ⟨x, (hs.2 b q).trans hx, hdx⟩
  · obtain ⟨h1, x, es, ep, hx, hdx⟩ := hn b hb
    by_cases q : b = a
    · subst q
      rw [ho] at hx; cases hx
      obtain ⟨es', ep', e'⟩ := hdd ⟨es, ep, hdx⟩
      exact ⟨h1, o', es', ep', ho', e'⟩
    · exact ⟨h1, x, es, ep, (hs.2 b q).trans hx, hdx⟩
  · rintro ⟨x, e1, hx, ox, vs, h1, h2, h3, h4, h5, h6⟩
    have ne : ∀ b ob ws, s.heap.get? b = some ob → ob.data = .fields ws → b ≠ a := fun b ob ws e1 e2 q => by subst q; rw [ho] at e1; cases e1; exact hd _ e2
    refine ⟨x, e1, hx, ox, vs, (hs.2 x (ne _ _ _ h1 h3)).trans h1, h2, h3, h4, h5.imp id ?_, h6⟩
    rintro ⟨tb, ot, ts, ht, htx, h1', hot, hdt, hsz⟩
    exact ⟨tb, ot, ts, ht, htx, h1', (hs.2 tb (ne _ _ _ hot hdt)).trans hot, hdt, hsz⟩

theorem store_loc {x : String} {v : Value} {av : V} {E : Value → Shared → Prop} (ok : Ok C d m A ns env ρ σ s) (hv : absV v = some av) (e : ns.lookup (Str.ofString x) = some .local) :
    wpAny C.M A (storeName env (Str.ofString x) v) (fun _ s' => Ok C d m A ns env (updl ρ x av) σ s' ∧ Kp (frE env) σ σ s.heap s'.heap) E s := by
  have hkind : env.kindOf (Str.ofString x) = ns.lookup (Str.ofString x) := by rw [Env.kindOf, ok.names]
  obtain ⟨mp, hn, hm⟩ := ok.loc
  obtain ⟨oL, es, ep, hoL, hdL, _⟩ := id hn
  refine wpAny_storeName_local (hkind.trans e) hn (fun h' hn' hs' => ?_) (by rw [ok.kind]; rfl)
  obtain ⟨oL', es', ep', hoL', hdL', _⟩ := id hn'
  have ok0 := ok.toOk0.other (t := s.toks + 1) ok.new ok.above hs' hoL (fun vs q => by rw [hdL] at q; cases q) hoL' (fun vs q => by rw [hdL'] at q; cases q) (fun _ => ⟨_, _, hdL'⟩)
  refine ⟨{ toOk0 := ok0, kind := ok.kind, names := ok.names, glob := ok.glob, blt := ok.blt, above := ok.above, new := ok.new, loc := ⟨_, hn', fun y w hy hl => ?_⟩, cell := fun y hy => ?_, apart := ok.apart, cnew := fun y c2 hy2 => ?_, vis := fun y w hy => ?_ }, .other rfl hoL' hs'⟩
  · unfold updl at hy
    by_cases q : y = x
    · subst q; rw [if_pos rfl] at hy; cases hy; exact ⟨v, if_pos rfl, hv⟩
    · rw [if_neg q] at hy
      obtain ⟨cv, h1, h2⟩ := hm y w hy hl
      exact ⟨cv, (if_neg fun r => q (ofString_inj r)).trans h1, h2⟩
  · obtain ⟨c, ov, hc, hi, hq⟩ := ok.cell y hy
    refine ⟨c, ov, hc, hi.sameBut hs' (ok.cnew _ _ hc).2.2.1, fun z w hz hw => ?_⟩
    unfold updl at hw
    by_cases q : z = x
    · subst q; subst hz; rcases hy with hy | hy <;> (rw [e] at hy; cases hy)
    · rw [if_neg q] at hw; exact hq z w hz hw
  · obtain ⟨h1, h2, h3, ov, h4⟩ := ok.cnew y c2 hy2
    exact ⟨h1, h2, h3, ov, h4.sameBut hs' h3⟩
  · unfold updl at hy
    by_cases q : y = x
    · subst q; exact .inl e
    · rw [if_neg q] at hy; exact ok.vis y w hy

theorem store_ok {x : String} {v : Value} {av : V} {E : Value → Shared → Prop} (ok : Ok C d m A ns env ρ σ s) (hv : absV v = some av) (hk : ns.lookup (Str.ofString x) = some .local ∨ ns.lookup (Str.ofString x) = some .cell) :
    wpAny C.M A (storeName env (Str.ofString x) v) (fun _ s' => Ok C d m A ns env (updl ρ x av) σ s' ∧ Kp (frOf env) σ σ s.heap s'.heap) E s := by
  have hkind : env.kindOf (Str.ofString x) = ns.lookup (Str.ofString x) := by rw [Env.kindOf, ok.names]
  obtain ⟨mp, hn, hm⟩ := ok.loc
  obtain ⟨oL, es, ep, hoL, hdL, _⟩ := id hn
  rcases hk with e | e
  · exact wpAny_mono (store_loc ok hv e) (fun _ _ q => ⟨q.1, q.2.wk frE_of⟩) fun _ _ q => q
  · obtain ⟨c, ov, hc, hi, hq⟩ := ok.cell _ (.inl e)
    obtain ⟨h1c, h2c, h3c, _⟩ := ok.cnew _ _ hc
    obtain ⟨oc, hoc, hdc⟩ := id hi
    refine wpAny_storeName_cell ok.kind (hkind.trans e) hc hi fun h' hi' hs' => ?_
    obtain ⟨oc', hoc', hdc'⟩ := id hi'
    have ok0 := ok.toOk0.other (t := s.toks) h1c h2c hs' hoc (fun vs q => by rw [hdc] at q; cases q) hoc' (fun vs q => by rw [hdc'] at q; cases q) (fun ⟨_, _, q⟩ => by rw [hdc] at q; cases q)
    refine ⟨{ toOk0 := ok0, kind := ok.kind, names := ok.names, glob := ok.glob, blt := ok.blt, above := ok.above, new := ok.new, loc := ⟨mp, hn.sameBut hs' (Ne.symm h3c), fun y w hy hl => ?_⟩, cell := fun y hy => ?_, apart := ok.apart, cnew := fun y c2 hy2 => ?_, vis := fun y w hy => ?_ }, .other (.inr ⟨_, hc⟩) hoc' hs'⟩
    · unfold updl at hy
      by_cases q : y = x
      · subst q; rw [e] at hl; cases hl
      · rw [if_neg q] at hy; exact hm y w hy hl
    · obtain ⟨c2, ov2, hc2, hi2, hq2⟩ := ok.cell y hy
      by_cases q : y = Str.ofString x
      · subst q
        rw [hc] at hc2; cases hc2
        refine ⟨c, some v, hc, hi', fun z w hz hw => ?_⟩
        unfold updl at hw
        rw [if_pos (ofString_inj hz).symm] at hw; cases hw; exact ⟨v, rfl, hv⟩
      · refine ⟨c2, ov2, hc2, hi2.sameBut hs' fun r => q (name_of_addr ok.apart (mem_of_lookup hc2) (r ▸ mem_of_lookup hc)), fun z w hz hw => ?_⟩
        unfold updl at hw
        rw [if_neg (fun r => q (by rw [hz, r]))] at hw; exact hq2 z w hz hw
    · obtain ⟨h1, h2, h3, ov2, h4⟩ := ok.cnew y c2 hy2
      by_cases q : c2 = c
      · exact ⟨h1, h2, h3, some v, q ▸ hi'⟩
      · exact ⟨h1, h2, h3, ov2, h4.sameBut hs' q⟩
    · unfold updl at hy
      by_cases q : y = x
      · subst q; exact .inr (.inl e)
      · rw [if_neg q] at hy; exact ok.vis y w hy
end

section
variable {C : Cx} {d m : Nat} {ns : List (Str × NameKind)}
noncomputable def wDone : ST := fun ρ σ Q _ => Q .next ρ σ
noncomputable def wSeq (a b : ST) : ST := fun ρ σ Q X => a ρ σ (fun f ρ σ => match f with | .next => b ρ σ Q X | f => Q f ρ σ) X
theorem ss_nil : SS C d m ns [] wDone := fun _ _ ρ σ _ _ _ ok _ w => wpAny_execs_nil ⟨ρ, σ, ok, .refl .., w⟩
theorem ss_cons {p : Stmt} {ps : List Stmt} {a b : ST} (h : S1 C d m ns p a) (g : SS C d m ns ps b) : SS C d m ns (p :: ps) (wSeq a b) := by
  intro A env ρ σ s Q X ok hf w
  refine wpAny_execs_cons (wpAny_mono (h A env ρ σ s _ X ok hf w) (fun fl s₁ q => ?_) fun _ _ q => q)
  obtain ⟨ρ₁, σ₁, ok₁, k₁, q₁⟩ := q
  cases fl with
  | next => exact ts_end k₁ (g A env ρ₁ σ₁ s₁ Q X ok₁ hf q₁)
  | brk => exact ⟨ρ₁, σ₁, ok₁, k₁, q₁⟩
  | cont => exact ⟨ρ₁, σ₁, ok₁, k₁, q₁⟩
  | ret v => exact ⟨ρ₁, σ₁, ok₁, k₁, q₁⟩

noncomputable def notRef : V → Prop
  | .ref _ => False
  | _ => True
noncomputable def wExpr (a : ET) : ST := fun ρ σ Q X => a ρ σ (fun v σ => notRef v ∧ Q .next ρ σ) (X ρ)
theorem s_expr {e : Expr} {pos : Pos} {a : ET} (h : SE C d m ns e a) (hs : ∀ env, swapsWith e none pos.line env = pure false := by intro _; rfl) : S1 C d m ns (.Expr e pos) (wExpr a) := by
  intro A env ρ σ s Q X ok hf w
  refine wpAny_Expr (ts_go (.refl ..) (h A env ρ σ s _ _ ok w) fun v av σ₁ s₁ hv ok₁ k₁ q₁ => ?_) (by unfold interactive; rw [ok.kind]; rfl) (hs env)
  cases v with
  | ref a => cases hv; exact q₁.1.elim
  | _ => exact ⟨ρ, σ₁, ok₁, k₁, q₁.2⟩

noncomputable def wAsg (x : String) (a : ET) : ST := fun ρ σ Q X => a ρ σ (fun v σ => Q .next (updl ρ x v) σ) (X ρ)
theorem s_assign {x : String} {np pos : Pos} {e : Expr} {a : ET} (h : SE C d m ns e a) (hk : ns.lookup (Str.ofString x) = some .local ∨ ns.lookup (Str.ofString x) = some .cell)
    (hs : ∀ env, swapsWith e (some (.Name (Str.ofString x) np)) pos.line env = pure false := by intro _; rfl) : S1 C d m ns (.Assign [.Name (Str.ofString x) np] e pos) (wAsg x a) := by
  intro A env ρ σ s Q X ok hf w
  refine wpAny_Assign_Name (ts_go (.refl ..) (h A env ρ σ s _ _ ok w) fun v av σ₁ s₁ hv ok₁ k₁ q₁ => ?_) (hs env)
  exact wpAny_mono (store_ok ok₁ hv hk) (fun _ s₂ q => ⟨_, σ₁, q.1, k₁.trans q.2, q₁⟩) fun _ _ q => q

noncomputable def wIte (t : BT) (a b : ST) : ST := fun ρ σ Q X => t ρ σ (fun c σ => if c then a ρ σ Q X else b ρ σ Q X) (X ρ)
theorem s_if {t : Expr} {ps qs : List Stmt} {pos : Pos} {wt : BT} {a b : ST} (ht : SB C d m ns t wt) (ha : SS C d m ns ps a) (hb : SS C d m ns qs b) : S1 C d m ns (.If t ps qs pos) (wIte wt a b) := by
  intro A env ρ σ s Q X ok hf w
  refine wpAny_If (tsb_go (.refl ..) (ht A env ρ σ s _ _ ok w) fun c σ₁ s₁ ok₁ k₁ q₁ => ?_)
  cases c with
  | true => exact ts_end k₁ (ha A env ρ σ₁ s₁ Q X ok₁ hf (by simpa using q₁))
  | false => exact ts_end k₁ (hb A env ρ σ₁ s₁ Q X ok₁ hf (by simpa using q₁))

noncomputable def wRet (a : ET) : ST := fun ρ σ Q X => a ρ σ (fun v σ => Q (.ret v) ρ σ) (X ρ)
theorem s_return {e : Expr} {pos : Pos} {a : ET} (h : SE C d m ns e a) : S1 C d m ns (.Return (some e) pos) (wRet a) := by
  intro A env ρ σ s Q X ok hf w
  exact wpAny_Return_some (ts_go (.refl ..) (h A env ρ σ s _ _ ok w) fun v av σ₁ s₁ hv ok₁ k₁ q₁ => ⟨ρ, σ₁, ok₁, k₁, av, hv, q₁⟩)
noncomputable def wBrk : ST := fun ρ σ Q _ => Q .brk ρ σ
theorem s_break {pos : Pos} : S1 C d m ns (.Break pos) wBrk := fun _ _ ρ σ _ _ _ ok _ w => wpAny_Break ⟨ρ, σ, ok, .refl .., w⟩
noncomputable def wCont : ST := fun ρ σ Q _ => Q .cont ρ σ
theorem s_continue {pos : Pos} : S1 C d m ns (.Continue pos) wCont := fun _ _ ρ σ _ _ _ ok _ w => wpAny_Continue ⟨ρ, σ, ok, .refl .., w⟩
noncomputable def wPass : ST := fun ρ σ Q _ => Q .next ρ σ
/-- a while that raises nothing -/
noncomputable def wWhile (t : BT) (b : ST) : ST := fun ρ σ Q _ => ∃ (I : Loc → Sto → Prop) (μ : Loc → Sto → Nat), I ρ σ ∧ ∀ ρ σ, I ρ σ →
  t ρ σ (fun c σ' => if c then b ρ σ' (fun f ρ'' σ'' => match f with
      | .next => I ρ'' σ'' ∧ μ ρ'' σ'' < μ ρ σ
      | .cont => I ρ'' σ'' ∧ μ ρ'' σ'' < μ ρ σ
      | .brk => Q .next ρ'' σ''
      | .ret v => Q (.ret v) ρ'' σ'') (fun _ _ => False)
    else Q .next ρ σ') (fun _ => False)
theorem XP.no {A : Around} {env : Env} {fr : Addr → Prop} {σ : Sto} {s s' : Shared} {e : Value} {X : Loc → Sto → Prop} (hx : ∀ ρ σ, ¬ X ρ σ) (h : XP C d m A ns env fr σ s X e s') : False := by
  obtain ⟨x, c, ρ', σ', h1, h2, h3, h4, h5, h6⟩ := h
  exact hx _ _ h6
theorem s_while {t : Expr} {ps : List Stmt} {pos : Pos} {wt : BT} {b : ST} (ht : SB C d m ns t wt) (hb : SS C d m ns ps b) : S1 C d m ns (.While t ps [] pos) (wWhile wt b) := by
  intro A env ρ σ s Q X ok hf w
  obtain ⟨I, μ, hI, step⟩ := w
  refine wpAny_While (codeAny_whileLoop (fun n s' => ∃ ρ' σ', Ok C d m A ns env ρ' σ' s' ∧ Kp (frOf env) σ σ' s.heap s'.heap ∧ I ρ' σ' ∧ n = μ ρ' σ') (fun n s' h => ?_) (μ ρ σ) ⟨ρ, σ, ok, .refl .., hI, rfl⟩)
  obtain ⟨ρ', σ', ok', k', hI', rfl⟩ := h
  refine wpAny_mono (ht A env ρ' σ' s' _ _ ok' (step ρ' σ' hI')) (fun c s₁ q => ?_) fun _ _ q => (q.no fun _ _ e => e.2).elim
  obtain ⟨σ₁, ok₁, k₁, q₁⟩ := q
  cases c with
  | true =>
    simp only [if_true] at q₁ ⊢
    refine wpAny_mono (hb A env ρ' σ₁ s₁ _ _ ok₁ hf q₁) (fun fl s₂ q => ?_) fun _ _ q => (q.no fun _ _ e => e).elim
    obtain ⟨ρ₂, σ₂, ok₂, k₂, q₂⟩ := q
    have k := (k'.trans (k₁.wk frE_of)).trans k₂
    cases fl with
    | next => exact ⟨_, q₂.2, ρ₂, σ₂, ok₂, k, q₂.1, rfl⟩
    | cont => exact ⟨_, q₂.2, ρ₂, σ₂, ok₂, k, q₂.1, rfl⟩
    | brk => exact ⟨ρ₂, σ₂, ok₂, k, q₂⟩
    | ret v => exact ⟨ρ₂, σ₂, ok₂, k, q₂⟩
  | false =>
    simp only [Bool.false_eq_true, if_false] at q₁ ⊢
    exact wpAny_execs_nil ⟨ρ', σ₁, ok₁, k'.trans (k₁.wk frE_of), q₁⟩
end
end Mine
end

section
open PySem PySem.W PyProof.Rows
set_option maxRecDepth 100000
namespace Mine

theorem bindL_other {k : Str → Option NameKind} : ∀ (l : List (Str × Value)) (mp : Str → Option Value) (x : Str), (∀ p ∈ l, p.1 ≠ x) → bindL k l mp x = mp x
  | [], _, _, _ => rfl
  | (n, v) :: r, mp, x, h => by
    unfold bindL
    rw [bindL_other r _ x fun p hp => h p (.tail _ hp)]
    split
    · exact if_neg fun e : x = n => h (n, v) (.head _) e.symm
    · rfl
theorem bindC_other {k : Str → Option NameKind} : ∀ (l : List (Str × Value)) (mp : Str → Option Value) (x : Str), (∀ p ∈ l, p.1 ≠ x) → bindC k l mp x = mp x
  | [], _, _, _ => rfl
  | (n, v) :: r, mp, x, h => by
    unfold bindC
    rw [bindC_other r _ x fun p hp => h p (.tail _ hp)]
    split
    · rfl
    · exact if_neg fun e : x = n => h (n, v) (.head _) e.symm
theorem zip_names {ps : List String} {ws : List Value} {x : String} (h : x ∉ ps) : ∀ p ∈ (ps.map Str.ofString).zip ws, p.1 ≠ Str.ofString x := fun p hp e => by
  have := (List.of_mem_zip hp).1
  obtain ⟨y, hy, q⟩ := List.mem_map.mp this
  exact h (ofString_inj (q.trans e) ▸ hy)
theorem bindL_get {k : Str → Option NameKind} : ∀ (ps : List String) (ws : List Value) (mp : Str → Option Value), ps.Nodup → ∀ x v, (ps.zip ws).lookup x = some v → k (Str.ofString x) = some .local → bindL k ((ps.map Str.ofString).zip ws) mp (Str.ofString x) = some v
  | [], _, _, _, _, _, h, _ => by cases h
  | _ :: _, [], _, _, _, _, h, _ => by cases h
  | p :: ps, w :: ws, mp, hn, x, v, h, hk => by
    obtain ⟨h1, h2⟩ := List.nodup_cons.mp hn
    rw [List.zip_cons_cons, List.lookup_cons] at h
    rw [List.map_cons, List.zip_cons_cons]
    unfold bindL
    by_cases e : x = p
    · subst e
      rw [beq_self_eq_true] at h; cases h
      rw [bindL_other _ _ _ (zip_names h1), if_pos hk]; exact if_pos rfl
    · have : (x == p) = false := beq_eq_false_iff_ne.mpr e
      rw [this] at h
      exact bindL_get ps ws _ h2 x v h hk
theorem bindC_get {k : Str → Option NameKind} : ∀ (ps : List String) (ws : List Value) (mp : Str → Option Value), ps.Nodup → ∀ x v, (ps.zip ws).lookup x = some v → k (Str.ofString x) ≠ some .local → bindC k ((ps.map Str.ofString).zip ws) mp (Str.ofString x) = some v
  | [], _, _, _, _, _, h, _ => by cases h
  | _ :: _, [], _, _, _, _, h, _ => by cases h
  | p :: ps, w :: ws, mp, hn, x, v, h, hk => by
    obtain ⟨h1, h2⟩ := List.nodup_cons.mp hn
    rw [List.zip_cons_cons, List.lookup_cons] at h
    rw [List.map_cons, List.zip_cons_cons]
    unfold bindC
    by_cases e : x = p
    · subst e
      rw [beq_self_eq_true] at h; cases h
      rw [bindC_other _ _ _ (zip_names h1), if_neg hk]; exact if_pos rfl
    · have : (x == p) = false := beq_eq_false_iff_ne.mpr e
      rw [this] at h
      exact bindC_get ps ws _ h2 x v h hk

theorem lookup_mem {α : Type} : ∀ {l : List (String × α)} {n : String} {c : α}, l.lookup n = some c → (n, c) ∈ l
  | (k, v) :: r, n, c, h => by
    rw [List.lookup_cons] at h
    cases hb : n == k with
    | true => rw [hb] at h; cases h; rw [beq_iff_eq.mp hb]; exact List.mem_cons_self
    | false => rw [hb] at h; exact List.mem_cons_of_mem _ (lookup_mem h)

noncomputable def bindP (ps : List String) (xs : List V) : Loc := fun x => (ps.zip xs).lookup x
theorem bindP_get : ∀ (ps : List String) (ws : List Value) (xs : List V), AbsL ws xs → ∀ x v, bindP ps xs x = some v → ∃ cv, (ps.zip ws).lookup x = some cv ∧ absV cv = some v
  | [], _, _, _, _, _, h => by cases h
  | _ :: _, _, [], _, _, _, h => by cases h
  | p :: ps, ws, y :: ys, ha, x, v, h => by
    obtain ⟨w, ws', rfl, hw, hr⟩ := ha.inv_cons'
    unfold bindP at h
    rw [List.zip_cons_cons, List.lookup_cons] at h ⊢
    cases e : x == p with
    | true => rw [e] at h; cases h; exact ⟨w, rfl, hw⟩
    | false => rw [e] at h; exact bindP_get ps ws' ys hr x v h

/-- how the arguments are bound -/
noncomputable def BindOk (C : Cx) (fd : FuncData) (ps : List String) (G : List V → Sto → (List V → Sto → Prop) → Prop) : Prop :=
  ∀ A s σ vs xs R, Base C σ s → AbsL vs xs → G xs σ R → wpAny C.M A (bindArgs fd ⟨vs, []⟩) (fun binds s₁ => ∃ ws ys σ₁, binds = (ps.map Str.ofString).zip ws ∧ ws.length = ps.length ∧ AbsL ws ys ∧ Base C σ₁ s₁ ∧ Kp NoFr σ σ₁ s.heap s₁.heap ∧ R ys σ₁) (fun _ _ => False) s
noncomputable def gPlain (n : Nat) : List V → Sto → (List V → Sto → Prop) → Prop := fun xs σ R => xs.length = n ∧ R xs σ
theorem bind_plain {C : Cx} {fd : FuncData} {ps : List String} (h : ∀ vs : List Value, vs.length = ps.length → bindArgs fd ⟨vs, []⟩ = pure ((ps.map Str.ofString).zip vs)) : BindOk C fd ps (gPlain ps.length) := by
  intro A s σ vs xs R b ha g
  rw [h vs (ha.length.trans g.1)]
  exact wpAny_pure ⟨vs, xs, σ, rfl, ha.length.trans g.1, ha, b, .refl .., g.2⟩

noncomputable def retv : F → V
  | .ret v => v
  | _ => .none
/-- the function whose names are ps and whose body is W -/
noncomputable def fnT (ps : List String) (G : List V → Sto → (List V → Sto → Prop) → Prop) (W : ST) : List V → Sto → (V → Sto → Prop) → Prop :=
  fun xs σ Q => G xs σ fun ys σ => W (bindP ps ys) σ (fun f _ σ => Q (retv f) σ) (fun _ _ => False)

/-- what is looked at of a function's scope -/
noncomputable def scopeOk (ps : List String) (sc : Scope) : Bool :=
  sc.kind == .function && !sc.isCoroutine && !sc.isGenerator && sc.names.all (fun x => x.2 != .free) && ps.all fun p => sc.names.lookup (Str.ofString p) == some .local || sc.names.lookup (Str.ofString p) == some .cell

theorem fn_ok {C : Cx} {K : Frag} {d : Nat} {f : Addr} {fd : FuncData} {oc : Value} {od : Option Addr} {osl : Array (Option Value)} {body : List Stmt} {ps : List String} {G : List V → Sto → (List V → Sto → Prop) → Prop} {W : ST}
    (S : Sta C K) (hK : K.lookup f = some ⟨oc, od, .func fd, osl⟩) (hbody : fd.body = .stmts body) (hcd : codeIn K fd.code fd.qualname = true) (hcl : fd.closure = []) (hg : fd.globals = mainGlobals) (hb : fd.builtins = builtinsNs)
    (hsc : scopeOk ps fd.scope = true) (hnd : ps.Nodup) (hbind : BindOk C fd ps G) (hs : SS C d 0 fd.scope.names body W) : FnOk C (d + 1) f (fnT ps G W) := by
  intro xs σ Q w A s vs ok0 ha
  simp only [scopeOk, Bool.and_eq_true, beq_iff_eq, Bool.not_eq_true', List.all_eq_true, bne_iff_ne, ne_eq, Bool.or_eq_true] at hsc
  obtain ⟨⟨⟨⟨hk, hco⟩, hgen⟩, hfree⟩, hps⟩ := hsc
  have kin : K.In s.heap := S.kin.keeps ok0.base.keep
  have hdep := ok0.depth
  refine codeAny_call_function (by omega) (kin _ _ hK) rfl hco hgen hbody (codeRec_of kin hcd) ?_
  refine wpAny_mono (hbind _ s σ vs xs _ ok0.base ha w) (fun binds s₁ q => ?_) fun _ _ q => q.elim
  obtain ⟨ws, ys, σ₁, rfl, hlen, hays, b₁, k₁, q₁⟩ := q
  rw [hcl]
  have hkind : ∀ x ∈ (ps.map Str.ofString).zip ws, fd.scope.names.lookup x.1 = some .local ∨ (fd.scope.names.lookup x.1 = some .cell ∧ ((cellsFrom (s₁.heap.objs.size + 1) fd.scope.names []).lookup x.1).isSome = true) := fun x hx => by
    obtain ⟨y, hy, q⟩ := List.mem_map.mp (List.of_mem_zip hx).1
    rcases hps y hy with e | e
    · exact .inl (q ▸ e)
    · exact .inr ⟨q ▸ e, cellsFrom_some _ _ _ (.inl (q ▸ e))⟩
  refine wpAny_newFunctionEnv_cells hk hkind fun env he s₂ hi => ?_
  subst he
  have ok1 := ok0.kp b₁ k₁
  have hkp : ∀ b o, s₁.heap.get? b = some o → s₂.heap.get? b = some o := hi.toInCall.keep
  have keep₂ : ∀ b o, C.base.get? b = some o → s₂.heap.get? b = some o := fun b o e => hkp b o (b₁.keep b o e)
  refine ⟨S.nolim.keeps keep₂, codeAny_func ?_⟩
  generalize henv : newEnv fd.scope s₁.heap.objs.size fd.globals (cellsFrom (s₁.heap.objs.size + 1) fd.scope.names []) (fd.qualname ++ ".<locals>.") (some f) fd.code none fd.builtins = env at hi ⊢
  have hloc : env.locals = s₁.heap.objs.size := by rw [← henv]; rfl
  have hscope : env.scope = fd.scope := by rw [← henv]; rfl
  have hcells : env.cells = cellsFrom (s₁.heap.objs.size + 1) fd.scope.names [] := by rw [← henv]; rfl
  have hframe : env.frame = some s₁.heap.objs.size := by rw [← henv]; rfl
  have hkindOf : ∀ x, env.kindOf x = fd.scope.names.lookup x := fun x => by rw [Env.kindOf, hscope]
  obtain ⟨h₂, tk₂, hs2⟩ := hi.toInCall.same
  have hns := hi.toInCall.ns
  have hLt : s₁.heap.objs.size < s₂.heap.objs.size := hloc ▸ hns.lt
  have newc : ∀ c, s₁.heap.objs.size ≤ c → σ₁ c = none := fun c hc => by
    cases e : σ₁ c with
    | none => rfl
    | some o => obtain ⟨ob, e', _⟩ := b₁.sto _ _ e; exact absurd (Heap.lt_size e') (Nat.not_lt.mpr hc)
  have b₂ : Base C σ₁ s₂ := ⟨keep₂, Nat.le_trans b₁.size (Nat.le_of_lt hLt), fun a o e => let ⟨ob, h1, h2⟩ := b₁.sto a o e; ⟨ob, hkp _ _ h1, h2⟩, b₁.dyn, by rw [hs2]; exact b₁.gens, by rw [hs2]; exact b₁.os⟩
  have k₂ : Kp NoFr σ₁ σ₁ s₁.heap s₂.heap := .of_keep hkp
  have hbaseL : C.base.get? s₁.heap.objs.size = none := by
    cases e : C.base.get? s₁.heap.objs.size with
    | none => rfl
    | some o => exact absurd (Heap.lt_size e) (Nat.not_lt.mpr b₁.size)
  have ok : Ok C d 0 (A.deeper env) fd.scope.names env (bindP ps ys) σ₁ s₂ := by
    have okk := ok1.kp b₂ k₂
    obtain ⟨l, hl, hf, hn⟩ := okk.frames
    have hu := ok0.units
    refine { base := b₂, depth := ?_, units := ?_, frames := ⟨env :: l, Around.frames_deeper hl, .cons (by rw [hscope, hk]; decide) hframe (hloc ▸ hns) hbaseL hf, fun b hb => ?_⟩, hand := okk.hand, kind := by rw [hscope]; exact hk, names := by rw [hscope], glob := by rw [← henv]; exact hg, blt := by rw [← henv]; exact hb, above := by rw [hloc]; exact b₁.size, new := newc _ (by rw [hloc]; exact Nat.le_refl _), loc := ⟨_, hns, fun x v hx hlk => ?_⟩, cell := fun x hx => ?_, apart := hi.apart, cnew := fun x c hx => ?_, vis := fun x v hx => ?_ }
    · show A.depth + 1 + 2 * d + 4 ≤ _; omega
    · show A.units + 3 + 8 * d + 100 ≤ _; omega
    · rw [List.filterMap_cons, hframe] at hb
      rcases List.mem_cons.mp hb with e | hb
      · subst e
        obtain ⟨oL, es, ep, hoL, hdL, _⟩ := hns
        exact ⟨newc _ (Nat.le_refl _), oL, es, ep, hloc ▸ hoL, hdL⟩
      · exact hn b hb
    · obtain ⟨cv, h1, h2⟩ := bindP_get ps ws ys hays x v hx
      exact ⟨cv, bindL_get ps ws _ hnd x cv h1 ((hkindOf _).trans hlk), h2⟩
    · have hnf : fd.scope.names.lookup x ≠ some .free := fun e => hfree _ (mem_of_lookup e) rfl
      rcases hx with hx | hx
      · obtain ⟨c, hc⟩ := Option.isSome_iff_exists.mp (cellsFrom_some fd.scope.names (s₁.heap.objs.size + 1) [] (.inl hx))
        rw [← hcells] at hc
        refine ⟨c, _, hc, hi.cell x c hc, fun y v hy hv => ?_⟩
        subst hy
        obtain ⟨cv, h1, h2⟩ := bindP_get ps ws ys hays y v hv
        exact ⟨cv, bindC_get ps ws _ hnd y cv h1 (by rw [hkindOf, hx]; decide), h2⟩
      · exact absurd hx hnf
    · have ha := hi.above x c (mem_of_lookup hx)
      rw [hloc] at ha
      exact ⟨newc c (Nat.le_of_lt ha), Nat.le_trans b₁.size (Nat.le_of_lt ha), by rw [hloc]; exact Nat.ne_of_gt ha, _, hi.cell x c hx⟩
    · obtain ⟨cv, h1, h2⟩ := bindP_get ps ws ys hays x v hx
      have hmem : x ∈ ps := (List.of_mem_zip (lookup_mem h1)).1
      exact (hps x hmem).imp id .inl
  have hfun : InFn (A.deeper env) env := by
    obtain ⟨l, hl, _⟩ := ok0.frames
    exact ⟨l, Around.frames_deeper hl, by rw [hframe, hloc]⟩
  refine wpAny_mono (hs _ env _ σ₁ s₂ _ _ ok hfun q₁) (fun fl s₃ q => ?_) fun _ _ q => (q.no fun _ _ e => e).elim
  obtain ⟨ρ₃, σ₃, ok₃, k₃, q₃⟩ := q
  have kk : Kp NoFr σ σ₃ s.heap s₃.heap := by
    refine k₁.trans ?_
    have nofr : ∀ b o, s₁.heap.get? b = some o → ¬ frOf env b := fun b o e hfr => by
      have hlt := Heap.lt_size e
      rcases hfr with q | ⟨x, q⟩
      · rw [hloc] at q; exact absurd q (Nat.ne_of_lt hlt)
      · have := hi.above x b (mem_of_lookup q); rw [hloc] at this; exact absurd hlt (Nat.lt_asymm this)
    refine ⟨fun b o e hn _ => k₃.keep b o (hkp _ _ e) hn (nofr b o e), fun b o e hn _ hd => k₃.recs b o (hkp _ _ e) hn (nofr b o e) hd, fun b o e hn => k₃.there b o (hkp _ _ e) hn, fun b hb => ?_⟩
    · rcases k₃.fresh b hb with q | q
      · exact .inl q
      · right
        cases e : s₁.heap.get? b with
        | none => rfl
        | some o => rw [hkp _ _ e] at q; cases q
  cases fl with
  | ret v => obtain ⟨av, hv, q₃⟩ := q₃; exact ⟨v, av, σ₃, rfl, hv, ok₃.base, kk, q₃⟩
  | next => exact ⟨.none, .none, σ₃, rfl, rfl, ok₃.base, kk, q₃⟩
  | brk => exact ⟨.none, .none, σ₃, rfl, rfl, ok₃.base, kk, q₃⟩
  | cont => exact ⟨.none, .none, σ₃, rfl, rfl, ok₃.base, kk, q₃⟩
end Mine
end

section
open PySem PySem.W PyProof.Rows
set_option maxRecDepth 100000
namespace Mine

section
variable {C : Cx}

/-- ints alone -/
noncomputable def i2 (f : Int → Int → Int) : V → V → Sto → (V → Sto → Prop) → Prop := fun a b σ Q => match a, b with
  | .int x, .int y => Q (.int (f x y)) σ
  | _, _ => False
noncomputable def c2 (f : Int → Int → Bool) : V → V → Sto → (V → Sto → Prop) → Prop := fun a b σ Q => match a, b with
  | .int x, .int y => Q (.bool (f x y)) σ
  | _, _ => False

theorem op_sub : Op2 C (binaryOp .Sub) (i2 (· - ·)) := by
  intro d m A ns env ρ σ s Q a b va vb ok ha hb h
  cases va <;> cases vb <;> first | exact h.elim | skip
  obtain ⟨t, rfl⟩ := abs_int ha; obtain ⟨u, rfl⟩ := abs_int hb
  exact PyProof.Rows.sub_int (ep_tok ok rfl h)
noncomputable def ltV : V → V → Sto → (V → Sto → Prop) → Prop := c2 fun a b => decide (a < b)
theorem op_lt : Op2 C (compareOp .Lt) ltV := by
  intro d m A ns env ρ σ s Q a b va vb ok ha hb h
  cases va <;> cases vb <;> first | exact h.elim | skip
  obtain ⟨t, rfl⟩ := abs_int ha; obtain ⟨u, rfl⟩ := abs_int hb
  exact PyProof.Rows.lt_int (ep_same ok rfl h)
noncomputable def gtV : V → V → Sto → (V → Sto → Prop) → Prop := c2 fun a b => decide (b < a)
theorem op_gt : Op2 C (compareOp .Gt) gtV := by
  intro d m A ns env ρ σ s Q a b va vb ok ha hb h
  cases va <;> cases vb <;> first | exact h.elim | skip
  obtain ⟨t, rfl⟩ := abs_int ha; obtain ⟨u, rfl⟩ := abs_int hb
  exact PyProof.Rows.gt_int (ep_same ok rfl h)
noncomputable def geV : V → V → Sto → (V → Sto → Prop) → Prop := c2 fun a b => decide (b ≤ a)
theorem op_ge : Op2 C (compareOp .GtE) geV := by
  intro d m A ns env ρ σ s Q a b va vb ok ha hb h
  cases va <;> cases vb <;> first | exact h.elim | skip
  obtain ⟨t, rfl⟩ := abs_int ha; obtain ⟨u, rfl⟩ := abs_int hb
  exact P.ge_int (ep_same ok rfl h)

/-- % by a number that is not 0 -/
noncomputable def modV : V → V → Sto → (V → Sto → Prop) → Prop := fun a b σ Q => match a, b with
  | .int x, .int y => y ≠ 0 ∧ Q (.int (x.fmod y)) σ
  | _, _ => False
theorem op_mod : Op2 C (binaryOp .Mod) modV := by
  intro d m A ns env ρ σ s Q a b va vb ok ha hb h
  cases va <;> cases vb <;> first | exact h.elim | skip
  obtain ⟨t, rfl⟩ := abs_int ha; obtain ⟨u, rfl⟩ := abs_int hb
  exact PyProof.Rows.mod_int h.1 (ep_tok ok rfl h.2)
noncomputable def shrV : V → V → Sto → (V → Sto → Prop) → Prop := fun a b σ Q => match a, b with
  | .int x, .int y => 0 ≤ y ∧ Q (.int (x.fdiv (2 ^ y.toNat))) σ
  | _, _ => False
theorem op_shr : Op2 C (binaryOp .RShift) shrV := by
  intro d m A ns env ρ σ s Q a b va vb ok ha hb h
  cases va <;> cases vb <;> first | exact h.elim | skip
  obtain ⟨t, rfl⟩ := abs_int ha; obtain ⟨u, rfl⟩ := abs_int hb
  exact PyProof.Rows.rshift_int h.1 (ep_tok ok rfl h.2)
noncomputable def mulV : V → V → Sto → (V → Sto → Prop) → Prop := fun a b σ Q => match a, b with
  | .int x, .int y => (-1000000 ≤ x ∧ x ≤ 1000000) ∧ Q (.int (x * y)) σ
  | _, _ => False
/-- a list of ours in the heap -/
theorem Base.list {σ : Sto} {s : Shared} {a : Addr} {xs : List V} (b : Base C σ s) (h : σ a = some (.list xs)) : ∃ vs : List Value, ∃ n, s.heap.get? a = some ⟨.type "list", none, .seq vs.toArray n, #[]⟩ ∧ AbsL vs xs := by
  obtain ⟨ob, e, vs, n, rfl, ha⟩ := b.sto a _ h
  exact ⟨vs.toList, n, by rw [Array.toArray_toList]; exact e, ha⟩
theorem Base.tuple {σ : Sto} {s : Shared} {a : Addr} {xs : List V} (b : Base C σ s) (h : σ a = some (.tuple xs)) : ∃ vs : List Value, ∃ n, s.heap.get? a = some ⟨.type "tuple", none, .seq vs.toArray n, #[]⟩ ∧ AbsL vs xs := by
  obtain ⟨ob, e, vs, n, rfl, ha⟩ := b.sto a _ h
  exact ⟨vs.toList, n, by rw [Array.toArray_toList]; exact e, ha⟩
theorem isList_of {h : Heap} {a : Addr} {vs : Array Value} {n : Nat} (e : h.get? a = some ⟨.type "list", none, .seq vs n, #[]⟩) : h.IsList a vs := ⟨_, e, rfl, n, rfl⟩


theorem Base.lo {σ : Sto} {s : Shared} {a : Addr} (b : Base C σ s) (h : σ a ≠ none) (hb : sysModules < C.base.objs.size) : (a == sysModules) = false := by
  have := b.dyn a h
  exact beq_eq_false_iff_ne.mpr fun e => by subst e; exact absurd hb (Nat.not_lt.mpr this)

theorem truth_ok {d m : Nat} {A : Around} {ns : List (Str × NameKind)} {env : Env} {ρ : Loc} {σ₀ σ : Sto} {s₀ s : Shared} {Q : Bool → Sto → Prop} {E : Value → Shared → Prop} {v : Value} {av : V}
    (ok : Ok C d m A ns env ρ σ s) (k : Kp (frE env) σ₀ σ s₀.heap s.heap) (hv : absV v = some av) (hb : sysModules < C.base.objs.size) (h : truthW av σ fun b => Q b σ) : wpAny C.M A (truthy v) (BP C d m A ns env ρ σ₀ s₀ Q) E s := by
  cases av with
  | none => rw [abs_none hv]; exact truthy_none ((bp_same ok h).back k)
  | bool c => rw [abs_bool hv]; exact wpAny_truthy_bool ((bp_same ok h).back k)
  | int i => obtain ⟨t, rfl⟩ := abs_int hv; exact P.truthy_int ((bp_same ok h).back k)
  | str x =>
    obtain ⟨t, rfl⟩ := abs_str hv
    obtain ⟨h1, h2⟩ := h
    refine PySem.P.truthy_str (by omega) ?_
    have e : ((x.length : Int) != 0) = (x.length != 0) := by
      rw [Bool.eq_iff_iff]; simp only [bne_iff_ne, ne_eq]; omega
    rw [e]
    exact (bp_tok ok h2).back k
  | typ n => exact h.elim
  | ref a =>
    rw [abs_ref hv]
    simp only [truthW] at h
    split at h
    · rename_i xs hx
      obtain ⟨vs, n, e, ha⟩ := ok.base.list hx
      have hlen := ha.length
      obtain ⟨h1, h2⟩ := h
      refine wpAny_truthy_list (isList_of e) (by rw [List.size_toArray]; omega) ?_
      have e2 : (!vs.toArray.isEmpty) = !xs.isEmpty := by
        cases vs with
        | nil => cases xs with
          | nil => rfl
          | cons x ys => cases hlen
        | cons v r => obtain ⟨x, ys, rfl, _⟩ := ha.inv_cons; rfl
      rw [e2]
      exact (bp_tok ok h2).back k
    · rename_i f hx
      obtain ⟨ob, e, hD⟩ := ok.base.sto _ _ hx
      obtain ⟨kvs, hD, hsz, hf⟩ := DR.dictOf hD e
      have he : kvs = [] := List.eq_nil_of_length_eq_zero (by omega)
      subst he
      exact wpAny_truthy_dict (ok.base.lo (by rw [hx]; simp) hb) hD (by decide) ((bp_tok ok h).back k)
    · exact h.elim

variable {d m : Nat} {ns : List (Str × NameKind)}
theorem sb_truth {e : Expr} {a : ET} (h : SE C d m ns e a) (hb : sysModules < C.base.objs.size) (he : ∀ env, isTrue e env (eval e env) = (do let v ← eval e env; standAt e.pos; holding [v] (truthy v)) := by intro _; rfl) : SB C d m ns e (wTru a) := by
  intro A env ρ σ s Q X ok w
  exact wpAny_isTrue_value (te_go (.refl ..) (h A env ρ σ s _ X ok w) fun v av σ₁ s₁ hv ok₁ k₁ q₁ => truth_ok ok₁ k₁ hv hb q₁) (he env)

noncomputable def getL (σ : Sto) (v : V) (k : Addr → List V → Prop) : Prop := match v with
  | .ref a => (match σ a with | some (.list xs) => k a xs | _ => False)
  | _ => False
theorem getL_elim {σ : Sto} {v : V} {k : Addr → List V → Prop} (h : getL σ v k) : ∃ a xs, v = .ref a ∧ σ a = some (.list xs) ∧ k a xs := by
  cases v <;> first | exact h.elim | skip
  rename_i a
  simp only [getL] at h
  split at h
  · rename_i xs hx; exact ⟨a, xs, rfl, hx, h⟩
  · exact h.elim

/-- a[i], no raise -/
noncomputable def idx (xs : List V) (k : Int) : Option V := if 0 ≤ k then xs[k.toNat]? else if -(xs.length : Int) ≤ k then xs[(k + xs.length).toNat]? else none
noncomputable def subW (a i : V) (σ : Sto) (Q : V → Sto → Prop) : Prop := match a, i with
  | .ref l, .int k => (match σ l with
    | some (.list xs) => xs.length ≤ 1000000 ∧ opt (idx xs k) fun v => Q v σ
    | some (.tuple xs) => xs.length ≤ 1000000 ∧ opt (idx xs k) fun v => Q v σ
    | some (.di _ f) => opt (f k) fun v => Q v σ
    | _ => False)
  | .ref l, .str k => (match σ l with
    | some (.ds _ f) => opt (f k) fun v => Q v σ
    | _ => False)
  | _, _ => False

theorem idx_some {xs : List V} {k : Int} {v : V} (h : idx xs k = some v) : (0 ≤ k ∧ k < xs.length ∧ xs[k.toNat]? = some v) ∨ (k < 0 ∧ -(xs.length : Int) ≤ k ∧ xs[(k + xs.length).toNat]? = some v) := by
  unfold idx at h
  split at h
  · rename_i h0
    have := (List.getElem?_eq_some_iff.mp h).1
    exact .inl ⟨h0, by omega, h⟩
  · split at h
    · rename_i h0 h1
      exact .inr ⟨by omega, h1, h⟩
    · cases h
theorem seqIndex_of {k : Int} {n : Nat} {j : Nat} (h : (0 ≤ k ∧ k < n ∧ j = k.toNat) ∨ (k < 0 ∧ -(n : Int) ≤ k ∧ j = (k + n).toNat)) : seqIndex? k n = some j := by
  rcases h with ⟨h0, h1, rfl⟩ | ⟨h0, h1, rfl⟩
  · unfold seqIndex?
    simp only [show ¬ k < 0 by omega, if_false]
    rw [if_pos (by simp only [Bool.and_eq_true, decide_eq_true_eq]; omega)]
  · exact MeetsSeq.seqIndex_neg h0 (by omega)

theorem optR_some {o : Option Value} {v : V} (h : OptR o (some v)) : ∃ cv, o = some cv ∧ absV cv = some v := by
  cases o with
  | none => exact h.elim
  | some cv => exact ⟨cv, rfl, h⟩

theorem sub_ok {A : Around} {env : Env} {ρ : Loc} {σ : Sto} {s : Shared} {Q : V → Sto → Prop} {value slice : Expr} {a i : Value} {va vi : V} (ok : Ok C d m A ns env ρ σ s) (ha : absV a = some va) (hi : absV i = some vi)
    (hs : subscripted slice false a i = operate [a, i] (getItem a i)) (h : subW va vi σ Q) : wpAny C.M A (subscriptTail value slice a i) (EP C d m A ns env ρ σ s Q) (fun _ _ => False) s := by
  unfold subW at h
  split at h
  · rename_i l k
    rw [abs_ref ha] at hs ⊢
    obtain ⟨t, rfl⟩ := abs_int hi
    split at h
    · rename_i xs hx
      obtain ⟨vs, n, e, hab⟩ := ok.base.list hx
      have hlen := hab.length
      obtain ⟨hsz, h⟩ := h
      obtain ⟨v, hv, q⟩ := opt_elim h
      rcases idx_some hv with ⟨h0, h1, h2⟩ | ⟨h0, h1, h2⟩
      · obtain ⟨cv, hc, hcv⟩ := hab.get h2
        exact tail_any (isList_of e).typeIs PySem.slot_list_getitem.lookup (wpAny_getItem_list (isList_of e) h0 (by omega) (by simpa using hc) (ep_same ok hcv q)) hs
      · obtain ⟨cv, hc, hcv⟩ := hab.get h2
        exact tail_any (isList_of e).typeIs PySem.slot_list_getitem.lookup (wpAny_getItem_list_neg (isList_of e) h0 (by rw [List.size_toArray]; omega) (by omega) (by rw [List.size_toArray, hlen]; simpa using hc) (ep_same ok hcv q)) hs
    · rename_i xs hx
      obtain ⟨vs, n, e, hab⟩ := ok.base.tuple hx
      have hlen := hab.length
      obtain ⟨hsz, h⟩ := h
      obtain ⟨v, hv, q⟩ := opt_elim h
      have it : IsTup s.heap l vs.toArray := ⟨_, e, rfl, n, rfl⟩
      rcases idx_some hv with ⟨h0, h1, h2⟩ | ⟨h0, h1, h2⟩
      · obtain ⟨cv, hc, hcv⟩ := hab.get h2
        exact item_tupleT it (by omega) (by omega) (seqIndex_of (.inl ⟨h0, by omega, rfl⟩)) hc (ep_same ok hcv q) hs
      · obtain ⟨cv, hc, hcv⟩ := hab.get h2
        exact item_tupleT it (by omega) (by omega) (seqIndex_of (.inr ⟨h0, by omega, rfl⟩)) (by rw [hlen]; exact hc) (ep_same ok hcv q) hs
    · rename_i nn f hx
      obtain ⟨v, hv, q⟩ := opt_elim h
      obtain ⟨ob, e, hD⟩ := ok.base.sto _ _ hx
      obtain ⟨kvs, hD, hsz, hf⟩ := DR.dictOf hD e
      have hfk := hf k
      rw [hv] at hfk
      obtain ⟨cv, hc, hcv⟩ := optR_some hfk
      have hm := hD.mapOf
      exact tail_any hm.typeIs PySem.slot_dict_getitem.lookup (wpAny_getItem_of (intKind_is _ _ k t) hm hc (ep_tok ok hcv q)) hs
    · exact h.elim
  · rename_i l k
    rw [abs_ref ha] at hs ⊢
    obtain ⟨t, rfl⟩ := abs_str hi
    split at h
    · rename_i nn f hx
      obtain ⟨v, hv, q⟩ := opt_elim h
      obtain ⟨ob, e, hD⟩ := ok.base.sto _ _ hx
      obtain ⟨kvs, hD, hsz, hf⟩ := DR.dictOf hD e
      have hfk := hf k
      rw [hv] at hfk
      obtain ⟨cv, hc, hcv⟩ := optR_some hfk
      have hm := hD.mapOf
      exact tail_any hm.typeIs PySem.slot_dict_getitem.lookup (wpAny_getItem_of (strKind_is _ _ k t) hm hc (ep_tok ok hcv q)) hs
    · exact h.elim
  · exact h.elim

theorem se_sub {a i : Expr} {pos : Pos} {wa wi : ET} (ha : SE C d m ns a wa) (hi : SE C d m ns i wi) (hs : ∀ o x, subscripted i false o x = operate [o, x] (getItem o x) := by intro _ _; rfl) : SE C d m ns (.Subscript a i pos) (w2 subW wa wi) := by
  intro A env ρ σ s Q X ok w
  refine Subscript_ (te_go (.refl ..) (ha A env ρ σ s _ X ok w) fun a va σ₁ s₁ ha ok₁ k₁ q₁ => te_go k₁ (hi A env ρ σ₁ s₁ _ X ok₁ q₁) fun b vb σ₂ s₂ hb ok₂ k₂ q₂ => ?_)
  exact te_quiet k₂ (sub_ok ok₂ ha hb (hs _ _) q₂)
end
end Mine
end

section
open PySem PySem.W PyProof.Rows
set_option maxRecDepth 100000
namespace Mine
section
variable {C : Cx} {K : Frag} {d m : Nat} {ns : List (Str × NameKind)}

noncomputable def lenV : List V → Sto → (V → Sto → Prop) → Prop
  | [.ref a], σ, Q => (match σ a with
    | some (.list xs) => xs.length ≤ 1000000 ∧ Q (.int xs.length) σ
    | some (.tuple xs) => xs.length ≤ 1000000 ∧ Q (.int xs.length) σ
    | _ => False)
  | _, _, _ => False
theorem op_len : OpN C d m (.builtin "len") lenV := by
  intro A ns env ρ σ s Q vs xs ok ha h
  unfold lenV at h
  split at h
  · rename_i a
    obtain ⟨v, ws, rfl, hv, hr⟩ := ha.inv_cons'
    rw [hr.inv_nil', abs_ref hv]
    split at h
    · rename_i xs hx
      obtain ⟨vs, n, e, hab⟩ := ok.base.list hx
      have hlen := hab.length
      refine PyProof.Rows.len_list (isList_of e) (by rw [List.size_toArray]; omega) ?_
      rw [List.size_toArray, hlen]
      exact ep_tok ok rfl h.2
    · rename_i xs hx
      obtain ⟨vs, n, e, hab⟩ := ok.base.tuple hx
      have hlen := hab.length
      refine PyProof.Rows.len_tuple (items := vs.toArray) ⟨_, e, rfl, n, rfl⟩ (by rw [List.size_toArray]; omega) ?_
      rw [List.size_toArray, hlen]
      exact ep_tok ok rfl h.2
    · exact h.elim
  · exact h.elim

noncomputable def appendV : List V → Sto → (V → Sto → Prop) → Prop
  | [l, v], σ, Q => getL σ l fun a xs => xs.length ≤ 1000000 ∧ Q .none (upd σ a (.list (xs ++ [v])))
  | _, _, _ => False
theorem op_append : OpN C d m (.builtin "list.append") appendV := by
  intro A ns env ρ σ s Q vs xs ok ha h
  unfold appendV at h
  split at h
  · obtain ⟨a, ys, rfl, hx, hsz, q⟩ := getL_elim h
    obtain ⟨v, ws, rfl, hv, hr⟩ := ha.inv_cons'
    obtain ⟨w, us, rfl, hw, hr⟩ := hr.inv_cons'
    rw [hr.inv_nil', abs_ref hv]
    obtain ⟨vs, n, e, hab⟩ := ok.base.list hx
    have hlen := hab.length
    refine wpAny_list_append_plain (items := vs.toArray) ⟨n, e⟩ (fun h' hl' hs' => ?_) (by rw [List.size_toArray, hlen]; exact lim_le hsz)
    obtain ⟨n', e'⟩ := hl'
    exact ep_turn (.list (ys ++ [_])) ok hx hs' e' ⟨_, n', rfl, by simpa using hab.append (.cons hw .nil)⟩ rfl q
  · exact h.elim

noncomputable def popV : List V → Sto → (V → Sto → Prop) → Prop
  | [l], σ, Q => getL σ l fun a xs => xs.length ≤ 1000000 ∧ opt xs.getLast? fun v => Q v (upd σ a (.list xs.dropLast))
  | _, _, _ => False
theorem op_pop : OpN C d m (.builtin "list.pop") popV := by
  intro A ns env ρ σ s Q vs xs ok ha h
  unfold popV at h
  split at h
  · obtain ⟨a, ys, rfl, hx, hsz, q⟩ := getL_elim h
    obtain ⟨v, ws, rfl, hv, hr⟩ := ha.inv_cons'
    rw [hr.inv_nil', abs_ref hv]
    obtain ⟨vs, n, e, hab⟩ := ok.base.list hx
    obtain ⟨y, hy, q⟩ := opt_elim q
    obtain ⟨p, rfl⟩ := List.getLast?_eq_some_iff.mp hy
    rcases List.eq_nil_or_concat vs with rfl | ⟨w, z, rfl⟩
    · have := hab.length; simp at this
    rw [List.concat_eq_append] at e hab
    have hlen := hab.length
    have hpl : w.length = p.length := by simpa using hlen
    have e1 : w.map absV = p.map some := by
      have := congrArg (List.take p.length) hab
      rw [List.map_append, List.map_append, List.take_left' (by simpa using hpl), List.take_left' (by simp)] at this
      exact this
    have e2 : absV z = some y := by
      have := congrArg (List.drop p.length) hab
      rw [List.map_append, List.map_append, List.drop_left' (by simpa using hpl), List.drop_left' (by simp)] at this
      simpa using this
    have hk : (w ++ [z]).toArray.size - 1 = w.length := by simp
    refine PySem.call_meets PySem.F.slot_list_pop ⟨_, e, rfl⟩ PySem.F.entry_list_pop (PySem.F.args_list_pop_1 _) (MeetsSeq.list_pop_last a (w ++ [z]).toArray n z (by rw [hk]; simp) (by rw [List.size_toArray, hlen]; exact lim_le hsz)) ⟨e, ?_⟩
    have he : (w ++ [z]).toArray.eraseIdxIfInBounds ((w ++ [z]).toArray.size - 1) = w.toArray := by rw [hk, kl_erase, List.append_nil]
    have hg := Heap.get?_update_self (h := s.heap) (Obj.mapSeq fun xs => xs.eraseIdxIfInBounds ((w ++ [z]).toArray.size - 1)) e rfl
    refine ep_turn (.list (p ++ [y]).dropLast) ok hx (Heap.SameBut.update ..) hg ⟨_, _, rfl, ?_⟩ e2 q
    show AbsL ((w ++ [z]).toArray.eraseIdxIfInBounds ((w ++ [z]).toArray.size - 1)).toList _
    rw [he, List.dropLast_concat]
    exact e1
  · exact h.elim

/-- a method of a list -/
noncomputable def wMethL (f : List V → Sto → (V → Sto → Prop) → Prop) (a : ET) (b : LT) : ET := fun ρ σ Q X => a ρ σ (fun va σ => getL σ va fun _ _ => b ρ σ (fun vs σ => f (va :: vs) σ Q) X) X
theorem se_meth_list {o : Expr} {name : Str} {apos pos : Pos} {es : List Expr} {id : String} {a : ET} {b : LT} {f : List V → Sto → (V → Sto → Prop) → Prop} (ha : SE C d m ns o a) (h : SL C d m ns es b)
    (hf : OpN C d m (.builtin id) f) (slot : Slot "list" name id) (hty : typeOf (.builtin id) = pure (.type "method_descriptor"))
    (hbase : ∀ env, attributeBase o name env (eval o env) = eval o env := by intro _; rfl)
    (hfew : ∀ env, ((backTo pos (starEach es env)).all (fun x => !x.1) && (backToKw pos (keywordEach [] env)).all (fun x => x.1.isSome) && decide (es.length + ([] : List Keyword).length + (if ([] : List Keyword).isEmpty then 0 else 1) < 30)) = true := by intro _; rfl)
    (hline : (apos.endLine == pos.line) = true := by rfl) : SE C d m ns (.Call (.Attribute o name apos) es [] pos) (wMethL f a b) := by
  intro A env ρ σ s Q X ok w
  refine wpAny_Call_method_late (hbase env) (hfew env) hline rfl (te_go (.refl ..) (ha A env ρ σ s _ X ok w) fun v av σ₁ s₁ hv ok₁ k₁ q₁ => ?_)
  obtain ⟨l, xs, rfl, hx, q₁⟩ := getL_elim q₁
  rw [abs_ref hv]
  obtain ⟨vs, n, e, hab⟩ := ok₁.base.list hx
  obtain ⟨h1, h2, h3⟩ := h A env ρ σ₁ s₁ _ X pos ok₁ q₁
  refine ⟨"list", id, PySem.F.plainAttrs_list, slot, hty, ⟨_, e, rfl⟩, fun b hb => ?_, ?_⟩
  · cases hb; exact ⟨_, e, rfl⟩
  · refine Calls.callWith_builtin h3 (wpAny_mono (h2 _) (fun a s₂ q => ?_) fun _ _ q => q.back k₁)
    obtain ⟨hkw, ys, σ₂, ha, ok₂, k₂, q₂⟩ := q
    rw [hkw]
    exact te_quiet (k₁.trans k₂) (hf A ns env ρ σ₂ s₂ Q _ _ ok₂ (.cons rfl ha) q₂)
/-- a method of a str -/
noncomputable def wMethS (f : List V → Sto → (V → Sto → Prop) → Prop) (a : ET) (b : LT) : ET := fun ρ σ Q X => a ρ σ (fun va σ => match va with | .str _ => b ρ σ (fun vs σ => f (va :: vs) σ Q) X | _ => False) X
theorem se_meth_str {o : Expr} {name : Str} {apos pos : Pos} {es : List Expr} {id : String} {a : ET} {b : LT} {f : List V → Sto → (V → Sto → Prop) → Prop} (ha : SE C d m ns o a) (h : SL C d m ns es b)
    (hf : OpN C d m (.builtin id) f) (slot : Slot "str" name id) (hty : typeOf (.builtin id) = pure (.type "method_descriptor"))
    (hbase : ∀ env, attributeBase o name env (eval o env) = eval o env := by intro _; rfl)
    (hfew : ∀ env, ((backTo pos (starEach es env)).all (fun x => !x.1) && (backToKw pos (keywordEach [] env)).all (fun x => x.1.isSome) && decide (es.length + ([] : List Keyword).length + (if ([] : List Keyword).isEmpty then 0 else 1) < 30)) = true := by intro _; rfl)
    (hline : (apos.endLine == pos.line) = true := by rfl) : SE C d m ns (.Call (.Attribute o name apos) es [] pos) (wMethS f a b) := by
  intro A env ρ σ s Q X ok w
  refine wpAny_Call_method_late (hbase env) (hfew env) hline rfl (te_go (.refl ..) (ha A env ρ σ s _ X ok w) fun v av σ₁ s₁ hv ok₁ k₁ q₁ => ?_)
  cases av <;> first | exact q₁.elim | skip
  rename_i x
  obtain ⟨t, rfl⟩ := abs_str hv
  obtain ⟨h1, h2, h3⟩ := h A env ρ σ₁ s₁ _ X pos ok₁ q₁
  refine ⟨"str", id, PySem.F.plainAttrs_str, slot, hty, typeIs_str .., (fun b hb => nomatch hb), ?_⟩
  refine Calls.callWith_builtin h3 (wpAny_mono (h2 _) (fun a s₂ q => ?_) fun _ _ q => q.back k₁)
  obtain ⟨hkw, ys, σ₂, ha, ok₂, k₂, q₂⟩ := q
  rw [hkw]
  exact te_quiet (k₁.trans k₂) (hf A ns env ρ σ₂ s₂ Q _ _ ok₂ (.cons rfl ha) q₂)

/-- a[i] = v -/
noncomputable def setW (a i v : V) (σ : Sto) (Q : Sto → Prop) : Prop := match a, i with
  | .ref l, .int k => (match σ l with
    | some (.list xs) => xs.length ≤ 1000000 ∧ 0 ≤ k ∧ k < xs.length ∧ Q (upd σ l (.list (xs.set k.toNat v)))
    | some (.di n f) => n ≤ 1000000 ∧ Q (upd σ l (.di (n + 1) fun j => if j = k then some v else f j))
    | _ => False)
  | .ref l, .str k => (match σ l with
    | some (.ds n f) => n ≤ 1000000 ∧ Q (upd σ l (.ds (n + 1) fun j => if j = k then some v else f j))
    | _ => False)
  | _, _ => False

theorem setItem_list_exact {prog : Program} {w : World} {A : Around} {E : Value → Shared → Prop} {s : Shared} {l : Addr} {items : Array Value} {n : Nat} {k : Int} {t : Tok} {v : Value} {Q : Unit → Shared → Prop}
    (e : s.heap.get? l = some ⟨.type "list", none, .seq items n, #[]⟩) (h0 : 0 ≤ k) (hfit : k < 2 ^ 63) (hn : k < items.size)
    (hQ : Q () { s with heap := s.heap.update l (Obj.mapSeq (·.setIfInBounds k.toNat v)) }) : wpAny (model prog w) A (setItem (.ref l) (.int k t) v) Q E s := by
  have hl := isList_of e
  unfold setItem
  try with_reducible refine wpAny_holding ?_
  first | refine wpAny_bind (wpAny_pure ?_) | skip
  refine wpAny_bind (wpAny_sequenceKey hl.typeIs (by decide) ?_)
  refine wpAny_bind (wpAny_callSpecial?_slot (name := Str.ofString "__setitem__") hl.typeIs PySem.slot_list_setitem (wpAny_call_entry PySem.slot_list_setitem hl.typeIs PySem.entry_list_setitem ?_ (PySem.args_list_setitem _ _ _)))
  show wpAny _ _ (Builtin.List.listSubscript? (.int k t) >>= _) _ _ s
  refine wpAny_bind (wpAny_listSubscript_int (fitsIndex_of h0 hfit) ?_)
  clear hfit
  obtain ⟨j, rfl⟩ := Int.eq_ofNat_of_zero_le h0
  have hj : j < items.size := by omega
  show wpAny _ _ ((seqItemAt l j >>= fun r => pure (r.map (j, ·))) >>= _) _ _ s
  refine wpAny_bind (wpAny_bind (wpAny_seqItemAt e rfl (wpAny_pure ?_)))
  rw [show items[j]? = some items[j] from Array.getElem?_eq_getElem hj]
  show wpAny _ _ (setSeqItemAt l j v >>= _) _ _ s
  refine wpAny_bind (wpAny_setSeqItemAt e rfl ?_)
  first
    | exact wpAny_bind (wpAny_pure (wpAny_pure ⟨.none, rfl, wpAny_pure hQ⟩))
    | exact wpAny_pure ⟨.none, rfl, wpAny_pure hQ⟩

theorem optR_set {κ : Type} [DecidableEq κ] {kvs : List (κ × Value)} {f : κ → Option V} {k : κ} {v : Value} {av : V} (hf : ∀ j, OptR (valueAt kvs j) (f j)) (hv : absV v = some av) : ∀ j, OptR (valueAt (stored kvs k v) j) (if j = k then some av else f j) := fun j => by
  rw [valueAt_stored]
  split
  · exact hv
  · exact hf j
theorem set_ok {A : Around} {env : Env} {ρ : Loc} {σ : Sto} {s : Shared} {Q : Sto → Prop} {E : Value → Shared → Prop} {a i v : Value} {va vi vv : V} (ok : Ok C d m A ns env ρ σ s) (ha : absV a = some va) (hi : absV i = some vi) (hv : absV v = some vv)
    (h : setW va vi vv σ Q) : wpAny C.M A (setItem a i v) (fun _ s' => ∃ σ', Ok C d m A ns env ρ σ' s' ∧ Kp (frOf env) σ σ' s.heap s'.heap ∧ Q σ') E s := by
  unfold setW at h
  split at h
  · rename_i l k
    rw [abs_ref ha]
    obtain ⟨t, rfl⟩ := abs_int hi
    split at h
    · rename_i xs hx
      obtain ⟨vs, n, e, hab⟩ := ok.base.list hx
      have hlen := hab.length
      obtain ⟨hsz, h0, h1, q⟩ := h
      have hg := Heap.get?_update_self (h := s.heap) (Obj.mapSeq (·.setIfInBounds k.toNat v)) e rfl
      refine setItem_list_exact e h0 (by omega) (by rw [List.size_toArray]; omega) ⟨_, ok.kp (ok.base.turnT (.list (xs.set k.toNat vv)) hx (Heap.SameBut.update ..) hg ⟨_, _, rfl, ?_⟩) (.turn hx (Heap.SameBut.update ..)), .turn hx (Heap.SameBut.update ..), q⟩
      show AbsL (vs.toArray.setIfInBounds k.toNat v).toList _
      simpa using hab.set hv k.toNat
    · rename_i nn f hx
      obtain ⟨ob, e, hD⟩ := ok.base.sto _ _ hx
      obtain ⟨kvs, hD, hsz, hf⟩ := DR.dictOf hD e
      refine wpAny_setItem_pairs (intKind_is _ _ k t) hD (fun h' hD' hs' => ?_) (Nat.le_trans (Nat.le_trans hsz h.1) (by decide))
      obtain ⟨ob', e', hR⟩ := DR.of_dictOf hD' (Nat.le_trans (stored_length ..) (Nat.add_le_add_right hsz 1)) (optR_set hf hv)
      exact ⟨_, ok.kp (ok.base.turnT (.di (nn + 1) _) hx hs' e' hR) (.turn hx hs'), .turn hx hs', h.2⟩
    · exact h.elim
  · rename_i l k
    rw [abs_ref ha]
    obtain ⟨t, rfl⟩ := abs_str hi
    split at h
    · rename_i nn f hx
      obtain ⟨ob, e, hD⟩ := ok.base.sto _ _ hx
      obtain ⟨kvs, hD, hsz, hf⟩ := DR.dictOf hD e
      refine wpAny_setItem_pairs (strKind_is _ _ k t) hD (fun h' hD' hs' => ?_) (Nat.le_trans (Nat.le_trans hsz h.1) (by decide))
      obtain ⟨ob', e', hR⟩ := DR.of_dictOf hD' (Nat.le_trans (stored_length ..) (Nat.add_le_add_right hsz 1)) (optR_set hf hv)
      exact ⟨_, ok.kp (ok.base.turnT (.ds (nn + 1) _) hx hs' e' hR) (.turn hx hs'), .turn hx hs', h.2⟩
    · exact h.elim
  · exact h.elim

noncomputable def wSet (o i v : ET) : ST := fun ρ σ Q X => v ρ σ (fun vv σ => o ρ σ (fun vo σ => i ρ σ (fun vi σ => setW vo vi vv σ fun σ => Q .next ρ σ) (X ρ)) (X ρ)) (X ρ)
theorem s_set {o i v : Expr} {ap pos : Pos} {wo wi wv : ET} (ho : SE C d m ns o wo) (hi : SE C d m ns i wi) (hv : SE C d m ns v wv)
    (hs : ∀ env, swapsWith v (some (.Subscript o i ap)) pos.line env = pure false := by intro _; rfl) : S1 C d m ns (.Assign [.Subscript o i ap] v pos) (wSet wo wi wv) := by
  intro A env ρ σ s Q X ok hf w
  refine wpAny_Assign_Subscript (ts_go (.refl ..) (hv A env ρ σ s _ _ ok w) fun v av σ₁ s₁ hv ok₁ k₁ q₁ => ts_go k₁ (ho A env ρ σ₁ s₁ _ _ ok₁ q₁) fun o ao σ₂ s₂ hao ok₂ k₂ q₂ => ts_go k₂ (hi A env ρ σ₂ s₂ _ _ ok₂ q₂) fun i ai σ₃ s₃ hai ok₃ k₃ q₃ => ?_) (hs env)
  refine wpAny_mono (set_ok ok₃ hao hai hv q₃) (fun _ s₄ q => ?_) fun _ _ q => q
  obtain ⟨σ₄, ok₄, k₄, q₄⟩ := q
  exact ⟨ρ, σ₄, ok₄, k₃.trans k₄, q₄⟩
end
end Mine
end

section
open PySem PySem.W PyProof.Rows
set_option maxRecDepth 100000
namespace Mine

theorem boot_len : bootBuiltins (Str.ofString "len") = some (.builtin "len") := by decide +kernel
theorem boot_sorted : bootBuiltins (Str.ofString "sorted") = some (.builtin "sorted") := by decide +kernel
theorem boot_min : bootBuiltins (Str.ofString "min") = some (.builtin "min") := by decide +kernel
theorem boot_sum : bootBuiltins (Str.ofString "sum") = some (.builtin "sum") := by decide +kernel
theorem boot_type : bootBuiltins (Str.ofString "type") = some (.type "type") := by decide +kernel
theorem boot_set : bootBuiltins (Str.ofString "set") = some (.type "set") := by decide +kernel
theorem boot_list : bootBuiltins (Str.ofString "list") = some (.type "list") := by decide +kernel
theorem boot_range : bootBuiltins (Str.ofString "range") = some (.type "range") := by decide +kernel
theorem boot_reversed : bootBuiltins (Str.ofString "reversed") = some (.type "reversed") := by decide +kernel
theorem boot_str : bootBuiltins (Str.ofString "str") = some (.type "str") := by decide +kernel
theorem boot_IndexError : bootBuiltins (Str.ofString "IndexError") = some (.type "IndexError") := by decide +kernel

/-- every heap with a frame: what is below it, and the list of all above it -/
noncomputable def above (h : Heap) (L : Addr) : List (Addr × Obj) := (List.range h.objs.size).filterMap fun a => if L < a then (h.get? a).map fun o => (a, o) else none
theorem mem_above {h : Heap} {L a : Addr} {o : Obj} : (a, o) ∈ above h L ↔ L < a ∧ h.get? a = some o := by
  unfold above
  rw [List.mem_filterMap]
  constructor
  · rintro ⟨b, hb, e⟩
    split at e
    · rename_i hlt
      obtain ⟨o', ho', e'⟩ := Option.map_eq_some_iff.mp e
      cases e'
      exact ⟨hlt, ho'⟩
    · cases e
  · rintro ⟨h1, h2⟩
    exact ⟨a, List.mem_range.mpr (Heap.lt_size h2), by rw [if_pos h1, h2]; rfl⟩
noncomputable def under (h : Heap) (L : Addr) : Heap := ⟨h.objs.extract 0 L, h.life⟩
theorem under_get {h : Heap} {L a : Addr} (hL : L ≤ h.objs.size) : (under h L).get? a = if a < L then h.get? a else none := by
  unfold under Heap.get?
  dsimp only
  by_cases q : a < L
  · rw [if_pos q, Array.getElem?_extract, if_pos (by rw [Nat.sub_zero, Nat.min_eq_left hL]; exact q)]
    simp
  · rw [if_neg q, Array.getElem?_extract, if_neg (by rw [Nat.sub_zero, Nat.min_eq_left hL]; exact q)]
theorem univ {h : Heap} {L : Addr} {mp : Str → Option Value} (hn : h.Ns L mp) : Fr (under h L) L h mp ∧ News (under h L) L h (above h L) := by
  have hL : L ≤ h.objs.size := Nat.le_of_lt hn.lt
  refine ⟨⟨hn, fun b o e => ?_, ?_⟩, fun p hp => ?_⟩
  · rw [under_get hL] at e
    split at e
    · exact e
    · cases e
  · show (h.objs.extract 0 L).size ≤ L
    rw [Array.size_extract]
    exact Nat.le_trans (Nat.sub_le _ _) (Nat.min_le_left _ _)
  · obtain ⟨h1, h2⟩ := mem_above.mp hp
    exact ⟨h2, Nat.ne_of_gt h1, by rw [under_get hL, if_neg (Nat.not_lt.mpr (Nat.le_of_lt h1))]⟩
/-- behind a step of the ledger that keeps all -/
theorem univ_keep {h h' : Heap} {L : Addr} {mp : Str → Option Value} {more : List (Addr × Obj)} (hn : h.Ns L mp) (F : Fr (under h L) L h' mp) (N : News (under h L) L h' (more ++ above h L)) :
    ∀ b o, h.get? b = some o → b ≠ L → h'.get? b = some o := fun b o e hb => by
  have hL : L ≤ h.objs.size := Nat.le_of_lt hn.lt
  rcases Nat.lt_or_gt_of_ne hb with q | q
  · exact F.keep b o (by rw [under_get hL, if_pos q]; exact e)
  · exact (N (b, o) (List.mem_append_right _ (mem_above.mpr ⟨q, e⟩))).1

section
variable {C : Cx} {d m : Nat} {A : Around} {ns : List (Str × NameKind)} {env : Env} {ρ : Loc} {σ : Sto} {s : Shared}
/-- the frame's namespace is as it was, all that is not ours is kept -/
theorem ok_kept {σ' : Sto} {s' : Shared} {mp : Str → Option Value} (ok : Ok C d m A ns env ρ σ s) (hn : s.heap.Ns env.locals mp) (hv : ∀ x v, ρ x = some v → ns.lookup (Str.ofString x) = some .local → ∃ cv, mp (Str.ofString x) = some cv ∧ absV cv = some v)
    (hn' : s'.heap.Ns env.locals mp) (b' : Base C σ' s') (hfr : ∀ b, σ' b ≠ none → σ b ≠ none ∨ s.heap.get? b = none) (hk : ∀ b o, s.heap.get? b = some o → b ≠ env.locals → σ b = none → s'.heap.get? b = some o) :
    Ok C d m A ns env ρ σ' s' ∧ Kp (frE env) σ σ' s.heap s'.heap := by
  obtain ⟨oL, es, ep, hoL, hdL, _⟩ := id hn
  obtain ⟨oL', es', ep', hoL', hdL', _⟩ := id hn'
  have k : Kp (frE env) σ σ' s.heap s'.heap := by
    refine ⟨fun b o e hb hf => ⟨o.slots, hk b o e (fun q => hf q) hb⟩, fun b o e hb hf _ => hk b o e (fun q => hf q) hb, fun b o e hb => ?_, hfr⟩
    by_cases q : b = env.locals
    · subst q; exact ⟨_, hoL'⟩
    · exact ⟨o, hk b o e q hb⟩
  obtain ⟨l, hl, hf, hnf⟩ := ok.frames
  have ne : ∀ b ob ws, s.heap.get? b = some ob → ob.data = .fields ws → b ≠ env.locals := fun b ob ws e1 e2 q => by subst q; rw [hoL] at e1; cases e1; rw [hdL] at e2; cases e2
  refine ⟨{ base := b', depth := ok.depth, units := ok.units, frames := ⟨l, hl, funFrames_data hf fun b hb x hx hdx => ?_, fun b hb => ?_⟩, hand := ⟨ok.hand.1, fun e => (ok.hand.2 e).imp id ?_⟩, kind := ok.kind, names := ok.names, glob := ok.glob, blt := ok.blt, above := ok.above, new := k.nn hoL ok.new, loc := ⟨mp, hn', hv⟩, cell := fun x hx => ?_, apart := ok.apart, cnew := fun x c hx => ?_, vis := ok.vis }, k⟩
  · by_cases q : b = env.locals
    · subst q; exact ⟨_, hoL', fun vs q => by rw [hdL'] at q; cases q⟩
    · exact ⟨x, hk b x hx q (hnf b hb).1, hdx⟩
  · obtain ⟨h1, x, es, ep, hx, hdx⟩ := hnf b hb
    by_cases q : b = env.locals
    · subst q; exact ⟨k.nn hx h1, _, _, _, hoL', hdL'⟩
    · exact ⟨k.nn hx h1, x, es, ep, hk b x hx q h1, hdx⟩
  · rintro ⟨x, e1, hx, ox, vs, h1, h2, h3, h4, h5, h6⟩
    refine ⟨x, e1, k.nn h1 hx, ox, vs, hk _ _ h1 (ne _ _ _ h1 h3) hx, h2, h3, h4, h5.imp id ?_, h6⟩
    rintro ⟨tb, ot, ts, ht, htx, h1', hot, hdt, hsz⟩
    exact ⟨tb, ot, ts, k.nn hot ht, htx, h1', hk _ _ hot (ne _ _ _ hot hdt) ht, hdt, hsz⟩
  · obtain ⟨c, ov, hc, hi, hq⟩ := ok.cell x hx
    obtain ⟨oc, hoc, hdc⟩ := hi
    exact ⟨c, ov, hc, ⟨oc, hk _ _ hoc (ok.cnew _ _ hc).2.2.1 (ok.cnew _ _ hc).1, hdc⟩, hq⟩
  · obtain ⟨h1, h2, h3, ov, oc, hoc, hdc⟩ := ok.cnew x c hx
    exact ⟨k.nn hoc h1, h2, h3, ov, oc, hk _ _ hoc h3 h1, hdc⟩
theorem base_kept {h' : Heap} {t : Nat} (ok : Ok C d m A ns env ρ σ s) (hsz : env.locals < h'.objs.size) (hk : ∀ b o, s.heap.get? b = some o → b ≠ env.locals → h'.get? b = some o) : Base C σ { s with heap := h', toks := t } := by
  refine ⟨fun b o e => hk b o (ok.base.keep b o e) fun q => ?_, Nat.le_trans ok.above (Nat.le_of_lt hsz), fun a o e => ?_, ok.base.dyn, ok.base.gens, ok.base.os⟩
  · have h1 := Heap.lt_size e
    rw [q] at h1
    exact absurd h1 (Nat.not_lt.mpr ok.above)
  · obtain ⟨ob, h1, h2⟩ := ok.base.sto a o e
    exact ⟨ob, hk a ob h1 (fun q => by rw [q, ok.new] at e; cases e), h2⟩
theorem base_add {D : Addr} {ob : Obj} (o : O) (b : Base C σ s) (hD : C.base.objs.size ≤ D) (e : s.heap.get? D = some ob) (hr : OR C ob o) : Base C (upd σ D o) s := by
  refine ⟨b.keep, b.size, fun a x h => ?_, fun a h => ?_, b.gens, b.os⟩
  · by_cases q : a = D
    · subst q; rw [upd_self] at h; cases h; exact ⟨ob, e, hr⟩
    · rw [upd_ne _ _ q] at h; exact b.sto a x h
  · by_cases q : a = D
    · subst q; exact hD
    · rw [upd_ne _ _ q] at h; exact b.dyn a h
/-- a step by the ledger that makes nothing that stays -/
theorem ep_kept {h' : Heap} {t : Nat} {mp : Str → Option Value} {Q : V → Sto → Prop} {v : Value} {av : V} (ok : Ok C d m A ns env ρ σ s) (hn : s.heap.Ns env.locals mp) (hv : ∀ x v, ρ x = some v → ns.lookup (Str.ofString x) = some .local → ∃ cv, mp (Str.ofString x) = some cv ∧ absV cv = some v)
    (F : Fr (under s.heap env.locals) env.locals h' mp) (N : News (under s.heap env.locals) env.locals h' (above s.heap env.locals)) (ha : absV v = some av) (q : Q av σ) : EP C d m A ns env ρ σ s Q v { s with heap := h', toks := t } := by
  have hk := univ_keep (more := []) hn F N
  have b' : Base C σ { s with heap := h', toks := t } := base_kept ok F.ns.lt hk
  obtain ⟨ok', k'⟩ := ok_kept ok hn hv (s' := { s with heap := h', toks := t }) F.ns b' (fun b h => .inl h) fun b o e hb _ => hk b o e hb
  exact ⟨av, σ, ha, ok', k', q⟩
/-- a step by the ledger that makes one object of ours -/
theorem ep_made {h' : Heap} {t : Nat} {mp : Str → Option Value} {Q : V → Sto → Prop} {D : Addr} {ob : Obj} (o : O) (ok : Ok C d m A ns env ρ σ s) (hn : s.heap.Ns env.locals mp) (hv : ∀ x v, ρ x = some v → ns.lookup (Str.ofString x) = some .local → ∃ cv, mp (Str.ofString x) = some cv ∧ absV cv = some v)
    (F : Fr (under s.heap env.locals) env.locals h' mp) (N : News (under s.heap env.locals) env.locals h' ((D, ob) :: above s.heap env.locals)) (hD : s.heap.objs.size ≤ D) (hr : OR C ob o) (q : Q (.ref D) (upd σ D o)) :
    EP C d m A ns env ρ σ s Q (.ref D) { s with heap := h', toks := t } := by
  have hk := univ_keep (more := [(D, ob)]) hn F N
  have e := (N (D, ob) (.head _)).1
  have b' : Base C σ { s with heap := h', toks := t } := base_kept ok F.ns.lt hk
  have b'' := base_add o b' (Nat.le_trans ok.base.size hD) e hr
  have hno : s.heap.get? D = none := by
    cases q : s.heap.get? D with
    | none => rfl
    | some x => exact absurd (Heap.lt_size q) (Nat.not_lt.mpr hD)
  obtain ⟨ok', k'⟩ := ok_kept ok hn hv (s' := { s with heap := h', toks := t }) F.ns b'' (fun b h => by
    by_cases q : b = D
    · subst q; exact .inr hno
    · rw [upd_ne _ _ q] at h; exact .inl h) fun b o e hb _ => hk b o e hb
  exact ⟨_, _, rfl, ok', k', q⟩

/-- two ints, two texts, two lists -/
noncomputable def addV : V → V → Sto → (V → Sto → Prop) → Prop := fun a b σ Q => match a, b with
  | .int x, .int y => Q (.int (x + y)) σ
  | .str x, .str y => x.length + y.length ≤ 1000000 ∧ Q (.str (x ++ y)) σ
  | .ref x, .ref y => getL σ (.ref x) fun _ xs => getL σ (.ref y) fun _ ys => newL (xs ++ ys) σ Q
  | _, _ => False
theorem op_add : Op2 C (binaryOp .Add) addV := by
  intro d m A ns env ρ σ s Q a b va vb ok ha hb h
  cases va <;> cases vb <;> first | exact h.elim | skip
  · obtain ⟨t, rfl⟩ := abs_int ha; obtain ⟨u, rfl⟩ := abs_int hb
    exact PyProof.Rows.add_int (ep_tok ok rfl h)
  · obtain ⟨t, rfl⟩ := abs_str ha; obtain ⟨u, rfl⟩ := abs_str hb
    exact PyProof.Rows.add_str (fun t' tk => ep_tok ok rfl h.2) (lim_le h.1)
  · rw [abs_ref ha, abs_ref hb]
    simp only [addV] at h
    obtain ⟨x, xs, e1, hx, h⟩ := getL_elim h
    cases e1
    obtain ⟨y, ys, e2, hy, h⟩ := getL_elim h
    cases e2
    obtain ⟨vs, n, e, hab⟩ := ok.base.list hx
    obtain ⟨vs2, n2, e2, hab2⟩ := ok.base.list hy
    obtain ⟨mp, hn, hv⟩ := ok.loc
    obtain ⟨F, N⟩ := univ hn
    have l1 := hab.length
    have l2 := hab2.length
    have h1 := h.1
    refine add_arrays F N (isList_of e) (isList_of e2) (fun h' F' N' => ?_) (by rw [List.size_toArray, List.size_toArray, l1, l2, ← List.length_append]; exact lim_le h1)
    exact ep_made (.list (xs ++ ys)) ok hn hv F' N' (Nat.le_refl _) ⟨_, 0, rfl, by simpa using hab.append hab2⟩ (h.2 _ ok.base.no)
end
end Mine
end

section
open PySem PySem.W PyProof.Rows
set_option maxRecDepth 100000
namespace Mine

inductive Src where
  | list (a : Addr)
  | rev (a : Addr) (n : Nat)
  | range (lo step : Int) (n : Nat)
  | set (a : Addr) (ep : Nat) (t : SetTable)
noncomputable def Src.vals (σ : Sto) : Src → Option (List V)
  | .list a => (match σ a with | some (.list xs) => some xs | _ => none)
  | .rev a n => (match σ a with | some (.list xs) => if xs.length = n then some xs.reverse else none | _ => none)
  | .range lo st n => some ((List.range n).map fun i : Nat => V.int (lo + i * st))
  | .set a ep t => (match σ a with | some (.set xs ep' t') => if ep' = ep ∧ t' = t then some (xs.map V.str) else none | _ => none)
noncomputable def ItAt : Src → Addr → Nat → Heap → Prop
  | .list a, I, i, h => h.IsListIter I a i
  | .rev a n, I, i, h => Heap.IsRevIter h I a ((n : Int) - 1 - i)
  | .range lo st n, I, i, h => IsRangeIter h I (lo + i * st) ((n : Int) - i) st
  | .set a ep t, I, i, h => h.get? I = some (siObj a ep t i)
theorem ItAt.at {src : Src} {I : Addr} {i : Nat} {h h' : Heap} (x : ItAt src I i h) (k : ∀ o, h.get? I = some o → (∀ es ep, o.data ≠ .dict es ep) → h'.get? I = some o) : ItAt src I i h' := by
  cases src with
  | list a => obtain ⟨o, ho, hc, hd⟩ := x; exact ⟨o, k o ho (fun _ _ q => by rw [hd] at q; cases q), hc, hd⟩
  | rev a n => obtain ⟨o, ho, hc, hd⟩ := x; exact ⟨o, k o ho (fun _ _ q => by rw [hd] at q; cases q), hc, hd⟩
  | range lo st n => exact k _ x (fun _ _ q => by cases q)
  | set a ep t => exact k _ x (fun _ _ q => by cases q)
theorem ItAt.cls {src : Src} {I : Addr} {i : Nat} {h : Heap} (x : ItAt src I i h) : ∃ o T vs, h.get? I = some o ∧ o.cls = .type T ∧ o.data = .fields vs ∧
    (["enumerate", "zip", "dict_itemiterator", "dict_reverseitemiterator", "odict_iterator", "itertools.zip_longest", "itertools.pairwise"].contains T) = false := by
  cases src with
  | list a => obtain ⟨o, ho, hc, hd⟩ := x; exact ⟨o, _, _, ho, hc, hd, by decide⟩
  | rev a n => obtain ⟨o, ho, hc, hd⟩ := x; exact ⟨o, _, _, ho, hc, hd, by decide⟩
  | range lo st n => exact ⟨_, _, _, x, rfl, rfl, by decide⟩
  | set a ep t => exact ⟨_, _, _, x, rfl, rfl, by decide⟩

section
variable {C : Cx} {A : Around} {σ : Sto} {s : Shared}
theorem Base.set {a : Addr} {xs : List Str} {ep : Nat} {t : SetTable} (b : Base C σ s) (h : σ a = some (.set xs ep t)) : (xs = [] ∧ s.heap.get? a = some ⟨.type "set", none, .set #[] ep t, #[]⟩ ∧ t.fits 0 = true) ∨
    (∃ x tk, xs = [x] ∧ s.heap.get? a = some ⟨.type "set", none, .set #[((strKind C.prog C.w).hash x, .str x tk)] ep t, #[]⟩ ∧ t.fits 1 = true ∧ t.led = !C.w.params.followText "set-order") := by
  obtain ⟨ob, e, es, rfl, hf, hm⟩ := b.sto a _ h
  cases xs with
  | nil => dsimp only at hm; subst hm; exact .inl ⟨rfl, e, hf⟩
  | cons x ys =>
    cases ys with
    | nil => obtain ⟨⟨tk, he⟩, hl⟩ := hm; subst he; exact .inr ⟨x, tk, rfl, e, hf, hl⟩
    | cons _ _ => exact hm.elim
theorem it_item {src : Src} {I : Addr} {i : Nat} {vs : List V} {v : V} {E : Value → Shared → Prop} (b : Base C σ s) (hit : ItAt src I i s.heap) (hvs : src.vals σ = some vs) (hv : vs[i]? = some v) :
    wpAny C.M A (pyNext (.ref I)) (fun r s' => ∃ cv h' tk, r = some cv ∧ s' = { s with heap := h', toks := tk } ∧ absV cv = some v ∧ ItAt src I (i + 1) h' ∧ Heap.SameBut I s.heap h') E s := by
  have hlt : i < vs.length := (List.getElem?_eq_some_iff.mp hv).1
  cases src with
  | list a =>
    simp only [Src.vals] at hvs
    split at hvs <;> cases hvs
    rename_i hx
    obtain ⟨ws, n, e, hab⟩ := b.list hx
    obtain ⟨cv, hc, hcv⟩ := hab.get hv
    exact wpAny_pyNext_list_item hit (isList_of e) (by simpa using hc) fun h' hit' hs' => ⟨cv, h', s.toks, rfl, rfl, hcv, hit', hs'⟩
  | rev a n =>
    simp only [Src.vals] at hvs
    split at hvs <;> first | cases hvs | skip
    rename_i xs hx
    split at hvs <;> cases hvs
    rename_i hlen
    obtain ⟨ws, k, e, hab⟩ := b.list hx
    rw [List.length_reverse] at hlt
    rw [List.getElem?_reverse hlt] at hv
    obtain ⟨cv, hc, hcv⟩ := hab.get hv
    have e1 : ((n : Int) - 1 - i) = ((xs.length - 1 - i : Nat) : Int) := by omega
    have hit' : Heap.IsRevIter s.heap I a ((xs.length - 1 - i : Nat) : Int) := e1 ▸ hit
    refine wpAny_pyNext_rev_item hit' (isList_of e) (by simpa using hc) fun h' hit'' hs' => ⟨cv, h', s.toks, rfl, rfl, hcv, ?_, hs'⟩
    show Heap.IsRevIter h' I a _
    rw [show ((n : Int) - 1 - ((i + 1 : Nat) : Int)) = ((xs.length - 1 - i : Nat) : Int) - 1 by omega]
    exact hit''
  | range lo st n =>
    cases hvs
    rw [List.length_map, List.length_range] at hlt
    rw [List.getElem?_map, List.getElem?_range hlt] at hv
    cases hv
    refine wpAny_pyNext_range_item hit (by omega) fun h' hit' hs' => ⟨_, h', _, rfl, rfl, rfl, ?_, hs'⟩
    show IsRangeIter h' I _ _ _
    rw [show (lo + ((i + 1 : Nat) : Int) * st) = lo + (i : Int) * st + st by rw [Int.natCast_add, Int.add_mul]; omega, show ((n : Int) - ((i + 1 : Nat) : Int)) = n - i - 1 by omega]
    exact hit'
  | set a ep t =>
    simp only [Src.vals] at hvs
    split at hvs <;> first | cases hvs | skip
    rename_i xs ep' t' hx
    split at hvs <;> cases hvs
    rename_i he
    obtain ⟨rfl, rfl⟩ := he
    rcases b.set hx with ⟨rfl, e, hf⟩ | ⟨x, tk, rfl, e, hf, hl⟩
    · simp at hlt
    · have h0 : i = 0 := by simpa using hlt
      subst h0
      cases hv
      exact next_set_item hit e hf hl fun h' hI' hs' => ⟨_, h', s.toks, rfl, rfl, rfl, hI', hs'⟩
theorem it_done {src : Src} {I : Addr} {vs : List V} {E : Value → Shared → Prop} (hh : A.handled = none) (b : Base C σ s) (hit : ItAt src I vs.length s.heap) (hvs : src.vals σ = some vs) :
    wpAny C.M A (pyNext (.ref I)) (fun r s' => ∃ h' tk, r = none ∧ s' = { s with heap := h', toks := tk } ∧ Heap.ExtBut I s.heap h') E s := by
  cases src with
  | list a =>
    simp only [Src.vals] at hvs
    split at hvs <;> cases hvs
    rename_i hx
    obtain ⟨ws, n, e, hab⟩ := b.list hx
    exact wpAny_pyNext_list_end hh hit (isList_of e) (by simp [hab.length]) fun h' hs' => ⟨h', s.toks, rfl, rfl, hs'⟩
  | rev a n =>
    simp only [Src.vals] at hvs
    split at hvs <;> first | cases hvs | skip
    rename_i xs hx
    split at hvs <;> cases hvs
    rename_i hlen
    have hit' : Heap.IsRevIter s.heap I a (-1) := by
      have h2 : Heap.IsRevIter s.heap I a _ := hit
      rw [List.length_reverse, hlen] at h2
      rwa [show ((n : Int) - 1 - n) = -1 by omega] at h2
    exact wpAny_pyNext_rev_end hh hit' fun h' hs' => ⟨h', s.toks, rfl, rfl, hs'⟩
  | range lo st n =>
    cases hvs
    exact wpAny_pyNext_range_end hh hit (by simp) fun h' hs' => ⟨h', s.toks, rfl, rfl, hs'⟩
  | set a ep t =>
    simp only [Src.vals] at hvs
    split at hvs <;> first | cases hvs | skip
    rename_i xs ep' t' hx
    split at hvs <;> cases hvs
    rename_i he
    obtain ⟨rfl, rfl⟩ := he
    rcases b.set hx with ⟨rfl, e, hf⟩ | ⟨x, tk, rfl, e, hf, hl⟩
    · exact next_set_end hh hit e hf (fun A E Q q => setNext_none e hf q) fun h' hs' => ⟨h', s.toks, rfl, rfl, hs'⟩
    · exact next_set_end hh hit e hf (fun A E Q q => setNext_one e hf hl (fun q => by cases q) (fun _ => q) (Nat.le_refl _)) fun h' hs' => ⟨h', s.toks, rfl, rfl, hs'⟩
end

section
variable {C : Cx} {d : Nat} {A : Around} {ns : List (Str × NameKind)} {env : Env} {ρ₀ ρ : Loc} {σ₀ σ : Sto} {s₀ s : Shared}
/-- an object that was not protected at the start is turned -/
theorem ok_unp {fr : Addr → Prop} {h' : Heap} {t : Nat} {I : Addr} (ok₀ : Ok C d 0 A ns env ρ₀ σ₀ s₀) (k : Kp fr σ₀ σ s₀.heap s.heap) (ok : Ok C d 0 A ns env ρ σ s) (hI : Unp σ₀ s₀.heap I) (hσ : σ I = none)
    (hs : ∀ b o, b ≠ I → s.heap.get? b = some o → h'.get? b = some o) : Ok C d 0 A ns env ρ σ { s with heap := h', toks := t } ∧ Kp fr σ₀ σ s₀.heap h' := by
  have ne : ∀ b o, s₀.heap.get? b = some o → σ₀ b = none → b ≠ I := fun b o e hn q => by
    subst q
    rcases hI with hI | hI
    · rw [hI] at e; cases e
    · exact hI hn
  have hb : C.base.get? I = none := by
    cases e : C.base.get? I with
    | none => rfl
    | some o =>
      refine absurd rfl (ne I o (ok₀.base.keep I o e) ?_)
      cases q : σ₀ I with
      | none => rfl
      | some x => exact absurd (Heap.lt_size e) (Nat.not_lt.mpr (ok₀.base.dyn I (by rw [q]; simp)))
  have hsz : C.base.objs.size ≤ h'.objs.size := by
    obtain ⟨mp₀, hns₀, _⟩ := ok₀.loc
    obtain ⟨oL₀, es₀, ep₀, hoL₀, _⟩ := hns₀
    obtain ⟨mp, ⟨oL, es, ep, hoL, _⟩, _⟩ := ok.loc
    exact Nat.le_trans ok.above (Nat.le_of_lt (Heap.lt_size (hs _ _ (ne _ _ hoL₀ ok₀.new) hoL)))
  have base : Base C σ { s with heap := h', toks := t } := by
    refine ⟨fun b o e => hs b o (fun q => by rw [q, hb] at e; cases e) (ok.base.keep b o e), hsz, fun a o e => ?_, ok.base.dyn, ok.base.gens, ok.base.os⟩
    obtain ⟨ob, h1, h2⟩ := ok.base.sto a o e
    exact ⟨ob, hs a ob (fun q => by rw [q, hσ] at e; cases e) h1, h2⟩
  obtain ⟨l₀, hl₀, hf₀, hn₀⟩ := ok₀.frames
  obtain ⟨l, hl, hf, hn⟩ := ok.frames
  have el : l₀ = l := by rw [hl₀] at hl; exact Option.some.inj hl
  subst el
  obtain ⟨mp₀, hns₀, _⟩ := ok₀.loc
  obtain ⟨oL₀, es₀, ep₀, hoL₀, _⟩ := hns₀
  obtain ⟨mp, hns, hv⟩ := ok.loc
  refine ⟨{ base := base, depth := ok.depth, units := ok.units, frames := ⟨l₀, hl, funFrames_data hf fun b hb' x hx hdx => ?_, fun b hb' => ?_⟩, hand := ⟨ok.hand.1, fun e => by cases e⟩, kind := ok.kind, names := ok.names, glob := ok.glob, blt := ok.blt, above := ok.above, new := ok.new, loc := ⟨mp, ?_, hv⟩, cell := fun x hx => ?_, apart := ok.apart, cnew := fun x c hx => ?_, vis := ok.vis }, ?_⟩
  · obtain ⟨_, o, ho, _⟩ := hf₀.mem hb'
    exact ⟨x, hs b x (ne b o ho (hn₀ b hb').1) hx, hdx⟩
  · obtain ⟨h1, x, es, ep, hx, hdx⟩ := hn b hb'
    obtain ⟨h1', x', es', ep', hx', hdx'⟩ := hn₀ b hb'
    exact ⟨h1, x, es, ep, hs b x (ne b x' hx' h1') hx, hdx⟩
  · obtain ⟨oL, es, ep, hoL, r⟩ := hns
    exact ⟨oL, es, ep, hs _ _ (ne _ _ hoL₀ ok₀.new) hoL, r⟩
  · obtain ⟨c, ov, hc, ⟨oc, hoc, hdc⟩, hq⟩ := ok.cell x hx
    obtain ⟨h1, h2, h3, ov', oc', hoc', hdc'⟩ := ok₀.cnew _ _ hc
    exact ⟨c, ov, hc, ⟨oc, hs _ _ (ne _ _ hoc' h1) hoc, hdc⟩, hq⟩
  · obtain ⟨h1, h2, h3, ov, oc, hoc, hdc⟩ := ok.cnew x c hx
    obtain ⟨h1', h2', h3', ov', oc', hoc', hdc'⟩ := ok₀.cnew _ _ hx
    exact ⟨h1, h2, h3, ov, oc, hs _ _ (ne _ _ hoc' h1') hoc, hdc⟩
  · refine ⟨fun b o e hbn hf => ?_, fun b o e hbn hf hd => hs b o (ne b o e hbn) (k.recs b o e hbn hf hd), fun b o e hbn => ?_, k.fresh⟩
    · obtain ⟨sl, e'⟩ := k.keep b o e hbn hf
      exact ⟨sl, hs b _ (ne b o e hbn) e'⟩
    · obtain ⟨o', e'⟩ := k.there b o e hbn
      exact ⟨o', hs b _ (ne b o e hbn) e'⟩
end

/-- targets -/
noncomputable abbrev TG := Loc → Sto → V → (Loc → Prop) → Prop
noncomputable def tg1 (x : String) : TG := fun ρ _ v k => k (updl ρ x v)
noncomputable def bindAll : List String → List V → Loc → Option Loc
  | [], [], ρ => some ρ
  | x :: xs, v :: vs, ρ => bindAll xs vs (updl ρ x v)
  | _, _, _ => none
noncomputable def tgN (xs : List String) : TG := fun ρ σ v k => match v with
  | .ref t => (match σ t with | some (.tuple vs) => opt (bindAll xs vs ρ) k | _ => False)
  | _ => False
noncomputable def STg (C : Cx) (d : Nat) (ns : List (Str × NameKind)) (target : Expr) (tg : TG) : Prop :=
  (∀ A env ρ σ s v av k E, Ok C d 0 A ns env ρ σ s → absV v = some av → tg ρ σ av k → wpAny C.M A (assign target env v) (fun _ s' => ∃ ρ', Ok C d 0 A ns env ρ' σ s' ∧ Kp (frOf env) σ σ s.heap s'.heap ∧ k ρ') E s) ∧
  (∀ A src I i s v E (Q : Unit → Shared → Prop), ItAt src I i s.heap → Q () s → wpAny C.M A (letOwnedTupleGo target (.ref I) v) Q E s)
section
variable {C : Cx} {d : Nat} {ns : List (Str × NameKind)}
theorem tgs_name {x : String} {pos : Pos} (hk : ns.lookup (Str.ofString x) = some .local ∨ ns.lookup (Str.ofString x) = some .cell) : STg C d ns (.Name (Str.ofString x) pos) (tg1 x) := by
  refine ⟨fun A env ρ σ s v av k E ok hv h => ?_, fun A src I i s v E Q _ q => wpAny_pure q⟩
  exact wpAny_assign_Name (wpAny_mono (store_ok ok hv hk) (fun _ s' q => ⟨_, q.1, q.2, h⟩) fun _ _ q => q)

noncomputable def namesOf (ns : List (Str × NameKind)) : List Expr → List String → Prop
  | [], [] => True
  | e :: es, x :: xs => (∃ pos, e = .Name (Str.ofString x) pos) ∧ (ns.lookup (Str.ofString x) = some .local ∨ ns.lookup (Str.ofString x) = some .cell) ∧ namesOf ns es xs
  | _, _ => False
theorem namesOf_each : ∀ {es : List Expr} {xs : List String}, namesOf ns es xs → ∀ env, (assignEach es env).length = xs.length ∧ (assignEach es env).findIdx? (·.1) = none
  | [], [], _, _ => ⟨rfl, rfl⟩
  | [], _ :: _, h, _ => h.elim
  | _ :: _, [], h, _ => h.elim
  | e :: es, x :: xs, ⟨⟨pos, he⟩, _, h⟩, env => by
    subst he
    obtain ⟨h1, h2⟩ := namesOf_each h env
    refine ⟨by show (assignEach es env).length + 1 = _; rw [h1]; rfl, ?_⟩
    show ((false, _) :: assignEach es env).findIdx? _ = none
    rw [List.findIdx?_cons, h2]; rfl
theorem namesOf_assign {A : Around} {env : Env} {k : Loc → Prop} {E : Value → Shared → Prop} : ∀ {es : List Expr} {xs : List String} {vs : List Value} {avs : List V} {ρ : Loc} {σ : Sto} {s : Shared}, namesOf ns es xs → AbsL vs avs → Ok C d 0 A ns env ρ σ s → opt (bindAll xs avs ρ) k →
    wpAny C.M A (assignInOrder ((assignEach es env).map (·.2)) vs) (fun _ s' => ∃ ρ', Ok C d 0 A ns env ρ' σ s' ∧ Kp (frOf env) σ σ s.heap s'.heap ∧ k ρ') E s
  | [], [], vs, avs, ρ, σ, s, _, ha, ok, h => by
    cases avs with
    | nil => rw [ha.inv_nil']; exact wpAny_assignInOrder_none ⟨ρ, ok, .refl .., h⟩
    | cons _ _ => exact h.elim
  | [], _ :: _, _, _, _, _, _, h, _, _, _ => h.elim
  | _ :: _, [], _, _, _, _, _, h, _, _, _ => h.elim
  | e :: es, x :: xs, vs, avs, ρ, σ, s, ⟨⟨pos, he⟩, hk, hr⟩, ha, ok, h => by
    subst he
    cases avs with
    | nil => exact h.elim
    | cons av avs =>
      obtain ⟨v, ws, rfl, hv, hws⟩ := ha.inv_cons'
      refine wpAny_assignInOrder_more (wpAny_assign_Name (wpAny_mono (store_ok ok hv hk) (fun _ s₁ q => ?_) fun _ _ q => q))
      refine wpAny_mono (namesOf_assign hr hws q.1 h) (fun _ s₂ q₂ => ?_) fun _ _ q => q
      obtain ⟨ρ', h1, h2, h3⟩ := q₂
      exact ⟨ρ', h1, q.2.trans h2, h3⟩
theorem letOwned_it {A : Around} {target : Expr} {src : Src} {I : Addr} {i : Nat} {s : Shared} {v : Value} {E : Value → Shared → Prop} {Q : Unit → Shared → Prop} (hit : ItAt src I i s.heap) (q : Q () s) : wpAny C.M A (letOwnedTupleGo target (.ref I) v) Q E s := by
  obtain ⟨o, T, vs, ho, hc, hd, hT⟩ := hit.cls
  unfold letOwnedTupleGo
  split
  · cases v <;> first | exact wpAny_pure q | skip
    refine wpAny_bind (wpAny_load ho ?_)
    rw [hc, hd]
    dsimp only
    rw [hT]
    exact wpAny_pure q
  · cases v <;> first | exact wpAny_pure q | skip
    refine wpAny_bind (wpAny_load ho ?_)
    rw [hc, hd]
    dsimp only
    rw [hT]
    exact wpAny_pure q
  · exact wpAny_pure q
theorem tgs_tuple {es : List Expr} {xs : List String} {k : Nat} {pos : Pos} (hn : namesOf ns es xs) : STg C d ns (.Tuple es k pos) (tgN xs) := by
  refine ⟨fun A env ρ σ s v av kk E ok hv h => ?_, fun A src I i s v E Q hit q => letOwned_it hit q⟩
  cases av <;> first | exact h.elim | skip
  rename_i t
  rw [abs_ref hv]
  simp only [tgN] at h
  split at h
  · rename_i vs hx
    obtain ⟨ws, n, e, hab⟩ := ok.base.tuple hx
    obtain ⟨h1, h2⟩ := namesOf_each hn env
    have hlen : xs.length = ws.length := by
      obtain ⟨ρ', hb, _⟩ := opt_elim h
      have : ∀ (xs : List String) (vs : List V) (ρ ρ' : Loc), bindAll xs vs ρ = some ρ' → xs.length = vs.length := by
        intro xs
        induction xs with
        | nil => intro vs ρ ρ' h; cases vs with | nil => rfl | cons _ _ => cases h
        | cons x xs ih => intro vs ρ ρ' h; cases vs with | nil => cases h | cons v vs => exact congrArg (· + 1) (ih _ _ _ h)
      rw [this _ _ _ _ hb, hab.length]
    refine wpAny_assign_Tuple (ok.hand.1 (.inl rfl)) (items := ws.toArray) ⟨_, e, rfl, n, rfl⟩ (by rw [h1, List.size_toArray]; exact hlen) h2 fun h' hs' => ?_
    have hk' : ∀ b o, s.heap.get? b = some o → h'.get? b = some o := fun b o e => hs' b o (Nat.ne_of_lt (Heap.lt_size e)) e
    obtain ⟨mp, ⟨oL, es, ep, hoL, _⟩, _⟩ := ok.loc
    have hsz : C.base.objs.size ≤ h'.objs.size := Nat.le_trans ok.above (Nat.le_of_lt (Heap.lt_size (hk' _ _ hoL)))
    have ok' : Ok C d 0 A ns env ρ σ { s with heap := h' } := ok.kp ⟨fun b o e => hk' b o (ok.base.keep b o e), hsz, fun a o e => let ⟨ob, h1, h2⟩ := ok.base.sto a o e; ⟨ob, hk' _ _ h1, h2⟩, ok.base.dyn, ok.base.gens, ok.base.os⟩ (.of_keep hk')
    refine wpAny_mono (namesOf_assign hn hab ok' h) (fun _ s₂ q₂ => ?_) fun _ _ q => q
    obtain ⟨ρ', q1, q2, q3⟩ := q₂
    exact ⟨ρ', q1, (Kp.of_keep hk').trans q2, q3⟩
  · exact h.elim
end
end Mine
end

section
open PySem PySem.W PyProof.Rows
set_option maxRecDepth 100000
namespace Mine

noncomputable abbrev IT := Loc → Sto → (Src → List V → Sto → Prop) → (Sto → Prop) → Prop
inductive ItP (C : Cx) (d : Nat) (A : Around) (ns : List (Str × NameKind)) (env : Env) (ρ : Loc) (σ : Sto) (s : Shared) (Q : Src → List V → Sto → Prop) (it : Value) (s₂ : Shared) : Prop
  | mk (I : Addr) (src : Src) (vs : List V) (σ' : Sto) (h0 : it = .ref I) (h1 : Unp σ s.heap I) (h2 : σ' I = none) (h3 : ItAt src I 0 s₂.heap) (h4 : src.vals σ' = some vs) (h5 : Ok C d 0 A ns env ρ σ' s₂) (h6 : Kp (frE env) σ σ' s.heap s₂.heap) (h7 : Q src vs σ')
noncomputable def SI (C : Cx) (d : Nat) (ns : List (Str × NameKind)) (pe : Expr) (W : IT) : Prop :=
  (∀ A env ρ σ s Q X, Ok C d 0 A ns env ρ σ s → W ρ σ Q X → wpAny C.M A (eval pe env) (fun x s₁ => wpAny C.M A (pyIter x) (ItP C d A ns env ρ σ s Q) (XP C d 0 A ns env (frE env) σ s (XE ρ X)) s₁) (XP C d 0 A ns env (frE env) σ s (XE ρ X)) s) ∧
  (∀ env x, foldedSetIterable pe env x = pure x)

theorem it_self {C : Cx} {A : Around} {s : Shared} {src : Src} {I : Addr} {i : Nat} {Q : Value → Shared → Prop} {E : Value → Shared → Prop} (h : ItAt src I i s.heap) (q : Q (.ref I) s) : wpAny C.M A (pyIter (.ref I)) Q E s := by
  cases src with
  | list a => exact wpAny_pyIter_listiter h q
  | rev a n =>
    have hT : s.TypeIs (.ref I) "list_reverseiterator" := Heap.IsRevIter.typeIs h
    refine wpAny_pyIter_slot hT F.slot_lri_iter (wpAny_call_entry F.slot_lri_iter hT F.entry_lri_iter ?_ (F.args_lri_iter_1 _))
    show wpAny _ _ (ret (.ref I)) _ _ s
    exact wpAny_pure ⟨_, rfl, "list_reverseiterator", _, hT, F.slot_lri_next.lookup, q⟩
  | range lo st n => exact wpAny_pyIter_rangeiter h q
  | set a ep t => exact iter_si h q

section
variable {C : Cx} {d : Nat} {A : Around} {ns : List (Str × NameKind)} {env : Env} {ρ : Loc} {σ : Sto} {s : Shared}
theorem ok_pushed {ob : Obj} {t : Nat} (ok : Ok C d 0 A ns env ρ σ s) : Ok C d 0 A ns env ρ σ { s with heap := s.heap.push ob, toks := t } ∧ Kp (frE env) σ σ s.heap (s.heap.push ob) := by
  have hk : ∀ b o, s.heap.get? b = some o → (s.heap.push ob).get? b = some o := fun b o e => Heap.get?_push_of_some _ e
  refine ⟨ok.kp ⟨fun b o e => hk b o (ok.base.keep b o e), Nat.le_trans ok.base.size (by show _ ≤ (s.heap.push ob).objs.size; rw [Heap.size_push]; omega), fun a o e => let ⟨ob, h1, h2⟩ := ok.base.sto a o e; ⟨ob, hk _ _ h1, h2⟩, ok.base.dyn, ok.base.gens, ok.base.os⟩ (.of_keep hk), .of_keep hk⟩
end

section
variable {C : Cx} {K : Frag} {d : Nat} {ns : List (Str × NameKind)}
noncomputable def wItVal (a : ET) : IT := fun ρ σ Q X => a ρ σ (fun v σ => getL σ v fun adr xs => Q (.list adr) xs σ) X
theorem si_val {e : Expr} {a : ET} (h : SE C d 0 ns e a) (hs : ∀ env x, foldedSetIterable e env x = pure x := by intro _ _; rfl) : SI C d ns e (wItVal a) := by
  refine ⟨fun A env ρ σ s Q X ok w => te_go (.refl ..) (h A env ρ σ s _ X ok w) fun v av σ₁ s₁ hv ok₁ k₁ q₁ => ?_, hs⟩
  obtain ⟨adr, xs, rfl, hx, q₁⟩ := getL_elim q₁
  rw [abs_ref hv]
  obtain ⟨vs, n, e, hab⟩ := ok₁.base.list hx
  obtain ⟨ok₂, k₂⟩ := ok_pushed (ob := { cls := .type "list_iterator", data := .fields #[.ref adr, .int 0 0] }) (t := s₁.toks) ok₁
  exact wpAny_pyIter_list (isList_of e) ⟨_, .list adr, xs, σ₁, rfl, Unp.back k₁ (.inl (size_none _)), ok₁.base.no, ⟨_, Heap.get?_push_size _ rfl, rfl, rfl⟩, by simp only [Src.vals, hx], ok₂, k₁.trans k₂, q₁⟩

/-- a set of ours -/
noncomputable def wItSet (a : ET) : IT := fun ρ σ Q X => a ρ σ (fun v σ => match v with
  | .ref adr => (match σ adr with | some (.set xs ep t) => Q (.set adr ep t) (xs.map V.str) σ | _ => False)
  | _ => False) X
theorem si_set {e : Expr} {a : ET} (h : SE C d 0 ns e a) (hs : ∀ env x, foldedSetIterable e env x = pure x := by intro _ _; rfl) : SI C d ns e (wItSet a) := by
  refine ⟨fun A env ρ σ s Q X ok w => te_go (.refl ..) (h A env ρ σ s _ X ok w) fun v av σ₁ s₁ hv ok₁ k₁ q₁ => ?_, hs⟩
  cases av <;> first | exact q₁.elim | skip
  rename_i adr
  dsimp only at q₁
  split at q₁
  · rename_i xs ep t hx
    rw [abs_ref hv]
    obtain ⟨ok₂, k₂⟩ := ok_pushed (ob := siObj adr ep t 0) (t := s₁.toks) ok₁
    have fin : ItP C d A ns env ρ σ s Q (.ref s₁.heap.objs.size) { s₁ with heap := s₁.heap.push (siObj adr ep t 0) } :=
      ⟨_, .set adr ep t, xs.map V.str, σ₁, rfl, Unp.back k₁ (.inl (size_none _)), ok₁.base.no, Heap.get?_push_size _ rfl, by simp only [Src.vals, hx, and_self, if_true], ok₂, k₁.trans k₂, q₁⟩
    rcases ok₁.base.set hx with ⟨rfl, e, hf⟩ | ⟨x, tk, rfl, e, hf, hl⟩
    · exact iter_set e hf (by simp) fin
    · exact iter_set e hf (by simp) fin
  · exact q₁.elim

noncomputable def rangeV (lo st : Int) (n : Nat) : List V := (List.range n).map fun i : Nat => V.int (lo + i * st)
noncomputable def wItRange (b : LT) : IT := fun ρ σ Q X => b ρ σ (fun vs σ => match vs with
  | [.int n] => (-1000000 ≤ n ∧ n ≤ 1000000) ∧ Q (.range 0 1 n.toNat) (rangeV 0 1 n.toNat) σ
  | [.int a, .int b, .int c] => c = -1 ∧ (-1000000 ≤ a ∧ a ≤ 1000000) ∧ (-1000000 ≤ b ∧ b ≤ 1000000) ∧ Q (.range a (-1) (a - b).toNat) (rangeV a (-1) (a - b).toNat) σ
  | _ => False) X
theorem size_one (n : Int) : Builtin.Range.rangeSize 0 n 1 = (n.toNat : Int) := by
  rw [rangeSize_one]; split <;> omega
theorem size_down (a b : Int) : Builtin.Range.rangeSize a b (-1) = ((a - b).toNat : Int) := by
  unfold Builtin.Range.rangeSize
  simp only [show ¬ ((-1 : Int) > 0) by omega, if_false]
  split
  · have : (a - b - 1) / (-(-1)) = a - b - 1 := by rw [Int.neg_neg, Int.ediv_one]
    rw [this]; omega
  · omega
theorem fits_of {i : Int} (h : -10000000 ≤ i ∧ i ≤ 10000000) : Builtin.Range.rangeFitsLong i = true := by
  unfold Builtin.Range.rangeFitsLong; simp only [Bool.and_eq_true, decide_eq_true_eq]; omega
theorem small_one {n : Int} (h : -1000000 ≤ n ∧ n ≤ 1000000) : Builtin.Range.small 0 n 1 = true := by
  unfold Builtin.Range.small
  rw [size_one, fits_of (i := 0) (by omega), fits_of (i := n) (by omega), fits_of (i := 1) (by omega), fits_of (i := (n.toNat : Int)) (by omega)]
  simp only [Bool.and_self, Bool.true_and, Bool.or_eq_true]
  right
  rw [if_pos (by omega)]
  exact fits_of (by omega)
theorem small_down {a b : Int} (h : -1000000 ≤ a ∧ a ≤ 1000000) (h' : -1000000 ≤ b ∧ b ≤ 1000000) : Builtin.Range.small a b (-1) = true := by
  unfold Builtin.Range.small
  rw [size_down, fits_of (i := a) (by omega), fits_of (i := b) (by omega), fits_of (i := -1) (by omega), fits_of (i := ((a - b).toNat : Int)) (by omega)]
  simp only [Bool.and_self, Bool.true_and, Bool.or_eq_true]
  right
  rw [if_neg (by omega)]
  exact fits_of (by omega)
theorem si_range {np pos : Pos} {es : List Expr} {b : LT} (S : Sta C K) (h : SL C d 0 ns es b) (hx : nsIn K mainGlobals (Str.ofString "range") = some none) (hk : ns.lookup (Str.ofString "range") = some .globalImplicit) (hb : bootBuiltins (Str.ofString "range") = some (.type "range"))
    (hs : ∀ env x, foldedSetIterable (.Call (.Name (Str.ofString "range") np) es [] pos) env x = pure x := by intro _ _; rfl) : SI C d ns (.Call (.Name (Str.ofString "range") np) es [] pos) (wItRange b) := by
  refine ⟨fun A env ρ σ s Q X ok w => wpAny_Call_ofName (blt_name S hx hk hb ok ?_), hs⟩
  obtain ⟨h1, h2, h3⟩ := h A env ρ σ s _ X pos ok w
  refine PyProof.Rows.callWith_type h3 (wpAny_mono (h2 _) (fun a s₁ q => ?_) fun _ _ q => q)
  obtain ⟨hkw, xs, σ₁, ha, ok₁, k₁, q₁⟩ := q
  rw [hkw, List.nil_append]
  split at q₁
  · rename_i n
    obtain ⟨v, ws, e, hv, hr⟩ := ha.inv_cons'
    rw [e, hr.inv_nil']
    obtain ⟨t, rfl⟩ := abs_int hv
    refine call_range_1 ?_
    obtain ⟨ok₂, k₂⟩ := ok_pushed (ob := { cls := .type "range", data := .fields #[.int 0 s₁.toks, .int n t, .int 1 (s₁.toks + 1)] }) (t := s₁.toks + 1 + 1) ok₁
    obtain ⟨ok₃, k₃⟩ := ok_pushed (ob := { cls := .type "range_iterator", data := .fields #[rawInt 0, rawInt (Builtin.Range.rangeSize 0 n 1), rawInt 1] }) (t := s₁.toks + 1 + 1) ok₂
    refine wpAny_pyIter_range (IsRange.new ..) (small_one q₁.1) ⟨_, .range 0 1 n.toNat, _, σ₁, rfl, Unp.back (k₁.trans k₂) (.inl (size_none _)), ok₂.base.no, ?_, rfl, ok₃, (k₁.trans k₂).trans k₃, q₁.2⟩
    show IsRangeIter _ _ _ _ _
    rw [size_one, show (0 : Int) + ((0 : Nat) : Int) * 1 = 0 by omega, show ((n.toNat : Int) - ((0 : Nat) : Int)) = n.toNat by omega]
    exact Heap.get?_push_size _ rfl
  · rename_i a' b' c'
    obtain ⟨v, ws, e, hv, hr⟩ := ha.inv_cons'
    obtain ⟨v2, ws2, e2, hv2, hr2⟩ := hr.inv_cons'
    obtain ⟨v3, ws3, e3, hv3, hr3⟩ := hr2.inv_cons'
    rw [e, e2, e3, hr3.inv_nil']
    obtain ⟨t, rfl⟩ := abs_int hv
    obtain ⟨u, rfl⟩ := abs_int hv2
    obtain ⟨t3, rfl⟩ := abs_int hv3
    obtain ⟨rfl, q1, q2, q3⟩ := q₁
    refine call_range_3 (by decide) ?_ (Or.inl (PyProof.noPylong_small (by omega)))
    obtain ⟨ok₂, k₂⟩ := ok_pushed (ob := { cls := .type "range", data := .fields #[.int a' t, .int b' u, .int (-1) t3] }) (t := s₁.toks) ok₁
    obtain ⟨ok₃, k₃⟩ := ok_pushed (ob := { cls := .type "range_iterator", data := .fields #[rawInt a', rawInt (Builtin.Range.rangeSize a' b' (-1)), rawInt (-1)] }) (t := s₁.toks) ok₂
    refine wpAny_pyIter_range (IsRange.new ..) (small_down q1 q2) ⟨_, .range a' (-1) (a' - b').toNat, _, σ₁, rfl, Unp.back (k₁.trans k₂) (.inl (size_none _)), ok₂.base.no, ?_, rfl, ok₃, (k₁.trans k₂).trans k₃, q3⟩
    show IsRangeIter _ _ _ _ _
    rw [size_down, show a' + ((0 : Nat) : Int) * (-1) = a' by omega, show (((a' - b').toNat : Int) - ((0 : Nat) : Int)) = (a' - b').toNat by omega]
    exact Heap.get?_push_size _ rfl
  · exact q₁.elim

noncomputable def wItRev (a : ET) : IT := fun ρ σ Q X => a ρ σ (fun v σ => getL σ v fun adr xs => Q (.rev adr xs.length) xs.reverse σ) X
theorem si_rev {np pos : Pos} {e : Expr} {a : ET} (S : Sta C K) (h : SE C d 0 ns e a) (hx : nsIn K mainGlobals (Str.ofString "reversed") = some none) (hk : ns.lookup (Str.ofString "reversed") = some .globalImplicit) (hb : bootBuiltins (Str.ofString "reversed") = some (.type "reversed"))
    (hs : ∀ env x, foldedSetIterable (.Call (.Name (Str.ofString "reversed") np) [e] [] pos) env x = pure x := by intro _ _; rfl) (he : ∀ env, starEach [e] env = [(false, eval e env)] := by intro _; rfl) : SI C d ns (.Call (.Name (Str.ofString "reversed") np) [e] [] pos) (wItRev a) := by
  refine ⟨fun A env ρ σ s Q X ok w => wpAny_Call_ofName (blt_name S hx hk hb ok ?_), hs⟩
  obtain ⟨h1, h2, h3⟩ := sl_cons h sl_nil he (fun _ _ => rfl) A env ρ σ s (fun vs σ => match vs with | [v] => getL σ v fun adr xs => Q (.rev adr xs.length) xs.reverse σ | _ => False) X pos ok w
  refine PyProof.Rows.callWith_type h3 (wpAny_mono (h2 _) (fun a s₁ q => ?_) fun _ _ q => q)
  obtain ⟨hkw, xs, σ₁, ha, ok₁, k₁, q₁⟩ := q
  rw [hkw, List.nil_append]
  split at q₁
  · obtain ⟨v, ws, e, hv, hr⟩ := ha.inv_cons'
    rw [e, hr.inv_nil']
    obtain ⟨adr, xs, rfl, hx, q₁⟩ := getL_elim q₁
    rw [abs_ref hv]
    obtain ⟨vs, n, e, hab⟩ := ok₁.base.list hx
    refine call_reversed_list (isList_of e) ?_
    rw [show (vs.toArray.size : Int) = (xs.length : Int) by rw [List.size_toArray, hab.length]]
    obtain ⟨ok₂, k₂⟩ := ok_pushed (ob := revObj adr ((xs.length : Int) - 1)) (t := s₁.toks) ok₁
    have hit : ItAt (.rev adr xs.length) s₁.heap.objs.size 0 (s₁.heap.push (revObj adr ((xs.length : Int) - 1))) := by
      show Heap.IsRevIter _ _ _ _
      rw [show ((xs.length : Int) - 1 - ((0 : Nat) : Int)) = xs.length - 1 by omega]
      exact ⟨_, Heap.get?_push_size _ rfl, rfl, rfl⟩
    exact it_self (C := C) (s := { s₁ with heap := s₁.heap.push (revObj adr ((xs.length : Int) - 1)) }) hit ⟨_, .rev adr xs.length, xs.reverse, σ₁, rfl, Unp.back k₁ (.inl (size_none _)), ok₁.base.no, hit, by simp only [Src.vals, hx, if_true], ok₂, k₁.trans k₂, q₁⟩
  · exact q₁.elim

/-- a for: what holds ahead of turn i -/
noncomputable def wFor (tg : TG) (it : IT) (b : ST) : ST := fun ρ σ Q X => it ρ σ (fun src vs σ => ∃ I : Nat → Loc → Sto → Prop, I 0 ρ σ ∧
    (∀ i v ρ σ, vs[i]? = some v → I i ρ σ → src.vals σ = some vs ∧ tg ρ σ v fun ρ => b ρ σ (fun f ρ σ => match f with
      | .next => I (i + 1) ρ σ
      | .cont => I (i + 1) ρ σ
      | .brk => Q .next ρ σ
      | .ret v => Q (.ret v) ρ σ) (fun _ _ => False)) ∧
    (∀ ρ σ, I vs.length ρ σ → src.vals σ = some vs ∧ Q .next ρ σ)) (X ρ)

theorem codeAny_forLoopO {prog : Program} {w : World} {A : Around} {s : Shared} {R : Result → Shared → Prop} {target it body env} (I : Nat → Shared → Prop)
    (turn : ∀ n s, I n s → wpAny (model prog w) A (pyNext it) (fun r s₁ => match r with
      | none => R (.ok .next) s₁
      | some v => wpAny (model prog w) A (letOwnedTupleGo target it v) (fun _ s₂ => wpAny (model prog w) A (assign target env v) (fun _ s₂ => wpAny (model prog w) A (execs body env) (fun f s₃ => match f with
          | .next | .cont => ∃ m, m < n ∧ I m s₃
          | .brk => R (.ok .next) s₃
          | .ret v => R (.ok (.ret v)) s₃) (fun _ _ => False) s₂) (fun _ _ => False) s₂) (fun _ _ => False) s₁) (fun _ _ => False) s)
    (n : Nat) (h : I n s) : codeAny (model prog w) A (.forLoop target it body [] env) R s := by
  refine codeAny_loop' rfl I (fun n s hI => ?_) n h
  show wpAny _ _ ((forTurn target it body [] env).onRaise (fun x => do noteFrame x env; theTreesLotGoes x)) _ _ s
  refine wpAny_noted ?_
  simp only [forTurn]
  refine wpAny_bind (wpAny_standAt (wpAny_bind (wpAny_onRaise (wpAny_mono (turn n s hI) (fun r s₁ h₁ => ?_) fun _ _ h' => h'.elim))))
  cases r with
  | none => exact wpAny_pure (.inr ⟨rfl, codeAny_block (wpAny_execs_nil h₁)⟩)
  | some v =>
    refine wpAny_bind (wpAny_mono h₁ (fun _ s₂ h₂ => ?_) fun _ _ h' => h'.elim)
    refine wpAny_bind (wpAny_mono h₂ (fun _ s₂ h₂ => wpAny_bind (wpAny_mono h₂ (fun f s₃ h₃ => ?_) fun _ _ h' => h'.elim)) fun _ _ h' => h'.elim)
    cases f with
    | next => exact wpAny_pure (.inl ⟨rfl, h₃⟩)
    | cont => exact wpAny_pure (.inl ⟨rfl, h₃⟩)
    | brk => exact wpAny_pure h₃
    | ret v => exact wpAny_pure h₃

theorem s_for {t e : Expr} {ps : List Stmt} {pos : Pos} {tg : TG} {it : IT} {b : ST} (ht : STg C d ns t tg) (hi : SI C d ns e it) (hb : SS C d 0 ns ps b) : S1 C d 0 ns (.For t e ps [] pos) (wFor tg it b) := by
  intro A env ρ σ s Q X ok hf w
  refine wpAny_For (wpAny_mono (hi.1 A env ρ σ s _ _ ok w) (fun x s₁ q => wpAny_mono q (fun itv s₂ q => ?_) fun _ _ q => q.imp frE_of fun ρ' σ' e => e.1 ▸ e.2) fun _ _ q => q.imp frE_of fun ρ' σ' e => e.1 ▸ e.2) (hi.2 env)
  obtain ⟨I, src, vs, σ₂, rfl, hu, hn, hit, hvs, ok₂, k₂, J, hJ, step, fin⟩ := q
  refine codeAny_mono (codeAny_forLoopO (R := fun r s' => ∃ f, r = .ok f ∧ SP C d 0 A ns env σ s Q f s') (fun n s' => ∃ i ρ' σ', Ok C d 0 A ns env ρ' σ' s' ∧ Kp (frOf env) σ σ' s.heap s'.heap ∧ J i ρ' σ' ∧ ItAt src I i s'.heap ∧ σ' I = none ∧ i ≤ vs.length ∧ n = vs.length - i) (fun n s' h => ?_) vs.length ⟨0, ρ, σ₂, ok₂, k₂.wk frE_of, hJ, hit, hn, Nat.zero_le _, rfl⟩) fun r s' q => by obtain ⟨f, rfl, q⟩ := q; exact q
  obtain ⟨i, ρ', σ', ok', k', hJ', hit', hn', hle, rfl⟩ := h
  rcases Nat.lt_or_eq_of_le hle with hlt | rfl
  · have hv : vs[i]? = some vs[i] := List.getElem?_eq_getElem hlt
    obtain ⟨hvals, hbody⟩ := step i _ ρ' σ' hv hJ'
    refine wpAny_mono (it_item ok'.base hit' hvals hv) (fun r s₁ q => ?_) fun _ _ q => q
    obtain ⟨cv, h', tk, rfl, rfl, hcv, hit'', hs'⟩ := q
    obtain ⟨ok₁, k₁⟩ := ok_unp (t := tk) ok k' ok' hu hn' fun b o hb e => (hs'.2 b hb).trans e
    refine ht.2 A src I (i + 1) { s' with heap := h', toks := tk } cv (fun _ _ => False) _ hit'' (wpAny_mono (ht.1 A env ρ' σ' _ cv _ _ _ ok₁ hcv hbody) (fun _ s₂ q => ?_) fun _ _ q => q)
    obtain ⟨ρ₂, ok₂, k₂, q₂⟩ := q
    have hne : ¬ frOf env I := fun hfr => by
      rcases hfr with q | ⟨x, q⟩
      · obtain ⟨_, ⟨oL, _, _, hoL, _⟩, _⟩ := ok.loc
        rcases hu with hu | hu
        · rw [q, hoL] at hu; cases hu
        · exact hu (q ▸ ok.new)
      · obtain ⟨h1, _, _, ov, oc, hoc, _⟩ := ok.cnew x I q
        rcases hu with hu | hu
        · rw [hoc] at hu; cases hu
        · exact hu h1
    refine wpAny_mono (hb A env ρ₂ σ' s₂ _ _ ok₂ hf q₂) (fun f s₃ q => ?_) fun _ _ q => (q.no fun _ _ e => e).elim
    obtain ⟨ρ₃, σ₃, ok₃, k₃, q₃⟩ := q
    have kk := k₂.trans k₃
    have hit₃ : ItAt src I (i + 1) s₃.heap := hit''.at fun o e hd => kk.recs I o e hn' hne hd
    obtain ⟨oI, T, wsI, hoI, _⟩ := hit''.cls
    have hn₃ : σ₃ I = none := kk.nn hoI hn'
    have k3 := k₁.trans kk
    cases f with
    | next => exact ⟨vs.length - (i + 1), by omega, i + 1, ρ₃, σ₃, ok₃, k3, q₃, hit₃, hn₃, hlt, rfl⟩
    | cont => exact ⟨vs.length - (i + 1), by omega, i + 1, ρ₃, σ₃, ok₃, k3, q₃, hit₃, hn₃, hlt, rfl⟩
    | brk => exact ⟨.next, rfl, ρ₃, σ₃, ok₃, k3, q₃⟩
    | ret v => exact ⟨.ret v, rfl, ρ₃, σ₃, ok₃, k3, q₃⟩
  · obtain ⟨hvals, hq⟩ := fin ρ' σ' hJ'
    refine wpAny_mono (it_done (ok'.hand.1 (.inl rfl)) ok'.base hit' hvals) (fun r s₁ q => ?_) fun _ _ q => q
    obtain ⟨h', tk, rfl, rfl, hs'⟩ := q
    obtain ⟨ok₁, k₁⟩ := ok_unp (t := tk) ok k' ok' hu hn' fun b o hb e => hs' b o hb e
    exact ⟨.next, rfl, ρ', σ', ok₁, k₁, hq⟩
end
end Mine
end

section
open PySem PySem.W PyProof.Rows
set_option maxRecDepth 100000
namespace Mine

theorem Kp.step {fr fr₂ : Addr → Prop} {σ σ' σ'' : Sto} {h h' h'' : Heap} (k : Kp fr σ σ' h h') (k' : Kp fr₂ σ' σ'' h' h'') (hf : ∀ b o, h.get? b = some o → σ b = none → fr₂ b → fr b) : Kp fr σ σ'' h h'' := by
  refine ⟨fun b o e hn hb => ?_, fun b o e hn hb hd => k'.recs b o (k.recs b o e hn hb hd) (k.nn e hn) (fun q => hb (hf b o e hn q)) hd, fun b o e hn => ?_, fun b q => ?_⟩
  · obtain ⟨sl, e'⟩ := k.keep b o e hn hb
    obtain ⟨sl', e''⟩ := k'.keep b _ e' (k.nn e hn) fun q => hb (hf b o e hn q)
    exact ⟨sl', e''⟩
  · obtain ⟨o', e'⟩ := k.there b o e hn
    exact k'.there b o' e' (k.nn e hn)
  · cases hs : h.get? b with
    | none => exact .inr rfl
    | some o =>
      left
      intro hn
      obtain ⟨o', e'⟩ := k.there b o hs hn
      rcases k'.fresh b q with q | q
      · exact q (k.nn hs hn)
      · rw [q] at e'; cases e'
theorem Kp.of_ext {σ : Sto} {h h' : Heap} {I : Addr} (hs : Heap.ExtBut I h h') (hI : ∃ o, h'.get? I = some o) : Kp (fun b => b = I) σ σ h h' := by
  refine ⟨fun b o e _ hb => ⟨o.slots, hs b o hb e⟩, fun b o e _ hb _ => hs b o hb e, fun b o e _ => ?_, fun b q => .inl q⟩
  by_cases q : b = I
  · subst q; exact hI
  · exact ⟨o, hs b o q e⟩

section
variable {C : Cx} {d : Nat} {A : Around} {ns : List (Str × NameKind)} {env : Env} {ρ : Loc} {σ σ' : Sto} {s s' : Shared}
/-- not of the frame, nor of a caller's, nor the text's -/
structure Out (C : Cx) (A : Around) (env : Env) (I : Addr) : Prop where
  loc : I ≠ env.locals
  cell : ∀ x, env.cells.lookup x ≠ some I
  frames : ∀ l, A.frames = some l → I ∉ l.filterMap (·.frame)
  base : C.base.get? I = none
theorem out_of_unp {I : Addr} (ok : Ok C d 0 A ns env ρ σ s) (hI : Unp σ s.heap I) : Out C A env I := by
  have ne : ∀ b o, s.heap.get? b = some o → σ b = none → b ≠ I := fun b o e hn q => by
    subst q
    rcases hI with hI | hI
    · rw [hI] at e; cases e
    · exact hI hn
  refine ⟨fun q => ?_, fun x hx => ?_, fun l hl hb => ?_, ?_⟩
  · obtain ⟨mp, ⟨o, _, _, ho, _⟩, _⟩ := ok.loc
    exact ne _ _ ho ok.new q.symm
  · obtain ⟨h1, _, _, ov, o, ho, _⟩ := ok.cnew x I hx
    exact ne _ _ ho h1 rfl
  · obtain ⟨l', hl', hf, hn⟩ := ok.frames
    rw [hl'] at hl; cases hl
    obtain ⟨_, o, ho, _⟩ := hf.mem hb
    exact ne _ _ ho (hn _ hb).1 rfl
  · cases e : C.base.get? I with
    | none => rfl
    | some o =>
      refine absurd rfl (ne I o (ok.base.keep I o e) ?_)
      cases q : σ I with
      | none => rfl
      | some x => exact absurd (Heap.lt_size e) (Nat.not_lt.mpr (ok.base.dyn I (by rw [q]; simp)))
theorem ok_touch {h' : Heap} {t : Nat} {I : Addr} (ok : Ok C d 0 A ns env ρ σ s) (hI : Out C A env I) (hσ : σ I = none) (hs : ∀ b o, b ≠ I → s.heap.get? b = some o → h'.get? b = some o) : Ok C d 0 A ns env ρ σ { s with heap := h', toks := t } := by
  obtain ⟨mp, hns, hv⟩ := ok.loc
  obtain ⟨oL, es, ep, hoL, hrL⟩ := id hns
  have hL := hs _ _ (Ne.symm hI.loc) hoL
  obtain ⟨l, hl, hf, hn⟩ := ok.frames
  have base : Base C σ { s with heap := h', toks := t } := by
    refine ⟨fun b o e => hs b o (fun q => by rw [q, hI.base] at e; cases e) (ok.base.keep b o e), Nat.le_trans ok.above (Nat.le_of_lt (Heap.lt_size hL)), fun a o e => ?_, ok.base.dyn, ok.base.gens, ok.base.os⟩
    obtain ⟨ob, h1, h2⟩ := ok.base.sto a o e
    exact ⟨ob, hs a ob (fun q => by rw [q, hσ] at e; cases e) h1, h2⟩
  refine { base := base, depth := ok.depth, units := ok.units, frames := ⟨l, hl, funFrames_data hf fun b hb x hx hdx => ?_, fun b hb => ?_⟩, hand := ⟨ok.hand.1, fun e => by cases e⟩, kind := ok.kind, names := ok.names, glob := ok.glob, blt := ok.blt, above := ok.above, new := ok.new, loc := ⟨mp, ⟨oL, es, ep, hL, hrL⟩, hv⟩, cell := fun x hx => ?_, apart := ok.apart, cnew := fun x c hx => ?_, vis := ok.vis }
  · exact ⟨x, hs b x (fun q => hI.frames l hl (q ▸ hb)) hx, hdx⟩
  · obtain ⟨h1, x, es, ep, hx, hdx⟩ := hn b hb
    exact ⟨h1, x, es, ep, hs b x (fun q => hI.frames l hl (q ▸ hb)) hx, hdx⟩
  · obtain ⟨c, ov, hc, ⟨oc, hoc, hdc⟩, hq⟩ := ok.cell x hx
    exact ⟨c, ov, hc, ⟨oc, hs _ _ (fun q => hI.cell x (q ▸ hc)) hoc, hdc⟩, hq⟩
  · obtain ⟨h1, h2, h3, ov, oc, hoc, hdc⟩ := ok.cnew x c hx
    exact ⟨h1, h2, h3, ov, oc, hs _ _ (fun q => hI.cell x (q ▸ hx)) hoc, hdc⟩
theorem Ok.kpf {fr : Addr → Prop} (ok : Ok C d 0 A ns env ρ σ s) (b : Base C σ' s') (k : Kp fr σ σ' s.heap s'.heap) (hfr : ∀ b, fr b → Out C A env b) : Ok C d 0 A ns env ρ σ' s' := by
  obtain ⟨mp, hm, hv⟩ := ok.loc
  obtain ⟨o, es, ep, ho, r⟩ := id hm
  obtain ⟨l, hl, hf, hn⟩ := ok.frames
  refine { base := b, depth := ok.depth, units := ok.units, frames := ⟨l, hl, funFrames_data hf fun b hb x hx hdx => ?_, fun b hb => ?_⟩, hand := ⟨ok.hand.1, fun e => by cases e⟩, kind := ok.kind, names := ok.names, glob := ok.glob, blt := ok.blt, above := ok.above, new := k.nn ho ok.new, loc := ⟨mp, ns_slots hm fun o e => k.keep _ o e ok.new fun q => (hfr _ q).loc rfl, hv⟩, cell := fun x hx => ?_, apart := ok.apart, cnew := fun x c hx => ?_, vis := ok.vis }
  · obtain ⟨sl, e⟩ := k.keep b x hx (hn b hb).1 fun q => (hfr _ q).frames l hl hb
    exact ⟨_, e, hdx⟩
  · obtain ⟨h1, x, es, ep, hx, hdx⟩ := hn b hb
    obtain ⟨sl, e⟩ := k.keep b x hx h1 fun q => (hfr _ q).frames l hl hb
    exact ⟨k.nn hx h1, _, es, ep, e, hdx⟩
  · obtain ⟨c, ov, hc, hi, hq⟩ := ok.cell x hx
    exact ⟨c, ov, hc, cell_slots hi fun o e => k.keep _ o e (ok.cnew _ _ hc).1 fun q => (hfr _ q).cell x hc, hq⟩
  · obtain ⟨h1, h2, h3, ov, h4⟩ := ok.cnew x c hx
    obtain ⟨oc, hoc, hd⟩ := id h4
    exact ⟨k.nn hoc h1, h2, h3, ov, cell_slots h4 fun o e => k.keep _ o e h1 fun q => (hfr _ q).cell x hx⟩
theorem Ok.less {ρ' : Loc} (ok : Ok C d 0 A ns env ρ σ s) (h : ∀ x v, ρ' x = some v → ρ x = some v) : Ok C d 0 A ns env ρ' σ s := by
  obtain ⟨mp, hm, hv⟩ := ok.loc
  refine { toOk0 := ok.toOk0, kind := ok.kind, names := ok.names, glob := ok.glob, blt := ok.blt, above := ok.above, new := ok.new, loc := ⟨mp, hm, fun x v hx hl => hv x v (h x v hx) hl⟩, cell := fun x hx => ?_, apart := ok.apart, cnew := ok.cnew, vis := fun x v hx => ok.vis x v (h x v hx) }
  obtain ⟨c, ov, hc, hi, hq⟩ := ok.cell x hx
  exact ⟨c, ov, hc, hi, fun y v hy hv => hq y v hy (h y v hv)⟩
end

/-- a comprehension's names -/
noncomputable def clo (env : Env) : List (Str × NameKind) → List (Str × Addr) → List (Str × Addr)
  | [], acc => acc
  | (n, k) :: r, acc => if k == .free then clo env r ((n, (env.cells.lookup n).getD 0) :: acc) else clo env r acc
theorem clo_mem {env : Env} : ∀ (cn : List (Str × NameKind)) (acc : List (Str × Addr)) (n : Str) (c : Addr), (n, c) ∈ clo env cn acc → (n, c) ∈ acc ∨ ((n, NameKind.free) ∈ cn ∧ c = (env.cells.lookup n).getD 0)
  | [], _, _, _, h => .inl h
  | (n', k) :: r, acc, n, c, h => by
    unfold clo at h
    split at h
    · rename_i hk
      rcases clo_mem r _ n c h with h | h
      · rcases List.mem_cons.mp h with e | h
        · cases e; right; rw [beq_iff_eq.mp hk]; exact ⟨.head _, rfl⟩
        · exact .inl h
      · exact .inr ⟨.tail _ h.1, h.2⟩
    · rcases clo_mem r _ n c h with h | h
      · exact .inl h
      · exact .inr ⟨.tail _ h.1, h.2⟩
theorem clo_acc {env : Env} : ∀ (cn : List (Str × NameKind)) (acc : List (Str × Addr)) (n : Str), (acc.lookup n).isSome = true → ((clo env cn acc).lookup n).isSome = true
  | [], _, _, h => h
  | (n', k) :: r, acc, n, h => by
    unfold clo
    split
    · refine clo_acc r _ n ?_
      rw [List.lookup_cons]
      split
      · rfl
      · exact h
    · exact clo_acc r acc n h
theorem clo_has {env : Env} : ∀ (cn : List (Str × NameKind)) (acc : List (Str × Addr)) (n : Str), (n, NameKind.free) ∈ cn → ((clo env cn acc).lookup n).isSome = true
  | (n', k) :: r, acc, n, h => by
    unfold clo
    rcases List.mem_cons.mp h with e | h
    · cases e
      rw [if_pos (by rfl)]
      refine clo_acc r _ _ ?_
      rw [List.lookup_cons, beq_self_eq_true]; rfl
    · split
      · exact clo_has r _ n h
      · exact clo_has r _ n h
theorem clo_apart {env : Env} : ∀ (cn : List (Str × NameKind)) (acc : List (Str × Addr)), (cn.map (·.1)).Nodup → (∀ p ∈ cn, p.2 = .free → ∃ c, env.cells.lookup p.1 = some c) → (env.cells.Pairwise fun x y => x.2 ≠ y.2) →
    (∀ p ∈ acc, env.cells.lookup p.1 = some p.2 ∧ p.1 ∉ cn.map (·.1)) → (acc.Pairwise fun x y => x.2 ≠ y.2) → ((clo env cn acc).Pairwise fun x y => x.2 ≠ y.2)
  | [], _, _, _, _, _, h => h
  | (n, k) :: r, acc, hnd, hc, ha, hacc, hp => by
    obtain ⟨h1, h2⟩ := List.nodup_cons.mp hnd
    unfold clo
    split
    · rename_i hk
      obtain ⟨c, hcl⟩ := hc (n, k) (.head _) (beq_iff_eq.mp hk)
      refine clo_apart r _ h2 (fun p hp => hc p (.tail _ hp)) ha (fun p hp => ?_) ?_
      · rcases List.mem_cons.mp hp with rfl | hp
        · exact ⟨by rw [hcl]; rfl, h1⟩
        · exact ⟨(hacc p hp).1, fun q => (hacc p hp).2 (.tail _ q)⟩
      · refine List.pairwise_cons.mpr ⟨fun p hp => ?_, hp⟩
        intro e
        have e2 := (hacc p hp).1
        rw [hcl] at e
        have : n = p.1 := name_of_addr ha (mem_of_lookup hcl) (by have := mem_of_lookup e2; rw [← e] at this; exact this)
        exact (hacc p hp).2 (by rw [← this]; exact .head _)
    · exact clo_apart r acc h2 (fun p hp => hc p (.tail _ hp)) ha (fun p hp => ⟨(hacc p hp).1, fun q => (hacc p hp).2 (.tail _ q)⟩) hp
theorem closure_go {env : Env} : ∀ (cn : List (Str × NameKind)) (acc : List (Str × Addr)), (∀ p ∈ cn, p.2 = .free → ∃ c, env.cells.lookup p.1 = some c) →
    (forIn cn acc (fun (x : Str × NameKind) (cs : List (Str × Addr)) => if (x.2 == NameKind.free) = true then (do let a ← cellOf env x.1; pure (ForInStep.yield ((x.1, a) :: cs)) : Sem _) else pure (ForInStep.yield cs))) = pure (clo env cn acc)
  | [], acc, _ => by rw [List.forIn_nil]; rfl
  | (n, k) :: r, acc, h => by
    rw [List.forIn_cons]
    unfold clo
    cases hk : (k == NameKind.free) with
    | true =>
      obtain ⟨c, hc⟩ := h (n, k) (.head _) (beq_iff_eq.mp hk)
      have e : cellOf env n = pure c := by unfold cellOf; rw [hc]
      simp only [if_true, e, pure_bind, hc, Option.getD_some]
      exact closure_go r _ fun p hp => h p (.tail _ hp)
    | false =>
      simp only [Bool.false_eq_true, if_false, pure_bind]
      exact closure_go r _ fun p hp => h p (.tail _ hp)
theorem closure_eq {env : Env} {scope : Scope} (h : ∀ p ∈ scope.names, p.2 = .free → ∃ c, env.cells.lookup p.1 = some c) : closureFor scope env = pure (clo env scope.names []) := by
  unfold closureFor
  have := closure_go scope.names [] h
  simp only at this ⊢
  rw [show (forIn scope.names ([] : List (Str × Addr)) _ : Sem _) = _ from this]
  rfl

noncomputable def relab (ns cn : List (Str × NameKind)) : List (Str × NameKind) := cn.map fun (n, k) => if (k == .free && ns.lookup n == some .cell) then (n, .cell) else (n, k)
theorem relab_eq {ns : List (Str × NameKind)} {env : Env} {scope : Scope} (hk : env.scope.kind = .function) (hn : env.scope.names = ns) : (relabel scope env).names = relab ns scope.names := by
  unfold relabel relab
  refine List.map_congr_left fun x _ => ?_
  obtain ⟨n, k⟩ := x
  have e : env.kindOf n = ns.lookup n := by rw [Env.kindOf, hn]
  simp only [hk, e, beq_self_eq_true, Bool.and_true]
theorem relab_cell {ns : List (Str × NameKind)} : ∀ {cn : List (Str × NameKind)} {x : Str}, (relab ns cn).lookup x = some .cell ∨ (relab ns cn).lookup x = some .free → (∀ p ∈ cn, p.2 ≠ .cell) → (x, NameKind.free) ∈ cn
  | [], _, h, _ => by rcases h with h | h <;> cases h
  | (n, k) :: r, x, h, hc => by
    unfold relab at h
    rw [List.map_cons] at h
    by_cases e : x = n
    · subst e
      have hk : k = .free := by
        dsimp only at h
        split at h
        · rename_i q; simp only [Bool.and_eq_true, beq_iff_eq] at q; exact q.1
        · rw [List.lookup_cons, beq_self_eq_true] at h
          rcases h with h | h
          · cases h; exact absurd rfl (hc _ (.head _))
          · cases h; rfl
      rw [hk]; exact .head _
    · refine .tail _ (relab_cell (ns := ns) ?_ fun p hp => hc p (.tail _ hp))
      have hb : (x == n) = false := beq_eq_false_iff_ne.mpr e
      dsimp only at h
      unfold relab
      split at h <;> (rw [List.lookup_cons, hb] at h; exact h)

/-- what is looked at of a comprehension's scope -/
noncomputable def compOk (ns : List (Str × NameKind)) (fv ts : List String) (sc : Scope) : Bool :=
  sc.kind == .function && sc.names.all (fun p => p.2 != .cell && (p.2 != .free || ns.lookup p.1 == some .cell || ns.lookup p.1 == some .free)) && decide ((sc.names.map (·.1)).Nodup) &&
  sc.names.all (fun p => p.2 != .local || sc.names.lookup p.1 == some .local) &&
  fv.all (fun x => (relab ns sc.names).lookup (Str.ofString x) == some .cell || (relab ns sc.names).lookup (Str.ofString x) == some .free) && ts.all fun x => !fv.contains x

noncomputable def restr (fv : List String) (ρ : Loc) : Loc := fun x => if fv.contains x then ρ x else none

noncomputable def tgKeep (tg : TG) (ts : List String) : Prop := ∀ ρ σ v k, tg ρ σ v k → tg ρ σ v fun ρ' => k ρ' ∧ ∀ y, y ∉ ts → ρ' y = ρ y
theorem keep1 {x : String} : tgKeep (tg1 x) [x] := fun ρ σ v k h => ⟨h, fun y hy => if_neg fun e => hy (by rw [e]; exact .head _)⟩
theorem bindAll_keep : ∀ (xs : List String) (vs : List V) (ρ ρ' : Loc), bindAll xs vs ρ = some ρ' → ∀ y, y ∉ xs → ρ' y = ρ y
  | [], [], _, _, h, _, _ => by cases h; rfl
  | [], _ :: _, _, _, h, _, _ => by cases h
  | _ :: _, [], _, _, h, _, _ => by cases h
  | x :: xs, v :: vs, ρ, ρ', h, y, hy => by
    rw [bindAll_keep xs vs _ ρ' h y fun q => hy (.tail _ q)]
    exact if_neg fun e => hy (by rw [e]; exact .head _)
theorem keepN {xs : List String} : tgKeep (tgN xs) xs := fun ρ σ v k h => by
  cases v <;> first | exact h.elim | skip
  simp only [tgN] at h ⊢
  split at h
  · rename_i vs hx
    obtain ⟨ρ', hb, q⟩ := opt_elim h
    simp only [hb]
    exact ⟨q, bindAll_keep _ _ _ _ hb⟩
  · exact h.elim

/-- a target of a comprehension: locals of its own -/
noncomputable def STc (C : Cx) (d : Nat) (ns : List (Str × NameKind)) (target : Expr) (tg : TG) (ts : List String) : Prop :=
  (∀ A env ρ σ s v av k E, Ok C d 0 A ns env ρ σ s → absV v = some av → tg ρ σ av k → wpAny C.M A (assign target env v) (fun _ s' => ∃ ρ', Ok C d 0 A ns env ρ' σ s' ∧ Kp (frE env) σ σ s.heap s'.heap ∧ k ρ') E s) ∧ tgKeep tg ts
section
variable {C : Cx} {d : Nat} {ns : List (Str × NameKind)}
theorem tgc_name {x : String} {pos : Pos} (hk : ns.lookup (Str.ofString x) = some .local) : STc C d ns (.Name (Str.ofString x) pos) (tg1 x) [x] := by
  refine ⟨fun A env ρ σ s v av k E ok hv h => ?_, keep1⟩
  exact wpAny_assign_Name (wpAny_mono (store_loc ok hv hk) (fun _ s' q => ⟨_, q.1, q.2, h⟩) fun _ _ q => q)
noncomputable def locsOf (ns : List (Str × NameKind)) : List Expr → List String → Prop
  | [], [] => True
  | e :: es, x :: xs => (∃ pos, e = .Name (Str.ofString x) pos) ∧ ns.lookup (Str.ofString x) = some .local ∧ locsOf ns es xs
  | _, _ => False
theorem locsOf_names : ∀ {es : List Expr} {xs : List String}, locsOf ns es xs → namesOf ns es xs
  | [], [], _ => trivial
  | [], _ :: _, h => h.elim
  | _ :: _, [], h => h.elim
  | _ :: _, _ :: _, ⟨h1, h2, h3⟩ => ⟨h1, .inl h2, locsOf_names h3⟩
theorem locsOf_assign {A : Around} {env : Env} {k : Loc → Prop} {E : Value → Shared → Prop} : ∀ {es : List Expr} {xs : List String} {vs : List Value} {avs : List V} {ρ : Loc} {σ : Sto} {s : Shared}, locsOf ns es xs → AbsL vs avs → Ok C d 0 A ns env ρ σ s → opt (bindAll xs avs ρ) k →
    wpAny C.M A (assignInOrder ((assignEach es env).map (·.2)) vs) (fun _ s' => ∃ ρ', Ok C d 0 A ns env ρ' σ s' ∧ Kp (frE env) σ σ s.heap s'.heap ∧ k ρ') E s
  | [], [], vs, avs, ρ, σ, s, _, ha, ok, h => by
    cases avs with
    | nil => rw [ha.inv_nil']; exact wpAny_assignInOrder_none ⟨ρ, ok, .refl .., h⟩
    | cons _ _ => exact h.elim
  | [], _ :: _, _, _, _, _, _, h, _, _, _ => h.elim
  | _ :: _, [], _, _, _, _, _, h, _, _, _ => h.elim
  | e :: es, x :: xs, vs, avs, ρ, σ, s, ⟨⟨pos, he⟩, hk, hr⟩, ha, ok, h => by
    subst he
    cases avs with
    | nil => exact h.elim
    | cons av avs =>
      obtain ⟨v, ws, rfl, hv, hws⟩ := ha.inv_cons'
      refine wpAny_assignInOrder_more (wpAny_assign_Name (wpAny_mono (store_loc ok hv hk) (fun _ s₁ q => ?_) fun _ _ q => q))
      refine wpAny_mono (locsOf_assign hr hws q.1 h) (fun _ s₂ q₂ => ?_) fun _ _ q => q
      obtain ⟨ρ', h1, h2, h3⟩ := q₂
      exact ⟨ρ', h1, q.2.trans h2, h3⟩
theorem tgc_tuple {es : List Expr} {xs : List String} {k : Nat} {pos : Pos} (hn : locsOf ns es xs) : STc C d ns (.Tuple es k pos) (tgN xs) xs := by
  refine ⟨fun A env ρ σ s v av kk E ok hv h => ?_, keepN⟩
  cases av <;> first | exact h.elim | skip
  rename_i t
  rw [abs_ref hv]
  simp only [tgN] at h
  split at h
  · rename_i vs hx
    obtain ⟨ws, n, e, hab⟩ := ok.base.tuple hx
    obtain ⟨h1, h2⟩ := namesOf_each (locsOf_names hn) env
    have hlen : xs.length = ws.length := by
      obtain ⟨ρ', hb, _⟩ := opt_elim h
      have : ∀ (xs : List String) (vs : List V) (ρ ρ' : Loc), bindAll xs vs ρ = some ρ' → xs.length = vs.length := by
        intro xs
        induction xs with
        | nil => intro vs ρ ρ' h; cases vs with | nil => rfl | cons _ _ => cases h
        | cons x xs ih => intro vs ρ ρ' h; cases vs with | nil => cases h | cons v vs => exact congrArg (· + 1) (ih _ _ _ h)
      rw [this _ _ _ _ hb, hab.length]
    refine wpAny_assign_Tuple (ok.hand.1 (.inl rfl)) (items := ws.toArray) ⟨_, e, rfl, n, rfl⟩ (by rw [h1, List.size_toArray]; exact hlen) h2 fun h' hs' => ?_
    have hk' : ∀ b o, s.heap.get? b = some o → h'.get? b = some o := fun b o e => hs' b o (Nat.ne_of_lt (Heap.lt_size e)) e
    obtain ⟨mp, ⟨oL, es, ep, hoL, _⟩, _⟩ := ok.loc
    have hsz : C.base.objs.size ≤ h'.objs.size := Nat.le_trans ok.above (Nat.le_of_lt (Heap.lt_size (hk' _ _ hoL)))
    have ok' : Ok C d 0 A ns env ρ σ { s with heap := h' } := ok.kp ⟨fun b o e => hk' b o (ok.base.keep b o e), hsz, fun a o e => let ⟨ob, h1, h2⟩ := ok.base.sto a o e; ⟨ob, hk' _ _ h1, h2⟩, ok.base.dyn, ok.base.gens, ok.base.os⟩ (.of_keep hk')
    refine wpAny_mono (locsOf_assign hn hab ok' h) (fun _ s₂ q₂ => ?_) fun _ _ q => q
    obtain ⟨ρ', q1, q2, q3⟩ := q₂
    exact ⟨ρ', q1, (Kp.of_keep hk').trans q2, q3⟩
  · exact h.elim

/-- the tests of a comprehension -/
noncomputable def SC (C : Cx) (d : Nat) (ns : List (Str × NameKind)) (ifs : List Expr) (W : BT) : Prop :=
  ∀ A env ρ σ s Q X, Ok C d 0 A ns env ρ σ s → W ρ σ Q X → TB C d 0 A ns env ρ (forIn ifs true fun c r => if r = true then do let ok ← isTrue c env (eval c env); pure (ForInStep.yield ok) else pure (ForInStep.yield r)) σ s Q X
theorem sc_none : SC C d ns [] wTrueB := fun _ _ _ _ _ _ _ ok w => wpAny_tests_nil (bp_same ok w)
theorem sc_one {c : Expr} {w : BT} (h : SB C d 0 ns c w) : SC C d ns [c] w := fun A env ρ σ s Q X ok q => wpAny_tests_one (h A env ρ σ s Q X ok q)

noncomputable def wComp (fv : List String) (tg : TG) (it : IT) (c : BT) (elt : ET) : ET := fun ρ σ Q X => it ρ σ (fun src vs σ => ∃ I : Nat → List V → Sto → Prop, I 0 [] σ ∧
    (∀ i v out σ, vs[i]? = some v → I i out σ → src.vals σ = some vs ∧ out.length ≤ 1000000 ∧ tg (restr fv ρ) σ v fun ρc => c ρc σ (fun b σ => if b then elt ρc σ (fun y σ => I (i + 1) (out ++ [y]) σ) (fun _ => False) else I (i + 1) out σ) (fun _ => False)) ∧
    (∀ out σ, I vs.length out σ → src.vals σ = some vs ∧ ∀ a, σ a = none → Q (.ref a) (upd σ a (.list out)))) X

theorem codeAny_compLoopO {prog : Program} {w : World} {A : Around} {s : Shared} {R : Result → Shared → Prop} {elt target iter : Expr} {ifs : List Expr} {scope : Scope} {pos : Pos} {it acc : Value} {env : Env} (I : Nat → Shared → Prop)
    (turn : ∀ n s, I n s → wpAny (model prog w) A (pyNext it) (fun r s₁ => match r with
      | none => R (.ok .next) s₁
      | some v => wpAny (model prog w) A (letOwnedTupleGo target it v) (fun _ s₂ => wpAny (model prog w) A (assign target env v) (fun _ s₂ =>
          wpAny (model prog w) A (forIn ifs true fun c r => if r = true then do let ok ← isTrue c env (eval c env); pure (ForInStep.yield ok) else pure (ForInStep.yield r)) (fun ok s₃ =>
            if ok = true then wpAny (model prog w) A (eval elt env) (fun x s₄ =>
              wpAny (model prog w) A (call (.builtin "list.append") [acc, x]) (fun _ s₅ => ∃ m, m < n ∧ I m s₅) (fun _ _ => False) s₄) (fun _ _ => False) s₃
            else ∃ m, m < n ∧ I m s₃) (fun _ _ => False) s₂) (fun _ _ => False) s₂) (fun _ _ => False) s₁) (fun _ _ => False) s)
    (n : Nat) (h : I n s) : codeAny (model prog w) A (.compLoop (.ListComp elt [⟨target, iter, ifs, 0⟩] scope pos) 0 it acc env) R s := by
  refine codeAny_loop rfl I (fun n s hI => ?_) n h
  show wpAny _ A ((compTurn (.ListComp elt [⟨target, iter, ifs, 0⟩] scope pos) 0 it acc env).onRaise (fun x => do noteFrame x env; theTreesLotGoes x)) _ _ s
  refine wpAny_noted ?_
  rw [compTurn_list]
  refine wpAny_bind (wpAny_standAt (wpAny_bind (wpAny_mono (turn n s hI) (fun r s₁ h₁ => ?_) fun _ _ h' => h'.elim)))
  cases r with
  | none => exact wpAny_pure h₁
  | some v =>
    refine wpAny_bind (wpAny_mono h₁ (fun _ s₂ h₂ => ?_) fun _ _ h' => h'.elim)
    refine wpAny_bind (wpAny_mono h₂ (fun _ s₂ h₂ => wpAny_bind (wpAny_mono h₂ (fun ok s₃ h₃ => ?_) fun _ _ h' => h'.elim)) fun _ _ h' => h'.elim)
    cases ok with
    | false => exact wpAny_pure ⟨rfl, h₃⟩
    | true =>
      exact wpAny_bind (wpAny_bind (wpAny_mono h₃ (fun x s₄ h₄ => wpAny_bind (wpAny_mono h₄ (fun _ s₅ h₅ => wpAny_pure (wpAny_pure ⟨rfl, h₅⟩)) fun _ _ h' => h'.elim)) fun _ _ h' => h'.elim))

theorem comp_core {A : Around} {env : Env} {ρ : Loc} {σ : Sto} {s : Shared} {Q : V → Sto → Prop} {X : Sto → Prop} {E : Value → Shared → Prop} {P : Value → Shared → Prop} {use : Option (Value → Sem Unit)} {elt target iter : Expr} {ifs : List Expr} {scope : Scope} {pos cpos : Pos}
    {fv ts : List String} {tg : TG} {it : IT} {c : BT} {we : ET} (hi : SI C d ns iter it) (ht : STc C d (relab ns scope.names) target tg ts) (hc : SC C d (relab ns scope.names) ifs c) (he : SE C d 0 (relab ns scope.names) elt we)
    (hcomp : compOk ns fv ts scope = true) (ok : Ok C d 0 A ns env ρ σ s) (w : wComp fv tg it c we ρ σ Q X) (hE : ∀ e s', XP C d 0 A ns env (frE env) σ s (XE ρ X) e s' → E e s')
    (hP : ∀ D L σ' s', Ok C d 0 A ns env ρ σ' s' → Kp (frE env) σ σ' s.heap s'.heap → Q (.ref D) σ' → Unp σ s.heap L → σ' L = none → (∃ m, s'.heap.Ns L m) → Out C A env L → compPost C.M A E use P (.ref D) L (.ok .next) s') :
    wpAny C.M A (comprehension (.ListComp elt [⟨target, iter, ifs, 0⟩] scope pos) scope env cpos (newList []) false (eval iter env) use) P E s := by
  simp only [compOk, Bool.and_eq_true, beq_iff_eq, List.all_eq_true, bne_iff_ne, ne_eq, Bool.or_eq_true, decide_eq_true_eq, Bool.not_eq_true'] at hcomp
  obtain ⟨⟨⟨⟨⟨hk, hnm⟩, hnd⟩, hloc⟩, hfv⟩, hts⟩ := hcomp
  have hfree : ∀ p ∈ scope.names, p.2 = .free → ∃ cc, env.cells.lookup p.1 = some cc := fun p hp e => by
    rcases (hnm p hp).2 with (q | q) | q
    · exact absurd e q
    · obtain ⟨cc, _, h1, _⟩ := ok.cell p.1 (.inl q); exact ⟨cc, h1⟩
    · obtain ⟨cc, _, h1, _⟩ := ok.cell p.1 (.inr q); exact ⟨cc, h1⟩
  have hcl : ∀ x cc, (clo env scope.names []).lookup x = some cc → env.cells.lookup x = some cc := fun x cc h => by
    rcases clo_mem _ _ _ _ (mem_of_lookup h) with q | ⟨q1, q2⟩
    · cases q
    · obtain ⟨c', hc'⟩ := hfree _ q1 rfl
      rw [hc'] at q2; rw [q2]; exact hc'
  refine wpAny_comprehension_free rfl (hi.2 env) (closure_eq hfree) hk (fun x hx e => (hloc x hx).resolve_left fun q => q e) (wpAny_mono (hi.1 A env ρ σ s _ X ok w) (fun x s₁ q => wpAny_mono q (fun itv s₂ q => ?_) fun _ _ q => hE _ _ q) fun _ _ q => hE _ _ q)
  obtain ⟨I, src, vs, σ₂, rfl, hu, hn, hit, hvs, ok₂, k₂, J, hJ, step, fin⟩ := q
  have outI : Out C A env I := out_of_unp ok hu
  obtain ⟨oI, TI, wsI, hoI, _⟩ := hit.cls
  refine PySem.wpAny_newList ?_ (by decide)
  obtain ⟨ok₃, k₃⟩ := ok_pushed (ob := { cls := .type "list", data := .seq ([] : List Value).toArray }) (t := s₂.toks) ok₂
  generalize hH : s₂.heap.push { cls := .type "list", data := .seq ([] : List Value).toArray } = H at ok₃ k₃ ⊢
  have hHD : H.get? s₂.heap.objs.size = some { cls := .type "list", data := .seq ([] : List Value).toArray } := by rw [← hH]; exact Heap.get?_push_size _ rfl
  have hHk : ∀ b o, s₂.heap.get? b = some o → H.get? b = some o := fun b o e => by rw [← hH]; exact Heap.get?_push_of_some _ e
  have hHsz : H.objs.size = s₂.heap.objs.size + 1 := by rw [← hH, Heap.size_push]
  refine wpAny_newFunctionEnv (fun x hx => (hnm x hx).1) (fun x hx => by cases hx) (fun h₄ hns₄ hsb₄ => ?_) hk
  dsimp only [Option.isSome_some, if_true] at hns₄ hsb₄ ⊢
  have hk4 : ∀ b o, H.get? b = some o → h₄.get? b = some o := fun b o e => hsb₄.extBut b o (Nat.ne_of_lt (Heap.lt_size e)) (Heap.get?_push_of_some _ e)
  have hL4 : H.objs.size < h₄.objs.size := hns₄.lt
  generalize henv : ({ newEnv scope H.objs.size env.globals (clo env scope.names []) env.qual none .none (some env) builtinsNs with scope := relabel scope env } : Env) = cenv at *
  have eloc : cenv.locals = H.objs.size := by rw [← henv]; rfl
  have ecell : cenv.cells = clo env scope.names [] := by rw [← henv]; rfl
  have escope : cenv.scope = relabel scope env := by rw [← henv]
  have eglob : cenv.globals = env.globals := by rw [← henv]; rfl
  have eblt : cenv.builtins = env.builtins := by rw [← henv]; rfl
  have ok4 : Ok C d 0 A ns env ρ σ₂ { s₂ with heap := h₄, toks := s₂.toks } := ok₃.kp ⟨fun b o e => hk4 b o (ok₃.base.keep b o e), Nat.le_trans ok₃.base.size (Nat.le_of_lt hL4), fun a o e => let ⟨ob, h1, h2⟩ := ok₃.base.sto a o e; ⟨ob, hk4 _ _ h1, h2⟩, ok₃.base.dyn, ok₃.base.gens, ok₃.base.os⟩ (.of_keep hk4)
  have newL : ∀ o, s₂.heap.get? H.objs.size ≠ some o := fun o e => by have := Heap.lt_size e; rw [hHsz] at this; exact absurd this (Nat.not_lt.mpr (Nat.le_succ _))
  have sigL : σ₂ H.objs.size = none := ok₃.base.no
  have sigD : σ₂ s₂.heap.objs.size = none := ok₂.base.no
  have okc : Ok C d 0 A (relab ns scope.names) cenv (restr fv ρ) σ₂ { s₂ with heap := h₄, toks := s₂.toks } := by
    refine { toOk0 := ok4.toOk0, kind := by rw [escope]; exact hk, names := by rw [escope]; exact relab_eq ok.kind ok.names, glob := eglob.trans ok.glob, blt := eblt.trans ok.blt, above := by rw [eloc]; exact ok₃.base.size, new := by rw [eloc]; exact sigL, loc := ⟨_, by rw [eloc]; exact hns₄, fun x v hx hl => ?_⟩, cell := fun x hx => ?_, apart := ?_, cnew := fun x cc hx => ?_, vis := fun x v hx => ?_ }
    · unfold restr at hx
      split at hx
      · rename_i hm
        have := hfv x (List.contains_iff_mem.mp hm)
        rw [hl] at this
        rcases this with q | q <;> cases q
      · cases hx
    · have hmem := relab_cell hx fun p hp => (hnm p hp).1
      obtain ⟨cc, hcc⟩ := Option.isSome_iff_exists.mp (clo_has (env := env) scope.names [] x hmem)
      have hce := hcl x cc hcc
      have hkx : ns.lookup x = some .cell ∨ ns.lookup x = some .free := by
        rcases (hnm _ hmem).2 with (q | q) | q
        · exact absurd rfl q
        · exact .inl q
        · exact .inr q
      obtain ⟨c', ov, h1, h2, h3⟩ := ok4.cell x hkx
      rw [hce] at h1; cases h1
      refine ⟨cc, ov, by rw [ecell]; exact hcc, h2, fun y v hy hv => h3 y v hy ?_⟩
      unfold restr at hv
      split at hv
      · exact hv
      · cases hv
    · rw [ecell]
      exact clo_apart _ _ hnd hfree ok.apart (fun p hp => by cases hp) .nil
    · rw [ecell] at hx
      obtain ⟨h1, h2, h3, ov, h4⟩ := ok4.cnew x cc (hcl x cc hx)
      refine ⟨h1, h2, ?_, ov, h4⟩
      rw [eloc]
      obtain ⟨_, _, _, ov', oc, hoc, _⟩ := ok₃.cnew x cc (hcl x cc hx)
      exact Nat.ne_of_lt (Heap.lt_size hoc)
    · unfold restr at hx
      split at hx
      · rename_i hm
        exact (hfv x (List.contains_iff_mem.mp hm)).elim (fun q => .inr (.inl q)) fun q => .inr (.inr q)
      · cases hx
  have hI4 : h₄.get? I = some oI := hk4 _ _ (hHk _ _ hoI)
  have neID : I ≠ s₂.heap.objs.size := Nat.ne_of_lt (Heap.lt_size hoI)
  have neIL : I ≠ H.objs.size := by rw [hHsz]; exact Nat.ne_of_lt (Nat.lt_succ_of_lt (Heap.lt_size hoI))
  have neDL : s₂.heap.objs.size ≠ H.objs.size := by rw [hHsz]; exact Nat.ne_of_lt (Nat.lt_succ_self _)
  have outIc : Out C A cenv I := ⟨by rw [eloc]; exact neIL, fun x hx => outI.cell x (hcl x I (by rw [← ecell]; exact hx)), outI.frames, outI.base⟩
  have outD : Out C A env s₂.heap.objs.size := out_of_unp ok₂ (.inl (size_none _))
  have outDc : Out C A cenv s₂.heap.objs.size := ⟨by rw [eloc]; exact neDL, fun x hx => outD.cell x (hcl x _ (by rw [← ecell]; exact hx)), outD.frames, outD.base⟩
  have outL : Out C A env H.objs.size := out_of_unp ok₃ (.inl (size_none H))
  have noL : ∀ b o, s₂.heap.get? b = some o → b ≠ H.objs.size := fun b o e q => newL o (q ▸ e)
  have noD : ∀ b o, s₂.heap.get? b = some o → b ≠ s₂.heap.objs.size := fun b o e => Nat.ne_of_lt (Heap.lt_size e)
  have loop : codeAny C.M A (.compLoop (.ListComp elt [⟨target, iter, ifs, 0⟩] scope pos) 0 (.ref I) (.ref s₂.heap.objs.size) cenv) (compPost C.M A E use P (.ref s₂.heap.objs.size) cenv.locals) { s₂ with heap := h₄, toks := s₂.toks } := by
    refine codeAny_compLoopO (fun n s' => ∃ i out σ' ws kk, Ok C d 0 A (relab ns scope.names) cenv (restr fv ρ) σ' s' ∧ Kp (fun b => b = I) σ₂ σ' s₂.heap s'.heap ∧ J i out σ' ∧ ItAt src I i s'.heap ∧ σ' I = none ∧ i ≤ vs.length ∧ n = vs.length - i ∧
      s'.heap.get? s₂.heap.objs.size = some ⟨.type "list", none, .seq ws kk, #[]⟩ ∧ AbsL ws.toList out ∧ σ' s₂.heap.objs.size = none) (fun n s' h => ?_) vs.length ⟨0, [], σ₂, #[], 0, okc, ?_, hJ, hit.at fun o e _ => hk4 _ _ (hHk _ _ e), hn, Nat.zero_le _, rfl, hk4 _ _ hHD, .nil, sigD⟩
    · obtain ⟨i, out, σ', ws, kk, ok', k', hJ', hit', hn', hle, rfl, hD', hab', hnD'⟩ := h
      rcases Nat.lt_or_eq_of_le hle with hlt | rfl
      · have hv : vs[i]? = some vs[i] := List.getElem?_eq_getElem hlt
        obtain ⟨hvals, hout, hbody⟩ := step i _ out σ' hv hJ'
        have hbody := ht.2 _ _ _ _ hbody
        refine wpAny_mono (it_item ok'.base hit' hvals hv) (fun r s₁ q => ?_) fun _ _ q => q
        obtain ⟨cv, h', tk, rfl, rfl, hcv, hit'', hs'⟩ := q
        have ok₁ := ok_touch (t := tk) ok' outIc hn' fun b o hb e => (hs'.2 b hb).trans e
        obtain ⟨oI', TI', wsI', hoI', _⟩ := hit''.cls
        have k₁ : Kp (fun b => b = I) σ₂ σ' s₂.heap h' := k'.step (Kp.of_ext hs'.extBut ⟨_, hoI'⟩) fun b o e hb q => q
        refine letOwned_it hit'' (wpAny_mono (ht.1 A cenv _ σ' _ cv _ _ _ ok₁ hcv hbody) (fun _ s₂' q => ?_) fun _ _ q => q)
        obtain ⟨ρc, okc₂, kc₂, q₂, hkeep⟩ := q
        refine wpAny_mono (hc A cenv ρc σ' s₂' _ _ okc₂ q₂) (fun b s₃ q => ?_) fun _ _ q => (q.no fun _ _ e => e.2).elim
        obtain ⟨σ₃, okc₃, kc₃, q₃⟩ := q
        have kc := kc₂.trans kc₃
        have frLoc : ∀ b o, s₂.heap.get? b = some o → σ₂ b = none → frE cenv b → b = I := fun b o e _ q => absurd (q.trans eloc) (noL b o e)
        have less : ∀ {σx sx}, Ok C d 0 A (relab ns scope.names) cenv ρc σx sx → Ok C d 0 A (relab ns scope.names) cenv (restr fv ρ) σx sx := fun h => h.less fun x v hx => by
          rw [hkeep x ?_]; exact hx
          intro hm
          have := hts x hm
          unfold restr at hx
          rw [this] at hx; cases hx
        have noFrI : ¬ frE cenv I := fun q => neIL (q.trans eloc)
        have noFrD : ¬ frE cenv s₂.heap.objs.size := fun q => neDL (q.trans eloc)
        have hD₁ : h'.get? s₂.heap.objs.size = some ⟨.type "list", none, .seq ws kk, #[]⟩ := (hs'.2 _ (Ne.symm neID)).trans hD'
        cases b with
        | false =>
          simp only [Bool.false_eq_true, if_false] at q₃ ⊢
          have hit₃ : ItAt src I (i + 1) s₃.heap := hit''.at fun o e hd => kc.recs I o e hn' noFrI hd
          exact ⟨vs.length - (i + 1), by omega, i + 1, out, σ₃, ws, kk, less okc₃, k₁.step kc frLoc, q₃, hit₃, kc.nn hoI' hn', hlt, rfl, kc.recs _ _ hD₁ hnD' noFrD (fun _ _ q => by cases q), hab', kc.nn hD₁ hnD'⟩
        | true =>
          simp only [if_true] at q₃ ⊢
          refine wpAny_mono (he A cenv ρc σ₃ s₃ _ _ okc₃ q₃) (fun y s₄ q => ?_) fun _ _ q => (q.no fun _ _ e => e.2).elim
          obtain ⟨ay, σ₄, hay, okc₄, kc₄, q₄⟩ := q
          have kd := kc.trans kc₄
          have hit₄ : ItAt src I (i + 1) s₄.heap := hit''.at fun o e hd => kd.recs I o e hn' noFrI hd
          have hD₄ := kd.recs _ _ hD₁ hnD' noFrD (fun _ _ q => by cases q)
          have hnD₄ := kd.nn hD₁ hnD'
          have hl := hab'.length
          refine wpAny_list_append_plain ⟨kk, hD₄⟩ (fun h₅ hl₅ hs₅ => ?_) (by rw [Array.length_toList] at hl; rw [hl]; exact lim_le hout)
          obtain ⟨kk', hD₅⟩ := hl₅
          have hit₅ : ItAt src I (i + 1) h₅ := hit₄.at fun o e _ => (hs₅.2 I neID).trans e
          refine ⟨vs.length - (i + 1), by omega, i + 1, out ++ [ay], σ₄, _, kk', less (ok_touch (t := s₄.toks) okc₄ outDc hnD₄ fun b o hb e => (hs₅.2 b hb).trans e), (k₁.step kd frLoc).step (Kp.of_ext hs₅.extBut ⟨_, hD₅⟩) fun b o e _ q => absurd q (noD b o e), q₄, hit₅, kd.nn hoI' hn', hlt, rfl, hD₅, ?_, hnD₄⟩
          rw [Array.toList_push]
          exact hab'.append (.cons hay .nil)
      · obtain ⟨hvals, hq⟩ := fin out σ' hJ'
        refine wpAny_mono (it_done (ok'.hand.1 (.inl rfl)) ok'.base hit' hvals) (fun r s₁ q => ?_) fun _ _ q => q
        obtain ⟨h', tk, rfl, rfl, hs'⟩ := q
        have ok₁ := ok_touch (t := tk) ok' outIc hn' fun b o hb e => hs' b o hb e
        have b₁ : Base C (upd σ' s₂.heap.objs.size (.list out)) s' := base_add (.list out) ok'.base ok₂.base.size hD' ⟨ws, kk, rfl, hab'⟩
        have k₂' : Kp (fun b => b = I) σ₂ (upd σ' s₂.heap.objs.size (.list out)) s₂.heap s'.heap := ⟨k'.keep, k'.recs, k'.there, fun b q => by
          by_cases e : b = s₂.heap.objs.size
          · subst e; exact .inr (size_none _)
          · rw [upd_ne _ _ e] at q; exact k'.fresh b q⟩
        have okf' : Ok C d 0 A ns env ρ (upd σ' s₂.heap.objs.size (.list out)) s' := ok₂.kpf b₁ k₂' fun b q => q ▸ outI
        have nI : ∀ b o, s.heap.get? b = some o → σ b = none → b ≠ I := fun b o e hb q => by
          subst q
          rcases hu with hu | hu
          · rw [hu] at e; cases e
          · exact absurd hb hu
        have kf' : Kp (frE env) σ (upd σ' s₂.heap.objs.size (.list out)) s.heap s'.heap := k₂.step k₂' fun b o e hb q => absurd q (nI b o e hb)
        have okf := ok_touch (t := tk) okf' outI (by rw [upd_ne _ _ neID]; exact hn') fun b o hb e => hs' b o hb e
        have kf : Kp (frE env) σ (upd σ' s₂.heap.objs.size (.list out)) s.heap h' := by
          refine ⟨fun b o e hb hf => ?_, fun b o e hb hf hd => hs' b o (nI b o e hb) (kf'.recs b o e hb hf hd), fun b o e hb => ?_, kf'.fresh⟩
          · obtain ⟨sl, e'⟩ := kf'.keep b o e hb hf; exact ⟨sl, hs' b _ (nI b o e hb) e'⟩
          · obtain ⟨o', e'⟩ := kf'.there b o e hb; exact ⟨o', hs' b _ (nI b o e hb) e'⟩
        have hLs : Unp σ s.heap H.objs.size := Unp.back k₂ (.inl (by
          cases e : s₂.heap.get? H.objs.size with
          | none => rfl
          | some o => exact absurd e (newL o)))
        have hL₁ : σ' H.objs.size = none := by have := ok'.new; rw [eloc] at this; exact this
        refine hP s₂.heap.objs.size cenv.locals _ _ okf kf (hq _ hnD') ?_ ?_ ?_ ?_
        · rw [eloc]; exact hLs
        · rw [eloc, upd_ne _ _ (Ne.symm neDL)]; exact hL₁
        · obtain ⟨mp, hm, _⟩ := ok₁.loc; exact ⟨mp, hm⟩
        · rw [eloc]; exact outL
    · exact (Kp.of_keep fun b o e => hk4 _ _ (hHk _ _ e))
  rw [eloc] at loop
  exact codeAny_compStart_list loop (it_self (src := src) (i := 0) (hit.at fun o e _ => hk4 _ _ (hHk _ _ e)) loop)

theorem kp_touch {fr : Addr → Prop} {σ σ' : Sto} {h h' h'' : Heap} {L : Addr} (k : Kp fr σ σ' h h') (hL : Unp σ h L) (hs : Heap.SameBut L h' h'') : Kp fr σ σ' h h'' := by
  have nL : ∀ b o, h.get? b = some o → σ b = none → b ≠ L := fun b o e hb q => by
    subst q
    rcases hL with hu | hu
    · rw [hu] at e; cases e
    · exact absurd hb hu
  refine ⟨fun b o e hb hf => ?_, fun b o e hb hf hd => (hs.2 b (nL b o e hb)).trans (k.recs b o e hb hf hd), fun b o e hb => ?_, k.fresh⟩
  · obtain ⟨sl, e'⟩ := k.keep b o e hb hf; exact ⟨sl, (hs.2 b (nL b o e hb)).trans e'⟩
  · obtain ⟨o', e'⟩ := k.there b o e hb; exact ⟨o', (hs.2 b (nL b o e hb)).trans e'⟩

theorem se_comp {elt target iter : Expr} {ifs : List Expr} {scope : Scope} {pos : Pos} {fv ts : List String} {tg : TG} {it : IT} {c : BT} {we : ET} (hi : SI C d ns iter it) (ht : STc C d (relab ns scope.names) target tg ts) (hc : SC C d (relab ns scope.names) ifs c)
    (he : SE C d 0 (relab ns scope.names) elt we) (hcomp : compOk ns fv ts scope = true) : SE C d 0 ns (.ListComp elt [⟨target, iter, ifs, 0⟩] scope pos) (wComp fv tg it c we) := by
  intro A env ρ σ s Q X ok w
  show wpAny C.M A (eval (.ListComp elt [⟨target, iter, ifs, 0⟩] scope pos) env) _ _ s
  rw [eval_ListComp]
  refine comp_core hi ht hc he hcomp ok w (fun _ _ q => q) fun D L σ' s' ok' k' q hL hLσ hns hout => ?_
  obtain ⟨mp, hm⟩ := hns
  exact ⟨mp, hm, fun h' hs' => ⟨_, σ', rfl, ok_touch (t := s'.toks) ok' hout hLσ fun b o hb e => (hs'.2 b hb).trans e, kp_touch k' hL hs', q⟩⟩

theorem s_assign_comp {x : String} {np spos : Pos} {elt target iter : Expr} {ifs : List Expr} {scope : Scope} {pos : Pos} {fv ts : List String} {tg : TG} {it : IT} {c : BT} {we : ET} (hi : SI C d ns iter it) (ht : STc C d (relab ns scope.names) target tg ts) (hc : SC C d (relab ns scope.names) ifs c)
    (he : SE C d 0 (relab ns scope.names) elt we) (hcomp : compOk ns fv ts scope = true) (hk : ns.lookup (Str.ofString x) = some .local ∨ ns.lookup (Str.ofString x) = some .cell) :
    S1 C d 0 ns (.Assign [.Name (Str.ofString x) np] (.ListComp elt [⟨target, iter, ifs, 0⟩] scope pos) spos) (wAsg x (wComp fv tg it c we)) := by
  intro A env ρ σ s Q X ok hf w
  cases hb : (env.blockKind == .function && env.kindOf (Str.ofString x) == some .local && np.line == (Expr.ListComp elt [⟨target, iter, ifs, 0⟩] scope pos).pos.line && !(scope.names.any fun (n, k) => n == Str.ofString x && (k == .local || k == .cell))) with
  | false =>
    have hs : swapsWith (.ListComp elt [⟨target, iter, ifs, 0⟩] scope pos) (some (.Name (Str.ofString x) np)) spos.line env = pure false := by
      show (pure (env.blockKind == .function && env.kindOf (Str.ofString x) == some .local && np.line == (Expr.ListComp elt [⟨target, iter, ifs, 0⟩] scope pos).pos.line && !(scope.names.any fun (n, k) => n == Str.ofString x && (k == .local || k == .cell))) : Sem Bool) = _
      rw [hb]
    refine wpAny_Assign_Name (ts_go (.refl ..) (se_comp hi ht hc he hcomp A env ρ σ s _ _ ok w) fun v av σ₁ s₁ hv ok₁ k₁ q₁ => ?_) hs
    exact wpAny_mono (store_ok ok₁ hv hk) (fun _ s₂ q => ⟨_, σ₁, q.1, k₁.trans q.2, q₁⟩) fun _ _ q => q
  | true =>
    have hs : swapsWith (.ListComp elt [⟨target, iter, ifs, 0⟩] scope pos) (some (.Name (Str.ofString x) np)) spos.line env = pure true := by
      show (pure (env.blockKind == .function && env.kindOf (Str.ofString x) == some .local && np.line == (Expr.ListComp elt [⟨target, iter, ifs, 0⟩] scope pos).pos.line && !(scope.names.any fun (n, k) => n == Str.ofString x && (k == .local || k == .cell))) : Sem Bool) = _
      rw [hb]
    show wpAny C.M A (exec (.Assign [.Name (Str.ofString x) np] (.ListComp elt [⟨target, iter, ifs, 0⟩] scope pos) spos) env) _ _ s
    rw [exec_Assign_Name_used _ _ _ _ hs]
    refine wpAny_bind (wpAny_standAt (wpAny_bind ?_))
    show wpAny _ A (do let _ ← comprehension (.ListComp elt [⟨target, iter, ifs, 0⟩] scope pos) scope env _ (newList []) false (eval iter env) (some (assign (.Name (Str.ofString x) np) env))) _ _ s
    refine wpAny_bind (wpAny_mono (comp_core (P := fun _ s' => SP C d 0 A ns env σ s Q .next s') (use := some (assign (.Name (Str.ofString x) np) env)) (E := XP C d 0 A ns env (frOf env) σ s X) hi ht hc he hcomp ok w (fun _ _ q => q.imp frE_of fun ρ' σ' e => e.1 ▸ e.2) fun D L σ' s' ok' k' q hL hLσ hns hout => ?_) (fun _ s' hq => wpAny_pure (wpAny_pure hq)) fun _ _ e => e)
    show wpAny _ A (assign (.Name (Str.ofString x) np) env (.ref D)) _ _ _
    refine wpAny_assign_Name (wpAny_mono (store_ok ok' (v := .ref D) rfl hk) (fun _ s'' q₂ => ?_) fun _ _ q => q)
    obtain ⟨mp, oL, es, ep, hoL, hrL⟩ := hns
    have nfr : ¬ frOf env L := fun q => by
      rcases q with q | ⟨y, q⟩
      · exact hout.loc q
      · exact hout.cell y q
    obtain ⟨sl, e'⟩ := q₂.2.keep L oL hoL hLσ nfr
    refine ⟨mp, ⟨_, es, ep, e', hrL⟩, fun h' hs' => ⟨_, σ', ok_touch (t := s''.toks) q₂.1 hout hLσ fun b o hb e => (hs'.2 b hb).trans e, ?_, q⟩⟩
    exact kp_touch ((k'.wk frE_of).trans q₂.2) hL hs'
end
end Mine
end

section
open PySem PySem.W PyProof.Rows
set_option maxRecDepth 100000
namespace Mine

/-- what is never reached -/
noncomputable def wFailE : ET := fun _ _ _ _ => False
noncomputable def wFailB : BT := fun _ _ _ _ => False
noncomputable def wFailS : ST := fun _ _ _ _ => False
noncomputable def wFailA : BT := fun _ _ _ _ => False

theorem ints_of : ∀ {vs : List Value} {ns : List Int}, AbsL vs (ns.map V.int) → IntsAre vs ns
  | vs, [], h => by rw [AbsL.inv_nil' h]; exact .nil
  | vs, n :: ns, h => by
    obtain ⟨v, ws, rfl, hv, hr⟩ := AbsL.inv_cons' h
    obtain ⟨t, rfl⟩ := abs_int hv
    exact .cons n t (ints_of hr)
theorem of_ints : ∀ {vs : List Value} {ns : List Int}, IntsAre vs ns → AbsL vs (ns.map V.int)
  | _, _, .nil => .nil
  | _, _, .cons n t r => .cons rfl (of_ints r)

section
variable {C : Cx} {d m : Nat} {ns : List (Str × NameKind)}
theorem sa_fail {op : BoolOp} {es : List Expr} : SA C d m ns op es wFailA := fun _ _ _ _ _ _ _ _ w => w.elim
theorem ss_fail {ps : List Stmt} : SS C d m ns ps wFailS := fun _ _ _ _ _ _ _ _ _ w => w.elim

noncomputable def eqV : V → V → Sto → (V → Sto → Prop) → Prop := fun a b σ Q => match a, b with
  | .int x, .int y => Q (.bool (x == y)) σ
  | .str x, .str y => Q (.bool (x == y)) σ
  | .ref x, .ref y => ∃ ms ns : List Int, σ x = some (.list (ms.map V.int)) ∧ σ y = some (.list (ns.map V.int)) ∧ Q (.bool (decide (ms = ns))) σ
  | _, _ => False
noncomputable def neV : V → V → Sto → (V → Sto → Prop) → Prop := fun a b σ Q => match a, b with
  | .int x, .int y => Q (.bool (x != y)) σ
  | .str x, .str y => Q (.bool (x != y)) σ
  | .ref x, .ref y => ∃ ms ns : List Int, σ x = some (.list (ms.map V.int)) ∧ σ y = some (.list (ns.map V.int)) ∧ Q (.bool (!decide (ms = ns))) σ
  | _, _ => False
theorem op_eq : Op2 C (compareOp .Eq) eqV := by
  intro d m A ns env ρ σ s Q a b va vb ok ha hb h
  cases va <;> cases vb <;> first | exact h.elim | skip
  · obtain ⟨t, rfl⟩ := abs_int ha; obtain ⟨u, rfl⟩ := abs_int hb
    exact PyProof.Rows.eq_int (ep_same ok rfl h)
  · obtain ⟨t, rfl⟩ := abs_str ha; obtain ⟨u, rfl⟩ := abs_str hb
    exact PyProof.Rows.eq_str (ep_same ok rfl h)
  · rw [abs_ref ha, abs_ref hb]
    obtain ⟨ms, ns', hx, hy, q⟩ := h
    obtain ⟨vs, n, e, hab⟩ := ok.base.list hx
    obtain ⟨us, n', e', hab'⟩ := ok.base.list hy
    have hu := ok.units
    exact eq_intsK (isList_of e) (ints_of hab) (isList_of e') (ints_of hab') (by omega) (ep_same ok rfl q)
theorem op_ne : Op2 C (compareOp .NotEq) neV := by
  intro d m A ns env ρ σ s Q a b va vb ok ha hb h
  cases va <;> cases vb <;> first | exact h.elim | skip
  · obtain ⟨t, rfl⟩ := abs_int ha; obtain ⟨u, rfl⟩ := abs_int hb
    exact PyProof.Rows.ne_int (ep_same ok rfl h)
  · obtain ⟨t, rfl⟩ := abs_str ha; obtain ⟨u, rfl⟩ := abs_str hb
    exact PyProof.Rows.ne_str (ep_same ok rfl h)
  · rw [abs_ref ha, abs_ref hb]
    obtain ⟨ms, ns', hx, hy, q⟩ := h
    obtain ⟨vs, n, e, hab⟩ := ok.base.list hx
    obtain ⟨us, n', e', hab'⟩ := ok.base.list hy
    have hu := ok.units
    exact ne_intsK (isList_of e) (ints_of hab) (isList_of e') (ints_of hab') (by omega) (ep_same ok rfl q)

noncomputable def isV : V → V → Sto → (V → Sto → Prop) → Prop := fun a b σ Q => match a, b with
  | .str _, .none => Q (.bool false) σ
  | .none, .none => Q (.bool true) σ
  | .typ x, .typ y => Q (.bool (x == y)) σ
  | _, _ => False
theorem op_is : Op2 C (compareOp .Is) isV := by
  intro d m A ns env ρ σ s Q a b va vb ok ha hb h
  cases va <;> cases vb <;> first | exact h.elim | skip
  · rw [abs_none ha, abs_none hb]; exact wpAny_is_self rfl (ep_same ok rfl h)
  · obtain ⟨t, rfl⟩ := abs_str ha; rw [abs_none hb]; exact wpAny_is_other rfl (fun q => by cases q) (ep_same ok rfl h)
  · rename_i x y
    rw [abs_typ ha, abs_typ hb]
    refine wpAny_is_plain rfl (ep_same ok (av := .bool (x == y)) ?_ h)
    show some (V.bool (Value.type x == Value.type y)) = some (.bool (x == y))
    congr 2
    rw [Bool.eq_iff_iff]; simp

noncomputable def inV : V → V → Sto → (V → Sto → Prop) → Prop := fun a b σ Q => match a, b with
  | .int k, .ref x => ∃ ms : List Int, σ x = some (.list (ms.map V.int)) ∧ Q (.bool (ms.any (· == k))) σ
  | .str k, .ref x => (match σ x with
    | some (.ds _ f) => Q (.bool (f k).isSome) σ
    | some (.set xs _ _) => Q (.bool (xs.any (· == k))) σ
    | _ => False)
  | _, _ => False
noncomputable def ninV : V → V → Sto → (V → Sto → Prop) → Prop := fun a b σ Q => match a, b with
  | .int k, .ref x => ∃ ms : List Int, σ x = some (.list (ms.map V.int)) ∧ Q (.bool (!(ms.any (· == k)))) σ
  | _, _ => False
theorem op_nin : Op2 C (compareOp .NotIn) ninV := by
  intro d m A ns env ρ σ s Q a b va vb ok ha hb h
  cases va <;> cases vb <;> first | exact h.elim | skip
  obtain ⟨t, rfl⟩ := abs_int ha; rw [abs_ref hb]
  obtain ⟨ms, hx, q⟩ := h
  obtain ⟨vs, n, e, hab⟩ := ok.base.list hx
  exact notin_list_ints (isList_of e) (ints_of hab) (ep_same ok rfl q)

noncomputable def andV : V → V → Sto → (V → Sto → Prop) → Prop := i2 Builtin.bitAnd
theorem op_and : Op2 C (binaryOp .BitAnd) andV := by
  intro d m A ns env ρ σ s Q a b va vb ok ha hb h
  cases va <;> cases vb <;> first | exact h.elim | skip
  obtain ⟨t, rfl⟩ := abs_int ha; obtain ⟨u, rfl⟩ := abs_int hb
  exact and_int (ep_tok ok rfl h)
/-- 2 ** n -/
noncomputable def powV : V → V → Sto → (V → Sto → Prop) → Prop := fun a b σ Q => match a, b with
  | .int x, .int y => x = 2 ∧ 0 ≤ y ∧ y ≤ 1000 ∧ Q (.int (2 ^ y.toNat)) σ
  | _, _ => False
theorem op_pow : Op2 C (binaryOp .Pow) powV := by
  intro d m A ns env ρ σ s Q a b va vb ok ha hb h
  cases va <;> cases vb <;> first | exact h.elim | skip
  obtain ⟨t, rfl⟩ := abs_int ha; obtain ⟨u, rfl⟩ := abs_int hb
  obtain ⟨rfl, h0, h1, q⟩ := h
  refine pow_int h0 ?_ (ep_tok ok rfl q)
  have : Builtin.Int.intBits 2 = 2 := by decide +kernel
  rw [this]; omega
noncomputable def fdivV : V → V → Sto → (V → Sto → Prop) → Prop := fun a b σ Q => match a, b with
  | .int x, .int y => y ≠ 0 ∧ Builtin.divisionGoesByPylong x y = false ∧ Q (.int (x.fdiv y)) σ
  | _, _ => False
theorem op_fdiv : Op2 C (binaryOp .FloorDiv) fdivV := by
  intro d m A ns env ρ σ s Q a b va vb ok ha hb h
  cases va <;> cases vb <;> first | exact h.elim | skip
  obtain ⟨t, rfl⟩ := abs_int ha; obtain ⟨u, rfl⟩ := abs_int hb
  exact floordiv_int h.1 (ep_tok ok rfl h.2.2) (.inl h.2.1)

noncomputable def wNeg (a : ET) : ET := fun ρ σ Q X => a ρ σ (fun v σ => match v with | .int i => Q (.int (-i)) σ | _ => False) X
theorem se_neg {e : Expr} {pos : Pos} {a : ET} (h : SE C d m ns e a) : SE C d m ns (.UnaryOp .USub e pos) (wNeg a) := by
  intro A env ρ σ s Q X ok w
  refine wpAny_UnaryOp (te_go (.refl ..) (h A env ρ σ s _ X ok w) fun v av σ₁ s₁ hv ok₁ k₁ q₁ => ?_)
  cases av <;> first | exact q₁.elim | skip
  obtain ⟨t, rfl⟩ := abs_int hv
  exact te_quiet k₁ (P.neg_int (ep_tok ok₁ rfl q₁))

/-- x += e, of a local of ints -/
noncomputable def wAug (x : String) (a : ET) : ST := fun ρ σ Q X => opt (ρ x) fun old => a ρ σ (fun v σ => match old, v with | .int i, .int j => Q .next (updl ρ x (.int (i + j))) σ | _, _ => False) (X ρ)
theorem s_aug {x : String} {np pos : Pos} {e : Expr} {a : ET} (h : SE C d m ns e a) (hk : ns.lookup (Str.ofString x) = some .local) : S1 C d m ns (.AugAssign (.Name (Str.ofString x) np) .Add e pos) (wAug x a) := by
  intro A env ρ σ s Q X ok hf w
  obtain ⟨old, ho, w⟩ := opt_elim w
  obtain ⟨mp, hn, hm⟩ := ok.loc
  obtain ⟨cv, hc, hcv⟩ := hm x old ho hk
  refine wpAny_AugAssign_Name (wpAny_loadName_local ok.kind (by rw [Env.kindOf, ok.names]; exact hk) hn hc (ts_go (.refl ..) (h A env ρ σ s _ _ ok w) fun v av σ₁ s₁ hv ok₁ k₁ q₁ => ?_))
  cases old <;> first | exact q₁.elim | skip
  cases av <;> first | exact q₁.elim | skip
  obtain ⟨t, rfl⟩ := abs_int hcv; obtain ⟨u, rfl⟩ := abs_int hv
  have ok₂ : Ok C d m A ns env ρ σ₁ { s₁ with toks := s₁.toks + 1 } := ok₁.kp (ok₁.base.tok _) (.refl ..)
  exact iadd_int (wpAny_mono (store_ok ok₂ rfl (.inl hk)) (fun _ s₂ q => ⟨_, σ₁, q.1, k₁.trans q.2, q₁⟩) fun _ _ q => q)

noncomputable def wAsg2 (x y : String) (a : ET) : ST := fun ρ σ Q X => a ρ σ (fun v σ => Q .next (updl (updl ρ x v) y v) σ) (X ρ)
theorem s_assign2 {x y : String} {np np' pos : Pos} {e : Expr} {a : ET} (h : SE C d m ns e a) (hk : ns.lookup (Str.ofString x) = some .local ∨ ns.lookup (Str.ofString x) = some .cell) (hk' : ns.lookup (Str.ofString y) = some .local ∨ ns.lookup (Str.ofString y) = some .cell)
    (hs : ∀ env, swappedStores [.Name (Str.ofString x) np, .Name (Str.ofString y) np'] e env = pure none := by intro _; rfl) : S1 C d m ns (.Assign [.Name (Str.ofString x) np, .Name (Str.ofString y) np'] e pos) (wAsg2 x y a) := by
  intro A env ρ σ s Q X ok hf w
  refine wpAny_Assign_two (ts_go (.refl ..) (h A env ρ σ s _ _ ok w) fun v av σ₁ s₁ hv ok₁ k₁ q₁ => ?_) rfl (hs env)
  refine wpAny_assign_Name (wpAny_mono (store_ok ok₁ hv hk) (fun _ s₂ q => ?_) fun _ _ q => q)
  exact wpAny_assign_Name (wpAny_mono (store_ok q.1 hv hk') (fun _ s₃ q' => ⟨_, σ₁, q'.1, (k₁.trans q.2).trans q'.2, q₁⟩) fun _ _ q => q)

/-- a, b = e -/
noncomputable def wAsgT (xs : List String) (a : ET) : ST := fun ρ σ Q X => a ρ σ (fun v σ => tgN xs ρ σ v fun ρ => Q .next ρ σ) (X ρ)
theorem s_assign_tuple {es : List Expr} {xs : List String} {k : Nat} {tpos pos : Pos} {e : Expr} {a : ET} (h : SE C d 0 ns e a) (hn : namesOf ns es xs)
    (hs : ∀ env, swapsWithSole [.Tuple es k tpos] e pos.line env = pure false := by intro _; rfl) (hw : ∀ env, swappedStores [.Tuple es k tpos] e env = pure none := by intro _; rfl) : S1 C d 0 ns (.Assign [.Tuple es k tpos] e pos) (wAsgT xs a) := by
  intro A env ρ σ s Q X ok hf w
  refine Assign_Tuple (ts_go (.refl ..) (h A env ρ σ s _ _ ok w) fun v av σ₁ s₁ hv ok₁ k₁ q₁ => ?_) (hs env) (hw env)
  refine wpAny_mono ((tgs_tuple (k := k) (pos := tpos) hn).1 A env ρ σ₁ s₁ v av _ _ ok₁ hv q₁) (fun _ s₂ q => ?_) fun _ _ q => q
  obtain ⟨ρ', h1, h2, h3⟩ := q
  exact ⟨ρ', σ₁, h1, k₁.trans h2, h3⟩

noncomputable def wOrV (a b : ET) : ET := fun ρ σ Q X => a ρ σ (fun v σ => truthW v σ fun t => if t then Q v σ else b ρ σ Q X) X
theorem se_or {a b : Expr} {pos : Pos} {wa wb : ET} (ha : SE C d m ns a wa) (hb : SE C d m ns b wb) (hlo : sysModules < C.base.objs.size) : SE C d m ns (.BoolOp .Or [a, b] pos) (wOrV wa wb) := by
  intro A env ρ σ s Q X ok w
  refine wpAny_Or2 (te_go (.refl ..) (ha A env ρ σ s _ X ok w) fun v av σ₁ s₁ hv ok₁ k₁ q₁ => ?_)
  refine wpAny_mono (truth_ok (Q := fun t σ' => σ' = σ₁ ∧ if t then Q av σ₁ else wb ρ σ₁ Q X) (E := fun _ _ => False) ok₁ (.refl ..) hv hlo (by simpa using q₁)) (fun t s₂ q => ?_) fun _ _ q => q.elim
  obtain ⟨σ₂, ok₂, k₂, rfl, q₂⟩ := q
  cases t with
  | true => exact ⟨av, _, hv, ok₂, k₁.trans k₂, by simpa using q₂⟩
  | false => exact te_end (k₁.trans k₂) (hb A env ρ _ s₂ Q X ok₂ (by simpa using q₂))

/-- {} -/
noncomputable def wDict0 : ET := fun _ σ Q _ => ∀ a, σ a = none → Q (.ref a) (upd σ a (.di 0 fun _ => none))
theorem or_di0 : OR C { cls := .type "dict", data := .dict #[] } (.di 0 fun _ => none) := ⟨#[], 0, [], rfl, fun _ he => by simp at he, Pairs.nil, List.nodup_nil, Nat.le_refl _, fun _ => trivial⟩
theorem or_ds0 : OR C { cls := .type "dict", data := .dict #[] } (.ds 0 fun _ => none) := ⟨#[], 0, [], rfl, fun _ he => by simp at he, Pairs.nil, List.nodup_nil, Nat.le_refl _, fun _ => trivial⟩
theorem se_dict0 {pos : Pos} : SE C d m ns (.Dict [] [] pos) wDict0 := by
  intro A env ρ σ s Q X ok w
  exact wpAny_Dict_empty (ep_of ok (ok.base.push _ (.di 0 fun _ => none) rfl or_di0) (.push ..) rfl (w _ ok.base.no))
/-- {k: v}, of an int -/
noncomputable def wDict1i (k v : ET) : ET := fun ρ σ Q X => ∀ a, σ a = none → k ρ (upd σ a (.di 0 fun _ => none)) (fun kv σ => v ρ σ (fun vv σ => match kv with
  | .int i => σ a = some (.di 0 fun _ => none) ∧ Q (.ref a) (upd σ a (.di 1 fun j => if j = i then some vv else none))
  | _ => False) X) X
noncomputable def wDict1s (k v : ET) : ET := fun ρ σ Q X => ∀ a, σ a = none → k ρ (upd σ a (.ds 0 fun _ => none)) (fun kv σ => v ρ σ (fun vv σ => match kv with
  | .str i => σ a = some (.ds 0 fun _ => none) ∧ Q (.ref a) (upd σ a (.ds 1 fun j => if j = i then some vv else none))
  | _ => False) X) X
theorem se_dict1s {k v : Expr} {pos : Pos} {wk wv : ET} (hk : SE C d m ns k wk) (hv : SE C d m ns v wv) : SE C d m ns (.Dict [some k] [v] pos) (wDict1s wk wv) := by
  intro A env ρ σ s Q X ok w
  have ok₀ : Ok C d m A ns env ρ (upd σ s.heap.objs.size (.ds 0 fun _ => none)) { s with heap := s.heap.push { cls := .type "dict", data := .dict #[] } } := ok.kp (ok.base.push _ (.ds 0 fun _ => none) rfl or_ds0) (.push ..)
  have k₀ : Kp (frE env) σ (upd σ s.heap.objs.size (.ds 0 fun _ => none)) s.heap (s.heap.push { cls := .type "dict", data := .dict #[] }) := .push ..
  refine wpAny_Dict_walk (knd := strKind C.prog C.w) rfl rfl (by simp) (by simp) (evalPairs_cons ?_)
  refine te_go k₀ (hk A env ρ _ _ _ X ok₀ (w _ ok.base.no)) fun kv akv σ₁ s₁ hkv ok₁ k₁ q₁ => wpAny_bind (te_go k₁ (hv A env ρ σ₁ s₁ _ X ok₁ q₁) fun vv avv σ₂ s₂ hvv ok₂ k₂ q₂ => wpAny_bind (wpAny_standAt (wpAny_pure (evalPairs_nil ?_))))
  cases akv <;> first | exact q₂.elim | skip
  rename_i i
  obtain ⟨t, rfl⟩ := abs_str hkv
  obtain ⟨hσ, q⟩ := q₂
  obtain ⟨ob, e, hD⟩ := ok₂.base.sto _ _ hσ
  obtain ⟨kvs, hD, hsz, hf⟩ := DR.dictOf hD e
  have he : kvs = [] := List.eq_nil_of_length_eq_zero (by omega)
  subst he
  refine ⟨[(i, vv)], ⟨strKind_is _ _ i t, rfl, trivial⟩, hD, fun h' hD' hs' => ?_⟩
  obtain ⟨ob', e', hR⟩ := DR.of_dictOf (kvs := stored [] i vv) hD' (n := 1) (Nat.le_trans (stored_length ..) (Nat.le_refl _)) (optR_set hf hvv)
  exact ⟨_, _, rfl, ok₂.kp (ok₂.base.turnT (.ds 1 _) hσ hs' e' hR) (.turn hσ hs'), k₂.trans (.turn hσ hs'), q⟩

theorem ok_pushedM {A : Around} {env : Env} {ρ : Loc} {σ : Sto} {s : Shared} {ob : Obj} {t : Nat} (ok : Ok C d m A ns env ρ σ s) : Ok C d m A ns env ρ σ { s with heap := s.heap.push ob, toks := t } ∧ Kp (frE env) σ σ s.heap (s.heap.push ob) := by
  have hk : ∀ b o, s.heap.get? b = some o → (s.heap.push ob).get? b = some o := fun b o e => Heap.get?_push_of_some _ e
  refine ⟨ok.kp ⟨fun b o e => hk b o (ok.base.keep b o e), Nat.le_trans ok.base.size (by show _ ≤ (s.heap.push ob).objs.size; rw [Heap.size_push]; omega), fun a o e => let ⟨ob, h1, h2⟩ := ok.base.sto a o e; ⟨ob, hk _ _ h1, h2⟩, ok.base.dyn, ok.base.gens, ok.base.os⟩ (.of_keep hk), .of_keep hk⟩

/-- a slice of a list that any expression gives -/
theorem slice_any {prog : Program} {w : World} {A : Around} {E : Value → Shared → Prop} {s : Shared} {env : Env} {value : Expr} {lower upper : Option Expr} {p pos : Pos} {Q : Value → Shared → Prop}
    (h : wpAny (model prog w) A (eval value env) (fun o s₁ => wpAny (model prog w) A (evalPart lower env) (fun vl s₂ => wpAny (model prog w) A (evalPart upper env) (fun vu s₃ => ∃ l items lo hi, o = .ref l ∧ s₃.heap.IsList l items ∧ items.size ≤ sizeLine ∧ IsPart vl lo ∧ IsPart vu hi ∧
        Q (.ref (s₃.heap.objs.size + 1)) { s₃ with heap := (s₃.heap.push { cls := .type "slice", data := .fields #[vl, vu, .none] }).push { cls := .type "list", data := .seq (slicePick items lo hi none) } }) E s₂) E s₁) E s) :
    wpAny (model prog w) A (eval (.Subscript value (.Slice lower upper none p) pos) env) Q E s := by
  rw [eval_Subscript]
  refine wpAny_bind (wpAny_mono h (fun o s₁ h₁ => wpAny_bind (wpAny_holding (wpAny_Slice (wpAny_mono h₁ (fun vl s₂ h₂ => wpAny_mono h₂ (fun vu s₃ h₃ => ?_) fun _ _ e => e) fun _ _ e => e)))) fun _ _ e => e)
  obtain ⟨l, items, lo, hi, rfl, hl, hsz, pl, pu, hQ⟩ := h₃
  rw [evalPart_none]
  refine wpAny_pure (wpAny_bind (wpAny_standAt ?_))
  have hl' := hl.push { cls := .type "slice", data := .fields #[vl, vu, .none] }
  have hT : Shared.TypeIs { s₃ with heap := s₃.heap.push { cls := .type "slice", data := .fields #[vl, vu, .none] } } (.ref l) "list" := hl'.typeIs
  have fin : wpAny (model prog w) A (operate [.ref s₃.heap.objs.size, .ref l] (getItem (.ref l) (.ref s₃.heap.objs.size))) (fun r s₄ => wpAny (model prog w) A (letTemporaryGo value (.ref l) r >>= fun _ => pure r) Q E s₄) E { s₃ with heap := s₃.heap.push { cls := .type "slice", data := .fields #[vl, vu, .none] } } := by
    refine wpAny_operate' (wpAny_getItem_list_slice hl' (Heap.IsSliceOf.new ..) pl pu .none (by simp) ?_ hsz)
    rw [Heap.size_push]
    exact wpAny_bind (wpAny_letTemporaryGo (wpAny_pure hQ))
  first
    | (refine wpAny_bind ?_
       rw [getitemInPython_of_ne hT.not_modules]
       refine wpAny_bind (wpAny_specialOf hT PySem.slot_list_getitem.lookup ?_)
       first
         | exact wpAny_pure (wpAny_bind fin)
         | exact wpAny_bind (wpAny_pure (wpAny_bind fin))
         | exact wpAny_bind fin)
    | (refine wpAny_bind (wpAny_specialOf hT PySem.slot_list_getitem.lookup ?_)
       first
         | exact wpAny_bind (wpAny_pure (wpAny_bind fin))
         | exact wpAny_bind fin)

/-- a[:e], a list -/
noncomputable def wSlTo (a b : ET) : ET := w2 (fun va vb σ Q => match vb with
  | .int k => 0 ≤ k ∧ getL σ va fun _ xs => xs.length ≤ 1000000 ∧ newL (xs.take k.toNat) σ Q
  | _ => False) a b
theorem se_slTo {a b : Expr} {p pos : Pos} {wa wb : ET} (ha : SE C d m ns a wa) (hb : SE C d m ns b wb) : SE C d m ns (.Subscript a (.Slice none (some b) none p) pos) (wSlTo wa wb) := by
  intro A env ρ σ s Q X ok w
  refine slice_any (te_go (.refl ..) (ha A env ρ σ s _ X ok w) fun v av σ₁ s₁ hv ok₁ k₁ q₁ => evalPart_none_step (evalPart_some_step (te_go k₁ (hb A env ρ σ₁ s₁ _ X ok₁ q₁) fun u au σ₂ s₂ hu ok₂ k₂ q₂ => ?_)))
  cases au <;> first | exact q₂.elim | skip
  rename_i k
  obtain ⟨t, rfl⟩ := abs_int hu
  obtain ⟨h0, q₂⟩ := q₂
  obtain ⟨l, xs, rfl, hx, hsz, q₂⟩ := getL_elim q₂
  rw [abs_ref hv]
  obtain ⟨vs, n, e, hab⟩ := ok₂.base.list hx
  have hl := hab.length
  refine ⟨l, vs.toArray, none, some k, rfl, isList_of e, by rw [List.size_toArray, hl]; exact lim_le hsz, .none, .int k t, ?_⟩
  obtain ⟨ok₃, k₃⟩ := ok_pushedM (ob := { cls := .type "slice", data := .fields #[.none, .int k t, .none] }) (t := s₂.toks) ok₂
  obtain ⟨j, rfl⟩ := Int.eq_ofNat_of_zero_le h0
  rw [show slicePick vs.toArray none (some (j : Int)) none = (vs.take j).toArray from slicePick_upto' _ _]
  rw [← Heap.size_push s₂.heap { cls := .type "slice", data := .fields #[.none, .int (j : Int) t, .none] }]
  refine (ep_push (s := { s₂ with heap := s₂.heap.push { cls := .type "slice", data := .fields #[.none, .int (j : Int) t, .none] } }) (t := s₂.toks) (.list (xs.take j)) ok₃ rfl ⟨_, 0, rfl, ?_⟩ (q₂.2 _ ok₃.base.no)).back (k₂.trans k₃)
  show AbsL (vs.take j).toArray.toList _
  simpa using hab.take j
/-- a[e:], a list -/
noncomputable def wSlFrom (a b : ET) : ET := w2 (fun va vb σ Q => match vb with
  | .int k => 0 ≤ k ∧ getL σ va fun _ xs => xs.length ≤ 1000000 ∧ newL (xs.drop k.toNat) σ Q
  | _ => False) a b
theorem se_slFrom {a b : Expr} {p pos : Pos} {wa wb : ET} (ha : SE C d m ns a wa) (hb : SE C d m ns b wb) : SE C d m ns (.Subscript a (.Slice (some b) none none p) pos) (wSlFrom wa wb) := by
  intro A env ρ σ s Q X ok w
  refine slice_any (te_go (.refl ..) (ha A env ρ σ s _ X ok w) fun v av σ₁ s₁ hv ok₁ k₁ q₁ => evalPart_some_step (te_go k₁ (hb A env ρ σ₁ s₁ _ X ok₁ q₁) fun u au σ₂ s₂ hu ok₂ k₂ q₂ => evalPart_none_step ?_))
  cases au <;> first | exact q₂.elim | skip
  rename_i k
  obtain ⟨t, rfl⟩ := abs_int hu
  obtain ⟨h0, q₂⟩ := q₂
  obtain ⟨l, xs, rfl, hx, hsz, q₂⟩ := getL_elim q₂
  rw [abs_ref hv]
  obtain ⟨vs, n, e, hab⟩ := ok₂.base.list hx
  have hl := hab.length
  refine ⟨l, vs.toArray, some k, none, rfl, isList_of e, by rw [List.size_toArray, hl]; exact lim_le hsz, .int k t, .none, ?_⟩
  obtain ⟨ok₃, k₃⟩ := ok_pushedM (ob := { cls := .type "slice", data := .fields #[.int k t, .none, .none] }) (t := s₂.toks) ok₂
  obtain ⟨j, rfl⟩ := Int.eq_ofNat_of_zero_le h0
  rw [show slicePick vs.toArray (some (j : Int)) none none = (vs.drop j).toArray from slicePick_from' _ _]
  rw [← Heap.size_push s₂.heap { cls := .type "slice", data := .fields #[.int (j : Int) t, .none, .none] }]
  refine (ep_push (s := { s₂ with heap := s₂.heap.push { cls := .type "slice", data := .fields #[.int (j : Int) t, .none, .none] } }) (t := s₂.toks) (.list (xs.drop j)) ok₃ rfl ⟨_, 0, rfl, ?_⟩ (q₂.2 _ ok₃.base.no)).back (k₂.trans k₃)
  show AbsL (vs.drop j).toArray.toList _
  simpa using hab.drop j
/-- a[:e], a text -/
noncomputable def wSlStr (a b : ET) : ET := w2 (fun va vb σ Q => match va, vb with
  | .str x, .int k => x.length ≤ 1000000 ∧ Q (.str (Txt.slice x none (some k))) σ
  | _, _ => False) a b
theorem se_slStr {a b : Expr} {p pos : Pos} {wa wb : ET} (ha : SE C d m ns a wa) (hb : SE C d m ns b wb) (ht : ∀ o r, letTemporaryGo a o r = pure () := by intro _ _; rfl) : SE C d m ns (.Subscript a (.Slice none (some b) none p) pos) (wSlStr wa wb) := by
  intro A env ρ σ s Q X ok w
  refine wpAny_Subscript_Slice (T := "str") F.slot_str_getitem.lookup (te_go (.refl ..) (ha A env ρ σ s _ X ok w) fun v av σ₁ s₁ hv ok₁ k₁ q₁ => wpAny_Slice (evalPart_none_step (evalPart_some_step (te_go k₁ (hb A env ρ σ₁ s₁ _ X ok₁ q₁) fun u au σ₂ s₂ hu ok₂ k₂ q₂ => evalPart_none_step ?_)))) ht
  cases av <;> first | exact q₂.elim | skip
  cases au <;> first | exact q₂.elim | skip
  rename_i x k
  obtain ⟨t, rfl⟩ := abs_int hu
  obtain ⟨t', rfl⟩ := abs_str hv
  refine ⟨typeIs_str _ _ _, ?_⟩
  refine wpAny_getItem_str_slice (l := none) (u := some (k, t)) (st := none) ⟨_, Heap.get?_push_size _ rfl, rfl, rfl⟩ rfl (post_val_or_str ⟨Nat.le_trans (Txt.slice_le x _ _) (lim_le q₂.1), fun t'' kk => ?_⟩)
  obtain ⟨ok₃, k₃⟩ := ok_pushedM (ob := { cls := .type "slice", data := .fields #[.none, .int k t, .none] }) (t := kk) ok₂
  exact ⟨_, σ₂, rfl, ok₃, k₂.trans k₃, q₂.2⟩
end
end Mine
end

section
open PySem PySem.W PyProof.Rows
set_option maxRecDepth 100000
namespace Mine
section
variable {C : Cx} {K : Frag} {d m : Nat} {ns : List (Str × NameKind)}

theorem one_of {vs : List Value} {x : V} (h : AbsL vs [x]) : ∃ v, vs = [v] ∧ absV v = some x := by
  obtain ⟨v, ws, rfl, hv, hr⟩ := h.inv_cons'; rw [hr.inv_nil']; exact ⟨v, rfl, hv⟩
theorem two_of {vs : List Value} {x y : V} (h : AbsL vs [x, y]) : ∃ v w, vs = [v, w] ∧ absV v = some x ∧ absV w = some y := by
  obtain ⟨v, ws, rfl, hv, hr⟩ := h.inv_cons'; obtain ⟨w, rfl, hw⟩ := one_of hr; exact ⟨v, w, rfl, hv, hw⟩

noncomputable def startsV : List V → Sto → (V → Sto → Prop) → Prop
  | [.str x, .str y], σ, Q => Q (.bool (Txt.startswith x y)) σ
  | _, _, _ => False
theorem op_starts : OpN C d m (.builtin "str.startswith") startsV := by
  intro A ns env ρ σ s Q vs xs ok ha h
  unfold startsV at h
  split at h
  · obtain ⟨v, w, rfl, hv, hw⟩ := two_of ha
    obtain ⟨t, rfl⟩ := abs_str hv; obtain ⟨u, rfl⟩ := abs_str hw
    exact SC.startswith (ep_same ok rfl h)
  · exact h.elim

theorem strs_of : ∀ {vs : List Value} {ts : List Str}, AbsL vs (ts.map V.str) → ∃ l : List (Str × Tok), vs = strValues l ∧ l.map (·.1) = ts
  | vs, [], h => ⟨[], h.inv_nil', rfl⟩
  | vs, n :: ns, h => by
    obtain ⟨v, ws, rfl, hv, hr⟩ := AbsL.inv_cons' h
    obtain ⟨t, rfl⟩ := abs_str hv
    obtain ⟨l, rfl, e⟩ := strs_of hr
    exact ⟨(n, t) :: l, rfl, by simp [e]⟩
theorem of_strs (l : List (Str × Tok)) : AbsL (strValues l) ((l.map (·.1)).map V.str) := by
  unfold AbsL strValues; simp [absV]

noncomputable def joinV : List V → Sto → (V → Sto → Prop) → Prop
  | [.str x, .ref a], σ, Q => ∃ ts : List Str, σ a = some (.list (ts.map V.str)) ∧ JoinOk x ts = true ∧ Q (.str (Txt.join x ts)) σ
  | _, _, _ => False
theorem op_join : OpN C d m (.builtin "str.join") joinV := by
  intro A ns env ρ σ s Q vs xs ok ha h
  unfold joinV at h
  split at h
  · obtain ⟨v, w, rfl, hv, hw⟩ := two_of ha
    obtain ⟨t, rfl⟩ := abs_str hv; rw [abs_ref hw]
    obtain ⟨ts, hx, hj, q⟩ := h
    obtain ⟨vs, n, e, hab⟩ := ok.base.list hx
    obtain ⟨l, rfl, hl⟩ := strs_of hab
    exact SC.join (isList_of e) hl hj fun t' k => ep_tok ok rfl q
  · exact h.elim

/-- a text that holds it once or never -/
noncomputable def splitV : List V → Sto → (V → Sto → Prop) → Prop
  | [.str x, .str y], σ, Q => y.length ≠ 0 ∧ x.length ≤ 1000000 ∧ (Txt.split x y).length ≤ 1000000 ∧ (Builtin.Str.partsBetween x (Builtin.Str.occurrences x y 0 x.length (x.length + 1)) y.length).length ≤ 1000000 ∧ newL ((Txt.split x y).map V.str) σ Q
  | _, _, _ => False
theorem op_split : OpN C d m (.builtin "str.split") splitV := by
  intro A ns env ρ σ s Q vs xs ok ha h
  unfold splitV at h
  split at h
  · rename_i x y
    obtain ⟨v, w, rfl, hv, hw⟩ := two_of ha
    obtain ⟨t, rfl⟩ := abs_str hv; obtain ⟨u, rfl⟩ := abs_str hw
    obtain ⟨hy, hx, hsp, hn, q⟩ := h
    have hy' : (y.length == 0) = false := by simpa using hy
    have fin : ∀ (l : List (Str × Tok)) (tk : Nat), l.map (·.1) = Txt.split x y → EP C d m A ns env ρ σ s Q (.ref s.heap.objs.size) { s with heap := s.heap.push { cls := .type "list", data := .seq (strValues l).toArray }, toks := tk } := fun l tk e => by
      refine ep_push (.list ((Txt.split x y).map V.str)) ok rfl ⟨_, 0, rfl, ?_⟩ (q.2 _ ok.base.no)
      rw [← e]; exact of_strs l
    cases h1 : (decide (x.length < y.length) || decide (Builtin.Str.strKind x < Builtin.Str.strKind y))
    · cases hf : (Builtin.Str.occurrences x y 0 x.length (x.length + 1)).isEmpty
      · refine call_meets F.slot_str_split (typeIs_str _ _ _) F.entry_str_split (F.args_str_split_2 _ _) (meets_str_split_sep x y t u h1 hy' hf (lim_le hx) (lim_le hn)) ?_
        show wants (EP C d m A ns env ρ σ s Q) _ _ { s with toks := _, heap := s.heap.push { cls := .type "list", data := .seq (strsFrom s.toks (Builtin.Str.partsBetween x (Builtin.Str.occurrences x y 0 x.length (x.length + 1)) y.length)).toArray } }
        rw [strsFrom_eq]
        exact fin (numbered s.toks _) _ ((numbered_texts _ _).trans ((if_neg (ne_true_of_eq_false h1)).trans (if_neg (ne_true_of_eq_false hf))).symm)
      · exact call_meets F.slot_str_split (typeIs_str _ _ _) F.entry_str_split (F.args_str_split_2 _ _) (meets_str_split_not_found x y t u h1 hy' hf) (fin [(x, t)] s.toks ((if_neg (ne_true_of_eq_false h1)).trans (if_pos hf)).symm)
    · exact call_meets F.slot_str_split (typeIs_str _ _ _) F.entry_str_split (F.args_str_split_2 _ _) (meets_str_split_cannot_occur x y t u h1) (fin [(x, t)] s.toks (if_pos h1).symm)
  · exact h.elim

/-- sorted ints: any list that is a permutation of them in order -/
noncomputable def sortedV : List V → Sto → (V → Sto → Prop) → Prop
  | [.ref a], σ, Q => ∃ ms : List Int, σ a = some (.list (ms.map V.int)) ∧ ms.length < 64 ∧ ∀ ms' : List Int, ms'.Perm ms → ms'.Pairwise (· ≤ ·) → ∀ b, σ b = none → Q (.ref b) (upd σ b (.list (ms'.map V.int)))
  | _, _, _ => False
theorem op_sorted : OpN C d m (.builtin "sorted") sortedV := by
  intro A ns env ρ σ s Q vs xs ok ha h
  unfold sortedV at h
  split at h
  · obtain ⟨v, rfl, hv⟩ := one_of ha
    rw [abs_ref hv]
    obtain ⟨ms, hx, h64, q⟩ := h
    obtain ⟨vs, n, e, hab⟩ := ok.base.list hx
    obtain ⟨mp, hn, hv⟩ := ok.loc
    obtain ⟨F, N⟩ := univ hn
    have hl := hab.length
    rw [List.length_map] at hl
    refine sorted_N F N (isList_of e) (ints_of hab) (by omega) fun h' vs' ns' e' F' N' hi' hp hs => ?_
    have hno : σ (s.heap.objs.size + 1) = none := by
      cases q : σ (s.heap.objs.size + 1) with
      | none => rfl
      | some o => obtain ⟨ob, e, _⟩ := ok.base.sto _ _ q; exact absurd (Heap.lt_size e) (Nat.not_lt.mpr (Nat.le_succ _))
    exact ep_made (.list (ns'.map V.int)) ok hn hv F' N' (Nat.le_succ _) ⟨vs'.toArray, e', rfl, of_ints hi'⟩ (q ns' hp hs _ hno)
  · exact h.elim

noncomputable def maxV : List V → Sto → (V → Sto → Prop) → Prop
  | [.ref a], σ, Q => ∃ ms : List Int, σ a = some (.list (ms.map V.int)) ∧ 0 < ms.length ∧ ∀ M, M ∈ ms → (∀ x ∈ ms, x ≤ M) → Q (.int M) σ
  | _, _, _ => False
noncomputable def sumV : List V → Sto → (V → Sto → Prop) → Prop
  | [.ref a], σ, Q => ∃ ms : List Int, σ a = some (.list (ms.map V.int)) ∧ Q (.int ms.sum) σ
  | _, _, _ => False
theorem op_sum : OpN C d 0 (.builtin "sum") sumV := by
  intro A ns env ρ σ s Q vs xs ok ha h
  unfold sumV at h
  split at h
  · obtain ⟨v, rfl, hv⟩ := one_of ha
    rw [abs_ref hv]
    obtain ⟨ms, hx, q⟩ := h
    obtain ⟨vs, n, e, hab⟩ := ok.base.list hx
    obtain ⟨mp, hn, hv⟩ := ok.loc
    obtain ⟨F, N⟩ := univ hn
    exact LSm.sum_ints F N (ok.hand.1 (.inl rfl)) (isList_of e) (ints_of hab) fun h' tk t' F' N' => ep_kept ok hn hv F' N' rfl q
  · exact h.elim
noncomputable def minV : List V → Sto → (V → Sto → Prop) → Prop
  | [.int a, .int b], σ, Q => Q (.int (if b < a then b else a)) σ
  | _, _, _ => False
theorem op_min : OpN C d 0 (.builtin "min") minV := by
  intro A ns env ρ σ s Q vs xs ok ha h
  unfold minV at h
  split at h
  · obtain ⟨v, w, rfl, hv, hw⟩ := two_of ha
    obtain ⟨t, rfl⟩ := abs_int hv; obtain ⟨u, rfl⟩ := abs_int hw
    obtain ⟨mp, hn, hv⟩ := ok.loc
    obtain ⟨F, N⟩ := univ hn
    exact min_two_N (ok.hand.1 (.inl rfl)) F N fun h' tk F' N' => ep_kept ok hn hv F' N' rfl h
  · exact h.elim

/-- list(range(n)) -/
noncomputable def wListRange (b : LT) : ET := fun ρ σ Q X => b ρ σ (fun vs σ => match vs with
  | [.int n] => (0 ≤ n ∧ n ≤ 1000000) ∧ ∀ a, σ a = none → Q (.ref a) (upd σ a (.list (rangeV 0 1 n.toNat)))
  | _ => False) X
theorem args_one {A : Around} {env : Env} {f : Value} {e : Expr} {pos : Pos} {s : Shared} {R : Args → Shared → Prop} {E : Value → Shared → Prop} (he : ∀ env, starEach [e] env = [(false, eval e env)])
    (h : wpAny C.M A (eval e env) (fun v s₁ => R ⟨[v], []⟩ s₁) E s) : wpAny C.M A (evalArgs f true (backTo pos (starEach [e] env)) []) R E s := by
  rw [he]
  exact Calls.evalArgs_plain (Calls.spliced_cons (wpAny_mono h (fun v s₁ q => Calls.spliced_nil q) fun _ _ q => q))
theorem se_list_range {np np' pos pos' : Pos} {es : List Expr} {b : LT} (S : Sta C K) (h : SL C d 0 ns es b) (hx : nsIn K mainGlobals (Str.ofString "list") = some none) (hx' : nsIn K mainGlobals (Str.ofString "range") = some none)
    (hk : ns.lookup (Str.ofString "list") = some .globalImplicit) (hk' : ns.lookup (Str.ofString "range") = some .globalImplicit) :
    SE C d 0 ns (.Call (.Name (Str.ofString "list") np) [.Call (.Name (Str.ofString "range") np') es [] pos'] [] pos) (wListRange b) := by
  intro A env ρ σ s Q X ok w
  refine wpAny_Call_ofName (blt_name S hx hk boot_list ok ?_)
  refine PyProof.Rows.callWith_type rfl (args_one (fun _ => rfl) ?_)
  refine wpAny_Call_ofName (blt_name S hx' hk' boot_range ok ?_)
  obtain ⟨h1, h2, h3⟩ := h A env ρ σ s _ X pos' ok w
  refine PyProof.Rows.callWith_type h3 (wpAny_mono (h2 _) (fun a s₁ q => ?_) fun _ _ q => q)
  obtain ⟨hkw, xs, σ₁, ha, ok₁, k₁, q₁⟩ := q
  rw [hkw, List.nil_append]
  split at q₁
  · rename_i n
    obtain ⟨v, e, hv⟩ := one_of ha
    rw [e]
    obtain ⟨t, rfl⟩ := abs_int hv
    refine call_range_1 ?_
    obtain ⟨ok₂, k₂⟩ := ok_pushed (ob := { cls := .type "range", data := .fields #[.int 0 s₁.toks, .int n t, .int 1 (s₁.toks + 1)] }) (t := s₁.toks + 1 + 1) ok₁
    obtain ⟨hn, q⟩ := q₁
    refine te_quiet (k₁.trans k₂) (call_list_range (n := n.toNat) (ok₂.hand.1 (.inl rfl)) (IsRange.new ..) (small_one (by omega)) (size_one n) (by omega) fun h' tk acc' c' hkp hD hit => ?_)
    have hsz : C.base.objs.size ≤ h'.objs.size := by
      obtain ⟨mp, ⟨oL, es, ep, hoL, _⟩, _⟩ := ok₂.loc
      exact Nat.le_trans ok₂.above (Nat.le_of_lt (Heap.lt_size (hkp _ _ hoL)))
    generalize hs₂ : ({ s₁ with heap := s₁.heap.push { cls := .type "range", data := .fields #[.int 0 s₁.toks, .int n t, .int 1 (s₁.toks + 1)] }, toks := s₁.toks + 1 + 1 } : Shared) = s₂ at *
    have b' : Base C σ₁ { s₂ with heap := h', toks := tk } := ⟨fun b o e => hkp b o (ok₂.base.keep b o e), hsz, fun a o e => let ⟨ob, h1, h2⟩ := ok₂.base.sto a o e; ⟨ob, hkp _ _ h1, h2⟩, ok₂.base.dyn, ok₂.base.gens, ok₂.base.os⟩
    have b'' := base_add (D := s₂.heap.objs.size) (.list (rangeV 0 1 n.toNat)) b' ok₂.base.size hD ⟨acc', c', rfl, ?_⟩
    · refine ep_of ok₂ b'' ⟨fun b o e _ _ => ⟨o.slots, hkp b o e⟩, fun b o e _ _ _ => hkp b o e, fun b o e _ => ⟨o, hkp b o e⟩, fun b q => ?_⟩ rfl (q _ ok₂.base.no)
      by_cases e : b = s₂.heap.objs.size
      · subst e; exact .inr (size_none _)
      · rw [upd_ne _ _ e] at q; exact .inl q
    · refine List.ext_getElem? fun i => ?_
      rw [List.getElem?_map, List.getElem?_map]
      unfold rangeV
      rw [List.getElem?_map]
      by_cases hi : i < n.toNat
      · have hlt : i < acc'.size := by rw [hit.1]; exact hi
        rw [List.getElem?_range hi]
        have hg : acc'[i]? = some acc'[i] := Array.getElem?_eq_getElem hlt
        obtain ⟨tk', ht'⟩ := hit.2 i _ hg
        rw [Array.getElem?_toList, hg, ht']
        rfl
      · have hge : acc'.size ≤ i := by rw [hit.1]; omega
        rw [Array.getElem?_toList, Array.getElem?_eq_none hge, List.getElem?_eq_none (by simpa using hi)]
        rfl
  · exact q₁.elim

/-- a text or a list so many times -/
noncomputable def mulSV : V → V → Sto → (V → Sto → Prop) → Prop := fun a b σ Q => match a, b with
  | .int x, .int y => (-1000000 ≤ x ∧ x ≤ 1000000) ∧ Q (.int (x * y)) σ
  | .str x, .int y => MulOk x y ∧ Q (.str (Txt.mul x y)) σ
  | .ref x, .int y => ∃ v, σ x = some (.list [v]) ∧ 0 ≤ y ∧ y ≤ 1000000 ∧ ∀ b, σ b = none → Q (.ref b) (upd σ b (.list (List.replicate y.toNat v)))
  | _, _ => False
theorem foldl_rep (v : Value) : ∀ (n : Nat) (acc : Array Value), (List.foldl (fun x1 x2 => x1 ++ x2) acc (List.replicate n #[v])) = acc ++ (List.replicate n v).toArray
  | 0, acc => by simp
  | n + 1, acc => by
    rw [List.replicate_succ, List.foldl_cons, foldl_rep v n, List.replicate_succ]
    apply Array.toList_inj.mp; simp
theorem op_mulS : Op2 C (binaryOp .Mult) mulSV := by
  intro d m A ns env ρ σ s Q a b va vb ok ha hb h
  cases va <;> cases vb <;> first | exact h.elim | skip
  · obtain ⟨t, rfl⟩ := abs_int ha; obtain ⟨u, rfl⟩ := abs_int hb
    exact PyProof.Rows.mul_int (ep_tok ok rfl h.2) (IntMulOk.of_left (intBits_le_64 (by have := h.1; omega) (by have := h.1; omega)))
  · obtain ⟨t, rfl⟩ := abs_str ha; obtain ⟨u, rfl⟩ := abs_int hb
    exact SB.mul h.1 fun t' k => ep_tok ok rfl h.2
  · rename_i l y
    rw [abs_ref ha]; obtain ⟨u, rfl⟩ := abs_int hb
    obtain ⟨v, hx, h0, h1, q⟩ := h
    obtain ⟨vs, n, e, hab⟩ := ok.base.list hx
    obtain ⟨cv, rfl, hcv⟩ := one_of hab
    obtain ⟨mp, hn, hv⟩ := ok.loc
    obtain ⟨F, N⟩ := univ hn
    refine mul_list F N e (by omega) (by omega) (by show 1 * y.toNat ≤ _; omega) fun h' F' N' => ?_
    refine ep_made (.list (List.replicate y.toNat v)) ok hn hv F' N' (Nat.le_refl _) ⟨_, 0, rfl, ?_⟩ (q _ ok.base.no)
    rw [show ([cv].toArray.isEmpty) = false from rfl]
    simp only [Bool.false_eq_true, if_false]
    rw [foldl_rep]
    unfold AbsL
    simp [hcv]
end
end Mine
end

section
open PySem PySem.W PyProof.Rows
set_option maxRecDepth 100000
namespace Mine
section
variable {C : Cx} {K : Frag} {d m : Nat} {ns : List (Str × NameKind)}

theorem optR_isSome {o : Option Value} {f : Option V} (h : OptR o f) : o.isSome = f.isSome := by
  cases o <;> cases f <;> first | rfl | exact h.elim
theorem op_in (hb : sysModules < C.base.objs.size) : Op2 C (compareOp .In) inV := by
  intro d m A ns env ρ σ s Q a b va vb ok ha hb' h
  cases va <;> cases vb <;> first | exact h.elim | skip
  · obtain ⟨t, rfl⟩ := abs_int ha; rw [abs_ref hb']
    obtain ⟨ms, hx, q⟩ := h
    obtain ⟨vs, n, e, hab⟩ := ok.base.list hx
    exact in_list_ints (isList_of e) (ints_of hab) (ep_same ok rfl q)
  · rename_i k l
    obtain ⟨t, rfl⟩ := abs_str ha; rw [abs_ref hb']
    simp only [inV] at h
    split at h
    · rename_i n f hx
      obtain ⟨ob, e, hD⟩ := ok.base.sto _ _ hx
      obtain ⟨kvs, hD, hsz, hf⟩ := DR.dictOf hD e
      refine wpAny_in_of (strKind_is _ _ k t) (ok.base.lo (by rw [hx]; simp) hb) hD.mapOf ?_
      rw [optR_isSome (hf k)]
      exact ep_tok ok rfl h
    · rename_i xs ep tt hx
      have key : s.heap.SetOf (strKind C.prog C.w) l (fun k' => xs.any (· == k')) xs.length := by
        rcases ok.base.set hx with ⟨rfl, e, hf⟩ | ⟨x, tk, rfl, e, hf, hl⟩
        · exact ⟨_, _, _, _, e, ⟨rfl, rfl, rfl⟩, rfl, fun e he => by simp at he, fun k => by simp, by decide, hf, rfl⟩
        · refine ⟨_, _, _, _, e, ⟨rfl, rfl, rfl⟩, rfl, fun e he => ?_, fun k => ?_, by show 1 < scanBound; decide, hf, rfl⟩
          · have : e = ((strKind C.prog C.w).hash x, Value.str x tk) := by simpa using he
            subst this
            exact ⟨⟨x, strKind_is _ _ x tk, rfl⟩, rfl⟩
          · constructor
            · intro h
              have : x = k := by simpa using h
              subst this
              exact ⟨((strKind C.prog C.w).hash x, Value.str x tk), by simp, strKind_is _ _ x tk⟩
            · rintro ⟨e, he, hk⟩
              have : e = ((strKind C.prog C.w).hash x, Value.str x tk) := by simpa using he
              subst this
              have := (strKind C.prog C.w).inj _ _ _ hk (strKind_is _ _ x tk)
              subst this; simp
      exact wpAny_inSet_of (strKind_is _ _ k t) rfl key (ep_tok ok rfl h)
    · exact h.elim

/-- set(), set([x]) -/
noncomputable def setV : List V → Sto → (V → Sto → Prop) → Prop
  | [], σ, Q => ∀ a ep t, σ a = none → Q (.ref a) (upd σ a (.set [] ep t))
  | [.ref l], σ, Q => ∃ x, σ l = some (.list [.str x]) ∧ ∀ a ep t, σ a = none → Q (.ref a) (upd σ a (.set [x] ep t))
  | _, _, _ => False
theorem op_setc : OpN C d 0 (.type "set") setV := by
  intro A ns env ρ σ s Q vs xs ok ha h
  unfold setV at h
  split at h
  · rw [ha.inv_nil']
    refine call_set_0 fun led => ?_
    exact ep_push (t := s.toks) (.set [] 0 (.fresh 0 0 led)) ok rfl ⟨#[], rfl, rfl, rfl⟩ (h _ _ _ ok.base.no)
  · obtain ⟨v, rfl, hv⟩ := one_of ha
    rw [abs_ref hv]
    obtain ⟨x, hx, q⟩ := h
    obtain ⟨vs, n, e, hab⟩ := ok.base.list hx
    obtain ⟨cv, rfl, hcv⟩ := one_of hab
    obtain ⟨tx, rfl⟩ := abs_str hcv
    refine call_set_str (ok.hand.1 (.inl rfl)) e fun h' tk ep t hS hf hl hk => ?_
    have hk' : ∀ b o, s.heap.get? b = some o → h'.get? b = some o := fun b o e => hk b o (Heap.lt_size e) e
    obtain ⟨mp, ⟨oL, es, ep', hoL, _⟩, _⟩ := ok.loc
    have b' : Base C σ { s with heap := h', toks := tk } := ⟨fun b o e => hk' b o (ok.base.keep b o e), Nat.le_trans ok.above (Nat.le_of_lt (Heap.lt_size (hk' _ _ hoL))), fun a o e => let ⟨ob, h1, h2⟩ := ok.base.sto a o e; ⟨ob, hk' _ _ h1, h2⟩, ok.base.dyn, ok.base.gens, ok.base.os⟩
    have b'' := base_add (D := s.heap.objs.size) (.set [x] ep t) b' ok.base.size hS ⟨_, rfl, hf, ⟨_, rfl⟩, hl⟩
    refine ep_of ok b'' ⟨fun b o e _ _ => ⟨o.slots, hk' b o e⟩, fun b o e _ _ _ => hk' b o e, fun b o e _ => ⟨o, hk' b o e⟩, fun b q => ?_⟩ rfl (q _ _ _ ok.base.no)
    by_cases e : b = s.heap.objs.size
    · subst e; exact .inr (size_none _)
    · rw [upd_ne _ _ e] at q; exact .inl q
  · exact h.elim

noncomputable def extendV : List V → Sto → (V → Sto → Prop) → Prop
  | [l, v], σ, Q => getL σ l fun a xs => getL σ v fun b ys => a ≠ b ∧ xs.length + ys.length ≤ 1000000 ∧ Q .none (upd σ a (.list (xs ++ ys)))
  | _, _, _ => False
theorem op_extend : OpN C d m (.builtin "list.extend") extendV := by
  intro A ns env ρ σ s Q vs xs ok ha h
  unfold extendV at h
  split at h
  · obtain ⟨a, ys, rfl, hx, h⟩ := getL_elim h
    obtain ⟨b, zs, rfl, hy, hne, hsz, q⟩ := getL_elim h
    obtain ⟨v, w, rfl, hv, hw⟩ := two_of ha
    rw [abs_ref hv, abs_ref hw]
    obtain ⟨vs, n, e, hab⟩ := ok.base.list hx
    obtain ⟨us, n', e', hab'⟩ := ok.base.list hy
    have l1 := hab.length
    have l2 := hab'.length
    refine call_meets PySem.F.slot_list_extend ⟨_, e, rfl⟩ PySem.F.entry_list_extend (PySem.F.args_list_extend_2 _ _) (PySem.AutoSeq1.list_extend_list_list_0 a vs.toArray n b us.toArray n' ?_ ?_ ?_) ⟨e, e', ?_⟩
    · simp only [Builtin.List.listTooLong, sizeLine, Bool.and_eq_true, decide_eq_true_eq, not_and, List.size_toArray]
      intro _; omega
    · rw [List.size_toArray]; simp only [sizeLine]; omega
    · simp only [List.size_toArray, sizeLine]; omega
    · have hg := Heap.get?_update_self (h := s.heap) (Obj.mapSeq fun x => x ++ us.toArray) e rfl
      refine ep_turn (t := s.toks) (.list (ys ++ zs)) ok hx (Heap.SameBut.update ..) hg ⟨_, _, rfl, ?_⟩ rfl q
      show AbsL (vs.toArray ++ us.toArray).toList _
      simpa using hab.append hab'
  · exact h.elim

noncomputable def place (n : Nat) (k : Int) : Nat := if 0 ≤ k then k.toNat else (k + n).toNat
theorem setItem_list_neg {prog : Program} {w : World} {A : Around} {E : Value → Shared → Prop} {s : Shared} {l : Addr} {items : Array Value} {n : Nat} {k : Int} {t : Tok} {v : Value} {Q : Unit → Shared → Prop}
    (e : s.heap.get? l = some ⟨.type "list", none, .seq items n, #[]⟩) (h0 : k < 0) (h1 : -(items.size : Int) ≤ k) (hfit : -(2 ^ 63) ≤ k)
    (hQ : Q () { s with heap := s.heap.update l (Obj.mapSeq (·.setIfInBounds (k + items.size).toNat v)) }) : wpAny (model prog w) A (setItem (.ref l) (.int k t) v) Q E s := by
  have hl := isList_of e
  unfold setItem
  try with_reducible refine wpAny_holding ?_
  first | refine wpAny_bind (wpAny_pure ?_) | skip
  refine wpAny_bind (wpAny_sequenceKey hl.typeIs (by decide) ?_)
  refine wpAny_bind (wpAny_callSpecial?_slot (name := Str.ofString "__setitem__") hl.typeIs PySem.slot_list_setitem (wpAny_call_entry PySem.slot_list_setitem hl.typeIs PySem.entry_list_setitem ?_ (PySem.args_list_setitem _ _ _)))
  show wpAny _ _ (Builtin.List.listSubscript? (.int k t) >>= _) _ _ s
  refine wpAny_bind (wpAny_listSubscript_int (fitsIndex_neg h0 hfit) ?_)
  clear hfit
  have hidx := MeetsSeq.seqIndex_neg (n := items.size) h0 (by omega)
  have hlt : (k + items.size).toNat < items.size := by omega
  obtain ⟨j, rfl⟩ : ∃ j : Nat, k = Int.negSucc j := by
    cases k with
    | ofNat n => exact absurd h0 (Int.not_lt.mpr (Int.natCast_nonneg n))
    | negSucc n => exact ⟨n, rfl⟩
  show wpAny _ _ ((Builtin.List.listItems (.ref l) >>= fun xs => pure ((seqIndex? (Int.negSucc j) xs.size).bind fun i => xs[i]?.map (i, ·))) >>= _) _ _ s
  refine wpAny_bind (wpAny_bind ?_)
  show wpAny _ _ (seqItems? (.ref l) >>= _) _ _ s
  refine wpAny_bind (wpAny_seqItems e rfl (wpAny_pure (wpAny_pure ?_)))
  rw [hidx]
  rw [Option.bind_some, Array.getElem?_eq_getElem hlt, Option.map_some]
  show wpAny _ _ (setSeqItemAt l _ v >>= _) _ _ s
  refine wpAny_bind (wpAny_setSeqItemAt e rfl ?_)
  first
    | exact wpAny_bind (wpAny_pure (wpAny_pure ⟨.none, rfl, wpAny_pure hQ⟩))
    | exact wpAny_pure ⟨.none, rfl, wpAny_pure hQ⟩

/-- a[i] ^= e, a list of ints; the index may be counted from the end -/
noncomputable def wAugX (o i v : ET) : ST := fun ρ σ Q X => o ρ σ (fun vo σ => i ρ σ (fun vi σ => match vi with
  | .int k => getL σ vo fun _ xs => xs.length ≤ 1000000 ∧ opt (idx xs k) fun old => v ρ σ (fun vv σ => match old, vv with
    | .int x, .int y => getL σ vo fun l xs => xs.length ≤ 1000000 ∧ -(xs.length : Int) ≤ k ∧ k < xs.length ∧ Q .next ρ (upd σ l (.list (xs.set (place xs.length k) (.int (Builtin.bitXor x y)))))
    | _, _ => False) (X ρ)
  | _ => False) (X ρ)) (X ρ)
theorem s_augx {o i v : Expr} {ap pos : Pos} {wo wi wv : ET} (ho : SE C d m ns o wo) (hi : SE C d m ns i wi) (hv : SE C d m ns v wv)
    (he : ∀ env, exec (.AugAssign (.Subscript o i ap) .BitXor v pos) env = (do
    standAt pos
    let ov ← eval o env
    let iv ← holding [ov] (eval i env)
    let new ← holding [ov, iv] do
      standAt ap
      let old ← getItem ov iv
      let v ← holding [old] (eval v env)
      standAt pos
      operate [old, v] (inplaceOp .BitXor old v)
    standAt ap
    holding [new, ov, iv] (setItem ov iv new)
    release [new, ov, iv] []
    pure .next) := by intro _; rfl) : S1 C d m ns (.AugAssign (.Subscript o i ap) .BitXor v pos) (wAugX wo wi wv) := by
  intro A env ρ σ s Q X ok hf w
  show wpAny C.M A (exec (.AugAssign (.Subscript o i ap) .BitXor v pos) env) _ _ s
  rw [he]
  refine wpAny_bind (wpAny_standAt (wpAny_bind (ts_go (.refl ..) (ho A env ρ σ s _ _ ok w) fun ov ao σ₁ s₁ hao ok₁ k₁ q₁ => wpAny_bind (wpAny_holding (ts_go k₁ (hi A env ρ σ₁ s₁ _ _ ok₁ q₁) fun iv ai σ₂ s₂ hai ok₂ k₂ q₂ => ?_)))))
  cases ai <;> first | exact q₂.elim | skip
  rename_i k
  obtain ⟨t, rfl⟩ := abs_int hai
  obtain ⟨l, xs, rfl, hx, hsz, q₂⟩ := getL_elim q₂
  rw [abs_ref hao]
  obtain ⟨old, hold, q₂⟩ := opt_elim q₂
  obtain ⟨vs, n, e, hab⟩ := ok₂.base.list hx
  have hlen := hab.length
  refine wpAny_bind (wpAny_holding (wpAny_bind (wpAny_standAt (wpAny_bind ?_))))
  have go : ∀ cv, absV cv = some old → wpAny C.M A (holding [cv] (eval v env) >>= fun v => standAt pos >>= fun _ => operate [cv, v] (inplaceOp .BitXor cv v)) (fun new s' => wpAny C.M A (do
      standAt ap
      holding [new, .ref l, .int k t] (setItem (.ref l) (.int k t) new)
      release [new, .ref l, .int k t] []
      pure .next) (SP C d m A ns env σ s Q) (XP C d m A ns env (frOf env) σ s X) s') (XP C d m A ns env (frOf env) σ s X) s₂ := by
    intro cv hcv
    refine wpAny_bind (wpAny_holding (ts_go k₂ (hv A env ρ σ₂ s₂ _ _ ok₂ q₂) fun vv av σ₃ s₃ hvv ok₃ k₃ q₃ => wpAny_bind (wpAny_standAt ?_)))
    cases old <;> first | exact q₃.elim | skip
    cases av <;> first | exact q₃.elim | skip
    rename_i x y
    obtain ⟨tx, rfl⟩ := abs_int hcv; obtain ⟨ty, rfl⟩ := abs_int hvv
    refine wpAny_operate' (ixor_int ?_)
    obtain ⟨l', ys, e', hy, hsz', hk0, hk1, q⟩ := getL_elim q₃
    cases e'
    have ok₄ : Ok C d m A ns env ρ σ₃ { s₃ with toks := s₃.toks + 1 } := ok₃.kp (ok₃.base.tok _) (.refl ..)
    obtain ⟨us, n', e', hab'⟩ := ok₄.base.list hy
    have hlen' := hab'.length
    refine wpAny_bind (wpAny_standAt (wpAny_bind (wpAny_holding ?_)))
    have key : ∀ j, j = place ys.length k → SP C d m A ns env σ s Q .next { s₃ with heap := s₃.heap.update l (Obj.mapSeq (·.setIfInBounds j (.int (Builtin.bitXor x y) s₃.toks))), toks := s₃.toks + 1 } := by
      intro j hj
      have hg := Heap.get?_update_self (h := s₃.heap) (Obj.mapSeq (·.setIfInBounds j (.int (Builtin.bitXor x y) s₃.toks))) e' rfl
      have ok₅ := ok₄.kp (ok₄.base.turnT (t := s₃.toks + 1) (.list (ys.set (place ys.length k) (.int (Builtin.bitXor x y)))) hy (Heap.SameBut.update ..) hg ⟨_, _, rfl, ?_⟩) (.turn hy (Heap.SameBut.update ..))
      · exact ⟨ρ, _, ok₅, k₃.trans (.turn hy (Heap.SameBut.update ..)), q⟩
      · show AbsL (us.toArray.setIfInBounds j _).toList _
        rw [← hj]
        simpa using hab'.set (v := .int (Builtin.bitXor x y) s₃.toks) rfl j
    by_cases h0 : 0 ≤ k
    · exact setItem_list_exact e' h0 (by omega) (by rw [List.size_toArray]; omega) (wpAny_bind (wpAny_release' (wpAny_pure (key _ (by unfold place; rw [if_pos h0])))))
    · exact setItem_list_neg e' (by omega) (by rw [List.size_toArray]; omega) (by omega) (wpAny_bind (wpAny_release' (wpAny_pure (key _ (by unfold place; rw [if_neg h0, List.size_toArray, hlen'])))))
  rcases idx_some hold with ⟨h0, h1, h2⟩ | ⟨h0, h1, h2⟩
  · obtain ⟨cv, hc, hcv⟩ := hab.get h2
    exact wpAny_getItem_list (isList_of e) h0 (by omega) (by simpa using hc) (go cv hcv)
  · obtain ⟨cv, hc, hcv⟩ := hab.get h2
    exact wpAny_getItem_list_neg (isList_of e) h0 (by rw [List.size_toArray]; omega) (by omega) (by rw [List.size_toArray, hlen]; simpa using hc) (go cv hcv)
end
end Mine
end

section
open PySem PySem.W PyProof.Rows
set_option maxRecDepth 100000
namespace Mine

theorem lookIn_of {ob : Obj} {es : Array DictEntry} {ep : Nat} {name : Str} (hd : ob.data = .dict es ep) (hk : StrKeys es) : lookIn name ob = some (nsFind es name) := by
  unfold lookIn nsFind findBy
  rw [hd]
  dsimp only
  rw [← Array.find?_toList]
  cases e : es.toList.find? (·.key.isStr name) with
  | some en => rfl
  | none =>
    dsimp only
    have : es.toList.any (·.refKey) = false := by
      rw [List.any_eq_false]
      intro e he
      obtain ⟨n, t, q⟩ := hk e (Array.mem_def.mpr he)
      unfold DictEntry.refKey
      rw [q]; simp
    rw [this]; rfl

theorem nsSet_sz {M : Model} {A : Around} {E : Value → Shared → Prop} {s : Shared} {a : Addr} {o : Obj} {es : Array DictEntry} {ep : Nat} {name : Str} {v : Value} {Q : Unit → Shared → Prop} (ho : s.heap.get? a = some o) (hd : o.data = .dict es ep) (hk : StrKeys es)
    (hQ : ∀ h' o' es' ep', h'.get? a = some o' → o'.data = .dict es' ep' → StrKeys es' → (∀ x, nsFind es' x = if x = name then some v else nsFind es x) → es'.size ≤ es.size + 1 → Heap.SameBut a s.heap h' → Q () { s with heap := h', toks := s.toks + 1 }) :
    wpAny M A (nsSet a name v) Q E s := fun Γ p _ => by
  simp only [nsSet, strHash, Sem.wp_bind', Sem.wp_cmd_ask, Sem.wp_pure', Sem.wp_cmd_mkText]
  rw [Sem.wp_loadPart_of M Γ _ p { s with toks := s.toks + 1 } (o := o) _ ho]
  have hany : es.any (·.refKey) = false := by
    rw [Array.any_eq_false']; intro e he; obtain ⟨n, t, h⟩ := hk e he; simp [DictEntry.refKey, h]
  simp only [hd, aRefKeyMayBeTheName_eq, aRefKeyMayBeTheNameByArray, hany, Bool.and_false, Bool.false_eq_true, if_false, Sem.wp_cmd_updatePart]
  obtain ⟨c, d, dt, sl⟩ := o
  subst hd
  refine ⟨by rw [ho]; rfl, ?_⟩
  cases hi : es.findIdx? (·.key.isStr name) with
  | some i =>
    refine hQ _ _ _ ep (Heap.get?_update_self _ ho (by simp only [Obj.putName_eq, Obj.putNameByArray, hi]; rfl)) (by simp only [Obj.putName_eq, Obj.putNameByArray, hi]; rfl) (hk.modify _ _) (fun x => ?_) (by simp) (Heap.SameBut.update ..)
    exact findBy_modify (fun n v => v.isStr n) Value.isStr_inj es name x v i hi
  | none =>
    refine hQ _ _ _ (ep + 1) (Heap.get?_update_self _ ho (by simp only [Obj.putName_eq, Obj.putNameByArray, hi]; rfl)) (by simp only [Obj.putName_eq, Obj.putNameByArray, hi]; rfl) (hk.push _ _ _ _) (fun x => ?_) (by simp) (Heap.SameBut.update ..)
    exact findBy_push (fun n v => v.isStr n) es name x _ _ v (fun y => by
      show (name == y) = decide (y = name)
      by_cases h : y = name
      · subst h; simp
      · have : ¬ name = y := fun e => h e.symm
        simp [h, this]) hi

theorem handed_abs {v : Value} {av : V} (h : absV v = some av) : handedIn v = true := by
  cases v <;> first | rfl | cases h

/-- an object of the class c, its attributes -/
noncomputable def getI (c : Addr) (σ : Sto) (v : V) (k : Addr → Nat → (Str → Option V) → Prop) : Prop := match v with
  | .ref x => (match σ x with | some (.inst c' d) => c' = c ∧ (match σ d with | some (.ns n f) => k d n f | _ => False) | _ => False)
  | _ => False
theorem getI_elim {c : Addr} {σ : Sto} {v : V} {k : Addr → Nat → (Str → Option V) → Prop} (h : getI c σ v k) : ∃ x d n f, v = .ref x ∧ σ x = some (.inst c d) ∧ σ d = some (.ns n f) ∧ k d n f := by
  cases v <;> first | exact h.elim | skip
  rename_i x
  simp only [getI] at h
  split at h
  · rename_i c' d hx
    obtain ⟨rfl, h⟩ := h
    split at h
    · rename_i n f hf; exact ⟨x, d, n, f, rfl, hx, hf, h⟩
    · exact h.elim
  · exact h.elim

section
variable {C : Cx} {K : Frag} {d m : Nat} {ns : List (Str × NameKind)}
theorem Base.inst {σ : Sto} {s : Shared} {x c dx : Addr} {n : Nat} {f : Str → Option V} (b : Base C σ s) (hx : σ x = some (.inst c dx)) (hf : σ dx = some (.ns n f)) :
    ∃ od es ep, InstAt s.heap x (instObj c dx) c (some od) ∧ s.heap.get? dx = some od ∧ od.data = .dict es ep ∧ es.size ≤ n ∧ StrKeys es ∧ ∀ y, OptR (nsFind es y) (f y) := by
  obtain ⟨ob, e, hob⟩ := b.sto x _ hx
  obtain ⟨od, e', es, ep, h1, h0, h2, h3⟩ := b.sto dx _ hf
  rw [show ob = instObj c dx from hob] at e
  exact ⟨od, es, ep, ⟨e, rfl, rfl, e'⟩, e', h1, h0, h2, h3⟩

/-- e.name, an attribute of the object's own -/
noncomputable def wAttr (c : Addr) (name : String) (a : ET) : ET := fun ρ σ Q X => a ρ σ (fun v σ => getI c σ v fun _ _ f => opt (f (Str.ofString name)) fun w => Q w σ) X
theorem se_attr {o : Expr} {name : String} {pos : Pos} {a : ET} {c : Addr} (S : Sta C K) (h : SE C d m ns o a) (hga : findIn K (.ref c) "__getattribute__" = some (some (.builtin "object.__getattribute__")))
    (hd : hasDictIn K c = true) (hn : findIn K (.ref c) (Str.ofString name) = some none)
    (he : ∀ env, eval (.Attribute o (Str.ofString name) pos) env = (do
      let ov ← eval o env
      standAt pos.atName
      let r ← holding [ov] (getAttr ov (Str.ofString name) true)
      letTemporaryGo o ov r
      pure r) := by intro _; with_unfolding_all rfl) (ht : ∀ o' r, letTemporaryGo o o' r = pure () := by intro _ _; rfl) : SE C d m ns (.Attribute o (Str.ofString name) pos) (wAttr c name a) := by
  intro A env ρ σ s Q X ok w
  show wpAny C.M A (eval (.Attribute o (Str.ofString name) pos) env) _ _ s
  rw [he]
  refine wpAny_bind (te_go (.refl ..) (h A env ρ σ s _ X ok w) fun v av σ₁ s₁ hv ok₁ k₁ q₁ => wpAny_bind (wpAny_standAt (wpAny_bind (wpAny_holding ?_))))
  obtain ⟨x, dx, n, f, rfl, hx, hf, q₁⟩ := getI_elim q₁
  obtain ⟨wv, hw, q₁⟩ := opt_elim q₁
  rw [abs_ref hv]
  obtain ⟨od, es, ep, I, hod, hdat, hsz, hsk, hfi⟩ := ok₁.base.inst hx hf
  have hfn := hfi (Str.ofString name)
  rw [hw] at hfn
  obtain ⟨cv, hc, hcv⟩ := optR_some hfn
  obtain ⟨cd, hcd, hdict⟩ := any_some hd
  refine get_value (S.kin.keeps ok₁.base.keep) I hga ?_ (handed_abs hcv) (v := cv) ?_
  · unfold findObj
    rw [hcd, Option.bind_some, hn, Option.bind_some, Option.bind_some, Option.bind_some]
    unfold PySem.W.ownOf
    rw [if_pos hdict]
    dsimp only
    rw [lookIn_of hdat hsk, hc]
    rfl
  · rw [ht]
    refine wpAny_bind (wpAny_pure (wpAny_pure ?_))
    exact (ep_tok ok₁ hcv q₁).back k₁

/-- o.name = v -/
noncomputable def wSetA (c : Addr) (name : String) (o v : ET) : ST := fun ρ σ Q X => v ρ σ (fun vv σ => o ρ σ (fun vo σ => getI c σ vo fun dx n f => n ≤ 1000 ∧ Q .next ρ (upd σ dx (.ns (n + 1) fun y => if y = Str.ofString name then some vv else f y))) (X ρ)) (X ρ)
theorem s_setattr {o v : Expr} {name : String} {ap pos : Pos} {wo wv : ET} {c : Addr} (S : Sta C K) (ho : SE C d m ns o wo) (hv : SE C d m ns v wv) (hs : findIn K (.ref c) "__setattr__" = some (some (.builtin "object.__setattr__"))) (hp : plainOver K c = true)
    (ht : takerIn K c (Str.ofString name) = some none) (hd : hasDictIn K c = true) (hsw : ∀ env, swapsWith v (some (.Attribute o (Str.ofString name) ap)) pos.line env = pure false := by intro _; rfl) :
    S1 C d m ns (.Assign [.Attribute o (Str.ofString name) ap] v pos) (wSetA c name wo wv) := by
  intro A env ρ σ s Q X ok hf w
  refine plainObj_wpAny_Assign_Attribute (ts_go (.refl ..) (hv A env ρ σ s _ _ ok w) fun vv av σ₁ s₁ hvv ok₁ k₁ q₁ => ts_go k₁ (ho A env ρ σ₁ s₁ _ _ ok₁ q₁) fun ov ao σ₂ s₂ hao ok₂ k₂ q₂ => ?_) (hsw env)
  obtain ⟨x, dx, n, f, rfl, hx, hfx, hn1, q₂⟩ := getI_elim q₂
  rw [abs_ref hao]
  obtain ⟨od, es, ep, I, hod, hdat, hsz, hsk, hfi⟩ := ok₂.base.inst hx hfx
  have Xk : K.In s₂.heap := S.kin.keeps ok₂.base.keep
  refine set_plain Xk I hs (osa_open (s := { s₂ with toks := s₂.toks + 1 }) Xk I hp ht fun b => ?_)
  obtain ⟨cd, hc, hd'⟩ := any_some hd
  refine wpAny_bind (wpAny_pure (wpAny_bind (wpAny_bind (wpAny_loadPart I.at_ (wpAny_bind (looks_clsIn Xk hc _ _ _ _ (fun _ _ e => e) ?_))))))
  rw [hd']
  refine wpAny_pure (a := some dx) (wpAny_bind (wpAny_pure (wpAny_bind ?_)))
  refine nsSet_sz (s := { s₂ with toks := s₂.toks + 1 }) hod hdat hsk fun h' od' es' ep' hod' hdat' hsk' hfi' hsz' hs' => ?_
  refine wpAny_bind (wpAny_lookBehind hod' (by rw [hdat']; exact pastItsLine_dict (Nat.le_trans (Nat.le_trans hsz' (Nat.add_le_add_right (Nat.le_trans hsz hn1) 1)) (by decide))) (wpAny_pure ?_))
  have ok₃ := ok₂.kp (ok₂.base.turnT (t := s₂.toks + 1 + 1) (.ns (n + 1) fun y => if y = Str.ofString name then some av else f y) hfx hs' hod' ⟨es', ep', hdat', Nat.le_trans hsz' (Nat.add_le_add_right hsz 1), hsk', fun y => ?_⟩) (.turn hfx hs')
  · exact ⟨ρ, _, ok₃, k₂.trans (.turn hfx hs'), q₂⟩
  · rw [hfi']
    show OptR _ (if y = Str.ofString name then some av else f y)
    by_cases hy : y = Str.ofString name
    · rw [if_pos hy, if_pos hy]; exact hvv
    · rw [if_neg hy, if_neg hy]; exact hfi y
end
end Mine
end

section
open PySem PySem.W PyProof.Rows
set_option maxRecDepth 100000
namespace Mine

section
variable {C : Cx} {K : Frag} {d m : Nat} {ns : List (Str × NameKind)}

/-- o.name(..), a method of the class -/
noncomputable def wMethI (c : Addr) (name : String) (T : List V → Sto → (V → Sto → Prop) → Prop) (a : ET) (b : LT) : ET := fun ρ σ Q X => a ρ σ (fun va σ => getI c σ va fun _ _ f => f (Str.ofString name) = none ∧ b ρ σ (fun vs σ => T (va :: vs) σ Q) X) X
theorem se_meth_inst {o : Expr} {name : String} {apos pos : Pos} {es : List Expr} {a : ET} {b : LT} {c f : Addr} {T : List V → Sto → (V → Sto → Prop) → Prop} (S : Sta C K) (ha : SE C d 0 ns o a) (h : SL C d 0 ns es b) (hf : FnOk C d f T)
    (hga : findIn K (.ref c) "__getattribute__" = some (some (.builtin "object.__getattribute__"))) (hk : findIn K (.ref c) "__getattr__" = some none)
    (hn : findIn K (.ref c) (Str.ofString name) = some (some (.ref f))) (ht : typeIn K (.ref f) = some (.type "function")) (hfn : isFnAt K f = true)
    {pl : Env → Sem Bool} (he : ∀ env, eval (.Call (.Attribute o (Str.ofString name) apos) es [] pos) env = (do
      let ov ← eval o env
      standAt apos.atName
      let (f, first) ← holding [ov] (getMethod ov (Str.ofString name) (pl env))
      callWith pos f first (backTo pos (starEach es env)) (backToKw pos (keywordEach [] env)))) :
    SE C d 0 ns (.Call (.Attribute o (Str.ofString name) apos) es [] pos) (wMethI c name T a b) := by
  intro A env ρ σ s Q X ok w
  refine methodCall_KW (pl := pl env) (te_go (.refl ..) (ha A env ρ σ s _ X ok w) fun v av σ₁ s₁ hv ok₁ k₁ q₁ => ?_) (he env)
  obtain ⟨x, dx, n, g, rfl, hx, hg, hnone, q₁⟩ := getI_elim q₁
  rw [abs_ref hv]
  obtain ⟨od, es', ep, I, hod, hdat, hsz, hsk, hfi⟩ := ok₁.base.inst hx hg
  refine method_fn (S.kin.keeps ok₁.base.keep) I hga hk hn ht ?_ ?_
  · unfold shadowIn
    dsimp only
    rw [lookIn_of hdat hsk]
    have := hfi (Str.ofString name)
    rw [hnone] at this
    cases q : nsFind es' (Str.ofString name) with
    | none => rfl
    | some w => rw [q] at this; exact this.elim
  · obtain ⟨h1, h2, h3⟩ := h A env ρ σ₁ s₁ _ X pos ok₁ q₁
    obtain ⟨o', fd, ho', hdat'⟩ := isFnAt_of S.kin hfn
    refine Calls.callWith_function (o := o') (fd := fd) (wpAny_mono (h2 _) (fun a s₂ q => ?_) fun _ _ q => q.back k₁)
    obtain ⟨hkw, ys, σ₂, hab, ok₂, k₂, q₂⟩ := q
    refine ⟨⟨ok₂.base.keep _ _ ho', hdat'⟩, ?_⟩
    rw [hkw]
    exact te_quiet (k₁.trans k₂) (fw_call ok₂ (.cons rfl hab) (hf _ _ _ q₂))

/-- the class called -/
noncomputable def mkT (c : Addr) (T : List V → Sto → (V → Sto → Prop) → Prop) : List V → Sto → (V → Sto → Prop) → Prop :=
  fun xs σ Q => ∀ dx x, dx ≠ x → σ dx = none → σ x = none → T (.ref x :: xs) (upd (upd σ dx (.ns 0 fun _ => none)) x (.inst c dx)) fun r σ' => r = .none ∧ Q (.ref x) σ'
theorem tc_weight (a : Addr) (rest : List Value) (kw : List (Str × Value)) : (Code.builtin "type.__call__" ⟨.ref a :: rest, kw⟩).weight = 1 := by kernel_rfl
theorem tc_envs (a : Addr) (rest : List Value) (kw : List (Str × Value)) : (Code.builtin "type.__call__" ⟨.ref a :: rest, kw⟩).envs = [] := by kernel_rfl
theorem tc_units (a : Addr) (rest : List Value) (kw : List (Str × Value)) : (Code.builtin "type.__call__" ⟨.ref a :: rest, kw⟩).cUnits = 1 := by kernel_rfl
theorem under_tc {A : Around} {a : Addr} {rest : List Value} {kw : List (Str × Value)} : (A.under (.builtin "type.__call__" ⟨.ref a :: rest, kw⟩)).depth = A.depth + 1 ∧ (A.under (.builtin "type.__call__" ⟨.ref a :: rest, kw⟩)).units = A.units + 1 ∧
    (A.under (.builtin "type.__call__" ⟨.ref a :: rest, kw⟩)).frames = A.frames ∧ (A.under (.builtin "type.__call__" ⟨.ref a :: rest, kw⟩)).handled = A.handled := by
  refine ⟨?_, ?_, ?_, rfl⟩
  · show A.depth + _ = _; rw [tc_weight]
  · show A.units + _ = _; rw [tc_units]
  · unfold Around.under; dsimp only; rw [tc_envs]; cases A.frames <;> rfl
theorem or_ns0 : OR C emptyDict (.ns 0 fun _ => none) := ⟨#[], 0, rfl, Nat.le_refl _, fun _ he => by simp at he, fun _ => trivial⟩
theorem call_class {A : Around} {env : Env} {ρ : Loc} {σ : Sto} {s : Shared} {Q : V → Sto → Prop} {c fI : Addr} {T : List V → Sto → (V → Sto → Prop) → Prop} {vs : List Value} {xs : List V} (S : Sta C K) (hf : FnOk C d fI T) (hm : makesIn K c = true)
    (hi : findIn K (.ref c) "__init__" = some (some (.ref fI))) (ht : typeIn K (.ref fI) = some (.type "function")) (ok : Ok C (d + 1) 0 A ns env ρ σ s) (ha : AbsL vs xs) (w : mkT c T xs σ Q) :
    wpAny C.M A (call (.ref c) vs) (EP C (d + 1) 0 A ns env ρ σ s Q) (fun _ _ => False) s := by
  have Xk : K.In s.heap := S.kin.keeps ok.base.keep
  obtain ⟨hh, g, dr, t, os⟩ := s
  have b₁ := ok.base.push emptyDict (.ns 0 fun _ => none) rfl or_ns0
  have b₂ := b₁.push (instObj c hh.objs.size) (.inst c hh.objs.size) rfl rfl
  have hno1 : σ hh.objs.size = none := ok.base.no
  have hno2 : (upd σ hh.objs.size (.ns 0 fun _ => none)) (hh.push emptyDict).objs.size = none := b₁.no
  have k₂ : Kp NoFr σ (upd (upd σ hh.objs.size (.ns 0 fun _ => none)) (hh.push emptyDict).objs.size (.inst c hh.objs.size)) hh ((hh.push emptyDict).push (instObj c hh.objs.size)) := (Kp.push ..).trans (.push ..)
  have hsz : (hh.push emptyDict).objs.size = hh.objs.size + 1 := Heap.size_push ..
  have hne : hh.objs.size ≠ (hh.push emptyDict).objs.size := by rw [hsz]; exact Nat.ne_of_lt (Nat.lt_succ_self _)
  have w' := w _ _ hne hno1 (by rw [upd_ne _ _ (Ne.symm hne)] at hno2; exact hno2)
  refine wpAny_call (make_core (makes_of Xk hm) (looks_findIn Xk hi) (fun self => bind_fn Xk self ht) (.inl rfl) ?_)
  obtain ⟨u1, u2, u3, u4⟩ := under_tc (A := A) (a := c) (rest := vs) (kw := [])
  have hdep := ok.depth
  have hun := ok.units
  have ok0 := ok.toOk0.kp b₂ k₂
  have ok1 : Ok0 C d 0 (A.under (.builtin "type.__call__" ⟨.ref c :: vs, []⟩)) (upd (upd σ hh.objs.size (.ns 0 fun _ => none)) (hh.push emptyDict).objs.size (.inst c hh.objs.size)) ⟨(hh.push emptyDict).push (instObj c hh.objs.size), g, dr, t, os⟩ := by
    refine ⟨ok0.base, by rw [u1]; omega, by rw [u2]; omega, ?_, ?_⟩
    · rw [u3]; exact ok0.frames
    · rw [u4]; exact ok0.hand
  have key := hf _ _ _ w' _ _ (.ref (hh.objs.size + 1) :: vs) ok1 (.cons (by rw [hsz]; rfl) ha)
  refine codeAny_mono key fun r s' q => ?_
  obtain ⟨v, av, σ', rfl, hv, b', k', rfl, q'⟩ := q
  rw [abs_none hv]
  refine ⟨rfl, ?_⟩
  exact ep_of ok b' (k₂.trans k') (av := .ref (hh.push emptyDict).objs.size) (by rw [hsz]; rfl) q'

theorem se_call_cls {x : String} {np pos : Pos} {es : List Expr} {c fI : Addr} {b : LT} {T : List V → Sto → (V → Sto → Prop) → Prop} (S : Sta C K) (hf : FnOk C d fI T) (h : SL C (d + 1) 0 ns es b)
    (hx : nsIn K mainGlobals (Str.ofString x) = some (some (.ref c))) (hk : ns.lookup (Str.ofString x) = some .globalImplicit) (hm : makesIn K c = true) (hi : findIn K (.ref c) "__init__" = some (some (.ref fI))) (ht : typeIn K (.ref fI) = some (.type "function")) (hkp : keepIn K (.ref c) = true)
    (hd : (Str.ofString x == ("__debug__" : Str)) = false := by decide +kernel) : SE C (d + 1) 0 ns (.Call (.Name (Str.ofString x) np) es [] pos) (wCall (mkT c T) b) := by
  intro A env ρ σ s Q X ok w
  refine wpAny_Call_ofName (glob_name S hx hk ok ?_ hd)
  obtain ⟨h1, h2, h3⟩ := h A env ρ σ s _ X pos ok w
  refine callWith_of (P := K.In) (by rw [h3]; rfl) (keeps_K hkp) (wpAny_mono (h2 _) (fun a s₁ q => ?_) fun _ _ q => q)
  obtain ⟨hkw, xs, σ₁, ha, ok₁, k₁, q₁⟩ := q
  refine ⟨S.kin.keeps ok₁.base.keep, ?_⟩
  rw [hkw, List.nil_append]
  exact te_quiet k₁ (call_class S hf hm hi ht ok₁ ha q₁)

/-- a text that the module keeps -/
theorem se_globs {x : String} {val : String} {np : Pos} {t : Tok} (S : Sta C K) (hx : nsIn K mainGlobals (Str.ofString x) = some (some (.str (Str.ofString val) t))) (hk : ns.lookup (Str.ofString x) = some .globalImplicit)
    (hd : (Str.ofString x == ("__debug__" : Str)) = false := by decide +kernel) : SE C d m ns (.Name (Str.ofString x) np) (wStr val) :=
  fun _ _ _ _ _ _ _ ok w => glob_name S hx hk ok (ep_same ok rfl w) hd
noncomputable def wTyp (n : String) : ET := fun _ σ Q _ => Q (.typ n) σ
theorem se_typ {x n : String} {np : Pos} (S : Sta C K) (hx : nsIn K mainGlobals (Str.ofString x) = some none) (hk : ns.lookup (Str.ofString x) = some .globalImplicit) (hb : bootBuiltins (Str.ofString x) = some (.type n))
    (hd : (Str.ofString x == ("__debug__" : Str)) = false := by decide +kernel) (hn : Str.ofString x ≠ "__name__" := by decide +kernel) : SE C d m ns (.Name (Str.ofString x) np) (wTyp n) :=
  fun _ _ _ _ _ _ _ ok w => blt_name S hx hk hb ok (ep_same ok rfl w) hd hn

/-- the arguments with the defaults at hand -/
theorem bind_defaults {fd : FuncData} {ps : List String} {T : Addr} {oc : Value} {od : Option Addr} {osl : Array (Option Value)} {items : Array Value} {n : Nat} (S : Sta C K) (hd : fd.defaults = .ref T) (hK : K.lookup T = some ⟨oc, od, .seq items n, osl⟩)
    (h₁ : ∀ vs : List Value, vs.length = ps.length → ∃ k, bindArgs fd ⟨vs, []⟩ = seqItems? fd.defaults >>= k ∧ k (some items) = pure ((ps.map Str.ofString).zip vs)) : BindOk C fd ps (gPlain ps.length) := by
  intro A s σ vs xs R b ha g
  have hl : vs.length = ps.length := ha.length.trans g.1
  obtain ⟨k, e1, e2⟩ := h₁ vs hl
  rw [e1, hd]
  refine wpAny_bind (wpAny_seqItems (b.keep _ _ (S.kin _ _ hK)) rfl ?_)
  rw [e2]
  exact wpAny_pure ⟨vs, xs, σ, rfl, hl, ha, b, .refl .., g.2⟩
/-- *args, **kwargs, one argument -/
noncomputable def gStar : List V → Sto → (List V → Sto → Prop) → Prop := fun xs σ R => xs.length = 1 ∧ ∀ t dx, t ≠ dx → σ t = none → σ dx = none → R [.ref t, .ref dx] (upd (upd σ t (.tuple xs)) dx (.ds 0 fun _ => none))
theorem bind_star {fd : FuncData} {p q : String} (h : ∀ v : Value, bindArgs fd ⟨[v], []⟩ = (do
    let t ← newTuple [v]
    let dx ← alloc { cls := .type "dict", data := .dict #[] }
    pure [(Str.ofString p, t), (Str.ofString q, .ref dx)])) : BindOk C fd [p, q] gStar := by
  intro A s σ vs xs R b ha g
  obtain ⟨x, rfl⟩ := List.length_eq_one_iff.mp g.1
  obtain ⟨v, rfl, hv⟩ := one_of ha
  rw [h v]
  have b₁ := b.push { cls := .type "tuple", data := .seq #[v] } (.tuple [x]) rfl ⟨#[v], 0, rfl, ha⟩
  have b₂ := b₁.push { cls := .type "dict", data := .dict #[] } (.ds 0 fun _ => none) rfl or_ds0
  have hsz : (s.heap.push { cls := .type "tuple", data := .seq #[v] }).objs.size = s.heap.objs.size + 1 := Heap.size_push ..
  have hno1 : σ s.heap.objs.size = none := b.no
  have hne : s.heap.objs.size ≠ (s.heap.push { cls := .type "tuple", data := .seq #[v] }).objs.size := by rw [hsz]; exact Nat.ne_of_lt (Nat.lt_succ_self _)
  have hno2 : σ (s.heap.push { cls := .type "tuple", data := .seq #[v] }).objs.size = none := by have := b₁.no; rw [upd_ne _ _ (Ne.symm hne)] at this; exact this
  refine wpAny_bind (PySem.wpAny_newTuple (wpAny_bind (wpAny_alloc (wpAny_pure ?_))) (by show 1 ≤ sizeLine; decide))
  exact ⟨[.ref _, .ref _], [.ref _, .ref _], _, rfl, rfl, .cons rfl (.cons rfl .nil), b₂, (Kp.push ..).trans (.push ..), g.2 _ _ hne hno1 hno2⟩
noncomputable def typeV : List V → Sto → (V → Sto → Prop) → Prop
  | [.str _], σ, Q => Q (.typ "str") σ
  | _, _, _ => False
theorem op_type : OpN C d m (.type "type") typeV := by
  intro A ns env ρ σ s Q vs xs ok ha h
  unfold typeV at h
  split at h
  · obtain ⟨v, rfl, hv⟩ := one_of ha
    obtain ⟨t, rfl⟩ := abs_str hv
    exact call_type_of (typeIs_str _ _ _) (by decide) (ep_same ok rfl h)
  · exact h.elim
end
end Mine
end

section
open PySem PySem.W PyProof.Rows
set_option maxRecDepth 100000
namespace Mine

/-- only what S holds and the slots of fl are turned -/
structure Xch (S : Addr → Prop) (fl : List Addr) (h h' : Heap) : Prop where
  keep : ∀ b o, h.get? b = some o → ¬ S b → ∃ sl, h'.get? b = some { o with slots := sl }
  same : ∀ b o, h.get? b = some o → ¬ S b → b ∉ fl → h'.get? b = some o
  there : ∀ b o, h.get? b = some o → ∃ o', h'.get? b = some o'
theorem Xch.refl (S : Addr → Prop) (fl : List Addr) (h : Heap) : Xch S fl h h := ⟨fun _ o e _ => ⟨o.slots, e⟩, fun _ _ e _ _ => e, fun _ o e => ⟨o, e⟩⟩
theorem Xch.trans {S : Addr → Prop} {fl : List Addr} {h h₁ h₂ : Heap} (x : Xch S fl h h₁) (y : Xch S fl h₁ h₂) : Xch S fl h h₂ := by
  refine ⟨fun b o e hs => ?_, fun b o e hs hf => y.same b o (x.same b o e hs hf) hs hf, fun b o e => ?_⟩
  · obtain ⟨sl, e'⟩ := x.keep b o e hs
    obtain ⟨sl', e''⟩ := y.keep b _ e' hs
    exact ⟨sl', e''⟩
  · obtain ⟨o', e'⟩ := x.there b o e
    exact y.there b o' e'
theorem Xch.of_push {S : Addr → Prop} {fl : List Addr} (h : Heap) (ob : Obj) : Xch S fl h (h.push ob) :=
  ⟨fun _ o e _ => ⟨o.slots, Heap.get?_push_of_some _ e⟩, fun _ _ e _ _ => Heap.get?_push_of_some _ e, fun _ o e => ⟨o, Heap.get?_push_of_some _ e⟩⟩
theorem Xch.of_same {S : Addr → Prop} {fl : List Addr} {h h' : Heap} {a : Addr} {o' : Obj} (hs : Heap.SameBut a h h') (ha : S a) (ho : h'.get? a = some o') : Xch S fl h h' := by
  refine ⟨fun b o e hb => ⟨o.slots, (hs.2 b fun q => hb (q ▸ ha)).trans e⟩, fun b o e hb _ => (hs.2 b fun q => hb (q ▸ ha)).trans e, fun b o e => ?_⟩
  by_cases q : b = a
  · subst q; exact ⟨o', ho⟩
  · exact ⟨o, (hs.2 b q).trans e⟩
theorem Xch.of_slots {S : Addr → Prop} {fl : List Addr} {h h' : Heap} (x : Heap.SlotsOnly fl h h') : Xch S fl h h' :=
  ⟨fun b o e _ => x.2.2 b o e, fun b o e _ hf => (x.2.1 b hf).trans e, fun b o e => let ⟨sl, e'⟩ := x.2.2 b o e; ⟨_, e'⟩⟩

theorem Unp.not {σ : Sto} {h : Heap} {b : Addr} {o : Obj} (e : h.get? b = some o) (hn : σ b = none) : ¬ Unp σ h b := fun q => by
  rcases q with q | q
  · rw [q] at e; cases e
  · exact q hn

theorem ExcAt.kpf {fr : Addr → Prop} {σ σ' : Sto} {h h' : Heap} (k : Kp fr σ σ' h h') (hfr : ∀ b o vs, fr b → h.get? b = some o → o.data ≠ .fields vs) {c : Value} {x : Addr} (q : ExcAt c (fun b => σ b = none) h x) : ExcAt c (fun b => σ' b = none) h' x := by
  obtain ⟨hx, o, vs, ho, hc, hd, hsz, h1, h2⟩ := q
  have nd : ∀ (o : Obj) (vs : Array Value), o.data = .fields vs → ∀ es ep, o.data ≠ .dict es ep := fun o vs e es ep q => by rw [e] at q; cases q
  refine ⟨k.nn ho hx, o, vs, k.recs x o ho hx (fun q => hfr x o vs q ho hd) (nd o vs hd), hc, hd, hsz, ?_, h2⟩
  rcases h1 with h1 | ⟨t, ot, ts, ht, htx, h1, hot, hdt, hs⟩
  · exact .inl h1
  · exact .inr ⟨t, ot, ts, k.nn hot ht, htx, h1, k.recs t ot hot ht (fun q => hfr t ot ts q hot hdt) (nd ot ts hdt), hdt, hs⟩

section
variable {C : Cx} {d m : Nat} {A : Around} {ns : List (Str × NameKind)} {env : Env} {ρ₀ ρ : Loc} {σ₀ σ : Sto} {s₀ s : Shared}
theorem frOf_data (ok : Ok C d m A ns env ρ σ s) : ∀ b o vs, frOf env b → s.heap.get? b = some o → o.data ≠ .fields vs := fun b o vs hf e q => by
  rcases hf with rfl | ⟨x, hx⟩
  · obtain ⟨mp, ⟨o', es, ep, e', hd, _⟩, _⟩ := ok.loc
    rw [e] at e'; cases e'; rw [q] at hd; cases hd
  · obtain ⟨_, _, _, ov, o', e', hd⟩ := ok.cnew x b hx
    rw [e] at e'; cases e'; rw [q] at hd; cases hd
theorem ok_x {S : Addr → Prop} {l : List Env} {h' : Heap} {t : Nat} (hl : A.frames = some l) (ok₀ : Ok C d m A ns env ρ₀ σ₀ s₀) (ok : Ok C d m A ns env ρ σ s) (k : Kp (frOf env) σ₀ σ s₀.heap s.heap) (hS : ∀ b, S b → σ b = none ∧ Unp σ₀ s₀.heap b)
    (ch : Xch S (l.filterMap (·.frame)) s.heap h') : Ok C d m A ns env ρ σ { s with heap := h', toks := t } ∧ Kp (frOf env) σ₀ σ s₀.heap h' := by
  obtain ⟨l₀, hl₀, hf₀, hn₀⟩ := ok₀.frames
  obtain ⟨l₁, hl₁, hf₁, hn₁⟩ := ok.frames
  rw [hl] at hl₀ hl₁; cases hl₀; cases hl₁
  have prot : ∀ b o, s₀.heap.get? b = some o → σ₀ b = none → ¬ S b := fun b o e hn q => Unp.not e hn (hS b q).2
  have nofl : ∀ b o, s₀.heap.get? b = some o → (∀ es ep, o.data ≠ .dict es ep) → b ∉ l.filterMap (·.frame) := fun b o e hd hb => by
    obtain ⟨_, o', es, ep, e', hd'⟩ := hn₀ b hb
    rw [e] at e'; cases e'; exact hd _ _ hd'
  have k' : Kp (frOf env) σ₀ σ s₀.heap h' := by
    refine ⟨fun b o e hn hf => ?_, fun b o e hn hf hd => ch.same b o (k.recs b o e hn hf hd) (prot b o e hn) (nofl b o e hd), fun b o e hn => ?_, k.fresh⟩
    · obtain ⟨sl, e'⟩ := k.keep b o e hn hf
      obtain ⟨sl', e''⟩ := ch.keep b _ e' (prot b o e hn)
      exact ⟨sl', e''⟩
    · obtain ⟨o', e'⟩ := k.there b o e hn
      exact ch.there b o' e'
  obtain ⟨mp₀, ⟨oL₀, es₀, ep₀, hoL₀, _⟩, _⟩ := ok₀.loc
  obtain ⟨mp, hm, hv⟩ := ok.loc
  have hm' : h'.Ns env.locals mp := ns_slots hm fun o e => ch.keep _ o e (prot _ _ hoL₀ ok₀.new)
  have base : Base C σ { s with heap := h', toks := t } := by
    refine ⟨fun b o e => ?_, Nat.le_trans ok.above (Nat.le_of_lt hm'.lt), fun a o e => ?_, ok.base.dyn, ok.base.gens, ok.base.os⟩
    · have hσ₀ : σ₀ b = none := by
        cases q : σ₀ b with
        | none => rfl
        | some x => exact absurd (Heap.lt_size e) (Nat.not_lt.mpr (ok₀.base.dyn b (by rw [q]; simp)))
      refine ch.same b o (ok.base.keep b o e) (prot b o (ok₀.base.keep b o e) hσ₀) fun hb => ?_
      obtain ⟨hnb, _⟩ := hf₀.mem hb
      rw [hnb] at e; cases e
    · obtain ⟨ob, e1, e2⟩ := ok.base.sto a o e
      refine ⟨ob, ch.same a ob e1 (fun q => by rw [(hS a q).1] at e; cases e) (fun hb => by rw [(hn₁ a hb).1] at e; cases e), e2⟩
  refine ⟨{ base := base, depth := ok.depth, units := ok.units, frames := ⟨l, hl, funFrames_data hf₁ fun b hb o ho hd => ?_, fun b hb => ?_⟩, hand := ⟨ok.hand.1, fun e => ?_⟩, kind := ok.kind, names := ok.names, glob := ok.glob, blt := ok.blt, above := ok.above, new := ok.new, loc := ⟨mp, hm', hv⟩, cell := fun x hx => ?_, apart := ok.apart, cnew := fun x c hx => ?_, vis := ok.vis }, k'⟩
  · obtain ⟨h1, o', es, ep, e', _⟩ := hn₀ b hb
    obtain ⟨sl, e⟩ := ch.keep b o ho (prot b o' e' h1)
    exact ⟨_, e, hd⟩
  · obtain ⟨h1, o', es, ep, e', _⟩ := hn₀ b hb
    obtain ⟨h2, o, es', ep', ho, hd⟩ := hn₁ b hb
    obtain ⟨sl, e⟩ := ch.keep b o ho (prot b o' e' h1)
    exact ⟨h2, _, es', ep', e, hd⟩
  · exact (ok₀.hand.2 e).imp id fun ⟨x, e, hx⟩ => ⟨x, e, hx.kpf k' (frOf_data ok₀)⟩
  · obtain ⟨c, ov, hc, hi, hq⟩ := ok.cell x hx
    obtain ⟨h1, _, _, ov', oc, hoc, _⟩ := ok₀.cnew _ _ hc
    exact ⟨c, ov, hc, cell_slots hi fun o e => ch.keep _ o e (prot _ _ hoc h1), hq⟩
  · obtain ⟨h1, h2, h3, ov, h4⟩ := ok.cnew x c hx
    obtain ⟨h1', _, _, ov', oc, hoc, _⟩ := ok₀.cnew _ _ hx
    exact ⟨h1, h2, h3, ov, cell_slots h4 fun o e => ch.keep _ o e (prot _ _ hoc h1')⟩
end
end Mine
end

section
open PySem PySem.W PyProof.Rows
set_option maxRecDepth 100000
namespace Mine
/-- with a traceback -/
noncomputable def ExcT (c : Value) (P : Addr → Prop) (h : Heap) (x : Addr) : Prop :=
  P x ∧ ∃ o vs t ot ts, h.get? x = some o ∧ o.cls = .type "IndexError" ∧ o.data = .fields vs ∧ vs.size = 6 ∧ P t ∧ t ≠ x ∧ vs[1]? = some (.ref t) ∧ h.get? t = some ot ∧ ot.data = .fields ts ∧ 3 < ts.size ∧ vs[2]? = some c
theorem ExcT.exc {c : Value} {P : Addr → Prop} {h : Heap} {x : Addr} (q : ExcT c P h x) : ExcAt c P h x := by
  obtain ⟨hx, o, vs, t, ot, ts, h1, h2, h3, h4, h5, h6, h7, h8, h9, h10, h11⟩ := q
  exact ⟨hx, o, vs, h1, h2, h3, h4, .inr ⟨t, ot, ts, h5, h6, h7, h8, h9, h10⟩, h11⟩

section
variable {M : Model} {A : Around} {E : Value → Shared → Prop} {s : Shared} {env : Env} {outer : List Env} {base : Heap}
theorem entry_ok {P : Addr → Prop} {c : Value} {x : Addr} {o : Obj} {vs : Array Value} {head : Value} {b : Bool} (hfr : A.frames = some (env :: outer)) (hf : env.frame = some env.locals) (hl : s.heap.FunFrames base (env :: outer)) (hnew : ∀ a, s.heap.get? a = none → P a)
    (hP : P x) (ho : s.heap.get? x = some o) (hc : o.cls = .type "IndexError") (hd : o.data = .fields vs) (hsz : vs.size = 6) (h2 : vs[2]? = some c) (hnfr : x ∉ (env :: outer).filterMap (·.frame)) {Q : Unit → Shared → Prop}
    (h : ∀ h', Xch P ((env :: outer).filterMap (·.frame)) s.heap h' → ExcT c P h' x → Q () { s with heap := h' }) :
    wpAny M A (do setField (.ref x) 1 (← EntryCells.newEntry head (← frameOf env) .none (rawInt env.locals) .none (← entryPlaceOf env.locals b))) Q E s := by
  refine wpAny_bind (wpAny_frameOf_fun hfr hl hf fun h₁ hs₁ => ?_)
  refine wpAny_bind (wpAny_entryPlaceOf fun pl hpl => ?_)
  unfold EntryCells.newEntry newFields
  refine wpAny_bind (wpAny_newObj_type ?_ (hpl.sizeOk5 _ _ _ _ _))
  have hx1 : h₁.get? x = some o := (hs₁.2.1 x hnfr).trans ho
  have hx2 := Heap.get?_push_of_some (h := h₁) { cls := .type "traceback", dict := none, data := .fields ([head, .ref env.locals, .none, rawInt env.locals, .none] ++ (if pl.isEmpty then List.replicate 6 Value.none else pl)).toArray } hx1
  refine wpAny_setField hx2 hd (by omega) ?_
  have hTx : h₁.objs.size ≠ x := Nat.ne_of_gt (Heap.lt_size hx1)
  have hd₃ := Obj.data_mapFields hd (·.setIfInBounds 1 (Value.ref h₁.objs.size))
  have hg := Heap.get?_update_self (h := h₁.push { cls := .type "traceback", dict := none, data := .fields ([head, .ref env.locals, .none, rawInt env.locals, .none] ++ (if pl.isEmpty then List.replicate 6 Value.none else pl)).toArray }) (Obj.mapFields (·.setIfInBounds 1 (Value.ref h₁.objs.size))) hx2 (Obj.isFreed_of_fields hd₃)
  refine h _ (((Xch.of_slots hs₁).trans (Xch.of_push _ _)).trans (Xch.of_same (Heap.SameBut.update ..) hP hg)) ⟨hP, _, _, h₁.objs.size, _, _, hg, (Obj.cls_mapFields ..).trans hc, hd₃, by simpa using hsz, hnew _ ?_, hTx, by simp [hsz], (Heap.get?_update_other _ _ (Ne.symm hTx)).trans (Heap.get?_push_size h₁ rfl), rfl, ?_, ?_⟩
  · exact Heap.get?_none_of_le (by rw [hs₁.1]; exact Nat.le_refl _)
  · simp
  · rw [Array.getElem?_setIfInBounds_ne (by decide)]; exact h2
theorem note_ok {P : Addr → Prop} {c : Value} {x : Addr} (hfr : A.frames = some (env :: outer)) (hf : env.frame = some env.locals) (hl : s.heap.FunFrames base (env :: outer)) (hnew : ∀ a, s.heap.get? a = none → P a)
    (q : ExcAt c P s.heap x) {Q : Unit → Shared → Prop} (h : ∀ h', Xch P ((env :: outer).filterMap (·.frame)) s.heap h' → ExcT c P h' x → Q () { s with heap := h' }) : wpAny M A (noteFrame (.ref x) env) Q E s := by
  obtain ⟨hP, o, vs, ho, hc, hd, hsz, h1, h2⟩ := q
  have hnf : ∀ b o vs, s.heap.get? b = some o → o.data = .fields vs → b ∉ (env :: outer).filterMap (·.frame) := fun b o vs e hd hb => by
    obtain ⟨_, o', e', hd'⟩ := hl.mem hb
    rw [e] at e'; cases e'; exact hd' _ hd
  unfold noteFrame
  simp only [hf]
  rcases h1 with h1 | ⟨t, ot, ts, hPt, htx, h1, hot, hdt, hts⟩
  · refine wpAny_bind (wpAny_field ho hd h1 ?_)
    rw [if_neg (by decide)]
    exact entry_ok hfr hf hl hnew hP ho hc hd hsz h2 (hnf x o vs ho hd) h
  · refine wpAny_bind (wpAny_field ho hd h1 ?_)
    rw [if_pos (by rfl)]
    refine wpAny_bind (wpAny_field hot hdt (x := ts[3]) (Array.getElem?_eq_getElem hts) ?_)
    by_cases hq : (ts[3] == rawInt env.locals) = true
    · rw [if_pos hq]
      exact wpAny_pure (h _ (Xch.refl ..) ⟨hP, o, vs, t, ot, ts, ho, hc, hd, hsz, hPt, htx, h1, hot, hdt, hts, h2⟩)
    · rw [if_neg hq]
      refine wpAny_bind (wpAny_setField hot hdt hts ?_)
      have hg := Heap.get?_update_self (h := s.heap) (Obj.mapFields (·.setIfInBounds 3 Value.none)) hot (Obj.isFreed_of_fields (Obj.data_mapFields hdt _))
      have hx' : (s.heap.update t (Obj.mapFields (·.setIfInBounds 3 Value.none))).get? x = some o := (Heap.get?_update_other _ _ htx).trans ho
      have ch : Xch P ((env :: outer).filterMap (·.frame)) s.heap (s.heap.update t (Obj.mapFields (·.setIfInBounds 3 Value.none))) := Xch.of_same (Heap.SameBut.update ..) hPt hg
      refine entry_ok (base := base) (s := { s with heap := s.heap.update t (Obj.mapFields (·.setIfInBounds 3 Value.none)) }) hfr hf ?_ ?_ hP hx' hc hd hsz h2 (hnf x o vs ho hd) fun h' ch' q' => h h' (ch.trans ch') q'
      · exact funFrames_data hl fun b hb o' ho' hd' => ⟨o', (Heap.get?_update_other _ _ (show t ≠ b from fun q => hnf t ot ts hot hdt (by rw [q]; exact hb))).trans ho', hd'⟩
      · intro a ha
        refine hnew a ?_
        by_cases q : a = t
        · subst q; rw [hg] at ha; cases ha
        · rw [Heap.get?_update_other _ _ (Ne.symm q)] at ha; exact ha
theorem flight_ok {P : Addr → Prop} {c : Value} {x : Addr} {f : Option Addr} {fl : List Addr} (q : ExcT c P s.heap x) {Q : Unit → Shared → Prop} (h : ∀ h', Xch P fl s.heap h' → ExcT c P h' x → Q () { s with heap := h' }) : wpAny M A (setFlight (.ref x) f) Q E s := by
  obtain ⟨hP, o, vs, t, ot, ts, ho, hc, hd, hsz, hPt, htx, h1, hot, hdt, hts, h2⟩ := q
  unfold setFlight
  refine wpAny_bind (wpAny_field ho hd h1 ?_)
  rw [if_pos (by rfl)]
  refine wpAny_setField hot hdt hts ?_
  have hdt' := Obj.data_mapFields hdt (·.setIfInBounds 3 (f.elim Value.none fun f => rawInt f))
  have hg := Heap.get?_update_self (h := s.heap) (Obj.mapFields (·.setIfInBounds 3 (f.elim Value.none fun f => rawInt f))) hot (Obj.isFreed_of_fields hdt')
  exact h _ (Xch.of_same (Heap.SameBut.update ..) hPt hg) ⟨hP, o, vs, t, _, _, (Heap.get?_update_other _ _ htx).trans ho, hc, hd, hsz, hPt, htx, h1, hg, hdt', by simpa using hts, h2⟩
end
end Mine
end

section
open PySem PySem.W PyProof.Rows
set_option maxRecDepth 100000
namespace Mine
theorem entry_unchain : entryFor table "proto.unchain" = some Builtin.«proto.unchain» := entryFor_of_tree (by kernel_rfl)
theorem plain_unchain : plainId "proto.unchain" = true := by decide +kernel
section
variable {prog : Program} {w : World} {A : Around} {E : Value → Shared → Prop} {s : Shared} {α : Type}
/-- what is raised, here or under an exception that has no context -/
theorem raiseNew_any {e : Addr} {oe : Obj} {vs : Array Value} {Q : α → Shared → Prop} (he : s.heap.get? e = some oe) (hd : oe.data = .fields vs) (hsz : 2 < vs.size) 
    (hh : A.handled = none ∨ ∃ y oy ys, A.handled = some (.ref y) ∧ y ≠ e ∧ s.heap.get? y = some oy ∧ oy.data = .fields ys ∧ ys[2]? = some .none)
    (h : ∀ h' c, Heap.SameBut e s.heap h' → h'.get? e = some (oe.mapFields (·.setIfInBounds 2 c)) → (A.handled = none → c = vs[2]) → E (.ref e) { s with heap := h' }) :
    wpAny (model prog w) A (raiseNew (.ref e) : Sem α) Q E s := by
  unfold raiseNew
  refine wpAny_bind (wpAny_handled ?_)
  rcases hh with hh | ⟨y, oy, ys, hh, hne, hy, hdy, hy2⟩
  · rw [hh]
    refine wpAny_bind (wpAny_pure (wpAny_throw ?_))
    have := h s.heap vs[2] (Heap.SameBut.refl ..) ?_ (fun _ => rfl)
    · exact this
    · rw [he]; congr 1
      obtain ⟨c, dd, dt, sl⟩ := oe
      subst hd
      show _ = ({ cls := c, dict := dd, data := Data.fields (vs.setIfInBounds 2 vs[2]), slots := sl } : Obj)
      congr 2
      apply Array.ext_getElem?
      intro i
      by_cases q : 2 = i
      · subst q; rw [Array.getElem?_setIfInBounds_self_of_lt hsz, Array.getElem?_eq_getElem hsz]
      · rw [Array.getElem?_setIfInBounds_ne q]
  · rw [hh]
    dsimp only
    rw [if_pos (by simpa using hne)]
    refine wpAny_bind (wpAny_holding (wpAny_runValue (codeAny_builtin entry_unchain ?_)))
    rw [Around.under_plainId plain_unchain _]
    show wpAny _ _ (field (.ref y) 2 >>= _) _ _ s
    refine wpAny_bind (wpAny_field hy hdy hy2 ?_)
    rw [if_pos (by rfl)]
    refine wpAny_pure ?_
    show wpAny _ _ (updateField e 2 (.ref y) >>= _) _ _ s
    unfold updateField
    refine wpAny_bind (wpAny_bind (wpAny_load he ?_))
    rw [hd]
    dsimp only
    rw [if_pos hsz]
    refine wpAny_update he (wpAny_throw (h _ (.ref y) (Heap.SameBut.update ..) (Heap.get?_update_self _ he (Obj.isFreed_of_fields (Obj.data_mapFields hd _))) fun q => by rw [hh] at q; cases q))

/-- an item behind the end -/
theorem getItem_out {l : Addr} {items : Array Value} {k : Int} {t : Tok} {Q : Value → Shared → Prop} (hl : s.heap.IsList l items) (hj : (items.size : Int) ≤ k) (hlo : -(2 ^ 63) ≤ k) (hhi : k < 2 ^ 63)
    (hh : A.handled = none ∨ ∃ y oy ys, A.handled = some (.ref y) ∧ s.heap.get? y = some oy ∧ oy.data = .fields ys ∧ ys[2]? = some .none)
    (hE : ∀ h' tk e oe vs, (∀ b o, s.heap.get? b = some o → h'.get? b = some o) → s.heap.get? e = none → h'.get? e = some oe → oe.cls = .type "IndexError" → oe.data = .fields vs → vs.size = 6 → vs[1]? = some .none → (∃ c, vs[2]? = some c ∧ (A.handled = none → c = .none)) → E (.ref e) { s with heap := h', toks := tk }) :
    wpAny (model prog w) A (getItem (.ref l) (.int k t)) Q E s := by
  obtain ⟨o, ho, hc, ne, hd⟩ := id hl
  unfold getItem
  try with_reducible refine wpAny_holding ?_
  first | refine wpAny_bind (wpAny_pure ?_) | skip
  refine wpAny_bind (wpAny_sequenceKey hl.typeIs (by decide) ?_)
  refine wpAny_bind (wpAny_callSpecial?_slot (name := Str.ofString "__getitem__") hl.typeIs slot_list_getitem
    (wpAny_call_entry slot_list_getitem hl.typeIs entry_list_getitem ?_ (args_list_getitem _ _)))
  show wpAny _ _ (Builtin.List.listSubscript? (.int k t) >>= _) _ _ s
  refine wpAny_bind (wpAny_listSubscript_int (fitsIndex_both hlo hhi) ?_)
  clear hlo hhi
  obtain ⟨j, rfl⟩ := Int.eq_ofNat_of_zero_le (show 0 ≤ k by omega)
  have hx : items[j]? = none := Array.getElem?_eq_none (by omega)
  show wpAny _ _ ((seqItemAt l j >>= fun r => pure (r.map (j, ·))) >>= _) _ _ s
  refine wpAny_bind (wpAny_bind (wpAny_seqItemAt ho hd (wpAny_pure ?_)))
  rw [hx]
  have key : ∀ {α : Type} {Q : α → Shared → Prop} (msg : String), wpAny (model prog w) A.in1 (raiseErrorWords "IndexError" msg : Sem α) Q E s := by
    intro α Q msg
    unfold raiseErrorWords
    refine wpAny_bind (wpAny_mkText (wpAny_bind (wpAny_newExc_plain plainExc_IndexError fun h' e hm => ?_)))
    obtain ⟨hkeep, hnew, ob, t', hob, hcls, hdat⟩ := hm.newExc
    refine raiseNew_any (s := { s with heap := h', toks := s.toks + 1 }) hob hdat (by show 2 < 6; decide) ?_ fun h'' c hs'' he'' hc'' => ?_
    · rcases hh with hh | ⟨y, oy, ys, hh, hy, hdy, hy2⟩
      · exact .inl hh
      · exact .inr ⟨y, oy, ys, hh, (fun q => by rw [q, hnew] at hy; cases hy), hkeep _ _ hy, hdy, hy2⟩
    · refine hE h'' _ e _ _ (fun b o eb => (hs''.2 b fun q => by rw [q, hnew] at eb; cases eb).trans (hkeep b o eb)) hnew he'' ((Obj.cls_mapFields ..).trans hcls) (Obj.data_mapFields hdat _) (by simp) (by simp) ⟨c, by simp, fun q => hc'' q⟩
  first
    | exact wpAny_bind (wpAny_rule (key _))
    | exact wpAny_bind (wpAny_rule (wpAny_bind (key _)))
    | exact wpAny_bind (wpAny_bind (wpAny_rule (key _)))
    | exact wpAny_rule (key _)
end
section
variable {C : Cx} {d m : Nat} {ns : List (Str × NameKind)}
/-- a[i] of a list; behind the end it raises -/
noncomputable def subX (va vi : V) (σ : Sto) (Q : V → Sto → Prop) (X : Sto → Prop) : Prop := match vi with
  | .int k => getL σ va fun _ xs => 0 ≤ k ∧ k ≤ 1000000 ∧ xs.length ≤ 1000000 ∧ (∀ v, xs[k.toNat]? = some v → Q v σ) ∧ ((xs.length : Int) ≤ k → X σ)
  | _ => False
noncomputable def w2x (a b : ET) : ET := fun ρ σ Q X => a ρ σ (fun va σ => b ρ σ (fun vb σ => subX va vb σ Q X) X) X
theorem xp_new {A : Around} {env : Env} {ρ : Loc} {σ : Sto} {s : Shared} {h' : Heap} {tk : Nat} {e : Addr} {oe : Obj} {vs : Array Value} {c : Value} {X : Sto → Prop} (ok : Ok C d m A ns env ρ σ s) (hk : ∀ b o, s.heap.get? b = some o → h'.get? b = some o) (hn : s.heap.get? e = none)
    (he : h'.get? e = some oe) (hc : oe.cls = .type "IndexError") (hd : oe.data = .fields vs) (hsz : vs.size = 6) (h1 : vs[1]? = some .none) (h2 : vs[2]? = some c) (hm : m = 0 → c = .none) (x : X σ) :
    XP C d m A ns env (frE env) σ s (XE ρ X) (.ref e) { s with heap := h', toks := tk } := by
  obtain ⟨mp, ⟨oL, es, ep, hoL, _⟩, _⟩ := ok.loc
  have hσ : σ e = none := by
    cases q : σ e with
    | none => rfl
    | some o => obtain ⟨ob, e', _⟩ := ok.base.sto _ _ q; rw [hn] at e'; cases e'
  have b' : Base C σ { s with heap := h', toks := tk } := ⟨fun b o e => hk b o (ok.base.keep b o e), Nat.le_trans ok.above (Nat.le_of_lt (Heap.lt_size (hk _ _ hoL))), fun a o e => let ⟨ob, h1, h2⟩ := ok.base.sto a o e; ⟨ob, hk _ _ h1, h2⟩, ok.base.dyn, ok.base.gens, ok.base.os⟩
  exact ⟨e, c, ρ, σ, rfl, ⟨⟨hσ, .inl hn⟩, oe, vs, he, hc, hd, hsz, .inl h1, h2⟩, hm, ok.kp b' (.of_keep hk), .of_keep hk, rfl, x⟩
theorem se_subx {a i : Expr} {pos : Pos} {wa wi : ET} (ha : SE C d m ns a wa) (hi : SE C d m ns i wi) (hm : m ≠ 2) (hm' : m ≤ 3) (hs : ∀ o x, subscripted i false o x = operate [o, x] (getItem o x) := by intro _ _; rfl) : SE C d m ns (.Subscript a i pos) (w2x wa wi) := by
  intro A env ρ σ s Q X ok w
  refine Subscript_ (te_go (.refl ..) (ha A env ρ σ s _ X ok w) fun a va σ₁ s₁ ha ok₁ k₁ q₁ => te_go k₁ (hi A env ρ σ₁ s₁ _ X ok₁ q₁) fun b vb σ₂ s₂ hb ok₂ k₂ q₂ => ?_)
  unfold subX at q₂
  cases vb <;> first | exact q₂.elim | skip
  rename_i k
  obtain ⟨t, rfl⟩ := abs_int hb
  obtain ⟨l, xs, rfl, hx, h0, hk1, hsz, qv, qx⟩ := getL_elim q₂
  have hs' := hs a (.int k t)
  rw [abs_ref ha] at hs' ⊢
  obtain ⟨vs, n, e, hab⟩ := ok₂.base.list hx
  have hlen := hab.length
  by_cases hlt : k < xs.length
  · have hv : xs[k.toNat]? = some xs[k.toNat] := List.getElem?_eq_getElem (by omega)
    obtain ⟨cv, hc, hcv⟩ := hab.get hv
    exact te_quiet k₂ (tail_any (isList_of e).typeIs PySem.slot_list_getitem.lookup (wpAny_getItem_list (isList_of e) h0 (by omega) (by simpa using hc) (ep_same ok₂ hcv (qv _ hv))) hs')
  · refine tail_any (isList_of e).typeIs PySem.slot_list_getitem.lookup (getItem_out (isList_of e) (by rw [List.size_toArray]; omega) (by omega) (by omega) ?_ fun h' tk e' oe vs' hkp hn he hc hd hsz' h1 ⟨c, h2, hc2⟩ => ?_) hs'
    · rcases (show m = 0 ∨ m = 3 ∨ m = 1 by omega) with rfl | rfl | rfl
      · exact .inl (ok₂.hand.1 (.inl rfl))
      · exact .inl (ok₂.hand.1 (.inr rfl))
      · rcases ok₂.hand.2 rfl with hh | ⟨y, hh, _, oy, ys, hy, _, hdy, _, _, hy2⟩
        · exact .inl hh
        · exact .inr ⟨y, oy, ys, hh, hy, hdy, hy2⟩
    · exact (xp_new ok₂ hkp hn he hc hd hsz' h1 h2 (fun q => hc2 (ok₂.hand.1 (.inl q))) (qx (by omega))).back k₂
end
end Mine
end

section
open PySem PySem.W PyProof.Rows
set_option maxRecDepth 100000
namespace Mine

theorem ExcT.kpf {fr P P' : Addr → Prop} {σ σ' : Sto} {h h' : Heap} (k : Kp fr σ σ' h h') (hfr : ∀ b o vs, fr b → h.get? b = some o → o.data ≠ .fields vs) (hP : ∀ b, P b → σ b = none) (hP' : ∀ b o, P b → h.get? b = some o → P' b) {c : Value} {x : Addr} (q : ExcT c P h x) : ExcT c P' h' x := by
  obtain ⟨hx, o, vs, t, ot, ts, ho, hc, hd, hsz, hPt, htx, h1, hot, hdt, hts, h2⟩ := q
  have nd : ∀ (o : Obj) (vs : Array Value), o.data = .fields vs → ∀ es ep, o.data ≠ .dict es ep := fun o vs e es ep q => by rw [e] at q; cases q
  exact ⟨hP' x o hx ho, o, vs, t, ot, ts, k.recs x o ho (hP x hx) (fun q => hfr x o vs q ho hd) (nd o vs hd), hc, hd, hsz, hP' t ot hPt hot, htx, h1, k.recs t ot hot (hP t hPt) (fun q => hfr t ot ts q hot hdt) (nd ot ts hdt), hdt, hts, h2⟩

section
variable {C : Cx} {d m : Nat} {A : Around} {ns : List (Str × NameKind)} {env : Env} {ρ₀ ρ : Loc} {σ₀ σ : Sto} {s₀ s : Shared}
theorem Ok.remode {m' : Nat} {A' : Around} (ok : Ok C d m A ns env ρ σ s) (hd : A'.depth = A.depth) (hu : A'.units = A.units) (hf : A'.frames = A.frames) (hh : HM m' σ s.heap A'.handled) : Ok C d m' A' ns env ρ σ s :=
  { base := ok.base, depth := by rw [hd]; exact ok.depth, units := by rw [hu]; exact ok.units, frames := by rw [hf]; exact ok.frames, hand := hh, kind := ok.kind, names := ok.names, glob := ok.glob, blt := ok.blt, above := ok.above, new := ok.new, loc := ok.loc, cell := ok.cell, apart := ok.apart, cnew := ok.cnew, vis := ok.vis }

/-- as XP, with a traceback -/
inductive XT (C : Cx) (d m : Nat) (A : Around) (ns : List (Str × NameKind)) (env : Env) (σ : Sto) (s : Shared) (X : Loc → Sto → Prop) (e : Value) (s' : Shared) : Prop
  | mk (x : Addr) (c : Value) (ρ' : Loc) (σ' : Sto) (h1 : e = .ref x) (h2 : ExcT c (fun b => σ' b = none ∧ Unp σ s.heap b) s'.heap x) (h3 : m = 0 → c = .none) (h4 : Ok C d m A ns env ρ' σ' s') (h5 : Kp (frOf env) σ σ' s.heap s'.heap) (h6 : X ρ' σ')
theorem XT.xp {X : Loc → Sto → Prop} {e : Value} {s' : Shared} (h : XT C d m A ns env σ s X e s') : XP C d m A ns env (frOf env) σ s X e s' := by
  obtain ⟨x, c, ρ', σ', h1, h2, h3, h4, h5, h6⟩ := h
  exact ⟨x, c, ρ', σ', h1, h2.exc, h3, h4, h5, h6⟩
theorem xp_note {A' : Around} {X : Loc → Sto → Prop} {e : Value} {s' : Shared} {E : Value → Shared → Prop} {Q : Unit → Shared → Prop} (ok₀ : Ok C d m A ns env ρ₀ σ s) (hfn : InFn A env) (hf' : A'.frames = A.frames) (h : XP C d m A ns env (frOf env) σ s X e s') (q : ∀ s'', XT C d m A ns env σ s X e s'' → Q () s'') :
    wpAny C.M A' (noteFrame e env) Q E s' := by
  obtain ⟨x, c, ρ', σ', rfl, hx, hc, ok', k', hX⟩ := h
  obtain ⟨outer, hfr, hf⟩ := hfn
  obtain ⟨l, hl, hff, _⟩ := ok'.frames
  rw [hfr] at hl; cases hl
  refine note_ok (hf'.trans hfr) hf hff ?_ hx fun h' ch hT => ?_
  · intro a ha
    refine ⟨?_, Unp.back k' (.inl ha)⟩
    cases q : σ' a with
    | none => rfl
    | some o => obtain ⟨ob, e', _⟩ := ok'.base.sto _ _ q; rw [ha] at e'; cases e'
  · obtain ⟨ok'', k''⟩ := ok_x (t := s'.toks) hfr ok₀ ok' k' (fun b hb => hb) ch
    exact q _ ⟨x, c, ρ', σ', rfl, hT, hc, ok'', k'', hX⟩
theorem xt_flight {A' : Around} {X : Loc → Sto → Prop} {e : Value} {s' : Shared} {E : Value → Shared → Prop} {Q : Unit → Shared → Prop} {f : Option Addr} (ok₀ : Ok C d m A ns env ρ₀ σ s) (hfn : InFn A env) (h : XT C d m A ns env σ s X e s') (q : ∀ s'', XT C d m A ns env σ s X e s'' → Q () s'') :
    wpAny C.M A' (setFlight e f) Q E s' := by
  obtain ⟨x, c, ρ', σ', rfl, hx, hc, ok', k', hX⟩ := h
  obtain ⟨outer, hfr, hf⟩ := hfn
  refine flight_ok (fl := (env :: outer).filterMap (·.frame)) hx fun h' ch hT => ?_
  obtain ⟨ok'', k''⟩ := ok_x (t := s'.toks) hfr ok₀ ok' k' (fun b hb => hb) ch
  exact q _ ⟨x, c, ρ', σ', rfl, hT, hc, ok'', k'', hX⟩
theorem xt_head {A' : Around} {X : Loc → Sto → Prop} {e : Value} {s' : Shared} {E : Value → Shared → Prop} {Q : Value → Shared → Prop} (h : XT C d m A ns env σ s X e s') (q : ∀ t, Q (.ref t) s') : wpAny C.M A' (field e 1) Q E s' := by
  obtain ⟨x, c, ρ', σ', rfl, ⟨hP, o, vs, t, ot, ts, ho, hcl, hd, hsz, hPt, htx, h1, _⟩, hc, ok', k', hX⟩ := h
  exact wpAny_field ho hd h1 (q t)
theorem xt_back {A' : Around} {X : Loc → Sto → Prop} {e : Value} {s' : Shared} {E : Value → Shared → Prop} (ok₀ : Ok C d m A ns env ρ₀ σ s) (hfn : InFn A env) (h : XT C d m A ns env σ s X e s') (q : ∀ s'', XT C d m A ns env σ s X e s'' → E e s'') :
    cameBackBy C.M A' env E e s' := by
  unfold cameBackBy
  refine wpAny_bind (xt_head h fun t => ?_)
  rw [if_neg (show ¬ (Value.ref t == Value.none) = true from Bool.false_ne_true)]
  exact xt_flight ok₀ hfn h q
theorem xp_noted {A' A'' : Around} {X : Loc → Sto → Prop} {e : Value} {s' : Shared} {E : Value → Shared → Prop} (ok₀ : Ok C d m A ns env ρ₀ σ s) (hfn : InFn A env) (hf' : A'.frames = A.frames) (h : XP C d m A ns env (frOf env) σ s X e s') (q : ∀ s'', XT C d m A ns env σ s X e s'' → E e s'') :
    notedBy C.M A' env (cameBackBy C.M A'' env E) e s' := by
  unfold notedBy
  exact xp_note ok₀ hfn hf' h fun s'' h'' => xt_back ok₀ hfn h'' q
end

section
variable {C : Cx} {K : Frag} {d m : Nat} {ns : List (Str × NameKind)}
/-- a while that may raise -/
noncomputable def wWhileX (t : BT) (b : ST) : ST := fun ρ σ Q X => ∃ (I : Loc → Sto → Prop) (μ : Loc → Sto → Nat), I ρ σ ∧ ∀ ρ σ, I ρ σ →
  t ρ σ (fun c σ' => if c then b ρ σ' (fun f ρ'' σ'' => match f with
      | .next => I ρ'' σ'' ∧ μ ρ'' σ'' < μ ρ σ
      | .cont => I ρ'' σ'' ∧ μ ρ'' σ'' < μ ρ σ
      | .brk => Q .next ρ'' σ''
      | .ret v => Q (.ret v) ρ'' σ'') X
    else Q .next ρ σ') (X ρ)
theorem s_whilex {t : Expr} {ps : List Stmt} {pos : Pos} {wt : BT} {b : ST} (ht : SB C d m ns t wt) (hb : SS C d m ns ps b) : S1 C d m ns (.While t ps [] pos) (wWhileX wt b) := by
  intro A env ρ σ s Q X ok hf w
  obtain ⟨I, μ, hI, step⟩ := w
  refine wpAny_While (codeAny_whileLoop (fun n s' => ∃ ρ' σ', Ok C d m A ns env ρ' σ' s' ∧ Kp (frOf env) σ σ' s.heap s'.heap ∧ I ρ' σ' ∧ n = μ ρ' σ') (fun n s' h => ?_) (μ ρ σ) ⟨ρ, σ, ok, .refl .., hI, rfl⟩)
  obtain ⟨ρ', σ', ok', k', hI', rfl⟩ := h
  have rais : ∀ e s₁, XP C d m A ns env (frOf env) σ s X e s₁ → notedBy C.M A env (fun e s' => cameBackBy C.M A env (XP C d m A ns env (frOf env) σ s X) e s') e s₁ := fun e s₁ q =>
    xp_noted ok hf rfl q fun s'' q => q.xp
  refine wpAny_mono (ht A env ρ' σ' s' _ _ ok' (step ρ' σ' hI')) (fun c s₁ q => ?_) fun e s₁ q => rais e s₁ ((q.imp frE_of fun ρ' σ' e => e.1 ▸ e.2).back k')
  obtain ⟨σ₁, ok₁, k₁, q₁⟩ := q
  have k₁' := k'.trans (k₁.wk frE_of)
  cases c with
  | true =>
    simp only [if_true] at q₁ ⊢
    refine wpAny_mono (hb A env ρ' σ₁ s₁ _ _ ok₁ hf q₁) (fun fl s₂ q => ?_) fun e s₂ q => rais e s₂ (q.back k₁')
    obtain ⟨ρ₂, σ₂, ok₂, k₂, q₂⟩ := q
    have k := k₁'.trans k₂
    cases fl with
    | next => exact ⟨_, q₂.2, ρ₂, σ₂, ok₂, k, q₂.1, rfl⟩
    | cont => exact ⟨_, q₂.2, ρ₂, σ₂, ok₂, k, q₂.1, rfl⟩
    | brk => exact ⟨ρ₂, σ₂, ok₂, k, q₂⟩
    | ret v => exact ⟨ρ₂, σ₂, ok₂, k, q₂⟩
  | false =>
    simp only [Bool.false_eq_true, if_false] at q₁ ⊢
    exact wpAny_execs_nil ⟨ρ', σ₁, ok₁, k₁', q₁⟩

theorem sub_ie : isSubtype (.type "IndexError") (.type "IndexError") = pure true := by rw [isSubtype_type]; kernel_rfl
theorem sub_ie_base : isSubtype (.type "IndexError") (.type "BaseException") = pure true := by rw [isSubtype_type]; kernel_rfl
theorem meta_ie : isSubtype (.type ((Manifest.find? "IndexError").elim "type" fun x => x.metatype)) (.type "tuple") = pure false := by
  rw [show ((Manifest.find? "IndexError").elim "type" fun x => x.metatype) = "type" by decide +kernel, isSubtype_type]; kernel_rfl

/-- try .. except IndexError -/
noncomputable def wTry (b h : ST) : ST := fun ρ σ Q _ => b ρ σ Q fun ρ σ => h ρ σ Q fun _ _ => False
theorem s_try {body suite : List Stmt} {b₀ : Stmt} {np hpos pos : Pos} {b h : ST} (S : Sta C K) (hb : SS C d 3 ns body b) (hh : SS C d 2 ns (b₀ :: suite) h) (hx : nsIn K mainGlobals (Str.ofString "IndexError") = some none) (hk : ns.lookup (Str.ofString "IndexError") = some .globalImplicit) :
    S1 C d 0 ns (.Try body [.ExceptHandler (some (.Name (Str.ofString "IndexError") np)) none (b₀ :: suite) hpos] [] [] pos) (wTry b h) := by
  intro A env ρ σ s Q X ok hf w
  have hA : A.handled = none := ok.hand.1 (.inl rfl)
  have ok3 : Ok C d 3 A ns env ρ σ s := ok.remode rfl rfl rfl ⟨fun _ => hA, fun e => by cases e⟩
  have back : ∀ {m' A' ρ' σ' s'}, A'.depth = A.depth → A'.units = A.units → A'.frames = A.frames → Ok C d m' A' ns env ρ' σ' s' → Ok C d 0 A ns env ρ' σ' s' := fun h1 h2 h3 o => o.remode h1.symm h2.symm h3.symm ⟨fun _ => hA, fun e => by cases e⟩
  refine wpAny_Try_except (wpAny_mono (hb A env ρ σ s _ _ ok3 hf w) (fun fl s₁ q => ?_) fun e s₁ q => ?_)
  · obtain ⟨ρ₁, σ₁, ok₁, k₁, q₁⟩ := q
    have : SP C d 0 A ns env σ s Q fl s₁ := ⟨ρ₁, σ₁, back rfl rfl rfl ok₁, k₁, q₁⟩
    cases fl with
    | next => exact wpAny_execs_nil this
    | _ => exact this
  · refine xp_note ok3 hf rfl q fun s₂ q₂ => xt_flight ok3 hf q₂ fun s₃ q₃ => ?_
    obtain ⟨x, c, ρ', σ', rfl, hx', hc, ok', k', hX⟩ := q₃
    have okm : Ok C d 2 (A.mark (some (.ref x))) ns env ρ' σ' s₃ := ok'.remode rfl rfl rfl ⟨fun e => by omega, fun e => by cases e⟩
    obtain ⟨outer, hfr, hff⟩ := id hf
    refine wpAny_handleBy_builtin (X := "IndexError") (T := "IndexError") (b := true) sub_ie_base meta_ie sub_ie (blt_name S hx hk boot_IndexError okm ⟨rfl, ?_, ?_⟩)
    · obtain ⟨_, o, vs, t, ot, ts, ho, hcl, _⟩ := hx'
      exact ⟨o, ho, hcl⟩
    · simp only [if_true]
      have xt : XT C d 3 A ns env σ s (fun ρ σ => h ρ σ Q fun _ _ => False) (.ref x) s₃ := ⟨x, c, ρ', σ', rfl, hx', hc, ok', k', hX⟩
      refine xt_flight ok3 hf xt fun s₄ q₄ => ?_
      obtain ⟨x', c', ρ₄, σ₄, e4, hx4, hc4, ok4, k4, hX4⟩ := q₄
      have okm4 : Ok C d 2 (A.mark (some (.ref x))) ns env ρ₄ σ₄ s₄ := ok4.remode rfl rfl rfl ⟨fun e => by omega, fun e => by cases e⟩
      refine wpAny_mono (hh (A.mark (some (.ref x))) env ρ₄ σ₄ s₄ _ _ okm4 ⟨outer, hfr, hff⟩ hX4) (fun fl s₅ q => ?_) fun _ _ q => (q.no fun _ _ e => e).elim
      obtain ⟨ρ₅, σ₅, ok₅, k₅, q₅⟩ := q
      exact ⟨ρ₅, σ₅, back (A' := A.mark (some (.ref x))) rfl rfl rfl ok₅, k4.trans k₅, q₅⟩

/-- try .. finally -/
noncomputable def wFin (b f : ST) : ST := fun ρ σ Q X => b ρ σ (fun fl ρ σ => f ρ σ (fun g ρ σ => match g with | .next => Q fl ρ σ | g => Q g ρ σ) X) (fun ρ σ => f ρ σ (fun g ρ σ => match g with | .next => X ρ σ | _ => False) X)
theorem s_fin {body fs : List Stmt} {f₀ : Stmt} {pos : Pos} {b f : ST} (hb : SS C d 0 ns body b) (hf3 : SS C d 3 ns (f₀ :: fs) f) (hf1 : SS C d 1 ns (f₀ :: fs) f) : S1 C d 3 ns (.Try body [] [] (f₀ :: fs) pos) (wFin b f) := by
  intro A env ρ σ s Q X ok hf w
  have hA : A.handled = none := ok.hand.1 (.inr rfl)
  have ok0 : Ok C d 0 A ns env ρ σ s := ok.remode rfl rfl rfl ⟨fun _ => hA, fun e => by cases e⟩
  have m3 : ∀ {m' A' ρ' σ' s'}, A'.depth = A.depth → A'.units = A.units → A'.frames = A.frames → Ok C d m' A' ns env ρ' σ' s' → Ok C d 3 A ns env ρ' σ' s' := fun h1 h2 h3 o => o.remode h1.symm h2.symm h3.symm ⟨fun _ => hA, fun e => by cases e⟩
  have plain : ∀ (fl : Flow) s₁, SP C d 0 A ns env σ s (fun fl ρ σ => f ρ σ (fun g ρ σ => match g with | .next => Q fl ρ σ | g => Q g ρ σ) X) fl s₁ → wpAny C.M A (execs (f₀ :: fs) env) (fun g s' => match g with | .next => SP C d 3 A ns env σ s Q fl s' | g => SP C d 3 A ns env σ s Q g s') (notedBy C.M A env (cameBackBy C.M A env (XP C d 3 A ns env (frOf env) σ s X))) s₁ := by
    intro fl s₁ q
    obtain ⟨ρ₁, σ₁, ok₁, k₁, q₁⟩ := q
    have run : ∀ afl, f ρ₁ σ₁ (fun g ρ σ => match g with | .next => Q afl ρ σ | g => Q g ρ σ) X → (∀ ρ σ, Q afl ρ σ → FlR Q ρ σ fl) → wpAny C.M A (execs (f₀ :: fs) env) (fun g s' => match g with | .next => SP C d 3 A ns env σ s Q fl s' | g => SP C d 3 A ns env σ s Q g s') (notedBy C.M A env (cameBackBy C.M A env (XP C d 3 A ns env (frOf env) σ s X))) s₁ := by
      intro afl q₁ hfl
      refine wpAny_mono (hf3 A env ρ₁ σ₁ s₁ _ _ (m3 rfl rfl rfl ok₁) hf q₁) (fun g s₂ q => ?_) fun e s₂ q => xp_noted ok hf rfl (q.back k₁) fun s'' q => q.xp
      obtain ⟨ρ₂, σ₂, ok₂, k₂, q₂⟩ := q
      cases g with
      | next => exact ⟨ρ₂, σ₂, ok₂, k₁.trans k₂, hfl _ _ q₂⟩
      | brk => exact ⟨ρ₂, σ₂, ok₂, k₁.trans k₂, q₂⟩
      | cont => exact ⟨ρ₂, σ₂, ok₂, k₁.trans k₂, q₂⟩
      | ret v => exact ⟨ρ₂, σ₂, ok₂, k₁.trans k₂, q₂⟩
    cases fl with
    | next => exact run .next q₁ fun _ _ q => q
    | brk => exact run .brk q₁ fun _ _ q => q
    | cont => exact run .cont q₁ fun _ _ q => q
    | ret v => obtain ⟨av, hav, q₁⟩ := q₁; exact run (.ret av) q₁ fun _ _ q => ⟨av, hav, q⟩
  refine wpAny_Try_finally (wpAny_mono (hb A env ρ σ s _ _ ok0 hf w) (fun fl s₁ q => ?_) fun e s₁ q => ?_)
  · cases fl with
    | next => exact wpAny_execs_nil (plain _ _ q)
    | brk => exact plain _ _ q
    | cont => exact plain _ _ q
    | ret v => exact plain _ _ q
  · refine xp_note ok0 hf rfl q fun s₂ q₂ => ?_
    refine ⟨?_, xp_note ok0 hf rfl q₂.xp fun s₃ q₃ => xt_flight ok0 hf q₃ fun s₄ q₄ => ?_⟩
    · obtain ⟨x, c, ρ', σ', rfl, _⟩ := q₂
      exact ref_ne_byPass x
    · obtain ⟨x, c, ρ', σ', rfl, hx, hc, ok', k', hX⟩ := q₄
      have hc0 := hc rfl
      subst hc0
      have hand1 : HM 1 σ' s₄.heap (A.mark (some (.ref x))).handled := ⟨fun e => by omega, fun _ => .inr ⟨x, rfl, hx.exc.mono fun b q => q.1⟩⟩
      have okm : Ok C d 1 (A.mark (some (.ref x))) ns env ρ' σ' s₄ := ok'.remode rfl rfl rfl hand1
      obtain ⟨outer, hfr, hff⟩ := id hf
      refine wpAny_mono (hf1 (A.mark (some (.ref x))) env ρ' σ' s₄ _ _ okm ⟨outer, hfr, hff⟩ hX) (fun g s₅ q => ?_) fun e s₅ q => ?_
      · obtain ⟨ρ₅, σ₅, ok₅, k₅, q₅⟩ := q
        cases g with
        | next =>
          have xt : XT C d 3 A ns env σ s X (.ref x) s₅ := ⟨x, .none, ρ₅, σ₅, rfl, hx.kpf k₅ (frOf_data ok') (fun b q => q.1) (fun b o q e => ⟨k₅.nn e q.1, q.2⟩), (fun e => by cases e), m3 (A' := A.mark (some (.ref x))) rfl rfl rfl ok₅, k'.trans k₅, q₅⟩
          unfold PySem.passOn
          refine wpAny_bind (xt_head xt fun t => ?_)
          rw [if_neg (show ¬ (Value.ref t == Value.none) = true from Bool.false_ne_true)]
          exact wpAny_bind (xt_flight ok hf xt fun s₆ q₆ => wpAny_throw q₆.xp)
        | brk => exact q₅.elim
        | cont => exact q₅.elim
        | ret v => obtain ⟨_, _, q₅⟩ := q₅; exact q₅.elim
      · have q' : XP C d 1 (A.mark (some (.ref x))) ns env (frOf env) σ s X e s₅ := q.back k'
        have q3 : XP C d 3 A ns env (frOf env) σ s X e s₅ := by
          obtain ⟨x', c', ρ₅, σ₅, h1, h2, h3, h4, h5, h6⟩ := q'
          exact ⟨x', c', ρ₅, σ₅, h1, h2, (fun e => by cases e), m3 (A' := A.mark (some (.ref x))) rfl rfl rfl h4, h5, h6⟩
        exact xp_noted ok hf rfl q3 fun s'' q => q.xp
end
end Mine
end

section
open PySem PySem.W PyProof.Rows
set_option maxRecDepth 100000
namespace Mine
/-- the script: a list of ints of the text's own heap -/
structure Scr (C : Cx) (a : Addr) (ms : List Int) : Prop where
  at_ : ∃ vs : List Value, C.base.IsList a vs.toArray ∧ IntsAre vs ms
  few : ms.length ≤ 1000
section
variable {C : Cx} {K : Frag} {d m : Nat} {ns : List (Str × NameKind)} {a : Addr} {ms : List Int}
theorem Scr.here {A : Around} {env : Env} {ρ : Loc} {σ : Sto} {s : Shared} (R : Scr C a ms) (ok : Ok C d m A ns env ρ σ s) : ∃ vs : List Value, s.heap.IsList a vs.toArray ∧ IntsAre vs ms ∧ vs.length = ms.length := by
  obtain ⟨vs, ⟨o, ho, r⟩, hi⟩ := R.at_
  exact ⟨vs, ⟨o, ok.base.keep _ _ ho, r⟩, hi, hi.length⟩
/-- len(script) -/
noncomputable def wLenB (x : String) (a : Addr) (ms : List Int) : ET := fun ρ σ Q _ => ρ x = some (.ref a) ∧ Q (.int ms.length) σ
theorem se_len_base {x : String} {np xp pos : Pos} (S : Sta C K) (R : Scr C a ms) (hx : nsIn K mainGlobals (Str.ofString "len") = some none) (hk : ns.lookup (Str.ofString "len") = some .globalImplicit)
    (h1 : (Str.ofString x == ("__debug__" : Str)) = false := by decide +kernel) (h2 : (Str.ofString x == ("__classdict__" : Str)) = false := by decide +kernel) :
    SE C d m ns (.Call (.Name (Str.ofString "len") np) [.Name (Str.ofString x) xp] [] pos) (wLenB x a ms) := by
  intro A env ρ σ s Q X ok w
  refine wpAny_Call_ofName (blt_name S hx hk boot_len ok ?_)
  refine Calls.callWith_builtin rfl (args_one (fun _ => rfl) (te_go (.refl ..) (se_name (x := x) (pos := xp) h1 h2 A env ρ σ s (fun v σ' => v = .ref a ∧ σ' = σ) X ok (by show opt (ρ x) _; rw [w.1]; exact ⟨rfl, rfl⟩)) fun v av σ₁ s₁ hv ok₁ k₁ q₁ => ?_))
  obtain ⟨rfl, rfl⟩ := q₁
  rw [abs_ref hv]
  obtain ⟨vs, hl, hi, hlen⟩ := R.here ok₁
  have hf := R.few
  refine te_quiet k₁ (PyProof.Rows.len_list hl (by rw [List.size_toArray]; omega) ?_)
  rw [List.size_toArray, hlen]
  exact ep_tok ok₁ rfl w.2
/-- script[:6] -/
noncomputable def wSlB (x : String) (a : Addr) (ms : List Int) (n : Nat) : ET := fun ρ σ Q _ => ρ x = some (.ref a) ∧ ∀ b, σ b = none → Q (.ref b) (upd σ b (.list ((ms.take n).map V.int)))
theorem se_sl_base {x : String} {n : Nat} {i : Int} {k : Nat} {xp cp p pos : Pos} (R : Scr C a ms) (hi : i = (n : Int))
    (h1 : (Str.ofString x == ("__debug__" : Str)) = false := by decide +kernel) (h2 : (Str.ofString x == ("__classdict__" : Str)) = false := by decide +kernel) :
    SE C d m ns (.Subscript (.Name (Str.ofString x) xp) (.Slice none (some (.Constant (.int i) k cp)) none p) pos) (wSlB x a ms n) := by
  intro A env ρ σ s Q X ok w
  refine wpAny_Subscript_list_slice (te_go (.refl ..) (se_name (x := x) (pos := xp) h1 h2 A env ρ σ s (fun v σ' => v = .ref a ∧ σ' = σ) X ok (by show opt (ρ x) _; rw [w.1]; exact ⟨rfl, rfl⟩)) fun v av σ₁ s₁ hv ok₁ k₁ q₁ => evalPart_none_step (evalPart_some_step ?_)) (fun _ _ => rfl)
  obtain ⟨rfl, rfl⟩ := q₁
  rw [abs_ref hv]
  refine wpAny_Constant_int ?_
  have ok₂ : Ok C d m A ns env ρ σ₁ { s₁ with toks := s₁.toks + 1 } := ok₁.kp (ok₁.base.tok _) (.refl ..)
  obtain ⟨vs, hl, hin, hlen⟩ := R.here ok₂
  have hf := R.few
  refine ⟨a, vs.toArray, none, some i, rfl, hl, by rw [List.size_toArray]; exact Nat.le_trans (by omega : vs.length ≤ 1000) (by decide), .none, .int i _, ?_⟩
  subst hi
  obtain ⟨ok₃, k₃⟩ := ok_pushedM (ob := { cls := .type "slice", data := .fields #[.none, .int (n : Int) s₁.toks, .none] }) (t := s₁.toks + 1) ok₂
  rw [show slicePick vs.toArray none (some (n : Int)) none = (vs.take n).toArray from slicePick_upto' _ _]
  rw [← Heap.size_push s₁.heap { cls := .type "slice", data := .fields #[.none, .int (n : Int) s₁.toks, .none] }]
  refine (ep_push (s := { s₁ with heap := s₁.heap.push { cls := .type "slice", data := .fields #[.none, .int (n : Int) s₁.toks, .none] }, toks := s₁.toks + 1 }) (t := s₁.toks + 1) (.list ((ms.take n).map V.int)) ok₃ rfl ⟨_, 0, rfl, ?_⟩ (w.2 _ ok₃.base.no)).back (k₁.trans k₃)
  show AbsL (vs.take n).toArray.toList _
  have := (of_ints hin).take n
  rw [← List.map_take] at this
  simpa using this

noncomputable def bodyIs (K : Frag) (f : Addr) (ns : List (Str × NameKind)) (body : List Stmt) : Prop := ∃ oc od fd osl, K.lookup f = some ⟨oc, od, .func fd, osl⟩ ∧ fd.body = .stmts body ∧ fd.scope.names = ns
theorem ss_fn {f : Addr} {fd : FuncData} {oc : Value} {od : Option Addr} {osl : Array (Option Value)} {body : List Stmt} {W : ST} (hK : K.lookup f = some ⟨oc, od, .func fd, osl⟩) (hbody : fd.body = .stmts body) (hs : SS C d 0 fd.scope.names body W) :
    ∃ ns body, bodyIs K f ns body ∧ SS C d 0 ns body W := ⟨_, _, ⟨_, _, _, _, hK, hbody, rfl⟩, hs⟩
end
end Mine
end

section
open PySem PySem.W PyProof.Rows
namespace Mine
/-- where the class _Ignore stands in the law's heap -/
noncomputable abbrev cI : Addr := 79
end Mine
end

section
open PySem PySem.W PyProof.Rows
set_option maxRecDepth 100000
namespace Mine

noncomputable def W__siftdown : ST := wSeq (wAsg "newitem" (w2 subW (wNm "heap") (wNm "pos"))) (wSeq (wWhile (w2b gtV (wNm "pos") (wNm "startpos")) (wSeq (wAsg "parentpos" (w2 shrV (w2 (i2 (· - ·)) (wNm "pos") (wInt 1)) (wInt 1))) (wSeq (wAsg "parent" (w2 subW (wNm "heap") (wNm "parentpos"))) (wSeq (wIte (w2b ltV (wNm "newitem") (wNm "parent")) (wSeq (wSet (wNm "heap") (wNm "pos") (wNm "parent")) (wSeq (wAsg "pos" (wNm "parentpos")) (wSeq (wCont) (wDone)))) (wDone)) (wSeq (wBrk) (wDone)))))) (wSeq (wSet (wNm "heap") (wNm "pos") (wNm "newitem")) (wDone)))
noncomputable def T__siftdown : List V → Sto → (V → Sto → Prop) → Prop := fnT ["heap", "startpos", "pos"] (gPlain 3) W__siftdown

noncomputable def W_heappush : ST := wSeq (wExpr (wMethL appendV (wNm "heap") (wCons (wNm "item") (wNil)))) (wSeq (wExpr (wCall T__siftdown (wCons (wNm "heap") (wCons (wInt 0) (wCons (w2 (i2 (· - ·)) (wCall lenV (wCons (wNm "heap") (wNil))) (wInt 1)) (wNil)))))) (wDone))
noncomputable def T_heappush : List V → Sto → (V → Sto → Prop) → Prop := fnT ["heap", "item"] (gPlain 2) W_heappush

noncomputable def W__siftup : ST := wSeq (wAsg "endpos" (wCall lenV (wCons (wNm "heap") (wNil)))) (wSeq (wAsg "startpos" (wNm "pos")) (wSeq (wAsg "newitem" (w2 subW (wNm "heap") (wNm "pos"))) (wSeq (wAsg "childpos" (w2 addV (w2 mulSV (wInt 2) (wNm "pos")) (wInt 1))) (wSeq (wWhile (w2b ltV (wNm "childpos") (wNm "endpos")) (wSeq (wAsg "rightpos" (w2 addV (wNm "childpos") (wInt 1))) (wSeq (wIte (wAndB (w2b ltV (wNm "rightpos") (wNm "endpos")) (wAndB (wNot (w2b ltV (w2 subW (wNm "heap") (wNm "childpos")) (w2 subW (wNm "heap") (wNm "rightpos")))) (wTrueB))) (wSeq (wAsg "childpos" (wNm "rightpos")) (wDone)) (wDone)) (wSeq (wSet (wNm "heap") (wNm "pos") (w2 subW (wNm "heap") (wNm "childpos"))) (wSeq (wAsg "pos" (wNm "childpos")) (wSeq (wAsg "childpos" (w2 addV (w2 mulSV (wInt 2) (wNm "pos")) (wInt 1))) (wDone))))))) (wSeq (wSet (wNm "heap") (wNm "pos") (wNm "newitem")) (wSeq (wExpr (wCall T__siftdown (wCons (wNm "heap") (wCons (wNm "startpos") (wCons (wNm "pos") (wNil)))))) (wDone)))))))
noncomputable def T__siftup : List V → Sto → (V → Sto → Prop) → Prop := fnT ["heap", "pos"] (gPlain 2) W__siftup

noncomputable def W_heappop : ST := wSeq (wAsg "lastelt" (wMethL popV (wNm "heap") (wNil))) (wSeq (wIte (wTru (wNm "heap")) (wSeq (wAsg "returnitem" (w2 subW (wNm "heap") (wInt 0))) (wSeq (wSet (wNm "heap") (wInt 0) (wNm "lastelt")) (wSeq (wExpr (wCall T__siftup (wCons (wNm "heap") (wCons (wInt 0) (wNil))))) (wSeq (wRet (wNm "returnitem")) (wDone))))) (wDone)) (wSeq (wRet (wNm "lastelt")) (wDone)))
noncomputable def T_heappop : List V → Sto → (V → Sto → Prop) → Prop := fnT ["heap"] (gPlain 1) W_heappop

noncomputable def W__kind : ST := wSeq (wAsg "t" (wCall typeV (wCons (wNm "x") (wNil)))) (wSeq (wIte (w2b isV (wNm "t") (wTyp "str")) (wSeq (wRet (wStr "")) (wDone)) (wDone)) (wFailS))
noncomputable def T__kind : List V → Sto → (V → Sto → Prop) → Prop := fnT ["name", "x"] (gPlain 2) W__kind

noncomputable def W__c_path : ST := wSeq (wIte (wAndB (w2b eqV (wCall lenV (wCons (wNm "args") (wNil))) (wInt 1)) (wAndB (wNot (wTru (wNm "kwargs"))) (wTrueB))) (wSeq (wAsg "x" (w2 subW (wNm "args") (wInt 0))) (wDone)) (wFailS)) (wSeq (wAsg "k" (wCall T__kind (wCons (wNm "name") (wCons (wNm "x") (wNil))))) (wSeq (wIte (wTru (wNm "k")) (wFailS) (wDone)) (wSeq (wRet (wNm "x")) (wDone))))
noncomputable def T__c_path : List V → Sto → (V → Sto → Prop) → Prop := fnT ["name", "cname", "argname", "args", "kwargs"] (gPlain 5) W__c_path

noncomputable def W__splitroot : ST := wSeq (wAsg "sep" (wStr "/")) (wSeq (wAsg "empty" (wStr "")) (wSeq (wIte (w2b neV (wSlStr (wNm "p") (wInt 1)) (wNm "sep")) (wSeq (wRet (wCall newT (wCons (wNm "empty") (wCons (wNm "empty") (wCons (wNm "p") (wNil)))))) (wDone)) (wFailS)) (wDone)))
noncomputable def T__splitroot : List V → Sto → (V → Sto → Prop) → Prop := fnT ["p"] (gPlain 1) W__splitroot

noncomputable def W__normpath : ST := wSeq (wAsg "sep" (wStr "/")) (wSeq (wAsg "dot" (wStr ".")) (wSeq (wAsg "dotdot" (wStr "..")) (wSeq (wIte (wNot (wTru (wNm "path"))) (wSeq (wRet (wNm "dot")) (wDone)) (wDone)) (wSeq (wAsgT ["_", "initial_slashes", "path"] (wCall T__splitroot (wCons (wNm "path") (wNil)))) (wSeq (wAsg "comps" (wMethS splitV (wNm "path") (wCons (wNm "sep") (wNil)))) (wSeq (wAsg "new_comps" (wCall newL (wNil))) (wSeq (wFor (tg1 "comp") (wItVal (wNm "comps")) (wSeq (wIte (wOrB (wNot (wTru (wNm "comp"))) (wOrB (w2b eqV (wNm "comp") (wNm "dot")) (wFalseB))) (wFailS) (wDone)) (wSeq (wIte (wOrB (w2b neV (wNm "comp") (wNm "dotdot")) (wFailA)) (wSeq (wExpr (wMethL appendV (wNm "new_comps") (wCons (wNm "comp") (wNil)))) (wDone)) (wFailS)) (wDone)))) (wSeq (wAsg "comps" (wNm "new_comps")) (wSeq (wAsg "path" (w2 addV (wNm "initial_slashes") (wMethS joinV (wNm "sep") (wCons (wNm "comps") (wNil))))) (wSeq (wRet (wOrV (wNm "path") (wNm "dot"))) (wDone)))))))))))
noncomputable def T__normpath : List V → Sto → (V → Sto → Prop) → Prop := fnT ["path"] (gPlain 1) W__normpath

noncomputable def W_normpath : ST := wSeq (wRet (wCall T__normpath (wCons (wCall T__c_path (wCons (wStr "normpath") (wCons (wStr "_path_normpath") (wCons (wStr "path") (wCons (wNm "args") (wCons (wNm "kwargs") (wNil))))))) (wNil)))) (wDone)
noncomputable def T_normpath : List V → Sto → (V → Sto → Prop) → Prop := fnT ["args", "kwargs"] gStar W_normpath

noncomputable def W___init__ : ST := wSeq (wSetA cI "_mods" (wNm "self") (wIf (wNot (wTru (wNm "modules"))) (wCall setV (wNil)) (wCall setV (wCons (wNm "modules") (wNil))))) (wSeq (wSetA cI "_dirs" (wNm "self") (wIf (wNot (wTru (wNm "dirs"))) (wCall newL (wNil)) (wComp [] (tg1 "d") (wItVal (wNm "dirs")) (wTrueB) (wCall T_normpath (wCons (wNm "d") (wNil)))))) (wSeq (wSetA cI "_ignore" (wNm "self") (wDict1s (wStr "<string>") (wInt 1))) (wDone)))
noncomputable def T___init__ : List V → Sto → (V → Sto → Prop) → Prop := fnT ["self", "modules", "dirs"] (gPlain 3) W___init__

noncomputable def W_names : ST := wSeq (wIte (w2b inV (wNm "modulename") (wAttr cI "_ignore" (wNm "self"))) (wSeq (wRet (w2 subW (wAttr cI "_ignore" (wNm "self")) (wNm "modulename"))) (wDone)) (wDone)) (wSeq (wIte (w2b inV (wNm "modulename") (wAttr cI "_mods" (wNm "self"))) (wSeq (wSet (wAttr cI "_ignore" (wNm "self")) (wNm "modulename") (wInt 1)) (wSeq (wRet (wInt 1)) (wDone))) (wDone)) (wSeq (wFor (tg1 "mod") (wItSet (wAttr cI "_mods" (wNm "self"))) (wSeq (wIte (wTru (wMethS startsV (wNm "modulename") (wCons (w2 addV (wNm "mod") (wStr ".")) (wNil)))) (wSeq (wSet (wAttr cI "_ignore" (wNm "self")) (wNm "modulename") (wInt 1)) (wSeq (wRet (wInt 1)) (wDone))) (wDone)) (wDone))) (wSeq (wIte (w2b isV (wNm "filename") (wNone)) (wSeq (wSet (wAttr cI "_ignore" (wNm "self")) (wNm "modulename") (wInt 1)) (wSeq (wRet (wInt 1)) (wDone))) (wDone)) (wSeq (wFor (tg1 "d") (wItVal (wAttr cI "_dirs" (wNm "self"))) (wSeq (wIte (wTru (wMethS startsV (wNm "filename") (wCons (w2 addV (wNm "d") (wStr "/")) (wNil)))) (wSeq (wSet (wAttr cI "_ignore" (wNm "self")) (wNm "modulename") (wInt 1)) (wSeq (wRet (wInt 1)) (wDone))) (wDone)) (wDone))) (wSeq (wSet (wAttr cI "_ignore" (wNm "self")) (wNm "modulename") (wInt 0)) (wSeq (wRet (wInt 0)) (wDone)))))))
noncomputable def T_names : List V → Sto → (V → Sto → Prop) → Prop := fnT ["self", "filename", "modulename"] (gPlain 3) W_names

noncomputable def W_sorted_list_difference : ST := wSeq (wAsg2 "i" "j" (wInt 0)) (wSeq (wAsg "missing" (wCall newL (wNil))) (wSeq (wAsg "unexpected" (wCall newL (wNil))) (wSeq (wWhile (wTru (wBool true)) (wSeq (wTry (wSeq (wAsg "e" (w2x (wNm "expected") (wNm "i"))) (wSeq (wAsg "a" (w2x (wNm "actual") (wNm "j"))) (wSeq (wIte (w2b ltV (wNm "e") (wNm "a")) (wSeq (wExpr (wMethL appendV (wNm "missing") (wCons (wNm "e") (wNil)))) (wSeq (wAug "i" (wInt 1)) (wSeq (wWhileX (w2b eqV (w2x (wNm "expected") (wNm "i")) (wNm "e")) (wSeq (wAug "i" (wInt 1)) (wDone))) (wDone)))) (wSeq (wIte (w2b gtV (wNm "e") (wNm "a")) (wSeq (wExpr (wMethL appendV (wNm "unexpected") (wCons (wNm "a") (wNil)))) (wSeq (wAug "j" (wInt 1)) (wSeq (wWhileX (w2b eqV (w2x (wNm "actual") (wNm "j")) (wNm "a")) (wSeq (wAug "j" (wInt 1)) (wDone))) (wDone)))) (wSeq (wAug "i" (wInt 1)) (wSeq (wFin (wSeq (wWhileX (w2b eqV (w2x (wNm "expected") (wNm "i")) (wNm "e")) (wSeq (wAug "i" (wInt 1)) (wDone))) (wDone)) (wSeq (wAug "j" (wInt 1)) (wSeq (wWhileX (w2b eqV (w2x (wNm "actual") (wNm "j")) (wNm "a")) (wSeq (wAug "j" (wInt 1)) (wDone))) (wDone)))) (wDone)))) (wDone))) (wDone)))) (wSeq (wExpr (wMethL extendV (wNm "missing") (wCons (wSlFrom (wNm "expected") (wNm "i")) (wNil)))) (wSeq (wExpr (wMethL extendV (wNm "unexpected") (wCons (wSlFrom (wNm "actual") (wNm "j")) (wNil)))) (wSeq (wBrk) (wDone))))) (wDone))) (wSeq (wRet (wCall newT (wCons (wNm "missing") (wCons (wNm "unexpected") (wNil))))) (wDone)))))
noncomputable def T_sorted_list_difference : List V → Sto → (V → Sto → Prop) → Prop := fnT ["expected", "actual"] (gPlain 2) W_sorted_list_difference

end Mine
end

section
open PySem PySem.W PyProof.Rows
set_option maxRecDepth 100000
namespace Mine

noncomputable def W__law_parents : ST := wSeq (wAsg "parents" (wCall newL (wNil))) (wSeq (wFor (tg1 "k") (wItRange (wCons (wCall lenV (wCons (wNm "told") (wNil))) (wNil))) (wSeq (wIte (w2b ltV (wNm "k") (wInt 4)) (wSeq (wExpr (wMethL appendV (wNm "parents") (wCons (w2 (i2 (· - ·)) (w2 modV (w2 subW (wNm "told") (wNm "k")) (w2 addV (wNm "k") (wInt 1))) (wInt 1)) (wNil)))) (wDone)) (wSeq (wExpr (wMethL appendV (wNm "parents") (wCons (w2 (i2 (· - ·)) (w2 (i2 (· - ·)) (wNm "k") (wInt 1)) (w2 modV (w2 subW (wNm "told") (wNm "k")) (wInt 3))) (wNil)))) (wDone))) (wDone))) (wSeq (wRet (wNm "parents")) (wDone)))
noncomputable def T__law_parents : List V → Sto → (V → Sto → Prop) → Prop := fnT ["told"] (gPlain 1) W__law_parents

noncomputable def W__law_rows : ST := wSeq (wAsg "parts" (wCall newL (wCons (wStr "a") (wCons (wStr "ab") (wCons (wStr "abc") (wCons (wStr "b") (wCons (wStr "ba") (wCons (wStr "c") (wNil))))))))) (wSeq (wAsg "rows" (wCall newL (wNil))) (wSeq (wFor (tg1 "k") (wItRange (wCons (wCall lenV (wCons (wNm "parents") (wNil))) (wNil))) (wSeq (wAsg "above" (wIf (w2b ltV (w2 subW (wNm "parents") (wNm "k")) (wInt 0)) (wCall newL (wNil)) (w2 subW (wNm "rows") (w2 subW (wNm "parents") (wNm "k"))))) (wSeq (wExpr (wMethL appendV (wNm "rows") (wCons (w2 addV (wNm "above") (wCall newL (wCons (w2 subW (wNm "parts") (wNm "k")) (wNil)))) (wNil)))) (wDone)))) (wSeq (wRet (wNm "rows")) (wDone))))
noncomputable def T__law_rows : List V → Sto → (V → Sto → Prop) → Prop := fnT ["parents"] (gPlain 1) W__law_rows

noncomputable def W__law_reader : ST := wSeq (wIte (w2b eqV (w2 modV (wNm "k") (wInt 2)) (wInt 0)) (wSeq (wRet (wCall (mkT cI T___init__) (wCons (wCall newL (wCons (wMethS joinV (wStr ".") (wCons (wNm "row") (wNil))) (wNil))) (wCons (wCall newL (wNil)) (wNil))))) (wDone)) (wDone)) (wSeq (wRet (wCall (mkT cI T___init__) (wCons (wCall newL (wNil)) (wCons (wCall newL (wCons (wMethS joinV (wStr "/") (wCons (wNm "row") (wNil))) (wNil))) (wNil))))) (wDone))
noncomputable def T__law_reader : List V → Sto → (V → Sto → Prop) → Prop := fnT ["k", "row"] (gPlain 2) W__law_reader

noncomputable def W__law_moves : ST := wSeq (wAsg "readers" (wComp ["rows"] (tg1 "k") (wItRange (wCons (wCall lenV (wCons (wNm "rows") (wNil))) (wNil))) (wTrueB) (wCall T__law_reader (wCons (wNm "k") (wCons (w2 subW (wNm "rows") (wNm "k")) (wNil)))))) (wSeq (wAsg "files" (wComp [] (tg1 "row") (wItVal (wNm "rows")) (wTrueB) (w2 addV (wMethS joinV (wStr "/") (wCons (wNm "row") (wNil))) (wStr "/x.py")))) (wSeq (wAsg "dotted" (wComp [] (tg1 "row") (wItVal (wNm "rows")) (wTrueB) (wMethS joinV (wStr ".") (wCons (wNm "row") (wNil))))) (wSeq (wAsg "first" (w2 (i2 (· - ·)) (w2 powV (wInt 2) (wCall lenV (wCons (wNm "rows") (wNil)))) (wInt 1))) (wSeq (wAsg "waiting" (wCall newL (wCons (wNeg (wNm "first")) (wNil)))) (wSeq (wAsg "seen" (wCall newL (wCons (wNm "first") (wNil)))) (wSeq (wAsg "moves" (wCall newL (wNil))) (wSeq (wWhile (w2b neV (wNm "waiting") (wCall newL (wNil))) (wSeq (wAsg "mask" (wNeg (wCall T_heappop (wCons (wNm "waiting") (wNil))))) (wSeq (wAsg "kept" (wComp ["mask"] (tg1 "k") (wItRange (wCons (wCall lenV (wCons (wNm "rows") (wNil))) (wNil))) (w2b eqV (w2 andV (w2 shrV (wNm "mask") (wNm "k")) (wInt 1)) (wInt 1)) (wNm "k"))) (wSeq (wAsg "rests" (wCall newL (wNil))) (wSeq (wFor (tg1 "k") (wItVal (wNm "kept")) (wSeq (wAsg "stay" (wComp ["files", "dotted", "readers", "k"] (tg1 "j") (wItVal (wNm "kept")) (w2b eqV (wMethI cI "names" T_names (w2 subW (wNm "readers") (wNm "k")) (wCons (w2 subW (wNm "files") (wNm "j")) (wCons (w2 subW (wNm "dotted") (wNm "j")) (wNil)))) (wInt 0)) (w2 powV (wInt 2) (wNm "j")))) (wSeq (wExpr (wMethL appendV (wNm "rests") (wCons (wCall sumV (wCons (wNm "stay") (wNil))) (wNil)))) (wDone)))) (wSeq (wFor (tg1 "rest") (wItVal (wNm "rests")) (wSeq (wIte (w2b ninV (wNm "rest") (wNm "seen")) (wSeq (wExpr (wMethL appendV (wNm "seen") (wCons (wNm "rest") (wNil)))) (wSeq (wExpr (wCall T_heappush (wCons (wNm "waiting") (wCons (wNeg (wNm "rest")) (wNil))))) (wDone))) (wDone)) (wDone))) (wSeq (wExpr (wMethL appendV (wNm "moves") (wCons (wCall newT (wCons (wNm "mask") (wCons (wNm "rests") (wNil)))) (wNil)))) (wDone)))))))) (wSeq (wRet (wNm "moves")) (wDone)))))))))
noncomputable def T__law_moves : List V → Sto → (V → Sto → Prop) → Prop := fnT ["rows"] (gPlain 1) W__law_moves

noncomputable def W__law_whole : ST := wSeq (wAsg "whole" (wCall newL (wNil))) (wSeq (wFor (tg1 "mask") (wItRange (wCons (w2 (i2 (· - ·)) (w2 powV (wInt 2) (wCall lenV (wCons (wNm "parents") (wNil)))) (wInt 1)) (wCons (wNeg (wInt 1)) (wCons (wNeg (wInt 1)) (wNil))))) (wSeq (wAsg "lone" (wComp ["parents", "mask"] (tg1 "k") (wItRange (wCons (wCall lenV (wCons (wNm "parents") (wNil))) (wNil))) (wAndB (w2b eqV (w2 andV (w2 shrV (wNm "mask") (wNm "k")) (wInt 1)) (wInt 1)) (wAndB (w2b geV (w2 subW (wNm "parents") (wNm "k")) (wInt 0)) (wAndB (w2b eqV (w2 andV (w2 shrV (wNm "mask") (w2 subW (wNm "parents") (wNm "k"))) (wInt 1)) (wInt 0)) (wTrueB)))) (wNm "k"))) (wSeq (wIte (w2b eqV (wNm "lone") (wCall newL (wNil))) (wSeq (wExpr (wMethL appendV (wNm "whole") (wCons (wNm "mask") (wNil)))) (wDone)) (wDone)) (wDone)))) (wSeq (wRet (wNm "whole")) (wDone)))
noncomputable def T__law_whole : List V → Sto → (V → Sto → Prop) → Prop := fnT ["parents"] (gPlain 1) W__law_whole

noncomputable def W__law_worths : ST := wSeq (wAsg "worths" (wDict0)) (wSeq (wFor (tgN ["mask", "rests"]) (wItRev (wNm "moves")) (wSeq (wAsg "reached" (wCall sortedV (wCons (wComp ["worths"] (tg1 "rest") (wItVal (wNm "rests")) (wTrueB) (w2 subW (wNm "worths") (wNm "rest"))) (wNil)))) (wSeq (wAsgT ["lacking", "strange"] (wCall T_sorted_list_difference (wCons (wListRange (wCons (w2 addV (wCall lenV (wCons (wNm "reached") (wNil))) (wInt 1)) (wNil))) (wCons (wNm "reached") (wNil))))) (wSeq (wSet (wNm "worths") (wNm "mask") (wIf (w2b eqV (wNm "strange") (wCall newL (wNil))) (w2 subW (wNm "lacking") (wInt 0)) (wNeg (wInt 1)))) (wDone))))) (wSeq (wRet (wNm "worths")) (wDone)))
noncomputable def T__law_worths : List V → Sto → (V → Sto → Prop) → Prop := fnT ["moves"] (gPlain 1) W__law_worths

noncomputable def W__law_colon : ST := wSeq (wAsg "added" (w2 mulSV (wCall newL (wCons (wInt 0) (wNil))) (w2 addV (wCall lenV (wCons (wNm "parents") (wNil))) (wInt 1)))) (wSeq (wFor (tg1 "k") (wItRange (wCons (w2 (i2 (· - ·)) (wCall lenV (wCons (wNm "parents") (wNil))) (wInt 1)) (wCons (wNeg (wInt 1)) (wCons (wNeg (wInt 1)) (wNil))))) (wSeq (wIte (w2b eqV (w2 andV (w2 shrV (wNm "mask") (wNm "k")) (wInt 1)) (wInt 1)) (wSeq (wAugX (wNm "added") (w2 subW (wNm "parents") (wNm "k")) (w2 addV (w2 subW (wNm "added") (wNm "k")) (wInt 1))) (wDone)) (wDone)) (wDone))) (wSeq (wRet (w2 subW (wNm "added") (wNeg (wInt 1)))) (wDone)))
noncomputable def T__law_colon : List V → Sto → (V → Sto → Prop) → Prop := fnT ["mask", "parents"] (gPlain 2) W__law_colon

noncomputable def W_law (scr : Addr) (ms : List Int) : ST := wSeq (wAsg "n" (w2 addV (w2 addV (wInt 4) (wCall minV (wCons (w2 fdivV (wLenB "script" scr ms) (wInt 2)) (wCons (wInt 1) (wNil))))) (wCall minV (wCons (w2 fdivV (wLenB "script" scr ms) (wInt 8)) (wCons (wInt 1) (wNil)))))) (wSeq (wAsg "told" (wSlTo (w2 addV (wSlB "script" scr ms 6) (wCall newL (wCons (wInt 0) (wCons (wInt 0) (wCons (wInt 1) (wCons (wInt 1) (wNil))))))) (wNm "n"))) (wSeq (wAsg "parents" (wCall T__law_parents (wCons (wNm "told") (wNil)))) (wSeq (wAsg "moves" (wCall T__law_moves (wCons (wCall T__law_rows (wCons (wNm "parents") (wNil))) (wNil)))) (wSeq (wIte (w2b neV (wComp [] (tgN ["mask", "rests"]) (wItVal (wNm "moves")) (wTrueB) (wNm "mask")) (wCall T__law_whole (wCons (wNm "parents") (wNil)))) (wSeq (wRet (wBool false)) (wDone)) (wDone)) (wSeq (wAsg "worths" (wCall T__law_worths (wCons (wNm "moves") (wNil)))) (wSeq (wFor (tgN ["mask", "rests"]) (wItVal (wNm "moves")) (wSeq (wIte (w2b neV (w2 subW (wNm "worths") (wNm "mask")) (wCall T__law_colon (wCons (wNm "mask") (wCons (wNm "parents") (wNil))))) (wSeq (wRet (wBool false)) (wDone)) (wDone)) (wDone))) (wSeq (wRet (wBool true)) (wDone))))))))

end Mine
end

section
open PySem PySem.W PySem.Calls PyProof.Rows
set_option linter.all false
set_option maxRecDepth 100000
set_option maxHeartbeats 0
namespace Mine
/-- the statements of the text, by their place -/
noncomputable def pstAt (i : Nat) : Stmt := PySem.Challenge.pw_oy0098_02.main.body.getD i (.Pass ⟨0, 0, 0, 0⟩)
noncomputable def pstIn (i j : Nat) : Stmt := match pstAt i with | .ClassDef _ _ _ b .. => b.getD j (.Pass ⟨0, 0, 0, 0⟩) | s => s
noncomputable def fArgs : Stmt → Arguments | .FunctionDef _ a .. => a | _ => ⟨[], [], none, [], [], none, []⟩
noncomputable def fBody : Stmt → FuncBody | .FunctionDef _ _ b .. => .stmts b | _ => .stmts []
noncomputable def fScope : Stmt → Scope | .FunctionDef _ _ _ _ _ _ s .. => s | _ => ⟨.function, [], false, false, []⟩
noncomputable def cScope : Stmt → Scope | .ClassDef _ _ _ _ _ _ s .. => s | _ => ⟨.function, [], false, false, []⟩
noncomputable abbrev pw := PySem.Challenge.pw_oy0098_02
/-- what the boot wrote into the text's names -/
noncomputable def bEnt (P : Params) (i : Nat) : DictEntry := match (boot_o_3 P).data with | .dict es _ => es.toList.getD i ⟨0, .none, .none⟩ | _ => ⟨0, .none, .none⟩
noncomputable def ck0 (P : Params) : List Obj := [boot_o_0 P, boot_o_1 P, boot_o_2 P]
noncomputable def ob3v1 (P : Params) : Obj := { cls := Value.type "dict", data := Data.dict #[{ hash := PyData.keyHash P (Str.ofString "__name__"), key := Value.str (Str.ofString "__name__") 165, val := Value.str (Str.ofString "cpy313.trace") 252 }, bEnt P 1, bEnt P 2, bEnt P 3, bEnt P 4, bEnt P 5, bEnt P 6, bEnt P 7, bEnt P 8, { hash := PyData.keyHash P (Str.ofString "_wall"), key := Value.str (Str.ofString "_wall") 193, val := Value.ref 21 }, { hash := PyData.keyHash P (Str.ofString "sep"), key := Value.str (Str.ofString "sep") 195, val := Value.str (Str.ofString "/") 194 }, { hash := PyData.keyHash P (Str.ofString "_kind"), key := Value.str (Str.ofString "_kind") 206, val := Value.ref 28 }, { hash := PyData.keyHash P (Str.ofString "_c_path"), key := Value.str (Str.ofString "_c_path") 219, val := Value.ref 35 }, { hash := PyData.keyHash P (Str.ofString "_splitroot"), key := Value.str (Str.ofString "_splitroot") 228, val := Value.ref 42 }, { hash := PyData.keyHash P (Str.ofString "_normpath"), key := Value.str (Str.ofString "_normpath") 243, val := Value.ref 49 }, { hash := PyData.keyHash P (Str.ofString "normpath"), key := Value.str (Str.ofString "normpath") 251, val := Value.ref 56 }] 16 }
noncomputable def ob3v2 (P : Params) : Obj := { cls := Value.type "dict", data := Data.dict #[{ hash := PyData.keyHash P (Str.ofString "__name__"), key := Value.str (Str.ofString "__name__") 165, val := Value.str (Str.ofString "cpy313.trace") 252 }, bEnt P 1, bEnt P 2, bEnt P 3, bEnt P 4, bEnt P 5, bEnt P 6, bEnt P 7, bEnt P 8, { hash := PyData.keyHash P (Str.ofString "_wall"), key := Value.str (Str.ofString "_wall") 193, val := Value.ref 21 }, { hash := PyData.keyHash P (Str.ofString "sep"), key := Value.str (Str.ofString "sep") 195, val := Value.str (Str.ofString "/") 194 }, { hash := PyData.keyHash P (Str.ofString "_kind"), key := Value.str (Str.ofString "_kind") 206, val := Value.ref 28 }, { hash := PyData.keyHash P (Str.ofString "_c_path"), key := Value.str (Str.ofString "_c_path") 219, val := Value.ref 35 }, { hash := PyData.keyHash P (Str.ofString "_splitroot"), key := Value.str (Str.ofString "_splitroot") 228, val := Value.ref 42 }, { hash := PyData.keyHash P (Str.ofString "_normpath"), key := Value.str (Str.ofString "_normpath") 243, val := Value.ref 49 }, { hash := PyData.keyHash P (Str.ofString "normpath"), key := Value.str (Str.ofString "normpath") 251, val := Value.ref 56 }, { hash := PyData.keyHash P (Str.ofString "_Ignore"), key := Value.str (Str.ofString "_Ignore") 293, val := Value.ref 79 }] 17 }
noncomputable def ob3v3 (P : Params) : Obj := { cls := Value.type "dict", data := Data.dict #[{ hash := PyData.keyHash P (Str.ofString "__name__"), key := Value.str (Str.ofString "__name__") 165, val := Value.str (Str.ofString "law_oy0098_02") 354 }, bEnt P 1, bEnt P 2, bEnt P 3, bEnt P 4, bEnt P 5, bEnt P 6, bEnt P 7, bEnt P 8, { hash := PyData.keyHash P (Str.ofString "_wall"), key := Value.str (Str.ofString "_wall") 193, val := Value.ref 21 }, { hash := PyData.keyHash P (Str.ofString "sep"), key := Value.str (Str.ofString "sep") 195, val := Value.str (Str.ofString "/") 194 }, { hash := PyData.keyHash P (Str.ofString "_kind"), key := Value.str (Str.ofString "_kind") 206, val := Value.ref 28 }, { hash := PyData.keyHash P (Str.ofString "_c_path"), key := Value.str (Str.ofString "_c_path") 219, val := Value.ref 35 }, { hash := PyData.keyHash P (Str.ofString "_splitroot"), key := Value.str (Str.ofString "_splitroot") 228, val := Value.ref 42 }, { hash := PyData.keyHash P (Str.ofString "_normpath"), key := Value.str (Str.ofString "_normpath") 243, val := Value.ref 49 }, { hash := PyData.keyHash P (Str.ofString "normpath"), key := Value.str (Str.ofString "normpath") 251, val := Value.ref 56 }, { hash := PyData.keyHash P (Str.ofString "_Ignore"), key := Value.str (Str.ofString "_Ignore") 293, val := Value.ref 79 }, { hash := PyData.keyHash P (Str.ofString "heappush"), key := Value.str (Str.ofString "heappush") 303, val := Value.ref 90 }, { hash := PyData.keyHash P (Str.ofString "heappop"), key := Value.str (Str.ofString "heappop") 312, val := Value.ref 97 }, { hash := PyData.keyHash P (Str.ofString "_siftdown"), key := Value.str (Str.ofString "_siftdown") 324, val := Value.ref 104 }, { hash := PyData.keyHash P (Str.ofString "_siftup"), key := Value.str (Str.ofString "_siftup") 337, val := Value.ref 111 }, { hash := PyData.keyHash P (Str.ofString "sorted_list_difference"), key := Value.str (Str.ofString "sorted_list_difference") 353, val := Value.ref 118 }, { hash := PyData.keyHash P (Str.ofString "_law_parents"), key := Value.str (Str.ofString "_law_parents") 364, val := Value.ref 125 }, { hash := PyData.keyHash P (Str.ofString "_law_rows"), key := Value.str (Str.ofString "_law_rows") 375, val := Value.ref 132 }, { hash := PyData.keyHash P (Str.ofString "_law_reader"), key := Value.str (Str.ofString "_law_reader") 383, val := Value.ref 139 }, { hash := PyData.keyHash P (Str.ofString "_law_moves"), key := Value.str (Str.ofString "_law_moves") 389, val := Value.ref 144 }, { hash := PyData.keyHash P (Str.ofString "_law_whole"), key := Value.str (Str.ofString "_law_whole") 395, val := Value.ref 149 }, { hash := PyData.keyHash P (Str.ofString "_law_worths"), key := Value.str (Str.ofString "_law_worths") 401, val := Value.ref 154 }, { hash := PyData.keyHash P (Str.ofString "_law_colon"), key := Value.str (Str.ofString "_law_colon") 411, val := Value.ref 161 }] 29 }
noncomputable def ob3v4 (P : Params) : Obj := { cls := Value.type "dict", data := Data.dict #[{ hash := PyData.keyHash P (Str.ofString "__name__"), key := Value.str (Str.ofString "__name__") 165, val := Value.str (Str.ofString "law_oy0098_02") 354 }, bEnt P 1, bEnt P 2, bEnt P 3, bEnt P 4, bEnt P 5, bEnt P 6, bEnt P 7, bEnt P 8, { hash := PyData.keyHash P (Str.ofString "_wall"), key := Value.str (Str.ofString "_wall") 193, val := Value.ref 21 }, { hash := PyData.keyHash P (Str.ofString "sep"), key := Value.str (Str.ofString "sep") 195, val := Value.str (Str.ofString "/") 194 }, { hash := PyData.keyHash P (Str.ofString "_kind"), key := Value.str (Str.ofString "_kind") 206, val := Value.ref 28 }, { hash := PyData.keyHash P (Str.ofString "_c_path"), key := Value.str (Str.ofString "_c_path") 219, val := Value.ref 35 }, { hash := PyData.keyHash P (Str.ofString "_splitroot"), key := Value.str (Str.ofString "_splitroot") 228, val := Value.ref 42 }, { hash := PyData.keyHash P (Str.ofString "_normpath"), key := Value.str (Str.ofString "_normpath") 243, val := Value.ref 49 }, { hash := PyData.keyHash P (Str.ofString "normpath"), key := Value.str (Str.ofString "normpath") 251, val := Value.ref 56 }, { hash := PyData.keyHash P (Str.ofString "_Ignore"), key := Value.str (Str.ofString "_Ignore") 293, val := Value.ref 79 }, { hash := PyData.keyHash P (Str.ofString "heappush"), key := Value.str (Str.ofString "heappush") 303, val := Value.ref 90 }, { hash := PyData.keyHash P (Str.ofString "heappop"), key := Value.str (Str.ofString "heappop") 312, val := Value.ref 97 }, { hash := PyData.keyHash P (Str.ofString "_siftdown"), key := Value.str (Str.ofString "_siftdown") 324, val := Value.ref 104 }, { hash := PyData.keyHash P (Str.ofString "_siftup"), key := Value.str (Str.ofString "_siftup") 337, val := Value.ref 111 }, { hash := PyData.keyHash P (Str.ofString "sorted_list_difference"), key := Value.str (Str.ofString "sorted_list_difference") 353, val := Value.ref 118 }, { hash := PyData.keyHash P (Str.ofString "_law_parents"), key := Value.str (Str.ofString "_law_parents") 364, val := Value.ref 125 }, { hash := PyData.keyHash P (Str.ofString "_law_rows"), key := Value.str (Str.ofString "_law_rows") 375, val := Value.ref 132 }, { hash := PyData.keyHash P (Str.ofString "_law_reader"), key := Value.str (Str.ofString "_law_reader") 383, val := Value.ref 139 }, { hash := PyData.keyHash P (Str.ofString "_law_moves"), key := Value.str (Str.ofString "_law_moves") 389, val := Value.ref 144 }, { hash := PyData.keyHash P (Str.ofString "_law_whole"), key := Value.str (Str.ofString "_law_whole") 395, val := Value.ref 149 }, { hash := PyData.keyHash P (Str.ofString "_law_worths"), key := Value.str (Str.ofString "_law_worths") 401, val := Value.ref 154 }, { hash := PyData.keyHash P (Str.ofString "_law_colon"), key := Value.str (Str.ofString "_law_colon") 411, val := Value.ref 161 }, { hash := PyData.keyHash P (Str.ofString "law"), key := Value.str (Str.ofString "law") 417, val := Value.ref 166 }] 30 }
noncomputable def ck1 (P : Params) : List Obj := [boot_o_4 P, boot_o_5 P, boot_o_6 P, boot_o_7 P, boot_o_8 P, boot_o_9 P, boot_o_10 P, { cls := Value.type "tuple", data := Data.seq #[] }]
noncomputable def ob12v0 (P : Params) : Obj := { cls := Value.none, data := Data.fields #[] }
noncomputable def ob12v1 (P : Params) : Obj := { cls := Value.none, data := Data.fields #[Value.int 1 0, Value.int 0 0, Value.ref 20, Value.int 6 0, Value.int 0 0, Value.ref 27, Value.int 27 0, Value.int 0 0, Value.ref 34, Value.int 38 0, Value.int 0 0, Value.ref 41, Value.int 47 0, Value.int 0 0, Value.ref 48, Value.int 66 0, Value.int 0 0, Value.ref 55] }
noncomputable def ob12v2 (P : Params) : Obj := { cls := Value.none, data := Data.fields #[Value.int 1 0, Value.int 0 0, Value.ref 20, Value.int 6 0, Value.int 0 0, Value.ref 27, Value.int 27 0, Value.int 0 0, Value.ref 34, Value.int 38 0, Value.int 0 0, Value.ref 41, Value.int 47 0, Value.int 0 0, Value.ref 48, Value.int 66 0, Value.int 0 0, Value.ref 55, Value.int 69 0, Value.int 0 0, Value.ref 62] }
noncomputable def ob12v3 (P : Params) : Obj := { cls := Value.none, data := Data.fields #[Value.int 1 0, Value.int 0 0, Value.ref 20, Value.int 6 0, Value.int 0 0, Value.ref 27, Value.int 27 0, Value.int 0 0, Value.ref 34, Value.int 38 0, Value.int 0 0, Value.ref 41, Value.int 47 0, Value.int 0 0, Value.ref 48, Value.int 66 0, Value.int 0 0, Value.ref 55, Value.int 69 0, Value.int 0 0, Value.ref 62, Value.int 96 0, Value.int 0 0, Value.ref 89, Value.int 99 0, Value.int 0 0, Value.ref 96, Value.int 107 0, Value.int 0 0, Value.ref 103, Value.int 118 0, Value.int 0 0, Value.ref 110, Value.int 133 0, Value.int 0 0, Value.ref 117, Value.int 166 0, Value.int 0 0, Value.ref 124, Value.int 174 0, Value.int 0 0, Value.ref 131, Value.int 181 0, Value.int 0 0, Value.ref 138, Value.int 185 0, Value.int 0 0, Value.ref 143, Value.int 206 0, Value.int 0 0, Value.ref 148, Value.int 213 0, Value.int 0 0, Value.ref 153, Value.int 220 0, Value.int 0 0, Value.ref 160] }
noncomputable def ob12v4 (P : Params) : Obj := { cls := Value.none, data := Data.fields #[Value.int 1 0, Value.int 0 0, Value.ref 20, Value.int 6 0, Value.int 0 0, Value.ref 27, Value.int 27 0, Value.int 0 0, Value.ref 34, Value.int 38 0, Value.int 0 0, Value.ref 41, Value.int 47 0, Value.int 0 0, Value.ref 48, Value.int 66 0, Value.int 0 0, Value.ref 55, Value.int 69 0, Value.int 0 0, Value.ref 62, Value.int 96 0, Value.int 0 0, Value.ref 89, Value.int 99 0, Value.int 0 0, Value.ref 96, Value.int 107 0, Value.int 0 0, Value.ref 103, Value.int 118 0, Value.int 0 0, Value.ref 110, Value.int 133 0, Value.int 0 0, Value.ref 117, Value.int 166 0, Value.int 0 0, Value.ref 124, Value.int 174 0, Value.int 0 0, Value.ref 131, Value.int 181 0, Value.int 0 0, Value.ref 138, Value.int 185 0, Value.int 0 0, Value.ref 143, Value.int 206 0, Value.int 0 0, Value.ref 148, Value.int 213 0, Value.int 0 0, Value.ref 153, Value.int 220 0, Value.int 0 0, Value.ref 160, Value.int 226 0, Value.int 0 0, Value.ref 165] }
noncomputable def ck2 (P : Params) : List Obj := [{ cls := Value.type "code", data := Data.fields #[Value.str (Str.ofString "<module>") 182, Value.str (Str.ofString "<module>") 183, Value.str (Str.ofString "/claim/cut.py") 184, Value.int 1 0, Value.int 0 0, Value.int 0 0, Value.int 0 0, Value.int 0 0, Value.ref 11, Value.bool false, Value.int 181 0, Value.ref 12, Value.none, Value.none, Value.none, Value.none, Value.int 185 0, Value.int 1 0, Value.str (Str.ofString "/claim/cut.py") 186] }, { cls := Value.type "frame", slots := #[some (Value.ref 13), some (Value.ref 3), some (Value.ref 3), none, some (Value.str (Str.ofString "__main__") 164), none, some (Value.ref 0)] }]
noncomputable def ck3 (P : Params) : List Obj := [{ cls := Value.type "tuple", data := Data.seq #[] }, { cls := Value.none, data := Data.fields #[] }, { cls := Value.type "tuple", data := Data.seq #[Value.str (Str.ofString "k") 190] }, { cls := Value.type "tuple", data := Data.seq #[] }, { cls := Value.none, data := Data.func { name := Str.ofString "_wall", qualname := Str.ofString "_wall", params := fArgs (pstAt 0), body := fBody (pstAt 0), scope := fScope (pstAt 0), globals := 0, closure := [], defaults := Value.none, kwdefaults := Value.none } }, { cls := Value.type "code", data := Data.fields #[Value.str (Str.ofString "_wall") 187, Value.str (Str.ofString "_wall") 188, Value.str (Str.ofString "/claim/cut.py") 189, Value.int 1 0, Value.int 1 0, Value.int 0 0, Value.int 0 0, Value.int 3 0, Value.ref 15, Value.bool true, Value.int 181 0, Value.ref 16, Value.none, Value.ref 17, Value.ref 18, Value.ref 19, Value.int 191 0, Value.int 1 0, Value.str (Str.ofString "/claim/cut.py") 192] }, { cls := Value.type "function", data := Data.func { name := Str.ofString "_wall", qualname := Str.ofString "_wall", params := fArgs (pstAt 0), body := fBody (pstAt 0), scope := fScope (pstAt 0), globals := 3, closure := [], defaults := Value.none, kwdefaults := Value.none, pyModule := Value.str (Str.ofString "__main__") 164, code := Value.ref 20 } }, { cls := Value.type "tuple", data := Data.seq #[] }, { cls := Value.none, data := Data.fields #[] }, { cls := Value.type "tuple", data := Data.seq #[Value.str (Str.ofString "name") 201, Value.str (Str.ofString "x") 202, Value.str (Str.ofString "t") 203] }, { cls := Value.type "tuple", data := Data.seq #[] }, { cls := Value.none, data := Data.func { name := Str.ofString "_kind", qualname := Str.ofString "_kind", params := fArgs (pstAt 3), body := fBody (pstAt 3), scope := fScope (pstAt 3), globals := 0, closure := [], defaults := Value.none, kwdefaults := Value.none } }, { cls := Value.type "code", data := Data.fields #[Value.str (Str.ofString "_kind") 198, Value.str (Str.ofString "_kind") 199, Value.str (Str.ofString "/claim/cut.py") 200, Value.int 6 0, Value.int 2 0, Value.int 0 0, Value.int 0 0, Value.int 3 0, Value.ref 22, Value.bool true, Value.int 181 0, Value.ref 23, Value.none, Value.ref 24, Value.ref 25, Value.ref 26, Value.int 204 0, Value.int 6 0, Value.str (Str.ofString "/claim/cut.py") 205] }, { cls := Value.type "function", data := Data.func { name := Str.ofString "_kind", qualname := Str.ofString "_kind", params := fArgs (pstAt 3), body := fBody (pstAt 3), scope := fScope (pstAt 3), globals := 3, closure := [], defaults := Value.none, kwdefaults := Value.none, pyModule := Value.str (Str.ofString "os.path") 196, code := Value.ref 27 } }, { cls := Value.type "tuple", data := Data.seq #[] }, { cls := Value.none, data := Data.fields #[] }, { cls := Value.type "tuple", data := Data.seq #[Value.str (Str.ofString "name") 210, Value.str (Str.ofString "cname") 211, Value.str (Str.ofString "argname") 212, Value.str (Str.ofString "args") 213, Value.str (Str.ofString "kwargs") 214, Value.str (Str.ofString "x") 215, Value.str (Str.ofString "k") 216] }, { cls := Value.type "tuple", data := Data.seq #[] }, { cls := Value.none, data := Data.func { name := Str.ofString "_c_path", qualname := Str.ofString "_c_path", params := fArgs (pstAt 4), body := fBody (pstAt 4), scope := fScope (pstAt 4), globals := 0, closure := [], defaults := Value.none, kwdefaults := Value.none } }, { cls := Value.type "code", data := Data.fields #[Value.str (Str.ofString "_c_path") 207, Value.str (Str.ofString "_c_path") 208, Value.str (Str.ofString "/claim/cut.py") 209, Value.int 27 0, Value.int 5 0, Value.int 0 0, Value.int 0 0, Value.int 3 0, Value.ref 29, Value.bool true, Value.int 181 0, Value.ref 30, Value.none, Value.ref 31, Value.ref 32, Value.ref 33, Value.int 217 0, Value.int 27 0, Value.str (Str.ofString "/claim/cut.py") 218] }, { cls := Value.type "function", data := Data.func { name := Str.ofString "_c_path", qualname := Str.ofString "_c_path", params := fArgs (pstAt 4), body := fBody (pstAt 4), scope := fScope (pstAt 4), globals := 3, closure := [], defaults := Value.none, kwdefaults := Value.none, pyModule := Value.str (Str.ofString "os.path") 196, code := Value.ref 34 } }, { cls := Value.type "tuple", data := Data.seq #[] }, { cls := Value.none, data := Data.fields #[] }, { cls := Value.type "tuple", data := Data.seq #[Value.str (Str.ofString "p") 223, Value.str (Str.ofString "sep") 224, Value.str (Str.ofString "empty") 225] }, { cls := Value.type "tuple", data := Data.seq #[] }, { cls := Value.none, data := Data.func { name := Str.ofString "_splitroot", qualname := Str.ofString "_splitroot", params := fArgs (pstAt 5), body := fBody (pstAt 5), scope := fScope (pstAt 5), globals := 0, closure := [], defaults := Value.none, kwdefaults := Value.none } }, { cls := Value.type "code", data := Data.fields #[Value.str (Str.ofString "_splitroot") 220, Value.str (Str.ofString "_splitroot") 221, Value.str (Str.ofString "/claim/cut.py") 222, Value.int 38 0, Value.int 1 0, Value.int 0 0, Value.int 0 0, Value.int 3 0, Value.ref 36, Value.bool true, Value.int 181 0, Value.ref 37, Value.none, Value.ref 38, Value.ref 39, Value.ref 40, Value.int 226 0, Value.int 38 0, Value.str (Str.ofString "/claim/cut.py") 227] }, { cls := Value.type "function", data := Data.func { name := Str.ofString "_splitroot", qualname := Str.ofString "_splitroot", params := fArgs (pstAt 5), body := fBody (pstAt 5), scope := fScope (pstAt 5), globals := 3, closure := [], defaults := Value.none, kwdefaults := Value.none, pyModule := Value.str (Str.ofString "os.path") 196, code := Value.ref 41 } }, { cls := Value.type "tuple", data := Data.seq #[] }, { cls := Value.none, data := Data.fields #[] }, { cls := Value.type "tuple", data := Data.seq #[Value.str (Str.ofString "path") 232, Value.str (Str.ofString "sep") 233, Value.str (Str.ofString "dot") 234, Value.str (Str.ofString "dotdot") 235, Value.str (Str.ofString "_") 236, Value.str (Str.ofString "initial_slashes") 237, Value.str (Str.ofString "comps") 238, Value.str (Str.ofString "new_comps") 239, Value.str (Str.ofString "comp") 240] }, { cls := Value.type "tuple", data := Data.seq #[] }, { cls := Value.none, data := Data.func { name := Str.ofString "_normpath", qualname := Str.ofString "_normpath", params := fArgs (pstAt 6), body := fBody (pstAt 6), scope := fScope (pstAt 6), globals := 0, closure := [], defaults := Value.none, kwdefaults := Value.none } }, { cls := Value.type "code", data := Data.fields #[Value.str (Str.ofString "_normpath") 229, Value.str (Str.ofString "_normpath") 230, Value.str (Str.ofString "/claim/cut.py") 231, Value.int 47 0, Value.int 1 0, Value.int 0 0, Value.int 0 0, Value.int 3 0, Value.ref 43, Value.bool true, Value.int 181 0, Value.ref 44, Value.none, Value.ref 45, Value.ref 46, Value.ref 47, Value.int 241 0, Value.int 47 0, Value.str (Str.ofString "/claim/cut.py") 242] }, { cls := Value.type "function", data := Data.func { name := Str.ofString "_normpath", qualname := Str.ofString "_normpath", params := fArgs (pstAt 6), body := fBody (pstAt 6), scope := fScope (pstAt 6), globals := 3, closure := [], defaults := Value.none, kwdefaults := Value.none, pyModule := Value.str (Str.ofString "os.path") 196, code := Value.ref 48 } }, { cls := Value.type "tuple", data := Data.seq #[] }, { cls := Value.none, data := Data.fields #[] }, { cls := Value.type "tuple", data := Data.seq #[Value.str (Str.ofString "args") 247, Value.str (Str.ofString "kwargs") 248] }, { cls := Value.type "tuple", data := Data.seq #[] }, { cls := Value.none, data := Data.func { name := Str.ofString "normpath", qualname := Str.ofString "normpath", params := fArgs (pstAt 7), body := fBody (pstAt 7), scope := fScope (pstAt 7), globals := 0, closure := [], defaults := Value.none, kwdefaults := Value.none } }, { cls := Value.type "code", data := Data.fields #[Value.str (Str.ofString "normpath") 244, Value.str (Str.ofString "normpath") 245, Value.str (Str.ofString "/claim/cut.py") 246, Value.int 66 0, Value.int 0 0, Value.int 0 0, Value.int 0 0, Value.int 15 0, Value.ref 50, Value.bool true, Value.int 181 0, Value.ref 51, Value.none, Value.ref 52, Value.ref 53, Value.ref 54, Value.int 249 0, Value.int 66 0, Value.str (Str.ofString "/claim/cut.py") 250] }, { cls := Value.type "function", data := Data.func { name := Str.ofString "normpath", qualname := Str.ofString "normpath", params := fArgs (pstAt 7), body := fBody (pstAt 7), scope := fScope (pstAt 7), globals := 3, closure := [], defaults := Value.none, kwdefaults := Value.none, pyModule := Value.str (Str.ofString "os.path") 196, code := Value.ref 55 } }]
noncomputable def ck4 (P : Params) : List Obj := [{ cls := Value.type "tuple", data := Data.seq #[] }, { cls := Value.type "builtin_function_or_method", data := Data.fields #[Value.builtin "type.__prepare__", Value.type "type"] }, { cls := Value.type "dict", data := Data.dict #[{ hash := PyData.keyHash P (Str.ofString "__module__"), key := Value.str (Str.ofString "__module__") 261, val := Value.str (Str.ofString "cpy313.trace") 252 }, { hash := PyData.keyHash P (Str.ofString "__qualname__"), key := Value.str (Str.ofString "__qualname__") 263, val := Value.str (Str.ofString "_Ignore") 262 }, { hash := PyData.keyHash P (Str.ofString "__firstlineno__"), key := Value.str (Str.ofString "__firstlineno__") 265, val := Value.int 69 264 }, { hash := PyData.keyHash P (Str.ofString "__init__"), key := Value.str (Str.ofString "__init__") 271, val := Value.ref 69 }, { hash := PyData.keyHash P (Str.ofString "names"), key := Value.str (Str.ofString "names") 282, val := Value.ref 76 }, { hash := PyData.keyHash P (Str.ofString "__static_attributes__"), key := Value.str (Str.ofString "__static_attributes__") 286, val := Value.ref 77 }] 6 }, { cls := Value.type "tuple", data := Data.seq #[] }, { cls := Value.none, data := Data.fields #[Value.int 71 0, Value.int 4 0, Value.ref 68, Value.int 76 0, Value.int 4 0, Value.ref 75] }, { cls := Value.type "code", data := Data.fields #[Value.str (Str.ofString "_Ignore") 256, Value.str (Str.ofString "_Ignore") 257, Value.str (Str.ofString "/claim/cut.py") 258, Value.int 69 0, Value.int 0 0, Value.int 0 0, Value.int 0 0, Value.int 0 0, Value.ref 60, Value.bool false, Value.int 181 0, Value.ref 61, Value.none, Value.none, Value.none, Value.none, Value.int 259 0, Value.int 69 0, Value.str (Str.ofString "/claim/cut.py") 260] }, { cls := Value.type "frame", slots := #[some (Value.ref 62), some (Value.ref 3), some (Value.ref 59), none, some (Value.str (Str.ofString "cpy313.trace") 252), none, some (Value.ref 0)] }, { cls := Value.type "tuple", data := Data.seq #[Value.none, Value.none] }, { cls := Value.type "tuple", data := Data.seq #[] }, { cls := Value.none, data := Data.fields #[] }, { cls := Value.none, data := Data.func { name := Str.ofString "__init__", qualname := Str.ofString "_Ignore.__init__", params := fArgs (pstIn 9 0), body := fBody (pstIn 9 0), scope := fScope (pstIn 9 0), globals := 0, closure := [], defaults := Value.none, kwdefaults := Value.none } }, { cls := Value.type "code", data := Data.fields #[Value.str (Str.ofString "__init__") 266, Value.str (Str.ofString "_Ignore.__init__") 267, Value.str (Str.ofString "/claim/cut.py") 268, Value.int 71 0, Value.int 3 0, Value.int 0 0, Value.int 0 0, Value.int 3 0, Value.ref 65, Value.bool true, Value.int 181 0, Value.ref 66, Value.none, Value.none, Value.none, Value.ref 67, Value.int 269 0, Value.int 71 0, Value.str (Str.ofString "/claim/cut.py") 270] }, { cls := Value.type "function", data := Data.func { name := Str.ofString "__init__", qualname := Str.ofString "_Ignore.__init__", params := fArgs (pstIn 9 0), body := fBody (pstIn 9 0), scope := fScope (pstIn 9 0), globals := 3, closure := [], defaults := Value.ref 64, kwdefaults := Value.none, pyModule := Value.str (Str.ofString "cpy313.trace") 252, code := Value.ref 68 } }, { cls := Value.type "tuple", data := Data.seq #[] }, { cls := Value.none, data := Data.fields #[] }, { cls := Value.type "tuple", data := Data.seq #[Value.str (Str.ofString "self") 275, Value.str (Str.ofString "filename") 276, Value.str (Str.ofString "modulename") 277, Value.str (Str.ofString "mod") 278, Value.str (Str.ofString "d") 279] }, { cls := Value.type "tuple", data := Data.seq #[] }, { cls := Value.none, data := Data.func { name := Str.ofString "names", qualname := Str.ofString "_Ignore.names", params := fArgs (pstIn 9 1), body := fBody (pstIn 9 1), scope := fScope (pstIn 9 1), globals := 0, closure := [], defaults := Value.none, kwdefaults := Value.none } }, { cls := Value.type "code", data := Data.fields #[Value.str (Str.ofString "names") 272, Value.str (Str.ofString "_Ignore.names") 273, Value.str (Str.ofString "/claim/cut.py") 274, Value.int 76 0, Value.int 3 0, Value.int 0 0, Value.int 0 0, Value.int 3 0, Value.ref 70, Value.bool true, Value.int 181 0, Value.ref 71, Value.none, Value.ref 72, Value.ref 73, Value.ref 74, Value.int 280 0, Value.int 76 0, Value.str (Str.ofString "/claim/cut.py") 281] }, { cls := Value.type "function", data := Data.func { name := Str.ofString "names", qualname := Str.ofString "_Ignore.names", params := fArgs (pstIn 9 1), body := fBody (pstIn 9 1), scope := fScope (pstIn 9 1), globals := 3, closure := [], defaults := Value.none, kwdefaults := Value.none, pyModule := Value.str (Str.ofString "cpy313.trace") 252, code := Value.ref 75 } }, { cls := Value.type "tuple", data := Data.seq #[Value.str (Str.ofString "_dirs") 283, Value.str (Str.ofString "_ignore") 284, Value.str (Str.ofString "_mods") 285] }, { cls := Value.type "dict", data := Data.dict #[{ hash := PyData.keyHash P (Str.ofString "__module__"), key := Value.str (Str.ofString "__module__") 261, val := Value.str (Str.ofString "cpy313.trace") 252 }, { hash := PyData.keyHash P (Str.ofString "__firstlineno__"), key := Value.str (Str.ofString "__firstlineno__") 265, val := Value.int 69 264 }, { hash := PyData.keyHash P (Str.ofString "__init__"), key := Value.str (Str.ofString "__init__") 271, val := Value.ref 69 }, { hash := PyData.keyHash P (Str.ofString "names"), key := Value.str (Str.ofString "names") 282, val := Value.ref 76 }, { hash := PyData.keyHash P (Str.ofString "__static_attributes__"), key := Value.str (Str.ofString "__static_attributes__") 286, val := Value.ref 77 }, { hash := PyData.keyHash P (Str.ofString "__dict__"), key := Value.str (Str.ofString "__dict__") 288, val := Value.ref 80 }, { hash := PyData.keyHash P (Str.ofString "__weakref__"), key := Value.str (Str.ofString "__weakref__") 290, val := Value.ref 81 }, { hash := PyData.keyHash P (Str.ofString "__doc__"), key := Value.str (Str.ofString "__doc__") 291, val := Value.none }] 4 }, { cls := Value.type "type", data := Data.cls { name := Str.ofString "_Ignore", bases := [Value.type "object"], mro := [Value.ref 79, Value.type "object"], ns := 78, qualname := Str.ofString "_Ignore" }, slots := #[none, none, some (Value.str (Str.ofString "_Ignore") 254), some (Value.str (Str.ofString "_Ignore") 262), some (Value.builtin "object.__new__"), some (Value.bool true)] }, { cls := Value.type "getset_descriptor", data := Data.fields #[Value.str (Str.ofString "__dict__") 287, Value.ref 79, Value.builtin "function.__dict__", Value.builtin "function.__dict__#set"] }, { cls := Value.type "getset_descriptor", data := Data.fields #[Value.str (Str.ofString "__weakref__") 289, Value.ref 79, Value.builtin "ExceptionGroup.__weakref__", Value.none] }, { cls := Value.type "super", data := Data.fields #[Value.ref 79, Value.ref 79, Value.ref 79] }, { cls := Value.type "builtin_function_or_method", data := Data.fields #[Value.builtin "object.__init_subclass__", Value.ref 79] }]
noncomputable def ck5 (P : Params) : List Obj := [{ cls := Value.type "tuple", data := Data.seq #[] }, { cls := Value.none, data := Data.fields #[] }, { cls := Value.type "tuple", data := Data.seq #[Value.str (Str.ofString "heap") 299, Value.str (Str.ofString "item") 300] }, { cls := Value.type "tuple", data := Data.seq #[] }, { cls := Value.none, data := Data.func { name := Str.ofString "heappush", qualname := Str.ofString "heappush", params := fArgs (pstAt 11), body := fBody (pstAt 11), scope := fScope (pstAt 11), globals := 0, closure := [], defaults := Value.none, kwdefaults := Value.none } }, { cls := Value.type "code", data := Data.fields #[Value.str (Str.ofString "heappush") 296, Value.str (Str.ofString "heappush") 297, Value.str (Str.ofString "/claim/cut.py") 298, Value.int 96 0, Value.int 2 0, Value.int 0 0, Value.int 0 0, Value.int 3 0, Value.ref 84, Value.bool true, Value.int 181 0, Value.ref 85, Value.none, Value.ref 86, Value.ref 87, Value.ref 88, Value.int 301 0, Value.int 96 0, Value.str (Str.ofString "/claim/cut.py") 302] }, { cls := Value.type "function", data := Data.func { name := Str.ofString "heappush", qualname := Str.ofString "heappush", params := fArgs (pstAt 11), body := fBody (pstAt 11), scope := fScope (pstAt 11), globals := 3, closure := [], defaults := Value.none, kwdefaults := Value.none, pyModule := Value.str (Str.ofString "cpy313.heapq") 294, code := Value.ref 89 } }, { cls := Value.type "tuple", data := Data.seq #[] }, { cls := Value.none, data := Data.fields #[] }, { cls := Value.type "tuple", data := Data.seq #[Value.str (Str.ofString "heap") 307, Value.str (Str.ofString "lastelt") 308, Value.str (Str.ofString "returnitem") 309] }, { cls := Value.type "tuple", data := Data.seq #[] }, { cls := Value.none, data := Data.func { name := Str.ofString "heappop", qualname := Str.ofString "heappop", params := fArgs (pstAt 12), body := fBody (pstAt 12), scope := fScope (pstAt 12), globals := 0, closure := [], defaults := Value.none, kwdefaults := Value.none } }, { cls := Value.type "code", data := Data.fields #[Value.str (Str.ofString "heappop") 304, Value.str (Str.ofString "heappop") 305, Value.str (Str.ofString "/claim/cut.py") 306, Value.int 99 0, Value.int 1 0, Value.int 0 0, Value.int 0 0, Value.int 3 0, Value.ref 91, Value.bool true, Value.int 181 0, Value.ref 92, Value.none, Value.ref 93, Value.ref 94, Value.ref 95, Value.int 310 0, Value.int 99 0, Value.str (Str.ofString "/claim/cut.py") 311] }, { cls := Value.type "function", data := Data.func { name := Str.ofString "heappop", qualname := Str.ofString "heappop", params := fArgs (pstAt 12), body := fBody (pstAt 12), scope := fScope (pstAt 12), globals := 3, closure := [], defaults := Value.none, kwdefaults := Value.none, pyModule := Value.str (Str.ofString "cpy313.heapq") 294, code := Value.ref 96 } }, { cls := Value.type "tuple", data := Data.seq #[] }, { cls := Value.none, data := Data.fields #[] }, { cls := Value.type "tuple", data := Data.seq #[Value.str (Str.ofString "heap") 316, Value.str (Str.ofString "startpos") 317, Value.str (Str.ofString "pos") 318, Value.str (Str.ofString "newitem") 319, Value.str (Str.ofString "parentpos") 320, Value.str (Str.ofString "parent") 321] }, { cls := Value.type "tuple", data := Data.seq #[] }, { cls := Value.none, data := Data.func { name := Str.ofString "_siftdown", qualname := Str.ofString "_siftdown", params := fArgs (pstAt 13), body := fBody (pstAt 13), scope := fScope (pstAt 13), globals := 0, closure := [], defaults := Value.none, kwdefaults := Value.none } }, { cls := Value.type "code", data := Data.fields #[Value.str (Str.ofString "_siftdown") 313, Value.str (Str.ofString "_siftdown") 314, Value.str (Str.ofString "/claim/cut.py") 315, Value.int 107 0, Value.int 3 0, Value.int 0 0, Value.int 0 0, Value.int 3 0, Value.ref 98, Value.bool true, Value.int 181 0, Value.ref 99, Value.none, Value.ref 100, Value.ref 101, Value.ref 102, Value.int 322 0, Value.int 107 0, Value.str (Str.ofString "/claim/cut.py") 323] }, { cls := Value.type "function", data := Data.func { name := Str.ofString "_siftdown", qualname := Str.ofString "_siftdown", params := fArgs (pstAt 13), body := fBody (pstAt 13), scope := fScope (pstAt 13), globals := 3, closure := [], defaults := Value.none, kwdefaults := Value.none, pyModule := Value.str (Str.ofString "cpy313.heapq") 294, code := Value.ref 103 } }, { cls := Value.type "tuple", data := Data.seq #[] }, { cls := Value.none, data := Data.fields #[] }, { cls := Value.type "tuple", data := Data.seq #[Value.str (Str.ofString "heap") 328, Value.str (Str.ofString "pos") 329, Value.str (Str.ofString "endpos") 330, Value.str (Str.ofString "startpos") 331, Value.str (Str.ofString "newitem") 332, Value.str (Str.ofString "childpos") 333, Value.str (Str.ofString "rightpos") 334] }, { cls := Value.type "tuple", data := Data.seq #[] }, { cls := Value.none, data := Data.func { name := Str.ofString "_siftup", qualname := Str.ofString "_siftup", params := fArgs (pstAt 14), body := fBody (pstAt 14), scope := fScope (pstAt 14), globals := 0, closure := [], defaults := Value.none, kwdefaults := Value.none } }, { cls := Value.type "code", data := Data.fields #[Value.str (Str.ofString "_siftup") 325, Value.str (Str.ofString "_siftup") 326, Value.str (Str.ofString "/claim/cut.py") 327, Value.int 118 0, Value.int 2 0, Value.int 0 0, Value.int 0 0, Value.int 3 0, Value.ref 105, Value.bool true, Value.int 181 0, Value.ref 106, Value.none, Value.ref 107, Value.ref 108, Value.ref 109, Value.int 335 0, Value.int 118 0, Value.str (Str.ofString "/claim/cut.py") 336] }, { cls := Value.type "function", data := Data.func { name := Str.ofString "_siftup", qualname := Str.ofString "_siftup", params := fArgs (pstAt 14), body := fBody (pstAt 14), scope := fScope (pstAt 14), globals := 3, closure := [], defaults := Value.none, kwdefaults := Value.none, pyModule := Value.str (Str.ofString "cpy313.heapq") 294, code := Value.ref 110 } }, { cls := Value.type "tuple", data := Data.seq #[] }, { cls := Value.none, data := Data.fields #[] }, { cls := Value.type "tuple", data := Data.seq #[Value.str (Str.ofString "expected") 343, Value.str (Str.ofString "actual") 344, Value.str (Str.ofString "i") 345, Value.str (Str.ofString "j") 346, Value.str (Str.ofString "missing") 347, Value.str (Str.ofString "unexpected") 348, Value.str (Str.ofString "e") 349, Value.str (Str.ofString "a") 350] }, { cls := Value.type "tuple", data := Data.seq #[] }, { cls := Value.none, data := Data.func { name := Str.ofString "sorted_list_difference", qualname := Str.ofString "sorted_list_difference", params := fArgs (pstAt 16), body := fBody (pstAt 16), scope := fScope (pstAt 16), globals := 0, closure := [], defaults := Value.none, kwdefaults := Value.none } }, { cls := Value.type "code", data := Data.fields #[Value.str (Str.ofString "sorted_list_difference") 340, Value.str (Str.ofString "sorted_list_difference") 341, Value.str (Str.ofString "/claim/cut.py") 342, Value.int 133 0, Value.int 2 0, Value.int 0 0, Value.int 0 0, Value.int 3 0, Value.ref 112, Value.bool true, Value.int 181 0, Value.ref 113, Value.none, Value.ref 114, Value.ref 115, Value.ref 116, Value.int 351 0, Value.int 133 0, Value.str (Str.ofString "/claim/cut.py") 352] }, { cls := Value.type "function", data := Data.func { name := Str.ofString "sorted_list_difference", qualname := Str.ofString "sorted_list_difference", params := fArgs (pstAt 16), body := fBody (pstAt 16), scope := fScope (pstAt 16), globals := 3, closure := [], defaults := Value.none, kwdefaults := Value.none, pyModule := Value.str (Str.ofString "cpy313.unittest.util") 338, code := Value.ref 117 } }, { cls := Value.type "tuple", data := Data.seq #[] }, { cls := Value.none, data := Data.fields #[] }, { cls := Value.type "tuple", data := Data.seq #[Value.str (Str.ofString "told") 359, Value.str (Str.ofString "parents") 360, Value.str (Str.ofString "k") 361] }, { cls := Value.type "tuple", data := Data.seq #[] }, { cls := Value.none, data := Data.func { name := Str.ofString "_law_parents", qualname := Str.ofString "_law_parents", params := fArgs (pstAt 18), body := fBody (pstAt 18), scope := fScope (pstAt 18), globals := 0, closure := [], defaults := Value.none, kwdefaults := Value.none } }, { cls := Value.type "code", data := Data.fields #[Value.str (Str.ofString "_law_parents") 356, Value.str (Str.ofString "_law_parents") 357, Value.str (Str.ofString "/claim/cut.py") 358, Value.int 166 0, Value.int 1 0, Value.int 0 0, Value.int 0 0, Value.int 3 0, Value.ref 119, Value.bool true, Value.int 181 0, Value.ref 120, Value.none, Value.ref 121, Value.ref 122, Value.ref 123, Value.int 362 0, Value.int 166 0, Value.str (Str.ofString "/claim/cut.py") 363] }, { cls := Value.type "function", data := Data.func { name := Str.ofString "_law_parents", qualname := Str.ofString "_law_parents", params := fArgs (pstAt 18), body := fBody (pstAt 18), scope := fScope (pstAt 18), globals := 3, closure := [], defaults := Value.none, kwdefaults := Value.none, pyModule := Value.str (Str.ofString "law_oy0098_02") 354, code := Value.ref 124 } }, { cls := Value.type "tuple", data := Data.seq #[] }, { cls := Value.none, data := Data.fields #[] }, { cls := Value.type "tuple", data := Data.seq #[Value.str (Str.ofString "parents") 368, Value.str (Str.ofString "parts") 369, Value.str (Str.ofString "rows") 370, Value.str (Str.ofString "k") 371, Value.str (Str.ofString "above") 372] }, { cls := Value.type "tuple", data := Data.seq #[] }, { cls := Value.none, data := Data.func { name := Str.ofString "_law_rows", qualname := Str.ofString "_law_rows", params := fArgs (pstAt 19), body := fBody (pstAt 19), scope := fScope (pstAt 19), globals := 0, closure := [], defaults := Value.none, kwdefaults := Value.none } }, { cls := Value.type "code", data := Data.fields #[Value.str (Str.ofString "_law_rows") 365, Value.str (Str.ofString "_law_rows") 366, Value.str (Str.ofString "/claim/cut.py") 367, Value.int 174 0, Value.int 1 0, Value.int 0 0, Value.int 0 0, Value.int 3 0, Value.ref 126, Value.bool true, Value.int 181 0, Value.ref 127, Value.none, Value.ref 128, Value.ref 129, Value.ref 130, Value.int 373 0, Value.int 174 0, Value.str (Str.ofString "/claim/cut.py") 374] }, { cls := Value.type "function", data := Data.func { name := Str.ofString "_law_rows", qualname := Str.ofString "_law_rows", params := fArgs (pstAt 19), body := fBody (pstAt 19), scope := fScope (pstAt 19), globals := 3, closure := [], defaults := Value.none, kwdefaults := Value.none, pyModule := Value.str (Str.ofString "law_oy0098_02") 354, code := Value.ref 131 } }, { cls := Value.type "tuple", data := Data.seq #[] }, { cls := Value.none, data := Data.fields #[] }, { cls := Value.type "tuple", data := Data.seq #[Value.str (Str.ofString "k") 379, Value.str (Str.ofString "row") 380] }, { cls := Value.type "tuple", data := Data.seq #[] }, { cls := Value.none, data := Data.func { name := Str.ofString "_law_reader", qualname := Str.ofString "_law_reader", params := fArgs (pstAt 20), body := fBody (pstAt 20), scope := fScope (pstAt 20), globals := 0, closure := [], defaults := Value.none, kwdefaults := Value.none } }, { cls := Value.type "code", data := Data.fields #[Value.str (Str.ofString "_law_reader") 376, Value.str (Str.ofString "_law_reader") 377, Value.str (Str.ofString "/claim/cut.py") 378, Value.int 181 0, Value.int 2 0, Value.int 0 0, Value.int 0 0, Value.int 3 0, Value.ref 133, Value.bool true, Value.int 181 0, Value.ref 134, Value.none, Value.ref 135, Value.ref 136, Value.ref 137, Value.int 381 0, Value.int 181 0, Value.str (Str.ofString "/claim/cut.py") 382] }, { cls := Value.type "function", data := Data.func { name := Str.ofString "_law_reader", qualname := Str.ofString "_law_reader", params := fArgs (pstAt 20), body := fBody (pstAt 20), scope := fScope (pstAt 20), globals := 3, closure := [], defaults := Value.none, kwdefaults := Value.none, pyModule := Value.str (Str.ofString "law_oy0098_02") 354, code := Value.ref 138 } }, { cls := Value.type "tuple", data := Data.seq #[] }, { cls := Value.none, data := Data.fields #[] }, { cls := Value.none, data := Data.func { name := Str.ofString "_law_moves", qualname := Str.ofString "_law_moves", params := fArgs (pstAt 21), body := fBody (pstAt 21), scope := fScope (pstAt 21), globals := 0, closure := [], defaults := Value.none, kwdefaults := Value.none } }, { cls := Value.type "code", data := Data.fields #[Value.str (Str.ofString "_law_moves") 384, Value.str (Str.ofString "_law_moves") 385, Value.str (Str.ofString "/claim/cut.py") 386, Value.int 185 0, Value.int 1 0, Value.int 0 0, Value.int 0 0, Value.int 3 0, Value.ref 140, Value.bool true, Value.int 181 0, Value.ref 141, Value.none, Value.none, Value.none, Value.ref 142, Value.int 387 0, Value.int 185 0, Value.str (Str.ofString "/claim/cut.py") 388] }, { cls := Value.type "function", data := Data.func { name := Str.ofString "_law_moves", qualname := Str.ofString "_law_moves", params := fArgs (pstAt 21), body := fBody (pstAt 21), scope := fScope (pstAt 21), globals := 3, closure := [], defaults := Value.none, kwdefaults := Value.none, pyModule := Value.str (Str.ofString "law_oy0098_02") 354, code := Value.ref 143 } }, { cls := Value.type "tuple", data := Data.seq #[] }, { cls := Value.none, data := Data.fields #[] }, { cls := Value.none, data := Data.func { name := Str.ofString "_law_whole", qualname := Str.ofString "_law_whole", params := fArgs (pstAt 22), body := fBody (pstAt 22), scope := fScope (pstAt 22), globals := 0, closure := [], defaults := Value.none, kwdefaults := Value.none } }, { cls := Value.type "code", data := Data.fields #[Value.str (Str.ofString "_law_whole") 390, Value.str (Str.ofString "_law_whole") 391, Value.str (Str.ofString "/claim/cut.py") 392, Value.int 206 0, Value.int 1 0, Value.int 0 0, Value.int 0 0, Value.int 3 0, Value.ref 145, Value.bool true, Value.int 181 0, Value.ref 146, Value.none, Value.none, Value.none, Value.ref 147, Value.int 393 0, Value.int 206 0, Value.str (Str.ofString "/claim/cut.py") 394] }, { cls := Value.type "function", data := Data.func { name := Str.ofString "_law_whole", qualname := Str.ofString "_law_whole", params := fArgs (pstAt 22), body := fBody (pstAt 22), scope := fScope (pstAt 22), globals := 3, closure := [], defaults := Value.none, kwdefaults := Value.none, pyModule := Value.str (Str.ofString "law_oy0098_02") 354, code := Value.ref 148 } }, { cls := Value.type "tuple", data := Data.seq #[] }, { cls := Value.none, data := Data.fields #[] }, { cls := Value.none, data := Data.func { name := Str.ofString "_law_worths", qualname := Str.ofString "_law_worths", params := fArgs (pstAt 23), body := fBody (pstAt 23), scope := fScope (pstAt 23), globals := 0, closure := [], defaults := Value.none, kwdefaults := Value.none } }, { cls := Value.type "code", data := Data.fields #[Value.str (Str.ofString "_law_worths") 396, Value.str (Str.ofString "_law_worths") 397, Value.str (Str.ofString "/claim/cut.py") 398, Value.int 213 0, Value.int 1 0, Value.int 0 0, Value.int 0 0, Value.int 3 0, Value.ref 150, Value.bool true, Value.int 181 0, Value.ref 151, Value.none, Value.none, Value.none, Value.ref 152, Value.int 399 0, Value.int 213 0, Value.str (Str.ofString "/claim/cut.py") 400] }, { cls := Value.type "function", data := Data.func { name := Str.ofString "_law_worths", qualname := Str.ofString "_law_worths", params := fArgs (pstAt 23), body := fBody (pstAt 23), scope := fScope (pstAt 23), globals := 3, closure := [], defaults := Value.none, kwdefaults := Value.none, pyModule := Value.str (Str.ofString "law_oy0098_02") 354, code := Value.ref 153 } }, { cls := Value.type "tuple", data := Data.seq #[] }, { cls := Value.none, data := Data.fields #[] }, { cls := Value.type "tuple", data := Data.seq #[Value.str (Str.ofString "mask") 405, Value.str (Str.ofString "parents") 406, Value.str (Str.ofString "added") 407, Value.str (Str.ofString "k") 408] }, { cls := Value.type "tuple", data := Data.seq #[] }, { cls := Value.none, data := Data.func { name := Str.ofString "_law_colon", qualname := Str.ofString "_law_colon", params := fArgs (pstAt 24), body := fBody (pstAt 24), scope := fScope (pstAt 24), globals := 0, closure := [], defaults := Value.none, kwdefaults := Value.none } }, { cls := Value.type "code", data := Data.fields #[Value.str (Str.ofString "_law_colon") 402, Value.str (Str.ofString "_law_colon") 403, Value.str (Str.ofString "/claim/cut.py") 404, Value.int 220 0, Value.int 2 0, Value.int 0 0, Value.int 0 0, Value.int 3 0, Value.ref 155, Value.bool true, Value.int 181 0, Value.ref 156, Value.none, Value.ref 157, Value.ref 158, Value.ref 159, Value.int 409 0, Value.int 220 0, Value.str (Str.ofString "/claim/cut.py") 410] }, { cls := Value.type "function", data := Data.func { name := Str.ofString "_law_colon", qualname := Str.ofString "_law_colon", params := fArgs (pstAt 24), body := fBody (pstAt 24), scope := fScope (pstAt 24), globals := 3, closure := [], defaults := Value.none, kwdefaults := Value.none, pyModule := Value.str (Str.ofString "law_oy0098_02") 354, code := Value.ref 160 } }]
noncomputable def ck6 (P : Params) : List Obj := [{ cls := Value.type "tuple", data := Data.seq #[] }, { cls := Value.none, data := Data.fields #[] }, { cls := Value.none, data := Data.func { name := Str.ofString "law", qualname := Str.ofString "law", params := fArgs (pstAt 25), body := fBody (pstAt 25), scope := fScope (pstAt 25), globals := 0, closure := [], defaults := Value.none, kwdefaults := Value.none } }, { cls := Value.type "code", data := Data.fields #[Value.str (Str.ofString "law") 412, Value.str (Str.ofString "law") 413, Value.str (Str.ofString "/claim/cut.py") 414, Value.int 226 0, Value.int 1 0, Value.int 0 0, Value.int 0 0, Value.int 3 0, Value.ref 162, Value.bool true, Value.int 181 0, Value.ref 163, Value.none, Value.none, Value.none, Value.ref 164, Value.int 415 0, Value.int 226 0, Value.str (Str.ofString "/claim/cut.py") 416] }, { cls := Value.type "function", data := Data.func { name := Str.ofString "law", qualname := Str.ofString "law", params := fArgs (pstAt 25), body := fBody (pstAt 25), scope := fScope (pstAt 25), globals := 3, closure := [], defaults := Value.none, kwdefaults := Value.none, pyModule := Value.str (Str.ofString "law_oy0098_02") 354, code := Value.ref 165 } }]
noncomputable def hpA (P : Params) : Heap := ⟨⟨(ck0 P ++ (boot_o_3 P :: (ck1 P ++ (ob12v0 P :: ck2 P))))⟩, { }⟩
noncomputable def stA (w : World) (os : OsState) : Shared := ⟨hpA w.params, #[], { }, 187, os⟩
noncomputable abbrev stB := stA
noncomputable def hp1 (P : Params) : Heap := ⟨⟨(ck0 P ++ (ob3v1 P :: (ck1 P ++ (ob12v1 P :: (ck2 P ++ ck3 P)))))⟩, { }⟩
noncomputable def st1 (w : World) (os : OsState) : Shared := ⟨hp1 w.params, #[], { }, 254, os⟩
noncomputable def hp2 (P : Params) : Heap := ⟨⟨(ck0 P ++ (ob3v2 P :: (ck1 P ++ (ob12v2 P :: (ck2 P ++ (ck3 P ++ ck4 P))))))⟩, { }⟩
noncomputable def st2 (w : World) (os : OsState) : Shared := ⟨hp2 w.params, #[], { }, 294, os⟩
noncomputable def hp3 (P : Params) : Heap := ⟨⟨(ck0 P ++ (ob3v3 P :: (ck1 P ++ (ob12v3 P :: (ck2 P ++ (ck3 P ++ (ck4 P ++ ck5 P)))))))⟩, { }⟩
noncomputable def st3 (w : World) (os : OsState) : Shared := ⟨hp3 w.params, #[], { }, 412, os⟩
noncomputable def hp4 (P : Params) : Heap := ⟨⟨(ck0 P ++ (ob3v4 P :: (ck1 P ++ (ob12v4 P :: (ck2 P ++ (ck3 P ++ (ck4 P ++ (ck5 P ++ ck6 P))))))))⟩, { }⟩
noncomputable def st4 (w : World) (os : OsState) : Shared := ⟨hp4 w.params, #[], { }, 418, os⟩
noncomputable def pcE : Env := { scope := pw.main.scope, locals := mainNs, globals := mainNs, cells := [], code := Value.ref 13, frame := some 14 }
noncomputable def pcB : List Stmt := behindTheImports pw
noncomputable abbrev pcC : Code := .body pcB pcE
noncomputable abbrev pcQ : List Frame := [topFrame { line := 0, col := 0, endLine := 0, endCol := 0 }]
noncomputable abbrev pcN : Option Value := some (Value.ref 6)
theorem pcPre (w : World) (os : OsState) : topGo treeTable pw w 11 pcN 12 ⟨boot_heap w.params, Array.mk [], boot_drawn, boot_toks, os⟩ (topStub pw) = some (stA w os, ⟨denote treeTable pcC, pcC, { line := 0, col := 0, endLine := 0, endCol := 0 }, pcQ⟩) := by kernel_rfl
theorem pcBlock (w : World) (os : OsState) : segRun treeTable pw w 11 pcN 1 1 (stA w os) (blockOf pcB pcE pcC { line := 0, col := 0, endLine := 0, endCol := 0 } pcQ) = some (.next, stB w os, pcC, { line := 0, col := 0, endLine := 0, endCol := 0 }) := by kernel_rfl
noncomputable abbrev sl1 : List Stmt := (pcB.drop 0).take 9
theorem pc1 (w : World) (os : OsState) : segRun treeTable pw w 11 pcN 1 221 (stB w os) (piecesOf sl1 pcE pcC { line := 0, col := 0, endLine := 0, endCol := 0 } pcQ) = some (.next, st1 w os, pcC, { line := 68, col := 0, endLine := 68, endCol := 8 }) := by kernel_rfl
noncomputable abbrev sl2 : List Stmt := (pcB.drop 9).take 1
theorem pc2 (w : World) (os : OsState) : segRun treeTable pw w 11 pcN 1 257 (st1 w os) (piecesOf sl2 pcE pcC { line := 68, col := 0, endLine := 68, endCol := 8 } pcQ) = some (.next, st2 w os, pcC, { line := 69, col := 0, endLine := 94, endCol := 16 }) := by kernel_rfl
noncomputable abbrev sl3 : List Stmt := (pcB.drop 10).take 15
theorem pc3 (w : World) (os : OsState) : segRun treeTable pw w 11 pcN 1 398 (st2 w os) (piecesOf sl3 pcE pcC { line := 69, col := 0, endLine := 94, endCol := 16 } pcQ) = some (.next, st3 w os, pcC, { line := 220, col := 0, endLine := 225, endCol := 20 }) := by kernel_rfl
noncomputable abbrev sl4 : List Stmt := (pcB.drop 25).take 1
theorem pc4 (w : World) (os : OsState) : segRun treeTable pw w 11 pcN 1 27 (st3 w os) (piecesOf sl4 pcE pcC { line := 220, col := 0, endLine := 225, endCol := 20 } pcQ) = some (.next, st4 w os, pcC, { line := 226, col := 0, endLine := 237, endCol := 15 }) := by kernel_rfl
theorem pcFin (w : World) (os : OsState) : topRun treeTable pw w 11 pcN 2 (st4 w os) ⟨doneF .next, pcC, { line := 226, col := 0, endLine := 237, endCol := 15 }, pcQ⟩ = some (st4 w os) := by kernel_rfl
theorem pcList : pcB = (sl1 ++ (sl2 ++ (sl3 ++ (sl4 ++ [])))) := by rfl
theorem pcRest (w : World) (os : OsState) : topRun treeTable pw w 11 pcN 905 (stB w os) (restOf pcB pcE pcC { line := 0, col := 0, endLine := 0, endCol := 0 } pcQ) = some (st4 w os) := by
  have e : ∀ (c : Code) (l : List Stmt), pcB = l → topRun treeTable pw w 11 pcN 905 (stB w os) (restOf l pcE c { line := 0, col := 0, endLine := 0, endCol := 0 } pcQ) = some (st4 w os) → topRun treeTable pw w 11 pcN 905 (stB w os) (restOf pcB pcE c { line := 0, col := 0, endLine := 0, endCol := 0 } pcQ) = some (st4 w os) := fun c l h k => by rw [h]; exact k
  exact e pcC _ pcList (piece_app (pc1 w os) (piece_app (pc2 w os) (piece_app (pc3 w os) (piece_app (pc4 w os) (piece_nil (pcFin w os))))))
theorem pcRun (w : World) (os : OsState) : topRun treeTable pw w 11 pcN 918 ⟨boot_heap w.params, Array.mk [], boot_drawn, boot_toks, os⟩ (topStub pw) = some (st4 w os) :=
  go_top (pcPre w os) (piece_block (pcBlock w os) (pcRest w os))
noncomputable def vw : Program := { PySem.Challenge.pw_oy0098_02 with main := { PySem.Challenge.pw_oy0098_02.main with body := [0,1,3,4,5,6,7,9,11,12,13,14,16,18,19,20,21,22,23,24,25].filterMap fun i => PySem.Challenge.pw_oy0098_02.main.body[i]? } }
noncomputable abbrev pcX : Shared → Bool := fun s => xlAt vw [] s && recOk (RowW.records (OpenRow.toRowW (OpenLaw.row PySem.Challenge.rw_oy0098_02))) s
theorem pcA (w : World) (os : OsState) : (staticsOk (importedModules pw.main.body) (boot_heap w.params) (hp4 w.params) && namesBound pw (hp4 w.params) && gensDone (st4 w os) && laidKept (boot_heap w.params) (hp4 w.params)) = true := by kernel_rfl
theorem pcSeen (w : World) (os : OsState) : openSeen vw [] (importedModules pw.main.body) pcX true (st4 w os) = openGood vw [] := by kernel_rfl
theorem pcSize (w : World) : ((boot_heap w.params).isNs mainGlobals && (Array.mk [] : Array GenState).size == 0, (boot_heap w.params).objs.size, (boot_heap w.params).nsMap mainGlobals "__annotations__") = (true, 11, pcN) := by kernel_rfl
theorem pcLeft {α : Type} {Yf : Shared → α} {Ya : World → α} (hY : ∀ w os, Yf (st4 w os) = Ya w) : LeftO pw vw [] pcX Yf Ya 1924 :=
  LeftO.of_pieces (H₀ := boot_heap) (H₁ := hp4) (gs₀ := Array.mk []) (gs₁ := #[]) (d₀ := boot_drawn) (d₁ := {}) (k₀ := boot_toks) (k₁ := 418) (m₀ := 11) (ann := pcN) (M := 918) (boot_open (by rfl) (by rfl) (fun _ => by rfl)) pcSize pcRun (by rfl)
    (fun w => by funext os; exact looks_pair (pcA w os) (looks_pair (pcSeen w os) (hY w os)))
end Mine
end

section
open PySem PySem.W PyProof.Rows
set_option maxRecDepth 100000
set_option maxHeartbeats 0
namespace Mine
theorem tsaid : PySem.Challenge.rw_oy0098_02.wellSaid = true := by
  delta OpenLaw.wellSaid
  iterate 18 refine look_both ?_ ?_
  delta OpenRow.wellSaid
  iterate 2 refine look_both ?_ ?_
  delta OpenRow.partSaid
  iterate 12 refine look_both ?_ ?_
  delta looksOpen
  iterate 5 refine look_both ?_ ?_
  all_goals decide +kernel
local macro_rules | `(tactic| o_law) => `(tactic| refine holds_law Mine.tsaid fun said => ?_)
local macro_rules | `(tactic| k_qdec) => `(tactic| decide +kernel)
local macro_rules | `(tactic| o_head $H) => `(tactic| (
    refine holds_open (q := Mine.vw) (loose := []) (Xt := fun s => xlAt Mine.vw [] s && recOk (RowW.records (OpenRow.toRowW (OpenLaw.row PySem.Challenge.rw_oy0098_02))) s) (XP := XL Mine.vw []) (Yf := Hook.obs $H) (Ya := Hook.val $H) (YP := Hook.says $H) (N := 1924) ?hl (Hook.of $H) (Hook.keeps $H) (fun s e => xl_of s (Bool.and_eq_true_iff.mp e).1) XL.keeps (by rfl) (by rfl) (by rfl) (fun s e => recFacts_of (Bool.and_eq_true_iff.mp e).2) (by rfl) (by first | assumption | decide +kernel) (by decide +kernel) ⟨rfl, rfl, rfl, rfl, rfl, by decide +kernel⟩ ?hw ?hc
    case hl => exact Mine.pcLeft (fun w os => by kernel_rfl)))
open_top hd for PySem.Challenge.rw_oy0098_02
end Mine
end

section
open PySem PySem.W PyProof.Rows
set_option maxRecDepth 100000
set_option maxHeartbeats 4000000
namespace Mine
noncomputable abbrev KK (C : Cx) : Frag := Mine.hd.heap_1 C.w.params
variable {C : Cx}

theorem len1 {vs : List Value} (h : vs.length = 1) : ∃ a, vs = [a] := List.length_eq_one_iff.mp h
theorem len2 {vs : List Value} (h : vs.length = 2) : ∃ a b, vs = [a, b] := by
  match vs, h with
  | [a, b], _ => exact ⟨a, b, rfl⟩
theorem len3 {vs : List Value} (h : vs.length = 3) : ∃ a b c, vs = [a, b, c] := by
  match vs, h with
  | [a, b, c], _ => exact ⟨a, b, c, rfl⟩
theorem len5 {vs : List Value} (h : vs.length = 5) : ∃ a b c d e, vs = [a, b, c, d, e] := by
  match vs, h with
  | [a, b, c, d, e], _ => exact ⟨a, b, c, d, e, rfl⟩

theorem ok__siftdown {d : Nat} (S : Sta C (KK C)) : FnOk C (d + 1) 104 T__siftdown :=
  fn_ok S (by rfl) rfl (by rfl) rfl rfl rfl (by decide +kernel) (by decide) (bind_plain (by intro vs h; obtain ⟨a, b, c, rfl⟩ := len3 h; rfl)) (ss_cons (s_assign (se_sub (se_name) (se_name)) (by first | exact .inl (by decide +kernel) | exact .inr (by decide +kernel))) (ss_cons (s_while (sb_compare op_gt (se_name) (se_name)) (ss_cons (s_assign (se_binop op_shr (se_binop op_sub (se_name) (se_int)) (se_int)) (by first | exact .inl (by decide +kernel) | exact .inr (by decide +kernel))) (ss_cons (s_assign (se_sub (se_name) (se_name)) (by first | exact .inl (by decide +kernel) | exact .inr (by decide +kernel))) (ss_cons (s_if (sb_compare op_lt (se_name) (se_name)) (ss_cons (s_set (se_name) (se_name) (se_name)) (ss_cons (s_assign (se_name) (by first | exact .inl (by decide +kernel) | exact .inr (by decide +kernel))) (ss_cons (s_continue) (ss_nil)))) (ss_nil)) (ss_cons (s_break) (ss_nil)))))) (ss_cons (s_set (se_name) (se_name) (se_name)) (ss_nil))))

theorem ok_heappush {d : Nat} (S : Sta C (KK C)) : FnOk C (d + 2) 90 T_heappush :=
  fn_ok S (by rfl) rfl (by rfl) rfl rfl rfl (by decide +kernel) (by decide) (bind_plain (by intro vs h; obtain ⟨a, b, rfl⟩ := len2 h; rfl)) (ss_cons (s_expr (se_meth_list (se_name) (sl_cons (se_name) (sl_nil)) op_append PySem.F.slot_list_append PySem.F.type_list_append)) (ss_cons (s_expr (se_call_own S (ok__siftdown S) (sl_cons (se_name) (sl_cons (se_int) (sl_cons (se_binop op_sub (se_call_builtin S op_len (sl_cons (se_name) (sl_nil)) (by rfl) (by decide +kernel) boot_len) (se_int)) (sl_nil)))) (by rfl) (by decide +kernel) (by rfl))) (ss_nil)))

theorem ok__siftup {d : Nat} (S : Sta C (KK C)) : FnOk C (d + 2) 111 T__siftup :=
  fn_ok S (by rfl) rfl (by rfl) rfl rfl rfl (by decide +kernel) (by decide) (bind_plain (by intro vs h; obtain ⟨a, b, rfl⟩ := len2 h; rfl)) (ss_cons (s_assign (se_call_builtin S op_len (sl_cons (se_name) (sl_nil)) (by rfl) (by decide +kernel) boot_len) (by first | exact .inl (by decide +kernel) | exact .inr (by decide +kernel))) (ss_cons (s_assign (se_name) (by first | exact .inl (by decide +kernel) | exact .inr (by decide +kernel))) (ss_cons (s_assign (se_sub (se_name) (se_name)) (by first | exact .inl (by decide +kernel) | exact .inr (by decide +kernel))) (ss_cons (s_assign (se_binop op_add (se_binop op_mulS (se_int) (se_name)) (se_int)) (by first | exact .inl (by decide +kernel) | exact .inr (by decide +kernel))) (ss_cons (s_while (sb_compare op_lt (se_name) (se_name)) (ss_cons (s_assign (se_binop op_add (se_name) (se_int)) (by first | exact .inl (by decide +kernel) | exact .inr (by decide +kernel))) (ss_cons (s_if (sb_boolop (sa_and_cons (sb_compare op_lt (se_name) (se_name)) (sa_and_cons (sb_not (sb_compare op_lt (se_sub (se_name) (se_name)) (se_sub (se_name) (se_name)))) (sa_and_nil)))) (ss_cons (s_assign (se_name) (by first | exact .inl (by decide +kernel) | exact .inr (by decide +kernel))) (ss_nil)) (ss_nil)) (ss_cons (s_set (se_name) (se_name) (se_sub (se_name) (se_name))) (ss_cons (s_assign (se_name) (by first | exact .inl (by decide +kernel) | exact .inr (by decide +kernel))) (ss_cons (s_assign (se_binop op_add (se_binop op_mulS (se_int) (se_name)) (se_int)) (by first | exact .inl (by decide +kernel) | exact .inr (by decide +kernel))) (ss_nil))))))) (ss_cons (s_set (se_name) (se_name) (se_name)) (ss_cons (s_expr (se_call_own S (ok__siftdown S) (sl_cons (se_name) (sl_cons (se_name) (sl_cons (se_name) (sl_nil)))) (by rfl) (by decide +kernel) (by rfl))) (ss_nil))))))))

theorem ok_heappop {d : Nat} (S : Sta C (KK C)) : FnOk C (d + 3) 97 T_heappop :=
  fn_ok S (by rfl) rfl (by rfl) rfl rfl rfl (by decide +kernel) (by decide) (bind_plain (by intro vs h; obtain ⟨a, rfl⟩ := len1 h; rfl)) (ss_cons (s_assign (se_meth_list (se_name) (sl_nil) op_pop PySem.F.slot_list_pop PySem.F.type_list_pop) (by first | exact .inl (by decide +kernel) | exact .inr (by decide +kernel))) (ss_cons (s_if (sb_truth (se_name) S.lo) (ss_cons (s_assign (se_sub (se_name) (se_int)) (by first | exact .inl (by decide +kernel) | exact .inr (by decide +kernel))) (ss_cons (s_set (se_name) (se_int) (se_name)) (ss_cons (s_expr (se_call_own S (ok__siftup S) (sl_cons (se_name) (sl_cons (se_int) (sl_nil))) (by rfl) (by decide +kernel) (by rfl))) (ss_cons (s_return (se_name)) (ss_nil))))) (ss_nil)) (ss_cons (s_return (se_name)) (ss_nil))))

theorem ok__kind {d : Nat} (S : Sta C (KK C)) : FnOk C (d + 1) 28 T__kind :=
  fn_ok S (by rfl) rfl (by rfl) rfl rfl rfl (by decide +kernel) (by decide) (bind_plain (by intro vs h; obtain ⟨a, b, rfl⟩ := len2 h; rfl)) (ss_cons (s_assign (se_call_type S op_type (sl_cons (se_name) (sl_nil)) (by rfl) (by decide +kernel) boot_type) (by first | exact .inl (by decide +kernel) | exact .inr (by decide +kernel))) (ss_cons (s_if (sb_compare op_is (se_name) (se_typ S (by rfl) (by decide +kernel) boot_str)) (ss_cons (s_return (se_str)) (ss_nil)) (ss_nil)) (ss_fail)))

theorem ok__c_path {d : Nat} (S : Sta C (KK C)) : FnOk C (d + 2) 35 T__c_path :=
  fn_ok S (by rfl) rfl (by rfl) rfl rfl rfl (by decide +kernel) (by decide) (bind_plain (by intro vs h; obtain ⟨a, b, c, e, f, rfl⟩ := len5 h; rfl)) (ss_cons (s_if (sb_boolop (sa_and_cons (sb_compare op_eq (se_call_builtin S op_len (sl_cons (se_name) (sl_nil)) (by rfl) (by decide +kernel) boot_len) (se_int)) (sa_and_cons (sb_not (sb_truth (se_name) S.lo)) (sa_and_nil)))) (ss_cons (s_assign (se_sub (se_name) (se_int)) (by first | exact .inl (by decide +kernel) | exact .inr (by decide +kernel))) (ss_nil)) (ss_fail)) (ss_cons (s_assign (se_call_own S (ok__kind S) (sl_cons (se_name) (sl_cons (se_name) (sl_nil))) (by rfl) (by decide +kernel) (by rfl)) (by first | exact .inl (by decide +kernel) | exact .inr (by decide +kernel))) (ss_cons (s_if (sb_truth (se_name) S.lo) (ss_fail) (ss_nil)) (ss_cons (s_return (se_name)) (ss_nil)))))

theorem ok__splitroot {d : Nat} (S : Sta C (KK C)) : FnOk C (d + 1) 42 T__splitroot :=
  fn_ok S (by rfl) rfl (by rfl) rfl rfl rfl (by decide +kernel) (by decide) (bind_plain (by intro vs h; obtain ⟨a, rfl⟩ := len1 h; rfl)) (ss_cons (s_assign (se_str) (by first | exact .inl (by decide +kernel) | exact .inr (by decide +kernel))) (ss_cons (s_assign (se_str) (by first | exact .inl (by decide +kernel) | exact .inr (by decide +kernel))) (ss_cons (s_if (sb_compare op_ne (se_slStr (se_name) (se_int)) (se_name)) (ss_cons (s_return (se_tuple (sl_cons (se_name) (sl_cons (se_name) (sl_cons (se_name) (sl_nil)))))) (ss_nil)) (ss_fail)) (ss_nil))))

theorem ok__normpath {d : Nat} (S : Sta C (KK C)) : FnOk C (d + 2) 49 T__normpath :=
  fn_ok S (by rfl) rfl (by rfl) rfl rfl rfl (by decide +kernel) (by decide) (bind_plain (by intro vs h; obtain ⟨a, rfl⟩ := len1 h; rfl)) (ss_cons (s_assign (se_str) (by first | exact .inl (by decide +kernel) | exact .inr (by decide +kernel))) (ss_cons (s_assign (se_str) (by first | exact .inl (by decide +kernel) | exact .inr (by decide +kernel))) (ss_cons (s_assign (se_str) (by first | exact .inl (by decide +kernel) | exact .inr (by decide +kernel))) (ss_cons (s_if (sb_not (sb_truth (se_name) S.lo)) (ss_cons (s_return (se_name)) (ss_nil)) (ss_nil)) (ss_cons (s_assign_tuple (se_call_own S (ok__splitroot S) (sl_cons (se_name) (sl_nil)) (by rfl) (by decide +kernel) (by rfl)) (by exact ⟨⟨_, rfl⟩, (by first | exact .inl (by decide +kernel) | exact .inr (by decide +kernel)), ⟨⟨_, rfl⟩, (by first | exact .inl (by decide +kernel) | exact .inr (by decide +kernel)), ⟨⟨_, rfl⟩, (by first | exact .inl (by decide +kernel) | exact .inr (by decide +kernel)), trivial⟩⟩⟩)) (ss_cons (s_assign (se_meth_str (se_name) (sl_cons (se_name) (sl_nil)) op_split PySem.F.slot_str_split PySem.F.type_str_split) (by first | exact .inl (by decide +kernel) | exact .inr (by decide +kernel))) (ss_cons (s_assign (se_list (sl_nil)) (by first | exact .inl (by decide +kernel) | exact .inr (by decide +kernel))) (ss_cons (s_for (tgs_name (by first | exact .inl (by decide +kernel) | exact .inr (by decide +kernel))) (si_val (se_name)) (ss_cons (s_if (sb_boolop (sa_or_cons (sb_not (sb_truth (se_name) S.lo)) (sa_or_cons (sb_compare op_eq (se_name) (se_name)) (sa_or_nil)))) (ss_fail) (ss_nil)) (ss_cons (s_if (sb_boolop (sa_or_cons (sb_compare op_ne (se_name) (se_name)) (sa_fail))) (ss_cons (s_expr (se_meth_list (se_name) (sl_cons (se_name) (sl_nil)) op_append PySem.F.slot_list_append PySem.F.type_list_append)) (ss_nil)) (ss_fail)) (ss_nil)))) (ss_cons (s_assign (se_name) (by first | exact .inl (by decide +kernel) | exact .inr (by decide +kernel))) (ss_cons (s_assign (se_binop op_add (se_name) (se_meth_str (se_name) (sl_cons (se_name) (sl_nil)) op_join PySem.F.slot_str_join PySem.F.type_str_join)) (by first | exact .inl (by decide +kernel) | exact .inr (by decide +kernel))) (ss_cons (s_return (se_or (se_name) (se_name) S.lo)) (ss_nil))))))))))))

theorem ok_normpath {d : Nat} (S : Sta C (KK C)) : FnOk C (d + 3) 56 T_normpath :=
  fn_ok S (by rfl) rfl (by rfl) rfl rfl rfl (by decide +kernel) (by decide) (bind_star (fun _ => rfl)) (ss_cons (s_return (se_call_own S (ok__normpath S) (sl_cons (se_call_own S (ok__c_path S) (sl_cons (se_str) (sl_cons (se_str) (sl_cons (se_str) (sl_cons (se_name) (sl_cons (se_name) (sl_nil)))))) (by rfl) (by decide +kernel) (by rfl)) (sl_nil)) (by rfl) (by decide +kernel) (by rfl))) (ss_nil))

theorem ok___init__ {d : Nat} (S : Sta C (KK C)) : FnOk C (d + 4) 69 T___init__ :=
  fn_ok S (by rfl) rfl (by rfl) rfl rfl rfl (by decide +kernel) (by decide) (bind_defaults S rfl (by rfl) (by intro vs h; obtain ⟨a, b, c, rfl⟩ := len3 h; exact ⟨_, rfl, rfl⟩)) (ss_cons (s_setattr S (se_name) (se_ifexp (sb_not (sb_truth (se_name) S.lo)) (se_call_type S op_setc (sl_nil) (by rfl) (by decide +kernel) boot_set) (se_call_type S op_setc (sl_cons (se_name) (sl_nil)) (by rfl) (by decide +kernel) boot_set)) (by rfl) (by rfl) (by rfl) (by rfl)) (ss_cons (s_setattr S (se_name) (se_ifexp (sb_not (sb_truth (se_name) S.lo)) (se_list (sl_nil)) (se_comp (si_val (se_name)) (tgc_name (by decide +kernel)) (sc_none) (se_call_own S (ok_normpath S) (sl_cons (se_name) (sl_nil)) (by rfl) (by decide +kernel) (by rfl)) (by decide +kernel))) (by rfl) (by rfl) (by rfl) (by rfl)) (ss_cons (s_setattr S (se_name) (se_dict1s (se_str) (se_int)) (by rfl) (by rfl) (by rfl) (by rfl)) (ss_nil))))

theorem ok_names {d : Nat} (S : Sta C (KK C)) : FnOk C (d + 1) 76 T_names :=
  fn_ok S (by rfl) rfl (by rfl) rfl rfl rfl (by decide +kernel) (by decide) (bind_plain (by intro vs h; obtain ⟨a, b, c, rfl⟩ := len3 h; rfl)) (ss_cons (s_if (sb_compare (op_in S.lo) (se_name) (se_attr S (se_name) (by rfl) (by rfl) (by rfl))) (ss_cons (s_return (se_sub (se_attr S (se_name) (by rfl) (by rfl) (by rfl)) (se_name))) (ss_nil)) (ss_nil)) (ss_cons (s_if (sb_compare (op_in S.lo) (se_name) (se_attr S (se_name) (by rfl) (by rfl) (by rfl))) (ss_cons (s_set (se_attr S (se_name) (by rfl) (by rfl) (by rfl)) (se_name) (se_int)) (ss_cons (s_return (se_int)) (ss_nil))) (ss_nil)) (ss_cons (s_for (tgs_name (by first | exact .inl (by decide +kernel) | exact .inr (by decide +kernel))) (si_set (se_attr S (se_name) (by rfl) (by rfl) (by rfl))) (ss_cons (s_if (sb_truth (se_meth_str (se_name) (sl_cons (se_binop op_add (se_name) (se_str)) (sl_nil)) op_starts PySem.F.slot_str_startswith PySem.F.type_str_startswith) S.lo) (ss_cons (s_set (se_attr S (se_name) (by rfl) (by rfl) (by rfl)) (se_name) (se_int)) (ss_cons (s_return (se_int)) (ss_nil))) (ss_nil)) (ss_nil))) (ss_cons (s_if (sb_compare op_is (se_name) (se_none)) (ss_cons (s_set (se_attr S (se_name) (by rfl) (by rfl) (by rfl)) (se_name) (se_int)) (ss_cons (s_return (se_int)) (ss_nil))) (ss_nil)) (ss_cons (s_for (tgs_name (by first | exact .inl (by decide +kernel) | exact .inr (by decide +kernel))) (si_val (se_attr S (se_name) (by rfl) (by rfl) (by rfl))) (ss_cons (s_if (sb_truth (se_meth_str (se_name) (sl_cons (se_binop op_add (se_name) (se_globs (val := "/") S (by rfl) (by decide +kernel))) (sl_nil)) op_starts PySem.F.slot_str_startswith PySem.F.type_str_startswith) S.lo) (ss_cons (s_set (se_attr S (se_name) (by rfl) (by rfl) (by rfl)) (se_name) (se_int)) (ss_cons (s_return (se_int)) (ss_nil))) (ss_nil)) (ss_nil))) (ss_cons (s_set (se_attr S (se_name) (by rfl) (by rfl) (by rfl)) (se_name) (se_int)) (ss_cons (s_return (se_int)) (ss_nil))))))))

theorem ok_sorted_list_difference {d : Nat} (S : Sta C (KK C)) : FnOk C (d + 1) 118 T_sorted_list_difference :=
  fn_ok S (by rfl) rfl (by rfl) rfl rfl rfl (by decide +kernel) (by decide) (bind_plain (by intro vs h; obtain ⟨a, b, rfl⟩ := len2 h; rfl)) (ss_cons (s_assign2 (se_int) (by first | exact .inl (by decide +kernel) | exact .inr (by decide +kernel)) (by first | exact .inl (by decide +kernel) | exact .inr (by decide +kernel))) (ss_cons (s_assign (se_list (sl_nil)) (by first | exact .inl (by decide +kernel) | exact .inr (by decide +kernel))) (ss_cons (s_assign (se_list (sl_nil)) (by first | exact .inl (by decide +kernel) | exact .inr (by decide +kernel))) (ss_cons (s_while (sb_truth se_bool S.lo) (ss_cons (s_try S (ss_cons (s_assign (se_subx (se_name) (se_name) (by decide) (by decide)) (by first | exact .inl (by decide +kernel) | exact .inr (by decide +kernel))) (ss_cons (s_assign (se_subx (se_name) (se_name) (by decide) (by decide)) (by first | exact .inl (by decide +kernel) | exact .inr (by decide +kernel))) (ss_cons (s_if (sb_compare op_lt (se_name) (se_name)) (ss_cons (s_expr (se_meth_list (se_name) (sl_cons (se_name) (sl_nil)) op_append PySem.F.slot_list_append PySem.F.type_list_append)) (ss_cons (s_aug (se_int) (by decide +kernel)) (ss_cons (s_whilex (sb_compare op_eq (se_subx (se_name) (se_name) (by decide) (by decide)) (se_name)) (ss_cons (s_aug (se_int) (by decide +kernel)) (ss_nil))) (ss_nil)))) (ss_cons (s_if (sb_compare op_gt (se_name) (se_name)) (ss_cons (s_expr (se_meth_list (se_name) (sl_cons (se_name) (sl_nil)) op_append PySem.F.slot_list_append PySem.F.type_list_append)) (ss_cons (s_aug (se_int) (by decide +kernel)) (ss_cons (s_whilex (sb_compare op_eq (se_subx (se_name) (se_name) (by decide) (by decide)) (se_name)) (ss_cons (s_aug (se_int) (by decide +kernel)) (ss_nil))) (ss_nil)))) (ss_cons (s_aug (se_int) (by decide +kernel)) (ss_cons (s_fin (ss_cons (s_whilex (sb_compare op_eq (se_subx (se_name) (se_name) (by decide) (by decide)) (se_name)) (ss_cons (s_aug (se_int) (by decide +kernel)) (ss_nil))) (ss_nil)) (ss_cons (s_aug (se_int) (by decide +kernel)) (ss_cons (s_whilex (sb_compare op_eq (se_subx (se_name) (se_name) (by decide) (by decide)) (se_name)) (ss_cons (s_aug (se_int) (by decide +kernel)) (ss_nil))) (ss_nil))) (ss_cons (s_aug (se_int) (by decide +kernel)) (ss_cons (s_whilex (sb_compare op_eq (se_subx (se_name) (se_name) (by decide) (by decide)) (se_name)) (ss_cons (s_aug (se_int) (by decide +kernel)) (ss_nil))) (ss_nil)))) (ss_nil)))) (ss_nil))) (ss_nil)))) (ss_cons (s_expr (se_meth_list (se_name) (sl_cons (se_slFrom (se_name) (se_name)) (sl_nil)) op_extend PySem.F.slot_list_extend PySem.F.type_list_extend)) (ss_cons (s_expr (se_meth_list (se_name) (sl_cons (se_slFrom (se_name) (se_name)) (sl_nil)) op_extend PySem.F.slot_list_extend PySem.F.type_list_extend)) (ss_cons (s_break) (ss_nil)))) (by rfl) (by decide +kernel)) (ss_nil))) (ss_cons (s_return (se_tuple (sl_cons (se_name) (sl_cons (se_name) (sl_nil))))) (ss_nil))))))

theorem ok__law_parents {d : Nat} (S : Sta C (KK C)) : FnOk C (d + 1) 125 T__law_parents :=
  fn_ok S (by rfl) rfl (by rfl) rfl rfl rfl (by decide +kernel) (by decide) (bind_plain (by intro vs h; obtain ⟨a, rfl⟩ := len1 h; rfl)) (ss_cons (s_assign (se_list (sl_nil)) (by first | exact .inl (by decide +kernel) | exact .inr (by decide +kernel))) (ss_cons (s_for (tgs_name (by first | exact .inl (by decide +kernel) | exact .inr (by decide +kernel))) (si_range S (sl_cons (se_call_builtin S op_len (sl_cons (se_name) (sl_nil)) (by rfl) (by decide +kernel) boot_len) (sl_nil)) (by rfl) (by decide +kernel) boot_range) (ss_cons (s_if (sb_compare op_lt (se_name) (se_int)) (ss_cons (s_expr (se_meth_list (se_name) (sl_cons (se_binop op_sub (se_binop op_mod (se_sub (se_name) (se_name)) (se_binop op_add (se_name) (se_int))) (se_int)) (sl_nil)) op_append PySem.F.slot_list_append PySem.F.type_list_append)) (ss_nil)) (ss_cons (s_expr (se_meth_list (se_name) (sl_cons (se_binop op_sub (se_binop op_sub (se_name) (se_int)) (se_binop op_mod (se_sub (se_name) (se_name)) (se_int))) (sl_nil)) op_append PySem.F.slot_list_append PySem.F.type_list_append)) (ss_nil))) (ss_nil))) (ss_cons (s_return (se_name)) (ss_nil))))

theorem ok__law_rows {d : Nat} (S : Sta C (KK C)) : FnOk C (d + 1) 132 T__law_rows :=
  fn_ok S (by rfl) rfl (by rfl) rfl rfl rfl (by decide +kernel) (by decide) (bind_plain (by intro vs h; obtain ⟨a, rfl⟩ := len1 h; rfl)) (ss_cons (s_assign (se_list (sl_cons (se_str) (sl_cons (se_str) (sl_cons (se_str) (sl_cons (se_str) (sl_cons (se_str) (sl_cons (se_str) (sl_nil)))))))) (by first | exact .inl (by decide +kernel) | exact .inr (by decide +kernel))) (ss_cons (s_assign (se_list (sl_nil)) (by first | exact .inl (by decide +kernel) | exact .inr (by decide +kernel))) (ss_cons (s_for (tgs_name (by first | exact .inl (by decide +kernel) | exact .inr (by decide +kernel))) (si_range S (sl_cons (se_call_builtin S op_len (sl_cons (se_name) (sl_nil)) (by rfl) (by decide +kernel) boot_len) (sl_nil)) (by rfl) (by decide +kernel) boot_range) (ss_cons (s_assign (se_ifexp (sb_compare op_lt (se_sub (se_name) (se_name)) (se_int)) (se_list (sl_nil)) (se_sub (se_name) (se_sub (se_name) (se_name)))) (by first | exact .inl (by decide +kernel) | exact .inr (by decide +kernel))) (ss_cons (s_expr (se_meth_list (se_name) (sl_cons (se_binop op_add (se_name) (se_list (sl_cons (se_sub (se_name) (se_name)) (sl_nil)))) (sl_nil)) op_append PySem.F.slot_list_append PySem.F.type_list_append)) (ss_nil)))) (ss_cons (s_return (se_name)) (ss_nil)))))

theorem ok__law_reader {d : Nat} (S : Sta C (KK C)) : FnOk C (d + 6) 139 T__law_reader :=
  fn_ok S (by rfl) rfl (by rfl) rfl rfl rfl (by decide +kernel) (by decide) (bind_plain (by intro vs h; obtain ⟨a, b, rfl⟩ := len2 h; rfl)) (ss_cons (s_if (sb_compare op_eq (se_binop op_mod (se_name) (se_int)) (se_int)) (ss_cons (s_return (se_call_cls S (ok___init__ S) (sl_cons (se_list (sl_cons (se_meth_str (se_str) (sl_cons (se_name) (sl_nil)) op_join PySem.F.slot_str_join PySem.F.type_str_join) (sl_nil))) (sl_cons (se_list (sl_nil)) (sl_nil))) (by rfl) (by decide +kernel) (by rfl) (by rfl) (by rfl) (by rfl))) (ss_nil)) (ss_nil)) (ss_cons (s_return (se_call_cls S (ok___init__ S) (sl_cons (se_list (sl_nil)) (sl_cons (se_list (sl_cons (se_meth_str (se_str) (sl_cons (se_name) (sl_nil)) op_join PySem.F.slot_str_join PySem.F.type_str_join) (sl_nil))) (sl_nil))) (by rfl) (by decide +kernel) (by rfl) (by rfl) (by rfl) (by rfl))) (ss_nil)))

theorem ok__law_moves {d : Nat} (S : Sta C (KK C)) : FnOk C (d + 7) 144 T__law_moves :=
  fn_ok S (by rfl) rfl (by rfl) rfl rfl rfl (by decide +kernel) (by decide) (bind_plain (by intro vs h; obtain ⟨a, rfl⟩ := len1 h; rfl)) (ss_cons (s_assign_comp (si_range S (sl_cons (se_call_builtin S op_len (sl_cons (se_name) (sl_nil)) (by rfl) (by decide +kernel) boot_len) (sl_nil)) (by rfl) (by decide +kernel) boot_range) (tgc_name (by decide +kernel)) (sc_none) (se_call_own S (ok__law_reader S) (sl_cons (se_name) (sl_cons (se_sub (se_name) (se_name)) (sl_nil))) (by rfl) (by decide +kernel) (by rfl)) (by decide +kernel) (by first | exact .inl (by decide +kernel) | exact .inr (by decide +kernel))) (ss_cons (s_assign_comp (si_val (se_name)) (tgc_name (by decide +kernel)) (sc_none) (se_binop op_add (se_meth_str (se_str) (sl_cons (se_name) (sl_nil)) op_join PySem.F.slot_str_join PySem.F.type_str_join) (se_str)) (by decide +kernel) (by first | exact .inl (by decide +kernel) | exact .inr (by decide +kernel))) (ss_cons (s_assign_comp (si_val (se_name)) (tgc_name (by decide +kernel)) (sc_none) (se_meth_str (se_str) (sl_cons (se_name) (sl_nil)) op_join PySem.F.slot_str_join PySem.F.type_str_join) (by decide +kernel) (by first | exact .inl (by decide +kernel) | exact .inr (by decide +kernel))) (ss_cons (s_assign (se_binop op_sub (se_binop op_pow (se_int) (se_call_builtin S op_len (sl_cons (se_name) (sl_nil)) (by rfl) (by decide +kernel) boot_len)) (se_int)) (by first | exact .inl (by decide +kernel) | exact .inr (by decide +kernel))) (ss_cons (s_assign (se_list (sl_cons (se_neg (se_name)) (sl_nil))) (by first | exact .inl (by decide +kernel) | exact .inr (by decide +kernel))) (ss_cons (s_assign (se_list (sl_cons (se_name) (sl_nil))) (by first | exact .inl (by decide +kernel) | exact .inr (by decide +kernel))) (ss_cons (s_assign (se_list (sl_nil)) (by first | exact .inl (by decide +kernel) | exact .inr (by decide +kernel))) (ss_cons (s_while (sb_compare op_ne (se_name) (se_list (sl_nil))) (ss_cons (s_assign (se_neg (se_call_own S (ok_heappop S) (sl_cons (se_name) (sl_nil)) (by rfl) (by decide +kernel) (by rfl))) (by first | exact .inl (by decide +kernel) | exact .inr (by decide +kernel))) (ss_cons (s_assign_comp (si_range S (sl_cons (se_call_builtin S op_len (sl_cons (se_name) (sl_nil)) (by rfl) (by decide +kernel) boot_len) (sl_nil)) (by rfl) (by decide +kernel) boot_range) (tgc_name (by decide +kernel)) (sc_one (sb_compare op_eq (se_binop op_and (se_binop op_shr (se_name) (se_name)) (se_int)) (se_int))) (se_name) (by decide +kernel) (by first | exact .inl (by decide +kernel) | exact .inr (by decide +kernel))) (ss_cons (s_assign (se_list (sl_nil)) (by first | exact .inl (by decide +kernel) | exact .inr (by decide +kernel))) (ss_cons (s_for (tgs_name (by first | exact .inl (by decide +kernel) | exact .inr (by decide +kernel))) (si_val (se_name)) (ss_cons (s_assign_comp (si_val (se_name)) (tgc_name (by decide +kernel)) (sc_one (sb_compare op_eq (se_meth_inst S (se_sub (se_name) (se_name)) (sl_cons (se_sub (se_name) (se_name)) (sl_cons (se_sub (se_name) (se_name)) (sl_nil))) (ok_names S) (by rfl) (by rfl) (by rfl) (by rfl) (by rfl) (fun _ => rfl)) (se_int))) (se_binop op_pow (se_int) (se_name)) (by decide +kernel) (by first | exact .inl (by decide +kernel) | exact .inr (by decide +kernel))) (ss_cons (s_expr (se_meth_list (se_name) (sl_cons (se_call_builtin S op_sum (sl_cons (se_name) (sl_nil)) (by rfl) (by decide +kernel) boot_sum) (sl_nil)) op_append PySem.F.slot_list_append PySem.F.type_list_append)) (ss_nil)))) (ss_cons (s_for (tgs_name (by first | exact .inl (by decide +kernel) | exact .inr (by decide +kernel))) (si_val (se_name)) (ss_cons (s_if (sb_compare op_nin (se_name) (se_name)) (ss_cons (s_expr (se_meth_list (se_name) (sl_cons (se_name) (sl_nil)) op_append PySem.F.slot_list_append PySem.F.type_list_append)) (ss_cons (s_expr (se_call_own S (ok_heappush S) (sl_cons (se_name) (sl_cons (se_neg (se_name)) (sl_nil))) (by rfl) (by decide +kernel) (by rfl))) (ss_nil))) (ss_nil)) (ss_nil))) (ss_cons (s_expr (se_meth_list (se_name) (sl_cons (se_tuple (sl_cons (se_name) (sl_cons (se_name) (sl_nil)))) (sl_nil)) op_append PySem.F.slot_list_append PySem.F.type_list_append)) (ss_nil)))))))) (ss_cons (s_return (se_name)) (ss_nil))))))))))

theorem ok__law_whole {d : Nat} (S : Sta C (KK C)) : FnOk C (d + 1) 149 T__law_whole :=
  fn_ok S (by rfl) rfl (by rfl) rfl rfl rfl (by decide +kernel) (by decide) (bind_plain (by intro vs h; obtain ⟨a, rfl⟩ := len1 h; rfl)) (ss_cons (s_assign (se_list (sl_nil)) (by first | exact .inl (by decide +kernel) | exact .inr (by decide +kernel))) (ss_cons (s_for (tgs_name (by first | exact .inl (by decide +kernel) | exact .inr (by decide +kernel))) (si_range S (sl_cons (se_binop op_sub (se_binop op_pow (se_int) (se_call_builtin S op_len (sl_cons (se_name) (sl_nil)) (by rfl) (by decide +kernel) boot_len)) (se_int)) (sl_cons (se_neg (se_int)) (sl_cons (se_neg (se_int)) (sl_nil)))) (by rfl) (by decide +kernel) boot_range) (ss_cons (s_assign_comp (si_range S (sl_cons (se_call_builtin S op_len (sl_cons (se_name) (sl_nil)) (by rfl) (by decide +kernel) boot_len) (sl_nil)) (by rfl) (by decide +kernel) boot_range) (tgc_name (by decide +kernel)) (sc_one (sb_boolop (sa_and_cons (sb_compare op_eq (se_binop op_and (se_binop op_shr (se_name) (se_name)) (se_int)) (se_int)) (sa_and_cons (sb_compare op_ge (se_sub (se_name) (se_name)) (se_int)) (sa_and_cons (sb_compare op_eq (se_binop op_and (se_binop op_shr (se_name) (se_sub (se_name) (se_name))) (se_int)) (se_int)) (sa_and_nil)))))) (se_name) (by decide +kernel) (by first | exact .inl (by decide +kernel) | exact .inr (by decide +kernel))) (ss_cons (s_if (sb_compare op_eq (se_name) (se_list (sl_nil))) (ss_cons (s_expr (se_meth_list (se_name) (sl_cons (se_name) (sl_nil)) op_append PySem.F.slot_list_append PySem.F.type_list_append)) (ss_nil)) (ss_nil)) (ss_nil)))) (ss_cons (s_return (se_name)) (ss_nil))))

theorem ok__law_worths {d : Nat} (S : Sta C (KK C)) : FnOk C (d + 2) 154 T__law_worths :=
  fn_ok S (by rfl) rfl (by rfl) rfl rfl rfl (by decide +kernel) (by decide) (bind_plain (by intro vs h; obtain ⟨a, rfl⟩ := len1 h; rfl)) (ss_cons (s_assign (se_dict0) (by first | exact .inl (by decide +kernel) | exact .inr (by decide +kernel))) (ss_cons (s_for (tgs_tuple (by exact ⟨⟨_, rfl⟩, (by first | exact .inl (by decide +kernel) | exact .inr (by decide +kernel)), ⟨⟨_, rfl⟩, (by first | exact .inl (by decide +kernel) | exact .inr (by decide +kernel)), trivial⟩⟩)) (si_rev S (se_name) (by rfl) (by decide +kernel) boot_reversed) (ss_cons (s_assign (se_call_builtin S op_sorted (sl_cons (se_comp (si_val (se_name)) (tgc_name (by decide +kernel)) (sc_none) (se_sub (se_name) (se_name)) (by decide +kernel)) (sl_nil)) (by rfl) (by decide +kernel) boot_sorted) (by first | exact .inl (by decide +kernel) | exact .inr (by decide +kernel))) (ss_cons (s_assign_tuple (se_call_own S (ok_sorted_list_difference S) (sl_cons (se_list_range S (sl_cons (se_binop op_add (se_call_builtin S op_len (sl_cons (se_name) (sl_nil)) (by rfl) (by decide +kernel) boot_len) (se_int)) (sl_nil)) (by rfl) (by rfl) (by decide +kernel) (by decide +kernel)) (sl_cons (se_name) (sl_nil))) (by rfl) (by decide +kernel) (by rfl)) (by exact ⟨⟨_, rfl⟩, (by first | exact .inl (by decide +kernel) | exact .inr (by decide +kernel)), ⟨⟨_, rfl⟩, (by first | exact .inl (by decide +kernel) | exact .inr (by decide +kernel)), trivial⟩⟩)) (ss_cons (s_set (se_name) (se_name) (se_ifexp (sb_compare op_eq (se_name) (se_list (sl_nil))) (se_sub (se_name) (se_int)) (se_neg (se_int)))) (ss_nil))))) (ss_cons (s_return (se_name)) (ss_nil))))

theorem ok__law_colon {d : Nat} (S : Sta C (KK C)) : FnOk C (d + 1) 161 T__law_colon :=
  fn_ok S (by rfl) rfl (by rfl) rfl rfl rfl (by decide +kernel) (by decide) (bind_plain (by intro vs h; obtain ⟨a, b, rfl⟩ := len2 h; rfl)) (ss_cons (s_assign (se_binop op_mulS (se_list (sl_cons (se_int) (sl_nil))) (se_binop op_add (se_call_builtin S op_len (sl_cons (se_name) (sl_nil)) (by rfl) (by decide +kernel) boot_len) (se_int))) (by first | exact .inl (by decide +kernel) | exact .inr (by decide +kernel))) (ss_cons (s_for (tgs_name (by first | exact .inl (by decide +kernel) | exact .inr (by decide +kernel))) (si_range S (sl_cons (se_binop op_sub (se_call_builtin S op_len (sl_cons (se_name) (sl_nil)) (by rfl) (by decide +kernel) boot_len) (se_int)) (sl_cons (se_neg (se_int)) (sl_cons (se_neg (se_int)) (sl_nil)))) (by rfl) (by decide +kernel) boot_range) (ss_cons (s_if (sb_compare op_eq (se_binop op_and (se_binop op_shr (se_name) (se_name)) (se_int)) (se_int)) (ss_cons (s_augx (se_name) (se_sub (se_name) (se_name)) (se_binop op_add (se_sub (se_name) (se_name)) (se_int))) (ss_nil)) (ss_nil)) (ss_nil))) (ss_cons (s_return (se_sub (se_name) (se_neg (se_int)))) (ss_nil))))

theorem ss_law {d : Nat} {scr : Addr} {ms : List Int} (S : Sta C (KK C)) (R : Scr C scr ms) : ∃ ns body, bodyIs (KK C) 166 ns body ∧ SS C (d + 8) 0 ns body (W_law scr ms) :=
  ss_fn (by rfl) rfl (ss_cons (s_assign (se_binop op_add (se_binop op_add (se_int) (se_call_builtin S op_min (sl_cons (se_binop op_fdiv (se_len_base S R (by rfl) (by decide +kernel)) (se_int)) (sl_cons (se_int) (sl_nil))) (by rfl) (by decide +kernel) boot_min)) (se_call_builtin S op_min (sl_cons (se_binop op_fdiv (se_len_base S R (by rfl) (by decide +kernel)) (se_int)) (sl_cons (se_int) (sl_nil))) (by rfl) (by decide +kernel) boot_min)) (by first | exact .inl (by decide +kernel) | exact .inr (by decide +kernel))) (ss_cons (s_assign (se_slTo (se_binop op_add (se_sl_base R rfl) (se_list (sl_cons (se_int) (sl_cons (se_int) (sl_cons (se_int) (sl_cons (se_int) (sl_nil))))))) (se_name)) (by first | exact .inl (by decide +kernel) | exact .inr (by decide +kernel))) (ss_cons (s_assign (se_call_own S (ok__law_parents S) (sl_cons (se_name) (sl_nil)) (by rfl) (by decide +kernel) (by rfl)) (by first | exact .inl (by decide +kernel) | exact .inr (by decide +kernel))) (ss_cons (s_assign (se_call_own S (ok__law_moves S) (sl_cons (se_call_own S (ok__law_rows S) (sl_cons (se_name) (sl_nil)) (by rfl) (by decide +kernel) (by rfl)) (sl_nil)) (by rfl) (by decide +kernel) (by rfl)) (by first | exact .inl (by decide +kernel) | exact .inr (by decide +kernel))) (ss_cons (s_if (sb_compare op_ne (se_comp (si_val (se_name)) (tgc_tuple (by exact ⟨⟨_, rfl⟩, (by decide +kernel), ⟨⟨_, rfl⟩, (by decide +kernel), trivial⟩⟩)) (sc_none) (se_name) (by decide +kernel)) (se_call_own S (ok__law_whole S) (sl_cons (se_name) (sl_nil)) (by rfl) (by decide +kernel) (by rfl))) (ss_cons (s_return (se_bool)) (ss_nil)) (ss_nil)) (ss_cons (s_assign (se_call_own S (ok__law_worths S) (sl_cons (se_name) (sl_nil)) (by rfl) (by decide +kernel) (by rfl)) (by first | exact .inl (by decide +kernel) | exact .inr (by decide +kernel))) (ss_cons (s_for (tgs_tuple (by exact ⟨⟨_, rfl⟩, (by first | exact .inl (by decide +kernel) | exact .inr (by decide +kernel)), ⟨⟨_, rfl⟩, (by first | exact .inl (by decide +kernel) | exact .inr (by decide +kernel)), trivial⟩⟩)) (si_val (se_name)) (ss_cons (s_if (sb_compare op_ne (se_sub (se_name) (se_name)) (se_call_own S (ok__law_colon S) (sl_cons (se_name) (sl_cons (se_name) (sl_nil))) (by rfl) (by decide +kernel) (by rfl))) (ss_cons (s_return (se_bool)) (ss_nil)) (ss_nil)) (ss_nil))) (ss_cons (s_return (se_bool)) (ss_nil)))))))))

end Mine
end

section
set_option maxRecDepth 100000
namespace Mine
/-- a heap of ints -/
noncomputable def IsHp (xs : List Int) : Prop := ∀ i, 1 ≤ i → i < xs.length → xs.getD ((i - 1) / 2) 0 ≤ xs.getD i 0
theorem getD_set (xs : List Int) (i j : Nat) (v : Int) (hi : i < xs.length) : (xs.set i v).getD j 0 = if j = i then v else xs.getD j 0 := by
  simp only [List.getD_eq_getElem?_getD, List.getElem?_set]
  by_cases h : i = j
  · subst h; simp [hi]
  · have : ¬ j = i := fun e => h e.symm
    simp [h, this]
theorem IsHp.root {xs : List Int} (h : IsHp xs) : ∀ i, i < xs.length → xs.getD 0 0 ≤ xs.getD i 0 := by
  intro i
  induction i using Nat.strongRecOn with
  | ind i ih =>
    intro hi
    by_cases h0 : i = 0
    · subst h0; exact Int.le_refl _
    · exact Int.le_trans (ih ((i - 1) / 2) (by omega) (by omega)) (h i (by omega) hi)
/-- heap but for the place pos, up to which an item is to rise -/
noncomputable def UpTo (xs : List Int) (pos : Nat) : Prop :=
  (∀ i, 1 ≤ i → i < xs.length → i ≠ pos → xs.getD ((i - 1) / 2) 0 ≤ xs.getD i 0) ∧ (1 ≤ pos → ∀ i, 1 ≤ i → i < xs.length → (i - 1) / 2 = pos → xs.getD ((pos - 1) / 2) 0 ≤ xs.getD i 0)
theorem UpTo.done {xs : List Int} {pos : Nat} (h : UpTo xs pos) (hp : pos = 0 ∨ xs.getD ((pos - 1) / 2) 0 ≤ xs.getD pos 0) : IsHp xs := by
  intro i h1 h2
  by_cases e : i = pos
  · subst e
    rcases hp with hp | hp
    · omega
    · exact hp
  · exact h.1 i h1 h2 e
/-- the item and its parent change places -/
theorem UpTo.step {xs : List Int} {pos : Nat} (h : UpTo xs pos) (hp : 1 ≤ pos) (hl : pos < xs.length) (hlt : xs.getD pos 0 < xs.getD ((pos - 1) / 2) 0) :
    UpTo ((xs.set pos (xs.getD ((pos - 1) / 2) 0)).set ((pos - 1) / 2) (xs.getD pos 0)) ((pos - 1) / 2) := by
  have hq : (pos - 1) / 2 < xs.length := by omega
  have hq' : (pos - 1) / 2 < (xs.set pos (xs.getD ((pos - 1) / 2) 0)).length := by simpa using hq
  constructor
  · intro i h1 h2 hne
    simp only [List.length_set] at h2
    rw [getD_set _ _ _ _ hq', getD_set _ _ _ _ hq', getD_set _ _ _ _ hl, getD_set _ _ _ _ hl]
    rw [if_neg hne]
    by_cases e : i = pos
    · subst e
      rw [if_pos rfl, if_pos rfl]; omega
    · rw [if_neg e]
      by_cases e2 : (i - 1) / 2 = (pos - 1) / 2
      · rw [if_pos e2]
        have := h.1 i h1 h2 e
        rw [e2] at this; omega
      · rw [if_neg e2]
        by_cases e3 : (i - 1) / 2 = pos
        · rw [if_pos e3]; exact h.2 hp i h1 h2 e3
        · rw [if_neg e3]; exact h.1 i h1 h2 e
  · intro hp' i h1 h2 hc
    simp only [List.length_set] at h2
    have hpp : xs.getD (((pos - 1) / 2 - 1) / 2) 0 ≤ xs.getD ((pos - 1) / 2) 0 := h.1 _ hp' hq (by omega)
    rw [getD_set _ _ _ _ hq', getD_set _ _ _ _ hq', getD_set _ _ _ _ hl, getD_set _ _ _ _ hl]
    rw [if_neg (by omega : ¬ ((pos - 1) / 2 - 1) / 2 = (pos - 1) / 2), if_neg (by omega : ¬ ((pos - 1) / 2 - 1) / 2 = pos), if_neg (by omega : ¬ i = (pos - 1) / 2)]
    by_cases e : i = pos
    · rw [if_pos e]; exact hpp
    · rw [if_neg e]
      have := h.1 i h1 h2 e
      rw [hc] at this; omega
/-- heap but for the place pos, from which an item is to sink -/
noncomputable def Dn (xs : List Int) (pos : Nat) : Prop :=
  (∀ i, 1 ≤ i → i < xs.length → i ≠ pos → (i - 1) / 2 ≠ pos → xs.getD ((i - 1) / 2) 0 ≤ xs.getD i 0) ∧ (1 ≤ pos → ∀ i, 1 ≤ i → i < xs.length → (i - 1) / 2 = pos → xs.getD ((pos - 1) / 2) 0 ≤ xs.getD i 0)
theorem Dn.done {xs : List Int} {pos : Nat} (h : Dn xs pos) (hp : xs.length ≤ 2 * pos + 1) : UpTo xs pos := by
  refine ⟨fun i h1 h2 hne => h.1 i h1 h2 hne (by omega), fun h0 i h1 h2 hc => by omega⟩
theorem Dn.step {xs : List Int} {pos c : Nat} (h : Dn xs pos) (hl : c < xs.length) (hc1 : 1 ≤ c) (hc : (c - 1) / 2 = pos) (hmin : ∀ i, 1 ≤ i → i < xs.length → (i - 1) / 2 = pos → xs.getD c 0 ≤ xs.getD i 0) :
    Dn ((xs.set pos (xs.getD c 0)).set c (xs.getD pos 0)) c := by
  have hpl : pos < xs.length := by omega
  have hl' : c < (xs.set pos (xs.getD c 0)).length := by simpa using hl
  constructor
  · intro i h1 h2 hne hpc
    simp only [List.length_set] at h2
    rw [getD_set _ _ _ _ hl', getD_set _ _ _ _ hl', getD_set _ _ _ _ hpl, getD_set _ _ _ _ hpl]
    rw [if_neg hne, if_neg hpc]
    by_cases e : (i - 1) / 2 = pos
    · rw [if_pos e, if_neg (by omega : ¬ i = pos)]
      exact hmin i h1 h2 e
    · rw [if_neg e]
      by_cases e2 : i = pos
      · rw [if_pos e2]; subst e2; exact h.2 h1 c hc1 hl hc
      · rw [if_neg e2]; exact h.1 i h1 h2 e2 e
  · intro _ i h1 h2 hic
    simp only [List.length_set] at h2
    rw [getD_set _ _ _ _ hl', getD_set _ _ _ _ hl', getD_set _ _ _ _ hpl, getD_set _ _ _ _ hpl]
    rw [hc, if_neg (by omega : ¬ pos = c), if_pos rfl, if_neg (by omega : ¬ i = c), if_neg (by omega : ¬ i = pos)]
    have := h.1 i h1 h2 (by omega) (by omega)
    rwa [hic] at this
end Mine
end

section
open PySem PySem.W PyProof.Rows
set_option maxRecDepth 100000
namespace Mine
theorem upd_upd {α : Type} (σ : Addr → Option α) (a : Addr) (o o' : α) : upd (upd σ a o) a o' = upd σ a o' := by
  funext b; unfold upd; split <;> rfl
theorem updl_eq (ρ : Loc) (x y : String) (v : V) : updl ρ x v y = if y = x then some v else ρ y := rfl
theorem bindP_cons (p : String) (ps : List String) (x : V) (xs : List V) (y : String) : bindP (p :: ps) (x :: xs) y = if y = p then some x else bindP ps xs y := by
  unfold bindP
  rw [List.zip_cons_cons, List.lookup_cons]
  by_cases h : y = p
  · subst h; simp
  · rw [if_neg h, beq_eq_false_iff_ne.mpr h]
end Mine
end

section
open PySem PySem.W PyProof.Rows
set_option maxRecDepth 100000
namespace Mine
theorem getD_lt (xs : List Int) (i : Nat) (h : i < xs.length) : xs.getD i 0 = xs[i] := by simp [List.getD_eq_getElem?_getD, h]
theorem idx_nat (xs : List Int) (i : Nat) (h : i < xs.length) : idx (xs.map V.int) (i : Int) = some (.int (xs.getD i 0)) := by
  unfold idx
  rw [if_pos (by omega)]
  simp [h, List.getD_eq_getElem?_getD]
theorem shr1 (p : Nat) (h : 1 ≤ p) : Int.fdiv ((p : Int) - 1) (2 ^ (1 : Int).toNat) = (((p - 1) / 2 : Nat) : Int) := by
  have : ((p : Int) - 1) = ((p - 1 : Nat) : Int) := by omega
  rw [this, Int.fdiv_eq_ediv_of_nonneg _ (by decide)]
  simp
theorem spec_siftdown {σ : Sto} {h : Addr} {xs : List Int} {pos : Nat} {Q : V → Sto → Prop} (hσ : σ h = some (.list (xs.map V.int))) (hl : pos < xs.length) (hn : xs.length ≤ 1000) (hup : UpTo xs pos)
    (q : ∀ ys : List Int, ys.Perm xs → IsHp ys → Q .none (upd σ h (.list (ys.map V.int)))) : T__siftdown [.ref h, .int 0, .int pos] σ Q := by
  refine ⟨rfl, ?_⟩
  unfold W__siftdown
  simp only [wSeq, wAsg, w2, w2b, subW, wNm, wInt, opt, updl_eq, bindP_cons, ↓String.reduceEq, ↓reduceIte, reduceCtorEq, i2, c2, ltV, gtV, geV, shrV, wDone, wBrk, wCont, wSet, setW, wIte, wExpr, notRef, wRet, wCall, wCons, wNil, true_and, hσ]
  refine ⟨by simpa using Nat.le_trans hn (by decide), ?_⟩
  rw [idx_nat xs pos hl]
  dsimp only
  refine ⟨fun ρ σ' => ∃ (p : Nat) (ys : List Int), ρ "heap" = some (.ref h) ∧ ρ "startpos" = some (.int 0) ∧ ρ "newitem" = some (.int (xs.getD pos 0)) ∧ ρ "pos" = some (.int p) ∧ σ' = upd σ h (.list (ys.map V.int)) ∧ p < ys.length ∧ ys.length = xs.length ∧
    (ys.set p (xs.getD pos 0)).Perm xs ∧ UpTo (ys.set p (xs.getD pos 0)) p, fun ρ _ => (match ρ "pos" with | some (.int p) => p.toNat | _ => 0), ?_, ?_⟩
  · refine ⟨pos, xs, ?_, ?_, ?_, ?_, ?_, hl, rfl, ?_, ?_⟩
    · simp only [wSeq, wAsg, w2, w2b, subW, wNm, wInt, opt, updl_eq, bindP_cons, ↓String.reduceEq, ↓reduceIte, reduceCtorEq, i2, c2, ltV, gtV, geV, shrV, wDone, wBrk, wCont, wSet, setW, wIte, wExpr, notRef, wRet, wCall, wCons, wNil, true_and]
    · simp only [wSeq, wAsg, w2, w2b, subW, wNm, wInt, opt, updl_eq, bindP_cons, ↓String.reduceEq, ↓reduceIte, reduceCtorEq, i2, c2, ltV, gtV, geV, shrV, wDone, wBrk, wCont, wSet, setW, wIte, wExpr, notRef, wRet, wCall, wCons, wNil, true_and]
    · simp only [wSeq, wAsg, w2, w2b, subW, wNm, wInt, opt, updl_eq, bindP_cons, ↓String.reduceEq, ↓reduceIte, reduceCtorEq, i2, c2, ltV, gtV, geV, shrV, wDone, wBrk, wCont, wSet, setW, wIte, wExpr, notRef, wRet, wCall, wCons, wNil, true_and]
    · simp only [wSeq, wAsg, w2, w2b, subW, wNm, wInt, opt, updl_eq, bindP_cons, ↓String.reduceEq, ↓reduceIte, reduceCtorEq, i2, c2, ltV, gtV, geV, shrV, wDone, wBrk, wCont, wSet, setW, wIte, wExpr, notRef, wRet, wCall, wCons, wNil, true_and]
    · funext b; unfold upd; by_cases e : b = h
      · subst e; rw [if_pos rfl, hσ]
      · rw [if_neg e]
    · rw [getD_lt _ _ hl, List.set_getElem_self]
    · rw [getD_lt _ _ hl, List.set_getElem_self]; exact hup
  · rintro ρ σ' ⟨p, ys, h1, h2, h3, h4, rfl, hp, hlen, hperm, hU⟩
    simp only [wSeq, wAsg, w2, w2b, subW, wNm, wInt, opt, updl_eq, bindP_cons, ↓String.reduceEq, ↓reduceIte, reduceCtorEq, i2, c2, ltV, gtV, geV, shrV, wDone, wBrk, wCont, wSet, setW, wIte, wExpr, notRef, wRet, wCall, wCons, wNil, true_and, h1, h2, h3, h4, upd_self]
    have hys : (List.map V.int ys).length ≤ 1000000 := by rw [List.length_map, hlen]; omega
    have hput : ∀ hI : IsHp (ys.set p (xs.getD pos 0)), Q .none (upd (upd σ h (O.list (List.map V.int ys))) h (O.list ((List.map V.int ys).set (p : Int).toNat (V.int (xs.getD pos 0))))) := fun hI => by
      rw [upd_upd, Int.toNat_natCast, ← List.map_set]
      exact q _ hperm hI
    have hpl : ((p : Int)) < ((List.map V.int ys).length : Int) := by rw [List.length_map]; omega
    by_cases h0 : 0 < p
    · rw [if_pos (by simpa using h0)]
      refine ⟨by decide, hys, ?_⟩
      have hq : (p - 1) / 2 < ys.length := by omega
      rw [shr1 p h0, idx_nat ys _ hq]
      dsimp only
      have hpar : (ys.set p (xs.getD pos 0)).getD ((p - 1) / 2) 0 = ys.getD ((p - 1) / 2) 0 := by rw [getD_set _ _ _ _ hp, if_neg (by omega)]
      have hnew : (ys.set p (xs.getD pos 0)).getD p 0 = xs.getD pos 0 := by rw [getD_set _ _ _ _ hp, if_pos rfl]
      have hpz : p < (ys.set p (xs.getD pos 0)).length := by simpa using hp
      have hqz : (p - 1) / 2 < (ys.set p (xs.getD pos 0)).length := by simpa using hq
      by_cases hlt : xs.getD pos 0 < ys.getD ((p - 1) / 2) 0
      · rw [if_pos (by simpa using hlt)]
        refine ⟨hys, by omega, hpl, ⟨(p - 1) / 2, ys.set p (ys.getD ((p - 1) / 2) 0), rfl, ?_, ?_, ?_, ?_, ?_⟩, ?_⟩
        · rw [upd_upd, Int.toNat_natCast, List.map_set]
        · simpa using hq
        · simpa using hlen
        · have := List.set_set_perm (as := ys.set p (xs.getD pos 0)) hpz hqz
          rw [← getD_lt _ _ hpz, ← getD_lt _ _ hqz, hpar, hnew, List.set_set] at this
          exact this.trans hperm
        · have := hU.step h0 hpz (by rw [hpar, hnew]; exact hlt)
          rw [hpar, hnew, List.set_set] at this
          exact this
        · simp only [Int.toNat_natCast]; omega
      · rw [if_neg (by simpa using hlt)]
        refine ⟨hys, by omega, hpl, hput (hU.done (.inr ?_))⟩
        rw [hpar, hnew]; omega
    · rw [if_neg (by simpa using h0)]
      exact ⟨hys, by omega, hpl, hput (hU.done (.inl (by omega)))⟩
end Mine
end

section
open PySem PySem.W PyProof.Rows
set_option maxRecDepth 100000
namespace Mine
theorem siftup_step {xs ys : List Int} {p c : Nat} (hp : p < ys.length) (hc : c < ys.length) (hcc : c = 2 * p + 1 ∨ c = 2 * p + 2) (hperm : (ys.set p (xs.getD 0 0)).Perm xs) (hD : Dn (ys.set p (xs.getD 0 0)) p)
    (hmin : ∀ i, i < ys.length → i = 2 * p + 1 ∨ i = 2 * p + 2 → ys.getD c 0 ≤ ys.getD i 0) :
    ((ys.set p (ys.getD c 0)).set c (xs.getD 0 0)).Perm xs ∧ Dn ((ys.set p (ys.getD c 0)).set c (xs.getD 0 0)) c := by
  have hpz : p < (ys.set p (xs.getD 0 0)).length := by simpa using hp
  have hcz : c < (ys.set p (xs.getD 0 0)).length := by simpa using hc
  have hcv : (ys.set p (xs.getD 0 0)).getD c 0 = ys.getD c 0 := by rw [getD_set _ _ _ _ hp, if_neg (by omega)]
  have hpv : (ys.set p (xs.getD 0 0)).getD p 0 = xs.getD 0 0 := by rw [getD_set _ _ _ _ hp, if_pos rfl]
  constructor
  · have := List.set_set_perm (as := ys.set p (xs.getD 0 0)) hpz hcz
    rw [← getD_lt _ _ hpz, ← getD_lt _ _ hcz, hcv, hpv, List.set_set] at this
    exact this.trans hperm
  · have := hD.step hcz (by omega) (by omega) (fun i h1 h2 h3 => by
      have h2' : i < ys.length := by simpa using h2
      rw [hcv, getD_set _ _ _ _ hp, if_neg (by omega)]
      exact hmin i h2' (by omega))
    rw [hcv, hpv, List.set_set] at this
    exact this
theorem spec_siftup {σ : Sto} {h : Addr} {xs : List Int} {Q : V → Sto → Prop} (hσ : σ h = some (.list (xs.map V.int))) (hl : 0 < xs.length) (hn : xs.length ≤ 1000) (hd : Dn xs 0)
    (q : ∀ ys : List Int, ys.Perm xs → IsHp ys → Q .none (upd σ h (.list (ys.map V.int)))) : T__siftup [.ref h, .int 0] σ Q := by
  refine ⟨rfl, ?_⟩
  unfold W__siftup
  simp only [wSeq, wAsg, w2, w2b, subW, wNm, wInt, opt, updl_eq, bindP_cons, ↓String.reduceEq, ↓reduceIte, reduceCtorEq, i2, c2, ltV, gtV, geV, shrV, wDone, wBrk, wCont, wSet, setW, wIte, wExpr, notRef, wRet, wCall, wCons, wNil, true_and, lenV, mulSV, addV, wAndB, wNot, wTrueB, wOrB, wTru, wMethL, getL, appendV, popV, hσ]
  have hx : (List.map V.int xs).length ≤ 1000000 := by rw [List.length_map]; omega
  refine ⟨hx, hx, ?_⟩
  rw [show idx (List.map V.int xs) 0 = _ from idx_nat xs 0 hl]
  dsimp only
  refine ⟨by decide, fun ρ σ' => ∃ (p : Nat) (ys : List Int), ρ "heap" = some (.ref h) ∧ ρ "startpos" = some (.int 0) ∧ ρ "endpos" = some (.int xs.length) ∧ ρ "newitem" = some (.int (xs.getD 0 0)) ∧ ρ "pos" = some (.int p) ∧ ρ "childpos" = some (.int (2 * p + 1)) ∧
    σ' = upd σ h (.list (ys.map V.int)) ∧ p < ys.length ∧ ys.length = xs.length ∧ (ys.set p (xs.getD 0 0)).Perm xs ∧ Dn (ys.set p (xs.getD 0 0)) p, fun ρ _ => (match ρ "pos" with | some (.int p) => xs.length - p.toNat | _ => 0), ?_, ?_⟩
  · refine ⟨0, xs, ?_, ?_, ?_, ?_, ?_, ?_, ?_, hl, rfl, ?_, ?_⟩
    · simp only [wSeq, wAsg, w2, w2b, subW, wNm, wInt, opt, updl_eq, bindP_cons, ↓String.reduceEq, ↓reduceIte, reduceCtorEq, i2, c2, ltV, gtV, geV, shrV, wDone, wBrk, wCont, wSet, setW, wIte, wExpr, notRef, wRet, wCall, wCons, wNil, true_and, lenV, mulSV, addV, wAndB, wNot, wTrueB, wOrB, wTru, wMethL, getL, appendV, popV]
    · simp only [wSeq, wAsg, w2, w2b, subW, wNm, wInt, opt, updl_eq, bindP_cons, ↓String.reduceEq, ↓reduceIte, reduceCtorEq, i2, c2, ltV, gtV, geV, shrV, wDone, wBrk, wCont, wSet, setW, wIte, wExpr, notRef, wRet, wCall, wCons, wNil, true_and, lenV, mulSV, addV, wAndB, wNot, wTrueB, wOrB, wTru, wMethL, getL, appendV, popV]
    · simp only [wSeq, wAsg, w2, w2b, subW, wNm, wInt, opt, updl_eq, bindP_cons, ↓String.reduceEq, ↓reduceIte, reduceCtorEq, i2, c2, ltV, gtV, geV, shrV, wDone, wBrk, wCont, wSet, setW, wIte, wExpr, notRef, wRet, wCall, wCons, wNil, true_and, lenV, mulSV, addV, wAndB, wNot, wTrueB, wOrB, wTru, wMethL, getL, appendV, popV, List.length_map]
    · simp only [wSeq, wAsg, w2, w2b, subW, wNm, wInt, opt, updl_eq, bindP_cons, ↓String.reduceEq, ↓reduceIte, reduceCtorEq, i2, c2, ltV, gtV, geV, shrV, wDone, wBrk, wCont, wSet, setW, wIte, wExpr, notRef, wRet, wCall, wCons, wNil, true_and, lenV, mulSV, addV, wAndB, wNot, wTrueB, wOrB, wTru, wMethL, getL, appendV, popV]
    · simp only [wSeq, wAsg, w2, w2b, subW, wNm, wInt, opt, updl_eq, bindP_cons, ↓String.reduceEq, ↓reduceIte, reduceCtorEq, i2, c2, ltV, gtV, geV, shrV, wDone, wBrk, wCont, wSet, setW, wIte, wExpr, notRef, wRet, wCall, wCons, wNil, true_and, lenV, mulSV, addV, wAndB, wNot, wTrueB, wOrB, wTru, wMethL, getL, appendV, popV]; rfl
    · simp only [wSeq, wAsg, w2, w2b, subW, wNm, wInt, opt, updl_eq, bindP_cons, ↓String.reduceEq, ↓reduceIte, reduceCtorEq, i2, c2, ltV, gtV, geV, shrV, wDone, wBrk, wCont, wSet, setW, wIte, wExpr, notRef, wRet, wCall, wCons, wNil, true_and, lenV, mulSV, addV, wAndB, wNot, wTrueB, wOrB, wTru, wMethL, getL, appendV, popV]; rfl
    · funext b; unfold upd; by_cases e : b = h
      · subst e; rw [if_pos rfl, hσ]
      · rw [if_neg e]
    · rw [getD_lt _ _ hl, List.set_getElem_self]
    · rw [getD_lt _ _ hl, List.set_getElem_self]; exact hd
  · rintro ρ σ' ⟨p, ys, h1, h2, h2', h3, h4, h5, rfl, hp, hlen, hperm, hD⟩
    simp only [wSeq, wAsg, w2, w2b, subW, wNm, wInt, opt, updl_eq, bindP_cons, ↓String.reduceEq, ↓reduceIte, reduceCtorEq, i2, c2, ltV, gtV, geV, shrV, wDone, wBrk, wCont, wSet, setW, wIte, wExpr, notRef, wRet, wCall, wCons, wNil, true_and, lenV, mulSV, addV, wAndB, wNot, wTrueB, wOrB, wTru, wMethL, getL, appendV, popV, h1, h2, h2', h3, h4, h5, upd_self]
    have hys : (List.map V.int ys).length ≤ 1000000 := by rw [List.length_map, hlen]; omega
    have hpl : ((p : Int)) < ((List.map V.int ys).length : Int) := by rw [List.length_map]; omega
    rw [show (2 * (p : Int) + 1 + 1) = ((2 * p + 2 : Nat) : Int) by omega, show (2 * (p : Int) + 1) = ((2 * p + 1 : Nat) : Int) by omega]
    simp only [decide_eq_true_eq]
    have go : ∀ c : Nat, c < ys.length → (c = 2 * p + 1 ∨ c = 2 * p + 2) → (∀ i, i < ys.length → i = 2 * p + 1 ∨ i = 2 * p + 2 → ys.getD c 0 ≤ ys.getD i 0) →
        (∃ (p_1 : Nat) (ys_1 : List Int), some (V.int c) = some (V.int p_1) ∧ some (V.int (2 * (c : Int) + 1)) = some (V.int (2 * (p_1 : Int) + 1)) ∧
          upd (upd σ h (O.list (List.map V.int ys))) h (O.list ((List.map V.int ys).set (p : Int).toNat (V.int (ys.getD c 0)))) = upd σ h (O.list (List.map V.int ys_1)) ∧
          p_1 < ys_1.length ∧ ys_1.length = xs.length ∧ (ys_1.set p_1 (xs.getD 0 0)).Perm xs ∧ Dn (ys_1.set p_1 (xs.getD 0 0)) p_1) ∧ xs.length - (c : Int).toNat < xs.length - (p : Int).toNat := by
      intro c hc hcc hm
      obtain ⟨h6, h7⟩ := siftup_step hp hc hcc hperm hD hm
      refine ⟨⟨c, ys.set p (ys.getD c 0), rfl, rfl, ?_, by simpa using hc, by simpa using hlen, h6, h7⟩, by simp only [Int.toNat_natCast]; omega⟩
      rw [upd_upd, Int.toNat_natCast, ← List.map_set]
    by_cases g1 : 2 * p + 1 < xs.length
    · rw [if_pos (by omega)]
      by_cases g2 : 2 * p + 2 < xs.length
      · rw [if_pos (by omega), idx_nat ys (2 * p + 1) (by omega), idx_nat ys (2 * p + 2) (by omega)]
        dsimp only
        refine ⟨hys, hys, ?_⟩
        by_cases g3 : ys.getD (2 * p + 1) 0 < ys.getD (2 * p + 2) 0
        · rw [if_neg (by simpa using g3)]
          refine ⟨hys, hys, by omega, hpl, by decide, go _ (by omega) (by omega) fun i hi hii => ?_⟩
          rcases hii with e | e <;> subst e <;> omega
        · rw [if_pos (by simpa using g3)]
          refine ⟨hys, hys, by omega, hpl, by decide, go _ (by omega) (by omega) fun i hi hii => ?_⟩
          rcases hii with e | e <;> subst e <;> omega
      · rw [if_neg (by omega), idx_nat ys (2 * p + 1) (by omega)]
        dsimp only
        refine ⟨hys, hys, by omega, hpl, by decide, go _ (by omega) (by omega) fun i hi hii => ?_⟩
        rcases hii with e | e <;> subst e <;> omega
    · rw [if_neg (by omega)]
      have hpz : p < (ys.set p (xs.getD 0 0)).length := by simpa using hp
      refine ⟨hys, by omega, hpl, ?_⟩
      rw [upd_upd, Int.toNat_natCast, ← List.map_set]
      refine spec_siftdown (upd_self ..) hpz (by simp; omega) (hD.done (by simp; omega)) fun zs hz1 hz2 => ?_
      rw [upd_upd]
      exact ⟨trivial, q zs (hz1.trans hperm) hz2⟩
end Mine
end

section
open PySem PySem.W PyProof.Rows
set_option maxRecDepth 100000
namespace Mine
theorem getD_append_left {xs ys : List Int} {i : Nat} (h : i < xs.length) : (xs ++ ys).getD i 0 = xs.getD i 0 := by
  simp [List.getD_eq_getElem?_getD, List.getElem?_append_left h]
theorem IsHp.push {xs : List Int} (h : IsHp xs) (v : Int) : UpTo (xs ++ [v]) xs.length := by
  refine ⟨fun i h1 h2 hne => ?_, fun h0 i h1 h2 hc => ?_⟩
  · simp at h2
    have hi : i < xs.length := by omega
    rw [getD_append_left hi, getD_append_left (by omega)]
    exact h i h1 hi
  · simp at h2; omega
theorem spec_heappush {σ : Sto} {h : Addr} {xs : List Int} {v : Int} {Q : V → Sto → Prop} (hσ : σ h = some (.list (xs.map V.int))) (hn : xs.length ≤ 900) (hh : IsHp xs)
    (q : ∀ ys : List Int, ys.Perm (xs ++ [v]) → IsHp ys → Q .none (upd σ h (.list (ys.map V.int)))) : T_heappush [.ref h, .int v] σ Q := by
  refine ⟨rfl, ?_⟩
  unfold W_heappush
  simp only [wSeq, wAsg, w2, w2b, subW, wNm, wInt, opt, updl_eq, bindP_cons, ↓String.reduceEq, ↓reduceIte, reduceCtorEq, i2, c2, ltV, gtV, geV, shrV, wDone, wBrk, wCont, wSet, setW, wIte, wExpr, notRef, wRet, wCall, wCons, wNil, true_and, lenV, mulSV, addV, wAndB, wNot, wTrueB, wOrB, wTru, wMethL, getL, appendV, popV, hσ, upd_self]
  have hx : (List.map V.int xs).length ≤ 1000000 := by rw [List.length_map]; omega
  have e : List.map V.int xs ++ [V.int v] = List.map V.int (xs ++ [v]) := by simp
  rw [e]
  refine ⟨hx, by rw [List.length_map, List.length_append]; simp; omega, ?_⟩
  rw [show (((List.map V.int (xs ++ [v])).length : Nat) : Int) - 1 = (xs.length : Nat) by simp]
  refine spec_siftdown (upd_self ..) (by simp) (by simp; omega) (hh.push v) fun zs h1 h2 => ?_
  rw [upd_upd]
  exact ⟨trivial, q zs h1 h2⟩
theorem spec_heappop {σ : Sto} {h : Addr} {xs : List Int} {Q : V → Sto → Prop} (hσ : σ h = some (.list (xs.map V.int))) (h0 : xs ≠ []) (hn : xs.length ≤ 900) (hh : IsHp xs)
    (q : ∀ ys : List Int, ys.Perm xs.tail → IsHp ys → Q (.int (xs.getD 0 0)) (upd σ h (.list (ys.map V.int)))) : T_heappop [.ref h] σ Q := by
  refine ⟨rfl, ?_⟩
  unfold W_heappop
  have hx : (List.map V.int xs).length ≤ 1000000 := by rw [List.length_map]; omega
  cases xs with
  | nil => exact absurd rfl h0
  | cons x r =>
    rcases List.eq_nil_or_concat r with rfl | ⟨mid, last, rfl⟩
    · simp only [wSeq, wAsg, w2, w2b, subW, wNm, wInt, opt, updl_eq, bindP_cons, ↓String.reduceEq, ↓reduceIte, reduceCtorEq, i2, c2, ltV, gtV, geV, shrV, wDone, wBrk, wCont, wSet, setW, wIte, wExpr, notRef, wRet, wCall, wCons, wNil, true_and, lenV, mulSV, addV, wAndB, wNot, wTrueB, wOrB, wTru, wMethL, getL, appendV, popV, hσ, upd_self, truthW, List.map_cons, List.map_nil, List.getLast?_singleton, List.dropLast_singleton]
      refine ⟨by simp, by simp, ?_⟩
      exact q [] (.refl _) fun i h1 h2 => by simp at h2
    · have e1 : (List.map V.int (x :: (mid ++ [last]))).getLast? = some (.int last) := by
        rw [List.map_cons, List.map_append, ← List.cons_append]; exact List.getLast?_concat
      have e2 : (List.map V.int (x :: (mid ++ [last]))).dropLast = List.map V.int (x :: mid) := by
        rw [List.map_cons, List.map_append, ← List.cons_append]; exact List.dropLast_concat
      rw [List.concat_eq_append] at *
      simp only [wSeq, wAsg, w2, w2b, subW, wNm, wInt, opt, updl_eq, bindP_cons, ↓String.reduceEq, ↓reduceIte, reduceCtorEq, i2, c2, ltV, gtV, geV, shrV, wDone, wBrk, wCont, wSet, setW, wIte, wExpr, notRef, wRet, wCall, wCons, wNil, true_and, lenV, mulSV, addV, wAndB, wNot, wTrueB, wOrB, wTru, wMethL, getL, appendV, popV, hσ, upd_self, truthW, e1, e2]
      have hm : (List.map V.int (x :: mid)).length ≤ 1000000 := by simp at hn ⊢; omega
      refine ⟨hx, hm, ?_⟩
      rw [if_pos (by rfl)]
      rw [show idx (List.map V.int (x :: mid)) 0 = some (V.int x) from rfl]
      dsimp only
      refine ⟨hm, hm, by decide, by simp, ?_⟩
      rw [upd_upd, show (List.map V.int (x :: mid)).set (Int.toNat 0) (V.int last) = List.map V.int (last :: mid) from rfl]
      refine spec_siftup (xs := last :: mid) (upd_self ..) (by simp) (by simp at hn ⊢; omega) ⟨fun i h1 h2 hne hp => ?_, fun h => absurd h (by decide)⟩ fun ys h1 h2 => ?_
      · obtain ⟨j, rfl⟩ : ∃ j, i = j + 1 := ⟨i - 1, by omega⟩
        obtain ⟨k, hk⟩ : ∃ k, (j + 1 - 1) / 2 = k + 1 := ⟨(j + 1 - 1) / 2 - 1, by omega⟩
        have hj : j < mid.length := by simpa using h2
        have := hh (j + 1) (by omega) (by simp; omega)
        rw [hk] at this ⊢
        have e3 : ∀ t, t < mid.length → ∀ y, (y :: mid).getD (t + 1) 0 = (x :: (mid ++ [last])).getD (t + 1) 0 := fun t ht y => by
          show mid.getD t 0 = (mid ++ [last]).getD t 0
          rw [getD_append_left ht]
        rw [e3 j hj, e3 k (by omega)]
        exact this
      · rw [upd_upd]
        refine ⟨trivial, q ys (h1.trans ?_) h2⟩
        exact (List.perm_append_comm (l₁ := [last]) (l₂ := mid))
end Mine
end

section
open PySem PySem.W PyProof.Rows PySem.Builtin PySem.Builtin.Str
set_option maxRecDepth 100000
namespace Mine
/-- the signs of a text -/
noncomputable abbrev cs (x : Str) : List Nat := x.cps.toList
theorem cs_inj {x y : Str} (h : cs x = cs y) : x = y := Str.ext' (Array.toList_inj.mp h)
theorem cs_append (x y : Str) : cs (x ++ y) = cs x ++ cs y := Array.toList_append
noncomputable def enc (c : Nat) (ts : List Str) : List Nat := ts.flatMap fun t => cs t ++ [c]
noncomputable def sg (c : Nat) : Str := ⟨#[c]⟩
theorem cs_sg (c : Nat) : cs (sg c) = [c] := rfl
theorem join_eq (s : Str) (ts : List Str) : Txt.join s ts = Str.join s ts := StrLaws.glued_eq_join s ts
theorem join_enc (c : Nat) : ∀ ts : List Str, ts ≠ [] → cs (Str.join (sg c) ts) ++ [c] = enc c ts
  | [], h => absurd rfl h
  | [x], _ => by simp [enc, Str.join]
  | x :: y :: r, _ => by
    have := join_enc c (y :: r) (by simp)
    show cs (x ++ sg c ++ Str.join (sg c) (y :: r)) ++ [c] = _
    rw [cs_append, cs_append, List.append_assoc, this, cs_sg]
    simp [enc]
noncomputable def Fre (c : Nat) (ts : List Str) : Prop := ∀ t ∈ ts, c ∉ cs t
theorem cut_eq {c : Nat} : ∀ {a b x y : List Nat}, c ∉ a → c ∉ b → a ++ c :: x = b ++ c :: y → a = b ∧ x = y
  | [], [], x, y, _, _, h => by simp at h; exact ⟨rfl, h⟩
  | [], b :: bs, x, y, _, hb, h => by
    simp only [List.nil_append, List.cons_append, List.cons.injEq] at h
    exact absurd h.1 (fun e => hb (by rw [e]; simp))
  | a :: as, [], x, y, ha, _, h => by
    simp only [List.nil_append, List.cons_append, List.cons.injEq] at h
    exact absurd h.1 (fun e => ha (by rw [← e]; simp))
  | a :: as, b :: bs, x, y, ha, hb, h => by
    simp only [List.cons_append, List.cons.injEq] at h
    obtain ⟨h1, h2⟩ := cut_eq (fun e => ha (.tail _ e)) (fun e => hb (.tail _ e)) h.2
    exact ⟨by rw [h.1, h1], h2⟩
theorem enc_prefix {c : Nat} : ∀ {us ws : List Str} {r : List Nat}, Fre c us → Fre c ws → c ∉ r → enc c us <+: enc c ws ++ r → us <+: ws
  | [], _, _, _, _, _, _ => List.nil_prefix
  | u :: us, [], r, _, _, hr, h => by
    obtain ⟨t, e⟩ := h
    have : c ∈ enc c [] ++ r := by rw [← e]; simp [enc]
    simp [enc] at this
    exact absurd this hr
  | u :: us, w :: ws, r, hu, hw, hr, h => by
    obtain ⟨t, e⟩ := h
    have e' : cs u ++ c :: (enc c us ++ t) = cs w ++ c :: (enc c ws ++ r) := by simpa [enc] using e
    obtain ⟨h1, h2⟩ := cut_eq (hu _ (.head _)) (hw _ (.head _)) e'
    rw [cs_inj h1, List.cons_prefix_cons]
    exact ⟨rfl, enc_prefix (fun t ht => hu t (.tail _ ht)) (fun t ht => hw t (.tail _ ht)) hr ⟨t, h2⟩⟩
theorem prefix_enc {c : Nat} {us ws : List Str} {r : List Nat} (h : us <+: ws) : enc c us <+: enc c ws ++ r := by
  obtain ⟨t, rfl⟩ := h
  refine ⟨enc c t ++ r, ?_⟩
  simp [enc]
theorem split_join {c : Nat} {ts : List Str} (h0 : ts ≠ []) (hf : Fre c ts) : Txt.split (Str.join (sg c) ts) (sg c) = ts := by
  have hs := StrLaws.join_split (Str.join (sg c) ts) (sg c)
  have hfree := StrLaws.split_free (Str.join (sg c) ts) c
  generalize hg : Txt.split (Str.join (sg c) ts) (sg c) = us at hs
  rw [show (⟨#[c]⟩ : Str) = sg c from rfl, hg] at hfree
  have hu0 : us ≠ [] := by
    have := split_pos (Str.join (sg c) ts) (sg c)
    rw [hg] at this
    intro e; rw [e] at this; simp at this
  have e : enc c us = enc c ts := by rw [← join_enc c us hu0, ← join_enc c ts h0, hs]
  have h1 : us <+: ts := enc_prefix (r := []) hfree hf (by simp) (by rw [List.append_nil, e]; exact List.prefix_refl _)
  have h2 : ts <+: us := enc_prefix (r := []) hf hfree (by simp) (by rw [List.append_nil, e]; exact List.prefix_refl _)
  exact h1.eq_of_length (Nat.le_antisymm h1.length_le h2.length_le)
theorem starts_iff (x y : Str) : Txt.startswith x y = true ↔ cs y <+: cs x := by
  unfold Txt.startswith subAt
  rw [Bool.and_eq_true, decide_eq_true_eq, Nat.zero_add, beq_iff_eq]
  rw [← Array.toList_inj, Array.toList_extract, List.extract_eq_take_drop]
  simp only [List.drop_zero, Nat.sub_zero]
  rw [List.prefix_iff_eq_take]
  show _ ∧ List.take y.cps.size (cs x) = cs y ↔ cs y = List.take (cs y).length (cs x)
  rw [show (cs y).length = y.cps.size from Array.length_toList]
  refine ⟨fun h => h.2.symm, fun h => ⟨?_, h.symm⟩⟩
  have := congrArg List.length h
  rw [List.length_take, Array.length_toList, Array.length_toList] at this
  show y.cps.size ≤ x.cps.size
  omega
/-- a reader of a module: equal or below -/
theorem dotted_iff {c : Nat} {us ws : List Str} (hu : Fre c us) (hw : Fre c ws) (hu0 : us ≠ []) (hw0 : ws ≠ []) :
    (Str.join (sg c) ws = Str.join (sg c) us ∨ Txt.startswith (Str.join (sg c) ws) (Str.join (sg c) us ++ sg c) = true) ↔ us <+: ws := by
  rw [starts_iff, cs_append, cs_sg, join_enc c us hu0]
  constructor
  · rintro (h | h)
    · have e : enc c us = enc c ws := by rw [← join_enc c us hu0, ← join_enc c ws hw0, h]
      exact enc_prefix (r := []) hu hw (by simp) (by rw [List.append_nil, e]; exact List.prefix_refl _)
    · refine enc_prefix (r := []) hu hw (by simp) ?_
      rw [List.append_nil, ← join_enc c ws hw0]
      exact h.trans (List.prefix_append _ _)
  · intro h
    obtain ⟨t, rfl⟩ := h
    by_cases ht : t = []
    · left; rw [ht, List.append_nil]
    · right
      have : enc c (us ++ t) = enc c us ++ enc c t := by simp [enc]
      have h2 : cs (Str.join (sg c) (us ++ t)) ++ [c] = enc c us ++ (cs (Str.join (sg c) t) ++ [c]) := by rw [join_enc c _ hw0, this, join_enc c t ht]
      rw [← List.append_assoc] at h2
      have h3 := List.append_cancel_right h2
      rw [h3]
      exact List.prefix_append _ _
/-- a reader of a folder -/
theorem folder_iff {c : Nat} {us ws : List Str} {z : Str} (hu : Fre c us) (hw : Fre c ws) (hz : c ∉ cs z) (hu0 : us ≠ []) (hw0 : ws ≠ []) :
    Txt.startswith (Str.join (sg c) ws ++ (sg c ++ z)) (Str.join (sg c) us ++ sg c) = true ↔ us <+: ws := by
  rw [starts_iff, cs_append, cs_append, cs_append, cs_sg, join_enc c us hu0, ← List.append_assoc, join_enc c ws hw0]
  exact ⟨enc_prefix hu hw hz, prefix_enc⟩
theorem join_len (c : Nat) (ts : List Str) : (Str.join (sg c) ts).length ≤ (ts.map (·.length)).sum + ts.length := by
  have := StrLaws.join_length_le (sg c) ts
  rwa [show (sg c).length = 1 from rfl, Nat.mul_one] at this
theorem joinOk_sg {c : Nat} {ts : List Str} (h : (ts.map (·.length)).sum + ts.length ≤ 1000000) : JoinOk (sg c) ts = true := joinOk_of_weight (by omega) (by show 1 ≤ 16; decide)
theorem slash_eq : Str.ofString "/" = sg 47 := by decide +kernel
theorem dot_eq : Str.ofString "." = sg 46 := by decide +kernel
theorem xpy_eq : Str.ofString "/x.py" = sg 47 ++ Str.ofString "x.py" := by decide +kernel
end Mine
end

section
open PySem PySem.W PyProof.Rows PySem.Builtin PySem.Builtin.Str
set_option maxRecDepth 100000
set_option maxHeartbeats 4000000
namespace Mine
/-- all that is there stays -/
noncomputable def Ext (σ σ' : Sto) : Prop := ∀ b, σ b ≠ none → σ' b = σ b
theorem Ext.refl (σ : Sto) : Ext σ σ := fun _ _ => rfl
theorem Ext.trans {σ σ' σ'' : Sto} (h : Ext σ σ') (g : Ext σ' σ'') : Ext σ σ'' := fun b e => by
  have h1 := h b e
  rw [g b (by rw [h1]; exact e), h1]
theorem Ext.get {σ σ' : Sto} (h : Ext σ σ') {a : Addr} {o : O} (e : σ a = some o) : σ' a = some o := by rw [h a (by rw [e]; simp), e]
theorem Ext.non {σ σ' : Sto} (h : Ext σ σ') {a : Addr} (e : σ' a = none) : σ a = none := by
  cases g : σ a with
  | none => rfl
  | some o => rw [h.get g] at e; cases e
theorem Ext.put {σ σ' : Sto} (h : Ext σ σ') {a : Addr} (e : σ a = none) (o : O) : Ext σ (upd σ' a o) := fun b hb => by
  rw [upd_ne _ _ (fun q => hb (by rw [q, e]))]; exact h b hb
theorem Ext.new {σ : Sto} {a : Addr} (e : σ a = none) (o : O) : Ext σ (upd σ a o) := (Ext.refl σ).put e o
theorem Ext.step {σ σ' : Sto} (h : Ext σ σ') {a : Addr} (e : σ' a = none) (o : O) : Ext σ (upd σ' a o) := h.put (h.non e) o
theorem ne_of {σ : Sto} {a b : Addr} {o : O} (h : σ a = some o) (g : σ b = none) : a ≠ b := fun e => by rw [e, g] at h; cases h
theorem upd_get {σ : Sto} {a b : Addr} {o o' : O} (h : σ a = some o) (g : σ b = none) : upd σ b o' a = some o := by rw [upd_ne _ _ (ne_of h g), h]
theorem neo {σ : Sto} {a b : Addr} {o o' : O} (h : σ a = some o) (g : σ b = some o') (hne : o ≠ o') : a ≠ b := fun e => hne (by rw [e, g] at h; cases h; rfl)


/-- one statement, the rest untouched -/
theorem seq_cut {a b : ST} {ρ : Loc} {σ : Sto} {Q : F → Loc → Sto → Prop} {X : Loc → Sto → Prop} (h : ∀ R : ST, R = b → a ρ σ (fun f ρ σ => match f with | .next => R ρ σ Q X | f => Q f ρ σ) X) : wSeq a b ρ σ Q X := h b rfl
theorem mem_le_sum {ts : List Str} {t : Str} (h : t ∈ ts) : t.length ≤ (ts.map (·.length)).sum := by
  induction ts with
  | nil => cases h
  | cons a r ih =>
    rw [List.map_cons, List.sum_cons]
    rcases List.mem_cons.mp h with e | e
    · subst e; omega
    · have := ih e; omega
/-- a for, its body untouched -/
theorem for_of {tg : TG} {it : IT} {b : ST} {ρ : Loc} {σ : Sto} {Q : F → Loc → Sto → Prop} {X : Loc → Sto → Prop} (src : Src) (vs : List V) (σ₁ : Sto) (I : Nat → Loc → Sto → Prop) (hit : ∀ K : Src → List V → Sto → Prop, K src vs σ₁ → it ρ σ K (X ρ))
    (h0 : I 0 ρ σ₁) (hs : ∀ i v ρ σ, vs[i]? = some v → I i ρ σ → src.vals σ = some vs ∧ tg ρ σ v fun ρ => b ρ σ (fun f ρ σ => match f with
      | .next => I (i + 1) ρ σ
      | .cont => I (i + 1) ρ σ
      | .brk => Q .next ρ σ
      | .ret v => Q (.ret v) ρ σ) (fun _ _ => False)) (he : ∀ ρ σ, I vs.length ρ σ → src.vals σ = some vs ∧ Q .next ρ σ) : wFor tg it b ρ σ Q X :=
  hit _ ⟨I, h0, hs, he⟩
theorem map_get {α : Type} {f : α → V} {xs : List α} {i : Nat} {v : V} (h : (xs.map f)[i]? = some v) : ∃ x, xs[i]? = some x ∧ v = f x := by
  rw [List.getElem?_map] at h
  cases hx : xs[i]? with
  | none => rw [hx] at h; cases h
  | some x => rw [hx] at h; cases h; exact ⟨x, rfl, rfl⟩
theorem take_snoc {α : Type} {xs : List α} {i : Nat} {x : α} (h : xs[i]? = some x) : xs.take (i + 1) = xs.take i ++ [x] := by
  rw [List.take_add_one, h]; rfl
theorem vals_list {σ : Sto} {a : Addr} {xs : List V} (h : σ a = some (.list xs)) : Src.vals σ (.list a) = some xs := by simp only [Src.vals, h]

theorem spec_kind {σ : Sto} {a x : Str} {Q : V → Sto → Prop} (q : Q (.str (Str.ofString "")) σ) : T__kind [.str a, .str x] σ Q := by
  refine ⟨rfl, ?_⟩
  unfold W__kind
  simp only [wSeq, wAsg, w2, w2b, subW, wNm, wInt, opt, updl_eq, bindP_cons, ↓String.reduceEq, ↓reduceIte, reduceCtorEq, i2, c2, ltV, gtV, geV, shrV, wDone, wBrk, wCont, wSet, setW, wIte, wExpr, notRef, wRet, wCall, wCons, wNil, true_and, lenV, mulSV, addV, wAndB, wNot, wTrueB, wOrB, wTru, wMethL, getL, appendV, popV, truthW, wStr, wNone, wBool, typeV, isV, wTyp, wFailS, wFailA, wFailB, wFailE, wFalseB, newL, newT, wSlStr, eqV, neV, wMethS, splitV, joinV, wAsgT, tgN, bindAll, tg1, wItVal, wItRev, wItRange, wOrV, wIf, wAttr, getI, startsV, inV, ninV, wItSet, wNeg, wAug, wAsg2, retv, powV, andV, fdivV, modV, sumV, minV, maxV, sortedV]
  exact q
theorem spec_c_path {σ : Sto} {t d : Addr} {a b c x : Str} {f : Str → Option V} {Q : V → Sto → Prop} (ht : σ t = some (.tuple [.str x])) (hd : σ d = some (.ds 0 f)) (q : Q (.str x) σ) :
    T__c_path [.str a, .str b, .str c, .ref t, .ref d] σ Q := by
  refine ⟨rfl, ?_⟩
  unfold W__c_path
  simp only [wSeq, wAsg, w2, w2b, subW, wNm, wInt, opt, updl_eq, bindP_cons, ↓String.reduceEq, ↓reduceIte, reduceCtorEq, i2, c2, ltV, gtV, geV, shrV, wDone, wBrk, wCont, wSet, setW, wIte, wExpr, notRef, wRet, wCall, wCons, wNil, true_and, lenV, mulSV, addV, wAndB, wNot, wTrueB, wOrB, wTru, wMethL, getL, appendV, popV, truthW, wStr, wNone, wBool, typeV, isV, wTyp, wFailS, wFailA, wFailB, wFailE, wFalseB, newL, newT, wSlStr, eqV, neV, wMethS, splitV, joinV, wAsgT, tgN, bindAll, tg1, wItVal, wItRev, wItRange, wOrV, wIf, wAttr, getI, startsV, inV, ninV, wItSet, wNeg, wAug, wAsg2, retv, powV, andV, fdivV, modV, sumV, minV, maxV, sortedV, ht, hd]
  refine ⟨by simp, ?_⟩
  simp only [List.length_singleton, show ((1 : Nat) : Int) = 1 from rfl, beq_self_eq_true, if_true, Bool.not_false, show idx [V.str x] 0 = some (V.str x) from rfl]
  refine ⟨by simp, spec_kind ?_⟩
  refine ⟨by decide +kernel, ?_⟩
  rw [if_neg (by decide +kernel)]
  exact q
theorem slice1 {x : Str} (h : 1 ≤ x.length) : cs (Txt.slice x none (some 1)) = (cs x).take 1 := by
  have e : strSliceIndices none (some 1) 1 x.length = [0] := by
    unfold strSliceIndices sliceRange
    simp only [show (1 : Int) > 0 by decide, if_true, show ¬ ((1 : Int) < 0) by decide, if_false]
    rw [show max (0 : Int) (min 1 (x.length : Int)) = 1 by omega]
    rfl
  unfold Txt.slice
  rw [e]
  by_cases g : x.length = 1
  · rw [if_pos (by rw [g]; rfl)]
    rw [List.take_of_length_le]
    rw [show (cs x).length = x.length from Array.length_toList, g]
    exact Nat.le_refl 1
  · rw [if_neg (by simp; omega)]
    obtain ⟨l⟩ := x
    obtain ⟨l⟩ := l
    cases l with
    | nil => simp [Str.length] at h
    | cons a r => simp [cs]
theorem spec_splitroot {σ : Sto} {x : Str} {Q : V → Sto → Prop} (h1 : 1 ≤ x.length) (hn : x.length ≤ 1000000) (h0 : (cs x).take 1 ≠ [47])
    (q : ∀ a, σ a = none → Q (.ref a) (upd σ a (.tuple [.str (Str.ofString ""), .str (Str.ofString ""), .str x]))) : T__splitroot [.str x] σ Q := by
  refine ⟨rfl, ?_⟩
  unfold W__splitroot
  simp only [wSeq, wAsg, w2, w2b, subW, wNm, wInt, opt, updl_eq, bindP_cons, ↓String.reduceEq, ↓reduceIte, reduceCtorEq, i2, c2, ltV, gtV, geV, shrV, wDone, wBrk, wCont, wSet, setW, wIte, wExpr, notRef, wRet, wCall, wCons, wNil, true_and, lenV, mulSV, addV, wAndB, wNot, wTrueB, wOrB, wTru, wMethL, getL, appendV, popV, truthW, wStr, wNone, wBool, typeV, isV, wTyp, wFailS, wFailA, wFailB, wFailE, wFalseB, newL, newT, wSlStr, eqV, neV, wMethS, splitV, joinV, wAsgT, tgN, bindAll, tg1, wItVal, wItRev, wItRange, wOrV, wIf, wAttr, getI, startsV, inV, ninV, wItSet, wNeg, wAug, wAsg2, retv, powV, andV, fdivV, modV, sumV, minV, maxV, sortedV]
  refine ⟨hn, ?_⟩
  have : (Txt.slice x none (some 1) != Str.ofString "/") = true := by
    rw [bne_iff_ne]
    intro e
    refine h0 ?_
    rw [← slice1 h1, e]
    decide +kernel
  rw [this]
  simp only [if_true]
  exact ⟨by simp [lim], q⟩
/-- parts of a path -/
structure Parts (ts : List Str) : Prop where
  ne : ts ≠ []
  free : Fre 47 ts
  freeD : Fre 46 ts
  full : ∀ t ∈ ts, 1 ≤ t.length
  few : (ts.map (·.length)).sum + ts.length ≤ 1000
theorem Parts.join_len {ts : List Str} (h : Parts ts) (c : Nat) : (Str.join (sg c) ts).length ≤ 1000 := Nat.le_trans (Mine.join_len c ts) h.few
theorem Parts.no_dot {ts : List Str} (h : Parts ts) {t : Str} (ht : t ∈ ts) : (t == Str.ofString ".") = false ∧ (t != Str.ofString "..") = true := by
  have h1 := h.freeD t ht
  constructor
  · rw [beq_eq_false_iff_ne]; intro e; rw [e] at h1; revert h1; decide +kernel
  · rw [bne_iff_ne]; intro e; rw [e] at h1; revert h1; decide +kernel
theorem Parts.head {ts : List Str} (h : Parts ts) : 1 ≤ (Str.join (sg 47) ts).length ∧ (cs (Str.join (sg 47) ts)).take 1 ≠ [47] := by
  have e := join_enc 47 ts h.ne
  cases ts with
  | nil => exact absurd rfl h.ne
  | cons t r =>
    have hf := h.full t (.head _)
    have hr := h.free t (.head _)
    have hl : (cs t).length = t.length := Array.length_toList
    rcases hc : cs t with _ | ⟨a, as⟩
    · rw [hc] at hl; simp at hl; omega
    · simp only [enc, List.flatMap_cons, hc, List.cons_append] at e
      have hlen : (cs (Str.join (sg 47) (t :: r))).length = (Str.join (sg 47) (t :: r)).length := Array.length_toList
      rcases hj : cs (Str.join (sg 47) (t :: r)) with _ | ⟨b, bs⟩
      · rw [hj] at e
        simp at e
      · rw [hj] at e hlen
        simp only [List.cons_append, List.cons.injEq] at e
        refine ⟨by rw [← hlen]; simp, ?_⟩
        simp only [List.take_succ_cons, List.take_zero]
        intro q
        have : b = 47 := by simpa using q
        rw [hc] at hr
        exact hr (by rw [← e.1, this]; simp)
theorem spec__normpath {σ : Sto} {ts : List Str} {Q : V → Sto → Prop} (h : Parts ts) (q : ∀ σ', Ext σ σ' → Q (.str (Str.join (sg 47) ts)) σ') : T__normpath [.str (Str.join (sg 47) ts)] σ Q := by
  refine ⟨rfl, ?_⟩
  unfold W__normpath
  have hl := h.join_len 47
  obtain ⟨hp1, hp2⟩ := h.head
  generalize hx : Str.join (sg 47) ts = x at *
  have hb : (x.length != 0) = true := by rw [bne_iff_ne]; omega
  refine seq_cut fun R hR => ?_; simp only [wSeq, wAsg, w2, w2b, subW, wNm, wInt, opt, updl_eq, bindP_cons, ↓String.reduceEq, ↓reduceIte, reduceCtorEq, i2, c2, ltV, gtV, geV, shrV, wDone, wBrk, wCont, wSet, setW, wIte, wExpr, notRef, wRet, wCall, wCons, wNil, true_and, lenV, mulSV, addV, wAndB, wNot, wTrueB, wOrB, wTru, wMethL, getL, appendV, popV, truthW, wStr, wNone, wBool, typeV, isV, wTyp, wFailS, wFailA, wFailB, wFailE, wFalseB, newL, newT, wSlStr, eqV, neV, wMethS, splitV, joinV, wAsgT, tgN, bindAll, tg1, wItVal, wItRev, wItRange, wOrV, wIf, wAttr, getI, startsV, inV, ninV, wItSet, wNeg, wAug, wAsg2, retv, powV, andV, fdivV, modV, sumV, minV, maxV, sortedV]; subst hR
  refine seq_cut fun R hR => ?_; simp only [wSeq, wAsg, w2, w2b, subW, wNm, wInt, opt, updl_eq, bindP_cons, ↓String.reduceEq, ↓reduceIte, reduceCtorEq, i2, c2, ltV, gtV, geV, shrV, wDone, wBrk, wCont, wSet, setW, wIte, wExpr, notRef, wRet, wCall, wCons, wNil, true_and, lenV, mulSV, addV, wAndB, wNot, wTrueB, wOrB, wTru, wMethL, getL, appendV, popV, truthW, wStr, wNone, wBool, typeV, isV, wTyp, wFailS, wFailA, wFailB, wFailE, wFalseB, newL, newT, wSlStr, eqV, neV, wMethS, splitV, joinV, wAsgT, tgN, bindAll, tg1, wItVal, wItRev, wItRange, wOrV, wIf, wAttr, getI, startsV, inV, ninV, wItSet, wNeg, wAug, wAsg2, retv, powV, andV, fdivV, modV, sumV, minV, maxV, sortedV]; subst hR
  refine seq_cut fun R hR => ?_; simp only [wSeq, wAsg, w2, w2b, subW, wNm, wInt, opt, updl_eq, bindP_cons, ↓String.reduceEq, ↓reduceIte, reduceCtorEq, i2, c2, ltV, gtV, geV, shrV, wDone, wBrk, wCont, wSet, setW, wIte, wExpr, notRef, wRet, wCall, wCons, wNil, true_and, lenV, mulSV, addV, wAndB, wNot, wTrueB, wOrB, wTru, wMethL, getL, appendV, popV, truthW, wStr, wNone, wBool, typeV, isV, wTyp, wFailS, wFailA, wFailB, wFailE, wFalseB, newL, newT, wSlStr, eqV, neV, wMethS, splitV, joinV, wAsgT, tgN, bindAll, tg1, wItVal, wItRev, wItRange, wOrV, wIf, wAttr, getI, startsV, inV, ninV, wItSet, wNeg, wAug, wAsg2, retv, powV, andV, fdivV, modV, sumV, minV, maxV, sortedV]; subst hR
  refine seq_cut fun R hR => ?_; simp only [wSeq, wAsg, w2, w2b, subW, wNm, wInt, opt, updl_eq, bindP_cons, ↓String.reduceEq, ↓reduceIte, reduceCtorEq, i2, c2, ltV, gtV, geV, shrV, wDone, wBrk, wCont, wSet, setW, wIte, wExpr, notRef, wRet, wCall, wCons, wNil, true_and, lenV, mulSV, addV, wAndB, wNot, wTrueB, wOrB, wTru, wMethL, getL, appendV, popV, truthW, wStr, wNone, wBool, typeV, isV, wTyp, wFailS, wFailA, wFailB, wFailE, wFalseB, newL, newT, wSlStr, eqV, neV, wMethS, splitV, joinV, wAsgT, tgN, bindAll, tg1, wItVal, wItRev, wItRange, wOrV, wIf, wAttr, getI, startsV, inV, ninV, wItSet, wNeg, wAug, wAsg2, retv, powV, andV, fdivV, modV, sumV, minV, maxV, sortedV, hb, Bool.not_true, Bool.false_eq_true]
  refine ⟨by omega, ?_⟩; subst hR
  refine seq_cut fun R hR => ?_; simp only [wSeq, wAsg, w2, w2b, subW, wNm, wInt, opt, updl_eq, bindP_cons, ↓String.reduceEq, ↓reduceIte, reduceCtorEq, i2, c2, ltV, gtV, geV, shrV, wDone, wBrk, wCont, wSet, setW, wIte, wExpr, notRef, wRet, wCall, wCons, wNil, true_and, lenV, mulSV, addV, wAndB, wNot, wTrueB, wOrB, wTru, wMethL, getL, appendV, popV, truthW, wStr, wNone, wBool, typeV, isV, wTyp, wFailS, wFailA, wFailB, wFailE, wFalseB, newL, newT, wSlStr, eqV, neV, wMethS, splitV, joinV, wAsgT, tgN, bindAll, tg1, wItVal, wItRev, wItRange, wOrV, wIf, wAttr, getI, startsV, inV, ninV, wItSet, wNeg, wAug, wAsg2, retv, powV, andV, fdivV, modV, sumV, minV, maxV, sortedV]
  refine spec_splitroot hp1 (by omega) hp2 fun a ha => ?_
  simp only [wSeq, wAsg, w2, w2b, subW, wNm, wInt, opt, updl_eq, bindP_cons, ↓String.reduceEq, ↓reduceIte, reduceCtorEq, i2, c2, ltV, gtV, geV, shrV, wDone, wBrk, wCont, wSet, setW, wIte, wExpr, notRef, wRet, wCall, wCons, wNil, true_and, lenV, mulSV, addV, wAndB, wNot, wTrueB, wOrB, wTru, wMethL, getL, appendV, popV, truthW, wStr, wNone, wBool, typeV, isV, wTyp, wFailS, wFailA, wFailB, wFailE, wFalseB, newL, newT, wSlStr, eqV, neV, wMethS, splitV, joinV, wAsgT, tgN, bindAll, tg1, wItVal, wItRev, wItRange, wOrV, wIf, wAttr, getI, startsV, inV, ninV, wItSet, wNeg, wAug, wAsg2, retv, powV, andV, fdivV, modV, sumV, minV, maxV, sortedV, upd_self]; subst hR
  have hsp : Txt.split x (Str.ofString "/") = ts := by rw [slash_eq, ← hx]; exact split_join h.ne h.free
  have hfew := h.few
  refine seq_cut fun R hR => ?_; simp only [wSeq, wAsg, w2, w2b, subW, wNm, wInt, opt, updl_eq, bindP_cons, ↓String.reduceEq, ↓reduceIte, reduceCtorEq, i2, c2, ltV, gtV, geV, shrV, wDone, wBrk, wCont, wSet, setW, wIte, wExpr, notRef, wRet, wCall, wCons, wNil, true_and, lenV, mulSV, addV, wAndB, wNot, wTrueB, wOrB, wTru, wMethL, getL, appendV, popV, truthW, wStr, wNone, wBool, typeV, isV, wTyp, wFailS, wFailA, wFailB, wFailE, wFalseB, newL, newT, wSlStr, eqV, neV, wMethS, splitV, joinV, wAsgT, tgN, bindAll, tg1, wItVal, wItRev, wItRange, wOrV, wIf, wAttr, getI, startsV, inV, ninV, wItSet, wNeg, wAug, wAsg2, retv, powV, andV, fdivV, modV, sumV, minV, maxV, sortedV, hsp]
  refine ⟨by decide +kernel, by omega, by omega, ?_, by rw [List.length_map]; unfold lim; omega, fun c hc => ?_⟩
  · rw [length_partsBetween]
    have := StrLaws.occ_length_le x (Str.ofString "/") 0 x.length (x.length + 1)
    omega
  subst hR
  refine seq_cut fun R hR => ?_; simp only [wSeq, wAsg, w2, w2b, subW, wNm, wInt, opt, updl_eq, bindP_cons, ↓String.reduceEq, ↓reduceIte, reduceCtorEq, i2, c2, ltV, gtV, geV, shrV, wDone, wBrk, wCont, wSet, setW, wIte, wExpr, notRef, wRet, wCall, wCons, wNil, true_and, lenV, mulSV, addV, wAndB, wNot, wTrueB, wOrB, wTru, wMethL, getL, appendV, popV, truthW, wStr, wNone, wBool, typeV, isV, wTyp, wFailS, wFailA, wFailB, wFailE, wFalseB, newL, newT, wSlStr, eqV, neV, wMethS, splitV, joinV, wAsgT, tgN, bindAll, tg1, wItVal, wItRev, wItRange, wOrV, wIf, wAttr, getI, startsV, inV, ninV, wItSet, wNeg, wAug, wAsg2, retv, powV, andV, fdivV, modV, sumV, minV, maxV, sortedV]
  refine ⟨by simp [lim], fun n hn => ?_⟩; subst hR
  generalize hσ₁ : upd (upd σ a _) c _ = σ₁ at *
  have hE : Ext σ σ₁ := by rw [← hσ₁]; exact (Ext.new ha _).step hc _
  have hc1 : σ₁ c = some (.list (ts.map V.str)) := by rw [← hσ₁]; exact upd_self ..
  clear hσ₁ hc ha
  refine seq_cut fun R hR => ?_
  refine for_of (.list c) (ts.map V.str) _ (fun i ρ σ' => ρ "new_comps" = some (.ref n) ∧ ρ "initial_slashes" = some (.str (Str.ofString "")) ∧ ρ "sep" = some (.str (Str.ofString "/")) ∧ ρ "dot" = some (.str (Str.ofString ".")) ∧ ρ "dotdot" = some (.str (Str.ofString "..")) ∧
    Ext σ₁ σ' ∧ σ' n = some (.list ((ts.take i).map V.str))) (fun K k => ?_) ⟨?_, ?_, ?_, ?_, ?_, (Ext.new hn _), upd_self ..⟩ ?_ ?_
  · simp only [wSeq, wAsg, w2, w2b, subW, wNm, wInt, opt, updl_eq, bindP_cons, ↓String.reduceEq, ↓reduceIte, reduceCtorEq, i2, c2, ltV, gtV, geV, shrV, wDone, wBrk, wCont, wSet, setW, wIte, wExpr, notRef, wRet, wCall, wCons, wNil, true_and, lenV, mulSV, addV, wAndB, wNot, wTrueB, wOrB, wTru, wMethL, getL, appendV, popV, truthW, wStr, wNone, wBool, typeV, isV, wTyp, wFailS, wFailA, wFailB, wFailE, wFalseB, newL, newT, wSlStr, eqV, neV, wMethS, splitV, joinV, wAsgT, tgN, bindAll, tg1, wItVal, wItRev, wItRange, wOrV, wIf, wAttr, getI, startsV, inV, ninV, wItSet, wNeg, wAug, wAsg2, retv, powV, andV, fdivV, modV, sumV, minV, maxV, sortedV, upd_get hc1 hn]; exact k
  · simp only [wSeq, wAsg, w2, w2b, subW, wNm, wInt, opt, updl_eq, bindP_cons, ↓String.reduceEq, ↓reduceIte, reduceCtorEq, i2, c2, ltV, gtV, geV, shrV, wDone, wBrk, wCont, wSet, setW, wIte, wExpr, notRef, wRet, wCall, wCons, wNil, true_and, lenV, mulSV, addV, wAndB, wNot, wTrueB, wOrB, wTru, wMethL, getL, appendV, popV, truthW, wStr, wNone, wBool, typeV, isV, wTyp, wFailS, wFailA, wFailB, wFailE, wFalseB, newL, newT, wSlStr, eqV, neV, wMethS, splitV, joinV, wAsgT, tgN, bindAll, tg1, wItVal, wItRev, wItRange, wOrV, wIf, wAttr, getI, startsV, inV, ninV, wItSet, wNeg, wAug, wAsg2, retv, powV, andV, fdivV, modV, sumV, minV, maxV, sortedV]
  · simp only [wSeq, wAsg, w2, w2b, subW, wNm, wInt, opt, updl_eq, bindP_cons, ↓String.reduceEq, ↓reduceIte, reduceCtorEq, i2, c2, ltV, gtV, geV, shrV, wDone, wBrk, wCont, wSet, setW, wIte, wExpr, notRef, wRet, wCall, wCons, wNil, true_and, lenV, mulSV, addV, wAndB, wNot, wTrueB, wOrB, wTru, wMethL, getL, appendV, popV, truthW, wStr, wNone, wBool, typeV, isV, wTyp, wFailS, wFailA, wFailB, wFailE, wFalseB, newL, newT, wSlStr, eqV, neV, wMethS, splitV, joinV, wAsgT, tgN, bindAll, tg1, wItVal, wItRev, wItRange, wOrV, wIf, wAttr, getI, startsV, inV, ninV, wItSet, wNeg, wAug, wAsg2, retv, powV, andV, fdivV, modV, sumV, minV, maxV, sortedV]
  · simp only [wSeq, wAsg, w2, w2b, subW, wNm, wInt, opt, updl_eq, bindP_cons, ↓String.reduceEq, ↓reduceIte, reduceCtorEq, i2, c2, ltV, gtV, geV, shrV, wDone, wBrk, wCont, wSet, setW, wIte, wExpr, notRef, wRet, wCall, wCons, wNil, true_and, lenV, mulSV, addV, wAndB, wNot, wTrueB, wOrB, wTru, wMethL, getL, appendV, popV, truthW, wStr, wNone, wBool, typeV, isV, wTyp, wFailS, wFailA, wFailB, wFailE, wFalseB, newL, newT, wSlStr, eqV, neV, wMethS, splitV, joinV, wAsgT, tgN, bindAll, tg1, wItVal, wItRev, wItRange, wOrV, wIf, wAttr, getI, startsV, inV, ninV, wItSet, wNeg, wAug, wAsg2, retv, powV, andV, fdivV, modV, sumV, minV, maxV, sortedV]
  · simp only [wSeq, wAsg, w2, w2b, subW, wNm, wInt, opt, updl_eq, bindP_cons, ↓String.reduceEq, ↓reduceIte, reduceCtorEq, i2, c2, ltV, gtV, geV, shrV, wDone, wBrk, wCont, wSet, setW, wIte, wExpr, notRef, wRet, wCall, wCons, wNil, true_and, lenV, mulSV, addV, wAndB, wNot, wTrueB, wOrB, wTru, wMethL, getL, appendV, popV, truthW, wStr, wNone, wBool, typeV, isV, wTyp, wFailS, wFailA, wFailB, wFailE, wFalseB, newL, newT, wSlStr, eqV, neV, wMethS, splitV, joinV, wAsgT, tgN, bindAll, tg1, wItVal, wItRev, wItRange, wOrV, wIf, wAttr, getI, startsV, inV, ninV, wItSet, wNeg, wAug, wAsg2, retv, powV, andV, fdivV, modV, sumV, minV, maxV, sortedV]
  · simp only [wSeq, wAsg, w2, w2b, subW, wNm, wInt, opt, updl_eq, bindP_cons, ↓String.reduceEq, ↓reduceIte, reduceCtorEq, i2, c2, ltV, gtV, geV, shrV, wDone, wBrk, wCont, wSet, setW, wIte, wExpr, notRef, wRet, wCall, wCons, wNil, true_and, lenV, mulSV, addV, wAndB, wNot, wTrueB, wOrB, wTru, wMethL, getL, appendV, popV, truthW, wStr, wNone, wBool, typeV, isV, wTyp, wFailS, wFailA, wFailB, wFailE, wFalseB, newL, newT, wSlStr, eqV, neV, wMethS, splitV, joinV, wAsgT, tgN, bindAll, tg1, wItVal, wItRev, wItRange, wOrV, wIf, wAttr, getI, startsV, inV, ninV, wItSet, wNeg, wAug, wAsg2, retv, powV, andV, fdivV, modV, sumV, minV, maxV, sortedV]
  · rintro i v ρ σ' hv ⟨h1, h2, h3, h4, h5, h6, h7⟩
    obtain ⟨t, ht, rfl⟩ := map_get hv
    have hm := List.mem_of_getElem? ht
    have hf := h.full t hm
    have hlt : t.length ≤ 1000 := by
      have := mem_le_sum hm
      omega
    obtain ⟨g1, g2⟩ := h.no_dot hm
    have hb2 : (t.length != 0) = true := by rw [bne_iff_ne]; omega
    refine ⟨vals_list (h6.get hc1), ?_⟩
    show wSeq _ _ _ _ _ _
    refine seq_cut fun R hR => ?_; simp only [wSeq, wAsg, w2, w2b, subW, wNm, wInt, opt, updl_eq, bindP_cons, ↓String.reduceEq, ↓reduceIte, reduceCtorEq, i2, c2, ltV, gtV, geV, shrV, wDone, wBrk, wCont, wSet, setW, wIte, wExpr, notRef, wRet, wCall, wCons, wNil, true_and, lenV, mulSV, addV, wAndB, wNot, wTrueB, wOrB, wTru, wMethL, getL, appendV, popV, truthW, wStr, wNone, wBool, typeV, isV, wTyp, wFailS, wFailA, wFailB, wFailE, wFalseB, newL, newT, wSlStr, eqV, neV, wMethS, splitV, joinV, wAsgT, tgN, bindAll, tg1, wItVal, wItRev, wItRange, wOrV, wIf, wAttr, getI, startsV, inV, ninV, wItSet, wNeg, wAug, wAsg2, retv, powV, andV, fdivV, modV, sumV, minV, maxV, sortedV, h4, g1, hb2, Bool.not_true, Bool.false_eq_true]
    refine ⟨by omega, ?_⟩; subst hR
    refine seq_cut fun R hR => ?_; simp only [wSeq, wAsg, w2, w2b, subW, wNm, wInt, opt, updl_eq, bindP_cons, ↓String.reduceEq, ↓reduceIte, reduceCtorEq, i2, c2, ltV, gtV, geV, shrV, wDone, wBrk, wCont, wSet, setW, wIte, wExpr, notRef, wRet, wCall, wCons, wNil, true_and, lenV, mulSV, addV, wAndB, wNot, wTrueB, wOrB, wTru, wMethL, getL, appendV, popV, truthW, wStr, wNone, wBool, typeV, isV, wTyp, wFailS, wFailA, wFailB, wFailE, wFalseB, newL, newT, wSlStr, eqV, neV, wMethS, splitV, joinV, wAsgT, tgN, bindAll, tg1, wItVal, wItRev, wItRange, wOrV, wIf, wAttr, getI, startsV, inV, ninV, wItSet, wNeg, wAug, wAsg2, retv, powV, andV, fdivV, modV, sumV, minV, maxV, sortedV, h5, g2, h1, h7]
    refine ⟨by rw [List.length_map, List.length_take]; omega, ?_⟩; subst hR
    simp only [wSeq, wAsg, w2, w2b, subW, wNm, wInt, opt, updl_eq, bindP_cons, ↓String.reduceEq, ↓reduceIte, reduceCtorEq, i2, c2, ltV, gtV, geV, shrV, wDone, wBrk, wCont, wSet, setW, wIte, wExpr, notRef, wRet, wCall, wCons, wNil, true_and, lenV, mulSV, addV, wAndB, wNot, wTrueB, wOrB, wTru, wMethL, getL, appendV, popV, truthW, wStr, wNone, wBool, typeV, isV, wTyp, wFailS, wFailA, wFailB, wFailE, wFalseB, newL, newT, wSlStr, eqV, neV, wMethS, splitV, joinV, wAsgT, tgN, bindAll, tg1, wItVal, wItRev, wItRange, wOrV, wIf, wAttr, getI, startsV, inV, ninV, wItSet, wNeg, wAug, wAsg2, retv, powV, andV, fdivV, modV, sumV, minV, maxV, sortedV, h1, h2, h3, h4, h5]
    refine ⟨h6.put hn _, ?_⟩
    rw [upd_self, take_snoc ht]; simp
  · rintro ρ σ' ⟨h1, h2, h3, h4, h5, h6, h7⟩
    refine ⟨vals_list (h6.get hc1), ?_⟩
    rw [List.length_map, List.take_length] at h7
    have hj : Txt.join (Str.ofString "/") ts = x := by rw [join_eq, slash_eq, hx]
    subst hR
    refine seq_cut fun R hR => ?_; simp only [wSeq, wAsg, w2, w2b, subW, wNm, wInt, opt, updl_eq, bindP_cons, ↓String.reduceEq, ↓reduceIte, reduceCtorEq, i2, c2, ltV, gtV, geV, shrV, wDone, wBrk, wCont, wSet, setW, wIte, wExpr, notRef, wRet, wCall, wCons, wNil, true_and, lenV, mulSV, addV, wAndB, wNot, wTrueB, wOrB, wTru, wMethL, getL, appendV, popV, truthW, wStr, wNone, wBool, typeV, isV, wTyp, wFailS, wFailA, wFailB, wFailE, wFalseB, newL, newT, wSlStr, eqV, neV, wMethS, splitV, joinV, wAsgT, tgN, bindAll, tg1, wItVal, wItRev, wItRange, wOrV, wIf, wAttr, getI, startsV, inV, ninV, wItSet, wNeg, wAug, wAsg2, retv, powV, andV, fdivV, modV, sumV, minV, maxV, sortedV, h1]; subst hR
    refine seq_cut fun R hR => ?_; simp only [wSeq, wAsg, w2, w2b, subW, wNm, wInt, opt, updl_eq, bindP_cons, ↓String.reduceEq, ↓reduceIte, reduceCtorEq, i2, c2, ltV, gtV, geV, shrV, wDone, wBrk, wCont, wSet, setW, wIte, wExpr, notRef, wRet, wCall, wCons, wNil, true_and, lenV, mulSV, addV, wAndB, wNot, wTrueB, wOrB, wTru, wMethL, getL, appendV, popV, truthW, wStr, wNone, wBool, typeV, isV, wTyp, wFailS, wFailA, wFailB, wFailE, wFalseB, newL, newT, wSlStr, eqV, neV, wMethS, splitV, joinV, wAsgT, tgN, bindAll, tg1, wItVal, wItRev, wItRange, wOrV, wIf, wAttr, getI, startsV, inV, ninV, wItSet, wNeg, wAug, wAsg2, retv, powV, andV, fdivV, modV, sumV, minV, maxV, sortedV, h1, h2, h3, h4, h5, h7]
    refine ⟨ts, rfl, by rw [slash_eq]; exact joinOk_sg (by omega), ?_⟩
    rw [hj]
    have e : Str.ofString "" ++ x = x := cs_inj (by rw [cs_append, show cs (Str.ofString "") = [] by decide +kernel, List.nil_append])
    rw [e]
    refine ⟨by rw [show (Str.ofString "").length = 0 by decide +kernel]; omega, ?_⟩
    subst hR
    simp only [wSeq, wAsg, w2, w2b, subW, wNm, wInt, opt, updl_eq, bindP_cons, ↓String.reduceEq, ↓reduceIte, reduceCtorEq, i2, c2, ltV, gtV, geV, shrV, wDone, wBrk, wCont, wSet, setW, wIte, wExpr, notRef, wRet, wCall, wCons, wNil, true_and, lenV, mulSV, addV, wAndB, wNot, wTrueB, wOrB, wTru, wMethL, getL, appendV, popV, truthW, wStr, wNone, wBool, typeV, isV, wTyp, wFailS, wFailA, wFailB, wFailE, wFalseB, newL, newT, wSlStr, eqV, neV, wMethS, splitV, joinV, wAsgT, tgN, bindAll, tg1, wItVal, wItRev, wItRange, wOrV, wIf, wAttr, getI, startsV, inV, ninV, wItSet, wNeg, wAug, wAsg2, retv, powV, andV, fdivV, modV, sumV, minV, maxV, sortedV, hb]
    refine ⟨by omega, ?_⟩
    exact q σ' (hE.trans h6)
theorem spec_normpath {σ : Sto} {ts : List Str} {Q : V → Sto → Prop} (h : Parts ts) (q : ∀ σ', Ext σ σ' → Q (.str (Str.join (sg 47) ts)) σ') : T_normpath [.str (Str.join (sg 47) ts)] σ Q := by
  refine ⟨rfl, fun t d hne ht hd => ?_⟩
  unfold W_normpath
  simp only [wSeq, wAsg, w2, w2b, subW, wNm, wInt, opt, updl_eq, bindP_cons, ↓String.reduceEq, ↓reduceIte, reduceCtorEq, i2, c2, ltV, gtV, geV, shrV, wDone, wBrk, wCont, wSet, setW, wIte, wExpr, notRef, wRet, wCall, wCons, wNil, true_and, lenV, mulSV, addV, wAndB, wNot, wTrueB, wOrB, wTru, wMethL, getL, appendV, popV, truthW, wStr, wNone, wBool, typeV, isV, wTyp, wFailS, wFailA, wFailB, wFailE, wFalseB, newL, newT, wSlStr, eqV, neV, wMethS, splitV, joinV, wAsgT, tgN, bindAll, tg1, wItVal, wItRev, wItRange, wOrV, wIf, wAttr, getI, startsV, inV, ninV, wItSet, wNeg, wAug, wAsg2, retv, powV, andV, fdivV, modV, sumV, minV, maxV, sortedV]
  refine spec_c_path (x := Str.join (sg 47) ts) (t := t) (d := d) (f := fun _ => none) ?_ (upd_self ..) ?_
  · rw [upd_ne _ _ hne, upd_self]
  refine spec__normpath h fun σ' hE => q σ' (Ext.trans ?_ hE)
  exact (Ext.new ht _).put hd _
end Mine
end

section
open PySem PySem.W PyProof.Rows PySem.Builtin PySem.Builtin.Str
set_option maxRecDepth 100000
set_option maxHeartbeats 4000000
set_option linter.unusedSimpArgs false
namespace Mine
/-- a comprehension, its parts untouched -/
theorem comp_of {fv : List String} {tg : TG} {it : IT} {c : BT} {elt : ET} {ρ : Loc} {σ : Sto} {Q : V → Sto → Prop} {X : Sto → Prop} (src : Src) (vs : List V) (σ₁ : Sto) (I : Nat → List V → Sto → Prop) (hit : ∀ K : Src → List V → Sto → Prop, K src vs σ₁ → it ρ σ K X)
    (h0 : I 0 [] σ₁) (hs : ∀ i v out σ, vs[i]? = some v → I i out σ → src.vals σ = some vs ∧ out.length ≤ 1000000 ∧ tg (restr fv ρ) σ v fun ρc => c ρc σ (fun b σ => if b then elt ρc σ (fun y σ => I (i + 1) (out ++ [y]) σ) (fun _ => False) else I (i + 1) out σ) (fun _ => False))
    (he : ∀ out σ, I vs.length out σ → src.vals σ = some vs ∧ ∀ a, σ a = none → Q (.ref a) (upd σ a (.list out))) : wComp fv tg it c elt ρ σ Q X :=
  hit _ ⟨I, h0, hs, he⟩

/-- a reader: its own objects; g: what it remembers -/
noncomputable def Rdr (σ : Sto) (x g : Addr) (mods dirs : List Str) : Prop := ∃ d k F m l ep t, σ x = some (.inst cI d) ∧ σ d = some (.ns k F) ∧ F (Str.ofString "_mods") = some (.ref m) ∧ F (Str.ofString "_dirs") = some (.ref l) ∧ F (Str.ofString "_ignore") = some (.ref g) ∧ F (Str.ofString "names") = none ∧
  σ m = some (.set mods ep t) ∧ σ l = some (.list (dirs.map V.str))
theorem Rdr.ext {σ σ' : Sto} (h : Ext σ σ') {x g : Addr} {mods dirs : List Str} (r : Rdr σ x g mods dirs) : Rdr σ' x g mods dirs := by
  obtain ⟨d, k, F, m, l, ep, t, h1, h2, h3, h4, h5, h6, h7, h8⟩ := r
  exact ⟨d, k, F, m, l, ep, t, h.get h1, h.get h2, h3, h4, h5, h6, h.get h7, h.get h8⟩
noncomputable def strInit : Str → Option V := fun j => if j = Str.ofString "<string>" then some (.int 1) else none
theorem strNe : (Str.ofString "_mods" = Str.ofString "_dirs") = False ∧ (Str.ofString "_mods" = Str.ofString "_ignore") = False ∧ (Str.ofString "_dirs" = Str.ofString "_ignore") = False ∧ (Str.ofString "names" = Str.ofString "_mods") = False ∧
    (Str.ofString "names" = Str.ofString "_dirs") = False ∧ (Str.ofString "names" = Str.ofString "_ignore") = False := by
  refine ⟨?_, ?_, ?_, ?_, ?_, ?_⟩ <;> exact eq_false (by decide +kernel)
/-- what dirs may be: no one, or one good path -/
noncomputable def DirsOk (dirs : List Str) : Prop := dirs = [] ∨ ∃ ts, Parts ts ∧ dirs = [Str.join (sg 47) ts]
theorem spec_init {σ : Sto} {x d a b : Addr} {mods dirs : List Str} {Q : V → Sto → Prop} (hx : σ x = some (.inst cI d)) (hd : σ d = some (.ns 0 fun _ => none)) (ha : σ a = some (.list (mods.map V.str))) (hb : σ b = some (.list (dirs.map V.str)))
    (hm : mods = [] ∨ ∃ s, mods = [s]) (hdd : DirsOk dirs)
    (q : ∀ σ' g, (∀ b, b ≠ d → σ b ≠ none → σ' b = σ b) → σ g = none → σ' g = some (.ds 1 strInit) → Rdr σ' x g mods dirs → Q .none σ') : T___init__ [.ref x, .ref a, .ref b] σ Q := by
  refine ⟨rfl, ?_⟩
  unfold W___init__
  refine seq_cut fun R hR => ?_
  have step1 : ∀ K : V → Sto → Prop, (∀ m ep t, σ m = none → K (.ref m) (upd σ m (.set mods ep t))) → (wIf (wNot (wTru (wNm "modules"))) (wCall setV wNil) (wCall setV (wCons (wNm "modules") wNil))) (bindP ["self", "modules", "dirs"] [V.ref x, V.ref a, V.ref b]) σ K (fun _ => False) := by
    intro K k
    rcases hm with rfl | ⟨s, rfl⟩
    · simp only [wSeq, wAsg, w2, w2b, subW, wNm, wInt, opt, updl_eq, bindP_cons, ↓String.reduceEq, ↓reduceIte, reduceCtorEq, i2, c2, ltV, gtV, geV, shrV, wDone, wBrk, wCont, wSet, setW, wIte, wExpr, notRef, wRet, wCall, wCons, wNil, true_and, lenV, mulSV, addV, wAndB, wNot, wTrueB, wOrB, wTru, wMethL, getL, appendV, popV, truthW, wStr, wNone, wBool, typeV, isV, wTyp, wFailS, wFailA, wFailB, wFailE, wFalseB, newL, newT, wSlStr, eqV, neV, wMethS, splitV, joinV, wAsgT, tgN, bindAll, tg1, wItVal, wItRev, wItRange, wOrV, wIf, wAttr, getI, startsV, inV, ninV, wItSet, wNeg, wAug, wAsg2, retv, powV, andV, fdivV, modV, sumV, minV, maxV, sortedV, ha, List.map_nil, List.isEmpty_nil, Bool.not_true, Bool.not_false, setV]
      exact ⟨by simp, fun m ep t hm => k m ep t hm⟩
    · simp only [wSeq, wAsg, w2, w2b, subW, wNm, wInt, opt, updl_eq, bindP_cons, ↓String.reduceEq, ↓reduceIte, reduceCtorEq, i2, c2, ltV, gtV, geV, shrV, wDone, wBrk, wCont, wSet, setW, wIte, wExpr, notRef, wRet, wCall, wCons, wNil, true_and, lenV, mulSV, addV, wAndB, wNot, wTrueB, wOrB, wTru, wMethL, getL, appendV, popV, truthW, wStr, wNone, wBool, typeV, isV, wTyp, wFailS, wFailA, wFailB, wFailE, wFalseB, newL, newT, wSlStr, eqV, neV, wMethS, splitV, joinV, wAsgT, tgN, bindAll, tg1, wItVal, wItRev, wItRange, wOrV, wIf, wAttr, getI, startsV, inV, ninV, wItSet, wNeg, wAug, wAsg2, retv, powV, andV, fdivV, modV, sumV, minV, maxV, sortedV, ha, List.map_cons, List.map_nil, List.isEmpty_cons, Bool.not_true, Bool.not_false, Bool.false_eq_true, setV]
      exact ⟨by simp, s, rfl, fun m ep t hm => k m ep t hm⟩
  refine step1 _ fun m ep t hm0 => ?_
  have hdm := ne_of hd hm0
  simp only [wSeq, wAsg, w2, w2b, subW, wNm, wInt, opt, updl_eq, bindP_cons, ↓String.reduceEq, ↓reduceIte, reduceCtorEq, i2, c2, ltV, gtV, geV, shrV, wDone, wBrk, wCont, wSet, setW, wIte, wExpr, notRef, wRet, wCall, wCons, wNil, true_and, lenV, mulSV, addV, wAndB, wNot, wTrueB, wOrB, wTru, wMethL, getL, appendV, popV, truthW, wStr, wNone, wBool, typeV, isV, wTyp, wFailS, wFailA, wFailB, wFailE, wFalseB, newL, newT, wSlStr, eqV, neV, wMethS, splitV, joinV, wAsgT, tgN, bindAll, tg1, wItVal, wItRev, wItRange, wOrV, wIf, wAttr, getI, startsV, inV, ninV, wItSet, wNeg, wAug, wAsg2, retv, powV, andV, fdivV, modV, sumV, minV, maxV, sortedV, getI, upd_get hx hm0, upd_get hd hm0]
  refine ⟨by decide, ?_⟩
  subst hR
  generalize hσ₁ : upd (upd σ m _) d _ = σ₁ at *
  have e1 : ∀ c, c ≠ d → σ c ≠ none → σ₁ c = σ c := fun c h1 h2 => by rw [← hσ₁, upd_ne _ _ h1, upd_ne _ _ (fun e => h2 (by rw [e]; exact hm0))]
  have e2 : ∀ c, σ₁ c = none → σ c = none := fun c h => by
    by_cases h1 : c = d
    · subst h1; rw [← hσ₁, upd_self] at h; cases h
    · cases h2 : σ c with
      | none => rfl
      | some o => rw [e1 c h1 (by rw [h2]; simp), h2] at h; cases h
  have hm1 : σ₁ m = some (.set mods ep t) := by rw [← hσ₁, upd_ne _ _ (Ne.symm hdm), upd_self]
  have hd1 : σ₁ d = some (.ns 1 fun y => if y = Str.ofString "_mods" then some (V.ref m) else none) := by rw [← hσ₁, upd_self]
  have hx1 : σ₁ x = some (.inst cI d) := by rw [e1 x (neo hx hd (by simp)) (by rw [hx]; simp), hx]
  have hb1 : σ₁ b = some (.list (dirs.map V.str)) := by rw [e1 b (neo hb hd (by simp)) (by rw [hb]; simp), hb]
  clear hσ₁ step1
  refine seq_cut fun R hR => ?_
  have step2 : ∀ K : V → Sto → Prop, (∀ l σ₂, Ext σ₁ σ₂ → σ₂ l = none → K (.ref l) (upd σ₂ l (.list (dirs.map V.str)))) → (wIf (wNot (wTru (wNm "dirs"))) (wCall newL wNil) (wComp [] (tg1 "d") (wItVal (wNm "dirs")) wTrueB (wCall T_normpath (wCons (wNm "d") wNil))))
      (bindP ["self", "modules", "dirs"] [V.ref x, V.ref a, V.ref b]) σ₁ K (fun _ => False) := by
    intro K k
    rcases hdd with rfl | ⟨ts, hts, rfl⟩
    · simp only [wSeq, wAsg, w2, w2b, subW, wNm, wInt, opt, updl_eq, bindP_cons, ↓String.reduceEq, ↓reduceIte, reduceCtorEq, i2, c2, ltV, gtV, geV, shrV, wDone, wBrk, wCont, wSet, setW, wIte, wExpr, notRef, wRet, wCall, wCons, wNil, true_and, lenV, mulSV, addV, wAndB, wNot, wTrueB, wOrB, wTru, wMethL, getL, appendV, popV, truthW, wStr, wNone, wBool, typeV, isV, wTyp, wFailS, wFailA, wFailB, wFailE, wFalseB, newL, newT, wSlStr, eqV, neV, wMethS, splitV, joinV, wAsgT, tgN, bindAll, tg1, wItVal, wItRev, wItRange, wOrV, wIf, wAttr, getI, startsV, inV, ninV, wItSet, wNeg, wAug, wAsg2, retv, powV, andV, fdivV, modV, sumV, minV, maxV, sortedV, hb1, List.map_nil, List.isEmpty_nil, Bool.not_true, Bool.not_false]
      exact ⟨by simp, by simp, fun l hl => k l σ₁ (.refl _) hl⟩
    · unfold wIf
      simp only [wSeq, wAsg, w2, w2b, subW, wNm, wInt, opt, updl_eq, bindP_cons, ↓String.reduceEq, ↓reduceIte, reduceCtorEq, i2, c2, ltV, gtV, geV, shrV, wDone, wBrk, wCont, wSet, setW, wIte, wExpr, notRef, wRet, wCall, wCons, wNil, true_and, lenV, mulSV, addV, wAndB, wNot, wTrueB, wOrB, wTru, wMethL, getL, appendV, popV, truthW, wStr, wNone, wBool, typeV, isV, wTyp, wFailS, wFailA, wFailB, wFailE, wFalseB, newL, newT, wSlStr, eqV, neV, wMethS, splitV, joinV, wAsgT, tgN, bindAll, tg1, wItVal, wItRev, wItRange, wOrV, wIf, wAttr, getI, startsV, inV, ninV, wItSet, wNeg, wAug, wAsg2, retv, powV, andV, fdivV, modV, sumV, minV, maxV, sortedV, hb1, List.map_cons, List.map_nil, List.isEmpty_cons, Bool.not_true, Bool.not_false, Bool.false_eq_true]
      refine ⟨by simp, ?_⟩
      refine comp_of (.list b) [V.str (Str.join (sg 47) ts)] σ₁ (fun i out σ' => Ext σ₁ σ' ∧ out = [V.str (Str.join (sg 47) ts)].take i) (fun K k => ?_) ⟨.refl _, rfl⟩ ?_ ?_
      · simp only [wSeq, wAsg, w2, w2b, subW, wNm, wInt, opt, updl_eq, bindP_cons, ↓String.reduceEq, ↓reduceIte, reduceCtorEq, i2, c2, ltV, gtV, geV, shrV, wDone, wBrk, wCont, wSet, setW, wIte, wExpr, notRef, wRet, wCall, wCons, wNil, true_and, lenV, mulSV, addV, wAndB, wNot, wTrueB, wOrB, wTru, wMethL, getL, appendV, popV, truthW, wStr, wNone, wBool, typeV, isV, wTyp, wFailS, wFailA, wFailB, wFailE, wFalseB, newL, newT, wSlStr, eqV, neV, wMethS, splitV, joinV, wAsgT, tgN, bindAll, tg1, wItVal, wItRev, wItRange, wOrV, wIf, wAttr, getI, startsV, inV, ninV, wItSet, wNeg, wAug, wAsg2, retv, powV, andV, fdivV, modV, sumV, minV, maxV, sortedV, hb1, List.map_cons, List.map_nil]; exact k
      · rintro i v out σ' hv ⟨hE, rfl⟩
        obtain ⟨hi, hv⟩ := List.getElem?_eq_some_iff.mp hv
        have hi0 : i = 0 := by simpa using hi
        subst hi0
        simp only [List.getElem_cons_zero] at hv
        subst hv
        refine ⟨vals_list (hE.get hb1), by simp, ?_⟩
        simp only [wSeq, wAsg, w2, w2b, subW, wNm, wInt, opt, updl_eq, bindP_cons, ↓String.reduceEq, ↓reduceIte, reduceCtorEq, i2, c2, ltV, gtV, geV, shrV, wDone, wBrk, wCont, wSet, setW, wIte, wExpr, notRef, wRet, wCall, wCons, wNil, true_and, lenV, mulSV, addV, wAndB, wNot, wTrueB, wOrB, wTru, wMethL, getL, appendV, popV, truthW, wStr, wNone, wBool, typeV, isV, wTyp, wFailS, wFailA, wFailB, wFailE, wFalseB, newL, newT, wSlStr, eqV, neV, wMethS, splitV, joinV, wAsgT, tgN, bindAll, tg1, wItVal, wItRev, wItRange, wOrV, wIf, wAttr, getI, startsV, inV, ninV, wItSet, wNeg, wAug, wAsg2, retv, powV, andV, fdivV, modV, sumV, minV, maxV, sortedV]
        refine spec_normpath hts fun σ'' hE' => ⟨hE.trans hE', rfl⟩
      · rintro out σ' ⟨hE, rfl⟩
        exact ⟨vals_list (hE.get hb1), fun l hl => k l σ' hE hl⟩
  refine step2 _ fun l σ₂ hE2 hl0 => ?_
  have hd2 := hE2.get hd1
  have hdl := ne_of hd2 hl0
  simp only [wSeq, wAsg, w2, w2b, subW, wNm, wInt, opt, updl_eq, bindP_cons, ↓String.reduceEq, ↓reduceIte, reduceCtorEq, i2, c2, ltV, gtV, geV, shrV, wDone, wBrk, wCont, wSet, setW, wIte, wExpr, notRef, wRet, wCall, wCons, wNil, true_and, lenV, mulSV, addV, wAndB, wNot, wTrueB, wOrB, wTru, wMethL, getL, appendV, popV, truthW, wStr, wNone, wBool, typeV, isV, wTyp, wFailS, wFailA, wFailB, wFailE, wFalseB, newL, newT, wSlStr, eqV, neV, wMethS, splitV, joinV, wAsgT, tgN, bindAll, tg1, wItVal, wItRev, wItRange, wOrV, wIf, wAttr, getI, startsV, inV, ninV, wItSet, wNeg, wAug, wAsg2, retv, powV, andV, fdivV, modV, sumV, minV, maxV, sortedV, getI, upd_get (hE2.get hx1) hl0, upd_get hd2 hl0]
  refine ⟨by decide, ?_⟩
  subst hR
  generalize hσ₃ : upd (upd σ₂ l _) d _ = σ₃ at *
  have e3 : ∀ c, c ≠ d → σ₂ c ≠ none → σ₃ c = σ₂ c := fun c h1 h2 => by rw [← hσ₃, upd_ne _ _ h1, upd_ne _ _ (fun e => h2 (by rw [e]; exact hl0))]
  have e4 : ∀ c, σ₃ c = none → σ₂ c = none := fun c h => by
    by_cases h1 : c = d
    · subst h1; rw [← hσ₃, upd_self] at h; cases h
    · cases h2 : σ₂ c with
      | none => rfl
      | some o => rw [e3 c h1 (by rw [h2]; simp), h2] at h; cases h
  have hl3 : σ₃ l = some (.list (dirs.map V.str)) := by rw [← hσ₃, upd_ne _ _ (Ne.symm hdl), upd_self]
  have hm2 := hE2.get hm1
  have hx2 := hE2.get hx1
  have hm3 : σ₃ m = some (.set mods ep t) := by rw [e3 m (neo hm2 hd2 (by simp)) (by rw [hm2]; simp), hm2]
  have hx3 : σ₃ x = some (.inst cI d) := by rw [e3 x (neo hx2 hd2 (by simp)) (by rw [hx2]; simp), hx2]
  have hd3 : ∃ F, σ₃ d = some (.ns 2 F) ∧ F (Str.ofString "_mods") = some (.ref m) ∧ F (Str.ofString "_dirs") = some (.ref l) ∧ F (Str.ofString "names") = none := by
    obtain ⟨n1, n2, n3, n4, n5, n6⟩ := strNe
    refine ⟨_, by rw [← hσ₃, upd_self], ?_, ?_, ?_⟩ <;> simp only [n1, n2, n3, n4, n5, n6, if_true, if_false]
  clear hσ₃ step2
  obtain ⟨F, hd3, f1, f2, f3⟩ := hd3
  refine seq_cut fun R hR => ?_
  unfold wDict1s
  simp only [wSeq, wAsg, w2, w2b, subW, wNm, wInt, opt, updl_eq, bindP_cons, ↓String.reduceEq, ↓reduceIte, reduceCtorEq, i2, c2, ltV, gtV, geV, shrV, wDone, wBrk, wCont, wSet, setW, wIte, wExpr, notRef, wRet, wCall, wCons, wNil, true_and, lenV, mulSV, addV, wAndB, wNot, wTrueB, wOrB, wTru, wMethL, getL, appendV, popV, truthW, wStr, wNone, wBool, typeV, isV, wTyp, wFailS, wFailA, wFailB, wFailE, wFalseB, newL, newT, wSlStr, eqV, neV, wMethS, splitV, joinV, wAsgT, tgN, bindAll, tg1, wItVal, wItRev, wItRange, wOrV, wIf, wAttr, getI, startsV, inV, ninV, wItSet, wNeg, wAug, wAsg2, retv, powV, andV, fdivV, modV, sumV, minV, maxV, sortedV]
  intro g hg
  have hdg := ne_of hd3 hg
  refine ⟨upd_self .., ?_⟩
  rw [upd_upd]
  simp only [wSeq, wAsg, w2, w2b, subW, wNm, wInt, opt, updl_eq, bindP_cons, ↓String.reduceEq, ↓reduceIte, reduceCtorEq, i2, c2, ltV, gtV, geV, shrV, wDone, wBrk, wCont, wSet, setW, wIte, wExpr, notRef, wRet, wCall, wCons, wNil, true_and, lenV, mulSV, addV, wAndB, wNot, wTrueB, wOrB, wTru, wMethL, getL, appendV, popV, truthW, wStr, wNone, wBool, typeV, isV, wTyp, wFailS, wFailA, wFailB, wFailE, wFalseB, newL, newT, wSlStr, eqV, neV, wMethS, splitV, joinV, wAsgT, tgN, bindAll, tg1, wItVal, wItRev, wItRange, wOrV, wIf, wAttr, getI, startsV, inV, ninV, wItSet, wNeg, wAug, wAsg2, retv, powV, andV, fdivV, modV, sumV, minV, maxV, sortedV, getI, upd_get hx3 hg, upd_get hd3 hg]
  refine ⟨by decide, ?_⟩
  subst hR
  simp only [wSeq, wAsg, w2, w2b, subW, wNm, wInt, opt, updl_eq, bindP_cons, ↓String.reduceEq, ↓reduceIte, reduceCtorEq, i2, c2, ltV, gtV, geV, shrV, wDone, wBrk, wCont, wSet, setW, wIte, wExpr, notRef, wRet, wCall, wCons, wNil, true_and, lenV, mulSV, addV, wAndB, wNot, wTrueB, wOrB, wTru, wMethL, getL, appendV, popV, truthW, wStr, wNone, wBool, typeV, isV, wTyp, wFailS, wFailA, wFailB, wFailE, wFalseB, newL, newT, wSlStr, eqV, neV, wMethS, splitV, joinV, wAsgT, tgN, bindAll, tg1, wItVal, wItRev, wItRange, wOrV, wIf, wAttr, getI, startsV, inV, ninV, wItSet, wNeg, wAug, wAsg2, retv, powV, andV, fdivV, modV, sumV, minV, maxV, sortedV]
  obtain ⟨n1, n2, n3, n4, n5, n6⟩ := strNe
  refine q _ g ?_ ?_ ?_ ?_
  · intro c hcd hc
    have h1 := e1 c hcd hc
    have h2 := hE2 c (by rw [h1]; exact hc)
    have h3 := e3 c hcd (by rw [h2, h1]; exact hc)
    rw [upd_ne _ _ hcd, upd_ne _ _ (fun e => hc (by subst e; rw [← h1, ← h2, ← h3]; exact hg)), h3, h2, h1]
  · exact e2 g (hE2.non (e4 g hg))
  · rw [upd_ne _ _ (Ne.symm hdg), upd_self]; rfl
  · refine ⟨d, 3, _, m, l, ep, t, ?_, upd_self .., ?_, ?_, ?_, ?_, ?_, ?_⟩
    · rw [upd_ne _ _ (neo hx3 hd3 (by simp)), upd_get hx3 hg]
    · simp only [n1, n2, n3, n4, n5, n6, if_true, if_false, f1]
    · simp only [n1, n2, n3, n4, n5, n6, if_true, if_false, f2]
    · simp only [if_true]
    · simp only [n1, n2, n3, n4, n5, n6, if_true, if_false, f3]
    · rw [upd_ne _ _ (neo hm3 hd3 (by simp)), upd_get hm3 hg]
    · rw [upd_ne _ _ (neo hl3 hd3 (by simp)), upd_get hl3 hg]
theorem spec_mk {σ : Sto} {a b : Addr} {mods dirs : List Str} {Q : V → Sto → Prop} (ha : σ a = some (.list (mods.map V.str))) (hb : σ b = some (.list (dirs.map V.str))) (hm : mods = [] ∨ ∃ s, mods = [s]) (hdd : DirsOk dirs)
    (q : ∀ σ' x g, Ext σ σ' → σ x = none → σ g = none → σ' g = some (.ds 1 strInit) → Rdr σ' x g mods dirs → Q (.ref x) σ') : mkT cI T___init__ [.ref a, .ref b] σ Q := by
  intro d x hne hd hx
  have hda := ne_of ha hd
  have hdb := ne_of hb hd
  have hE : Ext σ (upd (upd σ d (.ns 0 fun _ => none)) x (.inst cI d)) := (Ext.new hd _).put hx _
  refine spec_init (d := d) (upd_self ..) (by rw [upd_ne _ _ hne, upd_self]) (hE.get ha) (hE.get hb) hm hdd fun σ' g h1 h2 h3 h4 => ⟨rfl, q σ' x g (fun c hc => ?_) hx (hE.non h2) h3 h4⟩
  rw [h1 c (fun e => hc (by rw [e, hd])) (by rw [hE c hc]; exact hc), hE c hc]
end Mine
end

section
open PySem PySem.W PyProof.Rows PySem.Builtin PySem.Builtin.Str
set_option maxRecDepth 100000
set_option maxHeartbeats 4000000
set_option linter.unusedSimpArgs false
namespace Mine
noncomputable def ansR (mods dirs : List Str) (file s : Str) : Bool := mods.any (· == s) || mods.any (fun m => Txt.startswith s (m ++ Str.ofString ".")) || dirs.any (fun d => Txt.startswith file (d ++ Str.ofString "/"))
theorem vals_set {σ : Sto} {a : Addr} {xs : List Str} {ep : Nat} {t : SetTable} (h : σ a = some (.set xs ep t)) : Src.vals σ (.set a ep t) = some (xs.map V.str) := by simp only [Src.vals, h, and_self, if_true]
theorem spec_names {σ : Sto} {x g : Addr} {mods dirs : List Str} {n : Nat} {f : Str → Option V} {file s : Str} {Q : V → Sto → Prop} (r : Rdr σ x g mods dirs) (hg : σ g = some (.ds n f)) (hn : n ≤ 1000000)
    (hm : ∀ m ∈ mods, m.length ≤ 1000) (hdl : ∀ d ∈ dirs, d.length ≤ 1000)
    (q1 : ∀ v, f s = some v → Q v σ)
    (q2 : f s = none → Q (.int (if ansR mods dirs file s then 1 else 0)) (upd σ g (.ds (n + 1) fun j => if j = s then some (.int (if ansR mods dirs file s then 1 else 0)) else f j))) : T_names [.ref x, .str file, .str s] σ Q := by
  obtain ⟨d, k, F, m, l, ep, t, h1, h2, h3, h4, h5, h6, h7, h8⟩ := r
  refine ⟨rfl, ?_⟩
  unfold W_names
  refine seq_cut fun R hR => ?_
  cases hs : f s with
  | some v =>
    simp only [wSeq, wAsg, w2, w2b, subW, wNm, wInt, opt, updl_eq, bindP_cons, ↓String.reduceEq, ↓reduceIte, reduceCtorEq, i2, c2, ltV, gtV, geV, shrV, wDone, wBrk, wCont, wSet, setW, wIte, wExpr, notRef, wRet, wCall, wCons, wNil, true_and, lenV, mulSV, addV, wAndB, wNot, wTrueB, wOrB, wTru, wMethL, getL, appendV, popV, truthW, wStr, wNone, wBool, typeV, isV, wTyp, wFailS, wFailA, wFailB, wFailE, wFalseB, newL, newT, wSlStr, eqV, neV, wMethS, splitV, joinV, wAsgT, tgN, bindAll, tg1, wItVal, wItRev, wItRange, wOrV, wIf, wAttr, getI, startsV, inV, ninV, wItSet, wNeg, wAug, wAsg2, retv, powV, andV, fdivV, modV, sumV, minV, maxV, sortedV, h1, h2, h5, hg, hs, Option.isSome_some]
    exact q1 v hs
  | none =>
    have q2 := q2 hs
    simp only [wSeq, wAsg, w2, w2b, subW, wNm, wInt, opt, updl_eq, bindP_cons, ↓String.reduceEq, ↓reduceIte, reduceCtorEq, i2, c2, ltV, gtV, geV, shrV, wDone, wBrk, wCont, wSet, setW, wIte, wExpr, notRef, wRet, wCall, wCons, wNil, true_and, lenV, mulSV, addV, wAndB, wNot, wTrueB, wOrB, wTru, wMethL, getL, appendV, popV, truthW, wStr, wNone, wBool, typeV, isV, wTyp, wFailS, wFailA, wFailB, wFailE, wFalseB, newL, newT, wSlStr, eqV, neV, wMethS, splitV, joinV, wAsgT, tgN, bindAll, tg1, wItVal, wItRev, wItRange, wOrV, wIf, wAttr, getI, startsV, inV, ninV, wItSet, wNeg, wAug, wAsg2, retv, powV, andV, fdivV, modV, sumV, minV, maxV, sortedV, h1, h2, h5, hg, hs, Option.isSome_none, Bool.false_eq_true]
    subst hR
    refine seq_cut fun R hR => ?_
    by_cases hA : mods.any (· == s) = true
    · simp only [wSeq, wAsg, w2, w2b, subW, wNm, wInt, opt, updl_eq, bindP_cons, ↓String.reduceEq, ↓reduceIte, reduceCtorEq, i2, c2, ltV, gtV, geV, shrV, wDone, wBrk, wCont, wSet, setW, wIte, wExpr, notRef, wRet, wCall, wCons, wNil, true_and, lenV, mulSV, addV, wAndB, wNot, wTrueB, wOrB, wTru, wMethL, getL, appendV, popV, truthW, wStr, wNone, wBool, typeV, isV, wTyp, wFailS, wFailA, wFailB, wFailE, wFalseB, newL, newT, wSlStr, eqV, neV, wMethS, splitV, joinV, wAsgT, tgN, bindAll, tg1, wItVal, wItRev, wItRange, wOrV, wIf, wAttr, getI, startsV, inV, ninV, wItSet, wNeg, wAug, wAsg2, retv, powV, andV, fdivV, modV, sumV, minV, maxV, sortedV, h1, h2, h3, h5, h7, hA, hg]
      refine ⟨hn, ?_⟩
      rw [show ansR mods dirs file s = true by unfold ansR; rw [hA]; rfl] at q2
      exact q2
    rw [Bool.not_eq_true] at hA
    simp only [wSeq, wAsg, w2, w2b, subW, wNm, wInt, opt, updl_eq, bindP_cons, ↓String.reduceEq, ↓reduceIte, reduceCtorEq, i2, c2, ltV, gtV, geV, shrV, wDone, wBrk, wCont, wSet, setW, wIte, wExpr, notRef, wRet, wCall, wCons, wNil, true_and, lenV, mulSV, addV, wAndB, wNot, wTrueB, wOrB, wTru, wMethL, getL, appendV, popV, truthW, wStr, wNone, wBool, typeV, isV, wTyp, wFailS, wFailA, wFailB, wFailE, wFalseB, newL, newT, wSlStr, eqV, neV, wMethS, splitV, joinV, wAsgT, tgN, bindAll, tg1, wItVal, wItRev, wItRange, wOrV, wIf, wAttr, getI, startsV, inV, ninV, wItSet, wNeg, wAug, wAsg2, retv, powV, andV, fdivV, modV, sumV, minV, maxV, sortedV, h1, h2, h3, h7, hA, Bool.false_eq_true]
    subst hR
    refine seq_cut fun R hR => ?_
    refine for_of (.set m ep t) (mods.map V.str) σ (fun i ρ σ' => σ' = σ ∧ ρ "self" = some (.ref x) ∧ ρ "filename" = some (.str file) ∧ ρ "modulename" = some (.str s) ∧ (mods.take i).any (fun m => Txt.startswith s (m ++ Str.ofString ".")) = false) (fun K k => ?_) ⟨rfl, ?_, ?_, ?_, rfl⟩ ?_ ?_
    · simp only [wSeq, wAsg, w2, w2b, subW, wNm, wInt, opt, updl_eq, bindP_cons, ↓String.reduceEq, ↓reduceIte, reduceCtorEq, i2, c2, ltV, gtV, geV, shrV, wDone, wBrk, wCont, wSet, setW, wIte, wExpr, notRef, wRet, wCall, wCons, wNil, true_and, lenV, mulSV, addV, wAndB, wNot, wTrueB, wOrB, wTru, wMethL, getL, appendV, popV, truthW, wStr, wNone, wBool, typeV, isV, wTyp, wFailS, wFailA, wFailB, wFailE, wFalseB, newL, newT, wSlStr, eqV, neV, wMethS, splitV, joinV, wAsgT, tgN, bindAll, tg1, wItVal, wItRev, wItRange, wOrV, wIf, wAttr, getI, startsV, inV, ninV, wItSet, wNeg, wAug, wAsg2, retv, powV, andV, fdivV, modV, sumV, minV, maxV, sortedV, h1, h2, h3, h7]; exact k
    · simp only [wSeq, wAsg, w2, w2b, subW, wNm, wInt, opt, updl_eq, bindP_cons, ↓String.reduceEq, ↓reduceIte, reduceCtorEq, i2, c2, ltV, gtV, geV, shrV, wDone, wBrk, wCont, wSet, setW, wIte, wExpr, notRef, wRet, wCall, wCons, wNil, true_and, lenV, mulSV, addV, wAndB, wNot, wTrueB, wOrB, wTru, wMethL, getL, appendV, popV, truthW, wStr, wNone, wBool, typeV, isV, wTyp, wFailS, wFailA, wFailB, wFailE, wFalseB, newL, newT, wSlStr, eqV, neV, wMethS, splitV, joinV, wAsgT, tgN, bindAll, tg1, wItVal, wItRev, wItRange, wOrV, wIf, wAttr, getI, startsV, inV, ninV, wItSet, wNeg, wAug, wAsg2, retv, powV, andV, fdivV, modV, sumV, minV, maxV, sortedV]
    · simp only [wSeq, wAsg, w2, w2b, subW, wNm, wInt, opt, updl_eq, bindP_cons, ↓String.reduceEq, ↓reduceIte, reduceCtorEq, i2, c2, ltV, gtV, geV, shrV, wDone, wBrk, wCont, wSet, setW, wIte, wExpr, notRef, wRet, wCall, wCons, wNil, true_and, lenV, mulSV, addV, wAndB, wNot, wTrueB, wOrB, wTru, wMethL, getL, appendV, popV, truthW, wStr, wNone, wBool, typeV, isV, wTyp, wFailS, wFailA, wFailB, wFailE, wFalseB, newL, newT, wSlStr, eqV, neV, wMethS, splitV, joinV, wAsgT, tgN, bindAll, tg1, wItVal, wItRev, wItRange, wOrV, wIf, wAttr, getI, startsV, inV, ninV, wItSet, wNeg, wAug, wAsg2, retv, powV, andV, fdivV, modV, sumV, minV, maxV, sortedV]
    · simp only [wSeq, wAsg, w2, w2b, subW, wNm, wInt, opt, updl_eq, bindP_cons, ↓String.reduceEq, ↓reduceIte, reduceCtorEq, i2, c2, ltV, gtV, geV, shrV, wDone, wBrk, wCont, wSet, setW, wIte, wExpr, notRef, wRet, wCall, wCons, wNil, true_and, lenV, mulSV, addV, wAndB, wNot, wTrueB, wOrB, wTru, wMethL, getL, appendV, popV, truthW, wStr, wNone, wBool, typeV, isV, wTyp, wFailS, wFailA, wFailB, wFailE, wFalseB, newL, newT, wSlStr, eqV, neV, wMethS, splitV, joinV, wAsgT, tgN, bindAll, tg1, wItVal, wItRev, wItRange, wOrV, wIf, wAttr, getI, startsV, inV, ninV, wItSet, wNeg, wAug, wAsg2, retv, powV, andV, fdivV, modV, sumV, minV, maxV, sortedV]
    · rintro i v ρ σ' hv ⟨rfl, g1, g2, g3, g4⟩
      obtain ⟨mo, hmo, rfl⟩ := map_get hv
      have hlen := hm mo (List.mem_of_getElem? hmo)
      refine ⟨vals_set h7, ?_⟩
      have hd1 : (Str.ofString ".").length = 1 := by decide +kernel
      by_cases hB : Txt.startswith s (mo ++ Str.ofString ".") = true
      · simp only [wSeq, wAsg, w2, w2b, subW, wNm, wInt, opt, updl_eq, bindP_cons, ↓String.reduceEq, ↓reduceIte, reduceCtorEq, i2, c2, ltV, gtV, geV, shrV, wDone, wBrk, wCont, wSet, setW, wIte, wExpr, notRef, wRet, wCall, wCons, wNil, true_and, lenV, mulSV, addV, wAndB, wNot, wTrueB, wOrB, wTru, wMethL, getL, appendV, popV, truthW, wStr, wNone, wBool, typeV, isV, wTyp, wFailS, wFailA, wFailB, wFailE, wFalseB, newL, newT, wSlStr, eqV, neV, wMethS, splitV, joinV, wAsgT, tgN, bindAll, tg1, wItVal, wItRev, wItRange, wOrV, wIf, wAttr, getI, startsV, inV, ninV, wItSet, wNeg, wAug, wAsg2, retv, powV, andV, fdivV, modV, sumV, minV, maxV, sortedV, g1, g2, g3, hB, h1, h2, h5, hg]
        refine ⟨by omega, hn, ?_⟩
        have hC : mods.any (fun m => Txt.startswith s (m ++ Str.ofString ".")) = true := List.any_eq_true.mpr ⟨mo, List.mem_of_getElem? hmo, hB⟩
        rw [show ansR mods dirs file s = true by unfold ansR; rw [hC]; simp] at q2
        exact q2
      · rw [Bool.not_eq_true] at hB
        simp only [wSeq, wAsg, w2, w2b, subW, wNm, wInt, opt, updl_eq, bindP_cons, ↓String.reduceEq, ↓reduceIte, reduceCtorEq, i2, c2, ltV, gtV, geV, shrV, wDone, wBrk, wCont, wSet, setW, wIte, wExpr, notRef, wRet, wCall, wCons, wNil, true_and, lenV, mulSV, addV, wAndB, wNot, wTrueB, wOrB, wTru, wMethL, getL, appendV, popV, truthW, wStr, wNone, wBool, typeV, isV, wTyp, wFailS, wFailA, wFailB, wFailE, wFalseB, newL, newT, wSlStr, eqV, neV, wMethS, splitV, joinV, wAsgT, tgN, bindAll, tg1, wItVal, wItRev, wItRange, wOrV, wIf, wAttr, getI, startsV, inV, ninV, wItSet, wNeg, wAug, wAsg2, retv, powV, andV, fdivV, modV, sumV, minV, maxV, sortedV, g1, g2, g3, hB, Bool.false_eq_true]
        refine ⟨by omega, ?_⟩
        rw [take_snoc hmo, List.any_append, g4]
        simp [hB]
    · rintro ρ σ' ⟨rfl, g1, g2, g3, g4⟩
      rw [List.length_map, List.take_length] at g4
      refine ⟨vals_set h7, ?_⟩
      subst hR
      refine seq_cut fun R hR => ?_
      simp only [wSeq, wAsg, w2, w2b, subW, wNm, wInt, opt, updl_eq, bindP_cons, ↓String.reduceEq, ↓reduceIte, reduceCtorEq, i2, c2, ltV, gtV, geV, shrV, wDone, wBrk, wCont, wSet, setW, wIte, wExpr, notRef, wRet, wCall, wCons, wNil, true_and, lenV, mulSV, addV, wAndB, wNot, wTrueB, wOrB, wTru, wMethL, getL, appendV, popV, truthW, wStr, wNone, wBool, typeV, isV, wTyp, wFailS, wFailA, wFailB, wFailE, wFalseB, newL, newT, wSlStr, eqV, neV, wMethS, splitV, joinV, wAsgT, tgN, bindAll, tg1, wItVal, wItRev, wItRange, wOrV, wIf, wAttr, getI, startsV, inV, ninV, wItSet, wNeg, wAug, wAsg2, retv, powV, andV, fdivV, modV, sumV, minV, maxV, sortedV, g2, Bool.false_eq_true]
      subst hR
      refine seq_cut fun R hR => ?_
      refine for_of (.list l) (dirs.map V.str) σ' (fun i ρ σ'' => σ'' = σ' ∧ ρ "self" = some (.ref x) ∧ ρ "filename" = some (.str file) ∧ ρ "modulename" = some (.str s) ∧ (dirs.take i).any (fun d => Txt.startswith file (d ++ Str.ofString "/")) = false) (fun K k => ?_) ⟨rfl, g1, g2, g3, rfl⟩ ?_ ?_
      · simp only [wSeq, wAsg, w2, w2b, subW, wNm, wInt, opt, updl_eq, bindP_cons, ↓String.reduceEq, ↓reduceIte, reduceCtorEq, i2, c2, ltV, gtV, geV, shrV, wDone, wBrk, wCont, wSet, setW, wIte, wExpr, notRef, wRet, wCall, wCons, wNil, true_and, lenV, mulSV, addV, wAndB, wNot, wTrueB, wOrB, wTru, wMethL, getL, appendV, popV, truthW, wStr, wNone, wBool, typeV, isV, wTyp, wFailS, wFailA, wFailB, wFailE, wFalseB, newL, newT, wSlStr, eqV, neV, wMethS, splitV, joinV, wAsgT, tgN, bindAll, tg1, wItVal, wItRev, wItRange, wOrV, wIf, wAttr, getI, startsV, inV, ninV, wItSet, wNeg, wAug, wAsg2, retv, powV, andV, fdivV, modV, sumV, minV, maxV, sortedV, g1, h1, h2, h4, h8]; exact k
      · rintro i v ρ σ'' hv ⟨rfl, j1, j2, j3, j4⟩
        obtain ⟨di, hdi, rfl⟩ := map_get hv
        have hlen := hdl di (List.mem_of_getElem? hdi)
        refine ⟨vals_list h8, ?_⟩
        have hd1 : (Str.ofString "/").length = 1 := by decide +kernel
        by_cases hB : Txt.startswith file (di ++ Str.ofString "/") = true
        · simp only [wSeq, wAsg, w2, w2b, subW, wNm, wInt, opt, updl_eq, bindP_cons, ↓String.reduceEq, ↓reduceIte, reduceCtorEq, i2, c2, ltV, gtV, geV, shrV, wDone, wBrk, wCont, wSet, setW, wIte, wExpr, notRef, wRet, wCall, wCons, wNil, true_and, lenV, mulSV, addV, wAndB, wNot, wTrueB, wOrB, wTru, wMethL, getL, appendV, popV, truthW, wStr, wNone, wBool, typeV, isV, wTyp, wFailS, wFailA, wFailB, wFailE, wFalseB, newL, newT, wSlStr, eqV, neV, wMethS, splitV, joinV, wAsgT, tgN, bindAll, tg1, wItVal, wItRev, wItRange, wOrV, wIf, wAttr, getI, startsV, inV, ninV, wItSet, wNeg, wAug, wAsg2, retv, powV, andV, fdivV, modV, sumV, minV, maxV, sortedV, j1, j2, j3, hB, h1, h2, h5, hg]
          refine ⟨by omega, hn, ?_⟩
          have hC : dirs.any (fun d => Txt.startswith file (d ++ Str.ofString "/")) = true := List.any_eq_true.mpr ⟨di, List.mem_of_getElem? hdi, hB⟩
          rw [show ansR mods dirs file s = true by unfold ansR; rw [hC]; simp] at q2
          exact q2
        · rw [Bool.not_eq_true] at hB
          simp only [wSeq, wAsg, w2, w2b, subW, wNm, wInt, opt, updl_eq, bindP_cons, ↓String.reduceEq, ↓reduceIte, reduceCtorEq, i2, c2, ltV, gtV, geV, shrV, wDone, wBrk, wCont, wSet, setW, wIte, wExpr, notRef, wRet, wCall, wCons, wNil, true_and, lenV, mulSV, addV, wAndB, wNot, wTrueB, wOrB, wTru, wMethL, getL, appendV, popV, truthW, wStr, wNone, wBool, typeV, isV, wTyp, wFailS, wFailA, wFailB, wFailE, wFalseB, newL, newT, wSlStr, eqV, neV, wMethS, splitV, joinV, wAsgT, tgN, bindAll, tg1, wItVal, wItRev, wItRange, wOrV, wIf, wAttr, getI, startsV, inV, ninV, wItSet, wNeg, wAug, wAsg2, retv, powV, andV, fdivV, modV, sumV, minV, maxV, sortedV, j1, j2, j3, hB, Bool.false_eq_true]
          refine ⟨by omega, ?_⟩
          rw [take_snoc hdi, List.any_append, j4]
          simp [hB]
      · rintro ρ σ'' ⟨rfl, j1, j2, j3, j4⟩
        rw [List.length_map, List.take_length] at j4
        refine ⟨vals_list h8, ?_⟩
        subst hR
        simp only [wSeq, wAsg, w2, w2b, subW, wNm, wInt, opt, updl_eq, bindP_cons, ↓String.reduceEq, ↓reduceIte, reduceCtorEq, i2, c2, ltV, gtV, geV, shrV, wDone, wBrk, wCont, wSet, setW, wIte, wExpr, notRef, wRet, wCall, wCons, wNil, true_and, lenV, mulSV, addV, wAndB, wNot, wTrueB, wOrB, wTru, wMethL, getL, appendV, popV, truthW, wStr, wNone, wBool, typeV, isV, wTyp, wFailS, wFailA, wFailB, wFailE, wFalseB, newL, newT, wSlStr, eqV, neV, wMethS, splitV, joinV, wAsgT, tgN, bindAll, tg1, wItVal, wItRev, wItRange, wOrV, wIf, wAttr, getI, startsV, inV, ninV, wItSet, wNeg, wAug, wAsg2, retv, powV, andV, fdivV, modV, sumV, minV, maxV, sortedV, j1, j2, j3, h1, h2, h5, hg]
        refine ⟨hn, ?_⟩
        rw [show ansR mods dirs file s = false by unfold ansR; rw [hA, g4, j4]; rfl] at q2
        exact q2
end Mine
end

section
open PySem PySem.W PyProof.Rows PySem.Builtin PySem.Builtin.Str
set_option maxRecDepth 100000
set_option maxHeartbeats 4000000
set_option linter.unusedSimpArgs false
namespace Mine
theorem dw_drop {es : List Int} {e : Int} {k : Nat} (h : k < es.length) (he : es[k]'h = e) : (es.drop k).dropWhile (· == e) = (es.drop (k + 1)).dropWhile (· == e) := by
  rw [List.drop_eq_getElem_cons h, List.dropWhile_cons, he]
  simp
/-- while L[I] == E: I += 1 -/
theorem skip_of {L I E : String} (hIL : L ≠ I) (hIE : E ≠ I) {ρ : Loc} {σ : Sto} {Q : F → Loc → Sto → Prop} {X : Loc → Sto → Prop} {x : Addr} {es : List Int} {e : Int} {k : Nat} (hL : ρ L = some (.ref x)) (hE : ρ E = some (.int e)) (hI : ρ I = some (.int k))
    (hx : σ x = some (.list (es.map V.int))) (hk : k ≤ es.length) (hn : es.length ≤ 1000)
    (q : ∀ (k' : Nat) (ρ' : Loc), (∀ y, y ≠ I → ρ' y = ρ y) → ρ' I = some (.int k') → k' ≤ es.length → es.drop k' = (es.drop k).dropWhile (· == e) → (k' < es.length → Q .next ρ' σ) ∧ (k' = es.length → X ρ' σ)) :
    wWhileX (w2b eqV (w2x (wNm L) (wNm I)) (wNm E)) (wSeq (wAug I (wInt 1)) wDone) ρ σ Q X := by
  refine ⟨fun ρ' σ' => σ' = σ ∧ ∃ k' : Nat, (∀ y, y ≠ I → ρ' y = ρ y) ∧ ρ' I = some (.int k') ∧ k' ≤ es.length ∧ (es.drop k').dropWhile (· == e) = (es.drop k).dropWhile (· == e), fun ρ _ => (match ρ I with | some (.int p) => es.length + 1 - p.toNat | _ => 0), ⟨rfl, k, fun _ _ => rfl, hI, hk, rfl⟩, ?_⟩
  rintro ρ' σ' ⟨rfl, k', h1, h2, h3, h4⟩
  have hL' : ρ' L = some (.ref x) := by rw [h1 L hIL, hL]
  have hE' : ρ' E = some (.int e) := by rw [h1 E hIE, hE]
  show w2b eqV (w2x (wNm L) (wNm I)) (wNm E) ρ' σ' _ _
  simp only [w2b, w2x, subX, wNm, opt, hL', h2, hx, getL]
  refine ⟨by omega, by omega, by rw [List.length_map]; omega, ?_, ?_⟩
  · intro v hv
    obtain ⟨z, hz, rfl⟩ := map_get hv
    rw [Int.toNat_natCast] at hz
    obtain ⟨hlt, hz⟩ := List.getElem?_eq_some_iff.mp hz
    simp only [wSeq, wAsg, w2, w2b, subW, wNm, wInt, opt, updl_eq, bindP_cons, ↓String.reduceEq, ↓reduceIte, reduceCtorEq, i2, c2, ltV, gtV, geV, shrV, wDone, wBrk, wCont, wSet, setW, wIte, wExpr, notRef, wRet, wCall, wCons, wNil, true_and, lenV, mulSV, addV, wAndB, wNot, wTrueB, wOrB, wTru, wMethL, getL, appendV, popV, truthW, wStr, wNone, wBool, typeV, isV, wTyp, wFailS, wFailA, wFailB, wFailE, wFalseB, newL, newT, wSlStr, eqV, neV, wMethS, splitV, joinV, wAsgT, tgN, bindAll, tg1, wItVal, wItRev, wItRange, wOrV, wIf, wAttr, getI, startsV, inV, ninV, wItSet, wNeg, wAug, wAsg2, retv, powV, andV, fdivV, modV, sumV, minV, maxV, sortedV, hE']
    by_cases hze : z = e
    · subst hze
      rw [if_pos (by simp)]
      simp only [wSeq, wAsg, w2, w2b, subW, wNm, wInt, opt, updl_eq, bindP_cons, ↓String.reduceEq, ↓reduceIte, reduceCtorEq, i2, c2, ltV, gtV, geV, shrV, wDone, wBrk, wCont, wSet, setW, wIte, wExpr, notRef, wRet, wCall, wCons, wNil, true_and, lenV, mulSV, addV, wAndB, wNot, wTrueB, wOrB, wTru, wMethL, getL, appendV, popV, truthW, wStr, wNone, wBool, typeV, isV, wTyp, wFailS, wFailA, wFailB, wFailE, wFalseB, newL, newT, wSlStr, eqV, neV, wMethS, splitV, joinV, wAsgT, tgN, bindAll, tg1, wItVal, wItRev, wItRange, wOrV, wIf, wAttr, getI, startsV, inV, ninV, wItSet, wNeg, wAug, wAsg2, retv, powV, andV, fdivV, modV, sumV, minV, maxV, sortedV, h2]
      refine ⟨⟨k' + 1, fun y hy => by rw [if_neg hy, h1 y hy], ?_, by omega, ?_⟩, ?_⟩
      · push_cast; rfl
      · rw [← h4, dw_drop hlt hz]
      · simp only [Int.toNat_natCast]; omega
    · rw [if_neg (by simpa using hze)]
      refine (q k' ρ' h1 h2 h3 ?_).1 hlt
      rw [← h4, List.drop_eq_getElem_cons hlt, List.dropWhile_cons, hz, if_neg (by simpa using hze)]
  · intro hge
    rw [List.length_map] at hge
    have : k' = es.length := by omega
    refine (q k' ρ' h1 h2 h3 ?_).2 this
    rw [← h4, List.drop_eq_nil_of_le (by omega)]; rfl
theorem ite_T {t : BT} {a b : ST} {ρ : Loc} {σ : Sto} {Q : F → Loc → Sto → Prop} {X : Loc → Sto → Prop} (σ₁ : Sto) (ht : ∀ K : Bool → Sto → Prop, K true σ₁ → t ρ σ K (X ρ)) (h : a ρ σ₁ Q X) : wIte t a b ρ σ Q X := ht _ h
theorem ite_F {t : BT} {a b : ST} {ρ : Loc} {σ : Sto} {Q : F → Loc → Sto → Prop} {X : Loc → Sto → Prop} (σ₁ : Sto) (ht : ∀ K : Bool → Sto → Prop, K false σ₁ → t ρ σ K (X ρ)) (h : b ρ σ₁ Q X) : wIte t a b ρ σ Q X := ht _ h
noncomputable def sldF : Nat → List Int → List Int → List Int → List Int → List Int × List Int
  | 0, es, as, m, u => (m ++ es, u ++ as)
  | _ + 1, [], as, m, u => (m, u ++ as)
  | _ + 1, e :: es, [], m, u => (m ++ e :: es, u)
  | n + 1, e :: es, a :: as, m, u => if e < a then sldF n (es.dropWhile (· == e)) (a :: as) (m ++ [e]) u else if a < e then sldF n (e :: es) (as.dropWhile (· == a)) m (u ++ [a]) else sldF n (es.dropWhile (· == e)) (as.dropWhile (· == a)) m u
theorem sldF_end {n : Nat} {es as m u : List Int} (h : es = [] ∨ as = []) : sldF n es as m u = (m ++ es, u ++ as) := by
  cases n with
  | zero => rfl
  | succ n =>
    cases es with
    | nil => simp [sldF]
    | cons e es =>
      rcases h with h | h
      · cases h
      · subst h; simp [sldF]
structure SInv (σ₀ : Sto) (x y p q : Addr) (es as : List Int) (res : List Int × List Int) (i j : Nat) (m u : List Int) (ρ : Loc) (σ : Sto) : Prop where
  ex : ρ "expected" = some (.ref x)
  ac : ρ "actual" = some (.ref y)
  mi : ρ "missing" = some (.ref p)
  un : ρ "unexpected" = some (.ref q)
  ri : ρ "i" = some (.int i)
  rj : ρ "j" = some (.int j)
  ext : Ext σ₀ σ
  sp : σ p = some (.list (m.map V.int))
  sq : σ q = some (.list (u.map V.int))
  li : i ≤ es.length
  lj : j ≤ as.length
  mo : m.length + (es.length - i) ≤ 1000
  uo : u.length + (as.length - j) ≤ 1000
  eq : ∃ n, (es.drop i).length + (as.drop j).length ≤ n ∧ sldF n (es.drop i) (as.drop j) m u = res
theorem dw_len (es : List Int) (e : Int) : (es.dropWhile (· == e)).length ≤ es.length := (List.dropWhile_sublist _).length_le
noncomputable def sldBody : ST := (wSeq (wAsg "e" (w2x (wNm "expected") (wNm "i"))) (wSeq (wAsg "a" (w2x (wNm "actual") (wNm "j"))) (wSeq (wIte (w2b ltV (wNm "e") (wNm "a")) (wSeq (wExpr (wMethL appendV (wNm "missing") (wCons (wNm "e") (wNil)))) (wSeq (wAug "i" (wInt 1)) (wSeq (wWhileX (w2b eqV (w2x (wNm "expected") (wNm "i")) (wNm "e")) (wSeq (wAug "i" (wInt 1)) (wDone))) (wDone)))) (wSeq (wIte (w2b gtV (wNm "e") (wNm "a")) (wSeq (wExpr (wMethL appendV (wNm "unexpected") (wCons (wNm "a") (wNil)))) (wSeq (wAug "j" (wInt 1)) (wSeq (wWhileX (w2b eqV (w2x (wNm "actual") (wNm "j")) (wNm "a")) (wSeq (wAug "j" (wInt 1)) (wDone))) (wDone)))) (wSeq (wAug "i" (wInt 1)) (wSeq (wFin (wSeq (wWhileX (w2b eqV (w2x (wNm "expected") (wNm "i")) (wNm "e")) (wSeq (wAug "i" (wInt 1)) (wDone))) (wDone)) (wSeq (wAug "j" (wInt 1)) (wSeq (wWhileX (w2b eqV (w2x (wNm "actual") (wNm "j")) (wNm "a")) (wSeq (wAug "j" (wInt 1)) (wDone))) (wDone)))) (wDone)))) (wDone))) (wDone))))
noncomputable def sldHand : ST := (wSeq (wExpr (wMethL extendV (wNm "missing") (wCons (wSlFrom (wNm "expected") (wNm "i")) (wNil)))) (wSeq (wExpr (wMethL extendV (wNm "unexpected") (wCons (wSlFrom (wNm "actual") (wNm "j")) (wNil)))) (wSeq (wBrk) (wDone))))
section
variable {σ₀ : Sto} {x y p q : Addr} {es as : List Int} {res : List Int × List Int} {i j : Nat} {m u : List Int} {ρ : Loc} {σ : Sto}
theorem sld_hand (h : SInv σ₀ x y p q es as res i j m u ρ σ) (hx : σ₀ x = some (.list (es.map V.int))) (hy : σ₀ y = some (.list (as.map V.int))) (hp : σ₀ p = none) (hq : σ₀ q = none) (hpq : p ≠ q) (hen : es.length ≤ 500) (han : as.length ≤ 500)
    (he : es.drop i = [] ∨ as.drop j = []) {Q : F → Loc → Sto → Prop} {X : Loc → Sto → Prop}
    (k : ∀ σ', Ext σ₀ σ' → σ' p = some (.list (res.1.map V.int)) → σ' q = some (.list (res.2.map V.int)) → Q .brk ρ σ') : sldHand ρ σ Q X := by
  obtain ⟨n, hn, hr⟩ := h.eq
  rw [sldF_end he] at hr
  have hmo := h.mo
  have huo := h.uo
  unfold sldHand
  refine seq_cut fun R hR => ?_
  simp only [wSeq, wAsg, w2, w2b, subW, wNm, wInt, opt, updl_eq, bindP_cons, ↓String.reduceEq, ↓reduceIte, reduceCtorEq, i2, c2, ltV, gtV, geV, shrV, wDone, wBrk, wCont, wSet, setW, wIte, wExpr, notRef, wRet, wCall, wCons, wNil, true_and, lenV, mulSV, addV, wAndB, wNot, wTrueB, wOrB, wTru, wMethL, getL, appendV, popV, truthW, wStr, wNone, wBool, typeV, isV, wTyp, wFailS, wFailA, wFailB, wFailE, wFalseB, newL, newT, wSlStr, eqV, neV, wMethS, splitV, joinV, wAsgT, tgN, bindAll, tg1, wItVal, wItRev, wItRange, wOrV, wIf, wAttr, getI, startsV, inV, ninV, wItSet, wNeg, wAug, wAsg2, retv, powV, andV, fdivV, modV, sumV, minV, maxV, sortedV, h.mi, h.sp, wSlFrom, h.ex, h.ext.get hx, h.ri, extendV]
  refine ⟨by omega, by rw [List.length_map]; omega, by simp [lim]; omega, fun a ha => ?_⟩
  have hap : a ≠ p := fun e => by rw [e, h.sp] at ha; cases ha
  have haq : a ≠ q := fun e => by rw [e, h.sq] at ha; cases ha
  simp only [wSeq, wAsg, w2, w2b, subW, wNm, wInt, opt, updl_eq, bindP_cons, ↓String.reduceEq, ↓reduceIte, reduceCtorEq, i2, c2, ltV, gtV, geV, shrV, wDone, wBrk, wCont, wSet, setW, wIte, wExpr, notRef, wRet, wCall, wCons, wNil, true_and, lenV, mulSV, addV, wAndB, wNot, wTrueB, wOrB, wTru, wMethL, getL, appendV, popV, truthW, wStr, wNone, wBool, typeV, isV, wTyp, wFailS, wFailA, wFailB, wFailE, wFalseB, newL, newT, wSlStr, eqV, neV, wMethS, splitV, joinV, wAsgT, tgN, bindAll, tg1, wItVal, wItRev, wItRange, wOrV, wIf, wAttr, getI, startsV, inV, ninV, wItSet, wNeg, wAug, wAsg2, retv, powV, andV, fdivV, modV, sumV, minV, maxV, sortedV, upd_ne _ _ (Ne.symm hap), h.sp, upd_self]
  refine ⟨Ne.symm hap, by simp; omega, ?_⟩
  subst hR
  refine seq_cut fun R hR => ?_
  have e1 : upd (upd σ a (O.list (List.drop (↑i : Int).toNat (List.map V.int es)))) p (O.list (List.map V.int m ++ List.drop (↑i : Int).toNat (List.map V.int es))) q = some (.list (u.map V.int)) := by
    rw [upd_ne _ _ (Ne.symm hpq), upd_ne _ _ (Ne.symm haq), h.sq]
  have hE : Ext σ₀ (upd (upd σ a (O.list (List.drop (↑i : Int).toNat (List.map V.int es)))) p (O.list (List.map V.int m ++ List.drop (↑i : Int).toNat (List.map V.int es)))) := (h.ext.step ha _).put hp _
  simp only [wSeq, wAsg, w2, w2b, subW, wNm, wInt, opt, updl_eq, bindP_cons, ↓String.reduceEq, ↓reduceIte, reduceCtorEq, i2, c2, ltV, gtV, geV, shrV, wDone, wBrk, wCont, wSet, setW, wIte, wExpr, notRef, wRet, wCall, wCons, wNil, true_and, lenV, mulSV, addV, wAndB, wNot, wTrueB, wOrB, wTru, wMethL, getL, appendV, popV, truthW, wStr, wNone, wBool, typeV, isV, wTyp, wFailS, wFailA, wFailB, wFailE, wFalseB, newL, newT, wSlStr, eqV, neV, wMethS, splitV, joinV, wAsgT, tgN, bindAll, tg1, wItVal, wItRev, wItRange, wOrV, wIf, wAttr, getI, startsV, inV, ninV, wItSet, wNeg, wAug, wAsg2, retv, powV, andV, fdivV, modV, sumV, minV, maxV, sortedV, h.un, e1, wSlFrom, h.ac, hE.get hy, h.rj, extendV]
  refine ⟨by omega, by rw [List.length_map]; omega, by simp [lim]; omega, fun b hb => ?_⟩
  have hbp : b ≠ p := fun e => by rw [e, upd_self] at hb; cases hb
  have hbq : b ≠ q := fun e => by rw [e, e1] at hb; cases hb
  simp only [wSeq, wAsg, w2, w2b, subW, wNm, wInt, opt, updl_eq, bindP_cons, ↓String.reduceEq, ↓reduceIte, reduceCtorEq, i2, c2, ltV, gtV, geV, shrV, wDone, wBrk, wCont, wSet, setW, wIte, wExpr, notRef, wRet, wCall, wCons, wNil, true_and, lenV, mulSV, addV, wAndB, wNot, wTrueB, wOrB, wTru, wMethL, getL, appendV, popV, truthW, wStr, wNone, wBool, typeV, isV, wTyp, wFailS, wFailA, wFailB, wFailE, wFalseB, newL, newT, wSlStr, eqV, neV, wMethS, splitV, joinV, wAsgT, tgN, bindAll, tg1, wItVal, wItRev, wItRange, wOrV, wIf, wAttr, getI, startsV, inV, ninV, wItSet, wNeg, wAug, wAsg2, retv, powV, andV, fdivV, modV, sumV, minV, maxV, sortedV, upd_ne _ _ (Ne.symm hbq), e1, upd_self]
  refine ⟨Ne.symm hbq, by simp; omega, ?_⟩
  subst hR
  simp only [wSeq, wAsg, w2, w2b, subW, wNm, wInt, opt, updl_eq, bindP_cons, ↓String.reduceEq, ↓reduceIte, reduceCtorEq, i2, c2, ltV, gtV, geV, shrV, wDone, wBrk, wCont, wSet, setW, wIte, wExpr, notRef, wRet, wCall, wCons, wNil, true_and, lenV, mulSV, addV, wAndB, wNot, wTrueB, wOrB, wTru, wMethL, getL, appendV, popV, truthW, wStr, wNone, wBool, typeV, isV, wTyp, wFailS, wFailA, wFailB, wFailE, wFalseB, newL, newT, wSlStr, eqV, neV, wMethS, splitV, joinV, wAsgT, tgN, bindAll, tg1, wItVal, wItRev, wItRange, wOrV, wIf, wAttr, getI, startsV, inV, ninV, wItSet, wNeg, wAug, wAsg2, retv, powV, andV, fdivV, modV, sumV, minV, maxV, sortedV]
  refine k _ (((hE.step hb _).put hq _)) ?_ ?_
  · rw [upd_ne _ _ hpq, upd_ne _ _ (Ne.symm hbp), upd_self, ← hr, Int.toNat_natCast]; simp
  · rw [upd_self, ← hr, Int.toNat_natCast]; simp
theorem sld_body (h : SInv σ₀ x y p q es as res i j m u ρ σ) (hx : σ₀ x = some (.list (es.map V.int))) (hy : σ₀ y = some (.list (as.map V.int))) (hp : σ₀ p = none) (hq : σ₀ q = none) (hpq : p ≠ q) (hen : es.length ≤ 500) (han : as.length ≤ 500)
    {Q : F → Loc → Sto → Prop} {X : Loc → Sto → Prop} (kn : ∀ i' j' m' u' ρ' σ', SInv σ₀ x y p q es as res i' j' m' u' ρ' σ' → i + j < i' + j' → Q .next ρ' σ')
    (kx : ∀ i' j' m' u' ρ' σ', SInv σ₀ x y p q es as res i' j' m' u' ρ' σ' → (es.drop i' = [] ∨ as.drop j' = []) → X ρ' σ') : sldBody ρ σ Q X := by
  obtain ⟨n, hn, hr⟩ := h.eq
  have hmo := h.mo
  have huo := h.uo
  have hli := h.li
  have hlj := h.lj
  have hx' := h.ext.get hx
  have hy' := h.ext.get hy
  unfold sldBody
  refine seq_cut fun R hR => ?_
  simp only [wSeq, wAsg, w2, w2b, subW, wNm, wInt, opt, updl_eq, bindP_cons, ↓String.reduceEq, ↓reduceIte, reduceCtorEq, i2, c2, ltV, gtV, geV, shrV, wDone, wBrk, wCont, wSet, setW, wIte, wExpr, notRef, wRet, wCall, wCons, wNil, true_and, lenV, mulSV, addV, wAndB, wNot, wTrueB, wOrB, wTru, wMethL, getL, appendV, popV, truthW, wStr, wNone, wBool, typeV, isV, wTyp, wFailS, wFailA, wFailB, wFailE, wFalseB, newL, newT, wSlStr, eqV, neV, wMethS, splitV, joinV, wAsgT, tgN, bindAll, tg1, wItVal, wItRev, wItRange, wOrV, wIf, wAttr, getI, startsV, inV, ninV, wItSet, wNeg, wAug, wAsg2, retv, powV, andV, fdivV, modV, sumV, minV, maxV, sortedV, w2x, subX, h.ex, h.ri, hx']
  refine ⟨by omega, by omega, by rw [List.length_map]; omega, fun v hv => ?_, fun hge => ?_⟩
  rotate_left
  · rw [List.length_map] at hge
    exact kx i j m u _ _ ⟨h.ex, h.ac, h.mi, h.un, h.ri, h.rj, h.ext, h.sp, h.sq, h.li, h.lj, h.mo, h.uo, h.eq⟩ (.inl (List.drop_eq_nil_of_le (by omega)))
  obtain ⟨e, he, rfl⟩ := map_get hv
  rw [Int.toNat_natCast] at he
  obtain ⟨hi, he⟩ := List.getElem?_eq_some_iff.mp he
  subst hR
  refine seq_cut fun R hR => ?_
  simp only [wSeq, wAsg, w2, w2b, subW, wNm, wInt, opt, updl_eq, bindP_cons, ↓String.reduceEq, ↓reduceIte, reduceCtorEq, i2, c2, ltV, gtV, geV, shrV, wDone, wBrk, wCont, wSet, setW, wIte, wExpr, notRef, wRet, wCall, wCons, wNil, true_and, lenV, mulSV, addV, wAndB, wNot, wTrueB, wOrB, wTru, wMethL, getL, appendV, popV, truthW, wStr, wNone, wBool, typeV, isV, wTyp, wFailS, wFailA, wFailB, wFailE, wFalseB, newL, newT, wSlStr, eqV, neV, wMethS, splitV, joinV, wAsgT, tgN, bindAll, tg1, wItVal, wItRev, wItRange, wOrV, wIf, wAttr, getI, startsV, inV, ninV, wItSet, wNeg, wAug, wAsg2, retv, powV, andV, fdivV, modV, sumV, minV, maxV, sortedV, w2x, subX, h.ac, h.rj, hy']
  refine ⟨by omega, by omega, by rw [List.length_map]; omega, fun v hv => ?_, fun hge => ?_⟩
  rotate_left
  · rw [List.length_map] at hge
    refine kx i j m u _ _ ⟨?_, ?_, ?_, ?_, ?_, ?_, h.ext, h.sp, h.sq, h.li, h.lj, h.mo, h.uo, h.eq⟩ (.inr (List.drop_eq_nil_of_le (by omega)))
    · simp only [wSeq, wAsg, w2, w2b, subW, wNm, wInt, opt, updl_eq, bindP_cons, ↓String.reduceEq, ↓reduceIte, reduceCtorEq, i2, c2, ltV, gtV, geV, shrV, wDone, wBrk, wCont, wSet, setW, wIte, wExpr, notRef, wRet, wCall, wCons, wNil, true_and, lenV, mulSV, addV, wAndB, wNot, wTrueB, wOrB, wTru, wMethL, getL, appendV, popV, truthW, wStr, wNone, wBool, typeV, isV, wTyp, wFailS, wFailA, wFailB, wFailE, wFalseB, newL, newT, wSlStr, eqV, neV, wMethS, splitV, joinV, wAsgT, tgN, bindAll, tg1, wItVal, wItRev, wItRange, wOrV, wIf, wAttr, getI, startsV, inV, ninV, wItSet, wNeg, wAug, wAsg2, retv, powV, andV, fdivV, modV, sumV, minV, maxV, sortedV, h.ex]
    · simp only [wSeq, wAsg, w2, w2b, subW, wNm, wInt, opt, updl_eq, bindP_cons, ↓String.reduceEq, ↓reduceIte, reduceCtorEq, i2, c2, ltV, gtV, geV, shrV, wDone, wBrk, wCont, wSet, setW, wIte, wExpr, notRef, wRet, wCall, wCons, wNil, true_and, lenV, mulSV, addV, wAndB, wNot, wTrueB, wOrB, wTru, wMethL, getL, appendV, popV, truthW, wStr, wNone, wBool, typeV, isV, wTyp, wFailS, wFailA, wFailB, wFailE, wFalseB, newL, newT, wSlStr, eqV, neV, wMethS, splitV, joinV, wAsgT, tgN, bindAll, tg1, wItVal, wItRev, wItRange, wOrV, wIf, wAttr, getI, startsV, inV, ninV, wItSet, wNeg, wAug, wAsg2, retv, powV, andV, fdivV, modV, sumV, minV, maxV, sortedV, h.ac]
    · simp only [wSeq, wAsg, w2, w2b, subW, wNm, wInt, opt, updl_eq, bindP_cons, ↓String.reduceEq, ↓reduceIte, reduceCtorEq, i2, c2, ltV, gtV, geV, shrV, wDone, wBrk, wCont, wSet, setW, wIte, wExpr, notRef, wRet, wCall, wCons, wNil, true_and, lenV, mulSV, addV, wAndB, wNot, wTrueB, wOrB, wTru, wMethL, getL, appendV, popV, truthW, wStr, wNone, wBool, typeV, isV, wTyp, wFailS, wFailA, wFailB, wFailE, wFalseB, newL, newT, wSlStr, eqV, neV, wMethS, splitV, joinV, wAsgT, tgN, bindAll, tg1, wItVal, wItRev, wItRange, wOrV, wIf, wAttr, getI, startsV, inV, ninV, wItSet, wNeg, wAug, wAsg2, retv, powV, andV, fdivV, modV, sumV, minV, maxV, sortedV, h.mi]
    · simp only [wSeq, wAsg, w2, w2b, subW, wNm, wInt, opt, updl_eq, bindP_cons, ↓String.reduceEq, ↓reduceIte, reduceCtorEq, i2, c2, ltV, gtV, geV, shrV, wDone, wBrk, wCont, wSet, setW, wIte, wExpr, notRef, wRet, wCall, wCons, wNil, true_and, lenV, mulSV, addV, wAndB, wNot, wTrueB, wOrB, wTru, wMethL, getL, appendV, popV, truthW, wStr, wNone, wBool, typeV, isV, wTyp, wFailS, wFailA, wFailB, wFailE, wFalseB, newL, newT, wSlStr, eqV, neV, wMethS, splitV, joinV, wAsgT, tgN, bindAll, tg1, wItVal, wItRev, wItRange, wOrV, wIf, wAttr, getI, startsV, inV, ninV, wItSet, wNeg, wAug, wAsg2, retv, powV, andV, fdivV, modV, sumV, minV, maxV, sortedV, h.un]
    · simp only [wSeq, wAsg, w2, w2b, subW, wNm, wInt, opt, updl_eq, bindP_cons, ↓String.reduceEq, ↓reduceIte, reduceCtorEq, i2, c2, ltV, gtV, geV, shrV, wDone, wBrk, wCont, wSet, setW, wIte, wExpr, notRef, wRet, wCall, wCons, wNil, true_and, lenV, mulSV, addV, wAndB, wNot, wTrueB, wOrB, wTru, wMethL, getL, appendV, popV, truthW, wStr, wNone, wBool, typeV, isV, wTyp, wFailS, wFailA, wFailB, wFailE, wFalseB, newL, newT, wSlStr, eqV, neV, wMethS, splitV, joinV, wAsgT, tgN, bindAll, tg1, wItVal, wItRev, wItRange, wOrV, wIf, wAttr, getI, startsV, inV, ninV, wItSet, wNeg, wAug, wAsg2, retv, powV, andV, fdivV, modV, sumV, minV, maxV, sortedV, h.ri]
    · simp only [wSeq, wAsg, w2, w2b, subW, wNm, wInt, opt, updl_eq, bindP_cons, ↓String.reduceEq, ↓reduceIte, reduceCtorEq, i2, c2, ltV, gtV, geV, shrV, wDone, wBrk, wCont, wSet, setW, wIte, wExpr, notRef, wRet, wCall, wCons, wNil, true_and, lenV, mulSV, addV, wAndB, wNot, wTrueB, wOrB, wTru, wMethL, getL, appendV, popV, truthW, wStr, wNone, wBool, typeV, isV, wTyp, wFailS, wFailA, wFailB, wFailE, wFalseB, newL, newT, wSlStr, eqV, neV, wMethS, splitV, joinV, wAsgT, tgN, bindAll, tg1, wItVal, wItRev, wItRange, wOrV, wIf, wAttr, getI, startsV, inV, ninV, wItSet, wNeg, wAug, wAsg2, retv, powV, andV, fdivV, modV, sumV, minV, maxV, sortedV, h.rj]
  obtain ⟨a, ha, rfl⟩ := map_get hv
  rw [Int.toNat_natCast] at ha
  obtain ⟨hj, ha⟩ := List.getElem?_eq_some_iff.mp ha
  subst hR
  rw [List.drop_eq_getElem_cons hi, List.drop_eq_getElem_cons hj, he, ha] at hr hn
  simp only [List.length_cons] at hn
  obtain ⟨n, rfl⟩ : ∃ k, n = k + 1 := ⟨n - 1, by omega⟩
  have d1 := dw_len (es.drop (i + 1)) e
  have d2 := dw_len (as.drop (j + 1)) a
  have l1 : (es.drop (i + 1)).length = es.length - (i + 1) := List.length_drop
  have l2 : (as.drop (j + 1)).length = as.length - (j + 1) := List.length_drop
  generalize hρ : updl (updl ρ "e" (V.int e)) "a" (V.int a) = ρ₁
  have r0 : ∀ z, z ≠ "e" → z ≠ "a" → ρ₁ z = ρ z := fun z h1 h2 => by rw [← hρ, updl_eq, if_neg h2, updl_eq, if_neg h1]
  have re : ρ₁ "e" = some (.int e) := by rw [← hρ]; simp only [wSeq, wAsg, w2, w2b, subW, wNm, wInt, opt, updl_eq, bindP_cons, ↓String.reduceEq, ↓reduceIte, reduceCtorEq, i2, c2, ltV, gtV, geV, shrV, wDone, wBrk, wCont, wSet, setW, wIte, wExpr, notRef, wRet, wCall, wCons, wNil, true_and, lenV, mulSV, addV, wAndB, wNot, wTrueB, wOrB, wTru, wMethL, getL, appendV, popV, truthW, wStr, wNone, wBool, typeV, isV, wTyp, wFailS, wFailA, wFailB, wFailE, wFalseB, newL, newT, wSlStr, eqV, neV, wMethS, splitV, joinV, wAsgT, tgN, bindAll, tg1, wItVal, wItRev, wItRange, wOrV, wIf, wAttr, getI, startsV, inV, ninV, wItSet, wNeg, wAug, wAsg2, retv, powV, andV, fdivV, modV, sumV, minV, maxV, sortedV]
  have ra : ρ₁ "a" = some (.int a) := by rw [← hρ]; simp only [wSeq, wAsg, w2, w2b, subW, wNm, wInt, opt, updl_eq, bindP_cons, ↓String.reduceEq, ↓reduceIte, reduceCtorEq, i2, c2, ltV, gtV, geV, shrV, wDone, wBrk, wCont, wSet, setW, wIte, wExpr, notRef, wRet, wCall, wCons, wNil, true_and, lenV, mulSV, addV, wAndB, wNot, wTrueB, wOrB, wTru, wMethL, getL, appendV, popV, truthW, wStr, wNone, wBool, typeV, isV, wTyp, wFailS, wFailA, wFailB, wFailE, wFalseB, newL, newT, wSlStr, eqV, neV, wMethS, splitV, joinV, wAsgT, tgN, bindAll, tg1, wItVal, wItRev, wItRange, wOrV, wIf, wAttr, getI, startsV, inV, ninV, wItSet, wNeg, wAug, wAsg2, retv, powV, andV, fdivV, modV, sumV, minV, maxV, sortedV]
  have rex : ρ₁ "expected" = some (.ref x) := by rw [r0 _ (by decide) (by decide), h.ex]
  have rac : ρ₁ "actual" = some (.ref y) := by rw [r0 _ (by decide) (by decide), h.ac]
  have rmi : ρ₁ "missing" = some (.ref p) := by rw [r0 _ (by decide) (by decide), h.mi]
  have run : ρ₁ "unexpected" = some (.ref q) := by rw [r0 _ (by decide) (by decide), h.un]
  have ri : ρ₁ "i" = some (.int i) := by rw [r0 _ (by decide) (by decide), h.ri]
  have rj : ρ₁ "j" = some (.int j) := by rw [r0 _ (by decide) (by decide), h.rj]
  clear hρ r0 hv
  refine seq_cut fun R hR => ?_
  have hsp := h.sp
  have hsq := h.sq
  by_cases c1 : e < a
  · rw [sldF, if_pos c1] at hr
    refine ite_T σ (fun K k => by simp only [wSeq, wAsg, w2, w2b, subW, wNm, wInt, opt, updl_eq, bindP_cons, ↓String.reduceEq, ↓reduceIte, reduceCtorEq, i2, c2, ltV, gtV, geV, shrV, wDone, wBrk, wCont, wSet, setW, wIte, wExpr, notRef, wRet, wCall, wCons, wNil, true_and, lenV, mulSV, addV, wAndB, wNot, wTrueB, wOrB, wTru, wMethL, getL, appendV, popV, truthW, wStr, wNone, wBool, typeV, isV, wTyp, wFailS, wFailA, wFailB, wFailE, wFalseB, newL, newT, wSlStr, eqV, neV, wMethS, splitV, joinV, wAsgT, tgN, bindAll, tg1, wItVal, wItRev, wItRange, wOrV, wIf, wAttr, getI, startsV, inV, ninV, wItSet, wNeg, wAug, wAsg2, retv, powV, andV, fdivV, modV, sumV, minV, maxV, sortedV, re, ra, c1, decide_true]; exact k) ?_
    refine seq_cut fun R2 hR2 => ?_
    simp only [wSeq, wAsg, w2, w2b, subW, wNm, wInt, opt, updl_eq, bindP_cons, ↓String.reduceEq, ↓reduceIte, reduceCtorEq, i2, c2, ltV, gtV, geV, shrV, wDone, wBrk, wCont, wSet, setW, wIte, wExpr, notRef, wRet, wCall, wCons, wNil, true_and, lenV, mulSV, addV, wAndB, wNot, wTrueB, wOrB, wTru, wMethL, getL, appendV, popV, truthW, wStr, wNone, wBool, typeV, isV, wTyp, wFailS, wFailA, wFailB, wFailE, wFalseB, newL, newT, wSlStr, eqV, neV, wMethS, splitV, joinV, wAsgT, tgN, bindAll, tg1, wItVal, wItRev, wItRange, wOrV, wIf, wAttr, getI, startsV, inV, ninV, wItSet, wNeg, wAug, wAsg2, retv, powV, andV, fdivV, modV, sumV, minV, maxV, sortedV, rmi, hsp, re]
    refine ⟨by rw [List.length_map]; omega, ?_⟩
    subst hR2
    refine seq_cut fun R2 hR2 => ?_
    simp only [wSeq, wAsg, w2, w2b, subW, wNm, wInt, opt, updl_eq, bindP_cons, ↓String.reduceEq, ↓reduceIte, reduceCtorEq, i2, c2, ltV, gtV, geV, shrV, wDone, wBrk, wCont, wSet, setW, wIte, wExpr, notRef, wRet, wCall, wCons, wNil, true_and, lenV, mulSV, addV, wAndB, wNot, wTrueB, wOrB, wTru, wMethL, getL, appendV, popV, truthW, wStr, wNone, wBool, typeV, isV, wTyp, wFailS, wFailA, wFailB, wFailE, wFalseB, newL, newT, wSlStr, eqV, neV, wMethS, splitV, joinV, wAsgT, tgN, bindAll, tg1, wItVal, wItRev, wItRange, wOrV, wIf, wAttr, getI, startsV, inV, ninV, wItSet, wNeg, wAug, wAsg2, retv, powV, andV, fdivV, modV, sumV, minV, maxV, sortedV, ri]
    subst hR2
    refine seq_cut fun R2 hR2 => ?_
    have hE := h.ext.put hp (O.list (List.map V.int m ++ [V.int e]))
    refine skip_of (k := i + 1) (by decide) (by decide) (x := x) (es := es) (e := e) (by simp only [wSeq, wAsg, w2, w2b, subW, wNm, wInt, opt, updl_eq, bindP_cons, ↓String.reduceEq, ↓reduceIte, reduceCtorEq, i2, c2, ltV, gtV, geV, shrV, wDone, wBrk, wCont, wSet, setW, wIte, wExpr, notRef, wRet, wCall, wCons, wNil, true_and, lenV, mulSV, addV, wAndB, wNot, wTrueB, wOrB, wTru, wMethL, getL, appendV, popV, truthW, wStr, wNone, wBool, typeV, isV, wTyp, wFailS, wFailA, wFailB, wFailE, wFalseB, newL, newT, wSlStr, eqV, neV, wMethS, splitV, joinV, wAsgT, tgN, bindAll, tg1, wItVal, wItRev, wItRange, wOrV, wIf, wAttr, getI, startsV, inV, ninV, wItSet, wNeg, wAug, wAsg2, retv, powV, andV, fdivV, modV, sumV, minV, maxV, sortedV, rex]) (by simp only [wSeq, wAsg, w2, w2b, subW, wNm, wInt, opt, updl_eq, bindP_cons, ↓String.reduceEq, ↓reduceIte, reduceCtorEq, i2, c2, ltV, gtV, geV, shrV, wDone, wBrk, wCont, wSet, setW, wIte, wExpr, notRef, wRet, wCall, wCons, wNil, true_and, lenV, mulSV, addV, wAndB, wNot, wTrueB, wOrB, wTru, wMethL, getL, appendV, popV, truthW, wStr, wNone, wBool, typeV, isV, wTyp, wFailS, wFailA, wFailB, wFailE, wFalseB, newL, newT, wSlStr, eqV, neV, wMethS, splitV, joinV, wAsgT, tgN, bindAll, tg1, wItVal, wItRev, wItRange, wOrV, wIf, wAttr, getI, startsV, inV, ninV, wItSet, wNeg, wAug, wAsg2, retv, powV, andV, fdivV, modV, sumV, minV, maxV, sortedV, re]) (by simp only [wSeq, wAsg, w2, w2b, subW, wNm, wInt, opt, updl_eq, bindP_cons, ↓String.reduceEq, ↓reduceIte, reduceCtorEq, i2, c2, ltV, gtV, geV, shrV, wDone, wBrk, wCont, wSet, setW, wIte, wExpr, notRef, wRet, wCall, wCons, wNil, true_and, lenV, mulSV, addV, wAndB, wNot, wTrueB, wOrB, wTru, wMethL, getL, appendV, popV, truthW, wStr, wNone, wBool, typeV, isV, wTyp, wFailS, wFailA, wFailB, wFailE, wFalseB, newL, newT, wSlStr, eqV, neV, wMethS, splitV, joinV, wAsgT, tgN, bindAll, tg1, wItVal, wItRev, wItRange, wOrV, wIf, wAttr, getI, startsV, inV, ninV, wItSet, wNeg, wAug, wAsg2, retv, powV, andV, fdivV, modV, sumV, minV, maxV, sortedV]; push_cast; rfl) (hE.get hx) (by omega) (by omega) fun k' ρ' g1 g2 g3 g4 => ?_
    have S : SInv σ₀ x y p q es as res k' j (m ++ [e]) u ρ' (upd σ p (O.list (List.map V.int m ++ [V.int e]))) := by
      have g5 : k' ≥ i + 1 := by
        have := congrArg List.length g4
        rw [List.length_drop] at this; omega
      refine ⟨?_, ?_, ?_, ?_, g2, ?_, hE, ?_, ?_, g3, h.lj, by simp; omega, h.uo, n, ?_, ?_⟩
      · rw [g1 _ (by decide)]; simp only [wSeq, wAsg, w2, w2b, subW, wNm, wInt, opt, updl_eq, bindP_cons, ↓String.reduceEq, ↓reduceIte, reduceCtorEq, i2, c2, ltV, gtV, geV, shrV, wDone, wBrk, wCont, wSet, setW, wIte, wExpr, notRef, wRet, wCall, wCons, wNil, true_and, lenV, mulSV, addV, wAndB, wNot, wTrueB, wOrB, wTru, wMethL, getL, appendV, popV, truthW, wStr, wNone, wBool, typeV, isV, wTyp, wFailS, wFailA, wFailB, wFailE, wFalseB, newL, newT, wSlStr, eqV, neV, wMethS, splitV, joinV, wAsgT, tgN, bindAll, tg1, wItVal, wItRev, wItRange, wOrV, wIf, wAttr, getI, startsV, inV, ninV, wItSet, wNeg, wAug, wAsg2, retv, powV, andV, fdivV, modV, sumV, minV, maxV, sortedV, rex]
      · rw [g1 _ (by decide)]; simp only [wSeq, wAsg, w2, w2b, subW, wNm, wInt, opt, updl_eq, bindP_cons, ↓String.reduceEq, ↓reduceIte, reduceCtorEq, i2, c2, ltV, gtV, geV, shrV, wDone, wBrk, wCont, wSet, setW, wIte, wExpr, notRef, wRet, wCall, wCons, wNil, true_and, lenV, mulSV, addV, wAndB, wNot, wTrueB, wOrB, wTru, wMethL, getL, appendV, popV, truthW, wStr, wNone, wBool, typeV, isV, wTyp, wFailS, wFailA, wFailB, wFailE, wFalseB, newL, newT, wSlStr, eqV, neV, wMethS, splitV, joinV, wAsgT, tgN, bindAll, tg1, wItVal, wItRev, wItRange, wOrV, wIf, wAttr, getI, startsV, inV, ninV, wItSet, wNeg, wAug, wAsg2, retv, powV, andV, fdivV, modV, sumV, minV, maxV, sortedV, rac]
      · rw [g1 _ (by decide)]; simp only [wSeq, wAsg, w2, w2b, subW, wNm, wInt, opt, updl_eq, bindP_cons, ↓String.reduceEq, ↓reduceIte, reduceCtorEq, i2, c2, ltV, gtV, geV, shrV, wDone, wBrk, wCont, wSet, setW, wIte, wExpr, notRef, wRet, wCall, wCons, wNil, true_and, lenV, mulSV, addV, wAndB, wNot, wTrueB, wOrB, wTru, wMethL, getL, appendV, popV, truthW, wStr, wNone, wBool, typeV, isV, wTyp, wFailS, wFailA, wFailB, wFailE, wFalseB, newL, newT, wSlStr, eqV, neV, wMethS, splitV, joinV, wAsgT, tgN, bindAll, tg1, wItVal, wItRev, wItRange, wOrV, wIf, wAttr, getI, startsV, inV, ninV, wItSet, wNeg, wAug, wAsg2, retv, powV, andV, fdivV, modV, sumV, minV, maxV, sortedV, rmi]
      · rw [g1 _ (by decide)]; simp only [wSeq, wAsg, w2, w2b, subW, wNm, wInt, opt, updl_eq, bindP_cons, ↓String.reduceEq, ↓reduceIte, reduceCtorEq, i2, c2, ltV, gtV, geV, shrV, wDone, wBrk, wCont, wSet, setW, wIte, wExpr, notRef, wRet, wCall, wCons, wNil, true_and, lenV, mulSV, addV, wAndB, wNot, wTrueB, wOrB, wTru, wMethL, getL, appendV, popV, truthW, wStr, wNone, wBool, typeV, isV, wTyp, wFailS, wFailA, wFailB, wFailE, wFalseB, newL, newT, wSlStr, eqV, neV, wMethS, splitV, joinV, wAsgT, tgN, bindAll, tg1, wItVal, wItRev, wItRange, wOrV, wIf, wAttr, getI, startsV, inV, ninV, wItSet, wNeg, wAug, wAsg2, retv, powV, andV, fdivV, modV, sumV, minV, maxV, sortedV, run]
      · rw [g1 _ (by decide)]; simp only [wSeq, wAsg, w2, w2b, subW, wNm, wInt, opt, updl_eq, bindP_cons, ↓String.reduceEq, ↓reduceIte, reduceCtorEq, i2, c2, ltV, gtV, geV, shrV, wDone, wBrk, wCont, wSet, setW, wIte, wExpr, notRef, wRet, wCall, wCons, wNil, true_and, lenV, mulSV, addV, wAndB, wNot, wTrueB, wOrB, wTru, wMethL, getL, appendV, popV, truthW, wStr, wNone, wBool, typeV, isV, wTyp, wFailS, wFailA, wFailB, wFailE, wFalseB, newL, newT, wSlStr, eqV, neV, wMethS, splitV, joinV, wAsgT, tgN, bindAll, tg1, wItVal, wItRev, wItRange, wOrV, wIf, wAttr, getI, startsV, inV, ninV, wItSet, wNeg, wAug, wAsg2, retv, powV, andV, fdivV, modV, sumV, minV, maxV, sortedV, rj]
      · rw [upd_self]; simp
      · rw [upd_ne _ _ (Ne.symm hpq), hsq]
      · rw [List.length_drop, List.length_drop]; omega
      · rw [g4, List.drop_eq_getElem_cons hj, ha]; exact hr
    have g5 : k' ≥ i + 1 := by
      have := congrArg List.length g4
      rw [List.length_drop] at this; omega
    refine ⟨fun _ => ?_, fun e => kx _ _ _ _ _ _ S (.inl (List.drop_eq_nil_of_le (by omega)))⟩
    subst hR2 hR
    simp only [wSeq, wAsg, w2, w2b, subW, wNm, wInt, opt, updl_eq, bindP_cons, ↓String.reduceEq, ↓reduceIte, reduceCtorEq, i2, c2, ltV, gtV, geV, shrV, wDone, wBrk, wCont, wSet, setW, wIte, wExpr, notRef, wRet, wCall, wCons, wNil, true_and, lenV, mulSV, addV, wAndB, wNot, wTrueB, wOrB, wTru, wMethL, getL, appendV, popV, truthW, wStr, wNone, wBool, typeV, isV, wTyp, wFailS, wFailA, wFailB, wFailE, wFalseB, newL, newT, wSlStr, eqV, neV, wMethS, splitV, joinV, wAsgT, tgN, bindAll, tg1, wItVal, wItRev, wItRange, wOrV, wIf, wAttr, getI, startsV, inV, ninV, wItSet, wNeg, wAug, wAsg2, retv, powV, andV, fdivV, modV, sumV, minV, maxV, sortedV]
    exact kn _ _ _ _ _ _ S (by omega)
  by_cases cc2 : a < e
  · rw [sldF, if_neg c1, if_pos cc2] at hr
    refine ite_F σ (fun K k => by simp only [wSeq, wAsg, w2, w2b, subW, wNm, wInt, opt, updl_eq, bindP_cons, ↓String.reduceEq, ↓reduceIte, reduceCtorEq, i2, c2, ltV, gtV, geV, shrV, wDone, wBrk, wCont, wSet, setW, wIte, wExpr, notRef, wRet, wCall, wCons, wNil, true_and, lenV, mulSV, addV, wAndB, wNot, wTrueB, wOrB, wTru, wMethL, getL, appendV, popV, truthW, wStr, wNone, wBool, typeV, isV, wTyp, wFailS, wFailA, wFailB, wFailE, wFalseB, newL, newT, wSlStr, eqV, neV, wMethS, splitV, joinV, wAsgT, tgN, bindAll, tg1, wItVal, wItRev, wItRange, wOrV, wIf, wAttr, getI, startsV, inV, ninV, wItSet, wNeg, wAug, wAsg2, retv, powV, andV, fdivV, modV, sumV, minV, maxV, sortedV, re, ra, c1, decide_false]; exact k) ?_
    refine seq_cut fun R1 hR1 => ?_
    refine ite_T σ (fun K k => by simp only [wSeq, wAsg, w2, w2b, subW, wNm, wInt, opt, updl_eq, bindP_cons, ↓String.reduceEq, ↓reduceIte, reduceCtorEq, i2, c2, ltV, gtV, geV, shrV, wDone, wBrk, wCont, wSet, setW, wIte, wExpr, notRef, wRet, wCall, wCons, wNil, true_and, lenV, mulSV, addV, wAndB, wNot, wTrueB, wOrB, wTru, wMethL, getL, appendV, popV, truthW, wStr, wNone, wBool, typeV, isV, wTyp, wFailS, wFailA, wFailB, wFailE, wFalseB, newL, newT, wSlStr, eqV, neV, wMethS, splitV, joinV, wAsgT, tgN, bindAll, tg1, wItVal, wItRev, wItRange, wOrV, wIf, wAttr, getI, startsV, inV, ninV, wItSet, wNeg, wAug, wAsg2, retv, powV, andV, fdivV, modV, sumV, minV, maxV, sortedV, re, ra, cc2, decide_true]; exact k) ?_
    refine seq_cut fun R2 hR2 => ?_
    simp only [wSeq, wAsg, w2, w2b, subW, wNm, wInt, opt, updl_eq, bindP_cons, ↓String.reduceEq, ↓reduceIte, reduceCtorEq, i2, c2, ltV, gtV, geV, shrV, wDone, wBrk, wCont, wSet, setW, wIte, wExpr, notRef, wRet, wCall, wCons, wNil, true_and, lenV, mulSV, addV, wAndB, wNot, wTrueB, wOrB, wTru, wMethL, getL, appendV, popV, truthW, wStr, wNone, wBool, typeV, isV, wTyp, wFailS, wFailA, wFailB, wFailE, wFalseB, newL, newT, wSlStr, eqV, neV, wMethS, splitV, joinV, wAsgT, tgN, bindAll, tg1, wItVal, wItRev, wItRange, wOrV, wIf, wAttr, getI, startsV, inV, ninV, wItSet, wNeg, wAug, wAsg2, retv, powV, andV, fdivV, modV, sumV, minV, maxV, sortedV, run, hsq, ra]
    refine ⟨by rw [List.length_map]; omega, ?_⟩
    subst hR2
    refine seq_cut fun R2 hR2 => ?_
    simp only [wSeq, wAsg, w2, w2b, subW, wNm, wInt, opt, updl_eq, bindP_cons, ↓String.reduceEq, ↓reduceIte, reduceCtorEq, i2, c2, ltV, gtV, geV, shrV, wDone, wBrk, wCont, wSet, setW, wIte, wExpr, notRef, wRet, wCall, wCons, wNil, true_and, lenV, mulSV, addV, wAndB, wNot, wTrueB, wOrB, wTru, wMethL, getL, appendV, popV, truthW, wStr, wNone, wBool, typeV, isV, wTyp, wFailS, wFailA, wFailB, wFailE, wFalseB, newL, newT, wSlStr, eqV, neV, wMethS, splitV, joinV, wAsgT, tgN, bindAll, tg1, wItVal, wItRev, wItRange, wOrV, wIf, wAttr, getI, startsV, inV, ninV, wItSet, wNeg, wAug, wAsg2, retv, powV, andV, fdivV, modV, sumV, minV, maxV, sortedV, rj]
    subst hR2
    refine seq_cut fun R2 hR2 => ?_
    have hE := h.ext.put hq (O.list (List.map V.int u ++ [V.int a]))
    refine skip_of (k := j + 1) (by decide) (by decide) (x := y) (es := as) (e := a) (by simp only [wSeq, wAsg, w2, w2b, subW, wNm, wInt, opt, updl_eq, bindP_cons, ↓String.reduceEq, ↓reduceIte, reduceCtorEq, i2, c2, ltV, gtV, geV, shrV, wDone, wBrk, wCont, wSet, setW, wIte, wExpr, notRef, wRet, wCall, wCons, wNil, true_and, lenV, mulSV, addV, wAndB, wNot, wTrueB, wOrB, wTru, wMethL, getL, appendV, popV, truthW, wStr, wNone, wBool, typeV, isV, wTyp, wFailS, wFailA, wFailB, wFailE, wFalseB, newL, newT, wSlStr, eqV, neV, wMethS, splitV, joinV, wAsgT, tgN, bindAll, tg1, wItVal, wItRev, wItRange, wOrV, wIf, wAttr, getI, startsV, inV, ninV, wItSet, wNeg, wAug, wAsg2, retv, powV, andV, fdivV, modV, sumV, minV, maxV, sortedV, rac]) (by simp only [wSeq, wAsg, w2, w2b, subW, wNm, wInt, opt, updl_eq, bindP_cons, ↓String.reduceEq, ↓reduceIte, reduceCtorEq, i2, c2, ltV, gtV, geV, shrV, wDone, wBrk, wCont, wSet, setW, wIte, wExpr, notRef, wRet, wCall, wCons, wNil, true_and, lenV, mulSV, addV, wAndB, wNot, wTrueB, wOrB, wTru, wMethL, getL, appendV, popV, truthW, wStr, wNone, wBool, typeV, isV, wTyp, wFailS, wFailA, wFailB, wFailE, wFalseB, newL, newT, wSlStr, eqV, neV, wMethS, splitV, joinV, wAsgT, tgN, bindAll, tg1, wItVal, wItRev, wItRange, wOrV, wIf, wAttr, getI, startsV, inV, ninV, wItSet, wNeg, wAug, wAsg2, retv, powV, andV, fdivV, modV, sumV, minV, maxV, sortedV, ra]) (by simp only [wSeq, wAsg, w2, w2b, subW, wNm, wInt, opt, updl_eq, bindP_cons, ↓String.reduceEq, ↓reduceIte, reduceCtorEq, i2, c2, ltV, gtV, geV, shrV, wDone, wBrk, wCont, wSet, setW, wIte, wExpr, notRef, wRet, wCall, wCons, wNil, true_and, lenV, mulSV, addV, wAndB, wNot, wTrueB, wOrB, wTru, wMethL, getL, appendV, popV, truthW, wStr, wNone, wBool, typeV, isV, wTyp, wFailS, wFailA, wFailB, wFailE, wFalseB, newL, newT, wSlStr, eqV, neV, wMethS, splitV, joinV, wAsgT, tgN, bindAll, tg1, wItVal, wItRev, wItRange, wOrV, wIf, wAttr, getI, startsV, inV, ninV, wItSet, wNeg, wAug, wAsg2, retv, powV, andV, fdivV, modV, sumV, minV, maxV, sortedV]; push_cast; rfl) (hE.get hy) (by omega) (by omega) fun k' ρ' g1 g2 g3 g4 => ?_
    have g5 : k' ≥ j + 1 := by
      have := congrArg List.length g4
      rw [List.length_drop] at this; omega
    have S : SInv σ₀ x y p q es as res i k' m (u ++ [a]) ρ' (upd σ q (O.list (List.map V.int u ++ [V.int a]))) := by
      refine ⟨?_, ?_, ?_, ?_, ?_, g2, hE, ?_, ?_, h.li, g3, h.mo, by simp; omega, n, ?_, ?_⟩
      · rw [g1 _ (by decide)]; simp only [wSeq, wAsg, w2, w2b, subW, wNm, wInt, opt, updl_eq, bindP_cons, ↓String.reduceEq, ↓reduceIte, reduceCtorEq, i2, c2, ltV, gtV, geV, shrV, wDone, wBrk, wCont, wSet, setW, wIte, wExpr, notRef, wRet, wCall, wCons, wNil, true_and, lenV, mulSV, addV, wAndB, wNot, wTrueB, wOrB, wTru, wMethL, getL, appendV, popV, truthW, wStr, wNone, wBool, typeV, isV, wTyp, wFailS, wFailA, wFailB, wFailE, wFalseB, newL, newT, wSlStr, eqV, neV, wMethS, splitV, joinV, wAsgT, tgN, bindAll, tg1, wItVal, wItRev, wItRange, wOrV, wIf, wAttr, getI, startsV, inV, ninV, wItSet, wNeg, wAug, wAsg2, retv, powV, andV, fdivV, modV, sumV, minV, maxV, sortedV, rex]
      · rw [g1 _ (by decide)]; simp only [wSeq, wAsg, w2, w2b, subW, wNm, wInt, opt, updl_eq, bindP_cons, ↓String.reduceEq, ↓reduceIte, reduceCtorEq, i2, c2, ltV, gtV, geV, shrV, wDone, wBrk, wCont, wSet, setW, wIte, wExpr, notRef, wRet, wCall, wCons, wNil, true_and, lenV, mulSV, addV, wAndB, wNot, wTrueB, wOrB, wTru, wMethL, getL, appendV, popV, truthW, wStr, wNone, wBool, typeV, isV, wTyp, wFailS, wFailA, wFailB, wFailE, wFalseB, newL, newT, wSlStr, eqV, neV, wMethS, splitV, joinV, wAsgT, tgN, bindAll, tg1, wItVal, wItRev, wItRange, wOrV, wIf, wAttr, getI, startsV, inV, ninV, wItSet, wNeg, wAug, wAsg2, retv, powV, andV, fdivV, modV, sumV, minV, maxV, sortedV, rac]
      · rw [g1 _ (by decide)]; simp only [wSeq, wAsg, w2, w2b, subW, wNm, wInt, opt, updl_eq, bindP_cons, ↓String.reduceEq, ↓reduceIte, reduceCtorEq, i2, c2, ltV, gtV, geV, shrV, wDone, wBrk, wCont, wSet, setW, wIte, wExpr, notRef, wRet, wCall, wCons, wNil, true_and, lenV, mulSV, addV, wAndB, wNot, wTrueB, wOrB, wTru, wMethL, getL, appendV, popV, truthW, wStr, wNone, wBool, typeV, isV, wTyp, wFailS, wFailA, wFailB, wFailE, wFalseB, newL, newT, wSlStr, eqV, neV, wMethS, splitV, joinV, wAsgT, tgN, bindAll, tg1, wItVal, wItRev, wItRange, wOrV, wIf, wAttr, getI, startsV, inV, ninV, wItSet, wNeg, wAug, wAsg2, retv, powV, andV, fdivV, modV, sumV, minV, maxV, sortedV, rmi]
      · rw [g1 _ (by decide)]; simp only [wSeq, wAsg, w2, w2b, subW, wNm, wInt, opt, updl_eq, bindP_cons, ↓String.reduceEq, ↓reduceIte, reduceCtorEq, i2, c2, ltV, gtV, geV, shrV, wDone, wBrk, wCont, wSet, setW, wIte, wExpr, notRef, wRet, wCall, wCons, wNil, true_and, lenV, mulSV, addV, wAndB, wNot, wTrueB, wOrB, wTru, wMethL, getL, appendV, popV, truthW, wStr, wNone, wBool, typeV, isV, wTyp, wFailS, wFailA, wFailB, wFailE, wFalseB, newL, newT, wSlStr, eqV, neV, wMethS, splitV, joinV, wAsgT, tgN, bindAll, tg1, wItVal, wItRev, wItRange, wOrV, wIf, wAttr, getI, startsV, inV, ninV, wItSet, wNeg, wAug, wAsg2, retv, powV, andV, fdivV, modV, sumV, minV, maxV, sortedV, run]
      · rw [g1 _ (by decide)]; simp only [wSeq, wAsg, w2, w2b, subW, wNm, wInt, opt, updl_eq, bindP_cons, ↓String.reduceEq, ↓reduceIte, reduceCtorEq, i2, c2, ltV, gtV, geV, shrV, wDone, wBrk, wCont, wSet, setW, wIte, wExpr, notRef, wRet, wCall, wCons, wNil, true_and, lenV, mulSV, addV, wAndB, wNot, wTrueB, wOrB, wTru, wMethL, getL, appendV, popV, truthW, wStr, wNone, wBool, typeV, isV, wTyp, wFailS, wFailA, wFailB, wFailE, wFalseB, newL, newT, wSlStr, eqV, neV, wMethS, splitV, joinV, wAsgT, tgN, bindAll, tg1, wItVal, wItRev, wItRange, wOrV, wIf, wAttr, getI, startsV, inV, ninV, wItSet, wNeg, wAug, wAsg2, retv, powV, andV, fdivV, modV, sumV, minV, maxV, sortedV, ri]
      · rw [upd_ne _ _ hpq, hsp]
      · rw [upd_self]; simp
      · rw [List.length_drop, List.length_drop]; omega
      · rw [g4, List.drop_eq_getElem_cons hi, he]; exact hr
    refine ⟨fun _ => ?_, fun e => kx _ _ _ _ _ _ S (.inr (List.drop_eq_nil_of_le (by omega)))⟩
    subst hR2 hR1 hR
    simp only [wSeq, wAsg, w2, w2b, subW, wNm, wInt, opt, updl_eq, bindP_cons, ↓String.reduceEq, ↓reduceIte, reduceCtorEq, i2, c2, ltV, gtV, geV, shrV, wDone, wBrk, wCont, wSet, setW, wIte, wExpr, notRef, wRet, wCall, wCons, wNil, true_and, lenV, mulSV, addV, wAndB, wNot, wTrueB, wOrB, wTru, wMethL, getL, appendV, popV, truthW, wStr, wNone, wBool, typeV, isV, wTyp, wFailS, wFailA, wFailB, wFailE, wFalseB, newL, newT, wSlStr, eqV, neV, wMethS, splitV, joinV, wAsgT, tgN, bindAll, tg1, wItVal, wItRev, wItRange, wOrV, wIf, wAttr, getI, startsV, inV, ninV, wItSet, wNeg, wAug, wAsg2, retv, powV, andV, fdivV, modV, sumV, minV, maxV, sortedV]
    exact kn _ _ _ _ _ _ S (by omega)
  · rw [sldF, if_neg c1, if_neg cc2] at hr
    refine ite_F σ (fun K k => by simp only [wSeq, wAsg, w2, w2b, subW, wNm, wInt, opt, updl_eq, bindP_cons, ↓String.reduceEq, ↓reduceIte, reduceCtorEq, i2, c2, ltV, gtV, geV, shrV, wDone, wBrk, wCont, wSet, setW, wIte, wExpr, notRef, wRet, wCall, wCons, wNil, true_and, lenV, mulSV, addV, wAndB, wNot, wTrueB, wOrB, wTru, wMethL, getL, appendV, popV, truthW, wStr, wNone, wBool, typeV, isV, wTyp, wFailS, wFailA, wFailB, wFailE, wFalseB, newL, newT, wSlStr, eqV, neV, wMethS, splitV, joinV, wAsgT, tgN, bindAll, tg1, wItVal, wItRev, wItRange, wOrV, wIf, wAttr, getI, startsV, inV, ninV, wItSet, wNeg, wAug, wAsg2, retv, powV, andV, fdivV, modV, sumV, minV, maxV, sortedV, re, ra, c1, decide_false]; exact k) ?_
    refine seq_cut fun R1 hR1 => ?_
    refine ite_F σ (fun K k => by simp only [wSeq, wAsg, w2, w2b, subW, wNm, wInt, opt, updl_eq, bindP_cons, ↓String.reduceEq, ↓reduceIte, reduceCtorEq, i2, c2, ltV, gtV, geV, shrV, wDone, wBrk, wCont, wSet, setW, wIte, wExpr, notRef, wRet, wCall, wCons, wNil, true_and, lenV, mulSV, addV, wAndB, wNot, wTrueB, wOrB, wTru, wMethL, getL, appendV, popV, truthW, wStr, wNone, wBool, typeV, isV, wTyp, wFailS, wFailA, wFailB, wFailE, wFalseB, newL, newT, wSlStr, eqV, neV, wMethS, splitV, joinV, wAsgT, tgN, bindAll, tg1, wItVal, wItRev, wItRange, wOrV, wIf, wAttr, getI, startsV, inV, ninV, wItSet, wNeg, wAug, wAsg2, retv, powV, andV, fdivV, modV, sumV, minV, maxV, sortedV, re, ra, cc2, decide_false]; exact k) ?_
    refine seq_cut fun R2 hR2 => ?_
    simp only [wSeq, wAsg, w2, w2b, subW, wNm, wInt, opt, updl_eq, bindP_cons, ↓String.reduceEq, ↓reduceIte, reduceCtorEq, i2, c2, ltV, gtV, geV, shrV, wDone, wBrk, wCont, wSet, setW, wIte, wExpr, notRef, wRet, wCall, wCons, wNil, true_and, lenV, mulSV, addV, wAndB, wNot, wTrueB, wOrB, wTru, wMethL, getL, appendV, popV, truthW, wStr, wNone, wBool, typeV, isV, wTyp, wFailS, wFailA, wFailB, wFailE, wFalseB, newL, newT, wSlStr, eqV, neV, wMethS, splitV, joinV, wAsgT, tgN, bindAll, tg1, wItVal, wItRev, wItRange, wOrV, wIf, wAttr, getI, startsV, inV, ninV, wItSet, wNeg, wAug, wAsg2, retv, powV, andV, fdivV, modV, sumV, minV, maxV, sortedV, ri]
    subst hR2
    refine seq_cut fun R2 hR2 => ?_
    unfold wFin
    -- the finally part, from any state whose i is k'
    have fin : ∀ (k' : Nat) (ρ' : Loc) (Q' : F → Loc → Sto → Prop) (X' : Loc → Sto → Prop), (∀ z, z ≠ "i" → ρ' z = ρ₁ z) → ρ' "i" = some (.int k') → k' ≤ es.length → es.drop k' = (es.drop (i + 1)).dropWhile (· == e) →
        (∀ j' ρ'', SInv σ₀ x y p q es as res k' j' m u ρ'' σ → i + j < k' + j' → (j' < as.length → Q' .next ρ'' σ) ∧ (j' = as.length → X' ρ'' σ)) →
        (wSeq (wAug "j" (wInt 1)) (wSeq (wWhileX (w2b eqV (w2x (wNm "actual") (wNm "j")) (wNm "a")) (wSeq (wAug "j" (wInt 1)) wDone)) wDone)) ρ' σ Q' X' := by
      intro k' ρ' Q' X' g1 g2 g3 g4 kk
      have g5 : k' ≥ i + 1 := by
        have := congrArg List.length g4
        rw [List.length_drop] at this; omega
      refine seq_cut fun R3 hR3 => ?_
      have rj' : ρ' "j" = some (.int j) := by rw [g1 _ (by decide), rj]
      simp only [wSeq, wAsg, w2, w2b, subW, wNm, wInt, opt, updl_eq, bindP_cons, ↓String.reduceEq, ↓reduceIte, reduceCtorEq, i2, c2, ltV, gtV, geV, shrV, wDone, wBrk, wCont, wSet, setW, wIte, wExpr, notRef, wRet, wCall, wCons, wNil, true_and, lenV, mulSV, addV, wAndB, wNot, wTrueB, wOrB, wTru, wMethL, getL, appendV, popV, truthW, wStr, wNone, wBool, typeV, isV, wTyp, wFailS, wFailA, wFailB, wFailE, wFalseB, newL, newT, wSlStr, eqV, neV, wMethS, splitV, joinV, wAsgT, tgN, bindAll, tg1, wItVal, wItRev, wItRange, wOrV, wIf, wAttr, getI, startsV, inV, ninV, wItSet, wNeg, wAug, wAsg2, retv, powV, andV, fdivV, modV, sumV, minV, maxV, sortedV, rj']
      subst hR3
      refine seq_cut fun R3 hR3 => ?_
      refine skip_of (k := j + 1) (by decide) (by decide) (x := y) (es := as) (e := a) (by simp only [wSeq, wAsg, w2, w2b, subW, wNm, wInt, opt, updl_eq, bindP_cons, ↓String.reduceEq, ↓reduceIte, reduceCtorEq, i2, c2, ltV, gtV, geV, shrV, wDone, wBrk, wCont, wSet, setW, wIte, wExpr, notRef, wRet, wCall, wCons, wNil, true_and, lenV, mulSV, addV, wAndB, wNot, wTrueB, wOrB, wTru, wMethL, getL, appendV, popV, truthW, wStr, wNone, wBool, typeV, isV, wTyp, wFailS, wFailA, wFailB, wFailE, wFalseB, newL, newT, wSlStr, eqV, neV, wMethS, splitV, joinV, wAsgT, tgN, bindAll, tg1, wItVal, wItRev, wItRange, wOrV, wIf, wAttr, getI, startsV, inV, ninV, wItSet, wNeg, wAug, wAsg2, retv, powV, andV, fdivV, modV, sumV, minV, maxV, sortedV, g1 "actual" (by decide), rac]) (by simp only [wSeq, wAsg, w2, w2b, subW, wNm, wInt, opt, updl_eq, bindP_cons, ↓String.reduceEq, ↓reduceIte, reduceCtorEq, i2, c2, ltV, gtV, geV, shrV, wDone, wBrk, wCont, wSet, setW, wIte, wExpr, notRef, wRet, wCall, wCons, wNil, true_and, lenV, mulSV, addV, wAndB, wNot, wTrueB, wOrB, wTru, wMethL, getL, appendV, popV, truthW, wStr, wNone, wBool, typeV, isV, wTyp, wFailS, wFailA, wFailB, wFailE, wFalseB, newL, newT, wSlStr, eqV, neV, wMethS, splitV, joinV, wAsgT, tgN, bindAll, tg1, wItVal, wItRev, wItRange, wOrV, wIf, wAttr, getI, startsV, inV, ninV, wItSet, wNeg, wAug, wAsg2, retv, powV, andV, fdivV, modV, sumV, minV, maxV, sortedV, g1 "a" (by decide), ra]) (by simp only [wSeq, wAsg, w2, w2b, subW, wNm, wInt, opt, updl_eq, bindP_cons, ↓String.reduceEq, ↓reduceIte, reduceCtorEq, i2, c2, ltV, gtV, geV, shrV, wDone, wBrk, wCont, wSet, setW, wIte, wExpr, notRef, wRet, wCall, wCons, wNil, true_and, lenV, mulSV, addV, wAndB, wNot, wTrueB, wOrB, wTru, wMethL, getL, appendV, popV, truthW, wStr, wNone, wBool, typeV, isV, wTyp, wFailS, wFailA, wFailB, wFailE, wFalseB, newL, newT, wSlStr, eqV, neV, wMethS, splitV, joinV, wAsgT, tgN, bindAll, tg1, wItVal, wItRev, wItRange, wOrV, wIf, wAttr, getI, startsV, inV, ninV, wItSet, wNeg, wAug, wAsg2, retv, powV, andV, fdivV, modV, sumV, minV, maxV, sortedV]; push_cast; rfl) hy' (by omega) (by omega) fun j' ρ'' f1 f2 f3 f4 => ?_
      have f5 : j' ≥ j + 1 := by
        have := congrArg List.length f4
        rw [List.length_drop] at this; omega
      have S : SInv σ₀ x y p q es as res k' j' m u ρ'' σ := by
        refine ⟨?_, ?_, ?_, ?_, ?_, f2, h.ext, hsp, hsq, g3, f3, by omega, by omega, n, ?_, ?_⟩
        · rw [f1 _ (by decide)]; simp only [wSeq, wAsg, w2, w2b, subW, wNm, wInt, opt, updl_eq, bindP_cons, ↓String.reduceEq, ↓reduceIte, reduceCtorEq, i2, c2, ltV, gtV, geV, shrV, wDone, wBrk, wCont, wSet, setW, wIte, wExpr, notRef, wRet, wCall, wCons, wNil, true_and, lenV, mulSV, addV, wAndB, wNot, wTrueB, wOrB, wTru, wMethL, getL, appendV, popV, truthW, wStr, wNone, wBool, typeV, isV, wTyp, wFailS, wFailA, wFailB, wFailE, wFalseB, newL, newT, wSlStr, eqV, neV, wMethS, splitV, joinV, wAsgT, tgN, bindAll, tg1, wItVal, wItRev, wItRange, wOrV, wIf, wAttr, getI, startsV, inV, ninV, wItSet, wNeg, wAug, wAsg2, retv, powV, andV, fdivV, modV, sumV, minV, maxV, sortedV, g1 "expected" (by decide), rex]
        · rw [f1 _ (by decide)]; simp only [wSeq, wAsg, w2, w2b, subW, wNm, wInt, opt, updl_eq, bindP_cons, ↓String.reduceEq, ↓reduceIte, reduceCtorEq, i2, c2, ltV, gtV, geV, shrV, wDone, wBrk, wCont, wSet, setW, wIte, wExpr, notRef, wRet, wCall, wCons, wNil, true_and, lenV, mulSV, addV, wAndB, wNot, wTrueB, wOrB, wTru, wMethL, getL, appendV, popV, truthW, wStr, wNone, wBool, typeV, isV, wTyp, wFailS, wFailA, wFailB, wFailE, wFalseB, newL, newT, wSlStr, eqV, neV, wMethS, splitV, joinV, wAsgT, tgN, bindAll, tg1, wItVal, wItRev, wItRange, wOrV, wIf, wAttr, getI, startsV, inV, ninV, wItSet, wNeg, wAug, wAsg2, retv, powV, andV, fdivV, modV, sumV, minV, maxV, sortedV, g1 "actual" (by decide), rac]
        · rw [f1 _ (by decide)]; simp only [wSeq, wAsg, w2, w2b, subW, wNm, wInt, opt, updl_eq, bindP_cons, ↓String.reduceEq, ↓reduceIte, reduceCtorEq, i2, c2, ltV, gtV, geV, shrV, wDone, wBrk, wCont, wSet, setW, wIte, wExpr, notRef, wRet, wCall, wCons, wNil, true_and, lenV, mulSV, addV, wAndB, wNot, wTrueB, wOrB, wTru, wMethL, getL, appendV, popV, truthW, wStr, wNone, wBool, typeV, isV, wTyp, wFailS, wFailA, wFailB, wFailE, wFalseB, newL, newT, wSlStr, eqV, neV, wMethS, splitV, joinV, wAsgT, tgN, bindAll, tg1, wItVal, wItRev, wItRange, wOrV, wIf, wAttr, getI, startsV, inV, ninV, wItSet, wNeg, wAug, wAsg2, retv, powV, andV, fdivV, modV, sumV, minV, maxV, sortedV, g1 "missing" (by decide), rmi]
        · rw [f1 _ (by decide)]; simp only [wSeq, wAsg, w2, w2b, subW, wNm, wInt, opt, updl_eq, bindP_cons, ↓String.reduceEq, ↓reduceIte, reduceCtorEq, i2, c2, ltV, gtV, geV, shrV, wDone, wBrk, wCont, wSet, setW, wIte, wExpr, notRef, wRet, wCall, wCons, wNil, true_and, lenV, mulSV, addV, wAndB, wNot, wTrueB, wOrB, wTru, wMethL, getL, appendV, popV, truthW, wStr, wNone, wBool, typeV, isV, wTyp, wFailS, wFailA, wFailB, wFailE, wFalseB, newL, newT, wSlStr, eqV, neV, wMethS, splitV, joinV, wAsgT, tgN, bindAll, tg1, wItVal, wItRev, wItRange, wOrV, wIf, wAttr, getI, startsV, inV, ninV, wItSet, wNeg, wAug, wAsg2, retv, powV, andV, fdivV, modV, sumV, minV, maxV, sortedV, g1 "unexpected" (by decide), run]
        · rw [f1 _ (by decide)]; simp only [wSeq, wAsg, w2, w2b, subW, wNm, wInt, opt, updl_eq, bindP_cons, ↓String.reduceEq, ↓reduceIte, reduceCtorEq, i2, c2, ltV, gtV, geV, shrV, wDone, wBrk, wCont, wSet, setW, wIte, wExpr, notRef, wRet, wCall, wCons, wNil, true_and, lenV, mulSV, addV, wAndB, wNot, wTrueB, wOrB, wTru, wMethL, getL, appendV, popV, truthW, wStr, wNone, wBool, typeV, isV, wTyp, wFailS, wFailA, wFailB, wFailE, wFalseB, newL, newT, wSlStr, eqV, neV, wMethS, splitV, joinV, wAsgT, tgN, bindAll, tg1, wItVal, wItRev, wItRange, wOrV, wIf, wAttr, getI, startsV, inV, ninV, wItSet, wNeg, wAug, wAsg2, retv, powV, andV, fdivV, modV, sumV, minV, maxV, sortedV, g2]
        · rw [List.length_drop, List.length_drop]; omega
        · rw [g4, f4]; exact hr
      obtain ⟨k1, k2⟩ := kk j' ρ'' S (by omega)
      refine ⟨fun hlt => ?_, k2⟩
      subst hR3
      simp only [wSeq, wAsg, w2, w2b, subW, wNm, wInt, opt, updl_eq, bindP_cons, ↓String.reduceEq, ↓reduceIte, reduceCtorEq, i2, c2, ltV, gtV, geV, shrV, wDone, wBrk, wCont, wSet, setW, wIte, wExpr, notRef, wRet, wCall, wCons, wNil, true_and, lenV, mulSV, addV, wAndB, wNot, wTrueB, wOrB, wTru, wMethL, getL, appendV, popV, truthW, wStr, wNone, wBool, typeV, isV, wTyp, wFailS, wFailA, wFailB, wFailE, wFalseB, newL, newT, wSlStr, eqV, neV, wMethS, splitV, joinV, wAsgT, tgN, bindAll, tg1, wItVal, wItRev, wItRange, wOrV, wIf, wAttr, getI, startsV, inV, ninV, wItSet, wNeg, wAug, wAsg2, retv, powV, andV, fdivV, modV, sumV, minV, maxV, sortedV]
      exact k1 hlt
    refine seq_cut fun R3 hR3 => ?_
    refine skip_of (k := i + 1) (by decide) (by decide) (x := x) (es := es) (e := e) (by simp only [wSeq, wAsg, w2, w2b, subW, wNm, wInt, opt, updl_eq, bindP_cons, ↓String.reduceEq, ↓reduceIte, reduceCtorEq, i2, c2, ltV, gtV, geV, shrV, wDone, wBrk, wCont, wSet, setW, wIte, wExpr, notRef, wRet, wCall, wCons, wNil, true_and, lenV, mulSV, addV, wAndB, wNot, wTrueB, wOrB, wTru, wMethL, getL, appendV, popV, truthW, wStr, wNone, wBool, typeV, isV, wTyp, wFailS, wFailA, wFailB, wFailE, wFalseB, newL, newT, wSlStr, eqV, neV, wMethS, splitV, joinV, wAsgT, tgN, bindAll, tg1, wItVal, wItRev, wItRange, wOrV, wIf, wAttr, getI, startsV, inV, ninV, wItSet, wNeg, wAug, wAsg2, retv, powV, andV, fdivV, modV, sumV, minV, maxV, sortedV, rex]) (by simp only [wSeq, wAsg, w2, w2b, subW, wNm, wInt, opt, updl_eq, bindP_cons, ↓String.reduceEq, ↓reduceIte, reduceCtorEq, i2, c2, ltV, gtV, geV, shrV, wDone, wBrk, wCont, wSet, setW, wIte, wExpr, notRef, wRet, wCall, wCons, wNil, true_and, lenV, mulSV, addV, wAndB, wNot, wTrueB, wOrB, wTru, wMethL, getL, appendV, popV, truthW, wStr, wNone, wBool, typeV, isV, wTyp, wFailS, wFailA, wFailB, wFailE, wFalseB, newL, newT, wSlStr, eqV, neV, wMethS, splitV, joinV, wAsgT, tgN, bindAll, tg1, wItVal, wItRev, wItRange, wOrV, wIf, wAttr, getI, startsV, inV, ninV, wItSet, wNeg, wAug, wAsg2, retv, powV, andV, fdivV, modV, sumV, minV, maxV, sortedV, re]) (by simp only [wSeq, wAsg, w2, w2b, subW, wNm, wInt, opt, updl_eq, bindP_cons, ↓String.reduceEq, ↓reduceIte, reduceCtorEq, i2, c2, ltV, gtV, geV, shrV, wDone, wBrk, wCont, wSet, setW, wIte, wExpr, notRef, wRet, wCall, wCons, wNil, true_and, lenV, mulSV, addV, wAndB, wNot, wTrueB, wOrB, wTru, wMethL, getL, appendV, popV, truthW, wStr, wNone, wBool, typeV, isV, wTyp, wFailS, wFailA, wFailB, wFailE, wFalseB, newL, newT, wSlStr, eqV, neV, wMethS, splitV, joinV, wAsgT, tgN, bindAll, tg1, wItVal, wItRev, wItRange, wOrV, wIf, wAttr, getI, startsV, inV, ninV, wItSet, wNeg, wAug, wAsg2, retv, powV, andV, fdivV, modV, sumV, minV, maxV, sortedV]; push_cast; rfl) hx' (by omega) (by omega) fun k' ρ' g1 g2 g3 g4 => ?_
    have g1' : ∀ z, z ≠ "i" → ρ' z = ρ₁ z := fun z hz => by rw [g1 z hz, updl_eq, if_neg hz]
    refine ⟨fun hlt => ?_, fun heq => ?_⟩
    · subst hR3
      refine fin k' ρ' _ _ g1' g2 g3 g4 fun j' ρ'' S hm => ⟨fun hlt => ?_, fun e => kx _ _ _ _ _ _ S (.inr (List.drop_eq_nil_of_le (by omega)))⟩
      subst hR2 hR1 hR
      exact kn _ _ _ _ _ _ S hm
    · refine fin k' ρ' _ _ g1' g2 g3 g4 fun j' ρ'' S hm => ⟨fun _ => ?_, fun _ => ?_⟩
      · exact kx _ _ _ _ _ _ S (.inl (List.drop_eq_nil_of_le (by omega)))
      · exact kx _ _ _ _ _ _ S (.inl (List.drop_eq_nil_of_le (by omega)))
end
theorem spec_sld {σ : Sto} {x y : Addr} {es as : List Int} {Q : V → Sto → Prop} (hx : σ x = some (.list (es.map V.int))) (hy : σ y = some (.list (as.map V.int))) (hen : es.length ≤ 500) (han : as.length ≤ 500)
    (qq : ∀ σ' r p q, Ext σ σ' → σ r = none → σ p = none → σ q = none → σ' r = some (.tuple [.ref p, .ref q]) → σ' p = some (.list ((sldF (es.length + as.length) es as [] []).1.map V.int)) → σ' q = some (.list ((sldF (es.length + as.length) es as [] []).2.map V.int)) → Q (.ref r) σ') :
    T_sorted_list_difference [.ref x, .ref y] σ Q := by
  refine ⟨rfl, ?_⟩
  unfold W_sorted_list_difference
  generalize hres : sldF (es.length + as.length) es as [] [] = res at qq
  refine seq_cut fun R hR => ?_
  simp only [wSeq, wAsg, w2, w2b, subW, wNm, wInt, opt, updl_eq, bindP_cons, ↓String.reduceEq, ↓reduceIte, reduceCtorEq, i2, c2, ltV, gtV, geV, shrV, wDone, wBrk, wCont, wSet, setW, wIte, wExpr, notRef, wRet, wCall, wCons, wNil, true_and, lenV, mulSV, addV, wAndB, wNot, wTrueB, wOrB, wTru, wMethL, getL, appendV, popV, truthW, wStr, wNone, wBool, typeV, isV, wTyp, wFailS, wFailA, wFailB, wFailE, wFalseB, newL, newT, wSlStr, eqV, neV, wMethS, splitV, joinV, wAsgT, tgN, bindAll, tg1, wItVal, wItRev, wItRange, wOrV, wIf, wAttr, getI, startsV, inV, ninV, wItSet, wNeg, wAug, wAsg2, retv, powV, andV, fdivV, modV, sumV, minV, maxV, sortedV]
  subst hR
  refine seq_cut fun R hR => ?_
  simp only [wSeq, wAsg, w2, w2b, subW, wNm, wInt, opt, updl_eq, bindP_cons, ↓String.reduceEq, ↓reduceIte, reduceCtorEq, i2, c2, ltV, gtV, geV, shrV, wDone, wBrk, wCont, wSet, setW, wIte, wExpr, notRef, wRet, wCall, wCons, wNil, true_and, lenV, mulSV, addV, wAndB, wNot, wTrueB, wOrB, wTru, wMethL, getL, appendV, popV, truthW, wStr, wNone, wBool, typeV, isV, wTyp, wFailS, wFailA, wFailB, wFailE, wFalseB, newL, newT, wSlStr, eqV, neV, wMethS, splitV, joinV, wAsgT, tgN, bindAll, tg1, wItVal, wItRev, wItRange, wOrV, wIf, wAttr, getI, startsV, inV, ninV, wItSet, wNeg, wAug, wAsg2, retv, powV, andV, fdivV, modV, sumV, minV, maxV, sortedV]
  refine ⟨by simp, fun p hp => ?_⟩
  subst hR
  refine seq_cut fun R hR => ?_
  simp only [wSeq, wAsg, w2, w2b, subW, wNm, wInt, opt, updl_eq, bindP_cons, ↓String.reduceEq, ↓reduceIte, reduceCtorEq, i2, c2, ltV, gtV, geV, shrV, wDone, wBrk, wCont, wSet, setW, wIte, wExpr, notRef, wRet, wCall, wCons, wNil, true_and, lenV, mulSV, addV, wAndB, wNot, wTrueB, wOrB, wTru, wMethL, getL, appendV, popV, truthW, wStr, wNone, wBool, typeV, isV, wTyp, wFailS, wFailA, wFailB, wFailE, wFalseB, newL, newT, wSlStr, eqV, neV, wMethS, splitV, joinV, wAsgT, tgN, bindAll, tg1, wItVal, wItRev, wItRange, wOrV, wIf, wAttr, getI, startsV, inV, ninV, wItSet, wNeg, wAug, wAsg2, retv, powV, andV, fdivV, modV, sumV, minV, maxV, sortedV]
  refine ⟨by simp, fun q hq => ?_⟩
  subst hR
  have hp0 : σ p = none := hp
  have hpq : p ≠ q := ne_of (upd_self σ p _) hq
  have hq0 : σ q = none := (Ext.new hp _).non hq
  have hExt : Ext σ (upd (upd σ p (.list [])) q (.list [])) := (Ext.new hp _).put hq0 _
  refine seq_cut fun R hR => ?_
  refine ⟨fun ρ σ' => ∃ i j m u, SInv σ x y p q es as res i j m u ρ σ', fun ρ _ => (match ρ "i", ρ "j" with | some (.int i), some (.int j) => (es.length - i.toNat) + (as.length - j.toNat) | _, _ => 0), ⟨0, 0, [], [], ?_⟩, ?_⟩
  · refine ⟨?_, ?_, ?_, ?_, ?_, ?_, hExt, ?_, upd_self .., by omega, by omega, by simp; omega, by simp; omega, ⟨_, by simp, hres⟩⟩
    · simp only [wSeq, wAsg, w2, w2b, subW, wNm, wInt, opt, updl_eq, bindP_cons, ↓String.reduceEq, ↓reduceIte, reduceCtorEq, i2, c2, ltV, gtV, geV, shrV, wDone, wBrk, wCont, wSet, setW, wIte, wExpr, notRef, wRet, wCall, wCons, wNil, true_and, lenV, mulSV, addV, wAndB, wNot, wTrueB, wOrB, wTru, wMethL, getL, appendV, popV, truthW, wStr, wNone, wBool, typeV, isV, wTyp, wFailS, wFailA, wFailB, wFailE, wFalseB, newL, newT, wSlStr, eqV, neV, wMethS, splitV, joinV, wAsgT, tgN, bindAll, tg1, wItVal, wItRev, wItRange, wOrV, wIf, wAttr, getI, startsV, inV, ninV, wItSet, wNeg, wAug, wAsg2, retv, powV, andV, fdivV, modV, sumV, minV, maxV, sortedV]
    · simp only [wSeq, wAsg, w2, w2b, subW, wNm, wInt, opt, updl_eq, bindP_cons, ↓String.reduceEq, ↓reduceIte, reduceCtorEq, i2, c2, ltV, gtV, geV, shrV, wDone, wBrk, wCont, wSet, setW, wIte, wExpr, notRef, wRet, wCall, wCons, wNil, true_and, lenV, mulSV, addV, wAndB, wNot, wTrueB, wOrB, wTru, wMethL, getL, appendV, popV, truthW, wStr, wNone, wBool, typeV, isV, wTyp, wFailS, wFailA, wFailB, wFailE, wFalseB, newL, newT, wSlStr, eqV, neV, wMethS, splitV, joinV, wAsgT, tgN, bindAll, tg1, wItVal, wItRev, wItRange, wOrV, wIf, wAttr, getI, startsV, inV, ninV, wItSet, wNeg, wAug, wAsg2, retv, powV, andV, fdivV, modV, sumV, minV, maxV, sortedV]
    · simp only [wSeq, wAsg, w2, w2b, subW, wNm, wInt, opt, updl_eq, bindP_cons, ↓String.reduceEq, ↓reduceIte, reduceCtorEq, i2, c2, ltV, gtV, geV, shrV, wDone, wBrk, wCont, wSet, setW, wIte, wExpr, notRef, wRet, wCall, wCons, wNil, true_and, lenV, mulSV, addV, wAndB, wNot, wTrueB, wOrB, wTru, wMethL, getL, appendV, popV, truthW, wStr, wNone, wBool, typeV, isV, wTyp, wFailS, wFailA, wFailB, wFailE, wFalseB, newL, newT, wSlStr, eqV, neV, wMethS, splitV, joinV, wAsgT, tgN, bindAll, tg1, wItVal, wItRev, wItRange, wOrV, wIf, wAttr, getI, startsV, inV, ninV, wItSet, wNeg, wAug, wAsg2, retv, powV, andV, fdivV, modV, sumV, minV, maxV, sortedV]
    · simp only [wSeq, wAsg, w2, w2b, subW, wNm, wInt, opt, updl_eq, bindP_cons, ↓String.reduceEq, ↓reduceIte, reduceCtorEq, i2, c2, ltV, gtV, geV, shrV, wDone, wBrk, wCont, wSet, setW, wIte, wExpr, notRef, wRet, wCall, wCons, wNil, true_and, lenV, mulSV, addV, wAndB, wNot, wTrueB, wOrB, wTru, wMethL, getL, appendV, popV, truthW, wStr, wNone, wBool, typeV, isV, wTyp, wFailS, wFailA, wFailB, wFailE, wFalseB, newL, newT, wSlStr, eqV, neV, wMethS, splitV, joinV, wAsgT, tgN, bindAll, tg1, wItVal, wItRev, wItRange, wOrV, wIf, wAttr, getI, startsV, inV, ninV, wItSet, wNeg, wAug, wAsg2, retv, powV, andV, fdivV, modV, sumV, minV, maxV, sortedV]
    · simp only [wSeq, wAsg, w2, w2b, subW, wNm, wInt, opt, updl_eq, bindP_cons, ↓String.reduceEq, ↓reduceIte, reduceCtorEq, i2, c2, ltV, gtV, geV, shrV, wDone, wBrk, wCont, wSet, setW, wIte, wExpr, notRef, wRet, wCall, wCons, wNil, true_and, lenV, mulSV, addV, wAndB, wNot, wTrueB, wOrB, wTru, wMethL, getL, appendV, popV, truthW, wStr, wNone, wBool, typeV, isV, wTyp, wFailS, wFailA, wFailB, wFailE, wFalseB, newL, newT, wSlStr, eqV, neV, wMethS, splitV, joinV, wAsgT, tgN, bindAll, tg1, wItVal, wItRev, wItRange, wOrV, wIf, wAttr, getI, startsV, inV, ninV, wItSet, wNeg, wAug, wAsg2, retv, powV, andV, fdivV, modV, sumV, minV, maxV, sortedV]; rfl
    · simp only [wSeq, wAsg, w2, w2b, subW, wNm, wInt, opt, updl_eq, bindP_cons, ↓String.reduceEq, ↓reduceIte, reduceCtorEq, i2, c2, ltV, gtV, geV, shrV, wDone, wBrk, wCont, wSet, setW, wIte, wExpr, notRef, wRet, wCall, wCons, wNil, true_and, lenV, mulSV, addV, wAndB, wNot, wTrueB, wOrB, wTru, wMethL, getL, appendV, popV, truthW, wStr, wNone, wBool, typeV, isV, wTyp, wFailS, wFailA, wFailB, wFailE, wFalseB, newL, newT, wSlStr, eqV, neV, wMethS, splitV, joinV, wAsgT, tgN, bindAll, tg1, wItVal, wItRev, wItRange, wOrV, wIf, wAttr, getI, startsV, inV, ninV, wItSet, wNeg, wAug, wAsg2, retv, powV, andV, fdivV, modV, sumV, minV, maxV, sortedV]; rfl
    · rw [upd_ne _ _ hpq, upd_self]; rfl
  · rintro ρ σ' ⟨i, j, m, u, h⟩
    have hli := h.li
    have hlj := h.lj
    show wSeq (wTry sldBody sldHand) wDone ρ σ' _ _
    refine seq_cut fun R2 hR2 => ?_
    show sldBody ρ σ' _ _
    refine sld_body h hx hy hp0 hq0 hpq hen han (fun i' j' m' u' ρ' σ'' h' hm => ?_) (fun i' j' m' u' ρ' σ'' h' he => ?_)
    · subst hR2
      have hli' := h'.li
      have hlj' := h'.lj
      refine ⟨⟨i', j', m', u', h'⟩, ?_⟩
      simp only [h.ri, h.rj, h'.ri, h'.rj, Int.toNat_natCast]
      omega
    · refine sld_hand h' hx hy hp0 hq0 hpq hen han he fun σ₃ hE h3 h4 => ?_
      subst hR
      simp only [wSeq, wAsg, w2, w2b, subW, wNm, wInt, opt, updl_eq, bindP_cons, ↓String.reduceEq, ↓reduceIte, reduceCtorEq, i2, c2, ltV, gtV, geV, shrV, wDone, wBrk, wCont, wSet, setW, wIte, wExpr, notRef, wRet, wCall, wCons, wNil, true_and, lenV, mulSV, addV, wAndB, wNot, wTrueB, wOrB, wTru, wMethL, getL, appendV, popV, truthW, wStr, wNone, wBool, typeV, isV, wTyp, wFailS, wFailA, wFailB, wFailE, wFalseB, newL, newT, wSlStr, eqV, neV, wMethS, splitV, joinV, wAsgT, tgN, bindAll, tg1, wItVal, wItRev, wItRange, wOrV, wIf, wAttr, getI, startsV, inV, ninV, wItSet, wNeg, wAug, wAsg2, retv, powV, andV, fdivV, modV, sumV, minV, maxV, sortedV, h'.mi, h'.un]
      refine ⟨by simp [lim], fun r hr => ?_⟩
      exact qq _ r p q (hE.step hr _) (hE.non hr) hp0 hq0 (upd_self ..) (upd_get h3 hr) (upd_get h4 hr)
end Mine
end

section
open PySem PySem.W PyProof.Rows PySem.Builtin PySem.Builtin.Str
set_option maxRecDepth 100000
set_option maxHeartbeats 4000000
set_option linter.unusedSimpArgs false
namespace Mine
theorem range_get {lo st : Int} {n i : Nat} {v : V} (h : (rangeV lo st n)[i]? = some v) : i < n ∧ v = .int (lo + i * st) := by
  unfold rangeV at h
  obtain ⟨k, hk, rfl⟩ := map_get h
  obtain ⟨h1, h2⟩ := List.getElem?_eq_some_iff.mp hk
  rw [List.length_range] at h1
  rw [List.getElem_range] at h2
  subst h2
  exact ⟨h1, rfl⟩
theorem range_get1 {n i : Nat} {v : V} (h : (rangeV 0 1 n)[i]? = some v) : i < n ∧ v = .int (i : Int) := by
  obtain ⟨h1, h2⟩ := range_get h
  exact ⟨h1, by rw [h2]; congr 1; omega⟩
theorem rangeV_len (lo st : Int) (n : Nat) : (rangeV lo st n).length = n := by unfold rangeV; rw [List.length_map, List.length_range]
theorem vals_range {σ : Sto} {lo st : Int} {n : Nat} : Src.vals σ (.range lo st n) = some (rangeV lo st n) := rfl
theorem idx_map {α : Type} (f : α → V) (xs : List α) (i : Nat) (x : α) (h : xs[i]? = some x) : idx (xs.map f) (i : Int) = some (f x) := by
  unfold idx
  rw [if_pos (by omega), Int.toNat_natCast, List.getElem?_map, h]; rfl
theorem idx_get {xs : List V} {i : Nat} {v : V} (h : xs[i]? = some v) : idx xs (i : Int) = some v := by
  unfold idx
  rw [if_pos (by omega), Int.toNat_natCast, h]
/-- two lists, place by place -/
noncomputable def All2 {α : Type} (P : V → α → Prop) (vs : List V) (xs : List α) : Prop := vs.length = xs.length ∧ ∀ (i : Nat) (v : V) (x : α), vs[i]? = some v → xs[i]? = some x → P v x
theorem All2.nil {α : Type} {P : V → α → Prop} : All2 P [] [] := ⟨rfl, fun _ _ _ h => by simp at h⟩
theorem All2.snoc {α : Type} {P : V → α → Prop} {vs : List V} {xs : List α} (h : All2 P vs xs) {v : V} {x : α} (p : P v x) : All2 P (vs ++ [v]) (xs ++ [x]) := by
  refine ⟨by simp [h.1], fun i w y h1 h2 => ?_⟩
  by_cases hi : i < vs.length
  · rw [List.getElem?_append_left hi] at h1
    rw [List.getElem?_append_left (by rw [← h.1]; exact hi)] at h2
    exact h.2 i w y h1 h2
  · rw [List.getElem?_append_right (by omega)] at h1
    rw [List.getElem?_append_right (by rw [← h.1]; omega), ← h.1] at h2
    have : i - vs.length = 0 := by
      have := (List.getElem?_eq_some_iff.mp h1).1
      simp at this; omega
    rw [this] at h1 h2
    simp at h1 h2
    rw [← h1, ← h2]; exact p
theorem All2.imp {α : Type} {P P' : V → α → Prop} {vs : List V} {xs : List α} (h : All2 P vs xs) (k : ∀ v x, P v x → P' v x) : All2 P' vs xs := ⟨h.1, fun i v x h1 h2 => k v x (h.2 i v x h1 h2)⟩
theorem All2.get {α : Type} {P : V → α → Prop} {vs : List V} {xs : List α} (h : All2 P vs xs) {i : Nat} {x : α} (hx : xs[i]? = some x) : ∃ v, vs[i]? = some v ∧ P v x := by
  have := (List.getElem?_eq_some_iff.mp hx).1
  have hl : i < vs.length := by rw [h.1]; exact this
  exact ⟨vs[i], List.getElem?_eq_getElem hl, h.2 i _ x (List.getElem?_eq_getElem hl) hx⟩
theorem All2.get' {α : Type} {P : V → α → Prop} {vs : List V} {xs : List α} (h : All2 P vs xs) {i : Nat} {v : V} (hv : vs[i]? = some v) : ∃ x, xs[i]? = some x ∧ P v x := by
  have := (List.getElem?_eq_some_iff.mp hv).1
  have hl : i < xs.length := by rw [← h.1]; exact this
  exact ⟨xs[i], List.getElem?_eq_getElem hl, h.2 i v _ hv (List.getElem?_eq_getElem hl)⟩
/-- a list of these at v -/
noncomputable def LsAt (σ : Sto) (v : V) (ts : List V) : Prop := ∃ a, v = .ref a ∧ σ a = some (.list ts)
theorem LsAt.ext {σ σ' : Sto} (h : Ext σ σ') {v : V} {ts : List V} (r : LsAt σ v ts) : LsAt σ' v ts := by
  obtain ⟨a, h1, h2⟩ := r; exact ⟨a, h1, h.get h2⟩
end Mine
end

section
open PySem PySem.W PyProof.Rows PySem.Builtin PySem.Builtin.Str
set_option maxRecDepth 100000
set_option maxHeartbeats 4000000
set_option linter.unusedSimpArgs false
namespace Mine
/-- the codes of the parents: 0 is the top, r is below module r - 1 -/
noncomputable def parF (told : List Int) : List Nat := (List.range told.length).map fun k => if k < 4 then ((told.getD k 0).fmod (k + 1)).toNat else k - ((told.getD k 0).fmod 3).toNat
noncomputable def parI (ps : List Nat) : List Int := ps.map fun p : Nat => (p : Int) - 1
theorem parF_get {told : List Int} {k : Nat} (h : k < told.length) : (parF told)[k]? = some (if k < 4 then ((told.getD k 0).fmod (k + 1)).toNat else k - ((told.getD k 0).fmod 3).toNat) := by
  unfold parF
  rw [List.getElem?_map, List.getElem?_range h]; rfl
theorem parF_len (told : List Int) : (parF told).length = told.length := by unfold parF; simp
theorem spec_law_parents {σ : Sto} {t : Addr} {told : List Int} {Q : V → Sto → Prop} (ht : σ t = some (.list (told.map V.int))) (hl : told.length ≤ 10)
    (q : ∀ σ' r, Ext σ σ' → σ' r = some (.list ((parI (parF told)).map V.int)) → Q (.ref r) σ') : T__law_parents [.ref t] σ Q := by
  refine ⟨rfl, ?_⟩
  unfold W__law_parents
  refine seq_cut fun R hR => ?_
  simp only [wSeq, wAsg, w2, w2b, subW, wNm, wInt, opt, updl_eq, bindP_cons, ↓String.reduceEq, ↓reduceIte, reduceCtorEq, i2, c2, ltV, gtV, geV, shrV, wDone, wBrk, wCont, wSet, setW, wIte, wExpr, notRef, wRet, wCall, wCons, wNil, true_and, lenV, mulSV, addV, wAndB, wNot, wTrueB, wOrB, wTru, wMethL, getL, appendV, popV, truthW, wStr, wNone, wBool, typeV, isV, wTyp, wFailS, wFailA, wFailB, wFailE, wFalseB, newL, newT, wSlStr, eqV, neV, wMethS, splitV, joinV, wAsgT, tgN, bindAll, tg1, wItVal, wItRev, wItRange, wOrV, wIf, wAttr, getI, startsV, inV, ninV, wItSet, wNeg, wAug, wAsg2, retv, powV, andV, fdivV, modV, sumV, minV, maxV, sortedV]
  refine ⟨by simp [lim], fun p hp => ?_⟩
  subst hR
  refine seq_cut fun R hR => ?_
  refine for_of (.range 0 1 told.length) (rangeV 0 1 told.length) _ (fun i ρ σ' => ρ "told" = some (.ref t) ∧ ρ "parents" = some (.ref p) ∧ Ext σ σ' ∧ σ' p = some (.list (((parI (parF told)).take i).map V.int))) (fun K k => ?_) ⟨?_, ?_, Ext.new hp _, upd_self ..⟩ ?_ ?_
  · simp only [wSeq, wAsg, w2, w2b, subW, wNm, wInt, opt, updl_eq, bindP_cons, ↓String.reduceEq, ↓reduceIte, reduceCtorEq, i2, c2, ltV, gtV, geV, shrV, wDone, wBrk, wCont, wSet, setW, wIte, wExpr, notRef, wRet, wCall, wCons, wNil, true_and, lenV, mulSV, addV, wAndB, wNot, wTrueB, wOrB, wTru, wMethL, getL, appendV, popV, truthW, wStr, wNone, wBool, typeV, isV, wTyp, wFailS, wFailA, wFailB, wFailE, wFalseB, newL, newT, wSlStr, eqV, neV, wMethS, splitV, joinV, wAsgT, tgN, bindAll, tg1, wItVal, wItRev, wItRange, wOrV, wIf, wAttr, getI, startsV, inV, ninV, wItSet, wNeg, wAug, wAsg2, retv, powV, andV, fdivV, modV, sumV, minV, maxV, sortedV, upd_get ht hp, List.length_map, Int.toNat_natCast]; exact ⟨by omega, ⟨by omega, by omega⟩, k⟩
  · simp only [wSeq, wAsg, w2, w2b, subW, wNm, wInt, opt, updl_eq, bindP_cons, ↓String.reduceEq, ↓reduceIte, reduceCtorEq, i2, c2, ltV, gtV, geV, shrV, wDone, wBrk, wCont, wSet, setW, wIte, wExpr, notRef, wRet, wCall, wCons, wNil, true_and, lenV, mulSV, addV, wAndB, wNot, wTrueB, wOrB, wTru, wMethL, getL, appendV, popV, truthW, wStr, wNone, wBool, typeV, isV, wTyp, wFailS, wFailA, wFailB, wFailE, wFalseB, newL, newT, wSlStr, eqV, neV, wMethS, splitV, joinV, wAsgT, tgN, bindAll, tg1, wItVal, wItRev, wItRange, wOrV, wIf, wAttr, getI, startsV, inV, ninV, wItSet, wNeg, wAug, wAsg2, retv, powV, andV, fdivV, modV, sumV, minV, maxV, sortedV]
  · simp only [wSeq, wAsg, w2, w2b, subW, wNm, wInt, opt, updl_eq, bindP_cons, ↓String.reduceEq, ↓reduceIte, reduceCtorEq, i2, c2, ltV, gtV, geV, shrV, wDone, wBrk, wCont, wSet, setW, wIte, wExpr, notRef, wRet, wCall, wCons, wNil, true_and, lenV, mulSV, addV, wAndB, wNot, wTrueB, wOrB, wTru, wMethL, getL, appendV, popV, truthW, wStr, wNone, wBool, typeV, isV, wTyp, wFailS, wFailA, wFailB, wFailE, wFalseB, newL, newT, wSlStr, eqV, neV, wMethS, splitV, joinV, wAsgT, tgN, bindAll, tg1, wItVal, wItRev, wItRange, wOrV, wIf, wAttr, getI, startsV, inV, ninV, wItSet, wNeg, wAug, wAsg2, retv, powV, andV, fdivV, modV, sumV, minV, maxV, sortedV]
  · rintro i v ρ σ' hv ⟨h1, h2, h3, h4⟩
    obtain ⟨hi, rfl⟩ := range_get1 hv
    refine ⟨vals_range, ?_⟩
    have hg := idx_nat told i hi
    have h5 := h3.get ht
    have hpi : (parI (parF told))[i]? = some (((if i < 4 then ((told.getD i 0).fmod (i + 1)).toNat else i - ((told.getD i 0).fmod 3).toNat : Nat) : Int) - 1) := by
      unfold parI
      rw [List.getElem?_map, parF_get hi]; rfl
    refine seq_cut fun R hR => ?_
    by_cases hi4 : i < 4
    · refine ite_T σ' (fun K k => by simp only [wSeq, wAsg, w2, w2b, subW, wNm, wInt, opt, updl_eq, bindP_cons, ↓String.reduceEq, ↓reduceIte, reduceCtorEq, i2, c2, ltV, gtV, geV, shrV, wDone, wBrk, wCont, wSet, setW, wIte, wExpr, notRef, wRet, wCall, wCons, wNil, true_and, lenV, mulSV, addV, wAndB, wNot, wTrueB, wOrB, wTru, wMethL, getL, appendV, popV, truthW, wStr, wNone, wBool, typeV, isV, wTyp, wFailS, wFailA, wFailB, wFailE, wFalseB, newL, newT, wSlStr, eqV, neV, wMethS, splitV, joinV, wAsgT, tgN, bindAll, tg1, wItVal, wItRev, wItRange, wOrV, wIf, wAttr, getI, startsV, inV, ninV, wItSet, wNeg, wAug, wAsg2, retv, powV, andV, fdivV, modV, sumV, minV, maxV, sortedV]; rw [decide_eq_true (by omega)]; exact k) ?_
      simp only [wSeq, wAsg, w2, w2b, subW, wNm, wInt, opt, updl_eq, bindP_cons, ↓String.reduceEq, ↓reduceIte, reduceCtorEq, i2, c2, ltV, gtV, geV, shrV, wDone, wBrk, wCont, wSet, setW, wIte, wExpr, notRef, wRet, wCall, wCons, wNil, true_and, lenV, mulSV, addV, wAndB, wNot, wTrueB, wOrB, wTru, wMethL, getL, appendV, popV, truthW, wStr, wNone, wBool, typeV, isV, wTyp, wFailS, wFailA, wFailB, wFailE, wFalseB, newL, newT, wSlStr, eqV, neV, wMethS, splitV, joinV, wAsgT, tgN, bindAll, tg1, wItVal, wItRev, wItRange, wOrV, wIf, wAttr, getI, startsV, inV, ninV, wItSet, wNeg, wAug, wAsg2, retv, powV, andV, fdivV, modV, sumV, minV, maxV, sortedV, h1, h2, h4, h5, hg]
      refine ⟨by rw [List.length_map]; omega, by omega, by rw [List.length_map, List.length_take]; omega, ?_⟩
      subst hR
      simp only [wSeq, wAsg, w2, w2b, subW, wNm, wInt, opt, updl_eq, bindP_cons, ↓String.reduceEq, ↓reduceIte, reduceCtorEq, i2, c2, ltV, gtV, geV, shrV, wDone, wBrk, wCont, wSet, setW, wIte, wExpr, notRef, wRet, wCall, wCons, wNil, true_and, lenV, mulSV, addV, wAndB, wNot, wTrueB, wOrB, wTru, wMethL, getL, appendV, popV, truthW, wStr, wNone, wBool, typeV, isV, wTyp, wFailS, wFailA, wFailB, wFailE, wFalseB, newL, newT, wSlStr, eqV, neV, wMethS, splitV, joinV, wAsgT, tgN, bindAll, tg1, wItVal, wItRev, wItRange, wOrV, wIf, wAttr, getI, startsV, inV, ninV, wItSet, wNeg, wAug, wAsg2, retv, powV, andV, fdivV, modV, sumV, minV, maxV, sortedV, h1, h2]
      refine ⟨h3.put hp _, ?_⟩
      rw [upd_self, take_snoc hpi, if_pos hi4]
      have := Int.fmod_nonneg_of_pos (told.getD i 0) (by omega : (0 : Int) < i + 1)
      simp only [List.map_append, List.map_cons, List.map_nil]
      rw [Int.toNat_of_nonneg this]
    · refine ite_F σ' (fun K k => by simp only [wSeq, wAsg, w2, w2b, subW, wNm, wInt, opt, updl_eq, bindP_cons, ↓String.reduceEq, ↓reduceIte, reduceCtorEq, i2, c2, ltV, gtV, geV, shrV, wDone, wBrk, wCont, wSet, setW, wIte, wExpr, notRef, wRet, wCall, wCons, wNil, true_and, lenV, mulSV, addV, wAndB, wNot, wTrueB, wOrB, wTru, wMethL, getL, appendV, popV, truthW, wStr, wNone, wBool, typeV, isV, wTyp, wFailS, wFailA, wFailB, wFailE, wFalseB, newL, newT, wSlStr, eqV, neV, wMethS, splitV, joinV, wAsgT, tgN, bindAll, tg1, wItVal, wItRev, wItRange, wOrV, wIf, wAttr, getI, startsV, inV, ninV, wItSet, wNeg, wAug, wAsg2, retv, powV, andV, fdivV, modV, sumV, minV, maxV, sortedV]; rw [decide_eq_false (by omega)]; exact k) ?_
      simp only [wSeq, wAsg, w2, w2b, subW, wNm, wInt, opt, updl_eq, bindP_cons, ↓String.reduceEq, ↓reduceIte, reduceCtorEq, i2, c2, ltV, gtV, geV, shrV, wDone, wBrk, wCont, wSet, setW, wIte, wExpr, notRef, wRet, wCall, wCons, wNil, true_and, lenV, mulSV, addV, wAndB, wNot, wTrueB, wOrB, wTru, wMethL, getL, appendV, popV, truthW, wStr, wNone, wBool, typeV, isV, wTyp, wFailS, wFailA, wFailB, wFailE, wFalseB, newL, newT, wSlStr, eqV, neV, wMethS, splitV, joinV, wAsgT, tgN, bindAll, tg1, wItVal, wItRev, wItRange, wOrV, wIf, wAttr, getI, startsV, inV, ninV, wItSet, wNeg, wAug, wAsg2, retv, powV, andV, fdivV, modV, sumV, minV, maxV, sortedV, h1, h2, h4, h5, hg]
      refine ⟨by rw [List.length_map]; omega, by decide, by rw [List.length_map, List.length_take]; omega, ?_⟩
      subst hR
      simp only [wSeq, wAsg, w2, w2b, subW, wNm, wInt, opt, updl_eq, bindP_cons, ↓String.reduceEq, ↓reduceIte, reduceCtorEq, i2, c2, ltV, gtV, geV, shrV, wDone, wBrk, wCont, wSet, setW, wIte, wExpr, notRef, wRet, wCall, wCons, wNil, true_and, lenV, mulSV, addV, wAndB, wNot, wTrueB, wOrB, wTru, wMethL, getL, appendV, popV, truthW, wStr, wNone, wBool, typeV, isV, wTyp, wFailS, wFailA, wFailB, wFailE, wFalseB, newL, newT, wSlStr, eqV, neV, wMethS, splitV, joinV, wAsgT, tgN, bindAll, tg1, wItVal, wItRev, wItRange, wOrV, wIf, wAttr, getI, startsV, inV, ninV, wItSet, wNeg, wAug, wAsg2, retv, powV, andV, fdivV, modV, sumV, minV, maxV, sortedV, h1, h2]
      refine ⟨h3.put hp _, ?_⟩
      rw [upd_self, take_snoc hpi, if_neg hi4]
      have h6 := Int.fmod_nonneg_of_pos (told.getD i 0) (by omega : (0 : Int) < 3)
      have h7 := Int.fmod_lt_of_pos (told.getD i 0) (by omega : (0 : Int) < 3)
      simp only [List.map_append, List.map_cons, List.map_nil]
      rw [show (i : Int) - 1 - (told.getD i 0).fmod 3 = ((i - ((told.getD i 0).fmod 3).toNat : Nat) : Int) - 1 by omega]
  · rintro ρ σ' ⟨h1, h2, h3, h4⟩
    refine ⟨vals_range, ?_⟩
    subst hR
    simp only [wSeq, wAsg, w2, w2b, subW, wNm, wInt, opt, updl_eq, bindP_cons, ↓String.reduceEq, ↓reduceIte, reduceCtorEq, i2, c2, ltV, gtV, geV, shrV, wDone, wBrk, wCont, wSet, setW, wIte, wExpr, notRef, wRet, wCall, wCons, wNil, true_and, lenV, mulSV, addV, wAndB, wNot, wTrueB, wOrB, wTru, wMethL, getL, appendV, popV, truthW, wStr, wNone, wBool, typeV, isV, wTyp, wFailS, wFailA, wFailB, wFailE, wFalseB, newL, newT, wSlStr, eqV, neV, wMethS, splitV, joinV, wAsgT, tgN, bindAll, tg1, wItVal, wItRev, wItRange, wOrV, wIf, wAttr, getI, startsV, inV, ninV, wItSet, wNeg, wAug, wAsg2, retv, powV, andV, fdivV, modV, sumV, minV, maxV, sortedV, h2]
    rw [rangeV_len, List.take_of_length_le (by unfold parI; rw [List.length_map, parF_len]; omega)] at h4
    exact q σ' p h3 h4
end Mine
end

section
open PySem PySem.W PyProof.Rows PySem.Builtin PySem.Builtin.Str
set_option maxRecDepth 100000
set_option maxHeartbeats 4000000
set_option linter.unusedSimpArgs false
namespace Mine
noncomputable def partS (k : Nat) : Str := [Str.ofString "a", Str.ofString "ab", Str.ofString "abc", Str.ofString "b", Str.ofString "ba", Str.ofString "c"].getD k (Str.ofString "a")
noncomputable def rowsF : List (List Nat) → List Nat → List (List Nat)
  | acc, [] => acc
  | acc, p :: ps => rowsF (acc ++ [(if p = 0 then [] else acc.getD (p - 1) []) ++ [acc.length]]) ps
theorem rowsF_snoc : ∀ (ps : List Nat) (acc : List (List Nat)) (p : Nat), rowsF acc (ps ++ [p]) = rowsF acc ps ++ [(if p = 0 then [] else (rowsF acc ps).getD (p - 1) []) ++ [(rowsF acc ps).length]]
  | [], _, _ => rfl
  | p' :: ps, acc, p => by
    rw [List.cons_append]
    unfold rowsF
    rw [rowsF_snoc ps]
theorem rowsF_len : ∀ (ps : List Nat) (acc : List (List Nat)), (rowsF acc ps).length = acc.length + ps.length
  | [], _ => rfl
  | p :: ps, acc => by unfold rowsF; rw [rowsF_len ps]; simp; omega
noncomputable def rowV (row : List Nat) : List V := row.map fun i => V.str (partS i)
/-- rows are short, and name places among the six -/
noncomputable def RowsOk (rows : List (List Nat)) : Prop := rows.length ≤ 6 ∧ ∀ row ∈ rows, row ≠ [] ∧ row.length ≤ 6 ∧ ∀ i ∈ row, i < 6
theorem rowsF_ok {ps : List Nat} (hp : ∀ (k p : Nat), ps[k]? = some p → p ≤ k) : ∀ n, n ≤ ps.length → ∀ (i : Nat) (row : List Nat), (rowsF [] (ps.take n))[i]? = some row → row ≠ [] ∧ row.length ≤ i + 1 ∧ ∀ j ∈ row, j ≤ i
  | 0, _, i, row, h => by simp [rowsF] at h
  | n + 1, hn, i, row, h => by
    have ih := rowsF_ok hp n (by omega)
    have hpi := List.getElem?_eq_getElem (show n < ps.length by omega)
    generalize ps[n]'_ = p at hpi
    have hpk := hp n p hpi
    have hrl : (rowsF [] (ps.take n)).length = n := by rw [rowsF_len, List.length_take]; simp; omega
    rw [take_snoc hpi, rowsF_snoc] at h
    by_cases hi : i < n
    · rw [List.getElem?_append_left (by omega)] at h
      exact ih i row h
    · have hi2 := (List.getElem?_eq_some_iff.mp h).1
      simp at hi2
      have : i = n := by omega
      subst this
      rw [List.getElem?_append_right (by omega), hrl] at h
      simp only [Nat.sub_self, List.getElem?_cons_zero, Option.some.injEq] at h
      subst h
      refine ⟨by simp, ?_, ?_⟩
      · by_cases hp0 : p = 0
        · rw [if_pos hp0]; simp
        · rw [if_neg hp0]
          have hg := List.getElem?_eq_getElem (show p - 1 < (rowsF [] (ps.take i)).length by omega)
          have := (ih _ _ hg).2.1
          rw [List.getD_eq_getElem?_getD, hg]
          simp only [Option.getD_some, List.length_append, List.length_singleton]
          omega
      · intro j hj
        by_cases hp0 : p = 0
        · rw [if_pos hp0] at hj; simp at hj; omega
        · rw [if_neg hp0] at hj
          have hg := List.getElem?_eq_getElem (show p - 1 < (rowsF [] (ps.take i)).length by omega)
          have := (ih _ _ hg).2.2
          rw [List.getD_eq_getElem?_getD, hg] at hj
          simp only [Option.getD_some, List.mem_append, List.mem_singleton] at hj
          rcases hj with hj | hj
          · have := this j hj; omega
          · omega
theorem spec_law_rows {σ : Sto} {t : Addr} {ps : List Nat} {Q : V → Sto → Prop} (ht : σ t = some (.list ((parI ps).map V.int))) (hl : ps.length ≤ 6) (hp : ∀ (k p : Nat), ps[k]? = some p → p ≤ k)
    (q : ∀ σ' r refs, Ext σ σ' → σ' r = some (.list refs) → All2 (fun v row => LsAt σ' v (rowV row)) refs (rowsF [] ps) → Q (.ref r) σ') : T__law_rows [.ref t] σ Q := by
  refine ⟨rfl, ?_⟩
  unfold W__law_rows
  refine seq_cut fun R hR => ?_
  simp only [wSeq, wAsg, w2, w2b, subW, wNm, wInt, opt, updl_eq, bindP_cons, ↓String.reduceEq, ↓reduceIte, reduceCtorEq, i2, c2, ltV, gtV, geV, shrV, wDone, wBrk, wCont, wSet, setW, wIte, wExpr, notRef, wRet, wCall, wCons, wNil, true_and, lenV, mulSV, addV, wAndB, wNot, wTrueB, wOrB, wTru, wMethL, getL, appendV, popV, truthW, wStr, wNone, wBool, typeV, isV, wTyp, wFailS, wFailA, wFailB, wFailE, wFalseB, newL, newT, wSlStr, eqV, neV, wMethS, splitV, joinV, wAsgT, tgN, bindAll, tg1, wItVal, wItRev, wItRange, wOrV, wIf, wAttr, getI, startsV, inV, ninV, wItSet, wNeg, wAug, wAsg2, retv, powV, andV, fdivV, modV, sumV, minV, maxV, sortedV]
  refine ⟨by simp [lim], fun pa hpa => ?_⟩
  subst hR
  refine seq_cut fun R hR => ?_
  simp only [wSeq, wAsg, w2, w2b, subW, wNm, wInt, opt, updl_eq, bindP_cons, ↓String.reduceEq, ↓reduceIte, reduceCtorEq, i2, c2, ltV, gtV, geV, shrV, wDone, wBrk, wCont, wSet, setW, wIte, wExpr, notRef, wRet, wCall, wCons, wNil, true_and, lenV, mulSV, addV, wAndB, wNot, wTrueB, wOrB, wTru, wMethL, getL, appendV, popV, truthW, wStr, wNone, wBool, typeV, isV, wTyp, wFailS, wFailA, wFailB, wFailE, wFalseB, newL, newT, wSlStr, eqV, neV, wMethS, splitV, joinV, wAsgT, tgN, bindAll, tg1, wItVal, wItRev, wItRange, wOrV, wIf, wAttr, getI, startsV, inV, ninV, wItSet, wNeg, wAug, wAsg2, retv, powV, andV, fdivV, modV, sumV, minV, maxV, sortedV]
  refine ⟨by simp [lim], fun rs hrs => ?_⟩
  subst hR
  generalize hσ₁ : upd σ pa _ = σ₁ at *
  have hE1 : Ext σ σ₁ := by rw [← hσ₁]; exact Ext.new hpa _
  have hpa1 : σ₁ pa = some (.list ((List.range 6).map fun i => V.str (partS i))) := by rw [← hσ₁, upd_self]; rfl
  clear hσ₁ hpa
  refine seq_cut fun R hR => ?_
  refine for_of (.range 0 1 ps.length) (rangeV 0 1 ps.length) _ (fun i ρ σ' => ρ "parents" = some (.ref t) ∧ ρ "parts" = some (.ref pa) ∧ ρ "rows" = some (.ref rs) ∧ Ext σ₁ σ' ∧ ∃ refs, σ' rs = some (.list refs) ∧ All2 (fun v row => LsAt σ' v (rowV row) ∧ v ≠ .ref rs) refs (rowsF [] (ps.take i)))
    (fun K k => ?_) ⟨?_, ?_, ?_, Ext.new hrs _, [], upd_self .., .nil⟩ ?_ ?_
  · simp only [wSeq, wAsg, w2, w2b, subW, wNm, wInt, opt, updl_eq, bindP_cons, ↓String.reduceEq, ↓reduceIte, reduceCtorEq, i2, c2, ltV, gtV, geV, shrV, wDone, wBrk, wCont, wSet, setW, wIte, wExpr, notRef, wRet, wCall, wCons, wNil, true_and, lenV, mulSV, addV, wAndB, wNot, wTrueB, wOrB, wTru, wMethL, getL, appendV, popV, truthW, wStr, wNone, wBool, typeV, isV, wTyp, wFailS, wFailA, wFailB, wFailE, wFalseB, newL, newT, wSlStr, eqV, neV, wMethS, splitV, joinV, wAsgT, tgN, bindAll, tg1, wItVal, wItRev, wItRange, wOrV, wIf, wAttr, getI, startsV, inV, ninV, wItSet, wNeg, wAug, wAsg2, retv, powV, andV, fdivV, modV, sumV, minV, maxV, sortedV, upd_get (hE1.get ht) hrs, List.length_map, Int.toNat_natCast]; unfold parI; rw [List.length_map]; exact ⟨by omega, ⟨by omega, by omega⟩, k⟩
  · simp only [wSeq, wAsg, w2, w2b, subW, wNm, wInt, opt, updl_eq, bindP_cons, ↓String.reduceEq, ↓reduceIte, reduceCtorEq, i2, c2, ltV, gtV, geV, shrV, wDone, wBrk, wCont, wSet, setW, wIte, wExpr, notRef, wRet, wCall, wCons, wNil, true_and, lenV, mulSV, addV, wAndB, wNot, wTrueB, wOrB, wTru, wMethL, getL, appendV, popV, truthW, wStr, wNone, wBool, typeV, isV, wTyp, wFailS, wFailA, wFailB, wFailE, wFalseB, newL, newT, wSlStr, eqV, neV, wMethS, splitV, joinV, wAsgT, tgN, bindAll, tg1, wItVal, wItRev, wItRange, wOrV, wIf, wAttr, getI, startsV, inV, ninV, wItSet, wNeg, wAug, wAsg2, retv, powV, andV, fdivV, modV, sumV, minV, maxV, sortedV]
  · simp only [wSeq, wAsg, w2, w2b, subW, wNm, wInt, opt, updl_eq, bindP_cons, ↓String.reduceEq, ↓reduceIte, reduceCtorEq, i2, c2, ltV, gtV, geV, shrV, wDone, wBrk, wCont, wSet, setW, wIte, wExpr, notRef, wRet, wCall, wCons, wNil, true_and, lenV, mulSV, addV, wAndB, wNot, wTrueB, wOrB, wTru, wMethL, getL, appendV, popV, truthW, wStr, wNone, wBool, typeV, isV, wTyp, wFailS, wFailA, wFailB, wFailE, wFalseB, newL, newT, wSlStr, eqV, neV, wMethS, splitV, joinV, wAsgT, tgN, bindAll, tg1, wItVal, wItRev, wItRange, wOrV, wIf, wAttr, getI, startsV, inV, ninV, wItSet, wNeg, wAug, wAsg2, retv, powV, andV, fdivV, modV, sumV, minV, maxV, sortedV]
  · simp only [wSeq, wAsg, w2, w2b, subW, wNm, wInt, opt, updl_eq, bindP_cons, ↓String.reduceEq, ↓reduceIte, reduceCtorEq, i2, c2, ltV, gtV, geV, shrV, wDone, wBrk, wCont, wSet, setW, wIte, wExpr, notRef, wRet, wCall, wCons, wNil, true_and, lenV, mulSV, addV, wAndB, wNot, wTrueB, wOrB, wTru, wMethL, getL, appendV, popV, truthW, wStr, wNone, wBool, typeV, isV, wTyp, wFailS, wFailA, wFailB, wFailE, wFalseB, newL, newT, wSlStr, eqV, neV, wMethS, splitV, joinV, wAsgT, tgN, bindAll, tg1, wItVal, wItRev, wItRange, wOrV, wIf, wAttr, getI, startsV, inV, ninV, wItSet, wNeg, wAug, wAsg2, retv, powV, andV, fdivV, modV, sumV, minV, maxV, sortedV]
  · rintro i v ρ σ' hv ⟨h1, h2, h3, h4, refs, h5, h6⟩
    obtain ⟨hi, rfl⟩ := range_get1 hv
    refine ⟨vals_range, ?_⟩
    have hpi := List.getElem?_eq_getElem hi
    generalize ps[i] = p at hpi
    have hpk := hp i p hpi
    have ht' := h4.get (hE1.get ht)
    have hpa' := h4.get hpa1
    have hpz : (parI ps)[i]? = some ((p : Int) - 1) := by unfold parI; rw [List.getElem?_map, hpi]; rfl
    have hix : idx ((parI ps).map V.int) (i : Int) = some (.int ((p : Int) - 1)) := idx_map _ _ _ _ hpz
    have hpl : ((parI ps).map V.int).length ≤ 1000000 := by unfold parI; rw [List.length_map, List.length_map]; omega
    have hpx : idx ((List.range 6).map fun i => V.str (partS i)) (i : Int) = some (.str (partS i)) := idx_map _ _ _ _ (List.getElem?_range (by omega))
    have hrl : (rowsF [] (ps.take i)).length = i := by rw [rowsF_len, List.length_take]; simp; omega
    have hrefs : refs.length = i := by rw [h6.1, hrl]
    refine seq_cut fun R hR => ?_
    have ab : ∀ K : V → Sto → Prop, (∀ σ₂ va, Ext σ₁ σ₂ → σ₂ rs = some (.list refs) → (∀ v row, LsAt σ' v (rowV row) → LsAt σ₂ v (rowV row)) → LsAt σ₂ va (rowV (if p = 0 then [] else (rowsF [] (ps.take i)).getD (p - 1) [])) → K va σ₂) →
        (wIf (w2b ltV (w2 subW (wNm "parents") (wNm "k")) (wInt 0)) (wCall newL (wNil)) (w2 subW (wNm "rows") (w2 subW (wNm "parents") (wNm "k")))) (updl ρ "k" (.int i)) σ' K (fun _ => False) := by
      intro K k
      by_cases hp0 : p = 0
      · subst hp0
        simp only [wSeq, wAsg, w2, w2b, subW, wNm, wInt, opt, updl_eq, bindP_cons, ↓String.reduceEq, ↓reduceIte, reduceCtorEq, i2, c2, ltV, gtV, geV, shrV, wDone, wBrk, wCont, wSet, setW, wIte, wExpr, notRef, wRet, wCall, wCons, wNil, true_and, lenV, mulSV, addV, wAndB, wNot, wTrueB, wOrB, wTru, wMethL, getL, appendV, popV, truthW, wStr, wNone, wBool, typeV, isV, wTyp, wFailS, wFailA, wFailB, wFailE, wFalseB, newL, newT, wSlStr, eqV, neV, wMethS, splitV, joinV, wAsgT, tgN, bindAll, tg1, wItVal, wItRev, wItRange, wOrV, wIf, wAttr, getI, startsV, inV, ninV, wItSet, wNeg, wAug, wAsg2, retv, powV, andV, fdivV, modV, sumV, minV, maxV, sortedV, h1, ht', hix, show decide (((0 : Nat) : Int) - 1 < 0) = true by decide]
        refine ⟨hpl, by simp [lim], fun a ha => ?_⟩
        exact k _ _ (h4.step ha _) (upd_get h5 ha) (fun v row hr => hr.ext (Ext.new ha _)) ⟨a, rfl, upd_self ..⟩
      · have : idx refs ((p : Int) - 1) = refs[p - 1]? := by
          rw [show ((p : Int) - 1) = ((p - 1 : Nat) : Int) by omega]
          unfold idx
          rw [if_pos (by omega), Int.toNat_natCast]
        obtain ⟨row, hrow⟩ : ∃ row, (rowsF [] (ps.take i))[p - 1]? = some row := ⟨_, List.getElem?_eq_getElem (by rw [hrl]; omega)⟩
        obtain ⟨v, hv1, hv2⟩ := h6.get hrow
        simp only [wSeq, wAsg, w2, w2b, subW, wNm, wInt, opt, updl_eq, bindP_cons, ↓String.reduceEq, ↓reduceIte, reduceCtorEq, i2, c2, ltV, gtV, geV, shrV, wDone, wBrk, wCont, wSet, setW, wIte, wExpr, notRef, wRet, wCall, wCons, wNil, true_and, lenV, mulSV, addV, wAndB, wNot, wTrueB, wOrB, wTru, wMethL, getL, appendV, popV, truthW, wStr, wNone, wBool, typeV, isV, wTyp, wFailS, wFailA, wFailB, wFailE, wFalseB, newL, newT, wSlStr, eqV, neV, wMethS, splitV, joinV, wAsgT, tgN, bindAll, tg1, wItVal, wItRev, wItRange, wOrV, wIf, wAttr, getI, startsV, inV, ninV, wItSet, wNeg, wAug, wAsg2, retv, powV, andV, fdivV, modV, sumV, minV, maxV, sortedV, h1, h3, h5, ht', hix, this, hv1, show decide (((p : Nat) : Int) - 1 < 0) = false by exact decide_eq_false (by omega), Bool.false_eq_true]
        refine ⟨hpl, hpl, by omega, ?_⟩
        refine k _ _ h4 h5 (fun _ _ h => h) ?_
        rw [if_neg hp0, List.getD_eq_getElem?_getD, hrow]
        exact hv2.1
    refine ab _ fun σ₂ va hE2 hrs2 hkeep hva => ?_
    subst hR
    refine seq_cut fun R hR => ?_
    obtain ⟨aa, rfl, haa⟩ := hva
    have hb := hE2.get hpa1
    simp only [wSeq, wAsg, w2, w2b, subW, wNm, wInt, opt, updl_eq, bindP_cons, ↓String.reduceEq, ↓reduceIte, reduceCtorEq, i2, c2, ltV, gtV, geV, shrV, wDone, wBrk, wCont, wSet, setW, wIte, wExpr, notRef, wRet, wCall, wCons, wNil, true_and, lenV, mulSV, addV, wAndB, wNot, wTrueB, wOrB, wTru, wMethL, getL, appendV, popV, truthW, wStr, wNone, wBool, typeV, isV, wTyp, wFailS, wFailA, wFailB, wFailE, wFalseB, newL, newT, wSlStr, eqV, neV, wMethS, splitV, joinV, wAsgT, tgN, bindAll, tg1, wItVal, wItRev, wItRange, wOrV, wIf, wAttr, getI, startsV, inV, ninV, wItSet, wNeg, wAug, wAsg2, retv, powV, andV, fdivV, modV, sumV, minV, maxV, sortedV, h1, h2, h3, hrs2, hb, hpx]
    refine ⟨by simp, by simp [lim], fun b hb0 => ?_⟩
    have hapl : (rowV (if p = 0 then [] else (rowsF [] (ps.take i)).getD (p - 1) [])).length ≤ 6 := by
      unfold rowV
      rw [List.length_map]
      by_cases hp0 : p = 0
      · rw [if_pos hp0]; simp
      · rw [if_neg hp0]
        have hg := List.getElem?_eq_getElem (show p - 1 < (rowsF [] (ps.take i)).length by omega)
        have := (rowsF_ok hp i (by omega) _ _ hg).2.1
        rw [List.getD_eq_getElem?_getD, hg]
        simp only [Option.getD_some]
        omega
    simp only [wSeq, wAsg, w2, w2b, subW, wNm, wInt, opt, updl_eq, bindP_cons, ↓String.reduceEq, ↓reduceIte, reduceCtorEq, i2, c2, ltV, gtV, geV, shrV, wDone, wBrk, wCont, wSet, setW, wIte, wExpr, notRef, wRet, wCall, wCons, wNil, true_and, lenV, mulSV, addV, wAndB, wNot, wTrueB, wOrB, wTru, wMethL, getL, appendV, popV, truthW, wStr, wNone, wBool, typeV, isV, wTyp, wFailS, wFailA, wFailB, wFailE, wFalseB, newL, newT, wSlStr, eqV, neV, wMethS, splitV, joinV, wAsgT, tgN, bindAll, tg1, wItVal, wItRev, wItRange, wOrV, wIf, wAttr, getI, startsV, inV, ninV, wItSet, wNeg, wAug, wAsg2, retv, powV, andV, fdivV, modV, sumV, minV, maxV, sortedV, upd_get haa hb0, upd_self]
    refine ⟨by rw [List.length_append]; simp only [List.length_singleton, lim]; omega, fun c hc => ?_⟩
    have hrs3 := upd_get (o' := .list [V.str (partS i)]) hrs2 hb0
    have hrs4 := upd_get (o' := .list (rowV (if p = 0 then [] else (rowsF [] (ps.take i)).getD (p - 1) []) ++ [V.str (partS i)])) hrs3 hc
    simp only [wSeq, wAsg, w2, w2b, subW, wNm, wInt, opt, updl_eq, bindP_cons, ↓String.reduceEq, ↓reduceIte, reduceCtorEq, i2, c2, ltV, gtV, geV, shrV, wDone, wBrk, wCont, wSet, setW, wIte, wExpr, notRef, wRet, wCall, wCons, wNil, true_and, lenV, mulSV, addV, wAndB, wNot, wTrueB, wOrB, wTru, wMethL, getL, appendV, popV, truthW, wStr, wNone, wBool, typeV, isV, wTyp, wFailS, wFailA, wFailB, wFailE, wFalseB, newL, newT, wSlStr, eqV, neV, wMethS, splitV, joinV, wAsgT, tgN, bindAll, tg1, wItVal, wItRev, wItRange, wOrV, wIf, wAttr, getI, startsV, inV, ninV, wItSet, wNeg, wAug, wAsg2, retv, powV, andV, fdivV, modV, sumV, minV, maxV, sortedV, hrs4]
    refine ⟨by omega, ?_⟩
    subst hR
    simp only [wSeq, wAsg, w2, w2b, subW, wNm, wInt, opt, updl_eq, bindP_cons, ↓String.reduceEq, ↓reduceIte, reduceCtorEq, i2, c2, ltV, gtV, geV, shrV, wDone, wBrk, wCont, wSet, setW, wIte, wExpr, notRef, wRet, wCall, wCons, wNil, true_and, lenV, mulSV, addV, wAndB, wNot, wTrueB, wOrB, wTru, wMethL, getL, appendV, popV, truthW, wStr, wNone, wBool, typeV, isV, wTyp, wFailS, wFailA, wFailB, wFailE, wFalseB, newL, newT, wSlStr, eqV, neV, wMethS, splitV, joinV, wAsgT, tgN, bindAll, tg1, wItVal, wItRev, wItRange, wOrV, wIf, wAttr, getI, startsV, inV, ninV, wItSet, wNeg, wAug, wAsg2, retv, powV, andV, fdivV, modV, sumV, minV, maxV, sortedV, h1, h2, h3]
    have hE4 := (hE2.step hb0 (.list [V.str (partS i)])).step hc (.list (rowV (if p = 0 then [] else (rowsF [] (ps.take i)).getD (p - 1) []) ++ [V.str (partS i)]))
    refine ⟨hE4.put hrs _, refs ++ [.ref c], upd_self .., ?_⟩
    rw [take_snoc hpi, rowsF_snoc]
    have hcr : c ≠ rs := fun e => by rw [e, hrs3] at hc; cases hc
    refine All2.snoc (h6.imp fun v row hv => ?_) ⟨⟨c, rfl, ?_⟩, by intro e; cases e; exact hcr rfl⟩
    · obtain ⟨a, ha1, ha2⟩ := hkeep v row hv.1
      refine ⟨⟨a, ha1, ?_⟩, hv.2⟩
      have ha3 := upd_get (o' := .list (rowV (if p = 0 then [] else (rowsF [] (ps.take i)).getD (p - 1) []) ++ [V.str (partS i)])) (upd_get (o' := .list [V.str (partS i)]) ha2 hb0) hc
      rw [upd_ne _ _ (fun e => hv.2 (by rw [ha1, e])), ha3]
    · rw [upd_ne _ _ hcr, upd_self, hrl]
      unfold rowV
      simp
  · rintro ρ σ' ⟨h1, h2, h3, h4, refs, h5, h6⟩
    refine ⟨vals_range, ?_⟩
    subst hR
    simp only [wSeq, wAsg, w2, w2b, subW, wNm, wInt, opt, updl_eq, bindP_cons, ↓String.reduceEq, ↓reduceIte, reduceCtorEq, i2, c2, ltV, gtV, geV, shrV, wDone, wBrk, wCont, wSet, setW, wIte, wExpr, notRef, wRet, wCall, wCons, wNil, true_and, lenV, mulSV, addV, wAndB, wNot, wTrueB, wOrB, wTru, wMethL, getL, appendV, popV, truthW, wStr, wNone, wBool, typeV, isV, wTyp, wFailS, wFailA, wFailB, wFailE, wFalseB, newL, newT, wSlStr, eqV, neV, wMethS, splitV, joinV, wAsgT, tgN, bindAll, tg1, wItVal, wItRev, wItRange, wOrV, wIf, wAttr, getI, startsV, inV, ninV, wItSet, wNeg, wAug, wAsg2, retv, powV, andV, fdivV, modV, sumV, minV, maxV, sortedV, h3]
    rw [rangeV_len, List.take_of_length_le (Nat.le_refl _)] at h6
    exact q σ' rs refs (hE1.trans h4) h5 (h6.imp fun _ _ h => h.1)
end Mine
end

section
open PySem PySem.W PyProof.Rows PySem.Builtin PySem.Builtin.Str
set_option maxRecDepth 100000
set_option maxHeartbeats 4000000
set_option linter.unusedSimpArgs false
namespace Mine
theorem partS_ok : ∀ k : Fin 6, 1 ≤ (partS k).length ∧ (partS k).length ≤ 3 ∧ 47 ∉ cs (partS k) ∧ 46 ∉ cs (partS k) := by decide +kernel
theorem partS_inj : ∀ i j : Fin 6, partS i = partS j → i = j := by decide +kernel
/-- one row -/
structure RowOk (row : List Nat) : Prop where
  ne : row ≠ []
  len : row.length ≤ 6
  lt : ∀ i ∈ row, i < 6
theorem RowOk.sum {row : List Nat} (h : ∀ i ∈ row, i < 6) : ((row.map partS).map (·.length)).sum ≤ 3 * row.length := by
  induction row with
  | nil => simp
  | cons a r ih =>
    have := (partS_ok ⟨a, h a (.head _)⟩).2.1
    simp only [List.map_cons, List.sum_cons, List.length_cons]
    have := ih fun i hi => h i (.tail _ hi)
    simp only at *
    omega
theorem RowOk.parts {row : List Nat} (h : RowOk row) : Parts (row.map partS) := by
  refine ⟨by have := h.ne; simpa using this, fun t ht => ?_, fun t ht => ?_, fun t ht => ?_, ?_⟩
  · obtain ⟨i, hi, rfl⟩ := List.mem_map.mp ht; exact (partS_ok ⟨i, h.lt i hi⟩).2.2.1
  · obtain ⟨i, hi, rfl⟩ := List.mem_map.mp ht; exact (partS_ok ⟨i, h.lt i hi⟩).2.2.2
  · obtain ⟨i, hi, rfl⟩ := List.mem_map.mp ht; exact (partS_ok ⟨i, h.lt i hi⟩).1
  · have := RowOk.sum h.lt
    have := h.len
    simp only [List.length_map]
    omega
theorem rowV_eq (row : List Nat) : rowV row = (row.map partS).map V.str := by unfold rowV; rw [List.map_map]; rfl
noncomputable def dotS (row : List Nat) : Str := Str.join (sg 46) (row.map partS)
noncomputable def slashS (row : List Nat) : Str := Str.join (sg 47) (row.map partS)
noncomputable def rMods (k : Nat) (row : List Nat) : List Str := if k % 2 = 0 then [dotS row] else []
noncomputable def rDirs (k : Nat) (row : List Nat) : List Str := if k % 2 = 0 then [] else [slashS row]
theorem fmod_nat (k m : Nat) : (k : Int).fmod (m : Int) = ((k % m : Nat) : Int) := by
  rw [Int.fmod_eq_emod_of_nonneg _ (by omega)]; exact (Int.natCast_emod k m).symm
theorem spec_law_reader {σ : Sto} {a : Addr} {k : Nat} {row : List Nat} {Q : V → Sto → Prop} (ha : σ a = some (.list (rowV row))) (hr : RowOk row)
    (q : ∀ σ' x g, Ext σ σ' → σ x = none → σ g = none → σ' g = some (.ds 1 strInit) → Rdr σ' x g (rMods k row) (rDirs k row) → Q (.ref x) σ') : T__law_reader [.int k, .ref a] σ Q := by
  refine ⟨rfl, ?_⟩
  unfold W__law_reader
  have hp := hr.parts
  have hd : Txt.join (Str.ofString ".") (row.map partS) = dotS row := by rw [join_eq, dot_eq]; rfl
  have hs : Txt.join (Str.ofString "/") (row.map partS) = slashS row := by rw [join_eq, slash_eq]; rfl
  have hfew := hp.few
  have hm := fmod_nat k 2
  refine seq_cut fun R hR => ?_
  by_cases hk : k % 2 = 0
  · refine ite_T σ (fun K k => by simp only [wSeq, wAsg, w2, w2b, subW, wNm, wInt, opt, updl_eq, bindP_cons, ↓String.reduceEq, ↓reduceIte, reduceCtorEq, i2, c2, ltV, gtV, geV, shrV, wDone, wBrk, wCont, wSet, setW, wIte, wExpr, notRef, wRet, wCall, wCons, wNil, true_and, lenV, mulSV, addV, wAndB, wNot, wTrueB, wOrB, wTru, wMethL, getL, appendV, popV, truthW, wStr, wNone, wBool, typeV, isV, wTyp, wFailS, wFailA, wFailB, wFailE, wFalseB, newL, newT, wSlStr, eqV, neV, wMethS, splitV, joinV, wAsgT, tgN, bindAll, tg1, wItVal, wItRev, wItRange, wOrV, wIf, wAttr, getI, startsV, inV, ninV, wItSet, wNeg, wAug, wAsg2, retv, powV, andV, fdivV, modV, sumV, minV, maxV, sortedV]; refine ⟨by decide, ?_⟩; rw [show (2 : Int) = ((2 : Nat) : Int) from rfl, hm, hk]; exact k) ?_
    refine seq_cut fun R2 hR2 => ?_
    simp only [wSeq, wAsg, w2, w2b, subW, wNm, wInt, opt, updl_eq, bindP_cons, ↓String.reduceEq, ↓reduceIte, reduceCtorEq, i2, c2, ltV, gtV, geV, shrV, wDone, wBrk, wCont, wSet, setW, wIte, wExpr, notRef, wRet, wCall, wCons, wNil, true_and, lenV, mulSV, addV, wAndB, wNot, wTrueB, wOrB, wTru, wMethL, getL, appendV, popV, truthW, wStr, wNone, wBool, typeV, isV, wTyp, wFailS, wFailA, wFailB, wFailE, wFalseB, newL, newT, wSlStr, eqV, neV, wMethS, splitV, joinV, wAsgT, tgN, bindAll, tg1, wItVal, wItRev, wItRange, wOrV, wIf, wAttr, getI, startsV, inV, ninV, wItSet, wNeg, wAug, wAsg2, retv, powV, andV, fdivV, modV, sumV, minV, maxV, sortedV, ha]
    refine ⟨row.map partS, by rw [rowV_eq], by rw [dot_eq]; exact joinOk_sg (by omega), by simp [lim], fun b hb => ⟨by simp [lim], fun c hc => ?_⟩⟩
    rw [hd] at hc ⊢
    refine spec_mk (mods := [dotS row]) (dirs := []) (upd_get (upd_self ..) hc) (upd_self ..) (.inr ⟨_, rfl⟩) (.inl rfl) fun σ' x g h1 h2 h3 h4 h5 => ?_
    have hE : Ext σ (upd (upd σ b (.list [.str (dotS row)])) c (.list [])) := (Ext.new hb _).step hc _
    refine q σ' x g (hE.trans h1) (hE.non h2) (hE.non h3) h4 ?_
    unfold rMods rDirs
    rw [if_pos hk, if_pos hk]; exact h5
  · refine ite_F σ (fun K k => by
      simp only [wSeq, wAsg, w2, w2b, subW, wNm, wInt, opt, updl_eq, bindP_cons, ↓String.reduceEq, ↓reduceIte, reduceCtorEq, i2, c2, ltV, gtV, geV, shrV, wDone, wBrk, wCont, wSet, setW, wIte, wExpr, notRef, wRet, wCall, wCons, wNil, true_and, lenV, mulSV, addV, wAndB, wNot, wTrueB, wOrB, wTru, wMethL, getL, appendV, popV, truthW, wStr, wNone, wBool, typeV, isV, wTyp, wFailS, wFailA, wFailB, wFailE, wFalseB, newL, newT, wSlStr, eqV, neV, wMethS, splitV, joinV, wAsgT, tgN, bindAll, tg1, wItVal, wItRev, wItRange, wOrV, wIf, wAttr, getI, startsV, inV, ninV, wItSet, wNeg, wAug, wAsg2, retv, powV, andV, fdivV, modV, sumV, minV, maxV, sortedV]; refine ⟨by decide, ?_⟩; rw [show (2 : Int) = ((2 : Nat) : Int) from rfl, hm, show ((((_ : Nat) : Int)) == 0) = false from beq_eq_false_iff_ne.mpr (by omega)]; exact k) ?_
    simp only [wSeq, wAsg, w2, w2b, subW, wNm, wInt, opt, updl_eq, bindP_cons, ↓String.reduceEq, ↓reduceIte, reduceCtorEq, i2, c2, ltV, gtV, geV, shrV, wDone, wBrk, wCont, wSet, setW, wIte, wExpr, notRef, wRet, wCall, wCons, wNil, true_and, lenV, mulSV, addV, wAndB, wNot, wTrueB, wOrB, wTru, wMethL, getL, appendV, popV, truthW, wStr, wNone, wBool, typeV, isV, wTyp, wFailS, wFailA, wFailB, wFailE, wFalseB, newL, newT, wSlStr, eqV, neV, wMethS, splitV, joinV, wAsgT, tgN, bindAll, tg1, wItVal, wItRev, wItRange, wOrV, wIf, wAttr, getI, startsV, inV, ninV, wItSet, wNeg, wAug, wAsg2, retv, powV, andV, fdivV, modV, sumV, minV, maxV, sortedV]
    subst hR
    refine seq_cut fun R2 hR2 => ?_
    simp only [wSeq, wAsg, w2, w2b, subW, wNm, wInt, opt, updl_eq, bindP_cons, ↓String.reduceEq, ↓reduceIte, reduceCtorEq, i2, c2, ltV, gtV, geV, shrV, wDone, wBrk, wCont, wSet, setW, wIte, wExpr, notRef, wRet, wCall, wCons, wNil, true_and, lenV, mulSV, addV, wAndB, wNot, wTrueB, wOrB, wTru, wMethL, getL, appendV, popV, truthW, wStr, wNone, wBool, typeV, isV, wTyp, wFailS, wFailA, wFailB, wFailE, wFalseB, newL, newT, wSlStr, eqV, neV, wMethS, splitV, joinV, wAsgT, tgN, bindAll, tg1, wItVal, wItRev, wItRange, wOrV, wIf, wAttr, getI, startsV, inV, ninV, wItSet, wNeg, wAug, wAsg2, retv, powV, andV, fdivV, modV, sumV, minV, maxV, sortedV]
    refine ⟨by simp [lim], fun b hb => ?_⟩
    simp only [wSeq, wAsg, w2, w2b, subW, wNm, wInt, opt, updl_eq, bindP_cons, ↓String.reduceEq, ↓reduceIte, reduceCtorEq, i2, c2, ltV, gtV, geV, shrV, wDone, wBrk, wCont, wSet, setW, wIte, wExpr, notRef, wRet, wCall, wCons, wNil, true_and, lenV, mulSV, addV, wAndB, wNot, wTrueB, wOrB, wTru, wMethL, getL, appendV, popV, truthW, wStr, wNone, wBool, typeV, isV, wTyp, wFailS, wFailA, wFailB, wFailE, wFalseB, newL, newT, wSlStr, eqV, neV, wMethS, splitV, joinV, wAsgT, tgN, bindAll, tg1, wItVal, wItRev, wItRange, wOrV, wIf, wAttr, getI, startsV, inV, ninV, wItSet, wNeg, wAug, wAsg2, retv, powV, andV, fdivV, modV, sumV, minV, maxV, sortedV, upd_get ha hb]
    refine ⟨row.map partS, by rw [rowV_eq], by rw [slash_eq]; exact joinOk_sg (by omega), by simp [lim], fun c hc => ?_⟩
    rw [hs]
    refine spec_mk (mods := []) (dirs := [slashS row]) (upd_get (upd_self ..) hc) (upd_self ..) (.inl rfl) (.inr ⟨_, hp, rfl⟩) fun σ' x g h1 h2 h3 h4 h5 => ?_
    have hE : Ext σ (upd (upd σ b (.list [])) c (.list [.str (slashS row)])) := (Ext.new hb _).step hc _
    refine q σ' x g (hE.trans h1) (hE.non h2) (hE.non h3) h4 ?_
    unfold rMods rDirs
    rw [if_neg hk, if_neg hk]; exact h5
theorem partS_list_inj : ∀ {us ws : List Nat}, (∀ i ∈ us, i < 6) → (∀ i ∈ ws, i < 6) → (us.map partS <+: ws.map partS ↔ us <+: ws)
  | [], _, _, _ => by simp
  | u :: us, [], _, _ => by simp
  | u :: us, w :: ws, hu, hw => by
    rw [List.map_cons, List.map_cons, List.cons_prefix_cons, List.cons_prefix_cons, partS_list_inj (fun i hi => hu i (.tail _ hi)) (fun i hi => hw i (.tail _ hi))]
    refine and_congr ⟨fun e => ?_, fun e => by rw [e]⟩ Iff.rfl
    have := partS_inj ⟨u, hu u (.head _)⟩ ⟨w, hw w (.head _)⟩ e
    exact congrArg Fin.val this
theorem row_inj {us ws : List Nat} (hu : RowOk us) (hw : RowOk ws) (h : dotS us = dotS ws) : us = ws := by
  have h1 := (dotted_iff (c := 46) hu.parts.freeD hw.parts.freeD hu.parts.ne hw.parts.ne).mp (.inl h.symm)
  have h2 := (dotted_iff (c := 46) hw.parts.freeD hu.parts.freeD hw.parts.ne hu.parts.ne).mp (.inl h)
  rw [partS_list_inj hu.lt hw.lt] at h1
  rw [partS_list_inj hw.lt hu.lt] at h2
  exact h1.eq_of_length (Nat.le_antisymm h1.length_le h2.length_le)
/-- what reader k tells of row j -/
theorem ans_row {k : Nat} {us ws : List Nat} (hu : RowOk us) (hw : RowOk ws) : ansR (rMods k us) (rDirs k us) (slashS ws ++ Str.ofString "/x.py") (dotS ws) = us.isPrefixOf ws := by
  have h1 := dotted_iff (c := 46) hu.parts.freeD hw.parts.freeD hu.parts.ne hw.parts.ne
  have h2 := folder_iff (c := 47) (z := Str.ofString "x.py") hu.parts.free hw.parts.free (by decide +kernel) hu.parts.ne hw.parts.ne
  rw [partS_list_inj hu.lt hw.lt] at h1 h2
  rw [Bool.eq_iff_iff, List.isPrefixOf_iff_prefix]
  unfold ansR rMods rDirs
  by_cases hk : k % 2 = 0
  · rw [if_pos hk, if_pos hk, ← h1]
    simp only [List.any_cons, List.any_nil, Bool.or_false, Bool.or_eq_true, beq_iff_eq, dot_eq]
    unfold dotS
    exact or_congr ⟨Eq.symm, Eq.symm⟩ Iff.rfl
  · rw [if_neg hk, if_neg hk, ← h2]
    simp only [List.any_cons, List.any_nil, Bool.or_false, Bool.false_or, slash_eq, xpy_eq]
    rfl
theorem dot_ne_string {ws : List Nat} (hw : RowOk ws) : dotS ws ≠ Str.ofString "<string>" := by
  intro e
  have h1 := join_enc 46 _ hw.parts.ne
  rw [show Str.join (sg 46) (ws.map partS) = dotS ws from rfl, e] at h1
  have h0 : cs (Str.ofString "<string>") ++ [46] = [60, 115, 116, 114, 105, 110, 103, 62, 46] := by decide +kernel
  rw [h0] at h1
  cases ws with
  | nil => exact hw.ne rfl
  | cons a r =>
    have ha := hw.lt a (.head _)
    have : ∀ k : Fin 6, (cs (partS k)).head? ≠ some 60 ∧ cs (partS k) ≠ [] := by decide +kernel
    obtain ⟨g1, g2⟩ := this ⟨a, ha⟩
    simp only [enc, List.map_cons, List.flatMap_cons] at h1
    simp only at g1 g2
    cases hc : cs (partS a) with
    | nil => exact g2 hc
    | cons x y =>
      rw [hc] at h1 g1
      simp only [List.cons_append, List.cons.injEq] at h1
      exact g1 (by rw [← h1.1]; rfl)
end Mine
end

section
open PySem PySem.W PyProof.Rows PySem.Builtin PySem.Builtin.Str
set_option maxRecDepth 100000
set_option maxHeartbeats 4000000
set_option linter.unusedSimpArgs false
namespace Mine
/-- all but these stay -/
noncomputable def ExtG (G : Addr → Prop) (σ σ' : Sto) : Prop := (∀ b, ¬ G b → σ b ≠ none → σ' b = σ b) ∧ ∀ b, σ b ≠ none → σ' b ≠ none
theorem ExtG.refl (G : Addr → Prop) (σ : Sto) : ExtG G σ σ := ⟨fun _ _ _ => rfl, fun _ h => h⟩
theorem ExtG.trans {G : Addr → Prop} {σ σ' σ'' : Sto} (h : ExtG G σ σ') (g : ExtG G σ' σ'') : ExtG G σ σ'' :=
  ⟨fun b hb e => by rw [g.1 b hb (h.2 b e), h.1 b hb e], fun b e => g.2 b (h.2 b e)⟩
theorem ExtG.get {G : Addr → Prop} {σ σ' : Sto} (h : ExtG G σ σ') {a : Addr} {o : O} (e : σ a = some o) (hg : ¬ G a) : σ' a = some o := by rw [h.1 a hg (by rw [e]; simp), e]
theorem ExtG.non {G : Addr → Prop} {σ σ' : Sto} (h : ExtG G σ σ') {a : Addr} (e : σ' a = none) : σ a = none := by
  cases g : σ a with
  | none => rfl
  | some o => exact absurd e (h.2 a (by rw [g]; simp))
theorem ExtG.put {G : Addr → Prop} {σ σ' : Sto} (h : ExtG G σ σ') {a : Addr} (e : σ a = none) (o : O) : ExtG G σ (upd σ' a o) :=
  ⟨fun b hb hn => by rw [upd_ne _ _ (fun q => hn (by rw [q, e]))]; exact h.1 b hb hn, fun b hn => by rw [upd_ne _ _ (fun q => hn (by rw [q, e]))]; exact h.2 b hn⟩
theorem ExtG.step {G : Addr → Prop} {σ σ' : Sto} (h : ExtG G σ σ') {a : Addr} (e : σ' a = none) (o : O) : ExtG G σ (upd σ' a o) := h.put (h.non e) o
noncomputable def tellF (rows : List (List Nat)) (k j : Nat) : Bool := (rows.getD k []).isPrefixOf (rows.getD j [])
noncomputable abbrev Gs (n : Nat) (g : Nat → Addr) : Addr → Prop := fun b => ∃ k, k < n ∧ b = g k
/-- the readers, at rest -/
structure RdS (σ : Sto) (rows : List (List Nat)) (rds : List V) (g : Nat → Addr) : Prop where
  rok : ∀ row ∈ rows, RowOk row
  len : rds.length = rows.length
  rd : ∀ k, k < rows.length → ∃ x, rds[k]? = some (.ref x) ∧ Rdr σ x (g k) (rMods k (rows.getD k [])) (rDirs k (rows.getD k []))
  inj : ∀ k l, k < rows.length → l < rows.length → g k = g l → k = l
  ds : ∀ k, k < rows.length → ∃ m f, σ (g k) = some (.ds m f)
/-- what they remember is right -/
noncomputable def CacheOk (σ : Sto) (rows : List (List Nat)) (g : Nat → Addr) (B : Nat) : Prop := ∀ k, k < rows.length → ∃ m f, σ (g k) = some (.ds m f) ∧ m ≤ B ∧
  ∀ s v, f s = some v → s = Str.ofString "<string>" ∨ ∃ j, j < rows.length ∧ s = dotS (rows.getD j []) ∧ v = .int (if tellF rows k j then 1 else 0)
theorem CacheOk.upd {σ : Sto} {rows : List (List Nat)} {g : Nat → Addr} {B : Nat} (h : CacheOk σ rows g B) {a : Addr} (ha : ¬ Gs rows.length g a) (o : O) : CacheOk (upd σ a o) rows g B := fun k hk => by
  obtain ⟨m, f, h1, h2⟩ := h k hk
  exact ⟨m, f, by rw [upd_ne _ _ (fun e => ha ⟨k, hk, e.symm⟩), h1], h2⟩
theorem CacheOk.mono {σ : Sto} {rows : List (List Nat)} {g : Nat → Addr} {B B' : Nat} (h : CacheOk σ rows g B) (hb : B ≤ B') : CacheOk σ rows g B' := fun k hk => by
  obtain ⟨m, f, h1, h2, h3⟩ := h k hk
  exact ⟨m, f, h1, by omega, h3⟩
theorem CacheOk.notG {σ : Sto} {rows : List (List Nat)} {g : Nat → Addr} {B : Nat} (h : CacheOk σ rows g B) {a : Addr} (ha : ∀ m f, σ a ≠ some (.ds m f)) : ¬ Gs rows.length g a := by
  rintro ⟨k, hk, rfl⟩
  obtain ⟨m, f, h1, _⟩ := h k hk
  exact ha m f h1
theorem CacheOk.ext {σ σ' : Sto} {rows : List (List Nat)} {g : Nat → Addr} {B : Nat} (h : CacheOk σ rows g B) (he : Ext σ σ') : CacheOk σ' rows g B := fun k hk => by
  obtain ⟨m, f, h1, h2⟩ := h k hk
  exact ⟨m, f, he.get h1, h2⟩
theorem RdS.notG {σ : Sto} {rows : List (List Nat)} {rds : List V} {g : Nat → Addr} (h : RdS σ rows rds g) {a : Addr} (ha : ∀ m f, σ a ≠ some (.ds m f)) : ¬ Gs rows.length g a := by
  rintro ⟨k, hk, rfl⟩
  obtain ⟨m, f, h1⟩ := h.ds k hk
  exact ha m f h1
theorem Rdr.extG {G : Addr → Prop} {σ σ' : Sto} (h : ExtG G σ σ') (hg : ∀ a, (∀ m f, σ a ≠ some (.ds m f)) → ¬ G a) {x g : Addr} {mods dirs : List Str} (r : Rdr σ x g mods dirs) : Rdr σ' x g mods dirs := by
  obtain ⟨d, k, F, m, l, ep, t, h1, h2, h3, h4, h5, h6, h7, h8⟩ := r
  exact ⟨d, k, F, m, l, ep, t, h.get h1 (hg _ (by simp [h1])), h.get h2 (hg _ (by simp [h2])), h3, h4, h5, h6, h.get h7 (hg _ (by simp [h7])), h.get h8 (hg _ (by simp [h8]))⟩
theorem getD_mem {rows : List (List Nat)} {k : Nat} (h : k < rows.length) : rows.getD k [] ∈ rows := by
  rw [List.getD_eq_getElem?_getD, List.getElem?_eq_getElem h]; exact List.getElem_mem h
noncomputable def fileS (row : List Nat) : Str := slashS row ++ Str.ofString "/x.py"
theorem slashS_len {row : List Nat} (h : RowOk row) : (slashS row).length ≤ 1000 := h.parts.join_len 47
theorem dotS_len {row : List Nat} (h : RowOk row) : (dotS row).length ≤ 1000 := h.parts.join_len 46
theorem names_call {σ₁ σ : Sto} {rows : List (List Nat)} {rds : List V} {g : Nat → Addr} {B k j : Nat} {x : Addr} {Q : V → Sto → Prop} (S : RdS σ₁ rows rds g) (hE : ExtG (Gs rows.length g) σ₁ σ) (hc : CacheOk σ rows g B) (hB : B ≤ 100000)
    (hk : k < rows.length) (hj : j < rows.length) (hx : rds[k]? = some (.ref x))
    (q : ∀ σ', ExtG (Gs rows.length g) σ σ' → CacheOk σ' rows g (B + 1) → Q (.int (if tellF rows k j then 1 else 0)) σ') :
    T_names [.ref x, .str (fileS (rows.getD j [])), .str (dotS (rows.getD j []))] σ Q := by
  have hrk := S.rok _ (getD_mem hk)
  have hrj := S.rok _ (getD_mem hj)
  obtain ⟨x', hx', hr⟩ := S.rd k hk
  rw [hx] at hx'
  cases hx'
  obtain ⟨m, f, h1, h2, h3⟩ := hc k hk
  have hans := ans_row (k := k) hrk hrj
  refine spec_names (hr.extG hE fun a ha => S.notG ha) h1 (by omega) ?_ ?_ ?_ ?_
  · intro m hm
    unfold rMods at hm
    split at hm
    · rw [List.mem_singleton.mp hm]; exact dotS_len hrk
    · cases hm
  · intro m hm
    unfold rDirs at hm
    split at hm
    · cases hm
    · rw [List.mem_singleton.mp hm]; exact slashS_len hrk
  · intro v hv
    rcases h3 _ v hv with e | ⟨j', hj', e, rfl⟩
    · exact absurd e (dot_ne_string hrj)
    · have hrj' := S.rok _ (getD_mem hj')
      have e2 := row_inj hrj hrj' e
      have : tellF rows k j' = tellF rows k j := by unfold tellF; rw [e2]
      rw [this]
      exact q σ (.refl _ _) (hc.mono (by omega))
  · intro hn
    unfold fileS
    rw [hans]
    have hne : ∀ l, l < rows.length → l ≠ k → g l ≠ g k := fun l hl h e => h (S.inj l k hl hk e)
    refine q _ ⟨fun b hb _ => upd_ne _ _ (fun e => hb ⟨k, hk, e⟩), fun b hb => ?_⟩ fun l hl => ?_
    · by_cases e : b = g k
      · rw [e, upd_self]; simp
      · rw [upd_ne _ _ e]; exact hb
    · by_cases e : l = k
      · subst e
        refine ⟨_, _, upd_self .., by omega, fun s v hs => ?_⟩
        by_cases es : s = dotS (rows.getD j [])
        · rw [if_pos es] at hs
          cases hs
          exact .inr ⟨j, hj, es, rfl⟩
        · rw [if_neg es] at hs
          exact h3 s v hs
      · obtain ⟨m', f', g1, g2, g3⟩ := hc l hl
        exact ⟨m', f', by rw [upd_ne _ _ (hne l hl e), g1], by omega, g3⟩
theorem restr_of {fv : List String} {ρ : Loc} {x : String} {o : Option V} (h : ρ x = o) (hx : fv.contains x = true) : restr fv ρ x = o := by unfold restr; rw [if_pos hx, h]
noncomputable def natV (k : Nat) : V := .int (k : Int)
/-- the modules that stay, with reader k asked -/
noncomputable def stayF (rows : List (List Nat)) (kp : List Nat) (k : Nat) : List Nat := (kp.filter fun j => !tellF rows k j).map (2 ^ ·)
theorem stay_comp {σ₁ σ : Sto} {rows : List (List Nat)} {rds : List V} {g : Nat → Addr} {B k : Nat} {kp : List Nat} {fa da ra ka : Addr} {ρ : Loc} {Q : V → Sto → Prop} {X : Sto → Prop} (S : RdS σ₁ rows rds g) (hE : ExtG (Gs rows.length g) σ₁ σ) (hc : CacheOk σ rows g B) (hB : B ≤ 50000)
    (hk : k < rows.length) (hn : rows.length ≤ 6) (hkp : ∀ j ∈ kp, j < rows.length) (hkl : kp.length ≤ 6)
    (r1 : ρ "files" = some (.ref fa)) (r2 : ρ "dotted" = some (.ref da)) (r3 : ρ "readers" = some (.ref ra)) (r4 : ρ "k" = some (.int k)) (r5 : ρ "kept" = some (.ref ka))
    (s1 : σ fa = some (.list (rows.map fun r => V.str (fileS r)))) (s2 : σ da = some (.list (rows.map fun r => V.str (dotS r)))) (s3 : σ ra = some (.list rds)) (s4 : σ ka = some (.list (kp.map natV)))
    (q : ∀ σ' a, ExtG (Gs rows.length g) σ σ' → CacheOk σ' rows g (B + 6) → σ' a = none → Q (.ref a) (upd σ' a (.list ((stayF rows kp k).map natV)))) :
    wComp ["files", "dotted", "readers", "k"] (tg1 "j") (wItVal (wNm "kept")) (w2b eqV (wMethI cI "names" T_names (w2 subW (wNm "readers") (wNm "k")) (wCons (w2 subW (wNm "files") (wNm "j")) (wCons (w2 subW (wNm "dotted") (wNm "j")) (wNil)))) (wInt 0)) (w2 powV (wInt 2) (wNm "j")) ρ σ Q X := by
  refine comp_of (.list ka) (kp.map natV) σ (fun i out σ' => ExtG (Gs rows.length g) σ σ' ∧ CacheOk σ' rows g (B + i) ∧ out = (stayF rows (kp.take i) k).map natV) (fun K k => ?_) ⟨.refl _ _, hc, rfl⟩ ?_ ?_
  · simp only [wSeq, wAsg, w2, w2b, subW, wNm, wInt, opt, updl_eq, bindP_cons, ↓String.reduceEq, ↓reduceIte, reduceCtorEq, i2, c2, ltV, gtV, geV, shrV, wDone, wBrk, wCont, wSet, setW, wIte, wExpr, notRef, wRet, wCall, wCons, wNil, true_and, lenV, mulSV, addV, wAndB, wNot, wTrueB, wOrB, wTru, wMethL, getL, appendV, popV, truthW, wStr, wNone, wBool, typeV, isV, wTyp, wFailS, wFailA, wFailB, wFailE, wFalseB, newL, newT, wSlStr, eqV, neV, wMethS, splitV, joinV, wAsgT, tgN, bindAll, tg1, wItVal, wItRev, wItRange, wOrV, wIf, wAttr, getI, startsV, inV, ninV, wItSet, wNeg, wAug, wAsg2, retv, powV, andV, fdivV, modV, sumV, minV, maxV, sortedV, r5, s4]; exact k
  · rintro i v out σ' hv ⟨h1, h2, rfl⟩
    obtain ⟨j, hj, rfl⟩ := map_get hv
    have hik := (List.getElem?_eq_some_iff.mp hj).1
    have hjn := hkp j (List.mem_of_getElem? hj)
    have hnG : ∀ {a : Addr} {xs : List V}, σ a = some (.list xs) → ¬ Gs rows.length g a := fun e => hc.notG (by simp [e])
    have s1' := h1.get s1 (hnG s1)
    have s2' := h1.get s2 (hnG s2)
    have s3' := h1.get s3 (hnG s3)
    obtain ⟨x, hx, hr⟩ := S.rd k hk
    have hrow := List.getElem?_eq_getElem hjn
    have hrowD : rows[j] = rows.getD j [] := by rw [List.getD_eq_getElem?_getD, hrow]; rfl
    rw [hrowD] at hrow
    have i1 : idx (rows.map fun r => V.str (fileS r)) (j : Int) = some (.str (fileS (rows.getD j []))) := idx_map _ _ _ _ hrow
    have i2 : idx (rows.map fun r => V.str (dotS r)) (j : Int) = some (.str (dotS (rows.getD j []))) := idx_map _ _ _ _ hrow
    have i3 : idx rds (k : Int) = some (.ref x) := idx_get hx
    refine ⟨vals_list (h1.get s4 (hnG s4)), ?_, ?_⟩
    · rw [List.length_map]
      unfold stayF
      have := List.length_filter_le (fun j => !tellF rows k j) (kp.take i)
      rw [List.length_map]
      rw [List.length_take] at this
      omega
    have hr' := (hr.extG hE fun a ha => S.notG ha).extG h1 fun a ha => hc.notG ha
    have hr2 := hr'
    obtain ⟨d, kk, F, m, l, ep, t, g1, g2, g3, g4, g5, g6, g7, g8⟩ := hr2
    have f1 := restr_of (fv := ["files", "dotted", "readers", "k"]) r1 (by decide)
    have f2 := restr_of (fv := ["files", "dotted", "readers", "k"]) r2 (by decide)
    have f3 := restr_of (fv := ["files", "dotted", "readers", "k"]) r3 (by decide)
    have f4 := restr_of (fv := ["files", "dotted", "readers", "k"]) r4 (by decide)
    show w2b eqV _ _ _ _ _ _
    simp only [wSeq, wAsg, w2, w2b, subW, wNm, wInt, opt, updl_eq, bindP_cons, ↓String.reduceEq, ↓reduceIte, reduceCtorEq, i2, c2, ltV, gtV, geV, shrV, wDone, wBrk, wCont, wSet, setW, wIte, wExpr, notRef, wRet, wCall, wCons, wNil, true_and, lenV, mulSV, addV, wAndB, wNot, wTrueB, wOrB, wTru, wMethL, getL, appendV, popV, truthW, wStr, wNone, wBool, typeV, isV, wTyp, wFailS, wFailA, wFailB, wFailE, wFalseB, newL, newT, wSlStr, eqV, neV, wMethS, splitV, joinV, wAsgT, tgN, bindAll, tg1, wItVal, wItRev, wItRange, wOrV, wIf, wAttr, getI, startsV, inV, ninV, wItSet, wNeg, wAug, wAsg2, retv, powV, andV, fdivV, modV, sumV, minV, maxV, sortedV, wMethI, f1, f2, f3, f4, s1', s2', s3', i3, g1, g2, natV, i1, i2]
    refine ⟨by rw [S.len]; omega, g6, by rw [List.length_map]; omega, by rw [List.length_map]; omega, ?_⟩
    refine names_call S (hE.trans h1) h2 (by omega) hk hjn hx fun σ'' e1 e2 => ?_
    have hst : stayF rows (kp.take (i + 1)) k = stayF rows (kp.take i) k ++ (if tellF rows k j then [] else [2 ^ j]) := by
      unfold stayF
      rw [take_snoc hj, List.filter_append, List.map_append]
      cases ht : tellF rows k j <;> simp [ht]
    cases ht : tellF rows k j with
    | true =>
      rw [ht] at hst
      rw [if_pos rfl]
      dsimp only
      rw [if_neg (by decide)]
      exact ⟨h1.trans e1, e2, by rw [hst]; simp⟩
    | false =>
      rw [ht] at hst
      rw [if_neg (by decide)]
      dsimp only
      rw [if_pos (by decide)]
      refine ⟨by omega, by omega, h1.trans e1, e2, ?_⟩
      rw [hst, if_neg (by decide), List.map_append, Int.toNat_natCast]
      simp [natV]
  · rintro out σ' ⟨h1, h2, rfl⟩
    refine ⟨vals_list (h1.get s4 (hc.notG (by simp [s4]))), fun a ha => ?_⟩
    rw [List.length_map, List.take_length]
    exact q σ' a h1 (by rw [List.length_map] at h2; exact h2.mono (by omega)) ha
end Mine
end

section
open PySem PySem.W PyProof.Rows PySem.Builtin PySem.Builtin.Str
set_option maxRecDepth 100000
set_option maxHeartbeats 4000000
set_option linter.unusedSimpArgs false
namespace Mine
theorem natV_map (l : List Nat) : l.map natV = (l.map fun k : Nat => (k : Int)).map V.int := by rw [List.map_map]; rfl
theorem sum_cast (l : List Nat) : (l.map fun k : Nat => (k : Int)).sum = ((l.sum : Nat) : Int) := by
  induction l with
  | nil => rfl
  | cons a r ih => rw [List.map_cons, List.sum_cons, List.sum_cons, ih]; push_cast; rfl
noncomputable def restF (rows : List (List Nat)) (kp : List Nat) (k : Nat) : Nat := (stayF rows kp k).sum
theorem rests_loop {σ₁ σb : Sto} {rows : List (List Nat)} {rds : List V} {g : Nat → Addr} {B : Nat} {kp : List Nat} {fa da ra ka ri : Addr} {ρ : Loc} {Q : F → Loc → Sto → Prop} {X : Loc → Sto → Prop} (S : RdS σ₁ rows rds g) (hE : ExtG (Gs rows.length g) σ₁ σb)
    (hri : σb ri = none) (hc : CacheOk σb rows g B) (hB : B ≤ 10000)
    (hn : rows.length ≤ 6) (hkp : ∀ j ∈ kp, j < rows.length) (hkl : kp.length ≤ 6)
    (r1 : ρ "files" = some (.ref fa)) (r2 : ρ "dotted" = some (.ref da)) (r3 : ρ "readers" = some (.ref ra)) (r5 : ρ "kept" = some (.ref ka)) (r6 : ρ "rests" = some (.ref ri))
    (s1 : σb fa = some (.list (rows.map fun r => V.str (fileS r)))) (s2 : σb da = some (.list (rows.map fun r => V.str (dotS r)))) (s3 : σb ra = some (.list rds)) (s4 : σb ka = some (.list (kp.map natV)))
    (q : ∀ ρ' σ', (∀ y, y ≠ "k" → y ≠ "stay" → ρ' y = ρ y) → ExtG (Gs rows.length g) σb σ' → CacheOk σ' rows g (B + 36) → σ' ri = some (.list ((kp.map (restF rows kp)).map natV)) → Q .next ρ' σ') :
    wFor (tg1 "k") (wItVal (wNm "kept")) (wSeq (wAsg "stay" (wComp ["files", "dotted", "readers", "k"] (tg1 "j") (wItVal (wNm "kept")) (w2b eqV (wMethI cI "names" T_names (w2 subW (wNm "readers") (wNm "k")) (wCons (w2 subW (wNm "files") (wNm "j")) (wCons (w2 subW (wNm "dotted") (wNm "j")) (wNil)))) (wInt 0)) (w2 powV (wInt 2) (wNm "j"))))
      (wSeq (wExpr (wMethL appendV (wNm "rests") (wCons (wCall sumV (wCons (wNm "stay") (wNil))) (wNil)))) (wDone))) ρ (upd σb ri (.list [])) Q X := by
  have hG : ∀ {a : Addr} {xs : List V}, σb a = some (.list xs) → ¬ Gs rows.length g a := fun e => hc.notG (by simp [e])
  have hGr : ¬ Gs rows.length g ri := hc.notG (by simp [hri])
  refine for_of (.list ka) (kp.map natV) _ (fun i ρ' σ' => (∀ y, y ≠ "k" → y ≠ "stay" → ρ' y = ρ y) ∧ ExtG (Gs rows.length g) σb σ' ∧ CacheOk σ' rows g (B + 6 * i) ∧ σ' ri = some (.list (((kp.take i).map (restF rows kp)).map natV))) (fun K k => ?_)
    ⟨fun _ _ _ => rfl, (ExtG.refl _ _).step hri _, hc.upd hGr _, upd_self ..⟩ ?_ ?_
  · simp only [wSeq, wAsg, w2, w2b, subW, wNm, wInt, opt, updl_eq, bindP_cons, ↓String.reduceEq, ↓reduceIte, reduceCtorEq, i2, c2, ltV, gtV, geV, shrV, wDone, wBrk, wCont, wSet, setW, wIte, wExpr, notRef, wRet, wCall, wCons, wNil, true_and, lenV, mulSV, addV, wAndB, wNot, wTrueB, wOrB, wTru, wMethL, getL, appendV, popV, truthW, wStr, wNone, wBool, typeV, isV, wTyp, wFailS, wFailA, wFailB, wFailE, wFalseB, newL, newT, wSlStr, eqV, neV, wMethS, splitV, joinV, wAsgT, tgN, bindAll, tg1, wItVal, wItRev, wItRange, wOrV, wIf, wAttr, getI, startsV, inV, ninV, wItSet, wNeg, wAug, wAsg2, retv, powV, andV, fdivV, modV, sumV, minV, maxV, sortedV, r5, upd_get s4 hri]; exact k
  · rintro i v ρ' σ' hv ⟨h1, h2, h3, h4⟩
    obtain ⟨k, hk, rfl⟩ := map_get hv
    have hik := (List.getElem?_eq_some_iff.mp hk).1
    have hkn := hkp k (List.mem_of_getElem? hk)
    have r1' := (h1 "files" (by decide) (by decide)).trans r1
    have r2' := (h1 "dotted" (by decide) (by decide)).trans r2
    have r3' := (h1 "readers" (by decide) (by decide)).trans r3
    have r5' := (h1 "kept" (by decide) (by decide)).trans r5
    have r6' := (h1 "rests" (by decide) (by decide)).trans r6
    refine ⟨vals_list (h2.get s4 (hG s4)), ?_⟩
    refine seq_cut fun R hR => ?_
    refine stay_comp (k := k) (kp := kp) S (hE.trans h2) h3 (by omega) hkn hn hkp hkl (fa := fa) (da := da) (ra := ra) (ka := ka) ?_ ?_ ?_ ?_ ?_ (h2.get s1 (hG s1)) (h2.get s2 (hG s2)) (h2.get s3 (hG s3)) (h2.get s4 (hG s4)) fun σ3 a e1 e2 e3 => ?_
    · simp only [wSeq, wAsg, w2, w2b, subW, wNm, wInt, opt, updl_eq, bindP_cons, ↓String.reduceEq, ↓reduceIte, reduceCtorEq, i2, c2, ltV, gtV, geV, shrV, wDone, wBrk, wCont, wSet, setW, wIte, wExpr, notRef, wRet, wCall, wCons, wNil, true_and, lenV, mulSV, addV, wAndB, wNot, wTrueB, wOrB, wTru, wMethL, getL, appendV, popV, truthW, wStr, wNone, wBool, typeV, isV, wTyp, wFailS, wFailA, wFailB, wFailE, wFalseB, newL, newT, wSlStr, eqV, neV, wMethS, splitV, joinV, wAsgT, tgN, bindAll, tg1, wItVal, wItRev, wItRange, wOrV, wIf, wAttr, getI, startsV, inV, ninV, wItSet, wNeg, wAug, wAsg2, retv, powV, andV, fdivV, modV, sumV, minV, maxV, sortedV, r1']
    · simp only [wSeq, wAsg, w2, w2b, subW, wNm, wInt, opt, updl_eq, bindP_cons, ↓String.reduceEq, ↓reduceIte, reduceCtorEq, i2, c2, ltV, gtV, geV, shrV, wDone, wBrk, wCont, wSet, setW, wIte, wExpr, notRef, wRet, wCall, wCons, wNil, true_and, lenV, mulSV, addV, wAndB, wNot, wTrueB, wOrB, wTru, wMethL, getL, appendV, popV, truthW, wStr, wNone, wBool, typeV, isV, wTyp, wFailS, wFailA, wFailB, wFailE, wFalseB, newL, newT, wSlStr, eqV, neV, wMethS, splitV, joinV, wAsgT, tgN, bindAll, tg1, wItVal, wItRev, wItRange, wOrV, wIf, wAttr, getI, startsV, inV, ninV, wItSet, wNeg, wAug, wAsg2, retv, powV, andV, fdivV, modV, sumV, minV, maxV, sortedV, r2']
    · simp only [wSeq, wAsg, w2, w2b, subW, wNm, wInt, opt, updl_eq, bindP_cons, ↓String.reduceEq, ↓reduceIte, reduceCtorEq, i2, c2, ltV, gtV, geV, shrV, wDone, wBrk, wCont, wSet, setW, wIte, wExpr, notRef, wRet, wCall, wCons, wNil, true_and, lenV, mulSV, addV, wAndB, wNot, wTrueB, wOrB, wTru, wMethL, getL, appendV, popV, truthW, wStr, wNone, wBool, typeV, isV, wTyp, wFailS, wFailA, wFailB, wFailE, wFalseB, newL, newT, wSlStr, eqV, neV, wMethS, splitV, joinV, wAsgT, tgN, bindAll, tg1, wItVal, wItRev, wItRange, wOrV, wIf, wAttr, getI, startsV, inV, ninV, wItSet, wNeg, wAug, wAsg2, retv, powV, andV, fdivV, modV, sumV, minV, maxV, sortedV, r3']
    · simp only [wSeq, wAsg, w2, w2b, subW, wNm, wInt, opt, updl_eq, bindP_cons, ↓String.reduceEq, ↓reduceIte, reduceCtorEq, i2, c2, ltV, gtV, geV, shrV, wDone, wBrk, wCont, wSet, setW, wIte, wExpr, notRef, wRet, wCall, wCons, wNil, true_and, lenV, mulSV, addV, wAndB, wNot, wTrueB, wOrB, wTru, wMethL, getL, appendV, popV, truthW, wStr, wNone, wBool, typeV, isV, wTyp, wFailS, wFailA, wFailB, wFailE, wFalseB, newL, newT, wSlStr, eqV, neV, wMethS, splitV, joinV, wAsgT, tgN, bindAll, tg1, wItVal, wItRev, wItRange, wOrV, wIf, wAttr, getI, startsV, inV, ninV, wItSet, wNeg, wAug, wAsg2, retv, powV, andV, fdivV, modV, sumV, minV, maxV, sortedV]; rfl
    · simp only [wSeq, wAsg, w2, w2b, subW, wNm, wInt, opt, updl_eq, bindP_cons, ↓String.reduceEq, ↓reduceIte, reduceCtorEq, i2, c2, ltV, gtV, geV, shrV, wDone, wBrk, wCont, wSet, setW, wIte, wExpr, notRef, wRet, wCall, wCons, wNil, true_and, lenV, mulSV, addV, wAndB, wNot, wTrueB, wOrB, wTru, wMethL, getL, appendV, popV, truthW, wStr, wNone, wBool, typeV, isV, wTyp, wFailS, wFailA, wFailB, wFailE, wFalseB, newL, newT, wSlStr, eqV, neV, wMethS, splitV, joinV, wAsgT, tgN, bindAll, tg1, wItVal, wItRev, wItRange, wOrV, wIf, wAttr, getI, startsV, inV, ninV, wItSet, wNeg, wAug, wAsg2, retv, powV, andV, fdivV, modV, sumV, minV, maxV, sortedV, r5']
    subst hR
    refine seq_cut fun R hR => ?_
    have h5 := e1.get h4 (h3.notG (by simp [h4]))
    have har : a ≠ ri := fun e => by rw [e, h5] at e3; cases e3
    simp only [wSeq, wAsg, w2, w2b, subW, wNm, wInt, opt, updl_eq, bindP_cons, ↓String.reduceEq, ↓reduceIte, reduceCtorEq, i2, c2, ltV, gtV, geV, shrV, wDone, wBrk, wCont, wSet, setW, wIte, wExpr, notRef, wRet, wCall, wCons, wNil, true_and, lenV, mulSV, addV, wAndB, wNot, wTrueB, wOrB, wTru, wMethL, getL, appendV, popV, truthW, wStr, wNone, wBool, typeV, isV, wTyp, wFailS, wFailA, wFailB, wFailE, wFalseB, newL, newT, wSlStr, eqV, neV, wMethS, splitV, joinV, wAsgT, tgN, bindAll, tg1, wItVal, wItRev, wItRange, wOrV, wIf, wAttr, getI, startsV, inV, ninV, wItSet, wNeg, wAug, wAsg2, retv, powV, andV, fdivV, modV, sumV, minV, maxV, sortedV, r6', upd_get h5 e3, upd_self]
    refine ⟨_, by rw [natV_map], by simp; omega, ?_⟩
    subst hR
    simp only [wSeq, wAsg, w2, w2b, subW, wNm, wInt, opt, updl_eq, bindP_cons, ↓String.reduceEq, ↓reduceIte, reduceCtorEq, i2, c2, ltV, gtV, geV, shrV, wDone, wBrk, wCont, wSet, setW, wIte, wExpr, notRef, wRet, wCall, wCons, wNil, true_and, lenV, mulSV, addV, wAndB, wNot, wTrueB, wOrB, wTru, wMethL, getL, appendV, popV, truthW, wStr, wNone, wBool, typeV, isV, wTyp, wFailS, wFailA, wFailB, wFailE, wFalseB, newL, newT, wSlStr, eqV, neV, wMethS, splitV, joinV, wAsgT, tgN, bindAll, tg1, wItVal, wItRev, wItRange, wOrV, wIf, wAttr, getI, startsV, inV, ninV, wItSet, wNeg, wAug, wAsg2, retv, powV, andV, fdivV, modV, sumV, minV, maxV, sortedV]
    rw [sum_cast]
    refine ⟨fun y hy1 hy2 => by rw [if_neg hy2, if_neg hy1, h1 y hy1 hy2], ((h2.trans e1).step e3 _).put hri _, ?_, ?_⟩
    · have := (e2.upd (e2.notG (a := a) (by simp [e3])) (.list ((stayF rows kp k).map natV))).upd hGr (.list (List.map natV (List.map (restF rows kp) (List.take i kp)) ++ [V.int ((stayF rows kp k).sum : Nat)]))
      exact this.mono (by omega)
    · rw [upd_self, take_snoc hk, List.map_append, List.map_append]; rfl
  · rintro ρ' σ' ⟨h1, h2, h3, h4⟩
    rw [List.length_map, List.take_length] at h4
    rw [List.length_map] at h3
    exact ⟨vals_list (h2.get s4 (hG s4)), q ρ' σ' h1 h2 (h3.mono (by omega)) h4⟩
noncomputable def insD (x : Nat) : List Nat → List Nat
  | [] => [x]
  | y :: ys => if y < x then x :: y :: ys else y :: insD x ys
theorem insD_perm (x : Nat) : ∀ l, (insD x l).Perm (x :: l)
  | [] => .refl _
  | y :: ys => by
    unfold insD
    split
    · exact .refl _
    · exact ((insD_perm x ys).cons y).trans (.swap ..)
theorem insD_sorted (x : Nat) : ∀ l, l.Pairwise (· ≥ ·) → (insD x l).Pairwise (· ≥ ·)
  | [], _ => by simp [insD]
  | y :: ys, h => by
    unfold insD
    have h' := List.pairwise_cons.mp h
    split
    · rename_i hlt
      refine List.pairwise_cons.mpr ⟨fun z hz => ?_, h⟩
      rcases List.mem_cons.mp hz with e | e
      · omega
      · have := h'.1 z e; omega
    · rename_i hlt
      refine List.pairwise_cons.mpr ⟨fun z hz => ?_, insD_sorted x ys h'.2⟩
      rcases List.mem_cons.mp ((insD_perm x ys).mem_iff.mp hz) with e | e
      · omega
      · exact h'.1 z e
noncomputable def pushF : List Nat × List Nat → List Nat → List Nat × List Nat
  | s, [] => s
  | (w, sn), r :: rs => pushF (if sn.contains r then (w, sn) else (insD r w, sn ++ [r])) rs
theorem pushF_snoc : ∀ (rs : List Nat) (s : List Nat × List Nat) (r : Nat), pushF s (rs ++ [r]) = (if (pushF s rs).2.contains r then pushF s rs else (insD r (pushF s rs).1, (pushF s rs).2 ++ [r]))
  | [], (w, sn), r => rfl
  | r' :: rs, (w, sn), r => by
    rw [List.cons_append]
    unfold pushF
    rw [pushF_snoc rs]
noncomputable def negI (k : Nat) : Int := -(k : Int)
/-- the heap of what waits -/
structure HpOk (w : List Nat) (hl : List Int) : Prop where
  perm : hl.Perm (w.map negI)
  hp : IsHp hl
theorem push_loop {σ : Sto} {w sn rs : List Nat} {hl : List Int} {wa se ri : Addr} {ρ : Loc} {Q : F → Loc → Sto → Prop} {X : Loc → Sto → Prop} (hw : HpOk w hl) (hws : w.length + rs.length ≤ 800) (hss : sn.length + rs.length ≤ 800) (hne : wa ≠ se) (hrw : ri ≠ wa) (hrs : ri ≠ se)
    (r1 : ρ "waiting" = some (.ref wa)) (r2 : ρ "seen" = some (.ref se)) (r3 : ρ "rests" = some (.ref ri)) (s1 : σ wa = some (.list (hl.map V.int))) (s2 : σ se = some (.list (sn.map natV))) (s3 : σ ri = some (.list (rs.map natV)))
    (q : ∀ ρ' σ' hl', (∀ y, y ≠ "rest" → ρ' y = ρ y) → (∀ b, b ≠ wa → b ≠ se → σ' b = σ b) → HpOk (pushF (w, sn) rs).1 hl' → σ' wa = some (.list (hl'.map V.int)) → σ' se = some (.list ((pushF (w, sn) rs).2.map natV)) → Q .next ρ' σ') :
    wFor (tg1 "rest") (wItVal (wNm "rests")) (wSeq (wIte (w2b ninV (wNm "rest") (wNm "seen")) (wSeq (wExpr (wMethL appendV (wNm "seen") (wCons (wNm "rest") (wNil)))) (wSeq (wExpr (wCall T_heappush (wCons (wNm "waiting") (wCons (wNeg (wNm "rest")) (wNil))))) (wDone))) (wDone)) (wDone)) ρ σ Q X := by
  refine for_of (.list ri) (rs.map natV) _ (fun i ρ' σ' => (∀ y, y ≠ "rest" → ρ' y = ρ y) ∧ (∀ b, b ≠ wa → b ≠ se → σ' b = σ b) ∧ ∃ hl', HpOk (pushF (w, sn) (rs.take i)).1 hl' ∧ σ' wa = some (.list (hl'.map V.int)) ∧ σ' se = some (.list ((pushF (w, sn) (rs.take i)).2.map natV)) ∧
      (pushF (w, sn) (rs.take i)).1.length ≤ w.length + i ∧ (pushF (w, sn) (rs.take i)).2.length ≤ sn.length + i) (fun K k => ?_)
    ⟨fun _ _ => rfl, fun _ _ _ => rfl, hl, hw, s1, s2, Nat.le_refl _, Nat.le_refl _⟩ ?_ ?_
  · simp only [wSeq, wAsg, w2, w2b, subW, wNm, wInt, opt, updl_eq, bindP_cons, ↓String.reduceEq, ↓reduceIte, reduceCtorEq, i2, c2, ltV, gtV, geV, shrV, wDone, wBrk, wCont, wSet, setW, wIte, wExpr, notRef, wRet, wCall, wCons, wNil, true_and, lenV, mulSV, addV, wAndB, wNot, wTrueB, wOrB, wTru, wMethL, getL, appendV, popV, truthW, wStr, wNone, wBool, typeV, isV, wTyp, wFailS, wFailA, wFailB, wFailE, wFalseB, newL, newT, wSlStr, eqV, neV, wMethS, splitV, joinV, wAsgT, tgN, bindAll, tg1, wItVal, wItRev, wItRange, wOrV, wIf, wAttr, getI, startsV, inV, ninV, wItSet, wNeg, wAug, wAsg2, retv, powV, andV, fdivV, modV, sumV, minV, maxV, sortedV, r3, s3]; exact k
  · rintro i v ρ' σ' hv ⟨h1, h2, hl', h3, h4, h5, h6, h7⟩
    obtain ⟨r, hr, rfl⟩ := map_get hv
    have hir := (List.getElem?_eq_some_iff.mp hr).1
    have r1' := (h1 "waiting" (by decide)).trans r1
    have r2' := (h1 "seen" (by decide)).trans r2
    refine ⟨vals_list ((h2 ri hrw hrs).trans s3), ?_⟩
    rw [take_snoc hr, pushF_snoc]
    generalize pushF (w, sn) (rs.take i) = S at *
    obtain ⟨w', sn'⟩ := S
    dsimp only at *
    have hany : (sn'.map fun k : Nat => (k : Int)).any (· == (r : Int)) = sn'.contains r := by
      rw [List.any_map, List.contains_eq_any_beq, Bool.eq_iff_iff, List.any_eq_true, List.any_eq_true]
      constructor
      · rintro ⟨x, hx, hx2⟩; exact ⟨x, hx, by simp at hx2 ⊢; omega⟩
      · rintro ⟨x, hx, hx2⟩; exact ⟨x, hx, by simp at hx2 ⊢; omega⟩
    refine seq_cut fun R hR => ?_
    have hlen : hl'.length = w'.length := by rw [h3.perm.length_eq, List.length_map]
    cases hcn : sn'.contains r with
    | true =>
      refine ite_F σ' (fun K k => by simp only [wSeq, wAsg, w2, w2b, subW, wNm, wInt, opt, updl_eq, bindP_cons, ↓String.reduceEq, ↓reduceIte, reduceCtorEq, i2, c2, ltV, gtV, geV, shrV, wDone, wBrk, wCont, wSet, setW, wIte, wExpr, notRef, wRet, wCall, wCons, wNil, true_and, lenV, mulSV, addV, wAndB, wNot, wTrueB, wOrB, wTru, wMethL, getL, appendV, popV, truthW, wStr, wNone, wBool, typeV, isV, wTyp, wFailS, wFailA, wFailB, wFailE, wFalseB, newL, newT, wSlStr, eqV, neV, wMethS, splitV, joinV, wAsgT, tgN, bindAll, tg1, wItVal, wItRev, wItRange, wOrV, wIf, wAttr, getI, startsV, inV, ninV, wItSet, wNeg, wAug, wAsg2, retv, powV, andV, fdivV, modV, sumV, minV, maxV, sortedV, r2', natV]; refine ⟨_, by rw [h5, natV_map], ?_⟩; rw [hany, hcn]; exact k) ?_
      simp only [wSeq, wAsg, w2, w2b, subW, wNm, wInt, opt, updl_eq, bindP_cons, ↓String.reduceEq, ↓reduceIte, reduceCtorEq, i2, c2, ltV, gtV, geV, shrV, wDone, wBrk, wCont, wSet, setW, wIte, wExpr, notRef, wRet, wCall, wCons, wNil, true_and, lenV, mulSV, addV, wAndB, wNot, wTrueB, wOrB, wTru, wMethL, getL, appendV, popV, truthW, wStr, wNone, wBool, typeV, isV, wTyp, wFailS, wFailA, wFailB, wFailE, wFalseB, newL, newT, wSlStr, eqV, neV, wMethS, splitV, joinV, wAsgT, tgN, bindAll, tg1, wItVal, wItRev, wItRange, wOrV, wIf, wAttr, getI, startsV, inV, ninV, wItSet, wNeg, wAug, wAsg2, retv, powV, andV, fdivV, modV, sumV, minV, maxV, sortedV]
      subst hR
      simp only [wSeq, wAsg, w2, w2b, subW, wNm, wInt, opt, updl_eq, bindP_cons, ↓String.reduceEq, ↓reduceIte, reduceCtorEq, i2, c2, ltV, gtV, geV, shrV, wDone, wBrk, wCont, wSet, setW, wIte, wExpr, notRef, wRet, wCall, wCons, wNil, true_and, lenV, mulSV, addV, wAndB, wNot, wTrueB, wOrB, wTru, wMethL, getL, appendV, popV, truthW, wStr, wNone, wBool, typeV, isV, wTyp, wFailS, wFailA, wFailB, wFailE, wFalseB, newL, newT, wSlStr, eqV, neV, wMethS, splitV, joinV, wAsgT, tgN, bindAll, tg1, wItVal, wItRev, wItRange, wOrV, wIf, wAttr, getI, startsV, inV, ninV, wItSet, wNeg, wAug, wAsg2, retv, powV, andV, fdivV, modV, sumV, minV, maxV, sortedV]
      refine ⟨fun y hy => by rw [if_neg hy, h1 y hy], h2, hl', ?_⟩
      exact ⟨h3, h4, h5, by omega, by omega⟩
    | false =>
      refine ite_T σ' (fun K k => by simp only [wSeq, wAsg, w2, w2b, subW, wNm, wInt, opt, updl_eq, bindP_cons, ↓String.reduceEq, ↓reduceIte, reduceCtorEq, i2, c2, ltV, gtV, geV, shrV, wDone, wBrk, wCont, wSet, setW, wIte, wExpr, notRef, wRet, wCall, wCons, wNil, true_and, lenV, mulSV, addV, wAndB, wNot, wTrueB, wOrB, wTru, wMethL, getL, appendV, popV, truthW, wStr, wNone, wBool, typeV, isV, wTyp, wFailS, wFailA, wFailB, wFailE, wFalseB, newL, newT, wSlStr, eqV, neV, wMethS, splitV, joinV, wAsgT, tgN, bindAll, tg1, wItVal, wItRev, wItRange, wOrV, wIf, wAttr, getI, startsV, inV, ninV, wItSet, wNeg, wAug, wAsg2, retv, powV, andV, fdivV, modV, sumV, minV, maxV, sortedV, r2', natV]; refine ⟨_, by rw [h5, natV_map], ?_⟩; rw [hany, hcn]; exact k) ?_
      refine seq_cut fun R2 hR2 => ?_
      simp only [wSeq, wAsg, w2, w2b, subW, wNm, wInt, opt, updl_eq, bindP_cons, ↓String.reduceEq, ↓reduceIte, reduceCtorEq, i2, c2, ltV, gtV, geV, shrV, wDone, wBrk, wCont, wSet, setW, wIte, wExpr, notRef, wRet, wCall, wCons, wNil, true_and, lenV, mulSV, addV, wAndB, wNot, wTrueB, wOrB, wTru, wMethL, getL, appendV, popV, truthW, wStr, wNone, wBool, typeV, isV, wTyp, wFailS, wFailA, wFailB, wFailE, wFalseB, newL, newT, wSlStr, eqV, neV, wMethS, splitV, joinV, wAsgT, tgN, bindAll, tg1, wItVal, wItRev, wItRange, wOrV, wIf, wAttr, getI, startsV, inV, ninV, wItSet, wNeg, wAug, wAsg2, retv, powV, andV, fdivV, modV, sumV, minV, maxV, sortedV, r2', h5]
      refine ⟨by rw [List.length_map]; omega, ?_⟩
      subst hR2
      refine seq_cut fun R2 hR2 => ?_
      simp only [wSeq, wAsg, w2, w2b, subW, wNm, wInt, opt, updl_eq, bindP_cons, ↓String.reduceEq, ↓reduceIte, reduceCtorEq, i2, c2, ltV, gtV, geV, shrV, wDone, wBrk, wCont, wSet, setW, wIte, wExpr, notRef, wRet, wCall, wCons, wNil, true_and, lenV, mulSV, addV, wAndB, wNot, wTrueB, wOrB, wTru, wMethL, getL, appendV, popV, truthW, wStr, wNone, wBool, typeV, isV, wTyp, wFailS, wFailA, wFailB, wFailE, wFalseB, newL, newT, wSlStr, eqV, neV, wMethS, splitV, joinV, wAsgT, tgN, bindAll, tg1, wItVal, wItRev, wItRange, wOrV, wIf, wAttr, getI, startsV, inV, ninV, wItSet, wNeg, wAug, wAsg2, retv, powV, andV, fdivV, modV, sumV, minV, maxV, sortedV, r1', natV]
      refine spec_heappush (xs := hl') (by rw [upd_ne _ _ hne, h4]) (by omega) h3.hp fun ys p1 p2 => ?_
      simp only [wSeq, wAsg, w2, w2b, subW, wNm, wInt, opt, updl_eq, bindP_cons, ↓String.reduceEq, ↓reduceIte, reduceCtorEq, i2, c2, ltV, gtV, geV, shrV, wDone, wBrk, wCont, wSet, setW, wIte, wExpr, notRef, wRet, wCall, wCons, wNil, true_and, lenV, mulSV, addV, wAndB, wNot, wTrueB, wOrB, wTru, wMethL, getL, appendV, popV, truthW, wStr, wNone, wBool, typeV, isV, wTyp, wFailS, wFailA, wFailB, wFailE, wFalseB, newL, newT, wSlStr, eqV, neV, wMethS, splitV, joinV, wAsgT, tgN, bindAll, tg1, wItVal, wItRev, wItRange, wOrV, wIf, wAttr, getI, startsV, inV, ninV, wItSet, wNeg, wAug, wAsg2, retv, powV, andV, fdivV, modV, sumV, minV, maxV, sortedV]
      subst hR2
      simp only [wSeq, wAsg, w2, w2b, subW, wNm, wInt, opt, updl_eq, bindP_cons, ↓String.reduceEq, ↓reduceIte, reduceCtorEq, i2, c2, ltV, gtV, geV, shrV, wDone, wBrk, wCont, wSet, setW, wIte, wExpr, notRef, wRet, wCall, wCons, wNil, true_and, lenV, mulSV, addV, wAndB, wNot, wTrueB, wOrB, wTru, wMethL, getL, appendV, popV, truthW, wStr, wNone, wBool, typeV, isV, wTyp, wFailS, wFailA, wFailB, wFailE, wFalseB, newL, newT, wSlStr, eqV, neV, wMethS, splitV, joinV, wAsgT, tgN, bindAll, tg1, wItVal, wItRev, wItRange, wOrV, wIf, wAttr, getI, startsV, inV, ninV, wItSet, wNeg, wAug, wAsg2, retv, powV, andV, fdivV, modV, sumV, minV, maxV, sortedV]
      subst hR
      simp only [wSeq, wAsg, w2, w2b, subW, wNm, wInt, opt, updl_eq, bindP_cons, ↓String.reduceEq, ↓reduceIte, reduceCtorEq, i2, c2, ltV, gtV, geV, shrV, wDone, wBrk, wCont, wSet, setW, wIte, wExpr, notRef, wRet, wCall, wCons, wNil, true_and, lenV, mulSV, addV, wAndB, wNot, wTrueB, wOrB, wTru, wMethL, getL, appendV, popV, truthW, wStr, wNone, wBool, typeV, isV, wTyp, wFailS, wFailA, wFailB, wFailE, wFalseB, newL, newT, wSlStr, eqV, neV, wMethS, splitV, joinV, wAsgT, tgN, bindAll, tg1, wItVal, wItRev, wItRange, wOrV, wIf, wAttr, getI, startsV, inV, ninV, wItSet, wNeg, wAug, wAsg2, retv, powV, andV, fdivV, modV, sumV, minV, maxV, sortedV]
      refine ⟨fun y hy => by rw [if_neg hy, h1 y hy], fun b hb1 hb2 => by rw [upd_ne _ _ hb1, upd_ne _ _ hb2, h2 b hb1 hb2], ys, ?_⟩
      refine ⟨⟨?_, p2⟩, upd_self .., ?_, ?_, by simp; omega⟩
      · refine p1.trans (((h3.perm.append_right [-(r : Int)])).trans ?_)
        refine List.Perm.trans ?_ ((insD_perm r w').map negI).symm
        rw [List.map_cons]
        exact List.perm_append_comm (l₂ := [negI r])
      · rw [upd_ne _ _ (Ne.symm hne), upd_self, List.map_append]; rfl
      · have := (insD_perm r w').length_eq
        simp only [List.length_cons] at this
        omega
  · rintro ρ' σ' ⟨h1, h2, hl', h3, h4, h5, h6, h7⟩
    rw [List.length_map, List.take_length] at *
    exact ⟨vals_list ((h2 ri hrw hrs).trans s3), q ρ' σ' hl' h1 h2 h3 h4 h5⟩
end Mine
end

section
open PySem PySem.W PyProof.Rows PySem.Builtin PySem.Builtin.Str
set_option maxRecDepth 100000
set_option maxHeartbeats 4000000
set_option linter.unusedSimpArgs false
namespace Mine
theorem bitAnd_nat (a b : Nat) : Builtin.bitAnd (a : Int) (b : Int) = ((a &&& b : Nat) : Int) := by
  unfold Builtin.bitAnd
  rw [decide_eq_true (by omega : (0 : Int) ≤ (a : Int)), decide_eq_true (by omega : (0 : Int) ≤ (b : Int))]
  rfl
theorem shr_nat (m k : Nat) : (m : Int).fdiv (2 ^ ((k : Nat) : Int).toNat) = ((m >>> k : Nat) : Int) := by
  rw [Int.toNat_natCast, Nat.shiftRight_eq_div_pow, Int.fdiv_eq_ediv_of_nonneg _ (by have : (0 : Int) < 2 ^ k := Int.pow_pos (by decide); omega)]
  push_cast
  rfl
theorem bit_eq (m k : Nat) : (Builtin.bitAnd ((m : Int).fdiv (2 ^ ((k : Nat) : Int).toNat)) 1 == 1) = m.testBit k := by
  rw [shr_nat, show (1 : Int) = ((1 : Nat) : Int) from rfl, bitAnd_nat, Nat.and_one_is_mod, Nat.testBit_eq_decide_div_mod_eq, Nat.shiftRight_eq_div_pow]
  rw [Bool.eq_iff_iff, beq_iff_eq, decide_eq_true_iff]
  omega
noncomputable def keptF (n m : Nat) : List Nat := (List.range n).filter fun k => m.testBit k
theorem keptF_lt {n m j : Nat} (h : j ∈ keptF n m) : j < n := List.mem_range.mp (List.mem_filter.mp h).1
theorem keptF_len (n m : Nat) : (keptF n m).length ≤ n := by
  have := List.length_filter_le (fun k => m.testBit k) (List.range n)
  rw [List.length_range] at this; exact this
theorem kept_comp {σ : Sto} {rw_ : Addr} {refs : List V} {m : Nat} {ρ : Loc} {Q : V → Sto → Prop} {X : Sto → Prop} (hl : refs.length ≤ 6)
    (r1 : ρ "rows" = some (.ref rw_)) (r2 : ρ "mask" = some (.int m)) (s1 : σ rw_ = some (.list refs))
    (q : ∀ a, σ a = none → Q (.ref a) (upd σ a (.list ((keptF refs.length m).map natV)))) :
    wComp ["mask"] (tg1 "k") (wItRange (wCons (wCall lenV (wCons (wNm "rows") (wNil))) (wNil))) (w2b eqV (w2 andV (w2 shrV (wNm "mask") (wNm "k")) (wInt 1)) (wInt 1)) (wNm "k") ρ σ Q X := by
  refine comp_of (.range 0 1 refs.length) (rangeV 0 1 refs.length) σ (fun i out σ' => σ' = σ ∧ out = (keptF i m).map natV) (fun K k => ?_) ⟨rfl, rfl⟩ ?_ ?_
  · simp only [wSeq, wAsg, w2, w2b, subW, wNm, wInt, opt, updl_eq, bindP_cons, ↓String.reduceEq, ↓reduceIte, reduceCtorEq, i2, c2, ltV, gtV, geV, shrV, wDone, wBrk, wCont, wSet, setW, wIte, wExpr, notRef, wRet, wCall, wCons, wNil, true_and, lenV, mulSV, addV, wAndB, wNot, wTrueB, wOrB, wTru, wMethL, getL, appendV, popV, truthW, wStr, wNone, wBool, typeV, isV, wTyp, wFailS, wFailA, wFailB, wFailE, wFalseB, newL, newT, wSlStr, eqV, neV, wMethS, splitV, joinV, wAsgT, tgN, bindAll, tg1, wItVal, wItRev, wItRange, wOrV, wIf, wAttr, getI, startsV, inV, ninV, wItSet, wNeg, wAug, wAsg2, retv, powV, andV, fdivV, modV, sumV, minV, maxV, sortedV, r1, s1, Int.toNat_natCast]
    exact ⟨by omega, ⟨by omega, by omega⟩, k⟩
  · rintro i v out σ' hv ⟨rfl, rfl⟩
    obtain ⟨hi, rfl⟩ := range_get1 hv
    refine ⟨vals_range, by rw [List.length_map]; have := keptF_len i m; omega, ?_⟩
    have f1 := restr_of (fv := ["mask"]) r2 (by decide)
    have hs : keptF (i + 1) m = keptF i m ++ (if m.testBit i then [i] else []) := by
      unfold keptF
      rw [List.range_succ, List.filter_append]
      cases h : m.testBit i <;> simp [h]
    show w2b eqV _ _ _ _ _ _
    simp only [wSeq, wAsg, w2, w2b, subW, wNm, wInt, opt, updl_eq, bindP_cons, ↓String.reduceEq, ↓reduceIte, reduceCtorEq, i2, c2, ltV, gtV, geV, shrV, wDone, wBrk, wCont, wSet, setW, wIte, wExpr, notRef, wRet, wCall, wCons, wNil, true_and, lenV, mulSV, addV, wAndB, wNot, wTrueB, wOrB, wTru, wMethL, getL, appendV, popV, truthW, wStr, wNone, wBool, typeV, isV, wTyp, wFailS, wFailA, wFailB, wFailE, wFalseB, newL, newT, wSlStr, eqV, neV, wMethS, splitV, joinV, wAsgT, tgN, bindAll, tg1, wItVal, wItRev, wItRange, wOrV, wIf, wAttr, getI, startsV, inV, ninV, wItSet, wNeg, wAug, wAsg2, retv, powV, andV, fdivV, modV, sumV, minV, maxV, sortedV, f1]
    refine ⟨by omega, ?_⟩
    rw [bit_eq]
    cases h : m.testBit i with
    | true => rw [h] at hs; rw [if_pos rfl]; rw [hs]; simp [natV]
    | false => rw [h] at hs; rw [if_neg (by decide)]; rw [hs]; simp
  · rintro out σ' ⟨rfl, rfl⟩
    rw [rangeV_len]
    exact ⟨vals_range, q⟩
noncomputable abbrev GSt := List Nat × List Nat × List (Nat × List Nat)
noncomputable def stepM (rows : List (List Nat)) : GSt → GSt
  | ([], sn, mv) => ([], sn, mv)
  | (m :: w, sn, mv) => ((pushF (w, sn) ((keptF rows.length m).map (restF rows (keptF rows.length m)))).1, (pushF (w, sn) ((keptF rows.length m).map (restF rows (keptF rows.length m)))).2,
      mv ++ [(m, (keptF rows.length m).map (restF rows (keptF rows.length m)))])
noncomputable def iterM (rows : List (List Nat)) : Nat → GSt → GSt
  | 0, s => s
  | t + 1, s => stepM rows (iterM rows t s)
theorem pushF_sorted : ∀ (rs : List Nat) (w sn : List Nat), w.Pairwise (· ≥ ·) → (pushF (w, sn) rs).1.Pairwise (· ≥ ·)
  | [], _, _, h => h
  | r :: rs, w, sn, h => by
    unfold pushF
    split
    · exact pushF_sorted rs w sn h
    · exact pushF_sorted rs _ _ (insD_sorted r w h)
theorem pushF_len : ∀ (rs : List Nat) (w sn : List Nat), (pushF (w, sn) rs).1.length ≤ w.length + rs.length ∧ (pushF (w, sn) rs).2.length ≤ sn.length + rs.length
  | [], _, _ => ⟨Nat.le_refl _, Nat.le_refl _⟩
  | r :: rs, w, sn => by
    unfold pushF
    split
    · have := pushF_len rs w sn; simp only [List.length_cons]; omega
    · have := pushF_len rs (insD r w) (sn ++ [r])
      have h2 := (insD_perm r w).length_eq
      simp only [List.length_cons, List.length_append, List.length_nil] at *
      omega
theorem iterM_nil (rows : List (List Nat)) (s : GSt) {t : Nat} (h : (iterM rows t s).1 = []) : ∀ k, iterM rows (t + k) s = iterM rows t s
  | 0 => rfl
  | k + 1 => by
    show stepM rows (iterM rows (t + k) s) = _
    rw [iterM_nil rows s h k]
    generalize iterM rows t s = S at h
    obtain ⟨w, sn, mv⟩ := S
    dsimp only at h
    subst h
    rfl
theorem ExtG.at {G : Addr → Prop} {σ σ' : Sto} (h : ExtG G σ σ') {a : Addr} (ha : G a) (o : O) : ExtG G σ (Mine.upd σ' a o) :=
  ⟨fun b hb hn => by rw [upd_ne _ _ (fun e => hb (by rw [e]; exact ha))]; exact h.1 b hb hn, fun b hn => by
    by_cases e : b = a
    · rw [e, upd_self]; simp
    · rw [upd_ne _ _ e]; exact h.2 b hn⟩
theorem ExtG.wk {G G' : Addr → Prop} {σ σ' : Sto} (h : ExtG G σ σ') (hg : ∀ b, G b → G' b) : ExtG G' σ σ' := ⟨fun b hb hn => h.1 b (fun e => hb (hg b e)) hn, h.2⟩
theorem ExtG.drop {G G' : Addr → Prop} {σ σ' σ'' : Sto} (h : ExtG G σ σ') (g : ExtG G' σ' σ'') (hg : ∀ b, G' b → G b ∨ σ b = none) : ExtG G σ σ'' :=
  ⟨fun b hb hn => by rw [g.1 b (fun e => (hg b e).elim hb hn) (h.2 b hn), h.1 b hb hn], fun b hn => g.2 b (h.2 b hn)⟩
/-- one move list's entry -/
noncomputable def MoveAt (σ : Sto) (v : V) (m : Nat × List Nat) : Prop := ∃ a b, v = .ref a ∧ σ a = some (.tuple [natV m.1, .ref b]) ∧ σ b = some (.list (m.2.map natV))
/-- apart from the lists that are turned -/
noncomputable def MoveX (wa se mo : Addr) (σ : Sto) (v : V) (m : Nat × List Nat) : Prop := ∃ a b, v = .ref a ∧ σ a = some (.tuple [natV m.1, .ref b]) ∧ σ b = some (.list (m.2.map natV)) ∧ b ≠ wa ∧ b ≠ se ∧ b ≠ mo
structure MInv (σ₁ : Sto) (rows : List (List Nat)) (rws rds : List V) (g : Nat → Addr) (rwa ra fa da wa se mo : Addr) (s₀ : GSt) (t : Nat) (ρ : Loc) (σ : Sto) : Prop where
  r1 : ρ "rows" = some (.ref rwa)
  r2 : ρ "readers" = some (.ref ra)
  r3 : ρ "files" = some (.ref fa)
  r4 : ρ "dotted" = some (.ref da)
  r5 : ρ "waiting" = some (.ref wa)
  r6 : ρ "seen" = some (.ref se)
  r7 : ρ "moves" = some (.ref mo)
  ext : ExtG (Gs rows.length g) σ₁ σ
  cache : CacheOk σ rows g (1 + 36 * t)
  sorted : (iterM rows t s₀).1.Pairwise (· ≥ ·)
  len1 : (iterM rows t s₀).1.length ≤ 1 + 6 * t
  len2 : (iterM rows t s₀).2.1.length ≤ 1 + 6 * t
  hse : σ se = some (.list ((iterM rows t s₀).2.1.map natV))
  hwa : ∃ hl, HpOk (iterM rows t s₀).1 hl ∧ σ wa = some (.list (hl.map V.int))
  hmo : ∃ refs, σ mo = some (.list refs) ∧ refs.length = t ∧ All2 (MoveX wa se mo σ) refs (iterM rows t s₀).2.2
section
variable {σ₁ : Sto} {rows : List (List Nat)} {rws rds : List V} {g : Nat → Addr} {rwa ra fa da wa se mo : Addr} {s₀ : GSt} {t : Nat} {ρ : Loc} {σ : Sto}
theorem turn_body {Q : F → Loc → Sto → Prop} {X : Loc → Sto → Prop} (S : RdS σ₁ rows rds g) (hn : rows.length ≤ 6) (hrws : rws.length = rows.length) (t1 : σ₁ rwa = some (.list rws)) (t2 : σ₁ ra = some (.list rds)) (t3 : σ₁ fa = some (.list (rows.map fun r => V.str (fileS r)))) (t4 : σ₁ da = some (.list (rows.map fun r => V.str (dotS r))))
    (n1 : σ₁ wa = none) (n2 : σ₁ se = none) (n3 : σ₁ mo = none) (d1 : wa ≠ se) (d2 : wa ≠ mo) (d3 : se ≠ mo) (ht : t ≤ 64) (h : MInv σ₁ rows rws rds g rwa ra fa da wa se mo s₀ t ρ σ) (hw : (iterM rows t s₀).1 ≠ [])
    (q : ∀ ρ' σ', MInv σ₁ rows rws rds g rwa ra fa da wa se mo s₀ (t + 1) ρ' σ' → Q .next ρ' σ') : (wSeq (wAsg "mask" (wNeg (wCall T_heappop (wCons (wNm "waiting") (wNil))))) (wSeq (wAsg "kept" (wComp ["mask"] (tg1 "k") (wItRange (wCons (wCall lenV (wCons (wNm "rows") (wNil))) (wNil))) (w2b eqV (w2 andV (w2 shrV (wNm "mask") (wNm "k")) (wInt 1)) (wInt 1)) (wNm "k"))) (wSeq (wAsg "rests" (wCall newL (wNil))) (wSeq (wFor (tg1 "k") (wItVal (wNm "kept")) (wSeq (wAsg "stay" (wComp ["files", "dotted", "readers", "k"] (tg1 "j") (wItVal (wNm "kept")) (w2b eqV (wMethI cI "names" T_names (w2 subW (wNm "readers") (wNm "k")) (wCons (w2 subW (wNm "files") (wNm "j")) (wCons (w2 subW (wNm "dotted") (wNm "j")) (wNil)))) (wInt 0)) (w2 powV (wInt 2) (wNm "j")))) (wSeq (wExpr (wMethL appendV (wNm "rests") (wCons (wCall sumV (wCons (wNm "stay") (wNil))) (wNil)))) (wDone)))) (wSeq (wFor (tg1 "rest") (wItVal (wNm "rests")) (wSeq (wIte (w2b ninV (wNm "rest") (wNm "seen")) (wSeq (wExpr (wMethL appendV (wNm "seen") (wCons (wNm "rest") (wNil)))) (wSeq (wExpr (wCall T_heappush (wCons (wNm "waiting") (wCons (wNeg (wNm "rest")) (wNil))))) (wDone))) (wDone)) (wDone))) (wSeq (wExpr (wMethL appendV (wNm "moves") (wCons (wCall newT (wCons (wNm "mask") (wCons (wNm "rests") (wNil)))) (wNil)))) (wDone))))))) ρ σ Q X := by
  have hs : iterM rows (t + 1) s₀ = stepM rows (iterM rows t s₀) := rfl
  obtain ⟨r1, r2, r3, r4, r5, r6, r7, ext, cache, sorted, len1, len2, hse, ⟨hl, hhp, hwa⟩, refs, hmo, hrl, hmv⟩ := h
  generalize hI : iterM rows t s₀ = I at *
  obtain ⟨w, sn, mv⟩ := I
  dsimp only at *
  cases w with
  | nil => exact absurd rfl hw
  | cons m w =>
  have hG : ∀ {a : Addr} {xs : List V}, σ₁ a = some (.list xs) → ¬ Gs rows.length g a := fun e => S.notG (by simp [e])
  have hGw : ¬ Gs rows.length g wa := cache.notG (by simp [hwa])
  have hGs : ¬ Gs rows.length g se := cache.notG (by simp [hse])
  have hGm : ¬ Gs rows.length g mo := cache.notG (by simp [hmo])
  have hhl : hl.length = w.length + 1 := by rw [hhp.perm.length_eq, List.length_map, List.length_cons]
  have hlen1 : w.length ≤ 6 * t := by simp only [List.length_cons] at len1; omega
  have hhl0 : hl ≠ [] := by intro e; rw [e] at hhl; simp at hhl
  refine seq_cut fun R hR => ?_
  simp only [wSeq, wAsg, w2, w2b, subW, wNm, wInt, opt, updl_eq, bindP_cons, ↓String.reduceEq, ↓reduceIte, reduceCtorEq, i2, c2, ltV, gtV, geV, shrV, wDone, wBrk, wCont, wSet, setW, wIte, wExpr, notRef, wRet, wCall, wCons, wNil, true_and, lenV, mulSV, addV, wAndB, wNot, wTrueB, wOrB, wTru, wMethL, getL, appendV, popV, truthW, wStr, wNone, wBool, typeV, isV, wTyp, wFailS, wFailA, wFailB, wFailE, wFalseB, newL, newT, wSlStr, eqV, neV, wMethS, splitV, joinV, wAsgT, tgN, bindAll, tg1, wItVal, wItRev, wItRange, wOrV, wIf, wAttr, getI, startsV, inV, ninV, wItSet, wNeg, wAug, wAsg2, retv, powV, andV, fdivV, modV, sumV, minV, maxV, sortedV, r5]
  refine spec_heappop (xs := hl) hwa hhl0 (by omega) hhp.hp fun hl2 p1 p2 => ?_
  -- the least of the heap
  have hmin : hl.getD 0 0 = negI m := by
    have h0 : 0 < hl.length := by omega
    have m1 : hl.getD 0 0 ∈ (m :: w).map negI := hhp.perm.mem_iff.mp (by rw [getD_lt _ _ h0]; exact List.getElem_mem h0)
    have m2 : negI m ∈ hl := hhp.perm.mem_iff.mpr (by simp)
    obtain ⟨i, hi, hie⟩ := List.getElem_of_mem m2
    have m3 := hhp.hp.root i hi
    rw [getD_lt _ _ hi, hie] at m3
    obtain ⟨m', hm', e⟩ := List.mem_map.mp m1
    have m4 : m' ≤ m := by
      rcases List.mem_cons.mp hm' with e | e
      · omega
      · exact (List.pairwise_cons.mp sorted).1 m' e
    rw [← e] at m3 ⊢
    unfold negI at *
    omega
  have hhp2 : HpOk w hl2 := by
    refine ⟨p1.trans ?_, p2⟩
    have e : hl = negI m :: hl.tail := by
      cases hl with
      | nil => exact absurd rfl hhl0
      | cons x r => rw [← hmin]; rfl
    have := hhp.perm
    rw [e, List.map_cons] at this
    exact List.Perm.cons_inv this
  rw [hmin]
  simp only [wSeq, wAsg, w2, w2b, subW, wNm, wInt, opt, updl_eq, bindP_cons, ↓String.reduceEq, ↓reduceIte, reduceCtorEq, i2, c2, ltV, gtV, geV, shrV, wDone, wBrk, wCont, wSet, setW, wIte, wExpr, notRef, wRet, wCall, wCons, wNil, true_and, lenV, mulSV, addV, wAndB, wNot, wTrueB, wOrB, wTru, wMethL, getL, appendV, popV, truthW, wStr, wNone, wBool, typeV, isV, wTyp, wFailS, wFailA, wFailB, wFailE, wFalseB, newL, newT, wSlStr, eqV, neV, wMethS, splitV, joinV, wAsgT, tgN, bindAll, tg1, wItVal, wItRev, wItRange, wOrV, wIf, wAttr, getI, startsV, inV, ninV, wItSet, wNeg, wAug, wAsg2, retv, powV, andV, fdivV, modV, sumV, minV, maxV, sortedV]
  rw [show -negI m = (m : Int) by unfold negI; omega]
  subst hR
  let G2 : Addr → Prop := fun b => Gs rows.length g b ∨ b = wa ∨ b = se ∨ b = mo
  have x2 : ExtG G2 σ (upd σ wa (.list (hl2.map V.int))) := (ExtG.refl _ _).at (.inr (.inl rfl)) _
  have hc2 : CacheOk (upd σ wa (.list (hl2.map V.int))) rows g (1 + 36 * t) := cache.upd hGw _
  have y2 : ExtG (Gs rows.length g) σ₁ (upd σ wa (.list (hl2.map V.int))) := ext.put n1 _
  have hse2 : upd σ wa (.list (hl2.map V.int)) se = some (.list (sn.map natV)) := by rw [upd_ne _ _ (Ne.symm d1), hse]
  have hmo2 : upd σ wa (.list (hl2.map V.int)) mo = some (.list refs) := by rw [upd_ne _ _ (Ne.symm d2), hmo]
  have hwa2 : upd σ wa (.list (hl2.map V.int)) wa = some (.list (hl2.map V.int)) := upd_self ..
  generalize upd σ wa (.list (hl2.map V.int)) = σ2 at *
  refine seq_cut fun R hR => ?_
  refine kept_comp (m := m) (refs := rws) (rw_ := rwa) (by omega) (by simp only [wSeq, wAsg, w2, w2b, subW, wNm, wInt, opt, updl_eq, bindP_cons, ↓String.reduceEq, ↓reduceIte, reduceCtorEq, i2, c2, ltV, gtV, geV, shrV, wDone, wBrk, wCont, wSet, setW, wIte, wExpr, notRef, wRet, wCall, wCons, wNil, true_and, lenV, mulSV, addV, wAndB, wNot, wTrueB, wOrB, wTru, wMethL, getL, appendV, popV, truthW, wStr, wNone, wBool, typeV, isV, wTyp, wFailS, wFailA, wFailB, wFailE, wFalseB, newL, newT, wSlStr, eqV, neV, wMethS, splitV, joinV, wAsgT, tgN, bindAll, tg1, wItVal, wItRev, wItRange, wOrV, wIf, wAttr, getI, startsV, inV, ninV, wItSet, wNeg, wAug, wAsg2, retv, powV, andV, fdivV, modV, sumV, minV, maxV, sortedV, r1]) (by simp only [wSeq, wAsg, w2, w2b, subW, wNm, wInt, opt, updl_eq, bindP_cons, ↓String.reduceEq, ↓reduceIte, reduceCtorEq, i2, c2, ltV, gtV, geV, shrV, wDone, wBrk, wCont, wSet, setW, wIte, wExpr, notRef, wRet, wCall, wCons, wNil, true_and, lenV, mulSV, addV, wAndB, wNot, wTrueB, wOrB, wTru, wMethL, getL, appendV, popV, truthW, wStr, wNone, wBool, typeV, isV, wTyp, wFailS, wFailA, wFailB, wFailE, wFalseB, newL, newT, wSlStr, eqV, neV, wMethS, splitV, joinV, wAsgT, tgN, bindAll, tg1, wItVal, wItRev, wItRange, wOrV, wIf, wAttr, getI, startsV, inV, ninV, wItSet, wNeg, wAug, wAsg2, retv, powV, andV, fdivV, modV, sumV, minV, maxV, sortedV]) (y2.get t1 (hG t1)) fun ka hka => ?_
  subst hR
  rw [hrws]
  have x3 : ExtG G2 σ (upd σ2 ka (.list ((keptF rows.length m).map natV))) := x2.step hka _
  have y3 : ExtG (Gs rows.length g) σ₁ (upd σ2 ka (.list ((keptF rows.length m).map natV))) := y2.step hka _
  have hc3 : CacheOk (upd σ2 ka (.list ((keptF rows.length m).map natV))) rows g (1 + 36 * t) := hc2.ext (Ext.new hka _)
  have hse3 := upd_get (o' := .list ((keptF rows.length m).map natV)) hse2 hka
  have hmo3 := upd_get (o' := .list ((keptF rows.length m).map natV)) hmo2 hka
  have hwa3 := upd_get (o' := .list ((keptF rows.length m).map natV)) hwa2 hka
  have hka3 : upd σ2 ka (.list ((keptF rows.length m).map natV)) ka = some (.list ((keptF rows.length m).map natV)) := upd_self ..
  generalize upd σ2 ka (.list ((keptF rows.length m).map natV)) = σ3 at *
  clear hka x2 y2 hc2 hse2 hmo2 hwa2
  refine seq_cut fun R hR => ?_
  simp only [wSeq, wAsg, w2, w2b, subW, wNm, wInt, opt, updl_eq, bindP_cons, ↓String.reduceEq, ↓reduceIte, reduceCtorEq, i2, c2, ltV, gtV, geV, shrV, wDone, wBrk, wCont, wSet, setW, wIte, wExpr, notRef, wRet, wCall, wCons, wNil, true_and, lenV, mulSV, addV, wAndB, wNot, wTrueB, wOrB, wTru, wMethL, getL, appendV, popV, truthW, wStr, wNone, wBool, typeV, isV, wTyp, wFailS, wFailA, wFailB, wFailE, wFalseB, newL, newT, wSlStr, eqV, neV, wMethS, splitV, joinV, wAsgT, tgN, bindAll, tg1, wItVal, wItRev, wItRange, wOrV, wIf, wAttr, getI, startsV, inV, ninV, wItSet, wNeg, wAug, wAsg2, retv, powV, andV, fdivV, modV, sumV, minV, maxV, sortedV]
  refine ⟨by simp [lim], fun ri hri => ?_⟩
  subst hR
  have w1 := ne_of hwa3 hri
  have w2 := ne_of hse3 hri
  have w3 := ne_of hmo3 hri
  have hkl := keptF_len rows.length m
  refine seq_cut fun R hR => ?_
  refine rests_loop (B := 1 + 36 * t) (kp := keptF rows.length m) (fa := fa) (da := da) (ra := ra) (ka := ka) S y3 hri hc3 (by omega) hn (fun j hj => keptF_lt hj) (by omega) (by simp only [wSeq, wAsg, w2, w2b, subW, wNm, wInt, opt, updl_eq, bindP_cons, ↓String.reduceEq, ↓reduceIte, reduceCtorEq, i2, c2, ltV, gtV, geV, shrV, wDone, wBrk, wCont, wSet, setW, wIte, wExpr, notRef, wRet, wCall, wCons, wNil, true_and, lenV, mulSV, addV, wAndB, wNot, wTrueB, wOrB, wTru, wMethL, getL, appendV, popV, truthW, wStr, wNone, wBool, typeV, isV, wTyp, wFailS, wFailA, wFailB, wFailE, wFalseB, newL, newT, wSlStr, eqV, neV, wMethS, splitV, joinV, wAsgT, tgN, bindAll, tg1, wItVal, wItRev, wItRange, wOrV, wIf, wAttr, getI, startsV, inV, ninV, wItSet, wNeg, wAug, wAsg2, retv, powV, andV, fdivV, modV, sumV, minV, maxV, sortedV, r3]) (by simp only [wSeq, wAsg, w2, w2b, subW, wNm, wInt, opt, updl_eq, bindP_cons, ↓String.reduceEq, ↓reduceIte, reduceCtorEq, i2, c2, ltV, gtV, geV, shrV, wDone, wBrk, wCont, wSet, setW, wIte, wExpr, notRef, wRet, wCall, wCons, wNil, true_and, lenV, mulSV, addV, wAndB, wNot, wTrueB, wOrB, wTru, wMethL, getL, appendV, popV, truthW, wStr, wNone, wBool, typeV, isV, wTyp, wFailS, wFailA, wFailB, wFailE, wFalseB, newL, newT, wSlStr, eqV, neV, wMethS, splitV, joinV, wAsgT, tgN, bindAll, tg1, wItVal, wItRev, wItRange, wOrV, wIf, wAttr, getI, startsV, inV, ninV, wItSet, wNeg, wAug, wAsg2, retv, powV, andV, fdivV, modV, sumV, minV, maxV, sortedV, r4]) (by simp only [wSeq, wAsg, w2, w2b, subW, wNm, wInt, opt, updl_eq, bindP_cons, ↓String.reduceEq, ↓reduceIte, reduceCtorEq, i2, c2, ltV, gtV, geV, shrV, wDone, wBrk, wCont, wSet, setW, wIte, wExpr, notRef, wRet, wCall, wCons, wNil, true_and, lenV, mulSV, addV, wAndB, wNot, wTrueB, wOrB, wTru, wMethL, getL, appendV, popV, truthW, wStr, wNone, wBool, typeV, isV, wTyp, wFailS, wFailA, wFailB, wFailE, wFalseB, newL, newT, wSlStr, eqV, neV, wMethS, splitV, joinV, wAsgT, tgN, bindAll, tg1, wItVal, wItRev, wItRange, wOrV, wIf, wAttr, getI, startsV, inV, ninV, wItSet, wNeg, wAug, wAsg2, retv, powV, andV, fdivV, modV, sumV, minV, maxV, sortedV, r2]) (by simp only [wSeq, wAsg, w2, w2b, subW, wNm, wInt, opt, updl_eq, bindP_cons, ↓String.reduceEq, ↓reduceIte, reduceCtorEq, i2, c2, ltV, gtV, geV, shrV, wDone, wBrk, wCont, wSet, setW, wIte, wExpr, notRef, wRet, wCall, wCons, wNil, true_and, lenV, mulSV, addV, wAndB, wNot, wTrueB, wOrB, wTru, wMethL, getL, appendV, popV, truthW, wStr, wNone, wBool, typeV, isV, wTyp, wFailS, wFailA, wFailB, wFailE, wFalseB, newL, newT, wSlStr, eqV, neV, wMethS, splitV, joinV, wAsgT, tgN, bindAll, tg1, wItVal, wItRev, wItRange, wOrV, wIf, wAttr, getI, startsV, inV, ninV, wItSet, wNeg, wAug, wAsg2, retv, powV, andV, fdivV, modV, sumV, minV, maxV, sortedV]) (by simp only [wSeq, wAsg, w2, w2b, subW, wNm, wInt, opt, updl_eq, bindP_cons, ↓String.reduceEq, ↓reduceIte, reduceCtorEq, i2, c2, ltV, gtV, geV, shrV, wDone, wBrk, wCont, wSet, setW, wIte, wExpr, notRef, wRet, wCall, wCons, wNil, true_and, lenV, mulSV, addV, wAndB, wNot, wTrueB, wOrB, wTru, wMethL, getL, appendV, popV, truthW, wStr, wNone, wBool, typeV, isV, wTyp, wFailS, wFailA, wFailB, wFailE, wFalseB, newL, newT, wSlStr, eqV, neV, wMethS, splitV, joinV, wAsgT, tgN, bindAll, tg1, wItVal, wItRev, wItRange, wOrV, wIf, wAttr, getI, startsV, inV, ninV, wItSet, wNeg, wAug, wAsg2, retv, powV, andV, fdivV, modV, sumV, minV, maxV, sortedV]) (y3.get t3 (hG t3)) (y3.get t4 (hG t4)) (y3.get t2 (hG t2)) hka3 fun ρ5 σ5 f1 f2 f3 f4 => ?_
  subst hR
  have q1 : ∀ y, y ≠ "k" → y ≠ "stay" → y ≠ "rests" → y ≠ "kept" → y ≠ "mask" → ρ5 y = ρ y := fun y h1 h2 h3 h4 h5 => by
    rw [f1 y h1 h2, updl_eq, if_neg h3, updl_eq, if_neg h4, updl_eq, if_neg h5]
  have qri : ρ5 "rests" = some (.ref ri) := by rw [f1 _ (by decide) (by decide)]; simp only [wSeq, wAsg, w2, w2b, subW, wNm, wInt, opt, updl_eq, bindP_cons, ↓String.reduceEq, ↓reduceIte, reduceCtorEq, i2, c2, ltV, gtV, geV, shrV, wDone, wBrk, wCont, wSet, setW, wIte, wExpr, notRef, wRet, wCall, wCons, wNil, true_and, lenV, mulSV, addV, wAndB, wNot, wTrueB, wOrB, wTru, wMethL, getL, appendV, popV, truthW, wStr, wNone, wBool, typeV, isV, wTyp, wFailS, wFailA, wFailB, wFailE, wFalseB, newL, newT, wSlStr, eqV, neV, wMethS, splitV, joinV, wAsgT, tgN, bindAll, tg1, wItVal, wItRev, wItRange, wOrV, wIf, wAttr, getI, startsV, inV, ninV, wItSet, wNeg, wAug, wAsg2, retv, powV, andV, fdivV, modV, sumV, minV, maxV, sortedV]
  have qmask : ρ5 "mask" = some (.int m) := by rw [f1 _ (by decide) (by decide)]; simp only [wSeq, wAsg, w2, w2b, subW, wNm, wInt, opt, updl_eq, bindP_cons, ↓String.reduceEq, ↓reduceIte, reduceCtorEq, i2, c2, ltV, gtV, geV, shrV, wDone, wBrk, wCont, wSet, setW, wIte, wExpr, notRef, wRet, wCall, wCons, wNil, true_and, lenV, mulSV, addV, wAndB, wNot, wTrueB, wOrB, wTru, wMethL, getL, appendV, popV, truthW, wStr, wNone, wBool, typeV, isV, wTyp, wFailS, wFailA, wFailB, wFailE, wFalseB, newL, newT, wSlStr, eqV, neV, wMethS, splitV, joinV, wAsgT, tgN, bindAll, tg1, wItVal, wItRev, wItRange, wOrV, wIf, wAttr, getI, startsV, inV, ninV, wItSet, wNeg, wAug, wAsg2, retv, powV, andV, fdivV, modV, sumV, minV, maxV, sortedV]
  have x5 : ExtG G2 σ σ5 := x3.trans (f2.wk fun _ h => .inl h)
  have hwa5 := f2.get hwa3 hGw
  have hse5 := f2.get hse3 hGs
  have hmo5 := f2.get hmo3 hGm
  generalize hrs : (keptF rows.length m).map (restF rows (keptF rows.length m)) = rs at *
  have hrsl : rs.length ≤ 6 := by rw [← hrs, List.length_map]; omega
  refine seq_cut fun R hR => ?_
  refine push_loop (w := w) (sn := sn) (rs := rs) (wa := wa) (se := se) (ri := ri) hhp2 (by omega) (by omega) d1 (Ne.symm w1) (Ne.symm w2) (by rw [q1 _ (by decide) (by decide) (by decide) (by decide) (by decide), r5]) (by rw [q1 _ (by decide) (by decide) (by decide) (by decide) (by decide), r6]) qri hwa5 hse5 f4 fun ρ6 σ6 hl6 e1 e2 e3 e4 e5 => ?_
  subst hR
  have q6 : ∀ y, y ≠ "rest" → y ≠ "k" → y ≠ "stay" → y ≠ "rests" → y ≠ "kept" → y ≠ "mask" → ρ6 y = ρ y := fun y h0 h1 h2 h3 h4 h5 => by rw [e1 y h0, q1 y h1 h2 h3 h4 h5]
  have x6 : ExtG G2 σ σ6 := by
    refine x5.trans ⟨fun b hb _ => e2 b (fun e => hb (.inr (.inl e))) (fun e => hb (.inr (.inr (.inl e)))), fun b hb => ?_⟩
    by_cases c1 : b = wa
    · rw [c1, e4]; simp
    · by_cases c2 : b = se
      · rw [c2, e5]; simp
      · rw [e2 b c1 c2]; exact hb
  have hc6 : CacheOk σ6 rows g (1 + 36 * t + 36) := fun k hk => by
    obtain ⟨m', f', g1, g2⟩ := f3 k hk
    exact ⟨m', f', by rw [e2 _ (fun e => hGw ⟨k, hk, e.symm⟩) (fun e => hGs ⟨k, hk, e.symm⟩), g1], g2⟩
  have hmo6 : σ6 mo = some (.list refs) := by rw [e2 _ (Ne.symm d2) (Ne.symm d3), hmo5]
  have hri6 : σ6 ri = some (.list (rs.map natV)) := by rw [e2 _ (Ne.symm w1) (Ne.symm w2), f4]
  refine seq_cut fun R hR => ?_
  have r7' : ρ6 "moves" = some (.ref mo) := by rw [q6 _ (by decide) (by decide) (by decide) (by decide) (by decide) (by decide), r7]
  simp only [wSeq, wAsg, w2, w2b, subW, wNm, wInt, opt, updl_eq, bindP_cons, ↓String.reduceEq, ↓reduceIte, reduceCtorEq, i2, c2, ltV, gtV, geV, shrV, wDone, wBrk, wCont, wSet, setW, wIte, wExpr, notRef, wRet, wCall, wCons, wNil, true_and, lenV, mulSV, addV, wAndB, wNot, wTrueB, wOrB, wTru, wMethL, getL, appendV, popV, truthW, wStr, wNone, wBool, typeV, isV, wTyp, wFailS, wFailA, wFailB, wFailE, wFalseB, newL, newT, wSlStr, eqV, neV, wMethS, splitV, joinV, wAsgT, tgN, bindAll, tg1, wItVal, wItRev, wItRange, wOrV, wIf, wAttr, getI, startsV, inV, ninV, wItSet, wNeg, wAug, wAsg2, retv, powV, andV, fdivV, modV, sumV, minV, maxV, sortedV, r7', hmo6, e1 "mask" (by decide), qmask, e1 "rests" (by decide), qri]
  refine ⟨by simp [lim], fun a ha => ?_⟩
  have a1 := ne_of e4 ha
  have a2 := ne_of e5 ha
  have a3 := ne_of hmo6 ha
  have a4 := ne_of hri6 ha
  simp only [wSeq, wAsg, w2, w2b, subW, wNm, wInt, opt, updl_eq, bindP_cons, ↓String.reduceEq, ↓reduceIte, reduceCtorEq, i2, c2, ltV, gtV, geV, shrV, wDone, wBrk, wCont, wSet, setW, wIte, wExpr, notRef, wRet, wCall, wCons, wNil, true_and, lenV, mulSV, addV, wAndB, wNot, wTrueB, wOrB, wTru, wMethL, getL, appendV, popV, truthW, wStr, wNone, wBool, typeV, isV, wTyp, wFailS, wFailA, wFailB, wFailE, wFalseB, newL, newT, wSlStr, eqV, neV, wMethS, splitV, joinV, wAsgT, tgN, bindAll, tg1, wItVal, wItRev, wItRange, wOrV, wIf, wAttr, getI, startsV, inV, ninV, wItSet, wNeg, wAug, wAsg2, retv, powV, andV, fdivV, modV, sumV, minV, maxV, sortedV, upd_get hmo6 ha]
  refine ⟨by omega, ?_⟩
  subst hR
  simp only [wSeq, wAsg, w2, w2b, subW, wNm, wInt, opt, updl_eq, bindP_cons, ↓String.reduceEq, ↓reduceIte, reduceCtorEq, i2, c2, ltV, gtV, geV, shrV, wDone, wBrk, wCont, wSet, setW, wIte, wExpr, notRef, wRet, wCall, wCons, wNil, true_and, lenV, mulSV, addV, wAndB, wNot, wTrueB, wOrB, wTru, wMethL, getL, appendV, popV, truthW, wStr, wNone, wBool, typeV, isV, wTyp, wFailS, wFailA, wFailB, wFailE, wFalseB, newL, newT, wSlStr, eqV, neV, wMethS, splitV, joinV, wAsgT, tgN, bindAll, tg1, wItVal, wItRev, wItRange, wOrV, wIf, wAttr, getI, startsV, inV, ninV, wItSet, wNeg, wAug, wAsg2, retv, powV, andV, fdivV, modV, sumV, minV, maxV, sortedV]
  have x8 : ExtG G2 σ (upd (upd σ6 a (.tuple [.int m, .ref ri])) mo (.list (refs ++ [.ref a]))) := (x6.step ha _).at (.inr (.inr (.inr rfl))) _
  refine q _ _ ?_
  rw [show stepM rows (m :: w, sn, mv) = ((pushF (w, sn) rs).1, (pushF (w, sn) rs).2, mv ++ [(m, rs)]) by rw [← hrs]; rfl] at hs
  have hpl := pushF_len rs w sn
  have hps := pushF_sorted rs w sn (List.pairwise_cons.mp sorted).2
  generalize pushF (w, sn) rs = P at *
  have z : ∀ y, y ≠ "rest" → y ≠ "k" → y ≠ "stay" → y ≠ "rests" → y ≠ "kept" → y ≠ "mask" → ∀ v, ρ y = some v → ρ6 y = some v := fun y h0 h1 h2 h3 h4 h5 v hv => by rw [q6 y h0 h1 h2 h3 h4 h5, hv]
  refine ⟨z _ (by decide) (by decide) (by decide) (by decide) (by decide) (by decide) _ r1, z _ (by decide) (by decide) (by decide) (by decide) (by decide) (by decide) _ r2, z _ (by decide) (by decide) (by decide) (by decide) (by decide) (by decide) _ r3,
    z _ (by decide) (by decide) (by decide) (by decide) (by decide) (by decide) _ r4, z _ (by decide) (by decide) (by decide) (by decide) (by decide) (by decide) _ r5, z _ (by decide) (by decide) (by decide) (by decide) (by decide) (by decide) _ r6, r7', ?_, ?_, ?_, ?_, ?_, ?_, ?_, ?_⟩
  · refine ext.drop x8 fun b hb => ?_
    rcases hb with hb | hb | hb | hb
    · exact .inl hb
    · exact .inr (by rw [hb, n1])
    · exact .inr (by rw [hb, n2])
    · exact .inr (by rw [hb, n3])
  · refine CacheOk.mono (B := 1 + 36 * t + 36) ?_ (by omega)
    exact (hc6.ext (Ext.new ha _)).upd hGm _
  · rw [hs]; exact hps
  · rw [hs]; dsimp only; omega
  · rw [hs]; dsimp only; omega
  · rw [hs, upd_ne _ _ d3, upd_get e5 ha]
  · rw [hs]; exact ⟨hl6, e3, by rw [upd_ne _ _ d2, upd_get e4 ha]⟩
  · refine ⟨refs ++ [.ref a], upd_self .., by simp [hrl], ?_⟩
    rw [hs]
    refine All2.snoc (hmv.imp fun v mm hv => ?_) ⟨a, ri, rfl, ?_, ?_, Ne.symm w1, Ne.symm w2, Ne.symm w3⟩
    · obtain ⟨a', b', v1, v2, v3, v4, v5, v6⟩ := hv
      have ga : ¬ G2 a' := by
        rintro (h1 | h1 | h1 | h1)
        · exact cache.notG (a := a') (by simp [v2]) h1
        · rw [h1, hwa] at v2; cases v2
        · rw [h1, hse] at v2; cases v2
        · rw [h1, hmo] at v2; cases v2
      have gb : ¬ G2 b' := by
        rintro (h1 | h1 | h1 | h1)
        · exact cache.notG (a := b') (by simp [v3]) h1
        · exact v4 h1
        · exact v5 h1
        · exact v6 h1
      exact ⟨a', b', v1, x8.get v2 ga, x8.get v3 gb, v4, v5, v6⟩
    · rw [upd_ne _ _ (Ne.symm a3), upd_self]; rfl
    · rw [upd_ne _ _ (Ne.symm w3), upd_get hri6 ha]
end
end Mine
end

section
open PySem PySem.W PyProof.Rows PySem.Builtin PySem.Builtin.Str
set_option maxRecDepth 100000
set_option maxHeartbeats 4000000
set_option linter.unusedSimpArgs false
namespace Mine
theorem MInv.alloc {σ₁ : Sto} {rows : List (List Nat)} {rws rds : List V} {g : Nat → Addr} {rwa ra fa da wa se mo : Addr} {s₀ : GSt} {t : Nat} {ρ : Loc} {σ : Sto} (h : MInv σ₁ rows rws rds g rwa ra fa da wa se mo s₀ t ρ σ) {e : Addr} (he : σ e = none) (o : O) :
    MInv σ₁ rows rws rds g rwa ra fa da wa se mo s₀ t ρ (upd σ e o) := by
  obtain ⟨r1, r2, r3, r4, r5, r6, r7, ext, cache, sorted, len1, len2, hse, ⟨hl, hhp, hwa⟩, refs, hmo, hrl, hmv⟩ := h
  refine ⟨r1, r2, r3, r4, r5, r6, r7, ext.step he _, cache.ext (Ext.new he _), sorted, len1, len2, upd_get hse he, ⟨hl, hhp, upd_get hwa he⟩, refs, upd_get hmo he, hrl, hmv.imp fun v m hv => ?_⟩
  obtain ⟨a', b', v1, v2, v3, v4⟩ := hv
  exact ⟨a', b', v1, upd_get v2 he, upd_get v3 he, v4⟩
theorem getD_of {rows : List (List Nat)} {i : Nat} {row : List Nat} (h : rows[i]? = some row) : rows.getD i [] = row := by rw [List.getD_eq_getElem?_getD, h]; rfl
theorem first_eq (n : Nat) : (2 : Int) ^ ((n : Nat) : Int).toNat - 1 = ((2 ^ n - 1 : Nat) : Int) := by
  have : 1 ≤ 2 ^ n := Nat.one_le_two_pow
  rw [Int.toNat_natCast, Int.natCast_sub this]
  push_cast
  rfl
theorem spec_law_moves {σ : Sto} {rwa : Addr} {rws : List V} {rows : List (List Nat)} {Q : V → Sto → Prop} (t1 : σ rwa = some (.list rws)) (hrw : All2 (fun v row => LsAt σ v (rowV row)) rws rows) (rok : ∀ row ∈ rows, RowOk row) (hn : rows.length ≤ 6)
    (hfin : (iterM rows 64 ([2 ^ rows.length - 1], [2 ^ rows.length - 1], [])).1 = [])
    (q : ∀ σ' mo refs, Ext σ σ' → σ' mo = some (.list refs) → All2 (MoveAt σ') refs (iterM rows 64 ([2 ^ rows.length - 1], [2 ^ rows.length - 1], [])).2.2 → Q (.ref mo) σ') : T__law_moves [.ref rwa] σ Q := by
  refine ⟨rfl, ?_⟩
  unfold W__law_moves
  have hrl := hrw.1
  refine seq_cut fun R hR => ?_
  -- the readers
  refine comp_of (.range 0 1 rws.length) (rangeV 0 1 rws.length) σ (fun i out σ' => Ext σ σ' ∧ out.length = i ∧ ∃ g : Nat → Addr, (∀ k, k < i → ∃ x, out[k]? = some (.ref x) ∧ Rdr σ' x (g k) (rMods k (rows.getD k [])) (rDirs k (rows.getD k [])) ∧ σ' (g k) = some (.ds 1 strInit) ∧ σ (g k) = none) ∧
      ∀ k l, k < i → l < i → g k = g l → k = l) (fun K k => ?_) ⟨.refl _, rfl, fun _ => 0, fun k hk => absurd hk (by omega), fun k l hk => absurd hk (by omega)⟩ ?_ ?_
  · simp only [wSeq, wAsg, w2, w2b, subW, wNm, wInt, opt, updl_eq, bindP_cons, ↓String.reduceEq, ↓reduceIte, reduceCtorEq, i2, c2, ltV, gtV, geV, shrV, wDone, wBrk, wCont, wSet, setW, wIte, wExpr, notRef, wRet, wCall, wCons, wNil, true_and, lenV, mulSV, addV, wAndB, wNot, wTrueB, wOrB, wTru, wMethL, getL, appendV, popV, truthW, wStr, wNone, wBool, typeV, isV, wTyp, wFailS, wFailA, wFailB, wFailE, wFalseB, newL, newT, wSlStr, eqV, neV, wMethS, splitV, joinV, wAsgT, tgN, bindAll, tg1, wItVal, wItRev, wItRange, wOrV, wIf, wAttr, getI, startsV, inV, ninV, wItSet, wNeg, wAug, wAsg2, retv, powV, andV, fdivV, modV, sumV, minV, maxV, sortedV, t1, Int.toNat_natCast]; exact ⟨by omega, ⟨by omega, by omega⟩, k⟩
  · rintro i v out σ' hv ⟨h1, h2, g, h3, h4⟩
    obtain ⟨hi, rfl⟩ := range_get1 hv
    refine ⟨vals_range, by omega, ?_⟩
    have hrow := List.getElem?_eq_getElem (show i < rows.length by omega)
    generalize rows[i]'_ = row at hrow
    obtain ⟨v, hv1, a, rfl, ha⟩ := hrw.get hrow
    have f1 : restr ["rows"] (bindP ["rows"] [V.ref rwa]) "rows" = some (.ref rwa) := restr_of (by simp only [wSeq, wAsg, w2, w2b, subW, wNm, wInt, opt, updl_eq, bindP_cons, ↓String.reduceEq, ↓reduceIte, reduceCtorEq, i2, c2, ltV, gtV, geV, shrV, wDone, wBrk, wCont, wSet, setW, wIte, wExpr, notRef, wRet, wCall, wCons, wNil, true_and, lenV, mulSV, addV, wAndB, wNot, wTrueB, wOrB, wTru, wMethL, getL, appendV, popV, truthW, wStr, wNone, wBool, typeV, isV, wTyp, wFailS, wFailA, wFailB, wFailE, wFalseB, newL, newT, wSlStr, eqV, neV, wMethS, splitV, joinV, wAsgT, tgN, bindAll, tg1, wItVal, wItRev, wItRange, wOrV, wIf, wAttr, getI, startsV, inV, ninV, wItSet, wNeg, wAug, wAsg2, retv, powV, andV, fdivV, modV, sumV, minV, maxV, sortedV]) (by decide)
    have hix : idx rws (i : Int) = some (.ref a) := idx_get hv1
    simp only [wSeq, wAsg, w2, w2b, subW, wNm, wInt, opt, updl_eq, bindP_cons, ↓String.reduceEq, ↓reduceIte, reduceCtorEq, i2, c2, ltV, gtV, geV, shrV, wDone, wBrk, wCont, wSet, setW, wIte, wExpr, notRef, wRet, wCall, wCons, wNil, true_and, lenV, mulSV, addV, wAndB, wNot, wTrueB, wOrB, wTru, wMethL, getL, appendV, popV, truthW, wStr, wNone, wBool, typeV, isV, wTyp, wFailS, wFailA, wFailB, wFailE, wFalseB, newL, newT, wSlStr, eqV, neV, wMethS, splitV, joinV, wAsgT, tgN, bindAll, tg1, wItVal, wItRev, wItRange, wOrV, wIf, wAttr, getI, startsV, inV, ninV, wItSet, wNeg, wAug, wAsg2, retv, powV, andV, fdivV, modV, sumV, minV, maxV, sortedV, f1, h1.get t1, hix]
    refine ⟨by omega, ?_⟩
    refine spec_law_reader (row := row) (h1.get ha) (rok row (List.mem_of_getElem? hrow)) fun σ'' x gn e1 e2 e3 e4 e5 => ?_
    refine ⟨h1.trans e1, by simp [h2], fun k => if k = i then gn else g k, fun k hk => ?_, fun k l hk hl he => ?_⟩
    · dsimp only
      by_cases hki : k = i
      · subst hki
        rw [if_pos rfl, getD_of hrow]
        exact ⟨x, by rw [List.getElem?_append_right (by omega), h2]; simp, e5, e4, h1.non e3⟩
      · rw [if_neg hki]
        obtain ⟨x', g1, g2, g3, g4⟩ := h3 k (by omega)
        exact ⟨x', by rw [List.getElem?_append_left (by omega), g1], g2.ext e1, e1.get g3, g4⟩
    · have hgn : ∀ k, k < i → g k ≠ gn := fun k hk => by
        obtain ⟨x', g1, g2, g3, g4⟩ := h3 k hk
        exact ne_of g3 e3
      dsimp only at he
      by_cases hki : k = i
      · by_cases hli : l = i
        · omega
        · rw [if_pos hki, if_neg hli] at he; exact absurd he.symm (hgn l (by omega))
      · by_cases hli : l = i
        · rw [if_neg hki, if_pos hli] at he; exact absurd he (hgn k (by omega))
        · rw [if_neg hki, if_neg hli] at he; exact h4 k l (by omega) (by omega) he
  rintro rds σ' ⟨h1, h2, g, h3, h4⟩
  rw [rangeV_len] at h2 h3 h4
  rw [hrl] at h2 h3 h4
  refine ⟨vals_range, fun ra hra => ?_⟩
  subst hR
  have hE2 := h1.step hra (.list rds)
  have k1 := Ext.new hra (.list rds)
  have hra2 : upd σ' ra (.list rds) ra = some (.list rds) := upd_self ..
  generalize upd σ' ra (.list rds) = σ2 at *
  -- the files
  refine seq_cut fun R hR => ?_
  have hfile : ∀ row, RowOk row → Txt.join (Str.ofString "/") (row.map partS) ++ Str.ofString "/x.py" = fileS row := fun row _ => by rw [join_eq, slash_eq]; rfl
  have hdot : ∀ row, RowOk row → Txt.join (Str.ofString ".") (row.map partS) = dotS row := fun row _ => by rw [join_eq, dot_eq]; rfl
  refine comp_of (.list rwa) rws σ2 (fun i out σ' => σ' = σ2 ∧ out = (rows.take i).map fun r => V.str (fileS r)) (fun K k => ?_) ⟨rfl, rfl⟩ ?_ ?_
  · simp only [wSeq, wAsg, w2, w2b, subW, wNm, wInt, opt, updl_eq, bindP_cons, ↓String.reduceEq, ↓reduceIte, reduceCtorEq, i2, c2, ltV, gtV, geV, shrV, wDone, wBrk, wCont, wSet, setW, wIte, wExpr, notRef, wRet, wCall, wCons, wNil, true_and, lenV, mulSV, addV, wAndB, wNot, wTrueB, wOrB, wTru, wMethL, getL, appendV, popV, truthW, wStr, wNone, wBool, typeV, isV, wTyp, wFailS, wFailA, wFailB, wFailE, wFalseB, newL, newT, wSlStr, eqV, neV, wMethS, splitV, joinV, wAsgT, tgN, bindAll, tg1, wItVal, wItRev, wItRange, wOrV, wIf, wAttr, getI, startsV, inV, ninV, wItSet, wNeg, wAug, wAsg2, retv, powV, andV, fdivV, modV, sumV, minV, maxV, sortedV, hE2.get t1]; exact k
  · rintro i v out σ' hv ⟨rfl, rfl⟩
    obtain ⟨row, hrow, a, rfl, ha⟩ := hrw.get' hv
    have hok := rok row (List.mem_of_getElem? hrow)
    have hfew := hok.parts.few
    refine ⟨vals_list (hE2.get t1), by rw [List.length_map, List.length_take]; omega, ?_⟩
    simp only [wSeq, wAsg, w2, w2b, subW, wNm, wInt, opt, updl_eq, bindP_cons, ↓String.reduceEq, ↓reduceIte, reduceCtorEq, i2, c2, ltV, gtV, geV, shrV, wDone, wBrk, wCont, wSet, setW, wIte, wExpr, notRef, wRet, wCall, wCons, wNil, true_and, lenV, mulSV, addV, wAndB, wNot, wTrueB, wOrB, wTru, wMethL, getL, appendV, popV, truthW, wStr, wNone, wBool, typeV, isV, wTyp, wFailS, wFailA, wFailB, wFailE, wFalseB, newL, newT, wSlStr, eqV, neV, wMethS, splitV, joinV, wAsgT, tgN, bindAll, tg1, wItVal, wItRev, wItRange, wOrV, wIf, wAttr, getI, startsV, inV, ninV, wItSet, wNeg, wAug, wAsg2, retv, powV, andV, fdivV, modV, sumV, minV, maxV, sortedV, hE2.get ha]
    refine ⟨row.map partS, by rw [rowV_eq], by rw [slash_eq]; exact joinOk_sg (by omega), ?_⟩
    rw [hfile row hok, take_snoc hrow]
    refine ⟨?_, by simp⟩
    have := slashS_len hok
    rw [show Txt.join (Str.ofString "/") (row.map partS) = slashS row by rw [join_eq, slash_eq]; rfl, show (Str.ofString "/x.py").length = 5 by decide +kernel]
    omega
  rintro files σx ⟨hσx, rfl⟩
  rw [hσx]; clear hσx σx
  refine ⟨vals_list (hE2.get t1), fun fa hfa => ?_⟩
  subst hR
  rw [List.take_of_length_le (by omega)]
  have hE3 := hE2.step hfa (.list (rows.map fun r => V.str (fileS r)))
  have k2 := k1.step hfa (.list (rows.map fun r => V.str (fileS r)))
  have hra3 := upd_get (o' := .list (rows.map fun r => V.str (fileS r))) hra2 hfa
  have hfa3 : upd σ2 fa (.list (rows.map fun r => V.str (fileS r))) fa = some (.list (rows.map fun r => V.str (fileS r))) := upd_self ..
  generalize upd σ2 fa (.list (rows.map fun r => V.str (fileS r))) = σ3 at *
  refine seq_cut fun R hR => ?_
  refine comp_of (.list rwa) rws σ3 (fun i out σ' => σ' = σ3 ∧ out = (rows.take i).map fun r => V.str (dotS r)) (fun K k => ?_) ⟨rfl, rfl⟩ ?_ ?_
  · simp only [wSeq, wAsg, w2, w2b, subW, wNm, wInt, opt, updl_eq, bindP_cons, ↓String.reduceEq, ↓reduceIte, reduceCtorEq, i2, c2, ltV, gtV, geV, shrV, wDone, wBrk, wCont, wSet, setW, wIte, wExpr, notRef, wRet, wCall, wCons, wNil, true_and, lenV, mulSV, addV, wAndB, wNot, wTrueB, wOrB, wTru, wMethL, getL, appendV, popV, truthW, wStr, wNone, wBool, typeV, isV, wTyp, wFailS, wFailA, wFailB, wFailE, wFalseB, newL, newT, wSlStr, eqV, neV, wMethS, splitV, joinV, wAsgT, tgN, bindAll, tg1, wItVal, wItRev, wItRange, wOrV, wIf, wAttr, getI, startsV, inV, ninV, wItSet, wNeg, wAug, wAsg2, retv, powV, andV, fdivV, modV, sumV, minV, maxV, sortedV, hE3.get t1]; exact k
  · rintro i v out σ' hv ⟨rfl, rfl⟩
    obtain ⟨row, hrow, a, rfl, ha⟩ := hrw.get' hv
    have hok := rok row (List.mem_of_getElem? hrow)
    have hfew := hok.parts.few
    refine ⟨vals_list (hE3.get t1), by rw [List.length_map, List.length_take]; omega, ?_⟩
    simp only [wSeq, wAsg, w2, w2b, subW, wNm, wInt, opt, updl_eq, bindP_cons, ↓String.reduceEq, ↓reduceIte, reduceCtorEq, i2, c2, ltV, gtV, geV, shrV, wDone, wBrk, wCont, wSet, setW, wIte, wExpr, notRef, wRet, wCall, wCons, wNil, true_and, lenV, mulSV, addV, wAndB, wNot, wTrueB, wOrB, wTru, wMethL, getL, appendV, popV, truthW, wStr, wNone, wBool, typeV, isV, wTyp, wFailS, wFailA, wFailB, wFailE, wFalseB, newL, newT, wSlStr, eqV, neV, wMethS, splitV, joinV, wAsgT, tgN, bindAll, tg1, wItVal, wItRev, wItRange, wOrV, wIf, wAttr, getI, startsV, inV, ninV, wItSet, wNeg, wAug, wAsg2, retv, powV, andV, fdivV, modV, sumV, minV, maxV, sortedV, hE3.get ha]
    refine ⟨row.map partS, by rw [rowV_eq], by rw [dot_eq]; exact joinOk_sg (by omega), ?_⟩
    rw [hdot row hok, take_snoc hrow]
    simp
  rintro dotted σx ⟨hσx, rfl⟩
  rw [hσx]; clear hσx σx
  refine ⟨vals_list (hE3.get t1), fun da hda => ?_⟩
  subst hR
  rw [List.take_of_length_le (by omega)]
  have hE4 := hE3.step hda (.list (rows.map fun r => V.str (dotS r)))
  have k3 := k2.step hda (.list (rows.map fun r => V.str (dotS r)))
  have hra4 := upd_get (o' := .list (rows.map fun r => V.str (dotS r))) hra3 hda
  have hfa4 := upd_get (o' := .list (rows.map fun r => V.str (dotS r))) hfa3 hda
  have hda4 : upd σ3 da (.list (rows.map fun r => V.str (dotS r))) da = some (.list (rows.map fun r => V.str (dotS r))) := upd_self ..
  generalize upd σ3 da (.list (rows.map fun r => V.str (dotS r))) = σ4 at *
  clear hra2 hra3 hfa3 k1 k2 hE2 hE3
  have S : RdS σ4 rows rds g := by
    refine ⟨rok, h2, fun k hk => ?_, h4, fun k hk => ?_⟩
    · obtain ⟨x, x1, x2, x3, x4⟩ := h3 k hk; exact ⟨x, x1, x2.ext k3⟩
    · obtain ⟨x, x1, x2, x3, x4⟩ := h3 k hk; exact ⟨1, strInit, k3.get x3⟩
  have hc4 : CacheOk σ4 rows g 1 := fun k hk => by
    obtain ⟨x, x1, x2, x3, x4⟩ := h3 k hk
    refine ⟨1, strInit, k3.get x3, Nat.le_refl _, fun s v hs => .inl ?_⟩
    unfold strInit at hs
    split at hs
    · assumption
    · cases hs
  have hgn : ∀ k, k < rows.length → σ (g k) = none := fun k hk => by obtain ⟨x, x1, x2, x3, x4⟩ := h3 k hk; exact x4
  refine seq_cut fun R hR => ?_
  simp only [wSeq, wAsg, w2, w2b, subW, wNm, wInt, opt, updl_eq, bindP_cons, ↓String.reduceEq, ↓reduceIte, reduceCtorEq, i2, c2, ltV, gtV, geV, shrV, wDone, wBrk, wCont, wSet, setW, wIte, wExpr, notRef, wRet, wCall, wCons, wNil, true_and, lenV, mulSV, addV, wAndB, wNot, wTrueB, wOrB, wTru, wMethL, getL, appendV, popV, truthW, wStr, wNone, wBool, typeV, isV, wTyp, wFailS, wFailA, wFailB, wFailE, wFalseB, newL, newT, wSlStr, eqV, neV, wMethS, splitV, joinV, wAsgT, tgN, bindAll, tg1, wItVal, wItRev, wItRange, wOrV, wIf, wAttr, getI, startsV, inV, ninV, wItSet, wNeg, wAug, wAsg2, retv, powV, andV, fdivV, modV, sumV, minV, maxV, sortedV, hE4.get t1]
  refine ⟨by omega, by omega, by omega, ?_⟩
  rw [hrl, first_eq]
  subst hR
  refine seq_cut fun R hR => ?_
  simp only [wSeq, wAsg, w2, w2b, subW, wNm, wInt, opt, updl_eq, bindP_cons, ↓String.reduceEq, ↓reduceIte, reduceCtorEq, i2, c2, ltV, gtV, geV, shrV, wDone, wBrk, wCont, wSet, setW, wIte, wExpr, notRef, wRet, wCall, wCons, wNil, true_and, lenV, mulSV, addV, wAndB, wNot, wTrueB, wOrB, wTru, wMethL, getL, appendV, popV, truthW, wStr, wNone, wBool, typeV, isV, wTyp, wFailS, wFailA, wFailB, wFailE, wFalseB, newL, newT, wSlStr, eqV, neV, wMethS, splitV, joinV, wAsgT, tgN, bindAll, tg1, wItVal, wItRev, wItRange, wOrV, wIf, wAttr, getI, startsV, inV, ninV, wItSet, wNeg, wAug, wAsg2, retv, powV, andV, fdivV, modV, sumV, minV, maxV, sortedV]
  refine ⟨by simp [lim], fun wa hwa => ?_⟩
  subst hR
  refine seq_cut fun R hR => ?_
  simp only [wSeq, wAsg, w2, w2b, subW, wNm, wInt, opt, updl_eq, bindP_cons, ↓String.reduceEq, ↓reduceIte, reduceCtorEq, i2, c2, ltV, gtV, geV, shrV, wDone, wBrk, wCont, wSet, setW, wIte, wExpr, notRef, wRet, wCall, wCons, wNil, true_and, lenV, mulSV, addV, wAndB, wNot, wTrueB, wOrB, wTru, wMethL, getL, appendV, popV, truthW, wStr, wNone, wBool, typeV, isV, wTyp, wFailS, wFailA, wFailB, wFailE, wFalseB, newL, newT, wSlStr, eqV, neV, wMethS, splitV, joinV, wAsgT, tgN, bindAll, tg1, wItVal, wItRev, wItRange, wOrV, wIf, wAttr, getI, startsV, inV, ninV, wItSet, wNeg, wAug, wAsg2, retv, powV, andV, fdivV, modV, sumV, minV, maxV, sortedV]
  refine ⟨by simp [lim], fun se hse => ?_⟩
  subst hR
  refine seq_cut fun R hR => ?_
  simp only [wSeq, wAsg, w2, w2b, subW, wNm, wInt, opt, updl_eq, bindP_cons, ↓String.reduceEq, ↓reduceIte, reduceCtorEq, i2, c2, ltV, gtV, geV, shrV, wDone, wBrk, wCont, wSet, setW, wIte, wExpr, notRef, wRet, wCall, wCons, wNil, true_and, lenV, mulSV, addV, wAndB, wNot, wTrueB, wOrB, wTru, wMethL, getL, appendV, popV, truthW, wStr, wNone, wBool, typeV, isV, wTyp, wFailS, wFailA, wFailB, wFailE, wFalseB, newL, newT, wSlStr, eqV, neV, wMethS, splitV, joinV, wAsgT, tgN, bindAll, tg1, wItVal, wItRev, wItRange, wOrV, wIf, wAttr, getI, startsV, inV, ninV, wItSet, wNeg, wAug, wAsg2, retv, powV, andV, fdivV, modV, sumV, minV, maxV, sortedV]
  refine ⟨by simp [lim], fun mo hmo => ?_⟩
  subst hR
  have hwa0 : σ4 wa = none := hwa
  have hse0 : σ4 se = none := (Ext.new hwa0 _).non hse
  have hmo0 : σ4 mo = none := (Ext.new hwa0 _).non ((Ext.new hse _).non hmo)
  have d1 : wa ≠ se := ne_of (upd_self σ4 wa _) hse
  have d3 : se ≠ mo := ne_of (upd_self _ se _) hmo
  have d2 : wa ≠ mo := ne_of (upd_get (upd_self σ4 wa _) hse) hmo
  have hGn : ∀ {a : Addr}, σ4 a = none → ¬ Gs rows.length g a := fun h => S.notG (by simp [h])
  refine seq_cut fun R hR => ?_
  refine ⟨fun ρ σ' => ∃ t, t ≤ 64 ∧ MInv σ4 rows rws rds g rwa ra fa da wa se mo ([2 ^ rows.length - 1], [2 ^ rows.length - 1], []) t ρ σ', fun ρ σ' => (match ρ "moves" with | some (.ref a) => (match σ' a with | some (.list xs) => 65 - xs.length | _ => 0) | _ => 0), ⟨0, by omega, ?_⟩, ?_⟩
  · refine ⟨?_, ?_, ?_, ?_, ?_, ?_, ?_, ((ExtG.refl _ _).put hwa0 _).put hse0 _ |>.put hmo0 _, ((hc4.upd (hGn hwa0) _).upd (hGn hse0) _).upd (hGn hmo0) _, by simp [iterM], by simp [iterM], by simp [iterM], ?_, ⟨[-((2 ^ rows.length - 1 : Nat) : Int)], ⟨.refl _, fun i h1 h2 => by simp at h2; omega⟩, ?_⟩, [], upd_self .., rfl, .nil⟩
    · simp only [wSeq, wAsg, w2, w2b, subW, wNm, wInt, opt, updl_eq, bindP_cons, ↓String.reduceEq, ↓reduceIte, reduceCtorEq, i2, c2, ltV, gtV, geV, shrV, wDone, wBrk, wCont, wSet, setW, wIte, wExpr, notRef, wRet, wCall, wCons, wNil, true_and, lenV, mulSV, addV, wAndB, wNot, wTrueB, wOrB, wTru, wMethL, getL, appendV, popV, truthW, wStr, wNone, wBool, typeV, isV, wTyp, wFailS, wFailA, wFailB, wFailE, wFalseB, newL, newT, wSlStr, eqV, neV, wMethS, splitV, joinV, wAsgT, tgN, bindAll, tg1, wItVal, wItRev, wItRange, wOrV, wIf, wAttr, getI, startsV, inV, ninV, wItSet, wNeg, wAug, wAsg2, retv, powV, andV, fdivV, modV, sumV, minV, maxV, sortedV]
    · simp only [wSeq, wAsg, w2, w2b, subW, wNm, wInt, opt, updl_eq, bindP_cons, ↓String.reduceEq, ↓reduceIte, reduceCtorEq, i2, c2, ltV, gtV, geV, shrV, wDone, wBrk, wCont, wSet, setW, wIte, wExpr, notRef, wRet, wCall, wCons, wNil, true_and, lenV, mulSV, addV, wAndB, wNot, wTrueB, wOrB, wTru, wMethL, getL, appendV, popV, truthW, wStr, wNone, wBool, typeV, isV, wTyp, wFailS, wFailA, wFailB, wFailE, wFalseB, newL, newT, wSlStr, eqV, neV, wMethS, splitV, joinV, wAsgT, tgN, bindAll, tg1, wItVal, wItRev, wItRange, wOrV, wIf, wAttr, getI, startsV, inV, ninV, wItSet, wNeg, wAug, wAsg2, retv, powV, andV, fdivV, modV, sumV, minV, maxV, sortedV]
    · simp only [wSeq, wAsg, w2, w2b, subW, wNm, wInt, opt, updl_eq, bindP_cons, ↓String.reduceEq, ↓reduceIte, reduceCtorEq, i2, c2, ltV, gtV, geV, shrV, wDone, wBrk, wCont, wSet, setW, wIte, wExpr, notRef, wRet, wCall, wCons, wNil, true_and, lenV, mulSV, addV, wAndB, wNot, wTrueB, wOrB, wTru, wMethL, getL, appendV, popV, truthW, wStr, wNone, wBool, typeV, isV, wTyp, wFailS, wFailA, wFailB, wFailE, wFalseB, newL, newT, wSlStr, eqV, neV, wMethS, splitV, joinV, wAsgT, tgN, bindAll, tg1, wItVal, wItRev, wItRange, wOrV, wIf, wAttr, getI, startsV, inV, ninV, wItSet, wNeg, wAug, wAsg2, retv, powV, andV, fdivV, modV, sumV, minV, maxV, sortedV]
    · simp only [wSeq, wAsg, w2, w2b, subW, wNm, wInt, opt, updl_eq, bindP_cons, ↓String.reduceEq, ↓reduceIte, reduceCtorEq, i2, c2, ltV, gtV, geV, shrV, wDone, wBrk, wCont, wSet, setW, wIte, wExpr, notRef, wRet, wCall, wCons, wNil, true_and, lenV, mulSV, addV, wAndB, wNot, wTrueB, wOrB, wTru, wMethL, getL, appendV, popV, truthW, wStr, wNone, wBool, typeV, isV, wTyp, wFailS, wFailA, wFailB, wFailE, wFalseB, newL, newT, wSlStr, eqV, neV, wMethS, splitV, joinV, wAsgT, tgN, bindAll, tg1, wItVal, wItRev, wItRange, wOrV, wIf, wAttr, getI, startsV, inV, ninV, wItSet, wNeg, wAug, wAsg2, retv, powV, andV, fdivV, modV, sumV, minV, maxV, sortedV]
    · simp only [wSeq, wAsg, w2, w2b, subW, wNm, wInt, opt, updl_eq, bindP_cons, ↓String.reduceEq, ↓reduceIte, reduceCtorEq, i2, c2, ltV, gtV, geV, shrV, wDone, wBrk, wCont, wSet, setW, wIte, wExpr, notRef, wRet, wCall, wCons, wNil, true_and, lenV, mulSV, addV, wAndB, wNot, wTrueB, wOrB, wTru, wMethL, getL, appendV, popV, truthW, wStr, wNone, wBool, typeV, isV, wTyp, wFailS, wFailA, wFailB, wFailE, wFalseB, newL, newT, wSlStr, eqV, neV, wMethS, splitV, joinV, wAsgT, tgN, bindAll, tg1, wItVal, wItRev, wItRange, wOrV, wIf, wAttr, getI, startsV, inV, ninV, wItSet, wNeg, wAug, wAsg2, retv, powV, andV, fdivV, modV, sumV, minV, maxV, sortedV]
    · simp only [wSeq, wAsg, w2, w2b, subW, wNm, wInt, opt, updl_eq, bindP_cons, ↓String.reduceEq, ↓reduceIte, reduceCtorEq, i2, c2, ltV, gtV, geV, shrV, wDone, wBrk, wCont, wSet, setW, wIte, wExpr, notRef, wRet, wCall, wCons, wNil, true_and, lenV, mulSV, addV, wAndB, wNot, wTrueB, wOrB, wTru, wMethL, getL, appendV, popV, truthW, wStr, wNone, wBool, typeV, isV, wTyp, wFailS, wFailA, wFailB, wFailE, wFalseB, newL, newT, wSlStr, eqV, neV, wMethS, splitV, joinV, wAsgT, tgN, bindAll, tg1, wItVal, wItRev, wItRange, wOrV, wIf, wAttr, getI, startsV, inV, ninV, wItSet, wNeg, wAug, wAsg2, retv, powV, andV, fdivV, modV, sumV, minV, maxV, sortedV]
    · simp only [wSeq, wAsg, w2, w2b, subW, wNm, wInt, opt, updl_eq, bindP_cons, ↓String.reduceEq, ↓reduceIte, reduceCtorEq, i2, c2, ltV, gtV, geV, shrV, wDone, wBrk, wCont, wSet, setW, wIte, wExpr, notRef, wRet, wCall, wCons, wNil, true_and, lenV, mulSV, addV, wAndB, wNot, wTrueB, wOrB, wTru, wMethL, getL, appendV, popV, truthW, wStr, wNone, wBool, typeV, isV, wTyp, wFailS, wFailA, wFailB, wFailE, wFalseB, newL, newT, wSlStr, eqV, neV, wMethS, splitV, joinV, wAsgT, tgN, bindAll, tg1, wItVal, wItRev, wItRange, wOrV, wIf, wAttr, getI, startsV, inV, ninV, wItSet, wNeg, wAug, wAsg2, retv, powV, andV, fdivV, modV, sumV, minV, maxV, sortedV]
    · rw [upd_ne _ _ d3, upd_self]; rfl
    · rw [upd_ne _ _ d2, upd_ne _ _ d1, upd_self]; rfl
  · rintro ρ σ' ⟨t, ht, M⟩
    obtain ⟨hl, hhp, hwa'⟩ := M.hwa
    have test : ∀ K : Bool → Sto → Prop, (∀ e, σ' e = none → K (!decide (hl = [])) (upd σ' e (.list []))) → w2b neV (wNm "waiting") (wCall newL wNil) ρ σ' K (fun _ => False) := fun K k => by
      simp only [wSeq, wAsg, w2, w2b, subW, wNm, wInt, opt, updl_eq, bindP_cons, ↓String.reduceEq, ↓reduceIte, reduceCtorEq, i2, c2, ltV, gtV, geV, shrV, wDone, wBrk, wCont, wSet, setW, wIte, wExpr, notRef, wRet, wCall, wCons, wNil, true_and, lenV, mulSV, addV, wAndB, wNot, wTrueB, wOrB, wTru, wMethL, getL, appendV, popV, truthW, wStr, wNone, wBool, typeV, isV, wTyp, wFailS, wFailA, wFailB, wFailE, wFalseB, newL, newT, wSlStr, eqV, neV, wMethS, splitV, joinV, wAsgT, tgN, bindAll, tg1, wItVal, wItRev, wItRange, wOrV, wIf, wAttr, getI, startsV, inV, ninV, wItSet, wNeg, wAug, wAsg2, retv, powV, andV, fdivV, modV, sumV, minV, maxV, sortedV, M.r5]
      exact ⟨by simp [lim], fun e he => ⟨hl, [], upd_get hwa' he, upd_self .., k e he⟩⟩
    refine test _ fun e he => ?_
    have M' := M.alloc he (.list [])
    have hlw : hl.length = (iterM rows t ([2 ^ rows.length - 1], [2 ^ rows.length - 1], [])).1.length := by rw [hhp.perm.length_eq, List.length_map]
    by_cases h0 : hl = []
    · rw [if_neg (by simp [h0])]
      have hw0 : (iterM rows t ([2 ^ rows.length - 1], [2 ^ rows.length - 1], [])).1 = [] := List.length_eq_zero_iff.mp (by rw [← hlw, h0]; rfl)
      have h64 := iterM_nil rows _ hw0 (64 - t)
      rw [show t + (64 - t) = 64 by omega] at h64
      subst hR
      simp only [wSeq, wAsg, w2, w2b, subW, wNm, wInt, opt, updl_eq, bindP_cons, ↓String.reduceEq, ↓reduceIte, reduceCtorEq, i2, c2, ltV, gtV, geV, shrV, wDone, wBrk, wCont, wSet, setW, wIte, wExpr, notRef, wRet, wCall, wCons, wNil, true_and, lenV, mulSV, addV, wAndB, wNot, wTrueB, wOrB, wTru, wMethL, getL, appendV, popV, truthW, wStr, wNone, wBool, typeV, isV, wTyp, wFailS, wFailA, wFailB, wFailE, wFalseB, newL, newT, wSlStr, eqV, neV, wMethS, splitV, joinV, wAsgT, tgN, bindAll, tg1, wItVal, wItRev, wItRange, wOrV, wIf, wAttr, getI, startsV, inV, ninV, wItSet, wNeg, wAug, wAsg2, retv, powV, andV, fdivV, modV, sumV, minV, maxV, sortedV, M.r7]
      obtain ⟨refs, m1, m2, m3⟩ := M'.hmo
      refine q _ mo refs (fun b hb => ?_) m1 ?_
      · rw [M'.ext.1 b (fun ⟨k, hk, e⟩ => hb (by rw [e]; exact hgn k hk)) (by rw [hE4 b hb]; exact hb), hE4 b hb]
      · rw [h64]
        refine m3.imp fun v m hv => ?_
        obtain ⟨a', b', v1, v2, v3, _⟩ := hv
        exact ⟨a', b', v1, v2, v3⟩
    · rw [if_pos (by simp [h0])]
      have hw0 : (iterM rows t ([2 ^ rows.length - 1], [2 ^ rows.length - 1], [])).1 ≠ [] := fun e => h0 (List.length_eq_zero_iff.mp (by rw [hlw, e]; rfl))
      have ht2 : t < 64 := by
        rcases Nat.lt_or_ge t 64 with h | h
        · exact h
        · have : t = 64 := by omega
          subst this
          exact absurd hfin hw0
      obtain ⟨refs, m1, m2, m3⟩ := M.hmo
      refine turn_body S hn hrl (hE4.get t1) hra4 hfa4 hda4 hwa0 hse0 hmo0 d1 d2 d3 ht M' hw0 fun ρ' σ'' M'' => ?_
      obtain ⟨refs', m1', m2', m3'⟩ := M''.hmo
      refine ⟨⟨t + 1, by omega, M''⟩, ?_⟩
      simp only [M.r7, M''.r7, m1, m1', m2, m2']
      omega
end Mine
end

section
open PySem PySem.W PyProof.Rows PySem.Builtin PySem.Builtin.Str
set_option maxRecDepth 100000
set_option maxHeartbeats 4000000
set_option linter.unusedSimpArgs false
namespace Mine
theorem bit_eq0 (m k : Nat) : (Builtin.bitAnd ((m : Int).fdiv (2 ^ ((k : Nat) : Int).toNat)) 1 == 0) = !m.testBit k := by
  rw [shr_nat, show (1 : Int) = ((1 : Nat) : Int) from rfl, bitAnd_nat, Nat.and_one_is_mod, Nat.testBit_eq_decide_div_mod_eq, Nat.shiftRight_eq_div_pow]
  rw [Bool.eq_iff_iff, beq_iff_eq, Bool.not_eq_true', decide_eq_false_iff_not]
  omega
theorem parI_get {ps : List Nat} {i p : Nat} (h : ps[i]? = some p) : idx ((parI ps).map V.int) (i : Int) = some (.int ((p : Int) - 1)) := by
  have hpz : (parI ps)[i]? = some ((p : Int) - 1) := by unfold parI; rw [List.getElem?_map, h]; rfl
  exact idx_map _ _ _ _ hpz
theorem parI_len (ps : List Nat) : ((parI ps).map V.int).length = ps.length := by unfold parI; rw [List.length_map, List.length_map]
noncomputable def loneB (ps : List Nat) (m k : Nat) : Bool := m.testBit k && (ps.getD k 0 != 0 && !m.testBit (ps.getD k 0 - 1))
noncomputable def loneF (ps : List Nat) (m i : Nat) : List Nat := (List.range i).filter (loneB ps m)
theorem loneF_len (ps : List Nat) (m n : Nat) : (loneF ps m n).length ≤ n := by
  have := List.length_filter_le (loneB ps m) (List.range n)
  rw [List.length_range] at this; exact this
theorem lone_comp {σ : Sto} {pa : Addr} {ps : List Nat} {m : Nat} {ρ : Loc} {Q : V → Sto → Prop} {X : Sto → Prop} (hl : ps.length ≤ 6)
    (r1 : ρ "parents" = some (.ref pa)) (r2 : ρ "mask" = some (.int m)) (s1 : σ pa = some (.list ((parI ps).map V.int)))
    (q : ∀ a, σ a = none → Q (.ref a) (upd σ a (.list ((loneF ps m ps.length).map natV)))) :
    wComp ["parents", "mask"] (tg1 "k") (wItRange (wCons (wCall lenV (wCons (wNm "parents") (wNil))) (wNil))) (wAndB (w2b eqV (w2 andV (w2 shrV (wNm "mask") (wNm "k")) (wInt 1)) (wInt 1)) (wAndB (w2b geV (w2 subW (wNm "parents") (wNm "k")) (wInt 0)) (wAndB (w2b eqV (w2 andV (w2 shrV (wNm "mask") (w2 subW (wNm "parents") (wNm "k"))) (wInt 1)) (wInt 0)) (wTrueB)))) (wNm "k") ρ σ Q X := by
  refine comp_of (.range 0 1 ps.length) (rangeV 0 1 ps.length) σ (fun i out σ' => σ' = σ ∧ out = (loneF ps m i).map natV) (fun K k => ?_) ⟨rfl, rfl⟩ ?_ ?_
  · simp only [wSeq, wAsg, w2, w2b, subW, wNm, wInt, opt, updl_eq, bindP_cons, ↓String.reduceEq, ↓reduceIte, reduceCtorEq, i2, c2, ltV, gtV, geV, shrV, wDone, wBrk, wCont, wSet, setW, wIte, wExpr, notRef, wRet, wCall, wCons, wNil, true_and, lenV, mulSV, addV, wAndB, wNot, wTrueB, wOrB, wTru, wMethL, getL, appendV, popV, truthW, wStr, wNone, wBool, typeV, isV, wTyp, wFailS, wFailA, wFailB, wFailE, wFalseB, newL, newT, wSlStr, eqV, neV, wMethS, splitV, joinV, wAsgT, tgN, bindAll, tg1, wItVal, wItRev, wItRange, wOrV, wIf, wAttr, getI, startsV, inV, ninV, wItSet, wNeg, wAug, wAsg2, retv, powV, andV, fdivV, modV, sumV, minV, maxV, sortedV, r1, s1, Int.toNat_natCast, parI_len]
    exact ⟨by omega, ⟨by omega, by omega⟩, k⟩
  · rintro i v out σ' hv ⟨rfl, rfl⟩
    obtain ⟨hi, rfl⟩ := range_get1 hv
    refine ⟨vals_range, by rw [List.length_map]; have := loneF_len ps m i; omega, ?_⟩
    have f1 := restr_of (fv := ["parents", "mask"]) r1 (by decide)
    have f2 := restr_of (fv := ["parents", "mask"]) r2 (by decide)
    have hp := List.getElem?_eq_getElem hi
    generalize hpe : ps[i] = p at hp
    have hpD : ps.getD i 0 = p := by rw [List.getD_eq_getElem?_getD, hp]; rfl
    have hix := parI_get hp
    have hpl := parI_len ps
    have hs : loneF ps m (i + 1) = loneF ps m i ++ (if loneB ps m i then [i] else []) := by
      unfold loneF
      rw [List.range_succ, List.filter_append]
      cases h : loneB ps m i <;> simp [h]
    have hlb : loneB ps m i = (m.testBit i && (p != 0 && !m.testBit (p - 1))) := by unfold loneB; rw [hpD]
    rw [hlb] at hs
    show wAndB _ _ _ _ _ _
    simp only [wSeq, wAsg, w2, w2b, subW, wNm, wInt, opt, updl_eq, bindP_cons, ↓String.reduceEq, ↓reduceIte, reduceCtorEq, i2, c2, ltV, gtV, geV, shrV, wDone, wBrk, wCont, wSet, setW, wIte, wExpr, notRef, wRet, wCall, wCons, wNil, true_and, lenV, mulSV, addV, wAndB, wNot, wTrueB, wOrB, wTru, wMethL, getL, appendV, popV, truthW, wStr, wNone, wBool, typeV, isV, wTyp, wFailS, wFailA, wFailB, wFailE, wFalseB, newL, newT, wSlStr, eqV, neV, wMethS, splitV, joinV, wAsgT, tgN, bindAll, tg1, wItVal, wItRev, wItRange, wOrV, wIf, wAttr, getI, startsV, inV, ninV, wItSet, wNeg, wAug, wAsg2, retv, powV, andV, fdivV, modV, sumV, minV, maxV, sortedV, f1, f2, s1, hix]
    refine ⟨by omega, ?_⟩
    rw [bit_eq]
    cases h : m.testBit i with
    | false =>
      rw [h] at hs
      rw [if_neg (by decide)]; rw [hs]; simp
    | true =>
      rw [h] at hs
      rw [if_pos rfl]
      refine ⟨by omega, ?_⟩
      by_cases h0 : p = 0
      · rw [if_neg (by simp [h0]), hs, h0]; simp
      · rw [if_pos (by simp; omega)]
        refine ⟨by omega, by omega, ?_⟩
        rw [show (p : Int) - 1 = ((p - 1 : Nat) : Int) by omega, bit_eq0]
        cases h2 : m.testBit (p - 1) with
        | true => rw [h2] at hs; rw [if_neg (by decide), hs]; simp
        | false =>
          rw [h2] at hs
          rw [if_pos (by decide), hs]
          have : (p != 0) = true := by simp [h0]
          rw [this]; simp [natV]
  · rintro out σ' ⟨rfl, rfl⟩
    rw [rangeV_len]
    exact ⟨vals_range, q⟩
noncomputable def wholeT (ps : List Nat) (i : Nat) : List Nat := ((List.range i).map fun t => 2 ^ ps.length - 1 - t).filter fun m => (loneF ps m ps.length).isEmpty
noncomputable def wholeF (ps : List Nat) : List Nat := wholeT ps (2 ^ ps.length)
theorem wholeT_snoc (ps : List Nat) (i : Nat) : wholeT ps (i + 1) = wholeT ps i ++ (if (loneF ps (2 ^ ps.length - 1 - i) ps.length).isEmpty then [2 ^ ps.length - 1 - i] else []) := by
  unfold wholeT
  rw [List.range_succ, List.map_append, List.filter_append]
  cases h : (loneF ps (2 ^ ps.length - 1 - i) ps.length).isEmpty <;> simp [h]
theorem wholeT_len (ps : List Nat) (i : Nat) : (wholeT ps i).length ≤ i := by
  unfold wholeT
  refine Nat.le_trans (List.length_filter_le _ _) ?_
  rw [List.length_map, List.length_range]
  exact Nat.le_refl _
theorem pow6 {n : Nat} (h : n ≤ 6) : 2 ^ n ≤ 64 ∧ 1 ≤ 2 ^ n := ⟨Nat.pow_le_pow_right (by decide) h, Nat.one_le_two_pow⟩
theorem spec_law_whole {σ : Sto} {pa : Addr} {ps : List Nat} {Q : V → Sto → Prop} (s1 : σ pa = some (.list ((parI ps).map V.int))) (hl : ps.length ≤ 6)
    (q : ∀ σ' r, Ext σ σ' → σ' r = some (.list ((wholeF ps).map natV)) → Q (.ref r) σ') : T__law_whole [.ref pa] σ Q := by
  refine ⟨rfl, ?_⟩
  unfold W__law_whole
  obtain ⟨hp1, hp2⟩ := pow6 hl
  refine seq_cut fun R hR => ?_
  simp only [wSeq, wAsg, w2, w2b, subW, wNm, wInt, opt, updl_eq, bindP_cons, ↓String.reduceEq, ↓reduceIte, reduceCtorEq, i2, c2, ltV, gtV, geV, shrV, wDone, wBrk, wCont, wSet, setW, wIte, wExpr, notRef, wRet, wCall, wCons, wNil, true_and, lenV, mulSV, addV, wAndB, wNot, wTrueB, wOrB, wTru, wMethL, getL, appendV, popV, truthW, wStr, wNone, wBool, typeV, isV, wTyp, wFailS, wFailA, wFailB, wFailE, wFalseB, newL, newT, wSlStr, eqV, neV, wMethS, splitV, joinV, wAsgT, tgN, bindAll, tg1, wItVal, wItRev, wItRange, wOrV, wIf, wAttr, getI, startsV, inV, ninV, wItSet, wNeg, wAug, wAsg2, retv, powV, andV, fdivV, modV, sumV, minV, maxV, sortedV]
  refine ⟨by simp [lim], fun wh hwh => ?_⟩
  subst hR
  refine seq_cut fun R hR => ?_
  refine for_of (.range ((2 ^ ps.length - 1 : Nat) : Int) (-1) (2 ^ ps.length)) (rangeV ((2 ^ ps.length - 1 : Nat) : Int) (-1) (2 ^ ps.length)) _ (fun i ρ σ' => ρ "parents" = some (.ref pa) ∧ ρ "whole" = some (.ref wh) ∧ Ext σ σ' ∧ σ' wh = some (.list ((wholeT ps i).map natV))) (fun K k => ?_) ⟨?_, ?_, Ext.new hwh _, upd_self ..⟩ ?_ ?_
  · have e : ((((2 ^ ps.length - 1 : Nat) : Int) - -1).toNat) = 2 ^ ps.length := by omega
    simp only [wSeq, wAsg, w2, w2b, subW, wNm, wInt, opt, updl_eq, bindP_cons, ↓String.reduceEq, ↓reduceIte, reduceCtorEq, i2, c2, ltV, gtV, geV, shrV, wDone, wBrk, wCont, wSet, setW, wIte, wExpr, notRef, wRet, wCall, wCons, wNil, true_and, lenV, mulSV, addV, wAndB, wNot, wTrueB, wOrB, wTru, wMethL, getL, appendV, popV, truthW, wStr, wNone, wBool, typeV, isV, wTyp, wFailS, wFailA, wFailB, wFailE, wFalseB, newL, newT, wSlStr, eqV, neV, wMethS, splitV, joinV, wAsgT, tgN, bindAll, tg1, wItVal, wItRev, wItRange, wOrV, wIf, wAttr, getI, startsV, inV, ninV, wItSet, wNeg, wAug, wAsg2, retv, powV, andV, fdivV, modV, sumV, minV, maxV, sortedV, upd_get s1 hwh, parI_len]
    rw [first_eq, e]
    exact ⟨by omega, by omega, by omega, ⟨by omega, by omega⟩, ⟨by decide, by decide⟩, k⟩
  · simp only [wSeq, wAsg, w2, w2b, subW, wNm, wInt, opt, updl_eq, bindP_cons, ↓String.reduceEq, ↓reduceIte, reduceCtorEq, i2, c2, ltV, gtV, geV, shrV, wDone, wBrk, wCont, wSet, setW, wIte, wExpr, notRef, wRet, wCall, wCons, wNil, true_and, lenV, mulSV, addV, wAndB, wNot, wTrueB, wOrB, wTru, wMethL, getL, appendV, popV, truthW, wStr, wNone, wBool, typeV, isV, wTyp, wFailS, wFailA, wFailB, wFailE, wFalseB, newL, newT, wSlStr, eqV, neV, wMethS, splitV, joinV, wAsgT, tgN, bindAll, tg1, wItVal, wItRev, wItRange, wOrV, wIf, wAttr, getI, startsV, inV, ninV, wItSet, wNeg, wAug, wAsg2, retv, powV, andV, fdivV, modV, sumV, minV, maxV, sortedV]
  · simp only [wSeq, wAsg, w2, w2b, subW, wNm, wInt, opt, updl_eq, bindP_cons, ↓String.reduceEq, ↓reduceIte, reduceCtorEq, i2, c2, ltV, gtV, geV, shrV, wDone, wBrk, wCont, wSet, setW, wIte, wExpr, notRef, wRet, wCall, wCons, wNil, true_and, lenV, mulSV, addV, wAndB, wNot, wTrueB, wOrB, wTru, wMethL, getL, appendV, popV, truthW, wStr, wNone, wBool, typeV, isV, wTyp, wFailS, wFailA, wFailB, wFailE, wFalseB, newL, newT, wSlStr, eqV, neV, wMethS, splitV, joinV, wAsgT, tgN, bindAll, tg1, wItVal, wItRev, wItRange, wOrV, wIf, wAttr, getI, startsV, inV, ninV, wItSet, wNeg, wAug, wAsg2, retv, powV, andV, fdivV, modV, sumV, minV, maxV, sortedV]
  · rintro i v ρ σ' hv ⟨h1, h2, h3, h4⟩
    obtain ⟨hi, hv⟩ := range_get hv
    have hv : v = .int ((2 ^ ps.length - 1 - i : Nat) : Int) := by rw [hv]; congr 1; omega
    subst hv
    refine ⟨vals_range, ?_⟩
    refine seq_cut fun R hR => ?_
    refine lone_comp (m := 2 ^ ps.length - 1 - i) (pa := pa) (ps := ps) hl (by simp only [wSeq, wAsg, w2, w2b, subW, wNm, wInt, opt, updl_eq, bindP_cons, ↓String.reduceEq, ↓reduceIte, reduceCtorEq, i2, c2, ltV, gtV, geV, shrV, wDone, wBrk, wCont, wSet, setW, wIte, wExpr, notRef, wRet, wCall, wCons, wNil, true_and, lenV, mulSV, addV, wAndB, wNot, wTrueB, wOrB, wTru, wMethL, getL, appendV, popV, truthW, wStr, wNone, wBool, typeV, isV, wTyp, wFailS, wFailA, wFailB, wFailE, wFalseB, newL, newT, wSlStr, eqV, neV, wMethS, splitV, joinV, wAsgT, tgN, bindAll, tg1, wItVal, wItRev, wItRange, wOrV, wIf, wAttr, getI, startsV, inV, ninV, wItSet, wNeg, wAug, wAsg2, retv, powV, andV, fdivV, modV, sumV, minV, maxV, sortedV, h1]) (by simp only [wSeq, wAsg, w2, w2b, subW, wNm, wInt, opt, updl_eq, bindP_cons, ↓String.reduceEq, ↓reduceIte, reduceCtorEq, i2, c2, ltV, gtV, geV, shrV, wDone, wBrk, wCont, wSet, setW, wIte, wExpr, notRef, wRet, wCall, wCons, wNil, true_and, lenV, mulSV, addV, wAndB, wNot, wTrueB, wOrB, wTru, wMethL, getL, appendV, popV, truthW, wStr, wNone, wBool, typeV, isV, wTyp, wFailS, wFailA, wFailB, wFailE, wFalseB, newL, newT, wSlStr, eqV, neV, wMethS, splitV, joinV, wAsgT, tgN, bindAll, tg1, wItVal, wItRev, wItRange, wOrV, wIf, wAttr, getI, startsV, inV, ninV, wItSet, wNeg, wAug, wAsg2, retv, powV, andV, fdivV, modV, sumV, minV, maxV, sortedV]) (h3.get s1) fun a ha => ?_
    subst hR
    have h5 := upd_get (o' := .list ((loneF ps (2 ^ ps.length - 1 - i) ps.length).map natV)) h4 ha
    have hE := h3.step ha (.list ((loneF ps (2 ^ ps.length - 1 - i) ps.length).map natV))
    have ha2 : upd σ' a (.list ((loneF ps (2 ^ ps.length - 1 - i) ps.length).map natV)) a = _ := upd_self ..
    generalize upd σ' a (.list ((loneF ps (2 ^ ps.length - 1 - i) ps.length).map natV)) = σ2 at *
    have hwl := wholeT_len ps i
    have hsn := wholeT_snoc ps i
    refine seq_cut fun R hR => ?_
    have test : ∀ K : Bool → Sto → Prop, (∀ e, σ2 e = none → K (loneF ps (2 ^ ps.length - 1 - i) ps.length).isEmpty (upd σ2 e (.list []))) → w2b eqV (wNm "lone") (wCall newL (wNil)) (updl (updl ρ "mask" (.int ((2 ^ ps.length - 1 - i : Nat) : Int))) "lone" (.ref a)) σ2 K (fun _ => False) := fun K k => by
      simp only [wSeq, wAsg, w2, w2b, subW, wNm, wInt, opt, updl_eq, bindP_cons, ↓String.reduceEq, ↓reduceIte, reduceCtorEq, i2, c2, ltV, gtV, geV, shrV, wDone, wBrk, wCont, wSet, setW, wIte, wExpr, notRef, wRet, wCall, wCons, wNil, true_and, lenV, mulSV, addV, wAndB, wNot, wTrueB, wOrB, wTru, wMethL, getL, appendV, popV, truthW, wStr, wNone, wBool, typeV, isV, wTyp, wFailS, wFailA, wFailB, wFailE, wFalseB, newL, newT, wSlStr, eqV, neV, wMethS, splitV, joinV, wAsgT, tgN, bindAll, tg1, wItVal, wItRev, wItRange, wOrV, wIf, wAttr, getI, startsV, inV, ninV, wItSet, wNeg, wAug, wAsg2, retv, powV, andV, fdivV, modV, sumV, minV, maxV, sortedV]
      refine ⟨by simp [lim], fun e he => ⟨(loneF ps (2 ^ ps.length - 1 - i) ps.length).map (fun k : Nat => (k : Int)), [], by rw [upd_get ha2 he, natV_map], upd_self .., ?_⟩⟩
      have := k e he
      cases hlf : loneF ps (2 ^ ps.length - 1 - i) ps.length with
      | nil => rw [hlf] at this; exact this
      | cons x y => rw [hlf] at this; exact this
    unfold wIte
    refine test _ fun e he => ?_
    have h6 := upd_get (o' := .list []) h5 he
    have hE2 := hE.step he (.list [])
    generalize upd σ2 e (.list []) = σ3 at *
    cases hlf : (loneF ps (2 ^ ps.length - 1 - i) ps.length).isEmpty with
    | true =>
      rw [hlf] at hsn
      rw [if_pos rfl]
      refine seq_cut fun R2 hR2 => ?_
      simp only [wSeq, wAsg, w2, w2b, subW, wNm, wInt, opt, updl_eq, bindP_cons, ↓String.reduceEq, ↓reduceIte, reduceCtorEq, i2, c2, ltV, gtV, geV, shrV, wDone, wBrk, wCont, wSet, setW, wIte, wExpr, notRef, wRet, wCall, wCons, wNil, true_and, lenV, mulSV, addV, wAndB, wNot, wTrueB, wOrB, wTru, wMethL, getL, appendV, popV, truthW, wStr, wNone, wBool, typeV, isV, wTyp, wFailS, wFailA, wFailB, wFailE, wFalseB, newL, newT, wSlStr, eqV, neV, wMethS, splitV, joinV, wAsgT, tgN, bindAll, tg1, wItVal, wItRev, wItRange, wOrV, wIf, wAttr, getI, startsV, inV, ninV, wItSet, wNeg, wAug, wAsg2, retv, powV, andV, fdivV, modV, sumV, minV, maxV, sortedV, h2, h6]
      refine ⟨by rw [List.length_map]; omega, ?_⟩
      subst hR2 hR
      simp only [wSeq, wAsg, w2, w2b, subW, wNm, wInt, opt, updl_eq, bindP_cons, ↓String.reduceEq, ↓reduceIte, reduceCtorEq, i2, c2, ltV, gtV, geV, shrV, wDone, wBrk, wCont, wSet, setW, wIte, wExpr, notRef, wRet, wCall, wCons, wNil, true_and, lenV, mulSV, addV, wAndB, wNot, wTrueB, wOrB, wTru, wMethL, getL, appendV, popV, truthW, wStr, wNone, wBool, typeV, isV, wTyp, wFailS, wFailA, wFailB, wFailE, wFalseB, newL, newT, wSlStr, eqV, neV, wMethS, splitV, joinV, wAsgT, tgN, bindAll, tg1, wItVal, wItRev, wItRange, wOrV, wIf, wAttr, getI, startsV, inV, ninV, wItSet, wNeg, wAug, wAsg2, retv, powV, andV, fdivV, modV, sumV, minV, maxV, sortedV, h1, h2]
      refine ⟨hE2.put hwh _, ?_⟩
      rw [upd_self, hsn]; simp [natV]
    | false =>
      rw [hlf] at hsn
      rw [if_neg (by decide)]
      subst hR
      simp only [wSeq, wAsg, w2, w2b, subW, wNm, wInt, opt, updl_eq, bindP_cons, ↓String.reduceEq, ↓reduceIte, reduceCtorEq, i2, c2, ltV, gtV, geV, shrV, wDone, wBrk, wCont, wSet, setW, wIte, wExpr, notRef, wRet, wCall, wCons, wNil, true_and, lenV, mulSV, addV, wAndB, wNot, wTrueB, wOrB, wTru, wMethL, getL, appendV, popV, truthW, wStr, wNone, wBool, typeV, isV, wTyp, wFailS, wFailA, wFailB, wFailE, wFalseB, newL, newT, wSlStr, eqV, neV, wMethS, splitV, joinV, wAsgT, tgN, bindAll, tg1, wItVal, wItRev, wItRange, wOrV, wIf, wAttr, getI, startsV, inV, ninV, wItSet, wNeg, wAug, wAsg2, retv, powV, andV, fdivV, modV, sumV, minV, maxV, sortedV, h1, h2, h6]
      refine ⟨hE2, ?_⟩
      rw [hsn]; simp
  · rintro ρ σ' ⟨h1, h2, h3, h4⟩
    rw [rangeV_len] at h4
    refine ⟨vals_range, ?_⟩
    subst hR
    simp only [wSeq, wAsg, w2, w2b, subW, wNm, wInt, opt, updl_eq, bindP_cons, ↓String.reduceEq, ↓reduceIte, reduceCtorEq, i2, c2, ltV, gtV, geV, shrV, wDone, wBrk, wCont, wSet, setW, wIte, wExpr, notRef, wRet, wCall, wCons, wNil, true_and, lenV, mulSV, addV, wAndB, wNot, wTrueB, wOrB, wTru, wMethL, getL, appendV, popV, truthW, wStr, wNone, wBool, typeV, isV, wTyp, wFailS, wFailA, wFailB, wFailE, wFalseB, newL, newT, wSlStr, eqV, neV, wMethS, splitV, joinV, wAsgT, tgN, bindAll, tg1, wItVal, wItRev, wItRange, wOrV, wIf, wAttr, getI, startsV, inV, ninV, wItSet, wNeg, wAug, wAsg2, retv, powV, andV, fdivV, modV, sumV, minV, maxV, sortedV, h2]
    exact q σ' wh h3 h4
end Mine
end

section
open PySem PySem.W PyProof.Rows PySem.Builtin PySem.Builtin.Str
set_option maxRecDepth 100000
set_option maxHeartbeats 4000000
set_option linter.unusedSimpArgs false
namespace Mine
theorem ite_B {t : BT} {a b : ST} {ρ : Loc} {σ : Sto} {Q : F → Loc → Sto → Prop} {X : Loc → Sto → Prop} (c : Bool) (σ₁ : Sto) (ht : ∀ K : Bool → Sto → Prop, K c σ₁ → t ρ σ K (X ρ)) (hT : c = true → a ρ σ₁ Q X) (hF : c = false → b ρ σ₁ Q X) : wIte t a b ρ σ Q X := by
  refine ht _ ?_
  cases c with
  | true => exact hT rfl
  | false => exact hF rfl
noncomputable def xr (a b : Nat) : Nat := (a ||| b) - (a &&& b)
theorem bitOr_nat (a b : Nat) : Builtin.bitOr (a : Int) (b : Int) = ((a ||| b : Nat) : Int) := by
  have h1 : ∀ x : Nat, decide ((0 : Int) ≤ Builtin.bitNot (x : Int)) = false := fun x => decide_eq_false (by unfold Builtin.bitNot; omega)
  have h2 : ∀ x : Int, Builtin.bitNot (Builtin.bitNot x) = x := fun x => by unfold Builtin.bitNot; omega
  unfold Builtin.bitOr Builtin.bitAnd
  rw [h1, h1]
  dsimp only
  rw [h2, h2, h2, Int.toNat_natCast, Int.toNat_natCast]
theorem bitXor_nat (a b : Nat) : Builtin.bitXor (a : Int) (b : Int) = ((xr a b : Nat) : Int) := by
  unfold Builtin.bitXor xr
  rw [bitOr_nat, bitAnd_nat]
  have : a &&& b ≤ a ||| b := Nat.le_trans Nat.and_le_left Nat.left_le_or
  omega
/-- the last place stands for 'at the top' -/
noncomputable def plF (n p : Nat) : Nat := if p = 0 then n else p - 1
noncomputable def colStep (ps : List Nat) (m : Nat) (ad : List Nat) (k : Nat) : List Nat := if m.testBit k then ad.set (plF ps.length (ps.getD k 0)) (xr (ad.getD (plF ps.length (ps.getD k 0)) 0) (ad.getD k 0 + 1)) else ad
noncomputable def colT (ps : List Nat) (m i : Nat) : List Nat := ((List.range i).map fun t => ps.length - 1 - t).foldl (colStep ps m) (List.replicate (ps.length + 1) 0)
noncomputable def colF (ps : List Nat) (m : Nat) : Nat := (colT ps m ps.length).getD ps.length 0
theorem colT_snoc (ps : List Nat) (m i : Nat) : colT ps m (i + 1) = colStep ps m (colT ps m i) (ps.length - 1 - i) := by
  unfold colT
  rw [List.range_succ, List.map_append, List.foldl_append]; rfl
theorem colT_len (ps : List Nat) (m : Nat) : ∀ i, (colT ps m i).length = ps.length + 1
  | 0 => by simp [colT]
  | i + 1 => by
    rw [colT_snoc]
    unfold colStep
    split
    · rw [List.length_set, colT_len ps m i]
    · exact colT_len ps m i
theorem spec_law_colon {σ : Sto} {pa : Addr} {ps : List Nat} {m : Nat} {Q : V → Sto → Prop} (s1 : σ pa = some (.list ((parI ps).map V.int))) (hl : ps.length ≤ 6) (hp : ∀ (k p : Nat), ps[k]? = some p → p ≤ k)
    (q : ∀ σ', Ext σ σ' → Q (.int (colF ps m)) σ') : T__law_colon [.int m, .ref pa] σ Q := by
  refine ⟨rfl, ?_⟩
  unfold W__law_colon
  have hpl := parI_len ps
  refine seq_cut fun R hR => ?_
  simp only [wSeq, wAsg, w2, w2b, subW, wNm, wInt, opt, updl_eq, bindP_cons, ↓String.reduceEq, ↓reduceIte, reduceCtorEq, i2, c2, ltV, gtV, geV, shrV, wDone, wBrk, wCont, wSet, setW, wIte, wExpr, notRef, wRet, wCall, wCons, wNil, true_and, lenV, mulSV, addV, wAndB, wNot, wTrueB, wOrB, wTru, wMethL, getL, appendV, popV, truthW, wStr, wNone, wBool, typeV, isV, wTyp, wFailS, wFailA, wFailB, wFailE, wFalseB, newL, newT, wSlStr, eqV, neV, wMethS, splitV, joinV, wAsgT, tgN, bindAll, tg1, wItVal, wItRev, wItRange, wOrV, wIf, wAttr, getI, startsV, inV, ninV, wItSet, wNeg, wAug, wAsg2, retv, powV, andV, fdivV, modV, sumV, minV, maxV, sortedV]
  refine ⟨by simp [lim], fun z hz => ?_⟩
  have hE1 := Ext.new hz (.list [.int 0])
  have hz1 : upd σ z (.list [.int 0]) z = some (.list [.int 0]) := upd_self ..
  generalize upd σ z (.list [.int 0]) = σ1 at *
  simp only [wSeq, wAsg, w2, w2b, subW, wNm, wInt, opt, updl_eq, bindP_cons, ↓String.reduceEq, ↓reduceIte, reduceCtorEq, i2, c2, ltV, gtV, geV, shrV, wDone, wBrk, wCont, wSet, setW, wIte, wExpr, notRef, wRet, wCall, wCons, wNil, true_and, lenV, mulSV, addV, wAndB, wNot, wTrueB, wOrB, wTru, wMethL, getL, appendV, popV, truthW, wStr, wNone, wBool, typeV, isV, wTyp, wFailS, wFailA, wFailB, wFailE, wFalseB, newL, newT, wSlStr, eqV, neV, wMethS, splitV, joinV, wAsgT, tgN, bindAll, tg1, wItVal, wItRev, wItRange, wOrV, wIf, wAttr, getI, startsV, inV, ninV, wItSet, wNeg, wAug, wAsg2, retv, powV, andV, fdivV, modV, sumV, minV, maxV, sortedV, hE1.get s1]
  refine ⟨by omega, .int 0, hz1, by omega, by omega, fun ad had => ?_⟩
  subst hR
  have hrep : List.replicate (((((parI ps).map V.int).length : Nat) : Int) + 1).toNat (V.int 0) = (colT ps m 0).map natV := by
    rw [hpl, show ((ps.length : Nat) : Int) + 1 = ((ps.length + 1 : Nat) : Int) by push_cast; rfl, Int.toNat_natCast]
    simp [colT, natV]
  rw [hrep]
  refine seq_cut fun R hR => ?_
  refine for_of (.range ((ps.length : Int) - 1) (-1) ps.length) (rangeV ((ps.length : Int) - 1) (-1) ps.length) _ (fun i ρ σ' => ρ "mask" = some (.int m) ∧ ρ "parents" = some (.ref pa) ∧ ρ "added" = some (.ref ad) ∧ Ext σ1 σ' ∧ σ' ad = some (.list ((colT ps m i).map natV))) (fun K k => ?_) ⟨?_, ?_, ?_, Ext.new had _, upd_self ..⟩ ?_ ?_
  · have e : (((ps.length : Int) - 1 - -1).toNat) = ps.length := by omega
    simp only [wSeq, wAsg, w2, w2b, subW, wNm, wInt, opt, updl_eq, bindP_cons, ↓String.reduceEq, ↓reduceIte, reduceCtorEq, i2, c2, ltV, gtV, geV, shrV, wDone, wBrk, wCont, wSet, setW, wIte, wExpr, notRef, wRet, wCall, wCons, wNil, true_and, lenV, mulSV, addV, wAndB, wNot, wTrueB, wOrB, wTru, wMethL, getL, appendV, popV, truthW, wStr, wNone, wBool, typeV, isV, wTyp, wFailS, wFailA, wFailB, wFailE, wFalseB, newL, newT, wSlStr, eqV, neV, wMethS, splitV, joinV, wAsgT, tgN, bindAll, tg1, wItVal, wItRev, wItRange, wOrV, wIf, wAttr, getI, startsV, inV, ninV, wItSet, wNeg, wAug, wAsg2, retv, powV, andV, fdivV, modV, sumV, minV, maxV, sortedV, upd_get (hE1.get s1) had, hpl]
    rw [e]
    exact ⟨by omega, ⟨by omega, by omega⟩, ⟨by decide, by decide⟩, k⟩
  · simp only [wSeq, wAsg, w2, w2b, subW, wNm, wInt, opt, updl_eq, bindP_cons, ↓String.reduceEq, ↓reduceIte, reduceCtorEq, i2, c2, ltV, gtV, geV, shrV, wDone, wBrk, wCont, wSet, setW, wIte, wExpr, notRef, wRet, wCall, wCons, wNil, true_and, lenV, mulSV, addV, wAndB, wNot, wTrueB, wOrB, wTru, wMethL, getL, appendV, popV, truthW, wStr, wNone, wBool, typeV, isV, wTyp, wFailS, wFailA, wFailB, wFailE, wFalseB, newL, newT, wSlStr, eqV, neV, wMethS, splitV, joinV, wAsgT, tgN, bindAll, tg1, wItVal, wItRev, wItRange, wOrV, wIf, wAttr, getI, startsV, inV, ninV, wItSet, wNeg, wAug, wAsg2, retv, powV, andV, fdivV, modV, sumV, minV, maxV, sortedV]
  · simp only [wSeq, wAsg, w2, w2b, subW, wNm, wInt, opt, updl_eq, bindP_cons, ↓String.reduceEq, ↓reduceIte, reduceCtorEq, i2, c2, ltV, gtV, geV, shrV, wDone, wBrk, wCont, wSet, setW, wIte, wExpr, notRef, wRet, wCall, wCons, wNil, true_and, lenV, mulSV, addV, wAndB, wNot, wTrueB, wOrB, wTru, wMethL, getL, appendV, popV, truthW, wStr, wNone, wBool, typeV, isV, wTyp, wFailS, wFailA, wFailB, wFailE, wFalseB, newL, newT, wSlStr, eqV, neV, wMethS, splitV, joinV, wAsgT, tgN, bindAll, tg1, wItVal, wItRev, wItRange, wOrV, wIf, wAttr, getI, startsV, inV, ninV, wItSet, wNeg, wAug, wAsg2, retv, powV, andV, fdivV, modV, sumV, minV, maxV, sortedV]
  · simp only [wSeq, wAsg, w2, w2b, subW, wNm, wInt, opt, updl_eq, bindP_cons, ↓String.reduceEq, ↓reduceIte, reduceCtorEq, i2, c2, ltV, gtV, geV, shrV, wDone, wBrk, wCont, wSet, setW, wIte, wExpr, notRef, wRet, wCall, wCons, wNil, true_and, lenV, mulSV, addV, wAndB, wNot, wTrueB, wOrB, wTru, wMethL, getL, appendV, popV, truthW, wStr, wNone, wBool, typeV, isV, wTyp, wFailS, wFailA, wFailB, wFailE, wFalseB, newL, newT, wSlStr, eqV, neV, wMethS, splitV, joinV, wAsgT, tgN, bindAll, tg1, wItVal, wItRev, wItRange, wOrV, wIf, wAttr, getI, startsV, inV, ninV, wItSet, wNeg, wAug, wAsg2, retv, powV, andV, fdivV, modV, sumV, minV, maxV, sortedV]
  · rintro i v ρ σ' hv ⟨h1, h2, h3, h4, h5⟩
    obtain ⟨hi, hv⟩ := range_get hv
    have hv : v = .int ((ps.length - 1 - i : Nat) : Int) := by rw [hv]; congr 1; omega
    subst hv
    refine ⟨vals_range, ?_⟩
    have hsn := colT_snoc ps m i
    have hlen := colT_len ps m i
    have hkl : ps.length - 1 - i < ps.length := by omega
    generalize ps.length - 1 - i = k at *
    generalize colT ps m i = A at *
    have hp' := List.getElem?_eq_getElem hkl
    generalize ps[k] = p at hp'
    have hpD : ps.getD k 0 = p := by rw [List.getD_eq_getElem?_getD, hp']; rfl
    have hpk := hp k p hp'
    have hix := parI_get hp'
    have s1' := h4.get (hE1.get s1)
    unfold colStep at hsn
    rw [hpD] at hsn
    have hAl : (A.map natV).length = ps.length + 1 := by rw [List.length_map, hlen]
    refine seq_cut fun R hR => ?_
    refine ite_B (m.testBit k) σ' (fun K kk => by simp only [wSeq, wAsg, w2, w2b, subW, wNm, wInt, opt, updl_eq, bindP_cons, ↓String.reduceEq, ↓reduceIte, reduceCtorEq, i2, c2, ltV, gtV, geV, shrV, wDone, wBrk, wCont, wSet, setW, wIte, wExpr, notRef, wRet, wCall, wCons, wNil, true_and, lenV, mulSV, addV, wAndB, wNot, wTrueB, wOrB, wTru, wMethL, getL, appendV, popV, truthW, wStr, wNone, wBool, typeV, isV, wTyp, wFailS, wFailA, wFailB, wFailE, wFalseB, newL, newT, wSlStr, eqV, neV, wMethS, splitV, joinV, wAsgT, tgN, bindAll, tg1, wItVal, wItRev, wItRange, wOrV, wIf, wAttr, getI, startsV, inV, ninV, wItSet, wNeg, wAug, wAsg2, retv, powV, andV, fdivV, modV, sumV, minV, maxV, sortedV, h1]; exact ⟨by omega, by rw [bit_eq]; exact kk⟩) (fun hb => ?_) (fun hb => ?_)
    · rw [hb, if_pos rfl] at hsn
      refine seq_cut fun R2 hR2 => ?_
      have hplace : place (A.map natV).length ((p : Int) - 1) = plF ps.length p := by
        unfold place plF
        rw [hAl]
        by_cases h0 : p = 0
        · subst h0
          rw [if_neg (by decide), if_pos rfl]
          omega
        · rw [if_pos (by omega), if_neg h0]; omega
      have hplt : plF ps.length p < A.length := by unfold plF; split <;> omega
      have hold : idx (A.map natV) ((p : Int) - 1) = some (natV (A.getD (plF ps.length p) 0)) := by
        have hg : A[plF ps.length p]? = some (A.getD (plF ps.length p) 0) := by rw [List.getD_eq_getElem?_getD, List.getElem?_eq_getElem hplt]; rfl
        by_cases h0 : p = 0
        · unfold idx
          rw [if_neg (by omega), if_pos (by rw [hAl]; omega), hAl]
          rw [show ((p : Int) - 1 + ((ps.length + 1 : Nat) : Int)).toNat = plF ps.length p by unfold plF; rw [if_pos h0]; omega, List.getElem?_map, hg]
          rfl
        · rw [show (p : Int) - 1 = ((plF ps.length p : Nat) : Int) by unfold plF; rw [if_neg h0]; omega]
          exact idx_map _ _ _ _ hg
      have hk2 : idx (A.map natV) (k : Int) = some (natV (A.getD k 0)) := by
        have hg : A[k]? = some (A.getD k 0) := by rw [List.getD_eq_getElem?_getD, List.getElem?_eq_getElem (by omega)]; rfl
        exact idx_map _ _ _ _ hg
      show wAugX _ _ _ _ _ _ _
      unfold wAugX
      simp only [wSeq, wAsg, w2, w2b, subW, wNm, wInt, opt, updl_eq, bindP_cons, ↓String.reduceEq, ↓reduceIte, reduceCtorEq, i2, c2, ltV, gtV, geV, shrV, wDone, wBrk, wCont, wSet, setW, wIte, wExpr, notRef, wRet, wCall, wCons, wNil, true_and, lenV, mulSV, addV, wAndB, wNot, wTrueB, wOrB, wTru, wMethL, getL, appendV, popV, truthW, wStr, wNone, wBool, typeV, isV, wTyp, wFailS, wFailA, wFailB, wFailE, wFalseB, newL, newT, wSlStr, eqV, neV, wMethS, splitV, joinV, wAsgT, tgN, bindAll, tg1, wItVal, wItRev, wItRange, wOrV, wIf, wAttr, getI, startsV, inV, ninV, wItSet, wNeg, wAug, wAsg2, retv, powV, andV, fdivV, modV, sumV, minV, maxV, sortedV, h1, h2, h3, s1', h5, hix, hold, hk2, natV]
      refine ⟨by omega, by omega, by omega, by omega, by omega, by omega, ?_⟩
      subst hR2 hR
      simp only [wSeq, wAsg, w2, w2b, subW, wNm, wInt, opt, updl_eq, bindP_cons, ↓String.reduceEq, ↓reduceIte, reduceCtorEq, i2, c2, ltV, gtV, geV, shrV, wDone, wBrk, wCont, wSet, setW, wIte, wExpr, notRef, wRet, wCall, wCons, wNil, true_and, lenV, mulSV, addV, wAndB, wNot, wTrueB, wOrB, wTru, wMethL, getL, appendV, popV, truthW, wStr, wNone, wBool, typeV, isV, wTyp, wFailS, wFailA, wFailB, wFailE, wFalseB, newL, newT, wSlStr, eqV, neV, wMethS, splitV, joinV, wAsgT, tgN, bindAll, tg1, wItVal, wItRev, wItRange, wOrV, wIf, wAttr, getI, startsV, inV, ninV, wItSet, wNeg, wAug, wAsg2, retv, powV, andV, fdivV, modV, sumV, minV, maxV, sortedV, h1, h2, h3]
      refine ⟨h4.put ((Ext.refl _).non had) _, ?_⟩
      rw [hplace, upd_self, hsn, show ((A.getD k 0 : Nat) : Int) + 1 = ((A.getD k 0 + 1 : Nat) : Int) by push_cast; rfl, bitXor_nat, List.map_set]
      rfl
    · rw [hb, if_neg (by decide)] at hsn
      simp only [wSeq, wAsg, w2, w2b, subW, wNm, wInt, opt, updl_eq, bindP_cons, ↓String.reduceEq, ↓reduceIte, reduceCtorEq, i2, c2, ltV, gtV, geV, shrV, wDone, wBrk, wCont, wSet, setW, wIte, wExpr, notRef, wRet, wCall, wCons, wNil, true_and, lenV, mulSV, addV, wAndB, wNot, wTrueB, wOrB, wTru, wMethL, getL, appendV, popV, truthW, wStr, wNone, wBool, typeV, isV, wTyp, wFailS, wFailA, wFailB, wFailE, wFalseB, newL, newT, wSlStr, eqV, neV, wMethS, splitV, joinV, wAsgT, tgN, bindAll, tg1, wItVal, wItRev, wItRange, wOrV, wIf, wAttr, getI, startsV, inV, ninV, wItSet, wNeg, wAug, wAsg2, retv, powV, andV, fdivV, modV, sumV, minV, maxV, sortedV]
      subst hR
      simp only [wSeq, wAsg, w2, w2b, subW, wNm, wInt, opt, updl_eq, bindP_cons, ↓String.reduceEq, ↓reduceIte, reduceCtorEq, i2, c2, ltV, gtV, geV, shrV, wDone, wBrk, wCont, wSet, setW, wIte, wExpr, notRef, wRet, wCall, wCons, wNil, true_and, lenV, mulSV, addV, wAndB, wNot, wTrueB, wOrB, wTru, wMethL, getL, appendV, popV, truthW, wStr, wNone, wBool, typeV, isV, wTyp, wFailS, wFailA, wFailB, wFailE, wFalseB, newL, newT, wSlStr, eqV, neV, wMethS, splitV, joinV, wAsgT, tgN, bindAll, tg1, wItVal, wItRev, wItRange, wOrV, wIf, wAttr, getI, startsV, inV, ninV, wItSet, wNeg, wAug, wAsg2, retv, powV, andV, fdivV, modV, sumV, minV, maxV, sortedV, h1, h2, h3]
      exact ⟨h4, by rw [hsn]; exact h5⟩
  · rintro ρ σ' ⟨h1, h2, h3, h4, h5⟩
    rw [rangeV_len] at h5
    refine ⟨vals_range, ?_⟩
    subst hR
    have hlen := colT_len ps m ps.length
    have hlast : idx ((colT ps m ps.length).map natV) (-1) = some (natV (colF ps m)) := by
      unfold idx
      rw [if_neg (by decide), if_pos (by rw [List.length_map]; omega)]
      rw [List.length_map, hlen, show ((-1 : Int) + ((ps.length + 1 : Nat) : Int)).toNat = ps.length by omega, List.getElem?_map, List.getElem?_eq_getElem (by omega)]
      unfold colF
      rw [List.getD_eq_getElem?_getD, List.getElem?_eq_getElem (by omega)]
      rfl
    simp only [wSeq, wAsg, w2, w2b, subW, wNm, wInt, opt, updl_eq, bindP_cons, ↓String.reduceEq, ↓reduceIte, reduceCtorEq, i2, c2, ltV, gtV, geV, shrV, wDone, wBrk, wCont, wSet, setW, wIte, wExpr, notRef, wRet, wCall, wCons, wNil, true_and, lenV, mulSV, addV, wAndB, wNot, wTrueB, wOrB, wTru, wMethL, getL, appendV, popV, truthW, wStr, wNone, wBool, typeV, isV, wTyp, wFailS, wFailA, wFailB, wFailE, wFalseB, newL, newT, wSlStr, eqV, neV, wMethS, splitV, joinV, wAsgT, tgN, bindAll, tg1, wItVal, wItRev, wItRange, wOrV, wIf, wAttr, getI, startsV, inV, ninV, wItSet, wNeg, wAug, wAsg2, retv, powV, andV, fdivV, modV, sumV, minV, maxV, sortedV, h3, h5, hlast]
    exact ⟨by rw [List.length_map]; omega, q σ' (hE1.trans h4)⟩
end Mine
end

section
open PySem PySem.W PyProof.Rows PySem.Builtin PySem.Builtin.Str
set_option maxRecDepth 100000
set_option maxHeartbeats 4000000
set_option linter.unusedSimpArgs false
namespace Mine
noncomputable def insA (x : Nat) : List Nat → List Nat
  | [] => [x]
  | y :: ys => if x ≤ y then x :: y :: ys else y :: insA x ys
noncomputable def sortA : List Nat → List Nat
  | [] => []
  | x :: xs => insA x (sortA xs)
theorem insA_perm (x : Nat) : ∀ l, (insA x l).Perm (x :: l)
  | [] => .refl _
  | y :: ys => by
    unfold insA
    split
    · exact .refl _
    · exact ((insA_perm x ys).cons y).trans (.swap ..)
theorem insA_sorted (x : Nat) : ∀ l, l.Pairwise (· ≤ ·) → (insA x l).Pairwise (· ≤ ·)
  | [], _ => by simp [insA]
  | y :: ys, h => by
    unfold insA
    have h' := List.pairwise_cons.mp h
    split
    · rename_i hlt
      refine List.pairwise_cons.mpr ⟨fun z hz => ?_, h⟩
      rcases List.mem_cons.mp hz with e | e
      · omega
      · have := h'.1 z e; omega
    · rename_i hlt
      refine List.pairwise_cons.mpr ⟨fun z hz => ?_, insA_sorted x ys h'.2⟩
      rcases List.mem_cons.mp ((insA_perm x ys).mem_iff.mp hz) with e | e
      · omega
      · exact h'.1 z e
theorem sortA_perm : ∀ l, (sortA l).Perm l
  | [] => .refl _
  | x :: xs => (insA_perm x _).trans ((sortA_perm xs).cons x)
theorem sortA_sorted : ∀ l, (sortA l).Pairwise (· ≤ ·)
  | [] => .nil
  | x :: xs => insA_sorted x _ (sortA_sorted xs)
theorem sorted_eq {ms : List Nat} {ms' : List Int} (h : ms'.Perm (ms.map fun k : Nat => (k : Int))) (hs : ms'.Pairwise (· ≤ ·)) : ms' = (sortA ms).map fun k : Nat => (k : Int) := by
  refine List.Perm.eq_of_pairwise (le := (· ≤ ·)) (fun a b _ _ h1 h2 => by omega) hs ?_ (h.trans ((sortA_perm ms).map _).symm)
  rw [List.pairwise_map]
  exact (sortA_sorted ms).imp fun h => by omega
/-- the least number lacking, and none unexpected -/
noncomputable def mexOk (rs : List Nat) (c : Nat) : Bool :=
  let r := sldF (((List.range (rs.length + 1)).map fun k : Nat => (k : Int)).length + ((sortA rs).map fun k : Nat => (k : Int)).length) ((List.range (rs.length + 1)).map fun k : Nat => (k : Int)) ((sortA rs).map fun k : Nat => (k : Int)) [] []
  decide (r.2 = []) && decide (r.1.head? = some (c : Int))
noncomputable def wOk (col : Nat → Nat) : List (Nat × List Nat) → Bool
  | [] => true
  | (m, rs) :: M => rs.all (fun r => M.any fun x => x.1 == r) && (mexOk (rs.map col) (col m) && wOk col M)
theorem rangeV_eq (n : Nat) : rangeV 0 1 n = ((List.range n).map fun k : Nat => (k : Int)).map V.int := by
  unfold rangeV
  rw [List.map_map]
  refine List.map_congr_left fun k _ => ?_
  show V.int (0 + (k : Int) * 1) = V.int (k : Int)
  congr 1
  omega
theorem vals_rev {σ : Sto} {a : Addr} {xs : List V} (h : σ a = some (.list xs)) : Src.vals σ (.rev a xs.length) = some xs.reverse := by simp only [Src.vals, h, if_true]
theorem wOk_drop {col : Nat → Nat} {M : List (Nat × List Nat)} (h : wOk col M = true) : ∀ k, wOk col (M.drop k) = true := by
  induction M with
  | nil => intro k; rw [List.drop_nil]; rfl
  | cons x M ih =>
    intro k
    cases k with
    | zero => exact h
    | succ k =>
      rw [List.drop_succ_cons]
      unfold wOk at h
      rw [Bool.and_eq_true, Bool.and_eq_true] at h
      exact ih h.2.2 k
theorem sldF_len : ∀ (n : Nat) (es as m u : List Int), (sldF n es as m u).1.length ≤ m.length + es.length
  | 0, es, as, m, u => by simp [sldF]
  | n + 1, [], as, m, u => by simp [sldF]
  | n + 1, e :: es, [], m, u => by simp [sldF]
  | n + 1, e :: es, a :: as, m, u => by
    unfold sldF
    have := dw_len es e
    split
    · have := sldF_len n (es.dropWhile (· == e)) (a :: as) (m ++ [e]) u
      simp only [List.length_append, List.length_cons, List.length_nil] at *; omega
    · split
      · have := sldF_len n (e :: es) (as.dropWhile (· == a)) m (u ++ [a])
        exact this
      · have := sldF_len n (es.dropWhile (· == e)) (as.dropWhile (· == a)) m u
        simp only [List.length_cons] at *; omega
theorem tgN_of {xs : List String} {vs : List V} {ρ ρ' : Loc} {σ : Sto} {t : Addr} {k : Loc → Prop} (h : σ t = some (.tuple vs)) (hb : bindAll xs vs ρ = some ρ') (q : k ρ') : tgN xs ρ σ (.ref t) k := by
  simp only [tgN, h, opt, hb]; exact q
theorem spec_law_worths {σ : Sto} {mo : Addr} {refs : List V} {M : List (Nat × List Nat)} {col : Nat → Nat} {Q : V → Sto → Prop} (s1 : σ mo = some (.list refs)) (hM : All2 (MoveAt σ) refs M) (hl : refs.length ≤ 1000) (hr6 : ∀ x ∈ M, x.2.length ≤ 6) (hok : wOk col M = true)
    (q : ∀ σ' wd n f, Ext σ σ' → σ' wd = some (.di n f) → (∀ x ∈ M, f (x.1 : Int) = some (natV (col x.1))) → Q (.ref wd) σ') : T__law_worths [.ref mo] σ Q := by
  refine ⟨rfl, ?_⟩
  unfold W__law_worths
  have hml := hM.1
  refine seq_cut fun R hR => ?_
  unfold wAsg wDict0
  intro wd hwd
  subst hR
  refine seq_cut fun R hR => ?_
  refine for_of (.rev mo refs.length) refs.reverse (upd σ wd (.di 0 fun _ => none)) (fun i ρ σ' => ρ "worths" = some (.ref wd) ∧ Ext σ σ' ∧ ∃ n f, σ' wd = some (.di n f) ∧ n ≤ i ∧ ∀ x ∈ M.drop (M.length - i), f (x.1 : Int) = some (natV (col x.1))) (fun K k => ?_) ⟨?_, Ext.new hwd _, 0, fun _ => none, upd_self .., Nat.le_refl _, fun x hx => ?_⟩ ?_ ?_
  · simp only [wSeq, wAsg, w2, w2b, subW, wNm, wInt, opt, updl_eq, bindP_cons, ↓String.reduceEq, ↓reduceIte, reduceCtorEq, i2, c2, ltV, gtV, geV, shrV, wDone, wBrk, wCont, wSet, setW, wIte, wExpr, notRef, wRet, wCall, wCons, wNil, true_and, lenV, mulSV, addV, wAndB, wNot, wTrueB, wOrB, wTru, wMethL, getL, appendV, popV, truthW, wStr, wNone, wBool, typeV, isV, wTyp, wFailS, wFailA, wFailB, wFailE, wFalseB, newL, newT, wSlStr, eqV, neV, wMethS, splitV, joinV, wAsgT, tgN, bindAll, tg1, wItVal, wItRev, wItRange, wOrV, wIf, wAttr, getI, startsV, inV, ninV, wItSet, wNeg, wAug, wAsg2, retv, powV, andV, fdivV, modV, sumV, minV, maxV, sortedV, upd_get s1 hwd]; exact k
  · simp only [wSeq, wAsg, w2, w2b, subW, wNm, wInt, opt, updl_eq, bindP_cons, ↓String.reduceEq, ↓reduceIte, reduceCtorEq, i2, c2, ltV, gtV, geV, shrV, wDone, wBrk, wCont, wSet, setW, wIte, wExpr, notRef, wRet, wCall, wCons, wNil, true_and, lenV, mulSV, addV, wAndB, wNot, wTrueB, wOrB, wTru, wMethL, getL, appendV, popV, truthW, wStr, wNone, wBool, typeV, isV, wTyp, wFailS, wFailA, wFailB, wFailE, wFalseB, newL, newT, wSlStr, eqV, neV, wMethS, splitV, joinV, wAsgT, tgN, bindAll, tg1, wItVal, wItRev, wItRange, wOrV, wIf, wAttr, getI, startsV, inV, ninV, wItSet, wNeg, wAug, wAsg2, retv, powV, andV, fdivV, modV, sumV, minV, maxV, sortedV]
  · rw [Nat.sub_zero, List.drop_length] at hx; cases hx
  · rintro i v ρ σ' hv ⟨h1, h2, n, f, h3, h4, h5⟩
    refine ⟨vals_rev (h2.get s1), ?_⟩
    have hi : i < refs.length := by have := (List.getElem?_eq_some_iff.mp hv).1; rwa [List.length_reverse] at this
    rw [List.getElem?_reverse hi] at hv
    obtain ⟨⟨m, rs⟩, hx, a, b, rfl, ha, hb⟩ := hM.get' hv
    have hmem := List.mem_of_getElem? hx
    have hrl := hr6 _ hmem
    have hk : M.length - (i + 1) = refs.length - 1 - i := by omega
    have hdrop : M.drop (refs.length - 1 - i) = (m, rs) :: M.drop (M.length - i) := by
      have hlt : refs.length - 1 - i < M.length := by omega
      rw [List.drop_eq_getElem_cons hlt]
      rw [List.getElem?_eq_getElem hlt] at hx
      rw [Option.some.inj hx]
      congr 2
      omega
    have hw := wOk_drop hok (refs.length - 1 - i)
    rw [hdrop] at hw
    unfold wOk at hw
    rw [Bool.and_eq_true, Bool.and_eq_true] at hw
    obtain ⟨hw1, hw2, hw3⟩ := hw
    dsimp only at ha hb hrl
    have ha' := h2.get ha
    have hb' := h2.get hb
    refine tgN_of ha' rfl ?_
    refine seq_cut fun R2 hR2 => ?_
    have fnd : ∀ r ∈ rs, f (r : Int) = some (natV (col r)) := fun r hr => by
      have := List.all_eq_true.mp hw1 r hr
      obtain ⟨x, hx1, hx2⟩ := List.any_eq_true.mp this
      have e : x.1 = r := by simpa using hx2
      rw [← e]; exact h5 x hx1
    -- the worths of the rests
    have comp : ∀ K : V → Sto → Prop, (∀ c, σ' c = none → K (.ref c) (upd σ' c (.list ((rs.map col).map natV)))) → wComp ["worths"] (tg1 "rest") (wItVal (wNm "rests")) wTrueB (w2 subW (wNm "worths") (wNm "rest")) (updl (updl ρ "mask" (natV m)) "rests" (.ref b)) σ' K (fun _ => False) := by
      intro K k
      refine comp_of (.list b) (rs.map natV) σ' (fun i out σ'' => σ'' = σ' ∧ out = ((rs.take i).map col).map natV) (fun K k => ?_) ⟨rfl, rfl⟩ ?_ ?_
      · simp only [wSeq, wAsg, w2, w2b, subW, wNm, wInt, opt, updl_eq, bindP_cons, ↓String.reduceEq, ↓reduceIte, reduceCtorEq, i2, c2, ltV, gtV, geV, shrV, wDone, wBrk, wCont, wSet, setW, wIte, wExpr, notRef, wRet, wCall, wCons, wNil, true_and, lenV, mulSV, addV, wAndB, wNot, wTrueB, wOrB, wTru, wMethL, getL, appendV, popV, truthW, wStr, wNone, wBool, typeV, isV, wTyp, wFailS, wFailA, wFailB, wFailE, wFalseB, newL, newT, wSlStr, eqV, neV, wMethS, splitV, joinV, wAsgT, tgN, bindAll, tg1, wItVal, wItRev, wItRange, wOrV, wIf, wAttr, getI, startsV, inV, ninV, wItSet, wNeg, wAug, wAsg2, retv, powV, andV, fdivV, modV, sumV, minV, maxV, sortedV, hb']; exact k
      · rintro i v out σ'' hv ⟨rfl, rfl⟩
        obtain ⟨r, hr, rfl⟩ := map_get hv
        refine ⟨vals_list hb', by rw [List.length_map, List.length_map, List.length_take]; omega, ?_⟩
        have f1 : restr ["worths"] (updl (updl ρ "mask" (natV m)) "rests" (V.ref b)) "worths" = some (.ref wd) := restr_of (by simp only [wSeq, wAsg, w2, w2b, subW, wNm, wInt, opt, updl_eq, bindP_cons, ↓String.reduceEq, ↓reduceIte, reduceCtorEq, i2, c2, ltV, gtV, geV, shrV, wDone, wBrk, wCont, wSet, setW, wIte, wExpr, notRef, wRet, wCall, wCons, wNil, true_and, lenV, mulSV, addV, wAndB, wNot, wTrueB, wOrB, wTru, wMethL, getL, appendV, popV, truthW, wStr, wNone, wBool, typeV, isV, wTyp, wFailS, wFailA, wFailB, wFailE, wFalseB, newL, newT, wSlStr, eqV, neV, wMethS, splitV, joinV, wAsgT, tgN, bindAll, tg1, wItVal, wItRev, wItRange, wOrV, wIf, wAttr, getI, startsV, inV, ninV, wItSet, wNeg, wAug, wAsg2, retv, powV, andV, fdivV, modV, sumV, minV, maxV, sortedV, h1]) (by decide)
        have hfr := fnd r (List.mem_of_getElem? hr)
        unfold natV at hfr f1 ⊢
        simp only [wSeq, wAsg, w2, w2b, subW, wNm, wInt, opt, updl_eq, bindP_cons, ↓String.reduceEq, ↓reduceIte, reduceCtorEq, i2, c2, ltV, gtV, geV, shrV, wDone, wBrk, wCont, wSet, setW, wIte, wExpr, notRef, wRet, wCall, wCons, wNil, true_and, lenV, mulSV, addV, wAndB, wNot, wTrueB, wOrB, wTru, wMethL, getL, appendV, popV, truthW, wStr, wNone, wBool, typeV, isV, wTyp, wFailS, wFailA, wFailB, wFailE, wFalseB, newL, newT, wSlStr, eqV, neV, wMethS, splitV, joinV, wAsgT, tgN, bindAll, tg1, wItVal, wItRev, wItRange, wOrV, wIf, wAttr, getI, startsV, inV, ninV, wItSet, wNeg, wAug, wAsg2, retv, powV, andV, fdivV, modV, sumV, minV, maxV, sortedV, f1, h3, hfr]
        rw [take_snoc hr]
        simp [natV]
      · rintro out σ'' ⟨rfl, rfl⟩
        rw [List.length_map, List.take_length]
        exact ⟨vals_list hb', k⟩
    simp only [wAsg, wCall, wCons, wNil]
    refine comp _ fun c hc => ?_
    have hE3 := h2.step hc (.list ((rs.map col).map natV))
    have h3c := upd_get (o' := .list ((rs.map col).map natV)) h3 hc
    have hc3 : upd σ' c (.list ((rs.map col).map natV)) c = some (.list ((rs.map col).map natV)) := upd_self ..
    generalize upd σ' c (.list ((rs.map col).map natV)) = σ3 at *
    refine ⟨(rs.map col).map (fun k : Nat => (k : Int)), by rw [hc3, natV_map], by simp; omega, fun ms' hp hs e he => ?_⟩
    have hms := sorted_eq hp hs
    subst hms
    subst hR2
    have hE4 := hE3.step he (.list (((sortA (rs.map col)).map fun k : Nat => (k : Int)).map V.int))
    have h3e := upd_get (o' := .list (((sortA (rs.map col)).map fun k : Nat => (k : Int)).map V.int)) h3c he
    have he4 : upd σ3 e (.list (((sortA (rs.map col)).map fun k : Nat => (k : Int)).map V.int)) e = some (.list (((sortA (rs.map col)).map fun k : Nat => (k : Int)).map V.int)) := upd_self ..
    generalize upd σ3 e (.list (((sortA (rs.map col)).map fun k : Nat => (k : Int)).map V.int)) = σ4 at *
    have hsl : (sortA (rs.map col)).length = rs.length := by rw [(sortA_perm _).length_eq, List.length_map]
    refine seq_cut fun R2 hR2 => ?_
    unfold wAsgT wListRange
    simp only [wSeq, wAsg, w2, w2b, subW, wNm, wInt, opt, updl_eq, bindP_cons, ↓String.reduceEq, ↓reduceIte, reduceCtorEq, i2, c2, ltV, gtV, geV, shrV, wDone, wBrk, wCont, wSet, setW, wIte, wExpr, notRef, wRet, wCall, wCons, wNil, true_and, lenV, mulSV, addV, wAndB, wNot, wTrueB, wOrB, wTru, wMethL, getL, appendV, popV, truthW, wStr, wNone, wBool, typeV, isV, wTyp, wFailS, wFailA, wFailB, wFailE, wFalseB, newL, newT, wSlStr, eqV, neV, wMethS, splitV, joinV, wAsgT, tgN, bindAll, tg1, wItVal, wItRev, wItRange, wOrV, wIf, wAttr, getI, startsV, inV, ninV, wItSet, wNeg, wAug, wAsg2, retv, powV, andV, fdivV, modV, sumV, minV, maxV, sortedV, he4, List.length_map, hsl]
    refine ⟨by omega, ⟨by omega, by omega⟩, fun g hg => ?_⟩
    rw [show ((rs.length : Int) + 1).toNat = rs.length + 1 by omega, rangeV_eq]
    have hE5 := hE4.step hg (.list (((List.range (rs.length + 1)).map fun k : Nat => (k : Int)).map V.int))
    have h3g := upd_get (o' := .list (((List.range (rs.length + 1)).map fun k : Nat => (k : Int)).map V.int)) h3e hg
    have he5 := upd_get (o' := .list (((List.range (rs.length + 1)).map fun k : Nat => (k : Int)).map V.int)) he4 hg
    have hg5 : upd σ4 g (.list (((List.range (rs.length + 1)).map fun k : Nat => (k : Int)).map V.int)) g = some (.list (((List.range (rs.length + 1)).map fun k : Nat => (k : Int)).map V.int)) := upd_self ..
    generalize upd σ4 g (.list (((List.range (rs.length + 1)).map fun k : Nat => (k : Int)).map V.int)) = σ5 at *
    refine spec_sld hg5 he5 (by simp; omega) (by rw [List.length_map, hsl]; omega) fun σ6 r p q' e1 e2 e3 e4 e5 e6 e7 => ?_
    unfold mexOk at hw2
    rw [show (rs.map col).length = rs.length from List.length_map ..] at hw2
    have hres := sldF_len (((List.range (rs.length + 1)).map fun k : Nat => (k : Int)).length + ((sortA (rs.map col)).map fun k : Nat => (k : Int)).length) ((List.range (rs.length + 1)).map fun k : Nat => (k : Int)) ((sortA (rs.map col)).map fun k : Nat => (k : Int)) [] []
    simp only [List.length_map, List.length_range, List.length_nil] at hres e6 e7 hw2
    generalize sldF _ ((List.range (rs.length + 1)).map fun k : Nat => (k : Int)) ((sortA (rs.map col)).map fun k : Nat => (k : Int)) [] [] = res at *
    rw [Bool.and_eq_true, decide_eq_true_iff, decide_eq_true_iff] at hw2
    obtain ⟨hr2, hr1⟩ := hw2
    rw [hr2] at e7
    obtain ⟨l1, l2⟩ := res
    dsimp only at *
    cases l1 with
    | nil => cases hr1
    | cons z l1 =>
    have hz : z = (col m : Int) := by simpa using hr1
    subst hz
    simp only [wSeq, wAsg, w2, w2b, subW, wNm, wInt, opt, updl_eq, bindP_cons, ↓String.reduceEq, ↓reduceIte, reduceCtorEq, i2, c2, ltV, gtV, geV, shrV, wDone, wBrk, wCont, wSet, setW, wIte, wExpr, notRef, wRet, wCall, wCons, wNil, true_and, lenV, mulSV, addV, wAndB, wNot, wTrueB, wOrB, wTru, wMethL, getL, appendV, popV, truthW, wStr, wNone, wBool, typeV, isV, wTyp, wFailS, wFailA, wFailB, wFailE, wFalseB, newL, newT, wSlStr, eqV, neV, wMethS, splitV, joinV, wAsgT, tgN, bindAll, tg1, wItVal, wItRev, wItRange, wOrV, wIf, wAttr, getI, startsV, inV, ninV, wItSet, wNeg, wAug, wAsg2, retv, powV, andV, fdivV, modV, sumV, minV, maxV, sortedV, e5]
    subst hR2
    refine seq_cut fun R2 hR2 => ?_
    simp only [wSeq, wAsg, w2, w2b, subW, wNm, wInt, opt, updl_eq, bindP_cons, ↓String.reduceEq, ↓reduceIte, reduceCtorEq, i2, c2, ltV, gtV, geV, shrV, wDone, wBrk, wCont, wSet, setW, wIte, wExpr, notRef, wRet, wCall, wCons, wNil, true_and, lenV, mulSV, addV, wAndB, wNot, wTrueB, wOrB, wTru, wMethL, getL, appendV, popV, truthW, wStr, wNone, wBool, typeV, isV, wTyp, wFailS, wFailA, wFailB, wFailE, wFalseB, newL, newT, wSlStr, eqV, neV, wMethS, splitV, joinV, wAsgT, tgN, bindAll, tg1, wItVal, wItRev, wItRange, wOrV, wIf, wAttr, getI, startsV, inV, ninV, wItSet, wNeg, wAug, wAsg2, retv, powV, andV, fdivV, modV, sumV, minV, maxV, sortedV]
    refine ⟨by simp [lim], fun o ho => ⟨[], [], by rw [upd_get e7 ho], upd_self .., ?_⟩⟩
    rw [if_pos (by decide)]
    have h36 := e1.get h3g
    simp only [wSeq, wAsg, w2, w2b, subW, wNm, wInt, opt, updl_eq, bindP_cons, ↓String.reduceEq, ↓reduceIte, reduceCtorEq, i2, c2, ltV, gtV, geV, shrV, wDone, wBrk, wCont, wSet, setW, wIte, wExpr, notRef, wRet, wCall, wCons, wNil, true_and, lenV, mulSV, addV, wAndB, wNot, wTrueB, wOrB, wTru, wMethL, getL, appendV, popV, truthW, wStr, wNone, wBool, typeV, isV, wTyp, wFailS, wFailA, wFailB, wFailE, wFalseB, newL, newT, wSlStr, eqV, neV, wMethS, splitV, joinV, wAsgT, tgN, bindAll, tg1, wItVal, wItRev, wItRange, wOrV, wIf, wAttr, getI, startsV, inV, ninV, wItSet, wNeg, wAug, wAsg2, retv, powV, andV, fdivV, modV, sumV, minV, maxV, sortedV, upd_get e6 ho, show idx (List.map V.int ((col m : Int) :: l1)) 0 = some (V.int (col m)) from rfl, h1, upd_get h36 ho, natV]
    refine ⟨?_, by omega, ?_⟩
    · rw [List.length_map]; exact Nat.le_trans hres (by omega)
    subst hR2
    simp only [wSeq, wAsg, w2, w2b, subW, wNm, wInt, opt, updl_eq, bindP_cons, ↓String.reduceEq, ↓reduceIte, reduceCtorEq, i2, c2, ltV, gtV, geV, shrV, wDone, wBrk, wCont, wSet, setW, wIte, wExpr, notRef, wRet, wCall, wCons, wNil, true_and, lenV, mulSV, addV, wAndB, wNot, wTrueB, wOrB, wTru, wMethL, getL, appendV, popV, truthW, wStr, wNone, wBool, typeV, isV, wTyp, wFailS, wFailA, wFailB, wFailE, wFalseB, newL, newT, wSlStr, eqV, neV, wMethS, splitV, joinV, wAsgT, tgN, bindAll, tg1, wItVal, wItRev, wItRange, wOrV, wIf, wAttr, getI, startsV, inV, ninV, wItSet, wNeg, wAug, wAsg2, retv, powV, andV, fdivV, modV, sumV, minV, maxV, sortedV, h1]
    refine ⟨((hE5.trans e1).step ho _).put hwd _, n + 1, _, upd_self .., by omega, fun x hx => ?_⟩
    rw [hk, hdrop] at hx
    by_cases hxm : (x.1 : Int) = (m : Int)
    · have : x.1 = m := by omega
      rw [if_pos hxm, this]
    · rw [if_neg hxm]
      rcases List.mem_cons.mp hx with hx | hx
      · rw [hx] at hxm; exact absurd rfl hxm
      · exact h5 x hx
  · rintro ρ σ' ⟨h1, h2, n, f, h3, h4, h5⟩
    rw [List.length_reverse, hml, Nat.sub_self, List.drop_zero] at h5
    refine ⟨vals_rev (h2.get s1), ?_⟩
    subst hR
    simp only [wSeq, wAsg, w2, w2b, subW, wNm, wInt, opt, updl_eq, bindP_cons, ↓String.reduceEq, ↓reduceIte, reduceCtorEq, i2, c2, ltV, gtV, geV, shrV, wDone, wBrk, wCont, wSet, setW, wIte, wExpr, notRef, wRet, wCall, wCons, wNil, true_and, lenV, mulSV, addV, wAndB, wNot, wTrueB, wOrB, wTru, wMethL, getL, appendV, popV, truthW, wStr, wNone, wBool, typeV, isV, wTyp, wFailS, wFailA, wFailB, wFailE, wFalseB, newL, newT, wSlStr, eqV, neV, wMethS, splitV, joinV, wAsgT, tgN, bindAll, tg1, wItVal, wItRev, wItRange, wOrV, wIf, wAttr, getI, startsV, inV, ninV, wItSet, wNeg, wAug, wAsg2, retv, powV, andV, fdivV, modV, sumV, minV, maxV, sortedV, h1]
    exact q σ' wd n f h2 h3 h5
end Mine
end

section
open PySem PySem.W PyProof.Rows PySem.Builtin PySem.Builtin.Str
set_option maxRecDepth 100000
set_option maxHeartbeats 4000000
set_option linter.unusedSimpArgs false
namespace Mine
noncomputable def gameF (ps : List Nat) : GSt := iterM (rowsF [] ps) 64 ([2 ^ ps.length - 1], [2 ^ ps.length - 1], [])
/-- what the play shows, with these parents -/
structure GameOk (ps : List Nat) : Prop where
  fin : (gameF ps).1 = []
  masks : (gameF ps).2.2.map (·.1) = wholeF ps
  col : ∃ col, wOk col (gameF ps).2.2 = true ∧ ∀ x ∈ (gameF ps).2.2, col x.1 = colF ps x.1
theorem iterM_len (rows : List (List Nat)) (s : GSt) (hs : s.2.2 = []) (hn : rows.length ≤ 6) : ∀ t, (iterM rows t s).2.2.length ≤ t ∧ ∀ x ∈ (iterM rows t s).2.2, x.2.length ≤ 6
  | 0 => by show s.2.2.length ≤ 0 ∧ _; rw [hs]; exact ⟨Nat.le_refl _, fun x hx => by rw [show (iterM rows 0 s).2.2 = s.2.2 from rfl, hs] at hx; cases hx⟩
  | t + 1 => by
    have ih := iterM_len rows s hs hn t
    show (stepM rows (iterM rows t s)).2.2.length ≤ t + 1 ∧ ∀ x ∈ (stepM rows (iterM rows t s)).2.2, x.2.length ≤ 6
    generalize iterM rows t s = S at ih
    obtain ⟨w, sn, mv⟩ := S
    dsimp only at ih
    cases w with
    | nil => exact ⟨by show mv.length ≤ _; omega, ih.2⟩
    | cons m w =>
      unfold stepM
      dsimp only
      refine ⟨by simp; omega, fun x hx => ?_⟩
      rcases List.mem_append.mp hx with hx | hx
      · exact ih.2 x hx
      · rw [List.mem_singleton.mp hx]
        have := keptF_len rows.length m
        simp only [List.length_map]
        omega
noncomputable def nF (ms : List Int) : Nat := 4 + (if ms.length / 2 < 1 then ms.length / 2 else 1) + (if ms.length / 8 < 1 then ms.length / 8 else 1)
noncomputable def toldF (ms : List Int) : List Int := (ms.take 6 ++ [0, 0, 1, 1]).take (nF ms)
theorem nF_le (ms : List Int) : 4 ≤ nF ms ∧ nF ms ≤ 6 ∧ nF ms ≤ (ms.take 6 ++ [0, 0, 1, 1]).length := by
  unfold nF
  rw [List.length_append, List.length_take]
  simp only [List.length_cons, List.length_nil]
  split <;> split <;> omega
theorem toldF_len (ms : List Int) : (toldF ms).length = nF ms := by
  unfold toldF; rw [List.length_take]; have := nF_le ms; omega
theorem parF_le {told : List Int} {k p : Nat} (h : (parF told)[k]? = some p) : p ≤ k := by
  have hk := (List.getElem?_eq_some_iff.mp h).1
  rw [parF_len] at hk
  rw [parF_get hk] at h
  have h6 := Int.fmod_nonneg_of_pos (told.getD k 0) (by omega : (0 : Int) < k + 1)
  have h7 := Int.fmod_lt_of_pos (told.getD k 0) (by omega : (0 : Int) < k + 1)
  have := Option.some.inj h
  split at this <;> omega
theorem fdiv_nat (a b : Nat) : (a : Int).fdiv (b : Int) = ((a / b : Nat) : Int) := by
  rw [Int.fdiv_eq_ediv_of_nonneg _ (by omega)]; exact (Int.natCast_ediv a b).symm
theorem min_nat (a : Nat) : (if (1 : Int) < ((a : Nat) : Int) then (1 : Int) else (a : Int)) = ((if a < 1 then a else 1 : Nat) : Int) := by
  by_cases h : a < 1
  · rw [if_neg (by omega), if_pos h]
  · rw [if_neg h]
    by_cases h2 : a = 1
    · subst h2; rw [if_neg (by decide)]
    · rw [if_pos (by omega)]; rfl
theorem spec_law {scr : Addr} {ms : List Int} {ρ : Loc} {σ : Sto} {Q : F → Loc → Sto → Prop} {X : Loc → Sto → Prop} (hms : ms.length ≤ 1000) (r1 : ρ "script" = some (.ref scr)) (hg : GameOk (parF (toldF ms)))
    (q : ∀ ρ' σ', Q (.ret (.bool true)) ρ' σ') : W_law scr ms ρ σ Q X := by
  unfold W_law
  obtain ⟨hn1, hn2, hn3⟩ := nF_le ms
  refine seq_cut fun R hR => ?_
  have hdv : ∀ x : Int, divisionGoesByPylong x 2 = false ∧ divisionGoesByPylong x 8 = false := fun x => ⟨rfl, rfl⟩
  simp only [wSeq, wAsg, w2, w2b, subW, wNm, wInt, opt, updl_eq, bindP_cons, ↓String.reduceEq, ↓reduceIte, reduceCtorEq, i2, c2, ltV, gtV, geV, shrV, wDone, wBrk, wCont, wSet, setW, wIte, wExpr, notRef, wRet, wCall, wCons, wNil, true_and, lenV, mulSV, addV, wAndB, wNot, wTrueB, wOrB, wTru, wMethL, getL, appendV, popV, truthW, wStr, wNone, wBool, typeV, isV, wTyp, wFailS, wFailA, wFailB, wFailE, wFalseB, newL, newT, wSlStr, eqV, neV, wMethS, splitV, joinV, wAsgT, tgN, bindAll, tg1, wItVal, wItRev, wItRange, wOrV, wIf, wAttr, getI, startsV, inV, ninV, wItSet, wNeg, wAug, wAsg2, retv, powV, andV, fdivV, modV, sumV, minV, maxV, sortedV, wLenB, r1]
  refine ⟨by decide, rfl, by decide, rfl, ?_⟩
  rw [show (2 : Int) = ((2 : Nat) : Int) from rfl, show (8 : Int) = ((8 : Nat) : Int) from rfl, fdiv_nat, fdiv_nat, min_nat, min_nat]
  rw [show (4 : Int) + ((if ms.length / 2 < 1 then ms.length / 2 else 1 : Nat) : Int) + ((if ms.length / 8 < 1 then ms.length / 8 else 1 : Nat) : Int) = ((nF ms : Nat) : Int) by unfold nF; push_cast; rfl]
  subst hR
  refine seq_cut fun R hR => ?_
  unfold wSlTo wSlB
  simp only [wSeq, wAsg, w2, w2b, subW, wNm, wInt, opt, updl_eq, bindP_cons, ↓String.reduceEq, ↓reduceIte, reduceCtorEq, i2, c2, ltV, gtV, geV, shrV, wDone, wBrk, wCont, wSet, setW, wIte, wExpr, notRef, wRet, wCall, wCons, wNil, true_and, lenV, mulSV, addV, wAndB, wNot, wTrueB, wOrB, wTru, wMethL, getL, appendV, popV, truthW, wStr, wNone, wBool, typeV, isV, wTyp, wFailS, wFailA, wFailB, wFailE, wFalseB, newL, newT, wSlStr, eqV, neV, wMethS, splitV, joinV, wAsgT, tgN, bindAll, tg1, wItVal, wItRev, wItRange, wOrV, wIf, wAttr, getI, startsV, inV, ninV, wItSet, wNeg, wAug, wAsg2, retv, powV, andV, fdivV, modV, sumV, minV, maxV, sortedV, r1]
  intro a ha
  refine ⟨by simp [lim], fun b hb => ?_⟩
  simp only [wSeq, wAsg, w2, w2b, subW, wNm, wInt, opt, updl_eq, bindP_cons, ↓String.reduceEq, ↓reduceIte, reduceCtorEq, i2, c2, ltV, gtV, geV, shrV, wDone, wBrk, wCont, wSet, setW, wIte, wExpr, notRef, wRet, wCall, wCons, wNil, true_and, lenV, mulSV, addV, wAndB, wNot, wTrueB, wOrB, wTru, wMethL, getL, appendV, popV, truthW, wStr, wNone, wBool, typeV, isV, wTyp, wFailS, wFailA, wFailB, wFailE, wFalseB, newL, newT, wSlStr, eqV, neV, wMethS, splitV, joinV, wAsgT, tgN, bindAll, tg1, wItVal, wItRev, wItRange, wOrV, wIf, wAttr, getI, startsV, inV, ninV, wItSet, wNeg, wAug, wAsg2, retv, powV, andV, fdivV, modV, sumV, minV, maxV, sortedV, upd_self, upd_get (upd_self σ a _) hb]
  have happ : (List.take 6 ms).map V.int ++ [V.int 0, V.int 0, V.int 1, V.int 1] = (ms.take 6 ++ [0, 0, 1, 1]).map V.int := by simp
  rw [happ]
  refine ⟨by simp [lim]; omega, fun c hc => ?_⟩
  refine ⟨by omega, by simp; omega, by simp [lim]; omega, fun t ht => ?_⟩
  subst hR
  rw [Int.toNat_natCast, ← List.map_take, show List.take (nF ms) (List.take 6 ms ++ [0, 0, 1, 1]) = toldF ms from rfl]
  have ht1 := upd_self (upd (upd (upd σ a (.list ((ms.take 6).map V.int))) b (.list [.int 0, .int 0, .int 1, .int 1])) c (.list ((ms.take 6 ++ [0, 0, 1, 1]).map V.int))) t (.list ((toldF ms).map V.int))
  generalize upd (upd (upd (upd σ a (.list ((ms.take 6).map V.int))) b (.list [.int 0, .int 0, .int 1, .int 1])) c (.list ((ms.take 6 ++ [0, 0, 1, 1]).map V.int))) t (.list ((toldF ms).map V.int)) = σ1 at *
  clear ha hb hc ht happ
  have htl := toldF_len ms
  refine seq_cut fun R hR => ?_
  simp only [wSeq, wAsg, w2, w2b, subW, wNm, wInt, opt, updl_eq, bindP_cons, ↓String.reduceEq, ↓reduceIte, reduceCtorEq, i2, c2, ltV, gtV, geV, shrV, wDone, wBrk, wCont, wSet, setW, wIte, wExpr, notRef, wRet, wCall, wCons, wNil, true_and, lenV, mulSV, addV, wAndB, wNot, wTrueB, wOrB, wTru, wMethL, getL, appendV, popV, truthW, wStr, wNone, wBool, typeV, isV, wTyp, wFailS, wFailA, wFailB, wFailE, wFalseB, newL, newT, wSlStr, eqV, neV, wMethS, splitV, joinV, wAsgT, tgN, bindAll, tg1, wItVal, wItRev, wItRange, wOrV, wIf, wAttr, getI, startsV, inV, ninV, wItSet, wNeg, wAug, wAsg2, retv, powV, andV, fdivV, modV, sumV, minV, maxV, sortedV]
  refine spec_law_parents ht1 (by omega) fun σ2 pa hE2 hpa => ?_
  subst hR
  have hpl : (parF (toldF ms)).length ≤ 6 := by rw [parF_len]; omega
  have hple : ∀ (k p : Nat), (parF (toldF ms))[k]? = some p → p ≤ k := fun k p h => parF_le h
  generalize parF (toldF ms) = ps at *
  refine seq_cut fun R hR => ?_
  simp only [wSeq, wAsg, w2, w2b, subW, wNm, wInt, opt, updl_eq, bindP_cons, ↓String.reduceEq, ↓reduceIte, reduceCtorEq, i2, c2, ltV, gtV, geV, shrV, wDone, wBrk, wCont, wSet, setW, wIte, wExpr, notRef, wRet, wCall, wCons, wNil, true_and, lenV, mulSV, addV, wAndB, wNot, wTrueB, wOrB, wTru, wMethL, getL, appendV, popV, truthW, wStr, wNone, wBool, typeV, isV, wTyp, wFailS, wFailA, wFailB, wFailE, wFalseB, newL, newT, wSlStr, eqV, neV, wMethS, splitV, joinV, wAsgT, tgN, bindAll, tg1, wItVal, wItRev, wItRange, wOrV, wIf, wAttr, getI, startsV, inV, ninV, wItSet, wNeg, wAug, wAsg2, retv, powV, andV, fdivV, modV, sumV, minV, maxV, sortedV]
  have hrl : (rowsF [] ps).length = ps.length := by rw [rowsF_len]; simp
  have rok : ∀ row ∈ rowsF [] ps, RowOk row := fun row hrow => by
    obtain ⟨i, hi, hie⟩ := List.getElem_of_mem hrow
    have := rowsF_ok hple ps.length (Nat.le_refl _) i row (by rw [List.take_length, ← hie]; exact List.getElem?_eq_getElem hi)
    exact ⟨this.1, by omega, fun j hj => by have := this.2.2 j hj; omega⟩
  refine spec_law_rows hpa hpl hple fun σ3 r refs hE3 hr hrefs => ?_
  obtain ⟨g1, g2, col, g3, g4⟩ := hg
  have hlenM := iterM_len (rowsF [] ps) ([2 ^ ps.length - 1], [2 ^ ps.length - 1], []) rfl (by omega) 64
  rw [show iterM (rowsF [] ps) 64 ([2 ^ ps.length - 1], [2 ^ ps.length - 1], []) = gameF ps from rfl] at hlenM
  refine spec_law_moves hr hrefs rok (by omega) (by rw [hrl]; exact g1) fun σ4 mo mrefs hE4 hmo hM => ?_
  rw [hrl, show iterM (rowsF [] ps) 64 ([2 ^ ps.length - 1], [2 ^ ps.length - 1], []) = gameF ps from rfl] at hM
  generalize (gameF ps).2.2 = M at *
  have hml := hM.1
  subst hR
  have hpa4 := hE4.get (hE3.get hpa)
  refine seq_cut fun R hR => ?_
  have test : ∀ K : Bool → Sto → Prop, (∀ σ5, Ext σ4 σ5 → K false σ5) → w2b neV (wComp [] (tgN ["mask", "rests"]) (wItVal (wNm "moves")) (wTrueB) (wNm "mask")) (wCall T__law_whole (wCons (wNm "parents") (wNil)))
      (updl (updl (updl (updl ρ "n" (.int (nF ms))) "told" (.ref t)) "parents" (.ref pa)) "moves" (.ref mo)) σ4 K (X (updl (updl (updl (updl ρ "n" (.int (nF ms))) "told" (.ref t)) "parents" (.ref pa)) "moves" (.ref mo))) := by
    intro K k
    simp only [w2b]
    refine comp_of (.list mo) mrefs σ4 (fun i out σ' => σ' = σ4 ∧ out = ((M.take i).map (·.1)).map natV) (fun K k => ?_) ⟨rfl, rfl⟩ ?_ ?_
    · simp only [wSeq, wAsg, w2, w2b, subW, wNm, wInt, opt, updl_eq, bindP_cons, ↓String.reduceEq, ↓reduceIte, reduceCtorEq, i2, c2, ltV, gtV, geV, shrV, wDone, wBrk, wCont, wSet, setW, wIte, wExpr, notRef, wRet, wCall, wCons, wNil, true_and, lenV, mulSV, addV, wAndB, wNot, wTrueB, wOrB, wTru, wMethL, getL, appendV, popV, truthW, wStr, wNone, wBool, typeV, isV, wTyp, wFailS, wFailA, wFailB, wFailE, wFalseB, newL, newT, wSlStr, eqV, neV, wMethS, splitV, joinV, wAsgT, tgN, bindAll, tg1, wItVal, wItRev, wItRange, wOrV, wIf, wAttr, getI, startsV, inV, ninV, wItSet, wNeg, wAug, wAsg2, retv, powV, andV, fdivV, modV, sumV, minV, maxV, sortedV, hmo]; exact k
    · rintro i v out σ' hv ⟨rfl, rfl⟩
      obtain ⟨⟨m, rs⟩, hx, a, b, rfl, ha, hb⟩ := hM.get' hv
      refine ⟨vals_list hmo, by rw [List.length_map, List.length_map, List.length_take]; omega, ?_⟩
      refine tgN_of ha rfl ?_
      simp only [wSeq, wAsg, w2, w2b, subW, wNm, wInt, opt, updl_eq, bindP_cons, ↓String.reduceEq, ↓reduceIte, reduceCtorEq, i2, c2, ltV, gtV, geV, shrV, wDone, wBrk, wCont, wSet, setW, wIte, wExpr, notRef, wRet, wCall, wCons, wNil, true_and, lenV, mulSV, addV, wAndB, wNot, wTrueB, wOrB, wTru, wMethL, getL, appendV, popV, truthW, wStr, wNone, wBool, typeV, isV, wTyp, wFailS, wFailA, wFailB, wFailE, wFalseB, newL, newT, wSlStr, eqV, neV, wMethS, splitV, joinV, wAsgT, tgN, bindAll, tg1, wItVal, wItRev, wItRange, wOrV, wIf, wAttr, getI, startsV, inV, ninV, wItSet, wNeg, wAug, wAsg2, retv, powV, andV, fdivV, modV, sumV, minV, maxV, sortedV]
      rw [take_snoc hx]
      simp
    · rintro out σx ⟨hσx, rfl⟩
      rw [hσx, hml, List.take_length]
      refine ⟨vals_list hmo, fun d hd => ?_⟩
      have hd1 := upd_self σ4 d (.list ((M.map (·.1)).map natV))
      have hE5 := Ext.new hd (.list ((M.map (·.1)).map natV))
      generalize upd σ4 d (.list ((M.map (·.1)).map natV)) = σ5 at *
      simp only [wSeq, wAsg, w2, w2b, subW, wNm, wInt, opt, updl_eq, bindP_cons, ↓String.reduceEq, ↓reduceIte, reduceCtorEq, i2, c2, ltV, gtV, geV, shrV, wDone, wBrk, wCont, wSet, setW, wIte, wExpr, notRef, wRet, wCall, wCons, wNil, true_and, lenV, mulSV, addV, wAndB, wNot, wTrueB, wOrB, wTru, wMethL, getL, appendV, popV, truthW, wStr, wNone, wBool, typeV, isV, wTyp, wFailS, wFailA, wFailB, wFailE, wFalseB, newL, newT, wSlStr, eqV, neV, wMethS, splitV, joinV, wAsgT, tgN, bindAll, tg1, wItVal, wItRev, wItRange, wOrV, wIf, wAttr, getI, startsV, inV, ninV, wItSet, wNeg, wAug, wAsg2, retv, powV, andV, fdivV, modV, sumV, minV, maxV, sortedV]
      refine spec_law_whole (hE5.get hpa4) hpl fun σ6 w hE6 hw => ?_
      refine ⟨(M.map (·.1)).map (fun k : Nat => (k : Int)), (wholeF ps).map (fun k : Nat => (k : Int)), by rw [hE6.get hd1, natV_map], by rw [hw, natV_map], ?_⟩
      rw [g2, decide_eq_true rfl]
      exact k σ6 (hE5.trans hE6)
  unfold wIte
  refine test _ fun σ5 hE5 => ?_
  rw [if_neg (by decide)]
  simp only [wSeq, wAsg, w2, w2b, subW, wNm, wInt, opt, updl_eq, bindP_cons, ↓String.reduceEq, ↓reduceIte, reduceCtorEq, i2, c2, ltV, gtV, geV, shrV, wDone, wBrk, wCont, wSet, setW, wIte, wExpr, notRef, wRet, wCall, wCons, wNil, true_and, lenV, mulSV, addV, wAndB, wNot, wTrueB, wOrB, wTru, wMethL, getL, appendV, popV, truthW, wStr, wNone, wBool, typeV, isV, wTyp, wFailS, wFailA, wFailB, wFailE, wFalseB, newL, newT, wSlStr, eqV, neV, wMethS, splitV, joinV, wAsgT, tgN, bindAll, tg1, wItVal, wItRev, wItRange, wOrV, wIf, wAttr, getI, startsV, inV, ninV, wItSet, wNeg, wAug, wAsg2, retv, powV, andV, fdivV, modV, sumV, minV, maxV, sortedV]
  subst hR
  refine seq_cut fun R hR => ?_
  have hM5 : All2 (MoveAt σ5) mrefs M := hM.imp fun v m hv => by
    obtain ⟨a, b, v1, v2, v3⟩ := hv
    exact ⟨a, b, v1, hE5.get v2, hE5.get v3⟩
  simp only [wSeq, wAsg, w2, w2b, subW, wNm, wInt, opt, updl_eq, bindP_cons, ↓String.reduceEq, ↓reduceIte, reduceCtorEq, i2, c2, ltV, gtV, geV, shrV, wDone, wBrk, wCont, wSet, setW, wIte, wExpr, notRef, wRet, wCall, wCons, wNil, true_and, lenV, mulSV, addV, wAndB, wNot, wTrueB, wOrB, wTru, wMethL, getL, appendV, popV, truthW, wStr, wNone, wBool, typeV, isV, wTyp, wFailS, wFailA, wFailB, wFailE, wFalseB, newL, newT, wSlStr, eqV, neV, wMethS, splitV, joinV, wAsgT, tgN, bindAll, tg1, wItVal, wItRev, wItRange, wOrV, wIf, wAttr, getI, startsV, inV, ninV, wItSet, wNeg, wAug, wAsg2, retv, powV, andV, fdivV, modV, sumV, minV, maxV, sortedV]
  refine spec_law_worths (hE5.get hmo) hM5 (by omega) hlenM.2 g3 fun σ6 wd n f hE6 hwd hf => ?_
  subst hR
  refine seq_cut fun R hR => ?_
  have hmo6 := hE6.get (hE5.get hmo)
  refine for_of (.list mo) mrefs σ6 (fun i ρ' σ' => ρ' "worths" = some (.ref wd) ∧ ρ' "parents" = some (.ref pa) ∧ Ext σ6 σ') (fun K k => ?_) ⟨?_, ?_, .refl _⟩ ?_ ?_
  · simp only [wSeq, wAsg, w2, w2b, subW, wNm, wInt, opt, updl_eq, bindP_cons, ↓String.reduceEq, ↓reduceIte, reduceCtorEq, i2, c2, ltV, gtV, geV, shrV, wDone, wBrk, wCont, wSet, setW, wIte, wExpr, notRef, wRet, wCall, wCons, wNil, true_and, lenV, mulSV, addV, wAndB, wNot, wTrueB, wOrB, wTru, wMethL, getL, appendV, popV, truthW, wStr, wNone, wBool, typeV, isV, wTyp, wFailS, wFailA, wFailB, wFailE, wFalseB, newL, newT, wSlStr, eqV, neV, wMethS, splitV, joinV, wAsgT, tgN, bindAll, tg1, wItVal, wItRev, wItRange, wOrV, wIf, wAttr, getI, startsV, inV, ninV, wItSet, wNeg, wAug, wAsg2, retv, powV, andV, fdivV, modV, sumV, minV, maxV, sortedV, hmo6]; exact k
  · simp only [wSeq, wAsg, w2, w2b, subW, wNm, wInt, opt, updl_eq, bindP_cons, ↓String.reduceEq, ↓reduceIte, reduceCtorEq, i2, c2, ltV, gtV, geV, shrV, wDone, wBrk, wCont, wSet, setW, wIte, wExpr, notRef, wRet, wCall, wCons, wNil, true_and, lenV, mulSV, addV, wAndB, wNot, wTrueB, wOrB, wTru, wMethL, getL, appendV, popV, truthW, wStr, wNone, wBool, typeV, isV, wTyp, wFailS, wFailA, wFailB, wFailE, wFalseB, newL, newT, wSlStr, eqV, neV, wMethS, splitV, joinV, wAsgT, tgN, bindAll, tg1, wItVal, wItRev, wItRange, wOrV, wIf, wAttr, getI, startsV, inV, ninV, wItSet, wNeg, wAug, wAsg2, retv, powV, andV, fdivV, modV, sumV, minV, maxV, sortedV]
  · simp only [wSeq, wAsg, w2, w2b, subW, wNm, wInt, opt, updl_eq, bindP_cons, ↓String.reduceEq, ↓reduceIte, reduceCtorEq, i2, c2, ltV, gtV, geV, shrV, wDone, wBrk, wCont, wSet, setW, wIte, wExpr, notRef, wRet, wCall, wCons, wNil, true_and, lenV, mulSV, addV, wAndB, wNot, wTrueB, wOrB, wTru, wMethL, getL, appendV, popV, truthW, wStr, wNone, wBool, typeV, isV, wTyp, wFailS, wFailA, wFailB, wFailE, wFalseB, newL, newT, wSlStr, eqV, neV, wMethS, splitV, joinV, wAsgT, tgN, bindAll, tg1, wItVal, wItRev, wItRange, wOrV, wIf, wAttr, getI, startsV, inV, ninV, wItSet, wNeg, wAug, wAsg2, retv, powV, andV, fdivV, modV, sumV, minV, maxV, sortedV]
  · rintro i v ρ' σ' hv ⟨h1, h2, h3⟩
    obtain ⟨⟨m, rs⟩, hx, a, b, rfl, ha, hb⟩ := hM5.get' hv
    have hmem := List.mem_of_getElem? hx
    have hfm := hf _ hmem
    have hcm := g4 _ hmem
    dsimp only at ha hb hfm hcm
    refine ⟨vals_list (h3.get hmo6), ?_⟩
    refine tgN_of (h3.get (hE6.get ha)) rfl ?_
    refine seq_cut fun R2 hR2 => ?_
    unfold wIte
    simp only [w2b, w2, wCall, wCons, wNil, wNm, opt, updl_eq, ↓String.reduceEq, ↓reduceIte, h1, h2, subW, natV, h3.get hwd, hfm]
    refine spec_law_colon (h3.get (hE6.get (hE5.get hpa4))) hpl hple fun σ7 hE7 => ?_
    subst hR2
    simp only [wSeq, wAsg, w2, w2b, subW, wNm, wInt, opt, updl_eq, bindP_cons, ↓String.reduceEq, ↓reduceIte, reduceCtorEq, i2, c2, ltV, gtV, geV, shrV, wDone, wBrk, wCont, wSet, setW, wIte, wExpr, notRef, wRet, wCall, wCons, wNil, true_and, lenV, mulSV, addV, wAndB, wNot, wTrueB, wOrB, wTru, wMethL, getL, appendV, popV, truthW, wStr, wNone, wBool, typeV, isV, wTyp, wFailS, wFailA, wFailB, wFailE, wFalseB, newL, newT, wSlStr, eqV, neV, wMethS, splitV, joinV, wAsgT, tgN, bindAll, tg1, wItVal, wItRev, wItRange, wOrV, wIf, wAttr, getI, startsV, inV, ninV, wItSet, wNeg, wAug, wAsg2, retv, powV, andV, fdivV, modV, sumV, minV, maxV, sortedV]
    rw [hcm, if_neg (by simp)]
    simp only [wSeq, wAsg, w2, w2b, subW, wNm, wInt, opt, updl_eq, bindP_cons, ↓String.reduceEq, ↓reduceIte, reduceCtorEq, i2, c2, ltV, gtV, geV, shrV, wDone, wBrk, wCont, wSet, setW, wIte, wExpr, notRef, wRet, wCall, wCons, wNil, true_and, lenV, mulSV, addV, wAndB, wNot, wTrueB, wOrB, wTru, wMethL, getL, appendV, popV, truthW, wStr, wNone, wBool, typeV, isV, wTyp, wFailS, wFailA, wFailB, wFailE, wFalseB, newL, newT, wSlStr, eqV, neV, wMethS, splitV, joinV, wAsgT, tgN, bindAll, tg1, wItVal, wItRev, wItRange, wOrV, wIf, wAttr, getI, startsV, inV, ninV, wItSet, wNeg, wAug, wAsg2, retv, powV, andV, fdivV, modV, sumV, minV, maxV, sortedV, h1, h2]
    exact h3.trans hE7
  · rintro ρ' σ' ⟨h1, h2, h3⟩
    refine ⟨vals_list (h3.get hmo6), ?_⟩
    subst hR
    simp only [wSeq, wAsg, w2, w2b, subW, wNm, wInt, opt, updl_eq, bindP_cons, ↓String.reduceEq, ↓reduceIte, reduceCtorEq, i2, c2, ltV, gtV, geV, shrV, wDone, wBrk, wCont, wSet, setW, wIte, wExpr, notRef, wRet, wCall, wCons, wNil, true_and, lenV, mulSV, addV, wAndB, wNot, wTrueB, wOrB, wTru, wMethL, getL, appendV, popV, truthW, wStr, wNone, wBool, typeV, isV, wTyp, wFailS, wFailA, wFailB, wFailE, wFalseB, newL, newT, wSlStr, eqV, neV, wMethS, splitV, joinV, wAsgT, tgN, bindAll, tg1, wItVal, wItRev, wItRange, wOrV, wIf, wAttr, getI, startsV, inV, ninV, wItSet, wNeg, wAug, wAsg2, retv, powV, andV, fdivV, modV, sumV, minV, maxV, sortedV]
    exact q _ _
end Mine
end

section
open PySem PySem.W PyProof.Rows PySem.Builtin PySem.Builtin.Str
set_option maxRecDepth 100000
set_option maxHeartbeats 4000000
set_option linter.unusedSimpArgs false
namespace Mine
theorem dw_same {es : List Int} {e : Int} (h : ∀ x ∈ es, e < x) : es.dropWhile (· == e) = es := by
  cases es with
  | nil => rfl
  | cons x r => rw [List.dropWhile_cons, if_neg]; have := h x (.head _); simp; omega
theorem mem_dw {as : List Int} {a x : Int} (hx : x ≠ a) : x ∈ as.dropWhile (· == a) ↔ x ∈ as := by
  induction as with
  | nil => exact Iff.rfl
  | cons y r ih =>
    rw [List.dropWhile_cons]
    split
    · rename_i h
      have : y = a := by simpa using h
      rw [ih, List.mem_cons]
      exact ⟨.inr, fun q => q.elim (fun e => absurd (e.trans this) hx) id⟩
    · exact Iff.rfl
theorem dw_gt {as : List Int} {a : Int} (h : (a :: as).Pairwise (· ≤ ·)) : ∀ x ∈ as.dropWhile (· == a), a < x := by
  induction as with
  | nil => intro x hx; cases hx
  | cons y r ih =>
    intro x hx
    have h' := List.pairwise_cons.mp h
    rw [List.dropWhile_cons] at hx
    split at hx
    · refine ih ?_ x hx
      exact List.pairwise_cons.mpr ⟨fun z hz => h'.1 z (.tail _ hz), (List.pairwise_cons.mp h'.2).2⟩
    · rename_i hy
      have hy' : y ≠ a := by simpa using hy
      have h1 := h'.1 y (.head _)
      rcases List.mem_cons.mp hx with e | e
      · subst e; omega
      · have := (List.pairwise_cons.mp h'.2).1 x e; omega
/-- all that is in the second stands in the first -/
theorem sldF_sub : ∀ (n : Nat) (es as m u : List Int), es.Pairwise (· < ·) → as.Pairwise (· ≤ ·) → (∀ a ∈ as, a ∈ es) → es.length + as.length ≤ n → sldF n es as m u = (m ++ es.filter (fun x => !as.contains x), u)
  | 0, es, as, m, u, _, _, _, h => by
    have h1 : es = [] := List.length_eq_zero_iff.mp (by omega)
    have h2 : as = [] := List.length_eq_zero_iff.mp (by omega)
    subst h1 h2; simp [sldF]
  | n + 1, [], as, m, u, _, _, hs, _ => by
    cases as with
    | nil => simp [sldF]
    | cons a r => exact absurd (hs a (.head _)) (by simp)
  | n + 1, e :: es, [], m, u, _, _, _, _ => by
    have : (e :: es).filter (fun x => !([] : List Int).contains x) = e :: es := List.filter_eq_self.mpr fun x _ => rfl
    rw [this]; simp [sldF]
  | n + 1, e :: es, a :: as, m, u, he, ha, hs, hn => by
    have he' := List.pairwise_cons.mp he
    have ha' := List.pairwise_cons.mp ha
    simp only [List.length_cons] at hn
    have hde := dw_same he'.1
    unfold sldF
    rw [hde]
    by_cases c1 : e < a
    · rw [if_pos c1]
      have hne : (a :: as).contains e = false := by
        rw [← Bool.not_eq_true, List.contains_iff_mem]
        intro h
        rcases List.mem_cons.mp h with q | q
        · omega
        · have := ha'.1 e q; omega
      rw [sldF_sub n es (a :: as) _ u he'.2 ha (fun x hx => ?_) (by simp only [List.length_cons]; omega), List.filter_cons, if_pos (by rw [hne]; rfl)]
      · simp
      · rcases List.mem_cons.mp (hs x hx) with q | q
        · subst q
          rw [← List.contains_iff_mem, hne] at hx; cases hx
        · exact q
    · rw [if_neg c1]
      have hae : a = e := by
        rcases List.mem_cons.mp (hs a (.head _)) with q | q
        · exact q
        · have := he'.1 a q; omega
      subst hae
      rw [if_neg (by omega)]
      have hgt := dw_gt ha
      have hlen := (List.dropWhile_sublist (l := as) (fun x => x == a)).length_le
      rw [sldF_sub n es (as.dropWhile (· == a)) m u he'.2 (ha'.2.sublist (List.dropWhile_sublist _)) (fun x hx => ?_) (by omega), List.filter_cons, if_neg (by simp)]
      · congr 2
        refine List.filter_congr fun x hx => ?_
        have hxa : x ≠ a := by have := he'.1 x hx; omega
        congr 1
        rw [Bool.eq_iff_iff, List.contains_iff_mem, List.contains_iff_mem, mem_dw hxa, List.mem_cons]
        exact ⟨.inr, fun q => q.elim (fun e => absurd e hxa) id⟩
      · have hxs : x ∈ as := (List.dropWhile_sublist _).subset hx
        rcases List.mem_cons.mp (hs x (.tail _ hxs)) with q | q
        · have := hgt x hx; omega
        · exact q
end Mine
end

section
open PySem PySem.W PyProof.Rows PySem.Builtin PySem.Builtin.Str
set_option maxRecDepth 100000
set_option maxHeartbeats 4000000
set_option linter.unusedSimpArgs false
namespace Mine
noncomputable def tB (b r : Nat) : Bool := Nat.beq (Nat.land (Nat.shiftRight b r) 1) 1
theorem tB_eq (b r : Nat) : tB b r = b.testBit r := by
  unfold tB
  show Nat.beq ((b >>> r) &&& 1) 1 = _
  rw [Nat.and_one_is_mod, Nat.testBit_eq_decide_div_mod_eq, Nat.shiftRight_eq_div_pow, Bool.eq_iff_iff, Nat.beq_eq, decide_eq_true_iff]
noncomputable def insB (x : Nat) : List Nat → List Nat
  | [] => [x]
  | y :: ys => match Nat.ble x y with
    | true => y :: insB x ys
    | false => x :: y :: ys
theorem insB_eq (x : Nat) : ∀ l, insB x l = insD x l
  | [] => rfl
  | y :: ys => by
    unfold insB insD
    cases h : Nat.ble x y with
    | true => rw [if_neg (by have := Nat.le_of_ble_eq_true h; omega)]; show y :: _ = _; rw [insB_eq x ys]
    | false => rw [if_pos (by rcases Nat.lt_or_ge y x with q | q; exact q; exact absurd (Nat.ble_eq_true_of_le q) (by rw [h]; decide))]
noncomputable def restsB : List Nat → Nat → Nat → List Nat
  | [], _, _ => []
  | c :: cs, k, M => match tB M k with
    | true => Nat.land M c :: restsB cs (k + 1) M
    | false => restsB cs (k + 1) M
theorem restsB_eq (f : Nat → Nat) (M : Nat) : ∀ (j k : Nat), restsB ((List.range' k j).map f) k M = ((List.range' k j).filter fun i => M.testBit i).map fun i => M &&& f i
  | 0, _ => rfl
  | j + 1, k => by
    rw [List.range'_succ, List.map_cons, List.filter_cons]
    unfold restsB
    rw [tB_eq, restsB_eq f M j (k + 1)]
    cases M.testBit k <;> rfl
noncomputable def csum (P : Nat → Bool) (n : Nat) : Nat := (((List.range n).filter P).map (2 ^ ·)).sum
theorem csum_succ (P : Nat → Bool) (n : Nat) : csum P (n + 1) = csum P n + (if P n then 2 ^ n else 0) := by
  unfold csum
  rw [List.range_succ, List.filter_append, List.map_append, List.sum_append]
  cases h : P n <;> simp [h]
theorem csum_lt (P : Nat → Bool) : ∀ n, csum P n < 2 ^ n
  | 0 => by simp [csum]
  | n + 1 => by
    rw [csum_succ]
    have := csum_lt P n
    rw [Nat.pow_succ]
    split <;> omega
theorem and_two (m n : Nat) : m &&& 2 ^ n = if m.testBit n then 2 ^ n else 0 := by
  refine Nat.eq_of_testBit_eq fun i => ?_
  rw [Nat.testBit_and, Nat.testBit_two_pow]
  by_cases h : n = i
  · subst h
    rw [decide_eq_true rfl, Bool.and_true]
    cases hm : m.testBit n <;> simp [Nat.testBit_two_pow]
  · rw [decide_eq_false h, Bool.and_false]
    split
    · rw [Nat.testBit_two_pow, decide_eq_false h]
    · simp
theorem csum_and (m : Nat) (P : Nat → Bool) : ∀ n, csum (fun j => m.testBit j && P j) n = m &&& csum P n
  | 0 => by simp [csum]
  | n + 1 => by
    rw [csum_succ, csum_succ, csum_and m P n]
    cases hp : P n with
    | false => simp
    | true =>
      have h1 := csum_lt P n
      have h2 : csum P n + 2 ^ n = 2 ^ n * 1 ||| csum P n := by rw [← Nat.two_pow_add_eq_or_of_lt h1]; omega
      have h3 : m &&& csum P n < 2 ^ n := Nat.lt_of_le_of_lt Nat.and_le_right h1
      rw [if_pos rfl, h2, Nat.and_or_distrib_left, Nat.mul_one, and_two]
      cases hm : m.testBit n with
      | false => simp
      | true =>
        simp only [Bool.and_true, if_true]
        have := Nat.two_pow_add_eq_or_of_lt h3 1
        rw [Nat.mul_one] at this
        rw [← this]; omega
theorem restF_eq (rows : List (List Nat)) (m k : Nat) : restF rows (keptF rows.length m) k = m &&& csum (fun j => !tellF rows k j) rows.length := by
  rw [← csum_and]
  unfold restF stayF keptF csum
  rw [List.filter_filter]
  congr 2
  refine List.filter_congr fun j _ => ?_
  rw [Bool.and_comm]
noncomputable def cTab (rows : List (List Nat)) : List Nat := (List.range' 0 rows.length).map fun k => csum (fun j => !tellF rows k j) rows.length
theorem rests_eq (rows : List (List Nat)) (m : Nat) : restsB (cTab rows) 0 m = (keptF rows.length m).map (restF rows (keptF rows.length m)) := by
  unfold cTab
  rw [restsB_eq, ← List.range_eq_range']
  refine List.map_congr_left fun k _ => ?_
  exact (restF_eq rows m k).symm
noncomputable def pushB : List Nat → Nat → List Nat → List Nat × Nat
  | w, b, [] => (w, b)
  | w, b, r :: rs => match tB b r with
    | true => pushB w b rs
    | false => pushB (insB r w) (Nat.lor b (2 ^ r)) rs
theorem pushB_eq : ∀ (rs w sn : List Nat) (b : Nat), (∀ r, b.testBit r = sn.contains r) → (pushB w b rs).1 = (pushF (w, sn) rs).1 ∧ ∀ r, (pushB w b rs).2.testBit r = (pushF (w, sn) rs).2.contains r
  | [], w, sn, b, h => ⟨rfl, h⟩
  | r :: rs, w, sn, b, h => by
    unfold pushB pushF
    rw [tB_eq, h r]
    cases hc : sn.contains r with
    | true => exact pushB_eq rs w sn b h
    | false =>
      rw [if_neg (by decide), insB_eq]
      refine pushB_eq rs (insD r w) (sn ++ [r]) _ fun x => ?_
      show (b ||| 2 ^ r).testBit x = _
      rw [Nat.testBit_or, h x, Nat.testBit_two_pow, Bool.eq_iff_iff, Bool.or_eq_true, List.contains_iff_mem, List.contains_iff_mem, List.mem_append, List.mem_singleton, decide_eq_true_iff]
      exact or_congr Iff.rfl eq_comm
noncomputable abbrev RM := List (Nat × List Nat)
noncomputable def gameB (C : List Nat) : Nat → List Nat → Nat → RM → Option RM
  | 0, [], _, mv => some mv
  | 0, _ :: _, _, _ => none
  | _ + 1, [], _, mv => some mv
  | t + 1, m :: w, b, mv => gameB C t (pushB w b (restsB C 0 m)).1 (pushB w b (restsB C 0 m)).2 ((m, restsB C 0 m) :: mv)
theorem iterM_succ (rows : List (List Nat)) : ∀ (t : Nat) (s : GSt), iterM rows (t + 1) s = iterM rows t (stepM rows s)
  | 0, _ => rfl
  | t + 1, s => by
    show stepM rows (iterM rows (t + 1) s) = stepM rows (iterM rows t (stepM rows s))
    rw [iterM_succ rows t s]
theorem iterM_stop (rows : List (List Nat)) (sn : List Nat) (mv : RM) : ∀ t, iterM rows t ([], sn, mv) = ([], sn, mv)
  | 0 => rfl
  | t + 1 => by rw [iterM_succ]; exact iterM_stop rows sn mv t
theorem gameB_eq (rows : List (List Nat)) : ∀ (t : Nat) (w sn : List Nat) (b : Nat) (mv R : RM), (∀ r, b.testBit r = sn.contains r) → gameB (cTab rows) t w b mv = some R → (iterM rows t (w, sn, mv.reverse)).1 = [] ∧ (iterM rows t (w, sn, mv.reverse)).2.2 = R.reverse
  | 0, [], sn, b, mv, R, h, e => by cases e; exact ⟨rfl, rfl⟩
  | 0, _ :: _, sn, b, mv, R, h, e => by cases e
  | t + 1, [], sn, b, mv, R, h, e => by cases e; rw [iterM_stop]; exact ⟨rfl, rfl⟩
  | t + 1, m :: w, sn, b, mv, R, h, e => by
    unfold gameB at e
    obtain ⟨h1, h2⟩ := pushB_eq (restsB (cTab rows) 0 m) w sn b h
    rw [h1] at e
    have ih := gameB_eq rows t _ _ _ _ R h2 e
    rw [iterM_succ]
    show (iterM rows t (_, _, mv.reverse ++ [(m, _)])).1 = [] ∧ (iterM rows t (_, _, mv.reverse ++ [(m, _)])).2.2 = _
    rw [← rests_eq]
    rw [List.reverse_cons] at ih
    exact ih
/-- the worth of m, out of a number that holds them all -/
noncomputable def fldB (tab m : Nat) : Nat := Nat.land (Nat.shiftRight tab (4 * m)) 15
noncomputable def allB (b : Nat) : List Nat → Bool
  | [] => true
  | r :: rs => match tB b r with
    | true => allB b rs
    | false => false
theorem allB_iff (b : Nat) : ∀ rs, allB b rs = true → ∀ r ∈ rs, b.testBit r = true
  | [], _, r, h => by cases h
  | x :: rs, e, r, h => by
    unfold allB at e
    rw [tB_eq] at e
    cases hx : b.testBit x with
    | false => rw [hx] at e; cases e
    | true =>
      rw [hx] at e
      rcases List.mem_cons.mp h with q | q
      · rw [q]; exact hx
      · exact allB_iff b rs e r q
noncomputable def valB (tab : Nat) : List Nat → Nat → Nat
  | [], v => v
  | r :: rs, v => valB tab rs (Nat.lor v (2 ^ fldB tab r))
theorem valB_bit (tab : Nat) : ∀ (rs : List Nat) (v x : Nat), (valB tab rs v).testBit x = (v.testBit x || (rs.map (fldB tab)).contains x)
  | [], v, x => by simp [valB]
  | r :: rs, v, x => by
    unfold valB
    rw [valB_bit tab rs]
    show ((v ||| 2 ^ fldB tab r).testBit x || _) = _
    rw [Nat.testBit_or, Nat.testBit_two_pow, List.map_cons, List.contains_cons, Bool.or_assoc]
    congr 2
    rw [Bool.eq_iff_iff, decide_eq_true_iff, beq_iff_eq]
    exact eq_comm
/-- the numbers below c are all there, c is not; and none is over the number of moves -/
noncomputable def mexB (v len c : Nat) : Bool := Nat.ble c len && (Nat.beq (Nat.land v (2 ^ (c + 1) - 1)) (2 ^ c - 1) && Nat.ble (v + 1) (2 ^ (len + 1)))
theorem mexB_ok {rs : List Nat} {v c : Nat} (hv : ∀ x, v.testBit x = rs.contains x) (h : mexB v rs.length c = true) : mexOk rs c = true := by
  unfold mexB at h
  rw [Bool.and_eq_true, Bool.and_eq_true, Nat.beq_eq] at h
  obtain ⟨hcl, h1, h2⟩ := h
  have hcl := Nat.le_of_ble_eq_true hcl
  have h2 := Nat.le_of_ble_eq_true h2
  have h1 : v &&& (2 ^ (c + 1) - 1) = 2 ^ c - 1 := h1
  have bit : ∀ x, (v &&& (2 ^ (c + 1) - 1)).testBit x = (2 ^ c - 1).testBit x := fun x => by rw [h1]
  simp only [Nat.testBit_and, Nat.testBit_two_pow_sub_one, hv] at bit
  have hle : ∀ x ∈ rs, x ≤ rs.length := fun x hx => by
    rcases Nat.lt_or_ge rs.length x with q | q
    · have : v.testBit x = true := by rw [hv, List.contains_iff_mem]; exact hx
      have h3 := Nat.testBit_lt_two_pow (x := v) (i := x) (Nat.lt_of_lt_of_le (Nat.lt_of_succ_le h2) (Nat.pow_le_pow_right (by decide) (by omega)))
      rw [this] at h3; cases h3
    · exact q
  unfold mexOk
  dsimp only
  rw [sldF_sub _ _ _ _ _ ?_ ?_ ?_ (Nat.le_refl _)]
  · rw [Bool.and_eq_true, decide_eq_true_iff, decide_eq_true_iff]
    refine ⟨rfl, ?_⟩
    rw [List.nil_append]
    have hc : rs.contains c = false := by have := bit c; simp at this; simpa using this
    have hlt : ∀ x, x < c → rs.contains x = true := fun x hx => by
      have := bit x
      rw [decide_eq_true (by omega), decide_eq_true hx, Bool.and_true] at this
      exact this
    have mem : ∀ x : Nat, (((sortA rs).map fun k : Nat => (k : Int)).contains (x : Int)) = rs.contains x := fun x => by
      rw [Bool.eq_iff_iff, List.contains_iff_mem, List.contains_iff_mem, List.mem_map, ← (sortA_perm rs).mem_iff]
      exact ⟨fun ⟨y, h1, h2⟩ => by rw [← Int.ofNat_inj.mp h2]; exact h1, fun h => ⟨x, h, rfl⟩⟩
    rw [List.head?_filter, List.find?_map, (List.find?_range_eq_some (i := c)).mpr ⟨?_, List.mem_range.mpr (by omega), fun j hj => ?_⟩]
    · rfl
    · show (!(((sortA rs).map fun k : Nat => (k : Int)).contains (c : Int))) = true
      rw [mem, hc]; rfl
    · show (!(!(((sortA rs).map fun k : Nat => (k : Int)).contains (j : Int)))) = true
      rw [mem, hlt j hj]; rfl
  · rw [List.pairwise_map]
    exact List.pairwise_lt_range.imp fun h => by omega
  · rw [List.pairwise_map]
    exact (sortA_sorted rs).imp fun h => by omega
  · intro a ha
    obtain ⟨x, hx, rfl⟩ := List.mem_map.mp ha
    have := hle x ((sortA_perm rs).mem_iff.mp hx)
    exact List.mem_map.mpr ⟨x, List.mem_range.mpr (by omega), rfl⟩
end Mine
end

section
open PySem PySem.W PyProof.Rows PySem.Builtin PySem.Builtin.Str
set_option maxRecDepth 100000
set_option maxHeartbeats 4000000
set_option linter.unusedSimpArgs false
namespace Mine
noncomputable def goB (tab : Nat) : RM → Nat → Bool
  | [], _ => true
  | (m, rs) :: R, b => allB b rs && (mexB (valB tab rs 0) rs.length (fldB tab m) && goB tab R (Nat.lor b (2 ^ m)))
theorem goB_ok (tab : Nat) : ∀ (R L : RM) (b : Nat), (∀ r, b.testBit r = true → L.any (fun x => x.1 == r) = true) → wOk (fldB tab) L = true → goB tab R b = true → wOk (fldB tab) (R.reverse ++ L) = true
  | [], L, b, _, hw, _ => hw
  | (m, rs) :: R, L, b, hb, hw, h => by
    unfold goB at h
    rw [Bool.and_eq_true, Bool.and_eq_true] at h
    obtain ⟨h1, h2, h3⟩ := h
    rw [List.reverse_cons, List.append_assoc]
    refine goB_ok tab R ((m, rs) :: L) _ (fun r hr => ?_) ?_ h3
    · have hr : (b ||| 2 ^ m).testBit r = true := hr
      rw [Nat.testBit_or, Nat.testBit_two_pow, Bool.or_eq_true, decide_eq_true_iff] at hr
      rw [List.any_cons, Bool.or_eq_true, beq_iff_eq]
      exact hr.elim (fun q => .inr (hb r q)) .inl
    · unfold wOk
      rw [Bool.and_eq_true, Bool.and_eq_true]
      refine ⟨List.all_eq_true.mpr fun r hr => hb r (allB_iff b rs h1 r hr), ?_, hw⟩
      refine mexB_ok (v := valB tab rs 0) (fun x => ?_) (by rw [List.length_map]; exact h2)
      rw [valB_bit, Nat.zero_testBit, Bool.false_or]
noncomputable def nthN : List Nat → Nat → Nat
  | [], _ => 0
  | x :: _, 0 => x
  | _ :: xs, k + 1 => nthN xs k
theorem nthN_eq : ∀ (l : List Nat) (k : Nat), nthN l k = l.getD k 0
  | [], _ => rfl
  | x :: _, 0 => rfl
  | _ :: xs, k + 1 => by
    show nthN xs k = _
    rw [nthN_eq xs k]; rfl
noncomputable def xorAt : List Nat → Nat → Nat → List Nat
  | [], _, _ => []
  | x :: xs, 0, v => Nat.sub (Nat.lor x v) (Nat.land x v) :: xs
  | x :: xs, k + 1, v => x :: xorAt xs k v
theorem xorAt_eq : ∀ (l : List Nat) (k v : Nat), xorAt l k v = l.set k (xr (l.getD k 0) v)
  | [], _, _ => rfl
  | x :: xs, 0, v => rfl
  | x :: xs, k + 1, v => by
    show x :: xorAt xs k v = _
    rw [xorAt_eq xs k v]; rfl
noncomputable def plB (n : Nat) : Nat → Nat
  | 0 => n
  | p + 1 => p
noncomputable def colB (n : Nat) (ps : List Nat) (m : Nat) : Nat → List Nat → List Nat
  | 0, A => A
  | k + 1, A => match tB m k with
    | true => colB n ps m k (xorAt A (plB n (nthN ps k)) (nthN A k + 1))
    | false => colB n ps m k A
theorem colB_eq (ps : List Nat) (m : Nat) : ∀ (k : Nat) (A : List Nat), colB ps.length ps m k A = ((List.range k).map fun t => k - 1 - t).foldl (colStep ps m) A
  | 0, A => rfl
  | k + 1, A => by
    rw [List.range_succ_eq_map, List.map_cons, List.foldl_cons, List.map_map]
    have e : ((fun t => k + 1 - 1 - t) ∘ Nat.succ) = fun t => k - 1 - t := by funext t; show k + 1 - 1 - (t + 1) = _; omega
    rw [e, ← colB_eq ps m k]
    have hs : colStep ps m A (k + 1 - 1 - 0) = (if m.testBit k then xorAt A (plB ps.length (nthN ps k)) (nthN A k + 1) else A) := by
      show colStep ps m A k = _
      have hp : plB ps.length (ps.getD k 0) = plF ps.length (ps.getD k 0) := by
        unfold plF
        cases ps.getD k 0 with
        | zero => rfl
        | succ p => rfl
      unfold colStep
      rw [xorAt_eq, nthN_eq, nthN_eq, hp]
    rw [hs]
    show (match tB m k with | true => _ | false => _) = _
    rw [tB_eq]
    cases m.testBit k <;> rfl
noncomputable def colV (n : Nat) (ps : List Nat) (m : Nat) : Nat := nthN (colB n ps m n (List.replicate (n + 1) 0)) n
theorem colV_eq (ps : List Nat) (m : Nat) : colV ps.length ps m = colF ps m := by
  unfold colV colF colT
  rw [nthN_eq, colB_eq]
noncomputable def tabB (n : Nat) (ps : List Nat) : RM → Nat → Nat
  | [], t => t
  | (m, _) :: R, t => tabB n ps R (Nat.lor t (Nat.shiftLeft (colV n ps m) (4 * m)))
noncomputable def chkB (tab n : Nat) (ps : List Nat) : RM → Bool
  | [] => true
  | (m, _) :: R => match Nat.beq (fldB tab m) (colV n ps m) with
    | true => chkB tab n ps R
    | false => false
theorem chkB_ok (tab n : Nat) (ps : List Nat) : ∀ R, chkB tab n ps R = true → ∀ x ∈ R, fldB tab x.1 = colV n ps x.1
  | [], _, x, h => by cases h
  | (m, rs) :: R, e, x, h => by
    unfold chkB at e
    cases hb : Nat.beq (fldB tab m) (colV n ps m) with
    | false => rw [hb] at e; cases e
    | true =>
      rw [hb] at e
      rcases List.mem_cons.mp h with q | q
      · rw [q]; exact Nat.eq_of_beq_eq_true hb
      · exact chkB_ok tab n ps R e x q
/-- with each module the one above it -/
noncomputable def clB (m : Nat) : List Nat → Nat → Bool
  | [], _ => true
  | p :: ps, k => match tB m k with
    | false => clB m ps (k + 1)
    | true => match p with
      | 0 => clB m ps (k + 1)
      | q + 1 => match tB m q with
        | true => clB m ps (k + 1)
        | false => false
theorem clB_eq (m : Nat) (ps : List Nat) : ∀ (j k : Nat), k + j = ps.length → clB m (ps.drop k) k = ((List.range' k j).all fun i => !loneB ps m i)
  | 0, k, h => by rw [List.drop_eq_nil_of_le (by omega)]; rfl
  | j + 1, k, h => by
    rw [List.drop_eq_getElem_cons (show k < ps.length by omega), List.range'_succ, List.all_cons, ← clB_eq m ps j (k + 1) (by omega)]
    have hD : ps.getD k 0 = ps[k] := by rw [List.getD_eq_getElem?_getD, List.getElem?_eq_getElem (show k < ps.length by omega)]; rfl
    unfold loneB
    rw [hD]
    generalize ps[k]'_ = p
    rw [show clB m (p :: ps.drop (k + 1)) k = (match tB m k with
      | false => clB m (ps.drop (k + 1)) (k + 1)
      | true => match p with
        | 0 => clB m (ps.drop (k + 1)) (k + 1)
        | q + 1 => match tB m q with
          | true => clB m (ps.drop (k + 1)) (k + 1)
          | false => false) from rfl]
    generalize clB m (ps.drop (k + 1)) (k + 1) = X
    rw [tB_eq]
    cases hb : m.testBit k with
    | false => rfl
    | true =>
      cases p with
      | zero => rfl
      | succ q =>
        show (match tB m q with | true => _ | false => _) = (!(true && (q + 1 != 0 && !m.testBit (q + 1 - 1))) && _)
        rw [tB_eq, Nat.add_sub_cancel]
        have : (q + 1 != 0) = true := by simp
        rw [this]
        cases hq : m.testBit q <;> simp
theorem lone_nil (ps : List Nat) (m : Nat) : (loneF ps m ps.length).isEmpty = clB m ps 0 := by
  have := clB_eq m ps ps.length 0 (by omega)
  rw [List.drop_zero] at this
  rw [this, ← List.range_eq_range']
  unfold loneF
  rw [Bool.eq_iff_iff, List.isEmpty_iff, List.filter_eq_nil_iff, List.all_eq_true]
  exact forall_congr' fun x => forall_congr' fun _ => by simp
/-- the masks, rising from j on, are just the closed ones -/
noncomputable def walkB (ps : List Nat) : Nat → Nat → RM → Bool
  | 0, _, [] => true
  | 0, _, _ :: _ => false
  | t + 1, j, [] => match clB j ps 0 with
    | true => false
    | false => walkB ps t (j + 1) []
  | t + 1, j, (m, rs) :: R => match clB j ps 0 with
    | true => (match Nat.beq m j with
      | true => walkB ps t (j + 1) R
      | false => false)
    | false => walkB ps t (j + 1) ((m, rs) :: R)
theorem walkB_ok (ps : List Nat) : ∀ (t j : Nat) (R : RM), walkB ps t j R = true → R.map (·.1) = (List.range' j t).filter fun m => (loneF ps m ps.length).isEmpty
  | 0, _, [], _ => rfl
  | 0, _, _ :: _, h => by cases h
  | t + 1, j, [], h => by
    unfold walkB at h
    rw [List.range'_succ, List.filter_cons, lone_nil]
    cases hc : clB j ps 0 with
    | true => rw [hc] at h; cases h
    | false => rw [hc] at h; rw [if_neg (by decide)]; exact walkB_ok ps t (j + 1) [] h
  | t + 1, j, (m, rs) :: R, h => by
    unfold walkB at h
    rw [List.range'_succ, List.filter_cons, lone_nil]
    cases hc : clB j ps 0 with
    | true =>
      rw [hc] at h
      rw [if_pos rfl]
      cases hb : Nat.beq m j with
      | false => rw [hb] at h; cases h
      | true =>
        rw [hb] at h
        rw [List.map_cons, walkB_ok ps t (j + 1) R h]
        show m :: _ = _
        rw [Nat.eq_of_beq_eq_true hb]
    | false => rw [hc] at h; rw [if_neg (by decide)]; exact walkB_ok ps t (j + 1) _ h
theorem range_rev (n : Nat) : (List.range n).map (fun t => n - 1 - t) = (List.range n).reverse := by
  refine List.ext_getElem (by simp) fun i h1 h2 => ?_
  simp [List.getElem_reverse]
theorem whole_rev (ps : List Nat) : wholeF ps = ((List.range' 0 (2 ^ ps.length)).filter fun m => (loneF ps m ps.length).isEmpty).reverse := by
  unfold wholeF wholeT
  rw [← List.filter_reverse, ← List.range_eq_range', range_rev]
noncomputable def checkB (n : Nat) (ps : List Nat) (tab : Nat) (R : RM) : Bool := walkB ps (2 ^ n) 0 R && (chkB tab n ps R && goB tab R 0)
noncomputable def check3 (ps : List Nat) : Bool := match gameB (cTab (rowsF [] ps)) 64 [2 ^ ps.length - 1] (2 ^ (2 ^ ps.length - 1)) [] with
  | none => false
  | some R => checkB ps.length ps (tabB ps.length ps R 0) R
theorem check3_ok {ps : List Nat} (h : check3 ps = true) : GameOk ps := by
  unfold check3 at h
  have hrl : (rowsF [] ps).length = ps.length := by rw [rowsF_len]; simp
  cases hg : gameB (cTab (rowsF [] ps)) 64 [2 ^ ps.length - 1] (2 ^ (2 ^ ps.length - 1)) [] with
  | none => rw [hg] at h; cases h
  | some R =>
    rw [hg] at h
    dsimp only at h
    generalize tabB ps.length ps R 0 = tab at h
    obtain ⟨g1, g2⟩ := gameB_eq (rowsF [] ps) 64 _ [2 ^ ps.length - 1] _ [] R (fun r => by rw [Nat.testBit_two_pow, Bool.eq_iff_iff, decide_eq_true_iff, List.contains_iff_mem, List.mem_singleton]; exact eq_comm) hg
    rw [List.reverse_nil] at g1 g2
    have hG : gameF ps = iterM (rowsF [] ps) 64 ([2 ^ ps.length - 1], [2 ^ ps.length - 1], []) := rfl
    rw [← hG] at g1 g2
    clear hG hg
    unfold checkB at h
    rw [Bool.and_eq_true, Bool.and_eq_true] at h
    obtain ⟨h1, h2, h3⟩ := h
    have hw := walkB_ok ps _ _ _ h1
    have hg := goB_ok tab R [] 0 (fun r hr => by rw [Nat.zero_testBit] at hr; cases hr) rfl h3
    rw [List.append_nil] at hg
    refine ⟨g1, ?_, fldB tab, ?_, fun x hx => ?_⟩
    · rw [g2, List.map_reverse, hw, whole_rev]
    · rw [g2]; exact hg
    · rw [g2, List.mem_reverse] at hx
      rw [chkB_ok tab _ ps R h2 x hx, colV_eq]
end Mine
end

section
open PySem PySem.W PyProof.Rows PySem.Builtin PySem.Builtin.Str
set_option maxRecDepth 100000
set_option maxHeartbeats 4000000
set_option linter.unusedSimpArgs false
namespace Mine
theorem fin4 : ∀ b < 2, ∀ c < 3, ∀ d < 4, check3 [0, b, c, d] = true := by decide +kernel
theorem fin5 : ∀ b < 2, ∀ c < 3, ∀ d < 4, ∀ e < 3, check3 [0, b, c, d, e + 2] = true := by decide +kernel
theorem fin6_00 : ∀ d < 4, ∀ e < 3, ∀ f < 3, check3 [0, 0, 0, d, e + 2, f + 3] = true := by decide +kernel
theorem fin6_01 : ∀ d < 4, ∀ e < 3, ∀ f < 3, check3 [0, 0, 1, d, e + 2, f + 3] = true := by decide +kernel
theorem fin6_02 : ∀ d < 4, ∀ e < 3, ∀ f < 3, check3 [0, 0, 2, d, e + 2, f + 3] = true := by decide +kernel
theorem fin6_10 : ∀ d < 4, ∀ e < 3, ∀ f < 3, check3 [0, 1, 0, d, e + 2, f + 3] = true := by decide +kernel
theorem fin6_11 : ∀ d < 4, ∀ e < 3, ∀ f < 3, check3 [0, 1, 1, d, e + 2, f + 3] = true := by decide +kernel
theorem fin6_12 : ∀ d < 4, ∀ e < 3, ∀ f < 3, check3 [0, 1, 2, d, e + 2, f + 3] = true := by decide +kernel
theorem fin6 : ∀ b < 2, ∀ c < 3, ∀ d < 4, ∀ e < 3, ∀ f < 3, check3 [0, b, c, d, e + 2, f + 3] = true := by
  intro b hb c hc
  have hb' : b = 0 ∨ b = 1 := by omega
  have hc' : c = 0 ∨ c = 1 ∨ c = 2 := by omega
  rcases hb' with rfl | rfl <;> rcases hc' with rfl | rfl | rfl
  · exact fin6_00
  · exact fin6_01
  · exact fin6_02
  · exact fin6_10
  · exact fin6_11
  · exact fin6_12
theorem parF_ge {told : List Int} {k p : Nat} (h : (parF told)[k]? = some p) (h4 : 4 ≤ k) : k ≤ p + 2 := by
  have hk := (List.getElem?_eq_some_iff.mp h).1
  rw [parF_len] at hk
  rw [parF_get hk] at h
  have h6 := Int.fmod_nonneg_of_pos (told.getD k 0) (by omega : (0 : Int) < 3)
  have h7 := Int.fmod_lt_of_pos (told.getD k 0) (by omega : (0 : Int) < 3)
  have := Option.some.inj h
  rw [if_neg (by omega)] at this
  omega
theorem game_ok (ms : List Int) : GameOk (parF (toldF ms)) := by
  apply check3_ok
  have hl : (parF (toldF ms)).length = nF ms := by rw [parF_len, toldF_len]
  have hn := nF_le ms
  have hle : ∀ (k p : Nat), (parF (toldF ms))[k]? = some p → p ≤ k := fun k p => parF_le
  have hge : ∀ (k p : Nat), (parF (toldF ms))[k]? = some p → 4 ≤ k → k ≤ p + 2 := fun k p h => parF_ge h
  generalize parF (toldF ms) = ps at *
  match ps, hl with
  | [], hl => simp at hl; omega
  | [_], hl => simp at hl; omega
  | [_, _], hl => simp at hl; omega
  | [_, _, _], hl => simp at hl; omega
  | [a, b, c, d], _ =>
    have h0 := hle 0 a rfl
    have h1 := hle 1 b rfl
    have h2 := hle 2 c rfl
    have h3 := hle 3 d rfl
    obtain rfl : a = 0 := by omega
    exact fin4 b (by omega) c (by omega) d (by omega)
  | [a, b, c, d, e], _ =>
    have h0 := hle 0 a rfl
    have h1 := hle 1 b rfl
    have h2 := hle 2 c rfl
    have h3 := hle 3 d rfl
    have h4 := hle 4 e rfl
    have g4 := hge 4 e rfl (by omega)
    obtain rfl : a = 0 := by omega
    obtain ⟨e, rfl⟩ : ∃ x, e = x + 2 := ⟨e - 2, by omega⟩
    exact fin5 b (by omega) c (by omega) d (by omega) e (by omega)
  | [a, b, c, d, e, f], _ =>
    have h0 := hle 0 a rfl
    have h1 := hle 1 b rfl
    have h2 := hle 2 c rfl
    have h3 := hle 3 d rfl
    have h4 := hle 4 e rfl
    have g4 := hge 4 e rfl (by omega)
    have h5 := hle 5 f rfl
    have g5 := hge 5 f rfl (by omega)
    obtain rfl : a = 0 := by omega
    obtain ⟨e, rfl⟩ : ∃ x, e = x + 2 := ⟨e - 2, by omega⟩
    obtain ⟨f, rfl⟩ : ∃ x, f = x + 3 := ⟨f - 3, by omega⟩
    exact fin6 b (by omega) c (by omega) d (by omega) e (by omega) f (by omega)
  | _ :: _ :: _ :: _ :: _ :: _ :: _ :: _, hl => simp at hl; omega
end Mine
end

section
open PySem PySem.W PyProof.Rows
set_option maxRecDepth 100000
set_option maxHeartbeats 4000000
namespace Mine
theorem ss_at {C : Cx} {K : Frag} {d : Nat} {f : Addr} {W : ST} (h : ∃ ns body, bodyIs K f ns body ∧ SS C d 0 ns body W) {oc : Value} {od : Option Addr} {fd : FuncData} {osl : Array (Option Value)} {body : List Stmt}
    (hK : K.lookup f = some ⟨oc, od, .func fd, osl⟩) (hb : fd.body = .stmts body) : SS C d 0 fd.scope.names body W := by
  obtain ⟨ns, bd, ⟨oc', od', fd', osl', h1, h2, h3⟩, hS⟩ := h
  rw [hK] at h1
  cases h1
  rw [hb] at h2
  cases h2
  rw [h3]
  exact hS
noncomputable def scrL (scr : Addr) : Loc := fun x => if x = "script" then some (.ref scr) else none
/-- the law's call, from the head's words -/
theorem run_law {prog : Program} {w : World} {K : Frag} {s₁ : Shared} {loose : List Str} {p : Program} {mean : ExcName → Option Value} {mg mb : Str → Option Value} {scr fa : Addr} {cd : Value} {vs : List Value} {ms : List Int} {name : Str} {scope : Scope} {body : List Stmt} {h₁ : Heap} {m : Str → Option Value} {tk : Nat} {W : ST}
    (KX : K.In s₁.heap) (T : Top p loose mean mg mb s₁.heap) (F : Fr s₁.heap s₁.heap.objs.size h₁ m) (hm : m (Str.ofString "script") = some (.ref scr)) (hL : s₁.heap.IsList scr vs.toArray) (hI : IntsAre vs ms) (h63 : ms.length ≤ 63)
    (hk : scope.kind = .function) (hn : scope.names.all (fun x => x.2 != .cell && x.2 != .free) = true) (hl : scope.names.lookup (Str.ofString "script") = some .local)
    (hS : Sta ⟨prog, w, s₁.heap, s₁.gens, s₁.os⟩ K → Scr ⟨prog, w, s₁.heap, s₁.gens, s₁.os⟩ scr ms → SS ⟨prog, w, s₁.heap, s₁.gens, s₁.os⟩ 12 0 scope.names body W) (hW : W (scrL scr) (fun _ => none) (fun f _ _ => f = .ret (.bool true)) (fun _ _ => False)) :
    wpAny (model prog w) (callerA.deeper (envOf name scope s₁.heap.objs.size fa cd)) (execs body (envOf name scope s₁.heap.objs.size fa cd))
      (fun f s' => f = .ret (.bool true) ∧ (∀ b o, s₁.heap.get? b = some o → s'.heap.get? b = some o) ∧ s'.os = s₁.os ∧ s'.gens = s₁.gens) (fun _ _ => False)
      { heap := h₁, gens := s₁.gens, drawn := s₁.drawn, toks := tk, os := s₁.os } := by
  generalize hC : (⟨prog, w, s₁.heap, s₁.gens, s₁.os⟩ : Cx) = C at hS
  have hb : C.base = s₁.heap := by rw [← hC]
  have S : Sta C K := by
    refine ⟨by rw [hb]; exact KX, by rw [hb]; exact T.nolimit, ?_, mb, by rw [hb]; exact T.b, T.builtins⟩
    rw [hb]
    exact Nat.lt_trans (by decide) T.g.lt
  have R : Scr C scr ms := ⟨⟨vs, by rw [hb]; exact hL, hI⟩, by omega⟩
  have hcells : ∀ x : Str, ¬ (scope.names.lookup x = some .cell ∨ scope.names.lookup x = some .free) := by
    intro x hx
    rw [List.all_eq_true] at hn
    rcases hx with hx | hx
    · have := hn _ (mem_of_lookup hx); simp at this
    · have := hn _ (mem_of_lookup hx); simp at this
  have ok : Ok C 12 0 (callerA.deeper (envOf name scope s₁.heap.objs.size fa cd)) scope.names (envOf name scope s₁.heap.objs.size fa cd) (scrL scr) (fun _ => none) { heap := h₁, gens := s₁.gens, drawn := s₁.drawn, toks := tk, os := s₁.os } := by
    refine { base := ⟨fun b o e => F.keep b o (by rw [← hb]; exact e), by rw [hb]; exact Nat.le_of_lt F.ns.lt, fun a o e => (by cases e), fun a e => absurd rfl e, by rw [← hC], by rw [← hC]⟩, depth := (by show 1 + claimMargin + 1 + 2 * 12 + 4 ≤ recursionLimit; decide), units := (by show 4 + 3 + 8 * 12 + 100 ≤ cLine; decide), frames := ?_, hand := ⟨fun _ => rfl, fun e => (by cases e)⟩, kind := hk, names := rfl, glob := rfl, blt := rfl, above := by rw [hb]; exact Nat.le_refl _, new := rfl, loc := ?_, cell := fun x hx => absurd hx (hcells x), apart := .nil, cnew := fun x c hx => (by cases hx), vis := fun x v hx => ?_ }
    · refine ⟨[envOf name scope s₁.heap.objs.size fa cd], rfl, .cons (by show scope.kind ≠ _; rw [hk]; decide) rfl F.ns ?_ trivial, fun b hb => ?_⟩
      · rw [hb]; exact size_none _
      · have e : b = s₁.heap.objs.size := by simpa [envOf] using hb
        obtain ⟨o, es, ep, ho, hd, _⟩ := F.ns
        exact ⟨rfl, o, es, ep, by rw [e]; exact ho, hd⟩
    · refine ⟨m, F.ns, fun x v hx _ => ?_⟩
      unfold scrL at hx
      split at hx
      · rename_i e
        cases hx
        exact ⟨_, by rw [e]; exact hm, rfl⟩
      · cases hx
    · unfold scrL at hx
      split at hx
      · rename_i e
        exact .inl (by rw [e]; exact hl)
      · cases hx
  have key := hS S R _ _ _ _ _ _ _ ok ⟨[], rfl, rfl⟩ hW
  rw [show (model prog w) = C.M by rw [← hC]]
  refine wpAny_mono key (fun f s' q => ?_) fun _ _ q => (q.no fun _ _ e => e).elim
  obtain ⟨ρ', σ', ok', _, q⟩ := q
  refine ⟨?_, fun b o e => ok'.base.keep b o (by rw [hb]; exact e), by rw [ok'.base.os, ← hC], by rw [ok'.base.gens, ← hC]⟩
  cases f with
  | ret v =>
    obtain ⟨av, hv, q⟩ := q
    cases q
    rw [abs_bool hv]
  | next => cases q
  | brk => cases q
  | cont => cases q
end Mine
end

open PySem PySem.W PyProof.Rows
local macro_rules | `(tactic| k_qdec) => `(tactic| decide +kernel)
set_option maxRecDepth 100000 in
set_option maxHeartbeats 8000000 in
theorem PySem.Challenge.cw_oy0098_02_holds : PySem.Challenge.rw_oy0098_02.Holds :=
  Mine.hd (by
    w_strict (
      k_go0
      rename_i w s₀ s₁ mg mb G Y fa o pm doc kV ho hg KX X V GL T B TE TW w9 w8 M w7 w6 hcd ms hs hlay0 hL1 hr1 hl2 w4 w3 scr vs w_ hL ra w1 r0 hI hr hcond hcond2 K0 hD h₁ F N0
      refine wpAny_mono (Mine.run_law (ms := ms) (scr := scr) (W := Mine.W_law scr ms) KX T F (by rfl) hL hI (by omega) rfl (by decide +kernel) (by decide +kernel) (fun S R => Mine.ss_at (Mine.ss_law S R) (by rfl) rfl) (Mine.spec_law (by omega) (by rfl) (Mine.game_ok ms) fun _ _ => rfl)) (fun f s' q => ?_) (fun _ _ q => q.elim)
      obtain ⟨rfl, q1, q2, q3⟩ := q
      refine ⟨.inl ⟨.bool true, .bool true, [], rfl, fun _ => rfl, .bool true, ?_, ?_⟩, q1, q2, q3.trans hg⟩
      · first | (refine postW_of (by wrow_shape) (w_eq_bool (w_res rfl) w_lit) ?_; w_fin) | wrow_post | kc_post
      · exact fun _ => ⟨List.nodup_nil, fun a ha => (by cases ha)⟩))
