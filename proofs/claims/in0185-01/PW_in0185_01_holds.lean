import PyProof.Rows.All
import Wide.All
import OpenK.AllK
import Wide.FinOn
import PySem.Challenge.RW_in0185_01
set_option Elab.async false
section
open PySem PySem.W PyProof.Rows PySem.Spec
set_option Elab.async false
set_option maxRecDepth 100000
set_option maxHeartbeats 2000000
namespace Mine
section
variable {prog : Program} {w : World} {A : Around} {E : Value → Shared → Prop} {s : Shared}

theorem slot_map_next : Slot "map" "__next__" "map.__next__" :=
  .of (owner := "map") (n := "__next__") (by rw [typeLookup_type, builtinLookup_eq_fast]; kernel_rfl) (by decide +kernel) (by decide +kernel) (by decide +kernel)
    (by first | exact .inl (by decide +kernel) | exact .inr (by decide +kernel)) (by rw [isSubtype_type]; kernel_rfl)
theorem slot_map_iter : Slot "map" "__iter__" "map.__iter__" :=
  .of (owner := "map") (n := "__iter__") (by rw [typeLookup_type, builtinLookup_eq_fast]; kernel_rfl) (by decide +kernel) (by decide +kernel) (by decide +kernel)
    (by first | exact .inl (by decide +kernel) | exact .inr (by decide +kernel)) (by rw [isSubtype_type]; kernel_rfl)
theorem entry_map_next : entryFor table "map.__next__" = some Builtin.«map.__next__» := entryFor_of_fast (by kernel_rfl)
theorem entry_map_iter : entryFor table "map.__iter__" = some Builtin.«dict_keyiterator.__iter__» :=
  entryFor_alias (id' := "dict_keyiterator.__iter__") (by kernel_rfl) rfl (by decide +kernel) (by kernel_rfl)
theorem args_map_next (a : Value) : argsOk "map.__next__" ⟨[a], []⟩ := by unfold argsOk; kernel_rfl
theorem args_map_iter (a : Value) : argsOk "map.__iter__" ⟨[a], []⟩ := by unfold argsOk; kernel_rfl

theorem nextOf_item {it l : Addr} {i : Nat} {items : Array Value} {x : Value} {Q : Value → Shared → Prop} (hit : s.heap.IsListIter it l i)
    (hl : s.heap.IsList l items) (hx : items[i]? = some x)
    (hQ : ∀ h', h'.IsListIter it l (i + 1) → Heap.SameBut it s.heap h' → Q x { s with heap := h' }) :
    wpAny (model prog w) A (Builtin.SmallTypes.nextOf (.ref it)) Q E s := by
  obtain ⟨o, ho, hc, hd⟩ := id hit
  obtain ⟨ol, hol, _, nl, hdl⟩ := hl
  unfold Builtin.SmallTypes.nextOf
  refine wpAny_bind (wpAny_callSpecial?_slot (name := Str.ofString "__next__") hit.typeIs slot_listiter_next
    (wpAny_call_entry slot_listiter_next hit.typeIs entry_listiter_next ?_ (args_listiter_next _)))
  show wpAny _ _ (field (.ref it) 0 >>= _) _ _ s
  refine wpAny_bind (wpAny_field ho hd (x := .ref l) rfl ?_)
  show wpAny _ _ (if (Value.ref l == Value.none) = true then _ else _) _ _ s
  rw [if_neg (show ¬ ((Value.ref l == Value.none) = true) from Bool.false_ne_true)]
  show wpAny _ _ (field (.ref it) 1 >>= _) _ _ s
  refine wpAny_bind (wpAny_field ho hd (x := .int i 0) rfl ?_)
  show wpAny _ _ (seqItems? (.ref l) >>= _) _ _ s
  refine wpAny_bind (wpAny_seqItems hol hdl ?_)
  simp only [Int.toNat_natCast, hx]
  refine wpAny_bind (wpAny_setField ho hd (by simp) (wpAny_pure ⟨x, rfl, wpAny_pure (hQ _ ?_ (Heap.SameBut.update ..))⟩))
  exact ⟨_, Heap.get?_update_self _ ho (Obj.isFreed_of_fields (Obj.data_mapFields hd _)), (Obj.cls_mapFields ..).trans hc, by
    rw [Obj.data_mapFields hd]; simp [rawInt]⟩

/-- what a map over one list is, in a heap -/
structure MapAt (h : Heap) (M tt it l : Addr) (i : Nat) (f : Value) (items : Array Value) : Prop where
  m : ∃ o, h.get? M = some o ∧ o.cls = .type "map" ∧ o.data = .fields #[.ref tt, f]
  t : ∃ o n, h.get? tt = some o ∧ o.data = .seq #[.ref it] n
  it : h.IsListIter it l i
  l : h.IsList l items

theorem nextOf_end {it l : Addr} {i : Nat} {items : Array Value} {Q : Value → Shared → Prop} (hh : A.handled = none) (hit : s.heap.IsListIter it l i)
    (hl : s.heap.IsList l items) (hx : items[i]? = none)
    (hQ : ∀ e h', Heap.ExtBut it s.heap h' → h'.get? e ≠ none → Shared.TypeIs { s with heap := h' } (.ref e) "StopIteration" → E (.ref e) { s with heap := h' }) :
    wpAny (model prog w) A (Builtin.SmallTypes.nextOf (.ref it)) Q E s := by
  obtain ⟨o, ho, hc, hd⟩ := id hit
  obtain ⟨ol, hol, _, nl, hdl⟩ := hl
  unfold Builtin.SmallTypes.nextOf
  refine wpAny_bind (wpAny_callSpecial?_slot (name := Str.ofString "__next__") hit.typeIs slot_listiter_next
    (wpAny_call_entry slot_listiter_next hit.typeIs entry_listiter_next ?_ (args_listiter_next _)))
  show wpAny _ _ (field (.ref it) 0 >>= _) _ _ s
  refine wpAny_bind (wpAny_field ho hd (x := .ref l) rfl ?_)
  show wpAny _ _ (if (Value.ref l == Value.none) = true then _ else _) _ _ s
  rw [if_neg (show ¬ ((Value.ref l == Value.none) = true) from Bool.false_ne_true)]
  show wpAny _ _ (field (.ref it) 1 >>= _) _ _ s
  refine wpAny_bind (wpAny_field ho hd (x := .int i 0) rfl ?_)
  show wpAny _ _ (seqItems? (.ref l) >>= _) _ _ s
  refine wpAny_bind (wpAny_seqItems hol hdl ?_)
  simp only [Int.toNat_natCast, hx]
  refine wpAny_bind (wpAny_rule (wpAny_bind (wpAny_setField ho hd (by simp) ?_)))
  show wpAny _ _ (newExc (.type "StopIteration") [] >>= _) _ _ _
  refine wpAny_bind ?_
  simp only [newExc, newTuple]
  refine wpAny_bind (wpAny_newObj_type ?_ (by size_fits))
  refine wpAny_bind (m := firstArgMember _ _) (wpAny_of_eq (a := Value.none) (by first | rfl | (simp only [firstArgMember]; rfl)) ?_)
  refine wpAny_newObj_type ?_ (by size_fits)
  simp only [raiseNew]
  refine wpAny_bind (wpAny_handled ?_)
  rw [show A.in1.handled = none from hh]
  refine wpAny_bind (wpAny_pure (wpAny_throw ?_))
  refine hQ _ _ (((Heap.SameBut.update ..).extBut.push _).push _) ?_ ⟨_, Heap.get?_push_size _ rfl, rfl⟩
  rw [Heap.get?_push_size _ rfl]; exact fun e => nomatch e
end
end Mine
end
section
open PySem PySem.W PyProof.Rows PySem.Spec
set_option Elab.async false
set_option maxRecDepth 100000
set_option maxHeartbeats 2000000
namespace Mine
section
variable {prog : Program} {w : World} {A : Around} {E : Value → Shared → Prop} {s : Shared}

theorem map_next_item {M tt it l : Addr} {i : Nat} {f x : Value} {items : Array Value} {Q : Option Value → Shared → Prop}
    (D : MapAt s.heap M tt it l i f items) (hM : M ≠ it) (hT : tt ≠ it) (hL : l ≠ it) (hx : items[i]? = some x)
    (h : ∀ h', MapAt h' M tt it l (i + 1) f items → Heap.SameBut it s.heap h' →
      wpAny (model prog w) A.in1 (call f [x]) (fun v s' => Q (some v) s')
        (fun e s' => ∃ T, s'.TypeIs e T ∧ isSubtype (.type T) (.type "StopIteration") = pure false ∧ E e s') { s with heap := h' }) :
    wpAny (model prog w) A (pyNext (.ref M)) Q E s := by
  obtain ⟨o, ho, hc, hd⟩ := D.m
  obtain ⟨ot, nt, hot, hdt⟩ := D.t
  have hTM : s.TypeIs (.ref M) "map" := ⟨o, ho, hc⟩
  unfold pyNext
  refine wpAny_bind (wpAny_attempt (wpAny_callSpecial?_slot (name := Str.ofString "__next__") hTM slot_map_next
    (wpAny_call_entry slot_map_next hTM entry_map_next ?_ (args_map_next _))))
  show wpAny _ _ (field (.ref M) 0 >>= _) _ _ s
  refine wpAny_bind (wpAny_field ho hd (x := .ref tt) rfl ?_)
  show wpAny _ _ (seqItems? (.ref tt) >>= _) _ _ s
  refine wpAny_bind (wpAny_seqItems hot hdt ?_)
  dsimp only
  simp only [← Array.forIn_toList, List.forIn_cons, List.forIn_nil]
  refine wpAny_bind (wpAny_bind (wpAny_bind (wpAny_holding (nextOf_item D.it D.l hx fun h' hit' hsb => ?_))))
  refine wpAny_pure (wpAny_pure ?_)
  have D' : MapAt h' M tt it l (i + 1) f items :=
    ⟨⟨o, (hsb.2 M hM).trans ho, hc, hd⟩, ⟨ot, nt, (hsb.2 tt hT).trans hot, hdt⟩, hit', D.l.at fun o' e => (hsb.2 l hL).trans e⟩
  obtain ⟨o2, ho2, hc2, hd2⟩ := D'.m
  refine wpAny_bind (wpAny_field (s := { s with heap := h' }) ho2 hd2 (x := f) rfl (wpAny_bind (wpAny_holding ?_)))
  refine wpAny_mono (h h' D' hsb) (fun v s' hv => ?_) (fun e s' he => ?_)
  · refine wpAny_bind (wpAny_letGo (wpAny_pure ⟨v, rfl, wpAny_pure hv⟩))
  · obtain ⟨T, hTe, hs, hE⟩ := he
    refine wpAny_bind (wpAny_isInstance hTe hs ?_)
    simp only [Bool.false_eq_true, if_false]
    exact wpAny_throw hE

theorem map_next_end {M tt it l : Addr} {i : Nat} {f : Value} {items : Array Value} {Q : Option Value → Shared → Prop} (hh : A.handled = none)
    (D : MapAt s.heap M tt it l i f items) (hx : items[i]? = none)
    (h : ∀ h', Heap.ExtBut it s.heap h' → Q none { s with heap := h' }) :
    wpAny (model prog w) A (pyNext (.ref M)) Q E s := by
  obtain ⟨o, ho, hc, hd⟩ := D.m
  obtain ⟨ot, nt, hot, hdt⟩ := D.t
  have hTM : s.TypeIs (.ref M) "map" := ⟨o, ho, hc⟩
  unfold pyNext
  refine wpAny_bind (wpAny_attempt (wpAny_callSpecial?_slot (name := Str.ofString "__next__") hTM slot_map_next
    (wpAny_call_entry slot_map_next hTM entry_map_next ?_ (args_map_next _))))
  show wpAny _ _ (field (.ref M) 0 >>= _) _ _ s
  refine wpAny_bind (wpAny_field ho hd (x := .ref tt) rfl ?_)
  show wpAny _ _ (seqItems? (.ref tt) >>= _) _ _ s
  refine wpAny_bind (wpAny_seqItems hot hdt ?_)
  dsimp only
  simp only [← Array.forIn_toList, List.forIn_cons, List.forIn_nil]
  refine wpAny_bind (wpAny_bind (wpAny_bind (wpAny_holding (nextOf_end hh D.it D.l hx fun e h' hx' hne hTe => ?_))))
  refine wpAny_bind (wpAny_isInstance hTe isSubtype_stop ?_)
  simp only [if_true]
  exact wpAny_pure (h h' hx')
end
end Mine
end
section
open PySem PySem.W PyProof.Rows PySem.Spec
set_option Elab.async false
set_option maxRecDepth 100000
set_option maxHeartbeats 2000000
namespace Mine
/-- a call of f on x: a value, the heap as it was -/
def FSpec (prog : Program) (w : World) (A : Around) (f x : Value) (P : Value → Prop) : Prop :=
  ∀ (s : Shared) (Q : Value → Shared → Prop) (E : Value → Shared → Prop), (∀ v tk, P v → Q v { s with toks := tk }) → wpAny (model prog w) A (call f [x]) Q E s
def FRaise (prog : Program) (w : World) (A : Around) (f x : Value) (X : String) : Prop :=
  ∀ (s : Shared) (Q : Value → Shared → Prop) (E : Value → Shared → Prop), (∀ e h' tk, Heap.NewExc s.heap h' e X → E (.ref e) { s with heap := h', toks := tk }) → wpAny (model prog w) A (call f [x]) Q E s
section
variable {prog : Program} {w : World} {A : Around} {E : Value → Shared → Prop} {s : Shared}
theorem MapAt.toks {h : Heap} {M tt it l : Addr} {i : Nat} {f : Value} {items : Array Value} (D : MapAt h M tt it l i f items) : MapAt h M tt it l i f items := D
structure MapOk (M tt it l : Addr) : Prop where
  m : M ≠ it
  t : tt ≠ it
  l : l ≠ it
theorem map_next_ok {M tt it l : Addr} {i : Nat} {f x : Value} {items : Array Value} {P : Value → Prop} {Q : Option Value → Shared → Prop}
    (D : MapAt s.heap M tt it l i f items) (O : MapOk M tt it l) (hx : items[i]? = some x) (hf : FSpec prog w A.in1 f x P)
    (h : ∀ v h' tk, P v → MapAt h' M tt it l (i + 1) f items → Heap.ExtBut it s.heap h' → Q (some v) { s with heap := h', toks := tk }) :
    wpAny (model prog w) A (pyNext (.ref M)) Q E s :=
  map_next_item D O.m O.t O.l hx fun h' D' hs => hf _ _ _ fun v tk hv => h v h' tk hv D' hs.extBut
theorem extBut_trans {a : Addr} {h1 h2 h3 : Heap} (x : Heap.ExtBut a h1 h2) (y : Heap.ExtBut a h2 h3) : Heap.ExtBut a h1 h3 := fun b o hb e => y b o hb (x b o hb e)

theorem map_iter_self {M tt it l : Addr} {i : Nat} {f : Value} {items : Array Value} {Q : Value → Shared → Prop} (D : MapAt s.heap M tt it l i f items) (h : Q (.ref M) s) :
    wpAny (model prog w) A (pyIter (.ref M)) Q E s := by
  obtain ⟨o, ho, hc, hd⟩ := D.m
  have hT : s.TypeIs (.ref M) "map" := ⟨o, ho, hc⟩
  refine wpAny_pyIter_slot hT slot_map_iter (wpAny_call_entry slot_map_iter hT entry_map_iter ?_ (args_map_iter _))
  show wpAny _ _ (do ret (Value.ref M)) _ _ s
  exact wpAny_pure ⟨_, rfl, "map", _, hT, slot_map_next.lookup, h⟩
theorem map_iterable {M tt it l : Addr} {i : Nat} {f : Value} {items : Array Value} {Q : Bool → Shared → Prop} (D : MapAt s.heap M tt it l i f items) (h : Q false s) :
    wpAny (model prog w) A (notIterableAtAll (.ref M)) Q E s := by
  obtain ⟨o, ho, hc, hd⟩ := D.m
  have hT : s.TypeIs (.ref M) "map" := ⟨o, ho, hc⟩
  unfold notIterableAtAll
  refine wpAny_bind (wpAny_specialOf hT slot_map_iter.lookup ?_)
  simp only [Option.isSome_some, if_true]
  exact wpAny_pure h

theorem unpack2 {M tt it l : Addr} {f x y : Value} {P1 P2 : Value → Prop} {Q : List Value → Shared → Prop} (hh : A.handled = none)
    (D : MapAt s.heap M tt it l 0 f #[x, y]) (O : MapOk M tt it l) (h1 : FSpec prog w A.in1 f x P1) (h2 : FSpec prog w A.in1 f y P2)
    (h : ∀ v1 v2 h' tk, P1 v1 → P2 v2 → Heap.ExtBut it s.heap h' → Q [v1, v2] { s with heap := h', toks := tk }) :
    wpAny (model prog w) A (unpackItems (.ref M) 2 none) Q E s := by
  unfold unpackItems
  refine wpAny_bind (map_iterable D ?_)
  simp only [Bool.false_eq_true, if_false]
  refine wpAny_bind (wpAny_holding (map_iter_self D ?_))
  refine wpAny_bind (wpAny_holding ?_)
  simp only [draw]
  refine wpAny_bind (map_next_ok D O rfl h1 fun v1 hp1 tk1 p1 D1 x1 => ?_)
  refine wpAny_bind (wpAny_holding (wpAny_bind (map_next_ok (s := { s with heap := hp1, toks := tk1 }) D1 O rfl h2 fun v2 hp2 tk2 p2 D2 x2 => ?_)))
  refine wpAny_bind (wpAny_holding (wpAny_pure (wpAny_pure (wpAny_pure ?_))))
  simp only [List.length_cons, List.length_nil, Nat.lt_irrefl, if_false]
  refine wpAny_bind (wpAny_holding (map_next_end (s := { s with heap := hp2, toks := tk2 }) hh D2 rfl fun hp3 x3 => ?_))
  simp only [Option.isSome_none, Bool.false_eq_true, if_false]
  exact wpAny_pure (h v1 v2 _ _ p1 p2 (extBut_trans (extBut_trans x1 x2) x3))

theorem unpack1 {M tt it l : Addr} {f x : Value} {P1 : Value → Prop} {Q : List Value → Shared → Prop} (hh : A.handled = none)
    (D : MapAt s.heap M tt it l 0 f #[x]) (O : MapOk M tt it l) (h1 : FSpec prog w A.in1 f x P1)
    (h : ∀ e h1 h' tk, Heap.ExtBut it s.heap h1 → Heap.NewExc h1 h' e "ValueError" → E (.ref e) { s with heap := h', toks := tk }) :
    wpAny (model prog w) A (unpackItems (.ref M) 2 none) Q E s := by
  unfold unpackItems
  refine wpAny_bind (map_iterable D ?_)
  simp only [Bool.false_eq_true, if_false]
  refine wpAny_bind (wpAny_holding (map_iter_self D ?_))
  refine wpAny_bind (wpAny_holding ?_)
  simp only [draw]
  refine wpAny_bind (map_next_ok D O rfl h1 fun v1 hp1 tk1 p1 D1 x1 => ?_)
  refine wpAny_bind (wpAny_holding (wpAny_bind (map_next_end (s := { s with heap := hp1, toks := tk1 }) hh D1 rfl fun hp3 x3 => ?_)))
  refine wpAny_pure (wpAny_pure ?_)
  simp only [List.length_cons, List.length_nil]
  refine wpAny_bind (wpAny_rule (wpAny_bind ?_))
  refine wpAny_raiseErrorMade (s := { s with heap := hp3, toks := tk1 }) plainExc_ValueError hh (fun h' tk e n => h e _ h' tk (extBut_trans x1 x3) n) ?_
  decide +kernel

theorem unpack3 {M tt it l : Addr} {f x y z : Value} {P1 P2 P3 : Value → Prop} {Q : List Value → Shared → Prop} (hh : A.handled = none)
    (D : MapAt s.heap M tt it l 0 f #[x, y, z]) (O : MapOk M tt it l) (h1 : FSpec prog w A.in1 f x P1) (h2 : FSpec prog w A.in1 f y P2) (h3 : FSpec prog w A.in1 f z P3)
    (h : ∀ e h1 h' tk, Heap.ExtBut it s.heap h1 → Heap.NewExc h1 h' e "ValueError" → E (.ref e) { s with heap := h', toks := tk }) :
    wpAny (model prog w) A (unpackItems (.ref M) 2 none) Q E s := by
  unfold unpackItems
  refine wpAny_bind (map_iterable D ?_)
  simp only [Bool.false_eq_true, if_false]
  refine wpAny_bind (wpAny_holding (map_iter_self D ?_))
  refine wpAny_bind (wpAny_holding ?_)
  simp only [draw]
  refine wpAny_bind (map_next_ok D O rfl h1 fun v1 hp1 tk1 p1 D1 x1 => ?_)
  refine wpAny_bind (wpAny_holding (wpAny_bind (map_next_ok (s := { s with heap := hp1, toks := tk1 }) D1 O rfl h2 fun v2 hp2 tk2 p2 D2 x2 => ?_)))
  refine wpAny_bind (wpAny_holding (wpAny_pure (wpAny_pure (wpAny_pure ?_))))
  simp only [List.length_cons, List.length_nil, Nat.lt_irrefl, if_false]
  refine wpAny_bind (wpAny_holding (map_next_ok (s := { s with heap := hp2, toks := tk2 }) D2 O rfl h3 fun v3 hp3 tk3 p3 D3 x3 => ?_))
  simp only [Option.isSome_some, if_true]
  refine wpAny_bind (wpAny_rule (wpAny_bind ?_))
  refine wpAny_raiseErrorMade (s := { s with heap := hp3, toks := tk3 }) plainExc_ValueError hh (fun h' tk e n => h e _ h' tk (extBut_trans (extBut_trans x1 x2) x3) n) ?_
  decide +kernel
end
end Mine
end
section
open PySem PySem.W PyProof.Rows PySem.Spec PySem.W.X
set_option Elab.async false
set_option maxRecDepth 100000
set_option maxHeartbeats 0
namespace Mine
abbrev AA (d u : Nat) (l : List Env) : Around := { handled := none, depth := d, frames := some l, guards := some [], units := u }
theorem up {M : Model} {A : Around} {c : Code} {R} {s : Shared} {d u : Nat} {l} (h : codeAny M (AA d u l) c R s) (h1 : A.handled = none) (h2 : A.depth ≤ d) (h3 : A.frames = some l) (h4 : A.guards = some []) (h5 : A.units ≤ u) : codeAny M A c R s :=
  fun Γ p hc hB => h Γ p hc ⟨hB.1.trans h1, Nat.le_trans hB.2.1 h2, fun l hl => hB.2.2.1 l (h3.trans hl), fun g hg => hB.2.2.2.1 g (h4.trans hg), Nat.le_trans hB.2.2.2.2 h5⟩
theorem upW {M : Model} {A : Around} {α} {t : Sem α} {Q E} {s : Shared} {d u : Nat} {l} (h : wpAny M (AA d u l) t Q E s) (h1 : A.handled = none) (h2 : A.depth ≤ d) (h3 : A.frames = some l) (h4 : A.guards = some []) (h5 : A.units ≤ u) : wpAny M A t Q E s :=
  fun Γ p hB => h Γ p ⟨hB.1.trans h1, Nat.le_trans hB.2.1 h2, fun l hl => hB.2.2.1 l (h3.trans hl), fun g hg => hB.2.2.2.1 g (h4.trans hg), Nat.le_trans hB.2.2.2.2 h5⟩
abbrev frs (l : List Env) : List Addr := l.filterMap (·.frame)
abbrev Cx (A : Around) (l : List Env) (h : Heap) : Prop := Below A (hideAll h (frs l)) l h
def Ext (h h' : Heap) : Prop := ∀ b o, h.get? b = some o → h'.get? b = some o
theorem ext_mem {h₀ h : Heap} {news : List (Addr × Obj)} (D : Mem h₀ h [] news) : Ext h₀ h := fun b o e => D.keep b o e (by rw [show away [] b = true from rfl, Bool.or_true])
/-- the outcome of a code, as a wpAny -/
abbrev Sc (c : Code) : Sem Result := .call c none false [] .pure
theorem call_of {M : Model} {A : Around} {f : Value} {args : List Value} {s : Shared} {Q E} {R : Result → Shared → Prop}
    (h : wpAny M A (Sc (.call f ⟨args, []⟩)) R (fun _ _ => False) s)
    (hok : ∀ v s', R (.ok (.ret v)) s' → Q v s') (hno : ∀ f s', (∀ v, f ≠ .ret v) → ¬ R (.ok f) s') (herr : ∀ e s', R (.error e) s' → E e s') : wpAny M A (call f args) Q E s := by
  intro Γ p hΓ
  have q := h Γ p hΓ
  rw [Sem.wp_call] at q
  show Sem.wp M Γ (runValue (.call f ⟨args, []⟩)) _ _ p s
  simp only [runValue, run]
  rw [Sem.wp_bind', Sem.wp_call]
  refine wpCode_mono (fun r s' hr => ?_) q
  rw [Sem.wp_pure] at hr
  cases r with
  | error e => show Sem.wp M Γ (Sem.raise e) _ _ _ _; rw [Sem.wp_raise]; exact herr _ _ hr
  | ok f =>
    show Sem.wp M Γ (Sem.pure f) _ _ _ _
    rw [Sem.wp_pure]
    cases f with
    | ret v => dsimp only; exact hok v s' hr
    | next => exact absurd hr (hno _ _ (fun v e => nomatch e))
    | brk => exact absurd hr (hno _ _ (fun v e => nomatch e))
    | cont => exact absurd hr (hno _ _ (fun v e => nomatch e))

/-- an outcome: a value, old objects kept, P of it -/
def Rets (s : Shared) (P : Value → Heap → Prop) (r : Result) (s' : Shared) : Prop := ∃ v h' tk, r = .ok (.ret v) ∧ s' = { s with heap := h', toks := tk } ∧ Ext s.heap h' ∧ P v h'
theorem call_rets {M : Model} {A : Around} {f : Value} {args : List Value} {s : Shared} {Q E} {P : Value → Heap → Prop}
    (h : wpAny M A (Sc (.call f ⟨args, []⟩)) (Rets s P) (fun _ _ => False) s)
    (hq : ∀ v h' tk, Ext s.heap h' → P v h' → Q v { s with heap := h', toks := tk }) : wpAny M A (call f args) Q E s :=
  call_of h (fun v s' ⟨v', h', tk, e, e2, x, p⟩ => by cases e; subst e2; exact hq _ _ _ x p) (fun f s' hf ⟨v', h', tk, e, _⟩ => hf v' (by cases e; rfl)) (fun e s' ⟨_, _, _, e2, _⟩ => nomatch e2)


theorem rets_intro {s : Shared} {P : Value → Heap → Prop} {v : Value} {h' : Heap} {tk : Nat} (x : Ext s.heap h') (p : P v h') : Rets s P (.ok (.ret v)) ⟨h', s.gens, s.drawn, tk, s.os⟩ := ⟨v, h', tk, rfl, rfl, x, p⟩
theorem enterP {prog : Program} {w : World} {A : Around} {s : Shared} {K : Frag} {R : Result → Shared → Prop} {name qual : Str} {params : Arguments} {body : List Stmt} {scope : Scope} {dV kV doc pm cdv ct oc : Value} {an od : Option Addr} {osl : Array (Option Value)} {f : Addr} {args : Args} {binds : List (Str × Value)}
    (X : K.In s.heap) (hlim : s.heap.NoLimit) (ho : K.lookup f = some ⟨oc, od, .func (fnOf name qual params body scope dV kV doc pm an cdv ct), osl⟩) (hcd : codeIn K cdv qual = true) (hroom : A.depth < recursionLimit)
    (hbind : BindsTo s (fnOf name qual params body scope dV kV doc pm an cdv ct) args binds) (hloc : ∀ y ∈ binds, scope.names.lookup y.1 = some .local)
    (h : ∀ h₁, Fr s.heap s.heap.objs.size h₁ (fun y => binds.reverse.lookup y) → News s.heap s.heap.objs.size h₁ [] →
      wpAny (model prog w) (A.deeper (envOf qual scope s.heap.objs.size f cdv)) (execs body (envOf qual scope s.heap.objs.size f cdv))
        (fun fl s' => R (.ok (.ret (match fl with | .ret v => v | _ => .none))) s')
        (fun e s' => wpAny (model prog w) (A.deeper (envOf qual scope s.heap.objs.size f cdv)) (leaving (envOf qual scope s.heap.objs.size f cdv) e) (fun _ s'' => R (.error e) s'') (fun e' s'' => R (.error e') s'') s')
        { s with heap := h₁, toks := s.toks + binds.length })
    (hco : scope.isCoroutine = false) (hgen : scope.isGenerator = false) (hk : scope.kind = .function) (hcell : ∀ x ∈ scope.names, x.2 ≠ .cell) :
    codeAny (model prog w) A (.call (.ref f) args) R s :=
  codeAny_call_def (fd := fnOf name qual params body scope dV kV doc pm an cdv ct) (body := body) (binds := binds) hroom (X _ _ ho) rfl hlim (codeRec_of X hcd) rfl hbind hcell hloc
    (fun h₁ hns hk₁ => h h₁ ⟨hns, hk₁, Nat.le_refl _⟩ News.nil) hco hgen hk
end Mine
end
section
open PySem PySem.W PyProof.Rows PySem.Spec PySem.W.X
set_option Elab.async false
set_option maxRecDepth 100000
set_option maxHeartbeats 0
namespace Mine
section
local macro_rules | `(tactic| x_close) => `(tactic| first | (rename Mem _ _ _ _ => D'; refine rets_intro (ext_mem D') ?_; refine ⟨_, _, _, rfl, D'.at 0 _ _ rfl, D'.at 1 _ _ rfl, D'.at 2 _ _ rfl, D'.ne 0 2 _ _ _ _ rfl rfl rfl, D'.ne 1 2 _ _ _ _ rfl rfl rfl, (D'.nw _ (List.mem_of_getElem? (i := 2) rfl)).2⟩))
abbrev MapMade (h₀ : Heap) (l : Addr) (f : Value) (v : Value) (h : Heap) : Prop := ∃ M tt it, v = .ref M ∧ h.get? M = some ⟨.type "map", none, .fields #[.ref tt, f], #[]⟩ ∧ h.get? tt = some ⟨.type "tuple", none, .seq #[.ref it] 0, #[]⟩ ∧ h.get? it = some ⟨.type "list_iterator", none, .fields #[.ref l, .int 0 0], #[]⟩ ∧ M ≠ it ∧ tt ≠ it ∧ h₀.get? it = none
theorem map_int {prog : Program} {w : World} {s : Shared} {l : List Env} {b : Addr} {d : Option Addr} {items : Array Value} {n : Nat} {sl : Array (Option Value)} (hp : s.heap.get? b = some ⟨.type "list", d, .seq items n, sl⟩) :
    wpAny (model prog w) (AA 600 4000 l) (Sc (.call (.type "map") ⟨[.type "int", .ref b], []⟩)) (Rets s (MapMade s.heap b (.type "int"))) (fun _ _ => False) s := by
  x_run
theorem map_strip {prog : Program} {w : World} {s : Shared} {l : List Env} {b : Addr} {d : Option Addr} {items : Array Value} {n : Nat} {sl : Array (Option Value)} (hp : s.heap.get? b = some ⟨.type "list", d, .seq items n, sl⟩) :
    wpAny (model prog w) (AA 600 4000 l) (Sc (.call (.type "map") ⟨[.builtin "str.strip", .ref b], []⟩)) (Rets s (MapMade s.heap b (.builtin "str.strip"))) (fun _ _ => False) s := by
  x_run
end
section
variable {prog : Program} {w : World} {A : Around} {E : Value → Shared → Prop} {s : Shared} {h₀ : Heap} {L : Addr} {m : Str → Option Value} {news : List (Addr × Obj)}
/-- behind the making of a map: the frame, the ledger, the map itself, its iterator apart from all -/
structure MapHere (h₀ : Heap) (L : Addr) (news : List (Addr × Obj)) (h : Heap) (M tt it b : Addr) (f : Value) (items : Array Value) : Prop where
  at_ : MapAt h M tt it b 0 f items
  ok : MapOk M tt it b
  base : h₀.get? it = none
  L : it ≠ L
  news : ∀ p ∈ news, p.1 ≠ it
theorem Fr.ext {h h' : Heap} (F : Fr h₀ L h m) (x : Ext h h') : Fr h₀ L h' m := ⟨F.ns.keeps x, fun b o e => x b o (F.keep b o e), F.above⟩
theorem News.ext {h h' : Heap} (N : News h₀ L h news) (x : Ext h h') : News h₀ L h' news := fun p hp => ⟨x _ _ (N p hp).1, (N p hp).2⟩
theorem Fr.extBut {h h' : Heap} {it : Addr} (F : Fr h₀ L h m) (x : Heap.ExtBut it h h') (h1 : h₀.get? it = none) (h2 : it ≠ L) : Fr h₀ L h' m :=
  ⟨F.ns.extBut x (Ne.symm h2), fun b o e => x b o (fun q => by rw [q, h1] at e; cases e) (F.keep b o e), F.above⟩
theorem News.extBut {h h' : Heap} {it : Addr} (N : News h₀ L h news) (x : Heap.ExtBut it h h') (h1 : ∀ p ∈ news, p.1 ≠ it) : News h₀ L h' news :=
  fun p hp => ⟨x _ _ (h1 p hp) (N p hp).1, (N p hp).2⟩
theorem map_line {f : Value} {l : List Env} {b : Addr} {d : Option Addr} {items : Array Value} {n : Nat} {sl : Array (Option Value)} {Q : Value → Shared → Prop}
    (hmap : ∀ {prog : Program} {w : World} {s : Shared} {l : List Env} {b : Addr} {d : Option Addr} {items : Array Value} {n : Nat} {sl : Array (Option Value)}, s.heap.get? b = some ⟨.type "list", d, .seq items n, sl⟩ →
      wpAny (model prog w) (AA 600 4000 l) (Sc (.call (.type "map") ⟨[f, .ref b], []⟩)) (Rets s (MapMade s.heap b f)) (fun _ _ => False) s)
    (F : Fr h₀ L s.heap m) (N : News h₀ L s.heap news) (hb : s.heap.get? b = some ⟨.type "list", d, .seq items n, sl⟩)
    (a1 : A.handled = none) (a2 : A.depth ≤ 600) (a3 : A.frames = some l) (a4 : A.guards = some []) (a5 : A.units ≤ 4000)
    (h : ∀ M tt it h' tk, Fr h₀ L h' m → News h₀ L h' news → MapHere h₀ L news h' M tt it b f items → Ext s.heap h' → Q (.ref M) { s with heap := h', toks := tk }) :
    wpAny (model prog w) A (call (.type "map") [f, .ref b]) Q E s := by
  refine call_rets (upW (hmap hb) a1 a2 a3 a4 a5) fun v h' tk x ⟨M, tt, it, e, h1, h2, h3, n1, n2, n3⟩ => ?_
  subst e
  have hbi : b ≠ it := fun q => by rw [q, n3] at hb; cases hb
  refine h M tt it h' tk (Fr.ext F x) (News.ext N x) ⟨⟨⟨_, h1, rfl, rfl⟩, ⟨_, _, h2, rfl⟩, ⟨_, h3, rfl, rfl⟩, ⟨_, x _ _ hb, rfl, n, rfl⟩⟩, ⟨n1, n2, hbi⟩, ?_, ?_, ?_⟩ x
  · cases q : h₀.get? it with
    | none => rfl
    | some o => have := F.keep _ _ q; rw [n3] at this; cases this
  · rintro rfl
    obtain ⟨oL, _, _, hL, _⟩ := F.ns
    rw [n3] at hL; cases hL
  · intro p hp q
    have := (N p hp).1
    rw [q, n3] at this; cases this
end
end Mine
namespace Mine
theorem assign_tuple2 {M : Model} {A : Around} {E : Value → Shared → Prop} {s : Shared} {env : Env} {x y : Str} {px py pos : Pos} {k : Nat} {v : Value} {Q : Unit → Shared → Prop}
    (h : wpAny M A (unpackItems v 2 none) (fun vs s1 => ∃ v1 v2, vs = [v1, v2] ∧ wpAny M A (storeName env x v1) (fun _ s2 => wpAny M A (storeName env y v2) Q E s2) E s1) E s) :
    wpAny M A (assign (.Tuple [.Name x px, .Name y py] k pos) env v) Q E s := by
  show wpAny M A (do standAt pos; unpack v [(false, fun v => assign (.Name x px) env v), (false, fun v => assign (.Name y py) env v)]) Q E s
  refine wpAny_bind (wpAny_standAt ?_)
  unfold unpack
  refine wpAny_bind (wpAny_holding ?_)
  show wpAny M A (unpackItems v 2 none) _ E s
  refine wpAny_mono h (fun vs s1 hv => ?_) fun _ _ e => e
  obtain ⟨v1, v2, rfl, hv⟩ := hv
  show wpAny M A (do holding [v2] (do standAt px; bindName env x v1); do holding [] (do standAt py; bindName env y v2); pure ()) Q E s1
  unfold bindName
  refine wpAny_bind (wpAny_holding (wpAny_bind (wpAny_standAt (wpAny_bind (wpAny_holding (wpAny_point (wpAny_bind (wpAny_mono hv (fun _ s2 h2 => ?_) fun _ _ e => e))))))))
  refine wpAny_point (wpAny_bind (wpAny_holding (wpAny_bind (wpAny_standAt (wpAny_bind (wpAny_holding (wpAny_point (wpAny_bind (wpAny_mono h2 (fun _ s3 h3 => ?_) fun _ _ e => e)))))))))
  exact wpAny_point (wpAny_pure h3)
end Mine
end
section
open PySem PySem.W PyProof.Rows PySem.Spec
set_option Elab.async false
set_option maxRecDepth 100000
set_option maxHeartbeats 2000000
namespace Mine
section
variable {prog : Program} {w : World} {A : Around} {E : Value → Shared → Prop} {s : Shared}
theorem map_no_len : typeLookup (.type "map") "__len__" = pure none := by rw [typeLookup_type, builtinLookup_eq_fast]; kernel_rfl
theorem map_no_hint : typeLookup (.type "map") "__length_hint__" = pure none := by rw [typeLookup_type, builtinLookup_eq_fast]; kernel_rfl

theorem ext_loop_item {M tt it l S : Addr} {i : Nat} {f x res : Value} {items : Array Value} {acc : Array Value} {c : Nat} {P : Value → Prop} {R : Result → Shared → Prop}
    (D : MapAt s.heap M tt it l i f items) (O : MapOk M tt it l) (hx : items[i]? = some x) (hf : FSpec prog w A.in1.in1 f x P)
    (hS : s.heap.get? S = some { cls := .type "list", dict := none, data := .seq acc c, slots := #[] }) (hSi : S ≠ it) (hlt : acc.size < 100)
    (h : ∀ v h' tk, P v → MapAt h' M tt it l (i + 1) f items → Heap.ExtBut it s.heap h' → h'.get? S = some { cls := .type "list", dict := none, data := .seq acc c, slots := #[] } →
      codeAny (model prog w) A (.builtin "list.extend.loop" ⟨[.ref S, .ref M, res], []⟩) R { s with heap := h'.update S (Obj.mapSeq (·.push v)), toks := tk }) :
    codeAny (model prog w) A (.builtin "list.extend.loop" ⟨[.ref S, .ref M, res], []⟩) R s := by
  refine codeAny_builtin F.entry_extend_loop ?_
  rw [Around.under_plainId F.plain_extend_loop _]
  show wpAny _ A.in1 (pyNext (.ref M) >>= _) _ _ s
  refine wpAny_bind (map_next_ok D O hx hf fun v h' tk hv D' hx' => ?_)
  show wpAny _ A.in1 (updateSeq S (·.push v) >>= _) _ _ _
  refine wpAny_bind ?_
  have hS' := hx' _ _ hSi hS
  exact wpAny_updateSeq (s := { s with heap := h', toks := tk }) hS' rfl (wpAny_pure ⟨plainId_quiet F.plain_extend_loop _, h v h' tk hv D' hx' hS'⟩)
    (by have : sizeLine > 200 := by decide +kernel
        omega) (by have : sizeLine > 200 := by decide +kernel
                   show (acc.push v).size ≤ sizeLine + 1; rw [Array.size_push]; omega)

theorem mapAt_ext {S : Addr} {h h' : Heap} {M tt it l : Addr} {i : Nat} {f : Value} {items : Array Value} (D : MapAt h M tt it l i f items) (hM : ∀ o, h.get? M = some o → h'.get? M = some o) (ht : ∀ o, h.get? tt = some o → h'.get? tt = some o) (hi : ∀ o, h.get? it = some o → h'.get? it = some o) (hl : ∀ o, h.get? l = some o → h'.get? l = some o) : MapAt h' M tt it l i f items := by
  obtain ⟨o, ho, hc, hd⟩ := D.m
  obtain ⟨ot, nt, hot, hdt⟩ := D.t
  exact ⟨⟨o, hM _ ho, hc, hd⟩, ⟨ot, nt, ht _ hot, hdt⟩, D.it.at fun o e => hi _ e, D.l.at fun o e => hl _ e⟩

theorem collect_map2 {M tt it l : Addr} {f x y : Value} {P1 P2 : Value → Prop} {Q : List Value → Shared → Prop} (hh : A.handled = none)
    (D : MapAt s.heap M tt it l 0 f #[x, y]) (O : MapOk M tt it l) (h1 : ∀ A, FSpec prog w A f x P1) (h2 : ∀ A, FSpec prog w A f y P2)
    (h : ∀ v1 v2 h' tk, P1 v1 → P2 v2 → Heap.ExtBut it s.heap h' → Q [v1, v2] { s with heap := h', toks := tk }) :
    wpAny (model prog w) A (collect (.ref M)) Q E s := by
  have hlt : ∀ b o, s.heap.get? b = some o → b ≠ s.heap.objs.size := fun b o e q => Nat.lt_irrefl _ (q ▸ Heap.lt_size e)
  obtain ⟨oM, hM, hMc, hMd⟩ := id D.m
  obtain ⟨ot, nt, hot, hdt⟩ := id D.t
  obtain ⟨oi, hoi, hic, hid⟩ := id D.it
  obtain ⟨ol, hol, hlc, nl, hld⟩ := id D.l
  have hSM := hlt _ _ hM
  have hTM : s.TypeIs (.ref M) "map" := ⟨oM, hM, hMc⟩
  unfold collect
  refine wpAny_bind (wpAny_runValue (codeAny_builtin F.entry_proto_collect ?_))
  rw [Around.under_plainId F.plain_proto_collect _]
  show wpAny _ A.in1 (newList [] >>= fun l => again (.builtin "list.__iadd__" ⟨[l, .ref M], []⟩)) _ _ s
  refine wpAny_bind (wpAny_newObj_type ?_)
  refine wpAny_pure ⟨plainId_quiet F.plain_list_iadd _, codeAny_builtin F.entry_list_iadd ?_⟩
  rw [Around.under_plainId F.plain_list_iadd _]
  have keep₁ : ∀ b o, s.heap.get? b = some o → (s.heap.push { cls := .type "list", data := .seq ([] : List Value).toArray }).get? b = some o := fun b o e => Heap.get?_push_of_some _ e
  have hT₁ : Shared.TypeIs { s with heap := s.heap.push { cls := .type "list", data := .seq ([] : List Value).toArray } } (.ref M) "map" := ⟨oM, keep₁ _ _ hM, hMc⟩
  show wpAny _ A.in1 (Builtin.List.listExtendWith (.ref s.heap.objs.size) (.ref M) (.ref s.heap.objs.size)) _ _ _
  unfold Builtin.List.listExtendWith
  refine wpAny_bind (wpAny_typeOf hT₁ ?_)
  have h1' : Builtin.List.listSameRef (.ref s.heap.objs.size) (.ref M) = false := by simp [Builtin.List.listSameRef, Ne.symm hSM]
  have h2' : (Value.type "map" == Value.type "list") = false := by decide
  have h3' : (Value.type "map" == Value.type "tuple") = false := by decide
  simp only [h1', h2', h3', Bool.or_false, Bool.false_eq_true, if_false]
  have D₁ : MapAt (s.heap.push { cls := .type "list", data := .seq ([] : List Value).toArray }) M tt it l 0 f #[x, y] := mapAt_ext (S := M) D (keep₁ _) (keep₁ _) (keep₁ _) (keep₁ _)
  refine wpAny_bind (map_iter_self D₁ ?_)
  refine wpAny_bind (wpAny_holding ?_)
  unfold Builtin.List.listLengthHint
  refine wpAny_bind (wpAny_specialOf hT₁ map_no_len ?_)
  show wpAny _ A.in1 (specialOf (Value.ref M) (Str.ofString "__length_hint__") >>= _) _ _ _
  refine wpAny_bind (wpAny_specialOf hT₁ map_no_hint ?_)
  refine wpAny_pure ?_
  show wpAny _ A.in1 (rule "list.extend.makes-room" >>= fun _ => Builtin.List.listTouch (.ref s.heap.objs.size) >>= fun _ =>
    again (.builtin "list.extend.loop" ⟨[.ref s.heap.objs.size, .ref M, .ref s.heap.objs.size], []⟩)) _ _ _
  refine wpAny_bind (wpAny_rule ?_)
  have hS₁ : (s.heap.push { cls := .type "list", data := .seq ([] : List Value).toArray }).get? s.heap.objs.size = some { cls := .type "list", data := .seq ([] : List Value).toArray } := Heap.get?_push_size _ rfl
  refine wpAny_bind ?_
  show wpAny _ A.in1 (updateSeq s.heap.objs.size (·.push .none) >>= fun _ => updateSeq s.heap.objs.size (·.pop)) _ _ _
  refine wpAny_bind (wpAny_updateSeq hS₁ rfl ?_)
  have hS₂ := Heap.get?_update_self (Obj.mapSeq (·.push Value.none)) hS₁ rfl
  refine wpAny_updateSeq hS₂ rfl ?_
  have hS₃ := Heap.get?_update_self (Obj.mapSeq (·.pop)) hS₂ rfl
  have keep₃ : ∀ b o, s.heap.get? b = some o →
      (((s.heap.push { cls := .type "list", data := .seq ([] : List Value).toArray }).update s.heap.objs.size (Obj.mapSeq (·.push Value.none))).update s.heap.objs.size (Obj.mapSeq (·.pop))).get? b = some o :=
    fun b o e => (Heap.get?_update_other _ _ (Ne.symm (hlt _ _ e))).trans ((Heap.get?_update_other _ _ (Ne.symm (hlt _ _ e))).trans (keep₁ _ _ e))
  have D₃ := mapAt_ext (S := M) D (keep₃ _) (keep₃ _) (keep₃ _) (keep₃ _)
  have nSi := Ne.symm (hlt _ _ hoi)
  generalize hh3 : (((s.heap.push { cls := .type "list", data := .seq ([] : List Value).toArray }).update s.heap.objs.size (Obj.mapSeq (·.push Value.none))).update s.heap.objs.size (Obj.mapSeq (·.pop))) = h3 at D₃ keep₃ hS₃ ⊢
  refine wpAny_pure ⟨plainId_quiet F.plain_extend_loop _, ?_⟩
  refine ext_loop_item (s := { s with heap := h3 }) D₃ O rfl (h1 _) hS₃ nSi (Nat.le_of_ble_eq_true rfl) fun v1 h4 tk4 p1 D4 x4 hS4 => ?_
  have D4' : MapAt (h4.update s.heap.objs.size (Obj.mapSeq (·.push v1))) M tt it l 1 f #[x, y] := by
    refine mapAt_ext (S := M) D4 ?_ ?_ ?_ ?_
    · exact fun o e => (Heap.get?_update_other _ _ (Ne.symm (hlt _ _ hM))).trans e
    · exact fun o e => (Heap.get?_update_other _ _ (Ne.symm (hlt _ _ hot))).trans e
    · exact fun o e => (Heap.get?_update_other _ _ (Ne.symm (hlt _ _ hoi))).trans e
    · exact fun o e => (Heap.get?_update_other _ _ (Ne.symm (hlt _ _ hol))).trans e
  have hS4' := Heap.get?_update_self (Obj.mapSeq (·.push v1)) hS4 rfl
  have x4' : Heap.ExtBut it s.heap (h4.update s.heap.objs.size (Obj.mapSeq (·.push v1))) := fun b o hb e => (Heap.get?_update_other _ _ (Ne.symm (hlt _ _ e))).trans (x4 b o hb (keep₃ b o e))
  generalize h4.update s.heap.objs.size (Obj.mapSeq (·.push v1)) = h5 at D4' hS4' x4' ⊢
  refine ext_loop_item (s := { s with heap := h5, toks := tk4 }) D4' O rfl (h2 _) hS4' nSi (Nat.le_of_ble_eq_true rfl) fun v2 h6 tk6 p2 D6 x6 hS6 => ?_
  have D6' : MapAt (h6.update s.heap.objs.size (Obj.mapSeq (·.push v2))) M tt it l 2 f #[x, y] := by
    refine mapAt_ext (S := M) D6 ?_ ?_ ?_ ?_
    · exact fun o e => (Heap.get?_update_other _ _ (Ne.symm (hlt _ _ hM))).trans e
    · exact fun o e => (Heap.get?_update_other _ _ (Ne.symm (hlt _ _ hot))).trans e
    · exact fun o e => (Heap.get?_update_other _ _ (Ne.symm (hlt _ _ hoi))).trans e
    · exact fun o e => (Heap.get?_update_other _ _ (Ne.symm (hlt _ _ hol))).trans e
  have hS6' := Heap.get?_update_self (Obj.mapSeq (·.push v2)) hS6 rfl
  have x6' : Heap.ExtBut it s.heap (h6.update s.heap.objs.size (Obj.mapSeq (·.push v2))) := fun b o hb e => (Heap.get?_update_other _ _ (Ne.symm (hlt _ _ e))).trans (x6 b o hb (x4' b o hb e))
  generalize h6.update s.heap.objs.size (Obj.mapSeq (·.push v2)) = h7 at D6' hS6' x6' ⊢
  refine codeAny_builtin F.entry_extend_loop ?_
  rw [Around.under_plainId F.plain_extend_loop _]
  show wpAny _ _ (pyNext (.ref M) >>= _) _ _ _
  refine wpAny_bind (map_next_end (s := { s with heap := h7, toks := tk6 }) (by exact hh) D6' rfl fun h8 x8 => ?_)
  refine wpAny_pure ?_
  show wpAny _ A (load s.heap.objs.size >>= _) _ _ _
  refine wpAny_bind (wpAny_load (x8 _ _ nSi hS6') ?_)
  exact wpAny_pure (h v1 v2 h8 tk6 p1 p2 (extBut_trans x6' x8))
end
end Mine
namespace Mine
section
variable {prog : Program} {w : World} {A : Around} {E : Value → Shared → Prop} {s : Shared} {K : Frag} {h₀ : Heap} {L : Addr} {m : Str → Option Value}
/-- an attribute of a kit type that is a plain method of it -/
theorem type_attr {T : String} {x : Str} {a : Value} {expr : Bool} {Q : Value → Shared → Prop} (X : K.In s.heap) (ht : kitMeta T = true) (hs : Manifest.isStub T = false)
    (e : findCls K (.type T) (.type "type") x = some (.val a)) (ha : ∀ s', wpAny (model prog w) A (handedOut a) (fun v s'' => v = a ∧ s'' = s') E s')
    (h : Q a { s with toks := s.toks + 1 }) : wpAny (model prog w) A (getAttr (.type T) x expr) Q E s := by
  have hstub : opaqueClassAbove (.type T) = pure none := by unfold opaqueClassAbove; dsimp only; rw [hs]; rfl
  have L0 : Looks (model prog w) s.heap (typeOf (.type T)) (.type "type") := Looks.of_pure (kitMeta_of ht)
  have LO : Looks (model prog w) s.heap (opaqueClassAbove (.type T)) none := Looks.of_pure hstub
  have hg : findIn K (.type "type") "__getattribute__" = some (some (.builtin "type.__getattribute__")) := type_tga
  refine cls_open X LO L0 hg (looks_hook X (r := none) (by rfl)) (by show subIn K _ _ = _; rfl) e ?_
  show wpAny _ _ (do ret a) _ _ _
  refine wpAny_pure ?_
  exact wpAny_mono (ha _) (fun v s' hv => by obtain ⟨rfl, rfl⟩ := hv; exact h) fun _ _ z => z
theorem star_map2 {M tt it l : Addr} {f x y : Value} {P1 P2 : Value → Prop} {Q : List Value → Shared → Prop} (hh : A.handled = none)
    (D : MapAt s.heap M tt it l 0 f #[x, y]) (O : MapOk M tt it l) (h1 : ∀ A, FSpec prog w A f x P1) (h2 : ∀ A, FSpec prog w A f y P2)
    (h : ∀ v1 v2 h' tk, P1 v1 → P2 v2 → Heap.ExtBut it s.heap h' → Q [v1, v2] { s with heap := h', toks := tk }) :
    StarOf (model prog w) A E (.ref M) Q s := by
  unfold StarOf
  exact map_iterable D ⟨rfl, collect_map2 hh D O h1 h2 h⟩
theorem handed_builtin {a : Value} (e : handedIn a = true) (s' : Shared) : wpAny (model prog w) A (handedOut a) (fun v s'' => v = a ∧ s'' = s') E s' := handed_on e ⟨rfl, rfl⟩
end
end Mine
end
section
open PySem PySem.W PyProof.Rows PySem.Spec
set_option Elab.async false
set_option maxRecDepth 100000
set_option maxHeartbeats 2000000
namespace Mine
/-- a claim's caller stands among these -/
def callerOn (l : List (Code × Pos)) : Bool := l.any fun x => x.1.isCaller
/-- the outcome in every context that has the claim's caller -/
def wpZ {α : Type} (M : Model) (A : Around) (t : Sem α) (Q : α → Shared → Prop) (E : Value → Shared → Prop) (s : Shared) : Prop :=
  ∀ Γ p, Γ.In A → (Γ.code.isCaller || callerOn Γ.below) = true → Sem.wp M Γ t (fun a _ s' => Q a s') (fun e _ s' => E e s') p s
def codeZ (M : Model) (A : Around) (c : Code) (R : Result → Shared → Prop) (s : Shared) : Prop :=
  ∀ Γ p, Γ.code = c → Γ.Below A → callerOn Γ.below = true → wpCode M Γ R p s
section
variable {α β : Type} {M : Model} {A : Around} {E : Value → Shared → Prop} {s : Shared}
theorem Z.of {t : Sem α} {Q : α → Shared → Prop} (h : wpAny M A t Q E s) : wpZ M A t Q E s := fun Γ p a _ => h Γ p a
theorem Zc.of {c : Code} {R} (h : codeAny M A c R s) : codeZ M A c R s := fun Γ p a b _ => h Γ p a b
theorem Z.mono {t : Sem α} {Q Q' : α → Shared → Prop} {E' : Value → Shared → Prop} (h : wpZ M A t Q E s) (hQ : ∀ a s, Q a s → Q' a s) (hE : ∀ e s, E e s → E' e s) : wpZ M A t Q' E' s :=
  fun Γ p a b => Sem.wp_mono M Γ t (fun a _ s => hQ a s) (fun e _ s => hE e s) p s (h Γ p a b)
theorem Zc.mono {c : Code} {R R' : Result → Shared → Prop} (h : codeZ M A c R s) (hR : ∀ r s, R r s → R' r s) : codeZ M A c R' s :=
  fun Γ p a b c => wpCode_mono hR (h Γ p a b c)
theorem Z.bind {m : Sem α} {f : α → Sem β} {Q : β → Shared → Prop} (h : wpZ M A m (fun a s' => wpZ M A (f a) Q E s') E s) : wpZ M A (m >>= f) Q E s := fun Γ p a b => by
  rw [Sem.wp_bind']
  exact Sem.wp_mono M Γ m (fun x p' s' h' => h' Γ p' a b) (fun _ _ _ h' => h') p s (h Γ p a b)
/-- plain work first -/
theorem Z.then {m : Sem α} {f : α → Sem β} {Q : β → Shared → Prop} (h : wpAny M A m (fun a s' => wpZ M A (f a) Q E s') E s) : wpZ M A (m >>= f) Q E s := Z.bind (Z.of h)
theorem Z.onRaise {m : Sem α} {k : Value → Sem Unit} {Q : α → Shared → Prop} (h : wpZ M A m Q (fun e s' => wpAny M A (k e) (fun _ s'' => E e s'') E s') s) : wpZ M A (m.onRaise k) Q E s := fun Γ p a b => by
  rw [Sem.wp_onRaise]
  exact Sem.wp_mono M Γ m (fun _ _ _ h' => h') (fun e p' s' h' => h' Γ p' a) p s (h Γ p a b)
theorem Z.attempt {m : Sem α} {Q : Except Value α → Shared → Prop} (h : wpZ M A m (fun a => Q (.ok a)) (fun e => Q (.error e)) s) : wpZ M A m.attempt Q E s := fun Γ p a b => by
  rw [Sem.wp_attempt]; exact h Γ p a b
theorem Z.holding {vs : List Value} {m : Sem α} {Q : α → Shared → Prop} (h : wpZ M A m Q E s) : wpZ M A (holding vs m) Q E s := fun Γ p a b => by
  rw [Sem.wp_holding]; exact h Γ p a b
theorem Z.keep {vs : List Value} {m : Sem α} {Q : α → Shared → Prop} (h : wpZ M A m Q E s) : wpZ M A (m.keep vs) Q E s := fun Γ p a b => by
  rw [Sem.wp_keep]; exact h Γ p a b
theorem enter_on {Γ : PySem.Ctx} {c : Code} {h : Option Value} {p : Pos} (b : (Γ.code.isCaller || callerOn Γ.below) = true) : callerOn (Γ.enter c h p).below = true := b
theorem Z.run {c : Code} {h : Option Value} {Q : Flow → Shared → Prop} (hc : codeZ M (A.mark h) c (fun r s' => match r with | .ok f => Q f s' | .error e => E e s') s) (hnb : h ≠ some byPass := by intro x; cases x) :
    wpZ M A (PySem.run c h) Q E s := fun Γ p a b => by rw [Sem.wp_run]; exact hc _ p rfl (a.enter c h p hnb) (enter_on b)
theorem Z.runValue {c : Code} {Q : Value → Shared → Prop} (hc : codeZ M A c (fun r s' => match r with | .ok (.ret v) => Q v s' | .ok _ => False | .error e => E e s') s) :
    wpZ M A (PySem.runValue c) Q E s := fun Γ p a b => by rw [Sem.wp_runValue]; exact hc _ p rfl (a.enter c none p (by intro x; cases x)) (enter_on b)
theorem Z.call {f : Value} {pos : List Value} {kw : List (Str × Value)} {Q : Value → Shared → Prop}
    (hc : codeZ M A (.call f ⟨pos, kw⟩) (fun r s' => match r with | .ok (.ret v) => Q v s' | .ok _ => False | .error e => E e s') s) : wpZ M A (PySem.call f pos kw) Q E s := Z.runValue hc
theorem Zc.tree {c : Code} {R : Result → Shared → Prop}
    (h : wpZ M (A.under c) (M.den c) (fun fin s' => match fin with | .done f => R (.ok f) s' | .again c' => c'.quiet = true ∧ codeZ M A c' R s') (fun e s' => R (.error e) s') s) : codeZ M A c R s := fun Γ p hc hΓ ho => by
  rw [wpCode_iff_wp, hc]
  refine Sem.wp_mono M Γ _ (fun fin p' s' h' => ?_) (fun _ _ _ h' => h') p s (h Γ p (hc ▸ hΓ.in) (by rw [ho, Bool.or_true]))
  cases fin with
  | done f => exact h'
  | again c' => exact ⟨h'.1, h'.2 (Γ.goto c') p' rfl (hΓ.goto c') ho⟩
theorem Zc.loop {c : Code} {R : Result → Shared → Prop} (hq : c.quiet = true) (I : Nat → Shared → Prop)
    (turn : ∀ n s, I n s → wpZ M (A.under c) (M.den c) (fun fin s' => match fin with
        | .done f => R (.ok f) s'
        | .again c' => (c' = c ∧ ∃ m, m < n ∧ I m s') ∨ (c'.quiet = true ∧ codeZ M A c' R s')) (fun e s' => R (.error e) s') s)
    (n : Nat) (h : I n s) : codeZ M A c R s := by
  induction n using Nat.strongRecOn generalizing s with
  | ind n ih =>
    refine Zc.tree (Z.mono (turn n s h) (fun fin s' hf => ?_) fun _ _ h' => h')
    cases fin with
    | done f => exact hf
    | again c' =>
      rcases hf with ⟨rfl, m, hm, hI⟩ | hf
      · exact ⟨hq, ih m hm hI⟩
      · exact hf
theorem Z.noted {env : Env} {m : Sem α} {Q : α → Shared → Prop} (h : wpZ M A m Q (notedBy M A env E) s) : wpZ M A (m.onRaise fun x => do noteFrame x env; theTreesLotGoes x) Q E s :=
  Z.onRaise (Z.mono h (fun _ _ q => q) fun _ _ hx => wpAny_bind (wpAny_mono hx (fun _ _ e => wpAny_theTreesLotGoes e) fun _ _ e => e))
end
section
variable {prog : Program} {w : World} {A : Around} {E : Value → Shared → Prop} {R : Result → Shared → Prop} {s : Shared} {env : Env}
theorem Zc.func {body env} (h : wpZ (model prog w) (A.deeper env) (execs body env) (fun f s' => R (.ok (.ret (match f with | .ret v => v | _ => .none))) s')
      (fun e s' => wpAny (model prog w) (A.deeper env) (leaving env e) (fun _ s'' => R (.error e) s'') (fun e' s'' => R (.error e') s'') s') s) : codeZ (model prog w) A (.func body env) R s := by
  refine Zc.tree ?_
  show wpZ _ (A.deeper env) (do point; match ← (execs body env).onRaise (leaving env) with | .ret v => ret v | _ => ret .none) _ _ s
  refine Z.then (wpAny_point (Z.bind (Z.onRaise (Z.mono h (fun f s' h' => ?_) fun _ _ h' => h'))))
  cases f <;> exact Z.of (wpAny_pure h')
theorem Zc.function {a : Addr} {args : Args} {o : Obj} {fd : FuncData} {body : List Stmt} (hroom : A.depth < recursionLimit) (ho : s.heap.get? a = some o)
    (hd' : o.data = .func fd) (hco : fd.scope.isCoroutine = false) (hgen : fd.scope.isGenerator = false) (hbody : fd.body = .stmts body) (hcd : s.heap.CodeRec fd.code fd.qualname)
    (h : wpZ (model prog w) A.in1 (bindArgs fd args) (fun binds s₁ =>
      wpAny (model prog w) A.in1 (newFunctionEnv fd.scope fd.globals fd.closure binds (fd.qualname ++ ".<locals>.") (some a) fd.code none fd.builtins)
        (fun env s₂ => s₂.heap.NoLimit ∧ codeZ (model prog w) A (.func body env) R s₂) (fun e s' => R (.error e) s') s₁) (fun e s' => R (.error e) s') s) :
    codeZ (model prog w) A (.call (.ref a) args) R s := by
  refine Zc.tree ?_
  show wpZ _ A.in1 (callAny (.ref a) args) _ _ s
  simp only [callAny]
  refine Z.then (wpAny_load ho ?_)
  obtain ⟨c, oc, vs, tq, hc, hoc, hdc, hq⟩ := hcd
  simp only [hd', callFunction, hco, hgen, hbody, hc]
  rw [hc] at h
  refine Z.then (m := field (.ref c) 1) (wpAny_field hoc hdc hq (Z.then (wpAny_pure ?_)))
  exact Z.bind (Z.mono h (fun binds s₁ h₁ => Z.then (wpAny_mono h₁ (fun env s₂ h₂ => Z.then (wpAny_enterFrame h₂.1 hroom
    (Z.of (wpAny_pure (And.intro rfl h₂.2))))) fun _ _ h' => h')) fun _ _ h' => h')
theorem enterZ {K : Frag} {name qual : Str} {params : Arguments} {body : List Stmt} {scope : Scope} {dV kV doc pm cdv ct oc : Value} {an od : Option Addr} {osl : Array (Option Value)} {f : Addr} {args : Args} {binds : List (Str × Value)}
    (X : K.In s.heap) (hlim : s.heap.NoLimit) (ho : K.lookup f = some ⟨oc, od, .func (fnOf name qual params body scope dV kV doc pm an cdv ct), osl⟩) (hcd : codeIn K cdv qual = true) (hroom : A.depth < recursionLimit)
    (hbind : BindsTo s (fnOf name qual params body scope dV kV doc pm an cdv ct) args binds) (hloc : ∀ y ∈ binds, scope.names.lookup y.1 = some .local)
    (h : ∀ h₁, Fr s.heap s.heap.objs.size h₁ (fun y => binds.reverse.lookup y) → News s.heap s.heap.objs.size h₁ [] →
      wpZ (model prog w) (A.deeper (envOf qual scope s.heap.objs.size f cdv)) (execs body (envOf qual scope s.heap.objs.size f cdv))
        (fun fl s' => R (.ok (.ret (match fl with | .ret v => v | _ => .none))) s')
        (fun e s' => wpAny (model prog w) (A.deeper (envOf qual scope s.heap.objs.size f cdv)) (leaving (envOf qual scope s.heap.objs.size f cdv) e) (fun _ s'' => R (.error e) s'') (fun e' s'' => R (.error e') s'') s')
        { s with heap := h₁, toks := s.toks + binds.length })
    (hco : scope.isCoroutine = false) (hgen : scope.isGenerator = false) (hk : scope.kind = .function) (hcell : ∀ x ∈ scope.names, x.2 ≠ .cell) :
    codeZ (model prog w) A (.call (.ref f) args) R s := by
  refine Zc.function (fd := fnOf name qual params body scope dV kV doc pm an cdv ct) (body := body) hroom (X _ _ ho) rfl hco hgen rfl (codeRec_of X hcd) (Z.of (hbind _ _ _ _ ?_))
  refine wpAny_newFunctionEnv hcell hloc (fun h₀ hns₀ hsb₀ => ⟨hlim.fresh _ hsb₀, Zc.func (h h₀ ⟨hns₀, fun b o e => ?_, Nat.le_refl _⟩ News.nil)⟩) hk
  exact hsb₀.extBut b o (Nat.ne_of_lt (Heap.lt_size e)) (Heap.get?_push_of_some _ e)
theorem Z.execs_then {st rest} {Q : Flow → Shared → Prop} (h : wpAny (model prog w) A (exec st env) (fun f s' => match f with | .next => wpZ (model prog w) A (execs rest env) Q E s' | f => Q f s') E s) : wpZ (model prog w) A (execs (st :: rest) env) Q E s := by
  rw [execs_cons]
  refine Z.then (wpAny_mono h (fun f s' h' => ?_) fun _ _ e => e)
  cases f <;> first | exact h' | exact Z.of (wpAny_pure h')
theorem Z.execs_cons {st rest} {Q : Flow → Shared → Prop} (h : wpZ (model prog w) A (exec st env) (fun f s' => match f with | .next => wpAny (model prog w) A (execs rest env) Q E s' | f => Q f s') E s) : wpZ (model prog w) A (execs (st :: rest) env) Q E s := by
  rw [PySem.execs_cons]
  refine Z.bind (Z.mono h (fun f s' h' => ?_) fun _ _ e => e)
  cases f <;> first | exact Z.of h' | exact Z.of (wpAny_pure h')
theorem Z.Return {e pos} {Q : Flow → Shared → Prop} (h : wpZ (model prog w) A (eval e env) (fun v => Q (.ret v)) E s) : wpZ (model prog w) A (exec (.Return (some e) pos) env) Q E s := by
  rw [arm_exec_Return]
  exact Z.then (wpAny_standAt (Z.bind (Z.mono h (fun v s' h' => Z.of (wpAny_pure h')) fun _ _ e => e)))
theorem Z.If {test body orelse pos} {Q : Flow → Shared → Prop} (h : wpZ (model prog w) A (isTrue test env (eval test env)) (fun b s' => if b then wpAny (model prog w) A (execs body env) Q E s' else wpAny (model prog w) A (execs orelse env) Q E s') E s) : wpZ (model prog w) A (exec (.If test body orelse pos) env) Q E s := by
  rw [arm_exec_If]
  refine Z.then (wpAny_standAt (Z.bind (Z.mono h (fun b s' h' => ?_) fun _ _ e => e)))
  cases b
  · exact Z.of h'
  · exact Z.of h'
theorem Z.compare {left : Expr} {op : CmpOp} {r : Expr} {pos x1} {Q : Bool → Shared → Prop} (h : wpZ (model prog w) A (eval left env) (fun lv s' => wpAny (model prog w) A (testChain pos lv [op] (markedEach [op] [r] (evalEach [r] env))) Q E s') E s) : wpZ (model prog w) A (isTrue (.Compare left [op] [r] pos) env x1) Q E s := by
  rw [arm_isTrue_Compare]
  exact Z.bind (Z.mono h (fun v s' h' => Z.of h') fun _ _ e => e)
theorem Z.Try {body orelse : List Stmt} {h₀ : ExceptHandler} {hs : List ExceptHandler} {pos : Pos} {Q : Flow → Shared → Prop}
    (h : wpZ (model prog w) A (execs body env) (fun f s₁ => match f with | .next => wpAny (model prog w) A (execs orelse env) Q E s₁ | f => Q f s₁)
      (fun e s₁ => wpAny (model prog w) A (noteFrame e env) (fun _ s₂ => wpAny (model prog w) A (setFlight e none) (fun _ s₃ => wpAny (model prog w) A (handleBy e env (h₀ :: hs)) Q E s₃) E s₂) E s₁) s) :
    wpZ (model prog w) A (exec (.Try body (h₀ :: hs) orelse [] pos) env) Q E s := by
  rw [arm_exec_Try]
  refine Z.then (wpAny_standAt ?_)
  unfold tryStmt
  simp only [List.isEmpty_nil, if_true, List.isEmpty_cons, Bool.false_and, Bool.false_eq_true, if_false]
  refine Z.bind (Z.attempt (Z.mono h (fun f s₁ h₁ => ?_) fun e s₁ h₁ => ?_))
  · cases f <;> first | exact Z.of h₁ | exact Z.of (wpAny_pure h₁)
  · exact Z.then (wpAny_mono h₁ (fun _ _ h₂ => Z.of (wpAny_bind h₂)) fun _ _ x => x)
theorem Z.callName {x : Str} {p pos : Pos} {args : List Expr} {Q : Value → Shared → Prop} (h : wpAny (model prog w) A (eval (.Name x p) env) (fun f s₁ => wpZ (model prog w) A (callWith pos f [] (backTo pos (starEach args env)) []) Q E s₁) E s) :
    wpZ (model prog w) A (eval (.Call (.Name x p) args [] pos) env) Q E s := by
  rw [arm_eval_Call_Name']
  exact Z.then h
theorem Z.tail {t : Sem Value} {Q : Value → Shared → Prop} (ht : wpZ (model prog w) A t Q E s) : wpZ (model prog w) A (t >>= fun r => PySem.holding [r] point >>= fun _ => pure r) Q E s :=
  Z.bind (Z.mono ht (fun r s₂ hr => Z.of (wpAny_bind (wpAny_holding (wpAny_point (wpAny_pure hr))))) fun _ _ x => x)
end
end Mine
end
section
open PySem PySem.W PyProof.Rows PySem.Spec PySem.Calls
set_option Elab.async false
set_option maxRecDepth 100000
set_option maxHeartbeats 2000000
namespace Mine
theorem ends_Z {prog : Program} {w : World} {t : Sem Fin} {s : Shared} {R : Result → Shared → Prop} (hreg : s.asleep)
    (h : wpZ (model prog w) callerA t (fun fin s' => ∃ f, fin = .done f ∧ (R (.ok f) s' ∧ leftWithCleanup s'.gens = false)) (fun e s' => R (.error e) s' ∧ leftWithCleanup s'.gens = false) s) :
    ∃ n r s' s'', runN (denote table) prog w n s ⟨t, .builtin "claim.caller" {}, default, []⟩ = .halted (outcomeOf r) s' ∧
      schedN (denote table) prog w n (.single s ⟨t, .builtin "claim.caller" {}, default, []⟩) = .halted (outcomeOf r) s' ∧ s'.forget = s''.forget ∧ R r s'' := by
  have q := h ⟨.builtin "claim.caller" {}, none, none, [], none⟩ default caller_in rfl
  obtain ⟨n, r, s₁, s₂, hs, hn, hfo, hR⟩ := wp_halts_full (M := model prog w) (R := R) (c := .builtin "claim.caller" {}) (t := t) (p := default) hreg
    (Sem.wp_mono _ _ _ (fun fin p' s' h' => by obtain ⟨f, rfl, hf⟩ := h'; exact hf) (fun _ _ _ h' => h') _ _ q)
  exact ⟨n, r, s₂, s₁, hn, hs, hfo, hR⟩
/-- what is asked of the walk, told in contexts that have the caller -/
abbrev WalkZ (q : Program) (loose : List Str) (XP : (Str → Option Value) → Heap → Prop) (YP : World → Heap → Prop) (r : RowW) (d : DefRec) (kwd : List (Str × Expr)) : Prop :=
  ∀ (w : World) (s₀ s₁ : Shared) (mg mb : Str → Option Value), Ground q loose r.records XP w s₀ mg mb s₁.heap → YP w s₁.heap → ∀ (a : Addr) (o : Obj) (pm cd doc dV kV : Value), s₁.heap.get? a = some o →
    o.data = .func { docDef d.name d.params d.body d.scope pm cd doc with defaults := dV, kwdefaults := kV } → s₁.heap.CodeRec cd d.name → Dflts mg s₁.heap d.params kwd dV kV → mg d.name = some (.ref a) → s₁.gens = #[] →
    ∀ (args : List WData) (vals : List Value) (as : List Addr), r.claim.pre args = true → WData.layableAll args = true → ReadsAllW r.records (classAt s₀.heap) s₁.heap vals args as → WellAll w.params s₁.heap vals args → (∀ a ∈ as, (a == sysModules) = false) →
      wpZ (model r.prog w) callerA (PySem.call (.ref a) vals) (fun v s' => GoodWG r.claim (classAt s₀.heap) (ExcName.means s₀.heap) args s₁ (.ok (.ret v)) s')
        (fun e s' => GoodWG r.claim (classAt s₀.heap) (ExcName.means s₀.heap) args s₁ (.error e) s') s₁
theorem holds_Z {r : OpenRow} {q : Program} {loose : List Str} {Xt : Shared → Bool} {XP : (Str → Option Value) → Heap → Prop} {α : Type} {Yf : Shared → α} {Ya : World → α} {YP : World → Heap → Prop} {d : DefRec} {kwd : List (Str × Expr)} {N : Nat}
    (left : LeftO r.prog q loose Xt Yf Ya N) (hY : ∀ w s, Yf s = Ya w → YP w s.heap) (hYk : ∀ w h h', YP w h → (∀ b o, h.get? b = some o → h'.get? b = some o) → YP w h')
    (hX : ∀ s, Xt s = true → XP (s.heap.nsMap mainGlobals) s.heap) (hXk : ∀ mg h h', XP mg h → (∀ b o, h.get? b = some o → h'.get? b = some o) → XP mg h')
    (hdef : defOf q r.name = some (d, kwd)) (hp : r.prog.theDef r.name = some (d.params, d.body, d.scope)) (hk : kwWritten? d.params.kwonlyargs d.params.kw_defaults = some kwd) (hRf : ∀ s, Xt s = true → RecFacts r.records s.heap) (hwr : (!r.writes || r.records.isEmpty) = true)
    (k1 : r.wellSaid = true) (ok : (chainsOk q && opensWell r.prog && (frees r.toRowW && r.within.isEmpty)) = true) (hb : r.prog.bare) (hw : r.toRowW.promised)
    (call : WalkZ q loose XP YP r.toRowW d kwd) : r.Holds := by
  obtain ⟨ok, k5⟩ := Bool.and_eq_true_iff.mp ok
  obtain ⟨hch, o1⟩ := Bool.and_eq_true_iff.mp ok
  obtain ⟨k5, k6⟩ := Bool.and_eq_true_iff.mp k5
  obtain ⟨hsame, hu, ha, hap, hm⟩ := frees_parts k5
  refine ⟨k1, hw, ⟨hb, o1, by show r.toRowW.makers.map _ = []; rw [hm]; rfl⟩, hw.witness, fun w => ⟨(left.behind hX hch w).1, fun s' hs' => ?_⟩⟩
  obtain ⟨s₀, hf, hg0, s, hT, hz, hgens, hg, G00, y⟩ := (left.behind (XP := fun mg h => XP mg h ∧ RecFacts r.records h) (fun s hs => ⟨hX s hs, hRf s hs⟩) hch w).2 s' hs'
  have G0 : Ground q loose [] XP w s (s.heap.nsMap mainGlobals) (s.heap.nsMap builtinsNs) s.heap := ⟨G00.T, G00.B, G00.D, G00.TE, G00.TD, G00.W, G00.X.1, G00.cls, G00.has, G00.apart, G00.once, G00.K⟩
  have RF := G00.X.2
  refine ⟨s₀, hf, hg0, s, hT, fun n hn => ?pin, RF.1, RF.2.1, ?_⟩
  case pin =>
    obtain rfl : n = r.name := by split at hn <;> simp_all
    exact pinned_of_view hg G0 hdef hp hk
  have hgens : s.gens = #[] := Array.eq_empty_of_size_eq_zero (beq_iff_eq.mp hgens)
  have G : Ground q loose r.records XP w s _ _ s.heap := RF.ground G0
  intro args hpre hlay ord hord
  obtain ⟨⟨vs, s₁⟩, hlaid⟩ := Option.isSome_iff_exists.mp (layAllW_isSome (P := w.params) (ord := ord) G.has args r.args s (pre_splitW hpre).1)
  have keeps := layAllW_keeps _ _ _ hlaid
  have hal := layAllW_rest _ _ _ hlaid
  obtain ⟨as, hrd, hin, hold⟩ := reads_layAllW hord _ _ _ hlaid hlay s₁.heap (fun _ _ e => e)
  have L : Laid r.records w s s₁ args vs as := ⟨⟨ord, hord, hlaid⟩, hrd, hin, hold, keeps, hal.1.trans hgens, hal.2.2.1⟩
  have G₁ := G.keeps hXk keeps
  obtain ⟨a, o, pm, cd, doc, dV, kV, h1, h2, h3, h4, h5⟩ := G₁.fn hdef
  have walk := call w s s₁ _ _ G₁ (hYk _ _ _ (hY w s y) keeps) a o pm cd doc dV kV h2 h3 h4 h5 (defOf_name hdef ▸ h1) L.gens args vs as hpre hlay L.reads L.well (L.low G.low)
  have hi := ident_freeW hu ha hap
  have hwi : r.toRowW.claim.within = [] := List.isEmpty_iff.mp k6
  have done : ∀ res s', GoodWG r.toRowW.claim (classAt s.heap) (ExcName.means s.heap) args s₁ res s' → (r.toRowW.claim.Ends s args vs s₁ res s' ∧ s'.os = s.os ∧ (r.writes = true → namesKept r.prog r.keeps s.heap s'.heap ∧ ∀ x ∈ r.records, ∀ a, classAt s.heap x.1 = some a → recordClass s'.heap a x.1 (x.2.map (·.1)) = true)) ∧ leftWithCleanup s'.gens = false := fun res s' g =>
    have z := g.laid (c := r.toRowW.claim) hsame hwi hi L
    ⟨⟨z.1, z.2.1, fun q => ⟨namesKept_of hT hg _ keeps g.2.1.old, noTable hwr q⟩⟩, leftWithCleanup_false_of_bare z.2.2⟩
  obtain ⟨k, res, s2, s3, hrun, hsched, hfo, hcase, hos, hkp⟩ := ends_Z (prog := r.prog) (w := w) (s := s₁) (t := do match ← nsGet mainNs r.name with
      | some f => do ret (← PySem.call f vs)
      | none => unsupported "claim.caller:no-such-global")
    (R := fun res s' => r.toRowW.claim.Ends s args vs s₁ res s' ∧ s'.os = s.os ∧ (r.writes = true → namesKept r.prog r.keeps s.heap s'.heap ∧ ∀ x ∈ r.records, ∀ a, classAt s.heap x.1 = some a → recordClass s'.heap a x.1 (x.2.map (·.1)) = true)) (Shared.asleep_of_life hal.2.2.2 hz)
    (Z.then (wpAny_nsGet G₁.T.g (by rw [h1]; exact Z.bind (Z.mono walk (fun v s' g => Z.of (wpAny_pure ⟨_, rfl, done _ _ g⟩)) fun e s' g => done _ _ g))))
  obtain ⟨eh, _, _, eo, _⟩ := Shared.forget_eq hfo
  have hcase := hcase.congr eh
  rw [← eh] at hkp
  rw [← eo] at hos
  have hlife : s2.heap.life = s.heap.life := (runN_life _ _ _ hrun).trans hal.2.2.2
  refine ⟨vs, s₁, hlaid, k, _, s2, hsched, ?_, (fun _ i x hx => by rw [hgens] at hx; simp at hx), hkp, by rw [hlife], Shared.rest_eq hos⟩
  rcases hcase with ⟨v, rfl, d1, d2, d3, d4, d5⟩ | ⟨e, ob, cls, rfl, d1, d2, d3, d4, d5⟩
  · exact .inl ⟨v, rfl, d1, d2, d3, fun b o y _ => d4 b o y, d5⟩
  · exact .inr ⟨e, ob, cls, rfl, d1, d2, d3, d4, fun b o y _ => d5 b o y⟩
end Mine
end
section
set_option Elab.async false
lay_quick PySem.W.openEnds PySem.Challenge.pw_in0185_01 PySem.treeTable
open PySem PySem.W PyProof.Rows
namespace Mine
theorem dummyHead {P : Prop} (_hw : True) (hc : P) : P := hc
section
local macro_rules | `(tactic| o_head $t) => `(tactic| refine dummyHead ?hw ?hc)
local macro_rules | `(tactic| w_witness2) => `(tactic| exact True.intro)
set_option maxRecDepth 100000 in
set_option maxHeartbeats 8000000 in
open_top hk for PySem.Challenge.rw_in0185_01
local macro_rules | `(tactic| k_head) => `(tactic| x_head)
set_option maxRecDepth 100000 in
set_option maxHeartbeats 8000000 in
open_top hx for PySem.Challenge.rw_in0185_01
end
/-- the addresses of the written part -/
def xs : List Addr := [0, 1, 2, 3, 4, 5, 6, 7, 8, 9, 10, 11, 12, 13, 14, 15, 33, 34, 35, 36, 37, 38, 39, 47, 48, 49, 50, 51, 52, 53, 54, 55, 56, 57, 58, 59, 60, 61, 62, 63, 64, 65, 66, 67, 68, 69, 70, 71, 72, 73, 74, 75, 76, 77, 78, 79, 80, 83, 86, 91, 92, 93, 94, 95, 96, 97, 98, 99, 100, 101, 102, 103, 104, 105, 106, 107, 108, 109, 110, 113, 116, 121, 122, 123, 124, 125, 126, 127, 128, 129, 130, 131, 132, 133, 134, 135, 136, 137, 138, 139, 140, 141, 142, 143, 144, 145, 146, 147, 148, 149, 150, 151, 152, 153, 154, 155, 156, 157, 158, 159, 160, 161, 162, 163, 164, 165, 166, 167, 168, 169, 170, 171, 172, 174, 175, 177, 179, 180, 181, 184, 191, 192, 193, 194, 195, 196, 197, 198, 199, 200, 201, 202, 203, 204, 207, 208, 209, 210, 211, 212, 213, 214, 215, 216, 217, 218, 219, 220, 221, 222, 223, 224, 225, 226, 227, 228, 229, 230, 231, 232, 233, 234, 235, 236, 237, 238, 239, 240, 241, 242, 243, 244, 245, 246, 247, 248, 249, 250, 251, 252, 253, 254, 255, 256, 257, 258, 259, 260, 261, 262, 263]
/-- the program with just the statements numbered -/
def view (p : Program) (is : List Nat) : Program := { p with main := { p.main with body := is.filterMap fun i => p.main.body[i]? } }
def qV : Program := view PySem.Challenge.pw_in0185_01 [0, 1, 2, 4, 7, 8, 9, 10, 11, 12, 13, 14, 15, 16, 17]
abbrev looseV : List PySem.Str := [PySem.Str.ofString "_tuplegetter", PySem.Str.ofString "Pair"]
set_option maxRecDepth 100000 in
theorem xs_ok : ∀ P, xs = (hx.heap_39 P).map (·.1) := fun _ => by kernel_rfl
abbrev xtV : Shared → Bool := fun s => xlAt qV [] s && recOk (RowW.records PySem.Challenge.rw_in0185_01.row.toRowW) s
set_option maxRecDepth 100000 in
set_option maxHeartbeats 8000000 in
theorem left_ok : LeftO PySem.Challenge.rw_in0185_01.row.toRowW.prog qV looseV xtV (Hook.obs (kHook hx.heap_39 xs xs_ok)) (Hook.val (kHook hx.heap_39 xs xs_ok)) 4556 := by
  intro w
  show (openEnds treeTable PySem.Challenge.pw_in0185_01 w 4556).map _ = _
  rw [PySem.W.Fast.te15552708684749139287, PySem.W.Fast.te14364793385576792824, PySem.W.Fast.te10936928607312221301, PySem.W.Fast.te4187177175401517315]
  kernel_rfl
section
local macro_rules | `(tactic| k_head) => `(tactic| (refine holds_Z (q := qV) (loose := looseV) (Xt := xtV) (XP := XL qV []) (Yf := Hook.obs (kHook hx.heap_39 xs xs_ok)) (Ya := Hook.val (kHook hx.heap_39 xs xs_ok)) (YP := Hook.says (kHook hx.heap_39 xs xs_ok)) (N := 4556) left_ok (Hook.of (kHook hx.heap_39 xs xs_ok)) (Hook.keeps (kHook hx.heap_39 xs xs_ok)) (fun s e => xl_of s (Bool.and_eq_true_iff.mp e).1) XL.keeps (by rfl) (by rfl) (by rfl) (fun s e => recFacts_of (Bool.and_eq_true_iff.mp e).2) (by rfl) (by first | assumption | decide +kernel) (by decide +kernel) ⟨rfl, rfl, rfl, rfl, rfl, by decide +kernel⟩ ?hw ?hc))
set_option maxRecDepth 100000 in
set_option maxHeartbeats 8000000 in
open_top hz for PySem.Challenge.rw_in0185_01
end
end Mine
end
section
open PySem PySem.W PyProof.Rows
set_option Elab.async false
set_option maxRecDepth 100000
namespace Mine
/-- the whole written part, but for the one code table that grows -/
noncomputable def KK (P : Params) : Frag := (hx.heap_39 P).filter (fun p => !(Nat.beq p.1 100))
theorem lookup_map {K1 K2 : Frag} (e : K1.map (fun p => (p.1, K2.lookup p.1)) = K1.map (fun p => (p.1, some p.2))) {a : Addr} {o : Obj} (h : K1.lookup a = some o) : K2.lookup a = some o := by
  induction K1 with
  | nil => cases h
  | cons p r ih =>
    obtain ⟨b, x⟩ := p
    simp only [List.map_cons, List.cons.injEq, Prod.mk.injEq, true_and] at e
    simp only [List.lookup] at h
    split at h
    · rename_i q; cases h; rw [beq_iff_eq.mp q]; exact e.1
    · exact ih e.2 h
theorem k_sub (P : Params) : (hk.heap_39 P).map (fun p => (p.1, (KK P).lookup p.1)) = (hk.heap_39 P).map (fun p => (p.1, some p.2)) := by kernel_rfl
theorem K_of_KK {P : Params} {h : Heap} (X : (KK P).In h) : (hk.heap_39 P).In h := fun a o e => X a o (lookup_map (k_sub P) e)
/-- the entries of the builtins' table, by name: kept out of the walker's sight -/
noncomputable def bEs (P : Params) : List DictEntry := match (boot_o_0 P).data with
  | .dict es _ => es.toList
  | _ => []
theorem b_get {w : World} {h : Heap} (X : (KK w.params).In h) : h.get? (nat_lit 0) = some ⟨.type "dict", none, .dict { toList := bEs w.params } 159, #[]⟩ := X 0 _ (by kernel_rfl)
end Mine
end
local macro_rules | `(tactic| x_close) => `(tactic| first | (rename PySem.W.X.Mem _ _ _ _ => D'; refine Mine.rets_intro (Mine.ext_mem D') ?_; exact ⟨_, _, rfl, (D'.nw _ (List.mem_of_getElem? (i := 0) rfl)).2, (D'.nw _ (List.mem_of_getElem? (i := 1) rfl)).2, D'.ne 0 1 _ _ _ _ rfl rfl rfl, D'.at 0 _ _ rfl, D'.at 1 _ _ rfl⟩) | (rename PySem.W.X.Mem _ _ _ _ => D'; refine Mine.rets_intro (Mine.ext_mem D') ?_; exact ⟨_, rfl, (D'.nw _ (List.mem_of_getElem? (i := 0) rfl)).2, D'.at 0 _ _ rfl⟩) | (rename PySem.W.X.Mem _ _ _ _ => D'; exact Mine.rets_intro (Mine.ext_mem D') rfl) | exact Mine.rets_intro (fun _ _ e => e) rfl)
section
open PySem PySem.W PyProof.Rows PySem.Spec PySem.W.X
set_option Elab.async false
set_option maxRecDepth 100000
set_option maxHeartbeats 0
namespace Mine
section
theorem pair_new {w : World} {s : Shared} {l : List Env} {a b : Str} {ta tb : Tok} (X : (KK w.params).In s.heap) :
    wpAny (model PySem.Challenge.rw_in0185_01.row.prog w) (AA 600 4000 l) (Sc (.call (.ref 203) ⟨[.str a ta, .str b tb], []⟩)) (Rets s fun v h' => ∃ D d, v = .ref D ∧ s.heap.get? D = none ∧ s.heap.get? d = none ∧ D ≠ d ∧ h'.get? D = some ⟨.ref 203, some d, .seq #[.str a ta, .str b tb] 0, #[]⟩ ∧ h'.get? d = some ⟨.type "dict", none, .dict { toList := [] } 0, #[]⟩) (fun _ _ => False) s := by
  have B0 := b_get X
  revert X B0; k_fill; intro X B0
  x_run
end
section
/-- what a new book is: its object, its own dict -/
abbrev bookObj (d : Addr) (es : List DictEntry) (ep : Nat) : Obj := ⟨.ref 108, some d, .dict { toList := es } ep, #[some (.ref 227)]⟩
abbrev dictObj (es : List DictEntry) (ep : Nat) : Obj := ⟨.type "dict", none, .dict { toList := es } ep, #[]⟩
theorem book_new {w : World} {s : Shared} {l : List Env} (X : (KK w.params).In s.heap) :
    wpAny (model PySem.Challenge.rw_in0185_01.row.prog w) (AA 600 4000 l) (Sc (.call (.ref 108) ⟨[.ref 227], []⟩)) (Rets s fun v h' => ∃ B d, v = .ref B ∧ s.heap.get? B = none ∧ s.heap.get? d = none ∧ B ≠ d ∧ h'.get? B = some (bookObj d [] 0) ∧ h'.get? d = some (dictObj [] 0)) (fun _ _ => False) s := by
  have B0 := b_get X
  revert X B0; k_fill; intro X B0
  x_run
end
end Mine
end
local macro_rules | `(tactic| k_room) => `(tactic| exact Nat.le_of_ble_eq_true rfl)
section
open PySem PySem.W PyProof.Rows PySem.Spec
set_option Elab.async false
set_option maxRecDepth 100000
set_option maxHeartbeats 8000000
namespace Mine
theorem int_spec {prog : Program} {w : World} {A : Around} {x : Str} {t : Tok} {n : Int} (hn : PySem.intText? x = some n) (hl : x.length ≤ 640) : FSpec prog w A (.type "int") (.str x t) (fun v => ∃ tk, v = .int n tk) :=
  fun _ _ _ h => KIN.call_text hn hl (h _ _ ⟨_, rfl⟩)
theorem two_of {l : List (Str × Tok)} {a b : Str} (h : l.map (·.1) = [a, b]) : ∃ ta tb, l = [(a, ta), (b, tb)] := by
  match l, h with
  | [(x, t), (y, u)], h => simp at h; obtain ⟨rfl, rfl⟩ := h; exact ⟨t, u, rfl⟩
/-- what a run of pure code leaves: old objects as they were -/
abbrev tupOf (vs : List Value) : Obj := { cls := .type "tuple", data := .seq vs.toArray }
end Mine
end
section
open PySem PySem.W PyProof.Rows PySem.Spec
set_option Elab.async false
set_option maxRecDepth 100000
set_option maxHeartbeats 8000000
namespace Mine
theorem strip_spec {prog : Program} {w : World} {x : Str} {t : Tok} (hl : x.length ≤ 640) (A : Around) : FSpec prog w A (.builtin "str.strip") (.str x t) (fun v => ∃ tk, v = .str (Txt.strip x) tk) :=
  fun _ _ _ h => SC.strip (fun t' k => h _ _ ⟨_, rfl⟩) (Nat.le_trans hl (by decide +kernel))
abbrev pairObj (d : Addr) (a : Str) (ta : Tok) (b : Str) (tb : Tok) : Obj := ⟨.ref 203, some d, .seq #[.str a ta, .str b tb] 0, #[]⟩
set_option pp.deepTerms false
end Mine
end
section
open PySem PySem.W PyProof.Rows PySem.Spec PySem.W.X
set_option Elab.async false
set_option maxRecDepth 100000
set_option maxHeartbeats 0
namespace Mine
section
theorem type_of_pair {w : World} {s : Shared} {l : List Env} {D d : Addr} {a b : Str} {ta tb : Tok} (X : (KK w.params).In s.heap) (hD : s.heap.get? D = some ⟨.ref 203, some d, .seq #[.str a ta, .str b tb] 0, #[]⟩) :
    wpAny (model PySem.Challenge.rw_in0185_01.row.prog w) (AA 600 4000 l) (Sc (.call (.type "type") ⟨[.ref D], []⟩)) (Rets s fun v h => v = .ref 203) (fun _ _ => False) s := by
  have B0 := b_get X
  revert X B0; k_fill; intro X B0
  x_run
theorem sub_pair {w : World} {s : Shared} {l : List Env} (X : (KK w.params).In s.heap) :
    wpAny (model PySem.Challenge.rw_in0185_01.row.prog w) (AA 600 4000 l) (Sc (.call (.builtin "issubclass") ⟨[.ref 203, .type "tuple"], []⟩)) (Rets s fun v h => v = .bool true) (fun _ _ => False) s := by
  have B0 := b_get X
  revert X B0; k_fill; intro X B0
  x_run
end
section
variable {prog : Program} {w : World} {A : Around} {E : Value → Shared → Prop} {s : Shared}
theorem tup_kind2 : builtinKind "tuple.__getitem__" = some .slot := by decide +kernel
theorem tup_split2 : splitId "tuple.__getitem__" = some ("tuple", "__getitem__") := by decide +kernel
theorem tupleItemsOf_pair {D d : Addr} {a b : Str} {ta tb : Tok} {Q : Array Value → Shared → Prop} (hD : s.heap.get? D = some (pairObj d a ta b tb)) (h : Q #[.str a ta, .str b tb] s) :
    wpAny (model prog w) A (Builtin.Tuple.tupleItemsOf (.ref D)) Q E s := by
  unfold Builtin.Tuple.tupleItemsOf
  refine wpAny_bind (wpAny_seqItems hD rfl (wpAny_pure h))
theorem pair_item {K : Frag} {D d : Addr} {a b : Str} {ta tb t : Tok} {i : Int} {j : Nat} {x : Value} {Q : Value → Shared → Prop} (X : K.In s.heap) (hD : s.heap.get? D = some (pairObj d a ta b tb)) (hi : subIn K (.ref 203) (.type "tuple") = some true)
    (hlo : -(2 ^ 63) ≤ i) (hhi : i < 2 ^ 63) (hj : seqIndex? i 2 = some j) (hx : #[Value.str a ta, Value.str b tb][j]? = some x) (h : Q x s) : wpAny (model prog w) A (call (.builtin "tuple.__getitem__") [.ref D, .int i t]) Q E s := by
  have L0 : Looks (model prog w) s.heap (typeOf (.ref D)) (.ref 203) := (Looks.ld hD).andThen .now
  refine wpAny_call (codeAny_call_builtin slot_tuple_getitem.plain entry_tuple_getitem ?_)
  refine @check_slot (model prog w) _ _ s "tuple.__getitem__" "tuple" "__getitem__" (.ref D) [.int i t] [] _ tup_kind2 tup_split2 (L0.andThen (looks_subIn X hi)) (args_tuple_getitem _ _) ?_
  show wpAny _ _ (Builtin.Tuple.tupleItemsOf (.ref D) >>= _) _ _ s
  refine wpAny_bind (tupleItemsOf_pair hD ?_)
  refine wpAny_bind (wpAny_typeOf (typeIs_int s i t) ?_)
  rw [if_neg (by decide)]
  refine wpAny_bind (wpAny_specialOf (T := "int") (typeIs_int s i t) int_index ?_)
  rw [if_neg (by simp)]
  refine wpAny_bind (wpAny_of_eq (a := i) rfl ?_)
  rw [if_neg (by simp only [Bool.or_eq_true, decide_eq_true_eq]; omega)]
  have hj' : seqIndex? i (#[Value.str a ta, Value.str b tb]).size = some j := hj
  simp only [hj', Option.bind_some, hx]
  exact wpAny_pure h
end
section
variable {prog : Program} {w : World} {A : Around} {E : Value → Shared → Prop} {s : Shared} {K : Frag}
theorem type_method {T : String} {x : Str} {a : Value} {pl : Sem Bool} {Q : Value × List Value → Shared → Prop} (X : K.In s.heap) (ht : kitMeta T = true) (hs : Manifest.isStub T = false)
    (e : findCls K (.type T) (.type "type") x = some (.val a)) (ha : handedIn a = true)
    (h : Q (a, []) { s with toks := s.toks + 1 }) : wpAny (model prog w) A (getMethod (.type T) x pl) Q E s := by
  unfold getMethod
  have hg : findIn K (.type "type") "__getattribute__" = some (some (.builtin "type.__getattribute__")) := type_tga
  have L0 : Looks (model prog w) s.heap (typeOf (.type T)) (.type "type") := Looks.of_pure (kitMeta_of ht)
  unfold specialOf
  refine wpAny_bind (wpAny_bind (L0.here ((looks_findIn X hg).here ?_)))
  dsimp only
  rw [if_pos canon_tga]
  exact wpAny_bind (type_attr X ht hs e (handed_builtin ha) (wpAny_pure h))
end
section
local macro_rules | `(tactic| walk_at "getMethod type:tuple") => `(tactic| (refine' type_method ?X ?ht ?hs ?e ?ha ?_; (case X => (rename Fr _ _ _ _ => F1; exact Frag.In.keeps (by with_reducible assumption) F1.keep)); (case ht => decide +kernel); (case hs => decide +kernel); (case e => k_is); (case ha => rfl)))
local macro_rules | `(tactic| walk_at "call type:type") => `(tactic| ((with_reducible show wpAny _ _ (call (Value.type "type") [Value.ref _]) _ _ _); rename Fr _ _ _ _ => F1; rename News _ _ _ _ => N1; refine call_rets (upW (type_of_pair (Frag.In.keeps (by with_reducible assumption) F1.keep) (F1.keep _ _ (by assumption))) rfl (Nat.le_of_ble_eq_true rfl) rfl rfl (Nat.le_of_ble_eq_true rfl)) ?_; intro v h2 tk2 x2 e; subst e; have F2 := Fr.ext F1 x2; have N2 := News.ext N1 x2; clear F1 N1; (try dsimp only)))
local macro_rules | `(tactic| walk_at "call builtin:issubclass") => `(tactic| (rename Fr _ _ _ _ => F1; rename News _ _ _ _ => N1; refine call_rets (upW (sub_pair (Frag.In.keeps (by with_reducible assumption) F1.keep)) rfl (Nat.le_of_ble_eq_true rfl) rfl rfl (Nat.le_of_ble_eq_true rfl)) ?_; intro v h2 tk2 x2 e; subst e; have F2 := Fr.ext F1 x2; have N2 := News.ext N1 x2; clear F1 N1; (try dsimp only)))
set_option maxHeartbeats 8000000
set_option pp.deepTerms false
theorem tg_name {w : World} {l : List Env} {s : Shared} {R : Result → Shared → Prop} {p : Program} {loose : List Str} {mean : ExcName → Option Value} {mg mb : Str → Option Value} {D d : Addr} {a b : Str} {ta tb : Tok}
    (X₁ : (KK w.params).In s.heap) (T : Top p loose mean mg mb s.heap) (hD : s.heap.get? D = some (pairObj d a ta b tb))
    (h : ∀ h' tk, Ext s.heap h' → R (.ok (.ret (.str a ta))) { s with heap := h', toks := tk }) :
    codeAny (model PySem.Challenge.rw_in0185_01.row.prog w) (AA 500 3000 l) (.call (.ref 61) ⟨[.ref 172, .ref D, .ref 203], []⟩) R s := by
  have X₀ := K_of_KK X₁
  revert X₀; k_fill; intro X₀
  w_top off
  refine' enterP X₀ T.nolimit ?k6 ?k7 ?k8 ?k9 ?kB ?_ ?c2 ?c3 ?c4 ?c5
  case k6 => k_is
  case k7 => k_is
  case k8 => k_room
  case k9 => first | exact BindsTo.of_eq rfl | exact binds_K X₀ rfl (by k_is) rfl rfl rfl
  case kB => exact locs rfl
  case c2 => exact rfl
  case c3 => exact rfl
  case c4 => exact rfl
  case c5 => decide
  intro h₁ F N
  have kX := kFor F X₀
  (try dsimp only); (try k_fold)
  k_steps
  rename Fr _ _ _ _ => F1
  refine' pair_item ?X ?hD ?hi ?lo ?hi2 (j := 0) ?hj ?hx ?_
  case X => exact Frag.In.keeps X₀ F1.keep
  case hD => exact F1.keep _ _ hD
  case hi => k_is
  case lo => decide
  case hi2 => decide
  case hj => rfl
  case hx => rfl
  k_steps
  rename Fr _ _ _ _ => F1
  exact h _ _ F1.keep
theorem tg_value {w : World} {l : List Env} {s : Shared} {R : Result → Shared → Prop} {p : Program} {loose : List Str} {mean : ExcName → Option Value} {mg mb : Str → Option Value} {D d : Addr} {a b : Str} {ta tb : Tok}
    (X₁ : (KK w.params).In s.heap) (T : Top p loose mean mg mb s.heap) (hD : s.heap.get? D = some (pairObj d a ta b tb))
    (h : ∀ h' tk, Ext s.heap h' → R (.ok (.ret (.str b tb))) { s with heap := h', toks := tk }) :
    codeAny (model PySem.Challenge.rw_in0185_01.row.prog w) (AA 500 3000 l) (.call (.ref 61) ⟨[.ref 175, .ref D, .ref 203], []⟩) R s := by
  have X₀ := K_of_KK X₁
  revert X₀; k_fill; intro X₀
  w_top off
  refine' enterP X₀ T.nolimit ?k6 ?k7 ?k8 ?k9 ?kB ?_ ?c2 ?c3 ?c4 ?c5
  case k6 => k_is
  case k7 => k_is
  case k8 => k_room
  case k9 => first | exact BindsTo.of_eq rfl | exact binds_K X₀ rfl (by k_is) rfl rfl rfl
  case kB => exact locs rfl
  case c2 => exact rfl
  case c3 => exact rfl
  case c4 => exact rfl
  case c5 => decide
  intro h₁ F N
  have kX := kFor F X₀
  (try dsimp only); (try k_fold)
  k_steps
  rename Fr _ _ _ _ => F1
  refine' pair_item ?X ?hD ?hi ?lo ?hi2 (j := 1) ?hj ?hx ?_
  case X => exact Frag.In.keeps X₀ F1.keep
  case hD => exact F1.keep _ _ hD
  case hi => k_is
  case lo => decide
  case hi2 => decide
  case hj => rfl
  case hx => rfl
  k_steps
  rename Fr _ _ _ _ => F1
  exact h _ _ F1.keep
end
end Mine
end
section
open PySem PySem.W PyProof.Rows PySem.Spec PySem.W.X
set_option Elab.async false
set_option maxRecDepth 100000
set_option maxHeartbeats 0
namespace Mine
section
variable {w : World} {A : Around} {E : Value → Shared → Prop} {s : Shared} {l : List Env} {D d : Addr} {a b : Str} {ta tb : Tok}
theorem get_open2 {prog : Program} {K : Frag} {x C : Addr} {ox : Obj} {od : Option Obj} {name : Str} {expr : Bool} {T gid : String} {Q : Value → Shared → Prop}
    (X : K.In s.heap) (I : InstAt s.heap x ox C od) (hga : findIn K (.ref C) "__getattribute__" = some (some (.builtin gid))) (hne : (Value.builtin gid == Value.builtin "object.__getattribute__") = false)
    (hb : ∀ self, bindSpecial (.builtin gid) self = pure (.builtin gid, [self])) (hp : plainId gid = true) (hk : builtinKind gid = some .slot) (hs : splitId gid = some (T, "__getattribute__"))
    (en : entryFor table gid = some Builtin.«object.__getattribute__») (ar : ∀ a b, argsOk gid ⟨[a, b], []⟩) (hi : subIn K (.ref C) (.type T) = some true) (hk0 : findIn K (.ref C) "__getattr__" = some none)
    (h : wpAny (model prog w) A.in1 (Builtin.«object.__getattribute__» ⟨[.ref x, .str name s.toks], []⟩)
      (fun fin s' => match fin with | .done (.ret v) => wpAny (model prog w) A (handedOut v) Q E s' | _ => False) (fun _ _ => False) { s with toks := s.toks + 1 }) :
    wpAny (model prog w) A (getAttr (.ref x) name expr) Q E s := by
  obtain ⟨hh, g, d, t, os⟩ := s
  have L0 := I.type (M := model prog w)
  have L1 := looks_findIn (M := model prog w) X hga
  have L2 := looks_findIn (M := model prog w) X hk0
  have L3 := looks_subIn (M := model prog w) X hi
  unfold getAttr getAttrBy
  refine wpAny_bind (wpAny_mkText (wpAny_holding (wpAny_bind (L0.at (wpAny_bind (L1.at ?_))))))
  dsimp only
  rw [show (onTheHeap (Value.ref C) && Value.builtin gid == Value.builtin "object.__getattribute__") = false from by rw [hne, Bool.and_false], if_neg (by decide)]
  unfold getAttrByItsOwn hookBefore
  refine wpAny_bind (L2.at (wpAny_bind (wpAny_attempt (wpAny_holding ?_))))
  unfold callGetattribute
  rw [show (expr && onTheHeap (Value.builtin gid)) = false from Bool.and_false _, if_neg (by decide)]
  unfold boundAndCalled
  rw [hb]
  refine wpAny_bind (wpAny_pure ?_)
  show wpAny _ _ (call (.builtin gid) [.ref x, .str name t]) _ _ _
  refine wpAny_call ?_
  refine codeAny_call_builtin hp en ?_
  refine @check_slot (model prog w) _ _ (⟨hh, g, d, t + 1, os⟩ : Shared) gid T "__getattribute__" (.ref x) [.str name t] [] _ hk hs (L0.andThen L3) (ar _ _) ?_
  refine wpAny_mono h (fun fin s' z => ?_) fun _ _ z => z.elim
  rcases fin with (_ | _ | _ | _) | _ <;> first | exact z | exact z.elim
theorem get_bind2 {prog : Program} {K : Frag} {x C f : Addr} {a : Value} {ox : Obj} {od : Option Obj} {name : Str} {expr : Bool} {T gid : String} {Q : Value → Shared → Prop}
    (X : K.In s.heap) (I : InstAt s.heap x ox C od) (hga : findIn K (.ref C) "__getattribute__" = some (some (.builtin gid))) (hne : (Value.builtin gid == Value.builtin "object.__getattribute__") = false)
    (hb : ∀ self, bindSpecial (.builtin gid) self = pure (.builtin gid, [self])) (hp : plainId gid = true) (hk : builtinKind gid = some .slot) (hs : splitId gid = some (T, "__getattribute__"))
    (en : entryFor table gid = some Builtin.«object.__getattribute__») (ar : ∀ a b, argsOk gid ⟨[a, b], []⟩) (hi : subIn K (.ref C) (.type T) = some true) (hk0 : findIn K (.ref C) "__getattr__" = some none)
    (hf : findObj K C od name = some (.bind (.ref f) a))
    (h : wpAny (model prog w) A.in1 (call (.ref f) [a, .ref x, .ref C]) (fun v s' => wpAny (model prog w) A (handedOut v) Q E s') (fun _ _ => False) { s with toks := s.toks + 1 }) :
    wpAny (model prog w) A (getAttr (.ref x) name expr) Q E s := by
  refine get_open2 X I hga hne hb hp hk hs en ar hi hk0 ?_
  obtain ⟨hh', gg, d, t, os⟩ := s
  have L0 := I.type (M := model prog w)
  have L1 := looks_find (M := model prog w) X I hf
  refine wpAny_bind (wpAny_pure (wpAny_bind (wpAny_pure (wpAny_bind (L0.at (wpAny_bind (L1.at ?_)))))))
  show wpAny _ _ (holding [a] (call (.ref f) [a, .ref x, .ref C]) >>= ret) _ _ _
  exact wpAny_bind (wpAny_holding (wpAny_mono h (fun v s' z => wpAny_pure z) fun _ _ z => z))
theorem tup_kind : builtinKind "tuple.__getattribute__" = some .slot := by decide +kernel
theorem tup_split : splitId "tuple.__getattribute__" = some ("tuple", "__getattribute__") := by decide +kernel
theorem get_desc {prog : Program} {K : Frag} {x C q f : Addr} {ox : Obj} {od : Option Obj} {name : Str} {expr : Bool} {v : Value} {Q : Value → Shared → Prop}
    (X : K.In s.heap) (I : InstAt s.heap x ox C od) (hga : findIn K (.ref C) "__getattribute__" = some (some (.builtin "tuple.__getattribute__"))) (hi : subIn K (.ref C) (.type "tuple") = some true) (hk0 : findIn K (.ref C) "__getattr__" = some none)
    (hf : findObj K C od name = some (.bind (.ref f) (.ref q)))
    (a1 : A.handled = none) (a2 : A.depth ≤ 500) (a3 : A.frames = some l) (a4 : A.guards = some []) (a5 : A.in1.units ≤ 3000)
    (hc : ∀ (s' : Shared) (R : Result → Shared → Prop), s'.heap = s.heap → (∀ h' tk, Ext s'.heap h' → R (.ok (.ret v)) { s' with heap := h', toks := tk }) → codeAny (model prog w) (AA 500 3000 l) (.call (.ref f) ⟨[.ref q, .ref x, .ref C], []⟩) R s')
    (hh : handedIn v = true) (h : ∀ h' tk, Ext s.heap h' → Q v { s with heap := h', toks := tk }) : wpAny (model prog w) A (getAttr (.ref x) name expr) Q E s :=
  get_bind2 (T := "tuple") X I hga (by decide) PySem.F.slot_tuple_getattribute.bind PySem.F.slot_tuple_getattribute.plain tup_kind tup_split am_entry_tuple_getattribute PySem.F.args_tuple_getattribute_2 hi hk0 hf
    (wpAny_call (up (hc _ _ rfl fun h' tk x => handed_on hh (h h' tk x)) a1 a2 a3 a4 a5))
variable {p : Program} {loose : List Str} {mean : ExcName → Option Value} {mg mb : Str → Option Value}
theorem name_get {Q : Value → Shared → Prop} {expr : Bool} (X : (KK w.params).In s.heap) (T : Top p loose mean mg mb s.heap) (hD : s.heap.get? D = some (pairObj d a ta b tb)) (hd : s.heap.get? d = some (dictObj [] 0))
    (a1 : A.handled = none) (a2 : A.depth ≤ 500) (a3 : A.frames = some l) (a4 : A.guards = some []) (a5 : A.in1.units ≤ 3000)
    (h : ∀ h' tk, Ext s.heap h' → Q (.str a ta) { s with heap := h', toks := tk }) : wpAny (model PySem.Challenge.rw_in0185_01.row.prog w) A (getAttr (.ref D) "name" expr) Q E s := by
  have X₀ := K_of_KK X
  revert X₀; k_fill; intro X₀
  refine' get_desc (C := 203) (q := 172) (f := 61) (od := some (dictObj [] 0)) X₀ ⟨hD, rfl, rfl, hd⟩ ?hg ?hi ?hk ?hf a1 a2 a3 a4 a5 (fun s' R e k => tg_name (by rw [e]; exact X) (by rw [e]; exact T) (by rw [e]; exact hD) k) rfl h
  case hg => k_is
  case hi => k_is
  case hk => k_is
  case hf => kernel_rfl
theorem value_get {Q : Value → Shared → Prop} {expr : Bool} (X : (KK w.params).In s.heap) (T : Top p loose mean mg mb s.heap) (hD : s.heap.get? D = some (pairObj d a ta b tb)) (hd : s.heap.get? d = some (dictObj [] 0))
    (a1 : A.handled = none) (a2 : A.depth ≤ 500) (a3 : A.frames = some l) (a4 : A.guards = some []) (a5 : A.in1.units ≤ 3000)
    (h : ∀ h' tk, Ext s.heap h' → Q (.str b tb) { s with heap := h', toks := tk }) : wpAny (model PySem.Challenge.rw_in0185_01.row.prog w) A (getAttr (.ref D) "value" expr) Q E s := by
  have X₀ := K_of_KK X
  revert X₀; k_fill; intro X₀
  refine' get_desc (C := 203) (q := 175) (f := 61) (od := some (dictObj [] 0)) X₀ ⟨hD, rfl, rfl, hd⟩ ?hg ?hi ?hk ?hf a1 a2 a3 a4 a5 (fun s' R e k => tg_value (by rw [e]; exact X) (by rw [e]; exact T) (by rw [e]; exact hD) k) rfl h
  case hg => k_is
  case hi => k_is
  case hk => k_is
  case hf => kernel_rfl
end
end Mine
end
section
open PySem PySem.W PyProof.Rows PySem.Spec
set_option Elab.async false
set_option maxRecDepth 100000
set_option maxHeartbeats 8000000
namespace Mine
abbrev listObj (vs : Array Value) (n : Nat) : Obj := ⟨.type "list", none, .seq vs n, #[]⟩
theorem news_new {h₀ h h' : Heap} {L : Addr} {m} {news nn : List (Addr × Obj)} (F : Fr h₀ L h m) (N : News h₀ L h news) (x : Ext h h') (nw : ∀ p ∈ nn, h'.get? p.1 = some p.2 ∧ h.get? p.1 = none) : News h₀ L h' (nn ++ news) := by
  intro p hp
  rcases List.mem_append.mp hp with hp | hp
  · obtain ⟨e1, e2⟩ := nw p hp
    refine ⟨e1, fun e => ?_, ?_⟩
    · obtain ⟨oL, _, _, hL, _⟩ := F.ns
      rw [e, hL] at e2; cases e2
    · cases q : h₀.get? p.1 with
      | none => rfl
      | some o => have := F.keep _ _ q; rw [e2] at this; cases this
  · exact ⟨x _ _ (N p hp).1, (N p hp).2⟩
theorem news_mid {h₀ h h' : Heap} {L : Addr} {m} {pre tl nn : List (Addr × Obj)} (F : Fr h₀ L h m) (N : News h₀ L h (pre ++ tl)) (x : Ext h h') (nw : ∀ p ∈ nn, h'.get? p.1 = some p.2 ∧ h.get? p.1 = none) : News h₀ L h' (pre ++ (nn ++ tl)) := by
  intro p hp
  refine news_new F N x nw p ?_
  simp only [List.mem_append] at hp ⊢
  rcases hp with h | h | h
  · exact .inr (.inl h)
  · exact .inl h
  · exact .inr (.inr h)
set_option pp.deepTerms false
theorem glc_ok2 {w : World} {l : List Env} {s : Shared} {R : Result → Shared → Prop} {p : Program} {loose : List Str} {mean : ExcName → Option Value} {mg mb : Str → Option Value} {x a b : Str} {t : Tok} {i j : Int}
    (X₁ : (KK w.params).In s.heap) (T : Top p loose mean mg mb s.heap) (hx : x.length ≤ 600)
    (hs : Txt.split x (Str.ofString ".") = [a, b]) (ha : PySem.intText? a = some i) (hb : PySem.intText? b = some j)
    (h : ∀ D h' tk t1 t2, Ext s.heap h' → s.heap.get? D = none → h'.get? D = some (tupOf [.int i t1, .int j t2]) → R (.ok (.ret (.ref D))) { s with heap := h', toks := tk }) :
    codeAny (model PySem.Challenge.rw_in0185_01.row.prog w) (AA 560 3600 l) (.call (.ref 213) ⟨[.str x t], []⟩) R s := by
  have X₀ := K_of_KK X₁
  revert X₀; k_fill; intro X₀
  w_top off
  refine' enterP X₀ T.nolimit ?k6 ?k7 ?k8 ?k9 ?kB ?_ ?c2 ?c3 ?c4 ?c5
  case k6 => k_is
  case k7 => k_is
  case k8 => k_room
  case k9 => exact BindsTo.of_eq rfl
  case kB => exact locs rfl
  case c2 => exact rfl
  case c3 => exact rfl
  case c4 => exact rfl
  case c5 => decide
  intro h₁ F N
  have kX := kFor F X₀
  (try dsimp only); (try k_fold)
  k_steps
  rename (List.map _ _ = Txt.split _ _) => hm
  rw [hs] at hm
  obtain ⟨ta, tb, rfl⟩ := two_of hm
  rename Fr _ _ _ _ => F1
  rename News _ _ _ (_ :: _) => N1
  refine map_line (f := .type "int") map_int F1 N1 (N1 _ (.head _)).1 rfl (Nat.le_of_ble_eq_true rfl) rfl rfl (Nat.le_of_ble_eq_true rfl) ?_
  intro M tt it h2 tk2 F2 N2 D2 x2
  clear F1 N1
  rename (∀ a ∈ _, Str.length a ≤ _) => hlen
  have la := hlen a (by simp)
  have lb := hlen b (by simp)
  dsimp only
  refine assign_tuple2 (unpack2 rfl (show MapAt h2 M tt it _ 0 _ #[.str a ta, .str b tb] from D2.at_) D2.ok (int_spec ha (by omega)) (int_spec hb (by omega)) ?_)
  rintro v1 v2 h3 tk3 ⟨t1, rfl⟩ ⟨t2, rfl⟩ x3
  have F3 := Fr.extBut F2 x3 D2.base D2.L
  have N3 := News.extBut N2 x3 D2.news
  clear F2 N2
  refine ⟨_, _, rfl, ?_⟩
  k_steps
  rename Fr _ _ _ _ => F4
  rename News _ _ _ (_ :: _) => N4
  exact h _ _ _ t1 t2 (fun b o e => F4.keep b o e) (N4 _ (.head _)).2.2 (N4 _ (.head _)).1
/-- a place: a tuple of two numbers -/
abbrev placeObj (p : Int × Int) (t1 t2 : Tok) : Obj := tupOf [.int p.1 t1, .int p.2 t2]
theorem start_ok {w : World} {l : List Env} {s : Shared} {R : Result → Shared → Prop} {p : Program} {loose : List Str} {mean : ExcName → Option Value} {mg mb : Str → Option Value}
    (X₁ : (KK w.params).In s.heap) (T : Top p loose mean mg mb s.heap)
    (h : ∀ D a h' tk t1 t2, Ext s.heap h' → s.heap.get? D = none → h'.get? D = some (placeObj (0, 7) t1 t2) → s.heap.get? a = none → h'.get? a = some (listObj #[.ref D] 0) → R (.ok (.ret (.ref a))) { s with heap := h', toks := tk }) :
    codeAny (model PySem.Challenge.rw_in0185_01.row.prog w) (AA 550 3500 l) (.call (.ref 227) ⟨[], []⟩) R s := by
  have X₀ := K_of_KK X₁
  revert X₀; k_fill; intro X₀
  w_top off
  refine' enterP X₀ T.nolimit ?k6 ?k7 ?k8 ?k9 ?kB ?_ ?c2 ?c3 ?c4 ?c5
  case k6 => k_is
  case k7 => k_is
  case k8 => k_room
  case k9 => exact BindsTo.of_eq rfl
  case kB => exact locs rfl
  case c2 => exact rfl
  case c3 => exact rfl
  case c4 => exact rfl
  case c5 => decide
  intro h₁ F N
  have kX := kFor F X₀
  (try dsimp only); (try k_fold)
  k_steps
  rename Fr _ _ _ _ => F0
  rename News _ _ _ _ => N0
  refine wpAny_call ?_
  refine up (glc_ok2 (a := Str.ofString "0") (b := Str.ofString "7") (i := 0) (j := 7) (X₁.keeps F0.keep) (T.keeps F0.keep) (by decide) (by decide +kernel) (by decide +kernel) (by decide +kernel) ?_) rfl (Nat.le_of_ble_eq_true rfl) rfl rfl (Nat.le_of_ble_eq_true rfl)
  intro D h2 tk2 t1 t2 x2 n2 e2
  have F2 := Fr.ext F0 x2
  have N2 := news_new (nn := [(D, placeObj (0, 7) t1 t2)]) F0 N0 x2 (fun p hp => by rw [List.mem_singleton.mp hp]; exact ⟨e2, n2⟩)
  simp only [List.append_nil] at N2
  clear F0 N0
  dsimp only
  k_steps
  rename Fr _ _ _ _ => F4
  rename News _ _ _ (_ :: _) => N4
  exact h D _ _ _ t1 t2 F4.keep (N4 _ (.tail _ (.head _))).2.2 (N4 _ (.tail _ (.head _))).1 (N4 _ (.head _)).2.2 (N4 _ (.head _)).1
end Mine
end
section
open PySem PySem.W PyProof.Rows PySem.Spec
set_option Elab.async false
set_option maxRecDepth 100000
set_option maxHeartbeats 2000000
namespace Mine
abbrev KVs := List (Str × Tok × Addr)
def entOf (w : World) (p : Str × Tok × Addr) : DictEntry := ⟨hashStr w p.1, .str p.1 p.2.1, .ref p.2.2⟩
def look (kvs : KVs) (k : Str) : Option Addr := (kvs.find? (fun p => p.1 == k)).map (·.2.2)
theorem keysOf_ents (prog : Program) (w : World) (kvs : KVs) : KeysOf (strKind prog w) (kvs.map (entOf w)).toArray := by
  intro e he
  obtain ⟨p, _, rfl⟩ := List.mem_map.mp (List.mem_toArray.mp he)
  exact ⟨p.1, strKind_is prog w _ _, rfl⟩
theorem find_ents (prog : Program) (w : World) (kvs : KVs) (k : Str) : findBy (strKind prog w).is (kvs.map (entOf w)).toArray k = (look kvs k).map .ref := by
  unfold findBy look
  rw [List.find?_toArray]
  induction kvs with
  | nil => rfl
  | cons p r ih =>
    rw [List.map_cons, List.find?_cons, List.find?_cons]
    have e : (strKind prog w).is k (entOf w p).key = (p.1 == k) := by
      show Value.isStrOf k (.str p.1 p.2.1) = _
      simp only [Value.isStrOf]
    rw [e]
    cases p.1 == k
    · exact ih
    · rfl
section
variable {prog : Program} {w : World} {A : Around} {E : Value → Shared → Prop} {s : Shared} {K : Frag} {B d : Addr} {kvs : KVs} {ep : Nat} {k : Str} {t : Tok} {fs : List DictEntry} {fp : Nat}
theorem dictGet_book {o : Obj} {Q : Option Value → Shared → Prop} (hB : s.heap.get? B = some o) (hd : o.data = .dict (kvs.map (entOf w)).toArray ep) (h : Q ((look kvs k).map .ref) { s with toks := s.toks + 1 }) :
    wpAny (model prog w) A (dictGet B (.str k t)) Q E s := by
  unfold dictGet
  have hk := keysOf_ents prog w kvs
  refine wpAny_holding ?_
  refine wpAny_bind ((strKind prog w).pyHash (strKind_is prog w k t) (wpAny_bind (wpAny_dictFind_of (s := { s with toks := s.toks + 1 }) (strKind_is prog w k t) hB hd hk ?_)))
  rw [← find_ents prog w, findBy_of_findIdx?] at h
  cases hi : (kvs.map (entOf w)).toArray.findIdx? fun e => (strKind prog w).is k e.key with
  | none => rw [hi] at h; exact wpAny_pure h
  | some i => rw [hi] at h; exact wpAny_bind (wpAny_dictEntries (s := { s with toks := s.toks + 1 }) hB hd (wpAny_pure h))
theorem special_bi {x C : Addr} {ox : Obj} {od : Option Obj} {name : Str} {id : String} {args : List Value} {Q : Option Value → Shared → Prop} (X : K.In s.heap) (I : InstAt s.heap x ox C od) (hs : findIn K (.ref C) name = some (some (.builtin id)))
    (hb : ∀ self, bindSpecial (.builtin id) self = pure (.builtin id, [self])) (h : wpAny (model prog w) A (call (.builtin id) (.ref x :: args)) (fun v => Q (some v)) E s) : wpAny (model prog w) A (callSpecial? (.ref x) name args) Q E s := by
  unfold callSpecial? specialOf
  refine wpAny_bind (wpAny_bind (I.type.here ((looks_findIn X hs).here ?_)))
  dsimp only
  rw [hb]
  refine wpAny_holding (wpAny_bind (wpAny_pure ?_))
  exact wpAny_bind (wpAny_mono h (fun _ _ z => wpAny_pure z) fun _ _ z => z)
theorem dict_kind : builtinKind "dict.__getitem__" = some .slot ∨ builtinKind "dict.__getitem__" = some .method := by decide +kernel
theorem dict_split : splitId "dict.__getitem__" = some ("dict", "__getitem__") := by decide +kernel
theorem check_any {M : Model} {i owner n : String} {self : Value} {rest : List Value} {kw : List (Str × Value)} {Q : Unit → Shared → Prop}
    (hk : builtinKind i = some .slot ∨ builtinKind i = some .method) (hs : splitId i = some (owner, n)) (hi : Looks M s.heap (isInstance self (.type owner)) true) (ha : argsOk i ⟨self :: rest, kw⟩) (q : Q () s) :
    wpAny M A (checkBuiltinCall i ⟨self :: rest, kw⟩) Q E s := by
  rcases hk with hk | hk <;>
  · simp only [checkBuiltinCall, hk, hs]
    refine wpAny_bind (hi.here ?_)
    simp only [Bool.not_true, Bool.false_eq_true, if_false]
    cases hsig : Manifest.signature? i with
    | none => exact wpAny_pure q
    | some sig =>
      simp only [argsOk, hsig] at ha
      have h2 : Bind.checkArgs i sig ⟨self :: rest, kw⟩ = pure () := ha
      show wpAny M A (Bind.checkArgs i sig ⟨self :: rest, kw⟩) Q E s
      rw [h2]; exact wpAny_pure q
abbrev BookAt (w : World) (h : Heap) (B d : Addr) (kvs : KVs) (ep : Nat) (fs : List DictEntry) (fp : Nat) : Prop := h.get? B = some (bookObj d (kvs.map (entOf w)) ep) ∧ h.get? d = some (dictObj fs fp)
theorem book_inst {h : Heap} (D : BookAt w h B d kvs ep fs fp) : InstAt h B (bookObj d (kvs.map (entOf w)) ep) 108 (some (dictObj fs fp)) := ⟨D.1, rfl, rfl, D.2⟩
theorem book_open {Q : Value → Shared → Prop} (X : K.In s.heap) (D : BookAt w s.heap B d kvs ep fs fp) (hq : noSeq K 108 = true) (hs : findIn K (.ref 108) "__getitem__" = some (some (.builtin "dict.__getitem__"))) (hi : subIn K (.ref 108) (.type "dict") = some true)
    (h : wpAny (model prog w) A.in1 (Builtin.«dict.__getitem__» ⟨[.ref B, .str k t], []⟩) (fun fin s' => match fin with | .done (.ret v) => Q v s' | _ => False) (fun e s' => E e s') s) :
    wpAny (model prog w) A (getItem (.ref B) (.str k t)) Q E s := by
  have I := book_inst D
  unfold getItem sequenceKey
  refine wpAny_holding (wpAny_bind (wpAny_bind (I.type.here ?_)))
  refine wpAny_bind ((anyM_none X hq).here ?_)
  rw [if_pos (show (!false) = true from rfl)]
  refine wpAny_pure (wpAny_bind (special_bi X I hs PySem.F.slot_dict_getitem.bind ?_))
  refine wpAny_call (codeAny_call_builtin PySem.F.slot_dict_getitem.plain PySem.F.entry_dict_getitem ?_)
  refine @check_any _ _ s (model prog w) "dict.__getitem__" "dict" "__getitem__" (.ref B) [.str k t] [] _ dict_kind dict_split (I.type.andThen (looks_subIn X hi)) (PySem.F.args_dict_getitem_2 _ _) ?_
  refine wpAny_mono h (fun fin s' z => ?_) fun _ _ z => z
  rcases fin with (_ | _ | _ | _) | _ <;> first | exact z.elim | exact wpAny_pure z
theorem book_found {a : Addr} {Q : Value → Shared → Prop} (X : K.In s.heap) (D : BookAt w s.heap B d kvs ep fs fp) (hq : noSeq K 108 = true) (hs : findIn K (.ref 108) "__getitem__" = some (some (.builtin "dict.__getitem__"))) (hi : subIn K (.ref 108) (.type "dict") = some true)
    (hl : look kvs k = some a) (h : Q (.ref a) { s with toks := s.toks + 1 }) : wpAny (model prog w) A (getItem (.ref B) (.str k t)) Q E s := by
  refine book_open X D hq hs hi ?_
  show wpAny _ _ (dictGet B (.str k t) >>= _) _ _ s
  refine wpAny_bind (dictGet_book D.1 rfl ?_)
  rw [hl]
  exact wpAny_pure h
theorem book_missed {Q : Value → Shared → Prop} (X : K.In s.heap) (D : BookAt w s.heap B d kvs ep fs fp) (hq : noSeq K 108 = true) (hs : findIn K (.ref 108) "__getitem__" = some (some (.builtin "dict.__getitem__"))) (hi : subIn K (.ref 108) (.type "dict") = some true)
    (hm : findIn K (.ref 108) "__missing__" = some (some (.ref 98))) (hf : isFn K (.ref 98) = true) (hn : (B == sysModules) = false)
    (hl : look kvs k = none) (h : wpAny (model prog w) A.in1 (call (.ref 98) [.ref B, .str k t]) Q E { s with toks := s.toks + 1 }) : wpAny (model prog w) A (getItem (.ref B) (.str k t)) Q E s := by
  refine book_open X D hq hs hi ?_
  have I := book_inst D
  show wpAny _ _ (dictGet B (.str k t) >>= _) _ _ s
  refine wpAny_bind (dictGet_book D.1 rfl ?_)
  rw [hl]
  show wpAny _ _ (Builtin.Dict.missed B (.str k t) >>= _) _ _ _
  refine wpAny_bind (wpAny_missed_other hn ?_)
  refine wpAny_bind (I.type.here (s := { s with toks := s.toks + 1 }) ?_)
  rw [if_pos (by rfl)]
  refine wpAny_bind (special_fn (s := { s with toks := s.toks + 1 }) X I hm (beq_iff_eq.mp hf) (wpAny_mono h (fun v s' z => ?_) fun _ _ z => z))
  exact wpAny_bind (wpAny_rule (wpAny_pure z))
end
end Mine
end
section
open PySem PySem.W PyProof.Rows PySem.Spec
set_option Elab.async false
set_option maxRecDepth 100000
set_option maxHeartbeats 8000000
namespace Mine
theorem enterPS {prog : Program} {w : World} {A : Around} {s : Shared} {K : Frag} {R : Result → Shared → Prop} {name qual : Str} {params : Arguments} {body : List Stmt} {scope : Scope} {dV kV doc pm cdv ct oc : Value} {an od : Option Addr} {osl : Array (Option Value)} {f cc : Addr} {args : Args} {binds : List (Str × Value)}
    (X : K.In s.heap) (hlim : s.heap.NoLimit) (ho : K.lookup f = some ⟨oc, od, .func (ksFn name qual params body scope dV kV doc pm an cdv ct cc), osl⟩) (hcd : codeIn K cdv qual = true) (hroom : A.depth < recursionLimit)
    (hbind : BindsTo s (ksFn name qual params body scope dV kV doc pm an cdv ct cc) args binds) (hloc : ∀ y ∈ binds, scope.names.lookup y.1 = some .local)
    (h : ∀ h₁, Fr s.heap s.heap.objs.size h₁ (fun y => binds.reverse.lookup y) → News s.heap s.heap.objs.size h₁ [] →
      _root_.PySem.wpAt (model prog w) (A.deeper (ksEnv qual scope s.heap.objs.size f cdv cc)) (.func body (ksEnv qual scope s.heap.objs.size f cdv cc)) (execs body (ksEnv qual scope s.heap.objs.size f cdv cc))
        (fun fl s' => R (.ok (.ret (match fl with | .ret v => v | _ => .none))) s')
        (fun e s' => wpAny (model prog w) (A.deeper (ksEnv qual scope s.heap.objs.size f cdv cc)) (leaving (ksEnv qual scope s.heap.objs.size f cdv cc) e) (fun _ s'' => R (.error e) s'') (fun e' s'' => R (.error e') s'') s')
        { s with heap := h₁, toks := s.toks + binds.length })
    (hco : scope.isCoroutine = false) (hgen : scope.isGenerator = false) (hk : scope.kind = .function) (hcell : ∀ x ∈ scope.names, x.2 ≠ .cell) :
    codeAny (model prog w) A (.call (.ref f) args) R s :=
  ks_codeAny_call_defAt (fd := ksFn name qual params body scope dV kV doc pm an cdv ct cc) (body := body) (binds := binds) hroom (X _ _ ho) rfl hlim (codeRec_of X hcd) rfl hbind hcell hloc
    (fun h₁ hns hk₁ => h h₁ ⟨hns, hk₁, Nat.le_refl _⟩ News.nil) hco hgen hk
/-- a base: a part of the heap that stays -/
structure Base (g h : Heap) : Prop where
  stays : ∀ b o, g.get? b = some o → h.get? b = some o
  size : g.objs.size ≤ h.objs.size
abbrev Apart (g h : Heap) (ps : List (Addr × Obj)) : Prop := ∀ p ∈ ps, h.get? p.1 = some p.2 ∧ g.get? p.1 = none
theorem Base.fr {g h h₁ : Heap} {L : Addr} {m} (G : Base g h) (F : Fr h L h₁ m) : Fr g L h₁ m := ⟨F.ns, fun b o e => F.keep b o (G.stays b o e), Nat.le_trans G.size F.above⟩
theorem Apart.news {g h h₁ : Heap} {L : Addr} {m} {ps} (N : Apart g h ps) (F : Fr h L h₁ m) : News g L h₁ ps := fun p hp => ⟨F.keep _ _ (N p hp).1, fun q => absurd (Heap.lt_size (N p hp).1) (by rw [q]; exact Nat.not_lt_of_le F.above), (N p hp).2⟩
section
variable {α : Type} {prog : Program} {w : World} {M : Model} {A : Around} {c : Code} {E : Value → Shared → Prop} {s : Shared} {env : Env}
theorem at_spliced_cons {x : Sem Value} {rest : List (Bool × Sem Value)} {Q : List Value → Shared → Prop}
    (h : _root_.PySem.wpAt M A c x (fun v s₁ => _root_.PySem.wpAt M A c (spliced rest) (fun vs s₂ => Q (v :: vs) s₂) E s₁) E s) : _root_.PySem.wpAt M A c (spliced ((false, x) :: rest)) Q E s := by
  rw [spliced]
  refine _root_.PySem.wpAt_bind (_root_.PySem.wpAt_mono h (fun v s₁ h₁ => ?_) fun _ _ x => x)
  simp only [Bool.false_eq_true, if_false]
  exact _root_.PySem.wpAt_bind (_root_.PySem.wpAt_of_wpAny (wpAny_pure (_root_.PySem.wpAt_bind (ks_wpAt_holding (_root_.PySem.wpAt_mono h₁ (fun vs s₂ h₂ => _root_.PySem.wpAt_of_wpAny (wpAny_pure h₂)) fun _ _ x => x)))))
theorem at_evalArgs_plain {f : Value} {x : Sem Value} {rest : List (Bool × Sem Value)} {Q : Args → Shared → Prop}
    (h : _root_.PySem.wpAt M A c (spliced ((false, x) :: rest)) (fun vs s' => Q ⟨vs, []⟩ s') E s) : _root_.PySem.wpAt M A c (evalArgs f true ((false, x) :: rest) []) Q E s := by
  unfold evalArgs
  show _root_.PySem.wpAt M A c (spliced ((false, x) :: rest) >>= _) Q E s
  refine _root_.PySem.wpAt_bind (_root_.PySem.wpAt_mono h (fun vs s' h' => ?_) fun _ _ x => x)
  refine _root_.PySem.wpAt_of_wpAny (wpAny_holding ?_)
  exact wpAny_bind (wpAny_pure (wpAny_bind (wpAny_pure (wpAny_pure h'))))
theorem at_callWith_builtin {pos : Pos} {id : String} {first : List Value} {args : List (Bool × Sem Value)} {Q : Value → Shared → Prop} (hplain : args.any (·.1) = false)
    (h : _root_.PySem.wpAt M A c (evalArgs (.builtin id) true args []) (fun a s₁ => wpAny M A (call (.builtin id) (first ++ a.pos) a.kw) Q E s₁) E s) :
    _root_.PySem.wpAt M A c (callWith pos (.builtin id) first args []) Q E s := by
  unfold callWith
  refine _root_.PySem.wpAt_bind (ks_wpAt_holding (_root_.PySem.wpAt_mono h (fun a s₁ h₁ => _root_.PySem.wpAt_of_wpAny (wpAny_bind (wpAny_standAt ?_))) fun _ _ x => x))
  simp only [hplain, Bool.false_or, List.any_nil]
  show wpAny M A (keeperOf (.builtin id) >>= _) Q E s₁
  refine wpAny_bind (wpAny_pure ?_)
  exact wpAny_bind (wpAny_mono h₁ (fun r s₂ hr => wpAny_bind (wpAny_holding (wpAny_point (wpAny_pure hr)))) fun _ _ x => x)
theorem at_Attribute {value : Expr} {attr : Str} {pos : Pos} {Q : Value → Shared → Prop}
    (h : _root_.PySem.wpAt (model prog w) A c (attributeBase value attr env (eval value env)) (fun o s₁ => wpAny (model prog w) A (getAttr o attr true) Q E s₁) E s) : _root_.PySem.wpAt (model prog w) A c (eval (.Attribute value attr pos) env) Q E s := by
  show _root_.PySem.wpAt (model prog w) A c (do let o ← attributeBase value attr env (eval value env); standAt pos.atName; let r ← holding [o] (getAttr o attr true); letTemporaryGo value o r; pure r) Q E s
  exact _root_.PySem.wpAt_bind (_root_.PySem.wpAt_mono h (fun o s₁ h₁ => _root_.PySem.wpAt_of_wpAny (wpAny_bind (wpAny_standAt (wpAny_bind (wpAny_holding (wpAny_mono h₁ (fun r s₂ hr => wpAny_bind (wpAny_letTemporaryGo (wpAny_pure hr))) fun _ _ x => x)))))) fun _ _ x => x)
theorem at_Call {f : Expr} {args : List Expr} {pos : Pos} {Q : Value → Shared → Prop} (hf : ∀ o n p, f ≠ .Attribute o n p)
    (h : _root_.PySem.wpAt M A c (eval f env) (fun fv s₁ => _root_.PySem.wpAt M A c (callWith pos fv [] (backTo pos (starEach args env)) []) Q E s₁) E s)
    (he : eval (.Call f args [] pos) env = (do callWith pos (← eval f env) [] (backTo pos (starEach args env)) [])) : _root_.PySem.wpAt M A c (eval (.Call f args [] pos) env) Q E s := by
  rw [he]
  exact _root_.PySem.wpAt_bind h
end
end Mine
end
section
open PySem PySem.W PyProof.Rows PySem.Spec PySem.W.X
set_option Elab.async false
set_option maxRecDepth 100000
set_option maxHeartbeats 0
namespace Mine
section
abbrev boundObj (id : String) (x : Value) : Obj := ⟨.type "builtin_function_or_method", none, .fields #[.builtin id, x], #[]⟩
abbrev missId : String := "collections.defaultdict.__missing__"
theorem bind_missing {w : World} {s : Shared} {l : List Env} {B d : Addr} {es : List DictEntry} {ep : Nat} (X : (KK w.params).In s.heap) (hB : s.heap.get? B = some ⟨.ref 108, some d, .dict { toList := es } ep, #[some (.ref 227)]⟩) :
    wpAny (model PySem.Challenge.rw_in0185_01.row.prog w) (AA 600 4000 l) (Sc (.call (.builtin "method_descriptor.__get__") ⟨[.builtin "collections.defaultdict.__missing__", .ref B, .ref 108], []⟩)) (Rets s fun v h => ∃ M, v = .ref M ∧ s.heap.get? M = none ∧ h.get? M = some ⟨.type "builtin_function_or_method", none, .fields #[.builtin "collections.defaultdict.__missing__", .ref B], #[]⟩) (fun _ _ => False) s := by
  have B0 := b_get X
  revert X B0; k_fill; intro X B0
  x_run
theorem getattr_unfrozen {w : World} {s : Shared} {l : List Env} {B d M : Addr} {t : Tok} {es : List DictEntry} {ep fp : Nat} (X : (KK w.params).In s.heap) (hB : s.heap.get? B = some ⟨.ref 108, some d, .dict { toList := es } ep, #[some (.ref 227)]⟩) (hd : s.heap.get? d = some ⟨.type "dict", none, .dict { toList := [] } fp, #[]⟩) :
    wpAny (model PySem.Challenge.rw_in0185_01.row.prog w) (AA 600 4000 l) (Sc (.call (.builtin "getattr") ⟨[.ref B, .str (Str.ofString "_frozen") t, .ref M], []⟩)) (Rets s fun v h => v = .ref M) (fun _ _ => False) s := by
  have B0 := b_get X
  revert X B0; k_fill; intro X B0
  x_run
end
end Mine
end
section
open PySem PySem.W PyProof.Rows PySem.Spec
set_option Elab.async false
set_option maxRecDepth 100000
set_option maxHeartbeats 8000000
namespace Mine
theorem md_type : typeOf (.builtin missId) = pure (.type "method_descriptor") := by show builtinType _ = _; rw [builtinType_eq_fast]; kernel_rfl
theorem md_get : typeLookup (.type "method_descriptor") "__get__" = pure (some (.builtin "method_descriptor.__get__")) := by rw [typeLookup_type, builtinLookup_eq_fast]; kernel_rfl
section
variable {prog : Program} {w : World} {A : Around} {E : Value → Shared → Prop} {h : Heap} {g : Array GenState} {d : Drawn} {t : Nat} {os : OsState}
theorem super_ga {so D x C : Addr} {l₀ l : List Value} {K : Frag} {name : Str} {tk : Tok} {Q : Fin → Shared → Prop} {P : Value → Heap → Prop}
    (hso : h.get? so = some { cls := .type "super", dict := none, data := .fields #[.ref D, .ref x, .ref C], slots := #[] }) (hno : Looks (model prog w) h (opaqueClassAbove (.ref C)) none)
    (hC : Looks (model prog w) h (mroOf (.ref C)) l₀) (hl : (l₀.dropWhile (· != .ref D)).drop 1 = l) (X : K.In h)
    (hf : alongIn K name l = some (some (.builtin missId))) (hxC : x ≠ C) (hn : (name == ("__class__" : Str)) = false)
    (hcall : ∀ {Q' : Value → Shared → Prop} {E' : Value → Shared → Prop}, (∀ v h' tk, Ext h h' → P v h' → Q' v ⟨h', g, d, tk, os⟩) → wpAny (model prog w) A (call (.builtin "method_descriptor.__get__") [.builtin missId, .ref x, .ref C]) Q' E' ⟨h, g, d, t, os⟩)
    (hq : ∀ v h' tk, Ext h h' → P v h' → Q (.done (.ret v)) ⟨h', g, d, tk, os⟩) :
    wpAny (model prog w) A (Builtin.«super.__getattribute__» ⟨[.ref so, .str name tk], []⟩) Q E ⟨h, g, d, t, os⟩ := by
  have hlk := md_get
  have hty := md_type
  have hne : (Value.ref x == Value.ref C) = false := by simp [hxC]
  have hdt : ({ cls := .type "super", dict := none, data := .fields #[.ref D, .ref x, .ref C], slots := #[] } : Obj).data = .fields #[.ref D, .ref x, .ref C] := rfl
  have f0 : (#[.ref D, .ref x, .ref C] : Array Value)[0]? = some (.ref D) := rfl
  have f1 : (#[.ref D, .ref x, .ref C] : Array Value)[1]? = some (.ref x) := rfl
  have f2 : (#[.ref D, .ref x, .ref C] : Array Value)[2]? = some (.ref C) := rfl
  unfold Builtin.«super.__getattribute__»
  repeat (first
    | (with_reducible refine wpAny_field hso hdt f0 ?_) | (with_reducible refine wpAny_field hso hdt f1 ?_) | (with_reducible refine wpAny_field hso hdt f2 ?_)
    | (with_reducible refine ks_wpAny_notOpaque hno ?_)
    | (with_reducible refine Looks.at hC ?_; rw [hl])
    | (refine ks_forIn_along X (fun _ _ => rfl) rfl ?_ hf)
    | (rw [hty]; with_reducible refine wpAny_bind (wpAny_pure ?_))
    | (with_reducible refine hcall ?_; intro v h' tk' x' p')
    | (with_reducible refine ⟨_, rfl, ?_⟩)
    | (simp only [hn, hne, Bool.or_false, Bool.false_eq_true, if_false])
    | wp_step
    | dsimp only)
  all_goals exact hq _ _ _ x' p'
theorem super_attr {so D x C : Addr} {l₀ l : List Value} {K : Frag} {name : Str} {Q : Value → Shared → Prop} {P : Value → Heap → Prop}
    (hso : h.get? so = some { cls := .type "super", dict := none, data := .fields #[.ref D, .ref x, .ref C], slots := #[] }) (hno : Looks (model prog w) h (opaqueClassAbove (.ref C)) none)
    (hC : Looks (model prog w) h (mroOf (.ref C)) l₀) (hl : (l₀.dropWhile (· != .ref D)).drop 1 = l) (X : K.In h)
    (hf : alongIn K name l = some (some (.builtin missId))) (hxC : x ≠ C) (hn : (name == ("__class__" : Str)) = false)
    (hcall : ∀ {Q' : Value → Shared → Prop} {E' : Value → Shared → Prop}, (∀ v h' tk, Ext h h' → P v h' → Q' v ⟨h', g, d, tk, os⟩) → wpAny (model prog w) A.in1 (call (.builtin "method_descriptor.__get__") [.builtin missId, .ref x, .ref C]) Q' E' ⟨h, g, d, t + 1, os⟩)
    (hP : ∀ v h', P v h' → handedIn v = true)
    (hq : ∀ v h' tk, Ext h h' → P v h' → Q v ⟨h', g, d, tk, os⟩) :
    wpAny (model prog w) A (getAttr (.ref so) name true) Q E ⟨h, g, d, t, os⟩ := by
  have hlk := PySem.F.ks_slot_super_ga.lookup
  have hT : ∀ t', (⟨h, g, d, t', os⟩ : Shared).TypeIs (.ref so) "super" := fun _ => ⟨_, hso, rfl⟩
  unfold getAttr getAttrBy
  refine wpAny_bind (wpAny_mkText (wpAny_holding (wpAny_bind (wpAny_typeOf (hT _) (wpAny_bind (wpAny_of_eq hlk ?_))))))
  show wpAny _ _ (getAttrByItsOwn (.ref so) (.str name t) (.type "super") (.builtin "super.__getattribute__") true true) _ _ _
  unfold getAttrByItsOwn hookBefore callGetattribute boundAndCalled
  refine wpAny_bind (wpAny_of_eq (show (if onTheHeap (.type "super") then typeLookup (.type "super") "__getattr__" else pure none) = pure none from rfl) ?_)
  refine wpAny_bind (wpAny_attempt (wpAny_holding ?_))
  show wpAny _ _ (bindSpecial (.builtin "super.__getattribute__") (.ref so) >>= _) _ _ _
  refine wpAny_bind (wpAny_of_eq (PySem.F.ks_slot_super_ga.bind _) ?_)
  refine wpAny_mono (Q := fun v s' => ∃ h' tk, s' = ⟨h', g, d, tk, os⟩ ∧ Ext h h' ∧ P v h') (E := fun _ _ => False)
    (wpAny_call_entry PySem.F.ks_slot_super_ga (hT _) PySem.F.ks_entry_super_ga (super_ga hso hno hC hl X hf hxC hn hcall fun v h' tk x' p' => ⟨_, rfl, h', tk, rfl, x', p'⟩) (PySem.F.ks_gaArgs_super _ _)) (fun v s' hv => ?_) fun _ _ z => z.elim
  obtain ⟨h', tk, rfl, x', p'⟩ := hv
  exact handed_on (hP _ _ p') (hq v h' tk x' p')
end
end Mine
end
section
open PySem PySem.W PyProof.Rows PySem.Spec
set_option Elab.async false
set_option maxRecDepth 100000
set_option maxHeartbeats 8000000
namespace Mine
set_option pp.deepTerms false
theorem miss98 {w : World} {l : List Env} {s : Shared} {R : Result → Shared → Prop} {p : Program} {loose : List Str} {mean : ExcName → Option Value} {mg mb : Str → Option Value} {B d : Addr} {kvs : KVs} {ep fp : Nat} {fs : List DictEntry} {k : Str} {t : Tok} {ga : Addr → Addr}
    (X₁ : (KK w.params).In s.heap) (T : Top p loose mean mg mb s.heap) (D : BookAt w s.heap B d kvs ep fs fp)
    (hga : ∀ (s' : Shared) (l' : List Env) (M : Addr) (t' : Tok), Ext s.heap s'.heap → wpAny (model PySem.Challenge.rw_in0185_01.row.prog w) (AA 600 4000 l') (Sc (.call (.builtin "getattr") ⟨[.ref B, .str (Str.ofString "_frozen") t', .ref M], []⟩)) (Rets s' fun v h => v = .ref (ga M)) (fun _ _ => False) s')
    (hkeep : ∀ (h : Heap) (M : Addr), Ext s.heap h → h.get? M = some (boundObj missId (.ref B)) → ∃ k, (k = Keeper.frame ∨ k = Keeper.machine ∨ k = Keeper.boundFrame) ∧ Looks (model PySem.Challenge.rw_in0185_01.row.prog w) h (keeperOf (.ref (ga M))) k)
    (next : ∀ env' h1 tk M, Ext s.heap h1 → s.heap.get? M = none → h1.get? M = some (boundObj missId (.ref B)) →
      wpAny (model PySem.Challenge.rw_in0185_01.row.prog w) ((AA 500 3000 l).deeper env') (call (.ref (ga M)) [.str k t]) (fun v s' => R (.ok (.ret v)) s') (fun _ _ => False) { s with heap := h1, toks := tk }) :
    codeAny (model PySem.Challenge.rw_in0185_01.row.prog w) (AA 500 3000 l) (.call (.ref 98) ⟨[.ref B, .str k t], []⟩) R s := by
  have X₀ := K_of_KK X₁
  revert X₀; k_fill; intro X₀
  w_top off
  refine' enterPS X₀ T.nolimit ?k6 ?k7 ?k8 ?k9 ?kB ?_ ?c2 ?c3 ?c4 ?c5
  case k6 => k_is
  case k7 => k_is
  case k8 => k_room
  case k9 => exact BindsTo.of_eq rfl
  case kB => exact locs rfl
  case c2 => exact rfl
  case c3 => exact rfl
  case c4 => exact rfl
  case c5 => decide
  intro h₁ F N
  (try dsimp only); (try k_fold)
  refine ks_wpAt_execs_cons (ks_wpAt_Return_some ?_)
  refine at_Call (fun _ _ _ e => nomatch e) ?_ rfl
  refine at_Call (fun _ _ _ e => nomatch e) ?_ rfl
  refine _root_.PySem.wpAt_of_wpAny ?_
  have T₀ := T
  have kX := kFor F X₀
  have F' := F
  have N₀ := N
  walk1
  refine at_callWith_builtin rfl (at_evalArgs_plain (at_spliced_cons ?_))
  refine _root_.PySem.wpAt_of_wpAny ?_
  rw [if_neg Bool.false_ne_true]
  walk1
  refine at_spliced_cons (_root_.PySem.wpAt_of_wpAny ?_)
  rw [if_neg Bool.false_ne_true]
  walk1
  refine at_spliced_cons ?_
  rw [if_neg Bool.false_ne_true]
  refine at_Attribute ?_
  have I₁ : InstAt h₁ B (bookObj d (kvs.map (entOf w)) ep) 108 (some (dictObj fs fp)) := book_inst ⟨F'.keep _ _ D.1, F'.keep _ _ D.2⟩
  refine' ks_node (cda := 97) (cc := 86) (f := 98) ?F ?X ?N ?T ?f1 ?f2 ?f3 ?I ?f4 ?f5 ?f6 ?f7 ?f8 ?f9 ?f10 ?f11 ?f12 ?f13 ?f14 ?f15 ?f16 ?f17 ?_
  case F => exact F
  case X => exact X₀
  case N => exact N₀
  case T => exact T
  case f1 => k_is
  case f2 => rfl
  case f3 => rfl
  case I => exact I₁
  case f4 => k_is
  case f5 => rfl
  case f6 => first | rfl | decide +kernel
  case f7 => k_is
  case f8 => k_is
  case f9 => k_is
  case f10 => k_is
  case f11 => decide
  case f12 => rfl
  case f13 => rfl
  case f14 => rfl
  case f15 => rfl
  case f16 => decide +kernel
  case f17 => first | boot_by_name | rfl | kernel_rfl
  intro so h2 F2 N2 _
  have I₂ : InstAt h2 B (bookObj d (kvs.map (entOf w)) ep) 108 (some (dictObj fs fp)) := book_inst ⟨F2.keep _ _ D.1, F2.keep _ _ D.2⟩
  have X2 := X₁.keeps F2.keep
  have X2₀ := X₀.keeps F2.keep
  cases hc : clsIn (hk.heap_39 w.params) 108 with
  | none => exact absurd hc (by intro q; have : (clsIn (hk.heap_39 w.params) 108).isSome = true := (by kernel_rfl); rw [q] at this; cases this)
  | some cd =>
  refine' super_attr (K := hk.heap_39 w.params) (l₀ := cd.mro) (D := 108) (x := B) (C := 108) (N2 _ (.head _)).1 ?op ?mro rfl X2₀ ?al ?ne ?nm ?call ?hP ?_
  case op => exact looks_opaque X2₀ (by k_is)
  case mro => exact fun A Q E s k q => wpAny_bind ((looks_clsIn X2₀ hc) A _ E s k (wpAny_pure q))
  case al => 
    have e : ks_superIn (hk.heap_39 w.params) 108 108 "__missing__" = some (some (.builtin missId)) := by ks_is
    unfold ks_superIn at e
    rw [hc] at e
    exact e
  case ne => exact ks_ne X2₀ I₂ hc
  case nm => decide
  case call =>
    intro Q' E' hk'
    exact call_rets (upW (bind_missing (s := ⟨h2, _, _, _, _⟩) X2 I₂.at_) rfl (Nat.le_of_ble_eq_true rfl) rfl rfl (Nat.le_of_ble_eq_true rfl)) fun v h' tk x p => hk' v h' tk x p
  case hP => rintro v h' ⟨M, rfl, _, _⟩; rfl
  rintro v h3 tk3 x3 ⟨M, rfl, m1, m2⟩
  have x03 : Ext s.heap h3 := fun b o e => x3 b o (F2.keep b o e)
  have M0 : s.heap.get? M = none := by
    cases q : s.heap.get? M with
    | none => rfl
    | some o => rw [F2.keep _ _ q] at m1; cases m1
  have F3 := Fr.ext F2 x3
  refine _root_.PySem.wpAt_of_wpAny (wpAny_pure ?_)
  dsimp only [List.nil_append]
  refine call_rets (upW (hga ⟨h3, _, _, _, _⟩ _ M _ x03) rfl (Nat.le_of_ble_eq_true rfl) rfl rfl (Nat.le_of_ble_eq_true rfl)) fun v h4 tk4 x4 e => ?_
  subst e
  have F4 := Fr.ext F3 x4
  have x04 : Ext s.heap h4 := fun b o e => x4 b o (x03 b o e)
  have m4 := x4 _ _ m2
  refine _root_.PySem.wpAt_of_wpAny ?_
  refine callWith_of (P := fun h => Ext s.heap h ∧ h.get? M = some (boundObj missId (.ref B))) rfl (fun h q => hkeep h M q.1 q.2) ?_
  refine PySem.Calls.evalArgs_plain (PySem.Calls.spliced_cons ?_)
  clear F F' F2 F3 N N₀ N2
  rw [if_neg Bool.false_ne_true]
  walk1
  refine wpAny_pure ⟨⟨x04, m4⟩, ?_⟩
  exact wpAny_mono (next _ h4 _ M x04 M0 m4) (fun v s' z => z) fun _ _ z => z.elim
end Mine
end
section
open PySem PySem.W PyProof.Rows PySem.Spec
set_option Elab.async false
set_option maxRecDepth 100000
set_option maxHeartbeats 2000000
namespace Mine
theorem mi_kind : builtinKind missId = some .slot ∨ builtinKind missId = some .method := by decide +kernel
theorem mi_split : splitId missId = some ("collections.defaultdict", "__missing__") := by decide +kernel
theorem mi_plain : plainId missId = true := by decide +kernel
theorem mi_entry : entryFor table missId = some Builtin.«collections.defaultdict.__missing__» := entryFor_of_tree (by kernel_rfl)
theorem mi_args (a b : Value) : argsOk missId ⟨[a, b], []⟩ := by unfold argsOk; kernel_rfl
theorem mi_sig : Manifest.signature? missId = some ⟨.oneArg, "defaultdict.__missing__", "__missing__", .self, [⟨"object", .posOnly, true⟩]⟩ := by kernel_rfl
theorem mi_check (a b : Value) : Bind.checkArgs missId ⟨.oneArg, toString "FreezableDefaultDict" ++ toString "." ++ toString (Bind.lastOf missId), "__missing__", .self, [⟨"object", .posOnly, true⟩]⟩ ⟨[a, b], []⟩ = pure () := by kernel_rfl
theorem mi_kind2 : builtinKind missId = some .method := by decide +kernel
theorem mi_var : Manifest.varargsMethods.contains missId = false := by decide +kernel
section
variable {prog : Program} {w : World} {A : Around} {E : Value → Shared → Prop} {s : Shared} {K : Frag} {B d : Addr} {kvs : KVs} {ep : Nat} {k : Str} {t : Tok} {fs : List DictEntry} {fp : Nat} {R : Result → Shared → Prop}
theorem check_bound {v : Value} {Q : Unit → Shared → Prop} (X : K.In s.heap) (D : BookAt w s.heap B d kvs ep fs fp) (hm : subIn K (.ref 108) (.type "module") = some false) (hc : (clsIn K 108).map (fun c => c.qualname.toString) = some "FreezableDefaultDict") (ht : typeIn K (.ref 108) = some (.type "type")) (h : Q () s) :
    wpAny (model prog w) A (checkBoundCall missId ⟨[.ref B, v], []⟩) Q E s := by
  have I := book_inst D
  obtain ⟨cd, hcd, hqn⟩ := Option.map_eq_some_iff.mp hc
  unfold checkBoundCall
  rw [mi_sig, mi_kind2]
  dsimp only
  rw [if_neg (by decide)]
  refine wpAny_bind ((I.type.andThen (looks_subIn X hm) : Looks (model prog w) s.heap (isInstance (.ref B) (.type "module")) false).here ?_)
  rw [mi_var]
  rw [if_neg (by decide)]
  refine wpAny_bind (m := isType (.ref B)) (ks_wpAny_isType_inst (h := s.heap) (g := s.gens) (d := s.drawn) (t := s.toks) (os := s.os) D.1 (fun c e => nomatch e) ?_)
  rw [if_neg (by decide)]
  refine wpAny_bind (I.type.here ?_)
  dsimp only
  refine wpAny_bind ((looks_clsIn X hcd).here ?_)
  refine wpAny_bind ((looks_typeIn X ht).here ?_)
  rw [if_pos (by decide), hqn, mi_check]
  exact wpAny_pure h
theorem bound_call {M : Addr} {id : String} {x : Value} {pos : List Value} (ho : s.heap.get? M = some (boundObj id x)) (hc : ∀ {Q' : Unit → Shared → Prop} {E' : Value → Shared → Prop}, Q' () s → wpAny (model prog w) (A.under (.call (.ref M) ⟨pos, []⟩)) (checkBoundCall id ⟨x :: pos, []⟩) Q' E' s) (hq : (Code.builtin id ⟨x :: pos, []⟩).quiet = true)
    (h : codeAny (model prog w) A (.builtin id ⟨x :: pos, []⟩) R s) : codeAny (model prog w) A (.call (.ref M) ⟨pos, []⟩) R s := by
  refine codeAny_of_tree ?_
  show wpAny _ _ (callAny (.ref M) _) _ _ _
  unfold callAny
  refine wpAny_bind (wpAny_load ho ?_)
  show wpAny _ _ (checkBoundCall id ⟨x :: pos, []⟩ >>= fun _ => again (.builtin id ⟨x :: pos, []⟩)) _ _ _
  refine wpAny_bind (hc ?_)
  exact wpAny_pure ⟨hq, h⟩
theorem borrowed_rets {f : Value} {args : List Value} {Q : Value → Shared → Prop} {P : Value → Heap → Prop}
    (h : wpAny (model prog w) A (Sc (.call f ⟨args, []⟩)) (Rets s P) (fun _ _ => False) s)
    (hq : ∀ v h' tk, Ext s.heap h' → P v h' → Q v { s with heap := h', toks := tk }) : wpAny (model prog w) A (callBorrowed f args) Q E s := by
  intro Γ p hΓ
  have q := h Γ p hΓ
  rw [Sem.wp_call] at q
  unfold callBorrowed
  rw [Sem.wp_call]
  refine wpCode_mono (fun r s' hr => ?_) q
  rw [Sem.wp_pure] at hr
  obtain ⟨v, h', tk, e, e2, x, pp⟩ := hr
  subst e e2
  rw [Sem.wp_pure]
  exact hq v h' tk x pp
theorem setDefault_book {a : Addr} {Q : Value → Shared → Prop} (hB : s.heap.get? B = some (bookObj d (kvs.map (entOf w)) ep)) (hl : look kvs k = none) (hz : kvs.length ≤ 1000)
    (h : ∀ h', h'.get? B = some (bookObj d ((kvs ++ [(k, t, a)]).map (entOf w)) (ep + 1)) → Heap.SameBut B s.heap h' → Q (.ref a) { s with heap := h', toks := s.toks + 1 }) :
    wpAny (model prog w) A (dictSetDefault B (.str k t) (.ref a)) Q E s := by
  have hk := keysOf_ents prog w kvs
  have hd : (bookObj d (kvs.map (entOf w)) ep).data = .dict (kvs.map (entOf w)).toArray ep := rfl
  unfold dictSetDefault
  refine wpAny_holding ?_
  refine wpAny_bind ((strKind prog w).pyHash (strKind_is prog w k t) (wpAny_bind (wpAny_dictFind_of (s := { s with toks := s.toks + 1 }) (strKind_is prog w k t) hB hd hk ?_)))
  have e : (kvs.map (entOf w)).toArray.findIdx? (fun e => (strKind prog w).is k e.key) = none := by
    have q := find_ents prog w kvs k
    rw [findBy_of_findIdx?, hl] at q
    cases hi : (kvs.map (entOf w)).toArray.findIdx? fun e => (strKind prog w).is k e.key with
    | none => rfl
    | some i =>
      rw [hi] at q
      obtain ⟨hlt, _⟩ := Array.findIdx?_eq_some_iff_findIdx_eq.mp hi
      dsimp only at q
      rw [Array.getElem?_eq_getElem (by exact hlt)] at q
      cases q
  rw [e]
  refine wpAny_bind (wpAny_rule ?_)
  have hsz : (kvs.map (entOf w)).toArray.size ≤ sizeLine := by
    have : sizeLine > 2000 := by decide +kernel
    rw [List.size_toArray, List.length_map]; omega
  refine wpAny_bind (wpAny_updateDictKeys (s := { s with toks := s.toks + 1 }) hB hd (wpAny_pure (h _ ?_ (Heap.SameBut.update ..))) hsz)
  have q := Heap.get?_update_self (Obj.mapDictKeys (·.push ⟨(strKind prog w).hash k, .str k t, .ref a⟩)) hB rfl
  refine q.trans ?_
  simp only [Obj.mapDictKeys, bookObj, List.map_append, List.map_cons, List.map_nil, List.push_toArray]
  rfl
end
end Mine
end
section
open PySem PySem.W PyProof.Rows PySem.Spec
set_option Elab.async false
set_option maxRecDepth 100000
set_option maxHeartbeats 4000000
namespace Mine
section
variable {prog : Program} {w : World} {A : Around} {E : Value → Shared → Prop} {s : Shared} {K : Frag} {B d : Addr} {kvs : KVs} {ep : Nat} {k : Str} {t : Tok} {fs : List DictEntry} {fp : Nat} {R : Result → Shared → Prop}
theorem factory_book {Q : Option Value → Shared → Prop} (hB : s.heap.get? B = some (bookObj d (kvs.map (entOf w)) ep)) (h : Q (some (.ref 227)) s) :
    wpAny (model prog w) A (Builtin.Collections_defaultdict.factory? (.ref B)) Q E s := by
  unfold Builtin.Collections_defaultdict.factory? slotAt
  dsimp only
  refine wpAny_bind (wpAny_bind (wpAny_loadPart hB (wpAny_pure (wpAny_pure ?_))))
  exact h
theorem setdefault_code {a : Addr} (X : K.In s.heap) (D : BookAt w s.heap B d kvs ep fs fp) (ho : subIn K (.ref 108) (.type "collections.OrderedDict") = some false) (hn : (B == sysModules) = false) (hl : look kvs k = none) (hz : kvs.length ≤ 1000)
    (h : ∀ h', h'.get? B = some (bookObj d ((kvs ++ [(k, t, a)]).map (entOf w)) (ep + 1)) → Heap.SameBut B s.heap h' → R (.ok (.ret (.ref a))) { s with heap := h', toks := s.toks + 1 }) :
    codeAny (model prog w) A (.builtin "dict.setdefault" ⟨[.ref B, .str k t, .ref a], []⟩) R s := by
  have I := book_inst D
  refine codeAny_builtin PySem.F.entry_dict_setdefault ?_
  rw [Around.under_plainId (by decide +kernel) _]
  unfold Builtin.«dict.setdefault»
  refine wpAny_bind ?_
  unfold Builtin.Dict.keyAndDefault
  refine wpAny_bind ?_
  unfold Builtin.Dict.notOrdered
  rw [if_pos (by decide)]
  refine wpAny_bind (I.type.here ?_)
  rw [if_pos (by rfl)]
  refine wpAny_bind ((I.type.andThen (looks_subIn X ho) : Looks (model prog w) s.heap (isInstance (.ref B) (.type "collections.OrderedDict")) false).here ?_)
  rw [if_neg (by decide)]
  refine wpAny_pure ?_
  show wpAny _ _ (pure (B, Value.str k t, some (Value.ref a))) _ _ s
  refine wpAny_pure ?_
  show wpAny _ _ (if (B == sysModules) = true then _ else (dictSetDefault B (.str k t) (.ref a) >>= _)) _ _ s
  rw [if_neg (by rw [hn]; exact Bool.false_ne_true)]
  exact wpAny_bind (setDefault_book D.1 hl hz fun h' e1 e2 => wpAny_pure (h h' e1 e2))
theorem start_rets {l : List Env} {p : Program} {loose : List Str} {mean : ExcName → Option Value} {mg mb : Str → Option Value} (X₁ : (KK w.params).In s.heap) (T : Top p loose mean mg mb s.heap) :
    wpAny (model PySem.Challenge.rw_in0185_01.row.prog w) (AA 550 3500 l) (Sc (.call (.ref 227) ⟨[], []⟩)) (Rets s fun v h' => ∃ D a t1 t2, v = .ref a ∧ s.heap.get? D = none ∧ h'.get? D = some (placeObj (0, 7) t1 t2) ∧ s.heap.get? a = none ∧ h'.get? a = some (listObj #[.ref D] 0)) (fun _ _ => False) s := by
  intro Γ p' hΓ
  rw [Sem.wp_call]
  have hc := start_ok (R := fun r s' => Rets s (fun v h' => ∃ D a t1 t2, v = .ref a ∧ s.heap.get? D = none ∧ h'.get? D = some (placeObj (0, 7) t1 t2) ∧ s.heap.get? a = none ∧ h'.get? a = some (listObj #[.ref D] 0)) r s') (l := l) X₁ T fun D a h' tk t1 t2 x d1 d2 a1 a2 => ⟨_, h', tk, rfl, rfl, x, D, a, t1, t2, rfl, d1, d2, a1, a2⟩
  refine wpCode_mono (fun r s' hr => ?_) (hc _ p' rfl (hΓ.enter _ none p' (by intro x; cases x)))
  rw [Sem.wp_pure]
  exact hr
/-- what a look that met no entry leaves: the book's entry, the list, the place in it -/
structure Made (w : World) (s : Shared) (B d : Addr) (kvs : KVs) (ep : Nat) (k : Str) (t : Tok) (h' : Heap) (a D : Addr) (t1 t2 : Tok) : Prop where
  book : h'.get? B = some (bookObj d ((kvs ++ [(k, t, a)]).map (entOf w)) (ep + 1))
  a0 : s.heap.get? a = none
  a1 : h'.get? a = some (listObj #[.ref D] 0)
  d0 : s.heap.get? D = none
  d1 : h'.get? D = some (placeObj (0, 7) t1 t2)
  keep : ∀ b o, b ≠ B → s.heap.get? b = some o → h'.get? b = some o
theorem dd_missing {l : List Env} {p : Program} {loose : List Str} {mean : ExcName → Option Value} {mg mb : Str → Option Value} (X₁ : (KK w.params).In s.heap) (T : Top p loose mean mg mb s.heap) (X : K.In s.heap) (D : BookAt w s.heap B d kvs ep fs fp) (ho : subIn K (.ref 108) (.type "collections.OrderedDict") = some false) (hn : (B == sysModules) = false) (hl : look kvs k = none) (hz : kvs.length ≤ 1000)
    (a1 : A.handled = none) (a2 : A.depth ≤ 550) (a3 : A.frames = some l) (a4 : A.guards = some []) (a5 : A.in1.units ≤ 3500)
    (h : ∀ h' tk a D t1 t2, Made w s B d kvs ep k t h' a D t1 t2 → R (.ok (.ret (.ref a))) { s with heap := h', toks := tk }) :
    codeAny (model PySem.Challenge.rw_in0185_01.row.prog w) A (.builtin missId ⟨[.ref B, .str k t], []⟩) R s := by
  have hf := X₁ 227
  refine codeAny_builtin mi_entry ?_
  rw [Around.under_plainId mi_plain _]
  show wpAny _ _ (Builtin.Collections_defaultdict.factory? (.ref B) >>= _) _ _ s
  refine wpAny_bind (factory_book D.1 ?_)
  show wpAny _ _ (callOutOfASlot (.ref 227) [] >>= _) _ _ s
  refine wpAny_bind ?_
  unfold callOutOfASlot borrowsExactly
  cases q : (KK w.params).lookup 227 with
  | none => exact absurd q (by intro q; have : ((KK w.params).lookup 227).isSome = true := (by kernel_rfl); rw [q] at this; cases this)
  | some of =>
  have hfn : (match of.data with | .func _ => true | _ => false) = true := by
    have e : ((KK w.params).lookup 227).any (fun of => match of.data with | .func _ => true | _ => false) = true := by kernel_rfl
    rw [q] at e; exact e
  dsimp only
  refine wpAny_bind (wpAny_bind (wpAny_load (hf _ q) ?_))
  cases hd : of.data <;> rw [hd] at hfn <;> first | cases hfn | skip
  dsimp only
  refine wpAny_pure ?_
  rw [if_pos rfl]
  refine borrowed_rets (upW (start_rets (l := l) X₁ T) a1 a2 a3 a4 a5) fun v h1 tk x ⟨E, a, t1, t2, e, d1, d2, n1, n2⟩ => ?_
  subst e
  have D1 : BookAt w h1 B d kvs ep fs fp := ⟨x _ _ D.1, x _ _ D.2⟩
  have aB : a ≠ B := fun q => by rw [q, D.1] at n1; cases n1
  have eB : E ≠ B := fun q => by rw [q, D.1] at d1; cases d1
  refine wpAny_pure ⟨plainId_quiet (by decide +kernel) _, setdefault_code (s := ⟨h1, _, _, _, _⟩) (X.keeps x) D1 ho hn hl hz fun h2 e1 e2 => ?_⟩
  exact h h2 _ a E t1 t2 ⟨e1, n1, (e2.2 a aB).trans n2, d1, (e2.2 E eB).trans d2, fun b o hb e => (e2.2 b hb).trans (x _ _ e)⟩
end
section
variable {w : World} {l : List Env} {s : Shared} {R : Result → Shared → Prop} {p : Program} {loose : List Str} {mean : ExcName → Option Value} {mg mb : Str → Option Value} {B d : Addr} {kvs : KVs} {ep fp : Nat} {k : Str} {t : Tok}
theorem miss_unfrozen (X₁ : (KK w.params).In s.heap) (T : Top p loose mean mg mb s.heap) (D : BookAt w s.heap B d kvs ep [] fp) (hn : (B == sysModules) = false) (hl : look kvs k = none) (hz : kvs.length ≤ 1000)
    (h : ∀ h' tk a D t1 t2, Made w s B d kvs ep k t h' a D t1 t2 → R (.ok (.ret (.ref a))) { s with heap := h', toks := tk }) :
    codeAny (model PySem.Challenge.rw_in0185_01.row.prog w) (AA 500 3000 l) (.call (.ref 98) ⟨[.ref B, .str k t], []⟩) R s := by
  have X₀ := K_of_KK X₁
  revert X₀; k_fill; intro X₀
  have f1 : subIn (hk.heap_39 w.params) (.ref 108) (.type "module") = some false := by k_is
  have f2 : (clsIn (hk.heap_39 w.params) 108).map (fun c => c.qualname.toString) = some "FreezableDefaultDict" := by kernel_rfl
  have f3 : typeIn (hk.heap_39 w.params) (.ref 108) = some (.type "type") := by k_is
  have f4 : subIn (hk.heap_39 w.params) (.ref 108) (.type "collections.OrderedDict") = some false := by k_is
  refine miss98 (ga := fun M => M) X₁ T D (fun s' l' M t' x => getattr_unfrozen (X₁.keeps x) (x _ _ D.1) (x _ _ D.2)) ?_ ?_
  · intro h M x m
    exact ⟨.machine, .inr (.inl rfl), (Looks.ld (part := none) m).andThen .now⟩
  · intro env' h1 tk M x m0 m1
    have D1 : BookAt w h1 B d kvs ep [] fp := ⟨x _ _ D.1, x _ _ D.2⟩
    refine wpAny_call (bound_call (s := ⟨h1, _, _, _, _⟩) m1 (fun {Q' E'} q => check_bound (s := ⟨h1, _, _, _, _⟩) (X₀.keeps x) D1 f1 f2 f3 q) (plainId_quiet mi_plain _) ?_)
    refine dd_missing (s := ⟨h1, _, _, _, _⟩) (l := env' :: l) (X₁.keeps x) (T.keeps x) (X₀.keeps x) D1 f4 hn hl hz rfl (Nat.le_of_ble_eq_true rfl) rfl rfl (Nat.le_of_ble_eq_true rfl) fun h2 tk2 a D t1 t2 M => ?_
    have back : ∀ z, h1.get? z = none → s.heap.get? z = none := fun z e => by
      cases q : s.heap.get? z with
      | none => rfl
      | some o => have := x _ _ q; rw [e] at this; cases this
    exact h h2 tk2 a D t1 t2 ⟨M.book, back _ M.a0, M.a1, back _ M.d0, M.d1, fun b o hb e => M.keep b o hb (x _ _ e)⟩
end
end Mine
end
section
open PySem PySem.W PyProof.Rows PySem.Spec
set_option Elab.async false
set_option maxRecDepth 100000
set_option maxHeartbeats 8000000
namespace Mine
theorem enterPC {prog : Program} {w : World} {A : Around} {s : Shared} {K : Frag} {R : Result → Shared → Prop} {name qual : Str} {params : Arguments} {body : List Stmt} {scope : Scope} {dV kV doc pm cdv ct oc : Value} {an od : Option Addr} {osl : Array (Option Value)} {f : Addr} {args : Args} {binds : List (Str × Value)}
    (X : K.In s.heap) (hlim : s.heap.NoLimit) (ho : K.lookup f = some ⟨oc, od, .func (fnX name qual params body scope [] dV kV doc pm an cdv ct), osl⟩) (hcd : codeIn K cdv qual = true) (hroom : A.depth < recursionLimit)
    (hbind : BindsTo s (fnX name qual params body scope [] dV kV doc pm an cdv ct) args binds) (hkind : (binds.all fun y => scope.names.lookup y.1 == some .local || scope.names.lookup y.1 == some .cell) = true)
    (hnd : ((cellsFrom 0 scope.names []).map (·.1)).Nodup)
    (h : ∀ h₁ tk cells, Fr s.heap s.heap.objs.size h₁ (bindL (envOfC qual scope s.heap.objs.size f cdv).kindOf binds fun _ => none) → News s.heap s.heap.objs.size h₁ cells →
      CellsAre (bindC (envOfC qual scope s.heap.objs.size f cdv).kindOf binds fun _ => none) (cellsFrom (s.heap.objs.size + 1) scope.names []) cells →
      wpAny (model prog w) (A.deeper (envOfC qual scope s.heap.objs.size f cdv)) (execs body (envOfC qual scope s.heap.objs.size f cdv))
        (fun fl s' => R (.ok (.ret (match fl with | .ret v => v | _ => .none))) s')
        (fun e s' => wpAny (model prog w) (A.deeper (envOfC qual scope s.heap.objs.size f cdv)) (leaving (envOfC qual scope s.heap.objs.size f cdv) e) (fun _ s'' => R (.error e) s'') (fun e' s'' => R (.error e') s'') s')
        { s with heap := h₁, toks := tk })
    (hco : scope.isCoroutine = false) (hgen : scope.isGenerator = false) (hk : scope.kind = .function) : codeAny (model prog w) A (.call (.ref f) args) R s := by
  refine codeAny_call_function hroom (X _ _ ho) rfl hco hgen rfl (codeRec_of X hcd) (hbind _ _ _ _ ?_)
  refine wpAny_newFunctionEnv_cells hk (kindsX hkind _) fun env' he s' x => ?_
  subst he
  refine ⟨hlim.keeps x.toInCall.keep, codeAny_func ?_⟩
  obtain ⟨h₁, tk, rfl, _⟩ := x.done
  have hk₁ := x.toInCall.keep
  obtain ⟨cells, NC, Y⟩ := Cl.news (h₀ := s.heap) (Nat.le_refl _) fun n c hm => ⟨x.cell n c (lookup_of_mem_nodup (cellsFrom_names scope.names 0 (s.heap.objs.size + 1) [] [] rfl ▸ hnd) hm), x.above n c hm⟩
  exact h h₁ tk cells ⟨x.toInCall.ns, fun b o e => hk₁ b o e, Nat.le_refl _⟩ NC Y
theorem news_base {g h h₁ : Heap} {L : Addr} {ns : List (Addr × Obj)} (G : Base g h) (N : News h L h₁ ns) : News g L h₁ ns := fun p hp => ⟨(N p hp).1, (N p hp).2.1, by
  cases q : g.get? p.1 with
  | none => rfl
  | some o => have := G.stays _ _ q; rw [(N p hp).2.2] at this; cases this⟩
theorem news_app {g h₁ : Heap} {L : Addr} {a b : List (Addr × Obj)} (N : News g L h₁ a) (N' : News g L h₁ b) : News g L h₁ (a ++ b) := fun p hp => (List.mem_append.mp hp).elim (N p) (N' p)
end Mine
end
section
open PySem PySem.W PyProof.Rows PySem.Spec
open PySem.Builtin.ObjectAttr
set_option Elab.async false
set_option maxRecDepth 100000
set_option maxHeartbeats 4000000
namespace Mine
abbrev frozenName : Str := Str.ofString "_frozen"
abbrev bookMro : List Value := [.ref 108, .type "collections.defaultdict", .type "dict", .type "object"]
theorem book_passes (self : Value) : refuseLoop self "__setattr__" bookMro = pure () := by
  show refuseLoop self "__setattr__" [.ref 108, .type "collections.defaultdict", .type "dict", .type "object"] = pure ()
  rw [refuseLoop_ref]
  kernel_rfl
section
variable {prog : Program} {w : World} {A : Around} {E : Value → Shared → Prop} {s : Shared} {K : Frag} {B d : Addr} {kvs : KVs} {ep : Nat} {fs : List DictEntry} {fp : Nat} {R : Result → Shared → Prop}
theorem osa_open2 {x C : Addr} {ox : Obj} {od : Option Obj} {name : Str} {tk : Tok} {v : Value} {r : Option Value} {l : List Value} (X : K.In s.heap) (I : InstAt s.heap x ox C od) (hc : (clsIn K C).map (·.mro) = some l) (hp : refuseLoop (.ref x) "__setattr__" l = pure ()) (ho : subIn K (.ref C) (.type "object") = some true) (ht : takerIn K C name = some r)
    (h : ∀ b, wpAny (model prog w) A.in1 (match r with | some a => setByDescriptor a (.ref x) v | none => storeInOwnDict (.ref x) (.ref C) (.str name tk) name v b)
      (fun fin s' => match fin with | .done f => R (.ok f) s' | .again c' => c'.quiet = true ∧ codeAny (model prog w) A c' R s') (fun e s' => R (.error e) s') s) :
    codeAny (model prog w) A (.call (.builtin "object.__setattr__") ⟨[.ref x, .str name tk, v], []⟩) R s := by
  have SF := PySem.F.store_object
  obtain ⟨cd, hc1, rfl⟩ := Option.map_eq_some_iff.mp hc
  have sub : Looks (model prog w) s.heap (isInstance (.ref x) (.type "object")) true := I.type.andThen (looks_subIn X ho)
  refine codeAny_call_builtin SF.slot.plain SF.entry (@check_slot (model prog w) _ _ s "object.__setattr__" "object" "__setattr__" (.ref x) [.str name tk, v] [] _ SF.kind SF.split sub (SF.args (.ref x) (.str name tk) v) ?_)
  obtain ⟨attr, ha, hr⟩ := Option.bind_eq_some_iff.mp ht
  have hm : Looks (model prog w) s.heap (mroOf (.ref C)) cd.mro := (looks_clsIn X hc1).andThen .now
  have L3 : Looks (model prog w) s.heap (storeTaker? attr) r := by
    cases attr with
    | none => cases hr; exact .now
    | some a =>
      obtain ⟨b, hb, rfl⟩ := Option.map_eq_some_iff.mp hr
      refine (looks_takesIn X hb).andThen ?_
      cases b <;> exact .now
  rw [osa_eq, refuse_eq]
  refine wpAny_bind (wpAny_bind (I.type.here (wpAny_bind (hm.here ?_))))
  rw [hp]
  refine wpAny_pure (wpAny_bind (I.type.here (wpAny_bind ((looks_findIn X ha).here (wpAny_bind (L3.here ?_))))))
  exact h _
theorem book_setattr {v : Value} {Q : Unit → Shared → Prop} (X : K.In s.heap) (D : BookAt w s.heap B d kvs ep [] 0) (hc : (clsIn K 108).map (·.mro) = some bookMro) (ho : subIn K (.ref 108) (.type "object") = some true) (ht : takerIn K 108 frozenName = some none) (hh : (clsIn K 108).any (·.hasDict) = true)
    (hs : findIn K (.ref 108) "__setattr__" = some (some (.builtin "object.__setattr__")))
    (h : ∀ h' tk t hs, Heap.SameBut d s.heap h' → h'.get? d = some (dictObj [⟨hs, .str frozenName t, v⟩] 1) → Q () { s with heap := h', toks := tk }) : wpAny (model prog w) A (setAttr (.ref B) frozenName v) Q E s := by
  refine set_plain X (book_inst D) hs ?_
  refine osa_open2 (s := { s with toks := s.toks + 1 }) (r := none) X (book_inst D) hc (book_passes _) ho ht fun b => ?_
  obtain ⟨cd, hc', hd'⟩ := any_some hh
  refine wpAny_bind (wpAny_pure (wpAny_bind (wpAny_bind (wpAny_loadPart (s := { s with toks := s.toks + 1 }) D.1 (wpAny_bind ((looks_clsIn (h := s.heap) X hc').here (s := { s with toks := s.toks + 1 }) ?_))))))
  rw [hd']
  refine wpAny_pure (a := some d) (wpAny_bind (wpAny_pure (wpAny_bind ?_)))
  unfold nsSet
  refine wpAny_bind (wpAny_bind (wpAny_askSetting (wpAny_pure (wpAny_bind (wpAny_mkText (wpAny_bind (wpAny_loadPart (s := { s with toks := s.toks + 1 + 1 }) D.2 ?_)))))))
  dsimp only
  rw [aRefKeyMayBeTheName_at]
  rw [show (!(#[] : Array DictEntry).any (·.key.isStr frozenName) && (#[] : Array DictEntry).any (·.refKey)) = false from by simp]
  refine wpAny_updatePart (s := { s with toks := s.toks + 1 + 1 }) D.2 ?_
  have D' := Heap.get?_update_self (Obj.putName frozenName (PyData.keyHash w.params frozenName) (.str frozenName (s.toks + 1)) v) D.2 rfl
  refine wpAny_bind (wpAny_lookBehind (s := { s with heap := _, toks := s.toks + 1 + 1 }) D' (pastItsLine_dict (Nat.le_of_ble_eq_true rfl)) ?_)
  exact wpAny_pure (h _ _ _ _ (Heap.SameBut.update ..) D')
end
end Mine
end
section
open PySem PySem.W PyProof.Rows PySem.Spec
set_option Elab.async false
set_option maxRecDepth 100000
set_option maxHeartbeats 8000000
namespace Mine
abbrev lamQual : Str := (Str.ofString "FreezableDefaultDict.freeze" ++ ".<locals>.") ++ Str.ofString "<lambda>"
abbrev lamParams : Arguments := { posonlyargs := [], args := [{ arg := Str.ofString "key", annotation := none, pos := { line := 43, col := 30, endLine := 43, endCol := 33 } }], vararg := none, kwonlyargs := [], kw_defaults := [], kwarg := none, defaults := [] }
abbrev lamBody : Expr := (((Expr.Name (Str.ofString "self") { line := 43, col := 35, endLine := 43, endCol := 39 }).Attribute (Str.ofString "default_factory") { line := 43, col := 35, endLine := 43, endCol := 55 }).Call [] [] { line := 43, col := 35, endLine := 43, endCol := 57 })
abbrev lamScope : Scope := { kind := ScopeKind.function, names := [(Str.ofString "key", NameKind.local), (Str.ofString "self", NameKind.free)], isGenerator := false, isCoroutine := false }
abbrev lamObj (cell : Addr) (pm : Value) (c : Addr) (ct : Value) : Obj := kla_obj (Str.ofString "<lambda>") lamQual lamParams lamBody lamScope [(Str.ofString "self", cell)] pm c ct
def LamAt (h : Heap) (f B : Addr) : Prop := ∃ cell oc pm c ct, h.get? f = some (lamObj cell pm c ct) ∧ h.get? cell = some oc ∧ oc.data = .cell (some (.ref B)) ∧ h.CodeRec (.ref c) lamQual
def TabE (h : Heap) : Prop := h.get? 100 = some (tabObj #[])
def TabF (h : Heap) : Prop := ∃ c, h.get? 100 = some (tabObj #[rawInt 43, rawInt 23, .ref c]) ∧ h.CodeRec (.ref c) lamQual
theorem base_hide {g h : Heap} {a : Addr} (G : Base g h) (ha : g.get? a = none) : ∀ b o, g.get? b = some o → (h.hide a).get? b = some o := fun b o e => (Heap.hide_ne h fun q => by rw [q, ha] at e; cases e).trans (G.stays b o e)
theorem freeze_ok {w : World} {l : List Env} {s : Shared} {g : Heap} {R : Result → Shared → Prop} {p : Program} {loose : List Str} {mean : ExcName → Option Value} {mg mb : Str → Option Value} {B d : Addr} {kvs : KVs} {ep : Nat}
    (G : Base g s.heap) (X₁ : (KK w.params).In g) (T₁ : Top p loose mean mg mb g) (D : BookAt w s.heap B d kvs ep [] 0) (h100 : g.get? 100 = none) (hne : d ≠ 100) (hB : B ≠ 100) (tab : TabE s.heap ∨ TabF s.heap)
    (h : ∀ h' tk f hs t, (∀ b o, b ≠ d → b ≠ 100 → s.heap.get? b = some o → h'.get? b = some o) → h'.get? d = some (dictObj [⟨hs, .str frozenName t, .ref f⟩] 1) → LamAt h' f B → TabF h' → R (.ok (.ret .none)) { s with heap := h', toks := tk }) :
    codeAny (model PySem.Challenge.rw_in0185_01.row.prog w) (AA 500 3000 l) (.call (.ref 105) ⟨[.ref B], []⟩) R s := by
  have X : (KK w.params).In (s.heap.hide 100) := X₁.keeps (base_hide G h100)
  have T := T₁.keeps (base_hide G h100)
  have X₀ := K_of_KK X
  have st : ∀ b o, (s.heap.hide 100).get? b = some o → s.heap.get? b = some o := fun b o e => Heap.of_hide e
  have GB : Base (s.heap.hide 100) s.heap := ⟨st, Nat.le_of_eq (Heap.hide_size _ _)⟩
  revert X₀; k_fill; intro X₀
  have f1 : (clsIn (hk.heap_39 w.params) 108).map (·.mro) = some bookMro := by kernel_rfl
  have f2 : subIn (hk.heap_39 w.params) (.ref 108) (.type "object") = some true := by k_is
  have f3 : takerIn (hk.heap_39 w.params) 108 frozenName = some none := by kernel_rfl
  have f4 : (clsIn (hk.heap_39 w.params) 108).any (·.hasDict) = true := by kernel_rfl
  have f5 : findIn (hk.heap_39 w.params) (.ref 108) "__setattr__" = some (some (.builtin "object.__setattr__")) := by k_is
  obtain ⟨ps, h100', hps⟩ : ∃ ps, s.heap.get? 100 = some (tabObj ps) ∧ ((ps = #[]) ∨ ∃ c, ps = #[rawInt 43, rawInt 23, .ref c] ∧ s.heap.CodeRec (.ref c) lamQual) := by
    rcases tab with t | ⟨c, t, r⟩
    · exact ⟨_, t, .inl rfl⟩
    · exact ⟨_, t, .inr ⟨c, rfl, r⟩⟩
  have lt100 : 100 < s.heap.objs.size := Heap.lt_size h100'
  have ltd : d < s.heap.objs.size := Heap.lt_size D.2
  w_top off
  refine' enterPC (fun a o e => st _ _ (X₀ a o e)) (T.keeps st).nolimit ?k6 ?k7 ?k8 ?k9 ?kB ?kN ?_ ?c2 ?c3 ?c4
  case k6 => k_is
  case k7 => k_is
  case k8 => k_room
  case k9 => exact BindsTo.of_eq rfl
  case kB => rfl
  case kN => decide
  case c2 => exact rfl
  case c3 => exact rfl
  case c4 => exact rfl
  intro h₁ tk cells F N Y
  have NT : Apart (s.heap.hide 100) s.heap [(100, tabObj ps)] := fun p hp => by
    cases hp with
    | head => exact ⟨h100', Heap.hide_self _ _⟩
    | tail _ q => cases q
  have N' := news_app (news_base GB N) (NT.news F)
  replace F := GB.fr F
  clear N
  have kX := kFor F X₀
  have hY := CellsAre.one Y
  obtain ⟨oc, hE, dc⟩ := hY
  subst hE
  clear Y
  simp only [List.cons_append, List.nil_append] at N'
  (try dsimp only); (try k_fold)
  have dc' : oc.data = .cell (some (.ref B)) := dc
  clear dc
  have D' : BookAt w (s.heap.hide 100) B d kvs ep [] 0 := ⟨(Heap.hide_ne s.heap hB).trans D.1, (Heap.hide_ne s.heap hne).trans D.2⟩
  k_steps
  have C : CodeHd (s.heap.hide 100) 104 100 := codeHd_of_K X₀ (by kernel_rfl)
  refine kla_eval rfl ?_
  rcases hps with rfl | ⟨c, rfl, rc⟩
  · refine' kla_nest F N' T C rfl ?U ?t ?n rfl ?_
    case U => exact .tail (by show s.heap.objs.size + 1 ≠ 100; omega) (.head (fun p hp => nomatch hp))
    case t => exact True.intro
    case n => rfl
    intro f c oc2 vs t ct h2 tk2 F2 N2 d1 d2 l1 l2
    clear F N'
    have ld2 : d < c := Nat.lt_trans ltd (Nat.lt_of_succ_lt (l1 _ (.head _)))
    k_steps
    rename Fr _ _ _ _ => F2
    have D2 : BookAt w h2 B d kvs ep [] 0 := ⟨F2.keep _ _ D'.1, F2.keep _ _ D'.2⟩
    refine book_setattr (s := ⟨h2, _, _, _, _⟩) (X₀.keeps F2.keep) D2 f1 f2 f3 f4 f5 ?_
    intro h3 tk3 t3 hs3 sb e3
    have nd : ∀ b o, h2.get? b = some o → (b ≠ d) → h3.get? b = some o := fun b o e q => (sb.2 b q).trans e
    have keep : ∀ b o, b ≠ d → b ≠ 100 → s.heap.get? b = some o → h3.get? b = some o := fun b o q1 q2 e => nd b o (F2.keep b o ((Heap.hide_ne s.heap q2).trans e)) q1
    k_steps
    refine h h3 _ f hs3 t3 keep e3 ?_ ?_
    · exact ⟨s.heap.objs.size + 1, oc, _, c, ct, nd _ _ (N2 _ (.head _)).1 (Nat.ne_of_gt (Nat.lt_trans ld2 l2)), nd _ _ (N2 _ (.tail _ (.tail _ (.head _)))).1 (Nat.ne_of_gt (Nat.lt_of_lt_of_le ltd (Nat.le_succ _))), dc', ⟨c, oc2, vs, t, rfl, nd _ _ (N2 _ (.tail _ (.head _))).1 (Nat.ne_of_gt ld2), d1, d2⟩⟩
    · exact ⟨c, nd _ _ (N2 _ (.tail _ (.tail _ (.tail _ (.head _))))).1 (Ne.symm hne), ⟨c, oc2, vs, t, rfl, nd _ _ (N2 _ (.tail _ (.head _))).1 (Nat.ne_of_gt ld2), d1, d2⟩⟩
  · refine' kla_hit (c' := c) F N' T C rfl ?mem ?t ?n rfl ?_
    case mem => exact .tail _ (.head _)
    case t => exact True.intro
    case n => rfl
    intro f ct h2 tk2 F2 N2 l1
    clear F N'
    have ld2 : d < f := Nat.lt_trans ltd (Nat.lt_of_succ_lt (l1 _ (.head _)))
    k_steps
    rename Fr _ _ _ _ => F2
    have D2 : BookAt w h2 B d kvs ep [] 0 := ⟨F2.keep _ _ D'.1, F2.keep _ _ D'.2⟩
    refine book_setattr (s := ⟨h2, _, _, _, _⟩) (X₀.keeps F2.keep) D2 f1 f2 f3 f4 f5 ?_
    intro h3 tk3 t3 hs3 sb e3
    have nd : ∀ b o, h2.get? b = some o → (b ≠ d) → h3.get? b = some o := fun b o e q => (sb.2 b q).trans e
    have keep : ∀ b o, b ≠ d → b ≠ 100 → s.heap.get? b = some o → h3.get? b = some o := fun b o q1 q2 e => nd b o (F2.keep b o ((Heap.hide_ne s.heap q2).trans e)) q1
    k_steps
    have rec3 : h3.CodeRec (.ref c) lamQual := by
      obtain ⟨c', oc', vs', t', e1, e2, e3', e4⟩ := rc
      cases e1
      refine ⟨c, oc', vs', t', rfl, keep c oc' (fun q => ?_) (fun q => ?_) e2, e3', e4⟩
      · rw [q, D.2] at e2; cases e2; cases e3'
      · rw [q, h100'] at e2; cases e2; cases e3'; cases e4
    refine h h3 _ f hs3 t3 keep e3 ?_ ?_
    · exact ⟨s.heap.objs.size + 1, oc, _, c, ct, nd _ _ (N2 _ (.head _)).1 (Nat.ne_of_gt ld2), nd _ _ (N2 _ (.tail _ (.head _))).1 (Nat.ne_of_gt (Nat.lt_of_lt_of_le ltd (Nat.le_succ _))), dc', rec3⟩
    · exact ⟨c, nd _ _ (N2 _ (.tail _ (.tail _ (.head _)))).1 (Ne.symm hne), rec3⟩
end Mine
end
section
open PySem PySem.W PyProof.Rows PySem.Spec PySem.W.X
set_option Elab.async false
set_option maxRecDepth 100000
set_option maxHeartbeats 0
namespace Mine
section
theorem getattr_frozen {w : World} {s : Shared} {l : List Env} {B d M f : Addr} {t t' : Tok} {hs : Int} {es : List DictEntry} {ep fp : Nat} (X : (KK w.params).In s.heap) (hB : s.heap.get? B = some ⟨.ref 108, some d, .dict { toList := es } ep, #[some (.ref 227)]⟩) (hd : s.heap.get? d = some ⟨.type "dict", none, .dict { toList := [⟨hs, .str (Str.ofString "_frozen") t', .ref f⟩] } fp, #[]⟩) :
    wpAny (model PySem.Challenge.rw_in0185_01.row.prog w) (AA 600 4000 l) (Sc (.call (.builtin "getattr") ⟨[.ref B, .str (Str.ofString "_frozen") t, .ref M], []⟩)) (Rets s fun v h => v = .ref f) (fun _ _ => False) s := by
  have B0 := b_get X
  revert X B0; k_fill; intro X B0
  x_run
theorem factory_get {w : World} {s : Shared} {l : List Env} {B d : Addr} {es : List DictEntry} {ep : Nat} (X : (KK w.params).In s.heap) (hB : s.heap.get? B = some ⟨.ref 108, some d, .dict { toList := es } ep, #[some (.ref 227)]⟩) :
    wpAny (model PySem.Challenge.rw_in0185_01.row.prog w) (AA 600 4000 l) (Sc (.call (.builtin "member_descriptor.__get__") ⟨[.builtin "collections.defaultdict.default_factory", .ref B, .ref 108], []⟩)) (Rets s fun v h => v = .ref 227) (fun _ _ => False) s := by
  have B0 := b_get X
  revert X B0; k_fill; intro X B0
  x_run
end
section
variable {prog : Program} {w : World} {A : Around} {E : Value → Shared → Prop} {s : Shared} {K : Frag} {x C : Addr} {ox : Obj} {od : Option Obj} {name : Str} {l : List Env}
theorem get_bind3 {a : Value} {expr : Bool} {T gid id : String} {Q : Value → Shared → Prop}
    (X : K.In s.heap) (I : InstAt s.heap x ox C od) (hga : findIn K (.ref C) "__getattribute__" = some (some (.builtin gid))) (hne : (Value.builtin gid == Value.builtin "object.__getattribute__") = false)
    (hb : ∀ self, bindSpecial (.builtin gid) self = pure (.builtin gid, [self])) (hp : plainId gid = true) (hk : builtinKind gid = some .slot) (hs : splitId gid = some (T, "__getattribute__"))
    (en : entryFor table gid = some Builtin.«object.__getattribute__») (ar : ∀ a b, argsOk gid ⟨[a, b], []⟩) (hi : subIn K (.ref C) (.type T) = some true) (hk0 : findIn K (.ref C) "__getattr__" = some none)
    (hf : findObj K C od name = some (.bind (.builtin id) a))
    (h : wpAny (model prog w) A.in1 (call (.builtin id) [a, .ref x, .ref C]) (fun v s' => wpAny (model prog w) A (handedOut v) Q E s') (fun _ _ => False) { s with toks := s.toks + 1 }) :
    wpAny (model prog w) A (getAttr (.ref x) name expr) Q E s := by
  refine get_open2 X I hga hne hb hp hk hs en ar hi hk0 ?_
  obtain ⟨hh', gg, d, t, os⟩ := s
  have L0 := I.type (M := model prog w)
  have L1 := looks_find (M := model prog w) X I hf
  refine wpAny_bind (wpAny_pure (wpAny_bind (wpAny_pure (wpAny_bind (L0.at (wpAny_bind (L1.at ?_)))))))
  show wpAny _ _ (holding [a] (call (.builtin id) [a, .ref x, .ref C]) >>= ret) _ _ _
  exact wpAny_bind (wpAny_holding (wpAny_mono h (fun v s' z => wpAny_pure z) fun _ _ z => z))
theorem method_usual2 {r : Value} {gid : String} {pl : Sem Bool} {Q : Value × List Value → Shared → Prop} (X : K.In s.heap) (I : InstAt s.heap x ox C od) (hga : findIn K (.ref C) "__getattribute__" = some (some (.builtin gid))) (hcan : Manifest.canonical gid = "object.__getattribute__") (hk : findIn K (.ref C) "__getattr__" = some none)
    (hf : findIn K (.ref C) name = some (some r)) (ht : (typeIn K r).any (fun t => t != .type "function" && t != .type "method_descriptor" && t != .type "wrapper_descriptor") = true)
    (h : wpAny (model prog w) A (getAttr (.ref x) name) (fun v => Q (v, [])) E s) : wpAny (model prog w) A (getMethod (.ref x) name pl) Q E s := by
  have u : wpAny (model prog w) A (do return (← getAttr (.ref x) name, ([] : List Value))) Q E s := wpAny_bind (wpAny_mono h (fun _ _ z => wpAny_pure z) fun _ _ z => z)
  unfold getMethod specialOf
  refine wpAny_bind (wpAny_bind (I.type.here ((looks_findIn X hga).here ?_)))
  dsimp only
  rw [hcan, if_neg (by decide)]
  refine wpAny_bind (wpAny_bind (I.type.here ((looks_findIn X hk).here ?_)))
  refine wpAny_bind (wpAny_bind (I.type.here ((looks_findIn X hf).here ?_)))
  obtain ⟨t, a1, a2⟩ := any_some ht
  refine wpAny_bind ((looks_typeIn X a1).here ?_)
  rw [if_pos a2]; exact u
/-- a method of an object of a class that a built-in type stands above -/
theorem method_fn2 {f : Addr} {gid : String} {pl : Sem Bool} {Q : Value × List Value → Shared → Prop} (X : K.In s.heap) (I : InstAt s.heap x ox C od) (hga : findIn K (.ref C) "__getattribute__" = some (some (.builtin gid))) (hcan : Manifest.canonical gid = "object.__getattribute__") (hk : findIn K (.ref C) "__getattr__" = some none)
    (hf : findIn K (.ref C) name = some (some (.ref f))) (ht : typeIn K (.ref f) = some (.type "function")) (hs : shadowIn od name = some false) (h : Q (.ref f, [.ref x]) s) :
    wpAny (model prog w) A (getMethod (.ref x) name pl) Q E s := by
  unfold getMethod specialOf
  refine wpAny_bind (wpAny_bind (I.type.here ((looks_findIn X hga).here ?_)))
  dsimp only
  rw [hcan, if_neg (by decide)]
  refine wpAny_bind (wpAny_bind (I.type.here ((looks_findIn X hk).here ?_)))
  refine wpAny_bind (wpAny_bind (I.type.here ((looks_findIn X hf).here (wpAny_bind ((looks_typeIn X ht).here ?_)))))
  rw [if_neg (by decide +kernel)]
  refine wpAny_bind (wpAny_loadPart I.at_ ?_)
  have hd := I.dict
  cases e : ox.dict with
  | none => exact wpAny_bind (wpAny_rule (wpAny_pure h))
  | some dx =>
    cases od with
    | none => rw [e] at hd; exact hd.elim
    | some o =>
      rw [e] at hd
      obtain ⟨r, a, b⟩ := Option.map_eq_some_iff.mp hs
      refine wpAny_bind (wpAny_bind (wpAny_loadPart hd ?_))
      rw [nsLook_of a]
      refine wpAny_pure ?_
      rw [b]
      exact wpAny_bind (wpAny_rule (wpAny_pure h))
end
abbrev ddga : String := "collections.defaultdict.__getattribute__"
theorem dga_kind : builtinKind ddga = some .slot := by decide +kernel
theorem dga_split : splitId ddga = some ("collections.defaultdict", "__getattribute__") := by decide +kernel
theorem dga_canon : Manifest.canonical ddga = "object.__getattribute__" := by decide +kernel
theorem dga_entry : entryFor table ddga = some Builtin.«object.__getattribute__» := entryFor_alias (id' := "object.__getattribute__") (by kernel_rfl) (by decide +kernel) (by decide +kernel) (by kernel_rfl)
theorem dga_slot : Slot "collections.defaultdict" "__getattribute__" ddga :=
  .of (owner := "collections.defaultdict") (n := "__getattribute__") (by rw [typeLookup_type, builtinLookup_eq_fast]; kernel_rfl) (by decide +kernel) (by decide +kernel) (by decide +kernel)
    (by first | exact .inl (by decide +kernel) | exact .inr (by decide +kernel)) (by rw [isSubtype_type]; kernel_rfl)
theorem dga_args (a b : Value) : argsOk ddga ⟨[a, b], []⟩ := by unfold argsOk; kernel_rfl
section
variable {w : World} {A : Around} {E : Value → Shared → Prop} {s : Shared} {l : List Env} {B d : Addr} {kvs : KVs} {ep : Nat} {fs : List DictEntry} {fp : Nat}
theorem factory_method {pl : Sem Bool} {Q : Value × List Value → Shared → Prop} (X : (KK w.params).In s.heap) (D : BookAt w s.heap B d kvs ep fs fp) (hf : findObj (hk.heap_39 w.params) 108 (some (dictObj fs fp)) "default_factory" = some (.bind (.builtin "member_descriptor.__get__") (.builtin "collections.defaultdict.default_factory")))
    (a1 : A.handled = none) (a2 : A.depth ≤ 600) (a3 : A.frames = some l) (a4 : A.guards = some []) (a5 : A.in1.units ≤ 4000)
    (h : ∀ h' tk, Ext s.heap h' → Q (.ref 227, []) { s with heap := h', toks := tk }) : wpAny (model PySem.Challenge.rw_in0185_01.row.prog w) A (getMethod (.ref B) "default_factory" pl) Q E s := by
  have X₀ := K_of_KK X
  revert X₀ hf; k_fill; intro hf X₀
  have g1 : findIn (hk.heap_39 w.params) (.ref 108) "__getattribute__" = some (some (.builtin ddga)) := by k_is
  have g2 : findIn (hk.heap_39 w.params) (.ref 108) "__getattr__" = some none := by k_is
  have g3 : findIn (hk.heap_39 w.params) (.ref 108) "default_factory" = some (some (.builtin "collections.defaultdict.default_factory")) := by k_is
  have g4 : (typeIn (hk.heap_39 w.params) (.builtin "collections.defaultdict.default_factory")).any (fun t => t != .type "function" && t != .type "method_descriptor" && t != .type "wrapper_descriptor") = true := by kernel_rfl
  have g5 : subIn (hk.heap_39 w.params) (.ref 108) (.type "collections.defaultdict") = some true := by k_is
  refine method_usual2 X₀ (book_inst D) g1 dga_canon g2 g3 g4 ?_
  refine get_bind3 (T := "collections.defaultdict") X₀ (book_inst D) g1 (by decide) dga_slot.bind dga_slot.plain dga_kind dga_split dga_entry dga_args g5 g2 hf ?_
  exact call_rets (upW (factory_get (s := ⟨s.heap, _, _, _, _⟩) X D.1) a1 a2 a3 a4 a5) fun v h' tk x e => by subst e; exact handed_on rfl (h h' tk x)
theorem find_factory2 (P : Params) (fp : Nat) (hs : Int) (t : Tok) (f : Addr) : findObj (hk.heap_39 P) 108 (some (dictObj [⟨hs, .str frozenName t, .ref f⟩] fp)) "default_factory" = some (.bind (.builtin "member_descriptor.__get__") (.builtin "collections.defaultdict.default_factory")) := by kernel_rfl
end
end Mine
end
section
open PySem PySem.W PyProof.Rows PySem.Spec
set_option Elab.async false
set_option maxRecDepth 100000
set_option maxHeartbeats 8000000
namespace Mine
theorem any_Method {prog : Program} {w : World} {A : Around} {E : Value → Shared → Prop} {s : Shared} {env : Env} {x name : Str} {p apos pos : Pos} {pl : Sem Bool} {Q : Value → Shared → Prop}
    (h : wpAny (model prog w) A (eval (.Name x p) env) (fun ov s1 => wpAny (model prog w) A (getMethod ov name pl) (fun fx s2 => wpAny (model prog w) A (callWith pos fx.1 fx.2 [] []) Q E s2) E s1) E s)
    (he : eval (.Call (.Attribute (.Name x p) name apos) [] [] pos) env = (do let ov ← eval (.Name x p) env; standAt apos.atName; let (f, first) ← holding [ov] (getMethod ov name pl); callWith pos f first [] [])) :
    wpAny (model prog w) A (eval (.Call (.Attribute (.Name x p) name apos) [] [] pos) env) Q E s := by
  rw [he]
  exact wpAny_bind (wpAny_mono h (fun ov s₁ h₁ => wpAny_bind (wpAny_standAt (wpAny_bind (wpAny_holding (wpAny_mono h₁ (fun fx s₂ h₂ => h₂) fun _ _ x => x))))) fun _ _ x => x)
set_option pp.deepTerms false
theorem lam_call {w : World} {l : List Env} {s : Shared} {R : Result → Shared → Prop} {p : Program} {loose : List Str} {mean : ExcName → Option Value} {mg mb : Str → Option Value} {B d f : Addr} {kvs : KVs} {ep fp : Nat} {fs : List DictEntry} {k : Str} {t : Tok}
    (X : (KK w.params).In s.heap) (T : Top p loose mean mg mb s.heap) (D : BookAt w s.heap B d kvs ep fs fp) (hfd : findObj (hk.heap_39 w.params) 108 (some (dictObj fs fp)) "default_factory" = some (.bind (.builtin "member_descriptor.__get__") (.builtin "collections.defaultdict.default_factory")))
    (hl : LamAt s.heap f B)
    (h : ∀ h' tk a D t1 t2, Ext s.heap h' → s.heap.get? a = none → h'.get? a = some (listObj #[.ref D] 0) → s.heap.get? D = none → h'.get? D = some (placeObj (0, 7) t1 t2) → R (.ok (.ret (.ref a))) { s with heap := h', toks := tk }) :
    codeAny (model PySem.Challenge.rw_in0185_01.row.prog w) (AA 540 3400 l) (.call (.ref f) ⟨[.str k t], []⟩) R s := by
  obtain ⟨cell, oc, pm, c, ct, hf, hc, hcd, hcode⟩ := hl
  have X₀ := K_of_KK X
  revert X₀ hfd; k_fill; intro hfd X₀
  refine kla_callFunE (Nat.le_of_ble_eq_true rfl) hf rfl rfl rfl rfl hcode ?_
  refine wpAny_pure (wpAny_newFunctionEnv (show ∀ x ∈ lamScope.names, x.2 ≠ NameKind.cell by decide) (locs rfl) (fun h₁ hns hsb => ⟨T.nolimit.fresh _ hsb, ?_⟩) rfl)
  show codeAny _ _ (.expr lamBody (envX lamQual lamScope s.heap.objs.size f (.ref c) [(Str.ofString "self", cell)])) _ _
  have hk₁ : ∀ b o, s.heap.get? b = some o → h₁.get? b = some o := fun b o e => hsb.extBut b o (Nat.ne_of_lt (Heap.lt_size e)) (Heap.get?_push_of_some _ e)
  refine kla_codeExpr ?_
  refine any_Method ?_ rfl
  refine wpAny_Name (wpAny_loadName_free (env := envX lamQual lamScope s.heap.objs.size f (.ref c) [(Str.ofString "self", cell)]) (name := Str.ofString "self") (c := cell) rfl rfl rfl ⟨oc, hk₁ _ _ hc, hcd⟩ ?_ (by decide)) (by decide)
  have D1 : BookAt w h₁ B d kvs ep fs fp := ⟨hk₁ _ _ D.1, hk₁ _ _ D.2⟩
  refine factory_method (s := ⟨h₁, _, _, _, _⟩) (X.keeps hk₁) D1 hfd rfl (Nat.le_of_ble_eq_true rfl) rfl rfl (Nat.le_of_ble_eq_true rfl) fun h2 tk2 x2 => ?_
  have hfn : ((KK w.params).lookup 227).any (fun of => match of.data with | .func _ => true | _ => false) = true := by kernel_rfl
  obtain ⟨o2, q2, hd2⟩ := any_some hfn
  have hk2 : Looks (model PySem.Challenge.rw_in0185_01.row.prog w) h2 (keeperOf (.ref 227)) .frame := by
    refine (Looks.ld (part := none) (X.keeps (fun b o e => x2 _ _ (hk₁ b o e)) _ _ q2)).andThen ?_
    cases hd : o2.data <;> rw [hd] at hd2 <;> first | exact absurd hd2 Bool.false_ne_true | exact .now
  refine callWith_of (P := fun h => h = h2) rfl (fun _ e => ⟨.frame, .inl rfl, e ▸ hk2⟩) (evalArgs_nil3 ⟨rfl, ?_⟩)
  have x13 : Ext s.heap h2 := fun b o e => x2 _ _ (hk₁ b o e)
  refine call_rets (upW (start_rets (s := ⟨h2, _, _, _, _⟩) (X.keeps x13) (T.keeps x13)) rfl (Nat.le_of_ble_eq_true rfl) rfl rfl (Nat.le_of_ble_eq_true rfl)) fun v h3 tk3 x3 ⟨E, a, t1, t2, e, d1, d2, n1, n2⟩ => ?_
  subst e
  have back : ∀ z, h2.get? z = none → s.heap.get? z = none := fun z e => by
    cases q : s.heap.get? z with
    | none => rfl
    | some o => have := x13 _ _ q; rw [e] at this; cases this
  exact h h3 tk3 a E t1 t2 (fun b o e => x3 _ _ (x13 b o e)) (back _ n1) n2 (back _ d1) d2
theorem miss_frozen {w : World} {l : List Env} {s : Shared} {R : Result → Shared → Prop} {p : Program} {loose : List Str} {mean : ExcName → Option Value} {mg mb : Str → Option Value} {B d f : Addr} {kvs : KVs} {ep fp : Nat} {hs : Int} {t' : Tok} {k : Str} {t : Tok}
    (X₁ : (KK w.params).In s.heap) (T : Top p loose mean mg mb s.heap) (D : BookAt w s.heap B d kvs ep [⟨hs, .str frozenName t', .ref f⟩] fp) (hl : LamAt s.heap f B)
    (h : ∀ h' tk a D t1 t2, Ext s.heap h' → s.heap.get? a = none → h'.get? a = some (listObj #[.ref D] 0) → s.heap.get? D = none → h'.get? D = some (placeObj (0, 7) t1 t2) → R (.ok (.ret (.ref a))) { s with heap := h', toks := tk }) :
    codeAny (model PySem.Challenge.rw_in0185_01.row.prog w) (AA 500 3000 l) (.call (.ref 98) ⟨[.ref B, .str k t], []⟩) R s := by
  refine miss98 (ga := fun _ => f) X₁ T D (fun s' l' M t' x => getattr_frozen (X₁.keeps x) (x _ _ D.1) (x _ _ D.2)) ?_ ?_
  · intro h1 M x m
    obtain ⟨cell, oc, pm, c, ct, hf, _⟩ := hl
    exact ⟨.frame, .inl rfl, (Looks.ld (part := none) (x _ _ hf)).andThen .now⟩
  · intro env' h1 tk M x m0 m1
    have D1 : BookAt w h1 B d kvs ep [⟨hs, .str frozenName t', .ref f⟩] fp := ⟨x _ _ D.1, x _ _ D.2⟩
    have l1 : LamAt h1 f B := by
      obtain ⟨cell, oc, pm, c, ct, hf, hc, hcd, hcode⟩ := hl
      exact ⟨cell, oc, pm, c, ct, x _ _ hf, x _ _ hc, hcd, hcode.keeps x⟩
    refine wpAny_call (up (lam_call (l := env' :: l) (s := ⟨h1, _, _, _, _⟩) (X₁.keeps x) (T.keeps x) D1 (find_factory2 _ _ _ _ _) l1 fun h2 tk2 a E t1 t2 x2 n1 n2 d1 d2 => ?_) rfl (Nat.le_of_ble_eq_true rfl) rfl rfl (Nat.le_of_ble_eq_true rfl))
    have back : ∀ z, h1.get? z = none → s.heap.get? z = none := fun z e => by
      cases q : s.heap.get? z with
      | none => rfl
      | some o => have := x _ _ q; rw [e] at this; cases this
    exact h h2 tk2 a E t1 t2 (fun b o e => x2 _ _ (x b o e)) (back _ n1) n2 (back _ d1) d2
end Mine
end
section
open PySem PySem.W PyProof.Rows PySem.Spec
set_option Elab.async false
set_option maxRecDepth 100000
set_option maxHeartbeats 2000000
namespace Mine
section
variable {prog : Program} {w : World} {A : Around} {E : Value → Shared → Prop} {s : Shared} {env : Env} {h₀ : Heap} {x : Str} {body : List Stmt} {Q : Flow → Shared → Prop}
/-- where a turn of a loop with an invariant of one's own ends -/
def TurnJ (h₀ : Heap) (L : Addr) (own : List (Addr × Obj)) (Jn : (Str → Option Value) → List (Addr × Obj) → Prop) (s₁ : Shared) (f : Flow) (s₂ : Shared) : Prop :=
  f = .next ∧ ∃ h' tk m' news', s₂ = { s₁ with heap := h', toks := tk } ∧ Fr h₀ L h' m' ∧ News h₀ L h' (own ++ news') ∧ Jn m' news'
theorem turnJ {L : Addr} {own news' : List (Addr × Obj)} {Jn : (Str → Option Value) → List (Addr × Obj) → Prop} {s₁ : Shared} {h' : Heap} {tk : Nat} {m'} (F : Fr h₀ L h' m') (N : News h₀ L h' (own ++ news')) (hJ : Jn m' news') :
    TurnJ h₀ L own Jn s₁ .next { s₁ with heap := h', toks := tk } := ⟨rfl, h', tk, m', news', rfl, F, N, hJ⟩
theorem iter_J {l : Addr} {vs : List Value} {m₀ : Str → Option Value} {news : List (Addr × Obj)} (J : Nat → (Str → Option Value) → List (Addr × Obj) → Prop)
    (hni : ∀ i m n, J i m n → ∀ p ∈ n, p.2.cls ≠ .type "list_iterator")
    (hh : A.handled = none) (hl : s.heap.IsList l vs.toArray) (hL : l ≠ env.locals) (F : Fr h₀ env.locals s.heap m₀) (N : News h₀ env.locals s.heap news) (h0 : J 0 m₀ news)
    (turn : ∀ i v m₁ news₁ s₁ own, vs[i]? = some v → J i m₁ news₁ → (∀ p ∈ own, p.1 = l ∨ ((∀ q ∈ news₁, q.1 ≠ p.1) ∧ p.2.cls = .type "list_iterator")) → Fr h₀ env.locals s₁.heap (fun y => if y = x then some v else m₁ y) → News h₀ env.locals s₁.heap (own ++ news₁) →
      wpAny (model prog w) A (execs body env) (TurnJ h₀ env.locals own (J (i + 1)) s₁) E s₁)
    (done : ∀ m' news' h tk, Fr h₀ env.locals h m' → News h₀ env.locals h news' → J vs.length m' news' → Q .next { s with heap := h, toks := tk }) :
    wpAny (model prog w) A (pyIter (.ref l)) (fun it s₂ => LoopAtU prog w A h₀ env x body Q E it s₂) E s := by
  obtain ⟨ol, hol, hlc⟩ := id hl
  have hlt : l < s.heap.objs.size := Heap.lt_size hol
  have hne : l ≠ s.heap.objs.size := Nat.ne_of_lt hlt
  have hLt := F.ns.lt
  refine wpAny_pyIter_list hl ?_
  have W := Walks.list (prog := prog) (w := w) hh s.heap.objs.size l hne vs.toArray
  have hlen : vs.toArray.size = vs.length := by simp
  rw [hlen] at W
  refine ⟨_, _, _, vs.length, _, _, m₀, news, J, rfl, W, ?_, ?_, ?_, ⟨⟨_, Heap.get?_push_size _ rfl, rfl, rfl⟩, hl.at fun o e => Heap.get?_push_of_some _ e⟩, F.push _, (fun p hp => ⟨Heap.get?_push_of_some _ (N p hp).1, (N p hp).2⟩), h0, ?_, ?_⟩
  · intro hm
    rcases List.mem_cons.mp hm with e | hm
    · exact absurd hLt (e ▸ Nat.lt_irrefl _)
    · exact hL (List.mem_singleton.mp hm).symm
  · intro b hb
    rw [List.mem_singleton.mp hb]
    exact next_is_new F
  · intro p hp hI
    exact absurd (Heap.lt_size (N p hp).1) ((List.mem_singleton.mp hI) ▸ Nat.lt_irrefl _)
  · rintro i v m₁ news₁ s₁ own hin hP hJ hoff hfp hat hown hSt F₁ N₁
    have hx : vs[i]? = some v := by simpa using hP
    obtain ⟨⟨oi, hoi, hic, _⟩, _⟩ := hSt
    have hmem := hown s.heap.objs.size (.head _) (next_is_new F) oi hoi
    have ho : ∀ p ∈ own, p.1 = l ∨ ((∀ q ∈ news₁, q.1 ≠ p.1) ∧ p.2.cls = .type "list_iterator") := fun p hp => by
      rcases List.mem_cons.mp (hfp p hp) with e | e
      · refine .inr ⟨fun q hq z => hoff q hq (by rw [z, e]; exact .head _), ?_⟩
        have e2 := hat p hp
        rw [e, hoi] at e2
        rw [← Option.some.inj e2]; exact hic
      · exact .inl (List.mem_singleton.mp e)
    refine wpAny_mono (turn i v m₁ news₁ s₁ own hx hJ ho F₁ N₁) (fun f s₂ p => ?_) fun _ _ e => e
    obtain ⟨rfl, h', tk, m', news', rfl, F', N', hJ'⟩ := p
    refine ⟨rfl, h', tk, m', news', rfl, F', N', fun p hp hI => ?_, hJ'⟩
    have e1 := (N' p (List.mem_append_right _ hp)).1
    have e2 := (N' _ (List.mem_append_left _ hmem)).1
    rw [List.mem_singleton.mp hI, e2] at e1
    exact hni _ _ _ hJ' p hp (by rw [← Option.some.inj e1]; exact hic)
  · rintro h' tk m' news' F' N' _ hJ
    exact done m' news' h' tk F' N' hJ
theorem append_news {L a : Addr} {vs : Array Value} {n : Nat} {v : Value} {m : Str → Option Value} {news news' : List (Addr × Obj)} {Q : Value → Shared → Prop} (F : Fr h₀ L s.heap m) (N : News h₀ L s.heap news) (hm : (a, listObj vs n) ∈ news)
    (sub : ∀ p ∈ news', p = (a, listObj (vs.push v) (n + 1)) ∨ (p ∈ news ∧ p.1 ≠ a)) (hz : vs.size ≤ 1000)
    (h : ∀ h', Fr h₀ L h' m → News h₀ L h' news' → Heap.SameBut a s.heap h' → Q .none { s with heap := h' }) : wpAny (model prog w) A (call (.builtin "list.append") [.ref a, v]) Q E s := by
  have z := N _ hm
  refine append_at (hsz := Nat.le_trans hz (by decide +kernel)) z.1 fun h' hs ho' => h h' (F.change hs z.2.1 z.2.2) (fun p hp => ?_) hs
  rcases sub p hp with rfl | ⟨q1, q2⟩
  · exact ⟨ho', z.2⟩
  · exact ⟨(hs.2 _ q2).trans (N p q1).1, (N p q1).2⟩
theorem own_last {own : List (Addr × Obj)} {a : Addr × Obj} {tups : List (Addr × Obj)} : ∀ p ∈ a :: (tups ++ own), p ∈ own ++ a :: tups := fun p hp => by
  rcases List.mem_cons.mp hp with rfl | hp
  · exact List.mem_append_right _ (.head _)
  · rcases List.mem_append.mp hp with hp | hp
    · exact List.mem_append_right _ (.tail _ hp)
    · exact List.mem_append_left _ hp
theorem news_sub {L : Addr} {h : Heap} {news news' : List (Addr × Obj)} (N : News h₀ L h news) (sub : ∀ p ∈ news', p ∈ news) : News h₀ L h news' := fun p hp => N p (sub p hp)
theorem ne_cls {L a : Addr} {h : Heap} {news : List (Addr × Obj)} {o : Obj} {p : Addr × Obj} (N : News h₀ L h news) (ha : (a, o) ∈ news) (hp : p ∈ news) (hc : p.2.cls ≠ o.cls) : p.1 ≠ a := fun e => by
  have e1 := (N p hp).1
  rw [e, (N _ ha).1] at e1
  exact hc (by rw [← Option.some.inj e1])
end
end Mine
end
section
open PySem PySem.W PyProof.Rows PySem.Spec
set_option Elab.async false
set_option maxRecDepth 100000
set_option maxHeartbeats 4000000
namespace Mine
abbrev Dt := PySem.W.Dat
def placeD (p : Int × Int) : Dt := .tuple [.int p.1, .int p.2]
/-- a row of a book: the name, its token, its list, the list's epoch, the values in it, what they say -/
structure RowS where
  k : Str
  t : Tok
  a : Addr
  n : Nat
  vs : List Value
  its : List (Int × Int)
abbrev RowS.kv (r : RowS) : Str × Tok × Addr := (r.k, r.t, r.a)
abbrev RowS.obj (r : RowS) : Addr × Obj := (r.a, listObj r.vs.toArray r.n)
abbrev kvsOf (rows : List RowS) : KVs := rows.map RowS.kv
abbrev bookNews (w : World) (B d : Addr) (fs : List DictEntry) (fp ep : Nat) (rows : List RowS) : List (Addr × Obj) := (B, bookObj d ((kvsOf rows).map (entOf w)) ep) :: (d, dictObj fs fp) :: rows.map RowS.obj
def findR (rows : List RowS) (k : Str) : Option RowS := rows.find? (fun r => r.k == k)
theorem look_rows (rows : List RowS) (k : Str) : look (kvsOf rows) k = (findR rows k).map (·.a) := by
  unfold look findR
  induction rows with
  | nil => rfl
  | cons r l ih =>
    simp only [kvsOf, List.map_cons, List.find?_cons]
    show Option.map _ (match r.k == k with | true => some r.kv | false => _) = _
    cases r.k == k
    · exact ih
    · rfl
structure GoodRows (rows : List RowS) : Prop where
  keys : (rows.map (·.k)).Nodup
  adr : (rows.map (·.a)).Nodup
  few : rows.length ≤ 100
abbrev newRow (k : Str) (t : Tok) (a D : Addr) : RowS := ⟨k, t, a, 0, [.ref D], [(0, 7)]⟩
theorem findR_mem {rows : List RowS} {k : Str} {r : RowS} (h : findR rows k = some r) : r ∈ rows ∧ r.k = k :=
  ⟨List.mem_of_find?_eq_some h, by have := List.find?_some h; simpa using this⟩
theorem findR_none {rows : List RowS} {k : Str} (h : findR rows k = none) : ∀ r ∈ rows, r.k ≠ k := fun r hr e => by
  have := List.find?_eq_none.mp h r hr
  simp [e] at this
theorem newR_not_sys (P : Params) {h : Heap} (X : (KK P).In h) {a : Addr} (ha : h.get? a = none) : (a == sysModules) = false := by
  have e : ((KK P).lookup sysModules).isSome = true := by kernel_rfl
  obtain ⟨o, ho⟩ := Option.isSome_iff_exists.mp e
  cases q : a == sysModules with
  | false => rfl
  | true => rw [beq_iff_eq.mp q, X _ _ ho] at ha; cases ha
/-- a look at a name: met; made and kept; made alone -/
def Hit (fs : List DictEntry) (rows rows' : List RowS) (k : Str) (t : Tok) (a : Addr) (det : List (Addr × Obj)) : Prop :=
  (det = [] ∧ rows' = rows ∧ ∃ r, findR rows k = some r ∧ r.a = a) ∨
  (∃ D t1 t2, det = [(D, placeObj (0, 7) t1 t2)] ∧ fs = [] ∧ findR rows k = none ∧ rows' = rows ++ [newRow k t a D] ∧ ∀ q ∈ rows, q.a ≠ a) ∨
  ∃ D t1 t2, det = [(a, listObj #[.ref D] 0), (D, placeObj (0, 7) t1 t2)] ∧ fs.isEmpty = false ∧ findR rows k = none ∧ rows' = rows ∧ ∀ q ∈ rows, q.a ≠ a
def Froze (h : Heap) (B : Addr) (fs : List DictEntry) : Prop := fs = [] ∨ ∃ hs t' f, fs = [⟨hs, .str frozenName t', .ref f⟩] ∧ LamAt h f B
section
variable {w : World} {A : Around} {E : Value → Shared → Prop} {s : Shared} {l : List Env} {h₀ : Heap} {L : Addr} {m : Str → Option Value} {B d : Addr} {fs : List DictEntry} {fp ep : Nat} {rows : List RowS} {rest : List (Addr × Obj)} {p : Program} {loose : List Str} {mean : ExcName → Option Value} {mg mb : Str → Option Value}
theorem bookAt_news (N : News h₀ L s.heap (bookNews w B d fs fp ep rows ++ rest)) : BookAt w s.heap B d (kvsOf rows) ep fs fp :=
  ⟨(N _ (.head _)).1, (N _ (.tail _ (.head _))).1⟩
theorem book_look {k : Str} {t : Tok} {Q : Value → Shared → Prop} (hz : Froze s.heap B fs) (X : (KK w.params).In h₀) (T : Top p loose mean mg mb h₀) (F : Fr h₀ L s.heap m) (N : News h₀ L s.heap (bookNews w B d fs fp ep rows ++ rest)) (G : GoodRows rows) (hrest : ∀ q ∈ rest, q.1 ≠ B)
    (a1 : A.handled = none) (a2 : A.depth ≤ 500) (a3 : A.frames = some l) (a4 : A.guards = some []) (a5 : A.in1.units ≤ 3000)
    (h : ∀ a ep' h' tk rows' det, Fr h₀ L h' m → News h₀ L h' (bookNews w B d fs fp ep' rows' ++ (det ++ rest)) → Hit fs rows rows' k t a det → (∀ q ∈ det, s.heap.get? q.1 = none) → (∀ b o, b ≠ B → s.heap.get? b = some o → h'.get? b = some o) → Q (.ref a) { s with heap := h', toks := tk }) :
    wpAny (model PySem.Challenge.rw_in0185_01.row.prog w) A (getItem (.ref B) (.str k t)) Q E s := by
  have X₀ := K_of_KK (X.keeps F.keep)
  have D := bookAt_news N
  have hB : h₀.get? B = none := (N _ (.head _)).2.2
  have hn := newR_not_sys w.params X hB
  revert X₀; k_fill; intro X₀
  have g1 : noSeq (hk.heap_39 w.params) 108 = true := by k_is
  have g2 : findIn (hk.heap_39 w.params) (.ref 108) "__getitem__" = some (some (.builtin "dict.__getitem__")) := by k_is
  have g3 : subIn (hk.heap_39 w.params) (.ref 108) (.type "dict") = some true := by k_is
  have g4 : findIn (hk.heap_39 w.params) (.ref 108) "__missing__" = some (some (.ref 98)) := by k_is
  have g5 : isFn (hk.heap_39 w.params) (.ref 98) = true := by k_is
  cases q : findR rows k with
  | some r =>
    refine book_found X₀ D g1 g2 g3 (by rw [look_rows, q]; rfl) ?_
    exact h r.a ep _ _ rows [] F N (.inl ⟨rfl, rfl, r, q, rfl⟩) (fun _ z => nomatch z) fun _ _ _ e => e
  | none =>
    have hl : look (kvsOf rows) k = none := by rw [look_rows, q]; rfl
    refine book_missed X₀ D g1 g2 g3 g4 g5 hn hl ?_
    have none₀ : ∀ a, s.heap.get? a = none → h₀.get? a = none := fun a e => by
      cases z : h₀.get? a with
      | none => rfl
      | some o => have := F.keep _ _ z; rw [e] at this; cases this
    have neL : ∀ a, s.heap.get? a = none → a ≠ L := fun a e z => by
      obtain ⟨oL, es, ep', hL, _⟩ := F.ns
      rw [z, hL] at e; cases e
    have ra : ∀ a, s.heap.get? a = none → ∀ y ∈ rows, y.a ≠ a := fun a e y hy z => by
      have e0 : s.heap.get? y.a = some y.obj.2 := (N y.obj (List.mem_append_left _ (.tail _ (.tail _ (List.mem_map_of_mem hy))))).1
      rw [z, e] at e0; cases e0
    rcases hz with rfl | ⟨hs, t', f, rfl, hl'⟩
    · refine wpAny_call (up (miss_unfrozen (s := ⟨s.heap, _, _, _, _⟩) (X.keeps F.keep) (T.keeps F.keep) D hn hl (by rw [List.length_map]; exact Nat.le_trans G.few (by decide)) fun h' tk a D' t1 t2 M => ?_) a1 a2 a3 a4 a5)
      have F' : Fr h₀ L h' m := by
        obtain ⟨oL, es, ep', hL, hLd, hLk, hLf⟩ := F.ns
        exact ⟨⟨oL, es, ep', M.keep L oL (Ne.symm (N _ (.head _)).2.1) hL, hLd, hLk, hLf⟩, fun b o z => M.keep b o (fun y => by rw [y, hB] at z; cases z) (F.keep b o z), F.above⟩
      have hb : ∀ z, (∃ o, s.heap.get? z = some o ∧ o.cls ≠ .ref 108) → z ≠ B := fun z ⟨o, z1, z2⟩ z3 => by
        rw [z3, D.1] at z1; cases z1; exact z2 rfl
      refine h a (ep + 1) h' tk (rows ++ [newRow k t a D']) [(D', placeObj (0, 7) t1 t2)] F' ?_ (.inr (.inl ⟨D', t1, t2, rfl, rfl, q, rfl, ra a M.a0⟩)) (fun y hy => by rw [List.mem_singleton.mp hy]; exact M.d0) M.keep
      intro y hy
      rcases List.mem_append.mp hy with hy | hy
      · rcases List.mem_cons.mp hy with rfl | hy
        · refine ⟨?_, (N _ (.head _)).2⟩
          rw [M.book]; simp [kvsOf]
        · rcases List.mem_cons.mp hy with rfl | hy
          · exact ⟨M.keep _ _ (hb _ ⟨_, D.2, fun z => by cases z⟩) D.2, (N _ (.tail _ (.head _))).2⟩
          · rw [List.map_append] at hy
            rcases List.mem_append.mp hy with hy | hy
            · have z := N y (List.mem_append_left _ (.tail _ (.tail _ hy)))
              obtain ⟨r, _, rfl⟩ := List.mem_map.mp hy
              exact ⟨M.keep _ _ (hb _ ⟨_, z.1, fun z => by cases z⟩) z.1, z.2⟩
            · rw [List.map_cons, List.map_nil, List.mem_singleton] at hy
              subst hy
              exact ⟨M.a1, neL _ M.a0, none₀ _ M.a0⟩
      · rcases List.mem_append.mp hy with hy | hy
        · rw [List.mem_singleton.mp hy]
          exact ⟨M.d1, neL _ M.d0, none₀ _ M.d0⟩
        · have z := N y (List.mem_append_right _ hy)
          exact ⟨M.keep _ _ (hrest y hy) z.1, z.2⟩
    · refine wpAny_call (up (miss_frozen (s := ⟨s.heap, _, _, _, _⟩) (X.keeps F.keep) (T.keeps F.keep) D hl' fun h' tk a D' t1 t2 x n1 n2 d1 d2 => ?_) a1 a2 a3 a4 a5)
      refine h a ep h' tk rows [(a, listObj #[.ref D'] 0), (D', placeObj (0, 7) t1 t2)] (Fr.ext F x) ?_ (.inr (.inr ⟨D', t1, t2, rfl, rfl, q, rfl, ra a n1⟩)) (fun y hy => ?_) fun b o _ e => x b o e
      · refine news_mid (nn := [(a, listObj #[.ref D'] 0), (D', placeObj (0, 7) t1 t2)]) F N x fun p hp => ?_
        rcases List.mem_cons.mp hp with rfl | hp
        · exact ⟨n2, n1⟩
        · rw [List.mem_singleton.mp hp]; exact ⟨d2, d1⟩
      · rcases List.mem_cons.mp hy with rfl | hy
        · exact n1
        · rw [List.mem_singleton.mp hy]; exact d1
end
end Mine
end
section
open PySem PySem.W PyProof.Rows PySem.Spec
set_option Elab.async false
set_option maxRecDepth 100000
set_option maxHeartbeats 4000000
namespace Mine
def pushR (k : Str) (v : Value) (it : Int × Int) (r : RowS) : RowS := if r.k = k then { r with n := r.n + 1, vs := r.vs ++ [v], its := r.its ++ [it] } else r
theorem pushR_kv (k : Str) (v : Value) (it : Int × Int) (r : RowS) : (pushR k v it r).kv = r.kv := by unfold pushR; split <;> rfl
theorem kvs_push (k : Str) (v : Value) (it : Int × Int) (rows : List RowS) : kvsOf (rows.map (pushR k v it)) = kvsOf rows := by
  show List.map RowS.kv (List.map _ rows) = List.map RowS.kv rows
  rw [List.map_map]
  exact List.map_congr_left fun r _ => pushR_kv k v it r
theorem keys_push (k : Str) (v : Value) (it : Int × Int) (rows : List RowS) : (rows.map (pushR k v it)).map (·.k) = rows.map (·.k) := by
  rw [List.map_map]
  exact List.map_congr_left fun r _ => congrArg (·.1) (pushR_kv k v it r)
theorem adrs_push (k : Str) (v : Value) (it : Int × Int) (rows : List RowS) : (rows.map (pushR k v it)).map (·.a) = rows.map (·.a) := by
  rw [List.map_map]
  exact List.map_congr_left fun r _ => congrArg (·.2.2) (pushR_kv k v it r)
theorem good_push {k : Str} {v : Value} {it : Int × Int} {rows : List RowS} (G : GoodRows rows) : GoodRows (rows.map (pushR k v it)) :=
  ⟨by rw [keys_push]; exact G.keys, by rw [adrs_push]; exact G.adr, by rw [List.length_map]; exact G.few⟩
theorem nodup_inj {α β : Type} {f : α → β} : ∀ {l : List α}, (l.map f).Nodup → ∀ {x y : α}, x ∈ l → y ∈ l → f x = f y → x = y
  | [], _, _, _, hx, _, _ => nomatch hx
  | z :: l, hn, x, y, hx, hy, e => by
    rw [List.map_cons, List.nodup_cons] at hn
    rcases List.mem_cons.mp hx with e1 | hx'
    · rcases List.mem_cons.mp hy with e2 | hy'
      · rw [e1, e2]
      · exact absurd (by rw [← e1, e]; exact List.mem_map_of_mem hy') hn.1
    · rcases List.mem_cons.mp hy with e2 | hy'
      · exact absurd (by rw [← e2, ← e]; exact List.mem_map_of_mem hx') hn.1
      · exact nodup_inj hn.2 hx' hy' e
section
variable {prog : Program} {w : World} {A : Around} {E : Value → Shared → Prop} {s : Shared} {h₀ : Heap} {L : Addr} {m : Str → Option Value} {B d : Addr} {fs : List DictEntry} {fp ep : Nat} {rows : List RowS} {rest : List (Addr × Obj)}
theorem row_append {r : RowS} {t : Addr} {to : Obj} {it : Int × Int} {Q : Value → Shared → Prop} (F : Fr h₀ L s.heap m) (N : News h₀ L s.heap ((t, to) :: (bookNews w B d fs fp ep rows ++ rest))) (hr : r ∈ rows) (G : GoodRows rows) (ht : to.cls = .type "tuple") (hrest : ∀ q ∈ rest, q.1 ≠ r.a) (hz : r.vs.length ≤ 1000)
    (h : ∀ h', Fr h₀ L h' m → News h₀ L h' (bookNews w B d fs fp ep (rows.map (pushR r.k (.ref t) it)) ++ (t, to) :: rest) → Q .none { s with heap := h' }) :
    wpAny (model prog w) A (call (.builtin "list.append") [.ref r.a, .ref t]) Q E s := by
  have hmem : (r.a, listObj r.vs.toArray r.n) ∈ ((t, to) :: (bookNews w B d fs fp ep rows ++ rest)) := .tail _ (List.mem_append_left _ (.tail _ (.tail _ (List.mem_map_of_mem (f := RowS.obj) hr))))
  have nc : ∀ q ∈ ((t, to) :: (bookNews w B d fs fp ep rows ++ rest)), q.2.cls ≠ .type "list" → q.1 ≠ r.a := fun q hq hc => ne_cls N hmem hq hc
  refine append_news F N hmem (news' := bookNews w B d fs fp ep (rows.map (pushR r.k (.ref t) it)) ++ (t, to) :: rest) (fun p hp => ?_) (by rw [List.size_toArray]; exact hz) fun h' F' N' _ => h h' F' N'
  rcases List.mem_append.mp hp with hp | hp
  · rcases List.mem_cons.mp hp with rfl | hp
    · rw [kvs_push]
      exact .inr ⟨.tail _ (.head _), nc _ (.tail _ (.head _)) (by intro z; cases z)⟩
    · rcases List.mem_cons.mp hp with rfl | hp
      · exact .inr ⟨.tail _ (.tail _ (.head _)), nc _ (.tail _ (.tail _ (.head _))) (fun z => absurd (show Value.type "dict" = Value.type "list" from z) (by decide))⟩
      · rw [List.map_map] at hp
        obtain ⟨r', hr', rfl⟩ := List.mem_map.mp hp
        by_cases e : r'.k = r.k
        · have : r' = r := nodup_inj G.keys hr' hr e
          subst this
          refine .inl ?_
          show (pushR r'.k (.ref t) it r').obj = _
          unfold pushR
          rw [if_pos rfl]
          simp
        · refine .inr ⟨.tail _ (List.mem_append_left _ (.tail _ (.tail _ ?_))), ?_⟩
          · show (pushR r.k (.ref t) it r').obj ∈ List.map RowS.obj rows
            unfold pushR
            rw [if_neg e]
            exact List.mem_map_of_mem hr'
          · show (pushR r.k (.ref t) it r').a ≠ r.a
            unfold pushR
            rw [if_neg e]
            exact fun z => e (by rw [nodup_inj G.adr hr' hr z])
  · rcases List.mem_cons.mp hp with rfl | hp
    · exact .inr ⟨.head _, nc _ (.head _) (by rw [ht]; decide)⟩
    · exact .inr ⟨.tail _ (List.mem_append_right _ hp), hrest p hp⟩
end

abbrev Says := List (Str × List (Int × Int))
abbrev saysOf (rows : List RowS) : Says := rows.map fun r => (r.k, r.its)
/-- what a look leaves in a book that is frozen or not -/
def touch (frozen : Bool) (c : Says) (k : Str) : Says := if c.any (·.1 == k) || frozen then c else c ++ [(k, [(0, 7)])]
def pushS (c : Says) (k : Str) (p : Int × Int) : Says := c.map fun x => if x.1 = k then (x.1, x.2 ++ [p]) else x
theorem says_any (rows : List RowS) (k : Str) : (saysOf rows).any (fun x => x.1 == k) = (findR rows k).isSome := by
  unfold findR
  rw [Bool.eq_iff_iff, List.find?_isSome, List.any_eq_true]
  simp
  exact ⟨fun ⟨_, r, a, b, _⟩ => ⟨r, a, b⟩, fun ⟨r, a, b⟩ => ⟨_, r, a, b, rfl⟩⟩
theorem says_push (rows : List RowS) (k : Str) (v : Value) (p : Int × Int) : saysOf (rows.map (pushR k v p)) = pushS (saysOf rows) k p := by
  unfold saysOf pushS
  rw [List.map_map, List.map_map]
  refine List.map_congr_left fun r _ => ?_
  simp only [Function.comp, pushR]
  split <;> rfl
theorem Hit.says {fs rows rows' k t a det} (H : Hit fs rows rows' k t a det) : saysOf rows' = touch (!fs.isEmpty) (saysOf rows) k := by
  unfold touch
  rw [says_any]
  rcases H with ⟨_, rfl, r, hr, _⟩ | ⟨D, t1, t2, _, rfl, hn, rfl, _⟩ | ⟨D, t1, t2, _, hfs, hn, rfl, _⟩
  · rw [hr]; rfl
  · rw [hn]; simp [saysOf]
  · rw [hn, hfs]; rfl
theorem Hit.good {fs rows rows' k t a det} (H : Hit fs rows rows' k t a det) (G : GoodRows rows) (hf : rows.length ≤ 99) : GoodRows rows' := by
  rcases H with ⟨_, rfl, _⟩ | ⟨D, t1, t2, _, rfl, hn, rfl, ha⟩ | ⟨D, t1, t2, _, hfs, hn, rfl, _⟩
  · exact G
  · refine ⟨?_, ?_, ?_⟩
    · rw [List.map_append, List.nodup_append]
      refine ⟨G.keys, by simp, fun x hx y hy => ?_⟩
      obtain ⟨r, hr, rfl⟩ := List.mem_map.mp hx
      simp at hy; subst hy
      exact findR_none hn r hr
    · rw [List.map_append, List.nodup_append]
      refine ⟨G.adr, by simp, fun x hx y hy => ?_⟩
      obtain ⟨r, hr, rfl⟩ := List.mem_map.mp hx
      simp at hy; subst hy
      exact ha r hr
    · rw [List.length_append]; simp; omega
  · exact G
theorem Hit.len {fs rows rows' k t a det} (H : Hit fs rows rows' k t a det) : rows'.length ≤ rows.length + 1 := by
  rcases H with ⟨_, rfl, _⟩ | ⟨D, t1, t2, _, rfl, hn, rfl, ha⟩ | ⟨D, t1, t2, _, hfs, hn, rfl, _⟩ <;> simp
/-- the rows' lists, their places in a ledger -/
def RowsIn (news : List (Addr × Obj)) (rows : List RowS) : Prop := ∀ r ∈ rows, DatAll news r.vs (r.its.map placeD) ∧ ∃ a vs, r.vs = .ref a :: vs
theorem RowsIn.mono {news news' : List (Addr × Obj)} {rows} (M : RowsIn news rows) (h : ∀ p ∈ news, p ∈ news') : RowsIn news' rows := fun r hr => ⟨(M r hr).1.mono h, (M r hr).2⟩
theorem place_in {news : List (Addr × Obj)} {D : Addr} {p : Int × Int} {t1 t2 : Tok} (h : (D, placeObj p t1 t2) ∈ news) : DatIn news (.ref D) (placeD p) :=
  .tuple (vs := [.int p.1 t1, .int p.2 t2]) h (.cons (.int _ _) (.cons (.int _ _) .nil))
theorem datAll_snoc {news : List (Addr × Obj)} {v : Value} {d : PySem.W.Dat} (hd : DatIn news v d) : ∀ {vs : List Value} {ds : List PySem.W.Dat}, DatAll news vs ds → DatAll news (vs ++ [v]) (ds ++ [d])
  | _, _, .nil => .cons hd .nil
  | _, _, .cons h r => .cons h (datAll_snoc hd r)
theorem Hit.rowsIn {fs rows rows' k t a det tups} (H : Hit fs rows rows' k t a det) (M : RowsIn tups rows) : RowsIn (det ++ tups) rows' := by
  have sub : ∀ p ∈ tups, p ∈ det ++ tups := fun p hp => List.mem_append_right _ hp
  rcases H with ⟨_, rfl, _⟩ | ⟨D, t1, t2, rfl, rfl, hn, rfl, ha⟩ | ⟨D, t1, t2, _, hfs, hn, rfl, _⟩
  · exact M.mono sub
  · intro r hr
    rcases List.mem_append.mp hr with hr | hr
    · exact M.mono sub r hr
    · rw [List.mem_singleton.mp hr]
      exact ⟨.cons (place_in (p := (0, 7)) (.head _)) .nil, _, _, rfl⟩
  · exact M.mono sub
theorem RowsIn.push {news : List (Addr × Obj)} {rows : List RowS} {k : Str} {D : Addr} {p : Int × Int} {t1 t2 : Tok} (M : RowsIn news rows) (h : (D, placeObj p t1 t2) ∈ news) : RowsIn news (rows.map (pushR k (.ref D) p)) := by
  intro r hr
  obtain ⟨r', hr', rfl⟩ := List.mem_map.mp hr
  obtain ⟨m1, a, vs, m2⟩ := M r' hr'
  unfold pushR
  split
  · refine ⟨?_, a, vs ++ [.ref D], by simp [m2]⟩
    simp only [List.map_append, List.map_cons, List.map_nil]
    exact datAll_snoc (place_in h) m1
  · exact ⟨m1, a, vs, m2⟩
theorem push_none {rows : List RowS} {k : Str} {v : Value} {p : Int × Int} (h : findR rows k = none) : rows.map (pushR k v p) = rows := by
  have : ∀ r ∈ rows, pushR k v p r = r := fun r hr => by unfold pushR; rw [if_neg (findR_none h r hr)]
  rw [List.map_congr_left this, List.map_id']
/-- an object that is no row's list -/
def NotRow (o : Obj) : Prop := ∀ a (vs : List Value) n, o ≠ listObj (Value.ref a :: vs).toArray n
theorem NotRow.cls {o : Obj} (h : o.cls ≠ .type "list") : NotRow o := fun a vs n e => h (by rw [e])
theorem dat_len {news : List (Addr × Obj)} : ∀ {vs : List Value} {ds : List PySem.W.Dat}, DatAll news vs ds → vs.length = ds.length
  | _, _, .nil => rfl
  | _, _, .cons _ r => by simp [dat_len r]
section
variable {prog : Program} {w : World} {A : Around} {E : Value → Shared → Prop} {s : Shared} {h₀ : Heap} {L : Addr} {m : Str → Option Value} {B d : Addr} {fs : List DictEntry} {fp ep : Nat} {rows rows' : List RowS} {rest tups : List (Addr × Obj)}
/-- a place put behind what a look gave -/
theorem look_append {tp : Addr} {p : Int × Int} {t1 t2 tk : Tok} {k : Str} {a : Addr} {det : List (Addr × Obj)} {Q : Value → Shared → Prop} (F : Fr h₀ L s.heap m) (N : News h₀ L s.heap ((tp, placeObj p t1 t2) :: (bookNews w B d fs fp ep rows' ++ (det ++ rest)))) (H : Hit fs rows rows' k tk a det) (G : GoodRows rows) (hlen : rows.length ≤ 99) (hits : ∀ r ∈ rows', r.its.length ≤ 500)
    (hR : RowsIn tups rows') (hne : ∀ q ∈ rest, NotRow q.2) (hneB : ∀ q ∈ det, q.1 ≠ B ∧ q.1 ≠ d)
    (h : ∀ h', Fr h₀ L h' m → News h₀ L h' (bookNews w B d fs fp ep (rows'.map (pushR k (.ref tp) p)) ++ ((tp, placeObj p t1 t2) :: (det.filter (fun q => q.2.cls == .type "tuple") ++ rest))) → Q .none { s with heap := h' }) :
    wpAny (model prog w) A (call (.builtin "list.append") [.ref a, .ref tp]) Q E s := by
  have Gi := H.good G hlen
  have tupc : (placeObj p t1 t2).cls = .type "tuple" := rfl
  have found : ∀ r ∈ rows', r.a = a → r.k = k → (∀ q ∈ det, q.2.cls = .type "tuple") → wpAny (model prog w) A (call (.builtin "list.append") [.ref a, .ref tp]) Q E s := by
    intro r hr ha hk hd
    subst ha hk
    have hf : det.filter (fun q => q.2.cls == .type "tuple") = det := List.filter_eq_self.mpr fun q hq => by rw [hd q hq]; decide
    rw [hf] at h
    obtain ⟨m1, b, vs, m2⟩ := hR r hr
    have hli : r.vs.length ≤ 1000 := by
      rw [dat_len m1, List.length_map]; exact Nat.le_trans (hits r hr) (by decide)
    refine row_append (it := p) F N hr Gi tupc (fun q hq e => ?_) hli h
    have e1 := (N q (.tail _ (List.mem_append_right _ hq))).1
    have e2 := (N r.obj (.tail _ (List.mem_append_left _ (.tail _ (.tail _ (List.mem_map_of_mem hr)))))).1
    rw [e, e2] at e1
    have e3 := Option.some.inj e1
    rcases List.mem_append.mp hq with hq | hq
    · have := hd q hq
      rw [← e3] at this
      exact absurd (show Value.type "list" = Value.type "tuple" from this) (by decide)
    · exact hne q hq b vs r.n (by rw [← e3, ← m2])
  rcases H with ⟨rfl, rfl, r, hr, ha⟩ | ⟨D, u1, u2, rfl, rfl, hn, rfl, ha⟩ | ⟨D, u1, u2, rfl, hfs, hn, rfl, hra⟩
  · exact found r (findR_mem hr).1 ha (findR_mem hr).2 fun q hq => nomatch hq
  · exact found (newRow k tk a D) (List.mem_append_right _ (.head _)) rfl rfl fun q hq => by rw [List.mem_singleton.mp hq]
  · have hf : ([(a, listObj #[.ref D] 0), (D, placeObj (0, 7) u1 u2)] : List (Addr × Obj)).filter (fun q => q.2.cls == .type "tuple") = [(D, placeObj (0, 7) u1 u2)] := by rfl
    rw [hf, push_none hn] at h
    have ma : (a, listObj #[.ref D] 0) ∈ ((tp, placeObj p t1 t2) :: (bookNews w B d fs fp ep rows' ++ ([(a, listObj #[.ref D] 0), (D, placeObj (0, 7) u1 u2)] ++ rest))) := .tail _ (List.mem_append_right _ (.head _))
    have ne_of : ∀ q ∈ ((tp, placeObj p t1 t2) :: (bookNews w B d fs fp ep rows' ++ ([(a, listObj #[.ref D] 0), (D, placeObj (0, 7) u1 u2)] ++ rest))), q.2 ≠ listObj #[.ref D] 0 → q.1 ≠ a := fun q hq hne e => by
      have e1 := (N q hq).1
      rw [e, (N _ ma).1] at e1
      exact hne (Option.some.inj e1).symm
    refine append_news F N ma (news' := bookNews w B d fs fp ep rows' ++ ((tp, placeObj p t1 t2) :: ([(D, placeObj (0, 7) u1 u2)] ++ rest))) (fun q hq => .inr ?_) (by show 1 ≤ 1000; decide) fun h' F' N2 _ => h h' F' N2
    have mem : q ∈ ((tp, placeObj p t1 t2) :: (bookNews w B d fs fp ep rows' ++ ([(a, listObj #[.ref D] 0), (D, placeObj (0, 7) u1 u2)] ++ rest))) := by
      rcases List.mem_append.mp hq with hq | hq
      · exact .tail _ (List.mem_append_left _ hq)
      · rcases List.mem_cons.mp hq with rfl | hq
        · exact .head _
        · refine .tail _ (List.mem_append_right _ ?_)
          rcases List.mem_append.mp hq with hq | hq
          · exact List.mem_append_left _ (.tail _ hq)
          · exact List.mem_append_right _ hq
    refine ⟨mem, ?_⟩
    rcases List.mem_append.mp hq with hq | hq
    · rcases List.mem_cons.mp hq with rfl | hq
      · exact fun e => (hneB _ (.head _)).1 e.symm
      · rcases List.mem_cons.mp hq with rfl | hq
        · exact fun e => (hneB _ (.head _)).2 e.symm
        · obtain ⟨r, hr, rfl⟩ := List.mem_map.mp hq
          exact hra r hr
    · rcases List.mem_cons.mp hq with rfl | hq
      · exact ne_of _ (.head _) (fun z => absurd (congrArg Obj.cls z) (show ¬ (Value.type "tuple" = Value.type "list") by decide))
      · rcases List.mem_append.mp hq with hq | hq
        · rw [List.mem_singleton.mp hq]
          exact ne_of _ (.tail _ (List.mem_append_right _ (.tail _ (.head _)))) (fun z => absurd (congrArg Obj.cls z) (show ¬ (Value.type "tuple" = Value.type "list") by decide))
        · exact ne_of q mem (hne q hq D [] 0)
end
end Mine
end
section
open PySem PySem.W PyProof.Rows PySem.Spec PySem.Calls
set_option Elab.async false
set_option maxRecDepth 100000
set_option maxHeartbeats 2000000
namespace Mine
theorem len_kind : builtinKind "dict.__len__" = some .slot ∨ builtinKind "dict.__len__" = some .method := by decide +kernel
theorem len_split : splitId "dict.__len__" = some ("dict", "__len__") := by decide +kernel
theorem dit_kind : builtinKind "dict.__iter__" = some .slot ∨ builtinKind "dict.__iter__" = some .method := by decide +kernel
theorem dit_split : splitId "dict.__iter__" = some ("dict", "__iter__") := by decide +kernel
/-- what is asked of a book's class -/
structure Cls (K : Frag) : Prop where
  len : findIn K (.ref 108) "__len__" = some (some (.builtin "dict.__len__"))
  iter : findIn K (.ref 108) "__iter__" = some (some (.builtin "dict.__iter__"))
  sub : subIn K (.ref 108) (.type "dict") = some true
  ord : subIn K (.ref 108) (.type "collections.OrderedDict") = some false
section
variable {prog : Program} {w : World} {A : Around} {E : Value → Shared → Prop} {s : Shared} {K : Frag} {B d : Addr} {kvs : KVs} {ep : Nat} {fs : List DictEntry} {fp : Nat}
theorem dictSize_of {M : Model} {a : Addr} {o : Obj} {es : Array DictEntry} {p : Nat} {Q : Nat → Shared → Prop} (ho : s.heap.get? a = some o) (hd : o.data = .dict es p) (h : Q es.size s) : wpAny M A (dictSize a) Q E s := by
  unfold dictSize
  exact wpAny_bind (wpAny_dictEntries ho hd (wpAny_pure h))
theorem book_len {Q : Value → Shared → Prop} (X : K.In s.heap) (C : Cls K) (D : BookAt w s.heap B d kvs ep fs fp) (hn : (B == sysModules) = false) (hz : kvs.length ≤ 1000) (h : ∀ t, Q (.int kvs.length t) { s with toks := s.toks + 1 + 1 }) :
    wpAny (model prog w) A (call (.builtin "len") [.ref B]) Q E s := by
  have I := book_inst D
  refine Calls.call_function_entry kind_len plain_len entry_len (args_len1 _) ?_
  unfold Builtin.«len»
  refine wpAny_bind (m := oneArg "len" _) (wpAny_pure ?_)
  refine wpAny_bind (m := callSpecial? (.ref B) (Str.ofString "__len__")) (special_bi X I C.len PySem.F.slot_dict_len.bind ?_)
  refine wpAny_call (codeAny_call_builtin PySem.F.slot_dict_len.plain PySem.F.entry_dict_len ?_)
  refine @check_any _ _ s (model prog w) "dict.__len__" "dict" "__len__" (.ref B) [] [] _ len_kind len_split (I.type.andThen (looks_subIn X C.sub)) (PySem.F.args_dict_len_1 _) ?_
  show wpAny _ _ (do retInt ((← dictSize B) + (← Builtin.Dict.pendingCount B))) _ _ s
  refine wpAny_bind (dictSize_of D.1 rfl ?_)
  unfold Builtin.Dict.pendingCount
  rw [if_neg (by rw [hn]; exact Bool.false_ne_true)]
  refine wpAny_bind (wpAny_pure ?_)
  refine wpAny_bind (wpAny_mkInt (wpAny_pure ?_))
  rw [show (((kvs.map (entOf w)).toArray.size : Nat) : Int) + ((0 : Nat) : Int) = (kvs.length : Int) by simp]
  show wpAny _ _ (holding [Value.int (kvs.length : Int) s.toks] (asIndex (Value.int (kvs.length : Int) s.toks)) >>= _) _ _ { s with toks := s.toks + 1 }
  refine wpAny_bind (wpAny_holding (wpAny_pure ?_))
  refine wpAny_bind (wpAny_letGo ?_)
  show wpAny _ _ (if (kvs.length : Int) < 0 then _ else _) _ _ _
  rw [if_neg (by omega)]
  show wpAny _ _ (if (kvs.length : Int) ≥ 2 ^ 63 then _ else _) _ _ _
  rw [if_neg (by omega)]
  exact wpAny_bind (wpAny_mkInt (wpAny_pure ⟨_, rfl, h _⟩))
theorem book_hint {Q : Bool → Shared → Prop} (X : K.In s.heap) (C : Cls K) (D : BookAt w s.heap B d kvs ep fs fp) (hn : (B == sysModules) = false) (hz : kvs.length ≤ 1000) (h : ∀ b, Q b { s with toks := s.toks + 1 + 1 }) :
    wpAny (model prog w) A (Builtin.List.listLengthHint (.ref B)) Q E s := by
  have I := book_inst D
  unfold Builtin.List.listLengthHint specialOf
  refine wpAny_bind (wpAny_bind (I.type.here ((looks_findIn X C.len).here ?_)))
  generalize hid : ("dict.__len__" : String) = id0
  wp_delta
  rw [show splitId id0 = some ("dict", "__len__") from by subst hid; exact len_split]
  subst hid
  refine wpAny_bind (((I.type.andThen (looks_subIn X C.sub)) : Looks (model prog w) s.heap (isInstance (.ref B) (.type "dict")) true).here ?_)
  refine wpAny_ite_split (fun hab => absurd hab (by decide)) (fun _ => ?_)
  refine wpAny_ite_split (fun _ => ?_) (fun hab => absurd (by decide +kernel) hab)
  refine wpAny_bind (I.type.here ?_)
  refine wpAny_bind (book_len X C D hn hz fun t => ?_)
  exact wpAny_bind (wpAny_pure (wpAny_pure (h _)))
/-- an iterator over a book's keys -/
def BookIter (w : World) (h : Heap) (it B d : Addr) (kvs : KVs) (ep i : Nat) : Prop := h.IsKeyIter it B i kvs.length ep ∧ h.get? B = some (bookObj d (kvs.map (entOf w)) ep)
theorem book_iter {Q : Value → Shared → Prop} (X : K.In s.heap) (C : Cls K) (D : BookAt w s.heap B d kvs ep fs fp) (hn : (B == sysModules) = false)
    (h : Q (.ref s.heap.objs.size) { s with heap := s.heap.push { cls := .type "dict_keyiterator", data := .fields #[.ref B, .int 0 0, .int kvs.length 0, .int ep 0] } }) : wpAny (model prog w) A (pyIter (.ref B)) Q E s := by
  have I := book_inst D
  unfold pyIter specialOf
  refine wpAny_bind (wpAny_bind (I.type.here ((looks_findIn X C.iter).here ?_)))
  show wpAny _ _ (callSpecialIfBoundUnlessNone? (.ref B) "__iter__" _ >>= _) _ _ s
  unfold callSpecialIfBoundUnlessNone? bindSpecialIfBound? specialOf
  refine wpAny_bind (wpAny_holding (wpAny_bind (wpAny_bind (wpAny_bind (I.type.here ((looks_findIn X C.iter).here ?_))))))
  have body : wpAny (model prog w) A (call (.builtin "dict.__iter__") [.ref B]) (fun it s' => it = .ref s.heap.objs.size ∧ s' = { s with heap := s.heap.push { cls := .type "dict_keyiterator", data := .fields #[.ref B, .int 0 0, .int kvs.length 0, .int ep 0] } }) E s := by
    refine wpAny_call (codeAny_call_builtin PySem.F.slot_dict_iter.plain PySem.F.entry_dict_iter ?_)
    refine @check_any _ _ s (model prog w) "dict.__iter__" "dict" "__iter__" (.ref B) [] [] _ dit_kind dit_split (I.type.andThen (looks_subIn X C.sub)) (PySem.F.args_dict_iter_1 _) ?_
    unfold Builtin.«dict.__iter__»
    refine wpAny_bind ?_
    unfold Builtin.Dict.dictSlotNone
    refine wpAny_bind ?_
    unfold Builtin.Dict.notOrdered
    rw [if_pos (by decide)]
    refine wpAny_bind (I.type.here ?_)
    rw [if_pos (by rfl)]
    refine wpAny_bind ((I.type.andThen (looks_subIn X C.ord) : Looks (model prog w) s.heap (isInstance (.ref B) (.type "collections.OrderedDict")) false).here ?_)
    rw [if_neg (by decide)]
    refine wpAny_pure ?_
    show wpAny _ _ (pure (Value.ref B)) _ _ s
    refine wpAny_pure ?_
    show wpAny _ _ (Builtin.Dict.showsAll B >>= _) _ _ s
    unfold Builtin.Dict.showsAll
    rw [if_neg (by rw [hn]; exact Bool.false_ne_true)]
    refine wpAny_bind (wpAny_pure ?_)
    refine wpAny_bind (wpAny_dictEntries D.1 rfl ?_)
    refine wpAny_bind (wpAny_dictEpoch D.1 rfl ?_)
    refine wpAny_bind (wpAny_newObj_type (wpAny_pure ⟨rfl, ?_⟩))
    simp [rawInt]
  dsimp only
  simp only [PySem.F.slot_dict_iter.bind]
  refine wpAny_bind (wpAny_askSetting (wpAny_ite ?_))
  split
  all_goals
    first
      | refine wpAny_tryCatch (wpAny_bind (wpAny_pure (wpAny_pure ?_)))
      | refine wpAny_bind (wpAny_pure (wpAny_pure ?_))
    dsimp only
    rw [if_neg (show ¬ ((Value.builtin "dict.__iter__" == Value.none) = true) from Bool.false_ne_true)]
    refine wpAny_bind (wpAny_mono body (fun v s' h' => ?_) fun _ _ z => z)
    obtain ⟨rfl, rfl⟩ := h'
    refine wpAny_pure ?_
    exact wpAny_bind (wpAny_specialOf ⟨_, Heap.get?_push_size _ rfl, rfl⟩ PySem.F.slot_dict_keyiterator_next.lookup (wpAny_pure h))
end
/-- a turn of an iterator over a book's keys -/
theorem book_next {prog : Program} {w : World} {A : Around} {E : Value → Shared → Prop} {s : Shared} {it B d : Addr} {kvs : KVs} {ep i : Nat} {p : Str × Tok × Addr} {Q : Option Value → Shared → Prop} (I : BookIter w s.heap it B d kvs ep i) (hx : kvs[i]? = some p)
    (hQ : ∀ h', h'.IsKeyIter it B (i + 1) kvs.length ep → Heap.SameBut it s.heap h' → Q (some (.str p.1 p.2.1)) { s with heap := h' }) : wpAny (model prog w) A (pyNext (.ref it)) Q E s := by
  obtain ⟨hit, hB⟩ := I
  obtain ⟨o, ho, hc, hd⟩ := id hit
  have hlt : i < kvs.length := (List.getElem?_eq_some_iff.mp hx).1
  have he : ((kvs.map (entOf w)).toArray)[i]? = some (entOf w p) := by simp [hx]
  unfold pyNext
  refine wpAny_bind (wpAny_attempt (wpAny_callSpecial?_slot (name := Str.ofString "__next__") hit.typeIs PySem.F.slot_dict_keyiterator_next
    (wpAny_call_entry PySem.F.slot_dict_keyiterator_next hit.typeIs PySem.F.entry_dict_keyiterator_next ?_ (PySem.F.args_dict_keyiterator_next_1 _))))
  refine wpAny_bind (wpAny_pure ?_)
  refine wpAny_bind (wpAny_bind ?_)
  refine wpAny_bind (wpAny_typeNameOfWhole_keyiter hit.typeIs (wpAny_pure ?_))
  refine wpAny_bind (wpAny_fieldsOf ho hd ?_)
  have hown : Builtin.Dict_items.ownsTuple "dict_keyiterator" = false := by decide
  simp only [hown, Bool.false_eq_true, if_false]
  show wpAny _ _ (if (Value.ref B == Value.none) = true then _ else _) _ _ s
  rw [if_neg (show ¬ ((Value.ref B == Value.none) = true) from Bool.false_ne_true)]
  refine wpAny_bind (wpAny_pure (wpAny_bind (wpAny_dictEntries hB rfl ?_)))
  rw [if_neg (by simp)]
  refine wpAny_bind (wpAny_pure (wpAny_bind (wpAny_dictEpoch hB rfl ?_)))
  rw [if_neg (by simp)]
  refine wpAny_pure ?_
  dsimp only
  rw [if_neg (by omega), Int.toNat_natCast, he]
  dsimp only
  refine wpAny_bind (wpAny_bind (wpAny_typeNameOfWhole_keyiter hit.typeIs (wpAny_pure ?_)))
  refine wpAny_bind (wpAny_isOneOf_keyiter hit.typeIs ?_)
  show wpAny _ _ (setField (.ref it) 1 (rawInt ((i : Int) + 1)) >>= _) _ _ s
  refine wpAny_bind (wpAny_setField ho hd (by simp) ?_)
  have hit' : (s.heap.update it (Obj.mapFields (·.setIfInBounds 1 (rawInt ((i : Int) + 1))))).IsKeyIter it B (i + 1) kvs.length ep :=
    ⟨_, Heap.get?_update_self _ ho (Obj.isFreed_of_fields (Obj.data_mapFields hd _)), (Obj.cls_mapFields ..).trans hc, by rw [Obj.data_mapFields hd]; simp [rawInt]⟩
  refine wpAny_bind (wpAny_holding (wpAny_bind (wpAny_isOneOf_keyiter (s := { s with heap := s.heap.update it (Obj.mapFields (·.setIfInBounds 1 (rawInt ((i : Int) + 1)))) }) hit'.typeIs ?_)))
  show wpAny _ _ (pure (entOf w p).key) _ _ _
  exact wpAny_pure (wpAny_pure ⟨_, rfl, wpAny_pure (hQ _ hit' (Heap.SameBut.update ..))⟩)
/-- its end -/
theorem book_stop {prog : Program} {w : World} {A : Around} {E : Value → Shared → Prop} {s : Shared} {it B d : Addr} {kvs : KVs} {ep : Nat} {Q : Option Value → Shared → Prop} (hh : A.handled = none) (I : BookIter w s.heap it B d kvs ep kvs.length)
    (hQ : ∀ h', Heap.ExtBut it s.heap h' → Q none { s with heap := h' }) : wpAny (model prog w) A (pyNext (.ref it)) Q E s := by
  obtain ⟨hit, hB⟩ := I
  obtain ⟨o, ho, hc, hd⟩ := id hit
  have he : ((kvs.map (entOf w)).toArray)[kvs.length]? = none := by simp
  unfold pyNext
  refine wpAny_bind (wpAny_attempt (wpAny_callSpecial?_slot (name := Str.ofString "__next__") hit.typeIs PySem.F.slot_dict_keyiterator_next
    (wpAny_call_entry PySem.F.slot_dict_keyiterator_next hit.typeIs PySem.F.entry_dict_keyiterator_next ?_ (PySem.F.args_dict_keyiterator_next_1 _))))
  refine wpAny_bind (wpAny_pure ?_)
  refine wpAny_bind (wpAny_bind ?_)
  refine wpAny_bind (wpAny_typeNameOfWhole_keyiter hit.typeIs (wpAny_pure ?_))
  refine wpAny_bind (wpAny_fieldsOf ho hd ?_)
  have hown : Builtin.Dict_items.ownsTuple "dict_keyiterator" = false := by decide
  simp only [hown, Bool.false_eq_true, if_false]
  show wpAny _ _ (if (Value.ref B == Value.none) = true then _ else _) _ _ s
  rw [if_neg (show ¬ ((Value.ref B == Value.none) = true) from Bool.false_ne_true)]
  refine wpAny_bind (wpAny_pure (wpAny_bind (wpAny_dictEntries hB rfl ?_)))
  rw [if_neg (by simp)]
  refine wpAny_bind (wpAny_pure (wpAny_bind (wpAny_dictEpoch hB rfl ?_)))
  rw [if_neg (by simp)]
  refine wpAny_pure ?_
  dsimp only
  rw [if_neg (by omega), Int.toNat_natCast, he]
  dsimp only
  refine wpAny_bind (wpAny_bind (wpAny_typeNameOfWhole_keyiter hit.typeIs (wpAny_pure ?_)))
  show wpAny _ _ (setField (.ref it) 0 .none >>= _) _ _ s
  refine wpAny_bind (wpAny_setField ho hd (by simp) ?_)
  show wpAny _ _ (newExc (.type "StopIteration") [] >>= _) _ _ _
  refine wpAny_bind ?_
  simp only [newExc, newTuple]
  refine wpAny_bind (wpAny_newObj_type ?_ (by size_fits))
  refine wpAny_bind (m := firstArgMember _ _) (wpAny_of_eq (a := Value.none) (by simp only [firstArgMember]; rfl) ?_)
  refine wpAny_newObj_type ?_ (by size_fits)
  simp only [raiseNew]
  refine wpAny_bind (wpAny_handled ?_)
  rw [show A.in1.handled = none from hh]
  refine wpAny_bind (wpAny_pure (wpAny_throw ?_))
  refine wpAny_bind (wpAny_isInstance (T := "StopIteration") (b := true) ⟨_, Heap.get?_push_size _ rfl, rfl⟩ isSubtype_stop ?_)
  exact wpAny_pure (hQ _ (((Heap.SameBut.update ..).extBut.push _).push _))
theorem book_walks {prog : Program} {w : World} {A : Around} {I B d : Addr} {kvs : KVs} {ep : Nat} (hh : A.handled = none) (hne : B ≠ I) :
    Walks prog w A I [I, B] [I] kvs.length (fun i v => ∃ p, kvs[i]? = some p ∧ v = .str p.1 p.2.1) (fun i h => BookIter w h I B d kvs ep i) where
  sub := fun b hb => by rw [List.mem_singleton.mp hb]; exact .head _
  frame := fun _ _ _ st hk => ⟨st.1.at fun o e => hk I (.head _) o e, hk B (.tail _ (.head _)) _ st.2⟩
  item := fun i s Q E hi st hQ => by
    obtain ⟨p, hx⟩ : ∃ p, kvs[i]? = some p := ⟨kvs[i], List.getElem?_eq_getElem hi⟩
    refine book_next st hx fun h' hit' hs => hQ _ h' s.toks ⟨p, hx, rfl⟩ ⟨hit', hs.extBut B _ hne st.2⟩ fun b o hb e => hs.extBut b o (fun h => hb (by rw [h]; exact .head _)) e
  done := fun s Q E st hQ => book_stop hh st fun h' he => hQ h' s.toks fun b o hb e => he b o (fun h => hb (by rw [h]; exact .head _)) e
  self := fun _ _ _ _ st hQ => wpAny_pyIter_keyiter st.1 hQ
section
variable {prog : Program} {w : World} {A : Around} {E : Value → Shared → Prop} {s : Shared} {K : Frag} {B d : Addr} {kvs : KVs} {ep : Nat} {fs : List DictEntry} {fp : Nat}
abbrev KeyAt (kvs : KVs) (i : Nat) (v : Value) : Prop := ∃ p, kvs[i]? = some p ∧ v = .str p.1 p.2.1
theorem lst_self {h : Heap} {S : Addr} {vs : Array Value} {c : Nat} (f : Array Value → Array Value) (e : h.get? S = some (listObj vs c)) : ∃ c', (h.update S (Obj.mapSeq f)).get? S = some (listObj (f vs) c') := ⟨_, Heap.get?_update_self (Obj.mapSeq f) e rfl⟩
theorem lst_other {h : Heap} {S b : Addr} {o : Obj} (f : Array Value → Array Value) (hb : b ≠ S) (e : h.get? b = some o) : (h.update S (Obj.mapSeq f)).get? b = some o := (Heap.get?_update_other _ _ (Ne.symm hb)).trans e
/-- a list filled from a book -/
theorem book_extend {R : Result → Shared → Prop} {S : Addr} {c₀ : Nat} {res : Value} (hh : A.handled = none) (X : K.In s.heap) (C : Cls K) (D : BookAt w s.heap B d kvs ep fs fp) (hn : (B == sysModules) = false) (hz : kvs.length ≤ 1000) (hS : s.heap.get? S = some (listObj #[] c₀))
    (hR : ∀ h' tk acc c, (∀ b o, b ≠ S → s.heap.get? b = some o → h'.get? b = some o) → h'.get? S = some (listObj acc c) → ItemsOf (KeyAt kvs) acc kvs.length → R (.ok (.ret res)) { s with heap := h', toks := tk }) :
    wpAny (model prog w) A.in1 (Builtin.List.listExtendWith (.ref S) (.ref B) res)
      (fun fin s' => match fin with | .done f => R (.ok f) s' | .again c' => c'.quiet = true ∧ codeAny (model prog w) A c' R s') (fun e s' => R (.error e) s') s := by
  have I := book_inst D
  have hSB : S ≠ B := fun q => by
    have e := D.1
    rw [← q, hS] at e
    cases e
  have hlt : B < s.heap.objs.size := Heap.lt_size D.1
  have hSI : S ≠ s.heap.objs.size := Nat.ne_of_lt (Heap.lt_size hS)
  have hSf : S ∉ [s.heap.objs.size, B] := fun hm => by
    rcases List.mem_cons.mp hm with q | hm
    · exact hSI q
    · exact hSB (List.mem_singleton.mp hm)
  have W := book_walks (prog := prog) (w := w) (A := A.in1) (I := s.heap.objs.size) (B := B) (d := d) (kvs := kvs) (ep := ep) hh (Nat.ne_of_lt hlt)
  have loop : ∀ (h : Heap) (c tk : Nat), BookIter w h s.heap.objs.size B d kvs ep 0 → (∀ b o, b ≠ S → s.heap.get? b = some o → h.get? b = some o) → h.get? S = some (listObj #[] c) →
      codeAny (model prog w) A (.builtin "list.extend.loop" ⟨[.ref S, .ref s.heap.objs.size, res], []⟩) R { s with heap := h, toks := tk } := by
    intro h c tk st hk e
    refine codeAny_extend_loopS W.toS (Nat.le_trans hz (by decide +kernel)) S hSf res kvs.length 0 _ #[] c rfl (Nat.zero_le _) st e (ItemsOf.nil _) fun s' acc c' hm hS' ha => ?_
    rw [Moved.eq_with hm]
    refine hR s'.heap s'.toks acc c' (fun b o hb e => hm.heap b o (fun q => ?_) (hk b o hb e)) hS' ha
    rcases List.mem_cons.mp q with q | q
    · exact hb q
    · rw [List.mem_singleton.mp q] at e
      exact absurd (Heap.lt_size e) (Nat.lt_irrefl _)
  unfold Builtin.List.listExtendWith
  refine wpAny_bind (I.type.here ?_)
  have h1 : Builtin.List.listSameRef (.ref S) (.ref B) = false := by simp [Builtin.List.listSameRef, hSB]
  have h2 : (Value.ref 108 == Value.type "list") = false := rfl
  have h3 : (Value.ref 108 == Value.type "tuple") = false := rfl
  simp only [h1, h2, h3, Bool.or_false, Bool.false_eq_true, if_false]
  refine wpAny_bind (book_iter X C D hn ?_)
  have keep : ∀ b o, s.heap.get? b = some o → (s.heap.push ({ cls := .type "dict_keyiterator", data := .fields #[.ref B, .int 0 0, .int kvs.length 0, .int ep 0] } : Obj)).get? b = some o := fun b o e => Heap.get?_push_of_some _ e
  have st0 : BookIter w (s.heap.push { cls := .type "dict_keyiterator", data := .fields #[.ref B, .int 0 0, .int kvs.length 0, .int ep 0] }) s.heap.objs.size B d kvs ep 0 := ⟨⟨_, Heap.get?_push_size _ rfl, rfl, rfl⟩, keep _ _ D.1⟩
  refine wpAny_bind (wpAny_holding (book_hint (s := { s with heap := s.heap.push _ }) (X.keeps keep) C ⟨keep _ _ D.1, keep _ _ D.2⟩ hn hz fun b => ?_))
  refine wpAny_ite_split (fun _ => ?_) (fun _ => wpAny_pure ⟨plainId_quiet PySem.F.plain_extend_loop _, loop _ c₀ _ st0 (fun b o _ e => keep b o e) (keep _ _ hS)⟩)
  refine wpAny_bind (wpAny_rule (wpAny_bind ?_))
  show wpAny _ _ (updateSeq S (·.push .none) >>= fun _ => updateSeq S (·.pop)) _ _ _
  have e1 := keep _ _ hS
  refine wpAny_bind (wpAny_updateSeq e1 rfl ?_)
  obtain ⟨c1, e2⟩ := lst_self (·.push Value.none) e1
  refine wpAny_updateSeq (hz := by seq_fits) e2 rfl ?_
  obtain ⟨c2, e3⟩ := lst_self (·.pop) e2
  refine wpAny_pure ⟨plainId_quiet PySem.F.plain_extend_loop _, loop _ c2 _ ?_ (fun b o hb e => lst_other _ hb (lst_other _ hb (keep b o e))) e3⟩
  refine W.frame 0 _ _ st0 fun b hb o e => ?_
  have hb' : b ≠ S := fun q => hSf (q ▸ hb)
  exact lst_other _ hb' (lst_other _ hb' e)
theorem list_bookA {Q : Value → Shared → Prop} (hh : A.handled = none) (X : K.In s.heap) (C : Cls K) (D : BookAt w s.heap B d kvs ep fs fp) (hn : (B == sysModules) = false) (hz : kvs.length ≤ 1000)
    (hQ : ∀ h' tk acc c, Ext s.heap h' → h'.get? s.heap.objs.size = some (listObj acc c) → ItemsOf (KeyAt kvs) acc kvs.length → Q (.ref s.heap.objs.size) { s with heap := h', toks := tk }) : wpAny (model prog w) A (call (.type "list") [.ref B]) Q E s := by
  refine callType_codes (Q₁ := fun obj s₁ => obj = .ref s.heap.objs.size ∧ s₁ = { s with heap := s.heap.push (listObj #[] 0) }) PySem.F.called_list (PySem.F.typeCall_list_1 _) PySem.F.entry_list_init (code_list_new _ ⟨rfl, rfl⟩) fun obj s₁ h₁ => ?_
  obtain ⟨rfl, rfl⟩ := h₁
  have hS : (s.heap.push (listObj #[] 0)).get? s.heap.objs.size = some (listObj #[] 0) := Heap.get?_push_size _ rfl
  have keep : ∀ b o, s.heap.get? b = some o → (s.heap.push (listObj #[] 0)).get? b = some o := fun b o e => Heap.get?_push_of_some _ e
  refine ⟨⟨_, hS, rfl⟩, PySem.F.args_list_init_2 _ _, ?_⟩
  show wpAny _ _ (do let old ← Builtin.List.listItems (.ref s.heap.objs.size); Builtin.List.listUpdate (.ref s.heap.objs.size) (fun _ => #[]); letGo old.toList.reverse; Builtin.List.listExtendWith (.ref s.heap.objs.size) (.ref B) .none) _ _ _
  refine wpAny_bind ?_
  unfold Builtin.List.listItems
  refine wpAny_bind (wpAny_seqItems hS rfl (wpAny_pure ?_))
  show wpAny _ _ (updateSeq s.heap.objs.size (fun _ => #[]) >>= fun _ => letGo (#[] : Array Value).toList.reverse >>= fun _ => Builtin.List.listExtendWith (.ref s.heap.objs.size) (.ref B) .none) _ _ _
  refine wpAny_bind (wpAny_updateSeq hS rfl ?_)
  obtain ⟨c1, e1⟩ := lst_self (fun _ => (#[] : Array Value)) hS
  have keep1 : ∀ b o, s.heap.get? b = some o → ((s.heap.push (listObj #[] 0)).update s.heap.objs.size (Obj.mapSeq fun _ => (#[] : Array Value))).get? b = some o := fun b o e => lst_other _ (Nat.ne_of_lt (Heap.lt_size e)) (keep b o e)
  refine wpAny_bind (wpAny_letGo ?_)
  refine book_extend (A := A.in1) (s := { s with heap := _ }) hh (X.keeps keep1) C ⟨keep1 _ _ D.1, keep1 _ _ D.2⟩ hn hz e1 fun h' tk acc c hk hS' ha => ?_
  exact ⟨rfl, hQ h' tk acc c (fun b o e => hk b o (Nat.ne_of_lt (Heap.lt_size e)) (keep1 b o e)) hS' ha⟩
end
end Mine
end
section
open PySem PySem.W PyProof.Rows PySem.Spec
set_option Elab.async false
set_option maxRecDepth 100000
set_option maxHeartbeats 2000000
namespace Mine
theorem keys_acc {rows : List RowS} {acc : Array Value} (h : ItemsOf (KeyAt (kvsOf rows)) acc (kvsOf rows).length) : acc = (rows.map fun r => Value.str r.k r.t).toArray := by
  have hl : (kvsOf rows).length = rows.length := by simp [kvsOf]
  have hs : acc.size = rows.length := h.1.trans hl
  refine Array.ext_getElem? fun j => ?_
  rcases Nat.lt_or_ge j rows.length with hj | hj
  · obtain ⟨p, hp, e⟩ := h.2 j (acc[j]'(by rw [hs]; exact hj)) (Array.getElem?_eq_getElem (by rw [hs]; exact hj))
    rw [Array.getElem?_eq_getElem (by rw [hs]; exact hj), e]
    have e2 : p = (rows[j].k, rows[j].t, rows[j].a) := by
      simp [kvsOf, List.getElem?_eq_getElem hj] at hp
      exact hp.symm
    subst e2
    simp [List.getElem?_eq_getElem hj]
  · rw [Array.getElem?_eq_none (by rw [hs]; exact hj)]
    simp [List.getElem?_eq_none hj]
theorem list_book {w : World} {A : Around} {E : Value → Shared → Prop} {s : Shared} {B d : Addr} {ep : Nat} {fs : List DictEntry} {fp : Nat} {rows : List RowS} {Q : Value → Shared → Prop} (hh : A.handled = none) (X : (KK w.params).In s.heap) (hn : (B == sysModules) = false) (hlen : rows.length ≤ 1000) (D : BookAt w s.heap B d (kvsOf rows) ep fs fp)
    (hQ : ∀ v h' tk, Ext s.heap h' → (∃ D n, v = .ref D ∧ s.heap.get? D = none ∧ h'.get? D = some (listObj (rows.map fun r => Value.str r.k r.t).toArray n)) → Q v { s with heap := h', toks := tk }) :
    wpAny (model PySem.Challenge.rw_in0185_01.row.prog w) A (call (.type "list") [.ref B]) Q E s := by
  have X₀ := K_of_KK X
  revert X₀; k_fill; intro X₀
  have C : Cls (hk.heap_39 w.params) := ⟨by k_is, by k_is, by k_is, by k_is⟩
  refine list_bookA hh X₀ C D hn (by simp [kvsOf]; exact hlen) fun h' tk acc c x e ha => hQ _ h' tk x ⟨_, c, rfl, Heap.get?_none_of_le (Nat.le_refl _), ?_⟩
  rw [← keys_acc ha]
  exact e
end Mine
end
section
open PySem PySem.W PyProof.Rows PySem.Spec
set_option Elab.async false
set_option maxRecDepth 100000
set_option maxHeartbeats 4000000
namespace Mine
section
variable {α : Type} {prog : Program} {w : World} {A : Around} {E : Value → Shared → Prop} {R : Result → Shared → Prop} {s : Shared}
theorem Z.stack {M : Model} {Q : List (Code × Pos) → Shared → Prop} (h : ∀ st, callerOn st = true → Q st s) : wpZ M A PySem.stack Q E s := fun Γ p _ b => by
  show Q ((Γ.code, p) :: Γ.below) s
  exact h _ (by unfold callerOn at b ⊢; rw [List.any_cons]; exact b)
/-- with the caller on the stack no refusal is marked -/
theorem Z.mark {own : List String} {e : Value} {M : Model} {Q : Unit → Shared → Prop} (h : Q () s) : wpZ M A (markTheRefusal own e) Q E s := by
  unfold markTheRefusal
  refine Z.bind (Z.stack fun st hst => ?_)
  have : pythonCodeMadeTheCall own (st.map (·.1)) = false := by
    have e : (st.map (·.1)).any Code.isCaller = true := by
      unfold callerOn at hst
      rw [List.any_map]
      exact hst
    unfold pythonCodeMadeTheCall
    change ((!((st.map (·.1)).any Code.isCaller)) && _ && _) = false
    rw [e]; rfl
  rw [this]
  exact Z.of (wpAny_pure h)
theorem Zc.builtin {id : String} {args : Args} {b : Builtin} (hb : entryFor table id = some b)
    (h : wpZ (model prog w) (A.under (.builtin id args)) (b args) (fun fin s' => match fin with | .done f => R (.ok f) s' | .again c' => c'.quiet = true ∧ codeZ (model prog w) A c' R s') (fun e s' => R (.error e) s') s) :
    codeZ (model prog w) A (.builtin id args) R s := by
  refine Zc.tree ?_
  show wpZ _ _ (match entryFor table id with | some b => b args | none => unsupported ((withoutEnding? id "#data").getD id)) _ _ s
  rw [hb]; exact h
theorem Zc.callBuiltin {id : String} {args : Args} (hq : (Code.builtin id args).quiet = true)
    (h : wpAny (model prog w) (A.under (.call (.builtin id) args)) (checkBuiltinCall id args) (fun _ s₁ => codeZ (model prog w) A (.builtin id args) R s₁) (fun e s' => R (.error e) s') s) :
    codeZ (model prog w) A (.call (.builtin id) args) R s := by
  refine Zc.tree ?_
  show wpZ _ _ (callAny (.builtin id) args) _ _ s
  unfold callAny
  exact Z.of (wpAny_bind (wpAny_mono h (fun _ s₁ h₁ => wpAny_pure ⟨hq, h₁⟩) fun _ _ x => x))
theorem tc_tree (C : Value) (args : List Value) (hC : (C == .type "type") = false) (hn : ∀ n, C ≠ .type n) : Builtin.«type.__call__» ⟨C :: args, []⟩ = (do
    if (← mroOf C).isEmpty then rule "type.call.half-made"; raiseError "TypeError" s!"cannot create '{← typeName C}' instances"
    let new ← match ← Bind.madeBy C with
      | some id => pure (.builtin id)
      | none => getAttr C "__new__"
    let obj ← holding [new] (call new (C :: args) [])
    if !(← isInstance obj C) then rule "type.call.new-gave-other-type"; return ← ret obj
    match ← holding [obj] (callSpecial? obj "__init__" args []) with
    | none => ret obj
    | some r =>
      if r != .none then
        rule "type.call.init-returned-value"
        raiseError "TypeError" s!"__init__() should return None, not '{← typeNameOf r}'"
      ret obj) := by
  unfold Builtin.«type.__call__»
  cases C <;> first | rfl | exact absurd rfl (hn _)
/-- a class whose `__new__` is not the model's, called: what `__new__` raises -/
theorem Zc.classRaises {K : Frag} {C : Addr} {args : List Value} {oc : Value} {od : Option Addr} {cd : ClassData} {sl : Array (Option Value)} (X : K.In s.heap) (ho : K.lookup C = some ⟨oc, od, .cls cd, sl⟩)
    (hcall : specialIn K (.ref C) "__call__" = some (some (.builtin "type.__call__"))) (hinst : instIn K (.ref C) (.type "type") = some true) (hmro : cd.mro.isEmpty = false)
    (hmade : Looks (model prog w) s.heap (Bind.madeBy (.ref C)) none)
    (h : wpAny (model prog w) (A.under (.builtin "type.__call__" ⟨.ref C :: args, []⟩)) (getAttr (.ref C) "__new__") (fun new s' => wpZ (model prog w) (A.under (.builtin "type.__call__" ⟨.ref C :: args, []⟩)) (call new (.ref C :: args)) (fun _ _ => False) (fun e s'' => R (.error e) s'') s') (fun e s' => R (.error e) s') s) :
    codeZ (model prog w) A (.call (.ref C) ⟨args, []⟩) R s := by
  obtain ⟨hp, g, d, t, os⟩ := s
  have hC := X _ _ ho
  have hc : clsIn K C = some cd := by unfold clsIn; rw [ho]
  have hm : Looks (model prog w) hp (mroOf (.ref C)) cd.mro := (looks_clsIn X hc).andThen .now
  refine Zc.tree (Z.of ?_)
  show wpAny _ _ (callAny (.ref C) _) _ _ _
  refine nd_load hC ?_
  show wpAny _ _ (callAny.viaDunder (.ref C) _) _ _ _
  unfold callAny.viaDunder
  refine wpAny_bind ((looks_specialIn X hcall).at ?_)
  dsimp only
  rw [tc_bind]
  refine wpAny_bind (wpAny_pure (wpAny_bind (wpAny_pure ?_)))
  refine wpAny_pure (a := Fin.again (.call (.builtin "type.__call__") ⟨.ref C :: args, []⟩)) (And.intro rfl ?_)
  refine Zc.callBuiltin (Code.quiet_builtin _ (by decide +kernel)) (check_slot tc_kind tc_split (looks_instIn X hinst) (tc_args _ _ _) ?_)
  refine Zc.builtin entry_typeCall ?_
  rw [tc_tree _ _ (by rfl) (by intro n e; cases e)]
  refine Z.then (hm.at ?_)
  rw [hmro, if_neg Bool.false_ne_true]
  refine Z.then (hmade.at ?_)
  dsimp only
  refine Z.then (wpAny_mono h (fun new s' h' => ?_) fun _ _ x => x)
  exact Z.bind (Z.holding (Z.mono h' (fun _ _ x => x.elim) fun _ _ x => x))
end
end Mine
end
section
open PySem PySem.W PyProof.Rows PySem.Spec
set_option Elab.async false
set_option maxRecDepth 100000
set_option maxHeartbeats 4000000
namespace Mine
theorem tci_tree (a : Value) : Builtin.«type.__call__» ⟨[.type "int", a], []⟩ = (do
    checkTypeCall "int" ⟨[a], []⟩
    if (← mroOf (.type "int")).isEmpty then rule "type.call.half-made"; raiseError "TypeError" s!"cannot create '{← typeName (.type "int")}' instances"
    let new ← match ← Bind.madeBy (.type "int") with
      | some id => pure (.builtin id)
      | none => getAttr (.type "int") "__new__"
    let obj ← holding [new] (call new [.type "int", a] [])
    if !(← isInstance obj (.type "int")) then rule "type.call.new-gave-other-type"; return ← ret obj
    match ← holding [obj] (callSpecial? obj "__init__" [a] []) with
    | none => ret obj
    | some r =>
      if r != .none then
        rule "type.call.init-returned-value"
        raiseError "TypeError" s!"__init__() should return None, not '{← typeNameOf r}'"
      ret obj) := by
  have h2 := F.called_int.canCreate
  unfold Builtin.«type.__call__»
  simp only [h2, show (Value.type "int" == Value.type "type") = false from by decide, Bool.false_eq_true, if_false]
  rfl
end Mine
end
section
open PySem PySem.W PyProof.Rows PySem.Spec PySem.W.KIN
set_option Elab.async false
set_option maxRecDepth 100000
set_option maxHeartbeats 4000000
namespace Mine
abbrev theX : PySem.Str := PySem.Str.ofString "x"
section
variable {prog : Program} {w : World} {A : Around} {E : Value → Shared → Prop} {R : Result → Shared → Prop} {s : Shared}
theorem Z.bindEq {α β : Type} {M : Model} {t : Sem β} {m : Sem α} {f : α → Sem β} {Q : β → Shared → Prop} (e : t = m >>= f) (h : wpAny M A m (fun a s' => wpZ M A (f a) Q E s') E s) : wpZ M A t Q E s := e ▸ Z.then h
theorem Z.bindEqZ {α β : Type} {M : Model} {t : Sem β} {m : Sem α} {f : α → Sem β} {Q : β → Shared → Prop} (e : t = m >>= f) (h : wpZ M A m (fun a s' => wpZ M A (f a) Q E s') E s) : wpZ M A t Q E s := e ▸ Z.bind h
theorem wpAny_raiseNew0 {α : Type} {M : Model} {e : Value} {Q : α → Shared → Prop} (hh : A.handled = none) (h : E e s) : wpAny M A (raiseNew e : Sem α) Q E s := by
  unfold raiseNew
  refine wpAny_bind (wpAny_handled ?_)
  rw [hh]
  first
    | exact wpAny_throw h
    | exact wpAny_bind (wpAny_pure (wpAny_throw h))
    | (split <;> first | exact wpAny_throw h | exact wpAny_bind (wpAny_pure (wpAny_throw h)) | simp_all)
theorem Z.refuse {α : Type} {msg : String} {Q : α → Shared → Prop} (hh : A.handled = none) (hm : (msg : PySem.Str).length ≤ sizeLine)
    (h : ∀ e h' tk, Heap.NewExc s.heap h' e "TypeError" → E (.ref e) { s with heap := h', toks := tk }) : wpZ (model prog w) A (theBinderRefuses msg : Sem α) Q E s := by
  unfold theBinderRefuses
  refine Z.then (wpAny_mkStr ?_ hm)
  refine Z.then (wpAny_newExc_plain plainExc_TypeError (fun h' e n => ?_))
  refine Z.bind (Z.mark ?_)
  exact Z.of (wpAny_raiseNew0 hh (h e h' _ n.newExc))
theorem int_newZ {u : Tok} {Q : Fin → Shared → Prop} (hh : A.handled = none) (h : ∀ e h' tk, Heap.NewExc s.heap h' e "ValueError" → E (.ref e) { s with heap := h', toks := tk }) :
    wpZ (model prog w) A (Builtin.«int.__new__» ⟨[.type "int", .str theX u], []⟩) Q E s := by
  obtain ⟨hp, g, d, tk, os⟩ := s
  have f1 := F.conv_sub_int
  have f2 := F.madeHere_int
  have f3 := str_int
  have f4 := str_idx
  have f5 := str_trunc
  have f6 : typeOf (.str theX u) = pure (.type "str") := rfl
  unfold Builtin.«int.__new__»
  dsimp only
  repeat (any_goals (first
    | ((with_reducible refine Z.then ?_); repeat (first | assumption | wp_step))
    | (rw [if_neg (by decide)])
    | (rw [if_pos (by decide)])
    | dsimp only))
  rw [if_neg (by simp)]
  refine Z.bindEq (m := forIn ([] : List (PySem.Str × Value)) PUnit.unit _) rfl ?_
  repeat (first | assumption | wp_step)
  refine Z.bindEqZ (m := (int_private% "intFromObject") (.str theX u)) rfl ?_
  generalize (fun a s' => wpZ (model prog w) A _ Q E s') = Q2
  refine Z.bindEq (m := callSpecial? (.str theX u) "__int__") rfl ?_
  repeat (first | assumption | wp_step)
  refine Z.bindEq (m := specialOf (.str theX u) "__index__") rfl ?_
  repeat (first | assumption | wp_step)
  refine Z.bindEq (m := specialOf (.str theX u) "__trunc__") rfl ?_
  repeat (first | assumption | wp_step)
  refine Z.bindEq (m := (int_private% "numeralText?") (.str theX u)) rfl ?_
  repeat (first | assumption | wp_step)
  show wpZ _ _ ((int_private% "intFromText") (.str theX u) (if (theX.cps.all fun x => decide (x < 128)) = true then theX.cps.toList else Unicode.numberText theX.cps.toList) 10) _ _ _
  rw [show (if (theX.cps.all fun x => decide (x < 128)) = true then theX.cps.toList else Unicode.numberText theX.cps.toList) = [120] from by decide +kernel]
  refine Z.bindEq (m := pure 0) rfl ?_
  refine wpAny_pure ?_
  refine Z.bindEq (m := (int_private% "bytesOf?") (.str theX u)) rfl ?_
  repeat (first | assumption | wp_step)
  rw [if_neg (by decide)]
  refine Z.bindEq (m := rule "int.__new__.invalid-literal") rfl (wpAny_rule ?_)
  refine Z.bindEq (m := (int_private% "bytesOf?") (.str theX u)) rfl ?_
  repeat (first | assumption | wp_step)
  refine Z.bindEq (m := pyRepr (.str theX u)) rfl ?_
  refine wpAny_pyRepr_str ?_ (by decide +kernel)
  refine Z.bindEq (m := mkStr _) rfl ?_
  refine wpAny_mkStr ?_ (by decide +kernel)
  refine Z.bindEq (m := newExc _ _) rfl ?_
  refine wpAny_newExc_plain plainExc_ValueError (fun h' e n => ?_)
  refine Z.bindEqZ (m := markTheRefusal _ _) rfl (Z.mark ?_)
  refine Z.of (wpAny_raiseNew0 hh ?_)
  exact h e h' _ n.newExc
end
end Mine
end
section
open PySem PySem.W PyProof.Rows PySem.Spec
set_option Elab.async false
set_option maxRecDepth 100000
set_option maxHeartbeats 4000000
namespace Mine
section
variable {α : Type} {prog : Program} {w : World} {A : Around} {E : Value → Shared → Prop} {R : Result → Shared → Prop} {s : Shared}
theorem Z.callBuiltin {id : String} {args : List Value} {b : Builtin} {Q : Value → Shared → Prop} (hp : plainId id = true) (hb : entryFor table id = some b)
    (h : wpAny (model prog w) A.in1 (checkBuiltinCall id ⟨args, []⟩) (fun _ s₁ => wpZ (model prog w) A.in1 (b ⟨args, []⟩) (fun fin s' => ∃ v, fin = .done (.ret v) ∧ Q v s') E s₁) E s) :
    wpZ (model prog w) A (PySem.call (.builtin id) args) Q E s := by
  refine Z.call (Zc.callBuiltin (plainId_quiet hp _) ?_)
  refine wpAny_mono (Q := fun _ s₁ => wpZ (model prog w) A.in1 (b ⟨args, []⟩) (fun fin s' => ∃ v, fin = .done (.ret v) ∧ Q v s') E s₁) (by
    have e : A.under (.call (.builtin id) ⟨args, []⟩) = A.in1 := Around.under_plain rfl rfl
    rw [e]; exact h) (fun _ s₁ h₁ => ?_) fun _ _ x => x
  refine Zc.builtin hb ?_
  rw [Around.under_plainId hp]
  refine Z.mono h₁ (fun fin s' h' => ?_) fun _ _ x => x
  obtain ⟨v, rfl, hv⟩ := h'
  exact hv
theorem int_badZ {t : Tok} {Q : Value → Shared → Prop} (hh : A.handled = none) (h : ∀ e h' tk, Heap.NewExc s.heap h' e "ValueError" → E (.ref e) { s with heap := h', toks := tk }) :
    wpZ (model prog w) A (call (.type "int") [.str theX t]) Q E s := by
  have ft := F.called_int
  obtain ⟨c, tl, hmro⟩ := ft.mro
  refine Z.call (Zc.tree ?_)
  show wpZ _ _ (callAny (.type "int") _) _ _ _
  refine Z.of (wpAny_pure ⟨Code.quiet_builtin _ (by decide +kernel), Zc.builtin F.entry_type_call ?_⟩)
  rw [Around.under_plain (weight_type_call_type "int" [.str theX t] []) (units_type_call_type "int" [.str theX t] [])]
  rw [tci_tree]
  refine Z.then (wpAny_of_eq (F.typeCall_int_1 _) ?_)
  refine Z.then (wpAny_of_eq hmro ?_)
  rw [if_neg (by simp)]
  refine Z.then (wpAny_of_eq ft.made ?_)
  dsimp only
  refine Z.then (wpAny_pure ?_)
  refine Z.bind (Z.holding ?_)
  refine Z.callBuiltin ft.plain F.entry_int_new (wpAny_of_eq (F.newCall_int_1 _) ?_)
  exact int_newZ hh h
theorem Z.special {v : Value} {T : String} {name : PySem.Str} {id : String} {args : List Value} {Q : Option Value → Shared → Prop} (hT : s.TypeIs v T) (h : Slot T name id)
    (hc : wpZ (model prog w) A (PySem.call (.builtin id) (v :: args)) (fun r s' => Q (some r) s') E s) : wpZ (model prog w) A (callSpecial? v name args) Q E s := by
  unfold callSpecial?
  refine Z.then (wpAny_specialOf hT h.lookup ?_)
  dsimp only
  rw [h.bind]
  exact Z.holding (Z.then (wpAny_pure (Z.bind (Z.mono hc (fun v s' h' => Z.of (wpAny_pure h')) fun _ _ h' => h'))))
theorem map_next_badZ {M tt it l : Addr} {i : Nat} {f x : Value} {items : Array Value} {Q : Option Value → Shared → Prop}
    (D : MapAt s.heap M tt it l i f items) (hM : M ≠ it) (hT : tt ≠ it) (hL : l ≠ it) (hx : items[i]? = some x)
    (h : ∀ h', MapAt h' M tt it l (i + 1) f items → Heap.SameBut it s.heap h' →
      wpZ (model prog w) A.in1 (call f [x]) (fun v s' => False)
        (fun e s' => ∃ T, s'.TypeIs e T ∧ isSubtype (.type T) (.type "StopIteration") = pure false ∧ E e s') { s with heap := h' }) :
    wpZ (model prog w) A (pyNext (.ref M)) Q E s := by
  obtain ⟨o, ho, hc, hd⟩ := D.m
  obtain ⟨ot, nt, hot, hdt⟩ := D.t
  have hTM : s.TypeIs (.ref M) "map" := ⟨o, ho, hc⟩
  unfold pyNext
  refine Z.bind (Z.attempt (Z.special (name := Str.ofString "__next__") hTM slot_map_next
    (Z.callBuiltin slot_map_next.plain entry_map_next (slot_map_next.check _ _ _ _ _ _ _ _ hTM (args_map_next _) ?_))))
  refine Z.bindEq (m := field (.ref M) 0) rfl ?_
  refine wpAny_field ho hd (x := .ref tt) rfl ?_
  refine Z.bindEq (m := seqItems? (.ref tt)) rfl ?_
  refine wpAny_seqItems hot hdt ?_
  dsimp only
  simp only [← Array.forIn_toList, List.forIn_cons, List.forIn_nil]
  refine Z.then (wpAny_bind (wpAny_bind (wpAny_holding (nextOf_item D.it D.l hx fun h' hit' hsb => ?_))))
  refine wpAny_pure (wpAny_pure ?_)
  have D' : MapAt h' M tt it l (i + 1) f items :=
    ⟨⟨o, (hsb.2 M hM).trans ho, hc, hd⟩, ⟨ot, nt, (hsb.2 tt hT).trans hot, hdt⟩, hit', D.l.at fun o' e => (hsb.2 l hL).trans e⟩
  obtain ⟨o2, ho2, hc2, hd2⟩ := D'.m
  refine Z.then (wpAny_field (s := { s with heap := h' }) ho2 hd2 (x := f) rfl ?_)
  refine Z.bind (Z.holding ?_)
  refine Z.mono (h h' D' hsb) (fun v s' hv => hv.elim) (fun e s' he => ?_)
  obtain ⟨T, hTe, hs, hE⟩ := he
  refine Z.of (wpAny_bind (wpAny_isInstance hTe hs ?_))
  simp only [Bool.false_eq_true, if_false]
  exact wpAny_throw hE
/-- unpacking two, where the second is refused -/
theorem unpack2_badZ {M tt it l : Addr} {x : Value} {u : Tok} {P1 : Value → Prop} {Q : List Value → Shared → Prop} (hh : A.handled = none)
    (D : MapAt s.heap M tt it l 0 (.type "int") #[x, .str theX u]) (O : MapOk M tt it l) (h1 : FSpec prog w A.in1 (.type "int") x P1)
    (h : ∀ e h1 h' tk, Heap.ExtBut it s.heap h1 → Heap.NewExc h1 h' e "ValueError" → E (.ref e) { s with heap := h', toks := tk }) :
    wpZ (model prog w) A (unpackItems (.ref M) 2 none) Q E s := by
  unfold unpackItems
  refine Z.then (map_iterable D ?_)
  simp only [Bool.false_eq_true, if_false]
  refine Z.then (wpAny_holding (map_iter_self D ?_))
  refine Z.bind (Z.holding ?_)
  simp only [draw]
  refine Z.then (map_next_ok D O rfl h1 fun v1 hp1 tk1 p1 D1 x1 => ?_)
  refine Z.bind (Z.holding ?_)
  refine Z.bind (map_next_badZ (s := { s with heap := hp1, toks := tk1 }) D1 O.m O.t O.l rfl fun h' D' hs => ?_)
  refine int_badZ hh fun e h'' tk hn => ?_
  obtain ⟨ob, t, ho, hc, hd⟩ := hn.there
  exact ⟨"ValueError", ⟨ob, ho, hc⟩, by rw [isSubtype_type]; kernel_rfl, h e h' h'' tk (extBut_trans x1 hs.extBut) hn⟩
end
end Mine
end
section
open PySem PySem.W PyProof.Rows PySem.Spec
set_option Elab.async false
set_option maxRecDepth 100000
set_option maxHeartbeats 8000000
namespace Mine
/-- the frames that stand below, as objects -/
def FramesOk (l : List Env) (h : Heap) : Prop := ∀ env ∈ l, env.scope.kind ≠ .module ∧ ∃ L o es n, env.frame = some L ∧ h.get? L = some o ∧ o.data = .dict es n
theorem FramesOk.slots {l : List Env} {h h' : Heap} (C : FramesOk l h) (x : h.UpToSlots h') : FramesOk l h' := fun env he => by
  obtain ⟨hk, L, o, es, n, hf, ho, hd⟩ := C env he
  obtain ⟨sl, e⟩ := x L o ho (fun vs q => by rw [hd] at q; cases q)
  exact ⟨hk, L, _, es, n, hf, e, hd⟩
theorem FramesOk.keeps {l : List Env} {h h' : Heap} (C : FramesOk l h) (x : ∀ b o, h.get? b = some o → h'.get? b = some o) : FramesOk l h' := C.slots (.of_keeps x)
theorem FramesOk.fun {l : List Env} {h base : Heap} (C : FramesOk l h) (hb : ∀ a ∈ frs l, base.get? a = none) : h.FunFrames base l := by
  induction l with
  | nil => trivial
  | cons env r ih =>
    obtain ⟨hk, L, o, es, n, hf, ho, hd⟩ := C env (.head _)
    have e : frs (env :: r) = L :: frs r := by simp [frs, hf]
    refine ⟨hk, ⟨L, o, hf, hb L (by rw [e]; exact .head _), ho, fun vs q => by rw [hd] at q; cases q⟩, ih (fun x hx => C x (.tail _ hx)) fun a ha => hb a (by rw [e]; exact .tail _ ha)⟩
theorem FramesOk.mem {l : List Env} {h : Heap} (C : FramesOk l h) {a : Addr} (ha : a ∈ frs l) : ∃ o es n, h.get? a = some o ∧ o.data = .dict es n := by
  obtain ⟨env, he, hf⟩ := List.mem_filterMap.mp ha
  obtain ⟨_, L, o, es, n, hf', ho, hd⟩ := C env he
  rw [hf] at hf'
  cases hf'
  exact ⟨o, es, n, ho, hd⟩
theorem FramesOk.cons {l : List Env} {h : Heap} {env : Env} {L : Addr} {m : Str → Option Value} (C : FramesOk l h) (hk : env.scope.kind ≠ .module) (hf : env.frame = some L) (hn : h.Ns L m) : FramesOk (env :: l) h := fun x hx => by
  rcases List.mem_cons.mp hx with rfl | hx
  · obtain ⟨o, es, n, ho, hd, _⟩ := hn
    exact ⟨hk, L, o, es, n, hf, ho, hd⟩
  · exact C x hx
/-- what a call leaves that raised: all but the frames as it was, the exception on its way -/
def Thrown (l : List Env) (h : Heap) (e : Addr) (cls : String) (h' : Heap) : Prop :=
  ∃ B a0, (∀ b o, h.get? b = some o → b ∉ frs l → B.get? b = some o) ∧ Heap.FlyingW B l e (.type cls) a0 h' ∧ h.UpToSlots h'
section
variable {M : Model} {A : Around} {E : Value → Shared → Prop} {s : Shared}
theorem leave_first {env : Env} {l : List Env} {L e : Addr} {h₀ h1 : Heap} {m : Str → Option Value} {cls : String} {Q : Unit → Shared → Prop} (hA : A.frames = some (env :: l)) (hf : env.frame = some L) (hk : env.scope.kind ≠ .module)
    (C : FramesOk l h₀) (F : Fr h₀ L s.heap m) (hx : Heap.NewExc h1 s.heap e cls) (hen : h₀.get? e = none) (h : ∀ h', Thrown l h₀ e cls h' → Q () { s with heap := h' }) : wpAny M A (leaving env (.ref e)) Q E s := by
  obtain ⟨ob, t, ho, hc, hd⟩ := hx.there
  have sub : ∀ b o, (hideAll h₀ (frs l)).get? b = some o → h₀.get? b = some o := fun b o e => of_hideAll _ e
  have none_of : ∀ b, h₀.get? b = none → (hideAll h₀ (frs l)).get? b = none := fun b e => by
    cases q : (hideAll h₀ (frs l)).get? b with
    | none => rfl
    | some o => rw [sub _ _ q] at e; cases e
  have hL : h₀.get? L = none := Heap.get?_none_of_le F.above
  refine wpAny_leaving_firstW (base := hideAll h₀ (frs l)) hA (.cons hk hf F.ns (none_of _ hL) ((C.keeps F.keep).fun fun a ha => hideAll_none _ ha)) hf ho (fun b o e => F.keep b o (sub b o e)) (none_of _ hen) hd rfl rfl fun h' x => ?_
  obtain ⟨k1, ⟨_, _, k2⟩, k3, k4⟩ := x
  exact h h' ⟨_, t, fun b o e n => hideAll_get _ e n, ⟨k1, none_of _ hen, k2, hc ▸ k3⟩, (Heap.UpToSlots.of_keeps F.keep).trans k4⟩
end
section
variable {prog : Program} {w : World} {A : Around} {E : Value → Shared → Prop} {s : Shared} {env : Env}
theorem Z.Assign {target value : Expr} {pos : Pos} {Q : Flow → Shared → Prop} (h : wpZ (model prog w) A (eval value env) (fun v s₁ => wpZ (model prog w) A (assign target env v) (fun _ => Q .next) E s₁) E s)
    (hs : swapsWithSole [target] value pos.line env = pure false := by rfl) (hw : swappedStores [target] value env = pure none := by rfl)
    (he : (assignEach [target] env).map (·.2) = [assign target env] := by rfl) : wpZ (model prog w) A (exec (.Assign [target] value pos) env) Q E s := by
  rw [arm_exec_Assign]
  refine Z.then (wpAny_standAt ?_)
  rw [hs]
  refine Z.then (wpAny_pure ?_)
  rw [if_neg (by decide)]
  refine Z.bind (Z.mono h (fun v s₁ h₁ => ?_) fun _ _ x => x)
  rw [hw, he]
  refine Z.then (wpAny_pure ?_)
  show wpZ _ A (do assign target env v; pure .next) Q E s₁
  exact Z.bind (Z.mono h₁ (fun _ _ x => Z.of (wpAny_pure x)) fun _ _ x => x)
theorem Z.tuple_bad {x y : PySem.Str} {px py pos : Pos} {k : Nat} {v : Value} {Q : Unit → Shared → Prop} (h : wpZ (model prog w) A (unpackItems v 2 none) (fun _ _ => False) E s) :
    wpZ (model prog w) A (assign (.Tuple [.Name x px, .Name y py] k pos) env v) Q E s := by
  show wpZ _ A (do standAt pos; unpack v [(false, fun v => assign (.Name x px) env v), (false, fun v => assign (.Name y py) env v)]) Q E s
  refine Z.then (wpAny_standAt ?_)
  unfold unpack
  refine Z.bind (Z.holding (Z.mono h (fun _ _ x => x.elim) fun _ _ x => x))
end
/-- texts that are no place -/
def BadPlace (x : Str) : Prop := (∃ a i, Txt.split x (Str.ofString ".") = [a] ∧ PySem.intText? a = some i) ∨ (∃ a i, Txt.split x (Str.ofString ".") = [a, theX] ∧ PySem.intText? a = some i) ∨
  ∃ a b c i j k, Txt.split x (Str.ofString ".") = [a, b, c] ∧ PySem.intText? a = some i ∧ PySem.intText? b = some j ∧ PySem.intText? c = some k
theorem one_of {l : List (Str × Tok)} {a : Str} (h : l.map (·.1) = [a]) : ∃ ta, l = [(a, ta)] := by
  match l, h with
  | [(x, t)], h => simp at h; subst h; exact ⟨t, rfl⟩
theorem three_of {l : List (Str × Tok)} {a b c : Str} (h : l.map (·.1) = [a, b, c]) : ∃ ta tb tc, l = [(a, ta), (b, tb), (c, tc)] := by
  match l, h with
  | [(x, t), (y, u), (z, v)], h => simp at h; obtain ⟨rfl, rfl, rfl⟩ := h; exact ⟨t, u, v, rfl⟩
theorem none_under {h h' : Heap} {e : Addr} (k : ∀ b o, h.get? b = some o → h'.get? b = some o) (n : h'.get? e = none) : h.get? e = none := by
  cases q : h.get? e with
  | none => rfl
  | some o => rw [k _ _ q] at n; cases n
set_option pp.deepTerms false
theorem glc_bad {w : World} {l : List Env} {s : Shared} {R : Result → Shared → Prop} {p : Program} {loose : List Str} {mean : ExcName → Option Value} {mg mb : Str → Option Value} {x : Str} {t : Tok}
    (X₁ : (KK w.params).In s.heap) (T : Top p loose mean mg mb s.heap) (C : FramesOk l s.heap) (hx : x.length ≤ 600) (hs : BadPlace x)
    (h : ∀ e h' tk, Thrown l s.heap e "ValueError" h' → R (.error (.ref e)) { s with heap := h', toks := tk }) :
    codeZ (model PySem.Challenge.rw_in0185_01.row.prog w) (AA 560 3600 l) (.call (.ref 213) ⟨[.str x t], []⟩) R s := by
  have X₀ := K_of_KK X₁
  revert X₀; k_fill; intro X₀
  w_top off
  refine' enterZ X₀ T.nolimit ?k6 ?k7 ?k8 ?k9 ?kB ?_ ?c2 ?c3 ?c4 ?c5
  case k6 => k_is
  case k7 => k_is
  case k8 => k_room
  case k9 => exact BindsTo.of_eq rfl
  case kB => exact locs rfl
  case c2 => exact rfl
  case c3 => exact rfl
  case c4 => exact rfl
  case c5 => decide
  intro h₁ F N
  have kX := kFor F X₀
  (try dsimp only); (try k_fold)
  refine Z.execs_then ?_
  k_steps
  (try dsimp only)
  refine Z.execs_cons ?_
  refine Z.Assign ?_
  refine Z.of ?_
  k_steps
  rename (List.map _ _ = Txt.split _ _) => hm
  rename Fr _ _ _ _ => F1
  rename News _ _ _ (_ :: _) => N1
  rename (∀ a ∈ _, Str.length a ≤ _) => hlen
  rcases hs with ⟨a, i, hs, ha⟩ | ⟨a, i, hs, ha⟩ | ⟨a, b, c, i, j, k, hs, ha, hb, hc⟩
  · rw [hs] at hm
    obtain ⟨ta, rfl⟩ := one_of hm
    refine map_line (f := .type "int") map_int F1 N1 (N1 _ (.head _)).1 rfl (Nat.le_of_ble_eq_true rfl) rfl rfl (Nat.le_of_ble_eq_true rfl) ?_
    intro M tt it h2 tk2 F2 N2 D2 x2
    have la := hlen a (by simp)
    dsimp only
    refine Z.tuple_bad (Z.of (unpack1 rfl (show MapAt h2 M tt it _ 0 _ #[.str a ta] from D2.at_) D2.ok (int_spec ha (by omega)) ?_))
    intro e h3 h' tk x3 n
    have F3 := Fr.extBut F2 x3 D2.base D2.L
    refine leave_first rfl rfl (show ScopeKind.function ≠ ScopeKind.module by decide) C (Fr.ext F3 n.keeps) n ?_ fun h'' T => h e h'' tk T
    exact none_under F3.keep n.new
  · rw [hs] at hm
    obtain ⟨ta, tb, rfl⟩ := two_of hm
    refine map_line (f := .type "int") map_int F1 N1 (N1 _ (.head _)).1 rfl (Nat.le_of_ble_eq_true rfl) rfl rfl (Nat.le_of_ble_eq_true rfl) ?_
    intro M tt it h2 tk2 F2 N2 D2 x2
    have la := hlen a (by simp)
    dsimp only
    refine Z.tuple_bad (unpack2_badZ rfl (show MapAt h2 M tt it _ 0 _ #[.str a ta, .str theX tb] from D2.at_) D2.ok (int_spec ha (by omega)) ?_)
    intro e h3 h' tk x3 n
    have F3 := Fr.extBut F2 x3 D2.base D2.L
    refine leave_first rfl rfl (show ScopeKind.function ≠ ScopeKind.module by decide) C (Fr.ext F3 n.keeps) n ?_ fun h'' T => h e h'' tk T
    exact none_under F3.keep n.new
  · rw [hs] at hm
    obtain ⟨ta, tb, tc, rfl⟩ := three_of hm
    refine map_line (f := .type "int") map_int F1 N1 (N1 _ (.head _)).1 rfl (Nat.le_of_ble_eq_true rfl) rfl rfl (Nat.le_of_ble_eq_true rfl) ?_
    intro M tt it h2 tk2 F2 N2 D2 x2
    have la := hlen a (by simp)
    have lb := hlen b (by simp)
    have lc := hlen c (by simp)
    dsimp only
    refine Z.tuple_bad (Z.of (unpack3 rfl (show MapAt h2 M tt it _ 0 _ #[.str a ta, .str b tb, .str c tc] from D2.at_) D2.ok (int_spec ha (by omega)) (int_spec hb (by omega)) (int_spec hc (by omega)) ?_))
    intro e h3 h' tk x3 n
    have F3 := Fr.extBut F2 x3 D2.base D2.L
    refine leave_first rfl rfl (show ScopeKind.function ≠ ScopeKind.module by decide) C (Fr.ext F3 n.keeps) n ?_ fun h'' T => h e h'' tk T
    exact none_under F3.keep n.new
end Mine
end
section
open PySem PySem.W PyProof.Rows PySem.Spec
set_option Elab.async false
set_option maxRecDepth 100000
set_option maxHeartbeats 8000000
namespace Mine
section
variable {prog : Program} {w : World} {A : Around} {E : Value → Shared → Prop} {s : Shared} {R : Result → Shared → Prop} {env : Env}
theorem collect_map1 {M tt it l : Addr} {f x : Value} {P1 : Value → Prop} {Q : List Value → Shared → Prop} (hh : A.handled = none)
    (D : MapAt s.heap M tt it l 0 f #[x]) (O : MapOk M tt it l) (h1 : ∀ A, FSpec prog w A f x P1)
    (h : ∀ v1 h' tk, P1 v1 → Heap.ExtBut it s.heap h' → Q [v1] { s with heap := h', toks := tk }) :
    wpAny (model prog w) A (collect (.ref M)) Q E s := by
  have hlt : ∀ b o, s.heap.get? b = some o → b ≠ s.heap.objs.size := fun b o e q => Nat.lt_irrefl _ (q ▸ Heap.lt_size e)
  obtain ⟨oM, hM, hMc, hMd⟩ := id D.m
  obtain ⟨ot, nt, hot, hdt⟩ := id D.t
  obtain ⟨oi, hoi, hic, hid⟩ := id D.it
  obtain ⟨ol, hol, hlc, nl, hld⟩ := id D.l
  have hSM := hlt _ _ hM
  have hTM : s.TypeIs (.ref M) "map" := ⟨oM, hM, hMc⟩
  unfold collect
  refine wpAny_bind (wpAny_runValue (codeAny_builtin F.entry_proto_collect ?_))
  rw [Around.under_plainId F.plain_proto_collect _]
  show wpAny _ A.in1 (newList [] >>= fun l => again (.builtin "list.__iadd__" ⟨[l, .ref M], []⟩)) _ _ s
  refine wpAny_bind (wpAny_newObj_type ?_)
  refine wpAny_pure ⟨plainId_quiet F.plain_list_iadd _, codeAny_builtin F.entry_list_iadd ?_⟩
  rw [Around.under_plainId F.plain_list_iadd _]
  have keep₁ : ∀ b o, s.heap.get? b = some o → (s.heap.push { cls := .type "list", data := .seq ([] : List Value).toArray }).get? b = some o := fun b o e => Heap.get?_push_of_some _ e
  have hT₁ : Shared.TypeIs { s with heap := s.heap.push { cls := .type "list", data := .seq ([] : List Value).toArray } } (.ref M) "map" := ⟨oM, keep₁ _ _ hM, hMc⟩
  show wpAny _ A.in1 (Builtin.List.listExtendWith (.ref s.heap.objs.size) (.ref M) (.ref s.heap.objs.size)) _ _ _
  unfold Builtin.List.listExtendWith
  refine wpAny_bind (wpAny_typeOf hT₁ ?_)
  have h1' : Builtin.List.listSameRef (.ref s.heap.objs.size) (.ref M) = false := by simp [Builtin.List.listSameRef, Ne.symm hSM]
  have h2' : (Value.type "map" == Value.type "list") = false := by decide
  have h3' : (Value.type "map" == Value.type "tuple") = false := by decide
  simp only [h1', h2', h3', Bool.or_false, Bool.false_eq_true, if_false]
  have D₁ : MapAt (s.heap.push { cls := .type "list", data := .seq ([] : List Value).toArray }) M tt it l 0 f #[x] := mapAt_ext (S := M) D (keep₁ _) (keep₁ _) (keep₁ _) (keep₁ _)
  refine wpAny_bind (map_iter_self D₁ ?_)
  refine wpAny_bind (wpAny_holding ?_)
  unfold Builtin.List.listLengthHint
  refine wpAny_bind (wpAny_specialOf hT₁ map_no_len ?_)
  show wpAny _ A.in1 (specialOf (Value.ref M) (Str.ofString "__length_hint__") >>= _) _ _ _
  refine wpAny_bind (wpAny_specialOf hT₁ map_no_hint ?_)
  refine wpAny_pure ?_
  show wpAny _ A.in1 (rule "list.extend.makes-room" >>= fun _ => Builtin.List.listTouch (.ref s.heap.objs.size) >>= fun _ =>
    again (.builtin "list.extend.loop" ⟨[.ref s.heap.objs.size, .ref M, .ref s.heap.objs.size], []⟩)) _ _ _
  refine wpAny_bind (wpAny_rule ?_)
  have hS₁ : (s.heap.push { cls := .type "list", data := .seq ([] : List Value).toArray }).get? s.heap.objs.size = some { cls := .type "list", data := .seq ([] : List Value).toArray } := Heap.get?_push_size _ rfl
  refine wpAny_bind ?_
  show wpAny _ A.in1 (updateSeq s.heap.objs.size (·.push .none) >>= fun _ => updateSeq s.heap.objs.size (·.pop)) _ _ _
  refine wpAny_bind (wpAny_updateSeq hS₁ rfl ?_)
  have hS₂ := Heap.get?_update_self (Obj.mapSeq (·.push Value.none)) hS₁ rfl
  refine wpAny_updateSeq hS₂ rfl ?_
  have hS₃ := Heap.get?_update_self (Obj.mapSeq (·.pop)) hS₂ rfl
  have keep₃ : ∀ b o, s.heap.get? b = some o →
      (((s.heap.push { cls := .type "list", data := .seq ([] : List Value).toArray }).update s.heap.objs.size (Obj.mapSeq (·.push Value.none))).update s.heap.objs.size (Obj.mapSeq (·.pop))).get? b = some o :=
    fun b o e => (Heap.get?_update_other _ _ (Ne.symm (hlt _ _ e))).trans ((Heap.get?_update_other _ _ (Ne.symm (hlt _ _ e))).trans (keep₁ _ _ e))
  have D₃ := mapAt_ext (S := M) D (keep₃ _) (keep₃ _) (keep₃ _) (keep₃ _)
  have nSi := Ne.symm (hlt _ _ hoi)
  generalize hh3 : (((s.heap.push { cls := .type "list", data := .seq ([] : List Value).toArray }).update s.heap.objs.size (Obj.mapSeq (·.push Value.none))).update s.heap.objs.size (Obj.mapSeq (·.pop))) = h3 at D₃ keep₃ hS₃ ⊢
  refine wpAny_pure ⟨plainId_quiet F.plain_extend_loop _, ?_⟩
  refine ext_loop_item (s := { s with heap := h3 }) D₃ O rfl (h1 _) hS₃ nSi (Nat.le_of_ble_eq_true rfl) fun v1 h4 tk4 p1 D4 x4 hS4 => ?_
  have D4' : MapAt (h4.update s.heap.objs.size (Obj.mapSeq (·.push v1))) M tt it l 1 f #[x] := by
    refine mapAt_ext (S := M) D4 ?_ ?_ ?_ ?_
    · exact fun o e => (Heap.get?_update_other _ _ (Ne.symm (hlt _ _ hM))).trans e
    · exact fun o e => (Heap.get?_update_other _ _ (Ne.symm (hlt _ _ hot))).trans e
    · exact fun o e => (Heap.get?_update_other _ _ (Ne.symm (hlt _ _ hoi))).trans e
    · exact fun o e => (Heap.get?_update_other _ _ (Ne.symm (hlt _ _ hol))).trans e
  have hS4' := Heap.get?_update_self (Obj.mapSeq (·.push v1)) hS4 rfl
  have x4' : Heap.ExtBut it s.heap (h4.update s.heap.objs.size (Obj.mapSeq (·.push v1))) := fun b o hb e => (Heap.get?_update_other _ _ (Ne.symm (hlt _ _ e))).trans (x4 b o hb (keep₃ b o e))
  generalize h4.update s.heap.objs.size (Obj.mapSeq (·.push v1)) = h5 at D4' hS4' x4' ⊢
  refine codeAny_builtin F.entry_extend_loop ?_
  rw [Around.under_plainId F.plain_extend_loop _]
  show wpAny _ _ (pyNext (.ref M) >>= _) _ _ _
  refine wpAny_bind (map_next_end (s := { s with heap := h5, toks := tk4 }) (by exact hh) D4' rfl fun h8 x8 => ?_)
  refine wpAny_pure ?_
  show wpAny _ A (load s.heap.objs.size >>= _) _ _ _
  refine wpAny_bind (wpAny_load (x8 _ _ nSi hS4') ?_)
  exact wpAny_pure (h v1 h8 tk4 p1 (extBut_trans x4' x8))
theorem star_map1 {M tt it l : Addr} {f x : Value} {P1 : Value → Prop} {Q : List Value → Shared → Prop} (hh : A.handled = none)
    (D : MapAt s.heap M tt it l 0 f #[x]) (O : MapOk M tt it l) (h1 : ∀ A, FSpec prog w A f x P1)
    (h : ∀ v1 h' tk, P1 v1 → Heap.ExtBut it s.heap h' → Q [v1] { s with heap := h', toks := tk }) :
    StarOf (model prog w) A E (.ref M) Q s := by
  unfold StarOf
  exact map_iterable D ⟨rfl, collect_map1 hh D O h1 h⟩
theorem Z.operating {M : Model} {vs : List Value} {m : Sem Value} {Q : Value → Shared → Prop} (h : wpZ M A m Q E s) : wpZ M A (operate vs m) Q E s := fun Γ p a b => by
  rw [Sem.wp_operate]; exact h Γ p a b
/-- a class of the program's, called with one starred argument -/
theorem Z.starCls {C : Addr} {x : Sem Value} {pos pos' : Pos} {Q : Value → Shared → Prop}
    (h : wpAny (model prog w) A x (fun v s₁ => StarOf (model prog w) A E v (fun vs s₂ => Looks (model prog w) s₂.heap (keeperOf (.ref C)) .machine ∧ wpZ (model prog w) A (PySem.call (.ref C) vs []) Q E s₂) s₁) E s) :
    wpZ (model prog w) A (callWith pos (.ref C) [] [(true, (do let v ← x; standAt pos'; pure v))] []) Q E s := by
  unfold callWith
  refine Z.then (wpAny_holding (wpAny_mono (ks_lone (Q := fun a s₂ => Looks (model prog w) s₂.heap (keeperOf (.ref C)) .machine ∧ wpZ (model prog w) A (PySem.call (.ref C) a.pos a.kw) Q E s₂) h) (fun a s₁ h₁ => Z.then (wpAny_standAt ?_)) fun _ _ x => x))
  simp only [List.any_cons, List.any_nil, Bool.true_or, Bool.or_false]
  refine Z.then (h₁.1.here ?_)
  dsimp only
  exact Z.tail (Z.operating h₁.2)
/-- a class whose maker is not the model's -/
theorem madeBy_none {K : Frag} {M : Model} {h : Heap} {C : Addr} {oc : Value} {od : Option Addr} {cd : ClassData} {sl : Array (Option Value)} (X : K.In h) (ho : K.lookup C = some ⟨oc, od, .cls cd, sl⟩) (hne : cd.mro.isEmpty = false) (h4 : (sl.toList[4]?).join = some .none) :
    Looks M h (Bind.madeBy (.ref C)) none := by
  have hc : clsIn K C = some cd := by unfold clsIn; rw [ho]
  have hm : Looks M h (mroOf (.ref C)) cd.mro := (looks_clsIn X hc).andThen .now
  obtain ⟨c, l, hl⟩ : ∃ c l, cd.mro = c :: l := by cases q : cd.mro with | nil => rw [q] at hne; cases hne | cons c l => exact ⟨c, l, rfl⟩
  intro A Q E s k q
  unfold Bind.madeBy
  refine wpAny_bind (hm A _ E s k ?_)
  rw [hl, List.forIn_cons]
  refine wpAny_bind (wpAny_bind (wpAny_bind (wpAny_bind (wpAny_loadPart (k _ _ (X _ _ ho)) (wpAny_pure ?_)))))
  dsimp only
  rw [← Array.getElem?_toList, h4]
  exact wpAny_pure (wpAny_pure (wpAny_pure q))
end
theorem refuseZ {prog : Program} {w : World} {A : Around} {s : Shared} {R : Result → Shared → Prop} {K : Frag} {name qual : Str} {params : Arguments} {body : List Stmt} {scope : Scope} {dV kV doc pm cdv ct oc : Value} {an od : Option Addr} {osl : Array (Option Value)} {f : Addr} {args : Args}
    (X : K.In s.heap) (ho : K.lookup f = some ⟨oc, od, .func (fnOf name qual params body scope dV kV doc pm an cdv ct), osl⟩) (hcd : codeIn K cdv qual = true) (hroom : A.depth < recursionLimit)
    (h : wpZ (model prog w) A.in1 (bindArgs (fnOf name qual params body scope dV kV doc pm an cdv ct) args) (fun _ _ => False) (fun e s' => R (.error e) s') s)
    (hco : scope.isCoroutine = false) (hgen : scope.isGenerator = false) : codeZ (model prog w) A (.call (.ref f) args) R s :=
  Zc.function (fd := fnOf name qual params body scope dV kV doc pm an cdv ct) (body := body) hroom (X _ _ ho) rfl hco hgen rfl (codeRec_of X hcd) (Z.mono h (fun _ _ x => x.elim) fun _ _ x => x)
theorem pair_cls (P : Params) : ∃ oc od cd sl, (KK P).lookup 203 = some ⟨oc, od, .cls cd, sl⟩ ∧ cd.mro.isEmpty = false ∧ (sl.toList[4]?).join = some .none := by
  cases q : (KK P).lookup 203 with
  | none => exact absurd q (by intro q; have : ((KK P).lookup 203).isSome = true := (by kernel_rfl); rw [q] at this; cases this)
  | some o =>
    obtain ⟨oc, od, dt, sl⟩ := o
    have e1 : ((KK P).lookup 203).map (fun o => (o.slots.toList[4]?).join) = some (some .none) := by kernel_rfl
    have e2 : ((KK P).lookup 203).map (fun o => match o.data with | .cls cd => cd.mro.isEmpty | _ => true) = some false := by kernel_rfl
    rw [q] at e1 e2
    cases dt with
    | cls cd => exact ⟨oc, od, cd, sl, rfl, Option.some.inj e2, Option.some.inj e1⟩
    | _ => exact Bool.noConfusion (show true = false from Option.some.inj e2)
set_option pp.deepTerms false
/-- the pair's maker, an argument missing -/
theorem new_bad {w : World} {l : List Env} {s : Shared} {R : Result → Shared → Prop} {p : Program} {loose : List Str} {mean : ExcName → Option Value} {mg mb : Str → Option Value} {x : Str} {t : Tok}
    (X₁ : (KK w.params).In s.heap) (T : Top p loose mean mg mb s.heap) 
    (h : ∀ e h' tk, Heap.NewExc s.heap h' e "TypeError" → R (.error (.ref e)) { s with heap := h', toks := tk }) :
    codeZ (model PySem.Challenge.rw_in0185_01.row.prog w) (AA 560 3600 l) (.call (.ref 130) ⟨[.ref 203, .str x t], []⟩) R s := by
  have X₀ := K_of_KK X₁
  revert X₀; k_fill; intro X₀
  refine' refuseZ X₀ ?k6 ?k7 ?k8 ?_ ?c2 ?c3
  case k6 => k_is
  case k7 => k_is
  case k8 => k_room
  case c2 => exact rfl
  case c3 => exact rfl
  refine Z.bindEq (m := rule "call.bind.missing-positional") rfl (wpAny_rule ?_)
  refine Z.bindEqZ (m := theBinderRefuses _) rfl ?_
  refine Z.refuse rfl (Nat.le_of_ble_eq_true (by kernel_rfl)) ?_
  intro e h' tk n
  exact h e h' tk n
end Mine
end
section
open PySem PySem.W PyProof.Rows PySem.Spec
set_option Elab.async false
set_option maxRecDepth 100000
set_option maxHeartbeats 8000000
namespace Mine
theorem upZ {M : Model} {A : Around} {c : Code} {R} {s : Shared} {d u : Nat} {l} (h : codeZ M (AA d u l) c R s) (h1 : A.handled = none) (h2 : A.depth ≤ d) (h3 : A.frames = some l) (h4 : A.guards = some []) (h5 : A.units ≤ u) : codeZ M A c R s :=
  fun Γ p hc hB ho => h Γ p hc ⟨hB.1.trans h1, Nat.le_trans hB.2.1 h2, fun l hl => hB.2.2.1 l (h3.trans hl), fun g hg => hB.2.2.2.1 g (h4.trans hg), Nat.le_trans hB.2.2.2.2 h5⟩ ho
set_option pp.deepTerms false
theorem parse_bad {w : World} {l : List Env} {s : Shared} {R : Result → Shared → Prop} {p : Program} {loose : List Str} {mean : ExcName → Option Value} {mg mb : Str → Option Value} {x a : Str} {t : Tok}
    (X₁ : (KK w.params).In s.heap) (T : Top p loose mean mg mb s.heap) (C : FramesOk l s.heap) (hx : x.length ≤ 600)
    (hs : Txt.splitMax x (Str.ofString "=") 1 = [a])
    (h : ∀ e h' tk, Thrown l s.heap e "TypeError" h' → R (.error (.ref e)) { s with heap := h', toks := tk }) :
    codeZ (model PySem.Challenge.rw_in0185_01.row.prog w) (AA 500 3000 l) (.call (.ref 197) ⟨[.ref 203, .str x t], []⟩) R s := by
  have X₀ := K_of_KK X₁
  revert X₀; k_fill; intro X₀
  w_top off
  refine' enterZ X₀ T.nolimit ?k6 ?k7 ?k8 ?k9 ?kB ?_ ?c2 ?c3 ?c4 ?c5
  case k6 => k_is
  case k7 => k_is
  case k8 => k_room
  case k9 => exact BindsTo.of_eq rfl
  case kB => exact locs rfl
  case c2 => exact rfl
  case c3 => exact rfl
  case c4 => exact rfl
  case c5 => decide
  intro h₁ F N
  have kX := kFor F X₀
  (try dsimp only); (try k_fold)
  refine Z.execs_cons ?_
  refine Z.Return ?_
  refine Z.callName ?_
  k_steps
  refine Z.starCls ?_
  k_steps
  rename Fr _ _ _ _ => F0
  rename News _ _ _ _ => N0
  refine type_attr (X₀.keeps F0.keep) (by decide +kernel) (by decide +kernel) (a := .builtin "str.strip") (by k_is) (handed_builtin rfl) ?_
  k_steps
  rename (List.map _ _ = Txt.splitMax _ _ _) => hm
  rw [hs] at hm
  obtain ⟨ta, rfl⟩ := one_of hm
  rename Fr _ _ _ _ => F1
  rename News _ _ _ (_ :: _) => N1
  refine map_line (f := .builtin "str.strip") map_strip F1 N1 (N1 _ (.head _)).1 rfl (Nat.le_of_ble_eq_true rfl) rfl rfl (Nat.le_of_ble_eq_true rfl) ?_
  intro M tt it h2 tk2 F2 N2 D2 x2
  clear F1 N1
  rename (∀ a ∈ _, Str.length a ≤ _) => hlen
  have la := hlen a (by simp)
  dsimp only
  refine star_map1 rfl (show MapAt h2 M tt it _ 0 _ #[.str a ta] from D2.at_) D2.ok (strip_spec (by omega)) ?_
  rintro v1 h3 tk3 ⟨t1, rfl⟩ x3
  have F3 := Fr.extBut F2 x3 D2.base D2.L
  have N3 := News.extBut N2 x3 D2.news
  clear F2 N2
  dsimp only
  have X3 : (KK w.params).In h3 := X₁.keeps F3.keep
  obtain ⟨oc, od, cd, sl, ho, hne, h4⟩ := pair_cls w.params
  have hcall : specialIn (KK w.params) (.ref 203) "__call__" = some (some (.builtin "type.__call__")) := by kernel_rfl
  have hinst : instIn (KK w.params) (.ref 203) (.type "type") = some true := by kernel_rfl
  have hkp : Looks (model PySem.Challenge.rw_in0185_01.row.prog w) h3 (keeperOf (.ref 203)) .machine := by
    unfold keeperOf
    exact (Looks.ld (part := none) (X3 _ _ ho)).andThen ((looks_specialIn X3 hcall).andThen .now)
  refine ⟨hkp, Z.call (Zc.classRaises (s := ⟨h3, _, _, _, _⟩) X3 ho hcall hinst hne (madeBy_none X3 ho hne h4) ?_)⟩
  clear ho hne h4 hcall hinst hkp
  k_steps
  refine Z.call (upZ (new_bad (s := ⟨_, _, _, _, _⟩) X3 (T.keeps F3.keep) ?_) rfl (Nat.le_of_ble_eq_true rfl) rfl rfl (Nat.le_of_ble_eq_true rfl))
  intro e h4 tk4 n
  dsimp only
  exact leave_first rfl rfl (show ScopeKind.function ≠ ScopeKind.module by decide) C (Fr.ext F3 n.keeps) n (none_under F3.keep n.new) fun h'' T => h e h'' tk4 T
end Mine
end
section
open PySem PySem.W PyProof.Rows PySem.Spec
set_option Elab.async false
set_option maxRecDepth 100000
set_option maxHeartbeats 2000000
namespace Mine
/-- no iterator over a range -/
def NotRI (o : Obj) : Prop := o.cls ≠ .type "range_iterator" ∨ ∀ vs, o.data = .fields vs → ∃ q t, vs[1]? = some (.str q t)
section
variable {prog : Program} {w : World} {A : Around} {E : Value → Shared → Prop} {s : Shared} {env : Env} {h₀ : Heap} {x : Str} {body : List Stmt} {Q : Flow → Shared → Prop}
/-- a loop's start, its turns in contexts that have the caller -/
def LoopAtZ (prog : Program) (w : World) (A : Around) (h₀ : Heap) (env : Env) (x : Str) (body : List Stmt) (Q : Flow → Shared → Prop) (it : Value) (s₂ : Shared) : Prop :=
  ∃ (I : Addr) (fp wr : List Addr) (n : Nat) (P : Nat → Value → Prop) (St : Nat → Heap → Prop) (m : Str → Option Value) (news : List (Addr × Obj)) (J : Nat → (Str → Option Value) → List (Addr × Obj) → Prop),
    it = .ref I ∧ Walks prog w A I fp wr n P St ∧ env.locals ∉ fp ∧ (∀ b ∈ wr, h₀.get? b = none) ∧ (∀ p ∈ news, p.1 ∉ wr) ∧ St 0 s₂.heap ∧ Fr h₀ env.locals s₂.heap m ∧ News h₀ env.locals s₂.heap news ∧ J 0 m news ∧
    (∀ i v m₁ news₁ s₁ own, i < n → P i v → J i m₁ news₁ → (∀ p ∈ news₁, p.1 ∉ wr) → (∀ p ∈ own, p.1 ∈ fp) → (∀ p ∈ own, s₁.heap.get? p.1 = some p.2) → (∀ b ∈ fp, h₀.get? b = none → ∀ o, s₁.heap.get? b = some o → (b, o) ∈ own) → St (i + 1) s₁.heap →
      Fr h₀ env.locals s₁.heap (fun y => if y = x then some v else m₁ y) → News h₀ env.locals s₁.heap (own ++ news₁) →
      wpZ (model prog w) A (execs body env) (LoopStepU h₀ env.locals wr own (J (i + 1)) s₁) (fun _ _ => False) s₁) ∧
    ∀ h' tk m' news', Fr h₀ env.locals h' m' → News h₀ env.locals h' news' → (∀ p ∈ news', p.1 ∉ wr) → J n m' news' → Q .next { s₂ with heap := h', toks := tk }
theorem loopZ {R : Result → Shared → Prop} {px : Pos} {I : Addr} {fp wr : List Addr} {n : Nat} {P : Nat → Value → Prop} {St : Nat → Heap → Prop} {m : Str → Option Value}
    {news : List (Addr × Obj)} (W : Walks prog w A I fp wr n P St) (hx : env.kindOf x = some .local)
    (hp : (env.scope.kind == .class || (env.scope.kind == .module && env.locals != env.globals)) = false)
    (hLf : env.locals ∉ fp) (hwr : ∀ b ∈ wr, h₀.get? b = none) (hnw : ∀ p ∈ news, p.1 ∉ wr)
    (hst : St 0 s.heap) (F : Fr h₀ env.locals s.heap m) (N : News h₀ env.locals s.heap news)
    (J : Nat → (Str → Option Value) → List (Addr × Obj) → Prop) (h0 : J 0 m news)
    (step : ∀ i v m₁ news₁ s₁ own, i < n → P i v → J i m₁ news₁ → (∀ p ∈ news₁, p.1 ∉ wr) → (∀ p ∈ own, p.1 ∈ fp) → (∀ p ∈ own, s₁.heap.get? p.1 = some p.2) → (∀ b ∈ fp, h₀.get? b = none → ∀ o, s₁.heap.get? b = some o → (b, o) ∈ own) → St (i + 1) s₁.heap →
      Fr h₀ env.locals s₁.heap (fun y => if y = x then some v else m₁ y) → News h₀ env.locals s₁.heap (own ++ news₁) →
      wpZ (model prog w) A (execs body env) (LoopStepU h₀ env.locals wr own (J (i + 1)) s₁) (fun _ _ => False) s₁)
    (hR : ∀ h' tk m' news', Fr h₀ env.locals h' m' → News h₀ env.locals h' news' → (∀ p ∈ news', p.1 ∉ wr) → J n m' news' → R (.ok .next) { s with heap := h', toks := tk })
    (ht : ∀ v, letOwnedTupleGo (.Name x px) (.ref I) v = pure () := by intro _; rfl) :
    codeZ (model prog w) A (.forLoop (.Name x px) (.ref I) body [] env) R s := by
  have hLw : env.locals ∉ wr := fun h => hLf (W.sub _ h)
  have old : ∀ b o, h₀.get? b = some o → b ∉ wr := fun b o e hb => by rw [hwr b hb] at e; cases e
  refine Zc.loop rfl
    (fun k s' => ∃ h' tk m' news' i, s' = { s with heap := h', toks := tk } ∧ St i h' ∧ Fr h₀ env.locals h' m' ∧ News h₀ env.locals h' news' ∧ (∀ p ∈ news', p.1 ∉ wr) ∧ J i m' news' ∧ i ≤ n ∧ k = n + 1 - i) ?_ (n + 1)
    ⟨s.heap, s.toks, m, news, 0, rfl, hst, F, N, hnw, h0, Nat.zero_le _, rfl⟩
  rintro k s' ⟨h', tk, m', news', i, rfl, hst', F', N', hnw', hJ, hi, rfl⟩
  show wpZ _ A ((forTurn (.Name x px) (.ref I) body [] env).onRaise (fun x => do noteFrame x env; theTreesLotGoes x)) _ _ _
  refine Z.noted ?_
  simp only [forTurn]
  have next : ∀ h₁ : Heap, (∀ b o, b ∉ wr → h'.get? b = some o → h₁.get? b = some o) → Fr h₀ env.locals h₁ m' ∧ News h₀ env.locals h₁ news' := fun h₁ hk₁ =>
    ⟨⟨F'.ns.at' fun o e => hk₁ _ o hLw e, fun b o e => hk₁ b o (old b o e) (F'.keep b o e), F'.above⟩, fun p hp => ⟨hk₁ _ _ (hnw' p hp) (N' p hp).1, (N' p hp).2⟩⟩
  refine Z.then (wpAny_standAt (Z.then (wpAny_onRaise (wpAny_mono (Q := fun r s₁ => wpZ _ A _ _ _ s₁) (E := fun _ _ => False) ?_ (fun _ _ x => x) fun _ _ x => x.elim))))
  by_cases hlt : i < n
  · refine W.item i _ _ _ hlt hst' fun v h₁ tk₁ hP hst₁ hk₁ => ?_
    obtain ⟨F₁, N₁⟩ := next h₁ hk₁
    dsimp only
    refine Z.then (wpAny_of_eq (ht v) ?_)
    refine Z.then (wpAny_assign_Name (wpAny_storeName_local hx F₁.ns (fun h₂ hn₂ hs₂ => ?_) hp))
    have F₂ := F₁.set hn₂ hs₂
    have Nown : News h₀ env.locals h₂ (ownOf h₀ fp h₂) := news_ownOf hLf
    have hst₂ : St (i + 1) h₂ := W.frame _ _ _ hst₁ fun b hb o e => (hs₂.2 b fun q => hLf (q ▸ hb)).trans e
    refine Z.bind (Z.mono (step i v m' news' _ (ownOf h₀ fp h₂) hlt hP hJ hnw' ownOf_sub (fun p hp => (Nown p hp).1) (fun b hb hn o e => mem_ownOf hb hn e) hst₂ F₂ (Nown.append (N₁.set hs₂))) (fun f s₃ h₃ => ?_) fun _ _ e => e.elim)
    obtain ⟨rfl, h₃', tk₃, m₂, news₂, rfl, F₃, N₃, ha₃, hJ₃⟩ := h₃
    refine Z.of (wpAny_pure (.inl ⟨rfl, n + 1 - (i + 1), by omega, h₃', tk₃, m₂, news₂, i + 1, rfl, ?_, F₃, N₃.right, ha₃, hJ₃, hlt, rfl⟩))
    refine W.frame _ _ _ hst₁ fun b hb o e => ?_
    have e₂ : h₂.get? b = some o := (hs₂.2 b fun q => hLf (q ▸ hb)).trans e
    cases hn : h₀.get? b with
    | some o₀ =>
      have : o₀ = o := by have := F₂.keep b o₀ hn; rw [e₂] at this; exact (Option.some.inj this).symm
      exact this ▸ F₃.keep b o₀ hn
    | none => exact (N₃ _ (List.mem_append_left _ (mem_ownOf hb hn e₂))).1
  · have hin : i = n := by omega
    subst hin
    refine W.done _ _ _ hst' fun h₁ tk₁ hk₁ => ?_
    obtain ⟨F₁, N₁⟩ := next h₁ hk₁
    exact Z.of (wpAny_pure (.inr ⟨rfl, Zc.of (codeAny_block (wpAny_execs_nil (hR h₁ tk₁ m' news' F₁ N₁ hnw' hJ)))⟩))
theorem For_Z {px pos : Pos} {iter : Expr} (h₀ : Heap) (hx : env.kindOf x = some .local)
    (hp : (env.scope.kind == .class || (env.scope.kind == .module && env.locals != env.globals)) = false)
    (h : wpAny (model prog w) A (eval iter env) (fun xv s₁ => wpAny (model prog w) A (pyIter xv) (fun it s₂ => LoopAtZ prog w A h₀ env x body Q it s₂) (fun _ _ => False) s₁) (fun _ _ => False) s)
    (hs : ∀ x, foldedSetIterable iter env x = pure x := by intro _; rfl) :
    wpZ (model prog w) A (exec (.For (.Name x px) iter body [] pos) env) Q (fun _ _ => False) s := by
  rw [arm_exec_For]
  refine Z.then (wpAny_standAt (Z.then (wpAny_mono h (fun xv s₁ h₁ => Z.then (wpAny_of_eq (hs xv) (Z.then (wpAny_standAt ?_)))) fun _ _ x => x)))
  refine Z.then (wpAny_holding (wpAny_mono h₁ (fun it s₂ h₂ => ?_) fun _ _ x => x))
  obtain ⟨I, fp, wr, n, P, St, m, news, J, rfl, W, hLf, hwr, hnw, hst, F, N, h0, step, hQ⟩ := h₂
  unfold runOwn
  refine Z.onRaise (Z.run (Zc.mono (loopZ (R := fun r s' => match r with | .ok f => Q f s' | .error _ => False) W hx hp hLf hwr hnw hst F N J h0 step hQ) fun r s' hr => ?_))
  cases r with
  | ok f => exact hr
  | error e => exact hr.elim
theorem iter_RZ {r : Addr} {a b : Int} {tr ur vr : Tok} {n : Nat} {m₀ : Str → Option Value} {news : List (Addr × Obj)} (keep : List (Addr × Obj)) (J : Nat → (Str → Option Value) → List (Addr × Obj) → Prop)
    (hni : ∀ i m n, J i m n → ∀ p ∈ n, NotRI p.2)
    (hh : A.handled = none) (hr : IsRange s.heap r a b 1 tr ur vr) (hsm : Builtin.Range.small a b 1 = true) (hn : Builtin.Range.rangeSize a b 1 = ((n : Nat) : Int)) (F : Fr h₀ env.locals s.heap m₀) (N : News h₀ env.locals s.heap (keep ++ news)) (h0 : J 0 m₀ news)
    (turn : ∀ i t m₁ news₁ s₁ own, i < n → J i m₁ news₁ → (∀ p ∈ own, p ∈ keep ∨ ((∀ q ∈ news₁, q.1 ≠ p.1) ∧ p.2.cls = .type "range_iterator" ∧ ∃ vs, p.2.data = .fields vs)) → Fr h₀ env.locals s₁.heap (fun y => if y = x then some (.int (a + (i : Int)) t) else m₁ y) → News h₀ env.locals s₁.heap (own ++ news₁) →
      wpZ (model prog w) A (execs body env) (TurnJ h₀ env.locals own (J (i + 1)) s₁) (fun _ _ => False) s₁)
    (done : ∀ m' news' h tk, Fr h₀ env.locals h m' → News h₀ env.locals h (keep ++ news') → J n m' news' → Q .next { s with heap := h, toks := tk }) :
    wpAny (model prog w) A (pyIter (.ref r)) (fun it s₂ => LoopAtZ prog w A h₀ env x body Q it s₂) E s := by
  have hLt := F.ns.lt
  refine wpAny_pyIter_range hr hsm ?_
  have W := LCg.range_walks (prog := prog) (w := w) (I := s.heap.objs.size) hh a n
  have hkeep : ∀ p ∈ keep, p.1 ≠ s.heap.objs.size := fun p hp => Nat.ne_of_lt (Heap.lt_size (N p (List.mem_append_left _ hp)).1)
  refine ⟨_, _, _, n, _, _, m₀, keep ++ news, (fun i m n => ∃ n', n = keep ++ n' ∧ J i m n'), rfl, W, ?_, ?_, ?_, ?_, F.push _, (fun p hp => ⟨Heap.get?_push_of_some _ (N p hp).1, (N p hp).2⟩), ⟨news, rfl, h0⟩, ?_, ?_⟩
  · intro hm
    exact absurd hLt (List.mem_singleton.mp hm ▸ Nat.lt_irrefl _)
  · intro b hb
    rw [List.mem_singleton.mp hb]
    exact next_is_new F
  · intro p hp hI
    exact absurd (Heap.lt_size (N p hp).1) ((List.mem_singleton.mp hI) ▸ Nat.lt_irrefl _)
  · show IsRangeIter _ _ _ _ _
    rw [hn]; simpa using Heap.get?_push_size _ rfl
  · rintro i v m₁ _ s₁ own hin hP ⟨news₁, rfl, hJ⟩ hoff hfp hat hown hSt F₁ N₁
    obtain ⟨t, rfl⟩ := hP
    have hoi : s₁.heap.get? s.heap.objs.size = some _ := hSt
    have hmem := hown s.heap.objs.size (.head _) (next_is_new F) _ hoi
    have ho : ∀ p ∈ own ++ keep, p ∈ keep ∨ ((∀ q ∈ news₁, q.1 ≠ p.1) ∧ p.2.cls = .type "range_iterator" ∧ ∃ vs, p.2.data = .fields vs) := fun p hp => by
      rcases List.mem_append.mp hp with hp | hp
      · have e := List.mem_singleton.mp (hfp p hp)
        refine .inr ⟨fun q hq z => hoff q (List.mem_append_right _ hq) (by rw [z, e]; exact .head _), ?_⟩
        have e2 := hat p hp
        rw [e, hoi] at e2
        rw [← Option.some.inj e2]
        exact ⟨rfl, _, rfl⟩
      · exact .inl hp
    rw [← List.append_assoc] at N₁
    refine Z.mono (turn i t m₁ news₁ s₁ (own ++ keep) hin hJ ho F₁ N₁) (fun f s₂ p => ?_) fun _ _ e => e
    obtain ⟨rfl, h', tk, m', news', rfl, F', N', hJ'⟩ := p
    rw [List.append_assoc] at N'
    refine ⟨rfl, h', tk, m', keep ++ news', rfl, F', N', fun p hp hI => ?_, ⟨news', rfl, hJ'⟩⟩
    rcases List.mem_append.mp hp with hp | hp
    · exact hkeep p hp (List.mem_singleton.mp hI)
    · have e1 := (N' p (List.mem_append_right _ (List.mem_append_right _ hp))).1
      have e2 := (N' _ (List.mem_append_left _ hmem)).1
      rw [List.mem_singleton.mp hI, e2] at e1
      have e3 := Option.some.inj e1
      rcases hni _ _ _ hJ' p hp with z | z
      · exact z (by rw [← e3])
      · obtain ⟨q, tq, z2⟩ := z _ (by rw [← e3])
        cases z2
  · rintro h' tk m' _ F' N' _ ⟨news', rfl, hJ⟩
    exact done m' news' h' tk F' N' hJ
end
end Mine
end
section
open PySem PySem.W PyProof.Rows PySem.Spec
set_option Elab.async false
set_option maxRecDepth 100000
set_option maxHeartbeats 2000000
namespace Mine
section
variable {prog : Program} {w : World} {A : Around} {E : Value → Shared → Prop} {s : Shared} {env : Env}
theorem Z.execs_both {st rest} {Q : Flow → Shared → Prop} (h : wpZ (model prog w) A (exec st env) (fun f s' => match f with | .next => wpZ (model prog w) A (execs rest env) Q E s' | f => Q f s') E s) : wpZ (model prog w) A (execs (st :: rest) env) Q E s := by
  rw [PySem.execs_cons]
  refine Z.bind (Z.mono h (fun f s' h' => ?_) fun _ _ e => e)
  cases f <;> first | exact h' | exact Z.of (wpAny_pure h')
theorem Z.Expr {e : PySem.Expr} {pos : Pos} {Q : Flow → Shared → Prop} (h : wpZ (model prog w) A (eval e env) (fun _ => Q .next) E s) (hi : interactive env = false := by rfl) (hs : swapsWith e none pos.line env = pure false := by rfl) :
    wpZ (model prog w) A (exec (.Expr e pos) env) Q E s := by
  rw [exec_Expr env e pos hi hs]
  exact Z.then (wpAny_standAt (Z.bind (Z.mono h (fun v s' h' => Z.of (wpAny_dropValue h')) fun _ _ x => x)))
theorem Z.method1 {x name : Str} {p apos pos : Pos} {arg : PySem.Expr} {Q : Value → Shared → Prop}
    (h : wpAny (model prog w) A (eval (.Name x p) env) (fun ov s1 => wpAny (model prog w) A (getMethod ov name (do return (← importBound (.Name x p) env).getD true)) (fun fx s2 => wpZ (model prog w) A (callWith pos fx.1 fx.2 (backTo pos (starEach [arg] env)) []) Q E s2) E s1) E s)
    (hf : methodCallForm 1 (backTo pos (starEach [arg] env)) [] = true) (hl : (apos.endLine == pos.line) = true) :
    wpZ (model prog w) A (eval (.Call (.Attribute (.Name x p) name apos) [arg] [] pos) env) Q E s := by
  rw [arm_eval_Call]
  show wpZ _ _ (eval (.Name x p) env >>= fun ov => standAt apos.atName >>= fun _ => methodCall (.Name x p) name apos pos env ov 1 (backTo pos (starEach [arg] env)) []) _ _ _
  refine Z.then (wpAny_mono h (fun ov s₁ h₁ => Z.then (wpAny_standAt ?_)) fun _ _ x => x)
  unfold methodCall
  rw [hf]
  refine Z.then (wpAny_holding (wpAny_mono h₁ (fun fx s₂ h₂ => ?_) fun _ _ x => x))
  unfold methodCallPos
  rw [hl]
  exact Z.then (wpAny_pure h₂)
theorem Z.evalArgs1 {f : Value} {x : Sem Value} {Q : Args → Shared → Prop} (h : wpZ (model prog w) A x (fun v s' => Q ⟨[v], []⟩ s') E s) : wpZ (model prog w) A (evalArgs f true [(false, x)] []) Q E s := by
  unfold evalArgs
  show wpZ (model prog w) A (spliced [(false, x)] >>= _) Q E s
  have h2 : wpZ (model prog w) A (spliced [(false, x)]) (fun vs s' => Q ⟨vs, []⟩ s') E s := by
    rw [spliced]
    refine Z.bind (Z.mono h (fun v s₁ h₁ => ?_) fun _ _ x => x)
    simp only [Bool.false_eq_true, if_false]
    exact Z.of (wpAny_bind (wpAny_pure (wpAny_bind (wpAny_holding (wpAny_pure (wpAny_pure (by simpa using h₁)))))))
  refine Z.bind (Z.mono h2 (fun vs s' h' => ?_) fun _ _ x => x)
  exact Z.of (wpAny_holding (wpAny_bind (wpAny_pure (wpAny_bind (wpAny_pure (wpAny_pure h'))))))
/-- a callee that stands, called with plain arguments -/
theorem Z.withKeeper {pos : Pos} {f : Value} {first : List Value} {args : List (Bool × Sem Value)} {x : Sem Value} {rest : List (Bool × Sem Value)} {Q : Value → Shared → Prop} (he : args = (false, x) :: rest) (hplain : rest.any (·.1) = false) (hlen : rest.length < 30)
    (h : wpAny (model prog w) A (spliced args) (fun vs s₁ => (∃ k, (k = Keeper.frame ∨ k = Keeper.machine ∨ k = Keeper.boundFrame) ∧ Looks (model prog w) s₁.heap (keeperOf f) k) ∧ wpZ (model prog w) A (PySem.call f (first ++ vs) []) Q E s₁) E s) :
    wpZ (model prog w) A (callWith pos f first args []) Q E s := by
  subst he
  unfold callWith
  refine Z.then (wpAny_holding (Calls.evalArgs_plain (wpAny_mono h (fun vs s₁ h₁ => Z.then (wpAny_standAt ?_)) fun _ _ x => x)))
  simp only [List.any_cons, hplain, List.any_nil, Bool.or_false]
  obtain ⟨⟨k, hk, L⟩, hc⟩ := h₁
  refine Z.then (L.here ?_)
  have nl : ¬ (((false, x) :: rest).length + 2 * ([] : List (Option Str × Sem Value)).length > 30) := by simp; omega
  have marked (mk : Value) : wpZ (model prog w) A (callMarked mk f (first ++ vs) []) Q E s₁ := by unfold callMarked; exact Z.keep hc
  rcases hk with rfl | rfl | rfl <;> dsimp only <;> (try rw [if_neg nl]) <;> first | exact Z.tail (marked _) | exact Z.tail hc
theorem Zc.meth {q : Addr} {f self : Value} {pos : List Value} {R : Result → Shared → Prop} (ho : s.heap.get? q = some (methodObj f self)) (hf : ∀ id, f ≠ .builtin id) (h : codeZ (model prog w) A (.call f ⟨self :: pos, []⟩) R s) : codeZ (model prog w) A (.call (.ref q) ⟨pos, []⟩) R s := by
  refine Zc.tree (Z.of ?_)
  show wpAny _ _ (callAny (.ref q) _) _ _ _
  unfold callAny
  refine wpAny_bind (wpAny_load ho ?_)
  cases f with
  | builtin id => exact absurd rfl (hf id)
  | _ => exact wpAny_pure ⟨rfl, h⟩
theorem Z.withBuiltin1 {pos : Pos} {id : String} {first : List Value} {args : List (Bool × Sem Value)} {x : Sem Value} {Q : Value → Shared → Prop} (he : args = [(false, x)]) (h : wpZ (model prog w) A x (fun v s₁ => wpAny (model prog w) A (PySem.call (.builtin id) (first ++ [v])) Q E s₁) E s) :
    wpZ (model prog w) A (callWith pos (.builtin id) first args []) Q E s := by
  subst he
  unfold callWith
  refine Z.bind (Z.holding (Z.evalArgs1 (Z.mono h (fun v s₁ h₁ => ?_) fun _ _ x => x)))
  refine Z.then (wpAny_standAt ?_)
  simp only [List.any_cons, List.any_nil, Bool.or_false]
  refine Z.then (wpAny_pure ?_)
  exact Z.of (wpAny_bind (wpAny_mono h₁ (fun r s₂ hr => wpAny_bind (wpAny_holding (wpAny_point (wpAny_pure hr)))) fun _ _ x => x))
end
section
variable {M : Model} {A : Around} {E : Value → Shared → Prop} {s : Shared} {env : Env} {l : List Env} {L e : Addr} {h h' g : Heap} {X : String} {m : Str → Option Value} {news : List (Addr × Obj)}
theorem frs_cons (hf : env.frame = some L) : frs (env :: l) = L :: frs l := by simp [frs, hf]
theorem Thrown.fr (TH : Thrown (env :: l) h e X h') (hf : env.frame = some L) (F : Fr g L h m) (hgl : ∀ a ∈ frs l, g.get? a = none) : Fr g L h' m := by
  obtain ⟨B, a0, hB, hfl, hs⟩ := TH
  refine ⟨hs.ns F.ns, fun b o e => hfl.1 b o (hB b o (F.keep b o e) fun hm => ?_), F.above⟩
  rw [frs_cons hf] at hm
  rcases List.mem_cons.mp hm with rfl | hm
  · rw [Heap.get?_none_of_le F.above] at e; cases e
  · rw [hgl b hm] at e; cases e
theorem Thrown.led (TH : Thrown (env :: l) h e X h') (hf : env.frame = some L) (N : News g L h news) (hn : ∀ p ∈ news, p.1 ∉ frs l) : News g L h' news := fun p hp => by
  obtain ⟨B, a0, hB, hfl, hs⟩ := TH
  refine ⟨hfl.1 _ _ (hB _ _ (N p hp).1 fun hm => ?_), (N p hp).2⟩
  rw [frs_cons hf] at hm
  rcases List.mem_cons.mp hm with q | hm
  · exact (N p hp).2.1 q
  · exact hn p hp hm
theorem Thrown.slots (TH : Thrown l h e X h') : h.UpToSlots h' := TH.choose_spec.choose_spec.2.2
theorem Thrown.typ {s : Shared} (TH : Thrown l h e X s.heap) : s.TypeIs (.ref e) X := by
  obtain ⟨B, a0, hB, hfl, hs⟩ := TH
  obtain ⟨ob, ho, hc⟩ := hfl.there
  exact ⟨ob, ho, hc⟩
theorem catch_lands {hs : List ExceptHandler} {Q : Flow → Shared → Prop} (hA : A.frames = some (env :: l)) (hf : env.frame = some L) (TH : Thrown (env :: l) h e X s.heap)
    (k : ∀ h', Thrown (env :: l) h e X h' → wpAny M A (handleBy (.ref e) env hs) Q E { s with heap := h' }) :
    wpAny M A (noteFrame (.ref e) env) (fun _ s₂ => wpAny M A (setFlight (.ref e) none) (fun _ s₃ => wpAny M A (handleBy (.ref e) env hs) Q E s₃) E s₂) E s := by
  obtain ⟨B, a0, hB, hfl, hsl⟩ := TH
  refine wpAny_looks_onW hA hf hfl fun h1 hh s1 => ?_
  refine wpAny_landsW (s := { s with heap := h1 }) hh fun h2 hf2 s2 => ?_
  exact k h2 ⟨B, a0, hB, hf2, hsl.trans (s1.trans s2)⟩
theorem catch_flight {Q : Unit → Shared → Prop} (TH : Thrown l h e X s.heap) (k : ∀ h', Thrown l h e X h' → Q () { s with heap := h' }) : wpAny M A (setFlight (.ref e) none) Q E s := by
  obtain ⟨B, a0, hB, ⟨f1, f2, f3, f4⟩, hsl⟩ := TH
  exact wpAny_setFlight_noneW f1 f3 f4.at fun h' k1 k2 k3 k4 => k h' ⟨B, a0, hB, ⟨k1, f2, k2, k3⟩, hsl.trans fun b o hb hn => ⟨o.slots, k4 b o hb hn⟩⟩
end
section
variable {w : World} {A : Around} {E : Value → Shared → Prop} {s : Shared} {B d : Addr} {fs : List DictEntry} {fp ep : Nat}
theorem sub_lst {prog : Program} {value slice : PySem.Expr} {l : Addr} {items : Array Value} {i : Int} {t : Tok} {x : Value} {Q : Value → Shared → Prop} (hl : s.heap.IsList l items) (h0 : 0 ≤ i) (h1 : i < 2 ^ 63) (hx : items[i.toNat]? = some x)
    (hs : subscripted slice false (.ref l) (.int i t) = operate [.ref l, .int i t] (getItem (.ref l) (.int i t))) (h : Q x s) : wpAny (model prog w) A (subscriptTail value slice (.ref l) (.int i t)) Q E s :=
  tail_any hl.typeIs slot_list_getitem.lookup (wpAny_getItem_list hl h0 h1 hx h) hs
theorem sub_tup {prog : Program} {value slice : PySem.Expr} {a : Addr} {items : Array Value} {n : Nat} {i : Int} {t : Tok} {j : Nat} {x : Value} {Q : Value → Shared → Prop} (ho : s.heap.get? a = some ⟨.type "tuple", none, .seq items n, #[]⟩) (hlo : -(2 ^ 63) ≤ i) (hhi : i < 2 ^ 63) (hj : seqIndex? i items.size = some j) (hx : items[j]? = some x)
    (hs : subscripted slice false (.ref a) (.int i t) = operate [.ref a, .int i t] (getItem (.ref a) (.int i t))) (h : Q x s) : wpAny (model prog w) A (subscriptTail value slice (.ref a) (.int i t)) Q E s :=
  have ht : IsTup s.heap a items := ⟨_, ho, rfl, _, rfl⟩
  tail_any ht.typeIs slot_tuple_getitem.lookup (getItem_tuple ht hlo hhi hj hx h) hs
theorem sub_book {prog : Program} {K : Frag} {kvs : KVs} {value slice : PySem.Expr} {i : Value} {Q : Value → Shared → Prop} (X : K.In s.heap) (D : BookAt w s.heap B d kvs ep fs fp) (g2 : findIn K (.ref 108) "__getitem__" = some (some (.builtin "dict.__getitem__")))
    (hs : subscripted slice false (.ref B) i = operate [.ref B, i] (getItem (.ref B) i)) (hg : wpAny (model prog w) A (getItem (.ref B) i) Q E s) : wpAny (model prog w) A (subscriptTail value slice (.ref B) i) Q E s := by
  unfold subscriptTail getitemInPython specialOf
  refine wpAny_bind (wpAny_bind (wpAny_bind ((book_inst D).type.here ((looks_findIn X g2).here ?_))))
  have fin : wpAny (model prog w) A (subscripted slice false (.ref B) i) (fun r s₃ => wpAny (model prog w) A (letTemporaryGo value (.ref B) r >>= fun _ => pure r) Q E s₃) E s := by
    rw [hs]
    exact wpAny_operating (wpAny_mono hg (fun r s₃ h₃ => wpAny_bind (wpAny_letTemporaryGo (wpAny_pure h₃))) fun _ _ x => x)
  first
    | exact wpAny_pure (wpAny_bind fin)
    | exact wpAny_bind (wpAny_pure (wpAny_bind fin))
    | exact wpAny_pure fin
    | exact wpAny_bind fin
    | exact fin
end
theorem te_exc : isSubtype (.type "TypeError") (.type "BaseException") = pure true := by rw [isSubtype_type]; kernel_rfl
theorem ve_exc : isSubtype (.type "ValueError") (.type "BaseException") = pure true := by rw [isSubtype_type]; kernel_rfl
theorem te_te : isSubtype (.type "TypeError") (.type "TypeError") = pure true := by rw [isSubtype_type]; kernel_rfl
theorem ve_ve : isSubtype (.type "ValueError") (.type "ValueError") = pure true := by rw [isSubtype_type]; kernel_rfl
theorem ve_te : isSubtype (.type "ValueError") (.type "TypeError") = pure false := by rw [isSubtype_type]; kernel_rfl
theorem te_nt : isSubtype (.type ((Manifest.find? "TypeError").elim "type" fun x => x.metatype)) (.type "tuple") = pure false := by rw [isSubtype_type]; kernel_rfl
theorem ve_nt : isSubtype (.type ((Manifest.find? "ValueError").elim "type" fun x => x.metatype)) (.type "tuple") = pure false := by rw [isSubtype_type]; kernel_rfl
end Mine
end
section
open PySem PySem.W PyProof.Rows PySem.Spec
set_option Elab.async false
set_option maxRecDepth 100000
set_option maxHeartbeats 4000000
namespace Mine
theorem enterZC {prog : Program} {w : World} {A : Around} {s : Shared} {K : Frag} {R : Result → Shared → Prop} {name qual : Str} {params : Arguments} {body : List Stmt} {scope : Scope} {dV kV doc pm cdv ct oc : Value} {an od : Option Addr} {osl : Array (Option Value)} {f : Addr} {args : Args} {binds : List (Str × Value)}
    (X : K.In s.heap) (hlim : s.heap.NoLimit) (ho : K.lookup f = some ⟨oc, od, .func (fnX name qual params body scope [] dV kV doc pm an cdv ct), osl⟩) (hcd : codeIn K cdv qual = true) (hroom : A.depth < recursionLimit)
    (hbind : BindsTo s (fnX name qual params body scope [] dV kV doc pm an cdv ct) args binds) (hkind : (binds.all fun y => scope.names.lookup y.1 == some .local || scope.names.lookup y.1 == some .cell) = true)
    (hnd : ((cellsFrom 0 scope.names []).map (·.1)).Nodup)
    (h : ∀ h₁ tk cells, Fr s.heap s.heap.objs.size h₁ (bindL (envOfC qual scope s.heap.objs.size f cdv).kindOf binds fun _ => none) → News s.heap s.heap.objs.size h₁ cells →
      CellsAre (bindC (envOfC qual scope s.heap.objs.size f cdv).kindOf binds fun _ => none) (cellsFrom (s.heap.objs.size + 1) scope.names []) cells →
      wpZ (model prog w) (A.deeper (envOfC qual scope s.heap.objs.size f cdv)) (execs body (envOfC qual scope s.heap.objs.size f cdv))
        (fun fl s' => R (.ok (.ret (match fl with | .ret v => v | _ => .none))) s')
        (fun e s' => wpAny (model prog w) (A.deeper (envOfC qual scope s.heap.objs.size f cdv)) (leaving (envOfC qual scope s.heap.objs.size f cdv) e) (fun _ s'' => R (.error e) s'') (fun e' s'' => R (.error e') s'') s')
        { s with heap := h₁, toks := tk })
    (hco : scope.isCoroutine = false) (hgen : scope.isGenerator = false) (hk : scope.kind = .function) : codeZ (model prog w) A (.call (.ref f) args) R s := by
  refine Zc.function hroom (X _ _ ho) rfl hco hgen rfl (codeRec_of X hcd) (Z.of (hbind _ _ _ _ ?_))
  refine wpAny_newFunctionEnv_cells hk (kindsX hkind _) fun env' he s' x => ?_
  subst he
  refine ⟨hlim.keeps x.toInCall.keep, Zc.func ?_⟩
  obtain ⟨h₁, tk, rfl, _⟩ := x.done
  have hk₁ := x.toInCall.keep
  obtain ⟨cells, NC, Y⟩ := Cl.news (h₀ := s.heap) (Nat.le_refl _) fun n c hm => ⟨x.cell n c (lookup_of_mem_nodup (cellsFrom_names scope.names 0 (s.heap.objs.size + 1) [] [] rfl ▸ hnd) hm), x.above n c hm⟩
  exact h h₁ tk cells ⟨x.toInCall.ns, fun b o e => hk₁ b o e, Nat.le_refl _⟩ NC Y
theorem ne_objs {h₀ h : Heap} {L : Addr} {news : List (Addr × Obj)} (N : News h₀ L h news) {p q : Addr × Obj} (hp : p ∈ news) (hq : q ∈ news) (hc : p.2 ≠ q.2) : p.1 ≠ q.1 := fun e => by
  have e1 := (N p hp).1
  rw [e, (N q hq).1] at e1
  exact hc (Option.some.inj e1).symm
theorem fr_keep {h₀ h h' : Heap} {L : Addr} {m : Str → Option Value} (F : Fr h₀ L h m) (bad : Addr → Prop) (keep : ∀ b o, ¬ bad b → h.get? b = some o → h'.get? b = some o) (hL : ¬ bad L) (hb : ∀ b, bad b → h₀.get? b = none) : Fr h₀ L h' m :=
  ⟨F.ns.at' fun o e => keep L o hL e, fun b o e => keep b o (fun x => by rw [hb b x] at e; cases e) (F.keep b o e), F.above⟩
/-- what a finite part of a heap tells can be kept by a ledger -/
theorem held_list {g h : Heap} {L : Addr} {m : Str → Option Value} (F : Fr g L h m) (W : List (Addr × Obj)) (hW : ∀ p ∈ W, h.get? p.1 = some p.2 ∧ p.1 ≠ L) :
    ∃ K, News g L h K ∧ (∀ p ∈ W, g.get? p.1 = none → p ∈ K) ∧ (∀ p ∈ K, p ∈ W) ∧ ∀ h' : Heap, (∀ b o, g.get? b = some o → h'.get? b = some o) → (∀ p ∈ K, h'.get? p.1 = some p.2) → ∀ p ∈ W, h'.get? p.1 = some p.2 := by
  refine ⟨W.filter fun p => (g.get? p.1).isNone, fun p hp => ?_, fun p hp hn => List.mem_filter.mpr ⟨hp, by rw [hn]; rfl⟩, fun p hp => (List.mem_filter.mp hp).1, fun h' k1 k2 p hp => ?_⟩
  · obtain ⟨h1, h2⟩ := List.mem_filter.mp hp
    exact ⟨(hW p h1).1, (hW p h1).2, Option.isNone_iff_eq_none.mp h2⟩
  · cases q : g.get? p.1 with
    | none => exact k2 p (List.mem_filter.mpr ⟨hp, by rw [q]; rfl⟩)
    | some o =>
      have e := F.keep _ _ q
      rw [(hW p hp).1] at e
      rw [Option.some.inj e]
      exact k1 _ _ q
theorem store_cell {prog : Program} {w : World} {A : Around} {E : Value → Shared → Prop} {s : Shared} {h₀ : Heap} {L c : Addr} {m : Str → Option Value} {env : Env} {name : Str} {o : Obj} {v₀ : Option Value} {v : Value} {news : List (Addr × Obj)} {Q : Unit → Shared → Prop} (hk : env.scope.kind = .function) (hl : env.kindOf name = some .cell) (hc : env.cells.lookup name = some c)
    (F : Fr h₀ L s.heap m) (N : News h₀ L s.heap ((c, o) :: news)) (hd : o.data = .cell v₀) (hne : ∀ p ∈ news, p.1 ≠ c) (h : ∀ h' o', Fr h₀ L h' m → News h₀ L h' ((c, o') :: news) → o'.data = .cell (some v) → Q () { s with heap := h' }) :
    wpAny (model prog w) A (storeName env name v) Q E s := by
  have z := N _ (.head _)
  refine wpAny_storeName_cell hk hl hc ⟨o, z.1, hd⟩ fun h' hv hs => ?_
  obtain ⟨o', ho', hd'⟩ := hv
  refine h h' o' (F.change hs z.2.1 z.2.2) (fun p hp => ?_) hd'
  rcases List.mem_cons.mp hp with rfl | hp
  · exact ⟨ho', z.2⟩
  · exact ⟨(hs.2 _ (hne p hp)).trans (N p (.tail _ hp)).1, (N p (.tail _ hp)).2⟩

/-- objects that nothing here changes -/
def Inert (o : Obj) : Prop := (∀ es n, o.data ≠ .dict es n) ∧ (∀ vs n, o.data ≠ .seq vs n) ∧ NotRI o
/-- the code table's content, its code kept in a base and a ledger -/
def TabOk (g : Heap) (lam : List (Addr × Obj)) (ps : Array Value) : Prop := ps = #[] ∨ ∃ c, ps = #[rawInt 43, rawInt 23, .ref c] ∧ ∀ h2 : Heap, (∀ b o, g.get? b = some o → h2.get? b = some o) → (∀ p ∈ lam, h2.get? p.1 = some p.2) → h2.CodeRec (.ref c) lamQual
theorem TabOk.tab {g h : Heap} {lam : List (Addr × Obj)} {ps : Array Value} (x : TabOk g lam ps) (k : ∀ b o, g.get? b = some o → h.get? b = some o) (hl : ∀ p ∈ lam, h.get? p.1 = some p.2) (h1 : h.get? 100 = some (tabObj ps)) : TabE h ∨ TabF h := by
  rcases x with rfl | ⟨c, rfl, hc⟩
  · exact .inl h1
  · exact .inr ⟨c, h1, hc h k hl⟩
theorem code_obj {h : Heap} {c : Addr} (x : h.CodeRec (.ref c) lamQual) : ∃ oc, h.get? c = some oc ∧ Inert oc ∧ (∀ h2 : Heap, h2.get? c = some oc → h2.CodeRec (.ref c) lamQual) ∧ ∃ vs, oc.data = .fields vs := by
  obtain ⟨c', oc, vs, t, e1, e2, e3, e4⟩ := x
  cases e1
  exact ⟨oc, e2, ⟨fun es n q => (by rw [e3] at q; cases q), fun vs' n q => (by rw [e3] at q; cases q), .inr fun vs' q => (by rw [e3] at q; cases q; exact ⟨_, t, e4⟩)⟩, (fun h2 e => ⟨c, oc, vs, t, rfl, e, e3, e4⟩), vs, e3⟩
/-- the table at a start -/
theorem tab_start {g h : Heap} {L : Addr} {m : Str → Option Value} (F : Fr g L h m) (tab : TabE h ∨ TabF h) : ∃ ps lam, h.get? 100 = some (tabObj ps) ∧ TabOk g lam ps ∧ News g L h lam ∧ (∀ p ∈ lam, Inert p.2) ∧ ∀ p ∈ lam, ∃ vs, p.2.data = .fields vs := by
  rcases tab with t | ⟨c, t, r⟩
  · exact ⟨#[], [], t, .inl rfl, News.nil, (fun p hp => nomatch hp), fun p hp => nomatch hp⟩
  · obtain ⟨oc, h1, h2, h3, h4⟩ := code_obj r
    have hL : c ≠ L := fun q => by
      obtain ⟨oL, es, n, e1, e2, _⟩ := F.ns
      rw [q, e1] at h1
      cases h1
      exact h2.1 _ _ e2
    obtain ⟨K, NK, _, sub, back⟩ := held_list F [(c, oc)] (fun p hp => by rw [List.mem_singleton.mp hp]; exact ⟨h1, hL⟩)
    exact ⟨_, K, t, .inr ⟨c, rfl, fun h2 k hK => h3 h2 (back h2 k hK (c, oc) (.head _))⟩, NK, (fun p hp => by rw [List.mem_singleton.mp (sub p hp)]; exact h2), fun p hp => by rw [List.mem_singleton.mp (sub p hp)]; exact h4⟩
section
variable {w : World} {A : Around} {E : Value → Shared → Prop} {s : Shared} {l : List Env} {g : Heap} {L : Addr} {m : Str → Option Value} {B d : Addr} {ep : Nat} {rows : List RowS} {lam rest : List (Addr × Obj)} {ps : Array Value} {p : Program} {loose : List Str} {mean : ExcName → Option Value} {mg mb : Str → Option Value}
theorem freeze_led {Q : Value → Shared → Prop} (X : (KK w.params).In g) (T : Top p loose mean mg mb g) (h100 : g.get? 100 = none) (F : Fr g L s.heap m) (N : News g L s.heap (bookNews w B d [] 0 ep rows ++ ((100, tabObj ps) :: (lam ++ rest)))) (tab : TabOk g lam ps) 
    (hd : ∀ q ∈ rest, q.1 ≠ d ∧ q.1 ≠ 100) (hl : ∀ q ∈ lam, Inert q.2)
    (a1 : A.handled = none) (a2 : A.depth ≤ 500) (a3 : A.frames = some l) (a4 : A.guards = some []) (a5 : A.units ≤ 3000)
    (h : ∀ h' tk hs t f ps' lam', Fr g L h' m → News g L h' (bookNews w B d [⟨hs, .str frozenName t, .ref f⟩] 1 ep rows ++ ((100, tabObj ps') :: (lam' ++ rest))) → TabOk g lam' ps' → (∀ q ∈ lam', Inert q.2) → (∀ h2 : Heap, (∀ b o, g.get? b = some o → h2.get? b = some o) → (∀ p ∈ lam', h2.get? p.1 = some p.2) → LamAt h2 f B) → Q .none { s with heap := h', toks := tk }) :
    wpAny (model PySem.Challenge.rw_in0185_01.row.prog w) A (call (.ref 105) [.ref B]) Q E s := by
  have mB := N _ (.head _)
  have md := N _ (.tail _ (.head _))
  have m100 := N (100, tabObj ps) (List.mem_append_right _ (.head _))
  have mlam : ∀ q ∈ lam, q ∈ (bookNews w B d [] 0 ep rows ++ ((100, tabObj ps) :: (lam ++ rest))) := fun q hq => List.mem_append_right _ (.tail _ (List.mem_append_left _ hq))
  have tab5 : TabE s.heap ∨ TabF s.heap := tab.tab F.keep (fun q hq => (N q (mlam q hq)).1) m100.1
  have tab_seq : ∃ vs n, (tabObj ps).data = .fields vs := ⟨_, 0, rfl⟩
  have dne : d ≠ 100 := fun q => by
    have e := md.1
    rw [show (d, dictObj [] 0).1 = 100 from q, m100.1] at e
    cases e
  have bne : B ≠ 100 := fun q => by
    have e := mB.1
    rw [show (B, bookObj d ((kvsOf rows).map (entOf w)) ep).1 = 100 from q, m100.1] at e
    cases e
  refine wpAny_call (up (freeze_ok (g := g) (s := s) ⟨F.keep, Nat.le_trans F.above (Nat.le_of_lt F.ns.lt)⟩ X T ⟨mB.1, md.1⟩ h100 dne bne tab5 ?_) a1 a2 a3 a4 a5)
  intro h' tk f hs t keep hd' lam' tab'
  have F' := fr_keep (h' := h') F (fun b => b = d ∨ b = 100) (fun b o hb e => keep b o (fun q => hb (.inl q)) (fun q => hb (.inr q)) e) (by
    rintro (q | q)
    · exact md.2.1 q.symm
    · exact m100.2.1 q.symm) (by
    rintro b (rfl | rfl)
    · exact md.2.2
    · exact h100)
  obtain ⟨cell, oc, pm, c, ct, l1, l2, l3, l4⟩ := lam'
  obtain ⟨c2, t1, t2⟩ := tab'
  obtain ⟨o1, p1, p2, p3, _⟩ := code_obj l4
  obtain ⟨o2, r1, r2, r3, _⟩ := code_obj t2
  have iL : Inert (lamObj cell pm c ct) := ⟨fun es n q => (by cases q), fun vs n q => (by cases q), .inr fun vs q => (by cases q)⟩
  have iC : Inert oc := ⟨fun es n q => (by rw [l3] at q; cases q), fun vs n q => (by rw [l3] at q; cases q), .inr fun vs q => (by rw [l3] at q; cases q)⟩
  have neL : ∀ (a : Addr) (o : Obj), h'.get? a = some o → (∀ es n, o.data ≠ .dict es n) → a ≠ L := fun a o e i q => by
    obtain ⟨oL, es, n, e1, e2, _⟩ := F'.ns
    rw [q, e1] at e
    cases e
    exact i _ _ e2
  obtain ⟨K, NK, _, sub, back⟩ := held_list F' [(f, lamObj cell pm c ct), (cell, oc), (c, o1), (c2, o2)] (fun q hq => by
    simp only [List.mem_cons, List.not_mem_nil, or_false] at hq
    rcases hq with rfl | rfl | rfl | rfl
    · exact ⟨l1, neL _ _ l1 iL.1⟩
    · exact ⟨l2, neL _ _ l2 iC.1⟩
    · exact ⟨p1, neL _ _ p1 p2.1⟩
    · exact ⟨r1, neL _ _ r1 r2.1⟩)
  have inK : ∀ q ∈ K, Inert q.2 := fun q hq => by
    have := sub q hq
    simp only [List.mem_cons, List.not_mem_nil, or_false] at this
    rcases this with rfl | rfl | rfl | rfl
    · exact iL
    · exact iC
    · exact p2
    · exact r2
  refine h h' tk hs t f _ K F' (fun q hq => ?_) (.inr ⟨c2, rfl, fun h2 k1 k2 => r3 h2 (back h2 k1 k2 (c2, o2) (.tail _ (.tail _ (.tail _ (.head _)))))⟩) inK fun h2 k1 k2 => ?_
  · have keepq : ∀ q ∈ (bookNews w B d [] 0 ep rows ++ ((100, tabObj ps) :: (lam ++ rest))), q.1 ≠ d → q.1 ≠ 100 → h'.get? q.1 = some q.2 ∧ q.1 ≠ L ∧ g.get? q.1 = none := fun q hq q1 q2 => ⟨keep _ _ q1 q2 (N q hq).1, (N q hq).2⟩
    rcases List.mem_append.mp hq with hq | hq
    · rcases List.mem_cons.mp hq with rfl | hq
      · refine keepq _ (.head _) (fun q => ?_) bne
        have e := md.1
        rw [show (d, dictObj [] 0).1 = B from q.symm, mB.1] at e
        cases e
      · rcases List.mem_cons.mp hq with rfl | hq
        · exact ⟨hd', md.2⟩
        · obtain ⟨r, hr, rfl⟩ := List.mem_map.mp hq
          have mr := N r.obj (List.mem_append_left _ (.tail _ (.tail _ (List.mem_map_of_mem hr))))
          refine keepq _ (List.mem_append_left _ (.tail _ (.tail _ (List.mem_map_of_mem hr)))) (fun q => ?_) (fun q => ?_)
          · have e := mr.1
            rw [q, md.1] at e
            exact absurd (congrArg Obj.cls (Option.some.inj e)) (show ¬ (Value.type "dict" = Value.type "list") by decide)
          · have e := mr.1
            rw [q, m100.1] at e
            cases e
    · rcases List.mem_cons.mp hq with rfl | hq
      · exact ⟨t1, m100.2⟩
      · rcases List.mem_append.mp hq with hq | hq
        · exact NK q hq
        · exact keepq q (List.mem_append_right _ (.tail _ (List.mem_append_right _ hq))) (hd q hq).1 (hd q hq).2
  · exact ⟨cell, oc, pm, c, ct, back h2 k1 k2 _ (.head _), back h2 k1 k2 (cell, oc) (.tail _ (.head _)), l3, p3 h2 (back h2 k1 k2 (c, o1) (.tail _ (.tail _ (.head _))))⟩
end
end Mine
end
section
open PySem PySem.W PyProof.Rows PySem.Spec
set_option Elab.async false
set_option maxRecDepth 100000
set_option maxHeartbeats 8000000
namespace Mine
/-- a row: its text, its name, its place -/
structure Row where
  text : Str
  name : Option Str
  place : Option (Int × Int)
def optD {α : Type} (f : α → Dt) : Option α → Dt
  | none => .none
  | some x => f x
def rowD (r : Row) : Dt := .tuple [.str r.text, optD .str r.name, optD placeD r.place]
/-- a list that tells data, its objects anywhere in a heap -/
def At (h : Heap) (a : Addr) (ds : List Dt) : Prop := ∃ vs n news, h.get? a = some (listObj vs.toArray n) ∧ DatAll news vs ds ∧ ∀ p ∈ news, h.get? p.1 = some p.2
theorem At.keeps {h h' : Heap} {a : Addr} {ds} (x : At h a ds) (k : ∀ b o, h.get? b = some o → h'.get? b = some o) : At h' a ds := by
  obtain ⟨vs, n, news, h1, h2, h3⟩ := x
  exact ⟨vs, n, news, k _ _ h1, h2, fun p hp => k _ _ (h3 p hp)⟩
/-- what is asked of a row's text -/
def RowOk (r : Row) : Prop := r.text.length ≤ 100 ∧ match r.name with
  | none => ∃ a, Txt.splitMax r.text (Str.ofString "=") 1 = [a]
  | some n => ∃ a b, Txt.splitMax r.text (Str.ofString "=") 1 = [a, b] ∧ Txt.strip a = n ∧ (Txt.strip b).length ≤ 100 ∧ match r.place with
    | none => BadPlace (Txt.strip b)
    | some p => ∃ c d, Txt.split (Txt.strip b) (Str.ofString ".") = [c, d] ∧ PySem.intText? c = some p.1 ∧ PySem.intText? d = some p.2
/-- frames as they were, but for what hangs on them -/
def FramesUp (l : List Env) (h h' : Heap) : Prop := ∀ a ∈ frs l, ∀ o, h.get? a = some o → ∃ sl, h'.get? a = some { o with slots := sl }
def noteS (r : Row) : Str := match r.name with
  | none => Str.ofString "no pair"
  | some _ => match r.place with
    | none => Str.ofString "no place"
    | some _ => Str.ofString "read"
def stepB (frozen : Bool) (c : Says) (r : Row) : Says := match r.name with
  | none => c
  | some n => match r.place with
    | none => touch frozen c n
    | some p => pushS (touch frozen c n) n p
def bookTo (rs : List Row) (stop : Nat) : Nat → Says
  | 0 => []
  | i + 1 => match rs[i]? with
    | none => bookTo rs stop i
    | some r => stepB (decide (stop ≤ i)) (bookTo rs stop i) r
/-- the frames in a ledger -/
def FlOk (l : List Env) (h₀ : Heap) (fl : List (Addr × Obj)) : Prop := (∀ p ∈ fl, p.1 ∈ frs l ∧ ∃ es n, p.2.data = .dict es n) ∧ ∀ a ∈ frs l, ∀ o, h₀.get? a = some o → ∃ sl, (a, { o with slots := sl }) ∈ fl
def flOf (l : List Env) (h : Heap) : List (Addr × Obj) := (frs l).filterMap fun a => (h.get? a).map fun o => (a, o)
theorem flOf_get {l : List Env} {h : Heap} : ∀ p ∈ flOf l h, p.1 ∈ frs l ∧ h.get? p.1 = some p.2 := fun p hp => by
  obtain ⟨a, ha, e⟩ := List.mem_filterMap.mp hp
  obtain ⟨o, ho, rfl⟩ := Option.map_eq_some_iff.mp e
  exact ⟨ha, ho⟩
theorem FramesUp.refl {l : List Env} {h : Heap} : FramesUp l h h := fun _ _ o e => ⟨o.slots, e⟩
theorem FramesUp.ok {l : List Env} {h h' : Heap} (x : FramesUp l h h') (C : FramesOk l h) : FramesOk l h' := fun env he => by
  obtain ⟨hk, L, o, es, n, hf, ho, hd⟩ := C env he
  obtain ⟨sl, e⟩ := x L (List.mem_filterMap.mpr ⟨env, he, hf⟩) o ho
  exact ⟨hk, L, _, es, n, hf, e, hd⟩
theorem FramesUp.slots {l : List Env} {h h1 h' : Heap} (x : FramesUp l h h1) (C : FramesOk l h) (y : h1.UpToSlots h') : FramesUp l h h' := fun a ha o e => by
  obtain ⟨sl, e1⟩ := x a ha o e
  obtain ⟨o', es, n, e2, hd⟩ := C.mem ha
  rw [e] at e2
  cases e2
  obtain ⟨sl', e3⟩ := y a _ e1 (fun vs q => by rw [show ({ o with slots := sl } : Obj).data = o.data from rfl, hd] at q; cases q)
  exact ⟨sl', e3⟩
theorem fl_make {l : List Env} {h₀ h : Heap} (C : FramesOk l h₀) (x : FramesUp l h₀ h) : FlOk l h₀ (flOf l h) := ⟨fun p hp => by
  obtain ⟨a, b⟩ := flOf_get p hp
  obtain ⟨o, es, n, e, hd⟩ := (x.ok C).mem a
  rw [b] at e
  cases e
  exact ⟨a, es, n, hd⟩, fun a ha o e => by
  obtain ⟨sl, e1⟩ := x a ha o e
  exact ⟨sl, List.mem_filterMap.mpr ⟨a, ha, by rw [e1]; rfl⟩⟩⟩
theorem fl_up {l : List Env} {h₀ h : Heap} {fl : List (Addr × Obj)} (x : FlOk l h₀ fl) (hp : ∀ p ∈ fl, h.get? p.1 = some p.2) : FramesUp l h₀ h := fun a ha o e => by
  obtain ⟨sl, hm⟩ := x.2 a ha o e
  exact ⟨sl, hp _ hm⟩
/-- how a book stands: open or frozen -/
def Stands (g : Heap) (B : Addr) (lam : List (Addr × Obj)) (frozen : Bool) (fs : List DictEntry) (fp : Nat) : Prop :=
  (frozen = false ∧ fs = [] ∧ fp = 0) ∨ (frozen = true ∧ ∃ hs t f, fs = [⟨hs, .str frozenName t, .ref f⟩] ∧ ∀ h2 : Heap, (∀ b o, g.get? b = some o → h2.get? b = some o) → (∀ p ∈ lam, h2.get? p.1 = some p.2) → LamAt h2 f B)
theorem Stands.froze {g h : Heap} {B : Addr} {lam : List (Addr × Obj)} {frozen fs fp} (x : Stands g B lam frozen fs fp) (k : ∀ b o, g.get? b = some o → h.get? b = some o) (hl : ∀ p ∈ lam, h.get? p.1 = some p.2) : Froze h B fs ∧ (!fs.isEmpty) = frozen := by
  rcases x with ⟨rfl, rfl, rfl⟩ | ⟨rfl, hs, t, f, rfl, hf⟩
  · exact ⟨.inl rfl, rfl⟩
  · exact ⟨.inr ⟨hs, t, f, rfl, hf h k hl⟩, rfl⟩
/-- the state of a run behind i rows -/
structure RunJ (w : World) (l : List Env) (g h₀ : Heap) (RW AK B d NB cb : Addr) (rs : List Row) (stop : Nat) (frozen : Bool) (i : Nat) (m : Str → Option Value) (news : List (Addr × Obj)) : Prop where
  m1 : m (Str.ofString "rows") = some (.ref RW)
  m2 : ∃ t, m (Str.ofString "stop") = some (.int stop t)
  m3 : m (Str.ofString "asked") = some (.ref AK)
  m4 : m (Str.ofString "notes") = some (.ref NB)
  led : ∃ ep fs fp rows nn nvs ps lam tups fl oc, news = bookNews w B d fs fp ep rows ++ ((100, tabObj ps) :: (lam ++ ((cb, oc) :: (NB, listObj nvs.toArray nn) :: (tups ++ fl)))) ∧
    oc.data = .cell (some (.ref B)) ∧ GoodRows rows ∧ rows.length ≤ i ∧ RowsIn tups rows ∧ (∀ r ∈ rows, r.its.length ≤ i + 1) ∧ saysOf rows = bookTo rs stop i ∧ DatAll [] nvs (((rs.take i).map noteS).map .str) ∧
    (∀ q ∈ tups, q.2.cls = .type "tuple" ∧ ∃ vs n, q.2.data = .seq vs n) ∧ Stands g B lam frozen fs fp ∧ TabOk g lam ps ∧ (∀ q ∈ lam, Inert q.2) ∧ FlOk l h₀ fl
theorem small_range : ∀ n : Nat, n < 12 → Builtin.Range.small 0 (n : Int) 1 = true := by decide
theorem size_range : ∀ n : Nat, n < 12 → Builtin.Range.rangeSize 0 (n : Int) 1 = (n : Int) := by decide
theorem notRI_dict {o : Obj} {es n} (h : o.data = .dict es n) : NotRI o := .inr fun vs q => by rw [h] at q; cases q
theorem notRI_seq {o : Obj} {vs n} (h : o.data = .seq vs n) : NotRI o := .inr fun vs q => by rw [h] at q; cases q
theorem notRI_cell {o : Obj} {v} (h : o.data = .cell v) : NotRI o := .inr fun vs q => by rw [h] at q; cases q
theorem RunJ.notRI {w l g h₀ RW AK B d NB cb rs stop frozen i m news} (J : RunJ w l g h₀ RW AK B d NB cb rs stop frozen i m news) : ∀ p ∈ news, NotRI p.2 := by
  obtain ⟨_, _, _, _, ep, fs, fp, rows, nn, nvs, ps, lam, tups, fl, oc, rfl, hc, _, _, _, _, _, _, ht, _, _, hl, hf⟩ := J
  intro p hp
  rcases List.mem_append.mp hp with hp | hp
  · rcases List.mem_cons.mp hp with rfl | hp
    · exact notRI_dict rfl
    · rcases List.mem_cons.mp hp with rfl | hp
      · exact notRI_dict rfl
      · obtain ⟨r, _, rfl⟩ := List.mem_map.mp hp
        exact notRI_seq rfl
  · rcases List.mem_cons.mp hp with rfl | hp
    · exact .inl (fun q => by cases q)
    · rcases List.mem_append.mp hp with hp | hp
      · exact (hl p hp).2.2
      · rcases List.mem_cons.mp hp with rfl | hp
        · exact notRI_cell hc
        · rcases List.mem_cons.mp hp with rfl | hp
          · exact notRI_seq rfl
          · rcases List.mem_append.mp hp with hp | hp
            · obtain ⟨_, vs, n, e⟩ := ht p hp
              exact notRI_seq e
            · obtain ⟨_, es, n, e⟩ := hf.1 p hp
              exact notRI_dict e
theorem start_led {g h : Heap} {L : Addr} {a c t : Addr × Obj} {bk lam fl : List (Addr × Obj)} (N : News g L h (a :: c :: (bk ++ (t :: (lam ++ fl))))) : News g L h (bk ++ (t :: (lam ++ (c :: a :: ([] ++ fl))))) := news_sub N fun p hp => by
  simp only [List.mem_append, List.mem_cons, List.not_mem_nil, false_or] at hp ⊢
  rcases hp with h | h | h | h | h | h
  · exact .inr (.inr (.inl h))
  · exact .inr (.inr (.inr (.inl h)))
  · exact .inr (.inr (.inr (.inr (.inl h))))
  · exact .inr (.inl h)
  · exact .inl h
  · exact .inr (.inr (.inr (.inr (.inr h))))
theorem turn_led {g h : Heap} {L : Addr} {c a t : Addr × Obj} {bk lam tups fl own : List (Addr × Obj)} (N : News g L h (own ++ (bk ++ (t :: (lam ++ (c :: a :: (tups ++ fl))))))) : News g L h (bk ++ (t :: (lam ++ (c :: a :: (tups ++ (fl ++ own)))))) := news_sub N fun p hp => by
  simp only [List.mem_append, List.mem_cons] at hp ⊢
  rcases hp with h | h | h | h | h | h | h | h
  · exact .inr (.inl h)
  · exact .inr (.inr (.inl h))
  · exact .inr (.inr (.inr (.inl h)))
  · exact .inr (.inr (.inr (.inr (.inl h))))
  · exact .inr (.inr (.inr (.inr (.inr (.inl h)))))
  · exact .inr (.inr (.inr (.inr (.inr (.inr (.inl h))))))
  · exact .inr (.inr (.inr (.inr (.inr (.inr (.inr h))))))
  · exact .inl h
/-- behind the question whether to freeze -/
def AfterIf (w : World) (g : Heap) (L B d NB cb : Addr) (rows : List RowS) (nn : Nat) (nvs : List Value) (tups tl : List (Addr × Obj)) (oc : Obj) (mm : Str → Option Value) (s₁ : Shared) (fz : Bool) (f : Flow) (s' : Shared) : Prop :=
  f = .next ∧ ∃ h' tk ep fs fp ps lam, s' = { s₁ with heap := h', toks := tk } ∧ Fr g L h' mm ∧ News g L h' (bookNews w B d fs fp ep rows ++ ((100, tabObj ps) :: (lam ++ ((cb, oc) :: (NB, listObj nvs.toArray nn) :: (tups ++ tl))))) ∧ Stands g B lam fz fs fp ∧ TabOk g lam ps ∧ ∀ q ∈ lam, Inert q.2
theorem datAll_get {news : List (Addr × Obj)} : ∀ {vs : List Value} {ds : List Dt} {i : Nat} {d : Dt}, DatAll news vs ds → ds[i]? = some d → ∃ v, vs[i]? = some v ∧ DatIn news v d
  | _, _, 0, _, .cons h _, e => ⟨_, rfl, by simp at e; exact e ▸ h⟩
  | _, _, i + 1, _, .cons _ r, e => by simpa using datAll_get r (by simpa using e)
theorem row_at {g : Heap} {rnews : List (Addr × Obj)} {rv : List Value} {rs : List Row} {i : Nat} {r : Row} (h : DatAll rnews rv (rs.map rowD)) (hg : ∀ p ∈ rnews, g.get? p.1 = some p.2) (hr : rs[i]? = some r) :
    ∃ ra t0 v1 v2 n, rv[i]? = some (.ref ra) ∧ g.get? ra = some ⟨.type "tuple", none, .seq #[.str r.text t0, v1, v2] n, #[]⟩ ∧ DatIn rnews v1 (optD .str r.name) ∧ DatIn rnews v2 (optD placeD r.place) := by
  obtain ⟨v, hv, hd⟩ := datAll_get (i := i) (d := rowD r) h (by rw [List.getElem?_map, hr]; rfl)
  cases hd with
  | @tuple a vs n _ hm hall =>
    cases hall with
    | cons h0 hall =>
      cases hall with
      | cons h1 hall =>
        cases hall with
        | cons h2 hall =>
          cases hall
          cases h0
          exact ⟨a, _, _, _, n, hv, hg _ hm, h1, h2⟩
theorem notRow_strs {nvs : List Value} {xs : List Str} {n : Nat} (h : DatAll [] nvs (xs.map .str)) : NotRow (listObj nvs.toArray n) := fun a vs k e => by
  have e1 : nvs.toArray = (Value.ref a :: vs).toArray := by injection e with _ _ e2; injection e2
  have e2 : nvs = Value.ref a :: vs := by simpa using e1
  subst e2
  cases xs with
  | nil => cases h
  | cons x xs => cases h with | cons h1 _ => cases h1
/-- what stands behind a book in a run's ledger: apart from the book, no row's list -/
theorem tl_facts {w : World} {l : List Env} {g h h₀ : Heap} {L B d cb NB : Addr} {fs : List DictEntry} {fp ep : Nat} {rows : List RowS} {ps : Array Value} {lam tups fl own : List (Addr × Obj)} {oc : Obj} {nvs : List Value} {nn : Nat} {v : Option Value} {xs : List Str}
    (N : News g L h (bookNews w B d fs fp ep rows ++ ((100, tabObj ps) :: (lam ++ ((cb, oc) :: (NB, listObj nvs.toArray nn) :: (tups ++ (fl ++ own))))))) (hc : oc.data = .cell v) (hn : DatAll [] nvs (xs.map .str))
    (hli : ∀ q ∈ lam, Inert q.2) (ht : ∀ q ∈ tups, q.2.cls = .type "tuple" ∧ ∃ vs n, q.2.data = .seq vs n) (hfl : FlOk l h₀ fl) (ho : ∀ q ∈ own, q.2.cls = .type "range_iterator") (Bd : B ∉ frs l ∧ d ∉ frs l) :
    ∀ q ∈ ((100, tabObj ps) :: (lam ++ ((cb, oc) :: (NB, listObj nvs.toArray nn) :: (tups ++ (fl ++ own))))), q.1 ≠ B ∧ q.1 ≠ d ∧ NotRow q.2 ∧ (q = (100, tabObj ps) ∨ q ∈ lam ∨ q.1 ≠ 100) := by
  have mB : (B, bookObj d ((kvsOf rows).map (entOf w)) ep) ∈ (bookNews w B d fs fp ep rows ++ ((100, tabObj ps) :: (lam ++ ((cb, oc) :: (NB, listObj nvs.toArray nn) :: (tups ++ (fl ++ own)))))) := .head _
  have md : (d, dictObj fs fp) ∈ (bookNews w B d fs fp ep rows ++ ((100, tabObj ps) :: (lam ++ ((cb, oc) :: (NB, listObj nvs.toArray nn) :: (tups ++ (fl ++ own)))))) := .tail _ (.head _)
  have mT : (100, tabObj ps) ∈ (bookNews w B d fs fp ep rows ++ ((100, tabObj ps) :: (lam ++ ((cb, oc) :: (NB, listObj nvs.toArray nn) :: (tups ++ (fl ++ own)))))) := List.mem_append_right _ (.head _)
  have key : ∀ q ∈ ((100, tabObj ps) :: (lam ++ ((cb, oc) :: (NB, listObj nvs.toArray nn) :: (tups ++ (fl ++ own))))), (∀ es n, q.2.data ≠ .dict es n) → q.1 ≠ B ∧ q.1 ≠ d := fun q hq hd =>
    ⟨ne_objs N (List.mem_append_right _ hq) mB fun e => hd _ _ (by rw [e]), ne_objs N (List.mem_append_right _ hq) md fun e => hd _ _ (by rw [e])⟩
  have k100 : ∀ q ∈ ((100, tabObj ps) :: (lam ++ ((cb, oc) :: (NB, listObj nvs.toArray nn) :: (tups ++ (fl ++ own))))), q.2 ≠ tabObj ps → q.1 ≠ 100 := fun q hq hd => ne_objs N (List.mem_append_right _ hq) mT hd
  intro q hq
  have hq0 := hq
  rcases List.mem_cons.mp hq with e | hq
  · have hd : ∀ es n, q.2.data ≠ .dict es n := fun es n z => by rw [e] at z; cases z
    exact ⟨(key q hq0 hd).1, (key q hq0 hd).2, (fun a vs n z => by rw [e] at z; cases z), .inl e⟩
  · rcases List.mem_append.mp hq with hq | hq
    · obtain ⟨i1, i2, _⟩ := hli q hq
      exact ⟨(key q hq0 i1).1, (key q hq0 i1).2, (fun a vs n z => i2 _ _ (by rw [z])), .inr (.inl hq)⟩
    · rcases List.mem_cons.mp hq with e | hq
      · have hd : ∀ es n, q.2.data ≠ .dict es n := fun es n z => by rw [e, hc] at z; cases z
        exact ⟨(key q hq0 hd).1, (key q hq0 hd).2, (fun a vs n z => by rw [e] at z; rw [show oc = _ from z] at hc; cases hc), .inr (.inr (k100 q hq0 fun z => by rw [e] at z; rw [show oc = _ from z] at hc; cases hc))⟩
      · rcases List.mem_cons.mp hq with e | hq
        · have hd : ∀ es n, q.2.data ≠ .dict es n := fun es n z => by rw [e] at z; cases z
          exact ⟨(key q hq0 hd).1, (key q hq0 hd).2, by rw [e]; exact notRow_strs hn, .inr (.inr (k100 q hq0 fun z => by rw [e] at z; cases z))⟩
        · rcases List.mem_append.mp hq with hq | hq
          · obtain ⟨t1, vs, n, t2⟩ := ht q hq
            have hd : ∀ es n, q.2.data ≠ .dict es n := fun es n z => by rw [t2] at z; cases z
            exact ⟨(key q hq0 hd).1, (key q hq0 hd).2, .cls (by rw [t1]; decide), .inr (.inr (k100 q hq0 fun z => by rw [z] at t2; cases t2))⟩
          · rcases List.mem_append.mp hq with hq | hq
            · obtain ⟨f1, es, n, f2⟩ := hfl.1 q hq
              exact ⟨fun z => Bd.1 (z ▸ f1), fun z => Bd.2 (z ▸ f1), (fun a vs k z => by rw [z] at f2; cases f2), .inr (.inr (k100 q hq0 fun z => by rw [z] at f2; cases f2))⟩
            · have o1 := ho q hq
              refine ⟨ne_objs N (List.mem_append_right _ hq0) mB (fun e => by rw [e] at o1; cases o1), ne_objs N (List.mem_append_right _ hq0) md (fun e => ?_), .cls (by rw [o1]; decide), .inr (.inr (k100 q hq0 fun z => by rw [z] at o1; cases o1))⟩
              rw [e] at o1
              exact absurd (show Value.type "dict" = Value.type "range_iterator" from o1) (by decide)
theorem tl_100 {w : World} {l : List Env} {g h h₀ : Heap} {L B d cb NB : Addr} {fs : List DictEntry} {fp ep : Nat} {rows : List RowS} {ps : Array Value} {lam tups fl own : List (Addr × Obj)} {oc : Obj} {nvs : List Value} {nn : Nat} {v : Option Value}
    (N : News g L h (bookNews w B d fs fp ep rows ++ ((100, tabObj ps) :: (lam ++ ((cb, oc) :: (NB, listObj nvs.toArray nn) :: (tups ++ (fl ++ own))))))) (hc : oc.data = .cell v)
    (ht : ∀ q ∈ tups, q.2.cls = .type "tuple" ∧ ∃ vs n, q.2.data = .seq vs n) (hfl : FlOk l h₀ fl) (ho : ∀ q ∈ own, q.2.cls = .type "range_iterator") :
    ∀ q ∈ ((cb, oc) :: (NB, listObj nvs.toArray nn) :: (tups ++ (fl ++ own))), q.1 ≠ 100 := by
  have mT : (100, tabObj ps) ∈ (bookNews w B d fs fp ep rows ++ ((100, tabObj ps) :: (lam ++ ((cb, oc) :: (NB, listObj nvs.toArray nn) :: (tups ++ (fl ++ own)))))) := List.mem_append_right _ (.head _)
  intro q hq
  refine ne_objs N (List.mem_append_right _ (.tail _ (List.mem_append_right _ hq))) mT fun z => ?_
  rcases List.mem_cons.mp hq with e | hq
  · rw [e] at z; rw [show oc = _ from z] at hc; cases hc
  · rcases List.mem_cons.mp hq with e | hq
    · rw [e] at z; cases z
    · rcases List.mem_append.mp hq with hq | hq
      · obtain ⟨_, vs, n, t2⟩ := ht q hq
        rw [z] at t2; cases t2
      · rcases List.mem_append.mp hq with hq | hq
        · obtain ⟨_, es, n, f2⟩ := hfl.1 q hq
          rw [z] at f2; cases f2
        · have o1 := ho q hq
          rw [z] at o1; cases o1
end Mine
end
section
open PySem PySem.W PyProof.Rows PySem.Spec
set_option Elab.async false
set_option maxRecDepth 100000
set_option maxHeartbeats 8000000
namespace Mine
set_option pp.deepTerms false
theorem parse_ok2 {w : World} {l : List Env} {s : Shared} {R : Result → Shared → Prop} {p : Program} {loose : List Str} {mean : ExcName → Option Value} {mg mb : Str → Option Value} {x a b : Str} {t : Tok}
    (X₁ : (KK w.params).In s.heap) (T : Top p loose mean mg mb s.heap) (hx : x.length ≤ 600)
    (hs : Txt.splitMax x (Str.ofString "=") 1 = [a, b])
    (h : ∀ D d h' tk t1 t2, Ext s.heap h' → s.heap.get? D = none → s.heap.get? d = none → D ≠ d → h'.get? D = some (pairObj d (Txt.strip a) t1 (Txt.strip b) t2) → h'.get? d = some (dictObj [] 0) → R (.ok (.ret (.ref D))) { s with heap := h', toks := tk }) :
    codeAny (model PySem.Challenge.rw_in0185_01.row.prog w) (AA 500 3000 l) (.call (.ref 197) ⟨[.ref 203, .str x t], []⟩) R s := by
  have X₀ := K_of_KK X₁
  revert X₀; k_fill; intro X₀
  w_top off
  refine' enterP X₀ T.nolimit ?k6 ?k7 ?k8 ?k9 ?kB ?_ ?c2 ?c3 ?c4 ?c5
  case k6 => k_is
  case k7 => k_is
  case k8 => k_room
  case k9 => exact BindsTo.of_eq rfl
  case kB => exact locs rfl
  case c2 => exact rfl
  case c3 => exact rfl
  case c4 => exact rfl
  case c5 => decide
  intro h₁ F N
  have kX := kFor F X₀
  (try dsimp only); (try k_fold)
  k_steps
  rename Fr _ _ _ _ => F0
  rename News _ _ _ _ => N0
  refine type_attr (X₀.keeps F0.keep) (by decide +kernel) (by decide +kernel) (a := .builtin "str.strip") (by k_is) (handed_builtin rfl) ?_
  k_steps
  rename (List.map _ _ = Txt.splitMax _ _ _) => hm
  rw [hs] at hm
  obtain ⟨ta, tb, rfl⟩ := two_of hm
  rename Fr _ _ _ _ => F1
  rename News _ _ _ (_ :: _) => N1
  refine map_line (f := .builtin "str.strip") map_strip F1 N1 (N1 _ (.head _)).1 rfl (Nat.le_of_ble_eq_true rfl) rfl rfl (Nat.le_of_ble_eq_true rfl) ?_
  intro M tt it h2 tk2 F2 N2 D2 x2
  clear F1 N1
  rename (∀ a ∈ _, Str.length a ≤ _) => hlen
  have la := hlen a (by simp)
  have lb := hlen b (by simp)
  dsimp only
  refine star_map2 rfl (show MapAt h2 M tt it _ 0 _ #[.str a ta, .str b tb] from D2.at_) D2.ok (strip_spec (by omega)) (strip_spec (by omega)) ?_
  rintro v1 v2 h3 tk3 ⟨t1, rfl⟩ ⟨t2, rfl⟩ x3
  have F3 := Fr.extBut F2 x3 D2.base D2.L
  have N3 := News.extBut N2 x3 D2.news
  clear F2 N2
  dsimp only
  have X3 : (KK w.params).In h3 := X₁.keeps F3.keep
  refine ⟨K_of_KK X3, ?_⟩
  refine call_rets (upW (pair_new X3) rfl (Nat.le_of_ble_eq_true rfl) rfl rfl (Nat.le_of_ble_eq_true rfl)) fun v h4 tk4 x4 ⟨D, d, e, n1, n2, n3, n4, n5⟩ => ?_
  subst e
  have none_of : ∀ z, h3.get? z = none → s.heap.get? z = none := fun z e => by
    cases q : s.heap.get? z with
    | none => rfl
    | some o => rw [F3.keep _ _ q] at e; cases e
  exact h D d h4 _ t1 t2 (fun b o e => x4 b o (F3.keep b o e)) (none_of _ n1) (none_of _ n2) n3 n4 n5
end Mine
end
section
open PySem PySem.W PyProof.Rows PySem.Spec
set_option Elab.async false
set_option maxRecDepth 100000
set_option maxHeartbeats 4000000
namespace Mine
/-- a run's ledger -/
abbrev runLed (w : World) (B d cb NB : Addr) (fs : List DictEntry) (fp ep : Nat) (rows : List RowS) (ps : Array Value) (lam : List (Addr × Obj)) (oc : Obj) (nvs : List Value) (nn : Nat) (tups tl : List (Addr × Obj)) : List (Addr × Obj) :=
  bookNews w B d fs fp ep rows ++ ((100, tabObj ps) :: (lam ++ ((cb, oc) :: (NB, listObj nvs.toArray nn) :: (tups ++ tl))))
section
variable {w : World} {l : List Env} {g h h' h₀ : Heap} {L B d cb NB e : Addr} {fs : List DictEntry} {fp ep : Nat} {rows : List RowS} {ps : Array Value} {lam tups fl own : List (Addr × Obj)} {oc : Obj} {nvs : List Value} {nn : Nat} {v : Option Value} {env : Env} {X : String} {m : Str → Option Value}
theorem led_mem {w : World} {B d cb NB : Addr} {fs : List DictEntry} {fp ep : Nat} {rows : List RowS} {ps : Array Value} {lam tups tl : List (Addr × Obj)} {oc : Obj} {nvs : List Value} {nn : Nat} {P : Addr × Obj → Prop} (h1 : P (B, bookObj d ((kvsOf rows).map (entOf w)) ep)) (h2 : P (d, dictObj fs fp)) (h3 : ∀ r ∈ rows, P r.obj) (h4 : P (100, tabObj ps)) (h5 : ∀ q ∈ lam, P q) (h6 : P (cb, oc)) (h7 : P (NB, listObj nvs.toArray nn)) (h8 : ∀ q ∈ tups, P q) (h9 : ∀ q ∈ tl, P q) : ∀ q ∈ runLed w B d cb NB fs fp ep rows ps lam oc nvs nn tups tl, P q := fun q hq => by
  rcases List.mem_append.mp hq with hq | hq
  · rcases List.mem_cons.mp hq with rfl | hq
    · exact h1
    · rcases List.mem_cons.mp hq with rfl | hq
      · exact h2
      · obtain ⟨r, hr, rfl⟩ := List.mem_map.mp hq
        exact h3 r hr
  · rcases List.mem_cons.mp hq with rfl | hq
    · exact h4
    · rcases List.mem_append.mp hq with hq | hq
      · exact h5 q hq
      · rcases List.mem_cons.mp hq with rfl | hq
        · exact h6
        · rcases List.mem_cons.mp hq with rfl | hq
          · exact h7
          · rcases List.mem_append.mp hq with hq | hq
            · exact h8 q hq
            · exact h9 q hq
/-- a run's ledger behind a call that raised -/
theorem thrown_led (TH : Thrown (env :: l) h e X h') (hf : env.frame = some L) (F : Fr g L h m) (N : News g L h (runLed w B d cb NB fs fp ep rows ps lam oc nvs nn tups (fl ++ own))) (hc : oc.data = .cell v)
    (hli : ∀ q ∈ lam, Inert q.2) (ht : ∀ q ∈ tups, q.2.cls = .type "tuple" ∧ ∃ vs n, q.2.data = .seq vs n) (C : FramesOk l h₀) (hfl : FlOk l h₀ fl) (ho : ∀ q ∈ own, q.2.cls = .type "range_iterator" ∧ ∃ vs, q.2.data = .fields vs) (Bd : B ∉ frs l ∧ d ∉ frs l) (hgl : ∀ a ∈ frs l, g.get? a = none) :
    Fr g L h' m ∧ News g L h' (runLed w B d cb NB fs fp ep rows ps lam oc nvs nn tups (flOf l h' ++ own)) ∧ FlOk l h₀ (flOf l h') := by
  have memfl : ∀ q ∈ fl, q ∈ runLed w B d cb NB fs fp ep rows ps lam oc nvs nn tups (fl ++ own) := fun q hq => List.mem_append_right _ (.tail _ (List.mem_append_right _ (.tail _ (.tail _ (List.mem_append_right _ (List.mem_append_left _ hq))))))
  have memown : ∀ q ∈ own, q ∈ runLed w B d cb NB fs fp ep rows ps lam oc nvs nn tups (fl ++ own) := fun q hq => List.mem_append_right _ (.tail _ (List.mem_append_right _ (.tail _ (.tail _ (List.mem_append_right _ (List.mem_append_right _ hq))))))
  have up : FramesUp l h₀ h := fl_up hfl fun q hq => (N q (memfl q hq)).1
  have C1 := up.ok C
  have up' := up.slots C TH.slots
  have nd : ∀ q : Addr × Obj, h.get? q.1 = some q.2 → (∀ es n, q.2.data ≠ .dict es n) → q.1 ∉ frs l := fun q e i hm => by
    obtain ⟨o, es, n, e1, e2⟩ := C1.mem hm
    rw [e] at e1
    cases e1
    exact i _ _ e2
  have N' : News g L h' (runLed w B d cb NB fs fp ep rows ps lam oc nvs nn tups own) := by
    refine TH.led hf (news_sub N fun q hq => ?_) fun q hq => ?_
    · refine led_mem (P := fun q => q ∈ runLed w B d cb NB fs fp ep rows ps lam oc nvs nn tups (fl ++ own)) (.head _) (.tail _ (.head _)) (fun r hr => List.mem_append_left _ (.tail _ (.tail _ (List.mem_map_of_mem hr)))) (List.mem_append_right _ (.head _)) (fun q hq => List.mem_append_right _ (.tail _ (List.mem_append_left _ hq))) (List.mem_append_right _ (.tail _ (List.mem_append_right _ (.head _)))) (List.mem_append_right _ (.tail _ (List.mem_append_right _ (.tail _ (.head _))))) (fun q hq => List.mem_append_right _ (.tail _ (List.mem_append_right _ (.tail _ (.tail _ (List.mem_append_left _ hq)))))) memown q hq
    · have get : ∀ q ∈ runLed w B d cb NB fs fp ep rows ps lam oc nvs nn tups own, h.get? q.1 = some q.2 := fun q hq => by
        refine (N q ?_).1
        refine led_mem (P := fun q => q ∈ runLed w B d cb NB fs fp ep rows ps lam oc nvs nn tups (fl ++ own)) (.head _) (.tail _ (.head _)) (fun r hr => List.mem_append_left _ (.tail _ (.tail _ (List.mem_map_of_mem hr)))) (List.mem_append_right _ (.head _)) (fun q hq => List.mem_append_right _ (.tail _ (List.mem_append_left _ hq))) (List.mem_append_right _ (.tail _ (List.mem_append_right _ (.head _)))) (List.mem_append_right _ (.tail _ (List.mem_append_right _ (.tail _ (.head _))))) (fun q hq => List.mem_append_right _ (.tail _ (List.mem_append_right _ (.tail _ (.tail _ (List.mem_append_left _ hq)))))) memown q hq
      have g0 := get q hq
      revert g0
      refine led_mem (P := fun q => h.get? q.1 = some q.2 → q.1 ∉ frs l) (fun _ => Bd.1) (fun _ => Bd.2) (fun r _ e => nd _ e fun es n z => by cases z) (fun e => nd _ e fun es n z => by cases z) (fun q hq e => nd _ e (hli q hq).1) (fun e => nd _ e fun es n z => by rw [show (cb, oc).2.data = oc.data from rfl, hc] at z; cases z) (fun e => nd _ e fun es n z => by cases z) (fun q hq e => nd _ e fun es n z => ?_) (fun q hq e => nd _ e fun es n z => ?_) q hq
      · obtain ⟨_, vs, k, t2⟩ := ht q hq
        rw [t2] at z; cases z
      · obtain ⟨_, vs, o2⟩ := ho q hq
        rw [o2] at z; cases z
  refine ⟨TH.fr hf F hgl, fun q hq => ?_, fl_make C up'⟩
  have nL : ∀ q ∈ flOf l h', q.1 ≠ L := fun q hq z => by
    have hL : h₀.get? q.1 ≠ none := by
      obtain ⟨o, _, _, e1, _⟩ := C.mem (flOf_get q hq).1
      rw [e1]; exact fun y => by cases y
    obtain ⟨o, _, _, e1, _⟩ := C.mem (flOf_get q hq).1
    obtain ⟨sl, m0⟩ := hfl.2 q.1 (flOf_get q hq).1 o e1
    exact (N _ (memfl _ m0)).2.1 z
  refine led_mem (tl := flOf l h' ++ own) (P := fun q => h'.get? q.1 = some q.2 ∧ q.1 ≠ L ∧ g.get? q.1 = none) ?_ ?_ ?_ ?_ ?_ ?_ ?_ ?_ ?_ q hq
  · exact N' _ (.head _)
  · exact N' _ (.tail _ (.head _))
  · exact fun r hr => N' _ (List.mem_append_left _ (.tail _ (.tail _ (List.mem_map_of_mem hr))))
  · exact N' _ (List.mem_append_right _ (.head _))
  · exact fun q hq => N' _ (List.mem_append_right _ (.tail _ (List.mem_append_left _ hq)))
  · exact N' _ (List.mem_append_right _ (.tail _ (List.mem_append_right _ (.head _))))
  · exact N' _ (List.mem_append_right _ (.tail _ (List.mem_append_right _ (.tail _ (.head _)))))
  · exact fun q hq => N' _ (List.mem_append_right _ (.tail _ (List.mem_append_right _ (.tail _ (.tail _ (List.mem_append_left _ hq))))))
  · intro q hq
    rcases List.mem_append.mp hq with hq | hq
    · exact ⟨(flOf_get q hq).2, nL q hq, hgl _ (flOf_get q hq).1⟩
    · exact N' _ (List.mem_append_right _ (.tail _ (List.mem_append_right _ (.tail _ (.tail _ (List.mem_append_right _ hq))))))
end
section
variable {prog : Program} {w : World} {A : Around} {E : Value → Shared → Prop} {s : Shared} {l : List Env} {g h₀ : Heap} {L B d cb NB : Addr} {fs : List DictEntry} {fp ep : Nat} {rows : List RowS} {ps : Array Value} {lam tups fl own : List (Addr × Obj)} {oc : Obj} {nvs : List Value} {nn : Nat} {v : Option Value} {xs : List Str} {m : Str → Option Value}
/-- a note put down -/
theorem note_append {x : Str} {t : Tok} {Q : Value → Shared → Prop} (F : Fr g L s.heap m) (N : News g L s.heap (runLed w B d cb NB fs fp ep rows ps lam oc nvs nn tups (fl ++ own))) (hc : oc.data = .cell v) (hn : DatAll [] nvs (xs.map PySem.W.Dat.str)) (hxs : xs.length ≤ 500) (hR : RowsIn tups rows)
    (hli : ∀ q ∈ lam, Inert q.2) (ht : ∀ q ∈ tups, q.2.cls = .type "tuple" ∧ ∃ vs n, q.2.data = .seq vs n) (hfl : FlOk l h₀ fl) (ho : ∀ q ∈ own, q.2.cls = .type "range_iterator")
    (h : ∀ h', Fr g L h' m → News g L h' (runLed w B d cb NB fs fp ep rows ps lam oc (nvs ++ [.str x t]) (nn + 1) tups (fl ++ own)) → Q .none { s with heap := h' }) :
    wpAny (model prog w) A (call (.builtin "list.append") [.ref NB, .str x t]) Q E s := by
  have mN : (NB, listObj nvs.toArray nn) ∈ runLed w B d cb NB fs fp ep rows ps lam oc nvs nn tups (fl ++ own) := List.mem_append_right _ (.tail _ (List.mem_append_right _ (.tail _ (.head _))))
  have hlen : nvs.length ≤ 1000 := by rw [dat_len hn, List.length_map]; omega
  have ne : ∀ q ∈ runLed w B d cb NB fs fp ep rows ps lam oc nvs nn tups (fl ++ own), q.2 ≠ listObj nvs.toArray nn → q.1 ≠ NB := fun q hq z => ne_objs N hq mN z
  refine append_news F N mN (news' := runLed w B d cb NB fs fp ep rows ps lam oc (nvs ++ [.str x t]) (nn + 1) tups (fl ++ own)) ?_ (by rw [List.size_toArray]; exact hlen) fun h' F' N' _ => h h' F' N'
  have push : listObj (nvs.toArray.push (Value.str x t)) (nn + 1) = listObj (nvs ++ [Value.str x t]).toArray (nn + 1) := by simp
  refine led_mem (P := fun q => q = (NB, listObj (nvs.toArray.push (Value.str x t)) (nn + 1)) ∨ (q ∈ runLed w B d cb NB fs fp ep rows ps lam oc nvs nn tups (fl ++ own) ∧ q.1 ≠ NB)) ?_ ?_ ?_ ?_ ?_ ?_ ?_ ?_ ?_
  · exact .inr ⟨.head _, ne _ (.head _) fun z => by cases z⟩
  · exact .inr ⟨.tail _ (.head _), ne _ (.tail _ (.head _)) fun z => absurd (congrArg Obj.cls z) (show ¬ (Value.type "dict" = Value.type "list") by decide)⟩
  · intro r hr
    have mr : r.obj ∈ runLed w B d cb NB fs fp ep rows ps lam oc nvs nn tups (fl ++ own) := List.mem_append_left _ (.tail _ (.tail _ (List.mem_map_of_mem hr)))
    refine .inr ⟨mr, ne _ mr fun z => ?_⟩
    obtain ⟨_, a, vs, e⟩ := hR r hr
    have := notRow_strs (n := nn) hn a vs r.n
    exact this (by rw [← z]; show listObj r.vs.toArray r.n = _; rw [e])
  · exact .inr ⟨List.mem_append_right _ (.head _), ne _ (List.mem_append_right _ (.head _)) fun z => by cases z⟩
  · intro q hq
    have mq : q ∈ runLed w B d cb NB fs fp ep rows ps lam oc nvs nn tups (fl ++ own) := List.mem_append_right _ (.tail _ (List.mem_append_left _ hq))
    exact .inr ⟨mq, ne _ mq fun z => (hli q hq).2.1 _ _ (by rw [z])⟩
  · have mq : (cb, oc) ∈ runLed w B d cb NB fs fp ep rows ps lam oc nvs nn tups (fl ++ own) := List.mem_append_right _ (.tail _ (List.mem_append_right _ (.head _)))
    exact .inr ⟨mq, ne _ mq fun z => by rw [show oc = _ from z] at hc; cases hc⟩
  · exact .inl (by rw [push])
  · intro q hq
    have mq : q ∈ runLed w B d cb NB fs fp ep rows ps lam oc nvs nn tups (fl ++ own) := List.mem_append_right _ (.tail _ (List.mem_append_right _ (.tail _ (.tail _ (List.mem_append_left _ hq)))))
    exact .inr ⟨mq, ne _ mq fun z => absurd (show Value.type "tuple" = Value.type "list" from ((ht q hq).1.symm).trans (congrArg Obj.cls z)) (by decide)⟩
  · intro q hq
    have mq : q ∈ runLed w B d cb NB fs fp ep rows ps lam oc nvs nn tups (fl ++ own) := List.mem_append_right _ (.tail _ (List.mem_append_right _ (.tail _ (.tail _ (List.mem_append_right _ hq)))))
    refine .inr ⟨mq, ne _ mq fun z => ?_⟩
    rcases List.mem_append.mp hq with hq | hq
    · obtain ⟨_, es, n, f2⟩ := hfl.1 q hq
      rw [z] at f2; cases f2
    · exact absurd (show Value.type "range_iterator" = Value.type "list" from (ho q hq).symm.trans (congrArg Obj.cls z)) (by decide)
end
theorem bookTo_succ {rs : List Row} {stop i : Nat} {r : Row} (hr : rs[i]? = some r) : bookTo rs stop (i + 1) = stepB (decide (stop ≤ i)) (bookTo rs stop i) r := by
  show (match rs[i]? with | none => _ | some r => _) = _
  rw [hr]
theorem notes_succ {rs : List Row} {i : Nat} {r : Row} (hr : rs[i]? = some r) : ((rs.take (i + 1)).map noteS).map PySem.W.Dat.str = ((rs.take i).map noteS).map PySem.W.Dat.str ++ [PySem.W.Dat.str (noteS r)] := by
  rw [List.take_add_one, hr]; simp
theorem note_head {g h : Heap} {L : Addr} {w : World} {B d cb NB : Addr} {fs : List DictEntry} {fp ep : Nat} {rows : List RowS} {ps : Array Value} {lam tups tl : List (Addr × Obj)} {oc : Obj} {nvs : List Value} {nn : Nat} (N : News g L h (runLed w B d cb NB fs fp ep rows ps lam oc nvs nn tups tl)) : News g L h ((NB, listObj nvs.toArray nn) :: runLed w B d cb NB fs fp ep rows ps lam oc nvs nn tups tl) := news_sub N fun p hp => by
  rcases List.mem_cons.mp hp with rfl | hp
  · exact List.mem_append_right _ (.tail _ (List.mem_append_right _ (.tail _ (.head _))))
  · exact hp
/-- a turn's ledger in the order of the loop -/
theorem led_back {g h : Heap} {L : Addr} {w : World} {B d cb NB : Addr} {fs : List DictEntry} {fp ep : Nat} {rows : List RowS} {ps : Array Value} {lam tups fl own : List (Addr × Obj)} {oc : Obj} {nvs : List Value} {nn : Nat} (N : News g L h (runLed w B d cb NB fs fp ep rows ps lam oc nvs nn tups (fl ++ own))) : News g L h (own ++ runLed w B d cb NB fs fp ep rows ps lam oc nvs nn tups fl) := news_sub N fun p hp => by
  unfold runLed at hp ⊢
  simp only [List.mem_append, List.mem_cons] at hp ⊢
  rcases hp with h | h | h | h | h | h | h | h
  · exact .inr (.inr (.inr (.inr (.inr (.inr (.inr h))))))
  · exact .inl h
  · exact .inr (.inl h)
  · exact .inr (.inr (.inl h))
  · exact .inr (.inr (.inr (.inl h)))
  · exact .inr (.inr (.inr (.inr (.inl h))))
  · exact .inr (.inr (.inr (.inr (.inr (.inl h)))))
  · exact .inr (.inr (.inr (.inr (.inr (.inr (.inl h))))))
theorem run_next {w : World} {l : List Env} {g h₀ : Heap} {RW AK B d NB cb : Addr} {rs : List Row} {stop i : Nat} {r : Row} {m : Str → Option Value} {fs : List DictEntry} {fp ep nn : Nat} {rows : List RowS} {ps : Array Value} {lam tups fl : List (Addr × Obj)} {oc : Obj} {nvs : List Value} {x : Str} {t : Tok}
    (hr : rs[i]? = some r) (m1 : m (Str.ofString "rows") = some (.ref RW)) (m2 : ∃ t, m (Str.ofString "stop") = some (.int stop t)) (m3 : m (Str.ofString "asked") = some (.ref AK)) (m4 : m (Str.ofString "notes") = some (.ref NB))
    (hc : oc.data = .cell (some (.ref B))) (G : GoodRows rows) (hlen : rows.length ≤ i + 1) (hR : RowsIn tups rows) (hits : ∀ r ∈ rows, r.its.length ≤ i + 1 + 1) (hs : saysOf rows = stepB (decide (stop ≤ i)) (bookTo rs stop i) r)
    (hn : DatAll [] nvs (((rs.take i).map noteS).map .str)) (hx : x = noteS r) (ht : ∀ q ∈ tups, q.2.cls = .type "tuple" ∧ ∃ vs n, q.2.data = .seq vs n) (hst : Stands g B lam (decide (stop ≤ i)) fs fp) (hto : TabOk g lam ps) (hli : ∀ q ∈ lam, Inert q.2) (hfl : FlOk l h₀ fl) :
    RunJ w l g h₀ RW AK B d NB cb rs stop (decide (stop < i + 1)) (i + 1) m (runLed w B d cb NB fs fp ep rows ps lam oc (nvs ++ [.str x t]) nn tups fl) := by
  refine ⟨m1, m2, m3, m4, ep, fs, fp, rows, nn, nvs ++ [.str x t], ps, lam, tups, fl, oc, rfl, hc, G, hlen, hR, hits, ?_, ?_, ht, ?_, hto, hli, hfl⟩
  · rw [bookTo_succ hr]; exact hs
  · rw [notes_succ hr, ← hx]; exact datAll_snoc (.str _ _) hn
  · have e : decide (stop < i + 1) = decide (stop ≤ i) := by simp [Nat.lt_succ_iff]
    rw [e]; exact hst
abbrev tupsOf (det : List (Addr × Obj)) : List (Addr × Obj) := det.filter (fun q => q.2.cls == .type "tuple")
theorem Hit.rowsF {fs rows rows' k t a det tups} (H : Hit fs rows rows' k t a det) (M : RowsIn tups rows) : RowsIn (tupsOf det ++ tups) rows' := by
  rcases H with ⟨rfl, rfl, _⟩ | ⟨D, t1, t2, rfl, rfl, hn, rfl, ha⟩ | ⟨D, t1, t2, rfl, hfs, hn, rfl, _⟩
  · exact M.mono fun p hp => List.mem_append_right _ hp
  · exact Hit.rowsIn (.inr (.inl ⟨D, t1, t2, rfl, rfl, hn, rfl, ha⟩)) M
  · exact M.mono fun p hp => List.mem_append_right _ hp
theorem Hit.dets {fs rows rows' k t a det} (H : Hit fs rows rows' k t a det) : ∀ q ∈ tupsOf det, q.2.cls = .type "tuple" ∧ ∃ vs n, q.2.data = .seq vs n := by
  intro q hq
  obtain ⟨h1, h2⟩ := List.mem_filter.mp hq
  refine ⟨by simpa using h2, ?_⟩
  rcases H with ⟨rfl, rfl, _⟩ | ⟨D, t1, t2, rfl, rfl, hn, rfl, ha⟩ | ⟨D, t1, t2, rfl, hfs, hn, rfl, _⟩
  · cases h1
  · rw [List.mem_singleton.mp h1]; exact ⟨_, _, rfl⟩
  · rcases List.mem_cons.mp h1 with rfl | h1
    · exact ⟨_, _, rfl⟩
    · rw [List.mem_singleton.mp h1]; exact ⟨_, _, rfl⟩
theorem Hit.its {fs rows rows' k t a det} (H : Hit fs rows rows' k t a det) {n : Nat} (hn : 1 ≤ n) (h : ∀ r ∈ rows, r.its.length ≤ n) : ∀ r ∈ rows', r.its.length ≤ n := by
  rcases H with ⟨_, rfl, _⟩ | ⟨D, t1, t2, _, rfl, _, rfl, ha⟩ | ⟨D, t1, t2, _, hfs, _, rfl, _⟩
  · exact h
  · intro r hr
    rcases List.mem_append.mp hr with hr | hr
    · exact h r hr
    · rw [List.mem_singleton.mp hr]; exact hn
  · exact h
/-- the list that a look gave stands in the ledger -/
theorem Hit.obj {w : World} {fs rows rows' k t a det} (H : Hit fs rows rows' k t a det) {B d : Addr} {fp ep : Nat} {rest : List (Addr × Obj)} : ∃ vs n, (a, listObj vs n) ∈ bookNews w B d fs fp ep rows' ++ (det ++ rest) := by
  rcases H with ⟨_, rfl, r, hr, rfl⟩ | ⟨D, t1, t2, _, rfl, _, rfl, ha⟩ | ⟨D, t1, t2, rfl, hfs, _, rfl, _⟩
  · exact ⟨_, _, List.mem_append_left _ (.tail _ (.tail _ (List.mem_map_of_mem (f := RowS.obj) (findR_mem hr).1)))⟩
  · exact ⟨_, _, List.mem_append_left _ (.tail _ (.tail _ (List.mem_map_of_mem (f := RowS.obj) (a := newRow k t a D) (List.mem_append_right _ (.head _)))))⟩
  · exact ⟨_, _, List.mem_append_right _ (.head _)⟩
theorem its_push {k : Str} {v : Value} {p : Int × Int} {rows : List RowS} {n : Nat} (h : ∀ r ∈ rows, r.its.length ≤ n) : ∀ r ∈ rows.map (pushR k v p), r.its.length ≤ n + 1 := by
  intro r hr
  obtain ⟨r', hr', rfl⟩ := List.mem_map.mp hr
  have := h r' hr'
  unfold pushR
  split
  · simp; exact this
  · omega
/-- a ledger behind a look, in the order of a run's -/
theorem look_led {g h : Heap} {L : Addr} {w : World} {B d cb NB : Addr} {fs : List DictEntry} {fp ep : Nat} {rows : List RowS} {ps : Array Value} {lam tups tl det : List (Addr × Obj)} {x y : Addr × Obj} {oc : Obj} {nvs : List Value} {nn : Nat}
    (N : News g L h (bookNews w B d fs fp ep rows ++ (det ++ (x :: y :: ((100, tabObj ps) :: (lam ++ ((cb, oc) :: (NB, listObj nvs.toArray nn) :: (tups ++ tl)))))))) : News g L h (x :: y :: runLed w B d cb NB fs fp ep rows ps lam oc nvs nn (tupsOf det ++ tups) tl) := news_sub N fun p hp => by
  unfold runLed at hp
  simp only [List.mem_append, List.mem_cons] at hp ⊢
  rcases hp with h | h | h | h | h | h | h | h | h
  · exact .inr (.inr (.inl h))
  · exact .inr (.inr (.inr (.inl h)))
  · exact .inl h
  · exact .inr (.inr (.inr (.inr (.inl h))))
  · exact .inr (.inr (.inr (.inr (.inr (.inl h)))))
  · exact .inr (.inr (.inr (.inr (.inr (.inr (.inl h))))))
  · exact .inr (.inr (.inr (.inr (.inr (.inr (.inr (.inl h)))))))
  · rcases h with h | h
    · exact .inr (.inl (List.mem_filter.mp h).1)
    · exact .inr (.inr (.inr (.inr (.inr (.inr (.inr (.inr (.inl h))))))))
  · exact .inr (.inr (.inr (.inr (.inr (.inr (.inr (.inr (.inr h))))))))
theorem look_pre {g h : Heap} {L : Addr} {x y : Addr × Obj} {bk tl : List (Addr × Obj)} (N : News g L h (x :: y :: (bk ++ tl))) : News g L h (bk ++ (x :: y :: tl)) := news_sub N fun p hp => by
  simp only [List.mem_append, List.mem_cons] at hp ⊢
  rcases hp with h | h | h | h
  · exact .inr (.inr (.inl h))
  · exact .inl h
  · exact .inr (.inl h)
  · exact .inr (.inr (.inr h))
theorem look_led2 {g h : Heap} {L : Addr} {w : World} {B d cb NB : Addr} {fs : List DictEntry} {fp ep : Nat} {rows : List RowS} {ps : Array Value} {lam tups tl dt : List (Addr × Obj)} {x y z : Addr × Obj} {oc : Obj} {nvs : List Value} {nn : Nat}
    (N : News g L h (bookNews w B d fs fp ep rows ++ (z :: (dt ++ (x :: y :: ((100, tabObj ps) :: (lam ++ ((cb, oc) :: (NB, listObj nvs.toArray nn) :: (tups ++ tl))))))))) : News g L h (runLed w B d cb NB fs fp ep rows ps lam oc nvs nn (z :: (dt ++ tups)) tl) := news_sub N fun p hp => by
  unfold runLed at hp
  simp only [List.mem_append, List.mem_cons, List.cons_append] at hp ⊢
  rcases hp with h | h | h | h | h | h | h | h | (h | h) | h
  · exact .inl h
  · exact .inr (.inl h)
  · exact .inr (.inr (.inl h))
  · exact .inr (.inr (.inr (.inr (.inr (.inr (.inr (.inl h)))))))
  · exact .inr (.inr (.inr (.inr (.inr (.inr (.inr (.inr (.inl h))))))))
  · exact .inr (.inr (.inr (.inr (.inr (.inr (.inr (.inr (.inr (.inl h)))))))))
  · exact .inr (.inr (.inr (.inr (.inr (.inr (.inr (.inr (.inr (.inr (.inl h))))))))))
  · exact .inr (.inr (.inr (.inl h)))
  · exact .inr (.inr (.inr (.inr (.inl h))))
  · exact .inr (.inr (.inr (.inr (.inr (.inr (.inr (.inr (.inr (.inr (.inr (.inl h)))))))))))
  · exact .inr (.inr (.inr (.inr (.inr (.inr (.inr (.inr (.inr (.inr (.inr (.inr h)))))))))))
end Mine
end
section
open PySem PySem.W PyProof.Rows PySem.Spec
open PyProof.Rows.LCg PyProof.Rows.LCt
set_option Elab.async false
set_option maxRecDepth 100000
set_option maxHeartbeats 4000000
namespace Mine
section
variable {prog : Program} {w : World} {A : Around} {s : Shared} {h₀ : Heap} {L : Addr} {m : Str → Option Value} {env : Env}
theorem compEnd_mono {s₁ s' : Shared} {I C D : Addr} {oI oC oD : Obj} {S : List (Addr × Obj) → Prop} {K K' : Value → List (Addr × Obj) → Prop} {y : Value} (h : CompEnd h₀ L m s₁ I oI C oC D oD S K y s') (hk : ∀ news, K y news → K' y news) : CompEnd h₀ L m s₁ I oI C oC D oD S K' y s' := by
  obtain ⟨h₄, tk₄, news₄, e, F₄, N₄, off₄, hS₄, R₄⟩ := h
  exact ⟨h₄, tk₄, news₄, e, F₄, N₄, off₄, hS₄, hk _ R₄⟩
/-- a comprehension with one test, by an invariant of one's own -/
theorem compT_ind {ct elt : Expr} {x : Str} {scope : Scope} {cl : List (Str × Addr)} {S : List (Addr × Obj) → Prop} {P : Nat → Value → Prop} {Fin : List Value → List (Addr × Obj) → Prop} {n : Nat} (Inv : Nat → List Value → List (Addr × Obj) → Prop)
    (hfin : ∀ ys news, Inv n ys news → Fin ys news)
    (turn : ∀ i ys news, i < n → Inv i ys news → ∀ v I oI C oC D m₂ h tk (E' : Value → Shared → Prop), P i v → NsObj oC m₂ → m₂ x = some v → Fr h₀ L h m → News h₀ L h ((I, oI) :: (C, oC) :: (D, lst ys) :: news) → Off3 I C D news → ((@Ne Nat I C) ∧ (@Ne Nat I D) ∧ (@Ne Nat C D)) →
      wpAny (model prog w) A (isTrue ct (compEnvC scope cl C env) (eval ct (compEnvC scope cl C env))) (fun ok s' => if ok = true then
        wpAny (model prog w) A (eval elt (compEnvC scope cl C env)) (CompEnd h₀ L m { s with heap := h, toks := tk } I oI C oC D (lst ys) S (fun y news' => Inv (i + 1) (ys ++ [y]) news')) E' s'
        else CompEnd h₀ L m { s with heap := h, toks := tk } I oI C oC D (lst ys) S (fun _ news' => Inv (i + 1) ys news') Value.none s') E' { s with heap := h, toks := tk }) :
    ∀ j i ys news, i + j = n → Inv i ys news → CompRestT prog w A h₀ L m env ct elt x scope cl s S P Fin j i ys news := by
  intro j
  induction j with
  | zero => intro i ys news hij hI; exact .zero (hfin ys news (by rw [← hij]; exact hI))
  | succ j ih =>
    intro i ys news hij hI
    refine .succ fun v I oI C oC D m₂ h tk E' hP hC hx F N off ne => wpAny_mono (turn i ys news (by omega) hI v I oI C oC D m₂ h tk E' hP hC hx F N off ne) (fun ok s' z => ?_) fun _ _ z => z
    cases ok with
    | true =>
      simp only [if_true] at z ⊢
      exact wpAny_mono z (fun y s'' z' => compEnd_mono z' fun news' q => ih (i + 1) (ys ++ [y]) news' (by omega) q) fun _ _ z => z
    | false =>
      simp only [Bool.false_eq_true, if_false] at z ⊢
      exact compEnd_mono z fun news' q => ih (i + 1) ys news' (by omega) q
end
section
variable {prog : Program} {w : World} {A : Around} {E : Value → Shared → Prop} {s : Shared} {value slice : Expr} {p : Addr} {a b c : Value} {n : Nat} {t : Tok} {Q : Value → Shared → Prop}
theorem sub3_1 {i : Int} (hi : i = 1) (ho : s.heap.get? p = some ⟨.type "tuple", none, .seq #[a, b, c] n, #[]⟩) (hs : subscripted slice false (.ref p) (.int i t) = operate [.ref p, .int i t] (getItem (.ref p) (.int i t))) (h : Q b s) : wpAny (model prog w) A (subscriptTail value slice (.ref p) (.int i t)) Q E s := by
  subst hi
  exact sub_tup (j := 1) ho (by decide) (by decide) rfl rfl hs h
theorem sub3_2 {i : Int} (hi : i = 2) (ho : s.heap.get? p = some ⟨.type "tuple", none, .seq #[a, b, c] n, #[]⟩) (hs : subscripted slice false (.ref p) (.int i t) = operate [.ref p, .int i t] (getItem (.ref p) (.int i t))) (h : Q c s) : wpAny (model prog w) A (subscriptTail value slice (.ref p) (.int i t)) Q E s := by
  subst hi
  exact sub_tup (j := 2) ho (by decide) (by decide) rfl rfl hs h
end
section
variable {s₁ : Shared} {h₀ : Heap} {L : Addr} {m : Str → Option Value} {I C D t : Addr} {oI oC oD to : Obj} {S : List (Addr × Obj) → Prop} {rest : Value → List (Addr × Obj) → Prop} {c : Addr × Obj} {tups : List (Addr × Obj)} {h' : Heap} {tk : Nat}
theorem comp_end0 {v : Value} {news : List (Addr × Obj)} (F : Fr h₀ L h' m) (N : News h₀ L h' ((I, oI) :: (C, oC) :: (D, oD) :: news)) (off : Off3 I C D news) (hS : S news) (r : rest v news) :
    CompEnd h₀ L m s₁ I oI C oC D oD S rest v { s₁ with heap := h', toks := tk } := CompEnd.intro F N news (fun p hp => hp) off hS r
end
section
variable {prog : Program} {w : World} {A : Around} {s : Shared} {h₀ : Heap} {L : Addr} {m : Str → Option Value} {env : Env}
/-- a comprehension without a test, by an invariant of one's own -/
theorem compU_ind {elt : Expr} {x : Str} {scope : Scope} {cl : List (Str × Addr)} {S : List (Addr × Obj) → Prop} {P : Nat → Value → Prop} {Fin : List Value → List (Addr × Obj) → Prop} {n : Nat} (Inv : Nat → List Value → List (Addr × Obj) → Prop)
    (hfin : ∀ ys news, Inv n ys news → Fin ys news)
    (turn : ∀ i ys news, i < n → Inv i ys news → ∀ v I oI C oC D m₂ h tk (E' : Value → Shared → Prop), P i v → NsObj oC m₂ → m₂ x = some v → Fr h₀ L h m → News h₀ L h ((I, oI) :: (C, oC) :: (D, lst ys) :: news) → Off3 I C D news → ((@Ne Nat I C) ∧ (@Ne Nat I D) ∧ (@Ne Nat C D)) →
      wpAny (model prog w) A (eval elt (compEnvC scope cl C env)) (CompEnd h₀ L m { s with heap := h, toks := tk } I oI C oC D (lst ys) S (fun y news' => Inv (i + 1) (ys ++ [y]) news')) E' { s with heap := h, toks := tk }) :
    ∀ j i ys news, i + j = n → Inv i ys news → CompRest prog w A h₀ L m env elt x scope cl s S P Fin j i ys news := by
  intro j
  induction j with
  | zero => intro i ys news hij hI; exact hfin ys news (by rw [← hij]; exact hI)
  | succ j ih =>
    intro i ys news hij hI
    refine .succ fun v I oI C oC D m₂ h tk E' hP hC hx F N off ne => wpAny_mono (turn i ys news (by omega) hI v I oI C oC D m₂ h tk E' hP hC hx F N off ne) (fun y s' z => ?_) fun _ _ z => z
    exact compEnd_mono z fun news' q => ih (i + 1) (ys ++ [y]) news' (by omega) q
end
theorem comp_end2 {s₁ : Shared} {h₀ : Heap} {L : Addr} {m : Str → Option Value} {I C D t : Addr} {oI oC oD to : Obj} {S : List (Addr × Obj) → Prop} {rest : Value → List (Addr × Obj) → Prop} {h' : Heap} {tk : Nat} (pre : List (Addr × Obj)) {nn tl : List (Addr × Obj)} (F : Fr h₀ L h' m) (N : News h₀ L h' ((t, to) :: (I, oI) :: (C, oC) :: (D, oD) :: (pre ++ (nn ++ tl)))) (off : Off3 I C D (nn ++ (pre ++ tl))) (lt : @LT.lt Nat _ I t ∧ @LT.lt Nat _ C t ∧ @LT.lt Nat _ D t) (hS : S (pre ++ (t, to) :: (nn ++ tl))) (r : rest (.ref t) (pre ++ (t, to) :: (nn ++ tl))) :
    CompEnd h₀ L m s₁ I oI C oC D oD S rest (.ref t) { s₁ with heap := h', toks := tk } := by
  refine CompEnd.intro F N (pre ++ (t, to) :: (nn ++ tl)) (fun p hp => ?_) (Off3.of fun p hp => ?_) hS r
  · simp only [List.mem_cons, List.mem_append] at hp ⊢
    rcases hp with h | h | h | h | h | h | h
    · exact .inr (.inl h)
    · exact .inr (.inr (.inl h))
    · exact .inr (.inr (.inr (.inl h)))
    · exact .inr (.inr (.inr (.inr (.inl h))))
    · exact .inl h
    · exact .inr (.inr (.inr (.inr (.inr (.inl h)))))
    · exact .inr (.inr (.inr (.inr (.inr (.inr h)))))
  · rcases List.mem_append.mp hp with hp | hp
    · exact off.mem _ (List.mem_append_right _ (List.mem_append_left _ hp))
    · rcases List.mem_cons.mp hp with rfl | hp
      · exact ⟨Nat.ne_of_gt lt.1, Nat.ne_of_gt lt.2.1, Nat.ne_of_gt lt.2.2⟩
      · rcases List.mem_append.mp hp with hp | hp
        · exact off.mem _ (List.mem_append_left _ hp)
        · exact off.mem _ (List.mem_append_right _ (List.mem_append_right _ hp))
theorem comp_endN {s₁ : Shared} {h₀ : Heap} {L : Addr} {m : Str → Option Value} {I C D : Addr} {y : Value} {oI oC oD : Obj} {S : List (Addr × Obj) → Prop} {rest : Value → List (Addr × Obj) → Prop} {h' : Heap} {tk : Nat} (pre : List (Addr × Obj)) {nn tl : List (Addr × Obj)} (F : Fr h₀ L h' m) (N : News h₀ L h' ((I, oI) :: (C, oC) :: (D, oD) :: (pre ++ (nn ++ tl)))) (off : Off3 I C D (nn ++ (pre ++ tl))) (hS : S (pre ++ (nn ++ tl))) (r : rest y (pre ++ (nn ++ tl))) :
    CompEnd h₀ L m s₁ I oI C oC D oD S rest y { s₁ with heap := h', toks := tk } := by
  refine CompEnd.intro F N (pre ++ (nn ++ tl)) (fun p hp => hp) (Off3.of fun p hp => off.mem p ?_) hS r
  simp only [List.mem_append] at hp ⊢
  rcases hp with h | h | h
  · exact .inr (.inl h)
  · exact .inl h
  · exact .inr (.inr h)
theorem findR_at {rows : List RowS} (G : GoodRows rows) {r : RowS} (h : r ∈ rows) : findR rows r.k = some r := by
  cases q : findR rows r.k with
  | none => have := List.find?_eq_none.mp q r h; simp at this
  | some y =>
    obtain ⟨h1, h2⟩ := findR_mem q
    rw [nodup_inj G.keys h1 h h2]
theorem book_fsub {w : World} {A : Around} {E : Value → Shared → Prop} {s : Shared} {h₀ : Heap} {L : Addr} {m : Str → Option Value} {B d : Addr} {fs : List DictEntry} {fp ep : Nat} {rows : List RowS} {rest : List (Addr × Obj)} {value slice : Expr} {k : Str} {t : Tok} {r : RowS} {Q : Value → Shared → Prop} (X : (KK w.params).In h₀) (F : Fr h₀ L s.heap m) (N : News h₀ L s.heap (bookNews w B d fs fp ep rows ++ rest)) (hr : findR rows k = some r)
    (hs : subscripted slice false (.ref B) (.str k t) = operate [.ref B, .str k t] (getItem (.ref B) (.str k t)))
    (h : Q (.ref r.a) { s with toks := s.toks + 1 }) :
    wpAny (model PySem.Challenge.rw_in0185_01.row.prog w) A (subscriptTail value slice (.ref B) (.str k t)) Q E s := by
  have X₀ := K_of_KK (X.keeps F.keep)
  revert X₀; k_fill; intro X₀
  have g1 : noSeq (hk.heap_39 w.params) 108 = true := by k_is
  have g2 : findIn (hk.heap_39 w.params) (.ref 108) "__getitem__" = some (some (.builtin "dict.__getitem__")) := by k_is
  have g3 : subIn (hk.heap_39 w.params) (.ref 108) (.type "dict") = some true := by k_is
  refine sub_book X₀ (bookAt_news N) g2 hs ?_
  exact book_found X₀ (bookAt_news N) g1 g2 g3 (by rw [look_rows, hr]; rfl) h
/-- what a look at a name gives -/
def lookS (c : Says) (k : Str) : List (Int × Int) := ((c.find? (fun x => x.1 == k)).map (·.2)).getD [(0, 7)]
theorem lookS_touch (fz : Bool) (c : Says) (k k' : Str) : lookS (touch fz c k) k' = lookS c k' := by
  unfold touch
  split
  · rfl
  · unfold lookS
    rw [List.find?_append]
    cases q : c.find? (fun x => x.1 == k') with
    | some y => rfl
    | none =>
      by_cases e : k = k'
      · simp [e]
      · simp [e]
theorem lookS_rows (rows : List RowS) (k : Str) : lookS (saysOf rows) k = ((findR rows k).map (·.its)).getD [(0, 7)] := by
  unfold lookS findR saysOf
  rw [List.find?_map]
  cases q : List.find? ((fun x => x.fst == k) ∘ fun r : RowS => (r.k, r.its)) rows with
  | none =>
    have : List.find? (fun r : RowS => r.k == k) rows = none := q
    rw [this]; rfl
  | some y =>
    have : List.find? (fun r : RowS => r.k == k) rows = some y := q
    rw [this]; rfl
theorem nodup_len : ∀ (S l : List Str), l.Nodup → (∀ x ∈ l, x ∈ S) → l.length ≤ S.length
  | S, [], _, _ => Nat.zero_le _
  | S, x :: l, hn, h => by
    rw [List.nodup_cons] at hn
    have hx := h x (.head _)
    have e := List.length_erase_of_mem hx
    have ih := nodup_len (S.erase x) l hn.2 fun y hy => (List.mem_erase_of_ne (fun (e : y = x) => hn.1 (by rw [← e]; exact hy))).mpr (h y (.tail _ hy))
    have : 0 < S.length := List.length_pos_of_mem hx
    rw [List.length_cons]
    omega
def asked5 : List Str := [Str.ofString "", Str.ofString "a", Str.ofString "b", Str.ofString "a b", Str.ofString "c"]
/-- the names in a book's state are among the five -/
def InNames (c : Says) : Prop := ∀ x ∈ c, x.1 ∈ asked5
theorem InNames.touch {c : Says} {k : Str} {fz : Bool} (h : InNames c) (hk : k ∈ asked5) : InNames (touch fz c k) := by
  unfold Mine.touch
  split
  · exact h
  · intro x hx
    rcases List.mem_append.mp hx with hx | hx
    · exact h x hx
    · rw [List.mem_singleton.mp hx]; exact hk
theorem InNames.push {c : Says} {k : Str} {p : Int × Int} (h : InNames c) : InNames (pushS c k p) := by
  intro x hx
  obtain ⟨y, hy, rfl⟩ := List.mem_map.mp hx
  split
  · exact h y hy
  · exact h y hy
theorem InNames.bookTo {rs : List Row} {stop : Nat} (hnm : ∀ r ∈ rs, ∀ n, r.name = some n → n ∈ asked5) : ∀ i, InNames (bookTo rs stop i)
  | 0 => fun x hx => nomatch hx
  | i + 1 => by
    cases hr : rs[i]? with
    | none =>
      have e : Mine.bookTo rs stop (i + 1) = Mine.bookTo rs stop i := by
        show (match rs[i]? with | none => _ | some r => _) = _
        rw [hr]
      rw [e]
      exact InNames.bookTo hnm i
    | some r =>
      rw [bookTo_succ hr]
      unfold stepB
      cases hn : r.name with
      | none => exact InNames.bookTo hnm i
      | some n =>
        have t := (InNames.bookTo (stop := stop) hnm i).touch (fz := decide (stop ≤ i)) (hnm r (List.mem_of_getElem? hr) n hn)
        cases r.place with
        | none => exact t
        | some p => exact t.push
theorem few_rows {rows : List RowS} (G : GoodRows rows) (h : InNames (saysOf rows)) : rows.length ≤ 5 := by
  have := nodup_len asked5 (rows.map (·.k)) G.keys fun x hx => by
    obtain ⟨r, hr, rfl⟩ := List.mem_map.mp hx
    exact h _ (List.mem_map_of_mem (f := fun r : RowS => (r.k, r.its)) hr)
  rw [List.length_map] at this
  exact this
def keptD (x : Str × List (Int × Int)) : Dt := .tuple [.str x.1, .list (x.2.map placeD)]
def lookD (c : Says) (k : Str) : Dt := .list ((lookS c k).map placeD)
/-- what a run gives -/
def runD (rs : List Row) (stop : Nat) : List Dt :=
  [.list ((rs.map noteS).map .str), .list ((bookTo rs stop rs.length).map keptD), .list (asked5.map (lookD (bookTo rs stop rs.length))),
   .list (((asked5.foldl (touch (decide (stop ≤ rs.length))) (bookTo rs stop rs.length)).map (·.1)).map .str)]
end Mine
end
section
open PySem PySem.W PyProof.Rows PySem.Spec
open PyProof.Rows.LCg PyProof.Rows.LCt
set_option Elab.async false
set_option maxRecDepth 100000
set_option maxHeartbeats 4000000
namespace Mine
section
variable {w : World} {A : Around} {E : Value → Shared → Prop} {s : Shared} {l : List Env} {h₀ : Heap} {L : Addr} {m : Str → Option Value} {B d : Addr} {fs : List DictEntry} {fp ep : Nat} {rows : List RowS} {rest : List (Addr × Obj)} {p : Program} {loose : List Str} {mean : ExcName → Option Value} {mg mb : Str → Option Value}
theorem book_lookF {k : Str} {t : Tok} {Q : Value → Shared → Prop} (hz : Froze s.heap B fs) (X : (KK w.params).In h₀) (T : Top p loose mean mg mb h₀) (F : Fr h₀ L s.heap m) (N : News h₀ L s.heap (bookNews w B d fs fp ep rows ++ rest)) (G : GoodRows rows) (hrest : ∀ q ∈ rest, q.1 ≠ B)
    (a1 : A.handled = none) (a2 : A.depth ≤ 500) (a3 : A.frames = some l) (a4 : A.guards = some []) (a5 : A.in1.units ≤ 3000)
    (h : ∀ a ep' h' tk rows' det, Fr h₀ L h' m → News h₀ L h' (bookNews w B d fs fp ep' rows' ++ (det ++ rest)) → Hit fs rows rows' k t a det → (∀ q ∈ det, s.heap.get? q.1 = none) → (∀ b o, b ≠ B → s.heap.get? b = some o → h'.get? b = some o) → (∀ r ∈ rows', r ∈ rows ∨ s.heap.get? r.a = none) → Q (.ref a) { s with heap := h', toks := tk }) :
    wpAny (model PySem.Challenge.rw_in0185_01.row.prog w) A (getItem (.ref B) (.str k t)) Q E s := by
  have X₀ := K_of_KK (X.keeps F.keep)
  have D := bookAt_news N
  have hB : h₀.get? B = none := (N _ (.head _)).2.2
  have hn := newR_not_sys w.params X hB
  revert X₀; k_fill; intro X₀
  have g1 : noSeq (hk.heap_39 w.params) 108 = true := by k_is
  have g2 : findIn (hk.heap_39 w.params) (.ref 108) "__getitem__" = some (some (.builtin "dict.__getitem__")) := by k_is
  have g3 : subIn (hk.heap_39 w.params) (.ref 108) (.type "dict") = some true := by k_is
  have g4 : findIn (hk.heap_39 w.params) (.ref 108) "__missing__" = some (some (.ref 98)) := by k_is
  have g5 : isFn (hk.heap_39 w.params) (.ref 98) = true := by k_is
  cases q : findR rows k with
  | some r =>
    refine book_found X₀ D g1 g2 g3 (by rw [look_rows, q]; rfl) ?_
    exact h r.a ep _ _ rows [] F N (.inl ⟨rfl, rfl, r, q, rfl⟩) (fun _ z => nomatch z) (fun _ _ _ e => e) fun r hr => .inl hr
  | none =>
    have hl : look (kvsOf rows) k = none := by rw [look_rows, q]; rfl
    refine book_missed X₀ D g1 g2 g3 g4 g5 hn hl ?_
    have none₀ : ∀ a, s.heap.get? a = none → h₀.get? a = none := fun a e => by
      cases z : h₀.get? a with
      | none => rfl
      | some o => have := F.keep _ _ z; rw [e] at this; cases this
    have neL : ∀ a, s.heap.get? a = none → a ≠ L := fun a e z => by
      obtain ⟨oL, es, ep', hL, _⟩ := F.ns
      rw [z, hL] at e; cases e
    have ra : ∀ a, s.heap.get? a = none → ∀ y ∈ rows, y.a ≠ a := fun a e y hy z => by
      have e0 : s.heap.get? y.a = some y.obj.2 := (N y.obj (List.mem_append_left _ (.tail _ (.tail _ (List.mem_map_of_mem hy))))).1
      rw [z, e] at e0; cases e0
    rcases hz with rfl | ⟨hs, t', f, rfl, hl'⟩
    · refine wpAny_call (up (miss_unfrozen (s := ⟨s.heap, _, _, _, _⟩) (X.keeps F.keep) (T.keeps F.keep) D hn hl (by rw [List.length_map]; exact Nat.le_trans G.few (by decide)) fun h' tk a D' t1 t2 M => ?_) a1 a2 a3 a4 a5)
      have F' : Fr h₀ L h' m := by
        obtain ⟨oL, es, ep', hL, hLd, hLk, hLf⟩ := F.ns
        exact ⟨⟨oL, es, ep', M.keep L oL (Ne.symm (N _ (.head _)).2.1) hL, hLd, hLk, hLf⟩, fun b o z => M.keep b o (fun y => by rw [y, hB] at z; cases z) (F.keep b o z), F.above⟩
      have hb : ∀ z, (∃ o, s.heap.get? z = some o ∧ o.cls ≠ .ref 108) → z ≠ B := fun z ⟨o, z1, z2⟩ z3 => by
        rw [z3, D.1] at z1; cases z1; exact z2 rfl
      refine h a (ep + 1) h' tk (rows ++ [newRow k t a D']) [(D', placeObj (0, 7) t1 t2)] F' ?_ (.inr (.inl ⟨D', t1, t2, rfl, rfl, q, rfl, ra a M.a0⟩)) (fun y hy => by rw [List.mem_singleton.mp hy]; exact M.d0) M.keep (fun y hy => (List.mem_append.mp hy).elim .inl fun z => .inr (by rw [List.mem_singleton.mp z]; exact M.a0))
      intro y hy
      rcases List.mem_append.mp hy with hy | hy
      · rcases List.mem_cons.mp hy with rfl | hy
        · refine ⟨?_, (N _ (.head _)).2⟩
          rw [M.book]; simp [kvsOf]
        · rcases List.mem_cons.mp hy with rfl | hy
          · exact ⟨M.keep _ _ (hb _ ⟨_, D.2, fun z => by cases z⟩) D.2, (N _ (.tail _ (.head _))).2⟩
          · rw [List.map_append] at hy
            rcases List.mem_append.mp hy with hy | hy
            · have z := N y (List.mem_append_left _ (.tail _ (.tail _ hy)))
              obtain ⟨r, _, rfl⟩ := List.mem_map.mp hy
              exact ⟨M.keep _ _ (hb _ ⟨_, z.1, fun z => by cases z⟩) z.1, z.2⟩
            · rw [List.map_cons, List.map_nil, List.mem_singleton] at hy
              subst hy
              exact ⟨M.a1, neL _ M.a0, none₀ _ M.a0⟩
      · rcases List.mem_append.mp hy with hy | hy
        · rw [List.mem_singleton.mp hy]
          exact ⟨M.d1, neL _ M.d0, none₀ _ M.d0⟩
        · have z := N y (List.mem_append_right _ hy)
          exact ⟨M.keep _ _ (hrest y hy) z.1, z.2⟩
    · refine wpAny_call (up (miss_frozen (s := ⟨s.heap, _, _, _, _⟩) (X.keeps F.keep) (T.keeps F.keep) D hl' fun h' tk a D' t1 t2 x n1 n2 d1 d2 => ?_) a1 a2 a3 a4 a5)
      refine h a ep h' tk rows [(a, listObj #[.ref D'] 0), (D', placeObj (0, 7) t1 t2)] (Fr.ext F x) ?_ (.inr (.inr ⟨D', t1, t2, rfl, rfl, q, rfl, ra a n1⟩)) (fun y hy => ?_) (fun b o _ e => x b o e) fun r hr => .inl hr
      · refine news_mid (nn := [(a, listObj #[.ref D'] 0), (D', placeObj (0, 7) t1 t2)]) F N x fun p hp => ?_
        rcases List.mem_cons.mp hp with rfl | hp
        · exact ⟨n2, n1⟩
        · rw [List.mem_singleton.mp hp]; exact ⟨d2, d1⟩
      · rcases List.mem_cons.mp hy with rfl | hy
        · exact n1
        · rw [List.mem_singleton.mp hy]; exact d1
end
theorem book_lsubF {w : World} {A : Around} {E : Value → Shared → Prop} {s : Shared} {l : List Env} {h₀ : Heap} {L : Addr} {m : Str → Option Value} {B d : Addr} {fs : List DictEntry} {fp ep : Nat} {rows : List RowS} {rest : List (Addr × Obj)} {p : Program} {loose : List Str} {mean : ExcName → Option Value} {mg mb : Str → Option Value} {value slice : Expr} {k : Str} {t : Tok} {Q : Value → Shared → Prop} (hz : Froze s.heap B fs) (X : (KK w.params).In h₀) (T : Top p loose mean mg mb h₀) (F : Fr h₀ L s.heap m) (N : News h₀ L s.heap (bookNews w B d fs fp ep rows ++ rest)) (G : GoodRows rows) (hrest : ∀ q ∈ rest, q.1 ≠ B)
    (hs : subscripted slice false (.ref B) (.str k t) = operate [.ref B, .str k t] (getItem (.ref B) (.str k t)))
    (a1 : A.handled = none) (a2 : A.depth ≤ 500) (a3 : A.frames = some l) (a4 : A.guards = some []) (a5 : A.in1.units ≤ 3000)
    (h : ∀ a ep' h' tk rows' det, Fr h₀ L h' m → News h₀ L h' (bookNews w B d fs fp ep' rows' ++ (det ++ rest)) → Hit fs rows rows' k t a det → (∀ q ∈ det, s.heap.get? q.1 = none) → (∀ b o, b ≠ B → s.heap.get? b = some o → h'.get? b = some o) → (∀ r ∈ rows', r ∈ rows ∨ s.heap.get? r.a = none) → Q (.ref a) { s with heap := h', toks := tk }) :
    wpAny (model PySem.Challenge.rw_in0185_01.row.prog w) A (subscriptTail value slice (.ref B) (.str k t)) Q E s := by
  have X₀ := K_of_KK (X.keeps F.keep)
  revert X₀; k_fill; intro X₀
  have g2 : findIn (hk.heap_39 w.params) (.ref 108) "__getitem__" = some (some (.builtin "dict.__getitem__")) := by k_is
  exact sub_book X₀ (bookAt_news N) g2 hs (book_lookF hz X T F N G hrest a1 a2 a3 a4 a5 h)
/-- the list that a look gave, its places -/
theorem Hit.list {w : World} {fs rows rows' k t a det} (H : Hit fs rows rows' k t a det) {B d : Addr} {fp ep : Nat} {rest tups : List (Addr × Obj)} (M : RowsIn tups rows) : ∃ vs n, (a, listObj vs.toArray n) ∈ bookNews w B d fs fp ep rows' ++ (det ++ rest) ∧ DatAll (det ++ tups) vs ((lookS (saysOf rows) k).map placeD) := by
  rw [lookS_rows]
  rcases H with ⟨rfl, rfl, r, hr, rfl⟩ | ⟨D, t1, t2, rfl, rfl, hn, rfl, ha⟩ | ⟨D, t1, t2, rfl, hfs, hn, rfl, _⟩
  · rw [hr]
    exact ⟨r.vs, r.n, List.mem_append_left _ (.tail _ (.tail _ (List.mem_map_of_mem (f := RowS.obj) (findR_mem hr).1))), (M r (findR_mem hr).1).1⟩
  · rw [hn]
    exact ⟨[.ref D], 0, List.mem_append_left _ (.tail _ (.tail _ (List.mem_map_of_mem (f := RowS.obj) (a := newRow k t a D) (List.mem_append_right _ (.head _))))), .cons (place_in (p := (0, 7)) (.head _)) .nil⟩
  · rw [hn]
    exact ⟨[.ref D], 0, List.mem_append_right _ (.head _), .cons (place_in (p := (0, 7)) (.tail _ (.head _))) .nil⟩
theorem lookS_fold (fz : Bool) (k : Str) : ∀ (ks : List Str) (c : Says), lookS (ks.foldl (touch fz) c) k = lookS c k
  | [], _ => rfl
  | k' :: ks, c => by rw [List.foldl_cons, lookS_fold fz k ks, lookS_touch]
theorem fold_names {fz : Bool} : ∀ {ks : List Str} {c : Says}, InNames c → (∀ k ∈ ks, k ∈ asked5) → InNames (ks.foldl (touch fz) c)
  | [], _, h, _ => h
  | k :: ks, c, h, hk => by
    rw [List.foldl_cons]
    exact fold_names (h.touch (hk k (.head _))) fun x hx => hk x (.tail _ hx)
theorem lookS_len {rows : List RowS} {n : Nat} (hn : 1 ≤ n) (h : ∀ r ∈ rows, r.its.length ≤ n) (k : Str) : (lookS (saysOf rows) k).length ≤ n := by
  rw [lookS_rows]
  cases q : findR rows k with
  | none => exact hn
  | some r => exact h r (findR_mem q).1
theorem strs_get {vs : List Value} : ∀ {ks : List Str} {i : Nat} {v : Value}, DatAll [] vs (ks.map PySem.W.Dat.str) → vs[i]? = some v → ∃ k t, v = .str k t ∧ ks[i]? = some k := by
  induction vs with
  | nil => intro ks i v _ h; simp at h
  | cons x vs ih =>
    intro ks i v h hv
    cases ks with
    | nil => cases h
    | cons k ks =>
      cases h with
      | cons h1 h2 =>
        cases i with
        | zero =>
          cases h1
          exact ⟨k, _, by simpa using hv.symm, rfl⟩
        | succ i => exact ih (ks := ks) (i := i) h2 (by simpa using hv)
theorem strs_of (rows : List RowS) : DatAll [] (rows.map fun r => Value.str r.k r.t) (((saysOf rows).map (·.1)).map PySem.W.Dat.str) := by
  induction rows with
  | nil => exact .nil
  | cons r l ih => exact .cons (.str _ _) ih
end Mine
end
section
open PySem PySem.W PyProof.Rows PySem.Spec
set_option Elab.async false
set_option maxRecDepth 100000
set_option maxHeartbeats 2000000
namespace Mine
/-- the plain law: what a run gives is what is wanted of it -/
def addN (c : List Str) (r : Row) : List Str := match r.name with
  | none => c
  | some n => if n ∈ c then c else c ++ [n]
def namesOf (rs : List Row) : List Str := rs.foldl addN []
def placesIn (rs : List Row) (n : Str) : List (Int × Int) := rs.filterMap fun r => if r.name = some n then r.place else none
def allPlaces (rs : List Row) (n : Str) : List (Int × Int) := (0, 7) :: placesIn rs n
/-- the names behind a look at the asked ones -/
def behindOf (names : List Str) (more : Bool) (ks : List Str) : List Str := ks.foldl (fun b k => if k ∈ names then b else if more then b ++ [k] else b) names
def lookedD (rs : List Row) (names : List Str) (k : Str) : Dt := .list ((if k ∈ names then allPlaces rs k else [(0, 7)]).map placeD)
def wantD (rs : List Row) (stop : Nat) : List Dt :=
  [.list ((rs.map noteS).map .str), .list ((namesOf (rs.take stop)).map fun n => .tuple [.str n, .list ((allPlaces rs n).map placeD)]), .list (asked5.map (lookedD rs (namesOf (rs.take stop)))),
   .list ((behindOf (namesOf (rs.take stop)) (decide (stop > rs.length)) asked5).map .str)]
theorem addN_sub {c : List Str} {r : Row} : ∀ x ∈ c, x ∈ addN c r := fun x hx => by
  unfold addN
  split
  · exact hx
  · split
    · exact hx
    · exact List.mem_append_left _ hx
theorem addN_self {c : List Str} {r : Row} {n : Str} (h : r.name = some n) : n ∈ addN c r := by
  unfold addN
  rw [h]
  dsimp only
  split
  · assumption
  · exact List.mem_append_right _ (.head _)
theorem fold_sub : ∀ (rs : List Row) (c : List Str), ∀ x ∈ c, x ∈ rs.foldl addN c
  | [], _, _, h => h
  | r :: rs, c, x, h => fold_sub rs (addN c r) x (addN_sub x h)
theorem fold_self : ∀ (rs : List Row) (c : List Str) {r : Row} {n : Str}, r ∈ rs → r.name = some n → n ∈ rs.foldl addN c
  | r' :: rs, c, r, n, h, hn => by
    rcases List.mem_cons.mp h with rfl | h
    · exact fold_sub rs _ _ (addN_self hn)
    · exact fold_self rs _ h hn
theorem none_here {rs : List Row} {n : Str} (h : n ∉ namesOf rs) : placesIn rs n = [] := by
  unfold placesIn
  refine List.filterMap_eq_nil_iff.mpr fun r hr => ?_
  rw [if_neg fun e => h (fold_self rs [] hr e)]
theorem names_succ {rs : List Row} {i : Nat} {r : Row} (hr : rs[i]? = some r) : namesOf (rs.take (i + 1)) = addN (namesOf (rs.take i)) r := by
  unfold namesOf
  rw [List.take_add_one, hr, Option.toList_some, List.foldl_append]
  rfl
theorem places_succ {rs : List Row} {i : Nat} {r : Row} (hr : rs[i]? = some r) (n : Str) : placesIn (rs.take (i + 1)) n = placesIn (rs.take i) n ++ (if r.name = some n then r.place else none).toList := by
  unfold placesIn
  rw [List.take_add_one, hr, Option.toList_some, List.filterMap_append]
  congr 1
theorem any_names {names : List Str} {f : Str → List (Int × Int)} {k : Str} : (names.map fun n => (n, f n)).any (fun x => x.1 == k) = decide (k ∈ names) := by
  rw [Bool.eq_iff_iff, List.any_eq_true, decide_eq_true_iff]
  constructor
  · rintro ⟨x, hx, e⟩
    obtain ⟨n, hn, rfl⟩ := List.mem_map.mp hx
    have : n = k := by simpa using e
    exact this ▸ hn
  · intro h
    exact ⟨(k, f k), List.mem_map_of_mem (f := fun n => (n, f n)) h, by simp⟩
theorem touch_names {names : List Str} {f : Str → List (Int × Int)} {k : Str} {fz : Bool} (hf : k ∉ names → f k = [(0, 7)]) : touch fz (names.map fun n => (n, f n)) k = (if k ∈ names ∨ fz = true then names else names ++ [k]).map fun n => (n, f n) := by
  unfold touch
  rw [any_names]
  by_cases h : k ∈ names
  · simp [h]
  · cases fz with
    | true => simp [h]
    | false => simp [h, hf h]
theorem push_names {names : List Str} {f : Str → List (Int × Int)} {k : Str} {p : Int × Int} : pushS (names.map fun n => (n, f n)) k p = names.map fun n => (n, if n = k then f n ++ [p] else f n) := by
  unfold pushS
  rw [List.map_map]
  refine List.map_congr_left fun n _ => ?_
  simp only [Function.comp]
  split <;> rfl
theorem book_is (rs : List Row) (stop : Nat) : ∀ i, i ≤ rs.length → bookTo rs stop i = (namesOf (rs.take (min stop i))).map fun n => (n, allPlaces (rs.take i) n)
  | 0, _ => by
    rw [Nat.min_zero]
    rfl
  | i + 1, hi => by
    obtain ⟨r, hr⟩ : ∃ r, rs[i]? = some r := ⟨rs[i], List.getElem?_eq_getElem (by omega)⟩
    have ih := book_is rs stop i (by omega)
    rw [bookTo_succ hr, ih]
    have pl : ∀ n, allPlaces (rs.take (i + 1)) n = allPlaces (rs.take i) n ++ (if r.name = some n then r.place else none).toList := fun n => by
      unfold allPlaces
      rw [places_succ hr n]; rfl
    unfold stepB
    cases hn : r.name with
    | none =>
      dsimp only
      have e1 : namesOf (rs.take (min stop (i + 1))) = namesOf (rs.take (min stop i)) := by
        by_cases q : stop ≤ i
        · rw [Nat.min_eq_left q, Nat.min_eq_left (Nat.le_succ_of_le q)]
        · rw [Nat.min_eq_right (show i ≤ stop by omega), Nat.min_eq_right (show i + 1 ≤ stop by omega), names_succ hr]
          unfold addN; rw [hn]
      rw [e1]
      refine List.map_congr_left fun n _ => ?_
      rw [pl n, hn, if_neg (by simp)]
      simp
    | some m =>
      dsimp only
      have e1 : namesOf (rs.take (min stop (i + 1))) = if m ∈ namesOf (rs.take (min stop i)) ∨ decide (stop ≤ i) = true then namesOf (rs.take (min stop i)) else namesOf (rs.take (min stop i)) ++ [m] := by
        by_cases q : stop ≤ i
        · rw [Nat.min_eq_left q, Nat.min_eq_left (Nat.le_succ_of_le q), if_pos (.inr (by simp [q]))]
        · rw [Nat.min_eq_right (show i ≤ stop by omega), Nat.min_eq_right (show i + 1 ≤ stop by omega), names_succ hr]
          unfold addN; rw [hn]
          simp [q]
      have e2 : touch (decide (stop ≤ i)) ((namesOf (rs.take (min stop i))).map fun n => (n, allPlaces (rs.take i) n)) m = (namesOf (rs.take (min stop (i + 1)))).map fun n => (n, allPlaces (rs.take i) n) := by
        by_cases q : stop ≤ i
        · rw [decide_eq_true q]
          unfold touch
          rw [Bool.or_true, if_pos rfl, e1, if_pos (.inr (by simp [q]))]
        · rw [e1]
          refine touch_names fun hm => ?_
          rw [Nat.min_eq_right (show i ≤ stop by omega)] at hm
          unfold allPlaces
          rw [none_here hm]
      rw [e2]
      cases hp : r.place with
      | none =>
        refine List.map_congr_left fun n _ => ?_
        rw [pl n, hp]
        simp
      | some p =>
        dsimp only
        rw [push_names]
        refine List.map_congr_left fun n _ => ?_
        rw [pl n, hn, hp]
        by_cases q : n = m
        · subst q; simp
        · rw [if_neg q, if_neg (fun e => q (Option.some.inj e).symm)]
          simp
theorem lookS_names {names : List Str} {f : Str → List (Int × Int)} {k : Str} : lookS (names.map fun n => (n, f n)) k = if k ∈ names then f k else [(0, 7)] := by
  unfold lookS
  rw [List.find?_map]
  induction names with
  | nil => rfl
  | cons n l ih =>
    by_cases q : n = k
    · subst q
      simp
    · rw [List.find?_cons]
      have e : ((fun x : Str × List (Int × Int) => x.1 == k) ∘ fun n => (n, f n)) n = false := by simp [q]
      rw [e]
      have e2 : (k ∈ n :: l) ↔ k ∈ l := by simp [Ne.symm q]
      simp only [e2]
      exact ih
theorem touch_true (c : Says) (k : Str) : touch true c k = c := by
  unfold touch
  rw [Bool.or_true, if_pos rfl]
theorem fold_true : ∀ (ks : List Str) (c : Says), ks.foldl (touch true) c = c
  | [], _ => rfl
  | k :: ks, c => by rw [List.foldl_cons, touch_true, fold_true ks c]
theorem touch_keys (c : Says) (k : Str) : (touch false c k).map (·.1) = if k ∈ c.map (·.1) then c.map (·.1) else c.map (·.1) ++ [k] := by
  unfold touch
  have e : c.any (fun x => x.1 == k) = decide (k ∈ c.map (·.1)) := by
    rw [Bool.eq_iff_iff, List.any_eq_true, decide_eq_true_iff]
    simp
  rw [Bool.or_false, e]
  by_cases q : k ∈ c.map (·.1)
  · rw [if_pos (by simpa using q), if_pos q]
  · rw [if_neg (by simpa using q), if_neg q]; simp
/-- names looked at one after the other, no name twice -/
theorem fold_keys (names : List Str) : ∀ (ks : List Str) (c : Says) (b : List Str), ks.Nodup → c.map (·.1) = b → (∀ k ∈ ks, k ∈ b ↔ k ∈ names) → (ks.foldl (touch false) c).map (·.1) = ks.foldl (fun b k => if k ∈ names then b else if true then b ++ [k] else b) b
  | [], _, _, _, h, _ => h
  | k :: ks, c, b, hn, h, hk => by
    rw [List.foldl_cons, List.foldl_cons]
    rw [List.nodup_cons] at hn
    refine fold_keys names ks _ _ hn.2 ?_ ?_
    · rw [touch_keys, h]
      by_cases q : k ∈ names
      · rw [if_pos q, if_pos ((hk k (.head _)).mpr q)]
      · rw [if_neg q, if_neg fun z => q ((hk k (.head _)).mp z), if_pos rfl]
    · intro x hx
      rw [← hk x (.tail _ hx)]
      split
      · exact Iff.rfl
      · simp
        intro e
        exact absurd (e ▸ hx) hn.1
theorem behind_false (names : List Str) : ∀ (ks : List Str) (b : List Str), ks.foldl (fun b k => if k ∈ names then b else if false then b ++ [k] else b) b = b
  | [], _ => rfl
  | k :: ks, b => by
    rw [List.foldl_cons]
    have : (if k ∈ names then b else if false = true then b ++ [k] else b) = b := by simp
    rw [this]
    exact behind_false names ks b
theorem plain_law (rs : List Row) (stop : Nat) : runD rs stop = wantD rs stop := by
  unfold runD wantD
  have hb := book_is rs stop rs.length (Nat.le_refl _)
  rw [List.take_length] at hb
  have hm : rs.take (min stop rs.length) = rs.take stop := by
    rw [← List.take_take, List.take_length]
  rw [hm] at hb
  rw [hb]
  refine congrArg (List.cons _) ?_
  congr 1
  · rw [List.map_map]; rfl
  congr 1
  · congr 1
    refine List.map_congr_left fun k _ => ?_
    unfold lookD lookedD
    rw [lookS_names]
  congr 1
  congr 2
  unfold behindOf
  by_cases q : stop ≤ rs.length
  · rw [decide_eq_true q, fold_true, decide_eq_false (show ¬ stop > rs.length by omega), behind_false, List.map_map]
    exact List.map_id' _
  · rw [decide_eq_false q, decide_eq_true (show stop > rs.length by omega)]
    refine fold_keys _ asked5 _ _ (by decide) ?_ fun k _ => Iff.rfl
    rw [List.map_map]
    exact List.map_id' _
end Mine
end
section
local macro_rules | `(tactic| walk_at "subscriptTail") => `(tactic| (rename PyProof.Rows.Fr _ _ _ _ => F9; first | (refine' Mine.sub3_1 ?hi ?ho ?hs ?_; (case hi => with_reducible rfl); (case ho => exact F9.keep _ _ (by assumption)); (case hs => rfl)) | (refine' Mine.sub3_2 ?hi ?ho ?hs ?_; (case hi => with_reducible rfl); (case ho => exact F9.keep _ _ (by assumption)); (case hs => rfl))))
section
open PySem PySem.W PyProof.Rows PySem.Spec
open PyProof.Rows.LCg PyProof.Rows.LCt
set_option Elab.async false
set_option maxRecDepth 100000
set_option maxHeartbeats 8000000
namespace Mine
/-- a row in a heap -/
def RowAt (h : Heap) (ra : Addr) (r : Row) : Prop := ∃ t0 v1 v2 n, h.get? ra = some ⟨.type "tuple", none, .seq #[.str r.text t0, v1, v2] n, #[]⟩ ∧
  ((r.name = none ∧ v1 = .none) ∨ ∃ m t, r.name = some m ∧ v1 = .str m t) ∧
  ((r.place = none ∧ v2 = .none) ∨ ∃ pa pt vs k, r.place = some pt ∧ v2 = .ref pa ∧ h.get? pa = some ⟨.type "tuple", none, .seq (vs : List Value).toArray k, #[]⟩ ∧ DatAll [] vs [.int pt.1, .int pt.2])
theorem RowAt.keeps {h h' : Heap} {ra : Addr} {r : Row} (x : RowAt h ra r) (k : ∀ b o, h.get? b = some o → h'.get? b = some o) : RowAt h' ra r := by
  obtain ⟨t0, v1, v2, n, e, a, b⟩ := x
  refine ⟨t0, v1, v2, n, k _ _ e, a, b.imp id ?_⟩
  rintro ⟨pa, pt, vs, j, e1, e2, e3, e4⟩
  exact ⟨pa, pt, vs, j, e1, e2, k _ _ e3, e4⟩
theorem rowAt_of {g : Heap} {rnews : List (Addr × Obj)} {rv : List Value} {rs : List Row} {i : Nat} {r : Row} (h : DatAll rnews rv (rs.map rowD)) (hg : ∀ p ∈ rnews, g.get? p.1 = some p.2) (hr : rs[i]? = some r) :
    ∃ ra, rv[i]? = some (.ref ra) ∧ RowAt g ra r := by
  obtain ⟨ra, t0, v1, v2, n, e1, e2, d1, d2⟩ := row_at h hg hr
  refine ⟨ra, e1, t0, v1, v2, n, e2, ?_, ?_⟩
  · cases hn : r.name with
    | none =>
      rw [hn] at d1
      cases d1
      exact .inl ⟨rfl, rfl⟩
    | some m =>
      rw [hn] at d1
      cases d1
      exact .inr ⟨m, _, rfl, rfl⟩
  · cases hp : r.place with
    | none =>
      rw [hp] at d2
      cases d2
      exact .inl ⟨rfl, rfl⟩
    | some pt =>
      rw [hp] at d2
      cases d2 with
      | @tuple a vs k _ hm hall =>
        refine .inr ⟨a, pt, vs, k, rfl, rfl, hg _ hm, ?_⟩
        cases hall with
        | cons h0 hall =>
          cases hall with
          | cons h1 hall =>
            cases hall
            cases h0
            cases h1
            exact .cons (.int _ _) (.cons (.int _ _) .nil)
set_option pp.deepTerms false
theorem note_ok {w : World} {l : List Env} {s : Shared} {R : Result → Shared → Prop} {p : Program} {loose : List Str} {mean : ExcName → Option Value} {mg mb : Str → Option Value} {ra : Addr} {r : Row}
    (X₁ : (KK w.params).In s.heap) (T : Top p loose mean mg mb s.heap) (hr : RowAt s.heap ra r)
    (h : ∀ h' tk t, Ext s.heap h' → R (.ok (.ret (.str (noteS r) t))) { s with heap := h', toks := tk }) :
    codeAny (model PySem.Challenge.rw_in0185_01.row.prog w) (AA 400 2500 l) (.call (.ref 244) ⟨[.ref ra], []⟩) R s := by
  have X₀ := K_of_KK X₁
  obtain ⟨t0, v1, v2, n, e0, d1, d2⟩ := hr
  revert X₀; k_fill; intro X₀
  w_top off
  refine' enterP X₀ T.nolimit ?k6 ?k7 ?k8 ?k9 ?kB ?_ ?c2 ?c3 ?c4 ?c5
  case k6 => k_is
  case k7 => k_is
  case k8 => k_room
  case k9 => exact BindsTo.of_eq rfl
  case kB => exact locs rfl
  case c2 => exact rfl
  case c3 => exact rfl
  case c4 => exact rfl
  case c5 => decide
  intro h₁ F N
  have kX := kFor F X₀
  (try dsimp only); (try k_fold)
  unfold noteS at h
  rcases d1 with ⟨hn, rfl⟩ | ⟨m, tm, hn, rfl⟩
  · rw [hn] at h
    k_steps
    rename Fr _ _ _ _ => F1
    exact h _ _ _ F1.keep
  · rw [hn] at h
    rcases d2 with ⟨hp, rfl⟩ | ⟨pa, pt, vs, k, hp, rfl, e1, e2⟩
    · rw [hp] at h
      k_steps
      rename Fr _ _ _ _ => F1
      exact h _ _ _ F1.keep
    · rw [hp] at h
      k_steps
      rename Fr _ _ _ _ => F1
      exact h _ _ _ F1.keep
end Mine
end
section
open PySem PySem.W PyProof.Rows PySem.Spec
open PyProof.Rows.LCg PyProof.Rows.LCt
set_option Elab.async false
set_option maxRecDepth 100000
set_option maxHeartbeats 8000000
namespace Mine
local macro_rules | `(tactic| walk_at "eval ListComp") => `(tactic| (k_dflt (refine LCt.ListComp_T (F₀ := by k_asm) (by with_unfolding_all rfl) (by decide) (by rfl) (by decide) (by rfl) ?_)))
set_option pp.deepTerms false
theorem places_ok {w : World} {l : List Env} {s : Shared} {R : Result → Shared → Prop} {p : Program} {loose : List Str} {mean : ExcName → Option Value} {mg mb : Str → Option Value} {RW : Addr} {rs : List Row} {rv : List Value} {rn : Nat} {rnews : List (Addr × Obj)} {k : Str} {t : Tok}
    (X₁ : (KK w.params).In s.heap) (T : Top p loose mean mg mb s.heap) (hR1 : s.heap.get? RW = some (listObj rv.toArray rn)) (hR2 : DatAll rnews rv (rs.map rowD)) (hR3 : ∀ p ∈ rnews, s.heap.get? p.1 = some p.2) (few : rs.length ≤ 8)
    (h : ∀ D h' tk, Ext s.heap h' → s.heap.get? D = none → (∃ vs n new, h'.get? D = some (listObj vs.toArray n) ∧ DatAll (new ++ rnews) vs ((allPlaces rs k).map placeD) ∧ ∀ p ∈ new, h'.get? p.1 = some p.2 ∧ s.heap.get? p.1 = none ∧ p.2.cls = .type "tuple") → R (.ok (.ret (.ref D))) { s with heap := h', toks := tk }) :
    codeAny (model PySem.Challenge.rw_in0185_01.row.prog w) (AA 400 2500 l) (.call (.ref 237) ⟨[.ref RW, .str k t], []⟩) R s := by
  have X₀ := K_of_KK X₁
  revert X₀; k_fill; intro X₀
  w_top off
  refine' enterPC X₀ T.nolimit ?k6 ?k7 ?k8 ?k9 ?kB ?kN ?_ ?c2 ?c3 ?c4
  case k6 => k_is
  case k7 => k_is
  case k8 => k_room
  case k9 => exact BindsTo.of_eq rfl
  case kB => rfl
  case kN => decide
  case c2 => exact rfl
  case c3 => exact rfl
  case c4 => exact rfl
  intro h₁ tk cells F N Y
  have kX := kFor F X₀
  obtain ⟨oc, hE, dc⟩ := CellsAre.one Y
  subst hE
  clear Y
  have dc' : oc.data = .cell (some (.str k t)) := dc
  clear dc
  (try dsimp only); (try k_fold)
  iterate 16 (first | walk1 | (dsimp only; walk1))
  rename Fr _ _ _ _ => F1
  rename News _ _ _ _ => N1
  rename_i tp0 q0 q1 l00 q2 q3
  have hRl : s.heap.IsList RW rv.toArray := ⟨_, hR1, rfl, _, rfl⟩
  have hvl : rv.length = rs.length := by rw [dat_len hR2, List.length_map]
  refine LCt.CompSrcT.base rfl F1 N1 hRl (by rw [List.size_toArray, hvl]; exact Nat.le_trans few (by decide +kernel)) fun g => ?_
  refine compT_ind (fun i ys news => news = (l00, listOf #[.ref tp0] 0) :: (tp0, tupOf [.int 0 tk, .int 7 (tk + 1)]) :: [(s.heap.objs.size + 1, oc)] ∧ DatAll rnews ys ((placesIn (rs.take i) k).map placeD)) ?fin ?turn _ 0 [] _ (Nat.zero_add _) ⟨rfl, .nil⟩
  case fin =>
    rintro ys news ⟨rfl, hI⟩
    intro D h2 tk2 F2 N2 off
    rw [List.size_toArray, hvl, List.take_length] at hI
    clear F1 N1
    refine add_lists (vs := [.ref tp0]) (ws := ys) F2 N2 ⟨_, (N2 _ (.tail _ (.head _))).1, rfl, _, rfl⟩ ⟨_, (N2 _ (.head _)).1, rfl, _, rfl⟩ ?_ ?_
    rotate_left
    · have : (placesIn rs k).length ≤ 8 := Nat.le_trans (List.length_filterMap_le _ _) few
      rw [dat_len hI, List.length_map]
      exact Nat.le_trans (show 1 + (placesIn rs k).length ≤ 9 by omega) (by decide +kernel)
    intro h3 F3 N3
    clear F2 N2
    k_steps
    rename Fr _ _ _ _ => F5
    rename News _ _ _ _ => N5
    refine h _ _ _ F5.keep (N5 _ (.head _)).2.2 ⟨_, _, [(tp0, tupOf [.int 0 tk, .int 7 (tk + 1)])], (N5 _ (.head _)).1, .cons (.tuple (vs := [.int 0 tk, .int 7 (tk + 1)]) (.head _) (.cons (.int _ _) (.cons (.int _ _) .nil))) (hI.mono fun p hp => .tail _ hp), fun p hp => ?_⟩
    rw [List.mem_singleton.mp hp]
    have z := N5 _ (.tail _ (.tail _ (.tail _ (.head _))))
    exact ⟨z.1, z.2.2, rfl⟩
  case turn =>
    rintro i ys news hlt ⟨rfl, hI⟩ v I oI C oC D m₂ h2 tk2 E' hv hC hx F2 N2 off ne
    clear F1 N1
    obtain ⟨r, hr⟩ : ∃ r, rs[i]? = some r := ⟨rs[i]'(by rw [List.size_toArray, hvl] at hlt; exact hlt), List.getElem?_eq_getElem _⟩
    obtain ⟨ra, e1, t0, v1, v2, n, e0, d1, d2⟩ := rowAt_of hR2 hR3 hr
    have hv' : v = .ref ra := by
      have z : rv[i]? = some v := by simpa using hv
      rw [e1] at z
      exact (Option.some.inj z).symm
    subst hv'
    have hpl := places_succ hr k
    rcases d1 with ⟨hn, rfl⟩ | ⟨m, tm, hn, rfl⟩
    · have hpl' : placesIn (rs.take (i + 1)) k = placesIn (rs.take i) k := by rw [hpl, hn, if_neg (by simp)]; simp
      k_steps
      rename Fr _ _ _ _ => F5
      rename News _ _ _ _ => N5
      refine comp_end0 F5 N5 off (.inl hRl) ⟨rfl, ?_⟩
      rw [hpl']
      exact hI
    · by_cases q : m = k
      · subst q
        iterate 8 (first | walk1 | (dsimp only; walk1))
        rw [show (m == m) = true by simp]
        rcases d2 with ⟨hp, rfl⟩ | ⟨pa, pt, vs, j, hp, rfl, e2, e3⟩
        · have hpl' : placesIn (rs.take (i + 1)) m = placesIn (rs.take i) m := by rw [hpl, hp]; simp
          k_steps
          rename Fr _ _ _ _ => F5
          rename News _ _ _ _ => N5
          refine comp_end0 F5 N5 off (.inl hRl) ⟨rfl, ?_⟩
          rw [hpl']
          exact hI
        · have hpl' : placesIn (rs.take (i + 1)) m = placesIn (rs.take i) m ++ [pt] := by rw [hpl, hp, if_pos hn]; rfl
          k_steps
          rename Fr _ _ _ _ => F5
          rename News _ _ _ _ => N5
          refine comp_end0 F5 N5 off (.inl hRl) ⟨rfl, ?_⟩
          rw [hpl', List.map_append]
          refine datAll_snoc ?_ hI
          obtain ⟨ra', t0', v1', v2', n', f1, f2, f3, f4⟩ := row_at hR2 hR3 hr
          rw [e1] at f1
          cases f1
          rw [e0] at f2
          cases f2
          rw [hp] at f4
          exact f4
      · have hpl' : placesIn (rs.take (i + 1)) k = placesIn (rs.take i) k := by rw [hpl, hn, if_neg fun e => q (Option.some.inj e)]; simp
        iterate 8 (first | walk1 | (dsimp only; walk1))
        rw [show (m == k) = false by simp [q]]
        k_steps
        rename Fr _ _ _ _ => F5
        rename News _ _ _ _ => N5
        refine comp_end0 F5 N5 off (.inl hRl) ⟨rfl, ?_⟩
        rw [hpl']
        exact hI
end Mine
end
section
open PySem PySem.W PyProof.Rows PySem.Spec
set_option Elab.async false
set_option maxRecDepth 100000
set_option maxHeartbeats 4000000
namespace Mine
section
variable {prog : Program} {w : World} {A : Around} {E : Value → Shared → Prop} {s : Shared} {env : Env} {h₀ : Heap} {x : Str} {body : List Stmt} {Q : Flow → Shared → Prop}
theorem iter_JC {l : Addr} {vs : List Value} {m₀ : Str → Option Value} {news : List (Addr × Obj)} (J : Nat → (Str → Option Value) → List (Addr × Obj) → Prop)
    (hni : ∀ i m n, J i m n → ∀ p ∈ n, p.2.cls ≠ .type "list_iterator" ∨ ∃ c, p.2.data = .cell c)
    (hh : A.handled = none) (hl : s.heap.IsList l vs.toArray) (hL : l ≠ env.locals) (F : Fr h₀ env.locals s.heap m₀) (N : News h₀ env.locals s.heap news) (h0 : J 0 m₀ news)
    (turn : ∀ i v m₁ news₁ s₁ own, vs[i]? = some v → J i m₁ news₁ → (∀ p ∈ own, p.1 = l ∨ ((∀ q ∈ news₁, q.1 ≠ p.1) ∧ p.2.cls = .type "list_iterator")) → Fr h₀ env.locals s₁.heap (fun y => if y = x then some v else m₁ y) → News h₀ env.locals s₁.heap (own ++ news₁) →
      wpAny (model prog w) A (execs body env) (TurnJ h₀ env.locals own (J (i + 1)) s₁) E s₁)
    (done : ∀ m' news' h tk, Fr h₀ env.locals h m' → News h₀ env.locals h news' → J vs.length m' news' → Q .next { s with heap := h, toks := tk }) :
    wpAny (model prog w) A (pyIter (.ref l)) (fun it s₂ => LoopAtU prog w A h₀ env x body Q E it s₂) E s := by
  obtain ⟨ol, hol, hlc⟩ := id hl
  have hlt : l < s.heap.objs.size := Heap.lt_size hol
  have hne : l ≠ s.heap.objs.size := Nat.ne_of_lt hlt
  have hLt := F.ns.lt
  refine wpAny_pyIter_list hl ?_
  have W := Walks.list (prog := prog) (w := w) hh s.heap.objs.size l hne vs.toArray
  have hlen : vs.toArray.size = vs.length := by simp
  rw [hlen] at W
  refine ⟨_, _, _, vs.length, _, _, m₀, news, J, rfl, W, ?_, ?_, ?_, ⟨⟨_, Heap.get?_push_size _ rfl, rfl, rfl⟩, hl.at fun o e => Heap.get?_push_of_some _ e⟩, F.push _, (fun p hp => ⟨Heap.get?_push_of_some _ (N p hp).1, (N p hp).2⟩), h0, ?_, ?_⟩
  · intro hm
    rcases List.mem_cons.mp hm with e | hm
    · exact absurd hLt (e ▸ Nat.lt_irrefl _)
    · exact hL (List.mem_singleton.mp hm).symm
  · intro b hb
    rw [List.mem_singleton.mp hb]
    exact next_is_new F
  · intro p hp hI
    exact absurd (Heap.lt_size (N p hp).1) ((List.mem_singleton.mp hI) ▸ Nat.lt_irrefl _)
  · rintro i v m₁ news₁ s₁ own hin hP hJ hoff hfp hat hown hSt F₁ N₁
    have hx : vs[i]? = some v := by simpa using hP
    obtain ⟨⟨oi, hoi, hic, hid⟩, _⟩ := hSt
    have hmem := hown s.heap.objs.size (.head _) (next_is_new F) oi hoi
    have ho : ∀ p ∈ own, p.1 = l ∨ ((∀ q ∈ news₁, q.1 ≠ p.1) ∧ p.2.cls = .type "list_iterator") := fun p hp => by
      rcases List.mem_cons.mp (hfp p hp) with e | e
      · refine .inr ⟨fun q hq z => hoff q hq (by rw [z, e]; exact .head _), ?_⟩
        have e2 := hat p hp
        rw [e, hoi] at e2
        rw [← Option.some.inj e2]; exact hic
      · exact .inl (List.mem_singleton.mp e)
    refine wpAny_mono (turn i v m₁ news₁ s₁ own hx hJ ho F₁ N₁) (fun f s₂ p => ?_) fun _ _ e => e
    obtain ⟨rfl, h', tk, m', news', rfl, F', N', hJ'⟩ := p
    refine ⟨rfl, h', tk, m', news', rfl, F', N', fun p hp hI => ?_, hJ'⟩
    have e1 := (N' p (List.mem_append_right _ hp)).1
    have e2 := (N' _ (List.mem_append_left _ hmem)).1
    rw [List.mem_singleton.mp hI, e2] at e1
    rcases hni _ _ _ hJ' p hp with z | ⟨c, z⟩
    · exact z (by rw [← Option.some.inj e1]; exact hic)
    · rw [← Option.some.inj e1, hid] at z; cases z
  · rintro h' tk m' news' F' N' _ hJ
    exact done m' news' h' tk F' N' hJ
end
theorem strs_dat : ∀ {vs : List Value} {ys : List Str}, DatAll [] vs (ys.map PySem.W.Dat.str) → StrsAre vs ys
  | _, [], h => by cases h; exact .nil
  | _, y :: ys, h => by
    cases h with
    | cons h1 h2 =>
      cases h1
      exact .cons _ _ (strs_dat h2)
theorem any_eq {ys : List Str} {k : Str} : ys.any (· == k) = decide (k ∈ ys) := by
  rw [Bool.eq_iff_iff, List.any_eq_true, decide_eq_true_iff]
  constructor
  · rintro ⟨x, hx, e⟩
    have : x = k := by simpa using e
    exact this ▸ hx
  · exact fun h => ⟨k, h, by simp⟩
theorem names_few {rs : List Row} : ∀ i, (namesOf (rs.take i)).length ≤ rs.length := fun i => by
  have key : ∀ (l : List Row) (c : List Str), (l.foldl addN c).length ≤ c.length + l.length := by
    intro l
    induction l with
    | nil => intro c; simp
    | cons r l ih =>
      intro c
      rw [List.foldl_cons]
      have h1 := ih (addN c r)
      have h2 : (addN c r).length ≤ c.length + 1 := by
        unfold addN
        split
        · omega
        · split
          · omega
          · rw [List.length_append]; simp
      rw [List.length_cons]
      omega
  have h := key (rs.take i) []
  have h2 : (rs.take i).length ≤ rs.length := by rw [List.length_take]; omega
  unfold namesOf
  simp at h ⊢
  omega
theorem dat_str {vs : List Value} : ∀ {ks : List Str} {i : Nat} {v : Value}, DatAll [] vs (ks.map PySem.W.Dat.str) → vs[i]? = some v → ∃ k t, v = .str k t ∧ ks[i]? = some k := by
  induction vs with
  | nil => intro ks i v _ h; simp at h
  | cons x vs ih =>
    intro ks i v h hv
    cases ks with
    | nil => cases h
    | cons k ks =>
      cases h with
      | cons h1 h2 =>
        cases i with
        | zero =>
          cases h1
          exact ⟨k, _, by simpa using hv.symm, rfl⟩
        | succ i => exact ih (ks := ks) (i := i) h2 (by simpa using hv)
end Mine
end
end
section
local macro_rules | `(tactic| walk_at "eval Name") => `(tactic| (k_here; (refine' PyProof.Rows.ldLoc ?k1 ?k2 ?_; (case k1 => k_asm); (case k2 => assumption); k_whole)))
local macro_rules | `(tactic| walk_at "exec Assign cons ListComp") => `(tactic| (k_here; k_dflt (refine PyProof.Rows.LCg.Assign_ListComp_U (F₀ := by k_asm) (by rfl) (by with_unfolding_all rfl) (by with_unfolding_all rfl) (by decide) (by rfl) (by decide) (by rfl) (by rfl) (by rfl) ?_)))
local macro_rules | `(tactic| walk_at "eval ListComp") => `(tactic| (k_dflt (refine PyProof.Rows.LCg.ListComp_U (F₀ := by k_asm) (by with_unfolding_all rfl) (by decide) (by rfl) (by decide) (by rfl) ?_)))
section
open PySem PySem.W PyProof.Rows PySem.Spec
open PyProof.Rows.LCg PyProof.Rows.LCt
set_option Elab.async false
set_option maxRecDepth 100000
set_option maxHeartbeats 8000000
namespace Mine
set_option pp.deepTerms false
theorem dat_any {news : List (Addr × Obj)} {vs : List Value} {ds : List Dt} (h : DatAll [] vs ds) : DatAll news vs ds := h.mono fun _ hz => by cases hz
theorem run_ok {w : World} {l : List Env} {s : Shared} {g : Heap} {R : Result → Shared → Prop} {p : Program} {loose : List Str} {mean : ExcName → Option Value} {mg mb : Str → Option Value} {RW AK : Addr} {rs : List Row} {stop : Nat} {ts : Tok}
    (GB : Base g s.heap) (X₁ : (KK w.params).In g) (T : Top p loose mean mg mb g) (h100 : g.get? 100 = none) (tab : TabE s.heap ∨ TabF s.heap) (C : FramesOk l s.heap) (hgl : ∀ a ∈ frs l, g.get? a = none)
    (hRW : At g RW (rs.map rowD)) (ok : ∀ r ∈ rs, RowOk r) (few : rs.length ≤ 8) (hnm : ∀ r ∈ rs, ∀ n, r.name = some n → n ∈ asked5) (hAK : ∃ vs n, g.get? AK = some (listObj vs.toArray n) ∧ DatAll [] vs (asked5.map .str))
    (h : ∀ h' tk a, (∀ b o, g.get? b = some o → h'.get? b = some o) → FramesUp l s.heap h' → (TabE h' ∨ TabF h') → At h' a (runD rs stop) → g.get? a = none → R (.ok (.ret (.ref a))) { s with heap := h', toks := tk }) :
    codeZ (model PySem.Challenge.rw_in0185_01.row.prog w) (AA 330 2000 l) (.call (.ref 232) ⟨[.ref RW, .int stop ts, .ref AK], []⟩) R s := by
  have X₀ := K_of_KK X₁
  revert X₀; k_fill; intro X₀
  obtain ⟨rv, rn, rnews, hR1, hR2, hR3⟩ := id hRW
  have hRlen : rv.length = rs.length := by rw [dat_len hR2, List.length_map]
  w_top off
  refine' enterZC (fun a o e => GB.stays _ _ (X₀ a o e)) (T.keeps GB.stays).nolimit ?k6 ?k7 ?k8 ?k9 ?kB ?kN ?_ ?c2 ?c3 ?c4
  case k6 => k_is
  case k7 => k_is
  case k8 => k_room
  case k9 => exact BindsTo.of_eq rfl
  case kB => rfl
  case kN => decide
  case c2 => exact rfl
  case c3 => exact rfl
  case c4 => exact rfl
  intro h₁ tk cells F N Y
  have keep₀ := F.keep
  obtain ⟨ob, hE, db⟩ := CellsAre.one Y
  subst hE
  clear Y
  have db' : ob.data = .cell none := db
  clear db
  have up₁ : FramesUp l s.heap h₁ := fun a ha o e => ⟨o.slots, keep₀ _ _ e⟩
  have tab₁ : TabE h₁ ∨ TabF h₁ := tab.imp (keep₀ _ _) fun ⟨c, a, b⟩ => ⟨c, keep₀ _ _ a, b.keeps keep₀⟩
  have Nc := news_base GB N
  replace F := GB.fr F
  clear N
  have kX := kFor F X₀
  (try dsimp only); (try k_fold)
  refine Z.execs_then ?_
  k_steps
  rename Fr _ _ _ _ => F1
  rename News _ _ _ _ => N1
  refine call_rets (upW (book_new (s := ⟨_, _, _, _, _⟩) (X₁.keeps F1.keep)) rfl (Nat.le_of_ble_eq_true rfl) rfl rfl (Nat.le_of_ble_eq_true rfl)) fun v h2 tk2 x2 hv => ?_
  obtain ⟨B, d, e, n1, n2, n3, n4, n5⟩ := hv
  subst e
  have F2 := Fr.ext F1 x2
  have lt100 : 100 < s.heap.objs.size := tab.elim (fun t => Heap.lt_size t) (fun ⟨_, t, _⟩ => Heap.lt_size t)
  have up2 : FramesUp l s.heap h2 := fun a ha o e => ⟨o.slots, x2 _ _ (keep₀ _ _ e)⟩
  obtain ⟨ps, lam, t100, tabO, Nlam, inl, fieldsl⟩ := tab_start F2 (tab₁.imp (x2 _ _) fun ⟨c, a, b⟩ => ⟨c, x2 _ _ a, b.keeps x2⟩)
  have ltfl : ∀ q ∈ flOf l h2, q.1 < s.heap.objs.size := fun q hq => by
    obtain ⟨o, _, _, e, _⟩ := C.mem (flOf_get q hq).1
    exact Heap.lt_size e
  have mcb := N1 _ (.head _)
  have nB0 : News g s.heap.objs.size h2 (bookNews w B d [] 0 0 []) := by
    have z := news_new (nn := bookNews w B d [] 0 0 []) F1 N1 x2 (fun q hq => by
      rcases List.mem_cons.mp hq with rfl | hq
      · exact ⟨n4, n1⟩
      · rw [List.mem_singleton.mp hq]; exact ⟨n5, n2⟩)
    exact fun q hq => z q (List.mem_append_left _ hq)
  have N2 : News g s.heap.objs.size h2 ((s.heap.objs.size + 1, ob) :: (bookNews w B d [] 0 0 [] ++ ((100, tabObj ps) :: (lam ++ flOf l h2)))) := fun q hq => by
    rcases List.mem_cons.mp hq with rfl | hq
    · exact ⟨x2 _ _ mcb.1, mcb.2⟩
    · rcases List.mem_append.mp hq with hq | hq
      · exact nB0 q hq
      · rcases List.mem_cons.mp hq with rfl | hq
        · exact ⟨t100, Nat.ne_of_lt lt100, h100⟩
        · rcases List.mem_append.mp hq with hq | hq
          · exact Nlam q hq
          · exact ⟨(flOf_get q hq).2, Nat.ne_of_lt (ltfl q hq), hgl _ (flOf_get q hq).1⟩
  have nBne : ∀ a, (∃ o, h₁.get? a = some o) → B ≠ a ∧ d ≠ a := fun a ⟨o, e⟩ => by
    refine ⟨fun q => ?_, fun q => ?_⟩
    · have : h₁.get? B = none := n1
      rw [q, e] at this; cases this
    · have : h₁.get? d = none := n2
      rw [q, e] at this; cases this
  have BdNot : B ∉ frs l ∧ d ∉ frs l := by
    refine ⟨fun q => ?_, fun q => ?_⟩
    · obtain ⟨o, _, _, e, _⟩ := C.mem q
      exact (nBne B ⟨o, keep₀ _ _ e⟩).1 rfl
    · obtain ⟨o, _, _, e, _⟩ := C.mem q
      exact (nBne d ⟨o, keep₀ _ _ e⟩).2 rfl
  clear F1 N1
  refine store_cell (o := ob) rfl rfl rfl F2 N2 db' (fun q hq => ?_) ?_
  · rcases List.mem_append.mp hq with hq | hq
    · rcases List.mem_cons.mp hq with rfl | hq
      · exact (nBne _ ⟨_, mcb.1⟩).1
      · rw [List.mem_singleton.mp hq]; exact (nBne _ ⟨_, mcb.1⟩).2
    · rcases List.mem_cons.mp hq with rfl | hq
      · exact Nat.ne_of_lt (Nat.lt_succ_of_lt lt100)
      · rcases List.mem_append.mp hq with hq | hq
        · intro q'
          obtain ⟨vs, hv⟩ := fieldsl q hq
          have e1 := (Nlam q hq).1
          have e2 := x2 _ _ mcb.1
          rw [q', e2] at e1
          rw [← Option.some.inj e1, db'] at hv
          cases hv
        · exact Nat.ne_of_lt (Nat.lt_succ_of_lt (ltfl q hq))
  intro h3 oc3 F3 N3 db3
  clear F2 N2
  dsimp only
  refine Z.execs_then ?_
  k_steps
  rename Fr _ _ _ _ => F4
  rename News _ _ _ _ => N4
  (try dsimp only)
  rename Addr => NB
  have N5 := start_led N4
  refine Z.execs_cons ?_
  have hRL : g.IsList RW rv.toArray := ⟨_, hR1, rfl, _, rfl⟩
  refine Z.mono (For_Z g rfl rfl ?_) (fun _ _ x => x) (fun _ _ x => x.elim)
  k_steps
  refine PySem.Calls.call_len_list (hRL.at fun o e => F4.keep _ _ e) (by rw [List.size_toArray, hRlen]; omega) ?_
  iterate 1 (first | walk1 | (dsimp only; walk1))
  refine PySem.call_range_1 ?_
  dsimp only
  refine iter_RZ (a := 0) (b := (rv.toArray.size : Int)) (n := rs.length) [] (fun i m news => RunJ w l g s.heap RW AK B d NB (s.heap.objs.size + 1) rs stop (decide (stop < i)) i m news) (fun i m n x => x.notRI) rfl (Heap.get?_push_size _ rfl) ?small ?size (F4.push _) (fun p hp => ⟨Heap.get?_push_of_some _ (N5 p hp).1, (N5 p hp).2⟩) ⟨rfl, ⟨_, rfl⟩, rfl, rfl, 0, [], 0, [], 0, [], ps, lam, [], flOf l h2, oc3, rfl, db3, ⟨by simp, by simp, by simp⟩, Nat.le_refl _, (fun r hr => nomatch hr), (fun r hr => nomatch hr), rfl, .nil, (fun q hq => nomatch hq), .inl ⟨by simp, rfl, rfl⟩, tabO, inl, fl_make C up2⟩ ?turn ?done
  case small => rw [List.size_toArray, hRlen]; exact small_range _ (by omega)
  case size => rw [List.size_toArray, hRlen]; exact size_range _ (by omega)
  case done =>
    intro m' news' h5 tk5 F5 N5 hJ
    dsimp only
    obtain ⟨m1, ⟨t2, m2⟩, m3, m4, ep, fs, fp, rows, nn, nvs, ps, lam, tups, fl, oc, rfl, hc, G, hlen, hR, hits, hs, hn, ht, hst, hto, hli, hfl⟩ := hJ
    clear F4 N4
    have N6 : News g s.heap.objs.size h5 (bookNews w B d fs fp ep rows ++ ((100, tabObj ps) :: (lam ++ ((s.heap.objs.size + 1, oc) :: (NB, listObj nvs.toArray nn) :: (tups ++ (fl ++ [])))))) := by rw [List.append_nil]; exact N5
    clear N5
    have mcell : (s.heap.objs.size + 1, oc) ∈ (bookNews w B d fs fp ep rows ++ ((100, tabObj ps) :: (lam ++ ((s.heap.objs.size + 1, oc) :: (NB, listObj nvs.toArray nn) :: (tups ++ (fl ++ [])))))) := List.mem_append_right _ (.tail _ (List.mem_append_right _ (.head _)))
    refine wpAny_execs_cons (wpAny_mono (Q := AfterIf w g s.heap.objs.size B d NB (s.heap.objs.size + 1) rows nn nvs tups (fl ++ []) oc m' { s with heap := h5, toks := tk5 } (decide (stop ≤ rs.length))) (E := fun _ _ => False) ?_ ?_ (fun _ _ x => x.elim))
    · iterate 9 (first | walk1 | (dsimp only; walk1))
      rename Fr _ _ _ _ => F6
      refine PySem.Calls.call_len_list (hRL.at fun o e => F6.keep _ _ e) (by rw [List.size_toArray, hRlen]; omega) ?_
      refine PySem.P.eq_int ?_
      have e01 : ((stop : Int) == ((rv.toArray.size : Nat) : Int)) = decide (stop = rs.length) := by
        rw [List.size_toArray, hRlen]
        by_cases q : stop = rs.length
        · simp [q]
        · rw [decide_eq_false q, beq_eq_false_iff_ne]; omega
      rw [e01]
      by_cases q : stop = rs.length
      · rw [decide_eq_true q]
        iterate 6 (first | walk1 | (dsimp only; walk1))
        rename Fr _ _ _ _ => F7
        rename News _ _ _ _ => N7
        refine ldCN N7 rfl mcell hc ?_
        rcases hst with ⟨_, rfl, rfl⟩ | ⟨z, _⟩
        · have D7 := bookAt_news (s := { s with heap := h5 }) N7
          have X7 := K_of_KK (X₁.keeps F7.keep)
          revert X7; k_fill; intro X7
          refine method_fn2 X7 (book_inst D7) (f := 105) (gid := ddga) ?m1 dga_canon ?m2 ?m3 ?m4 ?m5 ?_
          case m1 => k_is
          case m2 => k_is
          case m3 => k_is
          case m4 => k_is
          case m5 => kernel_rfl
          iterate 1 (first | walk1 | (dsimp only; walk1))
          have tf := tl_facts N7 hc hn hli ht hfl (fun q hq => nomatch hq) BdNot
          have tf2 := tl_100 N7 hc ht hfl (fun q hq => nomatch hq)
          show wpAny _ _ (call (.ref 105) [.ref B]) _ _ _
          refine freeze_led X₁ T h100 F7 N7 hto (fun z hz => ⟨(tf z (.tail _ (List.mem_append_right _ hz))).2.1, tf2 z hz⟩) hli rfl (Nat.le_of_ble_eq_true rfl) rfl rfl (Nat.le_of_ble_eq_true rfl) ?_
          intro h6 tk6 hs6 tn6 f6 ps6 lam6 F8 N8 hto8 hli8 lam8
          clear F7 N7
          iterate 1 (first | walk1 | (dsimp only; walk1))
          rename Fr _ _ _ _ => F9
          rename News _ _ _ _ => N9
          exact ⟨rfl, h6, _, ep, _, _, ps6, lam6, rfl, F9, N9, .inr ⟨by simp [q], hs6, tn6, f6, rfl, lam8⟩, hto8, hli8⟩
        · exact absurd z (by simp [q])
      · rw [decide_eq_false q]
        iterate 4 (first | walk1 | (dsimp only; walk1))
        rename Fr _ _ _ _ => F7
        rename News _ _ _ _ => N7
        have e02 : decide (stop ≤ rs.length) = decide (stop < rs.length) := by
          have : (stop ≤ rs.length) ↔ (stop < rs.length) := by omega
          simp [this]
        refine ⟨rfl, h5, _, ep, fs, fp, ps, lam, rfl, F7, N7, ?_, hto, hli⟩
        rw [e02]
        exact hst
    · rintro f s' ⟨rfl, h6, tk6, ep6, fs6, fp6, ps6, lam6, rfl, F6, N7, hst6, hto6, hli6⟩
      dsimp only
      clear hst hto hli N6 F5 mcell
      have mcell : (s.heap.objs.size + 1, oc) ∈ (bookNews w B d fs6 fp6 ep6 rows ++ ((100, tabObj ps6) :: (lam6 ++ ((s.heap.objs.size + 1, oc) :: (NB, listObj nvs.toArray nn) :: (tups ++ (fl ++ [])))))) := List.mem_append_right _ (.tail _ (List.mem_append_right _ (.head _)))
      have tf := tl_facts N7 hc hn hli6 ht hfl (fun q hq => nomatch hq) BdNot
      iterate 4 (first | walk1 | (dsimp only; walk1))
      rename Fr _ _ _ _ => F7
      rename News _ _ _ _ => N8
      first | refine ldCN N8 rfl mcell hc ?_ | (walk1; refine ldCN N8 rfl mcell hc ?_) | (walk1; walk1; refine ldCN N8 rfl mcell hc ?_) | trace_state
      (try dsimp only)
      iterate 1 (first | walk1 | (dsimp only; walk1))
      rename Fr _ _ _ _ => F3
      rename News _ _ _ _ => N3
      have IN : InNames (saysOf rows) := by rw [hs]; exact InNames.bookTo hnm _
      refine list_book (s := ⟨_, _, _, _, _⟩) (rows := rows) rfl (X₁.keeps F3.keep) (newR_not_sys w.params X₁ (N3 _ (.head _)).2.2) (Nat.le_trans (few_rows G IN) (by decide)) (bookAt_news N3) fun v h4 tk4 x4 hv => ?_
      obtain ⟨D4, n4, e4, o1, o2⟩ := hv
      subst e4
      have F4 := Fr.ext F3 x4
      have N4 := news_new (nn := [(D4, listObj (rows.map fun r => Value.str r.k r.t).toArray n4)]) F3 N3 x4 (fun p hp => by
        rw [List.mem_singleton.mp hp]; exact ⟨o2, o1⟩)
      simp only [List.cons_append, List.nil_append] at N4
      clear F3 N3
      dsimp only
      obtain ⟨P4, hP4⟩ : ∃ P4, P4 = (D4, listObj (rows.map fun r => Value.str r.k r.t).toArray n4) :: (bookNews w B d fs6 fp6 ep6 rows ++ ((100, tabObj ps6) :: (lam6 ++ ((s.heap.objs.size + 1, oc) :: (NB, listObj nvs.toArray nn) :: (tups ++ (fl ++ [])))))) := ⟨_, rfl⟩
      refine LCg.CompSrc.ledger rfl F4 N4 (.head _) (by rw [List.size_toArray, List.length_map]; exact Nat.le_trans (few_rows G IN) (by decide +kernel)) fun g4 => ?_
      refine compU_ind (fun i ys news => ∃ ex, news = P4 ++ ex ∧ DatAll (ex ++ tups) ys (((saysOf rows).take i).map keptD) ∧ ∀ q ∈ ex, q.2.cls = .type "list" ∨ q.2.cls = .type "tuple") ?fin ?cturn _ 0 [] _ (Nat.zero_add _) ⟨[], by rw [hP4]; simp, .nil, fun q hq => nomatch hq⟩
      case fin =>
        rintro ys news ⟨ex, rfl, hP, hexC⟩
        intro D h5 tk5 F5 N5 off
        clear F4 N4
        iterate 3 (first | walk1 | (dsimp only; walk1))
        rename Fr _ _ _ _ => F6
        rename News _ _ _ _ => N6
        (try dsimp only)
        obtain ⟨kv, kobj, hkobj⟩ : ∃ kv ko, kv = ys ∧ ko = lst ys := ⟨_, _, rfl, rfl⟩
        obtain ⟨K5, hK5⟩ : ∃ K5, K5 = (D, lst ys) :: (D4, listObj (rows.map fun r => Value.str r.k r.t).toArray n4) :: (((100, tabObj ps6) :: (lam6 ++ ((s.heap.objs.size + 1, oc) :: (NB, listObj nvs.toArray nn) :: (tups ++ (fl ++ []))))) ++ ex) := ⟨_, rfl⟩
        have N7 : News g s.heap.objs.size h5 (bookNews w B d fs6 fp6 ep6 rows ++ ([] ++ K5)) := news_sub N6 fun p hp => by
          rw [hK5] at hp
          rw [hP4]
          simp only [List.mem_append, List.mem_cons, List.nil_append] at hp ⊢
          rcases hp with h | h | h | h | h
          · exact .inr (.inl (.inr (.inl h)))
          · exact .inl h
          · exact .inr (.inl (.inl h))
          · exact .inr (.inl (.inr (.inr h)))
          · exact .inr (.inr h)
        have hK5B : ∀ q ∈ K5, q.1 ≠ B := by
          intro q hq
          rw [hK5] at hq
          have mB6 : (B, bookObj d ((kvsOf rows).map (entOf w)) ep6) ∈ (D, lst ys) :: (P4 ++ ex) := by rw [hP4]; exact .tail _ (.tail _ (List.mem_append_left _ (.head _)))
          rcases List.mem_cons.mp hq with rfl | hq
          · exact ne_objs N6 (.head _) mB6 fun z => by have := congrArg Obj.cls z; cases this
          · rcases List.mem_cons.mp hq with rfl | hq
            · exact ne_objs N6 (.tail _ (by rw [hP4]; exact .head _)) mB6 fun z => by have := congrArg Obj.cls z; cases this
            · rcases List.mem_append.mp hq with hq | hq
              · exact (tf q hq).1
              · refine ne_objs N6 (.tail _ (List.mem_append_right _ hq)) mB6 fun z => ?_
                have z' := congrArg Obj.cls z
                rcases hexC q hq with e | e
                · rw [e] at z'; cases z'
                · rw [e] at z'; cases z'
        obtain ⟨avs, an, hA1, hA2⟩ := hAK
        have hAsz : avs.toArray.size = 5 := by rw [List.size_toArray, dat_len hA2]; rfl
        clear N6
        refine LCg.CompSrc.base rfl F6 N7 (⟨_, hA1, rfl, _, rfl⟩ : g.IsList AK avs.toArray) (by rw [hAsz]; decide +kernel) fun g6 => ?_
        refine compU_ind (fun i zs news => ∃ ep' rows' ex2, news = bookNews w B d fs6 fp6 ep' rows' ++ (ex2 ++ K5) ∧ GoodRows rows' ∧ RowsIn (ex2 ++ tups) rows' ∧ (∀ r ∈ rows', r.its.length ≤ rs.length + 2) ∧ saysOf rows' = (asked5.take i).foldl (touch (decide (stop ≤ rs.length))) (saysOf rows) ∧ DatAll (ex2 ++ tups) zs ((asked5.take i).map (lookD (saysOf rows))) ∧ (∀ q ∈ ex2, q.1 ≠ B)) ?fin2 ?cturn2 _ 0 [] _ (Nat.zero_add _) ⟨ep6, rows, [], rfl, G, hR, (fun r hr => Nat.le_succ_of_le (hits r hr)), rfl, .nil, fun q hq => nomatch hq⟩
        case fin2 =>
          rintro zs news ⟨ep', rows', ex2, rfl, G', hR', hits', hs', hZ, hexB⟩
          intro D6 h7 tk7 F7 N8 off6
          clear F6 N7
          have mcK : (s.heap.objs.size + 1, oc) ∈ K5 := by
            rw [hK5]
            exact .tail _ (.tail _ (List.mem_append_left _ (.tail _ (List.mem_append_right _ (.head _)))))
          iterate 12 (first | walk1 | (dsimp only; walk1))
          rename Fr _ _ _ _ => F8
          rename News _ _ _ _ => N9
          first | refine ldCN N9 rfl (.tail _ (List.mem_append_right _ (List.mem_append_right _ mcK))) hc ?_ | (walk1; refine ldCN N9 rfl (.tail _ (List.mem_append_right _ (List.mem_append_right _ mcK))) hc ?_) | (walk1; walk1; refine ldCN N9 rfl (.tail _ (List.mem_append_right _ (List.mem_append_right _ mcK))) hc ?_) | (walk1; walk1; walk1; refine ldCN N9 rfl (.tail _ (List.mem_append_right _ (List.mem_append_right _ mcK))) hc ?_)
          (try dsimp only)
          iterate 1 (first | walk1 | (dsimp only; walk1))
          have IN9 : InNames (saysOf rows') := by rw [hs']; exact fold_names IN fun k hk => List.mem_of_mem_take hk
          refine list_book (s := ⟨_, _, _, _, _⟩) (rows := rows') rfl (X₁.keeps F8.keep) (newR_not_sys w.params X₁ (N9 _ (.tail _ (List.mem_append_left _ (.head _)))).2.2) (Nat.le_trans (few_rows G' IN9) (by decide)) ⟨(N9 _ (.tail _ (List.mem_append_left _ (.head _)))).1, (N9 _ (.tail _ (List.mem_append_left _ (.tail _ (.head _))))).1⟩ fun v h10 tk10 x10 hv => ?_
          obtain ⟨DL, nL, eL, o3, o4⟩ := hv
          subst eL
          have F10 := Fr.ext F8 x10
          have N10 := news_new (nn := [(DL, listObj (rows'.map fun r => Value.str r.k r.t).toArray nL)]) F8 N9 x10 (fun p hp => by
            rw [List.mem_singleton.mp hp]; exact ⟨o4, o3⟩)
          simp only [List.cons_append, List.nil_append] at N10
          clear F8 N9
          dsimp only
          iterate 2 (first | walk1 | (dsimp only; walk1))
          rename Fr _ _ _ _ => FF
          rename News _ _ _ _ => NF
          rename_i q0 q1 q2 q3
          have inK : ∀ z ∈ K5, z ∈ (DL, listObj (rows'.map fun r => Value.str r.k r.t).toArray nL) :: (D6, lst zs) :: (bookNews w B d fs6 fp6 ep' rows' ++ (ex2 ++ K5)) := fun z hz => .tail _ (.tail _ (List.mem_append_right _ (List.mem_append_right _ hz)))
          have inX : ∀ z ∈ ex2, z ∈ (DL, listObj (rows'.map fun r => Value.str r.k r.t).toArray nL) :: (D6, lst zs) :: (bookNews w B d fs6 fp6 ep' rows' ++ (ex2 ++ K5)) := fun z hz => .tail _ (.tail _ (List.mem_append_right _ (List.mem_append_left _ hz)))
          have k100 : (100, tabObj ps6) ∈ K5 := by rw [hK5]; exact .tail _ (.tail _ (List.mem_append_left _ (.head _)))
          have klam : ∀ z ∈ lam6, z ∈ K5 := fun z hz => by rw [hK5]; exact .tail _ (.tail _ (List.mem_append_left _ (.tail _ (List.mem_append_left _ hz))))
          have kNB : (NB, listObj nvs.toArray nn) ∈ K5 := by rw [hK5]; exact .tail _ (.tail _ (List.mem_append_left _ (.tail _ (List.mem_append_right _ (.tail _ (.head _))))))
          have ktup : ∀ z ∈ tups, z ∈ K5 := fun z hz => by rw [hK5]; exact .tail _ (.tail _ (List.mem_append_left _ (.tail _ (List.mem_append_right _ (.tail _ (.tail _ (List.mem_append_left _ hz)))))))
          have kfl : ∀ z ∈ fl, z ∈ K5 := fun z hz => by rw [hK5]; exact .tail _ (.tail _ (List.mem_append_left _ (.tail _ (List.mem_append_right _ (.tail _ (.tail _ (List.mem_append_right _ (List.mem_append_left _ hz))))))))
          have kex : ∀ z ∈ ex, z ∈ K5 := fun z hz => by rw [hK5]; exact .tail _ (.tail _ (List.mem_append_right _ hz))
          have kD : (D, lst ys) ∈ K5 := by rw [hK5]; exact .head _
          have gt : ∀ z ∈ (DL, listObj (rows'.map fun r => Value.str r.k r.t).toArray nL) :: (D6, lst zs) :: (bookNews w B d fs6 fp6 ep' rows' ++ (ex2 ++ K5)), _ := fun z hz => NF z (.tail _ hz)
          refine h _ _ _ FF.keep (fl_up hfl fun z hz => (gt z (inK z (kfl z hz))).1) (hto6.tab FF.keep (fun z hz => (gt z (inK z (klam z hz))).1) (gt _ (inK _ k100)).1) ?_ (NF _ (.head _)).2.2
          refine ⟨[.ref NB, .ref D, .ref D6, .ref DL], 0, (DL, listObj (rows'.map fun r => Value.str r.k r.t).toArray nL) :: (D6, lst zs) :: (bookNews w B d fs6 fp6 ep' rows' ++ (ex2 ++ K5)), (NF _ (.head _)).1, ?_, fun z hz => (gt z hz).1⟩
          rw [List.take_length] at hn
          rw [List.size_toArray, List.length_map, List.take_of_length_le (by rw [List.length_map]; exact Nat.le_refl _)] at hP
          rw [hAsz] at hs' hZ
          rw [hs] at hP hZ hs'
          refine .cons (.list (inK _ kNB) (dat_any hn)) (.cons (.list (inK _ kD) (hP.mono fun z hz => ?_)) (.cons (.list (.tail _ (.head _)) (hZ.mono fun z hz => ?_)) (.cons (.list (.head _) ?_) .nil)))
          · exact (List.mem_append.mp hz).elim (fun q => inK z (kex z q)) fun q => inK z (ktup z q)
          · exact (List.mem_append.mp hz).elim (fun q => inX z q) fun q => inK z (ktup z q)
          · have e := strs_of rows'
            rw [hs'] at e
            exact dat_any e
        case cturn2 =>
          rintro i zs news hlt ⟨ep', rows', ex2, rfl, G', hR', hits', hs', hZ, hexB⟩ v I oI C oC D2 m₂ h7 tk7 E' hv hC hx F8 N8 off ne
          clear F6 N7
          obtain ⟨k, tt, rfl, hk⟩ := strs_get hA2 (by simpa using hv)
          have mcK : (s.heap.objs.size + 1, oc) ∈ K5 := by
            rw [hK5]
            exact .tail _ (.tail _ (List.mem_append_left _ (.tail _ (List.mem_append_right _ (.head _)))))
          iterate 2 (first | walk1 | (dsimp only; walk1))
          rename Fr _ _ _ _ => F9
          rename News _ _ _ _ => N9
          refine kcf_cell N9 (by rfl) (.tail _ (.tail _ (.tail _ (List.mem_append_right _ (List.mem_append_right _ mcK))))) hc ?_
          iterate 1 (first | walk1 | (dsimp only; walk1))
          have N9b : News g s.heap.objs.size h7 (bookNews w B d fs6 fp6 ep' rows' ++ ((I, oI) :: (C, oC) :: (D2, lst zs) :: (ex2 ++ K5))) := news_sub N9 fun p hp => by
            simp only [List.mem_append, List.mem_cons] at hp ⊢
            rcases hp with (h | h | h) | h | h | h | h | h
            · exact .inr (.inr (.inr (.inl (.inl h))))
            · exact .inr (.inr (.inr (.inl (.inr (.inl h)))))
            · exact .inr (.inr (.inr (.inl (.inr (.inr h)))))
            · exact .inl h
            · exact .inr (.inl h)
            · exact .inr (.inr (.inl h))
            · exact .inr (.inr (.inr (.inr (.inl h))))
            · exact .inr (.inr (.inr (.inr (.inr h))))
          have offB := off.mem (B, bookObj d ((kvsOf rows').map (entOf w)) ep') (List.mem_append_left _ (.head _))
          have lamK : ∀ z ∈ lam6, z ∈ K5 := fun z hz => by
            rw [hK5]
            exact .tail _ (.tail _ (List.mem_append_left _ (.tail _ (List.mem_append_left _ hz))))
          have lamH : ∀ z ∈ lam6, h7.get? z.1 = some z.2 := fun z hz => (N9 z (.tail _ (.tail _ (.tail _ (List.mem_append_right _ (List.mem_append_right _ (lamK z hz))))))).1
          have hfz : (!fs6.isEmpty) = decide (stop ≤ rs.length) := (hst6.froze F9.keep lamH).2
          have gone : ∀ q : Addr, h7.get? q = none → ∀ z ∈ ((I, oI) :: (C, oC) :: (D2, lst zs) :: (bookNews w B d fs6 fp6 ep' rows' ++ (ex2 ++ K5))), q ≠ z.1 := fun q e z hz y => by
            have := (N9 z hz).1
            rw [← y, e] at this; cases this
          have off3 : ∀ q : Addr, h7.get? q = none → q ≠ I ∧ q ≠ C ∧ q ≠ D2 := fun q e => ⟨gone q e (I, oI) (.head _), gone q e (C, oC) (.tail _ (.head _)), gone q e (D2, lst zs) (.tail _ (.tail _ (.head _)))⟩
          refine book_lsubF (s := ⟨_, _, _, _, _⟩) (hst6.froze F9.keep lamH).1 X₁ T F9 N9b G' ?hr2 rfl rfl (Nat.le_of_ble_eq_true rfl) rfl rfl (Nat.le_of_ble_eq_true rfl) ?_
          case hr2 =>
            intro q hq
            rcases List.mem_cons.mp hq with rfl | hq
            · exact Ne.symm offB.1
            · rcases List.mem_cons.mp hq with rfl | hq
              · exact Ne.symm offB.2.1
              · rcases List.mem_cons.mp hq with rfl | hq
                · exact Ne.symm offB.2.2
                · exact (List.mem_append.mp hq).elim (hexB q) (hK5B q)
          intro a' ep8 h8 tk8 rows8 det F10 N10 H hdet keep8 fresh8
          clear F9
          dsimp only
          iterate 4 (first | walk1 | (dsimp only; walk1))
          have IN' : InNames (saysOf rows') := by rw [hs']; exact fold_names IN fun k hk => List.mem_of_mem_take hk
          obtain ⟨vsA, nA, mA, dA⟩ := H.list (w := w) (B := B) (d := d) (fp := fp6) (ep := ep8) (rest := (I, oI) :: (C, oC) :: (D2, lst zs) :: (ex2 ++ K5)) hR'
          have lA : vsA.length ≤ 500 := by
            rw [dat_len dA, List.length_map]
            have := lookS_len (n := rs.length + 2) (by omega) hits' k
            omega
          refine kba_turn (value' := PySem.Expr.Name (Str.ofString "_") ⟨0, 0, 0, 0⟩) (fun _ => rfl) ?_
          refine' kms_slice_lit (s := ⟨h8, _, _, _, _⟩) (zs := vsA) (its := vsA.toArray) ?zF ?zN ?zl ?zp ?zq ?ze ?_ ?zs ?zt ?zz
          case zF => exact F10
          case zN => exact N10
          case zl => exact ⟨_, (N10 _ mA).1, rfl, _, rfl⟩
          case zp => exact .none
          case zq => exact .none
          case zs => with_unfolding_all rfl
          case zt => intro _; with_unfolding_all rfl
          case zz => rw [List.size_toArray]; exact Nat.le_trans lA (by decide +kernel)
          case ze => simp [kms_pick, kms_lo, kms_hi]
          intro c9 h9 F11 N11 lt11
          clear F10
          dsimp only
          refine comp_endN (bookNews w B d fs6 fp6 ep8 rows8) (nn := (c9, listOf vsA.toArray 0) :: det) (tl := ex2 ++ K5) F11 (news_sub N11 ?esub) (Off3.of ?eoff) (.inl ⟨_, hA1, rfl, _, rfl⟩) ⟨ep8, rows8, (c9, listOf vsA.toArray 0) :: (det ++ ex2), by simp, H.good G' (Nat.le_trans (few_rows G' IN') (by decide)), ?c1, H.its (by omega) hits', ?c2, ?c3, ?c4⟩
          case esub =>
            intro p hp
            simp only [List.mem_cons, List.mem_append, List.cons_append] at hp ⊢
            rcases hp with h | h | h | h | h | h | h | h | h | h
            · exact .inr (.inr (.inr (.inr (.inr (.inl h)))))
            · exact .inr (.inr (.inr (.inr (.inr (.inr (.inl h))))))
            · exact .inr (.inr (.inr (.inr (.inr (.inr (.inr (.inl h)))))))
            · exact .inr (.inl h)
            · exact .inr (.inr (.inl h))
            · exact .inr (.inr (.inr (.inl h)))
            · exact .inl h
            · exact .inr (.inr (.inr (.inr (.inl h))))
            · exact .inr (.inr (.inr (.inr (.inr (.inr (.inr (.inr (.inl h))))))))
            · exact .inr (.inr (.inr (.inr (.inr (.inr (.inr (.inr (.inr h))))))))
          case eoff =>
            intro p hp
            rcases List.mem_append.mp hp with hp | hp
            · rcases List.mem_cons.mp hp with rfl | hp
              · exact ⟨Nat.ne_of_gt (lt11 (I, oI) (by simp)), Nat.ne_of_gt (lt11 (C, oC) (by simp)), Nat.ne_of_gt (lt11 (D2, lst zs) (by simp))⟩
              · exact off3 _ (hdet p hp)
            · rcases List.mem_append.mp hp with hp | hp
              · rcases List.mem_cons.mp hp with rfl | hp
                · exact offB
                · rcases List.mem_cons.mp hp with rfl | hp
                  · exact off.mem (d, dictObj fs6 fp6) (List.mem_append_left _ (.tail _ (.head _)))
                  · obtain ⟨r, hr, rfl⟩ := List.mem_map.mp hp
                    rcases fresh8 r hr with hr' | e
                    · exact off.mem r.obj (List.mem_append_left _ (.tail _ (.tail _ (List.mem_map_of_mem hr'))))
                    · exact off3 _ e
              · exact off.mem p (List.mem_append_right _ hp)
          case c1 =>
            refine (H.rowsIn hR').mono fun p hp => ?_
            simp only [List.mem_append, List.mem_cons] at hp ⊢
            rcases hp with h | h | h
            · exact .inl (.inr (.inl h))
            · exact .inl (.inr (.inr h))
            · exact .inr h
          case c2 =>
            rw [H.says, hfz, hs', List.take_add_one, hk, Option.toList_some, List.foldl_append]
            rfl
          case c3 =>
            rw [List.take_add_one, hk, Option.toList_some, List.map_append]
            refine datAll_snoc (.list (vs := vsA) (List.mem_append_left _ (.head _)) ?_) (hZ.mono ?_)
            · rw [hs', lookS_fold] at dA
              refine dA.mono fun p hp => ?_
              simp only [List.mem_append, List.mem_cons] at hp ⊢
              rcases hp with h | h | h
              · exact .inl (.inr (.inl h))
              · exact .inl (.inr (.inr h))
              · exact .inr h
            · intro p hp
              simp only [List.mem_append, List.mem_cons] at hp ⊢
              rcases hp with h | h
              · exact .inl (.inr (.inr h))
              · exact .inr h
          case c4 =>
            intro q hq
            rcases List.mem_cons.mp hq with rfl | hq
            · exact Nat.ne_of_gt (lt11 (B, bookObj d ((kvsOf rows8).map (entOf w)) ep8) (by simp))
            · rcases List.mem_append.mp hq with hq | hq
              · exact gone _ (hdet q hq) (B, bookObj d ((kvsOf rows').map (entOf w)) ep') (.tail _ (.tail _ (.tail _ (List.mem_append_left _ (.head _)))))
              · exact hexB q hq
      case cturn =>
        rintro i ys news hlt ⟨ex, rfl, hP, hexC⟩ v I oI C oC D m₂ h5 tk5 E' hv hC hx F5 N5 off ne
        clear F4 N4
        obtain ⟨r, hr, rfl⟩ : ∃ r, rows[i]? = some r ∧ v = .str r.k r.t := by
          have hv' : (rows.map fun r => Value.str r.k r.t)[i]? = some v := by simpa using hv
          rw [List.getElem?_map] at hv'
          obtain ⟨r, a1, a2⟩ := Option.map_eq_some_iff.mp hv'
          exact ⟨r, a1, a2.symm⟩
        have mc4 : (s.heap.objs.size + 1, oc) ∈ P4 := by rw [hP4]; exact .tail _ mcell
        have dcC : h5.get? (s.heap.objs.size + 1) = some oc := (N5 _ (.tail _ (.tail _ (.tail _ (List.mem_append_left _ mc4))))).1
        iterate 6 (first | walk1 | (dsimp only; walk1))
        rename Fr _ _ _ _ => F6
        rename News _ _ _ _ => N6
        refine kcf_cell N6 (by rfl) (.tail _ (.tail _ (.tail _ (List.mem_append_left _ mc4)))) hc ?_
        iterate 1 (first | walk1 | (dsimp only; walk1))
        have N6b : News g s.heap.objs.size h5 (bookNews w B d fs6 fp6 ep6 rows ++ ((100, tabObj ps6) :: (lam6 ++ ((s.heap.objs.size + 1, oc) :: (NB, listObj nvs.toArray nn) :: (tups ++ (fl ++ [])))))) := news_sub N6 fun p hp => .tail _ (.tail _ (.tail _ (List.mem_append_left _ (by rw [hP4]; exact .tail _ hp))))
        refine book_fsub X₁ F6 N6b (findR_at G (List.mem_of_getElem? hr)) rfl ?_
        dsimp only
        iterate 4 (first | walk1 | (dsimp only; walk1))
        have mrow : r.obj ∈ P4 := by rw [hP4]; exact .tail _ (List.mem_append_left _ (.tail _ (.tail _ (List.mem_map_of_mem (List.mem_of_getElem? hr)))))
        have hits5 : r.vs.length ≤ 500 := by
          obtain ⟨m1, _⟩ := hR r (List.mem_of_getElem? hr)
          rw [dat_len m1, List.length_map]
          have := hits r (List.mem_of_getElem? hr)
          omega
        refine kba_turn (value' := PySem.Expr.Name (Str.ofString "_") ⟨0, 0, 0, 0⟩) (fun _ => rfl) ?_
        refine' kms_slice_lit (zs := r.vs) (its := r.vs.toArray) ?yF ?yN ?yl ?yp ?yq ?ye ?_ ?ys ?yt ?yz
        case yF => exact F6
        case yN => exact N6
        case yl => exact ⟨_, (N6 _ (.tail _ (.tail _ (.tail _ (List.mem_append_left _ mrow))))).1, rfl, _, rfl⟩
        case yp => exact .none
        case yq => exact .none
        case ys => with_unfolding_all rfl
        case yt => intro _; with_unfolding_all rfl
        case yz => rw [List.size_toArray]; exact Nat.le_trans hits5 (by decide +kernel)
        case ye => simp [kms_pick, kms_lo, kms_hi]
        intro c6 h6 F7 N7 lt7
        clear F6 N6
        dsimp only
        iterate 2 (first | walk1 | (dsimp only; walk1))
        rename Fr _ _ _ _ => F8
        rename News _ _ _ _ => N8
        rename (@LT.lt Nat _ c6 _ ∧ _) => l8
        refine comp_end2 P4 (to := ({ cls := .type "tuple", data := .seq #[.str r.k r.t, .ref c6] } : Obj)) (nn := [(c6, listOf r.vs.toArray 0)]) (tl := ex) F8 (news_sub N8 ?esub) (Off3.of ?eoff) ⟨l8.2.1, l8.2.2.1, l8.2.2.2.1⟩ (.inr ⟨_, List.mem_append_left _ (by rw [hP4]; exact .head _), rfl, _, rfl⟩) ⟨_ :: (c6, listOf r.vs.toArray 0) :: ex, rfl, ?_, ?_⟩
        case esub =>
          intro p hp
          simp only [List.mem_cons, List.mem_append, List.cons_append, List.nil_append] at hp ⊢
          rcases hp with h | h | h | h | h | h | h
          · exact .inl h
          · exact .inr (.inr (.inl h))
          · exact .inr (.inr (.inr (.inl h)))
          · exact .inr (.inr (.inr (.inr (.inl h))))
          · exact .inr (.inr (.inr (.inr (.inr (.inl h)))))
          · exact .inr (.inl h)
          · exact .inr (.inr (.inr (.inr (.inr (.inr h)))))
        case eoff =>
          intro p hp
          rcases List.mem_append.mp hp with hp | hp
          · rw [List.mem_singleton.mp hp]
            exact ⟨Nat.ne_of_gt (lt7 _ (.head _)), Nat.ne_of_gt (lt7 _ (.tail _ (.head _))), Nat.ne_of_gt (lt7 _ (.tail _ (.tail _ (.head _))))⟩
          · exact off.mem p hp
        have e1 : (saysOf rows).take (i + 1) = (saysOf rows).take i ++ [(r.k, r.its)] := by
          rw [List.take_add_one]
          have : (saysOf rows)[i]? = some (r.k, r.its) := by
            show (rows.map fun r => (r.k, r.its))[i]? = _
            rw [List.getElem?_map, hr]; rfl
          rw [this]; rfl
        rotate_left
        · intro q hq
          rcases List.mem_cons.mp hq with rfl | hq
          · exact .inr rfl
          · rcases List.mem_cons.mp hq with rfl | hq
            · exact .inl rfl
            · exact hexC q hq
        rw [e1, List.map_append]
        refine datAll_snoc (.tuple (vs := [.str r.k r.t, .ref c6]) (.head _) (.cons (.str _ _) (.cons (.list (.tail _ (.head _)) ((hR r (List.mem_of_getElem? hr)).1.mono ?_)) .nil))) (hP.mono ?_)
        · exact fun p hp => .tail _ (.tail _ (List.mem_append_right _ hp))
        · intro p hp
          exact .tail _ (.tail _ hp)
  case turn =>
    intro i tc m₁ news₁ s₁ own hi hJ ho F5 N5
    obtain ⟨h5, gg, dd, tk5, os⟩ := s₁
    obtain ⟨m1, ⟨t2, m2⟩, m3, m4, ep, fs, fp, rows, nn, nvs, ps, lam, tups, fl, oc, rfl, hc, G, hlen, hR, hits, hs, hn, ht, hst, hto, hli, hfl⟩ := hJ
    have own_it : ∀ q ∈ own, q.2.cls = .type "range_iterator" := fun q hq => (ho q hq).elim (fun z => nomatch z) fun z => z.2.1
    have own_f : ∀ q ∈ own, q.2.cls = .type "range_iterator" ∧ ∃ vs, q.2.data = .fields vs := fun q hq => (ho q hq).elim (fun z => nomatch z) fun z => z.2
    clear F4 N4
    have N6 := turn_led N5
    clear N5
    have mcell : (s.heap.objs.size + 1, oc) ∈ (bookNews w B d fs fp ep rows ++ ((100, tabObj ps) :: (lam ++ ((s.heap.objs.size + 1, oc) :: (NB, listObj nvs.toArray nn) :: (tups ++ (fl ++ own)))))) := List.mem_append_right _ (.tail _ (List.mem_append_right _ (.head _)))
    refine Z.execs_then (wpAny_mono (Q := AfterIf w g s.heap.objs.size B d NB (s.heap.objs.size + 1) rows nn nvs tups (fl ++ own) oc (fun y => if y = Str.ofString "step" then some (Value.int (0 + (i : Int)) tc) else m₁ y) ⟨h5, gg, dd, tk5, os⟩ (decide (stop ≤ i))) (E := fun _ _ => False) ?_ ?_ (fun _ _ x => x.elim))
    · iterate 4 (first | walk1 | (dsimp only; walk1))
      refine PySem.P.eq_int ?_
      have e01 : ((0 + (i : Int)) == (stop : Int)) = decide (i = stop) := by
        by_cases q : i = stop
        · simp [q]
        · rw [decide_eq_false q, beq_eq_false_iff_ne]; omega
      rw [e01]
      by_cases q : i = stop
      · rw [decide_eq_true q]
        iterate 5 (first | walk1 | (dsimp only; walk1))
        rename Fr _ _ _ _ => F7
        rename News _ _ _ _ => N7
        refine ldCN N7 rfl mcell hc ?_
        rcases hst with ⟨_, rfl, rfl⟩ | ⟨z, _⟩
        · have D7 := bookAt_news N7
          have X7 := K_of_KK (X₁.keeps F7.keep)
          revert X7; k_fill; intro X7
          refine method_fn2 X7 (book_inst D7) (f := 105) (gid := ddga) ?m1 dga_canon ?m2 ?m3 ?m4 ?m5 ?_
          case m1 => k_is
          case m2 => k_is
          case m3 => k_is
          case m4 => k_is
          case m5 => kernel_rfl
          iterate 1 (first | walk1 | (dsimp only; walk1))
          have tf := tl_facts N7 hc hn hli ht hfl own_it BdNot
          have tf2 := tl_100 N7 hc ht hfl own_it
          show wpAny _ _ (call (.ref 105) [.ref B]) _ _ _
          refine freeze_led X₁ T h100 F7 N7 hto (fun z hz => ⟨(tf z (.tail _ (List.mem_append_right _ hz))).2.1, tf2 z hz⟩) hli rfl (Nat.le_of_ble_eq_true rfl) rfl rfl (Nat.le_of_ble_eq_true rfl) ?_
          intro h6 tk6 hs6 tn6 f6 ps6 lam6 F8 N8 hto8 hli8 lam8
          clear F7 N7
          iterate 1 (first | walk1 | (dsimp only; walk1))
          rename Fr _ _ _ _ => F9
          rename News _ _ _ _ => N9
          exact ⟨rfl, h6, _, ep, _, _, ps6, lam6, rfl, F9, N9, .inr ⟨by simp [q], hs6, tn6, f6, rfl, lam8⟩, hto8, hli8⟩
        · exact absurd z (by simp [q])
      · rw [decide_eq_false q]
        iterate 3 (first | walk1 | (dsimp only; walk1))
        rename Fr _ _ _ _ => F7
        rename News _ _ _ _ => N7
        have e02 : decide (stop ≤ i) = decide (stop < i) := by
          have : (stop ≤ i) ↔ (stop < i) := by omega
          simp [this]
        refine ⟨rfl, h5, _, ep, fs, fp, ps, lam, rfl, F7, N7, ?_, hto, hli⟩
        rw [e02]
        exact hst
    · rintro f s' ⟨rfl, h6, tk6, ep6, fs6, fp6, ps6, lam6, rfl, F6, N7, hst6, hto6, hli6⟩
      dsimp only
      refine Z.execs_cons ?_
      clear hst hto hli N6 F5 mcell
      have mcell : (s.heap.objs.size + 1, oc) ∈ (bookNews w B d fs6 fp6 ep6 rows ++ ((100, tabObj ps6) :: (lam6 ++ ((s.heap.objs.size + 1, oc) :: (NB, listObj nvs.toArray nn) :: (tups ++ (fl ++ own)))))) := List.mem_append_right _ (.tail _ (List.mem_append_right _ (.head _)))
      have tf := tl_facts N7 hc hn hli6 ht hfl own_it BdNot
      refine Z.Try ?_
      refine Z.execs_both ?_
      refine Z.Assign ?_
      refine Z.method1 ?_ (by rfl) (by rfl)
      iterate 3 (first | walk1 | (dsimp only; walk1))
      rename Fr _ _ _ _ => F8
      rename News _ _ _ _ => N8
      rename Addr => q8
      obtain ⟨r, hr⟩ : ∃ r, rs[i]? = some r := ⟨rs[i], List.getElem?_eq_getElem hi⟩
      obtain ⟨ra, t0, v1, v2, rk, hrv, hra, _, _⟩ := row_at hR2 hR3 hr
      refine Z.withKeeper rfl rfl (by show 0 < 30; decide) ?_
      iterate 5 (first | walk1 | (dsimp only; walk1))
      refine sub_lst (x := .ref ra) (hRL.at fun o e => F8.keep _ _ e) (by omega) (by omega) (by rw [show (0 + (i : Int)).toNat = i by omega]; simpa using hrv) (by rfl) ?_
      iterate 1 (first | walk1 | (dsimp only; walk1))
      refine sub_tup (F8.keep _ _ hra) (by decide) (by decide) (j := 0) rfl rfl rfl ?_
      iterate 1 (first | walk1 | (dsimp only; walk1))
      have hfn : fnIn (hk.heap_39 w.params) 197 = true := by kernel_rfl
      have X8 := X₁.keeps F8.keep
      refine ⟨keeps_M (K := hk.heap_39 w.params) hfn _ ⟨(N8 _ (.head _)).1, K_of_KK X8⟩, Z.call (Zc.meth (N8 _ (.head _)).1 (by intro id z; cases z) ?_)⟩
      have N8r := news_sub N8 (news' := runLed w B d (s.heap.objs.size + 1) NB fs6 fp6 ep6 rows ps6 lam6 oc nvs nn tups (fl ++ own)) fun z hz => .tail _ hz
      have memfl : ∀ z ∈ fl, z ∈ runLed w B d (s.heap.objs.size + 1) NB fs6 fp6 ep6 rows ps6 lam6 oc nvs nn tups (fl ++ own) := fun z hz => List.mem_append_right _ (.tail _ (List.mem_append_right _ (.tail _ (.tail _ (List.mem_append_right _ (List.mem_append_left _ hz))))))
      have C8 := (fl_up hfl fun z hz => (N8r z (memfl z hz)).1).ok C
      have okr := ok r (List.mem_of_getElem? hr)
      cases hname : r.name with
      | none =>
        obtain ⟨hlen, a, hsp⟩ : r.text.length ≤ 100 ∧ ∃ a, Txt.splitMax r.text (Str.ofString "=") 1 = [a] := by
          unfold RowOk at okr; rw [hname] at okr; exact okr
        refine upZ (parse_bad (s := ⟨_, _, _, _, _⟩) X8 (T.keeps F8.keep) ?C8 (by omega) hsp ?_) rfl (Nat.le_of_ble_eq_true rfl) rfl rfl (Nat.le_of_ble_eq_true rfl)
        case C8 => exact C8.cons (show ScopeKind.function ≠ ScopeKind.module by decide) rfl F8.ns
        intro e h9 tk9 TH
        dsimp only
        refine catch_lands rfl rfl TH fun h10 TH10 => ?_
        obtain ⟨F10, N10, hfl10⟩ := thrown_led TH10 rfl F8 N8r hc hli6 ht C hfl own_f BdNot hgl
        clear N8
        refine wpAny_handleBy_builtin te_exc te_nt te_te ?_
        iterate 1 (first | walk1 | (dsimp only; walk1))
        refine ⟨rfl, TH10.typ, ?_⟩
        rw [if_pos rfl]
        refine catch_flight TH10 fun h11 TH11 => ?_
        obtain ⟨F11, N11, hfl11⟩ := thrown_led TH11 rfl F8 N8r hc hli6 ht C hfl own_f BdNot hgl
        clear F8 N8r F10 N10 TH10 TH11
        have N11' := note_head N11
        clear N11
        iterate 9 (first | walk1 | (dsimp only; walk1))
        rename Fr _ _ _ _ => F12
        rename News _ _ _ _ => N12
        refine note_append F12 (news_sub N12 fun z hz => .tail _ hz) hc hn (by rw [List.length_map, List.length_take]; omega) hR hli6 ht hfl11 own_it ?_
        intro h12 F13 N13
        clear F12 N12
        iterate 3 (first | walk1 | (dsimp only; walk1))
        rename Fr _ _ _ _ => F14
        rename News _ _ _ _ => N14
        exact ⟨rfl, h12, _, _, _, rfl, F14, led_back N14, run_next hr m1 ⟨t2, m2⟩ m3 m4 hc G (by omega) hR (fun r hr => Nat.le_succ_of_le (hits r hr)) (by unfold stepB; rw [hname]; exact hs) hn (by unfold noteS; rw [hname]) ht hst6 hto6 hli6 hfl11⟩
      | some nm =>
        obtain ⟨hlen, a, b, hsp, hsa, hsb, hpl⟩ : r.text.length ≤ 100 ∧ ∃ a b, Txt.splitMax r.text (Str.ofString "=") 1 = [a, b] ∧ Txt.strip a = nm ∧ (Txt.strip b).length ≤ 100 ∧ match r.place with
            | none => BadPlace (Txt.strip b)
            | some p => ∃ c d, Txt.split (Txt.strip b) (Str.ofString ".") = [c, d] ∧ PySem.intText? c = some p.1 ∧ PySem.intText? d = some p.2 := by
          unfold RowOk at okr; rw [hname] at okr; exact okr
        refine Zc.of (up (parse_ok2 (s := ⟨_, _, _, _, _⟩) X8 (T.keeps F8.keep) (by omega) hsp ?_) rfl (Nat.le_of_ble_eq_true rfl) rfl rfl (Nat.le_of_ble_eq_true rfl))
        intro D d9 h9 tk9 u1 u2 x9 n1 n2 n3 n4 n5
        rw [hsa] at n4
        have F9 := Fr.ext F8 x9
        have N9 := news_new (nn := [(D, pairObj d9 nm u1 (Txt.strip b) u2), (d9, dictObj [] 0)]) F8 N8r x9 (fun z hz => by
          rcases List.mem_cons.mp hz with rfl | hz
          · exact ⟨n4, n1⟩
          · rw [List.mem_singleton.mp hz]; exact ⟨n5, n2⟩)
        simp only [List.cons_append, List.nil_append] at N9
        clear F8 N8 N8r
        dsimp only
        refine Z.of ?_
        k_steps
        (try dsimp only)
        refine Z.execs_then ?_
        iterate 2 (first | walk1 | (dsimp only; walk1))
        rename Fr _ _ _ _ => F10
        rename News _ _ _ _ => N10
        refine ldCN N10 rfl (.tail _ (.tail _ mcell)) hc ?_
        iterate 2 (first | walk1 | (dsimp only; walk1))
        refine name_get (X₁.keeps F10.keep) (T.keeps F10.keep) (N10 _ (.head _)).1 (N10 _ (.tail _ (.head _))).1 rfl (Nat.le_of_ble_eq_true rfl) rfl rfl (Nat.le_of_ble_eq_true rfl) ?_
        intro h11 tk11 x11
        have F11 := Fr.ext F10 x11
        have N11 := News.ext N10 x11
        clear F10 N10
        have N11b := look_pre (bk := bookNews w B d fs6 fp6 ep6 rows) (tl := (100, tabObj ps6) :: (lam6 ++ ((s.heap.objs.size + 1, oc) :: (NB, listObj nvs.toArray nn) :: (tups ++ (fl ++ own))))) N11
        have D11 := bookAt_news (s := { s with heap := h11 }) N11b
        have X11 := K_of_KK (X₁.keeps F11.keep)
        revert X11; k_fill; intro X11
        have g2 : findIn (hk.heap_39 w.params) (.ref 108) "__getitem__" = some (some (.builtin "dict.__getitem__")) := by k_is
        refine sub_book X11 D11 g2 (by rfl) (book_look (hst6.froze F11.keep fun z hz => (N11b z (List.mem_append_right _ (.tail _ (.tail _ (.tail _ (List.mem_append_left _ hz)))))).1).1 X₁ T F11 N11b G ?hrest rfl (Nat.le_of_ble_eq_true rfl) rfl rfl (Nat.le_of_ble_eq_true rfl) ?_)
        case hrest =>
          intro z hz
          have mz := hz
          rcases List.mem_cons.mp hz with rfl | hz
          · exact ne_objs N11b (List.mem_append_right _ mz) (.head _) fun q => by have := congrArg Obj.cls q; cases this
          · rcases List.mem_cons.mp hz with rfl | hz
            · exact ne_objs N11b (List.mem_append_right _ mz) (.head _) fun q => by have := congrArg Obj.cls q; cases this
            · exact (tf z hz).1
        intro a' ep12 h12 tk12 rows' det F12 N12 H hdet keep12
        have dd12 : ∀ z ∈ det, z.1 ≠ B ∧ z.1 ≠ d := fun z hz => by
          have e0 : h11.get? z.1 = none := hdet z hz
          refine ⟨fun q => ?_, fun q => ?_⟩
          · rw [q, D11.1] at e0; cases e0
          · rw [q, D11.2] at e0; cases e0
        clear F11 N11 N11b
        k_steps
        rename Fr _ _ _ _ => F13
        rename News _ _ _ _ => N13
        (try dsimp only)
        refine Z.execs_cons ?_
        refine Z.Expr ?_
        refine Z.method1 ?_ (by rfl) (by rfl)
        obtain ⟨vs13, n13, mobj⟩ := H.obj (w := w) (B := B) (d := d) (fp := fp6) (ep := ep12) (rest := (D, pairObj d9 nm u1 (Txt.strip b) u2) :: (d9, dictObj [] 0) :: ((100, tabObj ps6) :: (lam6 ++ ((s.heap.objs.size + 1, oc) :: (NB, listObj nvs.toArray nn) :: (tups ++ (fl ++ own))))))
        have N14 := news_sub N13 (news' := (a', listObj vs13 n13) :: (bookNews w B d fs6 fp6 ep12 rows' ++ (det ++ ((D, pairObj d9 nm u1 (Txt.strip b) u2) :: (d9, dictObj [] 0) :: ((100, tabObj ps6) :: (lam6 ++ ((s.heap.objs.size + 1, oc) :: (NB, listObj nvs.toArray nn) :: (tups ++ (fl ++ own))))))))) fun z hz => by
          rcases List.mem_cons.mp hz with rfl | hz
          · exact mobj
          · exact hz
        clear N13
        iterate 2 (first | walk1 | (dsimp only; walk1))
        rename Fr _ _ _ _ => F15
        rename News _ _ _ _ => N15
        dsimp only
        refine Z.withBuiltin1 rfl ?_
        refine Z.callName ?_
        iterate 1 (first | walk1 | (dsimp only; walk1))
        refine Z.withKeeper rfl rfl (by show 0 < 30; decide) ?_
        iterate 3 (first | walk1 | (dsimp only; walk1))
        refine value_get (X₁.keeps F15.keep) (T.keeps F15.keep) (N15 _ (.tail _ (List.mem_append_right _ (List.mem_append_right _ (.head _))))).1 (N15 _ (.tail _ (List.mem_append_right _ (List.mem_append_right _ (.tail _ (.head _)))))).1 rfl (Nat.le_of_ble_eq_true rfl) rfl rfl (Nat.le_of_ble_eq_true rfl) ?_
        intro h16 tk16 x16
        have F16 := Fr.ext F15 x16
        have N16 : News g s.heap.objs.size h16 (bookNews w B d fs6 fp6 ep12 rows' ++ (det ++ ((D, pairObj d9 nm u1 (Txt.strip b) u2) :: (d9, dictObj [] 0) :: ((100, tabObj ps6) :: (lam6 ++ ((s.heap.objs.size + 1, oc) :: (NB, listObj nvs.toArray nn) :: (tups ++ (fl ++ own)))))))) := fun z hz => News.ext N15 x16 z (.tail _ hz)
        clear F15 N15
        iterate 1 (first | walk1 | (dsimp only; walk1))
        have hk213 : keepIn (hk.heap_39 w.params) (.ref 213) = true := by kernel_rfl
        have X16 := X₁.keeps F16.keep
        refine ⟨keeps_K (K := hk.heap_39 w.params) hk213 _ (K_of_KK X16), Z.call ?_⟩
        have N16L := look_led N16
        have memfl' : ∀ z ∈ fl, h16.get? z.1 = some z.2 := fun z hz => (N16L z (.tail _ (.tail _ (List.mem_append_right _ (.tail _ (List.mem_append_right _ (.tail _ (.tail _ (List.mem_append_right _ (List.mem_append_left _ hz)))))))))).1
        have C16 := (fl_up hfl memfl').ok C
        have ht' : ∀ q ∈ tupsOf det ++ tups, q.2.cls = .type "tuple" ∧ ∃ vs n, q.2.data = .seq vs n := fun q hq => (List.mem_append.mp hq).elim (H.dets q) (ht q)
        have G' := H.good G (by omega)
        have hR' := H.rowsF hR
        have hits' := H.its (n := i + 1) (by omega) hits
        have hlen' : rows'.length ≤ i + 1 := Nat.le_trans H.len (by omega)
        have hfz : (!fs6.isEmpty) = decide (stop ≤ i) := (hst6.froze F16.keep fun z hz => (N16L z (.tail _ (.tail _ (List.mem_append_right _ (.tail _ (List.mem_append_left _ hz)))))).1).2
        have hs' : saysOf rows' = touch (decide (stop ≤ i)) (bookTo rs stop i) nm := by rw [H.says, hfz, hs]
        cases hplace : r.place with
        | none =>
          rw [hplace] at hpl
          refine upZ (glc_bad (s := ⟨_, _, _, _, _⟩) X16 (T.keeps F16.keep) ?C17 (by omega) hpl ?_) rfl (Nat.le_of_ble_eq_true rfl) rfl rfl (Nat.le_of_ble_eq_true rfl)
          case C17 => exact C16.cons (show ScopeKind.function ≠ ScopeKind.module by decide) rfl F16.ns
          intro e h17 tk17 TH
          dsimp only
          refine catch_lands rfl rfl TH fun h18 TH18 => ?_
          have N16r := news_sub N16L (news' := runLed w B d (s.heap.objs.size + 1) NB fs6 fp6 ep12 rows' ps6 lam6 oc nvs nn (tupsOf det ++ tups) (fl ++ own)) fun z hz => .tail _ (.tail _ hz)
          clear N16 N16L
          obtain ⟨F18, N18, hfl18⟩ := thrown_led TH18 rfl F16 N16r hc hli6 ht' C hfl own_f BdNot hgl
          refine wpAny_handleBy_builtin te_exc te_nt ve_te ?_
          iterate 1 (first | walk1 | (dsimp only; walk1))
          refine ⟨rfl, TH18.typ, ?_⟩
          rw [if_neg Bool.false_ne_true]
          refine wpAny_handleBy_builtin ve_exc ve_nt ve_ve ?_
          iterate 1 (first | walk1 | (dsimp only; walk1))
          refine ⟨rfl, TH18.typ, ?_⟩
          rw [if_pos rfl]
          refine catch_flight TH18 fun h19 TH19 => ?_
          obtain ⟨F19, N19, hfl19⟩ := thrown_led TH19 rfl F16 N16r hc hli6 ht' C hfl own_f BdNot hgl
          clear F16 N16r F18 N18 TH18 TH19
          have N19' := note_head N19
          clear N19
          iterate 9 (first | walk1 | (dsimp only; walk1))
          rename Fr _ _ _ _ => F20
          rename News _ _ _ _ => N20
          refine note_append F20 (news_sub N20 fun z hz => .tail _ hz) hc hn (by rw [List.length_map, List.length_take]; omega) hR' hli6 ht' hfl19 own_it ?_
          intro h21 F21 N21
          clear F20 N20
          iterate 3 (first | walk1 | (dsimp only; walk1))
          rename Fr _ _ _ _ => F22
          rename News _ _ _ _ => N22
          exact ⟨rfl, h21, _, _, _, rfl, F22, led_back N22, run_next hr m1 ⟨t2, m2⟩ m3 m4 hc G' hlen' hR' (fun r hr => Nat.le_succ_of_le (hits' r hr)) (by unfold stepB; rw [hname, hplace]; exact hs') hn (by unfold noteS; rw [hname, hplace]) ht' hst6 hto6 hli6 hfl19⟩
        | some pl =>
          rw [hplace] at hpl
          obtain ⟨c, e, hsplit, hp1, hp2⟩ := hpl
          refine Zc.of (up (glc_ok2 (s := ⟨_, _, _, _, _⟩) X16 (T.keeps F16.keep) (by omega) hsplit hp1 hp2 ?_) rfl (Nat.le_of_ble_eq_true rfl) rfl rfl (Nat.le_of_ble_eq_true rfl))
          intro tp h17 tk17 w1 w2 x17 tn th
          have F17 := Fr.ext F16 x17
          have N17 := news_new (nn := [(tp, placeObj pl w1 w2)]) F16 N16 x17 (fun z hz => by rw [List.mem_singleton.mp hz]; exact ⟨th, tn⟩)
          clear F16 N16 N16L
          dsimp only
          refine look_append (tups := tupsOf det ++ tups) (p := pl) F17 (by simpa using N17) H G (by omega) (fun r hr => Nat.le_trans (hits' r hr) (by omega)) hR' ?hne dd12 ?_
          case hne =>
            intro z hz
            rcases List.mem_cons.mp hz with rfl | hz
            · exact .cls (fun q => by cases q)
            · rcases List.mem_cons.mp hz with rfl | hz
              · exact .cls (fun q => absurd (show Value.type "dict" = Value.type "list" from q) (by decide))
              · exact (tf z hz).2.2.1
          intro h18 F18 N18
          clear F17 N17
          have N18' := note_head (look_led2 N18)
          clear N18
          dsimp only
          iterate 9 (first | walk1 | (dsimp only; walk1))
          rename Fr _ _ _ _ => F20
          rename News _ _ _ _ => N20
          refine note_append F20 (news_sub N20 fun z hz => .tail _ hz) hc hn (by rw [List.length_map, List.length_take]; omega) (hR'.mono (fun z hz => .tail _ hz) |>.push (.head _)) hli6 ?ht3 hfl own_it ?_
          case ht3 => exact fun q hq => (List.mem_cons.mp hq).elim (fun z => by rw [z]; exact ⟨rfl, _, _, rfl⟩) (ht' q)
          intro h21 F21 N21
          clear F20 N20
          iterate 4 (first | walk1 | (dsimp only; walk1))
          rename Fr _ _ _ _ => F22
          rename News _ _ _ _ => N22
          exact ⟨rfl, h21, _, _, _, rfl, F22, led_back N22, run_next hr m1 ⟨t2, m2⟩ m3 m4 hc (good_push G') (by rw [List.length_map]; exact hlen') (hR'.mono (fun z hz => .tail _ hz) |>.push (.head _)) (its_push hits') (by rw [says_push, hs']; unfold stepB; rw [hname, hplace]) hn (by unfold noteS; rw [hname, hplace]) (fun q hq => (List.mem_cons.mp hq).elim (fun z => by rw [z]; exact ⟨rfl, _, _, rfl⟩) (ht' q)) hst6 hto6 hli6 hfl⟩
end Mine
end
section
open PySem PySem.W PyProof.Rows PySem.Spec
open PyProof.Rows.LCg PyProof.Rows.LCt
set_option Elab.async false
set_option maxRecDepth 100000
set_option maxHeartbeats 8000000
namespace Mine
local macro_rules | `(tactic| walk_at "subscriptTail") => `(tactic| (rename Fr _ _ _ _ => F9; first | (refine' sub3_1 ?hi ?ho ?hs ?_; (case hi => with_reducible rfl); (case ho => exact F9.keep _ _ (by assumption)); (case hs => rfl)) | (refine' sub3_2 ?hi ?ho ?hs ?_; (case hi => with_reducible rfl); (case ho => exact F9.keep _ _ (by assumption)); (case hs => rfl))))
set_option pp.deepTerms false
theorem behind_len (names : List Str) (more : Bool) : ∀ (ks b : List Str), (ks.foldl (fun b k => if k ∈ names then b else if more then b ++ [k] else b) b).length ≤ b.length + ks.length
  | [], b => by simp
  | k :: ks, b => by
    rw [List.foldl_cons]
    refine Nat.le_trans (behind_len names more ks _) ?_
    have : (if k ∈ names then b else if more = true then b ++ [k] else b).length ≤ b.length + 1 := by
      split
      · omega
      · split
        · rw [List.length_append]; simp
        · omega
    rw [List.length_cons]
    omega
theorem want_ok {w : World} {l : List Env} {s : Shared} {g : Heap} {R : Result → Shared → Prop} {p : Program} {loose : List Str} {mean : ExcName → Option Value} {mg mb : Str → Option Value} {RW AK : Addr} {rs : List Row} {stop : Nat} {ts : Tok}
    (GB : Base g s.heap) (X₁ : (KK w.params).In g) (T : Top p loose mean mg mb g) (hRW : At g RW (rs.map rowD)) (few : rs.length ≤ 8) (hst : stop ≤ 20) (hAK : ∃ vs n, g.get? AK = some (listObj vs.toArray n) ∧ DatAll [] vs (asked5.map .str))
    (h : ∀ h' tk a, (∀ b o, g.get? b = some o → h'.get? b = some o) → g.get? a = none → At h' a (wantD rs stop) → R (.ok (.ret (.ref a))) { s with heap := h', toks := tk }) :
    codeAny (model PySem.Challenge.rw_in0185_01.row.prog w) (AA 330 2000 l) (.call (.ref 249) ⟨[.ref RW, .int stop ts, .ref AK], []⟩) R s := by
  have X₀ := K_of_KK X₁
  obtain ⟨rv, rn, rnews, hR1, hR2, hR3⟩ := id hRW
  revert X₀; k_fill; intro X₀
  w_top off
  refine' enterPC (fun a o e => GB.stays _ _ (X₀ a o e)) (T.keeps GB.stays).nolimit ?k6 ?k7 ?k8 ?k9 ?kB ?kN ?_ ?c2 ?c3 ?c4
  case k6 => k_is
  case k7 => k_is
  case k8 => k_room
  case k9 => exact BindsTo.of_eq rfl
  case kB => rfl
  case kN => decide
  case c2 => exact rfl
  case c3 => exact rfl
  case c4 => exact rfl
  intro h₁ tk cells F N Y
  replace N := news_base GB N
  replace F := GB.fr F
  obtain ⟨oc, hE, dc⟩ := CellsAre.one Y
  subst hE
  clear Y
  have dc' : oc.data = .cell (some (.ref RW)) := dc
  clear dc
  have kX := kFor F X₀
  have hRl : g.IsList RW rv.toArray := ⟨_, hR1, rfl, _, rfl⟩
  have hvl : rv.length = rs.length := by rw [dat_len hR2, List.length_map]
  (try dsimp only); (try k_fold)
  iterate 8 (first | walk1 | (dsimp only; walk1))
  refine For_invU g rfl rfl ?_
  iterate 1 (first | walk1 | (dsimp only; walk1))
  rename Fr _ _ _ _ => F1
  rename News _ _ _ _ => N1
  refine ldCN N1 rfl (.tail _ (.head _)) dc' ?_
  iterate 5 (first | walk1 | (dsimp only; walk1))
  rename Fr _ _ _ _ => F2
  rename News _ _ _ _ => N2
  rename_i NA q1 q2 q3
  refine' kms_slice_lit (zs := rv.take stop) (its := rv.toArray) ?zF ?zN ?zl ?zp ?zq ?ze ?_ ?zs ?zt ?zz
  case zF => exact F2
  case zN => exact N2
  case zl => exact hRl.at fun o e => F2.keep _ _ e
  case zp => exact .none
  case zq => exact .int _ _
  case zs => with_unfolding_all rfl
  case zt => intro _; with_unfolding_all rfl
  case zz => rw [List.size_toArray, hvl]; exact Nat.le_trans few (by decide +kernel)
  case ze =>
    have e0 : ¬ ((stop : Int) < 0) := by omega
    simp [kms_pick, kms_lo, kms_hi, e0]
  intro SL h3 F3 N3 lt3
  clear F2 N2
  dsimp only
  have hSL : h3.IsList SL (rv.take stop).toArray := ⟨_, (N3 _ (.head _)).1, rfl, _, rfl⟩
  have neNA : NA ≠ SL := Nat.ne_of_lt (lt3 _ (.head _))
  refine iter_JC (vs := rv.take stop) (fun i m news => (∃ t, m (Str.ofString "stop") = some (.int stop t)) ∧ m (Str.ofString "asked") = some (.ref AK) ∧ m (Str.ofString "names") = some (.ref NA) ∧ ∃ nvs nn, news = (NA, listObj nvs.toArray nn) :: [(s.heap.objs.size + 1, oc)] ∧ DatAll [] nvs ((namesOf (rs.take i)).map .str)) ?ni rfl hSL (N3 _ (.head _)).2.1 F3 (news_sub N3 fun p hp => .tail _ hp) ⟨⟨_, rfl⟩, rfl, rfl, [], 0, rfl, .nil⟩ ?turn ?done
  case ni =>
    rintro i m n ⟨_, _, _, nvs, nn, rfl, _⟩ p hp
    rcases List.mem_cons.mp hp with rfl | hp
    · exact .inl fun e => absurd (show Value.type "list" = Value.type "list_iterator" from e) (by decide)
    · rw [List.mem_singleton.mp hp]; exact .inr ⟨_, dc'⟩
  case done =>
    intro m' news' h5 tk5 F5 N5 hJ
    clear F3 N3
    obtain ⟨⟨tt, hm1⟩, hm2, hm3, nvs, nn, rfl, hnv⟩ := hJ
    have hnames : namesOf (rs.take (rv.take stop).length) = namesOf (rs.take stop) := by
      rw [List.length_take, hvl, Nat.min_comm stop]
      congr 1
      rw [← List.take_take]
      exact List.take_of_length_le (by rw [List.length_take]; omega)
    rw [hnames] at hnv
    have hnl : nvs.length ≤ 8 := by
      rw [dat_len hnv, List.length_map]
      exact Nat.le_trans (names_few stop) few
    dsimp only
    iterate 3 (first | walk1 | (dsimp only; walk1))
    rename Fr _ _ _ _ => F6
    rename News _ _ _ _ => N6
    (try dsimp only)
    obtain ⟨P4, hP4⟩ : ∃ P4, P4 = (NA, listObj nvs.toArray nn) :: [(s.heap.objs.size + 1, oc)] := ⟨_, rfl⟩
    obtain ⟨names, hnm⟩ : ∃ names, names = namesOf (rs.take stop) := ⟨_, rfl⟩
    rw [← hnm] at hnv
    have hnsz : nvs.length = names.length := by rw [dat_len hnv, List.length_map]
    refine LCg.CompSrc.ledger rfl F6 N6 (.head _) (by rw [List.size_toArray]; exact Nat.le_trans hnl (by decide +kernel)) fun g4 => ?_
    refine compU_ind (fun i ys news => ∃ ex, news = P4 ++ ex ∧ DatAll (ex ++ rnews) ys ((names.take i).map fun n => .tuple [.str n, .list ((allPlaces rs n).map placeD)]) ∧ ∀ q ∈ ex, q.2.cls = .type "list" ∨ q.2.cls = .type "tuple") ?fin ?cturn _ 0 [] _ (Nat.zero_add _) ⟨[], by rw [hP4]; simp, .nil, fun q hq => nomatch hq⟩
    case fin =>
      rintro ys news ⟨ex, rfl, hP, hexC⟩
      intro D h7 tk7 F7 N7 off
      clear F6 N6
      iterate 15 (first | walk1 | (dsimp only; walk1))
      rename Fr _ _ _ _ => F8
      rename News _ _ _ _ => N8
      rename_i LK q4 q5 q6 l11 q7
      refine' kms_slice_lit (zs := nvs) (its := nvs.toArray) ?wF ?wN ?wl ?wp ?wq ?we ?_ ?ws ?wt ?wz
      case wF => exact F8
      case wN => exact N8
      case wl => exact ⟨_, (N8 _ (.tail _ (.tail _ (List.mem_append_left _ (by rw [hP4]; exact .head _))))).1, rfl, _, rfl⟩
      case wp => exact .none
      case wq => exact .none
      case ws => with_unfolding_all rfl
      case wt => intro _; with_unfolding_all rfl
      case wz => rw [List.size_toArray]; exact Nat.le_trans hnl (by decide +kernel)
      case we => simp [kms_pick, kms_lo, kms_hi]
      intro BH h9 F9 N9 lt9
      clear F8 N8
      dsimp only
      iterate 3 (first | walk1 | (dsimp only; walk1))
      rename Fr _ _ _ _ => F10
      rename News _ _ _ _ => N10
      obtain ⟨avs, an, hA1, hA2⟩ := hAK
      have hAl : avs.length = 5 := by rw [dat_len hA2]; rfl
      have exNE : ∀ q ∈ ex, q.1 ≠ LK ∧ q.1 ≠ BH := fun q hq => ⟨tbn_neAll l11.2 q (List.mem_append_right _ hq), Nat.ne_of_lt (lt9 q (.tail _ (.tail _ (List.mem_append_right _ hq))))⟩
      refine For_invU g rfl rfl ?_
      iterate 1 (first | walk1 | (dsimp only; walk1))
      refine iter_JC (vs := avs) (fun i m news => (∃ t, m (Str.ofString "stop") = some (.int stop t)) ∧ m (Str.ofString "names") = some (.ref NA) ∧ m (Str.ofString "kept") = some (.ref D) ∧ m (Str.ofString "looked") = some (.ref LK) ∧ m (Str.ofString "behind") = some (.ref BH) ∧ ∃ lvs ln bvs bn ex2, news = (BH, listObj bvs.toArray bn) :: (LK, listObj lvs.toArray ln) :: (D, lst ys) :: (P4 ++ (ex2 ++ ex)) ∧ DatAll (ex2 ++ rnews) lvs ((asked5.take i).map (lookedD rs names)) ∧ DatAll [] bvs ((behindOf names (decide (stop > rs.length)) (asked5.take i)).map .str) ∧ (∀ q ∈ ex2, q.2.cls = .type "list" ∨ q.2.cls = .type "tuple") ∧ ∀ q ∈ ex2, q.1 ≠ LK ∧ q.1 ≠ BH) ?ani rfl ⟨_, F10.keep _ _ hA1, rfl, _, rfl⟩ ?anl F10 N10 ⟨⟨_, hm1⟩, hm3, rfl, rfl, rfl, [], 0, nvs, 0, [], rfl, .nil, hnv, (fun q hq => nomatch hq), fun q hq => nomatch hq⟩ ?aturn ?adone
      case anl =>
        intro z
        have e := F10.keep _ _ hA1
        obtain ⟨oL, es, n, e1, e2, _⟩ := F10.ns
        rw [show AK = s.heap.objs.size from z, e1] at e
        cases e; cases e2
      case ani =>
        rintro i m n ⟨_, _, _, _, _, lvs, ln, bvs, bn, ex2, rfl, _, _, hc2, _⟩ p hp
        rcases List.mem_cons.mp hp with rfl | hp
        · exact .inl fun e => absurd (show Value.type "list" = Value.type "list_iterator" from e) (by decide)
        · rcases List.mem_cons.mp hp with rfl | hp
          · exact .inl fun e => absurd (show Value.type "list" = Value.type "list_iterator" from e) (by decide)
          · rcases List.mem_cons.mp hp with rfl | hp
            · exact .inl fun e => absurd (show Value.type "list" = Value.type "list_iterator" from e) (by decide)
            · rcases List.mem_append.mp hp with hp | hp
              · rw [hP4] at hp
                rcases List.mem_cons.mp hp with rfl | hp
                · exact .inl fun e => absurd (show Value.type "list" = Value.type "list_iterator" from e) (by decide)
                · rw [List.mem_singleton.mp hp]; exact .inr ⟨_, dc'⟩
              · have hc3 : p.2.cls = .type "list" ∨ p.2.cls = .type "tuple" := (List.mem_append.mp hp).elim (hc2 p) (hexC p)
                rcases hc3 with e | e
                · rw [e]; exact .inl (by decide)
                · rw [e]; exact .inl (by decide)
      case adone =>
        intro m2 news2 h11 tk11 F11 N11 hJ
        clear F10 N10
        obtain ⟨⟨tt3, hn1⟩, hn2, hn3, hn4, hn5, lvs, ln, bvs, bn, ex2, rfl, hL, hB, hc2, hne2⟩ := hJ
        rw [hAl] at hL hB
        dsimp only
        have mcl : (s.heap.objs.size + 1, oc) ∈ (BH, listObj bvs.toArray bn) :: (LK, listObj lvs.toArray ln) :: (D, lst ys) :: (P4 ++ (ex2 ++ ex)) := .tail _ (.tail _ (.tail _ (List.mem_append_left _ (by rw [hP4]; exact .tail _ (.head _)))))
        iterate 5 (first | walk1 | (dsimp only; walk1))
        rename Fr _ _ _ _ => F12
        rename News _ _ _ _ => N12
        refine ldCN N12 rfl mcl dc' ?_
        (try dsimp only)
        refine LCg.CompSrc.base rfl F12 N12 hRl (by rw [List.size_toArray, hvl]; exact Nat.le_trans few (by decide +kernel)) fun g6 => ?_
        refine compU_ind (fun i zs news => news = (BH, listObj bvs.toArray bn) :: (LK, listObj lvs.toArray ln) :: (D, lst ys) :: (P4 ++ (ex2 ++ ex)) ∧ DatAll [] zs (((rs.take i).map noteS).map .str)) ?rfin ?rturn _ 0 [] _ (Nat.zero_add _) ⟨rfl, .nil⟩
        case rfin =>
          rintro zs news ⟨rfl, hZ⟩
          intro D6 h13 tk13 F13 N13 off6
          clear F12 N12
          rw [List.size_toArray, hvl, List.take_length] at hZ
          iterate 8 (first | walk1 | (dsimp only; walk1))
          rename Fr _ _ _ _ => FF
          rename News _ _ _ _ => NF
          have inn : ∀ z ∈ (D6, lst zs) :: (BH, listObj bvs.toArray bn) :: (LK, listObj lvs.toArray ln) :: (D, lst ys) :: (P4 ++ (ex2 ++ ex)), _ := fun z hz => NF z (.tail _ hz)
          refine h _ _ _ FF.keep (NF _ (.head _)).2.2 ?_
          refine ⟨[.ref D6, .ref D, .ref LK, .ref BH], 0, ((D6, lst zs) :: (BH, listObj bvs.toArray bn) :: (LK, listObj lvs.toArray ln) :: (D, lst ys) :: (P4 ++ (ex2 ++ ex))) ++ rnews, (NF _ (.head _)).1, ?_, fun z hz => (List.mem_append.mp hz).elim (fun q => (inn z q).1) fun q => FF.keep _ _ (hR3 z q)⟩
          rw [List.size_toArray, hnsz, List.take_length] at hP
          have e5 : asked5.take 5 = asked5 := rfl
          rw [e5] at hL hB
          unfold wantD
          rw [← hnm]
          refine .cons (.list (.head _) (hZ.mono fun z hz => by cases hz)) (.cons (.list (List.mem_append_left _ (.tail _ (.tail _ (.tail _ (.head _))))) (hP.mono fun z hz => ?_)) (.cons (.list (List.mem_append_left _ (.tail _ (.tail _ (.head _)))) (hL.mono fun z hz => ?_)) (.cons (.list (List.mem_append_left _ (.tail _ (.head _))) (hB.mono fun z hz => by cases hz)) .nil)))
          · rcases List.mem_append.mp hz with hz | hz
            · exact List.mem_append_left _ (.tail _ (.tail _ (.tail _ (.tail _ (List.mem_append_right _ (List.mem_append_right _ hz))))))
            · exact List.mem_append_right _ hz
          · rcases List.mem_append.mp hz with hz | hz
            · exact List.mem_append_left _ (.tail _ (.tail _ (.tail _ (.tail _ (List.mem_append_right _ (List.mem_append_left _ hz))))))
            · exact List.mem_append_right _ hz
        case rturn =>
          rintro i zs news hlt ⟨rfl, hZ⟩ v I oI C oC D2 m₂ h13 tk13 E' hv hC hx F13 N13 off ne
          clear F12 N12
          obtain ⟨r, hr⟩ : ∃ r, rs[i]? = some r := ⟨rs[i]'(by rw [List.size_toArray, hvl] at hlt; exact hlt), List.getElem?_eq_getElem _⟩
          obtain ⟨ra, e1, hRA⟩ := rowAt_of hR2 hR3 hr
          have hv' : v = .ref ra := by
            have z : rv[i]? = some v := by simpa using hv
            rw [e1] at z
            exact (Option.some.inj z).symm
          subst hv'
          iterate 7 (first | walk1 | (dsimp only; walk1))
          rename Fr _ _ _ _ => F14
          rename News _ _ _ _ => N14
          refine ⟨kX.keeps F14.keep, wpAny_call (up (note_ok (s := ⟨_, _, _, _, _⟩) (X₁.keeps F14.keep) (T.keeps F14.keep) (hRA.keeps F14.keep) ?_) rfl (Nat.le_of_ble_eq_true rfl) rfl rfl (Nat.le_of_ble_eq_true rfl))⟩
          intro h15 tk15 t15 x15
          have F15 := Fr.ext F14 x15
          have N15 := News.ext N14 x15
          clear F14 N14
          dsimp only
          refine comp_end0 F15 N15 off (.inl hRl) ⟨rfl, ?_⟩
          rw [List.take_add_one, hr, Option.toList_some, List.map_append, List.map_append]
          exact datAll_snoc (.str _ _) hZ
      case aturn =>
        intro i v m₁ news₁ s₁ own hv hJ ho F11 N11
        obtain ⟨⟨tt3, hn1⟩, hn2, hn3, hn4, hn5, lvs, ln, bvs, bn, ex2, rfl, hL, hB, hc2, hne2⟩ := hJ
        obtain ⟨h11, gg, dd, tk11, os⟩ := s₁
        obtain ⟨k, tt4, rfl, hk⟩ := dat_str hA2 hv
        clear F10 N10
        have mNA : (NA, listObj nvs.toArray nn) ∈ own ++ (BH, listObj bvs.toArray bn) :: (LK, listObj lvs.toArray ln) :: (D, lst ys) :: (P4 ++ (ex2 ++ ex)) := List.mem_append_right _ (.tail _ (.tail _ (.tail _ (List.mem_append_left _ (by rw [hP4]; exact .head _)))))
        have mLK0 : (LK, listObj lvs.toArray ln) ∈ own ++ (BH, listObj bvs.toArray bn) :: (LK, listObj lvs.toArray ln) :: (D, lst ys) :: (P4 ++ (ex2 ++ ex)) := List.mem_append_right _ (.tail _ (.head _))
        have mBH0 : (BH, listObj bvs.toArray bn) ∈ own ++ (BH, listObj bvs.toArray bn) :: (LK, listObj lvs.toArray ln) :: (D, lst ys) :: (P4 ++ (ex2 ++ ex)) := List.mem_append_right _ (.head _)
        have ownLK : ∀ p ∈ own, p.1 ≠ LK := fun p hp => by
          rcases ho p hp with e | e
          · intro z
            have := (N11 _ mLK0).2.2
            rw [← z, e, hA1] at this; cases this
          · exact fun z => e.1 _ (.tail _ (.head _)) z.symm
        have ownBH : ∀ p ∈ own, p.1 ≠ BH := fun p hp => by
          rcases ho p hp with e | e
          · intro z
            have := (N11 _ mBH0).2.2
            rw [← z, e, hA1] at this; cases this
          · exact fun z => e.1 _ (.head _) z.symm
        iterate 5 (first | walk1 | (dsimp only; walk1))
        rename Fr _ _ _ _ => F12
        rename News _ _ _ _ => N12
        refine in_list_strs ⟨_, (N12 _ mNA).1, rfl, _, rfl⟩ (strs_dat hnv) ?_
        rw [any_eq]
        by_cases q : k ∈ names
        · rw [decide_eq_true q]
          iterate 11 (first | walk1 | (dsimp only; walk1))
          rename Fr _ _ _ _ => F13
          rename News _ _ _ _ => N13
          have mcl : (s.heap.objs.size + 1, oc) ∈ own ++ (BH, listObj bvs.toArray bn) :: (LK, listObj lvs.toArray ln) :: (D, lst ys) :: (P4 ++ (ex2 ++ ex)) := List.mem_append_right _ (.tail _ (.tail _ (.tail _ (List.mem_append_left _ (by rw [hP4]; exact .tail _ (.head _))))))
          first | refine ldCN N13 rfl mcl dc' ?_ | (walk1; refine ldCN N13 rfl mcl dc' ?_) | (walk1; walk1; refine ldCN N13 rfl mcl dc' ?_)
          iterate 3 (first | walk1 | (dsimp only; walk1))
          refine ⟨kX.keeps F13.keep, wpAny_call (up (places_ok (s := ⟨_, _, _, _, _⟩) (X₁.keeps F13.keep) (T.keeps F13.keep) (F13.keep _ _ hR1) hR2 (fun p hp => F13.keep _ _ (hR3 p hp)) few ?_) rfl (Nat.le_of_ble_eq_true rfl) rfl rfl (Nat.le_of_ble_eq_true rfl))⟩
          rintro D9 h9 tk9 x9 d9 ⟨vs9, n9, new9, e9, A9, W9⟩
          have mLK : (LK, listObj lvs.toArray ln) ∈ own ++ (BH, listObj bvs.toArray bn) :: (LK, listObj lvs.toArray ln) :: (D, lst ys) :: (P4 ++ (ex2 ++ ex)) := List.mem_append_right _ (.tail _ (.head _))
          have mBH : (BH, listObj bvs.toArray bn) ∈ own ++ (BH, listObj bvs.toArray bn) :: (LK, listObj lvs.toArray ln) :: (D, lst ys) :: (P4 ++ (ex2 ++ ex)) := List.mem_append_right _ (.head _)
          have gone : ∀ q : Addr, h11.get? q = none → q ≠ LK ∧ q ≠ BH := fun q e => by
            refine ⟨fun y => ?_, fun y => ?_⟩
            · have := (N13 _ mLK).1
              rw [← y, e] at this; cases this
            · have := (N13 _ mBH).1
              rw [← y, e] at this; cases this
          have F14 := Fr.ext F13 x9
          have N14 := news_new (nn := (D9, listObj vs9.toArray n9) :: new9) F13 N13 x9 (fun p hp => by
            rcases List.mem_cons.mp hp with rfl | hp
            · exact ⟨e9, d9⟩
            · exact ⟨(W9 p hp).1, (W9 p hp).2.1⟩)
          clear F13 N13
          dsimp only
          iterate 1 (first | walk1 | (dsimp only; walk1))
          have hlvs : lvs.length ≤ 5 := by
            rw [dat_len hL, List.length_map, List.length_take]
            exact Nat.le_trans (Nat.min_le_right _ _) (by decide)
          have neLK : ∀ p ∈ ((D9, listObj vs9.toArray n9) :: new9), p.1 ≠ LK ∧ p.1 ≠ BH := fun p hp => by
            rcases List.mem_cons.mp hp with rfl | hp
            · exact gone _ d9
            · exact gone _ (W9 p hp).2.1
          refine append_news F14 N14 (List.mem_append_right _ mLK) (news' := own ++ (BH, listObj bvs.toArray bn) :: (LK, listObj (lvs ++ [Value.ref D9]).toArray (ln + 1)) :: (D, lst ys) :: (P4 ++ ((((D9, listObj vs9.toArray n9) :: new9) ++ ex2) ++ ex))) ?bsub (by rw [List.size_toArray]; omega) ?_
          case bsub =>
            intro p hp
            rcases List.mem_append.mp hp with hp | hp
            · exact .inr ⟨List.mem_append_right _ (List.mem_append_left _ hp), ownLK p hp⟩
            · rcases List.mem_cons.mp hp with rfl | hp
              · exact .inr ⟨List.mem_append_right _ mBH, Nat.ne_of_gt (lt9 (LK, listOf #[] 0) (.head _))⟩
              · rcases List.mem_cons.mp hp with rfl | hp
                · exact .inl (by simp)
                · rcases List.mem_cons.mp hp with rfl | hp
                  · exact .inr ⟨List.mem_append_right _ (List.mem_append_right _ (.tail _ (.tail _ (.head _)))), Nat.ne_of_lt l11.1⟩
                  · rcases List.mem_append.mp hp with hp | hp
                    · exact .inr ⟨List.mem_append_right _ (List.mem_append_right _ (.tail _ (.tail _ (.tail _ (List.mem_append_left _ hp))))), tbn_neAll l11.2 p (List.mem_append_left _ hp)⟩
                    · rcases List.mem_append.mp hp with hp | hp
                      · rcases List.mem_append.mp hp with hp | hp
                        · exact .inr ⟨List.mem_append_left _ hp, (neLK p hp).1⟩
                        · exact .inr ⟨List.mem_append_right _ (List.mem_append_right _ (.tail _ (.tail _ (.tail _ (List.mem_append_right _ (List.mem_append_left _ hp)))))), (hne2 p hp).1⟩
                      · exact .inr ⟨List.mem_append_right _ (List.mem_append_right _ (.tail _ (.tail _ (.tail _ (List.mem_append_right _ (List.mem_append_right _ hp)))))), (exNE p hp).1⟩
          intro h15 F15 N15 _
          k_steps
          rename Fr _ _ _ _ => F16
          rename News _ _ _ _ => N16
          refine turnJ F16 N16 ⟨⟨_, hn1⟩, hn2, hn3, hn4, hn5, lvs ++ [Value.ref D9], ln + 1, bvs, bn, ((D9, listObj vs9.toArray n9) :: new9) ++ ex2, rfl, ?_, ?_, ?_, ?_⟩
          · rw [List.take_add_one, hk, Option.toList_some, List.map_append]
            refine datAll_snoc ?_ (hL.mono fun p hp => ?_)
            · unfold lookedD
              rw [if_pos q]
              refine .list (.head _) (A9.mono fun p hp => ?_)
              rcases List.mem_append.mp hp with h | h
              · exact List.mem_append_left _ (List.mem_append_left _ (.tail _ h))
              · exact List.mem_append_right _ h
            · rcases List.mem_append.mp hp with h | h
              · exact List.mem_append_left _ (List.mem_append_right _ h)
              · exact List.mem_append_right _ h
          · rw [List.take_add_one, hk, Option.toList_some]
            unfold behindOf
            rw [List.foldl_append]
            show DatAll [] bvs ((if k ∈ names then behindOf names (decide (stop > rs.length)) (List.take i asked5) else _).map PySem.W.Dat.str)
            rw [if_pos q]
            exact hB
          · intro z hz
            rcases List.mem_append.mp hz with hz | hz
            · rcases List.mem_cons.mp hz with rfl | hz
              · exact .inl rfl
              · exact .inr (W9 z hz).2.2
            · exact hc2 z hz
          · intro z hz
            rcases List.mem_append.mp hz with hz | hz
            · exact neLK z hz
            · exact hne2 z hz
        · rw [decide_eq_false q]
          iterate 21 (first | walk1 | (dsimp only; walk1))
          rename Fr _ _ _ _ => F14
          rename News _ _ _ _ => N14
          rename_i T9 z4 ltT L9 z6 ltL
          have neT : T9 ≠ LK ∧ T9 ≠ BH := ⟨Nat.ne_of_gt (ltT _ mLK0), Nat.ne_of_gt (ltT _ mBH0)⟩
          have neL : L9 ≠ LK ∧ L9 ≠ BH := ⟨Ne.symm (tbn_neAll ltL.2 _ mLK0), Ne.symm (tbn_neAll ltL.2 _ mBH0)⟩
          have hlvs : lvs.length ≤ 5 := by
            rw [dat_len hL, List.length_map, List.length_take]
            exact Nat.le_trans (Nat.min_le_right _ _) (by decide)
          refine append_news F14 N14 (.tail _ (.tail _ mLK0)) (news' := own ++ (BH, listObj bvs.toArray bn) :: (LK, listObj (lvs ++ [Value.ref L9]).toArray (ln + 1)) :: (D, lst ys) :: (P4 ++ (((L9, listOf #[Value.ref T9] 0) :: (T9, ({ cls := .type "tuple", data := .seq #[.int 0 tk11, .int 7 (tk11 + 1)] } : Obj)) :: ex2) ++ ex))) ?dsub (by rw [List.size_toArray]; omega) ?_
          case dsub =>
            intro p hp
            rcases List.mem_append.mp hp with hp | hp
            · exact .inr ⟨.tail _ (.tail _ (List.mem_append_left _ hp)), ownLK p hp⟩
            · rcases List.mem_cons.mp hp with rfl | hp
              · exact .inr ⟨.tail _ (.tail _ mBH0), Nat.ne_of_gt (lt9 (LK, listOf #[] 0) (.head _))⟩
              · rcases List.mem_cons.mp hp with rfl | hp
                · exact .inl (by simp)
                · rcases List.mem_cons.mp hp with rfl | hp
                  · exact .inr ⟨.tail _ (.tail _ (List.mem_append_right _ (.tail _ (.tail _ (.head _))))), Nat.ne_of_lt l11.1⟩
                  · rcases List.mem_append.mp hp with hp | hp
                    · exact .inr ⟨.tail _ (.tail _ (List.mem_append_right _ (.tail _ (.tail _ (.tail _ (List.mem_append_left _ hp)))))), tbn_neAll l11.2 p (List.mem_append_left _ hp)⟩
                    · rcases List.mem_append.mp hp with hp | hp
                      · rcases List.mem_cons.mp hp with rfl | hp
                        · exact .inr ⟨.head _, neL.1⟩
                        · rcases List.mem_cons.mp hp with rfl | hp
                          · exact .inr ⟨.tail _ (.head _), neT.1⟩
                          · exact .inr ⟨.tail _ (.tail _ (List.mem_append_right _ (.tail _ (.tail _ (.tail _ (List.mem_append_right _ (List.mem_append_left _ hp))))))), (hne2 p hp).1⟩
                      · exact .inr ⟨.tail _ (.tail _ (List.mem_append_right _ (.tail _ (.tail _ (.tail _ (List.mem_append_right _ (List.mem_append_right _ hp))))))), (exNE p hp).1⟩
          intro h15 F15 N15 _
          clear F14 N14
          have mcl : (s.heap.objs.size + 1, oc) ∈ own ++ (BH, listObj bvs.toArray bn) :: (LK, listObj (lvs ++ [Value.ref L9]).toArray (ln + 1)) :: (D, lst ys) :: (P4 ++ (((L9, listOf #[Value.ref T9] 0) :: (T9, ({ cls := .type "tuple", data := .seq #[.int 0 tk11, .int 7 (tk11 + 1)] } : Obj)) :: ex2) ++ ex)) := List.mem_append_right _ (.tail _ (.tail _ (.tail _ (List.mem_append_left _ (by rw [hP4]; exact .tail _ (.head _))))))
          dsimp only
          iterate 8 (first | walk1 | (dsimp only; walk1))
          rename Fr _ _ _ _ => F16
          rename News _ _ _ _ => N16
          refine ldCN N16 rfl mcl dc' ?_
          iterate 1 (first | walk1 | (dsimp only; walk1))
          refine PySem.Calls.call_len_list (s := ⟨_, _, _, _, _⟩) (hRl.at fun o e => F16.keep _ _ e) (by rw [List.size_toArray, hvl]; omega) ?_
          refine PySem.P.gt_int ?_
          have e01 : decide ((stop : Int) > ((rv.toArray.size : Nat) : Int)) = decide (stop > rs.length) := by
            rw [List.size_toArray, hvl]
            by_cases q : stop > rs.length
            · rw [decide_eq_true q, decide_eq_true_iff]; omega
            · rw [decide_eq_false q, decide_eq_false_iff_not]; omega
          rw [e01]
          have hLn : DatAll ((((L9, listOf #[Value.ref T9] 0) :: (T9, ({ cls := .type "tuple", data := .seq #[.int 0 tk11, .int 7 (tk11 + 1)] } : Obj)) :: ex2)) ++ rnews) (lvs ++ [Value.ref L9]) ((asked5.take (i + 1)).map (lookedD rs names)) := by
            rw [List.take_add_one, hk, Option.toList_some, List.map_append]
            refine datAll_snoc ?_ (hL.mono fun p hp => ?_)
            · unfold lookedD
              rw [if_neg q]
              exact .list (vs := [.ref T9]) (.head _) (.cons (.tuple (vs := [.int 0 tk11, .int 7 (tk11 + 1)]) (.tail _ (.head _)) (.cons (.int _ _) (.cons (.int _ _) .nil))) .nil)
            · exact .tail _ (.tail _ hp)
          have hCn : ∀ z ∈ ((L9, listOf #[Value.ref T9] 0) :: (T9, ({ cls := .type "tuple", data := .seq #[.int 0 tk11, .int 7 (tk11 + 1)] } : Obj)) :: ex2), z.2.cls = .type "list" ∨ z.2.cls = .type "tuple" := fun z hz => by
            rcases List.mem_cons.mp hz with rfl | hz
            · exact .inl rfl
            · rcases List.mem_cons.mp hz with rfl | hz
              · exact .inr rfl
              · exact hc2 z hz
          have hNn : ∀ z ∈ ((L9, listOf #[Value.ref T9] 0) :: (T9, ({ cls := .type "tuple", data := .seq #[.int 0 tk11, .int 7 (tk11 + 1)] } : Obj)) :: ex2), z.1 ≠ LK ∧ z.1 ≠ BH := fun z hz => by
            rcases List.mem_cons.mp hz with rfl | hz
            · exact neL
            · rcases List.mem_cons.mp hz with rfl | hz
              · exact neT
              · exact hne2 z hz
          have hBn : behindOf names (decide (stop > rs.length)) (asked5.take (i + 1)) = if decide (stop > rs.length) = true then behindOf names (decide (stop > rs.length)) (asked5.take i) ++ [k] else behindOf names (decide (stop > rs.length)) (asked5.take i) := by
            rw [List.take_add_one, hk, Option.toList_some]
            unfold behindOf
            rw [List.foldl_append]
            show (if k ∈ names then _ else _) = _
            rw [if_neg q]
          by_cases qs : stop > rs.length
          · rw [decide_eq_true qs]
            iterate 12 (first | walk1 | (dsimp only; walk1))
            rename Fr _ _ _ _ => F17
            rename News _ _ _ _ => N17
            rw [decide_eq_true qs] at hBn hB
            have hbl : bvs.length ≤ 1000 := by
              rw [dat_len hB, List.length_map]
              have h1 := behind_len names true (asked5.take i) names
              have h2 : (asked5.take i).length ≤ 5 := by rw [List.length_take]; exact Nat.min_le_right _ _
              rw [hnsz] at hnl
              unfold behindOf
              omega
            refine append_news F17 N17 (List.mem_append_right _ (.head _)) (news' := own ++ (BH, listObj (bvs ++ [Value.str k tt4]).toArray (bn + 1)) :: (LK, listObj (lvs ++ [Value.ref L9]).toArray (ln + 1)) :: (D, lst ys) :: (P4 ++ (((L9, listOf #[Value.ref T9] 0) :: (T9, ({ cls := .type "tuple", data := .seq #[.int 0 tk11, .int 7 (tk11 + 1)] } : Obj)) :: ex2) ++ ex))) ?fsub (by rw [List.size_toArray]; exact hbl) ?_
            case fsub =>
              intro p hp
              rcases List.mem_append.mp hp with hp | hp
              · exact .inr ⟨List.mem_append_left _ hp, ownBH p hp⟩
              · rcases List.mem_cons.mp hp with rfl | hp
                · exact .inl (by simp)
                · refine .inr ⟨List.mem_append_right _ (.tail _ hp), ?_⟩
                  rcases List.mem_cons.mp hp with rfl | hp
                  · exact Nat.ne_of_lt (lt9 (LK, listOf #[] 0) (.head _))
                  · rcases List.mem_cons.mp hp with rfl | hp
                    · exact Nat.ne_of_lt (lt9 (D, lst ys) (.tail _ (.head _)))
                    · rcases List.mem_append.mp hp with hp | hp
                      · exact Nat.ne_of_lt (lt9 p (.tail _ (.tail _ (List.mem_append_left _ hp))))
                      · rcases List.mem_append.mp hp with hp | hp
                        · exact (hNn p hp).2
                        · exact (exNE p hp).2
            intro h18 F18 N18 _
            k_steps
            rename Fr _ _ _ _ => F19
            rename News _ _ _ _ => N19
            refine turnJ F19 N19 ⟨⟨_, hn1⟩, hn2, hn3, hn4, hn5, lvs ++ [Value.ref L9], ln + 1, bvs ++ [Value.str k tt4], bn + 1, _, rfl, hLn, ?_, hCn, hNn⟩
            rw [hBn, if_pos rfl, List.map_append]
            exact datAll_snoc (.str _ _) hB
          · rw [decide_eq_false qs]
            k_steps
            rename Fr _ _ _ _ => F17
            rename News _ _ _ _ => N17
            refine turnJ F17 N17 ⟨⟨_, hn1⟩, hn2, hn3, hn4, hn5, lvs ++ [Value.ref L9], ln + 1, bvs, bn, _, rfl, hLn, ?_, hCn, hNn⟩
            rw [decide_eq_false qs] at hBn hB
            rw [hBn, if_neg Bool.false_ne_true]
            exact hB
    case cturn =>
      rintro i ys news hlt ⟨ex, rfl, hP, hexC⟩ v I oI C oC D m₂ h7 tk7 E' hv hC hx F7 N7 off ne
      clear F6 N6
      obtain ⟨k, tt2, rfl, hk⟩ : ∃ k t, v = .str k t ∧ names[i]? = some k := by
        have hv' : nvs[i]? = some v := by simpa using hv
        obtain ⟨y, ty, e1, e2⟩ := dat_str hnv hv'
        exact ⟨y, ty, e1, e2⟩
      have mc4 : (s.heap.objs.size + 1, oc) ∈ P4 := by rw [hP4]; exact .tail _ (.head _)
      iterate 9 (first | walk1 | (dsimp only; walk1))
      rename Fr _ _ _ _ => F8
      rename News _ _ _ _ => N8
      refine kcf_cell N8 (by rfl) (.tail _ (.tail _ (.tail _ (List.mem_append_left _ mc4)))) dc' ?_
      iterate 3 (first | walk1 | (dsimp only; walk1))
      refine ⟨kX.keeps F8.keep, wpAny_call (up (places_ok (s := ⟨_, _, _, _, _⟩) (X₁.keeps F8.keep) (T.keeps F8.keep) (F8.keep _ _ hR1) hR2 (fun p hp => F8.keep _ _ (hR3 p hp)) few ?_) rfl (Nat.le_of_ble_eq_true rfl) rfl rfl (Nat.le_of_ble_eq_true rfl))⟩
      rintro D9 h9 tk9 x9 d9 ⟨vs9, n9, new9, e9, A9, W9⟩
      have F9 := Fr.ext F8 x9
      have gone : ∀ q : Addr, h7.get? q = none → ∀ z ∈ ((I, oI) :: (C, oC) :: (D, lst ys) :: (P4 ++ ex)), q ≠ z.1 := fun q e z hz y => by
        have := (N8 z hz).1
        rw [← y, e] at this; cases this
      have off3 : ∀ q : Addr, h7.get? q = none → q ≠ I ∧ q ≠ C ∧ q ≠ D := fun q e => ⟨gone q e (I, oI) (.head _), gone q e (C, oC) (.tail _ (.head _)), gone q e (D, lst ys) (.tail _ (.tail _ (.head _)))⟩
      have N9 := news_mid (pre := [(I, oI), (C, oC), (D, lst ys)]) (tl := P4 ++ ex) (nn := (D9, listObj vs9.toArray n9) :: new9) F8 N8 x9 (fun p hp => by
        rcases List.mem_cons.mp hp with rfl | hp
        · exact ⟨e9, d9⟩
        · exact ⟨(W9 p hp).1, (W9 p hp).2.1⟩)
      simp only [List.cons_append, List.nil_append] at N9
      clear F8 N8
      dsimp only
      iterate 2 (first | walk1 | (dsimp only; walk1))
      rename Fr _ _ _ _ => F10
      rename News _ _ _ _ => N10
      rename (@LT.lt Nat _ I _ ∧ _) => l10
      refine comp_end2 P4 (to := ({ cls := .type "tuple", data := .seq #[.str k tt2, .ref D9] } : Obj)) (nn := (D9, listObj vs9.toArray n9) :: new9) (tl := ex) F10 (news_sub N10 ?esub) (Off3.of ?eoff) ⟨l10.1, l10.2.1, l10.2.2.1⟩ (.inr ⟨_, List.mem_append_left _ (by rw [hP4]; exact .head _), rfl, _, rfl⟩) ⟨_ :: (D9, listObj vs9.toArray n9) :: (new9 ++ ex), rfl, ?_, ?_⟩
      case esub =>
        intro p hp
        simp only [List.mem_cons, List.mem_append, List.cons_append] at hp ⊢
        rcases hp with h | h | h | h | h | h | h | h
        · exact .inl h
        · exact .inr (.inl h)
        · exact .inr (.inr (.inl h))
        · exact .inr (.inr (.inr (.inl h)))
        · exact .inr (.inr (.inr (.inr (.inr (.inr (.inl h))))))
        · exact .inr (.inr (.inr (.inr (.inl h))))
        · exact .inr (.inr (.inr (.inr (.inr (.inl h)))))
        · exact .inr (.inr (.inr (.inr (.inr (.inr (.inr h))))))
      case eoff =>
        intro p hp
        rcases List.mem_append.mp hp with hp | hp
        · rcases List.mem_cons.mp hp with rfl | hp
          · exact off3 _ d9
          · exact off3 _ (W9 p hp).2.1
        · exact off.mem p hp
      · have e1 : names.take (i + 1) = names.take i ++ [k] := by
          rw [List.take_add_one, hk]; rfl
        rw [e1, List.map_append]
        refine datAll_snoc (.tuple (vs := [.str k tt2, .ref D9]) (.head _) (.cons (.str _ _) (.cons (.list (.tail _ (.head _)) (A9.mono ?_)) .nil))) (hP.mono ?_)
        · intro p hp
          refine .tail _ (.tail _ ?_)
          rcases List.mem_append.mp hp with h | h
          · exact List.mem_append_left _ (List.mem_append_left _ h)
          · exact List.mem_append_right _ h
        · intro p hp
          refine .tail _ (.tail _ ?_)
          rcases List.mem_append.mp hp with h | h
          · exact List.mem_append_left _ (List.mem_append_right _ h)
          · exact List.mem_append_right _ h
      · intro q hq
        rcases List.mem_cons.mp hq with rfl | hq
        · exact .inr rfl
        · rcases List.mem_cons.mp hq with rfl | hq
          · exact .inl rfl
          · rcases List.mem_append.mp hq with hq | hq
            · exact .inr (W9 q hq).2.2
            · exact hexC q hq
  case turn =>
    intro i v m₁ news₁ s₁ own hv hJ ho F4 N4
    obtain ⟨⟨tt, hm1⟩, hm2, hm3, nvs, nn, rfl, hnv⟩ := hJ
    obtain ⟨h4, gg, dd, tk4, os⟩ := s₁
    clear F3 N3
    have hlt : i < rv.length ∧ rv[i]? = some v := by
      have e := hv
      rw [List.getElem?_take] at e
      split at e
      · exact ⟨(List.getElem?_eq_some_iff.mp e).1, e⟩
      · cases e
    obtain ⟨r, hr⟩ : ∃ r, rs[i]? = some r := ⟨rs[i]'(by rw [← hvl]; exact hlt.1), List.getElem?_eq_getElem _⟩
    obtain ⟨ra, e1, t0, v1, v2, n, e0, d1, d2⟩ := rowAt_of hR2 hR3 hr
    have hv' : v = .ref ra := by
      have z := hlt.2
      rw [e1] at z
      exact (Option.some.inj z).symm
    subst hv'
    rcases d1 with ⟨hn, rfl⟩ | ⟨m, tm, hn, rfl⟩
    · k_steps
      rename Fr _ _ _ _ => F5
      rename News _ _ _ _ => N5
      refine turnJ F5 N5 ⟨⟨_, hm1⟩, hm2, hm3, nvs, nn, rfl, ?_⟩
      rw [names_succ hr]
      unfold addN
      rw [hn]
      exact hnv
    · iterate 19 (first | walk1 | (dsimp only; walk1))
      rename Fr _ _ _ _ => F5
      rename News _ _ _ _ => N5
      have mNA : (NA, listObj nvs.toArray nn) ∈ own ++ (NA, listObj nvs.toArray nn) :: [(s.heap.objs.size + 1, oc)] := List.mem_append_right _ (.head _)
      refine notin_list_strs ⟨_, (N5 _ mNA).1, rfl, _, rfl⟩ (strs_dat hnv) ?_
      rw [any_eq]
      by_cases q : m ∈ namesOf (rs.take i)
      · rw [decide_eq_true q]
        k_steps
        rename Fr _ _ _ _ => F6
        rename News _ _ _ _ => N6
        refine turnJ F6 N6 ⟨⟨_, hm1⟩, hm2, hm3, nvs, nn, rfl, ?_⟩
        rw [names_succ hr]
        unfold addN
        rw [hn]
        dsimp only
        rw [if_pos q]
        exact hnv
      · rw [decide_eq_false q]
        iterate 17 (first | walk1 | (dsimp only; walk1))
        rename Fr _ _ _ _ => F6
        rename News _ _ _ _ => N6
        have hnl : nvs.length ≤ 8 := by
          rw [dat_len hnv, List.length_map]
          exact Nat.le_trans (names_few i) few
        refine append_news F6 N6 mNA (news' := own ++ (NA, listObj (nvs ++ [Value.str m tm]).toArray (nn + 1)) :: [(s.heap.objs.size + 1, oc)]) ?asub (by rw [List.size_toArray]; omega) ?_
        case asub =>
          intro p hp
          rcases List.mem_append.mp hp with hp | hp
          · refine .inr ⟨List.mem_append_left _ hp, ?_⟩
            rcases ho p hp with e | e
            · rw [e]; exact Ne.symm neNA
            · exact fun z => e.1 _ (.head _) z.symm
          · rcases List.mem_cons.mp hp with rfl | hp
            · exact .inl (by simp)
            · refine .inr ⟨List.mem_append_right _ (.tail _ hp), ?_⟩
              rw [List.mem_singleton.mp hp]
              exact ne_objs N6 (List.mem_append_right _ (.tail _ (.head _))) mNA fun z => by rw [show oc = _ from z] at dc'; cases dc'
        intro h7 F7 N7 _
        k_steps
        rename Fr _ _ _ _ => F8
        rename News _ _ _ _ => N8
        refine turnJ F8 N8 ⟨⟨_, hm1⟩, hm2, hm3, nvs ++ [Value.str m tm], nn + 1, rfl, ?_⟩
        rw [names_succ hr]
        unfold addN
        rw [hn]
        dsimp only
        rw [if_neg q, List.map_append]
        exact datAll_snoc (.str _ _) hnv
end Mine
end
end
section
open PySem PySem.W PyProof.Rows PySem.Builtin PySem.Builtin.Str
set_option Elab.async false
namespace Mine
/-- the signs of a text -/
abbrev sg (x : Str) : List Nat := x.cps.toList
theorem sg_app (a b : Str) : sg (a ++ b) = sg a ++ sg b := by show (a.cps ++ b.cps).toList = _; rw [Array.toList_append]
theorem sg_inj {a b : Str} (h : sg a = sg b) : a = b := Str.ext' (Array.toList_inj.mp h)
theorem app_inj {c : Nat} : ∀ {p q P Q : List Nat}, p ++ c :: P = q ++ c :: Q → c ∉ p → c ∉ q → p = q ∧ P = Q
  | [], [], _, _, h, _, _ => by simp at h; exact ⟨rfl, h⟩
  | [], y :: q, P, Q, h, _, hq => by simp at h; exact absurd (by rw [h.1]; exact .head _) hq
  | x :: p, [], P, Q, h, hp, _ => by simp at h; exact absurd (by rw [h.1]; exact .head _) hp
  | x :: p, y :: q, P, Q, h, hp, hq => by
    simp at h
    obtain ⟨e1, e2⟩ := app_inj h.2 (fun m => hp (.tail _ m)) (fun m => hq (.tail _ m))
    exact ⟨by rw [h.1, e1], e2⟩
theorem join_two (sep x y : Str) (r : List Str) : Str.join sep (x :: y :: r) = x ++ sep ++ Str.join sep (y :: r) := rfl
theorem join_inj {c : Nat} : ∀ {ps qs : List Str}, ps ≠ [] → qs ≠ [] → (∀ p ∈ ps, c ∉ sg p) → (∀ q ∈ qs, c ∉ sg q) → Str.join ⟨#[c]⟩ ps = Str.join ⟨#[c]⟩ qs → ps = qs
  | [], _, h, _, _, _, _ => absurd rfl h
  | _ :: _, [], _, h, _, _, _ => absurd rfl h
  | [p], [q], _, _, _, _, h => by have h' : p = q := h; rw [h']
  | [p], q :: q' :: r, _, _, hp, _, h => by
    have h' : p = q ++ ⟨#[c]⟩ ++ Str.join ⟨#[c]⟩ (q' :: r) := h
    refine absurd ?_ (hp p (.head _))
    rw [h', sg_app, sg_app]; simp
  | p :: p' :: r, [q], _, _, _, hq, h => by
    have h' : p ++ ⟨#[c]⟩ ++ Str.join ⟨#[c]⟩ (p' :: r) = q := h
    refine absurd ?_ (hq q (.head _))
    rw [← h', sg_app, sg_app]; simp
  | p :: p' :: r, q :: q' :: r', _, _, hp, hq, h => by
    have h' : p ++ ⟨#[c]⟩ ++ Str.join ⟨#[c]⟩ (p' :: r) = q ++ ⟨#[c]⟩ ++ Str.join ⟨#[c]⟩ (q' :: r') := h
    have h2 := congrArg sg h'
    rw [sg_app, sg_app, sg_app, sg_app, List.append_assoc, List.append_assoc] at h2
    obtain ⟨e1, e2⟩ := app_inj (c := c) h2 (hp p (.head _)) (hq q (.head _))
    rw [sg_inj e1, join_inj (List.cons_ne_nil _ _) (List.cons_ne_nil _ _) (fun z hz => hp z (.tail _ hz)) (fun z hz => hq z (.tail _ hz)) (sg_inj e2)]
theorem split_join {c : Nat} {ps : List Str} (hn : ps ≠ []) (h : ∀ p ∈ ps, c ∉ sg p) : Txt.split (Str.join ⟨#[c]⟩ ps) ⟨#[c]⟩ = ps := by
  refine join_inj (c := c) (fun e => ?_) hn (StrLaws.split_free _ c) h (StrLaws.join_split _ _)
  have := split_pos (Str.join ⟨#[c]⟩ ps) ⟨#[c]⟩
  rw [e] at this; exact absurd this (by decide)
theorem split_two {c : Nat} {a b : Str} (ha : c ∉ sg a) (hb : c ∉ sg b) : Txt.split (a ++ ⟨#[c]⟩ ++ b) ⟨#[c]⟩ = [a, b] :=
  split_join (ps := [a, b]) (by simp) (by intro p hp; simp at hp; rcases hp with rfl | rfl <;> assumption)
theorem sub_toList (s : Str) (i j : Nat) : sg (strSub s i j) = ((sg s).drop i).take (j - i) := StrLaws.strSub_toList s i j
theorem splitMax_one {c : Nat} {a b : Str} (ha : c ∉ sg a) (hc : c < 256) : Txt.splitMax (a ++ ⟨#[c]⟩ ++ b) ⟨#[c]⟩ 1 = [a, b] := by
  have hx : sg (a ++ ⟨#[c]⟩ ++ b) = sg a ++ c :: sg b := by rw [sg_app, sg_app, List.append_assoc]; rfl
  generalize hX : a ++ ⟨#[c]⟩ ++ b = x at hx
  have hat : (sg x)[a.length]? = some c := by rw [hx, List.getElem?_append_right (by simp [Str.length])]; simp [Str.length]
  have hlen : x.length = a.length + 1 + b.length := by
    have := congrArg List.length hx
    simp [Str.length] at this ⊢; omega
  unfold Txt.splitMax
  have l1 : limitOf x 1 = 1 := rfl
  rw [l1]
  have k1 : Builtin.Str.strKind (⟨#[c]⟩ : Str) = 1 := by unfold Builtin.Str.strKind; simp [hc]
  have c1 : (decide (x.length < (⟨#[c]⟩ : Str).length) || decide (Builtin.Str.strKind x < Builtin.Str.strKind ⟨#[c]⟩)) = false := by
    rw [k1, Bool.or_eq_false_iff]
    constructor
    · rw [decide_eq_false_iff_not]; have e : (⟨#[c]⟩ : Str).length = 1 := rfl; rw [e, hlen]; omega
    · rw [decide_eq_false_iff_not]; unfold Builtin.Str.strKind; split <;> (try split) <;> omega
  rw [c1, if_neg (by decide)]
  have key : occurrences x ⟨#[c]⟩ 0 x.length 1 = [a.length] := by
    have hle := StrLaws.occ_length_le x ⟨#[c]⟩ 0 x.length 1
    rcases StrLaws.occ_head x ⟨#[c]⟩ 1 (Nat.le_refl 1) with ⟨_, hn⟩ | ⟨i, r, h0, hi, hn⟩
    · exact absurd ((StrLaws.subAt_one x c a.length).mpr hat) (hn _)
    · rw [h0] at hle ⊢
      have hr : r = [] := by cases r with
        | nil => rfl
        | cons y z => simp at hle
      subst hr
      have hi' := (StrLaws.subAt_one x c i).mp hi
      have e : i = a.length := by
        rcases Nat.lt_trichotomy i a.length with q | q | q
        · exfalso
          have hi2 : (sg x)[i]? = some c := hi'
          rw [hx, List.getElem?_append_left (by simpa [Str.length] using q)] at hi2
          exact ha (List.mem_of_getElem? hi2)
        · exact q
        · exact absurd ((StrLaws.subAt_one x c a.length).mpr hat) (hn _ q)
      rw [e]
  rw [key, if_neg (by simp), StrLaws.partsBetween_eq]
  show [strSub x 0 a.length, strSub x (a.length + 1) x.length] = [a, b]
  have e1 : strSub x 0 a.length = a := sg_inj (by rw [sub_toList, hx]; simp [Str.length])
  have e2 : strSub x (a.length + 1) x.length = b := sg_inj (by
    rw [sub_toList, hx, hlen]
    have e : (sg a ++ c :: sg b).drop (a.length + 1) = sg b := by
      rw [show sg a ++ c :: sg b = (sg a ++ [c]) ++ sg b by simp, List.drop_left' (by simp [Str.length])]
    rw [e]
    exact List.take_of_length_le (by simp [Str.length]))
  rw [e1, e2]
/-- no blank at either end -/
def Tight (l : List Nat) : Prop := (∀ c, l.head? = some c → Unicode.isSpace c = false) ∧ (∀ c, l.getLast? = some c → Unicode.isSpace c = false)
theorem strip_eq (x : Str) : sg (Txt.strip x) = (((sg x).dropWhile Unicode.isSpace).reverse.dropWhile Unicode.isSpace).reverse := by
  have dw : ∀ (p : Nat → Bool) (l : List Nat), l.dropWhile p = l.drop (l.takeWhile p).length := fun p l => by
    induction l with
    | nil => rfl
    | cons y r ih => by_cases hy : p y = true
                     · rw [List.dropWhile_cons_of_pos hy, List.takeWhile_cons_of_pos hy]; simpa using ih
                     · rw [List.dropWhile_cons_of_neg hy, List.takeWhile_cons_of_neg hy]; rfl
  unfold Txt.strip
  rw [PyProof.Rows.stripBy_eq, sub_toList]
  simp only [stripLo, stripHi, if_true]
  rw [dw, dw]
  generalize hl : ((sg x).takeWhile Unicode.isSpace).length = lo
  rw [List.drop_reverse, List.reverse_reverse]
  congr 1
  have h2 : lo ≤ (sg x).length := by rw [← hl]; exact (List.takeWhile_sublist _).length_le
  simp [Str.length] at h2 ⊢
  rw [Nat.sub_right_comm]
theorem tight_strip {x y : Str} {pre post : List Nat} (ht : Tight (sg y)) (hx : sg x = pre ++ sg y ++ post) (h1 : ∀ c ∈ pre, Unicode.isSpace c = true) (h2 : ∀ c ∈ post, Unicode.isSpace c = true) : Txt.strip x = y := by
  apply sg_inj
  rw [strip_eq, hx]
  have dwp : ∀ (l r : List Nat), (∀ c ∈ l, Unicode.isSpace c = true) → (l ++ r).dropWhile Unicode.isSpace = r.dropWhile Unicode.isSpace := fun l r h => by
    induction l with
    | nil => rfl
    | cons y l ih => rw [List.cons_append, List.dropWhile_cons_of_pos (h y (.head _)), ih fun c hc => h c (.tail _ hc)]
  rw [List.append_assoc, dwp _ _ h1]
  generalize sg y = Y at ht
  cases Y with
  | nil =>
    rw [List.nil_append]
    have : post.dropWhile Unicode.isSpace = [] := by have := dwp post [] h2; simpa using this
    rw [this]; rfl
  | cons c l =>
    have hc := ht.1 c rfl
    rw [List.cons_append, List.dropWhile_cons_of_neg (by simp [hc]), ← List.cons_append, List.reverse_append, dwp _ _ fun z hz => h2 z (List.mem_reverse.mp hz)]
    cases hr : (c :: l).reverse with
    | nil => simp at hr
    | cons d m =>
      have hd : (c :: l).getLast? = some d := by rw [← List.head?_reverse, hr]; rfl
      rw [List.dropWhile_cons_of_neg (by simp [ht.2 d hd]), ← hr, List.reverse_reverse]
end Mine
end
section
open PySem PySem.W PyProof.Rows PySem.Builtin PySem.Builtin.Str PySem.NumText
set_option Elab.async false
set_option maxRecDepth 100000
namespace Mine
theorem sep_dot : Str.ofString "." = ⟨#[46]⟩ := by decide +kernel
theorem sep_eq : Str.ofString "=" = ⟨#[61]⟩ := by decide +kernel
abbrev numT (n : Int) : Str := Str.ofString (toString n)
theorem num_digits {n : Int} (h0 : 0 ≤ n) : ∀ c ∈ sg (numT n), 48 ≤ c ∧ c ≤ 57 := by
  obtain ⟨m, rfl⟩ := Int.eq_ofNat_of_zero_le h0
  intro c hc
  rw [show sg (numT ((m : Nat) : Int)) = _ from PySem.W.KIN.signs_num m] at hc
  obtain ⟨ch, hch, e⟩ := List.mem_map.mp hc
  have r := digit_range (Nat.isDigit_of_mem_toDigits (by decide) (by decide) hch)
  rw [← e]
  exact r
theorem num_ne {n : Int} (h0 : 0 ≤ n) : sg (numT n) ≠ [] := by
  obtain ⟨m, rfl⟩ := Int.eq_ofNat_of_zero_le h0
  rw [show sg (numT ((m : Nat) : Int)) = _ from PySem.W.KIN.signs_num m]
  intro e
  have h : 0 < (Nat.toDigits 10 m).length := toDigits_len_ge 10 m
  rw [List.map_eq_nil_iff.mp e] at h
  exact absurd h (by decide)
theorem num_len {n : Int} (h0 : 0 ≤ n) (h : n < 10 ^ 10) : (numT n).length ≤ 10 := PySem.W.KT.len_num h0 h
theorem digit_no_space : ∀ c : Nat, c ≤ 57 → 48 ≤ c → Unicode.isSpace c = false := by decide +kernel
/-- nothing to part at -/
theorem split_one {c : Nat} {a : Str} (ha : c ∉ sg a) : Txt.split a ⟨#[c]⟩ = [a] :=
  split_join (ps := [a]) (by simp) (by intro p hp; simp at hp; exact hp ▸ ha)
theorem split_three {c : Nat} {a b d : Str} (ha : c ∉ sg a) (hb : c ∉ sg b) (hd : c ∉ sg d) : Txt.split (a ++ ⟨#[c]⟩ ++ b ++ ⟨#[c]⟩ ++ d) ⟨#[c]⟩ = [a, b, d] := by
  have e : a ++ ⟨#[c]⟩ ++ b ++ ⟨#[c]⟩ ++ d = Str.join ⟨#[c]⟩ [a, b, d] := by
    show _ = a ++ ⟨#[c]⟩ ++ (b ++ ⟨#[c]⟩ ++ d)
    simp only [Str.append_assoc]
  rw [e]
  exact split_join (by simp) (by intro p hp; simp at hp; rcases hp with rfl | rfl | rfl <;> assumption)
theorem splitMax_none {c : Nat} {x : Str} (ha : c ∉ sg x) : Txt.splitMax x ⟨#[c]⟩ 1 = [x] := by
  unfold Txt.splitMax
  have l1 : limitOf x 1 = 1 := rfl
  rw [l1]
  split
  · rfl
  · have key : occurrences x ⟨#[c]⟩ 0 x.length 1 = [] := by
      rcases StrLaws.occ_head x ⟨#[c]⟩ 1 (Nat.le_refl 1) with ⟨h, _⟩ | ⟨i, r, h0, hi, hn⟩
      · exact h
      · have hi' := (StrLaws.subAt_one x c i).mp hi
        exact absurd (List.mem_of_getElem? (show (sg x)[i]? = some c from hi')) ha
    rw [key]
    rfl
theorem drop_blanks : ∀ {l r : List Nat}, (∀ c ∈ l, c = 32) → (l ++ r).dropWhile blank = r.dropWhile blank
  | [], _, _ => rfl
  | c :: l, r, h => by
    have e : c = 32 := h c (.head _)
    subst e
    rw [List.cons_append, List.dropWhile_cons_of_pos (by decide), drop_blanks fun d hd => h d (.tail _ hd)]
theorem int_spaced {x y : Str} {pre post : List Nat} (hy : ∀ c ∈ sg y, 48 ≤ c ∧ c ≤ 57) (hne : sg y ≠ []) (hx : sg x = pre ++ sg y ++ post) (h1 : ∀ c ∈ pre, c = 32) (h2 : ∀ c ∈ post, c = 32) : PySem.intText? x = PySem.intText? y := by
  have hall : ∀ c ∈ sg x, c = 32 ∨ (48 ≤ c ∧ c ≤ 57) := fun c hc => by
    rw [hx] at hc
    rcases List.mem_append.mp hc with hc | hc
    · rcases List.mem_append.mp hc with hc | hc
      · exact .inl (h1 c hc)
      · exact .inr (hy c hc)
    · exact .inl (h2 c hc)
  have e1 : numTextOf x = sg x := by
    refine if_pos ?_
    rw [← Array.all_toList, List.all_eq_true]
    intro c hc
    have := hall c hc
    exact decide_eq_true (by omega)
  have e2 : numSeenOf x = sg x := by
    show (numTextOf x).takeWhile _ = _
    rw [e1]
    refine takeWhile_all fun c hc => ?_
    have := hall c hc
    exact bne_iff_ne.mpr (by omega)
  rw [intText_of (x := y) fun c hc => .inr (hy c hc)]
  unfold PySem.intText?
  rw [e1, e2, if_pos (beq_self_eq_true _)]
  obtain ⟨c, l, hc⟩ := List.exists_cons_of_ne_nil hne
  have dY : (sg y).dropWhile blank = sg y := dropWhile_digits hy
  have dYp : (sg y ++ post).dropWhile blank = sg y ++ post := by
    rw [hc, List.cons_append]
    exact dropWhile_of (by have := hy c (by rw [hc]; exact .head _); omega)
  have dX : (sg x).dropWhile blank = sg y ++ post := by rw [hx, List.append_assoc, drop_blanks h1, dYp]
  have sX : sign (sg y ++ post) = (false, sg y ++ post) := by
    rw [hc, List.cons_append]
    have := hy c (by rw [hc]; exact .head _)
    exact sign_of (by omega) (by omega)
  have sY : sign (sg y) = (false, sg y) := by
    rw [hc]
    have := hy c (by rw [hc]; exact .head _)
    exact sign_of (by omega) (by omega)
  have rv : (sg y).reverse.dropWhile blank = (sg y).reverse := dropWhile_digits fun c h => hy c (List.mem_reverse.mp h)
  have cX : core (sg x) = sg y := by
    unfold core
    rw [dX, sX]
    show ((sg y ++ post).reverse.dropWhile blank).reverse = sg y
    rw [List.reverse_append, drop_blanks fun c h => h2 c (List.mem_reverse.mp h), rv, List.reverse_reverse]
  have cY : core (sg y) = sg y := by
    unfold core
    rw [dY, sY]
    show ((sg y).reverse.dropWhile blank).reverse = sg y
    rw [rv, List.reverse_reverse]
  rw [dX, sX, cX]
  show _ = match digits? 10 (core (sg y)) with | some ds => if ds.size ≤ 4300 then some (worth (sign ((sg y).dropWhile blank)).1 ds) else none | none => none
  rw [cY, dY, sY]
  rfl
end Mine
end
section
open PySem PySem.W PyProof.Rows PySem.Builtin PySem.Builtin.Str PySem.NumText
set_option Elab.async false
set_option maxRecDepth 100000
namespace Mine
structure Digs (f : Str) : Prop where
  all : ∀ c ∈ sg f, 48 ≤ c ∧ c ≤ 57
  ne : sg f ≠ []
  len : f.length ≤ 10
theorem num_digs {n : Int} (h0 : 0 ≤ n) (h : n < 10 ^ 10) : Digs (numT n) := ⟨num_digits h0, num_ne h0, num_len h0 h⟩
theorem Digs.no {f : Str} (F : Digs f) {c : Nat} (h : c < 48 ∨ 57 < c) : c ∉ sg f := fun m => by have := F.all c m; omega
theorem Digs.tightL {f : Str} (F : Digs f) : ∀ c ∈ sg f, Unicode.isSpace c = false := fun c hc => by
  have := F.all c hc
  exact digit_no_space c this.2 this.1
theorem tight_mid {p m q : List Nat} (hp : ∀ c ∈ p, Unicode.isSpace c = false) (hq : ∀ c ∈ q, Unicode.isSpace c = false) (np : p ≠ []) (nq : q ≠ []) : Tight (p ++ m ++ q) := by
  obtain ⟨c, l, rfl⟩ := List.exists_cons_of_ne_nil np
  refine ⟨fun d hd => ?_, fun d hd => ?_⟩
  · simp at hd
    exact hd ▸ hp c (.head _)
  · rw [List.getLast?_append, List.getLast?_eq_some_getLast nq, Option.some_or] at hd
    exact hq d (Option.some.inj hd ▸ List.getLast_mem nq)
theorem tight_all {p : List Nat} (hp : ∀ c ∈ p, Unicode.isSpace c = false) : Tight p := ⟨fun d hd => hp d (List.mem_of_mem_head? hd), fun d hd => hp d (List.mem_of_getLast? hd)⟩
theorem sp_space : Unicode.isSpace 32 = true := by decide +kernel
theorem x_space : Unicode.isSpace 120 = false := by decide +kernel
def nmOk (x : Str) : Bool := (sg x).head?.all (fun c => !Unicode.isSpace c) && (sg x).getLast?.all (fun c => !Unicode.isSpace c) && (sg x).all (fun c => c != 61 && decide (c < 128)) && decide (x.length ≤ 3)
structure Nm (x : Str) : Prop where
  tight : Tight (sg x)
  no : 61 ∉ sg x
  len : x.length ≤ 3
theorem nm_of {x : Str} (h : nmOk x = true) : Nm x := by
  unfold nmOk at h
  rw [Bool.and_eq_true, Bool.and_eq_true, Bool.and_eq_true, decide_eq_true_eq] at h
  obtain ⟨⟨⟨h1, h2⟩, h3⟩, h4⟩ := h
  refine ⟨⟨fun c hc => ?_, fun c hc => ?_⟩, fun hm => ?_, h4⟩
  · rw [hc] at h1; simpa using h1
  · rw [hc] at h2; simpa using h2
  · have := List.all_eq_true.mp h3 61 hm; simp at this
theorem g0 : sg ⟨#[]⟩ = [] := rfl
theorem gE : sg ⟨#[61]⟩ = [61] := rfl
theorem g1 : sg (Str.ofString " ") = [32] := by decide +kernel
theorem g2 : sg (Str.ofString " = ") = [32, 61, 32] := by decide +kernel
theorem g3 : sg (Str.ofString ".") = [46] := by decide +kernel
theorem g4 : sg (Str.ofString "=") = [61] := by decide +kernel
theorem g5 : sg (Str.ofString " . ") = [32, 46, 32] := by decide +kernel
theorem g6 : sg (Str.ofString " =") = [32, 61] := by decide +kernel
theorem g7 : sg (Str.ofString "  ") = [32, 32] := by decide +kernel
theorem g8 : sg (Str.ofString "= ") = [61, 32] := by decide +kernel
theorem g9 : sg (Str.ofString ".x") = [46, 120] := by decide +kernel
theorem gX : sg (Str.ofString "x") = [120] := by decide +kernel
theorem len_sg (x : Str) : x.length = (sg x).length := by simp [Str.length]
def T0 (nm f b : Str) : Str := Str.ofString " " ++ nm ++ Str.ofString " = " ++ f ++ Str.ofString "." ++ b ++ Str.ofString " "
def T1 (nm f b : Str) : Str := nm ++ Str.ofString "=" ++ f ++ Str.ofString " . " ++ b
def T2 (nm f : Str) : Str := nm ++ Str.ofString " =" ++ f ++ Str.ofString " "
def T3 (nm f b : Str) : Str := Str.ofString "  " ++ nm ++ Str.ofString "= " ++ f ++ Str.ofString "." ++ b ++ Str.ofString "." ++ b
def T4 (nm f : Str) : Str := nm ++ Str.ofString " = " ++ f ++ Str.ofString ".x"
def T5 (nm f b : Str) : Str := Str.ofString " " ++ nm ++ Str.ofString "  " ++ f ++ Str.ofString "." ++ b
section
variable {nm f b : Str} (N : Nm nm) (F : Digs f) (B : Digs b)
include N F B
theorem t_len : (T0 nm f b).length ≤ 60 ∧ (T1 nm f b).length ≤ 60 ∧ (T2 nm f).length ≤ 60 ∧ (T3 nm f b).length ≤ 60 ∧ (T4 nm f).length ≤ 60 ∧ (T5 nm f b).length ≤ 60 := by
  have h1 := N.len
  have h2 := F.len
  have h3 := B.len
  unfold T0 T1 T2 T3 T4 T5
  simp only [Str.length_append, len_sg (Str.ofString _), g1, g2, g3, g4, g5, g6, g7, g8, g9, List.length_cons, List.length_nil]
  omega
omit F B in
theorem first_at {x pre post B' : Str} (hx : sg x = sg pre ++ sg nm ++ sg post ++ 61 :: sg B') (h1 : ∀ c ∈ sg pre, c = 32) (h2 : ∀ c ∈ sg post, c = 32) :
    Txt.splitMax x (Str.ofString "=") 1 = [pre ++ nm ++ post, B'] ∧ Txt.strip (pre ++ nm ++ post) = nm := by
  refine ⟨?_, tight_strip (pre := sg pre) (post := sg post) N.tight (by rw [sg_app, sg_app]) (fun c hc => by rw [h1 c hc]; exact sp_space) (fun c hc => by rw [h2 c hc]; exact sp_space)⟩
  have e : x = (pre ++ nm ++ post) ++ ⟨#[61]⟩ ++ B' := sg_inj (by rw [hx, sg_app, sg_app, sg_app, sg_app, gE]; simp)
  rw [e, sep_eq]
  refine splitMax_one (fun hm => ?_) (by decide)
  rw [sg_app, sg_app] at hm
  simp only [List.mem_append] at hm
  rcases hm with (hm | hm) | hm
  · have := h1 _ hm; omega
  · exact N.no hm
  · have := h2 _ hm; omega
theorem t0_ok : ∃ a c, Txt.splitMax (T0 nm f b) (Str.ofString "=") 1 = [a, c] ∧ Txt.strip a = nm ∧ Txt.strip c = f ++ Str.ofString "." ++ b := by
  obtain ⟨h1, h2⟩ := first_at N (x := T0 nm f b) (pre := Str.ofString " ") (post := Str.ofString " ") (B' := Str.ofString " " ++ f ++ Str.ofString "." ++ b ++ Str.ofString " ") (by unfold T0; simp only [sg_app, g1, g2, g3]; simp) (by rw [g1]; simp) (by rw [g1]; simp)
  refine ⟨_, _, h1, h2, tight_strip (pre := [32]) (post := [32]) ?_ (by simp only [sg_app, g1, g3]; simp) (by simp [sp_space]) (by simp [sp_space])⟩
  rw [sg_app, sg_app]
  exact tight_mid F.tightL B.tightL F.ne B.ne
theorem t1_ok : ∃ a c, Txt.splitMax (T1 nm f b) (Str.ofString "=") 1 = [a, c] ∧ Txt.strip a = nm ∧ Txt.strip c = (f ++ Str.ofString " ") ++ Str.ofString "." ++ (Str.ofString " " ++ b) := by
  obtain ⟨h1, h2⟩ := first_at N (x := T1 nm f b) (pre := ⟨#[]⟩) (post := ⟨#[]⟩) (B' := f ++ Str.ofString " . " ++ b) (by unfold T1; simp only [sg_app, g0, g4, g5]; simp) (by simp) (by simp)
  refine ⟨_, _, h1, h2, tight_strip (pre := []) (post := []) ?_ (by simp only [sg_app, g1, g3, g5]; simp) (by simp) (by simp)⟩
  have e : sg ((f ++ Str.ofString " ") ++ Str.ofString "." ++ (Str.ofString " " ++ b)) = sg f ++ [32, 46, 32] ++ sg b := by simp only [sg_app, g1, g3]; simp
  rw [e]
  exact tight_mid F.tightL B.tightL F.ne B.ne
omit B in
theorem t2_ok : ∃ a c, Txt.splitMax (T2 nm f) (Str.ofString "=") 1 = [a, c] ∧ Txt.strip a = nm ∧ Txt.strip c = f := by
  obtain ⟨h1, h2⟩ := first_at N (x := T2 nm f) (pre := ⟨#[]⟩) (post := Str.ofString " ") (B' := f ++ Str.ofString " ") (by unfold T2; simp only [sg_app, g0, g1, g6]; simp) (by simp) (by rw [g1]; simp)
  exact ⟨_, _, h1, h2, tight_strip (pre := []) (post := [32]) (tight_all F.tightL) (by simp only [sg_app, g1]; simp) (by simp) (by simp [sp_space])⟩
theorem t3_ok : ∃ a c, Txt.splitMax (T3 nm f b) (Str.ofString "=") 1 = [a, c] ∧ Txt.strip a = nm ∧ Txt.strip c = f ++ Str.ofString "." ++ b ++ Str.ofString "." ++ b := by
  obtain ⟨h1, h2⟩ := first_at N (x := T3 nm f b) (pre := Str.ofString "  ") (post := ⟨#[]⟩) (B' := Str.ofString " " ++ f ++ Str.ofString "." ++ b ++ Str.ofString "." ++ b) (by unfold T3; simp only [sg_app, g0, g1, g3, g7, g8]; simp) (by rw [g7]; simp) (by simp)
  refine ⟨_, _, h1, h2, tight_strip (pre := [32]) (post := []) ?_ (by simp only [sg_app, g1, g3]; simp) (by simp [sp_space]) (by simp)⟩
  have e : sg (f ++ Str.ofString "." ++ b ++ Str.ofString "." ++ b) = sg f ++ ([46] ++ sg b ++ [46]) ++ sg b := by simp only [sg_app, g3]; simp
  rw [e]
  exact tight_mid F.tightL B.tightL F.ne B.ne
omit B in
theorem t4_ok : ∃ a c, Txt.splitMax (T4 nm f) (Str.ofString "=") 1 = [a, c] ∧ Txt.strip a = nm ∧ Txt.strip c = f ++ Str.ofString "." ++ Str.ofString "x" := by
  obtain ⟨h1, h2⟩ := first_at N (x := T4 nm f) (pre := ⟨#[]⟩) (post := Str.ofString " ") (B' := Str.ofString " " ++ f ++ Str.ofString ".x") (by unfold T4; simp only [sg_app, g0, g1, g2, g9]; simp) (by simp) (by rw [g1]; simp)
  refine ⟨_, _, h1, h2, tight_strip (pre := [32]) (post := []) ?_ (by simp only [sg_app, g1, g3, g9, gX]; simp) (by simp [sp_space]) (by simp)⟩
  have e : sg (f ++ Str.ofString "." ++ Str.ofString "x") = sg f ++ [46] ++ [120] := by simp only [sg_app, g3, gX]
  rw [e]
  exact tight_mid F.tightL (by simp [x_space]) F.ne (by simp)
theorem t5_ok : Txt.splitMax (T5 nm f b) (Str.ofString "=") 1 = [T5 nm f b] := by
  rw [sep_eq]
  refine splitMax_none fun hm => ?_
  unfold T5 at hm
  simp only [sg_app, g1, g3, g7, List.mem_append] at hm
  rcases hm with ((((hm | hm) | hm) | hm) | hm) | hm
  · simp at hm
  · exact N.no hm
  · simp at hm
  · exact F.no (by omega) hm
  · simp at hm
  · exact B.no (by omega) hm
end
section
variable {f b : Str} (F : Digs f) (B : Digs b)
include F
theorem p2_ok : Txt.split f (Str.ofString ".") = [f] := by rw [sep_dot]; exact split_one (F.no (by omega))
theorem p4_ok : Txt.split (f ++ Str.ofString "." ++ Str.ofString "x") (Str.ofString ".") = [f, Str.ofString "x"] := by
  rw [sep_dot]; exact split_two (F.no (by omega)) (by rw [gX]; simp)
include B
theorem p0_ok : Txt.split (f ++ Str.ofString "." ++ b) (Str.ofString ".") = [f, b] := by
  rw [sep_dot]; exact split_two (F.no (by omega)) (B.no (by omega))
theorem p1_ok : Txt.split ((f ++ Str.ofString " ") ++ Str.ofString "." ++ (Str.ofString " " ++ b)) (Str.ofString ".") = [f ++ Str.ofString " ", Str.ofString " " ++ b] := by
  rw [sep_dot]
  refine split_two (fun hm => ?_) (fun hm => ?_)
  · rw [sg_app, g1, List.mem_append] at hm
    exact hm.elim (F.no (by omega)) (by simp)
  · rw [sg_app, g1, List.mem_append] at hm
    exact hm.elim (by simp) (B.no (by omega))
theorem p3_ok : Txt.split (f ++ Str.ofString "." ++ b ++ Str.ofString "." ++ b) (Str.ofString ".") = [f, b, b] := by
  rw [sep_dot]; exact split_three (F.no (by omega)) (B.no (by omega)) (B.no (by omega))
theorem i1_ok : PySem.intText? (f ++ Str.ofString " ") = PySem.intText? f ∧ PySem.intText? (Str.ofString " " ++ b) = PySem.intText? b :=
  ⟨int_spaced (pre := []) (post := [32]) F.all F.ne (by rw [sg_app, g1]; rfl) (by simp) (by simp), int_spaced (pre := [32]) (post := []) B.all B.ne (by rw [sg_app, g1]; simp) (by simp) (by simp)⟩
end
end Mine
end
section
open PySem PySem.W PyProof.Rows PySem.Spec
set_option Elab.async false
set_option maxRecDepth 100000
namespace Mine
def nmL : List Str := [Str.ofString "a", Str.ofString "b", Str.ofString "a b", Str.ofString ""]
def nmOf (n : Int) : Str := nmL.getD (n.fmod 4).toNat (Str.ofString "")
def rowK (k : Int) (nm : Str) (f c : Int) : Row :=
  if k = 0 then ⟨T0 nm (numT f) (numT c), some nm, some (f, c)⟩
  else if k = 1 then ⟨T1 nm (numT f) (numT c), some nm, some (f, c)⟩
  else if k = 2 then ⟨T2 nm (numT f), some nm, none⟩
  else if k = 3 then ⟨T3 nm (numT f) (numT c), some nm, none⟩
  else if k = 4 then ⟨T4 nm (numT f), some nm, none⟩
  else ⟨T5 nm (numT f) (numT c), none, none⟩
def lineOf (n : Int) : Int := 1 + (n.fdiv 24).fmod 9
def colOf (n : Int) : Int := (n.fdiv 216).fmod 1000
def rowOf (n : Int) : Row := rowK ((n.fdiv 4).fmod 6) (nmOf n) (lineOf n) (colOf n)
theorem nm_good : ∀ i : Nat, i < 4 → nmOk (nmL.getD i (Str.ofString "")) = true := by decide +kernel
theorem nm_asked : ∀ i : Nat, i < 4 → nmL.getD i (Str.ofString "") ∈ [Str.ofString "", Str.ofString "a", Str.ofString "b", Str.ofString "a b", Str.ofString "c"] := by decide +kernel
theorem fmod_range (n : Int) {k : Int} (hk : 0 < k) : 0 ≤ n.fmod k ∧ n.fmod k < k := by
  rw [Int.fmod_eq_emod_of_nonneg _ (Int.le_of_lt hk)]
  exact ⟨Int.emod_nonneg _ (Int.ne_of_gt hk), Int.emod_lt_of_pos _ hk⟩
theorem nm_is (n : Int) : Nm (nmOf n) := nm_of (nm_good _ (by have := fmod_range n (k := 4) (by decide); omega))
theorem nm_in (n : Int) : nmOf n ∈ [Str.ofString "", Str.ofString "a", Str.ofString "b", Str.ofString "a b", Str.ofString "c"] := nm_asked _ (by have := fmod_range n (k := 4) (by decide); omega)
theorem line_range (n : Int) : 1 ≤ lineOf n ∧ lineOf n ≤ 9 := by
  have := fmod_range (n.fdiv 24) (k := 9) (by decide)
  unfold lineOf; omega
theorem col_range (n : Int) : 0 ≤ colOf n ∧ colOf n ≤ 999 := by
  have := fmod_range (n.fdiv 216) (k := 1000) (by decide)
  unfold colOf; omega
theorem rowK_ok {k : Int} {nm : Str} {f c : Int} (N : Nm nm) (h1 : 0 ≤ f ∧ f < 10 ^ 10) (h2 : 0 ≤ c ∧ c < 10 ^ 10) : RowOk (rowK k nm f c) := by
  have F := num_digs h1.1 h1.2
  have C := num_digs h2.1 h2.2
  obtain ⟨l0, l1, l2, l3, l4, l5⟩ := t_len N F C
  have if' : PySem.intText? (numT f) = some f := PySem.W.KIN.num_reads h1.1 h1.2
  have ic : PySem.intText? (numT c) = some c := PySem.W.KIN.num_reads h2.1 h2.2
  have fl := F.len
  have cl := C.len
  unfold rowK
  split
  · obtain ⟨a, b, e1, e2, e3⟩ := t0_ok N F C
    refine ⟨by dsimp only; omega, a, b, e1, e2, ?_, _, _, by rw [e3]; exact p0_ok F C, if', ic⟩
    rw [e3]; simp only [Str.length_append, len_sg (Str.ofString "."), g3, List.length_cons, List.length_nil]; omega
  · split
    · obtain ⟨a, b, e1, e2, e3⟩ := t1_ok N F C
      refine ⟨by dsimp only; omega, a, b, e1, e2, ?_, _, _, by rw [e3]; exact p1_ok F C, (i1_ok F C).1.trans if', (i1_ok F C).2.trans ic⟩
      rw [e3]; simp only [Str.length_append, len_sg (Str.ofString "."), len_sg (Str.ofString " "), g1, g3, List.length_cons, List.length_nil]; omega
    · split
      · obtain ⟨a, b, e1, e2, e3⟩ := t2_ok N F
        exact ⟨by dsimp only; omega, a, b, e1, e2, by rw [e3]; omega, by rw [e3]; exact .inl ⟨_, _, p2_ok F, if'⟩⟩
      · split
        · obtain ⟨a, b, e1, e2, e3⟩ := t3_ok N F C
          refine ⟨by dsimp only; omega, a, b, e1, e2, ?_, ?_⟩
          · rw [e3]; simp only [Str.length_append, len_sg (Str.ofString "."), g3, List.length_cons, List.length_nil]; omega
          · rw [e3]; exact .inr (.inr ⟨_, _, _, _, _, _, p3_ok F C, if', ic, ic⟩)
        · split
          · obtain ⟨a, b, e1, e2, e3⟩ := t4_ok N F
            refine ⟨by dsimp only; omega, a, b, e1, e2, ?_, ?_⟩
            · rw [e3]; simp only [Str.length_append, len_sg (Str.ofString "."), len_sg (Str.ofString "x"), g3, gX, List.length_cons, List.length_nil]; omega
            · rw [e3]; exact .inr (.inl ⟨_, _, p4_ok F, if'⟩)
          · exact ⟨by dsimp only; omega, _, t5_ok N F C⟩
theorem rowOf_ok (n : Int) : RowOk (rowOf n) := rowK_ok (nm_is n) (by have := line_range n; omega) (by have := col_range n; omega)
theorem rowOf_name (n : Int) : ∀ x, (rowOf n).name = some x → x ∈ [Str.ofString "", Str.ofString "a", Str.ofString "b", Str.ofString "a b", Str.ofString "c"] := by
  intro x hx
  have e : x = nmOf n := by
    unfold rowOf rowK at hx
    repeat' split at hx
    all_goals first | exact (Option.some.inj hx).symm | cases hx
  exact e ▸ nm_in n
end Mine
end
local macro_rules | `(tactic| walk_at "eval Name") => `(tactic| (k_here; (refine' PyProof.Rows.ld ?k1 ?k2 ?_; (case k1 => k_asm); (case k2 => assumption); k_whole)))
section
open PySem PySem.W PyProof.Rows PySem.Spec
set_option Elab.async false
set_option maxRecDepth 100000
set_option maxHeartbeats 8000000
namespace Mine
theorem append_turns {w : World} {prog : Program} {A : Around} {E : Value → Shared → Prop} {s : Shared} {h₀ : Heap} {L a : Addr} {vs : Array Value} {n : Nat} {v : Value} {m : Str → Option Value} {own tups nt : List (Addr × Obj)} {Q : Value → Shared → Prop} (F : Fr h₀ L s.heap m) (N : News h₀ L s.heap (nt ++ (a, listObj vs n) :: (tups ++ own)))
    (ht : ∀ p ∈ nt, p.2.cls = .type "tuple") (ho : ∀ p ∈ own, p.1 ≠ a) (hts : ∀ p ∈ tups, p.2.cls = .type "tuple") (hz : vs.size ≤ 1000)
    (h : ∀ h', Fr h₀ L h' m → News h₀ L h' (own ++ (a, listObj (vs.push v) (n + 1)) :: (nt ++ tups)) → Q .none { s with heap := h' }) : wpAny (model prog w) A (call (.builtin "list.append") [.ref a, v]) Q E s := by
  have nc : Value.type "tuple" ≠ Value.type "list" := by decide
  have ma : (a, listObj vs n) ∈ nt ++ (a, listObj vs n) :: (tups ++ own) := List.mem_append_right _ (.head _)
  refine append_news F N ma (news' := own ++ (a, listObj (vs.push v) (n + 1)) :: (nt ++ tups)) (fun p hp => ?_) hz fun h' F' N' _ => h h' F' N'
  rcases List.mem_append.mp hp with hp | hp
  · exact .inr ⟨List.mem_append_right _ (.tail _ (List.mem_append_right _ hp)), ho p hp⟩
  · rcases List.mem_cons.mp hp with rfl | hp
    · exact .inl rfl
    · rcases List.mem_append.mp hp with hp | hp
      · exact .inr ⟨List.mem_append_left _ hp, ne_cls N ma (List.mem_append_left _ hp) (by rw [ht p hp]; exact nc)⟩
      · have hm : p ∈ nt ++ (a, listObj vs n) :: (tups ++ own) := List.mem_append_right _ (.tail _ (List.mem_append_left own hp))
        exact .inr ⟨hm, ne_cls N ma hm (by rw [hts p hp]; exact nc)⟩
theorem nm_at {t1 t2 t3 t4 : Tok} : ∀ j : Nat, j < 4 → ∃ tx, (#[Value.str (Str.ofString "a") t1, .str (Str.ofString "b") t2, .str (Str.ofString "a b") t3, .str (Str.ofString "") t4] : Array Value)[j]? = some (.str (nmL.getD j (Str.ofString "")) tx)
  | 0, _ => ⟨_, rfl⟩
  | 1, _ => ⟨_, rfl⟩
  | 2, _ => ⟨_, rfl⟩
  | 3, _ => ⟨_, rfl⟩
  | n + 4, h => by omega
theorem nm_sub {prog : Program} {w : World} {A : Around} {E : Value → Shared → Prop} {s : Shared} {value slice : PySem.Expr} {l : Addr} {t1 t2 t3 t4 u : Tok} {n : Int} {Q : Value → Shared → Prop} (hl : s.heap.IsList l #[Value.str (Str.ofString "a") t1, .str (Str.ofString "b") t2, .str (Str.ofString "a b") t3, .str (Str.ofString "") t4])
    (hs : subscripted slice false (.ref l) (.int (n.fmod 4) u) = operate [.ref l, .int (n.fmod 4) u] (getItem (.ref l) (.int (n.fmod 4) u))) (h : ∀ tx, Q (.str (nmOf n) tx) s) :
    wpAny (model prog w) A (subscriptTail value slice (.ref l) (.int (n.fmod 4) u)) Q E s := by
  have r := fmod_range n (k := 4) (by decide)
  obtain ⟨tx, hx⟩ := nm_at (t1 := t1) (t2 := t2) (t3 := t3) (t4 := t4) (n.fmod 4).toNat (by omega)
  exact sub_lst hl r.1 (by omega) hx hs (h tx)
set_option pp.deepTerms false
theorem rows_ok {w : World} {l : List Env} {s : Shared} {R : Result → Shared → Prop} {p : Program} {loose : List Str} {mean : ExcName → Option Value} {mg mb : Str → Option Value} {S : Addr} {vs : List Value} {ns : List Int}
    (X₁ : (KK w.params).In s.heap) (T : Top p loose mean mg mb s.heap) (hS : s.heap.IsList S vs.toArray) (hi : IntsAre vs ns) (hlen : ns.length ≤ 63)
    (h : ∀ D h' tk, Ext s.heap h' → At h' D (((ns.take 8).map rowOf).map rowD) → s.heap.get? D = none → R (.ok (.ret (.ref D))) { s with heap := h', toks := tk }) :
    codeAny (model PySem.Challenge.rw_in0185_01.row.prog w) (AA 330 2000 l) (.call (.ref 220) ⟨[.ref S], []⟩) R s := by
  have X₀ := K_of_KK X₁
  revert X₀; k_fill; intro X₀
  w_top off
  refine' enterP X₀ T.nolimit ?k6 ?k7 ?k8 ?k9 ?kB ?_ ?c2 ?c3 ?c4 ?c5
  case k6 => k_is
  case k7 => k_is
  case k8 => k_room
  case k9 => exact BindsTo.of_eq rfl
  case kB => exact locs rfl
  case c2 => exact rfl
  case c3 => exact rfl
  case c4 => exact rfl
  case c5 => decide
  intro h₁ F N
  have kX := kFor F X₀
  (try dsimp only); (try k_fold)
  k_steps
  rename Fr _ _ _ _ => F1
  rename News _ _ _ _ => N1
  rename IntsAre _ (List.take 8 ns) => hI
  rename_i a0 a1 a2 a3 a4 a5 a6 a7 a8 a9 a10
  rename (a0 < _) => lt0
  refine iter_J (vs := _) (fun i m news => m (Str.ofString "rows") = some (.ref a0) ∧ ∃ vs n tups, news = (a0, listObj vs.toArray n) :: tups ∧ (∀ p ∈ tups, p.2.cls = .type "tuple") ∧ DatAll tups vs ((((List.take 8 ns).take i).map rowOf).map rowD)) ?ni rfl ⟨_, (N1 _ (.head _)).1, rfl, _, rfl⟩ (N1 _ (.head _)).2.1 F1 (news_sub N1 (fun p hp => .tail _ hp)) ⟨rfl, [], _, [], rfl, by simp, .nil⟩ ?turn ?done
  case ni =>
    rintro i m n ⟨_, vs, k, tups, rfl, ht, _⟩ p hp
    rcases List.mem_cons.mp hp with rfl | hp
    · exact fun e => absurd (show Value.type "list" = Value.type "list_iterator" from e) (by decide)
    · rw [ht p hp]; exact fun e => absurd e (by decide)
  case done =>
    intro m' news' h2 tk2 F2 N2 hJ
    obtain ⟨hm, vs2, n2, tups, rfl, ht, hM⟩ := hJ
    rw [hI.length, List.take_length] at hM
    k_steps
    exact h a0 _ _ F2.keep ⟨vs2, n2, tups, (N2 _ (.head _)).1, hM, fun p hp => (N2 p (.tail _ hp)).1⟩ (N2 _ (.head _)).2.2
  case turn =>
    intro i v m₁ news₁ s₁ own hv hJ ho F2 N2
    obtain ⟨number, hnum, t, rfl⟩ : ∃ number, (List.take 8 ns)[i]? = some number ∧ ∃ t, v = .int number t := by
      obtain ⟨hlt, _⟩ := List.getElem?_eq_some_iff.mp hv
      have hlt' : i < (List.take 8 ns).length := hI.length ▸ hlt
      obtain ⟨t, ht⟩ := hI.get i (List.take 8 ns)[i] (List.getElem?_eq_getElem hlt')
      rw [hv] at ht
      exact ⟨_, List.getElem?_eq_getElem hlt', t, Option.some.inj ht⟩
    obtain ⟨h2, gg, dd, tk2, os⟩ := s₁
    clear F1 N1
    obtain ⟨hm, vs2, n2, tups, rfl, ht, hM⟩ := hJ
    have N3 := news_sub N2 (news' := (a0, listObj vs2.toArray n2) :: (tups ++ own)) own_last
    clear N2
    k_steps
    rename Fr _ _ _ _ => F3
    rename News _ _ _ _ => N3
    refine nm_sub ⟨_, (N3 _ (.head _)).1, rfl, _, rfl⟩ rfl fun tx => ?_
    have N4 := news_sub N3 fun p hp => .tail _ hp
    clear N3
    generalize hnm : nmOf number = nm
    iterate 12 (first | walk1 | (dsimp only; walk1))
    rename Fr _ _ _ _ => F5
    generalize hkd : (number.fdiv 4).fmod 6 = kd at F5
    iterate 13 (first | walk1 | (dsimp only; walk1))
    rename Fr _ _ _ _ => F6
    generalize hln : 1 + (number.fdiv 24).fmod 9 = ln at F6
    iterate 10 (first | walk1 | (dsimp only; walk1))
    rename Fr _ _ _ _ => F7
    generalize hcl : (number.fdiv 216).fmod 1000 = cl at F7
    have N0 : Nm nm := hnm ▸ nm_is number
    have b1 : 0 ≤ ln := by have := line_range number; unfold lineOf at this; omega
    have b2 : ln < 10000000000 := by have := line_range number; unfold lineOf at this; omega
    have b3 : 0 ≤ cl := by have := col_range number; unfold colOf at this; omega
    have b4 : cl < 10000000000 := by have := col_range number; unfold colOf at this; omega
    have g1 : (Str.ofString (toString ln)).length ≤ 10 := num_len b1 b2
    have g2 : (Str.ofString (toString cl)).length ≤ 10 := num_len b3 b4
    have g3 : nm.length ≤ 3 := N0.len
    have hrow : rowOf number = rowK kd nm ln cl := by unfold rowOf lineOf colOf; rw [hkd, hnm, hln, hcl]
    have hk6 := fmod_range (number.fdiv 4) (k := 6) (by decide)
    rw [hkd] at hk6
    iterate 24 (first | walk1 | (dsimp only; walk1))
    have own_ne : ∀ p ∈ own, p.1 ≠ a0 := fun p hp => by
      rcases ho p hp with e | e
      · rw [e]; exact Nat.ne_of_gt lt0
      · exact Ne.symm (e.1 _ (.head _))
    have hsz : vs2.toArray.size ≤ 1000 := by
      rw [List.size_toArray, dat_len hM, List.length_map, List.length_map, List.length_take, List.length_take]
      exact Nat.le_trans (Nat.min_le_right _ _) (Nat.le_trans (Nat.min_le_left _ _) (by decide))
    have hcs : kd = 0 ∨ kd = 1 ∨ kd = 2 ∨ kd = 3 ∨ kd = 4 ∨ kd = 5 := by omega
    rcases hcs with rfl | rfl | rfl | rfl | rfl | rfl
    · k_steps
      rename Fr _ _ _ _ => F8
      rename News _ _ _ _ => N8
      refine append_turns (nt := [_, _]) F8 N8 (fun p hp => ?_) own_ne ht hsz ?_
      · simp only [List.mem_cons, List.not_mem_nil, or_false] at hp
        rcases hp with rfl | rfl <;> rfl
      intro h9 F9 N9
      k_steps
      refine turnJ F9 N9 ⟨hm, vs2 ++ [_], n2 + 1, _, by rw [← List.push_toArray], fun p hp => ?_, ?_⟩
      · rcases List.mem_append.mp hp with hp | hp
        · simp only [List.mem_cons, List.not_mem_nil, or_false] at hp
          rcases hp with rfl | rfl <;> rfl
        · exact ht p hp
      · rw [List.take_add_one, hnum, Option.toList_some, List.map_append, List.map_append]
        refine datAll_snoc ?_ (hM.mono fun p hp => List.mem_append_right _ hp)
        rw [hrow]
        exact DatIn.tuple (vs := [.str _ _, .str _ _, .ref _]) (.head _) (.cons (.str _ _) (.cons (.str _ _) (.cons (.tuple (vs := [.int _ _, .int _ _]) (.tail _ (.head _)) (.cons (.int _ _) (.cons (.int _ _) .nil))) .nil)))
    · k_steps
      rename Fr _ _ _ _ => F8
      rename News _ _ _ _ => N8
      refine append_turns (nt := [_, _]) F8 N8 (fun p hp => ?_) own_ne ht hsz ?_
      · simp only [List.mem_cons, List.not_mem_nil, or_false] at hp
        rcases hp with rfl | rfl <;> rfl
      intro h9 F9 N9
      k_steps
      refine turnJ F9 N9 ⟨hm, vs2 ++ [_], n2 + 1, _, by rw [← List.push_toArray], fun p hp => ?_, ?_⟩
      · rcases List.mem_append.mp hp with hp | hp
        · simp only [List.mem_cons, List.not_mem_nil, or_false] at hp
          rcases hp with rfl | rfl <;> rfl
        · exact ht p hp
      · rw [List.take_add_one, hnum, Option.toList_some, List.map_append, List.map_append]
        refine datAll_snoc ?_ (hM.mono fun p hp => List.mem_append_right _ hp)
        rw [hrow]
        exact DatIn.tuple (vs := [.str _ _, .str _ _, .ref _]) (.head _) (.cons (.str _ _) (.cons (.str _ _) (.cons (.tuple (vs := [.int _ _, .int _ _]) (.tail _ (.head _)) (.cons (.int _ _) (.cons (.int _ _) .nil))) .nil)))
    · k_steps
      rename Fr _ _ _ _ => F8
      rename News _ _ _ _ => N8
      refine append_turns (nt := [_]) F8 N8 (fun p hp => ?_) own_ne ht hsz ?_
      · simp only [List.mem_cons, List.not_mem_nil, or_false] at hp
        subst hp; rfl
      intro h9 F9 N9
      k_steps
      refine turnJ F9 N9 ⟨hm, vs2 ++ [_], n2 + 1, _, by rw [← List.push_toArray], fun p hp => ?_, ?_⟩
      · rcases List.mem_append.mp hp with hp | hp
        · simp only [List.mem_cons, List.not_mem_nil, or_false] at hp
          subst hp; rfl
        · exact ht p hp
      · rw [List.take_add_one, hnum, Option.toList_some, List.map_append, List.map_append]
        refine datAll_snoc ?_ (hM.mono fun p hp => List.mem_append_right _ hp)
        rw [hrow]
        exact DatIn.tuple (vs := [.str _ _, .str _ _, .none]) (.head _) (.cons (.str _ _) (.cons (.str _ _) (.cons .none .nil)))
    · k_steps
      rename Fr _ _ _ _ => F8
      rename News _ _ _ _ => N8
      refine append_turns (nt := [_]) F8 N8 (fun p hp => ?_) own_ne ht hsz ?_
      · simp only [List.mem_cons, List.not_mem_nil, or_false] at hp
        subst hp; rfl
      intro h9 F9 N9
      k_steps
      refine turnJ F9 N9 ⟨hm, vs2 ++ [_], n2 + 1, _, by rw [← List.push_toArray], fun p hp => ?_, ?_⟩
      · rcases List.mem_append.mp hp with hp | hp
        · simp only [List.mem_cons, List.not_mem_nil, or_false] at hp
          subst hp; rfl
        · exact ht p hp
      · rw [List.take_add_one, hnum, Option.toList_some, List.map_append, List.map_append]
        refine datAll_snoc ?_ (hM.mono fun p hp => List.mem_append_right _ hp)
        rw [hrow]
        exact DatIn.tuple (vs := [.str _ _, .str _ _, .none]) (.head _) (.cons (.str _ _) (.cons (.str _ _) (.cons .none .nil)))
    · k_steps
      rename Fr _ _ _ _ => F8
      rename News _ _ _ _ => N8
      refine append_turns (nt := [_]) F8 N8 (fun p hp => ?_) own_ne ht hsz ?_
      · simp only [List.mem_cons, List.not_mem_nil, or_false] at hp
        subst hp; rfl
      intro h9 F9 N9
      k_steps
      refine turnJ F9 N9 ⟨hm, vs2 ++ [_], n2 + 1, _, by rw [← List.push_toArray], fun p hp => ?_, ?_⟩
      · rcases List.mem_append.mp hp with hp | hp
        · simp only [List.mem_cons, List.not_mem_nil, or_false] at hp
          subst hp; rfl
        · exact ht p hp
      · rw [List.take_add_one, hnum, Option.toList_some, List.map_append, List.map_append]
        refine datAll_snoc ?_ (hM.mono fun p hp => List.mem_append_right _ hp)
        rw [hrow]
        exact DatIn.tuple (vs := [.str _ _, .str _ _, .none]) (.head _) (.cons (.str _ _) (.cons (.str _ _) (.cons .none .nil)))
    · k_steps
      rename Fr _ _ _ _ => F8
      rename News _ _ _ _ => N8
      refine append_turns (nt := [_]) F8 N8 (fun p hp => ?_) own_ne ht hsz ?_
      · simp only [List.mem_cons, List.not_mem_nil, or_false] at hp
        subst hp; rfl
      intro h9 F9 N9
      k_steps
      refine turnJ F9 N9 ⟨hm, vs2 ++ [_], n2 + 1, _, by rw [← List.push_toArray], fun p hp => ?_, ?_⟩
      · rcases List.mem_append.mp hp with hp | hp
        · simp only [List.mem_cons, List.not_mem_nil, or_false] at hp
          subst hp; rfl
        · exact ht p hp
      · rw [List.take_add_one, hnum, Option.toList_some, List.map_append, List.map_append]
        refine datAll_snoc ?_ (hM.mono fun p hp => List.mem_append_right _ hp)
        rw [hrow]
        exact DatIn.tuple (vs := [.str _ _, .none, .none]) (.head _) (.cons (.str _ _) (.cons .none (.cons .none .nil)))
end Mine
end
section
open PySem PySem.W PyProof.Rows PySem.Spec
set_option Elab.async false
set_option maxRecDepth 100000
set_option maxHeartbeats 2000000
namespace Mine
theorem news_any {h : Heap} {news : List (Addr × Obj)} (x : ∀ p ∈ news, h.get? p.1 = some p.2) : News ({} : Heap) h.objs.size h news := fun p hp => ⟨x p hp, Nat.ne_of_lt (Heap.lt_size (x p hp)), by
  cases q : ({} : Heap).get? p.1 with
  | none => rfl
  | some o => have := Heap.lt_size q; simp at this⟩
/-- two lists that tell the same data -/
theorem ats_ne {prog : Program} {w : World} {A : Around} {E : Value → Shared → Prop} {s : Shared} {a b : Addr} {Q : Value → Shared → Prop} {ds : List Dt} (ha : At s.heap a ds) (hb : At s.heap b ds) (ok : ∀ d ∈ ds, kqdOk 8 d = true) (hu : A.units + 64 < cLine) (h : Q (.bool false) s) :
    wpAny (model prog w) A (compareOp .NotEq (.ref a) (.ref b)) Q E s := by
  obtain ⟨va, na, nwa, a1, a2, a3⟩ := ha
  obtain ⟨vb, nb, nwb, b1, b2, b3⟩ := hb
  have N := news_any (h := s.heap) (news := (a, listObj va.toArray na) :: (b, listObj vb.toArray nb) :: (nwa ++ nwb)) (fun p hp => by
    rcases List.mem_cons.mp hp with rfl | hp
    · exact a1
    · rcases List.mem_cons.mp hp with rfl | hp
      · exact b1
      · exact (List.mem_append.mp hp).elim (a3 p) (b3 p))
  refine kqd_ne N (.head _) rfl rfl a2 (fun p hp => .tail _ (.tail _ (List.mem_append_left _ hp))) (.tail _ (.head _)) rfl rfl b2 (fun p hp => .tail _ (.tail _ (List.mem_append_right _ hp))) ok ok hu ?_
  simpa using h
theorem placeD_ok (n : Nat) (p : Int × Int) : kqdOk (n + 1) (placeD p) = true := by
  show (([.int p.1, .int p.2] : List PySem.W.Dat).all (kqdOk n)) = true
  cases n <;> simp [kqdOk]
theorem places_okd (n : Nat) (ps : List (Int × Int)) : kqdOk (n + 2) (.list (ps.map placeD)) = true := by
  show (ps.map placeD).all (kqdOk (n + 1)) = true
  rw [List.all_map, List.all_eq_true]
  exact fun p _ => placeD_ok n p
theorem str_okd (n : Nat) {x : Str} (h : PyData.strOk x = true) : kqdOk n (.str x) = true := by cases n <;> exact h
theorem asked_ok : ∀ x ∈ asked5, PyData.strOk x = true := by decide +kernel
theorem strs_okd (n : Nat) {xs : List Str} (h : ∀ x ∈ xs, PyData.strOk x = true) : kqdOk (n + 1) (.list (xs.map .str)) = true := by
  show (xs.map PySem.W.Dat.str).all (kqdOk n) = true
  rw [List.all_map, List.all_eq_true]
  exact fun x hx => str_okd n (h x hx)
theorem note_okd (r : Row) : PyData.strOk (noteS r) = true := by
  unfold noteS
  split
  · decide +kernel
  · split <;> decide +kernel
theorem addN_in {c : List Str} {r : Row} {P : Str → Prop} (hc : ∀ x ∈ c, P x) (hr : ∀ n, r.name = some n → P n) : ∀ x ∈ addN c r, P x := by
  intro x hx
  unfold addN at hx
  split at hx
  · exact hc x hx
  · rename_i n hn
    split at hx
    · exact hc x hx
    · rcases List.mem_append.mp hx with hx | hx
      · exact hc x hx
      · rw [List.mem_singleton.mp hx]; exact hr _ hn
theorem namesOf_in {rs : List Row} {P : Str → Prop} (h : ∀ r ∈ rs, ∀ n, r.name = some n → P n) : ∀ x ∈ namesOf rs, P x := by
  have key : ∀ (l : List Row) (c : List Str), (∀ r ∈ l, ∀ n, r.name = some n → P n) → (∀ x ∈ c, P x) → ∀ x ∈ l.foldl addN c, P x := by
    intro l
    induction l with
    | nil => intro c _ hc; exact hc
    | cons r l ih =>
      intro c hl hc
      rw [List.foldl_cons]
      exact ih _ (fun r' hr' => hl r' (.tail _ hr')) (addN_in hc (hl r (.head _)))
  exact key rs [] h (fun x hx => nomatch hx)
theorem behind_in {names : List Str} {more : Bool} {P : Str → Prop} : ∀ (ks b : List Str), (∀ x ∈ b, P x) → (∀ x ∈ ks, P x) → ∀ x ∈ ks.foldl (fun b k => if k ∈ names then b else if more then b ++ [k] else b) b, P x
  | [], _, hb, _ => hb
  | k :: ks, b, hb, hk => by
    rw [List.foldl_cons]
    refine behind_in ks _ ?_ fun x hx => hk x (.tail _ hx)
    split
    · exact hb
    · split
      · intro x hx
        rcases List.mem_append.mp hx with hx | hx
        · exact hb x hx
        · rw [List.mem_singleton.mp hx]; exact hk k (.head _)
      · exact hb
theorem want_okd {rs : List Row} {stop : Nat} (h : ∀ r ∈ rs, ∀ n, r.name = some n → n ∈ asked5) : ∀ d ∈ wantD rs stop, kqdOk 8 d = true := by
  have hn : ∀ x ∈ namesOf (rs.take stop), PyData.strOk x = true := namesOf_in (P := fun x => PyData.strOk x = true) fun r hr n e => asked_ok n (h r (List.mem_of_mem_take hr) n e)
  intro d hd
  unfold wantD at hd
  simp only [List.mem_cons, List.not_mem_nil, or_false] at hd
  rcases hd with rfl | rfl | rfl | rfl
  · exact strs_okd 7 fun x hx => by
      obtain ⟨r, _, rfl⟩ := List.mem_map.mp hx
      exact note_okd r
  · show List.all _ (kqdOk 7) = true
    rw [List.all_map, List.all_eq_true]
    intro n hm
    show (([.str n, .list ((allPlaces rs n).map placeD)] : List PySem.W.Dat).all (kqdOk 6)) = true
    rw [List.all_cons, List.all_cons, List.all_nil, Bool.and_true, Bool.and_eq_true]
    exact ⟨str_okd 6 (hn n hm), places_okd 4 _⟩
  · show List.all _ (kqdOk 7) = true
    rw [List.all_map, List.all_eq_true]
    intro k _
    exact places_okd 5 _
  · exact strs_okd 7 (behind_in _ _ hn asked_ok)
end Mine
end
section
open PySem PySem.W PyProof.Rows PySem.Spec
set_option Elab.async false
set_option maxRecDepth 100000
set_option maxHeartbeats 8000000
namespace Mine
theorem FramesUp.trans {l l' : List Env} {h h1 h2 : Heap} (x : FramesUp l h h1) (y : FramesUp l' h1 h2) (sub : ∀ a ∈ frs l, a ∈ frs l') : FramesUp l h h2 := fun a ha o e => by
  obtain ⟨sl, e1⟩ := x a ha o e
  obtain ⟨sl', e2⟩ := y a (sub a ha) _ e1
  exact ⟨sl', e2⟩
theorem FramesUp.fr {env : Env} {l : List Env} {g h h' : Heap} {L : Addr} {m : Str → Option Value} (y : FramesUp (env :: l) h h') (hf : env.frame = some L) (F : Fr g L h m) (k : ∀ b o, g.get? b = some o → h'.get? b = some o) : Fr g L h' m := by
  obtain ⟨oL, es, ep, e, hd, hr⟩ := F.ns
  obtain ⟨sl, e2⟩ := y L (by rw [frs_cons hf]; exact .head _) _ e
  exact ⟨⟨_, es, ep, e2, hd, hr⟩, k, F.above⟩
/-- a heap without the frames and the table -/
abbrev bare (h : Heap) (l : List Env) : Heap := hideAll h (100 :: frs l)
theorem bare_base (h : Heap) (l : List Env) : Base (bare h l) h := ⟨fun _ _ e => of_hideAll _ e, Nat.le_of_eq (hideAll_size _ _)⟩
theorem bare_keeps {g h : Heap} {l : List Env} (k : ∀ b o, g.get? b = some o → h.get? b = some o) (h100 : g.get? 100 = none) (hl : ∀ a ∈ frs l, g.get? a = none) : ∀ b o, g.get? b = some o → (bare h l).get? b = some o := fun b o e => hideAll_get _ (k b o e) fun hm => by
  rcases List.mem_cons.mp hm with rfl | hm
  · rw [h100] at e; cases e
  · rw [hl b hm] at e; cases e
/-- the ledger of the loop over stops -/
def EachL (g h₀ : Heap) (l : List Env) (AK : Addr) (akv : List Value) (akn : Nat) (news : List (Addr × Obj)) : Prop :=
  ∃ ps lam fl, news = (AK, listObj akv.toArray akn) :: (100, tabObj ps) :: (lam ++ fl) ∧ TabOk g lam ps ∧ (∀ q ∈ lam, Inert q.2) ∧ FlOk l h₀ fl
theorem EachL.notRI {g h₀ : Heap} {l : List Env} {AK : Addr} {akv : List Value} {akn : Nat} {news : List (Addr × Obj)} (x : EachL g h₀ l AK akv akn news) : ∀ p ∈ news, NotRI p.2 := by
  obtain ⟨ps, lam, fl, rfl, _, hl, hf⟩ := x
  intro p hp
  rcases List.mem_cons.mp hp with rfl | hp
  · exact notRI_seq rfl
  · rcases List.mem_cons.mp hp with rfl | hp
    · exact .inl (fun q => by cases q)
    · rcases List.mem_append.mp hp with hp | hp
      · exact (hl p hp).2.2
      · obtain ⟨_, es, n, e⟩ := hf.1 p hp
        exact notRI_dict e
theorem EachL.end {g h₀ h : Heap} {L : Addr} {m : Str → Option Value} {l : List Env} {AK : Addr} {akv : List Value} {akn : Nat} {own news : List (Addr × Obj)} (x : EachL g h₀ l AK akv akn news) (F : Fr g L h m) (N : News g L h (own ++ news)) : FramesUp l h₀ h ∧ (TabE h ∨ TabF h) := by
  obtain ⟨ps, lam, fl, rfl, ht, hl, hf⟩ := x
  have N' := fun z hz => (N z (List.mem_append_right _ hz)).1
  exact ⟨fl_up hf fun p hp => N' p (.tail _ (.tail _ (List.mem_append_right _ hp))), ht.tab F.keep (fun p hp => N' p (.tail _ (.tail _ (List.mem_append_left _ hp)))) (N' _ (.tail _ (.head _)))⟩
/-- the ledger behind a run -/
theorem EachL.next {g h₀ h h' : Heap} {L : Addr} {m : Str → Option Value} {env : Env} {l : List Env} {AK : Addr} {akv : List Value} {akn : Nat} {own news : List (Addr × Obj)} (hf : env.frame = some L) (C : FramesOk l h₀) (hgl : ∀ a ∈ frs l, g.get? a = none) (h100 : g.get? 100 = none)
    (x : EachL g h₀ l AK akv akn news) (F : Fr g L h m) (N : News g L h (own ++ news)) (ho : ∀ p ∈ own, p.2.cls = .type "range_iterator" ∧ ∃ vs, p.2.data = .fields vs)
    (k : ∀ b o, (bare h (env :: l)).get? b = some o → h'.get? b = some o) (up : FramesUp (env :: l) h h') (tab : TabE h' ∨ TabF h') :
    Fr g L h' m ∧ ∃ news', News g L h' (own ++ news') ∧ EachL g h₀ l AK akv akn news' := by
  obtain ⟨up0, _⟩ := x.end F N
  have gL : g.get? L = none := Heap.get?_none_of_le F.above
  have st := bare_keeps (l := env :: l) F.keep h100 (fun a ha => by
    rw [frs_cons hf] at ha
    rcases List.mem_cons.mp ha with rfl | ha
    · exact gL
    · exact hgl a ha)
  have F' := up.fr hf F fun b o e => k b o (st b o e)
  refine ⟨F', ?_⟩
  obtain ⟨ps, lam, fl, rfl, ht, hl, hfl⟩ := x
  obtain ⟨ps', lam', t100, tabO, Nlam, inl, fieldsl⟩ := tab_start F' tab
  have up' : FramesUp l h₀ h' := up0.trans up fun a ha => by rw [frs_cons hf]; exact .tail _ ha
  have lt100 : (100, tabObj ps) ∈ own ++ (AK, listObj akv.toArray akn) :: (100, tabObj ps) :: (lam ++ fl) := List.mem_append_right _ (.tail _ (.head _))
  have stay : ∀ q ∈ own ++ (AK, listObj akv.toArray akn) :: (100, tabObj ps) :: (lam ++ fl), (∀ es n, q.2.data ≠ .dict es n) → q.2 ≠ tabObj ps → h'.get? q.1 = some q.2 ∧ q.1 ≠ L ∧ g.get? q.1 = none := fun q hq hd hn => by
    refine ⟨k _ _ (hideAll_get _ (N q hq).1 fun hm => ?_), (N q hq).2⟩
    rcases List.mem_cons.mp hm with e | hm
    · exact ne_objs N hq lt100 hn e
    · rw [frs_cons hf] at hm
      rcases List.mem_cons.mp hm with e | hm
      · exact (N q hq).2.1 e
      · obtain ⟨o, es, n, e1, e2⟩ := (up0.ok C).mem hm
        rw [(N q hq).1] at e1
        exact hd es n (by rw [Option.some.inj e1]; exact e2)
  refine ⟨(AK, listObj akv.toArray akn) :: (100, tabObj ps') :: (lam' ++ flOf l h'), fun q hq => ?_, ps', lam', flOf l h', rfl, tabO, inl, fl_make C up'⟩
  rcases List.mem_append.mp hq with hq | hq
  · obtain ⟨o1, vs, o2⟩ := ho q hq
    exact stay q (List.mem_append_left _ hq) (fun es n z => by rw [o2] at z; cases z) (fun z => by rw [z] at o1; cases o1)
  · rcases List.mem_cons.mp hq with rfl | hq
    · exact stay _ (List.mem_append_right _ (.head _)) (fun es n z => by cases z) (fun z => by cases z)
    · rcases List.mem_cons.mp hq with rfl | hq
      · exact ⟨t100, (N _ lt100).2⟩
      · rcases List.mem_append.mp hq with hq | hq
        · exact Nlam q hq
        · refine ⟨(flOf_get q hq).2, fun z => ?_, hgl _ (flOf_get q hq).1⟩
          obtain ⟨o, es, n, e1, _⟩ := C.mem (flOf_get q hq).1
          obtain ⟨sl, m0⟩ := hfl.2 q.1 (flOf_get q hq).1 o e1
          exact (N _ (List.mem_append_right _ (.tail _ (.tail _ (List.mem_append_right _ m0))))).2.1 z
theorem EachL.asked {g h₀ h : Heap} {L : Addr} {m : Str → Option Value} {env : Env} {l : List Env} {AK : Addr} {akv : List Value} {akn : Nat} {own news : List (Addr × Obj)} (hf : env.frame = some L) (C : FramesOk l h₀) (x : EachL g h₀ l AK akv akn news) (F : Fr g L h m) (N : News g L h (own ++ news)) : (bare h (env :: l)).get? AK = some (listObj akv.toArray akn) := by
  obtain ⟨up0, _⟩ := x.end F N
  obtain ⟨ps, lam, fl, rfl, _, _, _⟩ := x
  have mA : (AK, listObj akv.toArray akn) ∈ own ++ (AK, listObj akv.toArray akn) :: (100, tabObj ps) :: (lam ++ fl) := List.mem_append_right _ (.head _)
  have mT : (100, tabObj ps) ∈ own ++ (AK, listObj akv.toArray akn) :: (100, tabObj ps) :: (lam ++ fl) := List.mem_append_right _ (.tail _ (.head _))
  refine hideAll_get _ (N _ mA).1 fun hm => ?_
  rcases List.mem_cons.mp hm with e | hm
  · exact ne_objs N mA mT (fun z => by cases z) e
  · rw [frs_cons hf] at hm
    rcases List.mem_cons.mp hm with e | hm
    · exact (N _ mA).2.1 e
    · obtain ⟨o, es, n, e1, e2⟩ := (up0.ok C).mem hm
      rw [(N _ mA).1] at e1
      have e3 := Option.some.inj e1
      rw [← e3] at e2
      cases e2
/-- a run, called from the loop over stops -/
theorem each_run {w : World} {A : Around} {E : Value → Shared → Prop} {s : Shared} {env : Env} {l : List Env} {g h₀ : Heap} {L RW AK : Addr} {m : Str → Option Value} {akv : List Value} {akn i : Nat} {ts : Tok} {own news : List (Addr × Obj)} {rs : List Row} {Q : Value → Shared → Prop} {p : Program} {loose : List Str} {mean : ExcName → Option Value} {mg mb : Str → Option Value}
    (hf : env.frame = some L) (hk : env.scope.kind ≠ .module) (C : FramesOk l h₀) (hgl : ∀ a ∈ frs l, g.get? a = none) (h100 : g.get? 100 = none) (X₁ : (KK w.params).In g) (T : Top p loose mean mg mb g) (hRW : At g RW (rs.map rowD)) (ok : ∀ r ∈ rs, RowOk r) (few : rs.length ≤ 8) (hnm : ∀ r ∈ rs, ∀ n, r.name = some n → n ∈ asked5)
    (hAD : DatAll [] akv (asked5.map .str)) (hE : EachL g h₀ l AK akv akn news) (F : Fr g L s.heap m) (N : News g L s.heap (own ++ news)) (ho : ∀ p ∈ own, p.2.cls = .type "range_iterator" ∧ ∃ vs, p.2.data = .fields vs)
    (a1 : A.handled = none) (a2 : A.depth ≤ 330) (a3 : A.frames = some (env :: l)) (a4 : A.guards = some []) (a5 : A.units ≤ 2000)
    (h : ∀ h' tk a news', Fr g L h' m → News g L h' (own ++ news') → EachL g h₀ l AK akv akn news' → At h' a (runD rs i) → Q (.ref a) { s with heap := h', toks := tk }) :
    wpZ (model PySem.Challenge.rw_in0185_01.row.prog w) A (call (.ref 232) [.ref RW, .int (i : Int) ts, .ref AK]) Q E s := by
  obtain ⟨up0, tab0⟩ := hE.end F N
  have gL : g.get? L = none := Heap.get?_none_of_le F.above
  have st := bare_keeps (l := env :: l) F.keep h100 (fun a ha => by
    rw [frs_cons hf] at ha
    rcases List.mem_cons.mp ha with rfl | ha
    · exact gL
    · exact hgl a ha)
  refine Z.call (upZ (run_ok (g := bare s.heap (env :: l)) (l := env :: l) (bare_base _ _) (X₁.keeps st) (T.keeps st) (hideAll_none _ (.head _)) tab0 ((up0.ok C).cons hk hf F.ns) (fun a ha => hideAll_none _ (.tail _ ha)) (hRW.keeps st) ok few hnm ⟨akv, akn, hE.asked hf C F N, hAD⟩ ?_) a1 a2 a3 a4 a5)
  intro h' tk a k up tab d _
  obtain ⟨F', news', N', hE'⟩ := hE.next hf C hgl h100 F N ho k up tab
  exact h h' tk a news' F' N' hE' d
set_option pp.deepTerms false
theorem each_ok {w : World} {l : List Env} {s : Shared} {g : Heap} {R : Result → Shared → Prop} {p : Program} {loose : List Str} {mean : ExcName → Option Value} {mg mb : Str → Option Value} {RW : Addr} {rs : List Row}
    (GB : Base g s.heap) (X₁ : (KK w.params).In g) (T : Top p loose mean mg mb g) (h100 : g.get? 100 = none) (tab : TabE s.heap ∨ TabF s.heap) (C : FramesOk l s.heap) (hgl : ∀ a ∈ frs l, g.get? a = none)
    (hRW : At g RW (rs.map rowD)) (ok : ∀ r ∈ rs, RowOk r) (few : rs.length ≤ 8) (hnm : ∀ r ∈ rs, ∀ n, r.name = some n → n ∈ asked5)
    (h : ∀ h' tk, (∀ b o, g.get? b = some o → h'.get? b = some o) → (TabE h' ∨ TabF h') → R (.ok (.ret (.bool true))) { s with heap := h', toks := tk }) :
    codeZ (model PySem.Challenge.rw_in0185_01.row.prog w) (AA 320 1500 l) (.call (.ref 256) ⟨[.ref RW], []⟩) R s := by
  have X₀ := K_of_KK X₁
  revert X₀; k_fill; intro X₀
  obtain ⟨rv, rn, rnews, hR1, hR2, hR3⟩ := id hRW
  have hRlen : rv.length = rs.length := by rw [dat_len hR2, List.length_map]
  w_top off
  refine' enterZ (fun a o e => GB.stays _ _ (X₀ a o e)) (T.keeps GB.stays).nolimit ?k6 ?k7 ?k8 ?k9 ?kB ?_ ?c2 ?c3 ?c4 ?c5
  case k6 => k_is
  case k7 => k_is
  case k8 => k_room
  case k9 => exact BindsTo.of_eq rfl
  case kB => exact locs rfl
  case c2 => exact rfl
  case c3 => exact rfl
  case c4 => exact rfl
  case c5 => decide
  intro h₁ F N
  have keep₀ := F.keep
  have tab₁ : TabE h₁ ∨ TabF h₁ := tab.imp (keep₀ _ _) fun ⟨c, a, b⟩ => ⟨c, keep₀ _ _ a, b.keeps keep₀⟩
  have lt100 : 100 < s.heap.objs.size := tab.elim (fun t => Heap.lt_size t) (fun ⟨_, t, _⟩ => Heap.lt_size t)
  obtain ⟨ps, lam, t100, tabO, Nlam, inl, fieldsl⟩ := tab_start (GB.fr F) tab₁
  have up₁ : FramesUp l s.heap h₁ := fun a ha o e => ⟨o.slots, keep₀ _ _ e⟩
  have Nfl : News g s.heap.objs.size h₁ (flOf l h₁) := fun q hq => by
    obtain ⟨o, _, _, e, _⟩ := C.mem (flOf_get q hq).1
    exact ⟨(flOf_get q hq).2, Nat.ne_of_lt (Heap.lt_size e), hgl _ (flOf_get q hq).1⟩
  have N1 : News g s.heap.objs.size h₁ ((100, tabObj ps) :: (lam ++ flOf l h₁)) := fun q hq => by
    rcases List.mem_cons.mp hq with rfl | hq
    · exact ⟨t100, Nat.ne_of_lt lt100, h100⟩
    · exact (List.mem_append.mp hq).elim (Nlam q) (Nfl q)
  replace F := GB.fr F
  have kX := kFor F X₀
  clear N
  (try dsimp only); (try k_fold)
  refine Z.execs_then ?_
  k_steps
  rename Fr _ _ _ _ => F4
  rename News _ _ _ _ => N4
  (try dsimp only)
  rename Addr => AK
  refine Z.execs_cons ?_
  have hRL : g.IsList RW rv.toArray := ⟨_, hR1, rfl, _, rfl⟩
  refine Z.mono (For_Z g rfl rfl ?_) (fun _ _ x => x) (fun _ _ x => x.elim)
  k_steps
  refine PySem.Calls.call_len_list (hRL.at fun o e => F4.keep _ _ e) (by rw [List.size_toArray, hRlen]; omega) ?_
  rw [show ((rv.toArray.size : Nat) : Int) = (rs.length : Int) by rw [List.size_toArray, hRlen]]
  iterate 3 (first | walk1 | (dsimp only; walk1))
  refine PySem.call_range_1 ?_
  dsimp only
  obtain ⟨akv, akn, N5, hAD⟩ : ∃ akv akn, News g s.heap.objs.size _ ((AK, listObj (List.toArray akv) akn) :: (100, tabObj ps) :: (lam ++ flOf l h₁)) ∧ DatAll [] akv (asked5.map .str) := ⟨_, 0, N4, .cons (.str _ _) (.cons (.str _ _) (.cons (.str _ _) (.cons (.str _ _) (.cons (.str _ _) .nil))))⟩
  clear N4
  have ecast : (rs.length : Int) + 2 = ((rs.length + 2 : Nat) : Int) := by omega
  refine iter_RZ (a := 0) (b := (rs.length : Int) + 2) (n := rs.length + 2) [] (fun i m news => m (Str.ofString "rows") = some (.ref RW) ∧ m (Str.ofString "asked") = some (.ref AK) ∧ EachL g s.heap l AK akv akn news) (fun i m n x => x.2.2.notRI) rfl (Heap.get?_push_size _ rfl) ?small ?size (F4.push _) (fun p hp => ⟨Heap.get?_push_of_some _ (N5 p hp).1, (N5 p hp).2⟩) ⟨rfl, rfl, ps, lam, flOf l h₁, rfl, tabO, inl, fl_make C up₁⟩ ?turn ?done
  case small => rw [ecast]; exact small_range _ (by omega)
  case size => rw [ecast]; exact size_range _ (by omega)
  case done =>
    intro m' news' h5 tk5 F5 N5' hJ
    dsimp only
    clear F4 N5
    obtain ⟨upE, tabE⟩ := hJ.2.2.end (own := []) F5 N5'
    k_steps
    exact h _ _ F5.keep tabE
  case turn =>
    intro i ts m₁ news₁ s₁ own hi ⟨m1, m2, hE⟩ ho F5 N6
    obtain ⟨h5, gg, dd, tk5, os⟩ := s₁
    clear F4 N5
    simp only [Int.zero_add] at F5
    refine Z.execs_cons ?_
    refine Z.If ?_
    refine Z.compare ?_
    refine Z.callName ?_
    k_steps
    refine Z.withKeeper rfl rfl (by show 2 < 30; decide) ?_
    iterate 7 (first | walk1 | (dsimp only; walk1))
    have hk232 : keepIn (hk.heap_39 w.params) (.ref 232) = true := by kernel_rfl
    have ho' : ∀ p ∈ own, p.2.cls = .type "range_iterator" ∧ ∃ vs, p.2.data = .fields vs := fun p hp => (ho p hp).elim (fun z => nomatch z) fun z => z.2
    refine ⟨keeps_K (K := hk.heap_39 w.params) hk232 _ (X₀.keeps F5.keep), ?_⟩
    refine each_run rfl (show ScopeKind.function ≠ ScopeKind.module by decide) C hgl h100 X₁ T hRW ok few hnm hAD hE F5 N6 ho' rfl (Nat.le_of_ble_eq_true rfl) rfl rfl (Nat.le_of_ble_eq_true rfl) ?_
    intro h6 tk6 a1 news6 F6 N6' hE6 d1
    clear F5 N6
    dsimp only
    iterate 1 (first | walk1 | (dsimp only; walk1))
    rw [markedBehindIn_of_false (by rfl)]
    k_steps
    have ask6 : h6.get? AK = some (listObj akv.toArray akn) := by
      obtain ⟨_, _, _, e, _⟩ := id hE6
      exact (N6' _ (List.mem_append_right _ (by rw [e]; exact .head _))).1
    refine wpAny_call ?_
    refine up (want_ok (s := ⟨h6, _, _, _, _⟩) (g := h6) ⟨fun _ _ e => e, Nat.le_refl _⟩ (X₁.keeps F6.keep) (T.keeps F6.keep) (hRW.keeps F6.keep) few (by omega) ⟨akv, akn, ask6, hAD⟩ ?_) rfl (Nat.le_of_ble_eq_true rfl) rfl rfl (Nat.le_of_ble_eq_true rfl)
    intro h7 tk7 a2 x7 _ d2
    have F7 := Fr.ext F6 x7
    have N7 := News.ext N6' x7
    have d1' : At h7 a1 (wantD rs i) := by rw [← plain_law]; exact d1.keeps x7
    clear F6 N6' d1 ask6
    dsimp only
    refine ats_ne d1' d2 (want_okd hnm) (Nat.le_of_ble_eq_true rfl) ?_
    k_steps
    exact turnJ F7 N7 ⟨m1, m2, hE6⟩
end Mine
end
section
open PySem PySem.W PyProof.Rows PySem.Spec
set_option Elab.async false
set_option maxRecDepth 100000
set_option maxHeartbeats 8000000
namespace Mine
theorem kk_sub (P : Params) : (KK P).map (fun p => (p.1, (hx.heap_39 P).lookup p.1)) = (KK P).map (fun p => (p.1, some p.2)) := by kernel_rfl
theorem KK_of {P : Params} {h : Heap} (X : (hx.heap_39 P).In h) : (KK P).In h := fun a o e => X a o (lookup_map (kk_sub P) e)
theorem tab_of {P : Params} {h : Heap} (X : (hx.heap_39 P).In h) : TabE h := X 100 _ (by kernel_rfl)
theorem not_ns {h₀ h : Heap} {L a : Addr} {m : Str → Option Value} {o : Obj} (F : Fr h₀ L h m) (e : h.get? a = some o) (hd : ∀ es n, o.data ≠ .dict es n) : a ≠ L := fun q => by
  obtain ⟨oL, es, ep, hL, hLd, _⟩ := F.ns
  rw [← q, e] at hL
  exact hd _ _ (by rw [Option.some.inj hL]; exact hLd)
def isSeq (p : Addr × Obj) : Bool := match p.2.data with | .seq _ _ => true | _ => false
mutual
theorem datIn_seq {news : List (Addr × Obj)} : ∀ {v : Value} {d : PySem.W.Dat}, DatIn news v d → DatIn (news.filter isSeq) v d
  | _, _, .none => .none
  | _, _, .bool b => .bool b
  | _, _, .int i t => .int i t
  | _, _, .str x t => .str x t
  | _, _, .bytes b t => .bytes b t
  | _, _, .tuple h r => .tuple (List.mem_filter.mpr ⟨h, rfl⟩) (datAll_seq r)
  | _, _, .list h r => .list (List.mem_filter.mpr ⟨h, rfl⟩) (datAll_seq r)
theorem datAll_seq {news : List (Addr × Obj)} : ∀ {vs : List Value} {ds : List PySem.W.Dat}, DatAll news vs ds → DatAll (news.filter isSeq) vs ds
  | _, _, .nil => .nil
  | _, _, .cons h r => .cons (datIn_seq h) (datAll_seq r)
end
theorem seq_ns {p : Addr × Obj} (h : isSeq p = true) : ∀ es n, p.2.data ≠ .dict es n := fun es n z => by
  unfold isSeq at h
  rw [z] at h; cases h
theorem at_held {h₀ h : Heap} {L D : Addr} {m : Str → Option Value} {ds : List Dt} (F : Fr h₀ L h m) (M : At h D ds) :
    ∃ K, News h₀ L h K ∧ ∀ h' : Heap, (∀ b o, h₀.get? b = some o → h'.get? b = some o) → (∀ p ∈ K, h'.get? p.1 = some p.2) → At h' D ds := by
  obtain ⟨vs, n, news, h1, h2, h3⟩ := M
  have W : ∀ p ∈ (D, listObj vs.toArray n) :: news.filter isSeq, h.get? p.1 = some p.2 ∧ p.1 ≠ L := fun p hp => by
    rcases List.mem_cons.mp hp with rfl | hp
    · exact ⟨h1, not_ns F h1 fun _ _ z => by cases z⟩
    · obtain ⟨m1, m2⟩ := List.mem_filter.mp hp
      exact ⟨h3 p m1, not_ns F (h3 p m1) (seq_ns m2)⟩
  obtain ⟨K, NK, _, _, fromK⟩ := held_list F _ W
  exact ⟨K, NK, fun h' k1 k2 => ⟨vs, n, news.filter isSeq, fromK h' k1 k2 _ (.head _), datAll_seq h2, fun p hp => fromK h' k1 k2 p (.tail _ hp)⟩⟩
/-- a list of data stands in the heap without the frames and the table -/
theorem at_bare {h : Heap} {D : Addr} {l : List Env} {ds : List Dt} {ps : Array Value} (C : FramesOk l h) (t : h.get? 100 = some (tabObj ps)) (M : At h D ds) : At (bare h l) D ds := by
  obtain ⟨vs, n, news, h1, h2, h3⟩ := M
  have key : ∀ q : Addr × Obj, h.get? q.1 = some q.2 → isSeq q = true → (bare h l).get? q.1 = some q.2 := fun q e i => hideAll_get _ e fun hm => by
    rcases List.mem_cons.mp hm with z | hm
    · rw [z, t] at e
      unfold isSeq at i
      rw [← Option.some.inj e] at i
      cases i
    · obtain ⟨o, es, k, e1, e2⟩ := C.mem hm
      rw [e] at e1
      exact seq_ns i es k (by rw [Option.some.inj e1]; exact e2)
  exact ⟨vs, n, news.filter isSeq, key (D, listObj vs.toArray n) h1 rfl, datAll_seq h2, fun p hp => key p (h3 p (List.mem_filter.mp hp).1) (List.mem_filter.mp hp).2⟩
theorem hide_tab {h : Heap} {ps : Array Value} (t : h.get? 100 = some (tabObj ps)) {b : Addr} {o : Obj} (e : h.get? b = some o) (ho : o ≠ tabObj ps) : (h.hide 100).get? b = some o :=
  (Heap.hide_ne h fun q => ho (by rw [q, t] at e; exact (Option.some.inj e).symm)).trans e
theorem ns_hide {h : Heap} {ps : Array Value} (t : h.get? 100 = some (tabObj ps)) {a : Addr} {m : Str → Option Value} (x : h.Ns a m) : (h.hide 100).Ns a m := by
  obtain ⟨o, es, ep, ho, hd, r⟩ := x
  exact ⟨o, es, ep, hide_tab t ho (fun z => by rw [z] at hd; cases hd), hd, r⟩
def onlyImports (p : Program) : Program := { p with main := { p.main with body := p.main.body.filter fun st => match st with | .Import _ _ => true | .ImportFrom .. => true | _ => false } }
theorem oi_imports (p : Program) : importsNone (onlyImports p) = importsNone p := by
  unfold importsNone onlyImports
  show List.all (List.filter _ p.main.body) _ = List.all p.main.body _
  induction p.main.body with
  | nil => rfl
  | cons st r ih =>
    cases st <;> simp_all [List.filter_cons]
theorem oi_body {p : Program} {st : Stmt} (h : st ∈ (onlyImports p).main.body) : (∃ a b, st = .Import a b) ∨ ∃ a b c d, st = .ImportFrom a b c d := by
  obtain ⟨_, h2⟩ := List.mem_filter.mp (show st ∈ p.main.body.filter _ from h)
  cases st <;> simp at h2
  · exact .inl ⟨_, _, rfl⟩
  · exact .inr ⟨_, _, _, _, rfl⟩
theorem oi_recs (p : Program) : recsOf (onlyImports p) = [] := by
  unfold recsOf
  rw [List.filterMap_eq_nil_iff]
  intro st hs
  rcases oi_body hs with ⟨a, b, rfl⟩ | ⟨a, b, c, d, rfl⟩ <;> rfl
theorem oi_lits (p : Program) : litsOf (onlyImports p) = [] := by
  unfold litsOf
  rw [List.filterMap_eq_nil_iff]
  intro st hs
  rcases oi_body hs with ⟨a, b, rfl⟩ | ⟨a, b, c, d, rfl⟩ <;> rfl
theorem oi_clss (p : Program) (loose : List Str) : clssOf (onlyImports p) loose = [] := by
  unfold clssOf
  rw [List.filterMap_eq_nil_iff]
  intro st hs
  rcases oi_body hs with ⟨a, b, rfl⟩ | ⟨a, b, c, d, rfl⟩ <;> rfl
theorem oi_vals (p : Program) (x : Str) : valOf (onlyImports p) x = none := by
  unfold valOf
  rw [List.findSome?_eq_none_iff]
  intro st hs
  rcases oi_body (List.mem_reverse.mp hs) with ⟨a, b, rfl⟩ | ⟨a, b, c, d, rfl⟩ <;> rfl
theorem oi_owns (p : Program) : ownsOf (onlyImports p) = [] := by
  unfold ownsOf
  have : ∀ l : List Stmt, (∀ st ∈ l, st ∈ (onlyImports p).main.body) → l.foldl ownStep [] = [] := fun l => by
    induction l with
    | nil => intro _; rfl
    | cons st r ih =>
      intro h
      have e : ownStep [] st = [] := by
        rcases oi_body (h st (.head _)) with ⟨a, b, rfl⟩ | ⟨a, b, c, d, rfl⟩ <;> rfl
      rw [List.foldl_cons, e]
      exact ih fun st hs => h st (.tail _ hs)
  exact this _ fun _ h => h
theorem top_hide {p : Program} {loose : List Str} {mean : ExcName → Option Value} {mg mb : Str → Option Value} {h : Heap} {ps : Array Value} (T : Top p loose mean mg mb h) (t : h.get? 100 = some (tabObj ps)) :
    Top (onlyImports p) (loose ++ ((recsOf p).map (·.name) ++ ((litsOf p).map (·.1) ++ (clssOf p loose).map (·.name)))) mean mg mb (h.hide 100) where
  g := ns_hide t T.g
  b := ns_hide t T.b
  nolimit := by obtain ⟨mc, a, b⟩ := T.nolimit; exact ⟨mc, ns_hide t a, b⟩
  nodigits := by obtain ⟨mc, a, b⟩ := T.nodigits; exact ⟨mc, ns_hide t a, b⟩
  fn := fun d hd => by rw [oi_recs] at hd; cases hd
  own := fun o ho => by rw [oi_owns] at ho; cases ho
  const := fun x d hd => by rw [oi_vals] at hd; cases hd
  free := fun x h1 h2 _ _ _ => by
    simp only [List.mem_append, not_or] at h2
    exact T.free x h1 h2.1 h2.2.1 h2.2.2.1 h2.2.2.2
  builtins := T.builtins
  tab := fun d hd => by rw [oi_recs] at hd; cases hd
  bmain := by
    obtain ⟨bm, ob, h1, h2, h3, h4, r⟩ := T.bmain
    exact ⟨bm, ob, h1, h2, hide_tab t h3 (fun z => by rw [z] at h4; cases h4), h4, r⟩
  seer := fun hi => by
    have S := T.seer (by rw [← oi_imports]; exact hi)
    refine ⟨?_, ?_, ?_, ?_⟩
    · obtain ⟨mc, a, r⟩ := S.statics; exact ⟨mc, ns_hide t a, r⟩
    · obtain ⟨mc, a, r⟩ := S.mods; exact ⟨mc, ns_hide t a, r⟩
    · obtain ⟨mc, a, r⟩ := S.imp; exact ⟨mc, ns_hide t a, r⟩
    · obtain ⟨mg', bm, ob, a, b, c, d, r⟩ := S.main
      exact ⟨mg', bm, ob, ns_hide t a, b, hide_tab t c (fun z => by rw [z] at d; cases d), d, r⟩
theorem KK_hide {P : Params} {h : Heap} (X : (KK P).In h) : (KK P).In (h.hide 100) := fun a o e => (Heap.hide_ne h fun q => by
  have e0 : (KK P).lookup 100 = none := by kernel_rfl
  rw [q, e0] at e; cases e).trans (X a o e)
def tabIn (K : Frag) (c P : Addr) : Bool := match K.lookup c with
  | some ⟨.type "code", _, .fields vs, _⟩ => (match (vs[11]? : Option Value) with | some (.ref P') => P' == P | _ => false)
  | _ => false
theorem tab_in {K : Frag} {h : Heap} {c P : Addr} (X : K.In h) (e : tabIn K c P = true) : isCodeTable h P := by
  unfold tabIn at e
  split at e
  · rename_i vs _ hk
    split at e
    · rename_i P' h11
      have hP : P' = P := beq_iff_eq.mp e
      subst hP
      exact ⟨c, _, vs, X _ _ hk, rfl, rfl, h11⟩
    · cases e
  · cases e
theorem tab_code {P : Params} {h : Heap} (X : (hx.heap_39 P).In h) : isCodeTable h 100 := tab_in (c := 104) (K_of_KK (KK_of X)) (by kernel_rfl)
/-- the law's end: the list that was given stays, the code table may have grown -/
theorem old_end {P : Params} {h₀ h h' : Heap} {L : Addr} {m : Str → Option Value} {env : Env} (hf : env.frame = some L) (X : (hx.heap_39 P).In h₀) (F : Fr h₀ L h m) (keep : ∀ b o, (bare h [env]).get? b = some o → h'.get? b = some o) (t : TabE h' ∨ TabF h') : OldK h₀ h' := by
  have ⟨ps, t'⟩ : ∃ ps, h'.get? 100 = some (tabObj ps) := t.elim (fun t => ⟨_, t⟩) fun ⟨_, t, _⟩ => ⟨_, t⟩
  have up : ∀ b o, b ≠ 100 → h₀.get? b = some o → h'.get? b = some o := fun b o hb e => keep b o (hideAll_get _ (F.keep b o e) fun hm => by
    rcases List.mem_cons.mp hm with z | hm
    · exact hb z
    · rw [frs_cons hf] at hm
      rcases List.mem_cons.mp hm with z | hm
      · rw [z, Heap.get?_none_of_le F.above] at e; cases e
      · cases hm)
  refine ⟨fun b o e => ?_, fun b o e => ?_⟩
  · by_cases hb : b = 100
    · subst hb
      have e' : o = tabObj #[] := Option.some.inj (e.symm.trans (tab_of X))
      subst e'
      exact .inr (.inl ⟨tab_code X, rfl, #[], ps, rfl, by rw [t']; simp⟩)
    · exact .inl (up b o hb e)
  · by_cases hb : b = 100
    · subst hb; exact ⟨_, t'⟩
    · exact ⟨_, up b o hb e⟩
theorem call_fullZ {prog : Program} {w : World} {A : Around} {R : Result → Shared → Prop} {s : Shared} {name : Str} {params : Arguments} {body : List Stmt} {scope : Scope}
    {dV kV pm cd doc : Value} {a : Addr} {o : Obj} {args : Args} {binds : List (Str × Value)}
    (hroom : A.depth < recursionLimit) (ho : s.heap.get? a = some o) (hdata : o.data = .func { PySem.Calls.docDef name params body scope pm cd doc with defaults := dV, kwdefaults := kV }) (hlim : s.heap.NoLimit) (hcd : s.heap.CodeRec cd name)
    (hbind : BindsTo s { PySem.Calls.docDef name params body scope pm cd doc with defaults := dV, kwdefaults := kV } args binds)
    (hloc : ∀ x ∈ binds, scope.names.lookup x.1 = some .local)
    (h : ∀ h₁, Fr s.heap s.heap.objs.size h₁ (fun x => binds.reverse.lookup x) →
      wpZ (model prog w) (A.deeper (envOf name scope s.heap.objs.size a cd)) (execs body (envOf name scope s.heap.objs.size a cd))
        (fun f s' => R (.ok (.ret (match f with | .ret v => v | _ => .none))) s')
        (fun e s' => wpAny (model prog w) (A.deeper (envOf name scope s.heap.objs.size a cd)) (leaving (envOf name scope s.heap.objs.size a cd) e)
          (fun _ s'' => R (.error e) s'') (fun e' s'' => R (.error e') s'') s')
        { s with heap := h₁, toks := s.toks + binds.length })
    (hco : scope.isCoroutine = false := by rfl) (hgen : scope.isGenerator = false := by rfl) (hk : scope.kind = .function := by rfl)
    (hcell : ∀ x ∈ scope.names, x.2 ≠ .cell := by decide) :
    codeZ (model prog w) A (.call (.ref a) args) R s := by
  refine Zc.function (fd := { PySem.Calls.docDef name params body scope pm cd doc with defaults := dV, kwdefaults := kV }) (body := body) hroom ho hdata hco hgen rfl hcd (Z.of (hbind _ _ _ _ ?_))
  refine wpAny_newFunctionEnv hcell hloc (fun h₀ hns₀ hsb₀ => ⟨hlim.fresh _ hsb₀, Zc.func (h h₀ ⟨hns₀, fun b o e => ?_, Nat.le_refl _⟩)⟩) hk
  exact hsb₀.extBut b o (Nat.ne_of_lt (Heap.lt_size e)) (Heap.get?_push_of_some _ e)
theorem enter_callZ {M : Model} {A : Around} {s : Shared} {f : Value} {pos : List Value} {kw : List (Str × Value)} {c : ClaimW} {cl : Str → Option Addr} {mean : ExcName → Option Value} {args : List WData} {s₁ : Shared}
    (h : codeZ M A (.call f ⟨pos, kw⟩) (GoodWG c cl mean args s₁) s) : wpZ M A (PySem.call f pos kw) (fun v s' => GoodWG c cl mean args s₁ (.ok (.ret v)) s') (fun e s' => GoodWG c cl mean args s₁ (.error e) s') s :=
  Z.call (Zc.mono h fun res s' g => by rcases g.1 with ⟨v, _, _, rfl, _⟩ | ⟨e, _, _, rfl, _⟩ <;> exact g)
theorem law_each {w : World} {A : Around} {E : Value → Shared → Prop} {s : Shared} {env : Env} {h₀ : Heap} {L D : Addr} {m : Str → Option Value} {rs : List Row} {Q : Value → Shared → Prop} {p : Program} {loose : List Str} {mean : ExcName → Option Value} {mg mb : Str → Option Value}
    (hf : env.frame = some L) (hk : env.scope.kind ≠ .module) (X₁ : (KK w.params).In h₀) (T : Top p loose mean mg mb h₀) (tab : TabE h₀) (F : Fr h₀ L s.heap m) (hRW : At s.heap D (rs.map rowD)) (ok : ∀ r ∈ rs, RowOk r) (few : rs.length ≤ 8) (hnm : ∀ r ∈ rs, ∀ n, r.name = some n → n ∈ asked5)
    (a1 : A.handled = none) (a2 : A.depth ≤ 320) (a3 : A.frames = some [env]) (a4 : A.guards = some []) (a5 : A.units ≤ 1500)
    (h : ∀ h' tk, (∀ b o, (bare s.heap [env]).get? b = some o → h'.get? b = some o) → (TabE h' ∨ TabF h') → Q (.bool true) { s with heap := h', toks := tk }) :
    wpZ (model PySem.Challenge.rw_in0185_01.row.prog w) A (call (.ref 256) [.ref D]) Q E s := by
  have tab' : TabE s.heap := F.keep _ _ tab
  have C : FramesOk [env] s.heap := FramesOk.cons (l := []) (fun x hx => nomatch hx) hk hf F.ns
  have st := bare_keeps (g := h₀.hide 100) (l := [env]) (fun b o e => F.keep b o (Heap.of_hide e)) (Heap.hide_self _ _) (fun a ha => by
    rw [frs_cons hf] at ha
    rcases List.mem_cons.mp ha with rfl | ha
    · exact Heap.get?_none_of_le (Nat.le_trans (Nat.le_of_eq (Heap.hide_size _ _)) F.above)
    · cases ha)
  exact Z.call (upZ (each_ok (g := bare s.heap [env]) (l := [env]) (bare_base _ _) ((KK_hide X₁).keeps st) ((top_hide T tab).keeps st) (hideAll_none _ (.head _)) (.inl tab') C (fun a ha => hideAll_none _ (.tail _ ha)) (at_bare C tab' hRW) ok few hnm h) a1 a2 a3 a4 a5)
end Mine
end
open PySem PySem.W PyProof.Rows PySem.Spec
set_option Elab.async false
set_option maxRecDepth 100000
set_option maxHeartbeats 8000000
set_option pp.deepTerms false
theorem PySem.Challenge.cw_in0185_01_holds : PySem.Challenge.rw_in0185_01.Holds := by
  refine Mine.hz ?_
  k_fill
  intro w s₀ s₁ mg mb G Y fa o pm cd doc dV kV ho hd hcd hD hmg hg args vals as hpre hlay hrd hwl hlo
  have KX := kIn_of Y
  have X := (Ground.X G).1
  have V := (Ground.X G).2
  refine Ground.open G ?_
  intro T B D TE TW
  try (refine guard_noD D (by decide +kernel) ?_; clear D)
  obtain ⟨_, _, M⟩ := bmod_of_top T
  have TA := at_of_top T
  clear hmg
  wrow_args hpre hlay hrd hwl hlo
  refine Mine.enter_callZ ?_
  w_top on
  have K0 := below_caller (Top.heap T)
  have he := Dflts.none hD rfl
  subst he
  refine Mine.call_fullZ (by decide) ho hd (Top.nolimit T) hcd (BindsTo.of_eq rfl) (locs rfl) fun h₁ F1 => ?_
  w_binds F1
  have N0 := (News.nil : News _ _ _ []).at F1
  clear hd TA
  k_drop
  rename News _ _ _ _ => N1
  rename IntsAre _ _ => hI
  rename Heap.IsList _ _ _ => hL
  rename (¬ _ < _) => hlen
  have X₁ := Mine.KK_of KX
  have tab := Mine.tab_of KX
  have X₀ := Mine.K_of_KK X₁
  revert X₀; k_fill; intro X₀
  have kX := kFor F1 X₀
  (try dsimp only); (try k_fold)
  refine Mine.Z.execs_then ?_
  iterate 8 (first | walk1 | (dsimp only; walk1))
  refine wpAny_call ?_
  refine Mine.up (Mine.rows_ok (X₁.keeps F1.keep) (T.keeps F1.keep) (hL.at fun o e => F1.keep _ _ e) hI (by omega) ?_) rfl (Nat.le_of_ble_eq_true rfl) rfl rfl (Nat.le_of_ble_eq_true rfl)
  intro D2 h2 tk2 x2 d2 n2
  generalize hrs : (List.take 8 _).map Mine.rowOf = rs at d2
  have ok : ∀ r ∈ rs, Mine.RowOk r := by
    intro r hr
    rw [← hrs] at hr
    obtain ⟨n, _, rfl⟩ := List.mem_map.mp hr
    exact Mine.rowOf_ok n
  have hnm : ∀ r ∈ rs, ∀ n, r.name = some n → n ∈ Mine.asked5 := by
    intro r hr
    rw [← hrs] at hr
    obtain ⟨n, _, rfl⟩ := List.mem_map.mp hr
    exact Mine.rowOf_name n
  have few : rs.length ≤ 8 := by rw [← hrs, List.length_map, List.length_take]; exact Nat.min_le_left _ _
  clear hrs
  have F2 := Mine.Fr.ext F1 x2
  obtain ⟨K, NK, rowsK⟩ := Mine.at_held F2 d2
  clear F1 N1 d2 x2
  dsimp only
  iterate 1 (first | walk1 | (dsimp only; walk1))
  rename Fr _ _ _ _ => F3
  rename News _ _ _ _ => N3
  (try dsimp only)
  refine Mine.Z.execs_cons ?_
  refine Mine.Z.Return ?_
  refine Mine.Z.callName ?_
  k_steps
  refine Mine.Z.withKeeper rfl rfl (by show 0 < 30; decide) ?_
  iterate 3 (first | walk1 | (dsimp only; walk1))
  have hk256 : keepIn (Mine.hk.heap_39 w.params) (.ref 256) = true := by kernel_rfl
  refine ⟨keeps_K (K := Mine.hk.heap_39 w.params) hk256 _ (X₀.keeps F3.keep), ?_⟩
  refine Mine.law_each rfl (show ScopeKind.function ≠ ScopeKind.module by decide) X₁ T tab F3 (rowsK _ F3.keep fun p hp => (N3 p hp).1) ok few hnm rfl (Nat.le_of_ble_eq_true rfl) rfl rfl (Nat.le_of_ble_eq_true rfl) ?_
  intro h4 tk4 keep4 tab4
  have O4 := Mine.old_end rfl KX F3 keep4 tab4
  dsimp only
  refine ⟨.inl ⟨.bool true, .bool true, [], rfl, ?hn, .bool true, ?hp, unshared_nil⟩, O4, rfl, .of_eq hg⟩
  case hn => exact fun _ => rfl
  case hp =>
    refine' postW_of ?zs ?zv ?ze
    case zs => first | wrow_shape | o_shape
    case zv => wtm_val
    case ze => first | rfl | w_fin
