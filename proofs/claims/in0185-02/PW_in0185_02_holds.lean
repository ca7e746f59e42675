import PyProof.Rows.All
import Wide.All
import OpenK.AllK
import Wide.FinOn
import PySem.Challenge.RW_in0185_02
set_option Elab.async false
section
set_option Elab.async false
lay_quick PySem.W.openEnds PySem.Challenge.pw_in0185_02 PySem.treeTable
open PySem PySem.W PyProof.Rows
namespace Mine
theorem dummyHead {P : Prop} (_hw : True) (hc : P) : P := hc
section
local macro_rules | `(tactic| o_head $t) => `(tactic| refine dummyHead ?hw ?hc)
local macro_rules | `(tactic| w_witness2) => `(tactic| exact True.intro)
set_option maxRecDepth 100000 in
set_option maxHeartbeats 8000000 in
open_top hk for PySem.Challenge.rw_in0185_02
end
section
local macro_rules | `(tactic| o_head $t) => `(tactic| refine dummyHead ?hw ?hc)
local macro_rules | `(tactic| w_witness2) => `(tactic| exact True.intro)
local macro_rules | `(tactic| k_head) => `(tactic| x_head)
set_option maxRecDepth 100000 in
set_option maxHeartbeats 8000000 in
open_top hx for PySem.Challenge.rw_in0185_02
end
/-- the addresses of the written part -/
def xs : List Addr := [0, 1, 2, 3, 4, 5, 6, 7, 8, 9, 10, 11, 12, 13, 14, 15, 33, 34, 35, 36, 37, 38, 39, 47, 48, 49, 50, 51, 52, 53, 54, 55, 56, 57, 58, 59, 60, 61, 62, 63, 64, 65, 66, 67, 68, 69, 70, 71, 72, 73, 74, 75, 76, 77, 78, 79, 80, 83, 86, 91, 92, 93, 94, 95, 96, 97, 98, 99, 100, 101, 102, 103, 104, 105, 106, 107, 108, 109, 110, 113, 116, 121, 122, 123, 124, 125, 126, 127, 128, 129, 130, 131, 132, 133, 134, 135, 136, 137, 138, 139, 140, 141, 142, 143, 144, 145, 146, 147, 148, 149, 150, 151, 152, 153, 154, 155, 156, 157, 158, 159, 160, 161, 162, 163, 164, 165, 166, 167, 168, 169, 170, 171, 172, 174, 175, 177, 179, 180, 181, 184, 191, 192, 193, 194, 195, 196, 197, 198, 199, 200, 201, 202, 203, 204, 207, 208, 209, 210, 211, 212, 213, 214, 215, 216, 217, 218, 219, 220, 221, 222, 223, 224, 225, 226, 227, 228, 229, 230, 231, 232, 233, 234, 235, 236, 237, 238, 239, 240, 241, 242, 243, 244, 245, 246, 247, 248, 249, 250, 251, 252, 253, 254, 255, 256, 257, 258, 259, 260, 261, 262, 263, 264, 265, 266, 267, 268, 269, 270, 271, 272, 273, 274, 275]
/-- the program with just the statements numbered -/
def view (p : Program) (is : List Nat) : Program := { p with main := { p.main with body := is.filterMap fun i => p.main.body[i]? } }
def qV : Program := view PySem.Challenge.pw_in0185_02 [0, 1, 2, 4, 7, 8, 9, 10, 11, 12, 13, 14, 15, 16, 17, 18, 19]
abbrev looseV : List PySem.Str := [PySem.Str.ofString "_tuplegetter", PySem.Str.ofString "Pair"]
set_option maxRecDepth 100000 in
theorem xs_ok : ∀ P, xs = (hx.heap_39 P).map (·.1) := fun _ => by kernel_rfl
abbrev xtV : Shared → Bool := fun s => xlAt qV [] s && recOk (RowW.records PySem.Challenge.rw_in0185_02.row.toRowW) s
set_option maxRecDepth 100000 in
set_option maxHeartbeats 8000000 in
theorem left_ok : LeftO PySem.Challenge.rw_in0185_02.row.toRowW.prog qV looseV xtV (Hook.obs (kHook hx.heap_39 xs xs_ok)) (Hook.val (kHook hx.heap_39 xs xs_ok)) 4682 := by
  intro w
  show (openEnds treeTable PySem.Challenge.pw_in0185_02 w 4682).map _ = _
  rw [PySem.W.Fast.te15552708684749139287, PySem.W.Fast.te14364793385576792824, PySem.W.Fast.te11586513434767468196, PySem.W.Fast.te4187177175401517315]
  kernel_rfl
section
local macro_rules | `(tactic| k_head) => `(tactic| (refine holds_open (q := qV) (loose := looseV) (Xt := xtV) (XP := XL qV []) (Yf := Hook.obs (kHook hx.heap_39 xs xs_ok)) (Ya := Hook.val (kHook hx.heap_39 xs xs_ok)) (YP := Hook.says (kHook hx.heap_39 xs xs_ok)) (N := 4682) left_ok (Hook.of (kHook hx.heap_39 xs xs_ok)) (Hook.keeps (kHook hx.heap_39 xs xs_ok)) (fun s e => xl_of s (Bool.and_eq_true_iff.mp e).1) XL.keeps (by rfl) (by rfl) (by rfl) (fun s e => recFacts_of (Bool.and_eq_true_iff.mp e).2) (by rfl) (by first | assumption | decide +kernel) (by decide +kernel) ⟨rfl, rfl, rfl, rfl, rfl, by decide +kernel⟩ ?hw ?hc))
set_option maxRecDepth 100000 in
set_option maxHeartbeats 8000000 in
open_top hz for PySem.Challenge.rw_in0185_02
end
end Mine
end
section
open PySem PySem.W PyProof.Rows
set_option Elab.async false
set_option maxRecDepth 100000
namespace Mine
/-- the whole written part, but for the one code table that grows -/
noncomputable def KK (P : Params) : Frag := (hx.heap_39 P).filter (fun p => !(Nat.beq p.1 100))
theorem lookup_map {K1 K2 : Frag} (e : K1.map (fun p => (p.1, K2.lookup p.1)) = K1.map (fun p => (p.1, some p.2))) {a : Addr} {o : Obj} (h : K1.lookup a = some o) : K2.lookup a = some o := by
  induction K1 with
  | nil => cases h
  | cons p r ih =>
    obtain ⟨b, x⟩ := p
    simp only [List.map_cons, List.cons.injEq, Prod.mk.injEq, true_and] at e
    simp only [List.lookup] at h
    split at h
    · rename_i q; cases h; rw [beq_iff_eq.mp q]; exact e.1
    · exact ih e.2 h
theorem k_sub (P : Params) : (hk.heap_39 P).map (fun p => (p.1, (KK P).lookup p.1)) = (hk.heap_39 P).map (fun p => (p.1, some p.2)) := by kernel_rfl
theorem K_of_KK {P : Params} {h : Heap} (X : (KK P).In h) : (hk.heap_39 P).In h := fun a o e => X a o (lookup_map (k_sub P) e)
/-- the entries of the builtins' table, by name: kept out of the walker's sight -/
noncomputable def bEs (P : Params) : List DictEntry := match (boot_o_0 P).data with
  | .dict es _ => es.toList
  | _ => []
theorem b_get {w : World} {h : Heap} (X : (KK w.params).In h) : h.get? (nat_lit 0) = some ⟨.type "dict", none, .dict { toList := bEs w.params } 159, #[]⟩ := X 0 _ (by kernel_rfl)
end Mine
end
section
open PySem PySem.W PyProof.Rows PySem.Spec
set_option Elab.async false
set_option maxRecDepth 100000
set_option maxHeartbeats 2000000
namespace Mine
section
variable {prog : Program} {w : World} {A : Around} {E : Value → Shared → Prop} {s : Shared}

theorem slot_map_next : Slot "map" "__next__" "map.__next__" :=
  .of (owner := "map") (n := "__next__") (by rw [typeLookup_type, builtinLookup_eq_fast]; kernel_rfl) (by decide +kernel) (by decide +kernel) (by decide +kernel)
    (by first | exact .inl (by decide +kernel) | exact .inr (by decide +kernel)) (by rw [isSubtype_type]; kernel_rfl)
theorem slot_map_iter : Slot "map" "__iter__" "map.__iter__" :=
  .of (owner := "map") (n := "__iter__") (by rw [typeLookup_type, builtinLookup_eq_fast]; kernel_rfl) (by decide +kernel) (by decide +kernel) (by decide +kernel)
    (by first | exact .inl (by decide +kernel) | exact .inr (by decide +kernel)) (by rw [isSubtype_type]; kernel_rfl)
theorem entry_map_next : entryFor table "map.__next__" = some Builtin.«map.__next__» := entryFor_of_fast (by kernel_rfl)
theorem entry_map_iter : entryFor table "map.__iter__" = some Builtin.«dict_keyiterator.__iter__» :=
  entryFor_alias (id' := "dict_keyiterator.__iter__") (by kernel_rfl) rfl (by decide +kernel) (by kernel_rfl)
theorem args_map_next (a : Value) : argsOk "map.__next__" ⟨[a], []⟩ := by unfold argsOk; kernel_rfl
theorem args_map_iter (a : Value) : argsOk "map.__iter__" ⟨[a], []⟩ := by unfold argsOk; kernel_rfl

theorem nextOf_item {it l : Addr} {i : Nat} {items : Array Value} {x : Value} {Q : Value → Shared → Prop} (hit : s.heap.IsListIter it l i)
    (hl : s.heap.IsList l items) (hx : items[i]? = some x)
    (hQ : ∀ h', h'.IsListIter it l (i + 1) → Heap.SameBut it s.heap h' → Q x { s with heap := h' }) :
    wpAny (model prog w) A (Builtin.SmallTypes.nextOf (.ref it)) Q E s := by
  obtain ⟨o, ho, hc, hd⟩ := id hit
  obtain ⟨ol, hol, _, nl, hdl⟩ := hl
  unfold Builtin.SmallTypes.nextOf
  refine wpAny_bind (wpAny_callSpecial?_slot (name := Str.ofString "__next__") hit.typeIs slot_listiter_next
    (wpAny_call_entry slot_listiter_next hit.typeIs entry_listiter_next ?_ (args_listiter_next _)))
  show wpAny _ _ (field (.ref it) 0 >>= _) _ _ s
  refine wpAny_bind (wpAny_field ho hd (x := .ref l) rfl ?_)
  show wpAny _ _ (if (Value.ref l == Value.none) = true then _ else _) _ _ s
  rw [if_neg (show ¬ ((Value.ref l == Value.none) = true) from Bool.false_ne_true)]
  show wpAny _ _ (field (.ref it) 1 >>= _) _ _ s
  refine wpAny_bind (wpAny_field ho hd (x := .int i 0) rfl ?_)
  show wpAny _ _ (seqItems? (.ref l) >>= _) _ _ s
  refine wpAny_bind (wpAny_seqItems hol hdl ?_)
  simp only [Int.toNat_natCast, hx]
  refine wpAny_bind (wpAny_setField ho hd (by simp) (wpAny_pure ⟨x, rfl, wpAny_pure (hQ _ ?_ (Heap.SameBut.update ..))⟩))
  exact ⟨_, Heap.get?_update_self _ ho (Obj.isFreed_of_fields (Obj.data_mapFields hd _)), (Obj.cls_mapFields ..).trans hc, by
    rw [Obj.data_mapFields hd]; simp [rawInt]⟩

/-- what a map over one list is, in a heap -/
structure MapAt (h : Heap) (M tt it l : Addr) (i : Nat) (f : Value) (items : Array Value) : Prop where
  m : ∃ o, h.get? M = some o ∧ o.cls = .type "map" ∧ o.data = .fields #[.ref tt, f]
  t : ∃ o n, h.get? tt = some o ∧ o.data = .seq #[.ref it] n
  it : h.IsListIter it l i
  l : h.IsList l items

theorem nextOf_end {it l : Addr} {i : Nat} {items : Array Value} {Q : Value → Shared → Prop} (hh : A.handled = none) (hit : s.heap.IsListIter it l i)
    (hl : s.heap.IsList l items) (hx : items[i]? = none)
    (hQ : ∀ e h', Heap.ExtBut it s.heap h' → h'.get? e ≠ none → Shared.TypeIs { s with heap := h' } (.ref e) "StopIteration" → E (.ref e) { s with heap := h' }) :
    wpAny (model prog w) A (Builtin.SmallTypes.nextOf (.ref it)) Q E s := by
  obtain ⟨o, ho, hc, hd⟩ := id hit
  obtain ⟨ol, hol, _, nl, hdl⟩ := hl
  unfold Builtin.SmallTypes.nextOf
  refine wpAny_bind (wpAny_callSpecial?_slot (name := Str.ofString "__next__") hit.typeIs slot_listiter_next
    (wpAny_call_entry slot_listiter_next hit.typeIs entry_listiter_next ?_ (args_listiter_next _)))
  show wpAny _ _ (field (.ref it) 0 >>= _) _ _ s
  refine wpAny_bind (wpAny_field ho hd (x := .ref l) rfl ?_)
  show wpAny _ _ (if (Value.ref l == Value.none) = true then _ else _) _ _ s
  rw [if_neg (show ¬ ((Value.ref l == Value.none) = true) from Bool.false_ne_true)]
  show wpAny _ _ (field (.ref it) 1 >>= _) _ _ s
  refine wpAny_bind (wpAny_field ho hd (x := .int i 0) rfl ?_)
  show wpAny _ _ (seqItems? (.ref l) >>= _) _ _ s
  refine wpAny_bind (wpAny_seqItems hol hdl ?_)
  simp only [Int.toNat_natCast, hx]
  refine wpAny_bind (wpAny_rule (wpAny_bind (wpAny_setField ho hd (by simp) ?_)))
  show wpAny _ _ (newExc (.type "StopIteration") [] >>= _) _ _ _
  refine wpAny_bind ?_
  simp only [newExc, newTuple]
  refine wpAny_bind (wpAny_newObj_type ?_ (by size_fits))
  refine wpAny_bind (m := firstArgMember _ _) (wpAny_of_eq (a := Value.none) (by first | rfl | (simp only [firstArgMember]; rfl)) ?_)
  refine wpAny_newObj_type ?_ (by size_fits)
  simp only [raiseNew]
  refine wpAny_bind (wpAny_handled ?_)
  rw [show A.in1.handled = none from hh]
  refine wpAny_bind (wpAny_pure (wpAny_throw ?_))
  refine hQ _ _ (((Heap.SameBut.update ..).extBut.push _).push _) ?_ ⟨_, Heap.get?_push_size _ rfl, rfl⟩
  rw [Heap.get?_push_size _ rfl]; exact fun e => nomatch e
end
end Mine
end
section
open PySem PySem.W PyProof.Rows PySem.Spec
set_option Elab.async false
set_option maxRecDepth 100000
set_option maxHeartbeats 2000000
namespace Mine
section
variable {prog : Program} {w : World} {A : Around} {E : Value → Shared → Prop} {s : Shared}

theorem map_next_item {M tt it l : Addr} {i : Nat} {f x : Value} {items : Array Value} {Q : Option Value → Shared → Prop}
    (D : MapAt s.heap M tt it l i f items) (hM : M ≠ it) (hT : tt ≠ it) (hL : l ≠ it) (hx : items[i]? = some x)
    (h : ∀ h', MapAt h' M tt it l (i + 1) f items → Heap.SameBut it s.heap h' →
      wpAny (model prog w) A.in1 (call f [x]) (fun v s' => Q (some v) s')
        (fun e s' => ∃ T, s'.TypeIs e T ∧ isSubtype (.type T) (.type "StopIteration") = pure false ∧ E e s') { s with heap := h' }) :
    wpAny (model prog w) A (pyNext (.ref M)) Q E s := by
  obtain ⟨o, ho, hc, hd⟩ := D.m
  obtain ⟨ot, nt, hot, hdt⟩ := D.t
  have hTM : s.TypeIs (.ref M) "map" := ⟨o, ho, hc⟩
  unfold pyNext
  refine wpAny_bind (wpAny_attempt (wpAny_callSpecial?_slot (name := Str.ofString "__next__") hTM slot_map_next
    (wpAny_call_entry slot_map_next hTM entry_map_next ?_ (args_map_next _))))
  show wpAny _ _ (field (.ref M) 0 >>= _) _ _ s
  refine wpAny_bind (wpAny_field ho hd (x := .ref tt) rfl ?_)
  show wpAny _ _ (seqItems? (.ref tt) >>= _) _ _ s
  refine wpAny_bind (wpAny_seqItems hot hdt ?_)
  dsimp only
  simp only [← Array.forIn_toList, List.forIn_cons, List.forIn_nil]
  refine wpAny_bind (wpAny_bind (wpAny_bind (wpAny_holding (nextOf_item D.it D.l hx fun h' hit' hsb => ?_))))
  refine wpAny_pure (wpAny_pure ?_)
  have D' : MapAt h' M tt it l (i + 1) f items :=
    ⟨⟨o, (hsb.2 M hM).trans ho, hc, hd⟩, ⟨ot, nt, (hsb.2 tt hT).trans hot, hdt⟩, hit', D.l.at fun o' e => (hsb.2 l hL).trans e⟩
  obtain ⟨o2, ho2, hc2, hd2⟩ := D'.m
  refine wpAny_bind (wpAny_field (s := { s with heap := h' }) ho2 hd2 (x := f) rfl (wpAny_bind (wpAny_holding ?_)))
  refine wpAny_mono (h h' D' hsb) (fun v s' hv => ?_) (fun e s' he => ?_)
  · refine wpAny_bind (wpAny_letGo (wpAny_pure ⟨v, rfl, wpAny_pure hv⟩))
  · obtain ⟨T, hTe, hs, hE⟩ := he
    refine wpAny_bind (wpAny_isInstance hTe hs ?_)
    simp only [Bool.false_eq_true, if_false]
    exact wpAny_throw hE

theorem map_next_end {M tt it l : Addr} {i : Nat} {f : Value} {items : Array Value} {Q : Option Value → Shared → Prop} (hh : A.handled = none)
    (D : MapAt s.heap M tt it l i f items) (hx : items[i]? = none)
    (h : ∀ h', Heap.ExtBut it s.heap h' → Q none { s with heap := h' }) :
    wpAny (model prog w) A (pyNext (.ref M)) Q E s := by
  obtain ⟨o, ho, hc, hd⟩ := D.m
  obtain ⟨ot, nt, hot, hdt⟩ := D.t
  have hTM : s.TypeIs (.ref M) "map" := ⟨o, ho, hc⟩
  unfold pyNext
  refine wpAny_bind (wpAny_attempt (wpAny_callSpecial?_slot (name := Str.ofString "__next__") hTM slot_map_next
    (wpAny_call_entry slot_map_next hTM entry_map_next ?_ (args_map_next _))))
  show wpAny _ _ (field (.ref M) 0 >>= _) _ _ s
  refine wpAny_bind (wpAny_field ho hd (x := .ref tt) rfl ?_)
  show wpAny _ _ (seqItems? (.ref tt) >>= _) _ _ s
  refine wpAny_bind (wpAny_seqItems hot hdt ?_)
  dsimp only
  simp only [← Array.forIn_toList, List.forIn_cons, List.forIn_nil]
  refine wpAny_bind (wpAny_bind (wpAny_bind (wpAny_holding (nextOf_end hh D.it D.l hx fun e h' hx' hne hTe => ?_))))
  refine wpAny_bind (wpAny_isInstance hTe isSubtype_stop ?_)
  simp only [if_true]
  exact wpAny_pure (h h' hx')
end
end Mine
end
section
open PySem PySem.W PyProof.Rows PySem.Spec
set_option Elab.async false
set_option maxRecDepth 100000
set_option maxHeartbeats 2000000
namespace Mine
/-- a call of f on x: a value, the heap as it was -/
def FSpec (prog : Program) (w : World) (A : Around) (f x : Value) (P : Value → Prop) : Prop :=
  ∀ (s : Shared) (Q : Value → Shared → Prop) (E : Value → Shared → Prop), (∀ v tk, P v → Q v { s with toks := tk }) → wpAny (model prog w) A (call f [x]) Q E s
def FRaise (prog : Program) (w : World) (A : Around) (f x : Value) (X : String) : Prop :=
  ∀ (s : Shared) (Q : Value → Shared → Prop) (E : Value → Shared → Prop), (∀ e h' tk, Heap.NewExc s.heap h' e X → E (.ref e) { s with heap := h', toks := tk }) → wpAny (model prog w) A (call f [x]) Q E s
section
variable {prog : Program} {w : World} {A : Around} {E : Value → Shared → Prop} {s : Shared}
theorem MapAt.toks {h : Heap} {M tt it l : Addr} {i : Nat} {f : Value} {items : Array Value} (D : MapAt h M tt it l i f items) : MapAt h M tt it l i f items := D
structure MapOk (M tt it l : Addr) : Prop where
  m : M ≠ it
  t : tt ≠ it
  l : l ≠ it
theorem map_next_ok {M tt it l : Addr} {i : Nat} {f x : Value} {items : Array Value} {P : Value → Prop} {Q : Option Value → Shared → Prop}
    (D : MapAt s.heap M tt it l i f items) (O : MapOk M tt it l) (hx : items[i]? = some x) (hf : FSpec prog w A.in1 f x P)
    (h : ∀ v h' tk, P v → MapAt h' M tt it l (i + 1) f items → Heap.ExtBut it s.heap h' → Q (some v) { s with heap := h', toks := tk }) :
    wpAny (model prog w) A (pyNext (.ref M)) Q E s :=
  map_next_item D O.m O.t O.l hx fun h' D' hs => hf _ _ _ fun v tk hv => h v h' tk hv D' hs.extBut
theorem map_next_bad {M tt it l : Addr} {i : Nat} {f x : Value} {items : Array Value} {Q : Option Value → Shared → Prop}
    (D : MapAt s.heap M tt it l i f items) (O : MapOk M tt it l) (hx : items[i]? = some x) (hf : FRaise prog w A.in1 f x "ValueError")
    (h : ∀ e h1 h' tk, Heap.ExtBut it s.heap h1 → Heap.NewExc h1 h' e "ValueError" → E (.ref e) { s with heap := h', toks := tk }) :
    wpAny (model prog w) A (pyNext (.ref M)) Q E s :=
  map_next_item D O.m O.t O.l hx fun h' D' hs => hf _ _ _ fun e h'' tk hn => by
    obtain ⟨ob, t, ho, hc, hd⟩ := hn.there
    exact ⟨"ValueError", ⟨ob, ho, hc⟩, by rw [isSubtype_type]; kernel_rfl, h e h' h'' tk hs.extBut hn⟩

theorem extBut_trans {a : Addr} {h1 h2 h3 : Heap} (x : Heap.ExtBut a h1 h2) (y : Heap.ExtBut a h2 h3) : Heap.ExtBut a h1 h3 := fun b o hb e => y b o hb (x b o hb e)

theorem map_iter_self {M tt it l : Addr} {i : Nat} {f : Value} {items : Array Value} {Q : Value → Shared → Prop} (D : MapAt s.heap M tt it l i f items) (h : Q (.ref M) s) :
    wpAny (model prog w) A (pyIter (.ref M)) Q E s := by
  obtain ⟨o, ho, hc, hd⟩ := D.m
  have hT : s.TypeIs (.ref M) "map" := ⟨o, ho, hc⟩
  refine wpAny_pyIter_slot hT slot_map_iter (wpAny_call_entry slot_map_iter hT entry_map_iter ?_ (args_map_iter _))
  show wpAny _ _ (do ret (Value.ref M)) _ _ s
  exact wpAny_pure ⟨_, rfl, "map", _, hT, slot_map_next.lookup, h⟩
theorem map_iterable {M tt it l : Addr} {i : Nat} {f : Value} {items : Array Value} {Q : Bool → Shared → Prop} (D : MapAt s.heap M tt it l i f items) (h : Q false s) :
    wpAny (model prog w) A (notIterableAtAll (.ref M)) Q E s := by
  obtain ⟨o, ho, hc, hd⟩ := D.m
  have hT : s.TypeIs (.ref M) "map" := ⟨o, ho, hc⟩
  unfold notIterableAtAll
  refine wpAny_bind (wpAny_specialOf hT slot_map_iter.lookup ?_)
  simp only [Option.isSome_some, if_true]
  exact wpAny_pure h

theorem unpack2 {M tt it l : Addr} {f x y : Value} {P1 P2 : Value → Prop} {Q : List Value → Shared → Prop} (hh : A.handled = none)
    (D : MapAt s.heap M tt it l 0 f #[x, y]) (O : MapOk M tt it l) (h1 : FSpec prog w A.in1 f x P1) (h2 : FSpec prog w A.in1 f y P2)
    (h : ∀ v1 v2 h' tk, P1 v1 → P2 v2 → Heap.ExtBut it s.heap h' → Q [v1, v2] { s with heap := h', toks := tk }) :
    wpAny (model prog w) A (unpackItems (.ref M) 2 none) Q E s := by
  unfold unpackItems
  refine wpAny_bind (map_iterable D ?_)
  simp only [Bool.false_eq_true, if_false]
  refine wpAny_bind (wpAny_holding (map_iter_self D ?_))
  refine wpAny_bind (wpAny_holding ?_)
  simp only [draw]
  refine wpAny_bind (map_next_ok D O rfl h1 fun v1 hp1 tk1 p1 D1 x1 => ?_)
  refine wpAny_bind (wpAny_holding (wpAny_bind (map_next_ok (s := { s with heap := hp1, toks := tk1 }) D1 O rfl h2 fun v2 hp2 tk2 p2 D2 x2 => ?_)))
  refine wpAny_bind (wpAny_holding (wpAny_pure (wpAny_pure (wpAny_pure ?_))))
  simp only [List.length_cons, List.length_nil, Nat.lt_irrefl, if_false]
  refine wpAny_bind (wpAny_holding (map_next_end (s := { s with heap := hp2, toks := tk2 }) hh D2 rfl fun hp3 x3 => ?_))
  simp only [Option.isSome_none, Bool.false_eq_true, if_false]
  exact wpAny_pure (h v1 v2 _ _ p1 p2 (extBut_trans (extBut_trans x1 x2) x3))

theorem unpack2_bad {M tt it l : Addr} {f x y : Value} {P1 : Value → Prop} {Q : List Value → Shared → Prop}
    (D : MapAt s.heap M tt it l 0 f #[x, y]) (O : MapOk M tt it l) (h1 : FSpec prog w A.in1 f x P1) (h2 : FRaise prog w A.in1 f y "ValueError")
    (h : ∀ e h1 h' tk, Heap.ExtBut it s.heap h1 → Heap.NewExc h1 h' e "ValueError" → E (.ref e) { s with heap := h', toks := tk }) :
    wpAny (model prog w) A (unpackItems (.ref M) 2 none) Q E s := by
  unfold unpackItems
  refine wpAny_bind (map_iterable D ?_)
  simp only [Bool.false_eq_true, if_false]
  refine wpAny_bind (wpAny_holding (map_iter_self D ?_))
  refine wpAny_bind (wpAny_holding ?_)
  simp only [draw]
  refine wpAny_bind (map_next_ok D O rfl h1 fun v1 hp1 tk1 p1 D1 x1 => ?_)
  exact wpAny_bind (wpAny_holding (wpAny_bind (map_next_bad (s := { s with heap := hp1, toks := tk1 }) D1 O rfl h2 fun e ha hb tk xa n => h e ha hb tk (extBut_trans x1 xa) n)))

theorem unpack1 {M tt it l : Addr} {f x : Value} {P1 : Value → Prop} {Q : List Value → Shared → Prop} (hh : A.handled = none)
    (D : MapAt s.heap M tt it l 0 f #[x]) (O : MapOk M tt it l) (h1 : FSpec prog w A.in1 f x P1)
    (h : ∀ e h1 h' tk, Heap.ExtBut it s.heap h1 → Heap.NewExc h1 h' e "ValueError" → E (.ref e) { s with heap := h', toks := tk }) :
    wpAny (model prog w) A (unpackItems (.ref M) 2 none) Q E s := by
  unfold unpackItems
  refine wpAny_bind (map_iterable D ?_)
  simp only [Bool.false_eq_true, if_false]
  refine wpAny_bind (wpAny_holding (map_iter_self D ?_))
  refine wpAny_bind (wpAny_holding ?_)
  simp only [draw]
  refine wpAny_bind (map_next_ok D O rfl h1 fun v1 hp1 tk1 p1 D1 x1 => ?_)
  refine wpAny_bind (wpAny_holding (wpAny_bind (map_next_end (s := { s with heap := hp1, toks := tk1 }) hh D1 rfl fun hp3 x3 => ?_)))
  refine wpAny_pure (wpAny_pure ?_)
  simp only [List.length_cons, List.length_nil]
  refine wpAny_bind (wpAny_rule (wpAny_bind ?_))
  refine wpAny_raiseErrorMade (s := { s with heap := hp3, toks := tk1 }) plainExc_ValueError hh (fun h' tk e n => h e _ h' tk (extBut_trans x1 x3) n) ?_
  decide +kernel

theorem unpack3 {M tt it l : Addr} {f x y z : Value} {P1 P2 P3 : Value → Prop} {Q : List Value → Shared → Prop} (hh : A.handled = none)
    (D : MapAt s.heap M tt it l 0 f #[x, y, z]) (O : MapOk M tt it l) (h1 : FSpec prog w A.in1 f x P1) (h2 : FSpec prog w A.in1 f y P2) (h3 : FSpec prog w A.in1 f z P3)
    (h : ∀ e h1 h' tk, Heap.ExtBut it s.heap h1 → Heap.NewExc h1 h' e "ValueError" → E (.ref e) { s with heap := h', toks := tk }) :
    wpAny (model prog w) A (unpackItems (.ref M) 2 none) Q E s := by
  unfold unpackItems
  refine wpAny_bind (map_iterable D ?_)
  simp only [Bool.false_eq_true, if_false]
  refine wpAny_bind (wpAny_holding (map_iter_self D ?_))
  refine wpAny_bind (wpAny_holding ?_)
  simp only [draw]
  refine wpAny_bind (map_next_ok D O rfl h1 fun v1 hp1 tk1 p1 D1 x1 => ?_)
  refine wpAny_bind (wpAny_holding (wpAny_bind (map_next_ok (s := { s with heap := hp1, toks := tk1 }) D1 O rfl h2 fun v2 hp2 tk2 p2 D2 x2 => ?_)))
  refine wpAny_bind (wpAny_holding (wpAny_pure (wpAny_pure (wpAny_pure ?_))))
  simp only [List.length_cons, List.length_nil, Nat.lt_irrefl, if_false]
  refine wpAny_bind (wpAny_holding (map_next_ok (s := { s with heap := hp2, toks := tk2 }) D2 O rfl h3 fun v3 hp3 tk3 p3 D3 x3 => ?_))
  simp only [Option.isSome_some, if_true]
  refine wpAny_bind (wpAny_rule (wpAny_bind ?_))
  refine wpAny_raiseErrorMade (s := { s with heap := hp3, toks := tk3 }) plainExc_ValueError hh (fun h' tk e n => h e _ h' tk (extBut_trans (extBut_trans x1 x2) x3) n) ?_
  decide +kernel
end
end Mine
end
section
open PySem PySem.W PyProof.Rows PySem.Spec PySem.W.X
set_option Elab.async false
set_option maxRecDepth 100000
set_option maxHeartbeats 0
namespace Mine
abbrev AA (d u : Nat) (l : List Env) : Around := { handled := none, depth := d, frames := some l, guards := some [], units := u }
theorem up {M : Model} {A : Around} {c : Code} {R} {s : Shared} {d u : Nat} {l} (h : codeAny M (AA d u l) c R s) (h1 : A.handled = none) (h2 : A.depth ≤ d) (h3 : A.frames = some l) (h4 : A.guards = some []) (h5 : A.units ≤ u) : codeAny M A c R s :=
  fun Γ p hc hB => h Γ p hc ⟨hB.1.trans h1, Nat.le_trans hB.2.1 h2, fun l hl => hB.2.2.1 l (h3.trans hl), fun g hg => hB.2.2.2.1 g (h4.trans hg), Nat.le_trans hB.2.2.2.2 h5⟩
theorem upW {M : Model} {A : Around} {α} {t : Sem α} {Q E} {s : Shared} {d u : Nat} {l} (h : wpAny M (AA d u l) t Q E s) (h1 : A.handled = none) (h2 : A.depth ≤ d) (h3 : A.frames = some l) (h4 : A.guards = some []) (h5 : A.units ≤ u) : wpAny M A t Q E s :=
  fun Γ p hB => h Γ p ⟨hB.1.trans h1, Nat.le_trans hB.2.1 h2, fun l hl => hB.2.2.1 l (h3.trans hl), fun g hg => hB.2.2.2.1 g (h4.trans hg), Nat.le_trans hB.2.2.2.2 h5⟩
abbrev frs (l : List Env) : List Addr := l.filterMap (·.frame)
abbrev Cx (A : Around) (l : List Env) (h : Heap) : Prop := Below A (hideAll h (frs l)) l h
def Ext (h h' : Heap) : Prop := ∀ b o, h.get? b = some o → h'.get? b = some o
theorem ext_mem {h₀ h : Heap} {news : List (Addr × Obj)} (D : Mem h₀ h [] news) : Ext h₀ h := fun b o e => D.keep b o e (by rw [show away [] b = true from rfl, Bool.or_true])
/-- the outcome of a code, as a wpAny -/
abbrev Sc (c : Code) : Sem Result := .call c none false [] .pure
theorem call_of {M : Model} {A : Around} {f : Value} {args : List Value} {s : Shared} {Q E} {R : Result → Shared → Prop}
    (h : wpAny M A (Sc (.call f ⟨args, []⟩)) R (fun _ _ => False) s)
    (hok : ∀ v s', R (.ok (.ret v)) s' → Q v s') (hno : ∀ f s', (∀ v, f ≠ .ret v) → ¬ R (.ok f) s') (herr : ∀ e s', R (.error e) s' → E e s') : wpAny M A (call f args) Q E s := by
  intro Γ p hΓ
  have q := h Γ p hΓ
  rw [Sem.wp_call] at q
  show Sem.wp M Γ (runValue (.call f ⟨args, []⟩)) _ _ p s
  simp only [runValue, run]
  rw [Sem.wp_bind', Sem.wp_call]
  refine wpCode_mono (fun r s' hr => ?_) q
  rw [Sem.wp_pure] at hr
  cases r with
  | error e => show Sem.wp M Γ (Sem.raise e) _ _ _ _; rw [Sem.wp_raise]; exact herr _ _ hr
  | ok f =>
    show Sem.wp M Γ (Sem.pure f) _ _ _ _
    rw [Sem.wp_pure]
    cases f with
    | ret v => dsimp only; exact hok v s' hr
    | next => exact absurd hr (hno _ _ (fun v e => nomatch e))
    | brk => exact absurd hr (hno _ _ (fun v e => nomatch e))
    | cont => exact absurd hr (hno _ _ (fun v e => nomatch e))

/-- an outcome: a value, old objects kept, P of it -/
def Rets (s : Shared) (P : Value → Heap → Prop) (r : Result) (s' : Shared) : Prop := ∃ v h' tk, r = .ok (.ret v) ∧ s' = { s with heap := h', toks := tk } ∧ Ext s.heap h' ∧ P v h'
theorem call_rets {M : Model} {A : Around} {f : Value} {args : List Value} {s : Shared} {Q E} {P : Value → Heap → Prop}
    (h : wpAny M A (Sc (.call f ⟨args, []⟩)) (Rets s P) (fun _ _ => False) s)
    (hq : ∀ v h' tk, Ext s.heap h' → P v h' → Q v { s with heap := h', toks := tk }) : wpAny M A (call f args) Q E s :=
  call_of h (fun v s' ⟨v', h', tk, e, e2, x, p⟩ => by cases e; subst e2; exact hq _ _ _ x p) (fun f s' hf ⟨v', h', tk, e, _⟩ => hf v' (by cases e; rfl)) (fun e s' ⟨_, _, _, e2, _⟩ => nomatch e2)


theorem rets_intro {s : Shared} {P : Value → Heap → Prop} {v : Value} {h' : Heap} {tk : Nat} (x : Ext s.heap h') (p : P v h') : Rets s P (.ok (.ret v)) ⟨h', s.gens, s.drawn, tk, s.os⟩ := ⟨v, h', tk, rfl, rfl, x, p⟩
theorem enterP {prog : Program} {w : World} {A : Around} {s : Shared} {K : Frag} {R : Result → Shared → Prop} {name qual : Str} {params : Arguments} {body : List Stmt} {scope : Scope} {dV kV doc pm cdv ct oc : Value} {an od : Option Addr} {osl : Array (Option Value)} {f : Addr} {args : Args} {binds : List (Str × Value)}
    (X : K.In s.heap) (hlim : s.heap.NoLimit) (ho : K.lookup f = some ⟨oc, od, .func (fnOf name qual params body scope dV kV doc pm an cdv ct), osl⟩) (hcd : codeIn K cdv qual = true) (hroom : A.depth < recursionLimit)
    (hbind : BindsTo s (fnOf name qual params body scope dV kV doc pm an cdv ct) args binds) (hloc : ∀ y ∈ binds, scope.names.lookup y.1 = some .local)
    (h : ∀ h₁, Fr s.heap s.heap.objs.size h₁ (fun y => binds.reverse.lookup y) → News s.heap s.heap.objs.size h₁ [] →
      wpAny (model prog w) (A.deeper (envOf qual scope s.heap.objs.size f cdv)) (execs body (envOf qual scope s.heap.objs.size f cdv))
        (fun fl s' => R (.ok (.ret (match fl with | .ret v => v | _ => .none))) s')
        (fun e s' => wpAny (model prog w) (A.deeper (envOf qual scope s.heap.objs.size f cdv)) (leaving (envOf qual scope s.heap.objs.size f cdv) e) (fun _ s'' => R (.error e) s'') (fun e' s'' => R (.error e') s'') s')
        { s with heap := h₁, toks := s.toks + binds.length })
    (hco : scope.isCoroutine = false) (hgen : scope.isGenerator = false) (hk : scope.kind = .function) (hcell : ∀ x ∈ scope.names, x.2 ≠ .cell) :
    codeAny (model prog w) A (.call (.ref f) args) R s :=
  codeAny_call_def (fd := fnOf name qual params body scope dV kV doc pm an cdv ct) (body := body) (binds := binds) hroom (X _ _ ho) rfl hlim (codeRec_of X hcd) rfl hbind hcell hloc
    (fun h₁ hns hk₁ => h h₁ ⟨hns, hk₁, Nat.le_refl _⟩ News.nil) hco hgen hk
end Mine
end
section
open PySem PySem.W PyProof.Rows PySem.Spec PySem.W.X
set_option Elab.async false
set_option maxRecDepth 100000
set_option maxHeartbeats 0
namespace Mine
section
local macro_rules | `(tactic| x_close) => `(tactic| first | (rename Mem _ _ _ _ => D'; refine rets_intro (ext_mem D') ?_; refine ⟨_, _, _, rfl, D'.at 0 _ _ rfl, D'.at 1 _ _ rfl, D'.at 2 _ _ rfl, D'.ne 0 2 _ _ _ _ rfl rfl rfl, D'.ne 1 2 _ _ _ _ rfl rfl rfl, (D'.nw _ (List.mem_of_getElem? (i := 2) rfl)).2⟩) | (trace_state; fail "x_close"))
abbrev MapMade (h₀ : Heap) (l : Addr) (f : Value) (v : Value) (h : Heap) : Prop := ∃ M tt it, v = .ref M ∧ h.get? M = some ⟨.type "map", none, .fields #[.ref tt, f], #[]⟩ ∧ h.get? tt = some ⟨.type "tuple", none, .seq #[.ref it] 0, #[]⟩ ∧ h.get? it = some ⟨.type "list_iterator", none, .fields #[.ref l, .int 0 0], #[]⟩ ∧ M ≠ it ∧ tt ≠ it ∧ h₀.get? it = none
theorem map_int {prog : Program} {w : World} {s : Shared} {l : List Env} {b : Addr} {d : Option Addr} {items : Array Value} {n : Nat} {sl : Array (Option Value)} (hp : s.heap.get? b = some ⟨.type "list", d, .seq items n, sl⟩) :
    wpAny (model prog w) (AA 600 4000 l) (Sc (.call (.type "map") ⟨[.type "int", .ref b], []⟩)) (Rets s (MapMade s.heap b (.type "int"))) (fun _ _ => False) s := by
  x_run
theorem map_strip {prog : Program} {w : World} {s : Shared} {l : List Env} {b : Addr} {d : Option Addr} {items : Array Value} {n : Nat} {sl : Array (Option Value)} (hp : s.heap.get? b = some ⟨.type "list", d, .seq items n, sl⟩) :
    wpAny (model prog w) (AA 600 4000 l) (Sc (.call (.type "map") ⟨[.builtin "str.strip", .ref b], []⟩)) (Rets s (MapMade s.heap b (.builtin "str.strip"))) (fun _ _ => False) s := by
  x_run
end
section
variable {prog : Program} {w : World} {A : Around} {E : Value → Shared → Prop} {s : Shared} {h₀ : Heap} {L : Addr} {m : Str → Option Value} {news : List (Addr × Obj)}
/-- behind the making of a map: the frame, the ledger, the map itself, its iterator apart from all -/
structure MapHere (h₀ : Heap) (L : Addr) (news : List (Addr × Obj)) (h : Heap) (M tt it b : Addr) (f : Value) (items : Array Value) : Prop where
  at_ : MapAt h M tt it b 0 f items
  ok : MapOk M tt it b
  base : h₀.get? it = none
  L : it ≠ L
  news : ∀ p ∈ news, p.1 ≠ it
theorem Fr.ext {h h' : Heap} (F : Fr h₀ L h m) (x : Ext h h') : Fr h₀ L h' m := ⟨F.ns.keeps x, fun b o e => x b o (F.keep b o e), F.above⟩
theorem News.ext {h h' : Heap} (N : News h₀ L h news) (x : Ext h h') : News h₀ L h' news := fun p hp => ⟨x _ _ (N p hp).1, (N p hp).2⟩
theorem Fr.extBut {h h' : Heap} {it : Addr} (F : Fr h₀ L h m) (x : Heap.ExtBut it h h') (h1 : h₀.get? it = none) (h2 : it ≠ L) : Fr h₀ L h' m :=
  ⟨F.ns.extBut x (Ne.symm h2), fun b o e => x b o (fun q => by rw [q, h1] at e; cases e) (F.keep b o e), F.above⟩
theorem News.extBut {h h' : Heap} {it : Addr} (N : News h₀ L h news) (x : Heap.ExtBut it h h') (h1 : ∀ p ∈ news, p.1 ≠ it) : News h₀ L h' news :=
  fun p hp => ⟨x _ _ (h1 p hp) (N p hp).1, (N p hp).2⟩
theorem map_line {f : Value} {l : List Env} {b : Addr} {d : Option Addr} {items : Array Value} {n : Nat} {sl : Array (Option Value)} {Q : Value → Shared → Prop}
    (hmap : ∀ {prog : Program} {w : World} {s : Shared} {l : List Env} {b : Addr} {d : Option Addr} {items : Array Value} {n : Nat} {sl : Array (Option Value)}, s.heap.get? b = some ⟨.type "list", d, .seq items n, sl⟩ →
      wpAny (model prog w) (AA 600 4000 l) (Sc (.call (.type "map") ⟨[f, .ref b], []⟩)) (Rets s (MapMade s.heap b f)) (fun _ _ => False) s)
    (F : Fr h₀ L s.heap m) (N : News h₀ L s.heap news) (hb : s.heap.get? b = some ⟨.type "list", d, .seq items n, sl⟩)
    (a1 : A.handled = none) (a2 : A.depth ≤ 600) (a3 : A.frames = some l) (a4 : A.guards = some []) (a5 : A.units ≤ 4000)
    (h : ∀ M tt it h' tk, Fr h₀ L h' m → News h₀ L h' news → MapHere h₀ L news h' M tt it b f items → Ext s.heap h' → Q (.ref M) { s with heap := h', toks := tk }) :
    wpAny (model prog w) A (call (.type "map") [f, .ref b]) Q E s := by
  refine call_rets (upW (hmap hb) a1 a2 a3 a4 a5) fun v h' tk x ⟨M, tt, it, e, h1, h2, h3, n1, n2, n3⟩ => ?_
  subst e
  have hbi : b ≠ it := fun q => by rw [q, n3] at hb; cases hb
  refine h M tt it h' tk (Fr.ext F x) (News.ext N x) ⟨⟨⟨_, h1, rfl, rfl⟩, ⟨_, _, h2, rfl⟩, ⟨_, h3, rfl, rfl⟩, ⟨_, x _ _ hb, rfl, n, rfl⟩⟩, ⟨n1, n2, hbi⟩, ?_, ?_, ?_⟩ x
  · cases q : h₀.get? it with
    | none => rfl
    | some o => have := F.keep _ _ q; rw [n3] at this; cases this
  · rintro rfl
    obtain ⟨oL, _, _, hL, _⟩ := F.ns
    rw [n3] at hL; cases hL
  · intro p hp q
    have := (N p hp).1
    rw [q, n3] at this; cases this
end
end Mine
namespace Mine
theorem assign_tuple2 {M : Model} {A : Around} {E : Value → Shared → Prop} {s : Shared} {env : Env} {x y : Str} {px py pos : Pos} {k : Nat} {v : Value} {Q : Unit → Shared → Prop}
    (h : wpAny M A (unpackItems v 2 none) (fun vs s1 => ∃ v1 v2, vs = [v1, v2] ∧ wpAny M A (storeName env x v1) (fun _ s2 => wpAny M A (storeName env y v2) Q E s2) E s1) E s) :
    wpAny M A (assign (.Tuple [.Name x px, .Name y py] k pos) env v) Q E s := by
  show wpAny M A (do standAt pos; unpack v [(false, fun v => assign (.Name x px) env v), (false, fun v => assign (.Name y py) env v)]) Q E s
  refine wpAny_bind (wpAny_standAt ?_)
  unfold unpack
  refine wpAny_bind (wpAny_holding ?_)
  show wpAny M A (unpackItems v 2 none) _ E s
  refine wpAny_mono h (fun vs s1 hv => ?_) fun _ _ e => e
  obtain ⟨v1, v2, rfl, hv⟩ := hv
  show wpAny M A (do holding [v2] (do standAt px; bindName env x v1); do holding [] (do standAt py; bindName env y v2); pure ()) Q E s1
  unfold bindName
  refine wpAny_bind (wpAny_holding (wpAny_bind (wpAny_standAt (wpAny_bind (wpAny_holding (wpAny_point (wpAny_bind (wpAny_mono hv (fun _ s2 h2 => ?_) fun _ _ e => e))))))))
  refine wpAny_point (wpAny_bind (wpAny_holding (wpAny_bind (wpAny_standAt (wpAny_bind (wpAny_holding (wpAny_point (wpAny_bind (wpAny_mono h2 (fun _ s3 h3 => ?_) fun _ _ e => e)))))))))
  exact wpAny_point (wpAny_pure h3)
end Mine
end
section
open PySem PySem.W PyProof.Rows PySem.Spec
set_option Elab.async false
set_option maxRecDepth 100000
set_option maxHeartbeats 8000000
namespace Mine
local macro_rules | `(tactic| k_room) => `(tactic| exact Nat.le_of_ble_eq_true rfl)
theorem int_spec {prog : Program} {w : World} {A : Around} {x : Str} {t : Tok} {n : Int} (hn : PySem.intText? x = some n) (hl : x.length ≤ 640) : FSpec prog w A (.type "int") (.str x t) (fun v => ∃ tk, v = .int n tk) :=
  fun _ _ _ h => KIN.call_text hn hl (h _ _ ⟨_, rfl⟩)
theorem two_of {l : List (Str × Tok)} {a b : Str} (h : l.map (·.1) = [a, b]) : ∃ ta tb, l = [(a, ta), (b, tb)] := by
  match l, h with
  | [(x, t), (y, u)], h => simp at h; obtain ⟨rfl, rfl⟩ := h; exact ⟨t, u, rfl⟩
/-- what a run of pure code leaves: old objects as they were -/
abbrev tupOf (vs : List Value) : Obj := { cls := .type "tuple", data := .seq vs.toArray }
end Mine
end
section
open PySem PySem.W PyProof.Rows PySem.Spec
set_option Elab.async false
set_option maxRecDepth 100000
set_option maxHeartbeats 2000000
namespace Mine
section
variable {prog : Program} {w : World} {A : Around} {E : Value → Shared → Prop} {s : Shared}
theorem map_no_len : typeLookup (.type "map") "__len__" = pure none := by rw [typeLookup_type, builtinLookup_eq_fast]; kernel_rfl
theorem map_no_hint : typeLookup (.type "map") "__length_hint__" = pure none := by rw [typeLookup_type, builtinLookup_eq_fast]; kernel_rfl

theorem ext_loop_item {M tt it l S : Addr} {i : Nat} {f x res : Value} {items : Array Value} {acc : Array Value} {c : Nat} {P : Value → Prop} {R : Result → Shared → Prop}
    (D : MapAt s.heap M tt it l i f items) (O : MapOk M tt it l) (hx : items[i]? = some x) (hf : FSpec prog w A.in1.in1 f x P)
    (hS : s.heap.get? S = some { cls := .type "list", dict := none, data := .seq acc c, slots := #[] }) (hSi : S ≠ it) (hlt : acc.size < 100)
    (h : ∀ v h' tk, P v → MapAt h' M tt it l (i + 1) f items → Heap.ExtBut it s.heap h' → h'.get? S = some { cls := .type "list", dict := none, data := .seq acc c, slots := #[] } →
      codeAny (model prog w) A (.builtin "list.extend.loop" ⟨[.ref S, .ref M, res], []⟩) R { s with heap := h'.update S (Obj.mapSeq (·.push v)), toks := tk }) :
    codeAny (model prog w) A (.builtin "list.extend.loop" ⟨[.ref S, .ref M, res], []⟩) R s := by
  refine codeAny_builtin F.entry_extend_loop ?_
  rw [Around.under_plainId F.plain_extend_loop _]
  show wpAny _ A.in1 (pyNext (.ref M) >>= _) _ _ s
  refine wpAny_bind (map_next_ok D O hx hf fun v h' tk hv D' hx' => ?_)
  show wpAny _ A.in1 (updateSeq S (·.push v) >>= _) _ _ _
  refine wpAny_bind ?_
  have hS' := hx' _ _ hSi hS
  exact wpAny_updateSeq (s := { s with heap := h', toks := tk }) hS' rfl (wpAny_pure ⟨plainId_quiet F.plain_extend_loop _, h v h' tk hv D' hx' hS'⟩)
    (by have : sizeLine > 200 := by decide +kernel
        omega) (by have : sizeLine > 200 := by decide +kernel
                   show (acc.push v).size ≤ sizeLine + 1; rw [Array.size_push]; omega)

theorem mapAt_ext {S : Addr} {h h' : Heap} {M tt it l : Addr} {i : Nat} {f : Value} {items : Array Value} (D : MapAt h M tt it l i f items) (hM : ∀ o, h.get? M = some o → h'.get? M = some o) (ht : ∀ o, h.get? tt = some o → h'.get? tt = some o) (hi : ∀ o, h.get? it = some o → h'.get? it = some o) (hl : ∀ o, h.get? l = some o → h'.get? l = some o) : MapAt h' M tt it l i f items := by
  obtain ⟨o, ho, hc, hd⟩ := D.m
  obtain ⟨ot, nt, hot, hdt⟩ := D.t
  exact ⟨⟨o, hM _ ho, hc, hd⟩, ⟨ot, nt, ht _ hot, hdt⟩, D.it.at fun o e => hi _ e, D.l.at fun o e => hl _ e⟩

theorem collect_map2 {M tt it l : Addr} {f x y : Value} {P1 P2 : Value → Prop} {Q : List Value → Shared → Prop} (hh : A.handled = none)
    (D : MapAt s.heap M tt it l 0 f #[x, y]) (O : MapOk M tt it l) (h1 : ∀ A, FSpec prog w A f x P1) (h2 : ∀ A, FSpec prog w A f y P2)
    (h : ∀ v1 v2 h' tk, P1 v1 → P2 v2 → Heap.ExtBut it s.heap h' → Q [v1, v2] { s with heap := h', toks := tk }) :
    wpAny (model prog w) A (collect (.ref M)) Q E s := by
  have hlt : ∀ b o, s.heap.get? b = some o → b ≠ s.heap.objs.size := fun b o e q => Nat.lt_irrefl _ (q ▸ Heap.lt_size e)
  obtain ⟨oM, hM, hMc, hMd⟩ := id D.m
  obtain ⟨ot, nt, hot, hdt⟩ := id D.t
  obtain ⟨oi, hoi, hic, hid⟩ := id D.it
  obtain ⟨ol, hol, hlc, nl, hld⟩ := id D.l
  have hSM := hlt _ _ hM
  have hTM : s.TypeIs (.ref M) "map" := ⟨oM, hM, hMc⟩
  unfold collect
  refine wpAny_bind (wpAny_runValue (codeAny_builtin F.entry_proto_collect ?_))
  rw [Around.under_plainId F.plain_proto_collect _]
  show wpAny _ A.in1 (newList [] >>= fun l => again (.builtin "list.__iadd__" ⟨[l, .ref M], []⟩)) _ _ s
  refine wpAny_bind (wpAny_newObj_type ?_)
  refine wpAny_pure ⟨plainId_quiet F.plain_list_iadd _, codeAny_builtin F.entry_list_iadd ?_⟩
  rw [Around.under_plainId F.plain_list_iadd _]
  have keep₁ : ∀ b o, s.heap.get? b = some o → (s.heap.push { cls := .type "list", data := .seq ([] : List Value).toArray }).get? b = some o := fun b o e => Heap.get?_push_of_some _ e
  have hT₁ : Shared.TypeIs { s with heap := s.heap.push { cls := .type "list", data := .seq ([] : List Value).toArray } } (.ref M) "map" := ⟨oM, keep₁ _ _ hM, hMc⟩
  show wpAny _ A.in1 (Builtin.List.listExtendWith (.ref s.heap.objs.size) (.ref M) (.ref s.heap.objs.size)) _ _ _
  unfold Builtin.List.listExtendWith
  refine wpAny_bind (wpAny_typeOf hT₁ ?_)
  have h1' : Builtin.List.listSameRef (.ref s.heap.objs.size) (.ref M) = false := by simp [Builtin.List.listSameRef, Ne.symm hSM]
  have h2' : (Value.type "map" == Value.type "list") = false := by decide
  have h3' : (Value.type "map" == Value.type "tuple") = false := by decide
  simp only [h1', h2', h3', Bool.or_false, Bool.false_eq_true, if_false]
  have D₁ : MapAt (s.heap.push { cls := .type "list", data := .seq ([] : List Value).toArray }) M tt it l 0 f #[x, y] := mapAt_ext (S := M) D (keep₁ _) (keep₁ _) (keep₁ _) (keep₁ _)
  refine wpAny_bind (map_iter_self D₁ ?_)
  refine wpAny_bind (wpAny_holding ?_)
  unfold Builtin.List.listLengthHint
  refine wpAny_bind (wpAny_specialOf hT₁ map_no_len ?_)
  show wpAny _ A.in1 (specialOf (Value.ref M) (Str.ofString "__length_hint__") >>= _) _ _ _
  refine wpAny_bind (wpAny_specialOf hT₁ map_no_hint ?_)
  refine wpAny_pure ?_
  show wpAny _ A.in1 (rule "list.extend.makes-room" >>= fun _ => Builtin.List.listTouch (.ref s.heap.objs.size) >>= fun _ =>
    again (.builtin "list.extend.loop" ⟨[.ref s.heap.objs.size, .ref M, .ref s.heap.objs.size], []⟩)) _ _ _
  refine wpAny_bind (wpAny_rule ?_)
  have hS₁ : (s.heap.push { cls := .type "list", data := .seq ([] : List Value).toArray }).get? s.heap.objs.size = some { cls := .type "list", data := .seq ([] : List Value).toArray } := Heap.get?_push_size _ rfl
  refine wpAny_bind ?_
  show wpAny _ A.in1 (updateSeq s.heap.objs.size (·.push .none) >>= fun _ => updateSeq s.heap.objs.size (·.pop)) _ _ _
  refine wpAny_bind (wpAny_updateSeq hS₁ rfl ?_)
  have hS₂ := Heap.get?_update_self (Obj.mapSeq (·.push Value.none)) hS₁ rfl
  refine wpAny_updateSeq hS₂ rfl ?_
  have hS₃ := Heap.get?_update_self (Obj.mapSeq (·.pop)) hS₂ rfl
  have keep₃ : ∀ b o, s.heap.get? b = some o →
      (((s.heap.push { cls := .type "list", data := .seq ([] : List Value).toArray }).update s.heap.objs.size (Obj.mapSeq (·.push Value.none))).update s.heap.objs.size (Obj.mapSeq (·.pop))).get? b = some o :=
    fun b o e => (Heap.get?_update_other _ _ (Ne.symm (hlt _ _ e))).trans ((Heap.get?_update_other _ _ (Ne.symm (hlt _ _ e))).trans (keep₁ _ _ e))
  have D₃ := mapAt_ext (S := M) D (keep₃ _) (keep₃ _) (keep₃ _) (keep₃ _)
  have nSi := Ne.symm (hlt _ _ hoi)
  generalize hh3 : (((s.heap.push { cls := .type "list", data := .seq ([] : List Value).toArray }).update s.heap.objs.size (Obj.mapSeq (·.push Value.none))).update s.heap.objs.size (Obj.mapSeq (·.pop))) = h3 at D₃ keep₃ hS₃ ⊢
  refine wpAny_pure ⟨plainId_quiet F.plain_extend_loop _, ?_⟩
  refine ext_loop_item (s := { s with heap := h3 }) D₃ O rfl (h1 _) hS₃ nSi (Nat.le_of_ble_eq_true rfl) fun v1 h4 tk4 p1 D4 x4 hS4 => ?_
  have D4' : MapAt (h4.update s.heap.objs.size (Obj.mapSeq (·.push v1))) M tt it l 1 f #[x, y] := by
    refine mapAt_ext (S := M) D4 ?_ ?_ ?_ ?_
    · exact fun o e => (Heap.get?_update_other _ _ (Ne.symm (hlt _ _ hM))).trans e
    · exact fun o e => (Heap.get?_update_other _ _ (Ne.symm (hlt _ _ hot))).trans e
    · exact fun o e => (Heap.get?_update_other _ _ (Ne.symm (hlt _ _ hoi))).trans e
    · exact fun o e => (Heap.get?_update_other _ _ (Ne.symm (hlt _ _ hol))).trans e
  have hS4' := Heap.get?_update_self (Obj.mapSeq (·.push v1)) hS4 rfl
  have x4' : Heap.ExtBut it s.heap (h4.update s.heap.objs.size (Obj.mapSeq (·.push v1))) := fun b o hb e => (Heap.get?_update_other _ _ (Ne.symm (hlt _ _ e))).trans (x4 b o hb (keep₃ b o e))
  generalize h4.update s.heap.objs.size (Obj.mapSeq (·.push v1)) = h5 at D4' hS4' x4' ⊢
  refine ext_loop_item (s := { s with heap := h5, toks := tk4 }) D4' O rfl (h2 _) hS4' nSi (Nat.le_of_ble_eq_true rfl) fun v2 h6 tk6 p2 D6 x6 hS6 => ?_
  have D6' : MapAt (h6.update s.heap.objs.size (Obj.mapSeq (·.push v2))) M tt it l 2 f #[x, y] := by
    refine mapAt_ext (S := M) D6 ?_ ?_ ?_ ?_
    · exact fun o e => (Heap.get?_update_other _ _ (Ne.symm (hlt _ _ hM))).trans e
    · exact fun o e => (Heap.get?_update_other _ _ (Ne.symm (hlt _ _ hot))).trans e
    · exact fun o e => (Heap.get?_update_other _ _ (Ne.symm (hlt _ _ hoi))).trans e
    · exact fun o e => (Heap.get?_update_other _ _ (Ne.symm (hlt _ _ hol))).trans e
  have hS6' := Heap.get?_update_self (Obj.mapSeq (·.push v2)) hS6 rfl
  have x6' : Heap.ExtBut it s.heap (h6.update s.heap.objs.size (Obj.mapSeq (·.push v2))) := fun b o hb e => (Heap.get?_update_other _ _ (Ne.symm (hlt _ _ e))).trans (x6 b o hb (x4' b o hb e))
  generalize h6.update s.heap.objs.size (Obj.mapSeq (·.push v2)) = h7 at D6' hS6' x6' ⊢
  refine codeAny_builtin F.entry_extend_loop ?_
  rw [Around.under_plainId F.plain_extend_loop _]
  show wpAny _ _ (pyNext (.ref M) >>= _) _ _ _
  refine wpAny_bind (map_next_end (s := { s with heap := h7, toks := tk6 }) (by exact hh) D6' rfl fun h8 x8 => ?_)
  refine wpAny_pure ?_
  show wpAny _ A (load s.heap.objs.size >>= _) _ _ _
  refine wpAny_bind (wpAny_load (x8 _ _ nSi hS6') ?_)
  exact wpAny_pure (h v1 v2 h8 tk6 p1 p2 (extBut_trans x6' x8))
end
end Mine
namespace Mine
section
variable {prog : Program} {w : World} {A : Around} {E : Value → Shared → Prop} {s : Shared} {K : Frag} {h₀ : Heap} {L : Addr} {m : Str → Option Value}
/-- an attribute of a kit type that is a plain method of it -/
theorem type_attr {T : String} {x : Str} {a : Value} {expr : Bool} {Q : Value → Shared → Prop} (X : K.In s.heap) (ht : kitMeta T = true) (hs : Manifest.isStub T = false)
    (e : findCls K (.type T) (.type "type") x = some (.val a)) (ha : ∀ s', wpAny (model prog w) A (handedOut a) (fun v s'' => v = a ∧ s'' = s') E s')
    (h : Q a { s with toks := s.toks + 1 }) : wpAny (model prog w) A (getAttr (.type T) x expr) Q E s := by
  have hstub : opaqueClassAbove (.type T) = pure none := by unfold opaqueClassAbove; dsimp only; rw [hs]; rfl
  have L0 : Looks (model prog w) s.heap (typeOf (.type T)) (.type "type") := Looks.of_pure (kitMeta_of ht)
  have LO : Looks (model prog w) s.heap (opaqueClassAbove (.type T)) none := Looks.of_pure hstub
  have hg : findIn K (.type "type") "__getattribute__" = some (some (.builtin "type.__getattribute__")) := type_tga
  refine cls_open X LO L0 hg (looks_hook X (r := none) (by rfl)) (by show subIn K _ _ = _; rfl) e ?_
  show wpAny _ _ (do ret a) _ _ _
  refine wpAny_pure ?_
  exact wpAny_mono (ha _) (fun v s' hv => by obtain ⟨rfl, rfl⟩ := hv; exact h) fun _ _ z => z
theorem star_map2 {M tt it l : Addr} {f x y : Value} {P1 P2 : Value → Prop} {Q : List Value → Shared → Prop} (hh : A.handled = none)
    (D : MapAt s.heap M tt it l 0 f #[x, y]) (O : MapOk M tt it l) (h1 : ∀ A, FSpec prog w A f x P1) (h2 : ∀ A, FSpec prog w A f y P2)
    (h : ∀ v1 v2 h' tk, P1 v1 → P2 v2 → Heap.ExtBut it s.heap h' → Q [v1, v2] { s with heap := h', toks := tk }) :
    StarOf (model prog w) A E (.ref M) Q s := by
  unfold StarOf
  exact map_iterable D ⟨rfl, collect_map2 hh D O h1 h2 h⟩
theorem handed_builtin {a : Value} (e : handedIn a = true) (s' : Shared) : wpAny (model prog w) A (handedOut a) (fun v s'' => v = a ∧ s'' = s') E s' := handed_on e ⟨rfl, rfl⟩
end
end Mine
end
section
open PySem PySem.W PyProof.Rows PySem.Spec PySem.W.X
set_option Elab.async false
set_option maxRecDepth 100000
set_option maxHeartbeats 0
namespace Mine
section
local macro_rules | `(tactic| x_close) => `(tactic| first | (rename Mem _ _ _ _ => D'; refine rets_intro (ext_mem D') ?_; exact ⟨_, _, rfl, (D'.nw _ (List.mem_of_getElem? (i := 0) rfl)).2, (D'.nw _ (List.mem_of_getElem? (i := 1) rfl)).2, D'.ne 0 1 _ _ _ _ rfl rfl rfl, D'.at 0 _ _ rfl, D'.at 1 _ _ rfl⟩) | (trace_state; fail "x_close"))
theorem pair_new {w : World} {s : Shared} {l : List Env} {a b : Str} {ta tb : Tok} (X : (KK w.params).In s.heap) :
    wpAny (model PySem.Challenge.rw_in0185_02.row.prog w) (AA 600 4000 l) (Sc (.call (.ref 203) ⟨[.str a ta, .str b tb], []⟩)) (Rets s fun v h' => ∃ D d, v = .ref D ∧ s.heap.get? D = none ∧ s.heap.get? d = none ∧ D ≠ d ∧ h'.get? D = some ⟨.ref 203, some d, .seq #[.str a ta, .str b tb] 0, #[]⟩ ∧ h'.get? d = some ⟨.type "dict", none, .dict { toList := [] } 0, #[]⟩) (fun _ _ => False) s := by
  have B0 := b_get X
  revert X B0; k_fill; intro X B0
  x_run
end
section
local macro_rules | `(tactic| x_close) => `(tactic| first | (rename Mem _ _ _ _ => D'; refine rets_intro (ext_mem D') ?_; exact ⟨_, _, rfl, (D'.nw _ (List.mem_of_getElem? (i := 0) rfl)).2, (D'.nw _ (List.mem_of_getElem? (i := 1) rfl)).2, D'.ne 0 1 _ _ _ _ rfl rfl rfl, D'.at 0 _ _ rfl, D'.at 1 _ _ rfl⟩) | (trace_state; fail "x_close"))
/-- what a new book is: the instance, its own dict -/
abbrev bookObj (d : Addr) (es : List DictEntry) (ep : Nat) : Obj := ⟨.ref 108, some d, .dict { toList := es } ep, #[some (.type "list")]⟩
abbrev dictObj (es : List DictEntry) (ep : Nat) : Obj := ⟨.type "dict", none, .dict { toList := es } ep, #[]⟩
theorem book_new {w : World} {s : Shared} {l : List Env} (X : (KK w.params).In s.heap) :
    wpAny (model PySem.Challenge.rw_in0185_02.row.prog w) (AA 600 4000 l) (Sc (.call (.ref 108) ⟨[.type "list"], []⟩)) (Rets s fun v h' => ∃ B d, v = .ref B ∧ s.heap.get? B = none ∧ s.heap.get? d = none ∧ B ≠ d ∧ h'.get? B = some (bookObj d [] 0) ∧ h'.get? d = some (dictObj [] 0)) (fun _ _ => False) s := by
  have B0 := b_get X
  revert X B0; k_fill; intro X B0
  x_run
end
end Mine
end
section
open PySem PySem.W PyProof.Rows PySem.Spec
set_option Elab.async false
set_option maxRecDepth 100000
set_option maxHeartbeats 8000000
namespace Mine
local macro_rules | `(tactic| k_room) => `(tactic| exact Nat.le_of_ble_eq_true rfl)
theorem strip_spec {prog : Program} {w : World} {x : Str} {t : Tok} (hl : x.length ≤ 640) (A : Around) : FSpec prog w A (.builtin "str.strip") (.str x t) (fun v => ∃ tk, v = .str (Txt.strip x) tk) :=
  fun _ _ _ h => SC.strip (fun t' k => h _ _ ⟨_, rfl⟩) (Nat.le_trans hl (by decide +kernel))
abbrev pairObj (d : Addr) (a : Str) (ta : Tok) (b : Str) (tb : Tok) : Obj := ⟨.ref 203, some d, .seq #[.str a ta, .str b tb] 0, #[]⟩
end Mine
end
section
open PySem PySem.W PyProof.Rows PySem.Spec PySem.W.X
set_option Elab.async false
set_option maxRecDepth 100000
set_option maxHeartbeats 0
namespace Mine
section
local macro_rules | `(tactic| x_close) => `(tactic| first | (rename Mem _ _ _ _ => D'; exact rets_intro (ext_mem D') rfl) | exact rets_intro (fun _ _ e => e) rfl | (trace_state; fail "x_close"))
theorem type_of_pair {w : World} {s : Shared} {l : List Env} {D d : Addr} {a b : Str} {ta tb : Tok} (X : (KK w.params).In s.heap) (hD : s.heap.get? D = some ⟨.ref 203, some d, .seq #[.str a ta, .str b tb] 0, #[]⟩) :
    wpAny (model PySem.Challenge.rw_in0185_02.row.prog w) (AA 600 4000 l) (Sc (.call (.type "type") ⟨[.ref D], []⟩)) (Rets s fun v h => v = .ref 203) (fun _ _ => False) s := by
  have B0 := b_get X
  revert X B0; k_fill; intro X B0
  x_run
theorem sub_pair {w : World} {s : Shared} {l : List Env} (X : (KK w.params).In s.heap) :
    wpAny (model PySem.Challenge.rw_in0185_02.row.prog w) (AA 600 4000 l) (Sc (.call (.builtin "issubclass") ⟨[.ref 203, .type "tuple"], []⟩)) (Rets s fun v h => v = .bool true) (fun _ _ => False) s := by
  have B0 := b_get X
  revert X B0; k_fill; intro X B0
  x_run
end
section
variable {prog : Program} {w : World} {A : Around} {E : Value → Shared → Prop} {s : Shared}
theorem tup_kind2 : builtinKind "tuple.__getitem__" = some .slot := by decide +kernel
theorem tup_split2 : splitId "tuple.__getitem__" = some ("tuple", "__getitem__") := by decide +kernel
theorem tupleItemsOf_pair {D d : Addr} {a b : Str} {ta tb : Tok} {Q : Array Value → Shared → Prop} (hD : s.heap.get? D = some (pairObj d a ta b tb)) (h : Q #[.str a ta, .str b tb] s) :
    wpAny (model prog w) A (Builtin.Tuple.tupleItemsOf (.ref D)) Q E s := by
  unfold Builtin.Tuple.tupleItemsOf
  refine wpAny_bind (wpAny_seqItems hD rfl (wpAny_pure h))
theorem pair_item {K : Frag} {D d : Addr} {a b : Str} {ta tb t : Tok} {i : Int} {j : Nat} {x : Value} {Q : Value → Shared → Prop} (X : K.In s.heap) (hD : s.heap.get? D = some (pairObj d a ta b tb)) (hi : subIn K (.ref 203) (.type "tuple") = some true)
    (hlo : -(2 ^ 63) ≤ i) (hhi : i < 2 ^ 63) (hj : seqIndex? i 2 = some j) (hx : #[Value.str a ta, Value.str b tb][j]? = some x) (h : Q x s) : wpAny (model prog w) A (call (.builtin "tuple.__getitem__") [.ref D, .int i t]) Q E s := by
  have L0 : Looks (model prog w) s.heap (typeOf (.ref D)) (.ref 203) := (Looks.ld hD).andThen .now
  refine wpAny_call (codeAny_call_builtin slot_tuple_getitem.plain entry_tuple_getitem ?_)
  refine @check_slot (model prog w) _ _ s "tuple.__getitem__" "tuple" "__getitem__" (.ref D) [.int i t] [] _ tup_kind2 tup_split2 (L0.andThen (looks_subIn X hi)) (args_tuple_getitem _ _) ?_
  show wpAny _ _ (Builtin.Tuple.tupleItemsOf (.ref D) >>= _) _ _ s
  refine wpAny_bind (tupleItemsOf_pair hD ?_)
  refine wpAny_bind (wpAny_typeOf (typeIs_int s i t) ?_)
  rw [if_neg (by decide)]
  refine wpAny_bind (wpAny_specialOf (T := "int") (typeIs_int s i t) int_index ?_)
  rw [if_neg (by simp)]
  refine wpAny_bind (wpAny_of_eq (a := i) rfl ?_)
  rw [if_neg (by simp only [Bool.or_eq_true, decide_eq_true_eq]; omega)]
  have hj' : seqIndex? i (#[Value.str a ta, Value.str b tb]).size = some j := hj
  simp only [hj', Option.bind_some, hx]
  exact wpAny_pure h
end
section
variable {prog : Program} {w : World} {A : Around} {E : Value → Shared → Prop} {s : Shared} {K : Frag}
theorem type_method {T : String} {x : Str} {a : Value} {pl : Sem Bool} {Q : Value × List Value → Shared → Prop} (X : K.In s.heap) (ht : kitMeta T = true) (hs : Manifest.isStub T = false)
    (e : findCls K (.type T) (.type "type") x = some (.val a)) (ha : handedIn a = true)
    (h : Q (a, []) { s with toks := s.toks + 1 }) : wpAny (model prog w) A (getMethod (.type T) x pl) Q E s := by
  unfold getMethod
  have hg : findIn K (.type "type") "__getattribute__" = some (some (.builtin "type.__getattribute__")) := type_tga
  have L0 : Looks (model prog w) s.heap (typeOf (.type T)) (.type "type") := Looks.of_pure (kitMeta_of ht)
  unfold specialOf
  refine wpAny_bind (wpAny_bind (L0.here ((looks_findIn X hg).here ?_)))
  dsimp only
  rw [if_pos canon_tga]
  exact wpAny_bind (type_attr X ht hs e (handed_builtin ha) (wpAny_pure h))
end
section
local macro_rules | `(tactic| k_room) => `(tactic| exact Nat.le_of_ble_eq_true rfl)
local macro_rules | `(tactic| walk_at "getMethod type:tuple") => `(tactic| (refine' type_method ?X ?ht ?hs ?e ?ha ?_; (case X => (rename Fr _ _ _ _ => F1; exact Frag.In.keeps (by with_reducible assumption) F1.keep)); (case ht => decide +kernel); (case hs => decide +kernel); (case e => k_is); (case ha => rfl)))
local macro_rules | `(tactic| walk_at "call type:type") => `(tactic| ((with_reducible show wpAny _ _ (call (Value.type "type") [Value.ref _]) _ _ _); rename Fr _ _ _ _ => F1; rename News _ _ _ _ => N1; refine call_rets (upW (type_of_pair (Frag.In.keeps (by with_reducible assumption) F1.keep) (F1.keep _ _ (by assumption))) rfl (Nat.le_of_ble_eq_true rfl) rfl rfl (Nat.le_of_ble_eq_true rfl)) ?_; intro v h2 tk2 x2 e; subst e; have F2 := Fr.ext F1 x2; have N2 := News.ext N1 x2; clear F1 N1; (try dsimp only)))
local macro_rules | `(tactic| walk_at "call builtin:issubclass") => `(tactic| (rename Fr _ _ _ _ => F1; rename News _ _ _ _ => N1; refine call_rets (upW (sub_pair (Frag.In.keeps (by with_reducible assumption) F1.keep)) rfl (Nat.le_of_ble_eq_true rfl) rfl rfl (Nat.le_of_ble_eq_true rfl)) ?_; intro v h2 tk2 x2 e; subst e; have F2 := Fr.ext F1 x2; have N2 := News.ext N1 x2; clear F1 N1; (try dsimp only)))
set_option maxHeartbeats 8000000
set_option pp.deepTerms false
theorem tg_name {w : World} {l : List Env} {s : Shared} {R : Result → Shared → Prop} {p : Program} {loose : List Str} {mean : ExcName → Option Value} {mg mb : Str → Option Value} {D d : Addr} {a b : Str} {ta tb : Tok}
    (X₁ : (KK w.params).In s.heap) (T : Top p loose mean mg mb s.heap) (hD : s.heap.get? D = some (pairObj d a ta b tb))
    (h : ∀ h' tk, Ext s.heap h' → R (.ok (.ret (.str a ta))) { s with heap := h', toks := tk }) :
    codeAny (model PySem.Challenge.rw_in0185_02.row.prog w) (AA 500 3000 l) (.call (.ref 61) ⟨[.ref 172, .ref D, .ref 203], []⟩) R s := by
  have X₀ := K_of_KK X₁
  revert X₀; k_fill; intro X₀
  w_top off
  refine' enterP X₀ T.nolimit ?k6 ?k7 ?k8 ?k9 ?kB ?_ ?c2 ?c3 ?c4 ?c5
  case k6 => k_is
  case k7 => k_is
  case k8 => k_room
  case k9 => first | exact BindsTo.of_eq rfl | exact binds_K X₀ rfl (by k_is) rfl rfl rfl
  case kB => exact locs rfl
  case c2 => exact rfl
  case c3 => exact rfl
  case c4 => exact rfl
  case c5 => decide
  intro h₁ F N
  have kX := kFor F X₀
  (try dsimp only); (try k_fold)
  k_steps
  rename Fr _ _ _ _ => F1
  refine' pair_item ?X ?hD ?hi ?lo ?hi2 (j := 0) ?hj ?hx ?_
  case X => exact Frag.In.keeps X₀ F1.keep
  case hD => exact F1.keep _ _ hD
  case hi => k_is
  case lo => decide
  case hi2 => decide
  case hj => rfl
  case hx => rfl
  k_steps
  rename Fr _ _ _ _ => F1
  exact h _ _ F1.keep
theorem tg_value {w : World} {l : List Env} {s : Shared} {R : Result → Shared → Prop} {p : Program} {loose : List Str} {mean : ExcName → Option Value} {mg mb : Str → Option Value} {D d : Addr} {a b : Str} {ta tb : Tok}
    (X₁ : (KK w.params).In s.heap) (T : Top p loose mean mg mb s.heap) (hD : s.heap.get? D = some (pairObj d a ta b tb))
    (h : ∀ h' tk, Ext s.heap h' → R (.ok (.ret (.str b tb))) { s with heap := h', toks := tk }) :
    codeAny (model PySem.Challenge.rw_in0185_02.row.prog w) (AA 500 3000 l) (.call (.ref 61) ⟨[.ref 175, .ref D, .ref 203], []⟩) R s := by
  have X₀ := K_of_KK X₁
  revert X₀; k_fill; intro X₀
  w_top off
  refine' enterP X₀ T.nolimit ?k6 ?k7 ?k8 ?k9 ?kB ?_ ?c2 ?c3 ?c4 ?c5
  case k6 => k_is
  case k7 => k_is
  case k8 => k_room
  case k9 => first | exact BindsTo.of_eq rfl | exact binds_K X₀ rfl (by k_is) rfl rfl rfl
  case kB => exact locs rfl
  case c2 => exact rfl
  case c3 => exact rfl
  case c4 => exact rfl
  case c5 => decide
  intro h₁ F N
  have kX := kFor F X₀
  (try dsimp only); (try k_fold)
  k_steps
  rename Fr _ _ _ _ => F1
  refine' pair_item ?X ?hD ?hi ?lo ?hi2 (j := 1) ?hj ?hx ?_
  case X => exact Frag.In.keeps X₀ F1.keep
  case hD => exact F1.keep _ _ hD
  case hi => k_is
  case lo => decide
  case hi2 => decide
  case hj => rfl
  case hx => rfl
  k_steps
  rename Fr _ _ _ _ => F1
  exact h _ _ F1.keep
end
end Mine
end
section
open PySem PySem.W PyProof.Rows PySem.Spec PySem.W.X
set_option Elab.async false
set_option maxRecDepth 100000
set_option maxHeartbeats 0
namespace Mine
section
variable {w : World} {A : Around} {E : Value → Shared → Prop} {s : Shared} {l : List Env} {D d : Addr} {a b : Str} {ta tb : Tok}
theorem get_open2 {prog : Program} {K : Frag} {x C : Addr} {ox : Obj} {od : Option Obj} {name : Str} {expr : Bool} {T gid : String} {Q : Value → Shared → Prop}
    (X : K.In s.heap) (I : InstAt s.heap x ox C od) (hga : findIn K (.ref C) "__getattribute__" = some (some (.builtin gid))) (hne : (Value.builtin gid == Value.builtin "object.__getattribute__") = false)
    (hb : ∀ self, bindSpecial (.builtin gid) self = pure (.builtin gid, [self])) (hp : plainId gid = true) (hk : builtinKind gid = some .slot) (hs : splitId gid = some (T, "__getattribute__"))
    (en : entryFor table gid = some Builtin.«object.__getattribute__») (ar : ∀ a b, argsOk gid ⟨[a, b], []⟩) (hi : subIn K (.ref C) (.type T) = some true) (hk0 : findIn K (.ref C) "__getattr__" = some none)
    (h : wpAny (model prog w) A.in1 (Builtin.«object.__getattribute__» ⟨[.ref x, .str name s.toks], []⟩)
      (fun fin s' => match fin with | .done (.ret v) => wpAny (model prog w) A (handedOut v) Q E s' | _ => False) (fun _ _ => False) { s with toks := s.toks + 1 }) :
    wpAny (model prog w) A (getAttr (.ref x) name expr) Q E s := by
  obtain ⟨hh, g, d, t, os⟩ := s
  have L0 := I.type (M := model prog w)
  have L1 := looks_findIn (M := model prog w) X hga
  have L2 := looks_findIn (M := model prog w) X hk0
  have L3 := looks_subIn (M := model prog w) X hi
  unfold getAttr getAttrBy
  refine wpAny_bind (wpAny_mkText (wpAny_holding (wpAny_bind (L0.at (wpAny_bind (L1.at ?_))))))
  dsimp only
  rw [show (onTheHeap (Value.ref C) && Value.builtin gid == Value.builtin "object.__getattribute__") = false from by rw [hne, Bool.and_false], if_neg (by decide)]
  unfold getAttrByItsOwn hookBefore
  refine wpAny_bind (L2.at (wpAny_bind (wpAny_attempt (wpAny_holding ?_))))
  unfold callGetattribute
  rw [show (expr && onTheHeap (Value.builtin gid)) = false from Bool.and_false _, if_neg (by decide)]
  unfold boundAndCalled
  rw [hb]
  refine wpAny_bind (wpAny_pure ?_)
  show wpAny _ _ (call (.builtin gid) [.ref x, .str name t]) _ _ _
  refine wpAny_call ?_
  refine codeAny_call_builtin hp en ?_
  refine @check_slot (model prog w) _ _ (⟨hh, g, d, t + 1, os⟩ : Shared) gid T "__getattribute__" (.ref x) [.str name t] [] _ hk hs (L0.andThen L3) (ar _ _) ?_
  refine wpAny_mono h (fun fin s' z => ?_) fun _ _ z => z.elim
  rcases fin with (_ | _ | _ | _) | _ <;> first | exact z | exact z.elim
theorem get_bind2 {prog : Program} {K : Frag} {x C f : Addr} {a : Value} {ox : Obj} {od : Option Obj} {name : Str} {expr : Bool} {T gid : String} {Q : Value → Shared → Prop}
    (X : K.In s.heap) (I : InstAt s.heap x ox C od) (hga : findIn K (.ref C) "__getattribute__" = some (some (.builtin gid))) (hne : (Value.builtin gid == Value.builtin "object.__getattribute__") = false)
    (hb : ∀ self, bindSpecial (.builtin gid) self = pure (.builtin gid, [self])) (hp : plainId gid = true) (hk : builtinKind gid = some .slot) (hs : splitId gid = some (T, "__getattribute__"))
    (en : entryFor table gid = some Builtin.«object.__getattribute__») (ar : ∀ a b, argsOk gid ⟨[a, b], []⟩) (hi : subIn K (.ref C) (.type T) = some true) (hk0 : findIn K (.ref C) "__getattr__" = some none)
    (hf : findObj K C od name = some (.bind (.ref f) a))
    (h : wpAny (model prog w) A.in1 (call (.ref f) [a, .ref x, .ref C]) (fun v s' => wpAny (model prog w) A (handedOut v) Q E s') (fun _ _ => False) { s with toks := s.toks + 1 }) :
    wpAny (model prog w) A (getAttr (.ref x) name expr) Q E s := by
  refine get_open2 X I hga hne hb hp hk hs en ar hi hk0 ?_
  obtain ⟨hh', gg, d, t, os⟩ := s
  have L0 := I.type (M := model prog w)
  have L1 := looks_find (M := model prog w) X I hf
  refine wpAny_bind (wpAny_pure (wpAny_bind (wpAny_pure (wpAny_bind (L0.at (wpAny_bind (L1.at ?_)))))))
  show wpAny _ _ (holding [a] (call (.ref f) [a, .ref x, .ref C]) >>= ret) _ _ _
  exact wpAny_bind (wpAny_holding (wpAny_mono h (fun v s' z => wpAny_pure z) fun _ _ z => z))
theorem tup_kind : builtinKind "tuple.__getattribute__" = some .slot := by decide +kernel
theorem tup_split : splitId "tuple.__getattribute__" = some ("tuple", "__getattribute__") := by decide +kernel
theorem get_desc {prog : Program} {K : Frag} {x C q f : Addr} {ox : Obj} {od : Option Obj} {name : Str} {expr : Bool} {v : Value} {Q : Value → Shared → Prop}
    (X : K.In s.heap) (I : InstAt s.heap x ox C od) (hga : findIn K (.ref C) "__getattribute__" = some (some (.builtin "tuple.__getattribute__"))) (hi : subIn K (.ref C) (.type "tuple") = some true) (hk0 : findIn K (.ref C) "__getattr__" = some none)
    (hf : findObj K C od name = some (.bind (.ref f) (.ref q)))
    (a1 : A.handled = none) (a2 : A.depth ≤ 500) (a3 : A.frames = some l) (a4 : A.guards = some []) (a5 : A.in1.units ≤ 3000)
    (hc : ∀ (s' : Shared) (R : Result → Shared → Prop), s'.heap = s.heap → (∀ h' tk, Ext s'.heap h' → R (.ok (.ret v)) { s' with heap := h', toks := tk }) → codeAny (model prog w) (AA 500 3000 l) (.call (.ref f) ⟨[.ref q, .ref x, .ref C], []⟩) R s')
    (hh : handedIn v = true) (h : ∀ h' tk, Ext s.heap h' → Q v { s with heap := h', toks := tk }) : wpAny (model prog w) A (getAttr (.ref x) name expr) Q E s :=
  get_bind2 (T := "tuple") X I hga (by decide) PySem.F.slot_tuple_getattribute.bind PySem.F.slot_tuple_getattribute.plain tup_kind tup_split am_entry_tuple_getattribute PySem.F.args_tuple_getattribute_2 hi hk0 hf
    (wpAny_call (up (hc _ _ rfl fun h' tk x => handed_on hh (h h' tk x)) a1 a2 a3 a4 a5))
variable {p : Program} {loose : List Str} {mean : ExcName → Option Value} {mg mb : Str → Option Value}
theorem name_get {Q : Value → Shared → Prop} {expr : Bool} (X : (KK w.params).In s.heap) (T : Top p loose mean mg mb s.heap) (hD : s.heap.get? D = some (pairObj d a ta b tb)) (hd : s.heap.get? d = some (dictObj [] 0))
    (a1 : A.handled = none) (a2 : A.depth ≤ 500) (a3 : A.frames = some l) (a4 : A.guards = some []) (a5 : A.in1.units ≤ 3000)
    (h : ∀ h' tk, Ext s.heap h' → Q (.str a ta) { s with heap := h', toks := tk }) : wpAny (model PySem.Challenge.rw_in0185_02.row.prog w) A (getAttr (.ref D) "name" expr) Q E s := by
  have X₀ := K_of_KK X
  revert X₀; k_fill; intro X₀
  refine' get_desc (C := 203) (q := 172) (f := 61) (od := some (dictObj [] 0)) X₀ ⟨hD, rfl, rfl, hd⟩ ?hg ?hi ?hk ?hf a1 a2 a3 a4 a5 (fun s' R e k => tg_name (by rw [e]; exact X) (by rw [e]; exact T) (by rw [e]; exact hD) k) rfl h
  case hg => k_is
  case hi => k_is
  case hk => k_is
  case hf => kernel_rfl
theorem value_get {Q : Value → Shared → Prop} {expr : Bool} (X : (KK w.params).In s.heap) (T : Top p loose mean mg mb s.heap) (hD : s.heap.get? D = some (pairObj d a ta b tb)) (hd : s.heap.get? d = some (dictObj [] 0))
    (a1 : A.handled = none) (a2 : A.depth ≤ 500) (a3 : A.frames = some l) (a4 : A.guards = some []) (a5 : A.in1.units ≤ 3000)
    (h : ∀ h' tk, Ext s.heap h' → Q (.str b tb) { s with heap := h', toks := tk }) : wpAny (model PySem.Challenge.rw_in0185_02.row.prog w) A (getAttr (.ref D) "value" expr) Q E s := by
  have X₀ := K_of_KK X
  revert X₀; k_fill; intro X₀
  refine' get_desc (C := 203) (q := 175) (f := 61) (od := some (dictObj [] 0)) X₀ ⟨hD, rfl, rfl, hd⟩ ?hg ?hi ?hk ?hf a1 a2 a3 a4 a5 (fun s' R e k => tg_value (by rw [e]; exact X) (by rw [e]; exact T) (by rw [e]; exact hD) k) rfl h
  case hg => k_is
  case hi => k_is
  case hk => k_is
  case hf => kernel_rfl
end
end Mine
end
section
open PySem PySem.W PyProof.Rows PySem.Spec
set_option Elab.async false
set_option maxRecDepth 100000
set_option maxHeartbeats 2000000
namespace Mine
abbrev KVs := List (Int × Tok × Addr)
def entOf (p : Int × Tok × Addr) : DictEntry := ⟨hashInt p.1, .int p.1 p.2.1, .ref p.2.2⟩
def look (kvs : KVs) (k : Int) : Option Addr := (kvs.find? (fun p => p.1 == k)).map (·.2.2)
theorem keysOf_ents (prog : Program) (w : World) (kvs : KVs) : KeysOf (intKind prog w) (kvs.map entOf).toArray := by
  intro e he
  obtain ⟨p, _, rfl⟩ := List.mem_map.mp (List.mem_toArray.mp he)
  exact ⟨p.1, intKind_is prog w _ _, rfl⟩
theorem find_ents (prog : Program) (w : World) (kvs : KVs) (k : Int) : findBy (intKind prog w).is (kvs.map entOf).toArray k = (look kvs k).map .ref := by
  unfold findBy look
  rw [List.find?_toArray]
  induction kvs with
  | nil => rfl
  | cons p r ih =>
    rw [List.map_cons, List.find?_cons, List.find?_cons]
    have e : (intKind prog w).is k (entOf p).key = (p.1 == k) := by
      show Value.isInt k (.int p.1 p.2.1) = _
      simp only [Value.isInt]
    rw [e]
    cases p.1 == k
    · exact ih
    · rfl
section
variable {prog : Program} {w : World} {A : Around} {E : Value → Shared → Prop} {s : Shared} {K : Frag} {B d : Addr} {kvs : KVs} {ep : Nat} {k : Int} {t : Tok} {fs : List DictEntry} {fp : Nat}
theorem dictGet_book {o : Obj} {Q : Option Value → Shared → Prop} (hB : s.heap.get? B = some o) (hd : o.data = .dict (kvs.map entOf).toArray ep) (h : Q ((look kvs k).map .ref) { s with toks := s.toks + 1 }) :
    wpAny (model prog w) A (dictGet B (.int k t)) Q E s := by
  unfold dictGet
  have hk := keysOf_ents prog w kvs
  refine wpAny_holding ?_
  refine wpAny_bind ((intKind prog w).pyHash (intKind_is prog w k t) (wpAny_bind (wpAny_dictFind_of (s := { s with toks := s.toks + 1 }) (intKind_is prog w k t) hB hd hk ?_)))
  rw [← find_ents prog w, findBy_of_findIdx?] at h
  cases hi : (kvs.map entOf).toArray.findIdx? fun e => (intKind prog w).is k e.key with
  | none => rw [hi] at h; exact wpAny_pure h
  | some i => rw [hi] at h; exact wpAny_bind (wpAny_dictEntries (s := { s with toks := s.toks + 1 }) hB hd (wpAny_pure h))
theorem special_bi {x C : Addr} {ox : Obj} {od : Option Obj} {name : Str} {id : String} {args : List Value} {Q : Option Value → Shared → Prop} (X : K.In s.heap) (I : InstAt s.heap x ox C od) (hs : findIn K (.ref C) name = some (some (.builtin id)))
    (hb : ∀ self, bindSpecial (.builtin id) self = pure (.builtin id, [self])) (h : wpAny (model prog w) A (call (.builtin id) (.ref x :: args)) (fun v => Q (some v)) E s) : wpAny (model prog w) A (callSpecial? (.ref x) name args) Q E s := by
  unfold callSpecial? specialOf
  refine wpAny_bind (wpAny_bind (I.type.here ((looks_findIn X hs).here ?_)))
  dsimp only
  rw [hb]
  refine wpAny_holding (wpAny_bind (wpAny_pure ?_))
  exact wpAny_bind (wpAny_mono h (fun _ _ z => wpAny_pure z) fun _ _ z => z)
theorem dict_kind : builtinKind "dict.__getitem__" = some .slot ∨ builtinKind "dict.__getitem__" = some .method := by decide +kernel
theorem dict_split : splitId "dict.__getitem__" = some ("dict", "__getitem__") := by decide +kernel
theorem check_any {M : Model} {i owner n : String} {self : Value} {rest : List Value} {kw : List (Str × Value)} {Q : Unit → Shared → Prop}
    (hk : builtinKind i = some .slot ∨ builtinKind i = some .method) (hs : splitId i = some (owner, n)) (hi : Looks M s.heap (isInstance self (.type owner)) true) (ha : argsOk i ⟨self :: rest, kw⟩) (q : Q () s) :
    wpAny M A (checkBuiltinCall i ⟨self :: rest, kw⟩) Q E s := by
  rcases hk with hk | hk <;>
  · simp only [checkBuiltinCall, hk, hs]
    refine wpAny_bind (hi.here ?_)
    simp only [Bool.not_true, Bool.false_eq_true, if_false]
    cases hsig : Manifest.signature? i with
    | none => exact wpAny_pure q
    | some sig =>
      simp only [argsOk, hsig] at ha
      have h2 : Bind.checkArgs i sig ⟨self :: rest, kw⟩ = pure () := ha
      show wpAny M A (Bind.checkArgs i sig ⟨self :: rest, kw⟩) Q E s
      rw [h2]; exact wpAny_pure q
abbrev BookAt (h : Heap) (B d : Addr) (kvs : KVs) (ep : Nat) (fs : List DictEntry) (fp : Nat) : Prop := h.get? B = some (bookObj d (kvs.map entOf) ep) ∧ h.get? d = some (dictObj fs fp)
theorem book_inst {h : Heap} (D : BookAt h B d kvs ep fs fp) : InstAt h B (bookObj d (kvs.map entOf) ep) 108 (some (dictObj fs fp)) := ⟨D.1, rfl, rfl, D.2⟩
theorem book_open {Q : Value → Shared → Prop} (X : K.In s.heap) (D : BookAt s.heap B d kvs ep fs fp) (hq : noSeq K 108 = true) (hs : findIn K (.ref 108) "__getitem__" = some (some (.builtin "dict.__getitem__"))) (hi : subIn K (.ref 108) (.type "dict") = some true)
    (h : wpAny (model prog w) A.in1 (Builtin.«dict.__getitem__» ⟨[.ref B, .int k t], []⟩) (fun fin s' => match fin with | .done (.ret v) => Q v s' | _ => False) (fun e s' => E e s') s) :
    wpAny (model prog w) A (getItem (.ref B) (.int k t)) Q E s := by
  have I := book_inst D
  unfold getItem sequenceKey
  refine wpAny_holding (wpAny_bind (wpAny_bind (I.type.here ?_)))
  refine wpAny_bind ((anyM_none X hq).here ?_)
  rw [if_pos (show (!false) = true from rfl)]
  refine wpAny_pure (wpAny_bind (special_bi X I hs PySem.F.slot_dict_getitem.bind ?_))
  refine wpAny_call (codeAny_call_builtin PySem.F.slot_dict_getitem.plain PySem.F.entry_dict_getitem ?_)
  refine @check_any _ _ s (model prog w) "dict.__getitem__" "dict" "__getitem__" (.ref B) [.int k t] [] _ dict_kind dict_split (I.type.andThen (looks_subIn X hi)) (PySem.F.args_dict_getitem_2 _ _) ?_
  refine wpAny_mono h (fun fin s' z => ?_) fun _ _ z => z
  rcases fin with (_ | _ | _ | _) | _ <;> first | exact z.elim | exact wpAny_pure z
theorem book_found {a : Addr} {Q : Value → Shared → Prop} (X : K.In s.heap) (D : BookAt s.heap B d kvs ep fs fp) (hq : noSeq K 108 = true) (hs : findIn K (.ref 108) "__getitem__" = some (some (.builtin "dict.__getitem__"))) (hi : subIn K (.ref 108) (.type "dict") = some true)
    (hl : look kvs k = some a) (h : Q (.ref a) { s with toks := s.toks + 1 }) : wpAny (model prog w) A (getItem (.ref B) (.int k t)) Q E s := by
  refine book_open X D hq hs hi ?_
  show wpAny _ _ (dictGet B (.int k t) >>= _) _ _ s
  refine wpAny_bind (dictGet_book D.1 rfl ?_)
  rw [hl]
  exact wpAny_pure h
theorem book_missed {Q : Value → Shared → Prop} (X : K.In s.heap) (D : BookAt s.heap B d kvs ep fs fp) (hq : noSeq K 108 = true) (hs : findIn K (.ref 108) "__getitem__" = some (some (.builtin "dict.__getitem__"))) (hi : subIn K (.ref 108) (.type "dict") = some true)
    (hm : findIn K (.ref 108) "__missing__" = some (some (.ref 98))) (hf : isFn K (.ref 98) = true) (hn : (B == sysModules) = false)
    (hl : look kvs k = none) (h : wpAny (model prog w) A.in1 (call (.ref 98) [.ref B, .int k t]) Q E { s with toks := s.toks + 1 }) : wpAny (model prog w) A (getItem (.ref B) (.int k t)) Q E s := by
  refine book_open X D hq hs hi ?_
  have I := book_inst D
  show wpAny _ _ (dictGet B (.int k t) >>= _) _ _ s
  refine wpAny_bind (dictGet_book D.1 rfl ?_)
  rw [hl]
  show wpAny _ _ (Builtin.Dict.missed B (.int k t) >>= _) _ _ _
  refine wpAny_bind (wpAny_missed_other hn ?_)
  refine wpAny_bind (I.type.here (s := { s with toks := s.toks + 1 }) ?_)
  rw [if_pos (by rfl)]
  refine wpAny_bind (special_fn (s := { s with toks := s.toks + 1 }) X I hm (beq_iff_eq.mp hf) (wpAny_mono h (fun v s' z => ?_) fun _ _ z => z))
  exact wpAny_bind (wpAny_rule (wpAny_pure z))
end
end Mine
end
section
open PySem PySem.W PyProof.Rows PySem.Spec
set_option Elab.async false
set_option maxRecDepth 100000
set_option maxHeartbeats 8000000
namespace Mine
theorem enterPS {prog : Program} {w : World} {A : Around} {s : Shared} {K : Frag} {R : Result → Shared → Prop} {name qual : Str} {params : Arguments} {body : List Stmt} {scope : Scope} {dV kV doc pm cdv ct oc : Value} {an od : Option Addr} {osl : Array (Option Value)} {f cc : Addr} {args : Args} {binds : List (Str × Value)}
    (X : K.In s.heap) (hlim : s.heap.NoLimit) (ho : K.lookup f = some ⟨oc, od, .func (ksFn name qual params body scope dV kV doc pm an cdv ct cc), osl⟩) (hcd : codeIn K cdv qual = true) (hroom : A.depth < recursionLimit)
    (hbind : BindsTo s (ksFn name qual params body scope dV kV doc pm an cdv ct cc) args binds) (hloc : ∀ y ∈ binds, scope.names.lookup y.1 = some .local)
    (h : ∀ h₁, Fr s.heap s.heap.objs.size h₁ (fun y => binds.reverse.lookup y) → News s.heap s.heap.objs.size h₁ [] →
      _root_.PySem.wpAt (model prog w) (A.deeper (ksEnv qual scope s.heap.objs.size f cdv cc)) (.func body (ksEnv qual scope s.heap.objs.size f cdv cc)) (execs body (ksEnv qual scope s.heap.objs.size f cdv cc))
        (fun fl s' => R (.ok (.ret (match fl with | .ret v => v | _ => .none))) s')
        (fun e s' => wpAny (model prog w) (A.deeper (ksEnv qual scope s.heap.objs.size f cdv cc)) (leaving (ksEnv qual scope s.heap.objs.size f cdv cc) e) (fun _ s'' => R (.error e) s'') (fun e' s'' => R (.error e') s'') s')
        { s with heap := h₁, toks := s.toks + binds.length })
    (hco : scope.isCoroutine = false) (hgen : scope.isGenerator = false) (hk : scope.kind = .function) (hcell : ∀ x ∈ scope.names, x.2 ≠ .cell) :
    codeAny (model prog w) A (.call (.ref f) args) R s :=
  ks_codeAny_call_defAt (fd := ksFn name qual params body scope dV kV doc pm an cdv ct cc) (body := body) (binds := binds) hroom (X _ _ ho) rfl hlim (codeRec_of X hcd) rfl hbind hcell hloc
    (fun h₁ hns hk₁ => h h₁ ⟨hns, hk₁, Nat.le_refl _⟩ News.nil) hco hgen hk
/-- a base: a part of the heap that stays -/
structure Base (g h : Heap) : Prop where
  stays : ∀ b o, g.get? b = some o → h.get? b = some o
  size : g.objs.size ≤ h.objs.size
abbrev Apart (g h : Heap) (ps : List (Addr × Obj)) : Prop := ∀ p ∈ ps, h.get? p.1 = some p.2 ∧ g.get? p.1 = none
theorem Base.fr {g h h₁ : Heap} {L : Addr} {m} (G : Base g h) (F : Fr h L h₁ m) : Fr g L h₁ m := ⟨F.ns, fun b o e => F.keep b o (G.stays b o e), Nat.le_trans G.size F.above⟩
theorem Apart.news {g h h₁ : Heap} {L : Addr} {m} {ps} (N : Apart g h ps) (F : Fr h L h₁ m) : News g L h₁ ps := fun p hp => ⟨F.keep _ _ (N p hp).1, fun q => absurd (Heap.lt_size (N p hp).1) (by rw [q]; exact Nat.not_lt_of_le F.above), (N p hp).2⟩
section
variable {α : Type} {prog : Program} {w : World} {M : Model} {A : Around} {c : Code} {E : Value → Shared → Prop} {s : Shared} {env : Env}
theorem at_spliced_cons {x : Sem Value} {rest : List (Bool × Sem Value)} {Q : List Value → Shared → Prop}
    (h : _root_.PySem.wpAt M A c x (fun v s₁ => _root_.PySem.wpAt M A c (spliced rest) (fun vs s₂ => Q (v :: vs) s₂) E s₁) E s) : _root_.PySem.wpAt M A c (spliced ((false, x) :: rest)) Q E s := by
  rw [spliced]
  refine _root_.PySem.wpAt_bind (_root_.PySem.wpAt_mono h (fun v s₁ h₁ => ?_) fun _ _ x => x)
  simp only [Bool.false_eq_true, if_false]
  exact _root_.PySem.wpAt_bind (_root_.PySem.wpAt_of_wpAny (wpAny_pure (_root_.PySem.wpAt_bind (ks_wpAt_holding (_root_.PySem.wpAt_mono h₁ (fun vs s₂ h₂ => _root_.PySem.wpAt_of_wpAny (wpAny_pure h₂)) fun _ _ x => x)))))
theorem at_evalArgs_plain {f : Value} {x : Sem Value} {rest : List (Bool × Sem Value)} {Q : Args → Shared → Prop}
    (h : _root_.PySem.wpAt M A c (spliced ((false, x) :: rest)) (fun vs s' => Q ⟨vs, []⟩ s') E s) : _root_.PySem.wpAt M A c (evalArgs f true ((false, x) :: rest) []) Q E s := by
  unfold evalArgs
  show _root_.PySem.wpAt M A c (spliced ((false, x) :: rest) >>= _) Q E s
  refine _root_.PySem.wpAt_bind (_root_.PySem.wpAt_mono h (fun vs s' h' => ?_) fun _ _ x => x)
  refine _root_.PySem.wpAt_of_wpAny (wpAny_holding ?_)
  exact wpAny_bind (wpAny_pure (wpAny_bind (wpAny_pure (wpAny_pure h'))))
theorem at_callWith_builtin {pos : Pos} {id : String} {first : List Value} {args : List (Bool × Sem Value)} {Q : Value → Shared → Prop} (hplain : args.any (·.1) = false)
    (h : _root_.PySem.wpAt M A c (evalArgs (.builtin id) true args []) (fun a s₁ => wpAny M A (call (.builtin id) (first ++ a.pos) a.kw) Q E s₁) E s) :
    _root_.PySem.wpAt M A c (callWith pos (.builtin id) first args []) Q E s := by
  unfold callWith
  refine _root_.PySem.wpAt_bind (ks_wpAt_holding (_root_.PySem.wpAt_mono h (fun a s₁ h₁ => _root_.PySem.wpAt_of_wpAny (wpAny_bind (wpAny_standAt ?_))) fun _ _ x => x))
  simp only [hplain, Bool.false_or, List.any_nil]
  show wpAny M A (keeperOf (.builtin id) >>= _) Q E s₁
  refine wpAny_bind (wpAny_pure ?_)
  exact wpAny_bind (wpAny_mono h₁ (fun r s₂ hr => wpAny_bind (wpAny_holding (wpAny_point (wpAny_pure hr)))) fun _ _ x => x)
theorem at_Attribute {value : Expr} {attr : Str} {pos : Pos} {Q : Value → Shared → Prop}
    (h : _root_.PySem.wpAt (model prog w) A c (attributeBase value attr env (eval value env)) (fun o s₁ => wpAny (model prog w) A (getAttr o attr true) Q E s₁) E s) : _root_.PySem.wpAt (model prog w) A c (eval (.Attribute value attr pos) env) Q E s := by
  show _root_.PySem.wpAt (model prog w) A c (do let o ← attributeBase value attr env (eval value env); standAt pos.atName; let r ← holding [o] (getAttr o attr true); letTemporaryGo value o r; pure r) Q E s
  exact _root_.PySem.wpAt_bind (_root_.PySem.wpAt_mono h (fun o s₁ h₁ => _root_.PySem.wpAt_of_wpAny (wpAny_bind (wpAny_standAt (wpAny_bind (wpAny_holding (wpAny_mono h₁ (fun r s₂ hr => wpAny_bind (wpAny_letTemporaryGo (wpAny_pure hr))) fun _ _ x => x)))))) fun _ _ x => x)
theorem at_Call {f : Expr} {args : List Expr} {pos : Pos} {Q : Value → Shared → Prop} (hf : ∀ o n p, f ≠ .Attribute o n p)
    (h : _root_.PySem.wpAt M A c (eval f env) (fun fv s₁ => _root_.PySem.wpAt M A c (callWith pos fv [] (backTo pos (starEach args env)) []) Q E s₁) E s)
    (he : eval (.Call f args [] pos) env = (do callWith pos (← eval f env) [] (backTo pos (starEach args env)) [])) : _root_.PySem.wpAt M A c (eval (.Call f args [] pos) env) Q E s := by
  rw [he]
  exact _root_.PySem.wpAt_bind h
end
end Mine
end
section
open PySem PySem.W PyProof.Rows PySem.Spec PySem.W.X
set_option Elab.async false
set_option maxRecDepth 100000
set_option maxHeartbeats 0
namespace Mine
section
local macro_rules | `(tactic| x_close) => `(tactic| first | (rename Mem _ _ _ _ => D'; refine rets_intro (ext_mem D') ?_; exact ⟨_, rfl, (D'.nw _ (List.mem_of_getElem? (i := 0) rfl)).2, D'.at 0 _ _ rfl⟩) | (rename Mem _ _ _ _ => D'; exact rets_intro (ext_mem D') rfl) | exact rets_intro (fun _ _ e => e) rfl | (trace_state; fail "x_close"))
abbrev boundObj (id : String) (x : Value) : Obj := ⟨.type "builtin_function_or_method", none, .fields #[.builtin id, x], #[]⟩
abbrev missId : String := "collections.defaultdict.__missing__"
theorem bind_missing {w : World} {s : Shared} {l : List Env} {B d : Addr} {es : List DictEntry} {ep : Nat} (X : (KK w.params).In s.heap) (hB : s.heap.get? B = some ⟨.ref 108, some d, .dict { toList := es } ep, #[some (.type "list")]⟩) :
    wpAny (model PySem.Challenge.rw_in0185_02.row.prog w) (AA 600 4000 l) (Sc (.call (.builtin "method_descriptor.__get__") ⟨[.builtin "collections.defaultdict.__missing__", .ref B, .ref 108], []⟩)) (Rets s fun v h => ∃ M, v = .ref M ∧ s.heap.get? M = none ∧ h.get? M = some ⟨.type "builtin_function_or_method", none, .fields #[.builtin "collections.defaultdict.__missing__", .ref B], #[]⟩) (fun _ _ => False) s := by
  have B0 := b_get X
  revert X B0; k_fill; intro X B0
  x_run
theorem getattr_unfrozen {w : World} {s : Shared} {l : List Env} {B d M : Addr} {t : Tok} {es : List DictEntry} {ep fp : Nat} (X : (KK w.params).In s.heap) (hB : s.heap.get? B = some ⟨.ref 108, some d, .dict { toList := es } ep, #[some (.type "list")]⟩) (hd : s.heap.get? d = some ⟨.type "dict", none, .dict { toList := [] } fp, #[]⟩) :
    wpAny (model PySem.Challenge.rw_in0185_02.row.prog w) (AA 600 4000 l) (Sc (.call (.builtin "getattr") ⟨[.ref B, .str (Str.ofString "_frozen") t, .ref M], []⟩)) (Rets s fun v h => v = .ref M) (fun _ _ => False) s := by
  have B0 := b_get X
  revert X B0; k_fill; intro X B0
  x_run
theorem list_new {prog : Program} {w : World} {s : Shared} {l : List Env} :
    wpAny (model prog w) (AA 600 4000 l) (Sc (.call (.type "list") ⟨[], []⟩)) (Rets s fun v h => ∃ M, v = .ref M ∧ s.heap.get? M = none ∧ h.get? M = some ⟨.type "list", none, .seq #[] 0, #[]⟩) (fun _ _ => False) s := by
  x_run
end
end Mine
end
section
open PySem PySem.W PyProof.Rows PySem.Spec
set_option Elab.async false
set_option maxRecDepth 100000
set_option maxHeartbeats 8000000
namespace Mine
theorem md_type : typeOf (.builtin missId) = pure (.type "method_descriptor") := by show builtinType _ = _; rw [builtinType_eq_fast]; kernel_rfl
theorem md_get : typeLookup (.type "method_descriptor") "__get__" = pure (some (.builtin "method_descriptor.__get__")) := by rw [typeLookup_type, builtinLookup_eq_fast]; kernel_rfl
section
variable {prog : Program} {w : World} {A : Around} {E : Value → Shared → Prop} {h : Heap} {g : Array GenState} {d : Drawn} {t : Nat} {os : OsState}
theorem super_ga {so D x C : Addr} {l₀ l : List Value} {K : Frag} {name : Str} {tk : Tok} {Q : Fin → Shared → Prop} {P : Value → Heap → Prop}
    (hso : h.get? so = some { cls := .type "super", dict := none, data := .fields #[.ref D, .ref x, .ref C], slots := #[] }) (hno : Looks (model prog w) h (opaqueClassAbove (.ref C)) none)
    (hC : Looks (model prog w) h (mroOf (.ref C)) l₀) (hl : (l₀.dropWhile (· != .ref D)).drop 1 = l) (X : K.In h)
    (hf : alongIn K name l = some (some (.builtin missId))) (hxC : x ≠ C) (hn : (name == ("__class__" : Str)) = false)
    (hcall : ∀ {Q' : Value → Shared → Prop} {E' : Value → Shared → Prop}, (∀ v h' tk, Ext h h' → P v h' → Q' v ⟨h', g, d, tk, os⟩) → wpAny (model prog w) A (call (.builtin "method_descriptor.__get__") [.builtin missId, .ref x, .ref C]) Q' E' ⟨h, g, d, t, os⟩)
    (hq : ∀ v h' tk, Ext h h' → P v h' → Q (.done (.ret v)) ⟨h', g, d, tk, os⟩) :
    wpAny (model prog w) A (Builtin.«super.__getattribute__» ⟨[.ref so, .str name tk], []⟩) Q E ⟨h, g, d, t, os⟩ := by
  have hlk := md_get
  have hty := md_type
  have hne : (Value.ref x == Value.ref C) = false := by simp [hxC]
  have hdt : ({ cls := .type "super", dict := none, data := .fields #[.ref D, .ref x, .ref C], slots := #[] } : Obj).data = .fields #[.ref D, .ref x, .ref C] := rfl
  have f0 : (#[.ref D, .ref x, .ref C] : Array Value)[0]? = some (.ref D) := rfl
  have f1 : (#[.ref D, .ref x, .ref C] : Array Value)[1]? = some (.ref x) := rfl
  have f2 : (#[.ref D, .ref x, .ref C] : Array Value)[2]? = some (.ref C) := rfl
  unfold Builtin.«super.__getattribute__»
  repeat (first
    | (with_reducible refine wpAny_field hso hdt f0 ?_) | (with_reducible refine wpAny_field hso hdt f1 ?_) | (with_reducible refine wpAny_field hso hdt f2 ?_)
    | (with_reducible refine ks_wpAny_notOpaque hno ?_)
    | (with_reducible refine Looks.at hC ?_; rw [hl])
    | (refine ks_forIn_along X (fun _ _ => rfl) rfl ?_ hf)
    | (rw [hty]; with_reducible refine wpAny_bind (wpAny_pure ?_))
    | (with_reducible refine hcall ?_; intro v h' tk' x' p')
    | (with_reducible refine ⟨_, rfl, ?_⟩)
    | (simp only [hn, hne, Bool.or_false, Bool.false_eq_true, if_false])
    | wp_step
    | dsimp only)
  all_goals exact hq _ _ _ x' p'
theorem super_attr {so D x C : Addr} {l₀ l : List Value} {K : Frag} {name : Str} {Q : Value → Shared → Prop} {P : Value → Heap → Prop}
    (hso : h.get? so = some { cls := .type "super", dict := none, data := .fields #[.ref D, .ref x, .ref C], slots := #[] }) (hno : Looks (model prog w) h (opaqueClassAbove (.ref C)) none)
    (hC : Looks (model prog w) h (mroOf (.ref C)) l₀) (hl : (l₀.dropWhile (· != .ref D)).drop 1 = l) (X : K.In h)
    (hf : alongIn K name l = some (some (.builtin missId))) (hxC : x ≠ C) (hn : (name == ("__class__" : Str)) = false)
    (hcall : ∀ {Q' : Value → Shared → Prop} {E' : Value → Shared → Prop}, (∀ v h' tk, Ext h h' → P v h' → Q' v ⟨h', g, d, tk, os⟩) → wpAny (model prog w) A.in1 (call (.builtin "method_descriptor.__get__") [.builtin missId, .ref x, .ref C]) Q' E' ⟨h, g, d, t + 1, os⟩)
    (hP : ∀ v h', P v h' → handedIn v = true)
    (hq : ∀ v h' tk, Ext h h' → P v h' → Q v ⟨h', g, d, tk, os⟩) :
    wpAny (model prog w) A (getAttr (.ref so) name true) Q E ⟨h, g, d, t, os⟩ := by
  have hlk := PySem.F.ks_slot_super_ga.lookup
  have hT : ∀ t', (⟨h, g, d, t', os⟩ : Shared).TypeIs (.ref so) "super" := fun _ => ⟨_, hso, rfl⟩
  unfold getAttr getAttrBy
  refine wpAny_bind (wpAny_mkText (wpAny_holding (wpAny_bind (wpAny_typeOf (hT _) (wpAny_bind (wpAny_of_eq hlk ?_))))))
  show wpAny _ _ (getAttrByItsOwn (.ref so) (.str name t) (.type "super") (.builtin "super.__getattribute__") true true) _ _ _
  unfold getAttrByItsOwn hookBefore callGetattribute boundAndCalled
  refine wpAny_bind (wpAny_of_eq (show (if onTheHeap (.type "super") then typeLookup (.type "super") "__getattr__" else pure none) = pure none from rfl) ?_)
  refine wpAny_bind (wpAny_attempt (wpAny_holding ?_))
  show wpAny _ _ (bindSpecial (.builtin "super.__getattribute__") (.ref so) >>= _) _ _ _
  refine wpAny_bind (wpAny_of_eq (PySem.F.ks_slot_super_ga.bind _) ?_)
  refine wpAny_mono (Q := fun v s' => ∃ h' tk, s' = ⟨h', g, d, tk, os⟩ ∧ Ext h h' ∧ P v h') (E := fun _ _ => False)
    (wpAny_call_entry PySem.F.ks_slot_super_ga (hT _) PySem.F.ks_entry_super_ga (super_ga hso hno hC hl X hf hxC hn hcall fun v h' tk x' p' => ⟨_, rfl, h', tk, rfl, x', p'⟩) (PySem.F.ks_gaArgs_super _ _)) (fun v s' hv => ?_) fun _ _ z => z.elim
  obtain ⟨h', tk, rfl, x', p'⟩ := hv
  exact handed_on (hP _ _ p') (hq v h' tk x' p')
end
end Mine
end
section
open PySem PySem.W PyProof.Rows PySem.Spec
set_option Elab.async false
set_option maxRecDepth 100000
set_option maxHeartbeats 8000000
namespace Mine
local macro_rules | `(tactic| k_room) => `(tactic| exact Nat.le_of_ble_eq_true rfl)
set_option pp.deepTerms false
theorem miss98 {w : World} {l : List Env} {s : Shared} {R : Result → Shared → Prop} {p : Program} {loose : List Str} {mean : ExcName → Option Value} {mg mb : Str → Option Value} {B d : Addr} {kvs : KVs} {ep fp : Nat} {fs : List DictEntry} {k : Int} {t : Tok} {ga : Addr → Addr}
    (X₁ : (KK w.params).In s.heap) (T : Top p loose mean mg mb s.heap) (D : BookAt s.heap B d kvs ep fs fp)
    (hga : ∀ (s' : Shared) (l' : List Env) (M : Addr) (t' : Tok), Ext s.heap s'.heap → wpAny (model PySem.Challenge.rw_in0185_02.row.prog w) (AA 600 4000 l') (Sc (.call (.builtin "getattr") ⟨[.ref B, .str (Str.ofString "_frozen") t', .ref M], []⟩)) (Rets s' fun v h => v = .ref (ga M)) (fun _ _ => False) s')
    (hkeep : ∀ (h : Heap) (M : Addr), Ext s.heap h → h.get? M = some (boundObj missId (.ref B)) → ∃ k, (k = Keeper.frame ∨ k = Keeper.machine ∨ k = Keeper.boundFrame) ∧ Looks (model PySem.Challenge.rw_in0185_02.row.prog w) h (keeperOf (.ref (ga M))) k)
    (next : ∀ env' h1 tk M, Ext s.heap h1 → s.heap.get? M = none → h1.get? M = some (boundObj missId (.ref B)) →
      wpAny (model PySem.Challenge.rw_in0185_02.row.prog w) ((AA 500 3000 l).deeper env') (call (.ref (ga M)) [.int k t]) (fun v s' => R (.ok (.ret v)) s') (fun _ _ => False) { s with heap := h1, toks := tk }) :
    codeAny (model PySem.Challenge.rw_in0185_02.row.prog w) (AA 500 3000 l) (.call (.ref 98) ⟨[.ref B, .int k t], []⟩) R s := by
  have X₀ := K_of_KK X₁
  revert X₀; k_fill; intro X₀
  w_top off
  refine' enterPS X₀ T.nolimit ?k6 ?k7 ?k8 ?k9 ?kB ?_ ?c2 ?c3 ?c4 ?c5
  case k6 => k_is
  case k7 => k_is
  case k8 => k_room
  case k9 => exact BindsTo.of_eq rfl
  case kB => exact locs rfl
  case c2 => exact rfl
  case c3 => exact rfl
  case c4 => exact rfl
  case c5 => decide
  intro h₁ F N
  (try dsimp only); (try k_fold)
  refine ks_wpAt_execs_cons (ks_wpAt_Return_some ?_)
  refine at_Call (fun _ _ _ e => nomatch e) ?_ rfl
  refine at_Call (fun _ _ _ e => nomatch e) ?_ rfl
  refine _root_.PySem.wpAt_of_wpAny ?_
  have T₀ := T
  have kX := kFor F X₀
  have F' := F
  have N₀ := N
  walk1
  refine at_callWith_builtin rfl (at_evalArgs_plain (at_spliced_cons ?_))
  refine _root_.PySem.wpAt_of_wpAny ?_
  rw [if_neg Bool.false_ne_true]
  walk1
  refine at_spliced_cons (_root_.PySem.wpAt_of_wpAny ?_)
  rw [if_neg Bool.false_ne_true]
  walk1
  refine at_spliced_cons ?_
  rw [if_neg Bool.false_ne_true]
  refine at_Attribute ?_
  have I₁ : InstAt h₁ B (bookObj d (kvs.map entOf) ep) 108 (some (dictObj fs fp)) := book_inst ⟨F'.keep _ _ D.1, F'.keep _ _ D.2⟩
  refine' ks_node (cda := 97) (cc := 86) (f := 98) ?F ?X ?N ?T ?f1 ?f2 ?f3 ?I ?f4 ?f5 ?f6 ?f7 ?f8 ?f9 ?f10 ?f11 ?f12 ?f13 ?f14 ?f15 ?f16 ?f17 ?_
  case F => exact F
  case X => exact X₀
  case N => exact N₀
  case T => exact T
  case f1 => k_is
  case f2 => rfl
  case f3 => rfl
  case I => exact I₁
  case f4 => k_is
  case f5 => rfl
  case f6 => first | rfl | decide +kernel
  case f7 => k_is
  case f8 => k_is
  case f9 => k_is
  case f10 => k_is
  case f11 => decide
  case f12 => rfl
  case f13 => rfl
  case f14 => rfl
  case f15 => rfl
  case f16 => decide +kernel
  case f17 => first | boot_by_name | rfl | kernel_rfl
  intro so h2 F2 N2 _
  have I₂ : InstAt h2 B (bookObj d (kvs.map entOf) ep) 108 (some (dictObj fs fp)) := book_inst ⟨F2.keep _ _ D.1, F2.keep _ _ D.2⟩
  have X2 := X₁.keeps F2.keep
  have X2₀ := X₀.keeps F2.keep
  cases hc : clsIn (hk.heap_39 w.params) 108 with
  | none => exact absurd hc (by intro q; have : (clsIn (hk.heap_39 w.params) 108).isSome = true := (by kernel_rfl); rw [q] at this; cases this)
  | some cd =>
  refine' super_attr (K := hk.heap_39 w.params) (l₀ := cd.mro) (D := 108) (x := B) (C := 108) (N2 _ (.head _)).1 ?op ?mro rfl X2₀ ?al ?ne ?nm ?call ?hP ?_
  case op => exact looks_opaque X2₀ (by k_is)
  case mro => exact fun A Q E s k q => wpAny_bind ((looks_clsIn X2₀ hc) A _ E s k (wpAny_pure q))
  case al => 
    have e : ks_superIn (hk.heap_39 w.params) 108 108 "__missing__" = some (some (.builtin missId)) := by ks_is
    unfold ks_superIn at e
    rw [hc] at e
    exact e
  case ne => exact ks_ne X2₀ I₂ hc
  case nm => decide
  case call =>
    intro Q' E' hk'
    exact call_rets (upW (bind_missing (s := ⟨h2, _, _, _, _⟩) X2 I₂.at_) rfl (Nat.le_of_ble_eq_true rfl) rfl rfl (Nat.le_of_ble_eq_true rfl)) fun v h' tk x p => hk' v h' tk x p
  case hP => rintro v h' ⟨M, rfl, _, _⟩; rfl
  rintro v h3 tk3 x3 ⟨M, rfl, m1, m2⟩
  have x03 : Ext s.heap h3 := fun b o e => x3 b o (F2.keep b o e)
  have M0 : s.heap.get? M = none := by
    cases q : s.heap.get? M with
    | none => rfl
    | some o => rw [F2.keep _ _ q] at m1; cases m1
  have F3 := Fr.ext F2 x3
  refine _root_.PySem.wpAt_of_wpAny (wpAny_pure ?_)
  dsimp only [List.nil_append]
  refine call_rets (upW (hga ⟨h3, _, _, _, _⟩ _ M _ x03) rfl (Nat.le_of_ble_eq_true rfl) rfl rfl (Nat.le_of_ble_eq_true rfl)) fun v h4 tk4 x4 e => ?_
  subst e
  have F4 := Fr.ext F3 x4
  have x04 : Ext s.heap h4 := fun b o e => x4 b o (x03 b o e)
  have m4 := x4 _ _ m2
  refine _root_.PySem.wpAt_of_wpAny ?_
  refine callWith_of (P := fun h => Ext s.heap h ∧ h.get? M = some (boundObj missId (.ref B))) rfl (fun h q => hkeep h M q.1 q.2) ?_
  refine PySem.Calls.evalArgs_plain (PySem.Calls.spliced_cons ?_)
  clear F F' F2 F3 N N₀ N2
  rw [if_neg Bool.false_ne_true]
  walk1
  refine wpAny_pure ⟨⟨x04, m4⟩, ?_⟩
  exact wpAny_mono (next _ h4 _ M x04 M0 m4) (fun v s' z => z) fun _ _ z => z.elim
end Mine
end
section
open PySem PySem.W PyProof.Rows PySem.Spec
set_option Elab.async false
set_option maxRecDepth 100000
set_option maxHeartbeats 2000000
namespace Mine
theorem mi_kind : builtinKind missId = some .slot ∨ builtinKind missId = some .method := by decide +kernel
theorem mi_split : splitId missId = some ("collections.defaultdict", "__missing__") := by decide +kernel
theorem mi_plain : plainId missId = true := by decide +kernel
theorem mi_entry : entryFor table missId = some Builtin.«collections.defaultdict.__missing__» := entryFor_of_tree (by kernel_rfl)
theorem mi_args (a b : Value) : argsOk missId ⟨[a, b], []⟩ := by unfold argsOk; kernel_rfl
theorem mi_sig : Manifest.signature? missId = some ⟨.oneArg, "defaultdict.__missing__", "__missing__", .self, [⟨"object", .posOnly, true⟩]⟩ := by kernel_rfl
theorem mi_check (a b : Value) : Bind.checkArgs missId ⟨.oneArg, toString "FreezableDefaultDict" ++ toString "." ++ toString (Bind.lastOf missId), "__missing__", .self, [⟨"object", .posOnly, true⟩]⟩ ⟨[a, b], []⟩ = pure () := by kernel_rfl
theorem mi_kind2 : builtinKind missId = some .method := by decide +kernel
theorem mi_var : Manifest.varargsMethods.contains missId = false := by decide +kernel
section
variable {prog : Program} {w : World} {A : Around} {E : Value → Shared → Prop} {s : Shared} {K : Frag} {B d : Addr} {kvs : KVs} {ep : Nat} {k : Int} {t : Tok} {fs : List DictEntry} {fp : Nat} {R : Result → Shared → Prop}
theorem check_bound {v : Value} {Q : Unit → Shared → Prop} (X : K.In s.heap) (D : BookAt s.heap B d kvs ep fs fp) (hm : subIn K (.ref 108) (.type "module") = some false) (hc : (clsIn K 108).map (fun c => c.qualname.toString) = some "FreezableDefaultDict") (ht : typeIn K (.ref 108) = some (.type "type")) (h : Q () s) :
    wpAny (model prog w) A (checkBoundCall missId ⟨[.ref B, v], []⟩) Q E s := by
  have I := book_inst D
  obtain ⟨cd, hcd, hqn⟩ := Option.map_eq_some_iff.mp hc
  unfold checkBoundCall
  rw [mi_sig, mi_kind2]
  dsimp only
  rw [if_neg (by decide)]
  refine wpAny_bind ((I.type.andThen (looks_subIn X hm) : Looks (model prog w) s.heap (isInstance (.ref B) (.type "module")) false).here ?_)
  rw [mi_var]
  rw [if_neg (by decide)]
  refine wpAny_bind (m := isType (.ref B)) (ks_wpAny_isType_inst (h := s.heap) (g := s.gens) (d := s.drawn) (t := s.toks) (os := s.os) D.1 (fun c e => nomatch e) ?_)
  rw [if_neg (by decide)]
  refine wpAny_bind (I.type.here ?_)
  dsimp only
  refine wpAny_bind ((looks_clsIn X hcd).here ?_)
  refine wpAny_bind ((looks_typeIn X ht).here ?_)
  rw [if_pos (by decide), hqn, mi_check]
  exact wpAny_pure h
theorem bound_call {M : Addr} {id : String} {x : Value} {pos : List Value} (ho : s.heap.get? M = some (boundObj id x)) (hc : ∀ {Q' : Unit → Shared → Prop} {E' : Value → Shared → Prop}, Q' () s → wpAny (model prog w) (A.under (.call (.ref M) ⟨pos, []⟩)) (checkBoundCall id ⟨x :: pos, []⟩) Q' E' s) (hq : (Code.builtin id ⟨x :: pos, []⟩).quiet = true)
    (h : codeAny (model prog w) A (.builtin id ⟨x :: pos, []⟩) R s) : codeAny (model prog w) A (.call (.ref M) ⟨pos, []⟩) R s := by
  refine codeAny_of_tree ?_
  show wpAny _ _ (callAny (.ref M) _) _ _ _
  unfold callAny
  refine wpAny_bind (wpAny_load ho ?_)
  show wpAny _ _ (checkBoundCall id ⟨x :: pos, []⟩ >>= fun _ => again (.builtin id ⟨x :: pos, []⟩)) _ _ _
  refine wpAny_bind (hc ?_)
  exact wpAny_pure ⟨hq, h⟩
theorem borrowed_rets {f : Value} {args : List Value} {Q : Value → Shared → Prop} {P : Value → Heap → Prop}
    (h : wpAny (model prog w) A (Sc (.call f ⟨args, []⟩)) (Rets s P) (fun _ _ => False) s)
    (hq : ∀ v h' tk, Ext s.heap h' → P v h' → Q v { s with heap := h', toks := tk }) : wpAny (model prog w) A (callBorrowed f args) Q E s := by
  intro Γ p hΓ
  have q := h Γ p hΓ
  rw [Sem.wp_call] at q
  unfold callBorrowed
  rw [Sem.wp_call]
  refine wpCode_mono (fun r s' hr => ?_) q
  rw [Sem.wp_pure] at hr
  obtain ⟨v, h', tk, e, e2, x, pp⟩ := hr
  subst e e2
  rw [Sem.wp_pure]
  exact hq v h' tk x pp
theorem setDefault_book {a : Addr} {Q : Value → Shared → Prop} (hB : s.heap.get? B = some (bookObj d (kvs.map entOf) ep)) (hl : look kvs k = none) (hz : kvs.length ≤ 1000)
    (h : ∀ h', h'.get? B = some (bookObj d ((kvs ++ [(k, t, a)]).map entOf) (ep + 1)) → Heap.SameBut B s.heap h' → Q (.ref a) { s with heap := h', toks := s.toks + 1 }) :
    wpAny (model prog w) A (dictSetDefault B (.int k t) (.ref a)) Q E s := by
  have hk := keysOf_ents prog w kvs
  have hd : (bookObj d (kvs.map entOf) ep).data = .dict (kvs.map entOf).toArray ep := rfl
  unfold dictSetDefault
  refine wpAny_holding ?_
  refine wpAny_bind ((intKind prog w).pyHash (intKind_is prog w k t) (wpAny_bind (wpAny_dictFind_of (s := { s with toks := s.toks + 1 }) (intKind_is prog w k t) hB hd hk ?_)))
  have e : (kvs.map entOf).toArray.findIdx? (fun e => (intKind prog w).is k e.key) = none := by
    have q := find_ents prog w kvs k
    rw [findBy_of_findIdx?, hl] at q
    cases hi : (kvs.map entOf).toArray.findIdx? fun e => (intKind prog w).is k e.key with
    | none => rfl
    | some i =>
      rw [hi] at q
      obtain ⟨hlt, _⟩ := Array.findIdx?_eq_some_iff_findIdx_eq.mp hi
      dsimp only at q
      rw [Array.getElem?_eq_getElem (by exact hlt)] at q
      cases q
  rw [e]
  refine wpAny_bind (wpAny_rule ?_)
  have hsz : (kvs.map entOf).toArray.size ≤ sizeLine := by
    have : sizeLine > 2000 := by decide +kernel
    rw [List.size_toArray, List.length_map]; omega
  refine wpAny_bind (wpAny_updateDictKeys (s := { s with toks := s.toks + 1 }) hB hd (wpAny_pure (h _ ?_ (Heap.SameBut.update ..))) hsz)
  have q := Heap.get?_update_self (Obj.mapDictKeys (·.push ⟨(intKind prog w).hash k, .int k t, .ref a⟩)) hB rfl
  refine q.trans ?_
  simp only [Obj.mapDictKeys, bookObj, List.map_append, List.map_cons, List.map_nil, List.push_toArray]
  rfl
end
end Mine
end
section
open PySem PySem.W PyProof.Rows PySem.Spec
set_option Elab.async false
set_option maxRecDepth 100000
set_option maxHeartbeats 4000000
namespace Mine
abbrev listObj (vs : Array Value) (n : Nat) : Obj := ⟨.type "list", none, .seq vs n, #[]⟩
section
variable {prog : Program} {w : World} {A : Around} {E : Value → Shared → Prop} {s : Shared} {K : Frag} {B d : Addr} {kvs : KVs} {ep : Nat} {k : Int} {t : Tok} {fs : List DictEntry} {fp : Nat} {R : Result → Shared → Prop}
theorem factory_book {Q : Option Value → Shared → Prop} (hB : s.heap.get? B = some (bookObj d (kvs.map entOf) ep)) (h : Q (some (.type "list")) s) :
    wpAny (model prog w) A (Builtin.Collections_defaultdict.factory? (.ref B)) Q E s := by
  unfold Builtin.Collections_defaultdict.factory? slotAt
  dsimp only
  refine wpAny_bind (wpAny_bind (wpAny_loadPart hB (wpAny_pure (wpAny_pure ?_))))
  exact h
theorem setdefault_code {a : Addr} (X : K.In s.heap) (D : BookAt s.heap B d kvs ep fs fp) (ho : subIn K (.ref 108) (.type "collections.OrderedDict") = some false) (hn : (B == sysModules) = false) (hl : look kvs k = none) (hz : kvs.length ≤ 1000)
    (h : ∀ h', h'.get? B = some (bookObj d ((kvs ++ [(k, t, a)]).map entOf) (ep + 1)) → Heap.SameBut B s.heap h' → R (.ok (.ret (.ref a))) { s with heap := h', toks := s.toks + 1 }) :
    codeAny (model prog w) A (.builtin "dict.setdefault" ⟨[.ref B, .int k t, .ref a], []⟩) R s := by
  have I := book_inst D
  refine codeAny_builtin PySem.F.entry_dict_setdefault ?_
  rw [Around.under_plainId (by decide +kernel) _]
  unfold Builtin.«dict.setdefault»
  refine wpAny_bind ?_
  unfold Builtin.Dict.keyAndDefault
  refine wpAny_bind ?_
  unfold Builtin.Dict.notOrdered
  rw [if_pos (by decide)]
  refine wpAny_bind (I.type.here ?_)
  rw [if_pos (by rfl)]
  refine wpAny_bind ((I.type.andThen (looks_subIn X ho) : Looks (model prog w) s.heap (isInstance (.ref B) (.type "collections.OrderedDict")) false).here ?_)
  rw [if_neg (by decide)]
  refine wpAny_pure ?_
  show wpAny _ _ (pure (B, Value.int k t, some (Value.ref a))) _ _ s
  refine wpAny_pure ?_
  show wpAny _ _ (if (B == sysModules) = true then _ else (dictSetDefault B (.int k t) (.ref a) >>= _)) _ _ s
  rw [if_neg (by rw [hn]; exact Bool.false_ne_true)]
  exact wpAny_bind (setDefault_book D.1 hl hz fun h' e1 e2 => wpAny_pure (h h' e1 e2))
theorem dd_missing {l : List Env} (X : K.In s.heap) (D : BookAt s.heap B d kvs ep fs fp) (ho : subIn K (.ref 108) (.type "collections.OrderedDict") = some false) (hn : (B == sysModules) = false) (hl : look kvs k = none) (hz : kvs.length ≤ 1000)
    (a1 : A.handled = none) (a2 : A.depth ≤ 600) (a3 : A.frames = some l) (a4 : A.guards = some []) (a5 : A.in1.units ≤ 4000)
    (h : ∀ h' tk a, h'.get? B = some (bookObj d ((kvs ++ [(k, t, a)]).map entOf) (ep + 1)) → s.heap.get? a = none → h'.get? a = some (listObj #[] 0) → (∀ b o, b ≠ B → s.heap.get? b = some o → h'.get? b = some o) → R (.ok (.ret (.ref a))) { s with heap := h', toks := tk }) :
    codeAny (model prog w) A (.builtin missId ⟨[.ref B, .int k t], []⟩) R s := by
  refine codeAny_builtin mi_entry ?_
  rw [Around.under_plainId mi_plain _]
  show wpAny _ _ (Builtin.Collections_defaultdict.factory? (.ref B) >>= _) _ _ s
  refine wpAny_bind (factory_book D.1 ?_)
  show wpAny _ _ (callOutOfASlot (.type "list") [] >>= _) _ _ s
  refine wpAny_bind ?_
  show wpAny _ _ (callBorrowed (.type "list") []) _ _ s
  refine borrowed_rets (upW (list_new (l := l)) a1 a2 a3 a4 a5) fun v h1 tk x ⟨a, e, n1, n2⟩ => ?_
  subst e
  have D1 : BookAt h1 B d kvs ep fs fp := ⟨x _ _ D.1, x _ _ D.2⟩
  have aB : a ≠ B := fun q => by rw [q, D.1] at n1; cases n1
  refine wpAny_pure ⟨plainId_quiet (by decide +kernel) _, setdefault_code (s := ⟨h1, _, _, _, _⟩) (X.keeps x) D1 ho hn hl hz fun h2 e1 e2 => ?_⟩
  exact h h2 _ a e1 n1 ((e2.2 a aB).trans n2) (fun b o hb e => (e2.2 b hb).trans (x _ _ e))
end
section
variable {w : World} {l : List Env} {s : Shared} {R : Result → Shared → Prop} {p : Program} {loose : List Str} {mean : ExcName → Option Value} {mg mb : Str → Option Value} {B d : Addr} {kvs : KVs} {ep fp : Nat} {k : Int} {t : Tok}
theorem miss_unfrozen (X₁ : (KK w.params).In s.heap) (T : Top p loose mean mg mb s.heap) (D : BookAt s.heap B d kvs ep [] fp) (hn : (B == sysModules) = false) (hl : look kvs k = none) (hz : kvs.length ≤ 1000)
    (h : ∀ h' tk a, h'.get? B = some (bookObj d ((kvs ++ [(k, t, a)]).map entOf) (ep + 1)) → s.heap.get? a = none → h'.get? a = some (listObj #[] 0) → (∀ b o, b ≠ B → s.heap.get? b = some o → h'.get? b = some o) → R (.ok (.ret (.ref a))) { s with heap := h', toks := tk }) :
    codeAny (model PySem.Challenge.rw_in0185_02.row.prog w) (AA 500 3000 l) (.call (.ref 98) ⟨[.ref B, .int k t], []⟩) R s := by
  have X₀ := K_of_KK X₁
  revert X₀; k_fill; intro X₀
  have f1 : subIn (hk.heap_39 w.params) (.ref 108) (.type "module") = some false := by k_is
  have f2 : (clsIn (hk.heap_39 w.params) 108).map (fun c => c.qualname.toString) = some "FreezableDefaultDict" := by kernel_rfl
  have f3 : typeIn (hk.heap_39 w.params) (.ref 108) = some (.type "type") := by k_is
  have f4 : subIn (hk.heap_39 w.params) (.ref 108) (.type "collections.OrderedDict") = some false := by k_is
  refine miss98 (ga := fun M => M) X₁ T D (fun s' l' M t' x => getattr_unfrozen (X₁.keeps x) (x _ _ D.1) (x _ _ D.2)) ?_ ?_
  · intro h M x m
    exact ⟨.machine, .inr (.inl rfl), (Looks.ld (part := none) m).andThen .now⟩
  · intro env' h1 tk M x m0 m1
    have D1 : BookAt h1 B d kvs ep [] fp := ⟨x _ _ D.1, x _ _ D.2⟩
    refine wpAny_call (bound_call (s := ⟨h1, _, _, _, _⟩) m1 (fun {Q' E'} q => check_bound (s := ⟨h1, _, _, _, _⟩) (X₀.keeps x) D1 f1 f2 f3 q) (plainId_quiet mi_plain _) ?_)
    refine dd_missing (s := ⟨h1, _, _, _, _⟩) (l := env' :: l) (X₀.keeps x) D1 f4 hn hl hz rfl (Nat.le_of_ble_eq_true rfl) rfl rfl (Nat.le_of_ble_eq_true rfl) fun h2 tk2 a e1 e2 e3 e4 => ?_
    refine h h2 tk2 a e1 ?_ e3 fun b o hb e => e4 b o hb (x _ _ e)
    cases q : s.heap.get? a with
    | none => rfl
    | some o => have := x _ _ q; rw [e2] at this; cases this
end
end Mine
end
section
open PySem PySem.W PyProof.Rows PySem.Spec
set_option Elab.async false
set_option maxRecDepth 100000
set_option maxHeartbeats 8000000
namespace Mine
theorem enterPC {prog : Program} {w : World} {A : Around} {s : Shared} {K : Frag} {R : Result → Shared → Prop} {name qual : Str} {params : Arguments} {body : List Stmt} {scope : Scope} {dV kV doc pm cdv ct oc : Value} {an od : Option Addr} {osl : Array (Option Value)} {f : Addr} {args : Args} {binds : List (Str × Value)}
    (X : K.In s.heap) (hlim : s.heap.NoLimit) (ho : K.lookup f = some ⟨oc, od, .func (fnX name qual params body scope [] dV kV doc pm an cdv ct), osl⟩) (hcd : codeIn K cdv qual = true) (hroom : A.depth < recursionLimit)
    (hbind : BindsTo s (fnX name qual params body scope [] dV kV doc pm an cdv ct) args binds) (hkind : (binds.all fun y => scope.names.lookup y.1 == some .local || scope.names.lookup y.1 == some .cell) = true)
    (hnd : ((cellsFrom 0 scope.names []).map (·.1)).Nodup)
    (h : ∀ h₁ tk cells, Fr s.heap s.heap.objs.size h₁ (bindL (envOfC qual scope s.heap.objs.size f cdv).kindOf binds fun _ => none) → News s.heap s.heap.objs.size h₁ cells →
      CellsAre (bindC (envOfC qual scope s.heap.objs.size f cdv).kindOf binds fun _ => none) (cellsFrom (s.heap.objs.size + 1) scope.names []) cells →
      wpAny (model prog w) (A.deeper (envOfC qual scope s.heap.objs.size f cdv)) (execs body (envOfC qual scope s.heap.objs.size f cdv))
        (fun fl s' => R (.ok (.ret (match fl with | .ret v => v | _ => .none))) s')
        (fun e s' => wpAny (model prog w) (A.deeper (envOfC qual scope s.heap.objs.size f cdv)) (leaving (envOfC qual scope s.heap.objs.size f cdv) e) (fun _ s'' => R (.error e) s'') (fun e' s'' => R (.error e') s'') s')
        { s with heap := h₁, toks := tk })
    (hco : scope.isCoroutine = false) (hgen : scope.isGenerator = false) (hk : scope.kind = .function) : codeAny (model prog w) A (.call (.ref f) args) R s := by
  refine codeAny_call_function hroom (X _ _ ho) rfl hco hgen rfl (codeRec_of X hcd) (hbind _ _ _ _ ?_)
  refine wpAny_newFunctionEnv_cells hk (kindsX hkind _) fun env' he s' x => ?_
  subst he
  refine ⟨hlim.keeps x.toInCall.keep, codeAny_func ?_⟩
  obtain ⟨h₁, tk, rfl, _⟩ := x.done
  have hk₁ := x.toInCall.keep
  obtain ⟨cells, NC, Y⟩ := Cl.news (h₀ := s.heap) (Nat.le_refl _) fun n c hm => ⟨x.cell n c (lookup_of_mem_nodup (cellsFrom_names scope.names 0 (s.heap.objs.size + 1) [] [] rfl ▸ hnd) hm), x.above n c hm⟩
  exact h h₁ tk cells ⟨x.toInCall.ns, fun b o e => hk₁ b o e, Nat.le_refl _⟩ NC Y
theorem news_base {g h h₁ : Heap} {L : Addr} {ns : List (Addr × Obj)} (G : Base g h) (N : News h L h₁ ns) : News g L h₁ ns := fun p hp => ⟨(N p hp).1, (N p hp).2.1, by
  cases q : g.get? p.1 with
  | none => rfl
  | some o => have := G.stays _ _ q; rw [(N p hp).2.2] at this; cases this⟩
theorem news_app {g h₁ : Heap} {L : Addr} {a b : List (Addr × Obj)} (N : News g L h₁ a) (N' : News g L h₁ b) : News g L h₁ (a ++ b) := fun p hp => (List.mem_append.mp hp).elim (N p) (N' p)
end Mine
end
section
open PySem PySem.W PyProof.Rows PySem.Spec
open PySem.Builtin.ObjectAttr
set_option Elab.async false
set_option maxRecDepth 100000
set_option maxHeartbeats 4000000
namespace Mine
abbrev frozenName : Str := Str.ofString "_frozen"
abbrev bookMro : List Value := [.ref 108, .type "collections.defaultdict", .type "dict", .type "object"]
theorem book_passes (self : Value) : refuseLoop self "__setattr__" bookMro = pure () := by
  show refuseLoop self "__setattr__" [.ref 108, .type "collections.defaultdict", .type "dict", .type "object"] = pure ()
  rw [refuseLoop_ref]
  kernel_rfl
section
variable {prog : Program} {w : World} {A : Around} {E : Value → Shared → Prop} {s : Shared} {K : Frag} {B d : Addr} {kvs : KVs} {ep : Nat} {fs : List DictEntry} {fp : Nat} {R : Result → Shared → Prop}
theorem osa_open2 {x C : Addr} {ox : Obj} {od : Option Obj} {name : Str} {tk : Tok} {v : Value} {r : Option Value} {l : List Value} (X : K.In s.heap) (I : InstAt s.heap x ox C od) (hc : (clsIn K C).map (·.mro) = some l) (hp : refuseLoop (.ref x) "__setattr__" l = pure ()) (ho : subIn K (.ref C) (.type "object") = some true) (ht : takerIn K C name = some r)
    (h : ∀ b, wpAny (model prog w) A.in1 (match r with | some a => setByDescriptor a (.ref x) v | none => storeInOwnDict (.ref x) (.ref C) (.str name tk) name v b)
      (fun fin s' => match fin with | .done f => R (.ok f) s' | .again c' => c'.quiet = true ∧ codeAny (model prog w) A c' R s') (fun e s' => R (.error e) s') s) :
    codeAny (model prog w) A (.call (.builtin "object.__setattr__") ⟨[.ref x, .str name tk, v], []⟩) R s := by
  have SF := PySem.F.store_object
  obtain ⟨cd, hc1, rfl⟩ := Option.map_eq_some_iff.mp hc
  have sub : Looks (model prog w) s.heap (isInstance (.ref x) (.type "object")) true := I.type.andThen (looks_subIn X ho)
  refine codeAny_call_builtin SF.slot.plain SF.entry (@check_slot (model prog w) _ _ s "object.__setattr__" "object" "__setattr__" (.ref x) [.str name tk, v] [] _ SF.kind SF.split sub (SF.args (.ref x) (.str name tk) v) ?_)
  obtain ⟨attr, ha, hr⟩ := Option.bind_eq_some_iff.mp ht
  have hm : Looks (model prog w) s.heap (mroOf (.ref C)) cd.mro := (looks_clsIn X hc1).andThen .now
  have L3 : Looks (model prog w) s.heap (storeTaker? attr) r := by
    cases attr with
    | none => cases hr; exact .now
    | some a =>
      obtain ⟨b, hb, rfl⟩ := Option.map_eq_some_iff.mp hr
      refine (looks_takesIn X hb).andThen ?_
      cases b <;> exact .now
  rw [osa_eq, refuse_eq]
  refine wpAny_bind (wpAny_bind (I.type.here (wpAny_bind (hm.here ?_))))
  rw [hp]
  refine wpAny_pure (wpAny_bind (I.type.here (wpAny_bind ((looks_findIn X ha).here (wpAny_bind (L3.here ?_))))))
  exact h _
theorem book_setattr {v : Value} {Q : Unit → Shared → Prop} (X : K.In s.heap) (D : BookAt s.heap B d kvs ep [] 0) (hc : (clsIn K 108).map (·.mro) = some bookMro) (ho : subIn K (.ref 108) (.type "object") = some true) (ht : takerIn K 108 frozenName = some none) (hh : (clsIn K 108).any (·.hasDict) = true)
    (hs : findIn K (.ref 108) "__setattr__" = some (some (.builtin "object.__setattr__")))
    (h : ∀ h' tk t hs, Heap.SameBut d s.heap h' → h'.get? d = some (dictObj [⟨hs, .str frozenName t, v⟩] 1) → Q () { s with heap := h', toks := tk }) : wpAny (model prog w) A (setAttr (.ref B) frozenName v) Q E s := by
  refine set_plain X (book_inst D) hs ?_
  refine osa_open2 (s := { s with toks := s.toks + 1 }) (r := none) X (book_inst D) hc (book_passes _) ho ht fun b => ?_
  obtain ⟨cd, hc', hd'⟩ := any_some hh
  refine wpAny_bind (wpAny_pure (wpAny_bind (wpAny_bind (wpAny_loadPart (s := { s with toks := s.toks + 1 }) D.1 (wpAny_bind ((looks_clsIn (h := s.heap) X hc').here (s := { s with toks := s.toks + 1 }) ?_))))))
  rw [hd']
  refine wpAny_pure (a := some d) (wpAny_bind (wpAny_pure (wpAny_bind ?_)))
  unfold nsSet
  refine wpAny_bind (wpAny_bind (wpAny_askSetting (wpAny_pure (wpAny_bind (wpAny_mkText (wpAny_bind (wpAny_loadPart (s := { s with toks := s.toks + 1 + 1 }) D.2 ?_)))))))
  dsimp only
  rw [aRefKeyMayBeTheName_at]
  rw [show (!(#[] : Array DictEntry).any (·.key.isStr frozenName) && (#[] : Array DictEntry).any (·.refKey)) = false from by simp]
  refine wpAny_updatePart (s := { s with toks := s.toks + 1 + 1 }) D.2 ?_
  have D' := Heap.get?_update_self (Obj.putName frozenName (PyData.keyHash w.params frozenName) (.str frozenName (s.toks + 1)) v) D.2 rfl
  refine wpAny_bind (wpAny_lookBehind (s := { s with heap := _, toks := s.toks + 1 + 1 }) D' (pastItsLine_dict (Nat.le_of_ble_eq_true rfl)) ?_)
  exact wpAny_pure (h _ _ _ _ (Heap.SameBut.update ..) D')
end
end Mine
end
section
open PySem PySem.W PyProof.Rows PySem.Spec
set_option Elab.async false
set_option maxRecDepth 100000
set_option maxHeartbeats 8000000
namespace Mine
local macro_rules | `(tactic| walk_at "idle 0") => `(tactic| skip)
abbrev lamQual : Str := (Str.ofString "FreezableDefaultDict.freeze" ++ ".<locals>.") ++ Str.ofString "<lambda>"
abbrev lamParams : Arguments := { posonlyargs := [], args := [{ arg := Str.ofString "key", annotation := none, pos := { line := 43, col := 30, endLine := 43, endCol := 33 } }], vararg := none, kwonlyargs := [], kw_defaults := [], kwarg := none, defaults := [] }
abbrev lamBody : Expr := (((Expr.Name (Str.ofString "self") { line := 43, col := 35, endLine := 43, endCol := 39 }).Attribute (Str.ofString "default_factory") { line := 43, col := 35, endLine := 43, endCol := 55 }).Call [] [] { line := 43, col := 35, endLine := 43, endCol := 57 })
abbrev lamScope : Scope := { kind := ScopeKind.function, names := [(Str.ofString "key", NameKind.local), (Str.ofString "self", NameKind.free)], isGenerator := false, isCoroutine := false }
abbrev lamObj (cell : Addr) (pm : Value) (c : Addr) (ct : Value) : Obj := kla_obj (Str.ofString "<lambda>") lamQual lamParams lamBody lamScope [(Str.ofString "self", cell)] pm c ct
def LamAt (h : Heap) (f B : Addr) : Prop := ∃ cell oc pm c ct, h.get? f = some (lamObj cell pm c ct) ∧ h.get? cell = some oc ∧ oc.data = .cell (some (.ref B)) ∧ h.CodeRec (.ref c) lamQual
def TabE (h : Heap) : Prop := h.get? 100 = some (tabObj #[])
def TabF (h : Heap) : Prop := ∃ c, h.get? 100 = some (tabObj #[rawInt 43, rawInt 23, .ref c]) ∧ h.CodeRec (.ref c) lamQual
theorem base_hide {g h : Heap} {a : Addr} (G : Base g h) (ha : g.get? a = none) : ∀ b o, g.get? b = some o → (h.hide a).get? b = some o := fun b o e => (Heap.hide_ne h fun q => by rw [q, ha] at e; cases e).trans (G.stays b o e)
local macro_rules | `(tactic| k_room) => `(tactic| exact Nat.le_of_ble_eq_true rfl)
theorem freeze_ok {w : World} {l : List Env} {s : Shared} {g : Heap} {R : Result → Shared → Prop} {p : Program} {loose : List Str} {mean : ExcName → Option Value} {mg mb : Str → Option Value} {B d : Addr} {kvs : KVs} {ep : Nat}
    (G : Base g s.heap) (X₁ : (KK w.params).In g) (T₁ : Top p loose mean mg mb g) (D : BookAt s.heap B d kvs ep [] 0) (h100 : g.get? 100 = none) (hne : d ≠ 100) (hB : B ≠ 100) (tab : TabE s.heap ∨ TabF s.heap)
    (h : ∀ h' tk f hs t, (∀ b o, b ≠ d → b ≠ 100 → s.heap.get? b = some o → h'.get? b = some o) → h'.get? d = some (dictObj [⟨hs, .str frozenName t, .ref f⟩] 1) → LamAt h' f B → TabF h' → R (.ok (.ret .none)) { s with heap := h', toks := tk }) :
    codeAny (model PySem.Challenge.rw_in0185_02.row.prog w) (AA 500 3000 l) (.call (.ref 105) ⟨[.ref B], []⟩) R s := by
  have X : (KK w.params).In (s.heap.hide 100) := X₁.keeps (base_hide G h100)
  have T := T₁.keeps (base_hide G h100)
  have X₀ := K_of_KK X
  have st : ∀ b o, (s.heap.hide 100).get? b = some o → s.heap.get? b = some o := fun b o e => Heap.of_hide e
  have GB : Base (s.heap.hide 100) s.heap := ⟨st, Nat.le_of_eq (Heap.hide_size _ _)⟩
  revert X₀; k_fill; intro X₀
  have f1 : (clsIn (hk.heap_39 w.params) 108).map (·.mro) = some bookMro := by kernel_rfl
  have f2 : subIn (hk.heap_39 w.params) (.ref 108) (.type "object") = some true := by k_is
  have f3 : takerIn (hk.heap_39 w.params) 108 frozenName = some none := by kernel_rfl
  have f4 : (clsIn (hk.heap_39 w.params) 108).any (·.hasDict) = true := by kernel_rfl
  have f5 : findIn (hk.heap_39 w.params) (.ref 108) "__setattr__" = some (some (.builtin "object.__setattr__")) := by k_is
  obtain ⟨ps, h100', hps⟩ : ∃ ps, s.heap.get? 100 = some (tabObj ps) ∧ ((ps = #[]) ∨ ∃ c, ps = #[rawInt 43, rawInt 23, .ref c] ∧ s.heap.CodeRec (.ref c) lamQual) := by
    rcases tab with t | ⟨c, t, r⟩
    · exact ⟨_, t, .inl rfl⟩
    · exact ⟨_, t, .inr ⟨c, rfl, r⟩⟩
  have lt100 : 100 < s.heap.objs.size := Heap.lt_size h100'
  have ltd : d < s.heap.objs.size := Heap.lt_size D.2
  w_top off
  refine' enterPC (fun a o e => st _ _ (X₀ a o e)) (T.keeps st).nolimit ?k6 ?k7 ?k8 ?k9 ?kB ?kN ?_ ?c2 ?c3 ?c4
  case k6 => k_is
  case k7 => k_is
  case k8 => k_room
  case k9 => exact BindsTo.of_eq rfl
  case kB => rfl
  case kN => decide
  case c2 => exact rfl
  case c3 => exact rfl
  case c4 => exact rfl
  intro h₁ tk cells F N Y
  have NT : Apart (s.heap.hide 100) s.heap [(100, tabObj ps)] := fun p hp => by
    cases hp with
    | head => exact ⟨h100', Heap.hide_self _ _⟩
    | tail _ q => cases q
  have N' := news_app (news_base GB N) (NT.news F)
  replace F := GB.fr F
  clear N
  have kX := kFor F X₀
  have hY := CellsAre.one Y
  obtain ⟨oc, hE, dc⟩ := hY
  subst hE
  clear Y
  simp only [List.cons_append, List.nil_append] at N'
  (try dsimp only); (try k_fold)
  have dc' : oc.data = .cell (some (.ref B)) := dc
  clear dc
  have D' : BookAt (s.heap.hide 100) B d kvs ep [] 0 := ⟨(Heap.hide_ne s.heap hB).trans D.1, (Heap.hide_ne s.heap hne).trans D.2⟩
  k_steps
  have C : CodeHd (s.heap.hide 100) 104 100 := codeHd_of_K X₀ (by kernel_rfl)
  refine kla_eval rfl ?_
  rcases hps with rfl | ⟨c, rfl, rc⟩
  · refine' kla_nest F N' T C rfl ?U ?t ?n rfl ?_
    case U => exact .tail (by show s.heap.objs.size + 1 ≠ 100; omega) (.head (fun p hp => nomatch hp))
    case t => exact True.intro
    case n => rfl
    intro f c oc2 vs t ct h2 tk2 F2 N2 d1 d2 l1 l2
    clear F N'
    have ld2 : d < c := Nat.lt_trans ltd (Nat.lt_of_succ_lt (l1 _ (.head _)))
    k_steps
    rename Fr _ _ _ _ => F2
    have D2 : BookAt h2 B d kvs ep [] 0 := ⟨F2.keep _ _ D'.1, F2.keep _ _ D'.2⟩
    refine book_setattr (s := ⟨h2, _, _, _, _⟩) (X₀.keeps F2.keep) D2 f1 f2 f3 f4 f5 ?_
    intro h3 tk3 t3 hs3 sb e3
    have nd : ∀ b o, h2.get? b = some o → (b ≠ d) → h3.get? b = some o := fun b o e q => (sb.2 b q).trans e
    have keep : ∀ b o, b ≠ d → b ≠ 100 → s.heap.get? b = some o → h3.get? b = some o := fun b o q1 q2 e => nd b o (F2.keep b o ((Heap.hide_ne s.heap q2).trans e)) q1
    k_steps
    refine h h3 _ f hs3 t3 keep e3 ?_ ?_
    · exact ⟨s.heap.objs.size + 1, oc, _, c, ct, nd _ _ (N2 _ (.head _)).1 (Nat.ne_of_gt (Nat.lt_trans ld2 l2)), nd _ _ (N2 _ (.tail _ (.tail _ (.head _)))).1 (Nat.ne_of_gt (Nat.lt_of_lt_of_le ltd (Nat.le_succ _))), dc', ⟨c, oc2, vs, t, rfl, nd _ _ (N2 _ (.tail _ (.head _))).1 (Nat.ne_of_gt ld2), d1, d2⟩⟩
    · exact ⟨c, nd _ _ (N2 _ (.tail _ (.tail _ (.tail _ (.head _))))).1 (Ne.symm hne), ⟨c, oc2, vs, t, rfl, nd _ _ (N2 _ (.tail _ (.head _))).1 (Nat.ne_of_gt ld2), d1, d2⟩⟩
  · refine' kla_hit (c' := c) F N' T C rfl ?mem ?t ?n rfl ?_
    case mem => exact .tail _ (.head _)
    case t => exact True.intro
    case n => rfl
    intro f ct h2 tk2 F2 N2 l1
    clear F N'
    have ld2 : d < f := Nat.lt_trans ltd (Nat.lt_of_succ_lt (l1 _ (.head _)))
    k_steps
    rename Fr _ _ _ _ => F2
    have D2 : BookAt h2 B d kvs ep [] 0 := ⟨F2.keep _ _ D'.1, F2.keep _ _ D'.2⟩
    refine book_setattr (s := ⟨h2, _, _, _, _⟩) (X₀.keeps F2.keep) D2 f1 f2 f3 f4 f5 ?_
    intro h3 tk3 t3 hs3 sb e3
    have nd : ∀ b o, h2.get? b = some o → (b ≠ d) → h3.get? b = some o := fun b o e q => (sb.2 b q).trans e
    have keep : ∀ b o, b ≠ d → b ≠ 100 → s.heap.get? b = some o → h3.get? b = some o := fun b o q1 q2 e => nd b o (F2.keep b o ((Heap.hide_ne s.heap q2).trans e)) q1
    k_steps
    have rec3 : h3.CodeRec (.ref c) lamQual := by
      obtain ⟨c', oc', vs', t', e1, e2, e3', e4⟩ := rc
      cases e1
      refine ⟨c, oc', vs', t', rfl, keep c oc' (fun q => ?_) (fun q => ?_) e2, e3', e4⟩
      · rw [q, D.2] at e2; cases e2; cases e3'
      · rw [q, h100'] at e2; cases e2; cases e3'; cases e4
    refine h h3 _ f hs3 t3 keep e3 ?_ ?_
    · exact ⟨s.heap.objs.size + 1, oc, _, c, ct, nd _ _ (N2 _ (.head _)).1 (Nat.ne_of_gt ld2), nd _ _ (N2 _ (.tail _ (.head _))).1 (Nat.ne_of_gt (Nat.lt_of_lt_of_le ltd (Nat.le_succ _))), dc', rec3⟩
    · exact ⟨c, nd _ _ (N2 _ (.tail _ (.tail _ (.head _)))).1 (Ne.symm hne), rec3⟩
end Mine
end
section
open PySem PySem.W PyProof.Rows PySem.Spec PySem.W.X
set_option Elab.async false
set_option maxRecDepth 100000
set_option maxHeartbeats 0
namespace Mine
section
local macro_rules | `(tactic| x_close) => `(tactic| first | (rename Mem _ _ _ _ => D'; refine rets_intro (ext_mem D') ?_; exact ⟨_, rfl, (D'.nw _ (List.mem_of_getElem? (i := 0) rfl)).2, D'.at 0 _ _ rfl⟩) | (rename Mem _ _ _ _ => D'; exact rets_intro (ext_mem D') rfl) | exact rets_intro (fun _ _ e => e) rfl | (trace_state; fail "x_close"))
theorem getattr_frozen {w : World} {s : Shared} {l : List Env} {B d M f : Addr} {t t' : Tok} {hs : Int} {es : List DictEntry} {ep fp : Nat} (X : (KK w.params).In s.heap) (hB : s.heap.get? B = some ⟨.ref 108, some d, .dict { toList := es } ep, #[some (.type "list")]⟩) (hd : s.heap.get? d = some ⟨.type "dict", none, .dict { toList := [⟨hs, .str (Str.ofString "_frozen") t', .ref f⟩] } fp, #[]⟩) :
    wpAny (model PySem.Challenge.rw_in0185_02.row.prog w) (AA 600 4000 l) (Sc (.call (.builtin "getattr") ⟨[.ref B, .str (Str.ofString "_frozen") t, .ref M], []⟩)) (Rets s fun v h => v = .ref f) (fun _ _ => False) s := by
  have B0 := b_get X
  revert X B0; k_fill; intro X B0
  x_run
theorem factory_get {w : World} {s : Shared} {l : List Env} {B d : Addr} {es : List DictEntry} {ep : Nat} (X : (KK w.params).In s.heap) (hB : s.heap.get? B = some ⟨.ref 108, some d, .dict { toList := es } ep, #[some (.type "list")]⟩) :
    wpAny (model PySem.Challenge.rw_in0185_02.row.prog w) (AA 600 4000 l) (Sc (.call (.builtin "member_descriptor.__get__") ⟨[.builtin "collections.defaultdict.default_factory", .ref B, .ref 108], []⟩)) (Rets s fun v h => v = .type "list") (fun _ _ => False) s := by
  have B0 := b_get X
  revert X B0; k_fill; intro X B0
  x_run
end
section
variable {prog : Program} {w : World} {A : Around} {E : Value → Shared → Prop} {s : Shared} {K : Frag} {x C : Addr} {ox : Obj} {od : Option Obj} {name : Str} {l : List Env}
theorem get_bind3 {a : Value} {expr : Bool} {T gid id : String} {Q : Value → Shared → Prop}
    (X : K.In s.heap) (I : InstAt s.heap x ox C od) (hga : findIn K (.ref C) "__getattribute__" = some (some (.builtin gid))) (hne : (Value.builtin gid == Value.builtin "object.__getattribute__") = false)
    (hb : ∀ self, bindSpecial (.builtin gid) self = pure (.builtin gid, [self])) (hp : plainId gid = true) (hk : builtinKind gid = some .slot) (hs : splitId gid = some (T, "__getattribute__"))
    (en : entryFor table gid = some Builtin.«object.__getattribute__») (ar : ∀ a b, argsOk gid ⟨[a, b], []⟩) (hi : subIn K (.ref C) (.type T) = some true) (hk0 : findIn K (.ref C) "__getattr__" = some none)
    (hf : findObj K C od name = some (.bind (.builtin id) a))
    (h : wpAny (model prog w) A.in1 (call (.builtin id) [a, .ref x, .ref C]) (fun v s' => wpAny (model prog w) A (handedOut v) Q E s') (fun _ _ => False) { s with toks := s.toks + 1 }) :
    wpAny (model prog w) A (getAttr (.ref x) name expr) Q E s := by
  refine get_open2 X I hga hne hb hp hk hs en ar hi hk0 ?_
  obtain ⟨hh', gg, d, t, os⟩ := s
  have L0 := I.type (M := model prog w)
  have L1 := looks_find (M := model prog w) X I hf
  refine wpAny_bind (wpAny_pure (wpAny_bind (wpAny_pure (wpAny_bind (L0.at (wpAny_bind (L1.at ?_)))))))
  show wpAny _ _ (holding [a] (call (.builtin id) [a, .ref x, .ref C]) >>= ret) _ _ _
  exact wpAny_bind (wpAny_holding (wpAny_mono h (fun v s' z => wpAny_pure z) fun _ _ z => z))
theorem method_usual2 {r : Value} {gid : String} {pl : Sem Bool} {Q : Value × List Value → Shared → Prop} (X : K.In s.heap) (I : InstAt s.heap x ox C od) (hga : findIn K (.ref C) "__getattribute__" = some (some (.builtin gid))) (hcan : Manifest.canonical gid = "object.__getattribute__") (hk : findIn K (.ref C) "__getattr__" = some none)
    (hf : findIn K (.ref C) name = some (some r)) (ht : (typeIn K r).any (fun t => t != .type "function" && t != .type "method_descriptor" && t != .type "wrapper_descriptor") = true)
    (h : wpAny (model prog w) A (getAttr (.ref x) name) (fun v => Q (v, [])) E s) : wpAny (model prog w) A (getMethod (.ref x) name pl) Q E s := by
  have u : wpAny (model prog w) A (do return (← getAttr (.ref x) name, ([] : List Value))) Q E s := wpAny_bind (wpAny_mono h (fun _ _ z => wpAny_pure z) fun _ _ z => z)
  unfold getMethod specialOf
  refine wpAny_bind (wpAny_bind (I.type.here ((looks_findIn X hga).here ?_)))
  dsimp only
  rw [hcan, if_neg (by decide)]
  refine wpAny_bind (wpAny_bind (I.type.here ((looks_findIn X hk).here ?_)))
  refine wpAny_bind (wpAny_bind (I.type.here ((looks_findIn X hf).here ?_)))
  obtain ⟨t, a1, a2⟩ := any_some ht
  refine wpAny_bind ((looks_typeIn X a1).here ?_)
  rw [if_pos a2]; exact u
/-- a method of an instance of a class that a built-in type stands above -/
theorem method_fn2 {f : Addr} {gid : String} {pl : Sem Bool} {Q : Value × List Value → Shared → Prop} (X : K.In s.heap) (I : InstAt s.heap x ox C od) (hga : findIn K (.ref C) "__getattribute__" = some (some (.builtin gid))) (hcan : Manifest.canonical gid = "object.__getattribute__") (hk : findIn K (.ref C) "__getattr__" = some none)
    (hf : findIn K (.ref C) name = some (some (.ref f))) (ht : typeIn K (.ref f) = some (.type "function")) (hs : shadowIn od name = some false) (h : Q (.ref f, [.ref x]) s) :
    wpAny (model prog w) A (getMethod (.ref x) name pl) Q E s := by
  unfold getMethod specialOf
  refine wpAny_bind (wpAny_bind (I.type.here ((looks_findIn X hga).here ?_)))
  dsimp only
  rw [hcan, if_neg (by decide)]
  refine wpAny_bind (wpAny_bind (I.type.here ((looks_findIn X hk).here ?_)))
  refine wpAny_bind (wpAny_bind (I.type.here ((looks_findIn X hf).here (wpAny_bind ((looks_typeIn X ht).here ?_)))))
  rw [if_neg (by decide +kernel)]
  refine wpAny_bind (wpAny_loadPart I.at_ ?_)
  have hd := I.dict
  cases e : ox.dict with
  | none => exact wpAny_bind (wpAny_rule (wpAny_pure h))
  | some dx =>
    cases od with
    | none => rw [e] at hd; exact hd.elim
    | some o =>
      rw [e] at hd
      obtain ⟨r, a, b⟩ := Option.map_eq_some_iff.mp hs
      refine wpAny_bind (wpAny_bind (wpAny_loadPart hd ?_))
      rw [nsLook_of a]
      refine wpAny_pure ?_
      rw [b]
      exact wpAny_bind (wpAny_rule (wpAny_pure h))
end
abbrev ddga : String := "collections.defaultdict.__getattribute__"
theorem dga_kind : builtinKind ddga = some .slot := by decide +kernel
theorem dga_split : splitId ddga = some ("collections.defaultdict", "__getattribute__") := by decide +kernel
theorem dga_canon : Manifest.canonical ddga = "object.__getattribute__" := by decide +kernel
theorem dga_entry : entryFor table ddga = some Builtin.«object.__getattribute__» := entryFor_alias (id' := "object.__getattribute__") (by kernel_rfl) (by decide +kernel) (by decide +kernel) (by kernel_rfl)
theorem dga_slot : Slot "collections.defaultdict" "__getattribute__" ddga :=
  .of (owner := "collections.defaultdict") (n := "__getattribute__") (by rw [typeLookup_type, builtinLookup_eq_fast]; kernel_rfl) (by decide +kernel) (by decide +kernel) (by decide +kernel)
    (by first | exact .inl (by decide +kernel) | exact .inr (by decide +kernel)) (by rw [isSubtype_type]; kernel_rfl)
theorem dga_args (a b : Value) : argsOk ddga ⟨[a, b], []⟩ := by unfold argsOk; kernel_rfl
section
variable {w : World} {A : Around} {E : Value → Shared → Prop} {s : Shared} {l : List Env} {B d : Addr} {kvs : KVs} {ep : Nat} {fs : List DictEntry} {fp : Nat}
theorem factory_method {pl : Sem Bool} {Q : Value × List Value → Shared → Prop} (X : (KK w.params).In s.heap) (D : BookAt s.heap B d kvs ep fs fp) (hf : findObj (hk.heap_39 w.params) 108 (some (dictObj fs fp)) "default_factory" = some (.bind (.builtin "member_descriptor.__get__") (.builtin "collections.defaultdict.default_factory")))
    (a1 : A.handled = none) (a2 : A.depth ≤ 600) (a3 : A.frames = some l) (a4 : A.guards = some []) (a5 : A.in1.units ≤ 4000)
    (h : ∀ h' tk, Ext s.heap h' → Q (.type "list", []) { s with heap := h', toks := tk }) : wpAny (model PySem.Challenge.rw_in0185_02.row.prog w) A (getMethod (.ref B) "default_factory" pl) Q E s := by
  have X₀ := K_of_KK X
  revert X₀ hf; k_fill; intro hf X₀
  have g1 : findIn (hk.heap_39 w.params) (.ref 108) "__getattribute__" = some (some (.builtin ddga)) := by k_is
  have g2 : findIn (hk.heap_39 w.params) (.ref 108) "__getattr__" = some none := by k_is
  have g3 : findIn (hk.heap_39 w.params) (.ref 108) "default_factory" = some (some (.builtin "collections.defaultdict.default_factory")) := by k_is
  have g4 : (typeIn (hk.heap_39 w.params) (.builtin "collections.defaultdict.default_factory")).any (fun t => t != .type "function" && t != .type "method_descriptor" && t != .type "wrapper_descriptor") = true := by kernel_rfl
  have g5 : subIn (hk.heap_39 w.params) (.ref 108) (.type "collections.defaultdict") = some true := by k_is
  refine method_usual2 X₀ (book_inst D) g1 dga_canon g2 g3 g4 ?_
  refine get_bind3 (T := "collections.defaultdict") X₀ (book_inst D) g1 (by decide) dga_slot.bind dga_slot.plain dga_kind dga_split dga_entry dga_args g5 g2 hf ?_
  exact call_rets (upW (factory_get (s := ⟨s.heap, _, _, _, _⟩) X D.1) a1 a2 a3 a4 a5) fun v h' tk x e => by subst e; exact handed_on rfl (h h' tk x)
theorem find_factory (P : Params) (fp : Nat) : findObj (hk.heap_39 P) 108 (some (dictObj [] fp)) "default_factory" = some (.bind (.builtin "member_descriptor.__get__") (.builtin "collections.defaultdict.default_factory")) := by kernel_rfl
theorem find_factory2 (P : Params) (fp : Nat) (hs : Int) (t : Tok) (f : Addr) : findObj (hk.heap_39 P) 108 (some (dictObj [⟨hs, .str frozenName t, .ref f⟩] fp)) "default_factory" = some (.bind (.builtin "member_descriptor.__get__") (.builtin "collections.defaultdict.default_factory")) := by kernel_rfl
end
end Mine
end
section
open PySem PySem.W PyProof.Rows PySem.Spec
set_option Elab.async false
set_option maxRecDepth 100000
set_option maxHeartbeats 8000000
namespace Mine
theorem any_Method {prog : Program} {w : World} {A : Around} {E : Value → Shared → Prop} {s : Shared} {env : Env} {x name : Str} {p apos pos : Pos} {pl : Sem Bool} {Q : Value → Shared → Prop}
    (h : wpAny (model prog w) A (eval (.Name x p) env) (fun ov s1 => wpAny (model prog w) A (getMethod ov name pl) (fun fx s2 => wpAny (model prog w) A (callWith pos fx.1 fx.2 [] []) Q E s2) E s1) E s)
    (he : eval (.Call (.Attribute (.Name x p) name apos) [] [] pos) env = (do let ov ← eval (.Name x p) env; standAt apos.atName; let (f, first) ← holding [ov] (getMethod ov name pl); callWith pos f first [] [])) :
    wpAny (model prog w) A (eval (.Call (.Attribute (.Name x p) name apos) [] [] pos) env) Q E s := by
  rw [he]
  exact wpAny_bind (wpAny_mono h (fun ov s₁ h₁ => wpAny_bind (wpAny_standAt (wpAny_bind (wpAny_holding (wpAny_mono h₁ (fun fx s₂ h₂ => h₂) fun _ _ x => x))))) fun _ _ x => x)
local macro_rules | `(tactic| k_room) => `(tactic| exact Nat.le_of_ble_eq_true rfl)
set_option pp.deepTerms false
theorem lam_call {w : World} {l : List Env} {s : Shared} {R : Result → Shared → Prop} {p : Program} {loose : List Str} {mean : ExcName → Option Value} {mg mb : Str → Option Value} {B d f : Addr} {kvs : KVs} {ep fp : Nat} {fs : List DictEntry} {k : Int} {t : Tok}
    (X : (KK w.params).In s.heap) (T : Top p loose mean mg mb s.heap) (D : BookAt s.heap B d kvs ep fs fp) (hfd : findObj (hk.heap_39 w.params) 108 (some (dictObj fs fp)) "default_factory" = some (.bind (.builtin "member_descriptor.__get__") (.builtin "collections.defaultdict.default_factory")))
    (hl : LamAt s.heap f B)
    (h : ∀ h' tk a, Ext s.heap h' → s.heap.get? a = none → h'.get? a = some (listObj #[] 0) → R (.ok (.ret (.ref a))) { s with heap := h', toks := tk }) :
    codeAny (model PySem.Challenge.rw_in0185_02.row.prog w) (AA 540 3400 l) (.call (.ref f) ⟨[.int k t], []⟩) R s := by
  obtain ⟨cell, oc, pm, c, ct, hf, hc, hcd, hcode⟩ := hl
  have X₀ := K_of_KK X
  revert X₀ hfd; k_fill; intro hfd X₀
  refine kla_callFunE (Nat.le_of_ble_eq_true rfl) hf rfl rfl rfl rfl hcode ?_
  refine wpAny_pure (wpAny_newFunctionEnv (show ∀ x ∈ lamScope.names, x.2 ≠ NameKind.cell by decide) (locs rfl) (fun h₁ hns hsb => ⟨T.nolimit.fresh _ hsb, ?_⟩) rfl)
  show codeAny _ _ (.expr lamBody (envX lamQual lamScope s.heap.objs.size f (.ref c) [(Str.ofString "self", cell)])) _ _
  have hk₁ : ∀ b o, s.heap.get? b = some o → h₁.get? b = some o := fun b o e => hsb.extBut b o (Nat.ne_of_lt (Heap.lt_size e)) (Heap.get?_push_of_some _ e)
  refine kla_codeExpr ?_
  refine any_Method ?_ rfl
  refine wpAny_Name (wpAny_loadName_free (env := envX lamQual lamScope s.heap.objs.size f (.ref c) [(Str.ofString "self", cell)]) (name := Str.ofString "self") (c := cell) rfl rfl rfl ⟨oc, hk₁ _ _ hc, hcd⟩ ?_ (by decide)) (by decide)
  have D1 : BookAt h₁ B d kvs ep fs fp := ⟨hk₁ _ _ D.1, hk₁ _ _ D.2⟩
  refine factory_method (s := ⟨h₁, _, _, _, _⟩) (X.keeps hk₁) D1 hfd rfl (Nat.le_of_ble_eq_true rfl) rfl rfl (Nat.le_of_ble_eq_true rfl) fun h2 tk2 x2 => ?_
  refine callWith_of (P := fun _ => True) rfl (fun _ _ => ⟨.machine, .inr (.inl rfl), .now⟩) (evalArgs_nil3 ⟨trivial, ?_⟩)
  refine call_rets (upW (list_new (s := ⟨h2, _, _, _, _⟩)) rfl (Nat.le_of_ble_eq_true rfl) rfl rfl (Nat.le_of_ble_eq_true rfl)) fun v h3 tk3 x3 ⟨a, e, n1, n2⟩ => ?_
  subst e
  have x13 : Ext s.heap h2 := fun b o e => x2 _ _ (hk₁ b o e)
  refine h h3 tk3 a (fun b o e => x3 _ _ (x13 b o e)) ?_ n2
  cases q : s.heap.get? a with
  | none => rfl
  | some o => have := x13 _ _ q; rw [n1] at this; cases this
theorem miss_frozen {w : World} {l : List Env} {s : Shared} {R : Result → Shared → Prop} {p : Program} {loose : List Str} {mean : ExcName → Option Value} {mg mb : Str → Option Value} {B d f : Addr} {kvs : KVs} {ep fp : Nat} {hs : Int} {t' : Tok} {k : Int} {t : Tok}
    (X₁ : (KK w.params).In s.heap) (T : Top p loose mean mg mb s.heap) (D : BookAt s.heap B d kvs ep [⟨hs, .str frozenName t', .ref f⟩] fp) (hl : LamAt s.heap f B)
    (h : ∀ h' tk a, Ext s.heap h' → s.heap.get? a = none → h'.get? a = some (listObj #[] 0) → R (.ok (.ret (.ref a))) { s with heap := h', toks := tk }) :
    codeAny (model PySem.Challenge.rw_in0185_02.row.prog w) (AA 500 3000 l) (.call (.ref 98) ⟨[.ref B, .int k t], []⟩) R s := by
  refine miss98 (ga := fun _ => f) X₁ T D (fun s' l' M t' x => getattr_frozen (X₁.keeps x) (x _ _ D.1) (x _ _ D.2)) ?_ ?_
  · intro h1 M x m
    obtain ⟨cell, oc, pm, c, ct, hf, _⟩ := hl
    exact ⟨.frame, .inl rfl, (Looks.ld (part := none) (x _ _ hf)).andThen .now⟩
  · intro env' h1 tk M x m0 m1
    have D1 : BookAt h1 B d kvs ep [⟨hs, .str frozenName t', .ref f⟩] fp := ⟨x _ _ D.1, x _ _ D.2⟩
    have l1 : LamAt h1 f B := by
      obtain ⟨cell, oc, pm, c, ct, hf, hc, hcd, hcode⟩ := hl
      exact ⟨cell, oc, pm, c, ct, x _ _ hf, x _ _ hc, hcd, hcode.keeps x⟩
    refine wpAny_call (up (lam_call (l := env' :: l) (s := ⟨h1, _, _, _, _⟩) (X₁.keeps x) (T.keeps x) D1 (find_factory2 _ _ _ _ _) l1 fun h2 tk2 a x2 n1 n2 => ?_) rfl (Nat.le_of_ble_eq_true rfl) rfl rfl (Nat.le_of_ble_eq_true rfl))
    refine h h2 tk2 a (fun b o e => x2 _ _ (x b o e)) ?_ n2
    cases q : s.heap.get? a with
    | none => rfl
    | some o => have := x _ _ q; rw [n1] at this; cases this
end Mine
end
section
open PySem PySem.W PyProof.Rows PySem.Spec
set_option Elab.async false
set_option maxRecDepth 100000
set_option maxHeartbeats 2000000
namespace Mine
section
variable {prog : Program} {w : World} {A : Around} {E : Value → Shared → Prop} {s : Shared} {env : Env} {h₀ : Heap} {x : Str} {body : List Stmt} {Q : Flow → Shared → Prop}
/-- where a turn of a loop with an invariant of one's own ends -/
def TurnJ (h₀ : Heap) (L : Addr) (own : List (Addr × Obj)) (Jn : (Str → Option Value) → List (Addr × Obj) → Prop) (s₁ : Shared) (f : Flow) (s₂ : Shared) : Prop :=
  f = .next ∧ ∃ h' tk m' news', s₂ = { s₁ with heap := h', toks := tk } ∧ Fr h₀ L h' m' ∧ News h₀ L h' (own ++ news') ∧ Jn m' news'
theorem turnJ {L : Addr} {own news' : List (Addr × Obj)} {Jn : (Str → Option Value) → List (Addr × Obj) → Prop} {s₁ : Shared} {h' : Heap} {tk : Nat} {m'} (F : Fr h₀ L h' m') (N : News h₀ L h' (own ++ news')) (hJ : Jn m' news') :
    TurnJ h₀ L own Jn s₁ .next { s₁ with heap := h', toks := tk } := ⟨rfl, h', tk, m', news', rfl, F, N, hJ⟩
theorem iter_J {l : Addr} {vs : List Value} {m₀ : Str → Option Value} {news : List (Addr × Obj)} (J : Nat → (Str → Option Value) → List (Addr × Obj) → Prop)
    (hni : ∀ i m n, J i m n → ∀ p ∈ n, p.2.cls ≠ .type "list_iterator")
    (hh : A.handled = none) (hl : s.heap.IsList l vs.toArray) (hL : l ≠ env.locals) (F : Fr h₀ env.locals s.heap m₀) (N : News h₀ env.locals s.heap news) (h0 : J 0 m₀ news)
    (turn : ∀ i v m₁ news₁ s₁ own, vs[i]? = some v → J i m₁ news₁ → (∀ p ∈ own, p.1 = l ∨ ((∀ q ∈ news₁, q.1 ≠ p.1) ∧ p.2.cls = .type "list_iterator")) → Fr h₀ env.locals s₁.heap (fun y => if y = x then some v else m₁ y) → News h₀ env.locals s₁.heap (own ++ news₁) →
      wpAny (model prog w) A (execs body env) (TurnJ h₀ env.locals own (J (i + 1)) s₁) E s₁)
    (done : ∀ m' news' h tk, Fr h₀ env.locals h m' → News h₀ env.locals h news' → J vs.length m' news' → Q .next { s with heap := h, toks := tk }) :
    wpAny (model prog w) A (pyIter (.ref l)) (fun it s₂ => LoopAtU prog w A h₀ env x body Q E it s₂) E s := by
  obtain ⟨ol, hol, hlc⟩ := id hl
  have hlt : l < s.heap.objs.size := Heap.lt_size hol
  have hne : l ≠ s.heap.objs.size := Nat.ne_of_lt hlt
  have hLt := F.ns.lt
  refine wpAny_pyIter_list hl ?_
  have W := Walks.list (prog := prog) (w := w) hh s.heap.objs.size l hne vs.toArray
  have hlen : vs.toArray.size = vs.length := by simp
  rw [hlen] at W
  refine ⟨_, _, _, vs.length, _, _, m₀, news, J, rfl, W, ?_, ?_, ?_, ⟨⟨_, Heap.get?_push_size _ rfl, rfl, rfl⟩, hl.at fun o e => Heap.get?_push_of_some _ e⟩, F.push _, (fun p hp => ⟨Heap.get?_push_of_some _ (N p hp).1, (N p hp).2⟩), h0, ?_, ?_⟩
  · intro hm
    rcases List.mem_cons.mp hm with e | hm
    · exact absurd hLt (e ▸ Nat.lt_irrefl _)
    · exact hL (List.mem_singleton.mp hm).symm
  · intro b hb
    rw [List.mem_singleton.mp hb]
    exact next_is_new F
  · intro p hp hI
    exact absurd (Heap.lt_size (N p hp).1) ((List.mem_singleton.mp hI) ▸ Nat.lt_irrefl _)
  · rintro i v m₁ news₁ s₁ own hin hP hJ hoff hfp hat hown hSt F₁ N₁
    have hx : vs[i]? = some v := by simpa using hP
    obtain ⟨⟨oi, hoi, hic, _⟩, _⟩ := hSt
    have hmem := hown s.heap.objs.size (.head _) (next_is_new F) oi hoi
    have ho : ∀ p ∈ own, p.1 = l ∨ ((∀ q ∈ news₁, q.1 ≠ p.1) ∧ p.2.cls = .type "list_iterator") := fun p hp => by
      rcases List.mem_cons.mp (hfp p hp) with e | e
      · refine .inr ⟨fun q hq z => hoff q hq (by rw [z, e]; exact .head _), ?_⟩
        have e2 := hat p hp
        rw [e, hoi] at e2
        rw [← Option.some.inj e2]; exact hic
      · exact .inl (List.mem_singleton.mp e)
    refine wpAny_mono (turn i v m₁ news₁ s₁ own hx hJ ho F₁ N₁) (fun f s₂ p => ?_) fun _ _ e => e
    obtain ⟨rfl, h', tk, m', news', rfl, F', N', hJ'⟩ := p
    refine ⟨rfl, h', tk, m', news', rfl, F', N', fun p hp hI => ?_, hJ'⟩
    have e1 := (N' p (List.mem_append_right _ hp)).1
    have e2 := (N' _ (List.mem_append_left _ hmem)).1
    rw [List.mem_singleton.mp hI, e2] at e1
    exact hni _ _ _ hJ' p hp (by rw [← Option.some.inj e1]; exact hic)
  · rintro h' tk m' news' F' N' _ hJ
    exact done m' news' h' tk F' N' hJ
theorem append_news {L a : Addr} {vs : Array Value} {n : Nat} {v : Value} {m : Str → Option Value} {news news' : List (Addr × Obj)} {Q : Value → Shared → Prop} (F : Fr h₀ L s.heap m) (N : News h₀ L s.heap news) (hm : (a, listObj vs n) ∈ news)
    (sub : ∀ p ∈ news', p = (a, listObj (vs.push v) (n + 1)) ∨ (p ∈ news ∧ p.1 ≠ a)) (hz : vs.size ≤ 1000)
    (h : ∀ h', Fr h₀ L h' m → News h₀ L h' news' → Heap.SameBut a s.heap h' → Q .none { s with heap := h' }) : wpAny (model prog w) A (call (.builtin "list.append") [.ref a, v]) Q E s := by
  have z := N _ hm
  refine append_at (hsz := Nat.le_trans hz (by decide +kernel)) z.1 fun h' hs ho' => h h' (F.change hs z.2.1 z.2.2) (fun p hp => ?_) hs
  rcases sub p hp with rfl | ⟨q1, q2⟩
  · exact ⟨ho', z.2⟩
  · exact ⟨(hs.2 _ q2).trans (N p q1).1, (N p q1).2⟩
theorem own_last {own : List (Addr × Obj)} {a : Addr × Obj} {tups : List (Addr × Obj)} : ∀ p ∈ a :: (tups ++ own), p ∈ own ++ a :: tups := fun p hp => by
  rcases List.mem_cons.mp hp with rfl | hp
  · exact List.mem_append_right _ (.head _)
  · rcases List.mem_append.mp hp with hp | hp
    · exact List.mem_append_right _ (.tail _ hp)
    · exact List.mem_append_left _ hp
theorem news_sub {L : Addr} {h : Heap} {news news' : List (Addr × Obj)} (N : News h₀ L h news) (sub : ∀ p ∈ news', p ∈ news) : News h₀ L h news' := fun p hp => N p (sub p hp)
theorem ne_cls {L a : Addr} {h : Heap} {news : List (Addr × Obj)} {o : Obj} {p : Addr × Obj} (N : News h₀ L h news) (ha : (a, o) ∈ news) (hp : p ∈ news) (hc : p.2.cls ≠ o.cls) : p.1 ≠ a := fun e => by
  have e1 := (N p hp).1
  rw [e, (N _ ha).1] at e1
  exact hc (by rw [← Option.some.inj e1])
theorem append_turn {L a t : Addr} {to : Obj} {vs : Array Value} {n : Nat} {v : Value} {m : Str → Option Value} {own tups : List (Addr × Obj)} {Q : Value → Shared → Prop} (F : Fr h₀ L s.heap m) (N : News h₀ L s.heap ((t, to) :: (a, listObj vs n) :: (tups ++ own)))
    (ht : to.cls = .type "tuple") (ho : ∀ p ∈ own, p.1 ≠ a) (hts : ∀ p ∈ tups, p.2.cls = .type "tuple") (hz : vs.size ≤ 1000)
    (h : ∀ h', Fr h₀ L h' m → News h₀ L h' (own ++ (a, listObj (vs.push v) (n + 1)) :: (t, to) :: tups) → Q .none { s with heap := h' }) : wpAny (model prog w) A (call (.builtin "list.append") [.ref a, v]) Q E s := by
  have nc : Value.type "tuple" ≠ Value.type "list" := by decide
  refine append_news F N (.tail _ (.head _)) (news' := own ++ (a, listObj (vs.push v) (n + 1)) :: (t, to) :: tups) (fun p hp => ?_) hz fun h' F' N' _ => h h' F' N'
  rcases List.mem_append.mp hp with hp | hp
  · exact .inr ⟨.tail _ (.tail _ (List.mem_append_right _ hp)), ho p hp⟩
  · rcases List.mem_cons.mp hp with rfl | hp
    · exact .inl rfl
    · rcases List.mem_cons.mp hp with rfl | hp
      · exact .inr ⟨.head _, ne_cls N (.tail _ (.head _)) (.head _) (by rw [ht]; exact nc)⟩
      · have hm := List.Mem.tail (t, to) (List.Mem.tail (a, listObj vs n) (List.mem_append_left own hp))
        exact .inr ⟨hm, ne_cls N (.tail _ (.head _)) hm (by rw [hts p hp]; exact nc)⟩
end
end Mine
end
section
open PySem PySem.W PyProof.Rows PySem.Spec
set_option Elab.async false
set_option maxRecDepth 100000
set_option maxHeartbeats 8000000
namespace Mine
local macro_rules | `(tactic| k_room) => `(tactic| exact Nat.le_of_ble_eq_true rfl)
local macro_rules | `(tactic| walk_at "exec While BoolOp") => `(tactic| (k_dflt (refine whl_start 100 ?_)))
local macro_rules | `(tactic| walk_at "WhlIf") => `(tactic| (first | (refine WhlIf.yes (by simp [*]; done) ?_) | (refine WhlIf.no (by simp [*]; done) ?_)))
def sp (x : Str) (i : Int) : Bool := Txt.item x i == Str.ofString " "
/-- what _law_bare gives of a word of three signs -/
def bareOf (x : Str) : Str :=
  let f : Int := if sp x 0 then (if sp x 1 then (if sp x 2 then 3 else 2) else 1) else 0
  let b : Int := if f < 3 && sp x 2 then (if f < 2 && sp x 1 then (if f < 1 && sp x 0 then 0 else 1) else 2) else 3
  Txt.slice x (some f) (some b)
theorem bare_ok {w : World} {l : List Env} {s : Shared} {R : Result → Shared → Prop} {p : Program} {loose : List Str} {mean : ExcName → Option Value} {mg mb : Str → Option Value} {x : Str} {t : Tok}
    (X₁ : (KK w.params).In s.heap) (T : Top p loose mean mg mb s.heap) (hl : x.length = 3)
    (h : ∀ h' tk t', Ext s.heap h' → R (.ok (.ret (.str (bareOf x) t'))) { s with heap := h', toks := tk }) :
    codeAny (model PySem.Challenge.rw_in0185_02.row.prog w) (AA 400 2500 l) (.call (.ref 220) ⟨[.str x t], []⟩) R s := by
  have X₀ := K_of_KK X₁
  revert X₀; k_fill; intro X₀
  w_top off
  refine' enterP X₀ T.nolimit ?k6 ?k7 ?k8 ?k9 ?kB ?_ ?c2 ?c3 ?c4 ?c5
  case k6 => k_is
  case k7 => k_is
  case k8 => k_room
  case k9 => exact BindsTo.of_eq rfl
  case kB => exact locs rfl
  case c2 => exact rfl
  case c3 => exact rfl
  case c4 => exact rfl
  case c5 => decide
  intro h₁ F N
  have kX := kFor F X₀
  (try dsimp only); (try k_fold)
  k_steps
  all_goals (rename Fr _ _ _ _ => F9; dsimp only)
  all_goals (refine Eq.mp (congrArg (fun y => R (.ok (.ret (.str y _))) _) ?_) (h _ _ _ F9.keep))
  all_goals (clear F9; simp only [hl] at *; simp_all [bareOf, sp])
end Mine
end
section
open PySem PySem.W PyProof.Rows PySem.Spec
set_option Elab.async false
set_option maxRecDepth 100000
set_option maxHeartbeats 8000000
namespace Mine
local macro_rules | `(tactic| walk_at "idle 0") => `(tactic| skip)
local macro_rules | `(tactic| k_room) => `(tactic| exact Nat.le_of_ble_eq_true rfl)
local macro_rules | `(tactic| walk_at "eval Name") => `(tactic| (k_here; (refine' ld ?k1 ?k2 ?_; (case k1 => k_asm); (case k2 => assumption); k_whole)))
abbrev Mark := Int × Int × Str
abbrev wordOf (number : Int) : Str := Txt.item (Str.ofString "ab= ") (((number.fdiv 7).fmod 64).fdiv 16) ++ Txt.item (Str.ofString "ab= ") ((((number.fdiv 7).fmod 64).fdiv 4).fmod 4) ++ Txt.item (Str.ofString "ab= ") (((number.fdiv 7).fmod 64).fmod 4)
def markOf (n : Int) : Mark := (1 + n.fmod 4, (n.fdiv 4).fmod 10000000000, bareOf (wordOf n))
abbrev markObj (m : Mark) (ta tb tw : Tok) : Obj := ⟨.type "tuple", none, .seq #[.int m.1 ta, .int m.2.1 tb, .str m.2.2 tw] 0, #[]⟩
/-- the values of a list of marks, their tuples in a ledger -/
inductive MarksIn (news : List (Addr × Obj)) : List Value → List Mark → Prop
  | nil : MarksIn news [] []
  | snoc {vs ms a m ta tb tw} : MarksIn news vs ms → (a, markObj m ta tb tw) ∈ news → MarksIn news (vs ++ [.ref a]) (ms ++ [m])
theorem MarksIn.mono {news news' : List (Addr × Obj)} {vs ms} (M : MarksIn news vs ms) (h : ∀ p ∈ news, p ∈ news') : MarksIn news' vs ms := by
  induction M with
  | nil => exact .nil
  | snoc _ hm ih => exact .snoc ih (h _ hm)
theorem MarksIn.length {news : List (Addr × Obj)} {vs ms} (M : MarksIn news vs ms) : vs.length = ms.length := by
  induction M with
  | nil => rfl
  | snoc _ _ ih => simp [ih]
/-- a list of marks in a heap -/
def MarksAt (h : Heap) (l : Addr) (ms : List Mark) : Prop := ∃ vs n news, h.get? l = some (listObj vs.toArray n) ∧ MarksIn news vs ms ∧ ∀ p ∈ news, h.get? p.1 = some p.2
local macro_rules | `(tactic| walk_at "call ref") => `(tactic| (rename Fr _ _ _ _ => F1; rename News _ _ _ _ => N1; refine wpAny_call (up (bare_ok (Frag.In.keeps (by with_reducible assumption) F1.keep) (Top.keeps (by with_reducible assumption) F1.keep) (by omega) ?_) rfl (Nat.le_of_ble_eq_true rfl) rfl rfl (Nat.le_of_ble_eq_true rfl)); intro h2 tk2 t2 x2; have F2 := Fr.ext F1 x2; have N2 := News.ext N1 x2; clear F1 N1; (try dsimp only)))
set_option pp.deepTerms false
theorem marks_ok {w : World} {l : List Env} {s : Shared} {R : Result → Shared → Prop} {p : Program} {loose : List Str} {mean : ExcName → Option Value} {mg mb : Str → Option Value} {S : Addr} {vs : List Value} {ns : List Int}
    (X₁ : (KK w.params).In s.heap) (T : Top p loose mean mg mb s.heap) (hS : s.heap.IsList S vs.toArray) (hi : IntsAre vs ns) (hlen : ns.length ≤ 63)
    (h : ∀ D h' tk, Ext s.heap h' → MarksAt h' D ((ns.take 8).map markOf) → s.heap.get? D = none → R (.ok (.ret (.ref D))) { s with heap := h', toks := tk }) :
    codeAny (model PySem.Challenge.rw_in0185_02.row.prog w) (AA 330 2000 l) (.call (.ref 227) ⟨[.ref S], []⟩) R s := by
  have X₀ := K_of_KK X₁
  revert X₀; k_fill; intro X₀
  w_top off
  refine' enterP X₀ T.nolimit ?k6 ?k7 ?k8 ?k9 ?kB ?_ ?c2 ?c3 ?c4 ?c5
  case k6 => k_is
  case k7 => k_is
  case k8 => k_room
  case k9 => exact BindsTo.of_eq rfl
  case kB => exact locs rfl
  case c2 => exact rfl
  case c3 => exact rfl
  case c4 => exact rfl
  case c5 => decide
  intro h₁ F N
  have kX := kFor F X₀
  (try dsimp only); (try k_fold)
  k_steps
  rename Fr _ _ _ _ => F1
  rename News _ _ _ _ => N1
  rename IntsAre _ (List.take 8 ns) => hI
  rename_i a0 a1 a2 a3 a4 a5 a6 a7 a8 a9 a10
  rename (a0 < _) => lt0
  refine iter_J (vs := _) (fun i m news => m (Str.ofString "marks") = some (.ref a0) ∧ ∃ vs n tups, news = (a0, listObj vs.toArray n) :: tups ∧ (∀ p ∈ tups, p.2.cls = .type "tuple") ∧ MarksIn tups vs (((List.take 8 ns).take i).map markOf)) ?ni rfl ⟨_, (N1 _ (.head _)).1, rfl, _, rfl⟩ (N1 _ (.head _)).2.1 F1 (news_sub N1 (fun p hp => .tail _ hp)) ⟨rfl, [], _, [], rfl, by simp, .nil⟩ ?turn ?done
  case ni =>
    rintro i m n ⟨_, vs, k, tups, rfl, ht, _⟩ p hp
    rcases List.mem_cons.mp hp with rfl | hp
    · exact fun e => absurd (show Value.type "list" = Value.type "list_iterator" from e) (by decide)
    · rw [ht p hp]; exact fun e => absurd e (by decide)
  case done =>
    intro m' news' h2 tk2 F2 N2 hJ
    obtain ⟨hm, vs2, n2, tups, rfl, ht, hM⟩ := hJ
    rw [hI.length, List.take_length] at hM
    k_steps
    exact h a0 _ _ F2.keep ⟨vs2, n2, tups, (N2 _ (.head _)).1, hM, fun p hp => (N2 p (.tail _ hp)).1⟩ (N2 _ (.head _)).2.2
  case turn =>
    intro i v m₁ news₁ s₁ own hv hJ ho F2 N2
    obtain ⟨number, hnum, t, rfl⟩ : ∃ number, (List.take 8 ns)[i]? = some number ∧ ∃ t, v = .int number t := by
      obtain ⟨hlt, _⟩ := List.getElem?_eq_some_iff.mp hv
      have hlt' : i < (List.take 8 ns).length := hI.length ▸ hlt
      obtain ⟨t, ht⟩ := hI.get i (List.take 8 ns)[i] (List.getElem?_eq_getElem hlt')
      rw [hv] at ht
      exact ⟨_, List.getElem?_eq_getElem hlt', t, Option.some.inj ht⟩
    obtain ⟨h2, gg, dd, tk2, os⟩ := s₁
    clear F1 N1
    obtain ⟨hm, vs2, n2, tups, rfl, ht, hM⟩ := hJ
    have N3 := news_sub N2 (news' := (a0, listObj vs2.toArray n2) :: (tups ++ own)) own_last
    clear N2
    k_steps
    rename Fr _ _ _ _ => F4
    rename News _ _ _ _ => N4
    refine append_turn F4 N4 rfl (fun p hp => ?_) ht ?hz ?_
    · rcases ho p hp with e | e
      · rw [e]; exact Nat.ne_of_gt lt0
      · exact Ne.symm (e.1 _ (.head _))
    case hz => rw [List.size_toArray, hM.length, List.length_map, List.length_take, List.length_take]; exact Nat.le_trans (Nat.min_le_right _ _) (Nat.le_trans (Nat.min_le_left _ _) (by decide))
    intro h5 F5 N5
    k_steps
    refine turnJ F5 N5 ⟨hm, vs2 ++ [_], n2 + 1, _ :: tups, by rw [← List.push_toArray], ?_, ?_⟩
    · intro p hp
      rcases List.mem_cons.mp hp with rfl | hp
      · rfl
      · exact ht p hp
    · rw [List.take_add_one, hnum, Option.toList_some, List.map_append]
      exact .snoc (hM.mono fun p hp => .tail _ hp) (.head _)
end Mine
end
section
open PySem PySem.W PyProof.Rows PySem.Spec
set_option Elab.async false
set_option maxRecDepth 100000
set_option maxHeartbeats 4000000
namespace Mine
/-- a row of a book: the line, its token, its list, the list's epoch, the values in it, what they say -/
structure RowS where
  k : Int
  t : Tok
  a : Addr
  n : Nat
  vs : List Value
  its : List (Int × Str)
abbrev RowS.kv (r : RowS) : Int × Tok × Addr := (r.k, r.t, r.a)
abbrev RowS.obj (r : RowS) : Addr × Obj := (r.a, listObj r.vs.toArray r.n)
abbrev kvsOf (rows : List RowS) : KVs := rows.map RowS.kv
abbrev bookNews (B d : Addr) (fs : List DictEntry) (fp ep : Nat) (rows : List RowS) : List (Addr × Obj) := (B, bookObj d ((kvsOf rows).map entOf) ep) :: (d, dictObj fs fp) :: rows.map RowS.obj
def findR (rows : List RowS) (k : Int) : Option RowS := rows.find? (fun r => r.k == k)
theorem look_rows (rows : List RowS) (k : Int) : look (kvsOf rows) k = (findR rows k).map (·.a) := by
  unfold look findR
  induction rows with
  | nil => rfl
  | cons r l ih =>
    simp only [kvsOf, List.map_cons, List.find?_cons]
    show Option.map _ (match r.k == k with | true => some r.kv | false => _) = _
    cases r.k == k
    · exact ih
    · rfl
structure GoodRows (rows : List RowS) : Prop where
  keys : (rows.map (·.k)).Nodup
  adr : (rows.map (·.a)).Nodup
  few : rows.length ≤ 100
abbrev newRow (k : Int) (t : Tok) (a : Addr) : RowS := ⟨k, t, a, 0, [], []⟩
def insR (rows : List RowS) (k : Int) (t : Tok) (a : Addr) : List RowS := match findR rows k with | some _ => rows | none => rows ++ [newRow k t a]
section
variable {w : World} {A : Around} {E : Value → Shared → Prop} {s : Shared} {l : List Env} {h₀ : Heap} {L : Addr} {m : Str → Option Value} {B d : Addr} {fs : List DictEntry} {fp ep : Nat} {rows : List RowS} {rest : List (Addr × Obj)} {p : Program} {loose : List Str} {mean : ExcName → Option Value} {mg mb : Str → Option Value}
theorem newR_not_sys (P : Params) {h : Heap} (X : (KK P).In h) {a : Addr} (ha : h.get? a = none) : (a == sysModules) = false := by
  have e : ((KK P).lookup sysModules).isSome = true := by kernel_rfl
  obtain ⟨o, ho⟩ := Option.isSome_iff_exists.mp e
  cases q : a == sysModules with
  | false => rfl
  | true => rw [beq_iff_eq.mp q, X _ _ ho] at ha; cases ha
theorem bookAt_news (N : News h₀ L s.heap (bookNews B d fs fp ep rows ++ rest)) : BookAt s.heap B d (kvsOf rows) ep fs fp :=
  ⟨(N _ (.head _)).1, (N _ (.tail _ (.head _))).1⟩
/-- looking a line up in a book that is not frozen -/
theorem book_getA {k : Int} {t : Tok} {Q : Value → Shared → Prop} (X : (KK w.params).In h₀) (T : Top p loose mean mg mb h₀) (F : Fr h₀ L s.heap m) (N : News h₀ L s.heap (bookNews B d [] fp ep rows ++ rest)) (G : GoodRows rows) (hrest : ∀ q ∈ rest, q.1 ≠ B)
    (a1 : A.handled = none) (a2 : A.depth ≤ 500) (a3 : A.frames = some l) (a4 : A.guards = some []) (a5 : A.in1.units ≤ 3000)
    (h : ∀ a ep' h' tk r, Fr h₀ L h' m → News h₀ L h' (bookNews B d [] fp ep' (insR rows k t a) ++ rest) → findR (insR rows k t a) k = some r → (findR rows k = none → (∀ q ∈ rows, q.a ≠ a) ∧ (∀ q ∈ rest, q.1 ≠ a) ∧ r = newRow k t a) → Q (.ref r.a) { s with heap := h', toks := tk }) :
    wpAny (model PySem.Challenge.rw_in0185_02.row.prog w) A (getItem (.ref B) (.int k t)) Q E s := by
  have X₀ := K_of_KK (X.keeps F.keep)
  have D := bookAt_news N
  have hB : h₀.get? B = none := (N _ (.head _)).2.2
  revert X₀; k_fill; intro X₀
  have g1 : noSeq (hk.heap_39 w.params) 108 = true := by k_is
  have g2 : findIn (hk.heap_39 w.params) (.ref 108) "__getitem__" = some (some (.builtin "dict.__getitem__")) := by k_is
  have g3 : subIn (hk.heap_39 w.params) (.ref 108) (.type "dict") = some true := by k_is
  have g4 : findIn (hk.heap_39 w.params) (.ref 108) "__missing__" = some (some (.ref 98)) := by k_is
  have g5 : isFn (hk.heap_39 w.params) (.ref 98) = true := by k_is
  cases q : findR rows k with
  | some r =>
    have e : ∀ a, insR rows k t a = rows := fun a => by unfold insR; rw [q]
    refine book_found X₀ D g1 g2 g3 (by rw [look_rows, q]; rfl) ?_
    exact h r.a ep _ _ r F (by rw [e]; exact N) (by rw [e]; exact q) (fun z => by rw [q] at z; cases z)
  | none =>
    have hl : look (kvsOf rows) k = none := by rw [look_rows, q]; rfl
    have hn := newR_not_sys w.params X hB
    refine book_missed X₀ D g1 g2 g3 g4 g5 hn hl ?_
    refine wpAny_call (up (miss_unfrozen (s := ⟨s.heap, _, _, _, _⟩) (X.keeps F.keep) (T.keeps F.keep) D hn hl (by rw [List.length_map]; exact Nat.le_trans G.few (by decide)) fun h' tk a e1 e2 e3 e4 => ?_) a1 a2 a3 a4 a5)
    have e : insR rows k t a = rows ++ [newRow k t a] := by unfold insR; rw [q]
    have hb : ∀ z, (∃ o, s.heap.get? z = some o ∧ o.cls ≠ .ref 108) → z ≠ B := fun z ⟨o, z1, z2⟩ z3 => by
      rw [z3, D.1] at z1; cases z1; exact z2 rfl
    have F' : Fr h₀ L h' m := by
      obtain ⟨oL, es, ep', hL, hLd, hLk, hLf⟩ := F.ns
      refine ⟨⟨oL, es, ep', e4 L oL (Ne.symm (N _ (.head _)).2.1) hL, hLd, hLk, hLf⟩, fun b o z => e4 b o (fun y => by rw [y, hB] at z; cases z) (F.keep b o z), F.above⟩
    have an : h₀.get? a = none := by
      cases z : h₀.get? a with
      | none => rfl
      | some o => have := F.keep _ _ z; rw [e2] at this; cases this
    have aL : a ≠ L := fun z => by
      obtain ⟨oL, es, ep', hL, _⟩ := F.ns
      rw [z, hL] at e2; cases e2
    refine h a (ep + 1) h' tk (newRow k t a) F' ?_ ?_ fun _ => ⟨fun y hy z => ?_, fun y hy z => ?_, rfl⟩
    · rw [e]
      intro y hy
      rcases List.mem_append.mp hy with hy | hy
      · rcases List.mem_cons.mp hy with rfl | hy
        · refine ⟨?_, (N _ (.head _)).2⟩
          rw [e1]; simp [kvsOf]
        · rcases List.mem_cons.mp hy with rfl | hy
          · exact ⟨e4 _ _ (hb _ ⟨_, D.2, fun z => by cases z⟩) D.2, (N _ (.tail _ (.head _))).2⟩
          · rw [List.map_append] at hy
            rcases List.mem_append.mp hy with hy | hy
            · have z := N y (List.mem_append_left _ (.tail _ (.tail _ hy)))
              obtain ⟨r, _, rfl⟩ := List.mem_map.mp hy
              exact ⟨e4 _ _ (hb _ ⟨_, z.1, fun z => by cases z⟩) z.1, z.2⟩
            · rw [List.map_cons, List.map_nil, List.mem_singleton] at hy
              subst hy
              exact ⟨e3, aL, an⟩
      · have z := N y (List.mem_append_right _ hy)
        exact ⟨e4 _ _ (hrest y hy) z.1, z.2⟩
    · rw [e]; unfold findR at q ⊢; rw [List.find?_append, q]; simp
    · have := (N y.obj (List.mem_append_left _ (.tail _ (.tail _ (List.mem_map_of_mem hy))))).1
      dsimp only at this
      rw [z, e2] at this; cases this
    · have := (N y (List.mem_append_right _ hy)).1
      rw [z, e2] at this; cases this
/-- looking a line up in a book that is not frozen -/
theorem book_get {k : Int} {t : Tok} {Q : Value → Shared → Prop} (X : (KK w.params).In h₀) (T : Top p loose mean mg mb h₀) (F : Fr h₀ L s.heap m) (N : News h₀ L s.heap (bookNews B d [] fp ep rows ++ rest)) (G : GoodRows rows) (hrest : ∀ q ∈ rest, q.2.cls ≠ .ref 108 ∨ ∃ c, q.2.data = .cell c)
    (a1 : A.handled = none) (a2 : A.depth ≤ 500) (a3 : A.frames = some l) (a4 : A.guards = some []) (a5 : A.in1.units ≤ 3000)
    (h : ∀ a ep' h' tk r, Fr h₀ L h' m → News h₀ L h' (bookNews B d [] fp ep' (insR rows k t a) ++ rest) → findR (insR rows k t a) k = some r → (findR rows k = none → (∀ q ∈ rows, q.a ≠ a) ∧ (∀ q ∈ rest, q.1 ≠ a) ∧ r = newRow k t a) → Q (.ref r.a) { s with heap := h', toks := tk }) :
    wpAny (model PySem.Challenge.rw_in0185_02.row.prog w) A (getItem (.ref B) (.int k t)) Q E s := by
  have D := bookAt_news N
  refine book_getA X T F N G (fun q hq z3 => ?_) a1 a2 a3 a4 a5 h
  have z1 := (N q (List.mem_append_right _ hq)).1
  rw [z3, D.1] at z1
  have z2 := hrest q hq
  rw [← Option.some.inj z1] at z2
  rcases z2 with z2 | ⟨c, z2⟩
  · exact z2 rfl
  · cases z2
end
end Mine
end
section
open PySem PySem.W PyProof.Rows PySem.Spec
set_option Elab.async false
set_option maxRecDepth 100000
set_option maxHeartbeats 4000000
namespace Mine
def pushR (k : Int) (v : Value) (it : Int × Str) (r : RowS) : RowS := if r.k = k then { r with n := r.n + 1, vs := r.vs ++ [v], its := r.its ++ [it] } else r
theorem pushR_kv (k : Int) (v : Value) (it : Int × Str) (r : RowS) : (pushR k v it r).kv = r.kv := by unfold pushR; split <;> rfl
theorem kvs_push (k : Int) (v : Value) (it : Int × Str) (rows : List RowS) : kvsOf (rows.map (pushR k v it)) = kvsOf rows := by
  show List.map RowS.kv (List.map _ rows) = List.map RowS.kv rows
  rw [List.map_map]
  exact List.map_congr_left fun r _ => pushR_kv k v it r
theorem keys_push (k : Int) (v : Value) (it : Int × Str) (rows : List RowS) : (rows.map (pushR k v it)).map (·.k) = rows.map (·.k) := by
  rw [List.map_map]
  exact List.map_congr_left fun r _ => congrArg (·.1) (pushR_kv k v it r)
theorem adrs_push (k : Int) (v : Value) (it : Int × Str) (rows : List RowS) : (rows.map (pushR k v it)).map (·.a) = rows.map (·.a) := by
  rw [List.map_map]
  exact List.map_congr_left fun r _ => congrArg (·.2.2) (pushR_kv k v it r)
theorem good_push {k : Int} {v : Value} {it : Int × Str} {rows : List RowS} (G : GoodRows rows) : GoodRows (rows.map (pushR k v it)) :=
  ⟨by rw [keys_push]; exact G.keys, by rw [adrs_push]; exact G.adr, by rw [List.length_map]; exact G.few⟩
theorem nodup_inj {α β : Type} {f : α → β} : ∀ {l : List α}, (l.map f).Nodup → ∀ {x y : α}, x ∈ l → y ∈ l → f x = f y → x = y
  | [], _, _, _, hx, _, _ => nomatch hx
  | z :: l, hn, x, y, hx, hy, e => by
    rw [List.map_cons, List.nodup_cons] at hn
    rcases List.mem_cons.mp hx with e1 | hx'
    · rcases List.mem_cons.mp hy with e2 | hy'
      · rw [e1, e2]
      · exact absurd (by rw [← e1, e]; exact List.mem_map_of_mem hy') hn.1
    · rcases List.mem_cons.mp hy with e2 | hy'
      · exact absurd (by rw [← e2, ← e]; exact List.mem_map_of_mem hx') hn.1
      · exact nodup_inj hn.2 hx' hy' e
theorem findR_mem {rows : List RowS} {k : Int} {r : RowS} (h : findR rows k = some r) : r ∈ rows ∧ r.k = k :=
  ⟨List.mem_of_find?_eq_some h, by have := List.find?_some h; simpa using this⟩
theorem good_ins {rows : List RowS} {k : Int} {t : Tok} {a : Addr} (G : GoodRows rows) (hf : rows.length ≤ 99) (ha : findR rows k = none → ∀ q ∈ rows, q.a ≠ a) : GoodRows (insR rows k t a) := by
  unfold insR
  cases q : findR rows k with
  | some r => exact G
  | none =>
    have hk : ∀ r ∈ rows, r.k ≠ k := fun r hr e => by
      have := List.find?_eq_none.mp q r hr
      simp [e] at this
    refine ⟨?_, ?_, ?_⟩
    · rw [List.map_append, List.nodup_append]
      refine ⟨G.keys, by simp, fun x hx y hy => ?_⟩
      obtain ⟨r, hr, rfl⟩ := List.mem_map.mp hx
      simp at hy; subst hy
      exact hk r hr
    · rw [List.map_append, List.nodup_append]
      refine ⟨G.adr, by simp, fun x hx y hy => ?_⟩
      obtain ⟨r, hr, rfl⟩ := List.mem_map.mp hx
      simp at hy; subst hy
      exact ha q r hr
    · rw [List.length_append]; simp; omega
section
variable {prog : Program} {w : World} {A : Around} {E : Value → Shared → Prop} {s : Shared} {h₀ : Heap} {L : Addr} {m : Str → Option Value} {B d : Addr} {fs : List DictEntry} {fp ep : Nat} {rows : List RowS} {rest : List (Addr × Obj)}
theorem row_append {r : RowS} {t : Addr} {to : Obj} {it : Int × Str} {Q : Value → Shared → Prop} (F : Fr h₀ L s.heap m) (N : News h₀ L s.heap ((t, to) :: (bookNews B d fs fp ep rows ++ rest))) (hr : r ∈ rows) (G : GoodRows rows) (ht : to.cls = .type "tuple") (hrest : ∀ q ∈ rest, q.1 ≠ r.a) (hz : r.vs.length ≤ 1000)
    (h : ∀ h', Fr h₀ L h' m → News h₀ L h' (bookNews B d fs fp ep (rows.map (pushR r.k (.ref t) it)) ++ (t, to) :: rest) → Q .none { s with heap := h' }) :
    wpAny (model prog w) A (call (.builtin "list.append") [.ref r.a, .ref t]) Q E s := by
  have hmem : (r.a, listObj r.vs.toArray r.n) ∈ ((t, to) :: (bookNews B d fs fp ep rows ++ rest)) := .tail _ (List.mem_append_left _ (.tail _ (.tail _ (List.mem_map_of_mem (f := RowS.obj) hr))))
  have nc : ∀ q ∈ ((t, to) :: (bookNews B d fs fp ep rows ++ rest)), q.2.cls ≠ .type "list" → q.1 ≠ r.a := fun q hq hc => ne_cls N hmem hq hc
  refine append_news F N hmem (news' := bookNews B d fs fp ep (rows.map (pushR r.k (.ref t) it)) ++ (t, to) :: rest) (fun p hp => ?_) (by rw [List.size_toArray]; exact hz) fun h' F' N' _ => h h' F' N'
  rcases List.mem_append.mp hp with hp | hp
  · rcases List.mem_cons.mp hp with rfl | hp
    · rw [kvs_push]
      exact .inr ⟨.tail _ (.head _), nc _ (.tail _ (.head _)) (by intro z; cases z)⟩
    · rcases List.mem_cons.mp hp with rfl | hp
      · exact .inr ⟨.tail _ (.tail _ (.head _)), nc _ (.tail _ (.tail _ (.head _))) (fun z => absurd (show Value.type "dict" = Value.type "list" from z) (by decide))⟩
      · rw [List.map_map] at hp
        obtain ⟨r', hr', rfl⟩ := List.mem_map.mp hp
        by_cases e : r'.k = r.k
        · have : r' = r := nodup_inj G.keys hr' hr e
          subst this
          refine .inl ?_
          show (pushR r'.k (.ref t) it r').obj = _
          unfold pushR
          rw [if_pos rfl]
          simp
        · refine .inr ⟨.tail _ (List.mem_append_left _ (.tail _ (.tail _ ?_))), ?_⟩
          · show (pushR r.k (.ref t) it r').obj ∈ List.map RowS.obj rows
            unfold pushR
            rw [if_neg e]
            exact List.mem_map_of_mem hr'
          · show (pushR r.k (.ref t) it r').a ≠ r.a
            unfold pushR
            rw [if_neg e]
            exact fun z => e (by rw [nodup_inj G.adr hr' hr z])
  · rcases List.mem_cons.mp hp with rfl | hp
    · exact .inr ⟨.head _, nc _ (.head _) (by rw [ht]; decide)⟩
    · exact .inr ⟨.tail _ (List.mem_append_right _ hp), hrest p hp⟩
end
/-- the tuples of a row's list -/
abbrev itemObj (it : Int × Str) (ta tb : Tok) : Obj := ⟨.type "tuple", none, .seq #[.int it.1 ta, .str it.2 tb] 0, #[]⟩
inductive ItemsIn (news : List (Addr × Obj)) : List Value → List (Int × Str) → Prop
  | nil : ItemsIn news [] []
  | snoc {vs ms a m ta tb} : ItemsIn news vs ms → (a, itemObj m ta tb) ∈ news → ItemsIn news (vs ++ [.ref a]) (ms ++ [m])
theorem ItemsIn.mono {news news' : List (Addr × Obj)} {vs ms} (M : ItemsIn news vs ms) (h : ∀ p ∈ news, p ∈ news') : ItemsIn news' vs ms := by
  induction M with
  | nil => exact .nil
  | snoc _ hm ih => exact .snoc ih (h _ hm)
theorem ItemsIn.length {news : List (Addr × Obj)} {vs ms} (M : ItemsIn news vs ms) : vs.length = ms.length := by
  induction M with
  | nil => rfl
  | snoc _ _ ih => simp [ih]
def RowsIn (news : List (Addr × Obj)) (rows : List RowS) : Prop := ∀ r ∈ rows, ItemsIn news r.vs r.its
theorem RowsIn.mono {news news' : List (Addr × Obj)} {rows} (M : RowsIn news rows) (h : ∀ p ∈ news, p ∈ news') : RowsIn news' rows := fun r hr => (M r hr).mono h
theorem RowsIn.ins {news : List (Addr × Obj)} {rows : List RowS} {k t a} (M : RowsIn news rows) : RowsIn news (insR rows k t a) := by
  unfold insR
  split
  · exact M
  · intro r hr
    rcases List.mem_append.mp hr with hr | hr
    · exact M r hr
    · simp at hr; subst hr; exact .nil
theorem RowsIn.push {news : List (Addr × Obj)} {rows : List RowS} {k : Int} {a : Addr} {it : Int × Str} {ta tb : Tok} (M : RowsIn news rows) (h : (a, itemObj it ta tb) ∈ news) : RowsIn news (rows.map (pushR k (.ref a) it)) := by
  intro r hr
  obtain ⟨r', hr', rfl⟩ := List.mem_map.mp hr
  unfold pushR
  split
  · exact .snoc (M r' hr') h
  · exact M r' hr'
/-- what a book says -/
abbrev Says := List (Int × List (Int × Str))
abbrev saysOf (rows : List RowS) : Says := rows.map fun r => (r.k, r.its)
def putS (c : Says) (k : Int) (it : Int × Str) : Says := (if c.any (fun x => x.1 == k) then c else c ++ [(k, [])]).map fun x => if x.1 = k then (x.1, x.2 ++ [it]) else x
theorem says_put (rows : List RowS) (k : Int) (t : Tok) (a : Addr) (v : Value) (it : Int × Str) : saysOf ((insR rows k t a).map (pushR k v it)) = putS (saysOf rows) k it := by
  unfold insR putS
  have e : (saysOf rows).any (fun x => x.1 == k) = (findR rows k).isSome := by
    unfold findR
    rw [Bool.eq_iff_iff, List.find?_isSome, List.any_eq_true]
    simp
    exact ⟨fun ⟨_, r, a, b, _⟩ => ⟨r, a, b⟩, fun ⟨r, a, b⟩ => ⟨_, r, a, b, rfl⟩⟩
  have hp : ∀ rows : List RowS, saysOf (rows.map (pushR k v it)) = (saysOf rows).map fun x => if x.1 = k then (x.1, x.2 ++ [it]) else x := fun rows => by
    show List.map _ (List.map _ rows) = List.map _ (List.map _ rows)
    rw [List.map_map, List.map_map]
    refine List.map_congr_left fun r _ => ?_
    show ((pushR k v it r).k, (pushR k v it r).its) = if r.k = k then _ else _
    unfold pushR
    split <;> rfl
  rw [e]
  cases findR rows k with
  | some r => exact hp rows
  | none => simpa using hp (rows ++ [newRow k t a])
end Mine
end
section
open PySem PySem.W PyProof.Rows PySem.Spec
set_option Elab.async false
set_option maxRecDepth 100000
set_option maxHeartbeats 8000000
namespace Mine
theorem getElem_snoc {α : Type} {l : List α} {x v : α} {i : Nat} (h : (l ++ [x])[i]? = some v) : (l[i]? = some v) ∨ (i = l.length ∧ v = x) := by
  rcases Nat.lt_trichotomy i l.length with q | q | q
  · rw [List.getElem?_append_left q] at h; exact .inl h
  · subst q; rw [List.getElem?_append_right (Nat.le_refl _)] at h; simp at h; exact .inr ⟨rfl, h.symm⟩
  · rw [List.getElem?_eq_none (by simp; omega)] at h; cases h
theorem MarksIn.get {news : List (Addr × Obj)} {vs ms} (M : MarksIn news vs ms) : ∀ {i : Nat} {v : Value}, vs[i]? = some v → ∃ a m ta tb tw, v = .ref a ∧ ms[i]? = some m ∧ (a, markObj m ta tb tw) ∈ news := by
  induction M with
  | nil => intro i v h; simp at h
  | @snoc vs ms a m ta tb tw M' hm ih =>
    intro i v h
    rcases getElem_snoc h with h | ⟨rfl, rfl⟩
    · obtain ⟨a', m', t1, t2, t3, e1, e2, e3⟩ := ih h
      obtain ⟨q, _⟩ := List.getElem?_eq_some_iff.mp e2
      exact ⟨a', m', t1, t2, t3, e1, by rw [List.getElem?_append_left q]; exact e2, e3⟩
    · exact ⟨a, m, ta, tb, tw, rfl, by rw [M'.length]; simp, hm⟩
theorem news_book {h₀ h h2 : Heap} {L B d : Addr} {m} (F : Fr h₀ L h m) (n1 : h.get? B = none) (n2 : h.get? d = none) (n4 : h2.get? B = some (bookObj d [] 0)) (n5 : h2.get? d = some (dictObj [] 0)) : News h₀ L h2 (bookNews B d [] 0 0 [] ++ []) := by
  have nl : ∀ a, h.get? a = none → a ≠ L ∧ h₀.get? a = none := by
    intro a ha
    constructor
    · intro e
      obtain ⟨oL, _, _, hL, _⟩ := F.ns
      rw [e, hL] at ha; cases ha
    · cases q : h₀.get? a with
      | none => rfl
      | some o => have := F.keep _ _ q; rw [ha] at this; cases this
  intro p hp
  simp at hp
  rcases hp with rfl | rfl
  · exact ⟨n4, nl _ n1⟩
  · exact ⟨n5, nl _ n2⟩
section
variable {w : World} {A : Around} {E : Value → Shared → Prop} {s : Shared} {l : List Env} {h₀ : Heap} {L : Addr} {m : Str → Option Value} {B d : Addr} {fs : List DictEntry} {fp ep : Nat} {rows : List RowS} {rest : List (Addr × Obj)} {p : Program} {loose : List Str} {mean : ExcName → Option Value} {mg mb : Str → Option Value}
theorem sub_tup {prog : Program} {value slice : Expr} {a : Addr} {items : Array Value} {n : Nat} {i : Int} {t : Tok} {j : Nat} {x : Value} {Q : Value → Shared → Prop} (ho : s.heap.get? a = some ⟨.type "tuple", none, .seq items n, #[]⟩) (hlo : -(2 ^ 63) ≤ i) (hhi : i < 2 ^ 63) (hj : seqIndex? i items.size = some j) (hx : items[j]? = some x)
    (hs : subscripted slice false (.ref a) (.int i t) = operate [.ref a, .int i t] (getItem (.ref a) (.int i t))) (h : Q x s) : wpAny (model prog w) A (subscriptTail value slice (.ref a) (.int i t)) Q E s :=
  have ht : IsTup s.heap a items := ⟨_, ho, rfl, _, rfl⟩
  tail_any ht.typeIs slot_tuple_getitem.lookup (getItem_tuple ht hlo hhi hj hx h) hs
theorem sub_book {prog : Program} {K : Frag} {kvs : KVs} {value slice : Expr} {i : Value} {Q : Value → Shared → Prop} (X : K.In s.heap) (D : BookAt s.heap B d kvs ep fs fp) (g2 : findIn K (.ref 108) "__getitem__" = some (some (.builtin "dict.__getitem__")))
    (hs : subscripted slice false (.ref B) i = operate [.ref B, i] (getItem (.ref B) i)) (hg : wpAny (model prog w) A (getItem (.ref B) i) Q E s) : wpAny (model prog w) A (subscriptTail value slice (.ref B) i) Q E s := by
  unfold subscriptTail getitemInPython specialOf
  refine wpAny_bind (wpAny_bind (wpAny_bind ((book_inst D).type.here ((looks_findIn X g2).here ?_))))
  have fin : wpAny (model prog w) A (subscripted slice false (.ref B) i) (fun r s₃ => wpAny (model prog w) A (letTemporaryGo value (.ref B) r >>= fun _ => pure r) Q E s₃) E s := by
    rw [hs]
    exact wpAny_operating (wpAny_mono hg (fun r s₃ h₃ => wpAny_bind (wpAny_letTemporaryGo (wpAny_pure h₃))) fun _ _ x => x)
  first
    | exact wpAny_pure (wpAny_bind fin)
    | exact wpAny_bind (wpAny_pure (wpAny_bind fin))
    | exact wpAny_pure fin
    | exact wpAny_bind fin
    | exact fin
theorem book_sub {value slice : Expr} {k : Int} {t : Tok} {Q : Value → Shared → Prop} (X : (KK w.params).In h₀) (T : Top p loose mean mg mb h₀) (F : Fr h₀ L s.heap m) (N : News h₀ L s.heap (bookNews B d [] fp ep rows ++ rest)) (G : GoodRows rows) (hrest : ∀ q ∈ rest, q.2.cls ≠ .ref 108 ∨ ∃ c, q.2.data = .cell c)
    (hs : subscripted slice false (.ref B) (.int k t) = operate [.ref B, .int k t] (getItem (.ref B) (.int k t)))
    (a1 : A.handled = none) (a2 : A.depth ≤ 500) (a3 : A.frames = some l) (a4 : A.guards = some []) (a5 : A.in1.units ≤ 3000)
    (h : ∀ a ep' h' tk r, Fr h₀ L h' m → News h₀ L h' (r.obj :: (bookNews B d [] fp ep' (insR rows k t a) ++ rest)) → findR (insR rows k t a) k = some r → (findR rows k = none → (∀ q ∈ rows, q.a ≠ a) ∧ (∀ q ∈ rest, q.1 ≠ a) ∧ r = newRow k t a) → Q (.ref r.a) { s with heap := h', toks := tk }) :
    wpAny (model PySem.Challenge.rw_in0185_02.row.prog w) A (subscriptTail value slice (.ref B) (.int k t)) Q E s := by
  have X₀ := K_of_KK (X.keeps F.keep)
  revert X₀; k_fill; intro X₀
  have g2 : findIn (hk.heap_39 w.params) (.ref 108) "__getitem__" = some (some (.builtin "dict.__getitem__")) := by k_is
  refine sub_book X₀ (bookAt_news N) g2 hs (book_get X T F N G hrest a1 a2 a3 a4 a5 fun a ep' h' tk r F' N' hr hn => h a ep' h' tk r F' (fun q hq => ?_) hr hn)
  rcases List.mem_cons.mp hq with rfl | hq
  · exact N' _ (List.mem_append_left _ (.tail _ (.tail _ (List.mem_map_of_mem (f := RowS.obj) (findR_mem hr).1))))
  · exact N' q hq
end
theorem own_move {h₀ h : Heap} {L : Addr} {own tups b : List (Addr × Obj)} {x : Addr × Obj} (N : News h₀ L h (b ++ x :: (tups ++ own))) : News h₀ L h (own ++ (b ++ x :: tups)) := news_sub N fun p hp => by
  rcases List.mem_append.mp hp with hp | hp
  · exact List.mem_append_right _ (.tail _ (List.mem_append_right _ hp))
  · rcases List.mem_append.mp hp with hp | hp
    · exact List.mem_append_left _ hp
    · rcases List.mem_cons.mp hp with rfl | hp
      · exact List.mem_append_right _ (.head _)
      · exact List.mem_append_right _ (.tail _ (List.mem_append_left _ hp))
theorem insR_length {rows : List RowS} {k : Int} {t : Tok} {a : Addr} : (insR rows k t a).length ≤ rows.length + 1 := by
  unfold insR; split <;> simp
theorem its_ins {rows : List RowS} {k : Int} {t : Tok} {a : Addr} {i : Nat} (h : ∀ r ∈ rows, r.its.length ≤ i) : ∀ r ∈ insR rows k t a, r.its.length ≤ i := by
  unfold insR
  split
  · exact h
  · intro r hr
    rcases List.mem_append.mp hr with hr | hr
    · exact h r hr
    · simp at hr; subst hr; exact Nat.zero_le _
theorem its_push {rows : List RowS} {k : Int} {v : Value} {it : Int × Str} {i : Nat} (h : ∀ r ∈ rows, r.its.length ≤ i) : ∀ r ∈ rows.map (pushR k v it), r.its.length ≤ i + 1 := by
  intro r hr
  obtain ⟨r', hr', rfl⟩ := List.mem_map.mp hr
  have := h r' hr'
  unfold pushR
  split
  · simp; exact this
  · omega
def bookOf (ms : List Mark) : Says := ms.foldl (fun c m => putS c m.1 m.2) []
theorem bookOf_snoc (ms : List Mark) (m : Mark) : bookOf (ms ++ [m]) = putS (bookOf ms) m.1 m.2 := by unfold bookOf; rw [List.foldl_append]; rfl
local macro_rules | `(tactic| k_room) => `(tactic| exact Nat.le_of_ble_eq_true rfl)
local macro_rules | `(tactic| walk_at "eval Name") => `(tactic| (k_here; (refine' ld ?k1 ?k2 ?_; (case k1 => k_asm); (case k2 => assumption); k_whole)))
local macro_rules | `(tactic| walk_at "subscriptTail") => `(tactic| (rename Fr _ _ _ _ => F9; refine' sub_tup ?ho ?lo ?hi ?hj ?hx ?hs ?_; (case ho => exact F9.keep _ _ (by assumption)); (case lo => decide); (case hi => decide); (case hj => rfl); (case hx => rfl); (case hs => rfl)))
set_option pp.deepTerms false
theorem book_ok {w : World} {l : List Env} {s : Shared} {R : Result → Shared → Prop} {p : Program} {loose : List Str} {mean : ExcName → Option Value} {mg mb : Str → Option Value} {S : Addr} {ms : List Mark}
    (X₁ : (KK w.params).In s.heap) (T : Top p loose mean mg mb s.heap) (hS : MarksAt s.heap S ms) (few : ms.length ≤ 8)
    (h : ∀ B d ep rows tups h' tk, Ext s.heap h' → (∀ q ∈ bookNews B d [] 0 ep rows ++ tups, h'.get? q.1 = some q.2 ∧ s.heap.get? q.1 = none) → GoodRows rows → RowsIn tups rows → (∀ q ∈ tups, q.2.cls = .type "tuple") → saysOf rows = bookOf ms → R (.ok (.ret (.ref B))) { s with heap := h', toks := tk }) :
    codeAny (model PySem.Challenge.rw_in0185_02.row.prog w) (AA 330 2000 l) (.call (.ref 244) ⟨[.ref S], []⟩) R s := by
  have X₀ := K_of_KK X₁
  obtain ⟨vs, nS, mnews, hSo, hMi, hMn⟩ := hS
  revert X₀; k_fill; intro X₀
  w_top off
  refine' enterP X₀ T.nolimit ?k6 ?k7 ?k8 ?k9 ?kB ?_ ?c2 ?c3 ?c4 ?c5
  case k6 => k_is
  case k7 => k_is
  case k8 => k_room
  case k9 => exact BindsTo.of_eq rfl
  case kB => exact locs rfl
  case c2 => exact rfl
  case c3 => exact rfl
  case c4 => exact rfl
  case c5 => decide
  intro h₁ F N
  have kX := kFor F X₀
  (try dsimp only); (try k_fold)
  k_steps
  rename Fr _ _ _ _ => F1
  rename News _ _ _ _ => N1
  refine call_rets (upW (book_new (s := ⟨_, _, _, _, _⟩) (X₁.keeps F1.keep)) rfl (Nat.le_of_ble_eq_true rfl) rfl rfl (Nat.le_of_ble_eq_true rfl)) fun v h2 tk2 x2 hv => ?_
  obtain ⟨B, d, e, n1, n2, n3, n4, n5⟩ := hv
  subst e
  have F2 := Fr.ext F1 x2
  have N2 : News s.heap s.heap.objs.size h2 (bookNews B d [] 0 0 [] ++ []) := news_book F1 n1 n2 n4 n5
  clear F1 N1
  (try dsimp only)
  k_steps
  rename Fr _ _ _ _ => F1
  rename News _ _ _ _ => N1
  have hSl : s.heap.IsList S vs.toArray := ⟨_, hSo, rfl, _, rfl⟩
  refine For_invU s.heap rfl rfl ?_
  k_steps
  refine iter_J (vs := vs) (fun i m news => m (Str.ofString "book") = some (.ref B) ∧ ∃ ep rows tups, news = bookNews B d [] 0 ep rows ++ tups ∧ GoodRows rows ∧ rows.length ≤ i ∧ RowsIn tups rows ∧ (∀ q ∈ tups, q.2.cls = .type "tuple") ∧ (∀ r ∈ rows, r.its.length ≤ i) ∧ saysOf rows = bookOf (ms.take i)) ?ni rfl (hSl.at fun o e => F1.keep _ _ e) (Nat.ne_of_lt (Heap.lt_size hSo)) F1 N1 ⟨rfl, 0, [], [], rfl, ⟨by simp, by simp, by simp⟩, by simp, (fun r hr => nomatch hr), (fun r hr => nomatch hr), (fun r hr => nomatch hr), rfl⟩ ?turn ?done
  case ni =>
    rintro i m n ⟨_, ep, rows, tups, rfl, _, _, _, ht, _⟩ p hp
    rcases List.mem_append.mp hp with hp | hp
    · rcases List.mem_cons.mp hp with rfl | hp
      · intro z; cases z
      · rcases List.mem_cons.mp hp with rfl | hp
        · exact fun z => absurd (show Value.type "dict" = Value.type "list_iterator" from z) (by decide)
        · obtain ⟨r, _, rfl⟩ := List.mem_map.mp hp
          exact fun z => absurd (show Value.type "list" = Value.type "list_iterator" from z) (by decide)
    · rw [ht p hp]; exact fun z => absurd z (by decide)
  case done =>
    intro m' news' h2 tk2 F2 N2 hJ
    obtain ⟨hm, ep, rows, tups, rfl, G, _, hR, ht, _, hs⟩ := hJ
    rw [hMi.length, List.take_length] at hs
    k_steps
    exact h B d ep rows tups _ _ F2.keep (fun q hq => ⟨(N2 q hq).1, (N2 q hq).2.2⟩) G hR ht hs
  case turn =>
    intro i v m₁ news₁ s₁ own hv hJ ho F2 N2
    obtain ⟨hm, ep, rows, tups, rfl, G, hlen, hR, ht, hits, hs⟩ := hJ
    obtain ⟨aM, mk, ta, tb, tw, rfl, hmi, hmm⟩ := hMi.get hv
    have hMo := hMn _ hmm
    obtain ⟨h2, gg, dd, tk2, os⟩ := s₁
    clear F1 N1
    k_steps
    rename Fr _ _ _ _ => F3
    rename News _ _ _ _ => N3
    have own_it : ∀ q ∈ own, q.2.cls = .type "list_iterator" := fun q hq => by
      rcases ho q hq with e | e
      · have := (N3 q (List.mem_append_left _ hq)).2.2
        rw [e, hSo] at this; cases this
      · exact e.2
    have N4 := news_sub N3 (news' := bookNews B d [] 0 ep rows ++ (tups ++ own)) (fun p hp => by
      rcases List.mem_append.mp hp with hp | hp
      · exact List.mem_append_right _ (List.mem_append_left _ hp)
      · rcases List.mem_append.mp hp with hp | hp
        · exact List.mem_append_right _ (List.mem_append_right _ hp)
        · exact List.mem_append_left _ hp)
    refine book_sub X₁ T F3 N4 G ?hrest rfl rfl (Nat.le_of_ble_eq_true rfl) rfl rfl (Nat.le_of_ble_eq_true rfl) ?_
    case hrest =>
      intro q hq
      rcases List.mem_append.mp hq with hq | hq
      · rw [ht q hq]; exact .inl fun z => by cases z
      · rw [own_it q hq]; exact .inl fun z => by cases z
    intro a ep' h5 tk5 r F5 N5 hr hnew
    have hi8 : i < 8 := Nat.lt_of_lt_of_le (List.getElem?_eq_some_iff.mp hmi).1 few
    have G5 : GoodRows (insR rows mk.1 ta a) := good_ins G (by omega) (fun z => (hnew z).1)
    obtain ⟨rmem, rk⟩ := findR_mem hr
    have cls_ne : ∀ q ∈ tups ++ own, q.1 ≠ r.a := fun q hq => by
      refine ne_cls (h := h5) (o := r.obj.2) N5 (.head _) (.tail _ (List.mem_append_right _ hq)) ?_
      rcases List.mem_append.mp hq with hq | hq
      · rw [ht q hq]; exact fun z => absurd (show Value.type "tuple" = Value.type "list" from z) (by decide)
      · rw [own_it q hq]; exact fun z => absurd (show Value.type "list_iterator" = Value.type "list" from z) (by decide)
    have hRi : RowsIn tups (insR rows mk.1 ta a) := hR.ins
    have hl5 : r.vs.length ≤ 1000 := by rw [(hRi r rmem).length]; exact Nat.le_trans (its_ins hits r rmem) (by omega)
    clear F3 N3 N4
    k_steps
    rename Fr _ _ _ _ => F6
    rename News _ _ _ _ => N6
    refine row_append (B := B) (d := d) (fs := []) (fp := 0) (ep := ep') (it := mk.2) (to := itemObj mk.2 tb tw) F6 (news_sub N6 ?sub) rmem G5 rfl cls_ne hl5 ?_
    case sub =>
      intro p hp
      rcases List.mem_cons.mp hp with rfl | hp
      · exact .head _
      · exact .tail _ (.tail _ hp)
    intro h7 F7 N7
    k_steps
    have N8 := own_move N7
    refine turnJ F7 N8 ⟨hm, ep', _, _, rfl, good_push G5, ?_, ?_, ?_, its_push (its_ins hits), ?_⟩
    · rw [List.length_map]; exact Nat.le_trans insR_length (Nat.succ_le_succ hlen)
    · exact (hRi.mono fun p hp => .tail _ hp).push (.head _)
    · intro q hq
      rcases List.mem_cons.mp hq with rfl | hq
      · rfl
      · exact ht q hq
    · rw [rk, says_put, hs, List.take_add_one, hmi, Option.toList_some, bookOf_snoc]
end Mine
end
section
open PySem PySem.W PyProof.Rows PySem.Spec
open PyProof.Rows.LCg PyProof.Rows.LCt
set_option Elab.async false
set_option maxRecDepth 100000
set_option maxHeartbeats 2000000
namespace Mine
section
variable {prog : Program} {w : World} {A : Around} {s : Shared} {h₀ : Heap} {L : Addr} {m : Str → Option Value} {env : Env}
theorem compEnd_mono {s₁ s' : Shared} {I C D : Addr} {oI oC oD : Obj} {S : List (Addr × Obj) → Prop} {K K' : Value → List (Addr × Obj) → Prop} {y : Value} (h : CompEnd h₀ L m s₁ I oI C oC D oD S K y s') (hk : ∀ news, K y news → K' y news) : CompEnd h₀ L m s₁ I oI C oC D oD S K' y s' := by
  obtain ⟨h₄, tk₄, news₄, e, F₄, N₄, off₄, hS₄, R₄⟩ := h
  exact ⟨h₄, tk₄, news₄, e, F₄, N₄, off₄, hS₄, hk _ R₄⟩
/-- a comprehension with one test, by an invariant of one's own -/
theorem compT_ind {ct elt : Expr} {x : Str} {scope : Scope} {cl : List (Str × Addr)} {S : List (Addr × Obj) → Prop} {P : Nat → Value → Prop} {Fin : List Value → List (Addr × Obj) → Prop} {n : Nat} (Inv : Nat → List Value → List (Addr × Obj) → Prop)
    (hfin : ∀ ys news, Inv n ys news → Fin ys news)
    (turn : ∀ i ys news, i < n → Inv i ys news → ∀ v I oI C oC D m₂ h tk (E' : Value → Shared → Prop), P i v → NsObj oC m₂ → m₂ x = some v → Fr h₀ L h m → News h₀ L h ((I, oI) :: (C, oC) :: (D, lst ys) :: news) → Off3 I C D news → ((@Ne Nat I C) ∧ (@Ne Nat I D) ∧ (@Ne Nat C D)) →
      wpAny (model prog w) A (isTrue ct (compEnvC scope cl C env) (eval ct (compEnvC scope cl C env))) (fun ok s' => if ok = true then
        wpAny (model prog w) A (eval elt (compEnvC scope cl C env)) (CompEnd h₀ L m { s with heap := h, toks := tk } I oI C oC D (lst ys) S (fun y news' => Inv (i + 1) (ys ++ [y]) news')) E' s'
        else CompEnd h₀ L m { s with heap := h, toks := tk } I oI C oC D (lst ys) S (fun _ news' => Inv (i + 1) ys news') Value.none s') E' { s with heap := h, toks := tk }) :
    ∀ j i ys news, i + j = n → Inv i ys news → CompRestT prog w A h₀ L m env ct elt x scope cl s S P Fin j i ys news := by
  intro j
  induction j with
  | zero => intro i ys news hij hI; exact .zero (hfin ys news (by rw [← hij]; exact hI))
  | succ j ih =>
    intro i ys news hij hI
    refine .succ fun v I oI C oC D m₂ h tk E' hP hC hx F N off ne => wpAny_mono (turn i ys news (by omega) hI v I oI C oC D m₂ h tk E' hP hC hx F N off ne) (fun ok s' z => ?_) fun _ _ z => z
    cases ok with
    | true =>
      simp only [if_true] at z ⊢
      exact wpAny_mono z (fun y s'' z' => compEnd_mono z' fun news' q => ih (i + 1) (ys ++ [y]) news' (by omega) q) fun _ _ z => z
    | false =>
      simp only [Bool.false_eq_true, if_false] at z ⊢
      exact compEnd_mono z fun news' q => ih (i + 1) ys news' (by omega) q
end
section
variable {prog : Program} {w : World} {A : Around} {E : Value → Shared → Prop} {s : Shared} {value slice : Expr} {p : Addr} {a b c : Value} {n : Nat} {t : Tok} {Q : Value → Shared → Prop}
theorem sub3_0 {i : Int} (hi : i = 0) (ho : s.heap.get? p = some ⟨.type "tuple", none, .seq #[a, b, c] n, #[]⟩) (hs : subscripted slice false (.ref p) (.int i t) = operate [.ref p, .int i t] (getItem (.ref p) (.int i t))) (h : Q a s) : wpAny (model prog w) A (subscriptTail value slice (.ref p) (.int i t)) Q E s := by
  subst hi
  exact sub_tup (j := 0) ho (by decide) (by decide) rfl rfl hs h
theorem sub3_1 {i : Int} (hi : i = 1) (ho : s.heap.get? p = some ⟨.type "tuple", none, .seq #[a, b, c] n, #[]⟩) (hs : subscripted slice false (.ref p) (.int i t) = operate [.ref p, .int i t] (getItem (.ref p) (.int i t))) (h : Q b s) : wpAny (model prog w) A (subscriptTail value slice (.ref p) (.int i t)) Q E s := by
  subst hi
  exact sub_tup (j := 1) ho (by decide) (by decide) rfl rfl hs h
theorem sub3_2 {i : Int} (hi : i = 2) (ho : s.heap.get? p = some ⟨.type "tuple", none, .seq #[a, b, c] n, #[]⟩) (hs : subscripted slice false (.ref p) (.int i t) = operate [.ref p, .int i t] (getItem (.ref p) (.int i t))) (h : Q c s) : wpAny (model prog w) A (subscriptTail value slice (.ref p) (.int i t)) Q E s := by
  subst hi
  exact sub_tup (j := 2) ho (by decide) (by decide) rfl rfl hs h
theorem sub2_0 {i : Int} (hi : i = 0) (ho : s.heap.get? p = some ⟨.type "tuple", none, .seq #[a, b] n, #[]⟩) (hs : subscripted slice false (.ref p) (.int i t) = operate [.ref p, .int i t] (getItem (.ref p) (.int i t))) (h : Q a s) : wpAny (model prog w) A (subscriptTail value slice (.ref p) (.int i t)) Q E s := by
  subst hi
  exact sub_tup (j := 0) ho (by decide) (by decide) rfl rfl hs h
theorem sub2_1 {i : Int} (hi : i = 1) (ho : s.heap.get? p = some ⟨.type "tuple", none, .seq #[a, b] n, #[]⟩) (hs : subscripted slice false (.ref p) (.int i t) = operate [.ref p, .int i t] (getItem (.ref p) (.int i t))) (h : Q b s) : wpAny (model prog w) A (subscriptTail value slice (.ref p) (.int i t)) Q E s := by
  subst hi
  exact sub_tup (j := 1) ho (by decide) (by decide) rfl rfl hs h
end
section
variable {s₁ : Shared} {h₀ : Heap} {L : Addr} {m : Str → Option Value} {I C D t : Addr} {oI oC oD to : Obj} {S : List (Addr × Obj) → Prop} {rest : Value → List (Addr × Obj) → Prop} {c : Addr × Obj} {tups : List (Addr × Obj)} {h' : Heap} {tk : Nat}
theorem comp_end1 (F : Fr h₀ L h' m) (N : News h₀ L h' ((t, to) :: (I, oI) :: (C, oC) :: (D, oD) :: c :: tups)) (off : Off3 I C D (c :: tups)) (lt : @LT.lt Nat _ I t ∧ @LT.lt Nat _ C t ∧ @LT.lt Nat _ D t) (hS : S (c :: (t, to) :: tups)) (r : rest (.ref t) (c :: (t, to) :: tups)) :
    CompEnd h₀ L m s₁ I oI C oC D oD S rest (.ref t) { s₁ with heap := h', toks := tk } := by
  refine CompEnd.intro F N (c :: (t, to) :: tups) (fun p hp => ?_) (Off3.of fun p hp => ?_) hS r
  · simp only [List.mem_cons] at hp ⊢
    rcases hp with h | h | h | h | h | h
    · exact .inr (.inl h)
    · exact .inr (.inr (.inl h))
    · exact .inr (.inr (.inr (.inl h)))
    · exact .inr (.inr (.inr (.inr (.inl h))))
    · exact .inl h
    · exact .inr (.inr (.inr (.inr (.inr h))))
  · rcases List.mem_cons.mp hp with rfl | hp
    · exact off.mem _ (.head _)
    · rcases List.mem_cons.mp hp with rfl | hp
      · exact ⟨Nat.ne_of_gt lt.1, Nat.ne_of_gt lt.2.1, Nat.ne_of_gt lt.2.2⟩
      · exact off.mem _ (.tail _ hp)
theorem comp_end0 {v : Value} {news : List (Addr × Obj)} (F : Fr h₀ L h' m) (N : News h₀ L h' ((I, oI) :: (C, oC) :: (D, oD) :: news)) (off : Off3 I C D news) (hS : S news) (r : rest v news) :
    CompEnd h₀ L m s₁ I oI C oC D oD S rest v { s₁ with heap := h', toks := tk } := CompEnd.intro F N news (fun p hp => hp) off hS r
end
end Mine
end
section
open PySem PySem.W PyProof.Rows PySem.Spec
set_option Elab.async false
set_option maxRecDepth 100000
set_option maxHeartbeats 8000000
namespace Mine
local macro_rules | `(tactic| walk_at "idle 0") => `(tactic| skip)
def underOf (ms : List Mark) (k : Int) : List (Int × Str) := (ms.filter (fun m => m.1 == k)).map (·.2)
/-- a list of pairs (col, word) in a heap -/
def ItemsAt (h : Heap) (l : Addr) (its : List (Int × Str)) : Prop := ∃ vs n news, h.get? l = some (listObj vs.toArray n) ∧ ItemsIn news vs its ∧ ∀ p ∈ news, h.get? p.1 = some p.2
/-- the same, made since another heap -/
def ItemsNew (h₀ h : Heap) (l : Addr) (its : List (Int × Str)) : Prop := ∃ vs n news, h.get? l = some (listObj vs.toArray n) ∧ h₀.get? l = none ∧ ItemsIn news vs its ∧ ∀ p ∈ news, h.get? p.1 = some p.2 ∧ h₀.get? p.1 = none
local macro_rules | `(tactic| k_room) => `(tactic| exact Nat.le_of_ble_eq_true rfl)
local macro_rules | `(tactic| walk_at "subscriptTail") => `(tactic| (rename Fr _ _ _ _ => F9; first | (refine' sub3_0 ?hi ?ho ?hs ?_; (case hi => with_reducible rfl); (case ho => exact F9.keep _ _ (by assumption)); (case hs => rfl)) | (refine' sub3_1 ?hi ?ho ?hs ?_; (case hi => with_reducible rfl); (case ho => exact F9.keep _ _ (by assumption)); (case hs => rfl)) | (refine' sub3_2 ?hi ?ho ?hs ?_; (case hi => with_reducible rfl); (case ho => exact F9.keep _ _ (by assumption)); (case hs => rfl)) | (refine' sub2_0 ?hi ?ho ?hs ?_; (case hi => with_reducible rfl); (case ho => exact F9.keep _ _ (by assumption)); (case hs => rfl)) | (refine' sub2_1 ?hi ?ho ?hs ?_; (case hi => with_reducible rfl); (case ho => exact F9.keep _ _ (by assumption)); (case hs => rfl))))
local macro_rules | `(tactic| walk_at "eval ListComp") => `(tactic| (k_dflt (refine LCt.ListComp_T (F₀ := by k_asm) (by with_unfolding_all rfl) (by decide) (by rfl) (by decide) (by rfl) ?_)))
set_option pp.deepTerms false
theorem under_ok {w : World} {l : List Env} {s : Shared} {R : Result → Shared → Prop} {p : Program} {loose : List Str} {mean : ExcName → Option Value} {mg mb : Str → Option Value} {S : Addr} {ms : List Mark} {k : Int} {t : Tok}
    (X₁ : (KK w.params).In s.heap) (T : Top p loose mean mg mb s.heap) (hS : MarksAt s.heap S ms) (few : ms.length ≤ 8)
    (h : ∀ D h' tk, Ext s.heap h' → ItemsNew s.heap h' D (underOf ms k) → R (.ok (.ret (.ref D))) { s with heap := h', toks := tk }) :
    codeAny (model PySem.Challenge.rw_in0185_02.row.prog w) (AA 400 2500 l) (.call (.ref 232) ⟨[.ref S, .int k t], []⟩) R s := by
  have X₀ := K_of_KK X₁
  obtain ⟨vs, nS, mnews, hSo, hMi, hMn⟩ := hS
  revert X₀; k_fill; intro X₀
  w_top off
  refine' enterPC X₀ T.nolimit ?k6 ?k7 ?k8 ?k9 ?kB ?kN ?_ ?c2 ?c3 ?c4
  case k6 => k_is
  case k7 => k_is
  case k8 => k_room
  case k9 => exact BindsTo.of_eq rfl
  case kB => rfl
  case kN => decide
  case c2 => exact rfl
  case c3 => exact rfl
  case c4 => exact rfl
  intro h₁ tk cells F N Y
  have kX := kFor F X₀
  obtain ⟨oc, hE, dc⟩ := CellsAre.one Y
  subst hE
  clear Y
  have dc' : oc.data = .cell (some (.int k t)) := dc
  clear dc
  (try dsimp only); (try k_fold)
  k_steps
  rename Fr _ _ _ _ => F1
  rename News _ _ _ _ => N1
  have hSl : s.heap.IsList S vs.toArray := ⟨_, hSo, rfl, _, rfl⟩
  have hvl : vs.length ≤ 8 := by rw [hMi.length]; exact few
  refine LCt.CompSrcT.base rfl F1 N1 hSl (by rw [List.size_toArray]; exact Nat.le_trans hvl (by decide +kernel)) fun g => ?_
  refine compT_ind (fun i ys news => ∃ tups, news = (s.heap.objs.size + 1, oc) :: tups ∧ (∀ q ∈ tups, q.2.cls = .type "tuple") ∧ ItemsIn tups ys (underOf (ms.take i) k)) ?fin ?turn _ 0 [] _ (Nat.zero_add _) ⟨[], rfl, (fun q hq => nomatch hq), .nil⟩
  case fin =>
    rintro ys news ⟨tups, rfl, ht, hI⟩
    intro D h2 tk2 F2 N2 off
    rw [show ms.take vs.toArray.size = ms by rw [List.size_toArray, hMi.length, List.take_length]] at hI
    k_steps
    exact h D _ _ F2.keep ⟨ys, _, tups, (N2 _ (.head _)).1, (N2 _ (.head _)).2.2, hI, fun p hp => ⟨(N2 p (.tail _ (.tail _ hp))).1, (N2 p (.tail _ (.tail _ hp))).2.2⟩⟩
  case turn =>
    rintro i ys news hlt ⟨tups, rfl, ht, hI⟩ v I oI C oC D m₂ h2 tk2 E' hv hC hx F2 N2 off ne
    obtain ⟨aM, mk, ta, tb, tw, rfl, hmi, hmm⟩ := hMi.get (show vs[i]? = some v from by simpa using hv)
    have hMo := hMn _ hmm
    clear F1 N1
    iterate 8 (first | walk1 | (dsimp only; walk1))
    have htake : underOf (ms.take (i + 1)) k = underOf (ms.take i) k ++ (if mk.1 = k then [mk.2] else []) := by
      unfold underOf
      rw [List.take_add_one, hmi, Option.toList_some, List.filter_append, List.map_append]
      by_cases e : mk.1 = k <;> simp [e]
    split
    · rename_i ek
      iterate 13 (first | walk1 | (dsimp only; walk1))
      rename Fr _ _ _ _ => F5
      rename News _ _ _ _ => N5
      rename (@LT.lt Nat _ I _ ∧ _) => l5
      refine comp_end1 F5 N5 off ⟨l5.1, l5.2.1, l5.2.2.1⟩ (.inl hSl) ⟨_, rfl, ?_, ?_⟩
      · intro q hq
        rcases List.mem_cons.mp hq with rfl | hq
        · rfl
        · exact ht q hq
      · rw [htake, if_pos (by simpa using ek)]
        exact .snoc (hI.mono fun p hp => .tail _ hp) (.head _)
    · rename_i ek
      rename Fr _ _ _ _ => F5
      rename News _ _ _ _ => N5
      refine comp_end0 F5 N5 off (.inl hSl) ⟨tups, rfl, ht, ?_⟩
      rw [htake, if_neg (by simpa using ek), List.append_nil]
      exact hI
end Mine
end
section
open PySem PySem.W PyProof.Rows PySem.Spec
open PyProof.Rows.LCg
set_option Elab.async false
set_option maxRecDepth 100000
set_option maxHeartbeats 2000000
namespace Mine
section
variable {prog : Program} {w : World} {A : Around} {s : Shared} {h₀ : Heap} {L : Addr} {m : Str → Option Value} {env : Env}
/-- a comprehension without a test, by an invariant of one's own -/
theorem compU_ind {elt : Expr} {x : Str} {scope : Scope} {cl : List (Str × Addr)} {S : List (Addr × Obj) → Prop} {P : Nat → Value → Prop} {Fin : List Value → List (Addr × Obj) → Prop} {n : Nat} (Inv : Nat → List Value → List (Addr × Obj) → Prop)
    (hfin : ∀ ys news, Inv n ys news → Fin ys news)
    (turn : ∀ i ys news, i < n → Inv i ys news → ∀ v I oI C oC D m₂ h tk (E' : Value → Shared → Prop), P i v → NsObj oC m₂ → m₂ x = some v → Fr h₀ L h m → News h₀ L h ((I, oI) :: (C, oC) :: (D, lst ys) :: news) → Off3 I C D news → ((@Ne Nat I C) ∧ (@Ne Nat I D) ∧ (@Ne Nat C D)) →
      wpAny (model prog w) A (eval elt (compEnvC scope cl C env)) (CompEnd h₀ L m { s with heap := h, toks := tk } I oI C oC D (lst ys) S (fun y news' => Inv (i + 1) (ys ++ [y]) news')) E' { s with heap := h, toks := tk }) :
    ∀ j i ys news, i + j = n → Inv i ys news → CompRest prog w A h₀ L m env elt x scope cl s S P Fin j i ys news := by
  intro j
  induction j with
  | zero => intro i ys news hij hI; exact hfin ys news (by rw [← hij]; exact hI)
  | succ j ih =>
    intro i ys news hij hI
    refine .succ fun v I oI C oC D m₂ h tk E' hP hC hx F N off ne => wpAny_mono (turn i ys news (by omega) hI v I oI C oC D m₂ h tk E' hP hC hx F N off ne) (fun y s' z => ?_) fun _ _ z => z
    exact compEnd_mono z fun news' q => ih (i + 1) (ys ++ [y]) news' (by omega) q
end
end Mine
end
section
open PySem PySem.W PyProof.Rows PySem.Builtin PySem.Builtin.Str
set_option Elab.async false
namespace Mine
/-- the signs of a text -/
abbrev sg (x : Str) : List Nat := x.cps.toList
theorem sg_app (a b : Str) : sg (a ++ b) = sg a ++ sg b := by show (a.cps ++ b.cps).toList = _; rw [Array.toList_append]
theorem sg_inj {a b : Str} (h : sg a = sg b) : a = b := Str.ext' (Array.toList_inj.mp h)
theorem app_inj {c : Nat} : ∀ {p q P Q : List Nat}, p ++ c :: P = q ++ c :: Q → c ∉ p → c ∉ q → p = q ∧ P = Q
  | [], [], _, _, h, _, _ => by simp at h; exact ⟨rfl, h⟩
  | [], y :: q, P, Q, h, _, hq => by simp at h; exact absurd (by rw [h.1]; exact .head _) hq
  | x :: p, [], P, Q, h, hp, _ => by simp at h; exact absurd (by rw [h.1]; exact .head _) hp
  | x :: p, y :: q, P, Q, h, hp, hq => by
    simp at h
    obtain ⟨e1, e2⟩ := app_inj h.2 (fun m => hp (.tail _ m)) (fun m => hq (.tail _ m))
    exact ⟨by rw [h.1, e1], e2⟩
theorem join_two (sep x y : Str) (r : List Str) : Str.join sep (x :: y :: r) = x ++ sep ++ Str.join sep (y :: r) := rfl
theorem join_inj {c : Nat} : ∀ {ps qs : List Str}, ps ≠ [] → qs ≠ [] → (∀ p ∈ ps, c ∉ sg p) → (∀ q ∈ qs, c ∉ sg q) → Str.join ⟨#[c]⟩ ps = Str.join ⟨#[c]⟩ qs → ps = qs
  | [], _, h, _, _, _, _ => absurd rfl h
  | _ :: _, [], _, h, _, _, _ => absurd rfl h
  | [p], [q], _, _, _, _, h => by have h' : p = q := h; rw [h']
  | [p], q :: q' :: r, _, _, hp, _, h => by
    have h' : p = q ++ ⟨#[c]⟩ ++ Str.join ⟨#[c]⟩ (q' :: r) := h
    refine absurd ?_ (hp p (.head _))
    rw [h', sg_app, sg_app]; simp
  | p :: p' :: r, [q], _, _, _, hq, h => by
    have h' : p ++ ⟨#[c]⟩ ++ Str.join ⟨#[c]⟩ (p' :: r) = q := h
    refine absurd ?_ (hq q (.head _))
    rw [← h', sg_app, sg_app]; simp
  | p :: p' :: r, q :: q' :: r', _, _, hp, hq, h => by
    have h' : p ++ ⟨#[c]⟩ ++ Str.join ⟨#[c]⟩ (p' :: r) = q ++ ⟨#[c]⟩ ++ Str.join ⟨#[c]⟩ (q' :: r') := h
    have h2 := congrArg sg h'
    rw [sg_app, sg_app, sg_app, sg_app, List.append_assoc, List.append_assoc] at h2
    obtain ⟨e1, e2⟩ := app_inj (c := c) h2 (hp p (.head _)) (hq q (.head _))
    rw [sg_inj e1, join_inj (List.cons_ne_nil _ _) (List.cons_ne_nil _ _) (fun z hz => hp z (.tail _ hz)) (fun z hz => hq z (.tail _ hz)) (sg_inj e2)]
theorem split_join {c : Nat} {ps : List Str} (hn : ps ≠ []) (h : ∀ p ∈ ps, c ∉ sg p) : Txt.split (Str.join ⟨#[c]⟩ ps) ⟨#[c]⟩ = ps := by
  refine join_inj (c := c) (fun e => ?_) hn (StrLaws.split_free _ c) h (StrLaws.join_split _ _)
  have := split_pos (Str.join ⟨#[c]⟩ ps) ⟨#[c]⟩
  rw [e] at this; exact absurd this (by decide)
theorem split_two {c : Nat} {a b : Str} (ha : c ∉ sg a) (hb : c ∉ sg b) : Txt.split (a ++ ⟨#[c]⟩ ++ b) ⟨#[c]⟩ = [a, b] :=
  split_join (ps := [a, b]) (by simp) (by intro p hp; simp at hp; rcases hp with rfl | rfl <;> assumption)
theorem sub_toList (s : Str) (i j : Nat) : sg (strSub s i j) = ((sg s).drop i).take (j - i) := StrLaws.strSub_toList s i j
theorem splitMax_one {c : Nat} {a b : Str} (ha : c ∉ sg a) (hc : c < 256) : Txt.splitMax (a ++ ⟨#[c]⟩ ++ b) ⟨#[c]⟩ 1 = [a, b] := by
  have hx : sg (a ++ ⟨#[c]⟩ ++ b) = sg a ++ c :: sg b := by rw [sg_app, sg_app, List.append_assoc]; rfl
  generalize hX : a ++ ⟨#[c]⟩ ++ b = x at hx
  have hat : (sg x)[a.length]? = some c := by rw [hx, List.getElem?_append_right (by simp [Str.length])]; simp [Str.length]
  have hlen : x.length = a.length + 1 + b.length := by
    have := congrArg List.length hx
    simp [Str.length] at this ⊢; omega
  unfold Txt.splitMax
  have l1 : limitOf x 1 = 1 := rfl
  rw [l1]
  have k1 : Builtin.Str.strKind (⟨#[c]⟩ : Str) = 1 := by unfold Builtin.Str.strKind; simp [hc]
  have c1 : (decide (x.length < (⟨#[c]⟩ : Str).length) || decide (Builtin.Str.strKind x < Builtin.Str.strKind ⟨#[c]⟩)) = false := by
    rw [k1, Bool.or_eq_false_iff]
    constructor
    · rw [decide_eq_false_iff_not]; have e : (⟨#[c]⟩ : Str).length = 1 := rfl; rw [e, hlen]; omega
    · rw [decide_eq_false_iff_not]; unfold Builtin.Str.strKind; split <;> (try split) <;> omega
  rw [c1, if_neg (by decide)]
  have key : occurrences x ⟨#[c]⟩ 0 x.length 1 = [a.length] := by
    have hle := StrLaws.occ_length_le x ⟨#[c]⟩ 0 x.length 1
    rcases StrLaws.occ_head x ⟨#[c]⟩ 1 (Nat.le_refl 1) with ⟨_, hn⟩ | ⟨i, r, h0, hi, hn⟩
    · exact absurd ((StrLaws.subAt_one x c a.length).mpr hat) (hn _)
    · rw [h0] at hle ⊢
      have hr : r = [] := by cases r with
        | nil => rfl
        | cons y z => simp at hle
      subst hr
      have hi' := (StrLaws.subAt_one x c i).mp hi
      have e : i = a.length := by
        rcases Nat.lt_trichotomy i a.length with q | q | q
        · exfalso
          have hi2 : (sg x)[i]? = some c := hi'
          rw [hx, List.getElem?_append_left (by simpa [Str.length] using q)] at hi2
          exact ha (List.mem_of_getElem? hi2)
        · exact q
        · exact absurd ((StrLaws.subAt_one x c a.length).mpr hat) (hn _ q)
      rw [e]
  rw [key, if_neg (by simp), StrLaws.partsBetween_eq]
  show [strSub x 0 a.length, strSub x (a.length + 1) x.length] = [a, b]
  have e1 : strSub x 0 a.length = a := sg_inj (by rw [sub_toList, hx]; simp [Str.length])
  have e2 : strSub x (a.length + 1) x.length = b := sg_inj (by
    rw [sub_toList, hx, hlen]
    have e : (sg a ++ c :: sg b).drop (a.length + 1) = sg b := by
      rw [show sg a ++ c :: sg b = (sg a ++ [c]) ++ sg b by simp, List.drop_left' (by simp [Str.length])]
    rw [e]
    exact List.take_of_length_le (by simp [Str.length]))
  rw [e1, e2]
/-- no blank at either end -/
def Tight (l : List Nat) : Prop := (∀ c, l.head? = some c → Unicode.isSpace c = false) ∧ (∀ c, l.getLast? = some c → Unicode.isSpace c = false)
theorem strip_eq (x : Str) : sg (Txt.strip x) = (((sg x).dropWhile Unicode.isSpace).reverse.dropWhile Unicode.isSpace).reverse := by
  have dw : ∀ (p : Nat → Bool) (l : List Nat), l.dropWhile p = l.drop (l.takeWhile p).length := fun p l => by
    induction l with
    | nil => rfl
    | cons y r ih => by_cases hy : p y = true
                     · rw [List.dropWhile_cons_of_pos hy, List.takeWhile_cons_of_pos hy]; simpa using ih
                     · rw [List.dropWhile_cons_of_neg hy, List.takeWhile_cons_of_neg hy]; rfl
  unfold Txt.strip
  rw [PyProof.Rows.stripBy_eq, sub_toList]
  simp only [stripLo, stripHi, if_true]
  rw [dw, dw]
  generalize hl : ((sg x).takeWhile Unicode.isSpace).length = lo
  rw [List.drop_reverse, List.reverse_reverse]
  congr 1
  have h2 : lo ≤ (sg x).length := by rw [← hl]; exact (List.takeWhile_sublist _).length_le
  simp [Str.length] at h2 ⊢
  rw [Nat.sub_right_comm]
theorem tight_strip {x y : Str} {pre post : List Nat} (ht : Tight (sg y)) (hx : sg x = pre ++ sg y ++ post) (h1 : ∀ c ∈ pre, Unicode.isSpace c = true) (h2 : ∀ c ∈ post, Unicode.isSpace c = true) : Txt.strip x = y := by
  apply sg_inj
  rw [strip_eq, hx]
  have dwp : ∀ (l r : List Nat), (∀ c ∈ l, Unicode.isSpace c = true) → (l ++ r).dropWhile Unicode.isSpace = r.dropWhile Unicode.isSpace := fun l r h => by
    induction l with
    | nil => rfl
    | cons y l ih => rw [List.cons_append, List.dropWhile_cons_of_pos (h y (.head _)), ih fun c hc => h c (.tail _ hc)]
  rw [List.append_assoc, dwp _ _ h1]
  generalize sg y = Y at ht
  cases Y with
  | nil =>
    rw [List.nil_append]
    have : post.dropWhile Unicode.isSpace = [] := by have := dwp post [] h2; simpa using this
    rw [this]; rfl
  | cons c l =>
    have hc := ht.1 c rfl
    rw [List.cons_append, List.dropWhile_cons_of_neg (by simp [hc]), ← List.cons_append, List.reverse_append, dwp _ _ fun z hz => h2 z (List.mem_reverse.mp hz)]
    cases hr : (c :: l).reverse with
    | nil => simp at hr
    | cons d m =>
      have hd : (c :: l).getLast? = some d := by rw [← List.head?_reverse, hr]; rfl
      rw [List.dropWhile_cons_of_neg (by simp [ht.2 d hd]), ← hr, List.reverse_reverse]
end Mine
end
section
open PySem PySem.W PyProof.Rows PySem.Builtin PySem.Builtin.Str
set_option Elab.async false
namespace Mine
/-- the lines as they first come -/
def linesOf (ms : List Mark) : List Int := ms.foldl (fun ls m => if m.1 ∈ ls then ls else ls ++ [m.1]) []
def groupOf (ms : List Mark) : Says := (linesOf ms).map fun k => (k, underOf ms k)
def flatOf (ps : Says) : List Mark := ps.flatMap fun p => p.2.map fun it => (p.1, it)
theorem linesOf_snoc (ms : List Mark) (m : Mark) : linesOf (ms ++ [m]) = if m.1 ∈ linesOf ms then linesOf ms else linesOf ms ++ [m.1] := by unfold linesOf; rw [List.foldl_append]; rfl
theorem underOf_snoc (ms : List Mark) (m : Mark) (k : Int) : underOf (ms ++ [m]) k = underOf ms k ++ (if m.1 = k then [m.2] else []) := by
  unfold underOf
  rw [List.filter_append, List.map_append]
  by_cases e : m.1 = k <;> simp [e]
theorem snoc_ind {α : Type} {P : List α → Prop} (h0 : P []) (h1 : ∀ l x, P l → P (l ++ [x])) : ∀ l, P l := by
  have : ∀ l : List α, P l.reverse := fun l => by
    induction l with
    | nil => exact h0
    | cons x l ih => rw [List.reverse_cons]; exact h1 _ _ ih
  intro l
  have := this l.reverse
  rwa [List.reverse_reverse] at this
theorem linesOf_nodup (ms : List Mark) : (linesOf ms).Nodup := by
  refine snoc_ind (P := fun ms => (linesOf ms).Nodup) ?_ ?_ ms
  · exact List.nodup_nil
  · intro l x ih
    rw [linesOf_snoc]
    split
    · exact ih
    · rename_i hx
      rw [List.nodup_append]
      refine ⟨ih, by simp, fun a ha b hb => ?_⟩
      simp at hb; subst hb
      exact fun e => hx (e ▸ ha)
theorem mem_linesOf (ms : List Mark) (k : Int) : k ∈ linesOf ms ↔ underOf ms k ≠ [] := by
  refine snoc_ind (P := fun ms => k ∈ linesOf ms ↔ underOf ms k ≠ []) ?_ ?_ ms
  · simp [linesOf, underOf]
  · intro l x ih
    rw [linesOf_snoc, underOf_snoc]
    by_cases e : x.1 = k
    · subst e
      simp
      split
      · assumption
      · simp
    · rw [if_neg e, List.append_nil, ← ih]
      split
      · rfl
      · simp [Ne.symm e]
theorem not_line {ms : List Mark} {k : Int} (h : k ∉ linesOf ms) : underOf ms k = [] := by
  by_cases e : underOf ms k = []
  · exact e
  · exact absurd ((mem_linesOf ms k).mpr e) h
theorem any_group (ms : List Mark) (k : Int) : (groupOf ms).any (fun x => x.1 == k) = decide (k ∈ linesOf ms) := by
  unfold groupOf
  rw [Bool.eq_iff_iff, List.any_eq_true, decide_eq_true_eq]
  constructor
  · rintro ⟨x, hx, e⟩
    obtain ⟨k', hk, rfl⟩ := List.mem_map.mp hx
    have : k' = k := by simpa using e
    exact this ▸ hk
  · intro h
    exact ⟨_, List.mem_map_of_mem h, by simp⟩
theorem book_group (ms : List Mark) : bookOf ms = groupOf ms := by
  refine snoc_ind (P := fun ms => bookOf ms = groupOf ms) rfl ?_ ms
  intro l x ih
  rw [bookOf_snoc, ih]
  unfold putS
  rw [any_group]
  have mp : ∀ ls : List Int, ((ls.map fun k => (k, underOf l k)).map fun y => if y.1 = x.1 then (y.1, y.2 ++ [x.2]) else y) = ls.map fun k => (k, underOf (l ++ [x]) k) := fun ls => by
    rw [List.map_map]
    refine List.map_congr_left fun k _ => ?_
    show (if k = x.1 then (k, underOf l k ++ [x.2]) else (k, underOf l k)) = (k, underOf (l ++ [x]) k)
    rw [underOf_snoc]
    by_cases e : k = x.1
    · rw [if_pos e, if_pos e.symm]
    · rw [if_neg e, if_neg (Ne.symm e), List.append_nil]
  unfold groupOf
  rw [linesOf_snoc]
  by_cases h : x.1 ∈ linesOf l
  · simp only [h, decide_true, if_true]
    exact mp _
  · simp only [h, decide_false, if_false, Bool.false_eq_true]
    have : (List.map (fun k => (k, underOf l k)) (linesOf l) ++ [(x.1, [])]) = (linesOf l ++ [x.1]).map fun k => (k, underOf l k) := by rw [List.map_append, List.map_cons, List.map_nil, not_line h]
    rw [this]
    exact mp _
/-- writing a book out and reading it -/
theorem underOf_append (a b : List Mark) (k : Int) : underOf (a ++ b) k = underOf a k ++ underOf b k := by unfold underOf; rw [List.filter_append, List.map_append]
theorem under_tag (k k' : Int) (its : List (Int × Str)) : underOf (its.map fun it => (k, it)) k' = if k = k' then its else [] := by
  unfold underOf
  by_cases e : k = k'
  · subst e
    rw [if_pos rfl]
    induction its with
    | nil => rfl
    | cons x l ih => simp at ih ⊢; exact ih
  · rw [if_neg e]
    induction its with
    | nil => rfl
    | cons x l ih => rw [List.map_cons, List.filter_cons_of_neg (by simp [e])]; exact ih
theorem under_flat {ls : List Int} {f : Int → List (Int × Str)} {k : Int} (hn : ls.Nodup) : underOf (flatOf (ls.map fun k => (k, f k))) k = if k ∈ ls then f k else [] := by
  induction ls with
  | nil => rfl
  | cons a l ih =>
    rw [List.nodup_cons] at hn
    have e : flatOf ((a :: l).map fun k => (k, f k)) = ((f a).map fun it => (a, it)) ++ flatOf (l.map fun k => (k, f k)) := by simp [flatOf]
    rw [e, underOf_append, under_tag, ih hn.2]
    by_cases h : a = k
    · subst h
      rw [if_pos rfl, if_neg hn.1, List.append_nil, if_pos (.head _)]
    · rw [if_neg h, List.nil_append]
      by_cases h2 : k ∈ l
      · rw [if_pos h2, if_pos (.tail _ h2)]
      · rw [if_neg h2, if_neg (by simp [h2, Ne.symm h])]
theorem under_group (ms : List Mark) (k : Int) : underOf (flatOf (groupOf ms)) k = underOf ms k := by
  unfold groupOf
  rw [under_flat (linesOf_nodup ms)]
  by_cases h : k ∈ linesOf ms
  · rw [if_pos h]
  · rw [if_neg h, not_line h]
theorem linesOf_tag {ls : List Mark} {k : Int} (hk : k ∉ linesOf ls) : ∀ its : List (Int × Str), linesOf (ls ++ its.map fun it => (k, it)) = linesOf ls ++ if its = [] then [] else [k] := by
  intro its
  refine snoc_ind (P := fun its => linesOf (ls ++ its.map fun it => (k, it)) = linesOf ls ++ if its = [] then [] else [k]) (by simp) ?_ its
  intro l x ih
  rw [List.map_append, List.map_cons, List.map_nil, ← List.append_assoc, linesOf_snoc, ih]
  cases l with
  | nil => simp [hk]
  | cons a l => simp
theorem lines_flat {ls : List Int} {f : Int → List (Int × Str)} (hn : ls.Nodup) : linesOf (flatOf (ls.map fun k => (k, f k))) = ls.filter (fun k => f k ≠ []) := by
  revert hn
  refine snoc_ind (P := fun ls => ls.Nodup → linesOf (flatOf (ls.map fun k => (k, f k))) = ls.filter (fun k => f k ≠ [])) ?_ ?_ ls
  · intro _; rfl
  · intro l a ih hn
    rw [List.nodup_append] at hn
    have e : flatOf ((l ++ [a]).map fun k => (k, f k)) = flatOf (l.map fun k => (k, f k)) ++ ((f a).map fun it => (a, it)) := by simp [flatOf]
    have ih' := ih hn.1
    have ha : a ∉ linesOf (flatOf (l.map fun k => (k, f k))) := by
      rw [ih']
      intro h
      exact hn.2.2 a (List.mem_filter.mp h).1 a (.head _) rfl
    rw [e, linesOf_tag ha, ih', List.filter_append]
    congr 1
    by_cases h : f a = [] <;> simp [h]
theorem book_flat {ls : List Int} {f : Int → List (Int × Str)} (hn : ls.Nodup) : bookOf (flatOf (ls.map fun k => (k, f k))) = (ls.map fun k => (k, f k)).filter (fun p => 0 < p.2.length) := by
  rw [book_group]
  unfold groupOf
  rw [lines_flat hn, List.filter_map]
  have e : ∀ k ∈ ls.filter (fun k => f k ≠ []), (k, underOf (flatOf (ls.map fun k => (k, f k))) k) = (k, f k) := fun k hk => by
    rw [under_flat hn, if_pos (List.mem_filter.mp hk).1]
  rw [List.map_congr_left e]
  congr 1
  refine List.filter_congr fun k _ => ?_
  show decide (f k ≠ []) = decide (0 < (f k).length)
  cases f k <;> simp
theorem book_again (ms : List Mark) : bookOf (flatOf (groupOf ms)) = groupOf ms := by
  show bookOf (flatOf ((linesOf ms).map fun k => (k, underOf ms k))) = _
  rw [book_flat (linesOf_nodup ms)]
  refine List.filter_eq_self.mpr fun p hp => ?_
  obtain ⟨k, hk, rfl⟩ := List.mem_map.mp hp
  have := (mem_linesOf ms k).mp hk
  show decide (0 < (underOf ms k).length) = true
  rw [decide_eq_true_eq]
  exact List.length_pos_iff.mpr this
end Mine
end
section
open PySem PySem.W PyProof.Rows
set_option Elab.async false
set_option maxRecDepth 100000
namespace Mine
theorem sep_dot : Str.ofString "." = ⟨#[46]⟩ := by decide +kernel
theorem sep_nl : Str.ofString "\n" = ⟨#[10]⟩ := by decide +kernel
theorem sep_eq : Str.ofString "=" = ⟨#[61]⟩ := by decide +kernel
theorem sep_eqs : Str.ofString " = " = ⟨#[32]⟩ ++ (⟨#[61]⟩ ++ ⟨#[32]⟩) := by decide +kernel
abbrev numT (n : Int) : Str := Str.ofString (toString n)
/-- a row of the text: line.col = word -/
def rowText (m : Mark) : Str := numT m.1 ++ Str.ofString "." ++ numT m.2.1 ++ Str.ofString " = " ++ m.2.2
def okWord (w : Str) : Bool := (sg w).head?.all (fun c => !Unicode.isSpace c) && (sg w).getLast?.all (fun c => !Unicode.isSpace c) && (sg w).all (fun c => c != 10 && decide (c < 128)) && decide (w.length ≤ 3)
structure GoodMark (m : Mark) : Prop where
  line : 0 ≤ m.1 ∧ m.1 < 10 ^ 10
  col : 0 ≤ m.2.1 ∧ m.2.1 < 10 ^ 10
  word : okWord m.2.2 = true
theorem num_digits {n : Int} (h0 : 0 ≤ n) : ∀ c ∈ sg (numT n), 48 ≤ c ∧ c ≤ 57 := by
  obtain ⟨m, rfl⟩ := Int.eq_ofNat_of_zero_le h0
  intro c hc
  rw [show sg (numT ((m : Nat) : Int)) = _ from PySem.W.KIN.signs_num m] at hc
  obtain ⟨ch, hch, e⟩ := List.mem_map.mp hc
  have r := digit_range (Nat.isDigit_of_mem_toDigits (by decide) (by decide) hch)
  rw [← e]
  exact r
theorem num_ne {n : Int} (h0 : 0 ≤ n) : sg (numT n) ≠ [] := by
  obtain ⟨m, rfl⟩ := Int.eq_ofNat_of_zero_le h0
  rw [show sg (numT ((m : Nat) : Int)) = _ from PySem.W.KIN.signs_num m]
  intro e
  have h : 0 < (Nat.toDigits 10 m).length := toDigits_len_ge 10 m
  rw [List.map_eq_nil_iff.mp e] at h
  exact absurd h (by decide)
theorem num_len {n : Int} (h0 : 0 ≤ n) (h : n < 10 ^ 10) : (numT n).length ≤ 10 := PySem.W.KT.len_num h0 h
theorem digit_no_space : ∀ c : Nat, c ≤ 57 → 48 ≤ c → Unicode.isSpace c = false := by decide +kernel
section
variable {m : Mark} (G : GoodMark m)
include G
theorem word_tight : Tight (sg m.2.2) ∧ (10 ∉ sg m.2.2) ∧ m.2.2.length ≤ 3 := by
  have h := G.word
  unfold okWord at h
  rw [Bool.and_eq_true, Bool.and_eq_true, Bool.and_eq_true, decide_eq_true_eq] at h
  obtain ⟨⟨⟨h1, h2⟩, h3⟩, h4⟩ := h
  refine ⟨⟨fun c hc => ?_, fun c hc => ?_⟩, fun hm => ?_, h4⟩
  · rw [hc] at h1; simpa using h1
  · rw [hc] at h2; simpa using h2
  · have := List.all_eq_true.mp h3 10 hm; simp at this
theorem word_ascii : PyData.strOk m.2.2 = true := by
  have h := G.word
  unfold okWord at h
  rw [Bool.and_eq_true, Bool.and_eq_true, Bool.and_eq_true] at h
  unfold PyData.strOk
  rw [← Array.all_toList, List.all_eq_true]
  intro c hc
  have := List.all_eq_true.mp h.1.2 c hc
  rw [Bool.and_eq_true, decide_eq_true_eq] at this
  rw [decide_eq_true_eq]
  omega
theorem row_split : Txt.splitMax (rowText m) (Str.ofString "=") 1 = [numT m.1 ++ Str.ofString "." ++ numT m.2.1 ++ ⟨#[32]⟩, ⟨#[32]⟩ ++ m.2.2] := by
  have e : rowText m = (numT m.1 ++ Str.ofString "." ++ numT m.2.1 ++ ⟨#[32]⟩) ++ ⟨#[61]⟩ ++ (⟨#[32]⟩ ++ m.2.2) := by
    unfold rowText
    rw [sep_eqs]
    simp only [Str.append_assoc]
  rw [e, sep_eq]
  refine splitMax_one (fun hm => ?_) (by decide)
  rw [sg_app, sg_app, sg_app, sep_dot] at hm
  simp only [List.mem_append] at hm
  rcases hm with ((hm | hm) | hm) | hm
  · have := num_digits G.line.1 _ hm; omega
  · simp at hm
  · have := num_digits G.col.1 _ hm; omega
  · simp at hm
theorem row_name : Txt.strip (numT m.1 ++ Str.ofString "." ++ numT m.2.1 ++ ⟨#[32]⟩) = numT m.1 ++ Str.ofString "." ++ numT m.2.1 := by
  refine tight_strip (pre := []) (post := [32]) ⟨fun c hc => ?_, fun c hc => ?_⟩ (by rw [sg_app _ ⟨#[32]⟩]; rfl) (by simp) (by intro c hc; simp at hc; subst hc; decide +kernel)
  · rw [sg_app, sg_app] at hc
    obtain ⟨d, l, e⟩ := List.exists_cons_of_ne_nil (num_ne G.line.1)
    rw [e] at hc
    simp at hc
    subst hc
    have := num_digits G.line.1 d (by rw [e]; exact .head _)
    exact digit_no_space _ this.2 this.1
  · rw [sg_app, List.getLast?_append] at hc
    have hn := num_ne G.col.1
    have e := List.getLast?_eq_some_getLast hn
    rw [e, Option.some_or] at hc
    have hm := List.getLast_mem hn
    rw [Option.some.inj hc] at hm
    have := num_digits G.col.1 _ hm
    exact digit_no_space _ this.2 this.1
theorem row_word : Txt.strip (⟨#[32]⟩ ++ m.2.2) = m.2.2 :=
  tight_strip (pre := [32]) (post := []) (word_tight G).1 (by rw [sg_app, List.append_nil]) (by intro c hc; simp at hc; subst hc; decide +kernel) (by simp)
theorem row_place : Txt.split (numT m.1 ++ Str.ofString "." ++ numT m.2.1) (Str.ofString ".") = [numT m.1, numT m.2.1] := by
  rw [sep_dot]
  exact split_two (fun h => by have := num_digits G.line.1 _ h; omega) (fun h => by have := num_digits G.col.1 _ h; omega)
theorem row_ints : PySem.intText? (numT m.1) = some m.1 ∧ PySem.intText? (numT m.2.1) = some m.2.1 :=
  ⟨PySem.W.KIN.num_reads G.line.1 G.line.2, PySem.W.KIN.num_reads G.col.1 G.col.2⟩
theorem row_len : (rowText m).length ≤ 30 ∧ 1 ≤ (rowText m).length := by
  have h1 := num_len G.line.1 G.line.2
  have h2 := num_len G.col.1 G.col.2
  have h3 := (word_tight G).2.2
  have d : (Str.ofString ".").length = 1 := by decide +kernel
  have e : (Str.ofString " = ").length = 3 := by decide +kernel
  unfold rowText
  simp only [Str.length_append, d, e]
  omega
theorem name_len : (numT m.1 ++ Str.ofString "." ++ numT m.2.1).length ≤ 30 := by
  have h1 := num_len G.line.1 G.line.2
  have h2 := num_len G.col.1 G.col.2
  have d : (Str.ofString ".").length = 1 := by decide +kernel
  simp only [Str.length_append, d]
  omega
theorem row_nl : 10 ∉ sg (rowText m) := by
  unfold rowText
  rw [sg_app, sg_app, sg_app, sg_app, sep_dot]
  intro hm
  simp only [List.mem_append] at hm
  rcases hm with (((hm | hm) | hm) | hm) | hm
  · have := num_digits G.line.1 _ hm; omega
  · simp at hm
  · have := num_digits G.col.1 _ hm; omega
  · exact absurd hm (by decide +kernel)
  · exact (word_tight G).2.1 hm
end
def textOf (rs : List Mark) : Str := Str.join (Str.ofString "\n") (rs.map rowText)
def piecesOf (rs : List Mark) : List Str := if rs = [] then [Str.ofString ""] else rs.map rowText
theorem text_split {rs : List Mark} (h : ∀ m ∈ rs, GoodMark m) : Txt.split (textOf rs) (Str.ofString "\n") = piecesOf rs := by
  unfold textOf piecesOf
  rw [sep_nl]
  split
  · rename_i e; subst e; decide +kernel
  · rename_i e
    refine split_join (by simpa using e) fun p hp => ?_
    obtain ⟨m, hm, rfl⟩ := List.mem_map.mp hp
    exact row_nl (h m hm)
theorem text_len {rs : List Mark} (h : ∀ m ∈ rs, GoodMark m) : (textOf rs).length ≤ 40 * rs.length := by
  unfold textOf
  refine Nat.le_trans (PySem.StrLaws.join_length_le _ _) ?_
  have e : (Str.ofString "\n").length = 1 := by decide +kernel
  rw [e, List.length_map]
  have : ((rs.map rowText).map (·.length)).sum ≤ 30 * rs.length := by
    induction rs with
    | nil => simp
    | cons a l ih =>
      have := ih fun m hm => h m (.tail _ hm)
      have := (row_len (h a (.head _))).1
      simp only [List.map_cons, List.sum_cons, List.length_cons]
      omega
  omega
theorem word_ok : ∀ i : Nat, i < 64 → okWord (bareOf (Txt.item (Str.ofString "ab= ") ((i : Int).fdiv 16) ++ Txt.item (Str.ofString "ab= ") (((i : Int).fdiv 4).fmod 4) ++ Txt.item (Str.ofString "ab= ") ((i : Int).fmod 4))) = true := by decide +kernel
theorem mark_good (n : Int) : GoodMark (markOf n) := by
  refine ⟨⟨?_, ?_⟩, ⟨?_, ?_⟩, ?_⟩
  · show 0 ≤ 1 + n.fmod 4
    rw [Int.fmod_eq_emod_of_nonneg _ (by decide)]; omega
  · show 1 + n.fmod 4 < 10 ^ 10
    rw [Int.fmod_eq_emod_of_nonneg _ (by decide)]; omega
  · show 0 ≤ (n.fdiv 4).fmod 10000000000
    rw [Int.fmod_eq_emod_of_nonneg _ (by decide)]; omega
  · show (n.fdiv 4).fmod 10000000000 < 10 ^ 10
    rw [Int.fmod_eq_emod_of_nonneg _ (by decide)]; omega
  · show okWord (bareOf (wordOf n)) = true
    unfold wordOf
    have h : 0 ≤ (n.fdiv 7).fmod 64 ∧ (n.fdiv 7).fmod 64 < 64 := by
      rw [Int.fmod_eq_emod_of_nonneg _ (by decide)]; omega
    generalize (n.fdiv 7).fmod 64 = z at h
    obtain ⟨i, rfl⟩ := Int.eq_ofNat_of_zero_le h.1
    exact word_ok i (by omega)
theorem flat_good {ps : Says} (h : ∀ p ∈ ps, ∀ it ∈ p.2, GoodMark (p.1, it)) : ∀ m ∈ flatOf ps, GoodMark m := by
  intro m hm
  obtain ⟨p, hp, h2⟩ := List.mem_flatMap.mp hm
  obtain ⟨it, hi, rfl⟩ := List.mem_map.mp h2
  exact h p hp it hi
theorem under_mem {ms : List Mark} {k : Int} {it : Int × Str} (h : it ∈ underOf ms k) : (k, it) ∈ ms := by
  unfold underOf at h
  obtain ⟨m, hm, rfl⟩ := List.mem_map.mp h
  obtain ⟨h1, h2⟩ := List.mem_filter.mp hm
  have e : m.1 = k := by simpa using h2
  rw [← e]; exact h1
end Mine
end
section
open PySem PySem.W PyProof.Rows PySem.Spec
set_option Elab.async false
set_option maxRecDepth 100000
set_option maxHeartbeats 2000000
namespace Mine
section
variable {prog : Program} {w : World} {A : Around} {E : Value → Shared → Prop} {s : Shared} {env : Env} {h₀ : Heap} {x : Str} {body : List Stmt} {Q : Flow → Shared → Prop}
theorem iter_JC {l : Addr} {vs : List Value} {m₀ : Str → Option Value} {news : List (Addr × Obj)} (J : Nat → (Str → Option Value) → List (Addr × Obj) → Prop)
    (hni : ∀ i m n, J i m n → ∀ p ∈ n, p.2.cls ≠ .type "list_iterator" ∨ ∃ c, p.2.data = .cell c)
    (hh : A.handled = none) (hl : s.heap.IsList l vs.toArray) (hL : l ≠ env.locals) (F : Fr h₀ env.locals s.heap m₀) (N : News h₀ env.locals s.heap news) (h0 : J 0 m₀ news)
    (turn : ∀ i v m₁ news₁ s₁ own, vs[i]? = some v → J i m₁ news₁ → (∀ p ∈ own, p.1 = l ∨ ((∀ q ∈ news₁, q.1 ≠ p.1) ∧ p.2.cls = .type "list_iterator")) → Fr h₀ env.locals s₁.heap (fun y => if y = x then some v else m₁ y) → News h₀ env.locals s₁.heap (own ++ news₁) →
      wpAny (model prog w) A (execs body env) (TurnJ h₀ env.locals own (J (i + 1)) s₁) E s₁)
    (done : ∀ m' news' h tk, Fr h₀ env.locals h m' → News h₀ env.locals h news' → J vs.length m' news' → Q .next { s with heap := h, toks := tk }) :
    wpAny (model prog w) A (pyIter (.ref l)) (fun it s₂ => LoopAtU prog w A h₀ env x body Q E it s₂) E s := by
  obtain ⟨ol, hol, hlc⟩ := id hl
  have hlt : l < s.heap.objs.size := Heap.lt_size hol
  have hne : l ≠ s.heap.objs.size := Nat.ne_of_lt hlt
  have hLt := F.ns.lt
  refine wpAny_pyIter_list hl ?_
  have W := Walks.list (prog := prog) (w := w) hh s.heap.objs.size l hne vs.toArray
  have hlen : vs.toArray.size = vs.length := by simp
  rw [hlen] at W
  refine ⟨_, _, _, vs.length, _, _, m₀, news, J, rfl, W, ?_, ?_, ?_, ⟨⟨_, Heap.get?_push_size _ rfl, rfl, rfl⟩, hl.at fun o e => Heap.get?_push_of_some _ e⟩, F.push _, (fun p hp => ⟨Heap.get?_push_of_some _ (N p hp).1, (N p hp).2⟩), h0, ?_, ?_⟩
  · intro hm
    rcases List.mem_cons.mp hm with e | hm
    · exact absurd hLt (e ▸ Nat.lt_irrefl _)
    · exact hL (List.mem_singleton.mp hm).symm
  · intro b hb
    rw [List.mem_singleton.mp hb]
    exact next_is_new F
  · intro p hp hI
    exact absurd (Heap.lt_size (N p hp).1) ((List.mem_singleton.mp hI) ▸ Nat.lt_irrefl _)
  · rintro i v m₁ news₁ s₁ own hin hP hJ hoff hfp hat hown hSt F₁ N₁
    have hx : vs[i]? = some v := by simpa using hP
    obtain ⟨⟨oi, hoi, hic, hid⟩, _⟩ := hSt
    have hmem := hown s.heap.objs.size (.head _) (next_is_new F) oi hoi
    have ho : ∀ p ∈ own, p.1 = l ∨ ((∀ q ∈ news₁, q.1 ≠ p.1) ∧ p.2.cls = .type "list_iterator") := fun p hp => by
      rcases List.mem_cons.mp (hfp p hp) with e | e
      · refine .inr ⟨fun q hq z => hoff q hq (by rw [z, e]; exact .head _), ?_⟩
        have e2 := hat p hp
        rw [e, hoi] at e2
        rw [← Option.some.inj e2]; exact hic
      · exact .inl (List.mem_singleton.mp e)
    refine wpAny_mono (turn i v m₁ news₁ s₁ own hx hJ ho F₁ N₁) (fun f s₂ p => ?_) fun _ _ e => e
    obtain ⟨rfl, h', tk, m', news', rfl, F', N', hJ'⟩ := p
    refine ⟨rfl, h', tk, m', news', rfl, F', N', fun p hp hI => ?_, hJ'⟩
    have e1 := (N' p (List.mem_append_right _ hp)).1
    have e2 := (N' _ (List.mem_append_left _ hmem)).1
    rw [List.mem_singleton.mp hI, e2] at e1
    rcases hni _ _ _ hJ' p hp with z | ⟨c, z⟩
    · exact z (by rw [← Option.some.inj e1]; exact hic)
    · rw [← Option.some.inj e1, hid] at z; cases z
  · rintro h' tk m' news' F' N' _ hJ
    exact done m' news' h' tk F' N' hJ
theorem iter_JK {l : Addr} {vs : List Value} {m₀ : Str → Option Value} {news : List (Addr × Obj)} (keep : List (Addr × Obj)) (J : Nat → (Str → Option Value) → List (Addr × Obj) → Prop)
    (hni : ∀ i m n, J i m n → ∀ p ∈ n, p.2.cls ≠ .type "list_iterator" ∨ ∃ c, p.2.data = .cell c)
    (hh : A.handled = none) (hl : s.heap.IsList l vs.toArray) (hL : l ≠ env.locals) (F : Fr h₀ env.locals s.heap m₀) (N : News h₀ env.locals s.heap (keep ++ news)) (h0 : J 0 m₀ news)
    (turn : ∀ i v m₁ news₁ s₁ own, vs[i]? = some v → J i m₁ news₁ → (∀ p ∈ own, p ∈ keep ∨ p.1 = l ∨ ((∀ q ∈ news₁, q.1 ≠ p.1) ∧ p.2.cls = .type "list_iterator")) → Fr h₀ env.locals s₁.heap (fun y => if y = x then some v else m₁ y) → News h₀ env.locals s₁.heap (own ++ news₁) →
      wpAny (model prog w) A (execs body env) (TurnJ h₀ env.locals own (J (i + 1)) s₁) E s₁)
    (done : ∀ m' news' h tk, Fr h₀ env.locals h m' → News h₀ env.locals h (keep ++ news') → J vs.length m' news' → Q .next { s with heap := h, toks := tk }) :
    wpAny (model prog w) A (pyIter (.ref l)) (fun it s₂ => LoopAtU prog w A h₀ env x body Q E it s₂) E s := by
  obtain ⟨ol, hol, hlc⟩ := id hl
  have hlt : l < s.heap.objs.size := Heap.lt_size hol
  have hne : l ≠ s.heap.objs.size := Nat.ne_of_lt hlt
  have hLt := F.ns.lt
  refine wpAny_pyIter_list hl ?_
  have W := Walks.list (prog := prog) (w := w) hh s.heap.objs.size l hne vs.toArray
  have hlen : vs.toArray.size = vs.length := by simp
  rw [hlen] at W
  have hkeep : ∀ p ∈ keep, p.1 ≠ s.heap.objs.size := fun p hp => Nat.ne_of_lt (Heap.lt_size (N p (List.mem_append_left _ hp)).1)
  refine ⟨_, _, _, vs.length, _, _, m₀, keep ++ news, (fun i m n => ∃ n', n = keep ++ n' ∧ J i m n'), rfl, W, ?_, ?_, ?_, ⟨⟨_, Heap.get?_push_size _ rfl, rfl, rfl⟩, hl.at fun o e => Heap.get?_push_of_some _ e⟩, F.push _, (fun p hp => ⟨Heap.get?_push_of_some _ (N p hp).1, (N p hp).2⟩), ⟨news, rfl, h0⟩, ?_, ?_⟩
  · intro hm
    rcases List.mem_cons.mp hm with e | hm
    · exact absurd hLt (e ▸ Nat.lt_irrefl _)
    · exact hL (List.mem_singleton.mp hm).symm
  · intro b hb
    rw [List.mem_singleton.mp hb]
    exact next_is_new F
  · intro p hp hI
    exact absurd (Heap.lt_size (N p hp).1) ((List.mem_singleton.mp hI) ▸ Nat.lt_irrefl _)
  · rintro i v m₁ _ s₁ own hin hP ⟨news₁, rfl, hJ⟩ hoff hfp hat hown hSt F₁ N₁
    have hx : vs[i]? = some v := by simpa using hP
    obtain ⟨⟨oi, hoi, hic, hid⟩, _⟩ := hSt
    have hmem := hown s.heap.objs.size (.head _) (next_is_new F) oi hoi
    have ho : ∀ p ∈ own ++ keep, p ∈ keep ∨ p.1 = l ∨ ((∀ q ∈ news₁, q.1 ≠ p.1) ∧ p.2.cls = .type "list_iterator") := fun p hp => by
      rcases List.mem_append.mp hp with hp | hp
      · rcases List.mem_cons.mp (hfp p hp) with e | e
        · refine .inr (.inr ⟨fun q hq z => hoff q (List.mem_append_right _ hq) (by rw [z, e]; exact .head _), ?_⟩)
          have e2 := hat p hp
          rw [e, hoi] at e2
          rw [← Option.some.inj e2]; exact hic
        · exact .inr (.inl (List.mem_singleton.mp e))
      · exact .inl hp
    rw [← List.append_assoc] at N₁
    refine wpAny_mono (turn i v m₁ news₁ s₁ (own ++ keep) hx hJ ho F₁ N₁) (fun f s₂ p => ?_) fun _ _ e => e
    obtain ⟨rfl, h', tk, m', news', rfl, F', N', hJ'⟩ := p
    rw [List.append_assoc] at N'
    refine ⟨rfl, h', tk, m', keep ++ news', rfl, F', N', fun p hp hI => ?_, ⟨news', rfl, hJ'⟩⟩
    rcases List.mem_append.mp hp with hp | hp
    · exact hkeep p hp (List.mem_singleton.mp hI)
    · have e1 := (N' p (List.mem_append_right _ (List.mem_append_right _ hp))).1
      have e2 := (N' _ (List.mem_append_left _ hmem)).1
      rw [List.mem_singleton.mp hI, e2] at e1
      rcases hni _ _ _ hJ' p hp with z | ⟨c, z⟩
      · exact z (by rw [← Option.some.inj e1]; exact hic)
      · rw [← Option.some.inj e1, hid] at z; cases z
  · rintro h' tk m' _ F' N' _ ⟨news', rfl, hJ⟩
    exact done m' news' h' tk F' N' hJ
end
end Mine
end
section
open PySem PySem.W PyProof.Rows PySem.Spec
open PyProof.Rows.LCg PyProof.Rows.LCt
set_option Elab.async false
set_option maxRecDepth 100000
set_option maxHeartbeats 8000000
namespace Mine
/-- pairs (line, list of items), their objects in a ledger -/
abbrev pairT (k : Int) (t : Tok) (b : Addr) : Obj := ⟨.type "tuple", none, .seq #[.int k t, .ref b] 0, #[]⟩
inductive PairsIn (news : List (Addr × Obj)) : List Value → Says → Prop
  | nil : PairsIn news [] []
  | snoc {pv ps a k ta b vs n its} : PairsIn news pv ps → (a, pairT k ta b) ∈ news → (b, listObj vs.toArray n) ∈ news → ItemsIn news vs its → PairsIn news (pv ++ [.ref a]) (ps ++ [(k, its)])
theorem PairsIn.mono {news news' : List (Addr × Obj)} {vs ms} (M : PairsIn news vs ms) (h : ∀ p ∈ news, p ∈ news') : PairsIn news' vs ms := by
  induction M with
  | nil => exact .nil
  | snoc _ h1 h2 h3 ih => exact .snoc ih (h _ h1) (h _ h2) (h3.mono h)
theorem PairsIn.length {news : List (Addr × Obj)} {vs ms} (M : PairsIn news vs ms) : vs.length = ms.length := by
  induction M with
  | nil => rfl
  | snoc _ _ _ _ ih => simp [ih]
def PairsAt (h : Heap) (l : Addr) (ps : Says) : Prop := ∃ vs n news, h.get? l = some (listObj vs.toArray n) ∧ PairsIn news vs ps ∧ ∀ p ∈ news, h.get? p.1 = some p.2
theorem MarksAt.keeps {h h' : Heap} {l : Addr} {ms} (M : MarksAt h l ms) (k : ∀ b o, h.get? b = some o → h'.get? b = some o) : MarksAt h' l ms := by
  obtain ⟨vs, n, news, h1, h2, h3⟩ := M
  exact ⟨vs, n, news, k _ _ h1, h2, fun p hp => k _ _ (h3 p hp)⟩
theorem PairsAt.keeps {h h' : Heap} {l : Addr} {ms} (M : PairsAt h l ms) (k : ∀ b o, h.get? b = some o → h'.get? b = some o) : PairsAt h' l ms := by
  obtain ⟨vs, n, news, h1, h2, h3⟩ := M
  exact ⟨vs, n, news, k _ _ h1, h2, fun p hp => k _ _ (h3 p hp)⟩
theorem linesOf_len (ms : List Mark) : (linesOf ms).length ≤ ms.length := by
  refine snoc_ind (P := fun ms => (linesOf ms).length ≤ ms.length) (Nat.le_refl _) ?_ ms
  intro l x ih
  rw [linesOf_snoc, List.length_append]
  split
  · exact Nat.le_succ_of_le ih
  · rw [List.length_append]; exact Nat.add_le_add_right ih 1
theorem ItemsNew.give {h₀ h : Heap} {l : Addr} {its} (I : ItemsNew h₀ h l its) : ∃ vs n nn, (∀ p ∈ nn, h.get? p.1 = some p.2 ∧ h₀.get? p.1 = none) ∧ (l, listObj vs.toArray n) ∈ nn ∧ ItemsIn nn vs its := by
  obtain ⟨vs, n, news, h1, h2, h3, h4⟩ := I
  refine ⟨vs, n, (l, listObj vs.toArray n) :: news, fun p hp => ?_, .head _, h3.mono fun p hp => .tail _ hp⟩
  rcases List.mem_cons.mp hp with rfl | hp
  · exact ⟨h1, h2⟩
  · exact h4 p hp
/-- the same, its objects made since another heap -/
def PairsNew (h₀ h : Heap) (l : Addr) (ps : Says) : Prop := ∃ vs n news, h.get? l = some (listObj vs.toArray n) ∧ h₀.get? l = none ∧ PairsIn news vs ps ∧ ∀ p ∈ news, h.get? p.1 = some p.2 ∧ h₀.get? p.1 = none
theorem PairsNew.at {h₀ h : Heap} {l : Addr} {ps : Says} (x : PairsNew h₀ h l ps) : PairsAt h l ps := by
  obtain ⟨vs, n, news, a, _, b, c⟩ := x
  exact ⟨vs, n, news, a, b, fun p hp => (c p hp).1⟩
theorem news_new {h₀ h h' : Heap} {L : Addr} {m} {news nn : List (Addr × Obj)} (F : Fr h₀ L h m) (N : News h₀ L h news) (x : Ext h h') (nw : ∀ p ∈ nn, h'.get? p.1 = some p.2 ∧ h.get? p.1 = none) : News h₀ L h' (nn ++ news) := by
  intro p hp
  rcases List.mem_append.mp hp with hp | hp
  · obtain ⟨e1, e2⟩ := nw p hp
    refine ⟨e1, fun e => ?_, ?_⟩
    · obtain ⟨oL, _, _, hL, _⟩ := F.ns
      rw [e, hL] at e2; cases e2
    · cases q : h₀.get? p.1 with
      | none => rfl
      | some o => have := F.keep _ _ q; rw [e2] at this; cases this
  · exact ⟨x _ _ (N p hp).1, (N p hp).2⟩
theorem news_mid {h₀ h h' : Heap} {L : Addr} {m} {pre tl nn : List (Addr × Obj)} (F : Fr h₀ L h m) (N : News h₀ L h (pre ++ tl)) (x : Ext h h') (nw : ∀ p ∈ nn, h'.get? p.1 = some p.2 ∧ h.get? p.1 = none) : News h₀ L h' (pre ++ (nn ++ tl)) := by
  intro p hp
  refine news_new F N x nw p ?_
  simp only [List.mem_append] at hp ⊢
  rcases hp with h | h | h
  · exact .inr (.inl h)
  · exact .inl h
  · exact .inr (.inr h)
theorem off_new {h₀ h : Heap} {L I C D : Addr} {oI oC oD : Obj} {news nn : List (Addr × Obj)} (N : News h₀ L h ((I, oI) :: (C, oC) :: (D, oD) :: news)) (off : Off3 I C D news) (nw : ∀ p ∈ nn, h.get? p.1 = none) : Off3 I C D (nn ++ news) := by
  refine Off3.of fun p hp => ?_
  rcases List.mem_append.mp hp with hp | hp
  · have e := nw p hp
    refine ⟨fun q => ?_, fun q => ?_, fun q => ?_⟩
    · rw [q, (N _ (.head _)).1] at e; cases e
    · rw [q, (N _ (.tail _ (.head _))).1] at e; cases e
    · rw [q, (N _ (.tail _ (.tail _ (.head _)))).1] at e; cases e
  · exact off.mem p hp
theorem comp_end2 {s₁ : Shared} {h₀ : Heap} {L : Addr} {m : Str → Option Value} {I C D t : Addr} {oI oC oD to : Obj} {S : List (Addr × Obj) → Prop} {rest : Value → List (Addr × Obj) → Prop} {h' : Heap} {tk : Nat} (pre : List (Addr × Obj)) {nn tl : List (Addr × Obj)} (F : Fr h₀ L h' m) (N : News h₀ L h' ((t, to) :: (I, oI) :: (C, oC) :: (D, oD) :: (pre ++ (nn ++ tl)))) (off : Off3 I C D (nn ++ (pre ++ tl))) (lt : @LT.lt Nat _ I t ∧ @LT.lt Nat _ C t ∧ @LT.lt Nat _ D t) (hS : S (pre ++ (t, to) :: (nn ++ tl))) (r : rest (.ref t) (pre ++ (t, to) :: (nn ++ tl))) :
    CompEnd h₀ L m s₁ I oI C oC D oD S rest (.ref t) { s₁ with heap := h', toks := tk } := by
  refine CompEnd.intro F N (pre ++ (t, to) :: (nn ++ tl)) (fun p hp => ?_) (Off3.of fun p hp => ?_) hS r
  · simp only [List.mem_cons, List.mem_append] at hp ⊢
    rcases hp with h | h | h | h | h | h | h
    · exact .inr (.inl h)
    · exact .inr (.inr (.inl h))
    · exact .inr (.inr (.inr (.inl h)))
    · exact .inr (.inr (.inr (.inr (.inl h))))
    · exact .inl h
    · exact .inr (.inr (.inr (.inr (.inr (.inl h)))))
    · exact .inr (.inr (.inr (.inr (.inr (.inr h)))))
  · rcases List.mem_append.mp hp with hp | hp
    · exact off.mem _ (List.mem_append_right _ (List.mem_append_left _ hp))
    · rcases List.mem_cons.mp hp with rfl | hp
      · exact ⟨Nat.ne_of_gt lt.1, Nat.ne_of_gt lt.2.1, Nat.ne_of_gt lt.2.2⟩
      · rcases List.mem_append.mp hp with hp | hp
        · exact off.mem _ (List.mem_append_left _ hp)
        · exact off.mem _ (List.mem_append_right _ (List.mem_append_right _ hp))
local macro_rules | `(tactic| k_room) => `(tactic| exact Nat.le_of_ble_eq_true rfl)
local macro_rules | `(tactic| walk_at "eval Name") => `(tactic| (k_here; (refine' ld ?k1 ?k2 ?_; (case k1 => k_asm); (case k2 => assumption); k_whole)))
local macro_rules | `(tactic| walk_at "subscriptTail") => `(tactic| (rename Fr _ _ _ _ => F9; (refine' sub3_0 ?hi ?ho ?hs ?_; (case hi => with_reducible rfl); (case ho => exact F9.keep _ _ (by assumption)); (case hs => rfl))))
local macro_rules | `(tactic| walk_at "eval ListComp") => `(tactic| (k_dflt (refine LCg.ListComp_U (F₀ := by k_asm) (by with_unfolding_all rfl) (by decide) (by rfl) (by decide) (by rfl) ?_)))
local macro_rules | `(tactic| walk_at "call ref") => `(tactic| (rename Fr _ _ _ _ => F8; rename News _ _ _ _ => N8; refine wpAny_call (up (under_ok (Frag.In.keeps (by with_reducible assumption) F8.keep) (Top.keeps (by with_reducible assumption) F8.keep) (MarksAt.keeps (by with_reducible assumption) F8.keep) (by with_reducible assumption) ?_) rfl (Nat.le_of_ble_eq_true rfl) rfl rfl (Nat.le_of_ble_eq_true rfl)); intro D8 h8 tk8 x8 I8; obtain ⟨vs8, n8, nn8, w8, m8, i8⟩ := I8.give; have off8 := off_new N8 (by with_reducible assumption) (fun p hp => (w8 p hp).2); have F9 := Fr.ext F8 x8; have N9 := news_mid (pre := [_, _, _, _, _]) F8 N8 x8 w8; simp only [List.cons_append, List.nil_append] at N9; clear F8 N8; (try dsimp only)))
set_option pp.deepTerms false
theorem group_ok {w : World} {l : List Env} {s : Shared} {R : Result → Shared → Prop} {p : Program} {loose : List Str} {mean : ExcName → Option Value} {mg mb : Str → Option Value} {S : Addr} {ms : List Mark}
    (X₁ : (KK w.params).In s.heap) (T : Top p loose mean mg mb s.heap) (hS : MarksAt s.heap S ms) (few : ms.length ≤ 8)
    (h : ∀ D h' tk, Ext s.heap h' → PairsAt h' D (groupOf ms) → R (.ok (.ret (.ref D))) { s with heap := h', toks := tk }) :
    codeAny (model PySem.Challenge.rw_in0185_02.row.prog w) (AA 330 2000 l) (.call (.ref 237) ⟨[.ref S], []⟩) R s := by
  have X₀ := K_of_KK X₁
  obtain ⟨vs, nS, mnews, hSo, hMi, hMn⟩ := id hS
  revert X₀; k_fill; intro X₀
  w_top off
  refine' enterPC X₀ T.nolimit ?k6 ?k7 ?k8 ?k9 ?kB ?kN ?_ ?c2 ?c3 ?c4
  case k6 => k_is
  case k7 => k_is
  case k8 => k_room
  case k9 => exact BindsTo.of_eq rfl
  case kB => rfl
  case kN => decide
  case c2 => exact rfl
  case c3 => exact rfl
  case c4 => exact rfl
  intro h₁ tk cells F N Y
  have kX := kFor F X₀
  obtain ⟨oc, hE, dc⟩ := CellsAre.one Y
  subst hE
  clear Y
  have dc' : oc.data = .cell (some (.ref S)) := dc
  clear dc
  (try dsimp only); (try k_fold)
  iterate 8 (first | walk1 | (dsimp only; walk1))
  rename Fr _ _ _ _ => F1
  rename News _ _ _ _ => N1
  have hSl : s.heap.IsList S vs.toArray := ⟨_, hSo, rfl, _, rfl⟩
  have hvl : vs.length ≤ 8 := by rw [hMi.length]; exact few
  refine For_invU s.heap rfl rfl ?_
  iterate 1 (first | walk1 | (dsimp only; walk1))
  rename_i x0 a0 r2 lt0 r4
  refine iter_JC (vs := vs) (fun i m news => m (Str.ofString "lines") = some (.ref a0) ∧ ∃ vl n, news = [(a0, listObj vl.toArray n), (s.heap.objs.size + 1, oc)] ∧ IntsAre vl (linesOf (ms.take i))) ?ni rfl (hSl.at fun o e => F1.keep _ _ e) (Nat.ne_of_lt (Heap.lt_size hSo)) F1 N1 ⟨rfl, [], 0, rfl, .nil⟩ ?turn ?done
  case ni =>
    rintro i m n ⟨_, vl, k, rfl, _⟩ p hp
    rcases List.mem_cons.mp hp with rfl | hp
    · exact .inl fun e => absurd (show Value.type "list" = Value.type "list_iterator" from e) (by decide)
    · rw [List.mem_singleton.mp hp]; exact .inr ⟨_, dc'⟩
  case done =>
    intro m' news' h2 tk2 F2 N2 hJ
    obtain ⟨hm, vl, n2, rfl, hI⟩ := hJ
    rw [hMi.length, List.take_length] at hI
    have hvl2 : vl.length ≤ 8 := by rw [hI.length]; exact Nat.le_trans (linesOf_len _) few
    clear F1 N1
    dsimp only
    iterate 4 (first | walk1 | (dsimp only; walk1))
    all_goals (first | exact Value.none | exact Str.ofString "" | exact (0 : Nat) | skip)
    rename Fr _ _ _ _ => F3
    rename News _ _ _ _ => N3
    refine LCg.CompSrc.ledger rfl F3 N3 (.head _) (by rw [List.size_toArray]; exact Nat.le_trans hvl2 (by decide +kernel)) fun g => ?_
    refine compU_ind (fun i ys news => ∃ tl, news = (a0, listObj vl.toArray n2) :: (s.heap.objs.size + 1, oc) :: tl ∧ PairsIn tl ys (((linesOf ms).take i).map fun k => (k, underOf ms k))) ?fin ?cturn _ 0 [] _ (Nat.zero_add _) ⟨[], rfl, .nil⟩
    case fin =>
      rintro ys news ⟨tl, rfl, hP⟩
      intro D h4 tk4 F4 N4 off
      rw [List.size_toArray, hI.length, List.take_length] at hP
      clear F3 N3
      k_steps
      exact h D _ _ F4.keep ⟨ys, _, tl, (N4 _ (.head _)).1, hP, fun p hp => (N4 p (.tail _ (.tail _ (.tail _ hp)))).1⟩
    case cturn =>
      rintro i ys news hlt ⟨tl, rfl, hP⟩ v I oI C oC D m₂ h4 tk4 E' hv hC hx F4 N4 off ne
      clear F3 N3
      obtain ⟨k, hk, t, rfl⟩ : ∃ k, (linesOf ms)[i]? = some k ∧ ∃ t, v = .int k t := by
        have hv' : vl[i]? = some v := by simpa using hv
        obtain ⟨hlt, _⟩ := List.getElem?_eq_some_iff.mp hv'
        have hlt' : i < (linesOf ms).length := hI.length ▸ hlt
        obtain ⟨t, ht⟩ := hI.get i (linesOf ms)[i] (List.getElem?_eq_getElem hlt')
        rw [hv'] at ht
        exact ⟨_, List.getElem?_eq_getElem hlt', t, Option.some.inj ht⟩
      have dcC : h4.get? (s.heap.objs.size + 1) = some oc := (N4 _ (.tail _ (.tail _ (.tail _ (.tail _ (.head _)))))).1
      iterate 17 (first | walk1 | (dsimp only; walk1))
      rename Fr _ _ _ _ => F5
      rename News _ _ _ _ => N5
      rename (@LT.lt Nat _ I _ ∧ _) => l5
      rename ItemsIn _ _ _ => i5
      rename Off3 I C D (_ ++ _) => o5
      rename ((_, listObj _ _) ∈ _) => m5
      refine comp_end2 [_, _] F5 N5 o5 ⟨l5.1, l5.2.1, l5.2.2.1⟩ (.inr ⟨_, .head _, rfl, _, rfl⟩) ⟨_, rfl, ?_⟩
      rw [List.take_add_one, hk, Option.toList_some, List.map_append]
      exact .snoc (hP.mono fun p hp => .tail _ (List.mem_append_right _ hp)) (.head _) (.tail _ (List.mem_append_left _ m5)) (i5.mono fun p hp => .tail _ (List.mem_append_left _ hp))
  case turn =>
    intro i v m₁ news₁ s₁ own hv hJ ho F2 N2
    obtain ⟨hm, vl, n2, rfl, hI⟩ := hJ
    obtain ⟨aM, mk, ta, tb, tw, rfl, hmi, hmm⟩ := hMi.get hv
    have hMo := hMn _ hmm
    obtain ⟨h2, gg, dd, tk2, os⟩ := s₁
    clear F1 N1
    have N3 := news_sub N2 (news' := (a0, listObj vl.toArray n2) :: (s.heap.objs.size + 1, oc) :: own) (fun p hp => by
      rcases List.mem_cons.mp hp with rfl | hp
      · exact List.mem_append_right _ (.head _)
      · rcases List.mem_cons.mp hp with rfl | hp
        · exact List.mem_append_right _ (.tail _ (.head _))
        · exact List.mem_append_left _ hp)
    clear N2
    k_steps
    all_goals (first | exact Value.none | exact Str.ofString "" | exact (0 : Nat) | skip)
    · rename (List.any _ _ = true) => hin
      rename Fr _ _ _ _ => F3
      rename News _ _ _ _ => N4
      have hmem : mk.1 ∈ linesOf (ms.take i) := by
        obtain ⟨z, hz, e⟩ := List.any_eq_true.mp hin
        have e' : z = mk.1 := by simpa using e
        exact e' ▸ hz
      refine turnJ F3 (news_sub N4 ?_) ⟨hm, vl, n2, rfl, ?_⟩
      · intro p hp
        rcases List.mem_append.mp hp with hp | hp
        · exact .tail _ (.tail _ hp)
        · rcases List.mem_cons.mp hp with rfl | hp
          · exact .head _
          · rw [List.mem_singleton.mp hp]; exact .tail _ (.head _)
      · rw [List.take_add_one, hmi, Option.toList_some, linesOf_snoc, if_pos hmem]
        exact hI
    · rename (List.any _ _ = false) => hin
      rename Fr _ _ _ _ => F3
      rename News _ _ _ _ => N4
      have hmem : mk.1 ∉ linesOf (ms.take i) := fun hz => by
        have := List.any_eq_false.mp hin mk.1 hz
        simp at this
      have hlen : vl.length ≤ 8 := by
        rw [hI.length]
        refine Nat.le_trans (linesOf_len _) (Nat.le_trans ?_ few)
        rw [List.length_take]; exact Nat.min_le_right _ _
      refine append_news F3 N4 (.head _) (news' := own ++ [(a0, listObj (vl.toArray.push (.int mk.1 ta)) (n2 + 1)), (s.heap.objs.size + 1, oc)]) ?sub (by rw [List.size_toArray]; omega) ?_
      case sub => 
        intro p hp
        rcases List.mem_append.mp hp with hp | hp
        · refine .inr ⟨.tail _ (.tail _ hp), ?_⟩
          rcases ho p hp with e | e
          · rw [e]; exact Nat.ne_of_lt (Nat.lt_trans (Heap.lt_size hSo) (Nat.lt_of_succ_lt lt0))
          · exact Ne.symm (e.1 _ (.head _))
        · rcases List.mem_cons.mp hp with rfl | hp
          · exact .inl rfl
          · rw [List.mem_singleton.mp hp]
            exact .inr ⟨.tail _ (.head _), Nat.ne_of_lt lt0⟩
      intro h' F4 N5 _
      k_steps
      refine turnJ F4 N5 ⟨hm, vl ++ [_], n2 + 1, by rw [← List.push_toArray], ?_⟩
      rw [List.take_add_one, hmi, Option.toList_some, linesOf_snoc, if_neg hmem]
      exact hI.append (.cons _ _ .nil)
end Mine
end
section
open PySem PySem.W PyProof.Rows PySem.Spec
set_option Elab.async false
set_option maxRecDepth 100000
set_option maxHeartbeats 2000000
namespace Mine
theorem datAll_snoc {news : List (Addr × Obj)} {v : Value} {d : PySem.W.Dat} (hd : DatIn news v d) : ∀ {vs : List Value} {ds : List PySem.W.Dat}, DatAll news vs ds → DatAll news (vs ++ [v]) (ds ++ [d])
  | _, _, .nil => .cons hd .nil
  | _, _, .cons h r => .cons h (datAll_snoc hd r)
def itD (it : Int × Str) : PySem.W.Dat := .tuple [.int it.1, .str it.2]
def pairD (p : Int × List (Int × Str)) : PySem.W.Dat := .tuple [.int p.1, .list (p.2.map itD)]
theorem ItemsIn.dat {news : List (Addr × Obj)} {vs its} (M : ItemsIn news vs its) : DatAll news vs (its.map itD) := by
  induction M with
  | nil => exact .nil
  | @snoc vs ms a m ta tb _ hm ih =>
    rw [List.map_append]
    exact datAll_snoc (DatIn.tuple (vs := [.int m.1 ta, .str m.2 tb]) hm (.cons (.int _ _) (.cons (.str _ _) .nil))) ih
theorem PairsIn.dat {news : List (Addr × Obj)} {vs ps} (M : PairsIn news vs ps) : DatAll news vs (ps.map pairD) := by
  induction M with
  | nil => exact .nil
  | @snoc pv ps a k ta b vs n its _ h1 h2 h3 ih =>
    rw [List.map_append]
    exact datAll_snoc (DatIn.tuple (vs := [.int k ta, .ref b]) h1 (.cons (.int _ _) (.cons (.list h2 h3.dat) .nil))) ih
/-- lists of items -/
inductive ListsIn (news : List (Addr × Obj)) : List Value → List (List (Int × Str)) → Prop
  | nil : ListsIn news [] []
  | snoc {pv ps b vs n its} : ListsIn news pv ps → (b, listObj vs.toArray n) ∈ news → ItemsIn news vs its → ListsIn news (pv ++ [.ref b]) (ps ++ [its])
theorem ListsIn.mono {news news' : List (Addr × Obj)} {vs ms} (M : ListsIn news vs ms) (h : ∀ p ∈ news, p ∈ news') : ListsIn news' vs ms := by
  induction M with
  | nil => exact .nil
  | snoc _ h2 h3 ih => exact .snoc ih (h _ h2) (h3.mono h)
theorem ListsIn.dat {news : List (Addr × Obj)} {vs ps} (M : ListsIn news vs ps) : DatAll news vs (ps.map fun its => PySem.W.Dat.list (its.map itD)) := by
  induction M with
  | nil => exact .nil
  | @snoc pv ps b vs n its _ h2 h3 ih =>
    rw [List.map_append]
    exact datAll_snoc (DatIn.list h2 h3.dat) ih
def ListsAt (h : Heap) (l : Addr) (ps : List (List (Int × Str))) : Prop := ∃ vs n news, h.get? l = some (listObj vs.toArray n) ∧ ListsIn news vs ps ∧ ∀ p ∈ news, h.get? p.1 = some p.2
theorem news_any {h : Heap} {news : List (Addr × Obj)} (x : ∀ p ∈ news, h.get? p.1 = some p.2) : News ({} : Heap) h.objs.size h news := fun p hp => ⟨x p hp, Nat.ne_of_lt (Heap.lt_size (x p hp)), by
  cases q : ({} : Heap).get? p.1 with
  | none => rfl
  | some o => have := Heap.lt_size q; simp at this⟩
def okIts (its : List (Int × Str)) : Prop := ∀ it ∈ its, PyData.strOk it.2 = true
theorem okIts.dat {its} (h : okIts its) : kqdOk 3 (.list (its.map itD)) = true := by
  show ((its.map itD).all (kqdOk 2)) = true
  rw [List.all_map, List.all_eq_true]
  intro it hit
  show (([.int it.1, .str it.2] : List PySem.W.Dat).all (kqdOk 1)) = true
  simp [kqdOk, h it hit]
theorem kqdOk_up : ∀ (n : Nat) (d : PySem.W.Dat), kqdOk n d = true → kqdOk (n + 1) d = true
  | 0, .none, _ => rfl
  | 0, .int _, _ => rfl
  | 0, .str x, h => h
  | n + 1, .none, _ => rfl
  | n + 1, .int _, _ => rfl
  | n + 1, .str x, h => h
  | n + 1, .tuple ds, h => by
    have h' : ds.all (kqdOk n) = true := h
    show ds.all (kqdOk (n + 1)) = true
    rw [List.all_eq_true] at h' ⊢
    exact fun d hd => kqdOk_up n d (h' d hd)
  | n + 1, .list ds, h => by
    have h' : ds.all (kqdOk n) = true := h
    show ds.all (kqdOk (n + 1)) = true
    rw [List.all_eq_true] at h' ⊢
    exact fun d hd => kqdOk_up n d (h' d hd)
  | 0, .bool _, h => by simp [kqdOk] at h
  | n + 1, .bool _, h => by simp [kqdOk] at h
  | 0, .bytes _, h => by simp [kqdOk] at h
  | n + 1, .bytes _, h => by simp [kqdOk] at h
  | 0, .tuple _, h => by simp [kqdOk] at h
  | 0, .list _, h => by simp [kqdOk] at h
theorem pairD_ok {p : Int × List (Int × Str)} (h : okIts p.2) : kqdOk 8 (pairD p) = true := by
  have e : kqdOk 4 (pairD p) = true := by
    show (([.int p.1, .list (p.2.map itD)] : List PySem.W.Dat).all (kqdOk 3)) = true
    simp [kqdOk]
    have := h.dat
    simpa [kqdOk] using this
  exact kqdOk_up 7 _ (kqdOk_up 6 _ (kqdOk_up 5 _ (kqdOk_up 4 _ e)))
section
variable {prog : Program} {w : World} {A : Around} {E : Value → Shared → Prop} {s : Shared} {a b : Addr} {Q : Value → Shared → Prop}
theorem pairs_cmp {ps : Says} (ha : PairsAt s.heap a ps) (hb : PairsAt s.heap b ps) (ok : ∀ p ∈ ps, okIts p.2) (hu : A.units + 64 < cLine) :
    (Q (.bool false) s → wpAny (model prog w) A (compareOp .NotEq (.ref a) (.ref b)) Q E s) ∧ (Q (.bool true) s → wpAny (model prog w) A (compareOp .Eq (.ref a) (.ref b)) Q E s) := by
  obtain ⟨va, na, nwa, a1, a2, a3⟩ := ha
  obtain ⟨vb, nb, nwb, b1, b2, b3⟩ := hb
  have N := news_any (h := s.heap) (news := (a, listObj va.toArray na) :: (b, listObj vb.toArray nb) :: (nwa ++ nwb)) (fun p hp => by
    rcases List.mem_cons.mp hp with rfl | hp
    · exact a1
    · rcases List.mem_cons.mp hp with rfl | hp
      · exact b1
      · exact (List.mem_append.mp hp).elim (a3 p) (b3 p))
  have okd : ∀ d ∈ ps.map pairD, kqdOk 8 d = true := fun d hd => by
    obtain ⟨p, hp, rfl⟩ := List.mem_map.mp hd
    exact pairD_ok (ok p hp)
  constructor
  · intro h
    refine kqd_ne N (.head _) rfl rfl a2.dat (fun p hp => .tail _ (.tail _ (List.mem_append_left _ hp))) (.tail _ (.head _)) rfl rfl b2.dat (fun p hp => .tail _ (.tail _ (List.mem_append_right _ hp))) okd okd hu ?_
    simpa using h
  · intro h
    refine kqd_eq N (.head _) rfl rfl a2.dat (fun p hp => .tail _ (.tail _ (List.mem_append_left _ hp))) (.tail _ (.head _)) rfl rfl b2.dat (fun p hp => .tail _ (.tail _ (List.mem_append_right _ hp))) okd okd hu ?_
    simpa using h
theorem lists_cmp {ps : List (List (Int × Str))} (ha : ListsAt s.heap a ps) (hb : ListsAt s.heap b ps) (ok : ∀ p ∈ ps, okIts p) (hu : A.units + 64 < cLine) (h : Q (.bool false) s) : wpAny (model prog w) A (compareOp .NotEq (.ref a) (.ref b)) Q E s := by
  obtain ⟨va, na, nwa, a1, a2, a3⟩ := ha
  obtain ⟨vb, nb, nwb, b1, b2, b3⟩ := hb
  have N := news_any (h := s.heap) (news := (a, listObj va.toArray na) :: (b, listObj vb.toArray nb) :: (nwa ++ nwb)) (fun p hp => by
    rcases List.mem_cons.mp hp with rfl | hp
    · exact a1
    · rcases List.mem_cons.mp hp with rfl | hp
      · exact b1
      · exact (List.mem_append.mp hp).elim (a3 p) (b3 p))
  have okd : ∀ d ∈ ps.map (fun its => PySem.W.Dat.list (its.map itD)), kqdOk 8 d = true := fun d hd => by
    obtain ⟨p, hp, rfl⟩ := List.mem_map.mp hd
    exact kqdOk_up 7 _ (kqdOk_up 6 _ (kqdOk_up 5 _ (kqdOk_up 4 _ (kqdOk_up 3 _ (ok p hp).dat))))
  refine kqd_ne N (.head _) rfl rfl a2.dat (fun p hp => .tail _ (.tail _ (List.mem_append_left _ hp))) (.tail _ (.head _)) rfl rfl b2.dat (fun p hp => .tail _ (.tail _ (List.mem_append_right _ hp))) okd okd hu ?_
  simpa using h
end
end Mine
end
section
open PySem PySem.W PyProof.Rows PySem.Spec
set_option Elab.async false
set_option maxRecDepth 100000
set_option maxHeartbeats 8000000
namespace Mine
theorem ItemsIn.get {news : List (Addr × Obj)} {vs ms} (M : ItemsIn news vs ms) : ∀ {i : Nat} {v : Value}, vs[i]? = some v → ∃ a m ta tb, v = .ref a ∧ ms[i]? = some m ∧ (a, itemObj m ta tb) ∈ news := by
  induction M with
  | nil => intro i v h; simp at h
  | @snoc vs ms a m ta tb M' hm ih =>
    intro i v h
    rcases getElem_snoc h with h | ⟨rfl, rfl⟩
    · obtain ⟨a', m', t1, t2, e1, e2, e3⟩ := ih h
      obtain ⟨q, _⟩ := List.getElem?_eq_some_iff.mp e2
      exact ⟨a', m', t1, t2, e1, by rw [List.getElem?_append_left q]; exact e2, e3⟩
    · exact ⟨a, m, ta, tb, rfl, by rw [M'.length]; simp, hm⟩
theorem PairsIn.get {news : List (Addr × Obj)} {vs ps} (M : PairsIn news vs ps) : ∀ {i : Nat} {v : Value}, vs[i]? = some v → ∃ a k ta b us n its, v = .ref a ∧ ps[i]? = some (k, its) ∧ (a, pairT k ta b) ∈ news ∧ (b, listObj us.toArray n) ∈ news ∧ ItemsIn news us its := by
  induction M with
  | nil => intro i v h; simp at h
  | @snoc pv ps a k ta b us n its M' h1 h2 h3 ih =>
    intro i v h
    rcases getElem_snoc h with h | ⟨rfl, rfl⟩
    · obtain ⟨a', k', t1, b', us', n', its', e1, e2, e3⟩ := ih h
      obtain ⟨q, _⟩ := List.getElem?_eq_some_iff.mp e2
      exact ⟨a', k', t1, b', us', n', its', e1, by rw [List.getElem?_append_left q]; exact e2, e3⟩
    · exact ⟨a, k, ta, b, us, n, its, rfl, by rw [M'.length]; simp, h1, h2, h3⟩
theorem StrsAre.length' : ∀ {vs : List Value} {ys : List Str}, StrsAre vs ys → vs.length = ys.length
  | _, _, .nil => rfl
  | _, _, .cons _ _ h => by simp [StrsAre.length' h]
theorem StrsAre.snoc' (y : Str) (t : Tok) : ∀ {vs : List Value} {ys : List Str}, StrsAre vs ys → StrsAre (vs ++ [.str y t]) (ys ++ [y])
  | _, _, .nil => .cons y t .nil
  | _, _, .cons z u h => .cons z u (StrsAre.snoc' y t h)
theorem flatOf_snoc (ps : Says) (k : Int) (its : List (Int × Str)) : flatOf (ps ++ [(k, its)]) = flatOf ps ++ its.map fun it => (k, it) := by simp [flatOf]
theorem append_own {prog : Program} {w : World} {A : Around} {E : Value → Shared → Prop} {s : Shared} {h₀ : Heap} {L a : Addr} {vs : Array Value} {n : Nat} {v : Value} {m : Str → Option Value} {own : List (Addr × Obj)} {Q : Value → Shared → Prop} (F : Fr h₀ L s.heap m) (N : News h₀ L s.heap (own ++ [(a, listObj vs n)])) (hne : ∀ p ∈ own, p.1 ≠ a) (hz : vs.size ≤ 1000)
    (h : ∀ h', Fr h₀ L h' m → News h₀ L h' (own ++ [(a, listObj (vs.push v) (n + 1))]) → Q .none { s with heap := h' }) : wpAny (model prog w) A (call (.builtin "list.append") [.ref a, v]) Q E s := by
  refine append_news F N (List.mem_append_right _ (.head _)) (news' := own ++ [(a, listObj (vs.push v) (n + 1))]) (fun p hp => ?_) hz fun h' F' N' _ => h h' F' N'
  rcases List.mem_append.mp hp with hp | hp
  · exact .inr ⟨List.mem_append_left _ hp, hne p hp⟩
  · exact .inl (List.mem_singleton.mp hp)
theorem flatOf_append (a b : Says) : flatOf (a ++ b) = flatOf a ++ flatOf b := by unfold flatOf; rw [List.flatMap_append]
theorem flatOf_take (ps : Says) (i : Nat) : (flatOf (ps.take i)).length ≤ (flatOf ps).length := by
  have e := congrArg List.length (congrArg flatOf (List.take_append_drop i ps))
  rw [flatOf_append, List.length_append] at e
  omega
theorem flatOf_one {ps : Says} {k : Int} {its} (h : (k, its) ∈ ps) : its.length ≤ (flatOf ps).length := by
  obtain ⟨a, b, rfl⟩ := List.append_of_mem h
  rw [flatOf_append, List.length_append]
  have e : flatOf ((k, its) :: b) = (its.map fun it => (k, it)) ++ flatOf b := by simp [flatOf]
  rw [e, List.length_append, List.length_map]
  omega
theorem rows_weight {rs : List Mark} (h : ∀ m ∈ rs, GoodMark m) : ((rs.map rowText).map (·.length)).sum ≤ 30 * rs.length := by
  induction rs with
  | nil => simp
  | cons a l ih =>
    have := ih fun m hm => h m (.tail _ hm)
    have := (row_len (h a (.head _))).1
    simp only [List.map_cons, List.sum_cons, List.length_cons]
    omega
local macro_rules | `(tactic| k_room) => `(tactic| exact Nat.le_of_ble_eq_true rfl)
local macro_rules | `(tactic| walk_at "eval Name") => `(tactic| (k_here; (refine' ld ?k1 ?k2 ?_; (case k1 => k_asm); (case k2 => assumption); k_whole)))
local macro_rules | `(tactic| walk_at "subscriptTail") => `(tactic| (rename Fr _ _ _ _ => F9; first | (refine' sub2_0 ?hi ?ho ?hs ?_; (case hi => with_reducible rfl); (case ho => exact F9.keep _ _ (by assumption)); (case hs => rfl)) | (refine' sub2_1 ?hi ?ho ?hs ?_; (case hi => with_reducible rfl); (case ho => exact F9.keep _ _ (by assumption)); (case hs => rfl))))
set_option pp.deepTerms false
theorem written_ok {w : World} {l : List Env} {s : Shared} {R : Result → Shared → Prop} {p : Program} {loose : List Str} {mean : ExcName → Option Value} {mg mb : Str → Option Value} {P : Addr} {ps : Says}
    (X₁ : (KK w.params).In s.heap) (T : Top p loose mean mg mb s.heap) (hP : PairsAt s.heap P ps) (good : ∀ m ∈ flatOf ps, GoodMark m) (few : (flatOf ps).length ≤ 8)
    (h : ∀ h' tk t, Ext s.heap h' → R (.ok (.ret (.str (textOf (flatOf ps)) t))) { s with heap := h', toks := tk }) :
    codeAny (model PySem.Challenge.rw_in0185_02.row.prog w) (AA 330 2000 l) (.call (.ref 251) ⟨[.ref P], []⟩) R s := by
  have X₀ := K_of_KK X₁
  obtain ⟨vs, nP, pnews, hPo, hPi, hPn⟩ := id hP
  revert X₀; k_fill; intro X₀
  w_top off
  refine' enterP X₀ T.nolimit ?k6 ?k7 ?k8 ?k9 ?kB ?_ ?c2 ?c3 ?c4 ?c5
  case k6 => k_is
  case k7 => k_is
  case k8 => k_room
  case k9 => exact BindsTo.of_eq rfl
  case kB => exact locs rfl
  case c2 => exact rfl
  case c3 => exact rfl
  case c4 => exact rfl
  case c5 => decide
  intro h₁ F N
  have kX := kFor F X₀
  (try dsimp only); (try k_fold)
  iterate 8 (first | walk1 | (dsimp only; walk1))
  rename Fr _ _ _ _ => F1
  rename News _ _ _ _ => N1
  rename_i a0 r2 lt0 r4
  have hPl : s.heap.IsList P vs.toArray := ⟨_, hPo, rfl, _, rfl⟩
  refine For_invU s.heap rfl rfl ?_
  iterate 1 (first | walk1 | (dsimp only; walk1))
  refine iter_JC (vs := vs) (fun i m news => m (Str.ofString "rows") = some (.ref a0) ∧ ∃ vl n, news = [(a0, listObj vl.toArray n)] ∧ StrsAre vl ((flatOf (ps.take i)).map rowText)) ?ni rfl (hPl.at fun o e => F1.keep _ _ e) (Nat.ne_of_lt (Heap.lt_size hPo)) F1 N1 ⟨rfl, [], 0, rfl, .nil⟩ ?turn ?done
  case ni =>
    rintro i m n ⟨_, vl, k, rfl, _⟩ p hp
    rw [List.mem_singleton.mp hp]
    exact .inl fun e => absurd (show Value.type "list" = Value.type "list_iterator" from e) (by decide)
  case done =>
    intro m' news' h2 tk2 F2 N2 hJ
    obtain ⟨hm, vl, n2, rfl, hI⟩ := hJ
    rw [hPi.length, List.take_length] at hI
    clear F1 N1
    dsimp only
    have hw : (((flatOf ps).map rowText).map (·.length)).sum + ((flatOf ps).map rowText).length ≤ 1048576 := by
      have := rows_weight good
      rw [List.length_map]; omega
    have hlist : h2.IsList a0 vl.toArray := ⟨_, (N2 _ (.head _)).1, rfl, _, rfl⟩
    iterate 9 (first | walk1 | (dsimp only; walk1))
    all_goals (first | exact Value.none | exact Str.ofString "" | exact (0 : Nat) | skip)
    refine join_listW hlist hI (by decide +kernel) hw fun t' kk => ?_
    refine Eq.mp (congrArg (fun y => R (.ok (.ret (.str y _))) _) ?_) (h _ _ t' F2.keep)
    exact (PySem.StrLaws.glued_eq_join _ _).symm
  case turn =>
    intro i v m₁ news₁ s₁ own hv hJ ho F2 N2
    obtain ⟨hm, vl, n2, rfl, hI⟩ := hJ
    obtain ⟨a, k, ta, b, us, n, its, rfl, hpi, ha, hb, hits⟩ := hPi.get hv
    have hao := hPn _ ha
    have hbo := hPn _ hb
    obtain ⟨h2, gg, dd, tk2, os⟩ := s₁
    clear F1 N1
    iterate 1 (first | walk1 | (dsimp only; walk1))
    refine For_invU s.heap rfl rfl ?_
    iterate 4 (first | walk1 | (dsimp only; walk1))
    rename Fr _ _ _ _ => F3
    rename News _ _ _ _ => N3
    have hbl : s.heap.IsList b us.toArray := ⟨_, hbo, rfl, _, rfl⟩
    have own_ne : ∀ q ∈ own, q.1 ≠ a0 := fun q hq => by
      rcases ho q hq with e | e
      · rw [e]; intro z
        have := (N3 (a0, listObj vl.toArray n2) (List.mem_append_right _ (.head _))).2.2
        rw [← z, hPo] at this; cases this
      · exact Ne.symm (e.1 _ (.head _))
    refine iter_JK (vs := us) own (fun j m news => m (Str.ofString "rows") = some (.ref a0) ∧ m (Str.ofString "pair") = some (.ref a) ∧ ∃ vl n, news = [(a0, listObj vl.toArray n)] ∧ StrsAre vl ((flatOf (ps.take i) ++ (its.take j).map fun it => (k, it)).map rowText)) ?ni2 rfl (hbl.at fun o e => F3.keep _ _ e) (Nat.ne_of_lt (Heap.lt_size hbo)) F3 N3 ⟨hm, rfl, vl, n2, rfl, by rw [List.take_zero, List.map_nil, List.append_nil]; exact hI⟩ ?turn2 ?done2
    case ni2 =>
      rintro i m n ⟨_, _, vl, k, rfl, _⟩ p hp
      rw [List.mem_singleton.mp hp]
      exact .inl fun e => absurd (show Value.type "list" = Value.type "list_iterator" from e) (by decide)
    case done2 =>
      intro m' news' h4 tk4 F4 N4 hJ
      obtain ⟨hm', _, vl', n4, rfl, hI'⟩ := hJ
      rw [hits.length, List.take_length] at hI'
      clear F3 N3
      dsimp only
      iterate 1 (first | walk1 | (dsimp only; walk1))
      refine turnJ F4 N4 ⟨hm', vl', n4, rfl, ?_⟩
      rw [List.take_add_one, hpi, Option.toList_some, flatOf_snoc]
      exact hI'
    case turn2 =>
      intro j v m₃ news₃ s₃ own₃ hv3 hJ3 ho3 F4 N4
      obtain ⟨hm3, hp3, vl3, n3, rfl, hI3⟩ := hJ3
      obtain ⟨c, it, tc, td, rfl, hit, hc⟩ := hits.get hv3
      have hco := hPn _ hc
      obtain ⟨h4, gg4, dd4, tk4, os4⟩ := s₃
      have G : GoodMark (k, it) := good _ (List.mem_flatMap.mpr ⟨_, List.mem_of_getElem? hpi, List.mem_map_of_mem (List.mem_of_getElem? hit)⟩)
      have g1 : (Str.ofString (toString k)).length ≤ 10 := num_len G.line.1 G.line.2
      have g2 : (Str.ofString (toString it.1)).length ≤ 10 := num_len G.col.1 G.col.2
      have g3 : it.2.length ≤ 3 := (word_tight G).2.2
      have b1 : 0 ≤ k := G.line.1
      have b2 : k < 10000000000 := G.line.2
      have b3 : 0 ≤ it.1 := G.col.1
      have b4 : it.1 < 10000000000 := G.col.2
      clear F3 N3
      k_steps
      all_goals (first | exact Value.none | exact Str.ofString "" | exact (0 : Nat) | skip)
      rename Fr _ _ _ _ => F5
      rename News _ _ _ _ => N5
      have hlen : vl3.length ≤ 16 := by
        rw [StrsAre.length' hI3, List.length_map, List.length_append, List.length_map, List.length_take]
        have e1 := flatOf_take ps i
        have e2 := flatOf_one (List.mem_of_getElem? hpi)
        omega
      refine append_own F5 N5 (fun p hp => ?_) (by rw [List.size_toArray]; omega) ?_
      · rcases ho3 p hp with e | e | e
        · exact own_ne p e
        · rw [e]; intro z
          have := (N5 (a0, listObj vl3.toArray n3) (List.mem_append_right _ (.head _))).2.2
          rw [← z, hbo] at this; cases this
        · exact Ne.symm (e.1 _ (.head _))
      intro h6 F6 N6
      k_steps
      refine turnJ F6 N6 ⟨hm3, hp3, vl3 ++ [_], n3 + 1, by rw [← List.push_toArray], ?_⟩
      rw [List.take_add_one, hit, Option.toList_some, List.map_append (l₁ := its.take j), ← List.append_assoc, List.map_append (f := rowText) (l₂ := List.map _ [it])]
      exact StrsAre.snoc' _ _ hI3
end Mine
end
section
open PySem PySem.W PyProof.Rows PySem.Spec PySem.W.X
set_option Elab.async false
set_option maxRecDepth 100000
set_option maxHeartbeats 0
namespace Mine
section
local macro_rules | `(tactic| x_close) => `(tactic| first | (rename Mem _ _ _ _ => D'; refine rets_intro (ext_mem D') ?_; exact ⟨_, _, rfl, (D'.nw _ (List.mem_of_getElem? (i := 3) rfl)).2, D'.at 3 _ _ rfl⟩) | (rename Mem _ _ _ _ => D'; refine rets_intro (ext_mem D') ?_; exact ⟨_, _, rfl, (D'.nw _ (List.mem_of_getElem? (i := 0) rfl)).2, D'.at 0 _ _ rfl⟩) | (trace_state; fail "x_close"))
theorem list_book0 {w : World} {s : Shared} {l : List Env} {B d : Addr} {ep : Nat}  (X : (KK w.params).In s.heap) (hB : s.heap.get? B = some ⟨.ref 108, some d, .dict { toList := [] } ep, #[some (.type "list")]⟩) :
    wpAny (model PySem.Challenge.rw_in0185_02.row.prog w) (AA 600 4000 l) (Sc (.call (.type "list") ⟨[.ref B], []⟩)) (Rets s fun v h' => ∃ D n, v = .ref D ∧ s.heap.get? D = none ∧ h'.get? D = some ⟨.type "list", none, .seq #[] n, #[]⟩) (fun _ _ => False) s := by
  have B0 := b_get X
  revert X B0; k_fill; intro X B0
  x_run
theorem list_book1 {w : World} {s : Shared} {l : List Env} {B d : Addr} {ep : Nat} {k0 : Int} {t0 : Tok} {a0 : Addr} {h0 : Int} (X : (KK w.params).In s.heap) (hB : s.heap.get? B = some ⟨.ref 108, some d, .dict { toList := [⟨h0, .int k0 t0, .ref a0⟩] } ep, #[some (.type "list")]⟩) :
    wpAny (model PySem.Challenge.rw_in0185_02.row.prog w) (AA 600 4000 l) (Sc (.call (.type "list") ⟨[.ref B], []⟩)) (Rets s fun v h' => ∃ D n, v = .ref D ∧ s.heap.get? D = none ∧ h'.get? D = some ⟨.type "list", none, .seq #[.int k0 t0] n, #[]⟩) (fun _ _ => False) s := by
  have B0 := b_get X
  revert X B0; k_fill; intro X B0
  x_run
theorem list_book2 {w : World} {s : Shared} {l : List Env} {B d : Addr} {ep : Nat} {k0 : Int} {t0 : Tok} {a0 : Addr} {h0 : Int} {k1 : Int} {t1 : Tok} {a1 : Addr} {h1 : Int} (X : (KK w.params).In s.heap) (hB : s.heap.get? B = some ⟨.ref 108, some d, .dict { toList := [⟨h0, .int k0 t0, .ref a0⟩, ⟨h1, .int k1 t1, .ref a1⟩] } ep, #[some (.type "list")]⟩) :
    wpAny (model PySem.Challenge.rw_in0185_02.row.prog w) (AA 600 4000 l) (Sc (.call (.type "list") ⟨[.ref B], []⟩)) (Rets s fun v h' => ∃ D n, v = .ref D ∧ s.heap.get? D = none ∧ h'.get? D = some ⟨.type "list", none, .seq #[.int k0 t0, .int k1 t1] n, #[]⟩) (fun _ _ => False) s := by
  have B0 := b_get X
  revert X B0; k_fill; intro X B0
  x_run
theorem list_book3 {w : World} {s : Shared} {l : List Env} {B d : Addr} {ep : Nat} {k0 : Int} {t0 : Tok} {a0 : Addr} {h0 : Int} {k1 : Int} {t1 : Tok} {a1 : Addr} {h1 : Int} {k2 : Int} {t2 : Tok} {a2 : Addr} {h2 : Int} (X : (KK w.params).In s.heap) (hB : s.heap.get? B = some ⟨.ref 108, some d, .dict { toList := [⟨h0, .int k0 t0, .ref a0⟩, ⟨h1, .int k1 t1, .ref a1⟩, ⟨h2, .int k2 t2, .ref a2⟩] } ep, #[some (.type "list")]⟩) :
    wpAny (model PySem.Challenge.rw_in0185_02.row.prog w) (AA 600 4000 l) (Sc (.call (.type "list") ⟨[.ref B], []⟩)) (Rets s fun v h' => ∃ D n, v = .ref D ∧ s.heap.get? D = none ∧ h'.get? D = some ⟨.type "list", none, .seq #[.int k0 t0, .int k1 t1, .int k2 t2] n, #[]⟩) (fun _ _ => False) s := by
  have B0 := b_get X
  revert X B0; k_fill; intro X B0
  x_run
theorem list_book4 {w : World} {s : Shared} {l : List Env} {B d : Addr} {ep : Nat} {k0 : Int} {t0 : Tok} {a0 : Addr} {h0 : Int} {k1 : Int} {t1 : Tok} {a1 : Addr} {h1 : Int} {k2 : Int} {t2 : Tok} {a2 : Addr} {h2 : Int} {k3 : Int} {t3 : Tok} {a3 : Addr} {h3 : Int} (X : (KK w.params).In s.heap) (hB : s.heap.get? B = some ⟨.ref 108, some d, .dict { toList := [⟨h0, .int k0 t0, .ref a0⟩, ⟨h1, .int k1 t1, .ref a1⟩, ⟨h2, .int k2 t2, .ref a2⟩, ⟨h3, .int k3 t3, .ref a3⟩] } ep, #[some (.type "list")]⟩) :
    wpAny (model PySem.Challenge.rw_in0185_02.row.prog w) (AA 600 4000 l) (Sc (.call (.type "list") ⟨[.ref B], []⟩)) (Rets s fun v h' => ∃ D n, v = .ref D ∧ s.heap.get? D = none ∧ h'.get? D = some ⟨.type "list", none, .seq #[.int k0 t0, .int k1 t1, .int k2 t2, .int k3 t3] n, #[]⟩) (fun _ _ => False) s := by
  have B0 := b_get X
  revert X B0; k_fill; intro X B0
  x_run
end
end Mine
end
section
open PySem PySem.W PyProof.Rows PySem.Spec
set_option Elab.async false
set_option maxRecDepth 100000
set_option maxHeartbeats 2000000
namespace Mine
section
variable {prog : Program} {w : World} {A : Around} {E : Value → Shared → Prop} {s : Shared} {env : Env} {h₀ : Heap} {x : Str} {body : List Stmt} {Q : Flow → Shared → Prop}
theorem iter_JD {l : Addr} {vs : List Value} {m₀ : Str → Option Value} {news : List (Addr × Obj)} (J : Nat → (Str → Option Value) → List (Addr × Obj) → Prop)
    (hni : ∀ i m n, J i m n → ∀ p ∈ n, p.2.cls ≠ .type "list_iterator" ∨ ∃ c, p.2.data = .cell c)
    (hh : A.handled = none) (hl : s.heap.IsList l vs.toArray) (hL : l ≠ env.locals) (F : Fr h₀ env.locals s.heap m₀) (N : News h₀ env.locals s.heap news) (h0 : J 0 m₀ news)
    (turn : ∀ i v m₁ news₁ s₁ own, vs[i]? = some v → J i m₁ news₁ → (∀ p ∈ own, p.1 = l ∨ ((∀ q ∈ news₁, q.1 ≠ p.1) ∧ p.2.cls = .type "list_iterator")) → s₁.heap.IsList l vs.toArray → Fr h₀ env.locals s₁.heap (fun y => if y = x then some v else m₁ y) → News h₀ env.locals s₁.heap (own ++ news₁) →
      wpAny (model prog w) A (execs body env) (TurnJ h₀ env.locals own (J (i + 1)) s₁) E s₁)
    (done : ∀ m' news' h tk, Fr h₀ env.locals h m' → News h₀ env.locals h news' → J vs.length m' news' → Q .next { s with heap := h, toks := tk }) :
    wpAny (model prog w) A (pyIter (.ref l)) (fun it s₂ => LoopAtU prog w A h₀ env x body Q E it s₂) E s := by
  obtain ⟨ol, hol, hlc⟩ := id hl
  have hlt : l < s.heap.objs.size := Heap.lt_size hol
  have hne : l ≠ s.heap.objs.size := Nat.ne_of_lt hlt
  have hLt := F.ns.lt
  refine wpAny_pyIter_list hl ?_
  have W := Walks.list (prog := prog) (w := w) hh s.heap.objs.size l hne vs.toArray
  have hlen : vs.toArray.size = vs.length := by simp
  rw [hlen] at W
  refine ⟨_, _, _, vs.length, _, _, m₀, news, J, rfl, W, ?_, ?_, ?_, ⟨⟨_, Heap.get?_push_size _ rfl, rfl, rfl⟩, hl.at fun o e => Heap.get?_push_of_some _ e⟩, F.push _, (fun p hp => ⟨Heap.get?_push_of_some _ (N p hp).1, (N p hp).2⟩), h0, ?_, ?_⟩
  · intro hm
    rcases List.mem_cons.mp hm with e | hm
    · exact absurd hLt (e ▸ Nat.lt_irrefl _)
    · exact hL (List.mem_singleton.mp hm).symm
  · intro b hb
    rw [List.mem_singleton.mp hb]
    exact next_is_new F
  · intro p hp hI
    exact absurd (Heap.lt_size (N p hp).1) ((List.mem_singleton.mp hI) ▸ Nat.lt_irrefl _)
  · rintro i v m₁ news₁ s₁ own hin hP hJ hoff hfp hat hown hSt F₁ N₁
    have hx : vs[i]? = some v := by simpa using hP
    obtain ⟨⟨oi, hoi, hic, hid⟩, hl₁⟩ := hSt
    have hmem := hown s.heap.objs.size (.head _) (next_is_new F) oi hoi
    have ho : ∀ p ∈ own, p.1 = l ∨ ((∀ q ∈ news₁, q.1 ≠ p.1) ∧ p.2.cls = .type "list_iterator") := fun p hp => by
      rcases List.mem_cons.mp (hfp p hp) with e | e
      · refine .inr ⟨fun q hq z => hoff q hq (by rw [z, e]; exact .head _), ?_⟩
        have e2 := hat p hp
        rw [e, hoi] at e2
        rw [← Option.some.inj e2]; exact hic
      · exact .inl (List.mem_singleton.mp e)
    refine wpAny_mono (turn i v m₁ news₁ s₁ own hx hJ ho hl₁ F₁ N₁) (fun f s₂ p => ?_) fun _ _ e => e
    obtain ⟨rfl, h', tk, m', news', rfl, F', N', hJ'⟩ := p
    refine ⟨rfl, h', tk, m', news', rfl, F', N', fun p hp hI => ?_, hJ'⟩
    have e1 := (N' p (List.mem_append_right _ hp)).1
    have e2 := (N' _ (List.mem_append_left _ hmem)).1
    rw [List.mem_singleton.mp hI, e2] at e1
    rcases hni _ _ _ hJ' p hp with z | ⟨c, z⟩
    · exact z (by rw [← Option.some.inj e1]; exact hic)
    · rw [← Option.some.inj e1, hid] at z; cases z
  · rintro h' tk m' news' F' N' _ hJ
    exact done m' news' h' tk F' N' hJ
end
/-- own lookups of a book, frozen or not -/
def Froze (h : Heap) (B : Addr) (fs : List DictEntry) : Prop := fs = [] ∨ ∃ hs t' f, fs = [⟨hs, .str frozenName t', .ref f⟩] ∧ LamAt h f B
def putF (c : Says) (k : Int) (it : Int × Str) : Says := c.map fun x => if x.1 = k then (x.1, x.2 ++ [it]) else x
def stepS (fs : List DictEntry) (c : Says) (m : Mark) : Says := if fs.isEmpty then putS c m.1 m.2 else putF c m.1 m.2
def Hit (fs : List DictEntry) (rows rows' : List RowS) (k : Int) (t : Tok) (a : Addr) (det : List (Addr × Obj)) : Prop :=
  (det = [] ∧ ∃ a₀ r, rows' = insR rows k t a₀ ∧ findR rows' k = some r ∧ r.a = a ∧ (findR rows k = none → fs = [] ∧ (∀ q ∈ rows, q.a ≠ a₀))) ∨
  (det = [(a, listObj #[] 0)] ∧ rows' = rows ∧ findR rows k = none ∧ fs.isEmpty = false ∧ ∀ q ∈ rows, q.a ≠ a)
theorem LamAt.keeps {h h' : Heap} {f B : Addr} (x : LamAt h f B) (k : ∀ b o, h.get? b = some o → h'.get? b = some o) : LamAt h' f B := by
  obtain ⟨cell, oc, pm, c, ct, hf, hc, hcd, hcode⟩ := x
  exact ⟨cell, oc, pm, c, ct, k _ _ hf, k _ _ hc, hcd, hcode.keeps k⟩
section
variable {w : World} {A : Around} {E : Value → Shared → Prop} {s : Shared} {l : List Env} {h₀ : Heap} {L : Addr} {m : Str → Option Value} {B d : Addr} {fs : List DictEntry} {fp ep : Nat} {rows : List RowS} {rest : List (Addr × Obj)} {p : Program} {loose : List Str} {mean : ExcName → Option Value} {mg mb : Str → Option Value}
theorem book_look {k : Int} {t : Tok} {Q : Value → Shared → Prop} (hz : Froze h₀ B fs) (X : (KK w.params).In h₀) (T : Top p loose mean mg mb h₀) (F : Fr h₀ L s.heap m) (N : News h₀ L s.heap (bookNews B d fs fp ep rows ++ rest)) (G : GoodRows rows) (hrest : ∀ q ∈ rest, q.2.cls ≠ .ref 108 ∨ ∃ c, q.2.data = .cell c)
    (a1 : A.handled = none) (a2 : A.depth ≤ 500) (a3 : A.frames = some l) (a4 : A.guards = some []) (a5 : A.in1.units ≤ 3000)
    (h : ∀ a ep' h' tk rows' det, Fr h₀ L h' m → News h₀ L h' (bookNews B d fs fp ep' rows' ++ (det ++ rest)) → Hit fs rows rows' k t a det → Q (.ref a) { s with heap := h', toks := tk }) :
    wpAny (model PySem.Challenge.rw_in0185_02.row.prog w) A (getItem (.ref B) (.int k t)) Q E s := by
  rcases hz with rfl | ⟨hs, t', f, rfl, hl⟩
  · refine book_get X T F N G hrest a1 a2 a3 a4 a5 fun a ep' h' tk r F' N' hr hn => ?_
    exact h r.a ep' h' tk _ [] F' N' (.inl ⟨rfl, a, r, rfl, hr, rfl, fun z => ⟨rfl, (hn z).1⟩⟩)
  · have X₀ := K_of_KK (X.keeps F.keep)
    have D := bookAt_news N
    revert X₀; k_fill; intro X₀
    have g1 : noSeq (hk.heap_39 w.params) 108 = true := by k_is
    have g2 : findIn (hk.heap_39 w.params) (.ref 108) "__getitem__" = some (some (.builtin "dict.__getitem__")) := by k_is
    have g3 : subIn (hk.heap_39 w.params) (.ref 108) (.type "dict") = some true := by k_is
    have g4 : findIn (hk.heap_39 w.params) (.ref 108) "__missing__" = some (some (.ref 98)) := by k_is
    have g5 : isFn (hk.heap_39 w.params) (.ref 98) = true := by k_is
    have hB : h₀.get? B = none := (N _ (.head _)).2.2
    cases q : findR rows k with
    | some r =>
      have e : ∀ a, insR rows k t a = rows := fun a => by unfold insR; rw [q]
      refine book_found X₀ D g1 g2 g3 (by rw [look_rows, q]; rfl) ?_
      exact h r.a ep _ _ rows [] F N (.inl ⟨rfl, 0, r, (e 0).symm, q, rfl, fun z => by rw [q] at z; cases z⟩)
    | none =>
      have hl' : look (kvsOf rows) k = none := by rw [look_rows, q]; rfl
      have hn := newR_not_sys w.params X hB
      refine book_missed X₀ D g1 g2 g3 g4 g5 hn hl' ?_
      refine wpAny_call (up (miss_frozen (s := ⟨s.heap, _, _, _, _⟩) (X.keeps F.keep) (T.keeps F.keep) D (hl.keeps F.keep) fun h' tk a x n1 n2 => ?_) a1 a2 a3 a4 a5)
      have ra : ∀ y ∈ rows, y.a ≠ a := fun y hy z => by
        have e0 : s.heap.get? y.a = some y.obj.2 := (N y.obj (List.mem_append_left _ (.tail _ (.tail _ (List.mem_map_of_mem hy))))).1
        rw [z, show s.heap.get? a = none from n1] at e0; cases e0
      refine h a ep h' tk rows [(a, listObj #[] 0)] (Fr.ext F x) ?_ (.inr ⟨rfl, rfl, q, rfl, ra⟩)
      exact news_mid (nn := [(a, listObj #[] 0)]) F N x fun p hp => by rw [List.mem_singleton.mp hp]; exact ⟨n2, n1⟩
end
theorem insR_some {rows : List RowS} {k : Int} {t : Tok} {a : Addr} {r : RowS} (q : findR rows k = some r) : insR rows k t a = rows := by unfold insR; rw [q]
theorem insR_none {rows : List RowS} {k : Int} {t : Tok} {a : Addr} (q : findR rows k = none) : insR rows k t a = rows ++ [newRow k t a] := by unfold insR; rw [q]
theorem says_any (rows : List RowS) (k : Int) : (saysOf rows).any (fun x => x.1 == k) = (findR rows k).isSome := by
  unfold findR
  rw [Bool.eq_iff_iff, List.find?_isSome, List.any_eq_true]
  simp
  exact ⟨fun ⟨_, r, a, b, _⟩ => ⟨r, a, b⟩, fun ⟨r, a, b⟩ => ⟨_, r, a, b, rfl⟩⟩
theorem putF_none {rows : List RowS} {k : Int} {it : Int × Str} (q : findR rows k = none) : putF (saysOf rows) k it = saysOf rows := by
  unfold putF
  have : ∀ x ∈ saysOf rows, (if x.1 = k then (x.1, x.2 ++ [it]) else x) = x := fun x hx => by
    obtain ⟨r, hr, rfl⟩ := List.mem_map.mp hx
    have := List.find?_eq_none.mp q r hr
    rw [if_neg (by simpa using this)]
  rw [List.map_congr_left this, List.map_id']
structure Stepped (fs : List DictEntry) (rows rows'' : List RowS) (k : Int) (it : Int × Str) : Prop where
  good : rows.length ≤ 99 → GoodRows rows''
  says : saysOf rows'' = stepS fs (saysOf rows) (k, it)
  len : rows''.length ≤ rows.length + 1
  its : ∀ i, (∀ r ∈ rows, r.its.length ≤ i) → ∀ r ∈ rows'', r.its.length ≤ i + 1
  adr : fs ≠ [] → rows''.map (·.a) = rows.map (·.a)
  keys : ∀ r ∈ rows'', r.k = k ∨ ∃ q ∈ rows, q.k = r.k
/-- an object that is no row's list -/
def NotRow (o : Obj) : Prop := o.cls ≠ .type "list" ∨ (∃ c, o.data = .cell c) ∨ ∃ y t vs n, o.data = .seq (Value.str y t :: vs).toArray n
theorem ItemsIn.refs {news : List (Addr × Obj)} {vs its} (M : ItemsIn news vs its) : ∀ v ∈ vs, ∃ a, v = .ref a := by
  induction M with
  | nil => intro v h; simp at h
  | snoc _ _ ih =>
    intro v h
    rcases List.mem_append.mp h with h | h
    · exact ih v h
    · exact ⟨_, List.mem_singleton.mp h⟩
theorem NotRow.ne {news : List (Addr × Obj)} {vs its n} {o : Obj} (x : NotRow o) (M : ItemsIn news vs its) : o ≠ listObj vs.toArray n := by
  rintro rfl
  rcases x with x | ⟨c, x⟩ | ⟨y, t, us, k, x⟩
  · exact x rfl
  · cases x
  · have e : vs.toArray = (Value.str y t :: us).toArray := by injection x
    have e' : vs = Value.str y t :: us := by simpa using e
    obtain ⟨a, ha⟩ := M.refs (Value.str y t) (by rw [e']; exact .head _)
    cases ha
section
variable {prog : Program} {w : World} {A : Around} {E : Value → Shared → Prop} {s : Shared} {h₀ : Heap} {L : Addr} {m : Str → Option Value} {B d : Addr} {fs : List DictEntry} {fp ep : Nat} {rows rows' : List RowS} {rest tups : List (Addr × Obj)}
theorem its_map_push {k : Int} {v : Value} {it : Int × Str} {rows : List RowS} : ∀ r ∈ rows.map (pushR k v it), ∃ q ∈ rows, q.k = r.k ∧ q.a = r.a := fun r hr => by
  obtain ⟨q, hq, rfl⟩ := List.mem_map.mp hr
  have e := pushR_kv k v it q
  exact ⟨q, hq, (congrArg (·.1) e).symm, (congrArg (·.2.2) e).symm⟩
theorem look_append {t : Addr} {it : Int × Str} {ta tb tk : Tok} {k : Int} {a : Addr} {det : List (Addr × Obj)} {Q : Value → Shared → Prop} (F : Fr h₀ L s.heap m) (N : News h₀ L s.heap ((t, itemObj it ta tb) :: (bookNews B d fs fp ep rows' ++ (det ++ rest)))) (H : Hit fs rows rows' k tk a det) (G : GoodRows rows) (hlen : rows.length ≤ 99) (hits : ∀ r ∈ rows, r.its.length ≤ 500)
    (hR : RowsIn tups rows) (hsub : ∀ q ∈ tups, q ∈ rest) (hne : ∀ q ∈ rest, NotRow q.2)
    (h : ∀ h' rows'', Fr h₀ L h' m → News h₀ L h' (bookNews B d fs fp ep rows'' ++ ((t, itemObj it ta tb) :: rest)) → Stepped fs rows rows'' k it → RowsIn ((t, itemObj it ta tb) :: tups) rows'' → Q .none { s with heap := h' }) :
    wpAny (model prog w) A (call (.builtin "list.append") [.ref a, .ref t]) Q E s := by
  rcases H with ⟨rfl, a₀, r, rfl, hr, rfl, hnew⟩ | ⟨rfl, rfl, hf, hfs, hra⟩
  · have hRi : RowsIn tups (insR rows k tk a₀) := hR.ins
    obtain ⟨rm, rk⟩ := findR_mem hr
    have hli : r.vs.length ≤ 1000 := by
      rw [(hRi r rm).length]
      exact Nat.le_trans (its_ins hits r rm) (by decide)
    have Gi : GoodRows (insR rows k tk a₀) := good_ins G hlen fun z => (hnew z).2
    have N' : News h₀ L s.heap ((t, itemObj it ta tb) :: (bookNews B d fs fp ep (insR rows k tk a₀) ++ rest)) := by rw [List.nil_append] at N; exact N
    refine row_append (it := it) F N' rm Gi rfl (fun q hq e => ?_) hli fun h' F' N2 => h h' _ F' N2 ⟨fun _ => good_push Gi, ?_, ?_, ?_, ?_, ?_⟩ ?_
    · have e1 := (N' q (.tail _ (List.mem_append_right _ hq))).1
      have e2 := (N' r.obj (.tail _ (List.mem_append_left _ (.tail _ (.tail _ (List.mem_map_of_mem rm)))))).1
      rw [e, e2] at e1
      exact (hne q hq).ne (n := r.n) (hRi r rm) (Option.some.inj e1).symm
    · rw [rk, says_put]
      unfold stepS
      cases hfe : fs.isEmpty with
      | true => rfl
      | false =>
        cases q : findR rows k with
        | none => rw [(hnew q).1] at hfe; cases hfe
        | some r' =>
          show putS (saysOf rows) k it = putF (saysOf rows) k it
          unfold putS putF
          rw [says_any, q]; rfl
    · rw [List.length_map]; exact insR_length
    · exact fun i hi => its_push (its_ins hi)
    · intro hfs
      rw [adrs_push]
      cases q : findR rows k with
      | none => exact absurd (hnew q).1 hfs
      | some r' => rw [insR_some q]
    · intro r' hr'
      obtain ⟨q, hq, e, _⟩ := its_map_push r' hr'
      rw [← e]
      cases z : findR rows k with
      | some y => rw [insR_some z] at hq; exact .inr ⟨q, hq, rfl⟩
      | none =>
        rw [insR_none z] at hq
        rcases List.mem_append.mp hq with hq | hq
        · exact .inr ⟨q, hq, rfl⟩
        · rw [List.mem_singleton.mp hq]; exact .inl rfl
    · exact (hRi.mono fun p hp => .tail _ hp).push (.head _)
  · have N' : News h₀ L s.heap ((t, itemObj it ta tb) :: (bookNews B d fs fp ep rows' ++ ((a, listObj #[] 0) :: rest))) := N
    have ma : (a, listObj #[] 0) ∈ ((t, itemObj it ta tb) :: (bookNews B d fs fp ep rows' ++ ((a, listObj #[] 0) :: rest))) := .tail _ (List.mem_append_right _ (.head _))
    refine append_news F N' ma (news' := bookNews B d fs fp ep rows' ++ ((t, itemObj it ta tb) :: rest)) (fun p hp => .inr ⟨?_, ?_⟩) (by decide) fun h' F' N2 _ => h h' _ F' N2 ⟨fun _ => G, ?_, Nat.le_succ _, fun i hi r hr => Nat.le_succ_of_le (hi r hr), fun _ => rfl, fun r hr => .inr ⟨r, hr, rfl⟩⟩ (hR.mono fun p hp => .tail _ hp)
    · rcases List.mem_append.mp hp with hp | hp
      · exact .tail _ (List.mem_append_left _ hp)
      · rcases List.mem_cons.mp hp with rfl | hp
        · exact .head _
        · exact .tail _ (List.mem_append_right _ (.tail _ hp))
    · have na : ∀ o, h₀.get? p.1 = none → s.heap.get? p.1 = some o → o ≠ listObj [].toArray 0 → p.1 ≠ a := fun o _ e1 e2 e3 => by
        rw [e3, (N' _ ma).1] at e1
        exact e2 (Option.some.inj e1).symm
      rcases List.mem_append.mp hp with hp | hp
      · rcases List.mem_cons.mp hp with rfl | hp
        · exact na _ (N' _ (.tail _ (.head _))).2.2 (N' _ (.tail _ (.head _))).1 (fun z => by cases z)
        · rcases List.mem_cons.mp hp with rfl | hp
          · exact na _ (N' _ (.tail _ (.tail _ (.head _)))).2.2 (N' _ (.tail _ (.tail _ (.head _)))).1 (fun z => absurd (congrArg Obj.cls z) (show ¬ (Value.type "dict" = Value.type "list") by decide))
          · obtain ⟨r, hr, rfl⟩ := List.mem_map.mp hp
            exact hra r hr
      · rcases List.mem_cons.mp hp with rfl | hp
        · exact na _ (N' _ (.head _)).2.2 (N' _ (.head _)).1 (fun z => absurd (congrArg Obj.cls z) (show ¬ (Value.type "tuple" = Value.type "list") by decide))
        · have z := N' p (.tail _ (List.mem_append_right _ (.tail _ hp)))
          exact na _ z.2.2 z.1 ((hne p hp).ne (ItemsIn.nil (news := [])))
    · unfold stepS
      rw [hfs]
      exact (putF_none hf).symm
end
theorem nodup_len : ∀ (S l : List Int), l.Nodup → (∀ x ∈ l, x ∈ S) → l.length ≤ S.length
  | S, [], _, _ => Nat.zero_le _
  | S, x :: l, hn, h => by
    rw [List.nodup_cons] at hn
    have hx := h x (.head _)
    have e := List.length_erase_of_mem hx
    have ih := nodup_len (S.erase x) l hn.2 fun y hy => (List.mem_erase_of_ne (fun (e : y = x) => hn.1 (by rw [← e]; exact hy))).mpr (h y (.tail _ hy))
    have : 0 < S.length := List.length_pos_of_mem hx
    rw [List.length_cons]
    omega
theorem few_rows {rows : List RowS} (G : GoodRows rows) (hk : ∀ r ∈ rows, 1 ≤ r.k ∧ r.k ≤ 4) : rows.length ≤ 4 := by
  have := nodup_len [1, 2, 3, 4] (rows.map (·.k)) G.keys fun x hx => by
    obtain ⟨r, hr, rfl⟩ := List.mem_map.mp hx
    have := hk r hr
    simp
    omega
  simpa using this
theorem list_book {w : World} {s : Shared} {l : List Env} {B d : Addr} {ep : Nat} {rows : List RowS} (hlen : rows.length ≤ 4) (X : (KK w.params).In s.heap) (hB : s.heap.get? B = some (bookObj d ((kvsOf rows).map entOf) ep)) :
    wpAny (model PySem.Challenge.rw_in0185_02.row.prog w) (AA 600 4000 l) (Sc (.call (.type "list") ⟨[.ref B], []⟩)) (Rets s fun v h' => ∃ D n, v = .ref D ∧ s.heap.get? D = none ∧ h'.get? D = some (listObj (rows.map fun r => Value.int r.k r.t).toArray n)) (fun _ _ => False) s := by
  match rows, hlen, hB with
  | [], _, hB => exact list_book0 X hB
  | [a], _, hB => exact list_book1 X hB
  | [a, b], _, hB => exact list_book2 X hB
  | [a, b, c], _, hB => exact list_book3 X hB
  | [a, b, c, e], _, hB => exact list_book4 X hB
  | _ :: _ :: _ :: _ :: _ :: _, h, _ => simp at h
end Mine
end
section
open PySem PySem.W PyProof.Rows PySem.Spec
set_option Elab.async false
set_option maxRecDepth 100000
set_option maxHeartbeats 8000000
namespace Mine
local macro_rules | `(tactic| k_room) => `(tactic| exact Nat.le_of_ble_eq_true rfl)
set_option pp.deepTerms false
theorem glc_ok2 {w : World} {l : List Env} {s : Shared} {R : Result → Shared → Prop} {p : Program} {loose : List Str} {mean : ExcName → Option Value} {mg mb : Str → Option Value} {x a b : Str} {t : Tok} {i j : Int}
    (X₁ : (KK w.params).In s.heap) (T : Top p loose mean mg mb s.heap) (hx : x.length ≤ 600)
    (hs : Txt.split x (Str.ofString ".") = [a, b]) (ha : PySem.intText? a = some i) (hb : PySem.intText? b = some j)
    (h : ∀ D h' tk t1 t2, Ext s.heap h' → s.heap.get? D = none → h'.get? D = some (tupOf [.int i t1, .int j t2]) → R (.ok (.ret (.ref D))) { s with heap := h', toks := tk }) :
    codeAny (model PySem.Challenge.rw_in0185_02.row.prog w) (AA 500 3000 l) (.call (.ref 213) ⟨[.str x t], []⟩) R s := by
  have X₀ := K_of_KK X₁
  revert X₀; k_fill; intro X₀
  w_top off
  refine' enterP X₀ T.nolimit ?k6 ?k7 ?k8 ?k9 ?kB ?_ ?c2 ?c3 ?c4 ?c5
  case k6 => k_is
  case k7 => k_is
  case k8 => k_room
  case k9 => exact BindsTo.of_eq rfl
  case kB => exact locs rfl
  case c2 => exact rfl
  case c3 => exact rfl
  case c4 => exact rfl
  case c5 => decide
  intro h₁ F N
  have kX := kFor F X₀
  (try dsimp only); (try k_fold)
  k_steps
  rename (List.map _ _ = Txt.split _ _) => hm
  rw [hs] at hm
  obtain ⟨ta, tb, rfl⟩ := two_of hm
  rename Fr _ _ _ _ => F1
  rename News _ _ _ (_ :: _) => N1
  refine map_line (f := .type "int") map_int F1 N1 (N1 _ (.head _)).1 rfl (Nat.le_of_ble_eq_true rfl) rfl rfl (Nat.le_of_ble_eq_true rfl) ?_
  intro M tt it h2 tk2 F2 N2 D2 x2
  clear F1 N1
  rename (∀ a ∈ _, Str.length a ≤ _) => hlen
  have la := hlen a (by simp)
  have lb := hlen b (by simp)
  dsimp only
  refine assign_tuple2 (unpack2 rfl (show MapAt h2 M tt it _ 0 _ #[.str a ta, .str b tb] from D2.at_) D2.ok (int_spec ha (by omega)) (int_spec hb (by omega)) ?_)
  rintro v1 v2 h3 tk3 ⟨t1, rfl⟩ ⟨t2, rfl⟩ x3
  have F3 := Fr.extBut F2 x3 D2.base D2.L
  have N3 := News.extBut N2 x3 D2.news
  clear F2 N2
  refine ⟨_, _, rfl, ?_⟩
  k_steps
  rename Fr _ _ _ _ => F4
  rename News _ _ _ (_ :: _) => N4
  exact h _ _ _ t1 t2 (fun b o e => F4.keep b o e) (N4 _ (.head _)).2.2 (N4 _ (.head _)).1
theorem parse_ok2 {w : World} {l : List Env} {s : Shared} {R : Result → Shared → Prop} {p : Program} {loose : List Str} {mean : ExcName → Option Value} {mg mb : Str → Option Value} {x a b : Str} {t : Tok}
    (X₁ : (KK w.params).In s.heap) (T : Top p loose mean mg mb s.heap) (hx : x.length ≤ 600)
    (hs : Txt.splitMax x (Str.ofString "=") 1 = [a, b])
    (h : ∀ D d h' tk t1 t2, Ext s.heap h' → s.heap.get? D = none → s.heap.get? d = none → D ≠ d → h'.get? D = some (pairObj d (Txt.strip a) t1 (Txt.strip b) t2) → h'.get? d = some (dictObj [] 0) → R (.ok (.ret (.ref D))) { s with heap := h', toks := tk }) :
    codeAny (model PySem.Challenge.rw_in0185_02.row.prog w) (AA 500 3000 l) (.call (.ref 197) ⟨[.ref 203, .str x t], []⟩) R s := by
  have X₀ := K_of_KK X₁
  revert X₀; k_fill; intro X₀
  w_top off
  refine' enterP X₀ T.nolimit ?k6 ?k7 ?k8 ?k9 ?kB ?_ ?c2 ?c3 ?c4 ?c5
  case k6 => k_is
  case k7 => k_is
  case k8 => k_room
  case k9 => exact BindsTo.of_eq rfl
  case kB => exact locs rfl
  case c2 => exact rfl
  case c3 => exact rfl
  case c4 => exact rfl
  case c5 => decide
  intro h₁ F N
  have kX := kFor F X₀
  (try dsimp only); (try k_fold)
  k_steps
  rename Fr _ _ _ _ => F0
  rename News _ _ _ _ => N0
  refine type_attr (X₀.keeps F0.keep) (by decide +kernel) (by decide +kernel) (a := .builtin "str.strip") (by k_is) (handed_builtin rfl) ?_
  k_steps
  rename (List.map _ _ = Txt.splitMax _ _ _) => hm
  rw [hs] at hm
  obtain ⟨ta, tb, rfl⟩ := two_of hm
  rename Fr _ _ _ _ => F1
  rename News _ _ _ (_ :: _) => N1
  refine map_line (f := .builtin "str.strip") map_strip F1 N1 (N1 _ (.head _)).1 rfl (Nat.le_of_ble_eq_true rfl) rfl rfl (Nat.le_of_ble_eq_true rfl) ?_
  intro M tt it h2 tk2 F2 N2 D2 x2
  clear F1 N1
  rename (∀ a ∈ _, Str.length a ≤ _) => hlen
  have la := hlen a (by simp)
  have lb := hlen b (by simp)
  dsimp only
  refine star_map2 rfl (show MapAt h2 M tt it _ 0 _ #[.str a ta, .str b tb] from D2.at_) D2.ok (strip_spec (by omega)) (strip_spec (by omega)) ?_
  rintro v1 v2 h3 tk3 ⟨t1, rfl⟩ ⟨t2, rfl⟩ x3
  have F3 := Fr.extBut F2 x3 D2.base D2.L
  have N3 := News.extBut N2 x3 D2.news
  clear F2 N2
  dsimp only
  have X3 : (KK w.params).In h3 := X₁.keeps F3.keep
  refine ⟨K_of_KK X3, ?_⟩
  refine call_rets (upW (pair_new X3) rfl (Nat.le_of_ble_eq_true rfl) rfl rfl (Nat.le_of_ble_eq_true rfl)) fun v h4 tk4 x4 ⟨D, d, e, n1, n2, n3, n4, n5⟩ => ?_
  subst e
  have none_of : ∀ z, h3.get? z = none → s.heap.get? z = none := fun z e => by
    cases q : s.heap.get? z with
    | none => rfl
    | some o => rw [F3.keep _ _ q] at e; cases e
  exact h D d h4 _ t1 t2 (fun b o e => x4 b o (F3.keep b o e)) (none_of _ n1) (none_of _ n2) n3 n4 n5
end Mine
end
section
open PySem PySem.W PyProof.Rows PySem.Spec
open PyProof.Rows.LCg PyProof.Rows.LCt
set_option Elab.async false
set_option maxRecDepth 100000
set_option maxHeartbeats 8000000
namespace Mine
theorem Hit.there {fs : List DictEntry} {rows rows' : List RowS} {k : Int} {t : Tok} {a B d : Addr} {fp ep : Nat} {det rest : List (Addr × Obj)} (H : Hit fs rows rows' k t a det) : ∃ us n, (a, listObj us n) ∈ bookNews B d fs fp ep rows' ++ (det ++ rest) := by
  rcases H with ⟨rfl, a₀, r, rfl, hr, rfl, _⟩ | ⟨rfl, rfl, _⟩
  · exact ⟨_, _, List.mem_append_left _ (.tail _ (.tail _ (List.mem_map_of_mem (f := RowS.obj) (findR_mem hr).1)))⟩
  · exact ⟨_, _, List.mem_append_right _ (.head _)⟩
theorem book_lsub {w : World} {A : Around} {E : Value → Shared → Prop} {s : Shared} {l : List Env} {h₀ : Heap} {L : Addr} {m : Str → Option Value} {B d : Addr} {fs : List DictEntry} {fp ep : Nat} {rows : List RowS} {rest : List (Addr × Obj)} {p : Program} {loose : List Str} {mean : ExcName → Option Value} {mg mb : Str → Option Value} {value slice : Expr} {k : Int} {t : Tok} {Q : Value → Shared → Prop} (hz : Froze h₀ B fs) (X : (KK w.params).In h₀) (T : Top p loose mean mg mb h₀) (F : Fr h₀ L s.heap m) (N : News h₀ L s.heap (bookNews B d fs fp ep rows ++ rest)) (G : GoodRows rows) (hrest : ∀ q ∈ rest, q.2.cls ≠ .ref 108 ∨ ∃ c, q.2.data = .cell c)
    (hs : subscripted slice false (.ref B) (.int k t) = operate [.ref B, .int k t] (getItem (.ref B) (.int k t)))
    (a1 : A.handled = none) (a2 : A.depth ≤ 500) (a3 : A.frames = some l) (a4 : A.guards = some []) (a5 : A.in1.units ≤ 3000)
    (h : ∀ a ep' h' tk rows' det, Fr h₀ L h' m → News h₀ L h' (bookNews B d fs fp ep' rows' ++ (det ++ rest)) → Hit fs rows rows' k t a det → Q (.ref a) { s with heap := h', toks := tk }) :
    wpAny (model PySem.Challenge.rw_in0185_02.row.prog w) A (subscriptTail value slice (.ref B) (.int k t)) Q E s := by
  have X₀ := K_of_KK (X.keeps F.keep)
  revert X₀; k_fill; intro X₀
  have g2 : findIn (hk.heap_39 w.params) (.ref 108) "__getitem__" = some (some (.builtin "dict.__getitem__")) := by k_is
  exact sub_book X₀ (bookAt_news N) g2 hs (book_look hz X T F N G hrest a1 a2 a3 a4 a5 h)
theorem book_fsub {w : World} {A : Around} {E : Value → Shared → Prop} {s : Shared} {h₀ : Heap} {L : Addr} {m : Str → Option Value} {B d : Addr} {fs : List DictEntry} {fp ep : Nat} {rows : List RowS} {rest : List (Addr × Obj)} {value slice : Expr} {k : Int} {t : Tok} {r : RowS} {Q : Value → Shared → Prop} (X : (KK w.params).In h₀) (F : Fr h₀ L s.heap m) (N : News h₀ L s.heap (bookNews B d fs fp ep rows ++ rest)) (hr : findR rows k = some r)
    (hs : subscripted slice false (.ref B) (.int k t) = operate [.ref B, .int k t] (getItem (.ref B) (.int k t)))
    (h : Q (.ref r.a) { s with toks := s.toks + 1 }) :
    wpAny (model PySem.Challenge.rw_in0185_02.row.prog w) A (subscriptTail value slice (.ref B) (.int k t)) Q E s := by
  have X₀ := K_of_KK (X.keeps F.keep)
  revert X₀; k_fill; intro X₀
  have g1 : noSeq (hk.heap_39 w.params) 108 = true := by k_is
  have g2 : findIn (hk.heap_39 w.params) (.ref 108) "__getitem__" = some (some (.builtin "dict.__getitem__")) := by k_is
  have g3 : subIn (hk.heap_39 w.params) (.ref 108) (.type "dict") = some true := by k_is
  refine sub_book X₀ (bookAt_news N) g2 hs ?_
  exact book_found X₀ (bookAt_news N) g1 g2 g3 (by rw [look_rows, hr]; rfl) h
theorem pieces_len (rs : List Mark) : rs.length ≤ (piecesOf rs).length := by
  unfold piecesOf
  split
  · rename_i e; subst e; exact Nat.zero_le _
  · rw [List.length_map]; exact Nat.le_refl _
theorem findR_at {rows : List RowS} (G : GoodRows rows) {r : RowS} (h : r ∈ rows) : findR rows r.k = some r := by
  cases q : findR rows r.k with
  | none => have := List.find?_eq_none.mp q r h; simp at this
  | some y =>
    obtain ⟨h1, h2⟩ := findR_mem q
    rw [nodup_inj G.keys h1 h h2]
theorem StrsAre.get' : ∀ {vs : List Value} {ys : List Str}, StrsAre vs ys → ∀ {i : Nat} {v : Value}, vs[i]? = some v → ∃ y t, v = .str y t ∧ ys[i]? = some y
  | _, _, .nil, i, v, h => by simp at h
  | _, _, .cons y t hr, 0, v, h => by simp at h; exact ⟨y, t, h.symm, rfl⟩
  | _, _, .cons y t hr, i + 1, v, h => by simpa using StrsAre.get' hr (by simpa using h)
theorem pieces_at {rs : List Mark} {i : Nat} {y : Str} (h : (piecesOf rs)[i]? = some y) : (y = Str.ofString "" ∧ rs = []) ∨ ∃ m, rs[i]? = some m ∧ y = rowText m := by
  unfold piecesOf at h
  split at h
  · rename_i e
    refine .inl ⟨?_, e⟩
    match i with
    | 0 => simpa using h.symm
    | i + 1 => simp at h
  · rw [List.getElem?_map] at h
    obtain ⟨m, hm, e⟩ := Option.map_eq_some_iff.mp h
    exact .inr ⟨m, hm, e.symm⟩
theorem pieces_ne (rs : List Mark) : piecesOf rs ≠ [] := by
  unfold piecesOf
  split
  · simp
  · rename_i e; simpa using e
theorem str_vals {lS : List (Str × Tok)} {rs : List Mark} (h : lS.map (·.1) = piecesOf rs) : ∃ y t vs, strValues lS = .str y t :: vs := by
  match lS, h with
  | [], h => exact absurd h.symm (pieces_ne rs)
  | (y, t) :: r, _ => exact ⟨y, t, _, rfl⟩
local macro_rules | `(tactic| k_room) => `(tactic| exact Nat.le_of_ble_eq_true rfl)
local macro_rules | `(tactic| walk_at "eval Name") => `(tactic| (k_here; (refine' ld ?k1 ?k2 ?_; (case k1 => k_asm); (case k2 => assumption); k_whole)))
local macro_rules | `(tactic| walk_at "eval ListComp") => `(tactic| (k_dflt (refine LCg.ListComp_U (F₀ := by k_asm) (by with_unfolding_all rfl) (by decide) (by rfl) (by decide) (by rfl) ?_)))
set_option pp.deepTerms false
theorem enter_ok {w : World} {l : List Env} {s : Shared} {g : Heap} {R : Result → Shared → Prop} {p : Program} {loose : List Str} {mean : ExcName → Option Value} {mg mb : Str → Option Value} {B d : Addr} {fs : List DictEntry} {fp ep : Nat} {rows : List RowS} {tups : List (Addr × Obj)} {rs : List Mark} {t : Tok}
    (GB : Base g s.heap) (X₁ : (KK w.params).In g) (T : Top p loose mean mg mb g) (N₀ : Apart g s.heap (bookNews B d fs fp ep rows ++ tups)) (hz : Froze g B fs) (GR : GoodRows rows) (hR : RowsIn tups rows) (ht : ∀ q ∈ tups, q.2.cls = .type "tuple") (hk : ∀ r ∈ rows, 1 ≤ r.k ∧ r.k ≤ 4) (hits : ∀ r ∈ rows, r.its.length ≤ 100)
    (good : ∀ m ∈ rs, GoodMark m ∧ 1 ≤ m.1 ∧ m.1 ≤ 4) (few : rs.length ≤ 8)
    (h : ∀ D h' tk ep' rows' tups', (∀ b o, g.get? b = some o → h'.get? b = some o) → (∀ q ∈ bookNews B d fs fp ep' rows' ++ tups', h'.get? q.1 = some q.2 ∧ g.get? q.1 = none) → GoodRows rows' → RowsIn tups' rows' → saysOf rows' = rs.foldl (stepS fs) (saysOf rows) → (fs ≠ [] → rows'.map (·.a) = rows.map (·.a)) → PairsNew g h' D (saysOf rows') → R (.ok (.ret (.ref D))) { s with heap := h', toks := tk }) :
    codeAny (model PySem.Challenge.rw_in0185_02.row.prog w) (AA 330 2000 l) (.call (.ref 256) ⟨[.ref B, .str (textOf rs) t], []⟩) R s := by
  have X₀ := K_of_KK X₁
  have goodT : ∀ m ∈ rs, GoodMark m := fun m hm => (good m hm).1
  have htl : (textOf rs).length ≤ 320 := Nat.le_trans (text_len goodT) (by omega)
  revert X₀; k_fill; intro X₀
  w_top off
  refine' enterPC (fun a o e => GB.stays _ _ (X₀ a o e)) (T.keeps GB.stays).nolimit ?k6 ?k7 ?k8 ?k9 ?kB ?kN ?_ ?c2 ?c3 ?c4
  case k6 => k_is
  case k7 => k_is
  case k8 => k_room
  case k9 => exact BindsTo.of_eq rfl
  case kB => rfl
  case kN => decide
  case c2 => exact rfl
  case c3 => exact rfl
  case c4 => exact rfl
  intro h₁ tk cells F N Y
  have N2 := N₀.news F
  replace N := news_app (news_base GB N) N2
  replace F := GB.fr F
  obtain ⟨oc, hE, dc⟩ := CellsAre.one Y
  subst hE
  clear Y N2
  have dc' : oc.data = .cell (some (.ref B)) := dc
  clear dc
  have kX := kFor F X₀
  simp only [List.cons_append, List.nil_append] at N
  (try dsimp only); (try k_fold)
  iterate 1 (first | walk1 | (dsimp only; walk1))
  refine For_invU g rfl rfl ?_
  iterate 8 (first | walk1 | (dsimp only; walk1))
  rename Fr _ _ _ _ => F1
  rename News _ _ _ _ => N1
  rename (List.map _ _ = Txt.split _ _) => hm
  rename (StrsAre (strValues _) _) => hS
  rename (Heap.IsList _ _ _) => hl
  rename_i lS a1 a2 a3
  rw [text_split goodT] at hm
  rw [hm] at hS

  dsimp only at hl N1 F1 ⊢
  rename Fr _ _ h₁ _ => F0
  rename News _ _ h₁ _ => N0
  clear F0 N0
  refine iter_JD (vs := strValues lS) (fun i m news => ∃ ep' rows' tups', news = (s.heap.objs.size + 1, oc) :: (bookNews B d fs fp ep' rows' ++ tups') ∧ GoodRows rows' ∧ RowsIn tups' rows' ∧ (∀ q ∈ tups', q.2.cls = .type "tuple") ∧ (∀ r ∈ rows', 1 ≤ r.k ∧ r.k ≤ 4) ∧ (∀ r ∈ rows', r.its.length ≤ 100 + i) ∧ saysOf rows' = (rs.take i).foldl (stepS fs) (saysOf rows) ∧ (fs ≠ [] → rows'.map (·.a) = rows.map (·.a))) ?ni rfl hl ?nL F1 (news_sub N1 fun p hp => .tail _ hp) ⟨ep, rows, tups, rfl, GR, hR, ht, hk, hits, rfl, fun _ => rfl⟩ ?turn ?done
  case ni =>
    rintro i m n ⟨ep', rows', tups', rfl, _, _, ht', _⟩ p hp
    rcases List.mem_cons.mp hp with rfl | hp
    · exact .inr ⟨_, dc'⟩
    · refine .inl ?_
      rcases List.mem_append.mp hp with hp | hp
      · rcases List.mem_cons.mp hp with rfl | hp
        · intro z; cases z
        · rcases List.mem_cons.mp hp with rfl | hp
          · exact fun z => absurd (show Value.type "dict" = Value.type "list_iterator" from z) (by decide)
          · obtain ⟨r, _, rfl⟩ := List.mem_map.mp hp
            exact fun z => absurd (show Value.type "list" = Value.type "list_iterator" from z) (by decide)
      · rw [ht' p hp]; exact fun z => absurd z (by decide)
  case nL => exact (N1 _ (.head _)).2.1
  case done =>
    intro m' news' h2 tk2 F2 N2 hJ
    obtain ⟨ep', rows', tups', rfl, G, hRi, htu, hkk, hii, hss, had⟩ := hJ
    rw [List.take_of_length_le (by rw [StrsAre.length' hS]; exact pieces_len rs)] at hss
    clear F1 N1
    dsimp only
    iterate 9 (first | walk1 | (dsimp only; walk1))
    rename Fr _ _ _ _ => F3
    rename News _ _ _ _ => N3
    refine call_rets (upW (list_book (rows := rows') (few_rows G hkk) (X₁.keeps F3.keep) (N3 _ (.tail _ (.head _))).1) rfl (Nat.le_of_ble_eq_true rfl) rfl rfl (Nat.le_of_ble_eq_true rfl)) fun v h4 tk4 x4 hv => ?_
    obtain ⟨D4, n4, e4, o1, o2⟩ := hv
    subst e4
    have F4 := Fr.ext F3 x4
    have N4 := news_new (nn := [(D4, listObj (rows'.map fun r => Value.int r.k r.t).toArray n4)]) F3 N3 x4 (fun p hp => by
      rw [List.mem_singleton.mp hp]; exact ⟨o2, o1⟩)
    simp only [List.cons_append, List.nil_append] at N4
    clear F3 N3
    dsimp only
    refine LCg.CompSrc.ledger rfl F4 N4 (.head _) (by rw [List.size_toArray, List.length_map]; exact Nat.le_trans (few_rows G hkk) (by decide +kernel)) fun g4 => ?_
    refine compU_ind (fun i ys news => ∃ tl, news = (D4, listObj (rows'.map fun r => Value.int r.k r.t).toArray n4) :: (s.heap.objs.size + 1, oc) :: (bookNews B d fs fp ep' rows' ++ (tl ++ tups')) ∧ PairsIn (rows'.map RowS.obj ++ (tl ++ tups')) ys (saysOf (rows'.take i))) ?fin ?cturn _ 0 [] _ (Nat.zero_add _) ⟨[], rfl, .nil⟩
    case fin =>
      rintro ys news ⟨tl, rfl, hP⟩
      intro D h5 tk5 F5 N5 off
      rw [List.size_toArray, List.length_map, List.take_length] at hP
      clear F4 N4
      k_steps
      refine h D _ _ ep' rows' tups' F5.keep (fun q hq => ?_) G hRi hss had ⟨ys, _, _, (N5 _ (.head _)).1, (N5 _ (.head _)).2.2, hP, fun p hp => ?_⟩
      · have z : q ∈ bookNews B d fs fp ep' rows' ++ (tl ++ tups') := by
          rcases List.mem_append.mp hq with hq | hq
          · exact List.mem_append_left _ hq
          · exact List.mem_append_right _ (List.mem_append_right _ hq)
        have z' := N5 q (.tail _ (.tail _ (.tail _ z)))
        exact ⟨z'.1, z'.2.2⟩
      · have z : p ∈ bookNews B d fs fp ep' rows' ++ (tl ++ tups') := .tail _ (.tail _ hp)
        exact ⟨(N5 p (.tail _ (.tail _ (.tail _ z)))).1, (N5 p (.tail _ (.tail _ (.tail _ z)))).2.2⟩
    case cturn =>
      rintro i ys news hlt ⟨tl, rfl, hP⟩ v I oI C oC D m₂ h5 tk5 E' hv hC hx F5 N5 off ne
      clear F4 N4
      obtain ⟨r, hr, rfl⟩ : ∃ r, rows'[i]? = some r ∧ v = .int r.k r.t := by
        have hv' : (rows'.map fun r => Value.int r.k r.t)[i]? = some v := by simpa using hv
        rw [List.getElem?_map] at hv'
        obtain ⟨r, a1, a2⟩ := Option.map_eq_some_iff.mp hv'
        exact ⟨r, a1, a2.symm⟩
      have dcC : h5.get? (s.heap.objs.size + 1) = some oc := (N5 _ (.tail _ (.tail _ (.tail _ (.tail _ (.head _)))))).1
      iterate 7 (first | walk1 | (dsimp only; walk1))
      rename Fr _ _ _ _ => F6
      rename News _ _ _ _ => N6
      refine book_fsub (B := B) (d := d) (fs := fs) (fp := fp) (ep := ep') (rows := rows') (rest := tl ++ tups') X₁ F6 (news_sub N6 fun p hp => .tail _ (.tail _ (.tail _ (.tail _ (.tail _ hp))))) (findR_at G (List.mem_of_getElem? hr)) rfl ?_
      iterate 2 (first | walk1 | (dsimp only; walk1))
      rename Fr _ _ _ _ => F7
      rename News _ _ _ _ => N7
      rename (@LT.lt Nat _ I _ ∧ _) => l7
      have rm : r ∈ rows' := List.mem_of_getElem? hr
      refine comp_end2 ((D4, listObj (rows'.map fun r => Value.int r.k r.t).toArray n4) :: (s.heap.objs.size + 1, oc) :: bookNews B d fs fp ep' rows') (nn := tl) (tl := tups') F7 N7 (Off3.of fun p hp => off.mem p ?osub) ⟨l7.1, l7.2.1, l7.2.2.1⟩ (.inr ⟨_, .head _, rfl, _, rfl⟩) ⟨_ :: tl, rfl, ?_⟩
      case osub =>
        rcases List.mem_append.mp hp with hp | hp
        · exact .tail _ (.tail _ (List.mem_append_right (bookNews B d fs fp ep' rows') (List.mem_append_left _ hp)))
        · rcases List.mem_append.mp hp with hp | hp
          · rcases List.mem_cons.mp hp with rfl | hp
            · exact .head _
            · rcases List.mem_cons.mp hp with rfl | hp
              · exact .tail _ (.head _)
              · exact .tail _ (.tail _ (List.mem_append_left _ hp))
          · exact .tail _ (.tail _ (List.mem_append_right (bookNews B d fs fp ep' rows') (List.mem_append_right _ hp)))
      have e1 : saysOf (rows'.take (i + 1)) = saysOf (rows'.take i) ++ [(r.k, r.its)] := by
        rw [List.take_add_one, hr, Option.toList_some]
        exact List.map_append
      rw [e1]
      refine PairsIn.snoc (ta := r.t) (b := r.a) (vs := r.vs) (n := r.n) (hP.mono fun p hp => ?_) (List.mem_append_right _ (.head _)) (List.mem_append_left _ (List.mem_map_of_mem (f := RowS.obj) rm)) ((hRi r rm).mono fun p hp => List.mem_append_right _ (.tail _ (List.mem_append_right _ hp)))
      rcases List.mem_append.mp hp with hp | hp
      · exact List.mem_append_left _ hp
      · exact List.mem_append_right _ (.tail _ hp)
  case turn =>
    intro i v m₁ news₁ s₁ own hv hJ ho hl₁ F2 N2
    obtain ⟨ep', rows', tups', rfl, G, hRi, htu, hkk, hii, hss, had⟩ := hJ
    obtain ⟨y, ty, rfl, hy⟩ := StrsAre.get' hS hv
    obtain ⟨y0, t0, us, hus⟩ := str_vals hm
    have own_ok : ∀ q ∈ own, NotRow q.2 ∧ q.2.cls ≠ .ref 108 := fun q hq => by
      rcases ho q hq with e | e
      · obtain ⟨o, ho1, ho2, n, ho3⟩ := hl₁
        have e1 := (N2 q (List.mem_append_left _ hq)).1
        rw [e, ho1] at e1
        have e2 := Option.some.inj e1
        refine ⟨.inr (.inr ⟨y0, t0, us, n, by rw [← e2, ho3, hus]⟩), by rw [← e2, ho2]; intro z; cases z⟩
      · exact ⟨.inl (by rw [e.2]; decide), by rw [e.2]; intro z; cases z⟩
    have N3 := news_sub N2 (news' := (s.heap.objs.size + 1, oc) :: (bookNews B d fs fp ep' rows' ++ (tups' ++ own))) (fun p hp => by
      rcases List.mem_cons.mp hp with rfl | hp
      · exact List.mem_append_right _ (.head _)
      · rcases List.mem_append.mp hp with hp | hp
        · exact List.mem_append_right _ (.tail _ (List.mem_append_left _ hp))
        · rcases List.mem_append.mp hp with hp | hp
          · exact List.mem_append_right _ (.tail _ (List.mem_append_right _ hp))
          · exact List.mem_append_left _ hp)
    clear N2 F1 N1
    obtain ⟨h2, gg, dd, tk2, os⟩ := s₁
    rcases pieces_at hy with ⟨rfl, rfl⟩ | ⟨mk, hmk, rfl⟩
    · k_steps
      rename Fr _ _ _ _ => F4
      rename News _ _ _ _ => N4
      refine turnJ F4 (news_sub N4 fun p hp => ?_) ⟨ep', rows', tups', rfl, G, hRi, htu, hkk, fun r hr => Nat.le_succ_of_le (hii r hr), ?_, had⟩
      · rcases List.mem_append.mp hp with hp | hp
        · exact .tail _ (List.mem_append_right _ (List.mem_append_right _ hp))
        · rcases List.mem_cons.mp hp with rfl | hp
          · exact .head _
          · rcases List.mem_append.mp hp with hp | hp
            · exact .tail _ (List.mem_append_left _ hp)
            · exact .tail _ (List.mem_append_right _ (List.mem_append_left _ hp))
      · rw [hss]; simp
    · have hne : (rowText mk != Str.ofString "") = true := by
        have hl1 := (row_len (goodT mk (List.mem_of_getElem? hmk))).2
        rw [bne_iff_ne]
        intro e
        rw [e] at hl1
        exact absurd hl1 (by decide +kernel)
      iterate 7 (first | walk1 | (dsimp only; walk1))
      rw [if_pos hne]
      iterate 11 (first | walk1 | (dsimp only; walk1))
      have Gm := goodT mk (List.mem_of_getElem? hmk)
      rename Fr _ _ _ _ => F8
      rename News _ _ _ _ => N8
      refine ⟨⟨(N8 _ (.head _)).1, kX.keeps F8.keep⟩, ?_⟩
      refine' call_meth ?hN ?hq ?_
      case hN => exact N8
      case hq => exact .head _
      refine up (parse_ok2 (X₁.keeps F8.keep) (T.keeps F8.keep) (Nat.le_trans (row_len Gm).1 (by decide)) (row_split Gm) ?_) rfl (Nat.le_of_ble_eq_true rfl) rfl rfl (Nat.le_of_ble_eq_true rfl)
      intro D9 d9 h9 tk9 u1 u2 x9 n1 n2 n3 n4 n5
      rw [row_name Gm, row_word Gm] at n4
      have F9 := Fr.ext F8 x9
      have N9 := news_new (nn := [(D9, _), (d9, _)]) F8 (news_sub N8 fun p hp => .tail _ hp) x9 (fun p hp => by
        rcases List.mem_cons.mp hp with rfl | hp
        · exact ⟨n4, n1⟩
        · rw [List.mem_singleton.mp hp]; exact ⟨n5, n2⟩)
      simp only [List.cons_append, List.nil_append] at N9
      clear F8 N8 F2 N3
      dsimp only
      iterate 10 (first | walk1 | (dsimp only; walk1))
      rename Fr _ _ _ _ => F8
      rename News _ _ _ _ => N8
      refine name_get (X₁.keeps F8.keep) (T.keeps F8.keep) (N8 _ (.head _)).1 (N8 _ (.tail _ (.head _))).1 rfl (Nat.le_of_ble_eq_true rfl) rfl rfl (Nat.le_of_ble_eq_true rfl) ?_
      intro h10 tk10 x10
      have F10 := Fr.ext F8 x10
      have N10 := News.ext N8 x10
      clear F8 N8 F9 N9
      iterate 2 (first | walk1 | (dsimp only; walk1))
      refine wpAny_call ?_
      refine up (glc_ok2 (i := mk.1) (j := mk.2.1) (X₁.keeps F10.keep) (T.keeps F10.keep) (Nat.le_trans (name_len Gm) (by decide)) (row_place Gm) (row_ints Gm).1 (row_ints Gm).2 ?_) rfl (Nat.le_of_ble_eq_true rfl) rfl rfl (Nat.le_of_ble_eq_true rfl)
      intro D11 h11 tk11 v1 v2 x11 o1 o2
      have F11 := Fr.ext F10 x11
      have N11 := news_new (nn := [(D11, (⟨.type "tuple", none, .seq #[.int mk.1 v1, .int mk.2.1 v2] 0, #[]⟩ : Obj))]) F10 N10 x11 (fun p hp => by
        rw [List.mem_singleton.mp hp]; exact ⟨o2, o1⟩)
      simp only [List.cons_append, List.nil_append] at N11
      clear F10 N10
      dsimp only
      iterate 10 (first | walk1 | (dsimp only; walk1))
      rename Fr _ _ _ _ => F12
      rename News _ _ _ _ => N12
      refine' sub2_0 ?hi ?ho ?hs ?_
      case hi => with_reducible rfl
      case ho => exact (N12 _ (.head _)).1
      case hs => rfl
      have N13 := news_sub N12 (news' := bookNews B d fs fp ep' rows' ++ ((D11, _) :: (D9, _) :: (d9, _) :: (s.heap.objs.size + 1, oc) :: (tups' ++ own))) (fun p hp => by
        rcases List.mem_append.mp hp with hp | hp
        · exact .tail _ (.tail _ (.tail _ (.tail _ (List.mem_append_left _ hp))))
        · rcases List.mem_cons.mp hp with rfl | hp
          · exact .head _
          · rcases List.mem_cons.mp hp with rfl | hp
            · exact .tail _ (.head _)
            · rcases List.mem_cons.mp hp with rfl | hp
              · exact .tail _ (.tail _ (.head _))
              · rcases List.mem_cons.mp hp with rfl | hp
                · exact .tail _ (.tail _ (.tail _ (.head _)))
                · exact .tail _ (.tail _ (.tail _ (.tail _ (List.mem_append_right (bookNews B d fs fp ep' rows') hp)))))
      refine book_lsub hz X₁ T F12 N13 G ?hrest rfl rfl (Nat.le_of_ble_eq_true rfl) rfl rfl (Nat.le_of_ble_eq_true rfl) ?_
      case hrest =>
        intro q hq
        rcases List.mem_cons.mp hq with rfl | hq
        · exact .inl (fun z => by cases z)
        · rcases List.mem_cons.mp hq with rfl | hq
          · exact .inl (fun z => absurd (show Value.ref 203 = Value.ref 108 from z) (by decide))
          · rcases List.mem_cons.mp hq with rfl | hq
            · exact .inl (fun z => by cases z)
            · rcases List.mem_cons.mp hq with rfl | hq
              · exact .inr ⟨_, dc'⟩
              · rcases List.mem_append.mp hq with hq | hq
                · rw [htu q hq]; exact .inl (fun z => by cases z)
                · exact .inl (own_ok q hq).2
      intro a ep'' h14 tk14 rows'' det F14 N14 hHit
      obtain ⟨us14, n14, hm14⟩ := hHit.there (B := B) (d := d) (fp := fp) (ep := ep'') (rest := (D11, (⟨.type "tuple", none, .seq #[.int mk.1 v1, .int mk.2.1 v2] 0, #[]⟩ : Obj)) :: (D9, pairObj d9 (numT mk.1 ++ Str.ofString "." ++ numT mk.2.1) u1 mk.2.2 u2) :: (d9, dictObj [] 0) :: (s.heap.objs.size + 1, oc) :: (tups' ++ own))
      have N15 := news_sub N14 (news' := (a, listObj us14 n14) :: (D11, (⟨.type "tuple", none, .seq #[.int mk.1 v1, .int mk.2.1 v2] 0, #[]⟩ : Obj)) :: (D9, pairObj d9 (numT mk.1 ++ Str.ofString "." ++ numT mk.2.1) u1 mk.2.2 u2) :: (d9, dictObj [] 0) :: (s.heap.objs.size + 1, oc) :: (bookNews B d fs fp ep'' rows'' ++ (det ++ (tups' ++ own)))) (fun p hp => by
        rcases List.mem_cons.mp hp with rfl | hp
        · exact hm14
        · rcases List.mem_cons.mp hp with rfl | hp
          · exact List.mem_append_right _ (List.mem_append_right _ (.head _))
          · rcases List.mem_cons.mp hp with rfl | hp
            · exact List.mem_append_right _ (List.mem_append_right _ (.tail _ (.head _)))
            · rcases List.mem_cons.mp hp with rfl | hp
              · exact List.mem_append_right _ (List.mem_append_right _ (.tail _ (.tail _ (.head _))))
              · rcases List.mem_cons.mp hp with rfl | hp
                · exact List.mem_append_right _ (List.mem_append_right _ (.tail _ (.tail _ (.tail _ (.head _)))))
                · rcases List.mem_append.mp hp with hp | hp
                  · exact List.mem_append_left _ hp
                  · rcases List.mem_append.mp hp with hp | hp
                    · exact List.mem_append_right _ (List.mem_append_left _ hp)
                    · exact List.mem_append_right _ (List.mem_append_right _ (.tail _ (.tail _ (.tail _ (.tail _ hp))))))
      clear F12 N12 N13 N14
      dsimp only
      iterate 8 (first | walk1 | (dsimp only; walk1))
      rename Fr _ _ _ _ => F16
      rename News _ _ _ _ => N16
      refine' sub2_1 ?hi ?ho ?hs ?_
      case hi => with_reducible rfl
      case ho => exact (N16 _ (.tail _ (.head _))).1
      case hs => rfl
      iterate 3 (first | walk1 | (dsimp only; walk1))
      rename Fr _ _ _ _ => F17
      rename News _ _ _ _ => N17
      refine value_get (X₁.keeps F17.keep) (T.keeps F17.keep) (N17 _ (.tail _ (.tail _ (.head _)))).1 (N17 _ (.tail _ (.tail _ (.tail _ (.head _))))).1 rfl (Nat.le_of_ble_eq_true rfl) rfl rfl (Nat.le_of_ble_eq_true rfl) ?_
      intro h18 tk18 x18
      have F18 := Fr.ext F17 x18
      have N18 := News.ext N17 x18
      clear F17 N17
      dsimp only
      iterate 3 (first | walk1 | (dsimp only; walk1))
      rename Fr _ _ _ _ => F19
      rename News _ _ _ _ => N19
      refine look_append (ta := v2) (tb := u2) (rows := rows') (rows' := rows'') (B := B) (d := d) (fs := fs) (fp := fp) (ep := ep'') (it := mk.2) (k := mk.1) (det := det) (tups := tups') (rest := (s.heap.objs.size + 1, oc) :: (tups' ++ own)) F19 (news_sub N19 ?sub) hHit G (Nat.le_trans (few_rows G hkk) (by decide)) (fun r hr => Nat.le_trans (hii r hr) (by have := (List.getElem?_eq_some_iff.mp hmk).1; omega)) hRi (fun q hq => .tail _ (List.mem_append_left _ hq)) ?hnr ?_
      case sub =>
        intro p hp
        rcases List.mem_cons.mp hp with rfl | hp
        · exact .head _
        · rcases List.mem_append.mp hp with hp | hp
          · exact .tail _ (.tail _ (.tail _ (.tail _ (.tail _ (.tail _ (List.mem_append_left _ hp))))))
          · rcases List.mem_append.mp hp with hp | hp
            · exact .tail _ (.tail _ (.tail _ (.tail _ (.tail _ (.tail _ (List.mem_append_right (bookNews B d fs fp ep'' rows'') (List.mem_append_left _ hp)))))))
            · rcases List.mem_cons.mp hp with rfl | hp
              · exact .tail _ (.tail _ (.tail _ (.tail _ (.tail _ (.head _)))))
              · exact .tail _ (.tail _ (.tail _ (.tail _ (.tail _ (.tail _ (List.mem_append_right (bookNews B d fs fp ep'' rows'') (List.mem_append_right _ hp)))))))
      case hnr =>
        intro q hq
        rcases List.mem_cons.mp hq with rfl | hq
        · exact .inr (.inl ⟨_, dc'⟩)
        · rcases List.mem_append.mp hq with hq | hq
          · exact .inl (by rw [htu q hq]; decide)
          · exact (own_ok q hq).1
      intro h20 rows3 F20 N20 St hR3
      k_steps
      refine turnJ F20 (news_sub N20 ?sub2) ⟨ep'', rows3, _ :: tups', rfl, St.good (Nat.le_trans (few_rows G hkk) (by decide)), hR3, ?_, ?_, St.its _ hii, ?_, fun e => (St.adr e).trans (had e)⟩
      case sub2 =>
        intro p hp
        rcases List.mem_append.mp hp with hp | hp
        · exact List.mem_append_right _ (.tail _ (.tail _ (List.mem_append_right _ hp)))
        · rcases List.mem_cons.mp hp with rfl | hp
          · exact List.mem_append_right _ (.tail _ (.head _))
          · rcases List.mem_append.mp (show p ∈ bookNews B d fs fp ep'' rows3 ++ (_ :: tups') from hp) with hp | hp
            · exact List.mem_append_left _ hp
            · rcases List.mem_cons.mp hp with rfl | hp
              · exact List.mem_append_right _ (.head _)
              · exact List.mem_append_right _ (.tail _ (.tail _ (List.mem_append_left _ hp)))
      · intro q hq
        rcases List.mem_cons.mp hq with rfl | hq
        · rfl
        · exact htu q hq
      · intro r hr
        rcases St.keys r hr with e | ⟨q, hq, e⟩
        · rw [e]; exact (good mk (List.mem_of_getElem? hmk)).2
        · rw [← e]; exact hkk q hq
      · rw [St.says, hss, List.take_add_one, hmk, Option.toList_some, List.foldl_append]
        rfl
end Mine
end
section
open PySem PySem.W PyProof.Rows
set_option Elab.async false
namespace Mine
theorem foldF {fs : List DictEntry} (hf : fs.isEmpty = false) (ls : List Int) (rs : List Mark) : rs.foldl (stepS fs) (ls.map fun k => (k, [])) = ls.map fun k => (k, underOf rs k) := by
  refine snoc_ind (P := fun rs => rs.foldl (stepS fs) (ls.map fun k => (k, [])) = ls.map fun k => (k, underOf rs k)) rfl ?_ rs
  intro l x ih
  rw [List.foldl_append, ih]
  show stepS fs _ x = _
  unfold stepS putF
  rw [hf]
  show List.map _ (List.map _ ls) = _
  rw [List.map_map]
  refine List.map_congr_left fun k _ => ?_
  show (if k = x.1 then (k, underOf l k ++ [x.2]) else (k, underOf l k)) = (k, underOf (l ++ [x]) k)
  rw [underOf_snoc]
  by_cases e : k = x.1
  · rw [if_pos e, if_pos e.symm]
  · rw [if_neg e, if_neg (Ne.symm e), List.append_nil]
theorem foldU (rs : List Mark) : rs.foldl (stepS []) [] = bookOf rs := rfl
theorem sum_len (ms : List Mark) : ∀ {ls : List Int}, ls.Nodup → (flatOf (ls.map fun k => (k, underOf ms k))).length ≤ ms.length := by
  refine snoc_ind (P := fun ms => ∀ {ls : List Int}, ls.Nodup → (flatOf (ls.map fun k => (k, underOf ms k))).length ≤ ms.length) ?_ ?_ ms
  · intro ls _
    have : flatOf (ls.map fun k => (k, underOf [] k)) = [] := by
      unfold flatOf underOf
      induction ls with
      | nil => rfl
      | cons a l ih => simp
    rw [this]; exact Nat.le_refl _
  · intro l x ih ls hn
    have key : ∀ {ls : List Int}, ls.Nodup → (flatOf (ls.map fun k => (k, underOf (l ++ [x]) k))).length = (flatOf (ls.map fun k => (k, underOf l k))).length + (if x.1 ∈ ls then 1 else 0) := by
      intro ls
      induction ls with
      | nil => intro _; rfl
      | cons a r ihr =>
        intro hn
        rw [List.nodup_cons] at hn
        have e : ∀ q : List Mark, flatOf ((a :: r).map fun k => (k, underOf q k)) = ((underOf q a).map fun it => (a, it)) ++ flatOf (r.map fun k => (k, underOf q k)) := fun q => by simp [flatOf]
        rw [e, e, List.length_append, List.length_append, List.length_map, List.length_map, ihr hn.2, underOf_snoc, List.length_append]
        by_cases h : x.1 = a
        · rw [if_pos h, if_neg (by rw [h]; exact hn.1), if_pos (by rw [h]; exact .head _)]; simp; omega
        · rw [if_neg h]
          by_cases h2 : x.1 ∈ r
          · rw [if_pos h2, if_pos (.tail _ h2)]; simp; omega
          · rw [if_neg h2, if_neg (by simp [h, h2])]; simp
    rw [key hn, List.length_append]
    have := ih hn
    show _ ≤ l.length + 1
    split <;> omega
theorem flat_mem {ms : List Mark} {ls : List Int} {m : Mark} (h : m ∈ flatOf (ls.map fun k => (k, underOf ms k))) : m ∈ ms := by
  unfold flatOf at h
  obtain ⟨p, hp, h2⟩ := List.mem_flatMap.mp h
  obtain ⟨k, _, rfl⟩ := List.mem_map.mp hp
  obtain ⟨it, hi, rfl⟩ := List.mem_map.mp h2
  exact under_mem hi
end Mine
end
section
open PySem PySem.W PyProof.Rows PySem.Spec
open PyProof.Rows.LCg PyProof.Rows.LCt
set_option Elab.async false
set_option maxRecDepth 100000
set_option maxHeartbeats 8000000
namespace Mine
/-- a heap without the book's own objects -/
abbrev hideB (h : Heap) (ps : List (Addr × Obj)) : Heap := hideAll h (ps.map (·.1))
theorem hideB_base (h : Heap) (ps : List (Addr × Obj)) : Base (hideB h ps) h := ⟨fun _ _ e => of_hideAll _ e, Nat.le_of_eq (hideAll_size _ _)⟩
theorem hideB_get {h : Heap} {ps : List (Addr × Obj)} {b : Addr} {o : Obj} (e : h.get? b = some o) (hb : ∀ p ∈ ps, p.1 ≠ b) : (hideB h ps).get? b = some o :=
  hideAll_get _ e fun hm => by obtain ⟨p, hp, e⟩ := List.mem_map.mp hm; exact hb p hp e
theorem hideB_none {h : Heap} {ps : List (Addr × Obj)} {p : Addr × Obj} (hp : p ∈ ps) : (hideB h ps).get? p.1 = none := hideAll_none _ (List.mem_map_of_mem hp)
/-- code table 100, empty or filled, its code kept in a base -/
def TabG (g h : Heap) : Prop := TabE h ∨ ∃ c, h.get? 100 = some (tabObj #[rawInt 43, rawInt 23, .ref c]) ∧ g.CodeRec (.ref c) lamQual
theorem ne_objs {h₀ h : Heap} {L : Addr} {news : List (Addr × Obj)} (N : News h₀ L h news) {p q : Addr × Obj} (hp : p ∈ news) (hq : q ∈ news) (hc : p.2 ≠ q.2) : p.1 ≠ q.1 := fun e => by
  have e1 := (N p hp).1
  rw [e, (N q hq).1] at e1
  exact hc (Option.some.inj e1).symm
theorem fr_keep {h₀ h h' : Heap} {L : Addr} {m : Str → Option Value} (F : Fr h₀ L h m) (bad : Addr → Prop) (keep : ∀ b o, ¬ bad b → h.get? b = some o → h'.get? b = some o) (hL : ¬ bad L) (hb : ∀ b, bad b → h₀.get? b = none) : Fr h₀ L h' m :=
  ⟨F.ns.at' fun o e => keep L o hL e, fun b o e => keep b o (fun x => by rw [hb b x] at e; cases e) (F.keep b o e), F.above⟩
/-- what a finite part of a heap tells can be kept by a ledger -/
theorem held_list {g h : Heap} {L : Addr} {m : Str → Option Value} (F : Fr g L h m) (W : List (Addr × Obj)) (hW : ∀ p ∈ W, h.get? p.1 = some p.2 ∧ p.1 ≠ L) :
    ∃ K, News g L h K ∧ (∀ p ∈ W, g.get? p.1 = none → p ∈ K) ∧ (∀ p ∈ K, p ∈ W) ∧ ∀ h' : Heap, (∀ b o, g.get? b = some o → h'.get? b = some o) → (∀ p ∈ K, h'.get? p.1 = some p.2) → ∀ p ∈ W, h'.get? p.1 = some p.2 := by
  refine ⟨W.filter fun p => (g.get? p.1).isNone, fun p hp => ?_, fun p hp hn => List.mem_filter.mpr ⟨hp, by rw [hn]; rfl⟩, fun p hp => (List.mem_filter.mp hp).1, fun h' k1 k2 p hp => ?_⟩
  · obtain ⟨h1, h2⟩ := List.mem_filter.mp hp
    exact ⟨(hW p h1).1, (hW p h1).2, Option.isNone_iff_eq_none.mp h2⟩
  · cases q : g.get? p.1 with
    | none => exact k2 p (List.mem_filter.mpr ⟨hp, by rw [q]; rfl⟩)
    | some o =>
      have e := F.keep _ _ q
      rw [(hW p hp).1] at e
      rw [Option.some.inj e]
      exact k1 _ _ q
theorem book_data {B d : Addr} {fs : List DictEntry} {fp ep : Nat} {rows : List RowS} {p : Addr × Obj} (h : p ∈ bookNews B d fs fp ep rows) : (∃ es n, p.2.data = .dict es n) ∨ ∃ vs n, p.2.data = .seq vs n := by
  rcases List.mem_cons.mp h with rfl | h
  · exact .inl ⟨_, _, rfl⟩
  · rcases List.mem_cons.mp h with rfl | h
    · exact .inl ⟨_, _, rfl⟩
    · obtain ⟨r, _, rfl⟩ := List.mem_map.mp h
      exact .inr ⟨_, _, rfl⟩
/-- what is no part of a book stays when it is hidden -/
theorem hide_keep {h : Heap} {B d : Addr} {fs : List DictEntry} {fp ep : Nat} {rows : List RowS} (N : ∀ p ∈ bookNews B d fs fp ep rows, h.get? p.1 = some p.2) {b : Addr} {o : Obj} (e : h.get? b = some o) (hd : (∀ es n, o.data ≠ .dict es n) ∧ ∀ vs n, o.data ≠ .seq vs n) : (hideB h (bookNews B d fs fp ep rows)).get? b = some o := hideB_get e fun p hp q => by
  have z := N p hp
  rw [q, e] at z
  have z' := Option.some.inj z
  rcases book_data hp with ⟨es, n, y⟩ | ⟨vs, n, y⟩
  · rw [← z'] at y; exact hd.1 _ _ y
  · rw [← z'] at y; exact hd.2 _ _ y
theorem hide_code {h : Heap} {B d : Addr} {fs : List DictEntry} {fp ep : Nat} {rows : List RowS} (N : ∀ p ∈ bookNews B d fs fp ep rows, h.get? p.1 = some p.2) {v : Value} {q : Str} (x : h.CodeRec v q) : (hideB h (bookNews B d fs fp ep rows)).CodeRec v q := by
  obtain ⟨c, o, vs, t, e1, e2, e3, e4⟩ := x
  exact ⟨c, o, vs, t, e1, hide_keep N e2 ⟨fun _ _ z => (by rw [e3] at z; cases z), fun _ _ z => (by rw [e3] at z; cases z)⟩, e3, e4⟩
theorem hide_lam {h : Heap} {B d : Addr} {fs : List DictEntry} {fp ep : Nat} {rows : List RowS} (N : ∀ p ∈ bookNews B d fs fp ep rows, h.get? p.1 = some p.2) {f B' : Addr} (x : LamAt h f B') : LamAt (hideB h (bookNews B d fs fp ep rows)) f B' := by
  obtain ⟨cell, oc, pm, c, ct, hf, hc, hcd, hcode⟩ := x
  exact ⟨cell, oc, pm, c, ct, hide_keep N hf ⟨fun _ _ z => (by cases z), fun _ _ z => (by cases z)⟩, hide_keep N hc ⟨fun _ _ z => (by rw [hcd] at z; cases z), fun _ _ z => (by rw [hcd] at z; cases z)⟩, hcd, hide_code N hcode⟩
theorem lists_of {news : List (Addr × Obj)} {B d : Addr} {fs : List DictEntry} {fp ep : Nat} : ∀ {rows : List RowS}, (∀ p ∈ bookNews B d fs fp ep rows, p ∈ news) → RowsIn news rows → ListsIn news (rows.map fun r => Value.ref r.a) (rows.map (·.its)) := by
  intro rows
  refine snoc_ind (P := fun rows => (∀ p ∈ bookNews B d fs fp ep rows, p ∈ news) → RowsIn news rows → ListsIn news (rows.map fun r => Value.ref r.a) (rows.map (·.its))) (fun _ _ => .nil) ?_ rows
  intro l r ih h1 h2
  have sub : ∀ r' ∈ l ++ [r], r'.obj ∈ news := fun r' hr => h1 _ (.tail _ (.tail _ (List.mem_map_of_mem hr)))
  have key : ∀ (l : List RowS), (∀ r' ∈ l, r'.obj ∈ news) → RowsIn news l → ListsIn news (l.map fun r => Value.ref r.a) (l.map (·.its)) := fun l => by
    refine snoc_ind (P := fun l => (∀ r' ∈ l, r'.obj ∈ news) → RowsIn news l → ListsIn news (l.map fun r => Value.ref r.a) (l.map (·.its))) (fun _ _ => .nil) ?_ l
    intro l r ih h1 h2
    rw [List.map_append, List.map_append]
    exact .snoc (ih (fun r' hr => h1 r' (List.mem_append_left _ hr)) fun r' hr => h2 r' (List.mem_append_left _ hr)) (h1 r (List.mem_append_right _ (.head _))) (h2 r (List.mem_append_right _ (.head _)))
  exact key _ sub h2
theorem off1_mem {D : Addr} : ∀ {l : List (Addr × Obj)}, Off1 D l → ∀ p ∈ l, p.1 ≠ D
  | [], _, _, h => nomatch h
  | _ :: _, x, p, h => by
    rcases List.mem_cons.mp h with rfl | h
    · exact x.1
    · exact off1_mem x.2 p h
theorem comp_endN {s₁ : Shared} {h₀ : Heap} {L : Addr} {m : Str → Option Value} {I C D : Addr} {y : Value} {oI oC oD : Obj} {S : List (Addr × Obj) → Prop} {rest : Value → List (Addr × Obj) → Prop} {h' : Heap} {tk : Nat} (pre : List (Addr × Obj)) {nn tl : List (Addr × Obj)} (F : Fr h₀ L h' m) (N : News h₀ L h' ((I, oI) :: (C, oC) :: (D, oD) :: (pre ++ (nn ++ tl)))) (off : Off3 I C D (nn ++ (pre ++ tl))) (hS : S (pre ++ (nn ++ tl))) (r : rest y (pre ++ (nn ++ tl))) :
    CompEnd h₀ L m s₁ I oI C oC D oD S rest y { s₁ with heap := h', toks := tk } := by
  refine CompEnd.intro F N (pre ++ (nn ++ tl)) (fun p hp => hp) (Off3.of fun p hp => off.mem p ?_) hS r
  simp only [List.mem_append] at hp ⊢
  rcases hp with h | h | h
  · exact .inr (.inl h)
  · exact .inl h
  · exact .inr (.inr h)
theorem asc2 {a b x : Addr × Obj} {nn tl K : List (Addr × Obj)} : a :: b :: (x :: (nn ++ (tl ++ K))) = a :: b :: ((x :: (nn ++ tl)) ++ K) := by simp
theorem asc1 {a b : Addr × Obj} {nn tl K : List (Addr × Obj)} : [a, b] ++ (nn ++ (tl.append K)) = a :: b :: ((nn ++ tl) ++ K) := by simp
theorem book_subA {w : World} {A : Around} {E : Value → Shared → Prop} {s : Shared} {l : List Env} {h₀ : Heap} {L : Addr} {m : Str → Option Value} {B d : Addr} {fp ep : Nat} {rows : List RowS} {rest : List (Addr × Obj)} {p : Program} {loose : List Str} {mean : ExcName → Option Value} {mg mb : Str → Option Value} {value slice : Expr} {k : Int} {t : Tok} {Q : Value → Shared → Prop} (X : (KK w.params).In h₀) (T : Top p loose mean mg mb h₀) (F : Fr h₀ L s.heap m) (N : News h₀ L s.heap (bookNews B d [] fp ep rows ++ rest)) (G : GoodRows rows) (hrest : ∀ q ∈ rest, q.1 ≠ B) (hnew : findR rows k = none)
    (hs : subscripted slice false (.ref B) (.int k t) = operate [.ref B, .int k t] (getItem (.ref B) (.int k t)))
    (a1 : A.handled = none) (a2 : A.depth ≤ 500) (a3 : A.frames = some l) (a4 : A.guards = some []) (a5 : A.in1.units ≤ 3000)
    (h : ∀ a ep' h' tk, Fr h₀ L h' m → News h₀ L h' (bookNews B d [] fp ep' (rows ++ [newRow k t a]) ++ rest) → (∀ q ∈ rows, q.a ≠ a) → (∀ q ∈ rest, q.1 ≠ a) → Q (.ref a) { s with heap := h', toks := tk }) :
    wpAny (model PySem.Challenge.rw_in0185_02.row.prog w) A (subscriptTail value slice (.ref B) (.int k t)) Q E s := by
  have X₀ := K_of_KK (X.keeps F.keep)
  revert X₀; k_fill; intro X₀
  have g2 : findIn (hk.heap_39 w.params) (.ref 108) "__getitem__" = some (some (.builtin "dict.__getitem__")) := by k_is
  refine sub_book X₀ (bookAt_news N) g2 hs (book_getA X T F N G hrest a1 a2 a3 a4 a5 fun a ep' h' tk r F' N' hr hn => ?_)
  obtain ⟨e1, e2, rfl⟩ := hn hnew
  rw [insR_none hnew] at N'
  exact h a ep' h' tk F' N' e1 e2
theorem ints_at {vl : List Value} {ls : List Int} (hI : IntsAre vl ls) {i : Nat} {v : Value} (hv : vl[i]? = some v) : ∃ k, ls[i]? = some k ∧ ∃ t, v = .int k t := by
  obtain ⟨hlt, _⟩ := List.getElem?_eq_some_iff.mp hv
  have hlt' : i < ls.length := hI.length ▸ hlt
  obtain ⟨t, ht⟩ := hI.get i ls[i] (List.getElem?_eq_getElem hlt')
  rw [hv] at ht
  exact ⟨_, List.getElem?_eq_getElem hlt', t, Option.some.inj ht⟩
theorem not_taken : ∀ {ls : List Int}, ls.Nodup → ∀ {i : Nat} {k : Int}, ls[i]? = some k → k ∉ ls.take i
  | [], _, i, k, h => by simp at h
  | a :: l, hn, 0, k, h => by simp
  | a :: l, hn, i + 1, k, h => by
    rw [List.nodup_cons] at hn
    have h' : l[i]? = some k := by simpa using h
    rw [List.take_succ_cons]
    intro hm
    rcases List.mem_cons.mp hm with e | hm
    · exact hn.1 (e ▸ List.mem_of_getElem? h')
    · exact not_taken hn.2 h' hm
theorem findR_no {rows : List RowS} {k : Int} (h : k ∉ rows.map (·.k)) : findR rows k = none := by
  refine List.find?_eq_none.mpr fun r hr => ?_
  simp
  exact fun e => h (e ▸ List.mem_map_of_mem hr)
theorem store_cell {prog : Program} {w : World} {A : Around} {E : Value → Shared → Prop} {s : Shared} {h₀ : Heap} {L c : Addr} {m : Str → Option Value} {env : Env} {name : Str} {o : Obj} {v₀ : Option Value} {v : Value} {news : List (Addr × Obj)} {Q : Unit → Shared → Prop} (hk : env.scope.kind = .function) (hl : env.kindOf name = some .cell) (hc : env.cells.lookup name = some c)
    (F : Fr h₀ L s.heap m) (N : News h₀ L s.heap ((c, o) :: news)) (hd : o.data = .cell v₀) (hne : ∀ p ∈ news, p.1 ≠ c) (h : ∀ h' o', Fr h₀ L h' m → News h₀ L h' ((c, o') :: news) → o'.data = .cell (some v) → Q () { s with heap := h' }) :
    wpAny (model prog w) A (storeName env name v) Q E s := by
  have z := N _ (.head _)
  refine wpAny_storeName_cell hk hl hc ⟨o, z.1, hd⟩ fun h' hv hs => ?_
  obtain ⟨o', ho', hd'⟩ := hv
  refine h h' o' (F.change hs z.2.1 z.2.2) (fun p hp => ?_) hd'
  rcases List.mem_cons.mp hp with rfl | hp
  · exact ⟨ho', z.2⟩
  · exact ⟨(hs.2 _ (hne p hp)).trans (N p (.tail _ hp)).1, (N p (.tail _ hp)).2⟩
local macro_rules | `(tactic| k_room) => `(tactic| exact Nat.le_of_ble_eq_true rfl)
local macro_rules | `(tactic| walk_at "eval Name") => `(tactic| (k_here; (refine' ld ?k1 ?k2 ?_; (case k1 => k_asm); (case k2 => assumption); k_whole)))
local macro_rules | `(tactic| walk_at "eval ListComp") => `(tactic| (k_dflt (refine LCg.ListComp_U (F₀ := by k_asm) (by with_unfolding_all rfl) (by decide) (by rfl) (by decide) (by rfl) ?_)))
local macro_rules | `(tactic| walk_at "call ref") => `(tactic| (rename Fr _ _ _ _ => F8; rename News _ _ _ _ => N8; refine wpAny_call (up (under_ok (Frag.In.keeps (by with_reducible assumption) F8.keep) (Top.keeps (by with_reducible assumption) F8.keep) (MarksAt.keeps (by with_reducible assumption) F8.keep) (by with_reducible assumption) ?_) rfl (Nat.le_of_ble_eq_true rfl) rfl rfl (Nat.le_of_ble_eq_true rfl)); intro D8 h8 tk8 x8 I8; obtain ⟨vs8, n8, nn8, w8, m8, i8⟩ := I8.give; have off8 := off_new N8 (by with_reducible assumption) (fun p hp => (w8 p hp).2); have F9 := Fr.ext F8 x8; have N9 := news_mid (pre := [_, _, _, _, _]) F8 N8 x8 w8; simp only [List.cons_append, List.nil_append] at N9; clear F8 N8; (try dsimp only)))
set_option pp.deepTerms false
theorem sieve_ok {w : World} {l : List Env} {s : Shared} {g : Heap} {R : Result → Shared → Prop} {p : Program} {loose : List Str} {mean : ExcName → Option Value} {mg mb : Str → Option Value} {S LL : Addr} {ms : List Mark} {vl : List Value} {ls : List Int} {t : Tok}
    (GB : Base g s.heap) (X₁ : (KK w.params).In g) (T : Top p loose mean mg mb g) (h100 : g.get? 100 = none) (tab : TabG g s.heap)
    (hS : MarksAt g S ms) (hL : g.IsList LL vl.toArray) (hI : IntsAre vl ls) (hn : ls.Nodup) (hk : ∀ k ∈ ls, 1 ≤ k ∧ k ≤ 4) (few : ms.length ≤ 8) (good : ∀ m ∈ ms, GoodMark m ∧ 1 ≤ m.1 ∧ m.1 ≤ 4)
    (h : ∀ h' tk, (∀ b o, g.get? b = some o → h'.get? b = some o) → TabF h' → R (.ok (.ret (.bool true))) { s with heap := h', toks := tk }) :
    codeAny (model PySem.Challenge.rw_in0185_02.row.prog w) (AA 320 1500 l) (.call (.ref 261) ⟨[.ref S, .str (textOf (flatOf (groupOf ms))) t, .ref LL], []⟩) R s := by
  have X₀ := K_of_KK X₁
  obtain ⟨ps, h100'⟩ : ∃ ps, s.heap.get? 100 = some (tabObj ps) := by
    rcases tab with t | ⟨c, t, r⟩
    · exact ⟨_, t⟩
    · exact ⟨_, t⟩
  revert X₀; k_fill; intro X₀
  w_top off
  refine' enterPC (fun a o e => GB.stays _ _ (X₀ a o e)) (T.keeps GB.stays).nolimit ?k6 ?k7 ?k8 ?k9 ?kB ?kN ?_ ?c2 ?c3 ?c4
  case k6 => k_is
  case k7 => k_is
  case k8 => k_room
  case k9 => exact BindsTo.of_eq rfl
  case kB => rfl
  case kN => decide
  case c2 => exact rfl
  case c3 => exact rfl
  case c4 => exact rfl
  intro h₁ tk cells F N Y
  have NT : Apart g s.heap [(100, tabObj ps)] := fun p hp => by rw [List.mem_singleton.mp hp]; exact ⟨h100', h100⟩
  obtain ⟨ob, oc, hE, db, dc⟩ := CellsAre.two Y
  subst hE
  clear Y
  have dc' : oc.data = .cell (some (.ref S)) := dc
  have db' : ob.data = .cell none := db
  clear dc db
  have N' := news_app (news_base GB N) (NT.news F)
  replace F := GB.fr F
  clear N
  have kX := kFor F X₀
  simp only [List.cons_append, List.nil_append] at N'
  (try dsimp only); (try k_fold)
  iterate 9 (first | walk1 | (dsimp only; walk1))
  rename Fr _ _ _ _ => F1
  rename News _ _ _ _ => N1
  refine call_rets (upW (book_new (s := ⟨_, _, _, _, _⟩) (X₁.keeps F1.keep)) rfl (Nat.le_of_ble_eq_true rfl) rfl rfl (Nat.le_of_ble_eq_true rfl)) fun v h2 tk2 x2 hv => ?_
  obtain ⟨B, d, e, n1, n2, n3, n4, n5⟩ := hv
  subst e
  have F2 := Fr.ext F1 x2
  have N2 := news_mid (pre := [_, _, _]) (tl := []) (nn := bookNews B d [] 0 0 []) F1 N1 x2 (fun p hp => by
    rcases List.mem_cons.mp hp with rfl | hp
    · exact ⟨n4, n1⟩
    · rw [List.mem_singleton.mp hp]; exact ⟨n5, n2⟩)
  simp only [List.cons_append, List.nil_append, List.append_nil] at N2
  have nB : ∀ p ∈ [(s.heap.objs.size + 1 + 1, ob), (s.heap.objs.size + 1, oc), (100, tabObj ps)], B ≠ p.1 ∧ d ≠ p.1 := fun p hp => by
    have e := (N1 p hp).1
    refine ⟨fun q => ?_, fun q => ?_⟩
    · rw [← q] at e; have := n1.symm.trans e; cases this
    · rw [← q] at e; have := n2.symm.trans e; cases this
  have lt100 : 100 < s.heap.objs.size := Heap.lt_size h100'
  clear F1 N1
  (try dsimp only)
  refine store_cell (o := ob) rfl rfl rfl F2 N2 db' (fun p hp => ?_) ?_
  · rcases List.mem_cons.mp hp with rfl | hp
    · exact Nat.ne_of_lt (Nat.lt_succ_self _)
    · rcases List.mem_cons.mp hp with rfl | hp
      · exact Nat.ne_of_lt (Nat.lt_of_lt_of_le lt100 (Nat.le_trans (Nat.le_succ _) (Nat.le_succ _)))
      · rcases List.mem_cons.mp hp with rfl | hp
        · exact (nB _ (.head _)).1
        · rw [List.mem_singleton.mp hp]; exact (nB _ (.head _)).2
  intro h3 ob3 F3 N3 db3
  clear F2 N2
  iterate 2 (first | walk1 | (dsimp only; walk1))
  refine LCg.Assign_ListComp_U (F₀ := F3) (by rfl) (by with_unfolding_all rfl) (by with_unfolding_all rfl) (by decide) (by rfl) (by decide) (by rfl) (by rfl) (by rfl) ?_
  iterate 1 (first | walk1 | (dsimp only; walk1))
  rename Fr _ _ _ _ => F4
  rename News _ _ _ _ => N4
  have hls4 : ls.length ≤ 4 := nodup_len [1, 2, 3, 4] ls hn fun x hx => by have := hk x hx; simp; omega
  refine LCg.CompSrc.base rfl F4 N4 hL (by rw [List.size_toArray, hI.length]; exact Nat.le_trans hls4 (by decide +kernel)) fun g4 => ?_
  refine compU_ind (fun i ys news => ∃ ep rows, news = (s.heap.objs.size + 1 + 1, ob3) :: (s.heap.objs.size + 1, oc) :: (100, tabObj ps) :: bookNews B d [] 0 ep rows ∧ rows.map (·.k) = ls.take i ∧ (∀ r ∈ rows, r.vs = [] ∧ r.its = []) ∧ ys = rows.map (fun r => Value.ref r.a) ∧ GoodRows rows) ?fin ?cturn _ 0 [] _ (Nat.zero_add _) ⟨0, [], rfl, rfl, (fun r hr => nomatch hr), rfl, ⟨by simp, by simp, by simp⟩⟩
  case cturn =>
    rintro i ys news hlt ⟨ep, rows, rfl, hkeys, hempty, rfl, GR⟩ v I oI C oC D m₂ h5 tk5 E' hv hC hx F5 N5 off ne
    clear F4 N4
    obtain ⟨k, hki, tk0, rfl⟩ := ints_at hI (show vl[i]? = some v from by simpa using hv)
    iterate 3 (first | walk1 | (dsimp only; walk1))
    rename Fr _ _ _ _ => F6
    rename News _ _ _ _ => N6
    have hkn : findR rows k = none := findR_no (by rw [hkeys]; exact not_taken hn hki)
    have N7 := news_sub N6 (news' := bookNews B d [] 0 ep rows ++ [(I, oI), (C, oC), (D, lst (rows.map fun r => Value.ref r.a)), (s.heap.objs.size + 1 + 1, ob3), (s.heap.objs.size + 1, oc), (100, tabObj ps)]) (fun p hp => by
      rcases List.mem_append.mp hp with hp | hp
      · exact .tail _ (.tail _ (.tail _ (.tail _ (.tail _ (.tail _ hp)))))
      · simp only [List.mem_cons, List.not_mem_nil, or_false] at hp ⊢
        rcases hp with h | h | h | h | h | h
        · exact .inl h
        · exact .inr (.inl h)
        · exact .inr (.inr (.inl h))
        · exact .inr (.inr (.inr (.inl h)))
        · exact .inr (.inr (.inr (.inr (.inl h))))
        · exact .inr (.inr (.inr (.inr (.inr (.inl h))))))
    refine book_subA X₁ T F6 N7 GR ?hrest hkn rfl rfl (Nat.le_of_ble_eq_true rfl) rfl rfl (Nat.le_of_ble_eq_true rfl) ?_
    case hrest =>
      have oB := off.mem (B, _) (.tail _ (.tail _ (.tail _ (.head _))))
      intro q hq
      simp only [List.mem_cons, List.not_mem_nil, or_false] at hq
      rcases hq with h | h | h | h | h | h <;> subst h
      · exact Ne.symm oB.1
      · exact Ne.symm oB.2.1
      · exact Ne.symm oB.2.2
      · exact Ne.symm (nB (_, ob) (.head _)).1
      · exact Ne.symm (nB (_, oc) (.tail _ (.head _))).1
      · exact Ne.symm (nB (_, tabObj ps) (.tail _ (.tail _ (.head _)))).1
    intro a ep' h7 tk7 F8 N8 ra rr
    have GR' : GoodRows (rows ++ [newRow k tk0 a]) := by
      have := good_ins (k := k) (t := tk0) (a := a) GR (by
        have e := congrArg List.length hkeys
        rw [List.length_map, List.length_take] at e
        omega) (fun _ => ra)
      rwa [insR_none hkn] at this
    refine CompEnd.intro F8 N8 ((s.heap.objs.size + 1 + 1, ob3) :: (s.heap.objs.size + 1, oc) :: (100, tabObj ps) :: bookNews B d [] 0 ep' (rows ++ [newRow k tk0 a])) (fun p hp => ?_) (Off3.of fun p hp => ?_) (.inl hL) ⟨ep', _, rfl, ?_, ?_, ?_, GR'⟩
    · rcases List.mem_cons.mp hp with h | hp
      · subst h; exact List.mem_append_right _ (.head _)
      · rcases List.mem_cons.mp hp with h | hp
        · subst h; exact List.mem_append_right _ (.tail _ (.head _))
        · rcases List.mem_cons.mp hp with h | hp
          · subst h; exact List.mem_append_right _ (.tail _ (.tail _ (.head _)))
          · rcases List.mem_cons.mp hp with h | hp
            · subst h; exact List.mem_append_right _ (.tail _ (.tail _ (.tail _ (.head _))))
            · rcases List.mem_cons.mp hp with h | hp
              · subst h; exact List.mem_append_right _ (.tail _ (.tail _ (.tail _ (.tail _ (.head _)))))
              · rcases List.mem_cons.mp hp with h | hp
                · subst h; exact List.mem_append_right _ (.tail _ (.tail _ (.tail _ (.tail _ (.tail _ (.head _))))))
                · exact List.mem_append_left _ hp
    · rcases List.mem_cons.mp hp with h | hp
      · subst h; exact off.mem _ (.head _)
      · rcases List.mem_cons.mp hp with h | hp
        · subst h; exact off.mem _ (.tail _ (.head _))
        · rcases List.mem_cons.mp hp with h | hp
          · subst h; exact off.mem _ (.tail _ (.tail _ (.head _)))
          · rcases List.mem_cons.mp hp with h | hp
            · subst h
              exact off.mem (B, bookObj d ((kvsOf rows).map entOf) ep) (.tail _ (.tail _ (.tail _ (.head _))))
            · rcases List.mem_cons.mp hp with h | hp
              · subst h; exact off.mem _ (.tail _ (.tail _ (.tail _ (.tail _ (.head _)))))
              · rw [List.map_append] at hp
                rcases List.mem_append.mp hp with hp | hp
                · exact off.mem _ (.tail _ (.tail _ (.tail _ (.tail _ (.tail _ hp)))))
                · rw [List.map_cons, List.map_nil, List.mem_singleton] at hp
                  subst hp
                  exact ⟨Ne.symm (rr _ (.head _)), Ne.symm (rr _ (.tail _ (.head _))), Ne.symm (rr _ (.tail _ (.tail _ (.head _))))⟩
    · rw [List.map_append, hkeys, List.take_add_one, hki]; rfl
    · intro r hr
      rcases List.mem_append.mp hr with hr | hr
      · exact hempty r hr
      · rw [List.mem_singleton.mp hr]; exact ⟨rfl, rfl⟩
    · rw [List.map_append]; rfl
  case fin =>
    rintro ys news ⟨ep, rows, rfl, hkeys, hempty, rfl, GR⟩
    rw [List.size_toArray, hI.length, List.take_length] at hkeys
    intro Dl h5 tk5 F5 N5 off
    clear F4 N4
    dsimp only
    iterate 4 (first | walk1 | (dsimp only; walk1))
    rename Fr _ _ _ _ => F6
    rename News _ _ _ _ => N6
    have X6 := K_of_KK (X₁.keeps F6.keep)
    have D6 : BookAt h5 B d (kvsOf rows) ep [] 0 := ⟨(N6 _ (.tail _ (.tail _ (.tail _ (.tail _ (.head _)))))).1, (N6 _ (.tail _ (.tail _ (.tail _ (.tail _ (.tail _ (.head _))))))).1⟩
    revert X6; k_fill; intro X6
    refine method_fn2 X6 (book_inst D6) (f := 105) (gid := ddga) ?m1 dga_canon ?m2 ?m3 ?m4 ?m5 ?_
    case m1 => k_is
    case m2 => k_is
    case m3 => k_is
    case m4 => k_is
    case m5 => kernel_rfl
    iterate 1 (first | walk1 | (dsimp only; walk1))
    have nd100 : d ≠ 100 := (nB _ (.tail _ (.tail _ (.head _)))).2
    have nB100 : B ≠ 100 := (nB _ (.tail _ (.tail _ (.head _)))).1
    have e5 : h5.get? 100 = s.heap.get? 100 := (N6 _ (.tail _ (.tail _ (.tail _ (.head _))))).1.trans h100'.symm
    have tab5 : TabE h5 ∨ TabF h5 := by
      rcases tab with t0 | ⟨c, t0, r0⟩
      · exact .inl (e5.trans t0)
      · exact .inr ⟨c, e5.trans t0, r0.keeps F6.keep⟩
    refine wpAny_call ?_
    refine up (freeze_ok (g := g) ⟨F6.keep, Nat.le_trans F6.above (Nat.le_of_lt F6.ns.lt)⟩ X₁ T D6 h100 nd100 nB100 tab5 ?_) rfl (Nat.le_of_ble_eq_true rfl) rfl rfl (Nat.le_of_ble_eq_true rfl)
    intro h6 tk6 f hs6 t6 keep6 hd6 lam6 tab6
    have mBo : (B, bookObj d ((kvsOf rows).map entOf) ep) ∈ bookNews B d [] 0 ep rows := .head _
    have mdo : (d, dictObj [] 0) ∈ bookNews B d [] 0 ep rows := .tail _ (.head _)
    have big : 100 < s.heap.objs.size + 1 := Nat.lt_succ_of_lt lt100
    have F7 := fr_keep (h' := h6) F6 (fun b => b = d ∨ b = 100) (fun b o hb e => keep6 b o (fun q => hb (.inl q)) (fun q => hb (.inr q)) e) (by
      rintro (q | q)
      · exact (N6 (d, dictObj [] 0) (.tail _ (.tail _ (.tail _ (.tail _ (.tail _ (.head _))))))).2.1 q.symm
      · exact (N6 (100, tabObj ps) (.tail _ (.tail _ (.tail _ (.head _))))).2.1 q.symm) (by
      rintro b (rfl | rfl)
      · exact (N6 (b, dictObj [] 0) (.tail _ (.tail _ (.tail _ (.tail _ (.tail _ (.head _))))))).2.2
      · exact h100)
    have N7 : News g s.heap.objs.size h6 ((s.heap.objs.size + 1 + 1, ob3) :: (s.heap.objs.size + 1, oc) :: (Dl, lst (rows.map fun r => Value.ref r.a)) :: bookNews B d [⟨hs6, .str frozenName t6, .ref f⟩] 1 ep rows) := by
      have up : ∀ p, p ∈ ((Dl, lst (rows.map fun r => Value.ref r.a)) :: (s.heap.objs.size + 1 + 1, ob3) :: (s.heap.objs.size + 1, oc) :: (100, tabObj ps) :: bookNews B d [] 0 ep rows) → p.1 ≠ d → p.1 ≠ 100 → h6.get? p.1 = some p.2 ∧ p.1 ≠ s.heap.objs.size ∧ g.get? p.1 = none := fun p hp q1 q2 => ⟨keep6 _ _ q1 q2 (N6 p hp).1, (N6 p hp).2⟩
      have m100 : (100, tabObj ps) ∈ ((Dl, lst (rows.map fun r => Value.ref r.a)) :: (s.heap.objs.size + 1 + 1, ob3) :: (s.heap.objs.size + 1, oc) :: (100, tabObj ps) :: bookNews B d [] 0 ep rows) := .tail _ (.tail _ (.tail _ (.head _)))
      have md : (d, dictObj [] 0) ∈ ((Dl, lst (rows.map fun r => Value.ref r.a)) :: (s.heap.objs.size + 1 + 1, ob3) :: (s.heap.objs.size + 1, oc) :: (100, tabObj ps) :: bookNews B d [] 0 ep rows) := .tail _ (.tail _ (.tail _ (.tail _ (.tail _ (.head _)))))
      intro p hp
      rcases List.mem_cons.mp hp with rfl | hp
      · exact up _ (.tail _ (.head _)) (Ne.symm (nB (_, ob) (.head _)).2) (Nat.ne_of_gt (Nat.lt_succ_of_lt big))
      · rcases List.mem_cons.mp hp with rfl | hp
        · exact up _ (.tail _ (.tail _ (.head _))) (Ne.symm (nB (_, oc) (.tail _ (.head _))).2) (Nat.ne_of_gt big)
        · rcases List.mem_cons.mp hp with rfl | hp
          · exact up _ (.head _) (Ne.symm (off.2.2.2.2.1)) (Ne.symm (off.2.2.1))
          · rcases List.mem_cons.mp hp with rfl | hp
            · exact up _ (.tail _ (.tail _ (.tail _ (.tail _ (.head _))))) (ne_objs N6 (.tail _ (.tail _ (.tail _ (.tail _ (.head _))))) md (fun z => by cases z)) nB100
            · rcases List.mem_cons.mp hp with rfl | hp
              · exact ⟨hd6, (N6 _ md).2⟩
              · have mr : p ∈ ((Dl, lst (rows.map fun r => Value.ref r.a)) :: (s.heap.objs.size + 1 + 1, ob3) :: (s.heap.objs.size + 1, oc) :: (100, tabObj ps) :: bookNews B d [] 0 ep rows) := .tail _ (.tail _ (.tail _ (.tail _ (.tail _ (.tail _ hp)))))
                obtain ⟨r, hr, rfl⟩ := List.mem_map.mp hp
                exact up _ mr (ne_objs N6 mr md (fun z => absurd (congrArg Obj.cls z) (show ¬ (Value.type "list" = Value.type "dict") by decide))) (ne_objs N6 mr m100 (fun z => by cases z))
    clear F6 N6
    iterate 11 (first | walk1 | (dsimp only; walk1))
    rename Fr _ _ _ _ => F8
    rename News _ _ _ _ => N8
    have st8 : ∀ b o, g.get? b = some o → (hideB h6 (bookNews B d [⟨hs6, .str frozenName t6, .ref f⟩] 1 ep rows)).get? b = some o := fun b o e => hideB_get (F8.keep b o e) fun p hp q => by
      have z := (N8 p (.tail _ (.tail _ (.tail _ hp)))).2.2
      rw [q, e] at z; cases z
    have lam8 : LamAt (hideB h6 (bookNews B d [⟨hs6, .str frozenName t6, .ref f⟩] 1 ep rows)) f B := hide_lam (fun p hp => (N8 p (.tail _ (.tail _ (.tail _ hp)))).1) lam6
    have goodF : ∀ m ∈ flatOf (groupOf ms), GoodMark m ∧ 1 ≤ m.1 ∧ m.1 ≤ 4 := fun m hm => good m (flat_mem hm)
    refine wpAny_call ?_
    refine up (enter_ok (g := hideB h6 (bookNews B d [⟨hs6, .str frozenName t6, .ref f⟩] 1 ep rows)) (B := B) (d := d) (fs := [⟨hs6, .str frozenName t6, .ref f⟩]) (fp := 1) (ep := ep) (rows := rows) (tups := []) (rs := flatOf (groupOf ms)) (hideB_base _ _) (X₁.keeps st8) (T.keeps st8) (fun p hp => ?_) (.inr ⟨_, _, _, rfl, lam8⟩) GR (fun r hr => ?_) (fun q hq => nomatch hq) (fun r hr => ?_) (fun r hr => ?_) goodF (Nat.le_trans (sum_len ms (linesOf_nodup ms)) few) ?_) rfl (Nat.le_of_ble_eq_true rfl) rfl rfl (Nat.le_of_ble_eq_true rfl)
    · rw [List.append_nil] at hp
      exact ⟨(N8 p (.tail _ (.tail _ (.tail _ hp)))).1, hideB_none hp⟩
    · rw [(hempty r hr).1, (hempty r hr).2]; exact .nil
    · refine hk _ ?_
      rw [← hkeys]; exact List.mem_map_of_mem hr
    · rw [(hempty r hr).2]; exact Nat.zero_le _
    intro P h9 tk9 ep9 rows9 tups9 keep9 book9 G9 R9 says9 adr9 new9
    have NB8 : ∀ p ∈ bookNews B d [⟨hs6, .str frozenName t6, .ref f⟩] 1 ep rows, h6.get? p.1 = some p.2 := fun p hp => (N8 p (.tail _ (.tail _ (.tail _ hp)))).1
    have F9 := fr_keep (h' := h9) F8 (fun b => ∃ p ∈ bookNews B d [⟨hs6, .str frozenName t6, .ref f⟩] 1 ep rows, p.1 = b) (fun b o hb e => keep9 b o (hideB_get e fun p hp q => hb ⟨p, hp, q⟩)) (by
      rintro ⟨p, hp, q⟩
      exact (N8 p (.tail _ (.tail _ (.tail _ hp)))).2.1 q) (by
      rintro b ⟨p, hp, rfl⟩
      exact (N8 p (.tail _ (.tail _ (.tail _ hp)))).2.2)
    have gL : (hideB h6 (bookNews B d [⟨hs6, .str frozenName t6, .ref f⟩] 1 ep rows)).get? s.heap.objs.size ≠ none := by
      obtain ⟨oL, _, _, hL8, _⟩ := F8.ns
      intro z
      rw [hideB_get hL8 (fun p hp => (N8 p (.tail _ (.tail _ (.tail _ hp)))).2.1)] at z
      cases z
    have neL : ∀ a, (hideB h6 (bookNews B d [⟨hs6, .str frozenName t6, .ref f⟩] 1 ep rows)).get? a = none → a ≠ s.heap.objs.size := fun a e q => gL (q ▸ e)
    have noG : ∀ a, (hideB h6 (bookNews B d [⟨hs6, .str frozenName t6, .ref f⟩] 1 ep rows)).get? a = none → g.get? a = none := fun a e => by
      cases q : g.get? a with
      | none => rfl
      | some o => rw [st8 _ _ q] at e; cases e
    obtain ⟨cT, hT1, cT', oT, vT, tT, eT, hT2, hT3, hT4⟩ := tab6
    cases eT
    obtain ⟨pv, pn, pnews, hP1, hP2, hP3, hP4⟩ := new9
    have kD : (hideB h6 (bookNews B d [⟨hs6, .str frozenName t6, .ref f⟩] 1 ep rows)).get? Dl = some (lst (rows.map fun r => Value.ref r.a)) := by
      refine hideB_get (N8 _ (.tail _ (.tail _ (.head _)))).1 fun p hp q => ?_
      rcases List.mem_cons.mp hp with h | hp
      · subst h; exact off.2.2.2.1 q
      · rcases List.mem_cons.mp hp with h | hp
        · subst h; exact off.2.2.2.2.1 q
        · exact off1_mem off p (.tail _ (.tail _ (.tail _ (.tail _ (.tail _ hp))))) q
    have hW : ∀ p ∈ ((100, tabObj #[rawInt 43, rawInt 23, .ref cT]) :: (cT, oT) :: (Dl, lst (rows.map fun r => Value.ref r.a)) :: (P, listObj pv.toArray pn) :: (pnews ++ (bookNews B d [⟨hs6, .str frozenName t6, .ref f⟩] 1 ep9 rows9 ++ tups9)) : List (Addr × Obj)), h9.get? p.1 = some p.2 ∧ p.1 ≠ s.heap.objs.size := by
      intro p hp
      rcases List.mem_cons.mp hp with h | hp
      · subst h; exact ⟨keep9 _ _ (hide_keep NB8 hT1 ⟨fun _ _ z => (by cases z), fun _ _ z => (by cases z)⟩), Nat.ne_of_lt lt100⟩
      · rcases List.mem_cons.mp hp with h | hp
        · subst h
          refine ⟨keep9 _ _ (hide_keep NB8 hT2 ⟨fun _ _ z => (by rw [hT3] at z; cases z), fun _ _ z => (by rw [hT3] at z; cases z)⟩), fun q => ?_⟩
          obtain ⟨oL, es, ep', hL8, hLd, _⟩ := F8.ns
          rw [← q, show _ = _ from hT2] at hL8
          cases hL8
          rw [hT3] at hLd; cases hLd
        · rcases List.mem_cons.mp hp with h | hp
          · subst h; exact ⟨keep9 _ _ kD, (N8 _ (.tail _ (.tail _ (.head _)))).2.1⟩
          · rcases List.mem_cons.mp hp with h | hp
            · subst h; exact ⟨hP1, neL _ hP2⟩
            · rcases List.mem_append.mp hp with hp | hp
              · exact ⟨(hP4 p hp).1, neL _ (hP4 p hp).2⟩
              · exact ⟨(book9 p hp).1, neL _ (book9 p hp).2⟩
    have HL := held_list F9 _ hW
    obtain ⟨K, NK, inK, _, fromK⟩ := HL
    have hrows : saysOf rows = ls.map fun k => (k, []) := by
      rw [← hkeys, List.map_map]
      refine List.map_congr_left fun r hr => ?_
      show (r.k, r.its) = (r.k, [])
      rw [(hempty r hr).2]
    have hPS : saysOf rows9 = ls.map fun k => (k, underOf ms k) := by
      rw [says9, hrows, foldF rfl]
      refine List.map_congr_left fun k _ => ?_
      rw [under_group]
    have pairsK : ∀ h' : Heap, (∀ b o, g.get? b = some o → h'.get? b = some o) → (∀ p ∈ K, h'.get? p.1 = some p.2) → PairsAt h' P (ls.map fun k => (k, underOf ms k)) := fun h' k1 k2 =>
      ⟨pv, pn, pnews, fromK h' k1 k2 (P, _) (.tail _ (.tail _ (.tail _ (.head _)))), hPS ▸ hP3, fun p hp => fromK h' k1 k2 p (.tail _ (.tail _ (.tail _ (.tail _ (List.mem_append_left _ hp)))))⟩
    have listsK : ∀ h' : Heap, (∀ b o, g.get? b = some o → h'.get? b = some o) → (∀ p ∈ K, h'.get? p.1 = some p.2) → ListsAt h' Dl (ls.map fun k => underOf ms k) := fun h' k1 k2 => by
      refine ⟨rows.map (fun r => Value.ref r.a), _, bookNews B d [⟨hs6, .str frozenName t6, .ref f⟩] 1 ep9 rows9 ++ tups9, fromK h' k1 k2 (Dl, _) (.tail _ (.tail _ (.head _))), ?_, fun p hp => fromK h' k1 k2 p (.tail _ (.tail _ (.tail _ (.tail _ (List.mem_append_right _ hp)))))⟩
      have e1 : rows.map (fun r => Value.ref r.a) = rows9.map (fun r => Value.ref r.a) := by
        have := congrArg (List.map Value.ref) (adr9 (by simp))
        rw [List.map_map, List.map_map] at this
        exact this.symm
      have e2 : (ls.map fun k => underOf ms k) = rows9.map (·.its) := by
        have := congrArg (List.map (·.2)) hPS
        rw [List.map_map, List.map_map] at this
        exact this.symm
      rw [e1, e2]
      exact lists_of (fun p hp => List.mem_append_left _ hp) (R9.mono fun p hp => List.mem_append_right _ hp)
    have tabK : ∀ h' : Heap, (∀ b o, g.get? b = some o → h'.get? b = some o) → (∀ p ∈ K, h'.get? p.1 = some p.2) → TabF h' := fun h' k1 k2 =>
      ⟨cT, fromK h' k1 k2 (100, _) (.head _), cT, oT, vT, tT, rfl, fromK h' k1 k2 (cT, oT) (.tail _ (.head _)), hT3, hT4⟩
    have inP : (P, listObj pv.toArray pn) ∈ K := inK _ (.tail _ (.tail _ (.tail _ (.head _)))) (noG _ hP2)
    have inT : ∀ p ∈ pnews, p ∈ K := fun p hp => inK p (.tail _ (.tail _ (.tail _ (.tail _ (List.mem_append_left _ hp))))) (noG _ (hP4 p hp).2)
    have N9 : News g s.heap.objs.size h9 ((s.heap.objs.size + 1 + 1, ob3) :: (s.heap.objs.size + 1, oc) :: K) := fun p hp => by
      rcases List.mem_cons.mp hp with h | hp
      · subst h; exact ⟨keep9 _ _ (hide_keep NB8 (N8 _ (.head _)).1 ⟨fun _ _ z => (by rw [db3] at z; cases z), fun _ _ z => (by rw [db3] at z; cases z)⟩), (N8 _ (.head _)).2⟩
      · rcases List.mem_cons.mp hp with h | hp
        · subst h; exact ⟨keep9 _ _ (hide_keep NB8 (N8 _ (.tail _ (.head _))).1 ⟨fun _ _ z => (by rw [dc'] at z; cases z), fun _ _ z => (by rw [dc'] at z; cases z)⟩), (N8 _ (.tail _ (.head _))).2⟩
        · exact NK p hp
    rw [hPS] at hP3
    clear F8 N8 hW keep9 book9 R9 says9 adr9 kD gL neL noG NB8 lam8 st8 lam6 hd6 keep6 NK fromK inK G9 hP1 hP2 hP4 goodF X6 tab5 e5 D6 hempty hkeys hrows hPS GR off
    dsimp only
    have okPS : ∀ p ∈ (ls.map fun k => (k, underOf ms k)), okIts p.2 := fun p hp it hit => by
      obtain ⟨k, _, rfl⟩ := List.mem_map.mp hp
      exact word_ascii (good _ (under_mem hit)).1
    iterate 8 (first | walk1 | (dsimp only; walk1))
    rename Fr _ _ _ _ => F10
    rename News _ _ _ _ => N10
    refine LCg.CompSrc.base rfl F10 N10 hL (by rw [List.size_toArray, hI.length]; exact Nat.le_trans hls4 (by decide +kernel)) fun g10 => ?_
    refine compU_ind (fun i ys news => ∃ tl, news = (s.heap.objs.size + 1 + 1, ob3) :: (s.heap.objs.size + 1, oc) :: (tl ++ K) ∧ PairsIn tl ys ((ls.take i).map fun k => (k, underOf ms k))) ?fin2 ?cturn2 _ 0 [] _ (Nat.zero_add _) ⟨[], rfl, .nil⟩
    case cturn2 =>
      rintro i ys news hlt ⟨tl, rfl, hP⟩ v I oI C oC D m₂ h11 tk11 E' hv hC hx F11 N11 off ne
      clear F10 N10
      obtain ⟨k, hki, tk0, rfl⟩ := ints_at hI (show vl[i]? = some v from by simpa using hv)
      iterate 17 (first | walk1 | (dsimp only; walk1))
      rename Fr _ _ _ _ => F12
      rename News _ _ _ _ => N12
      rename (@LT.lt Nat _ I _ ∧ _) => l12
      rename ItemsIn _ _ _ => i12
      rename Off3 I C D (_ ++ _) => o12
      rename ((_, listObj _ _) ∈ _) => m12
      refine comp_end2 [_, _] F12 N12 o12 ⟨l12.1, l12.2.1, l12.2.2.1⟩ (.inl hL) ⟨_, asc2, ?_⟩
      rw [List.take_add_one, hki, Option.toList_some, List.map_append]
      exact .snoc (hP.mono fun p hp => .tail _ (List.mem_append_right _ hp)) (.head _) (.tail _ (List.mem_append_left _ m12)) (i12.mono fun p hp => .tail _ (List.mem_append_left _ hp))
    case fin2 =>
      rintro ys news ⟨tl, rfl, hP⟩
      rw [List.size_toArray, hI.length, List.take_length] at hP
      intro D2 h11 tk11 F11 N11 off
      clear F10 N10
      have kK : ∀ p ∈ K, h11.get? p.1 = some p.2 := fun p hp => (N11 p (.tail _ (.tail _ (.tail _ (List.mem_append_right _ hp))))).1
      refine (pairs_cmp (pairsK _ F11.keep kK) ⟨ys, _, tl, (N11 _ (.head _)).1, hP, fun p hp => (N11 p (.tail _ (.tail _ (.tail _ (List.mem_append_left _ hp))))).1⟩ okPS (Nat.le_of_ble_eq_true rfl)).1 ?_
      have N12 := news_sub N11 (news' := (s.heap.objs.size + 1 + 1, ob3) :: (s.heap.objs.size + 1, oc) :: K) (fun p hp => by
        rcases List.mem_cons.mp hp with h | hp
        · subst h; exact .tail _ (.head _)
        · rcases List.mem_cons.mp hp with h | hp
          · subst h; exact .tail _ (.tail _ (.head _))
          · exact .tail _ (.tail _ (.tail _ (List.mem_append_right _ hp))))
      clear N11 kK
      iterate 9 (first | walk1 | (dsimp only; walk1))
      rename Fr _ _ _ _ => F13
      rename News _ _ _ _ => N13
      refine LCg.CompSrc.base rfl F13 N13 hL (by rw [List.size_toArray, hI.length]; exact Nat.le_trans hls4 (by decide +kernel)) fun g13 => ?_
      refine compU_ind (fun i ys news => ∃ tl, news = (s.heap.objs.size + 1 + 1, ob3) :: (s.heap.objs.size + 1, oc) :: (tl ++ K) ∧ ListsIn tl ys ((ls.take i).map fun k => underOf ms k)) ?fin3 ?cturn3 _ 0 [] _ (Nat.zero_add _) ⟨[], rfl, .nil⟩
      case cturn3 =>
        rintro i ys news hlt ⟨tl, rfl, hP⟩ v I oI C oC D m₂ h14 tk14 E' hv hC hx F14 N14 off ne
        clear F13 N13
        obtain ⟨k, hki, tk0, rfl⟩ := ints_at hI (show vl[i]? = some v from by simpa using hv)
        iterate 11 (first | walk1 | (dsimp only; walk1))
        rename Fr _ _ _ _ => F15
        rename News _ _ _ _ => N15
        rename ItemsIn _ _ _ => i15
        rename Off3 I C D (_ ++ _) => o15
        rename ((_, listObj _ _) ∈ _) => m15
        refine comp_endN [_, _] F15 N15 o15 (.inl hL) ⟨_, asc1, ?_⟩
        rw [List.take_add_one, hki, Option.toList_some, List.map_append]
        exact .snoc (hP.mono fun p hp => List.mem_append_right _ hp) (List.mem_append_left _ m15) (i15.mono fun p hp => List.mem_append_left _ hp)
      case fin3 =>
        rintro ys news ⟨tl, rfl, hP⟩
        rw [List.size_toArray, hI.length, List.take_length] at hP
        intro D2 h14 tk14 F14 N14 off
        clear F13 N13
        have kK : ∀ p ∈ K, h14.get? p.1 = some p.2 := fun p hp => (N14 p (.tail _ (.tail _ (.tail _ (List.mem_append_right _ hp))))).1
        refine lists_cmp (listsK _ F14.keep kK) ⟨ys, _, tl, (N14 _ (.head _)).1, hP, fun p hp => (N14 p (.tail _ (.tail _ (.tail _ (List.mem_append_left _ hp))))).1⟩ ?ok3 (Nat.le_of_ble_eq_true rfl) ?_
        case ok3 =>
          intro its hits it hit
          obtain ⟨k, _, rfl⟩ := List.mem_map.mp hits
          exact word_ascii (good _ (under_mem hit)).1
        have N15 := news_sub N14 (news' := (s.heap.objs.size + 1 + 1, ob3) :: (s.heap.objs.size + 1, oc) :: K) (fun p hp => by
          rcases List.mem_cons.mp hp with h | hp
          · subst h; exact .tail _ (.head _)
          · rcases List.mem_cons.mp hp with h | hp
            · subst h; exact .tail _ (.tail _ (.head _))
            · exact .tail _ (.tail _ (.tail _ (List.mem_append_right _ hp))))
        clear N14 kK
        iterate 16 (first | walk1 | (dsimp only; walk1))
        rename Fr _ _ _ _ => F16
        rename News _ _ _ _ => N16
        refine call_rets (upW (book_new (s := ⟨_, _, _, _, _⟩) (X₁.keeps F16.keep)) rfl (Nat.le_of_ble_eq_true rfl) rfl rfl (Nat.le_of_ble_eq_true rfl)) fun v h17 tk17 x17 hv => ?_
        obtain ⟨B2, d2, e, n1', n2', n3', n4', n5'⟩ := hv
        subst e
        have F17 := Fr.ext F16 x17
        have N17 := news_new (nn := bookNews B2 d2 [] 0 0 []) F16 N16 x17 (fun p hp => by
          rcases List.mem_cons.mp hp with rfl | hp
          · exact ⟨n4', n1'⟩
          · rw [List.mem_singleton.mp hp]; exact ⟨n5', n2'⟩)
        have nB2 : ∀ p ∈ ((s.heap.objs.size + 1 + 1, ob3) :: (s.heap.objs.size + 1, oc) :: K), B2 ≠ p.1 ∧ d2 ≠ p.1 := fun p hp => by
          have e := (N16 p hp).1
          refine ⟨fun q => ?_, fun q => ?_⟩
          · rw [← q] at e; have := n1'.symm.trans e; cases this
          · rw [← q] at e; have := n2'.symm.trans e; cases this
        simp only [List.cons_append, List.nil_append, List.map_nil] at N17
        clear F16 N16
        (try dsimp only)
        iterate 8 (first | walk1 | (dsimp only; walk1))
        rename Fr _ _ _ _ => F18
        rename News _ _ _ _ => N18
        have goodW : ∀ m ∈ flatOf (ls.map fun k => (k, underOf ms k)), GoodMark m := fun m hm => (good m (flat_mem hm)).1
        have fewW := Nat.le_trans (sum_len ms hn) few
        refine wpAny_call ?_
        refine up (written_ok (X₁.keeps F18.keep) (T.keeps F18.keep) (pairsK _ F18.keep fun p hp => (N18 p (.tail _ (.tail _ (.tail _ (.tail _ hp))))).1) goodW fewW ?_) rfl (Nat.le_of_ble_eq_true rfl) rfl rfl (Nat.le_of_ble_eq_true rfl)
        intro h19 tk19 t19 x19
        have F19 := Fr.ext F18 x19
        have N19 := News.ext N18 x19
        clear F18 N18
        dsimp only
        iterate 2 (first | walk1 | (dsimp only; walk1))
        rename Fr _ _ _ _ => F20
        rename News _ _ _ _ => N20
        have st20 : ∀ b o, g.get? b = some o → (hideB h19 (bookNews B2 d2 [] 0 0 [])).get? b = some o := fun b o e => hideB_get (F20.keep b o e) fun p hp q => by
          have z := (N20 p (by
            rcases List.mem_cons.mp hp with h | hp
            · subst h; exact .head _
            · rw [List.map_nil, List.mem_singleton] at hp; subst hp; exact .tail _ (.head _))).2.2
          rw [q, e] at z; cases z
        refine wpAny_call ?_
        refine up (enter_ok (g := hideB h19 (bookNews B2 d2 [] 0 0 [])) (B := B2) (d := d2) (fs := []) (fp := 0) (ep := 0) (rows := []) (tups := []) (rs := flatOf (ls.map fun k => (k, underOf ms k))) (hideB_base _ _) (X₁.keeps st20) (T.keeps st20) (fun p hp => ?_) (.inl rfl) ⟨by simp, by simp, by simp⟩ (fun r hr => nomatch hr) (fun q hq => nomatch hq) (fun r hr => nomatch hr) (fun r hr => nomatch hr) (fun m hm => good m (flat_mem hm)) fewW ?_) rfl (Nat.le_of_ble_eq_true rfl) rfl rfl (Nat.le_of_ble_eq_true rfl)
        · rw [List.append_nil] at hp
          refine ⟨(N20 p ?_).1, hideB_none hp⟩
          rcases List.mem_cons.mp hp with h | hp
          · subst h; exact .head _
          · rw [List.map_nil, List.mem_singleton] at hp; subst hp; exact .tail _ (.head _)
        intro P3 h21 tk21 ep3 rows3 tups3 keep3 book3 G3 R3 says3 adr3 new3
        have m20 : ∀ p ∈ bookNews B2 d2 [] 0 0 [], p ∈ bookNews B2 d2 [] 0 0 [] ++ ((s.heap.objs.size + 1 + 1, ob3) :: (s.heap.objs.size + 1, oc) :: K) := fun p hp => List.mem_append_left _ hp
        have N20' : News g s.heap.objs.size h19 (bookNews B2 d2 [] 0 0 [] ++ ((s.heap.objs.size + 1 + 1, ob3) :: (s.heap.objs.size + 1, oc) :: K)) := N20
        have F21 := fr_keep (h' := h21) F20 (fun b => ∃ p ∈ bookNews B2 d2 [] 0 0 [], p.1 = b) (fun b o hb e => keep3 b o (hideB_get e fun p hp q => hb ⟨p, hp, q⟩)) (by
          rintro ⟨p, hp, q⟩
          exact (N20' p (m20 p hp)).2.1 q) (by
          rintro b ⟨p, hp, rfl⟩
          exact (N20' p (m20 p hp)).2.2)
        have gL3 : (hideB h19 (bookNews B2 d2 [] 0 0 [])).get? s.heap.objs.size ≠ none := by
          obtain ⟨oL, _, _, hL8, _⟩ := F20.ns
          intro z
          rw [hideB_get hL8 (fun p hp => (N20' p (m20 p hp)).2.1)] at z
          cases z
        have noG3 : ∀ a, (hideB h19 (bookNews B2 d2 [] 0 0 [])).get? a = none → a ≠ s.heap.objs.size ∧ g.get? a = none := fun a e => ⟨fun q => gL3 (q ▸ e), by
          cases q : g.get? a with
          | none => rfl
          | some o => rw [st20 _ _ q] at e; cases e⟩
        obtain ⟨pv3, pn3, pnews3, hQ1, hQ2, hQ3, hQ4⟩ := new3
        have N21 : News g s.heap.objs.size h21 ((s.heap.objs.size + 1 + 1, ob3) :: (s.heap.objs.size + 1, oc) :: (((P3, listObj pv3.toArray pn3) :: pnews3) ++ K)) := fun p hp => by
          have old : ∀ p ∈ ((s.heap.objs.size + 1 + 1, ob3) :: (s.heap.objs.size + 1, oc) :: K), h21.get? p.1 = some p.2 ∧ p.1 ≠ s.heap.objs.size ∧ g.get? p.1 = none := fun p hp => by
            refine ⟨keep3 _ _ (hideB_get (N20' p (List.mem_append_right _ hp)).1 fun q hq z => ?_), (N20' p (List.mem_append_right _ hp)).2⟩
            rcases List.mem_cons.mp hq with h | hq
            · subst h; exact (nB2 p hp).1 z
            · rw [List.map_nil, List.mem_singleton] at hq; subst hq; exact (nB2 p hp).2 z
          rcases List.mem_cons.mp hp with h | hp
          · subst h; exact old _ (.head _)
          · rcases List.mem_cons.mp hp with h | hp
            · subst h; exact old _ (.tail _ (.head _))
            · rcases List.mem_append.mp hp with hp | hp
              · rcases List.mem_cons.mp hp with h | hp
                · subst h; exact ⟨hQ1, noG3 _ hQ2⟩
                · exact ⟨(hQ4 p hp).1, noG3 _ (hQ4 p hp).2⟩
              · exact old p (.tail _ (.tail _ hp))
        have hQs : saysOf rows3 = (ls.map fun k => (k, underOf ms k)).filter (fun p => 0 < p.2.length) := by
          rw [says3, ← book_flat (f := fun k => underOf ms k) hn]; rfl
        rw [hQs] at hQ3
        obtain ⟨K', hK', inK3, inKK⟩ : ∃ K', K' = (((P3, listObj pv3.toArray pn3) :: pnews3) ++ K) ∧ (∀ p ∈ (P3, listObj pv3.toArray pn3) :: pnews3, p ∈ K') ∧ ∀ p ∈ K, p ∈ K' := ⟨_, rfl, fun p hp => List.mem_append_left _ hp, fun p hp => List.mem_append_right _ hp⟩
        rw [← hK'] at N21
        clear hK' F20 N20 N20' m20 gL3 noG3 st20 keep3 book3 says3 adr3 hQ1 hQ2 hQ4 hQs R3 G3 nB2
        dsimp only
        iterate 6 (first | walk1 | (dsimp only; walk1))
        rename Fr _ _ _ _ => F22
        refine LCt.ListComp_T (F₀ := F22) (by with_unfolding_all rfl) (by decide) (by rfl) (by decide) (by rfl) ?_
        iterate 1 (first | walk1 | (dsimp only; walk1))
        rename Fr _ _ _ _ => F23
        rename News _ _ _ _ => N23
        have hpl : pv.length ≤ 4 := by rw [hP3.length, List.length_map]; exact hls4
        refine LCt.CompSrcT.ledger rfl F23 N23 (.tail _ (.tail _ (inKK _ inP))) (by rw [List.size_toArray]; exact Nat.le_trans hpl (by decide +kernel)) fun g23 => ?_
        refine compT_ind (fun i ys news => news = (s.heap.objs.size + 1 + 1, ob3) :: (s.heap.objs.size + 1, oc) :: K' ∧ PairsIn K ys (((ls.map fun k => (k, underOf ms k)).take i).filter (fun p => 0 < p.2.length))) ?fin5 ?cturn5 _ 0 [] _ (Nat.zero_add _) ⟨rfl, .nil⟩
        case cturn5 =>
          rintro i ys news hlt ⟨rfl, hP⟩ v I oI C oC D m₂ h24 tk24 E' hv hC hx F24 N24 off ne
          clear F23 N23
          obtain ⟨a, k, ta, b, us, n, its, rfl, hpi, ha, hb, hits⟩ := hP3.get (show pv[i]? = some v from by simpa using hv)
          have hao := (N24 _ (.tail _ (.tail _ (.tail _ (.tail _ (.tail _ (inKK _ (inT _ ha)))))))).1
          have hbo := (N24 _ (.tail _ (.tail _ (.tail _ (.tail _ (.tail _ (inKK _ (inT _ hb)))))))).1
          have hbl : h24.IsList b us.toArray := ⟨_, hbo, rfl, _, rfl⟩
          iterate 8 (first | walk1 | (dsimp only; walk1))
          refine' sub2_1 ?hi ?ho ?hs ?_
          case hi => with_reducible rfl
          case ho => exact hao
          case hs => rfl
          iterate 1 (first | walk1 | (dsimp only; walk1))
          have hul : us.length ≤ 8 := by rw [hits.length]; exact Nat.le_trans (flatOf_one (List.mem_of_getElem? hpi)) fewW
          refine PySem.Calls.call_len_list hbl (by rw [List.size_toArray]; omega) ?_
          iterate 3 (first | walk1 | (dsimp only; walk1))
          have etake : ((ls.map fun k => (k, underOf ms k)).take (i + 1)).filter (fun p => 0 < p.2.length) = ((ls.map fun k => (k, underOf ms k)).take i).filter (fun p => 0 < p.2.length) ++ (if 0 < its.length then [(k, its)] else []) := by
            rw [List.take_add_one, hpi, Option.toList_some, List.filter_append]
            by_cases e : 0 < its.length <;> simp [e]
          have eu : us.length = its.length := hits.length
          split
          · rename_i ek
            have ek' : 0 < its.length := by rw [← eu]; simpa using ek
            iterate 1 (first | walk1 | (dsimp only; walk1))
            rename Fr _ _ _ _ => F25
            rename News _ _ _ _ => N25
            refine comp_end0 F25 N25 off (.inr ⟨_, .tail _ (.tail _ (inKK _ inP)), rfl, _, rfl⟩) ⟨rfl, ?_⟩
            rw [etake, if_pos ek']
            exact .snoc hP (inT _ ha) (inT _ hb) (hits.mono inT)
          · rename_i ek
            have ek' : ¬ 0 < its.length := by rw [← eu]; simpa using ek
            rename Fr _ _ _ _ => F25
            rename News _ _ _ _ => N25
            refine comp_end0 F25 N25 off (.inr ⟨_, .tail _ (.tail _ (inKK _ inP)), rfl, _, rfl⟩) ⟨rfl, ?_⟩
            rw [etake, if_neg ek', List.append_nil]
            exact hP
        case fin5 =>
          rintro ys news ⟨rfl, hP⟩
          rw [List.size_toArray, hP3.length, List.take_length] at hP
          intro D4 h24 tk24 F24 N24 off
          clear F23 N23
          have kK : ∀ p ∈ K', h24.get? p.1 = some p.2 := fun p hp => (N24 p (.tail _ (.tail _ (.tail _ hp)))).1
          refine (pairs_cmp (ps := (ls.map fun k => (k, underOf ms k)).filter (fun p => 0 < p.2.length)) ⟨pv3, pn3, pnews3, kK _ (inK3 _ (.head _)), hQ3, fun p hp => kK _ (inK3 _ (.tail _ hp))⟩ ⟨ys, _, K, (N24 _ (.head _)).1, hP, fun p hp => kK _ (inKK _ hp)⟩ (fun p hp => okPS p (List.mem_filter.mp hp).1) (Nat.le_of_ble_eq_true rfl)).2 ?_
          refine h _ _ F24.keep (tabK _ F24.keep fun p hp => kK _ (inKK _ hp))
end Mine
end
section
open PySem PySem.W PyProof.Rows PySem.Spec
set_option Elab.async false
set_option maxRecDepth 100000
set_option maxHeartbeats 2000000
namespace Mine
/-- no iterator over a range -/
def NotRI (o : Obj) : Prop := o.cls ≠ .type "range_iterator" ∨ ∃ vs q t, o.data = .fields vs ∧ vs[1]? = some (.str q t)
section
variable {prog : Program} {w : World} {A : Around} {E : Value → Shared → Prop} {s : Shared} {env : Env} {h₀ : Heap} {x : Str} {body : List Stmt} {Q : Flow → Shared → Prop}
theorem iter_R {r : Addr} {a b : Int} {tr ur vr : Tok} {n : Nat} {m₀ : Str → Option Value} {news : List (Addr × Obj)} (keep : List (Addr × Obj)) (J : Nat → (Str → Option Value) → List (Addr × Obj) → Prop)
    (hni : ∀ i m n, J i m n → ∀ p ∈ n, NotRI p.2)
    (hh : A.handled = none) (hr : IsRange s.heap r a b 1 tr ur vr) (hsm : Builtin.Range.small a b 1 = true) (hn : Builtin.Range.rangeSize a b 1 = ((n : Nat) : Int)) (F : Fr h₀ env.locals s.heap m₀) (N : News h₀ env.locals s.heap (keep ++ news)) (h0 : J 0 m₀ news)
    (turn : ∀ i t m₁ news₁ s₁ own, i < n → J i m₁ news₁ → (∀ p ∈ own, p ∈ keep ∨ ((∀ q ∈ news₁, q.1 ≠ p.1) ∧ p.2.cls = .type "range_iterator")) → Fr h₀ env.locals s₁.heap (fun y => if y = x then some (.int (a + (i : Int)) t) else m₁ y) → News h₀ env.locals s₁.heap (own ++ news₁) →
      wpAny (model prog w) A (execs body env) (TurnJ h₀ env.locals own (J (i + 1)) s₁) E s₁)
    (done : ∀ m' news' h tk, Fr h₀ env.locals h m' → News h₀ env.locals h (keep ++ news') → J n m' news' → Q .next { s with heap := h, toks := tk }) :
    wpAny (model prog w) A (pyIter (.ref r)) (fun it s₂ => LoopAtU prog w A h₀ env x body Q E it s₂) E s := by
  have hLt := F.ns.lt
  refine wpAny_pyIter_range hr hsm ?_
  have W := LCg.range_walks (prog := prog) (w := w) (I := s.heap.objs.size) hh a n
  have hkeep : ∀ p ∈ keep, p.1 ≠ s.heap.objs.size := fun p hp => Nat.ne_of_lt (Heap.lt_size (N p (List.mem_append_left _ hp)).1)
  refine ⟨_, _, _, n, _, _, m₀, keep ++ news, (fun i m n => ∃ n', n = keep ++ n' ∧ J i m n'), rfl, W, ?_, ?_, ?_, ?_, F.push _, (fun p hp => ⟨Heap.get?_push_of_some _ (N p hp).1, (N p hp).2⟩), ⟨news, rfl, h0⟩, ?_, ?_⟩
  · intro hm
    exact absurd hLt (List.mem_singleton.mp hm ▸ Nat.lt_irrefl _)
  · intro b hb
    rw [List.mem_singleton.mp hb]
    exact next_is_new F
  · intro p hp hI
    exact absurd (Heap.lt_size (N p hp).1) ((List.mem_singleton.mp hI) ▸ Nat.lt_irrefl _)
  · show IsRangeIter _ _ _ _ _
    rw [hn]; simpa using Heap.get?_push_size _ rfl
  · rintro i v m₁ _ s₁ own hin hP ⟨news₁, rfl, hJ⟩ hoff hfp hat hown hSt F₁ N₁
    obtain ⟨t, rfl⟩ := hP
    have hoi : s₁.heap.get? s.heap.objs.size = some _ := hSt
    have hmem := hown s.heap.objs.size (.head _) (next_is_new F) _ hoi
    have ho : ∀ p ∈ own ++ keep, p ∈ keep ∨ ((∀ q ∈ news₁, q.1 ≠ p.1) ∧ p.2.cls = .type "range_iterator") := fun p hp => by
      rcases List.mem_append.mp hp with hp | hp
      · have e := List.mem_singleton.mp (hfp p hp)
        refine .inr ⟨fun q hq z => hoff q (List.mem_append_right _ hq) (by rw [z, e]; exact .head _), ?_⟩
        have e2 := hat p hp
        rw [e, hoi] at e2
        rw [← Option.some.inj e2]
      · exact .inl hp
    rw [← List.append_assoc] at N₁
    refine wpAny_mono (turn i t m₁ news₁ s₁ (own ++ keep) hin hJ ho F₁ N₁) (fun f s₂ p => ?_) fun _ _ e => e
    obtain ⟨rfl, h', tk, m', news', rfl, F', N', hJ'⟩ := p
    rw [List.append_assoc] at N'
    refine ⟨rfl, h', tk, m', keep ++ news', rfl, F', N', fun p hp hI => ?_, ⟨news', rfl, hJ'⟩⟩
    rcases List.mem_append.mp hp with hp | hp
    · exact hkeep p hp (List.mem_singleton.mp hI)
    · have e1 := (N' p (List.mem_append_right _ (List.mem_append_right _ hp))).1
      have e2 := (N' _ (List.mem_append_left _ hmem)).1
      rw [List.mem_singleton.mp hI, e2] at e1
      have e3 := Option.some.inj e1
      rcases hni _ _ _ hJ' p hp with z | ⟨vs, q, tq, z1, z2⟩
      · exact z (by rw [← e3])
      · rw [← e3] at z1
        cases z1
        cases z2
  · rintro h' tk m' _ F' N' _ ⟨news', rfl, hJ⟩
    exact done m' news' h' tk F' N' hJ
end
end Mine
end
section
open PySem PySem.W PyProof.Rows PySem.Spec
open PyProof.Rows.LCg PyProof.Rows.LCt
set_option Elab.async false
set_option maxRecDepth 100000
set_option maxHeartbeats 8000000
namespace Mine
def linesAt (j : Nat) : Int := [3, 1, 4, 2].getD j 0
def pick (i j : Nat) : List Int := ((List.range j).filter fun p => i / 2 ^ p % 2 = 1).map linesAt
theorem pick_snoc (i j : Nat) : pick i (j + 1) = pick i j ++ if i / 2 ^ j % 2 = 1 then [linesAt j] else [] := by
  unfold pick
  rw [List.range_succ, List.filter_append, List.map_append]
  by_cases e : i / 2 ^ j % 2 = 1 <;> simp [e]
theorem pick_nodup : ∀ i : Nat, i < 16 → (pick i 4).Nodup := by decide
theorem pick_in : ∀ i : Nat, i < 16 → ∀ k ∈ pick i 4, 1 ≤ k ∧ k ≤ 4 := by decide
theorem bit_at : ∀ i : Nat, i < 16 → ∀ j : Nat, j < 4 → (((i : Int).fdiv (2 ^ j)).fmod 2 = 1 ↔ i / 2 ^ j % 2 = 1) := by decide
theorem four_at {t1 t2 t3 t4 : Tok} : ∀ j : Nat, j < 4 → ∃ tx, (#[Value.int 3 t1, .int 1 t2, .int 4 t3, .int 2 t4] : Array Value)[j]? = some (.int (linesAt j) tx)
  | 0, _ => ⟨_, rfl⟩
  | 1, _ => ⟨_, rfl⟩
  | 2, _ => ⟨_, rfl⟩
  | 3, _ => ⟨_, rfl⟩
  | n + 4, h => by omega
theorem four_sub {prog : Program} {w : World} {A : Around} {E : Value → Shared → Prop} {s : Shared} {value slice : Expr} {l : Addr} {t1 t2 t3 t4 u : Tok} {pl : Int} {j : Nat} {Q : Value → Shared → Prop} (hl : s.heap.IsList l #[Value.int 3 t1, .int 1 t2, .int 4 t3, .int 2 t4]) (e : pl = 0 + (j : Int)) (hj : j < 4)
    (hs : subscripted slice false (.ref l) (.int pl u) = operate [.ref l, .int pl u] (getItem (.ref l) (.int pl u))) (h : ∀ tx, Q (.int (linesAt j) tx) s) :
    wpAny (model prog w) A (subscriptTail value slice (.ref l) (.int pl u)) Q E s := by
  obtain ⟨tx, hx⟩ := four_at (t1 := t1) (t2 := t2) (t3 := t3) (t4 := t4) j hj
  exact tail_any hl.typeIs slot_list_getitem.lookup (wpAny_getItem_list hl (by omega) (by omega) (by rw [show pl.toNat = j by omega]; exact hx) (h tx)) hs
theorem pick_len (i j : Nat) : (pick i j).length ≤ j := by
  unfold pick
  rw [List.length_map]
  exact Nat.le_trans (List.length_filter_le _ _) (by rw [List.length_range]; exact Nat.le_refl _)
/-- the table 100 in a ledger -/
def TabLed (g : Heap) (news : List (Addr × Obj)) : Prop := ∃ ps Kc, news = (100, tabObj ps) :: Kc ∧ (∀ p ∈ Kc, ∃ vs q t, p.2.data = .fields vs ∧ vs[1]? = some (.str q t)) ∧
  ∀ h : Heap, (∀ b o, g.get? b = some o → h.get? b = some o) → (∀ p ∈ Kc, h.get? p.1 = some p.2) → ps = #[] ∨ ∃ c, ps = #[rawInt 43, rawInt 23, .ref c] ∧ h.CodeRec (.ref c) lamQual
theorem TabLed.notRI {g : Heap} {news : List (Addr × Obj)} (x : TabLed g news) : ∀ p ∈ news, NotRI p.2 := by
  obtain ⟨ps, Kc, rfl, h, _⟩ := x
  intro p hp
  rcases List.mem_cons.mp hp with rfl | hp
  · exact .inl (fun z => by cases z)
  · exact .inr (h p hp)
local macro_rules | `(tactic| k_room) => `(tactic| exact Nat.le_of_ble_eq_true rfl)
local macro_rules | `(tactic| walk_at "eval Name") => `(tactic| (k_here; (refine' ld ?k1 ?k2 ?_; (case k1 => k_asm); (case k2 => assumption); k_whole)))
set_option pp.deepTerms false
theorem sieves_ok {w : World} {l : List Env} {s : Shared} {g : Heap} {R : Result → Shared → Prop} {p : Program} {loose : List Str} {mean : ExcName → Option Value} {mg mb : Str → Option Value} {S : Addr} {ms : List Mark} {t : Tok}
    (GB : Base g s.heap) (X₁ : (KK w.params).In g) (T : Top p loose mean mg mb g) (h100 : g.get? 100 = none) (tab : TabE s.heap)
    (hS : MarksAt g S ms) (few : ms.length ≤ 8) (good : ∀ m ∈ ms, GoodMark m ∧ 1 ≤ m.1 ∧ m.1 ≤ 4)
    (h : ∀ h' tk, (∀ b o, g.get? b = some o → h'.get? b = some o) → (∃ ps, h'.get? 100 = some (tabObj ps)) → R (.ok (.ret (.bool true))) { s with heap := h', toks := tk }) :
    codeAny (model PySem.Challenge.rw_in0185_02.row.prog w) (AA 310 1000 l) (.call (.ref 268) ⟨[.ref S, .str (textOf (flatOf (groupOf ms))) t], []⟩) R s := by
  have X₀ := K_of_KK X₁
  revert X₀; k_fill; intro X₀
  w_top off
  refine' enterP (fun a o e => GB.stays _ _ (X₀ a o e)) (T.keeps GB.stays).nolimit ?k6 ?k7 ?k8 ?k9 ?kB ?_ ?c2 ?c3 ?c4 ?c5
  case k6 => k_is
  case k7 => k_is
  case k8 => k_room
  case k9 => exact BindsTo.of_eq rfl
  case kB => exact locs rfl
  case c2 => exact rfl
  case c3 => exact rfl
  case c4 => exact rfl
  case c5 => decide
  intro h₁ F N
  have NT : Apart g s.heap [(100, tabObj #[])] := fun p hp => by rw [List.mem_singleton.mp hp]; exact ⟨tab, h100⟩
  have lt100 : 100 < s.heap.objs.size := Heap.lt_size tab
  have N' := NT.news F
  replace F := GB.fr F
  clear N
  have kX := kFor F X₀
  (try dsimp only); (try k_fold)
  iterate 1 (first | walk1 | (dsimp only; walk1))
  refine For_invU g rfl rfl ?_
  iterate 6 (first | walk1 | (dsimp only; walk1))
  rename Fr _ _ _ _ => F1
  rename News _ _ _ _ => N1
  refine PySem.call_range_1 ?_
  dsimp only
  refine iter_R (a := 0) (b := 16) (n := 16) [] (fun i m news => m (Str.ofString "marks") = some (.ref S) ∧ (∃ t, m (Str.ofString "text") = some (.str (textOf (flatOf (groupOf ms))) t)) ∧ TabLed g news) (fun i m n x => x.2.2.notRI) rfl (Heap.get?_push_size _ rfl) (by decide) rfl (F1.push _) (fun p hp => ⟨Heap.get?_push_of_some _ (N1 p hp).1, (N1 p hp).2⟩) ⟨rfl, ⟨_, rfl⟩, #[], [], rfl, (fun p hp => nomatch hp), fun h _ _ => .inl rfl⟩ ?turn ?done
  case done =>
    intro m' news' h2 tk2 F2 N2 hJ
    clear F1 N1
    obtain ⟨_, _, ps, Kc, rfl, _⟩ := hJ
    have t100 := (N2 (100, tabObj ps) (.head _)).1
    dsimp only
    k_steps
    exact h _ _ F2.keep ⟨ps, t100⟩
  case turn =>
    intro i tc m₁ news₁ s₁ own hi ⟨hm1, ⟨tt, hm2⟩, hT⟩ ho F2 N2
    obtain ⟨h2, gg, dd, tk2, os⟩ := s₁
    clear F1 N1
    obtain ⟨z, hz⟩ : ∃ z : Int, z = 0 + (i : Int) := ⟨_, rfl⟩
    rw [← hz] at F2
    have hz0 : 0 ≤ z := by omega
    have hz1 : z < 16 := by omega
    iterate 8 (first | walk1 | (dsimp only; walk1))
    rename Fr _ _ _ _ => F3
    rename News _ _ _ _ => N3
    rename_i a0 z1 z2 z3 lt0 z4
    refine For_invU g rfl rfl ?_
    iterate 6 (first | walk1 | (dsimp only; walk1))
    refine PySem.call_range_1 ?_
    dsimp only
    refine iter_R (a := 0) (b := 4) (n := 4) (news := [(a0, listObj #[] 0)]) (own ++ news₁) (fun j m news => m (Str.ofString "marks") = some (.ref S) ∧ m (Str.ofString "text") = some (.str (textOf (flatOf (groupOf ms))) tt) ∧ m (Str.ofString "choice") = some (.int z tc) ∧ m (Str.ofString "lines") = some (.ref a0) ∧ ∃ vl n, news = [(a0, listObj vl.toArray n)] ∧ IntsAre vl (pick i j)) ?ni rfl (Heap.get?_push_size _ rfl) (by decide) rfl (F3.push _) ?N0 ?h0 ?turn2 ?done2
    case ni =>
      rintro i m n ⟨_, _, _, _, vl, k, rfl, _⟩ p hp
      rw [List.mem_singleton.mp hp]
      exact .inl fun e => absurd (show Value.type "list" = Value.type "range_iterator" from e) (by decide)
    case N0 =>
      intro p hp
      have hp' : p ∈ (a0, listObj #[] 0) :: (own ++ news₁) := by
        rcases List.mem_append.mp hp with hp | hp
        · exact .tail _ hp
        · rw [List.mem_singleton.mp hp]; exact .head _
      exact ⟨Heap.get?_push_of_some _ (N3 p hp').1, (N3 p hp').2⟩
    case h0 => exact ⟨hm1, hm2, rfl, rfl, [], 0, rfl, .nil⟩
    case turn2 =>
      intro j tp m₃ news₃ s₃ own₃ hj ⟨e1, e2, e3, e4, vl, n3, hnw, hIa⟩ ho3 F4 N4
      subst hnw
      obtain ⟨h4, gg4, dd4, tk4, os4⟩ := s₃
      clear F3 N3
      obtain ⟨pl, hpl⟩ : ∃ pl : Int, pl = 0 + (j : Int) := ⟨_, rfl⟩
      rw [← hpl] at F4
      have hp0 : 0 ≤ pl := by omega
      have hp1 : pl < 4 := by omega
      iterate 10 (first | walk1 | (dsimp only; walk1))
      obtain ⟨q, hq, hq0, hq1⟩ : ∃ q : Int, q = 2 ^ pl.toNat ∧ 1 ≤ q ∧ q ≤ 8 := by
        refine ⟨_, rfl, ?_⟩
        have e : pl.toNat = j := by omega
        rw [e]
        match j, hj with
        | 0, _ => decide
        | 1, _ => decide
        | 2, _ => decide
        | 3, _ => decide
      rw [← hq]
      iterate 6 (first | walk1 | (dsimp only; walk1))
      have hbit : (z.fdiv q).fmod 2 = 1 ↔ i / 2 ^ j % 2 = 1 := by
        have := bit_at i hi j hj
        rw [hq, show z = (i : Int) by omega, show pl.toNat = j by omega]
        exact this
      split
      · rename_i ek
        have ek' := hbit.mp (by simpa using ek)
        iterate 20 (first | walk1 | (dsimp only; walk1))
        rename Fr _ _ _ _ => F5
        rename News _ _ _ _ => N5
        refine four_sub ⟨_, (N5 _ (.head _)).1, rfl, _, rfl⟩ hpl hj rfl fun tx => ?_
        have N6 := news_sub N5 fun p hp => .tail _ hp
        clear N5
        iterate 1 (first | walk1 | (dsimp only; walk1))
        rename Fr _ _ _ _ => F6
        have hvl : vl.length ≤ 4 := by rw [hIa.length]; exact Nat.le_trans (pick_len i j) (by omega)
        refine append_own F6 N6 (fun p hp => ?_) (by rw [List.size_toArray]; omega) ?_
        · rcases ho3 p hp with e | e
          · exact Nat.ne_of_lt (lt0 p e)
          · exact Ne.symm (e.1 _ (.head _))
        intro h7 F7 N7
        k_steps
        refine turnJ F7 N7 ⟨e1, e2, e3, e4, vl ++ [_], n3 + 1, by rw [← List.push_toArray], ?_⟩
        rw [pick_snoc, if_pos ek']
        exact hIa.append (.cons _ _ .nil)
      · rename_i ek
        have ek' : ¬ (i / 2 ^ j % 2 = 1) := fun x => by have := hbit.mpr x; simp [this] at ek
        iterate 2 (first | walk1 | (dsimp only; walk1))
        rename Fr _ _ _ _ => F5
        rename News _ _ _ _ => N5
        refine turnJ F5 N5 ⟨e1, e2, e3, e4, vl, n3, rfl, ?_⟩
        rw [pick_snoc, if_neg ek', List.append_nil]
        exact hIa
    case done2 =>
      intro m' news' h4 tk4 F4 N4 hJ
      obtain ⟨e1, e2, e3, e4, vl, n4, rfl, hIa⟩ := hJ
      clear F3 N3
      dsimp only
      iterate 15 (first | walk1 | (dsimp only; walk1))
      rename Fr _ _ _ _ => F5
      rename News _ _ _ _ => N5
      obtain ⟨ps, Kc, hnw, hKd, hKc⟩ := hT
      subst hnw
      have m100 : (100, tabObj ps) ∈ own ++ (100, tabObj ps) :: Kc := List.mem_append_right _ (.head _)
      have a100 : 100 < a0 := lt0 _ m100
      have st5 : ∀ b o, g.get? b = some o → (h4.hide 100).get? b = some o := fun b o e => (Heap.hide_ne h4 fun q => by rw [q, h100] at e; cases e).trans (F5.keep b o e)
      have n5 : ∀ p ∈ (own ++ (100, tabObj ps) :: Kc) ++ [(a0, listObj vl.toArray n4)], h4.get? p.1 = some p.2 := fun p hp => (N5 p hp).1
      have t5 : h4.get? 100 = some (tabObj ps) := n5 _ (List.mem_append_left _ m100)
      have tab5 : TabG (h4.hide 100) h4 := by
        rcases hKc h4 F5.keep (fun p hp => n5 p (List.mem_append_left _ (List.mem_append_right _ (.tail _ hp)))) with rfl | ⟨c, rfl, c', oT, vT, tT, e, e2, e3, e4⟩
        · exact .inl t5
        · cases e
          refine .inr ⟨c, t5, c, oT, vT, tT, rfl, (Heap.hide_ne h4 fun q => ?_).trans e2, e3, e4⟩
          rw [q, t5] at e2
          cases e2
          cases e3
          cases e4
      refine wpAny_call ?_
      refine up (sieve_ok (g := h4.hide 100) ⟨fun _ _ e => Heap.of_hide e, Nat.le_of_eq (Heap.hide_size _ _)⟩ (X₁.keeps st5) (T.keeps st5) (Heap.hide_self _ _) tab5 (hS.keeps st5) (⟨_, (Heap.hide_ne h4 (Nat.ne_of_gt a100)).trans (n5 _ (List.mem_append_right _ (.head _))), rfl, _, rfl⟩ : (h4.hide 100).IsList a0 vl.toArray) hIa (pick_nodup i hi) (pick_in i hi) few good ?_) rfl (Nat.le_of_ble_eq_true rfl) rfl rfl (Nat.le_of_ble_eq_true rfl)
      intro h6 tk6 keep6 tab6
      have F6 := fr_keep (h' := h6) F5 (fun b => b = 100) (fun b o hb e => keep6 b o ((Heap.hide_ne h4 hb).trans e)) (Nat.ne_of_gt lt100) (fun b hb => by rw [hb]; exact h100)
      obtain ⟨c, t6, c', oT, vT, tT, e, c2, c3, c4⟩ := tab6
      cases e
      have hW : ∀ p ∈ ([(c, oT)] : List (Addr × Obj)), h6.get? p.1 = some p.2 ∧ p.1 ≠ s.heap.objs.size := by
        intro p hp
        rw [List.mem_singleton.mp hp]
        refine ⟨c2, fun q => ?_⟩
        obtain ⟨oL, es, ep', hL8, hLd, _⟩ := F6.ns
        have q' : h6.get? s.heap.objs.size = some oT := q ▸ c2
        rw [show h6.get? s.heap.objs.size = some oL from hL8] at q'
        cases q'
        rw [c3] at hLd; cases hLd
      have HL := held_list F6 _ hW
      obtain ⟨Kc', NK, inK, subK, fromK⟩ := HL
      have kd : ∀ p ∈ Kc', ∃ vs q t, p.2.data = .fields vs ∧ vs[1]? = some (.str q t) := fun p hp => by
        rw [List.mem_singleton.mp (subK p hp)]
        exact ⟨vT, _, tT, c3, c4⟩
      have N6 : News g s.heap.objs.size h6 (own ++ (100, tabObj #[rawInt 43, rawInt 23, .ref c]) :: Kc') := fun p hp => by
        rcases List.mem_append.mp hp with hp | hp
        · have z := N5 p (List.mem_append_left _ (List.mem_append_left _ hp))
          refine ⟨keep6 _ _ ((Heap.hide_ne h4 fun q => ?_).trans z.1), z.2⟩
          rcases ho p hp with e | e
          · cases e
          · exact e.1 _ (.head _) q.symm
        · rcases List.mem_cons.mp hp with h | hp
          · subst h; exact ⟨t6, Nat.ne_of_lt lt100, h100⟩
          · exact NK p hp
      clear F5 N5 n5 t5 NK
      dsimp only
      k_steps
      refine turnJ F6 N6 ⟨e1, ⟨_, e2⟩, _, Kc', rfl, kd, fun h k1 k2 => .inr ⟨c, rfl, c, oT, vT, tT, rfl, fromK h k1 k2 _ (.head _), c3, c4⟩⟩
end Mine
end
section
open PySem PySem.W PyProof.Rows PySem.Spec
set_option Elab.async false
set_option maxRecDepth 100000
set_option maxHeartbeats 8000000
namespace Mine
theorem kk_sub (P : Params) : (KK P).map (fun p => (p.1, (hx.heap_39 P).lookup p.1)) = (KK P).map (fun p => (p.1, some p.2)) := by kernel_rfl
theorem KK_of {P : Params} {h : Heap} (X : (hx.heap_39 P).In h) : (KK P).In h := fun a o e => X a o (lookup_map (kk_sub P) e)
theorem tab_of {P : Params} {h : Heap} (X : (hx.heap_39 P).In h) : TabE h := X 100 _ (by kernel_rfl)
/-- what stands in a heap and is no namespace can be kept by a ledger -/
theorem not_ns {h₀ h : Heap} {L a : Addr} {m : Str → Option Value} {o : Obj} (F : Fr h₀ L h m) (e : h.get? a = some o) (hd : ∀ es n, o.data ≠ .dict es n) : a ≠ L := fun q => by
  obtain ⟨oL, es, ep, hL, hLd, _⟩ := F.ns
  rw [← q, e] at hL
  exact hd _ _ (by rw [Option.some.inj hL]; exact hLd)
def isSeq (p : Addr × Obj) : Bool := match p.2.data with | .seq _ _ => true | _ => false
theorem marks_seq {news : List (Addr × Obj)} {vs ms} (M : MarksIn news vs ms) : MarksIn (news.filter isSeq) vs ms := by
  induction M with
  | nil => exact .nil
  | snoc _ hm ih => exact .snoc ih (List.mem_filter.mpr ⟨hm, rfl⟩)
theorem marks_held {h₀ h : Heap} {L D : Addr} {m : Str → Option Value} {ms : List Mark} (F : Fr h₀ L h m) (M : MarksAt h D ms) :
    ∃ K, News h₀ L h K ∧ ∀ h' : Heap, (∀ b o, h₀.get? b = some o → h'.get? b = some o) → (∀ p ∈ K, h'.get? p.1 = some p.2) → MarksAt h' D ms := by
  obtain ⟨vs, n, news, h1, h2, h3⟩ := M
  have W : ∀ p ∈ (D, listObj vs.toArray n) :: news.filter isSeq, h.get? p.1 = some p.2 ∧ p.1 ≠ L := fun p hp => by
    rcases List.mem_cons.mp hp with rfl | hp
    · exact ⟨h1, not_ns F h1 fun _ _ z => by cases z⟩
    · obtain ⟨m1, m2⟩ := List.mem_filter.mp hp
      refine ⟨h3 p m1, not_ns F (h3 p m1) fun _ _ z => ?_⟩
      unfold isSeq at m2
      rw [z] at m2; cases m2
  obtain ⟨K, NK, _, _, fromK⟩ := held_list F _ W
  refine ⟨K, NK, fun h' k1 k2 => ⟨vs, n, news.filter isSeq, fromK h' k1 k2 _ (.head _), marks_seq h2, fun p hp => fromK h' k1 k2 p (.tail _ hp)⟩⟩
theorem hide_tab {h : Heap} {ps : Array Value} (t : h.get? 100 = some (tabObj ps)) {b : Addr} {o : Obj} (e : h.get? b = some o) (ho : o ≠ tabObj ps) : (h.hide 100).get? b = some o :=
  (Heap.hide_ne h fun q => ho (by rw [q, t] at e; exact (Option.some.inj e).symm)).trans e
theorem ns_hide {h : Heap} {ps : Array Value} (t : h.get? 100 = some (tabObj ps)) {a : Addr} {m : Str → Option Value} (x : h.Ns a m) : (h.hide 100).Ns a m := by
  obtain ⟨o, es, ep, ho, hd, r⟩ := x
  exact ⟨o, es, ep, hide_tab t ho (fun z => by rw [z] at hd; cases hd), hd, r⟩
def onlyImports (p : Program) : Program := { p with main := { p.main with body := p.main.body.filter fun st => match st with | .Import _ _ => true | .ImportFrom .. => true | _ => false } }
theorem oi_imports (p : Program) : importsNone (onlyImports p) = importsNone p := by
  unfold importsNone onlyImports
  show List.all (List.filter _ p.main.body) _ = List.all p.main.body _
  induction p.main.body with
  | nil => rfl
  | cons st r ih =>
    cases st <;> simp_all [List.filter_cons]
theorem oi_body {p : Program} {st : Stmt} (h : st ∈ (onlyImports p).main.body) : (∃ a b, st = .Import a b) ∨ ∃ a b c d, st = .ImportFrom a b c d := by
  obtain ⟨_, h2⟩ := List.mem_filter.mp (show st ∈ p.main.body.filter _ from h)
  cases st <;> simp at h2
  · exact .inl ⟨_, _, rfl⟩
  · exact .inr ⟨_, _, _, _, rfl⟩
theorem oi_recs (p : Program) : recsOf (onlyImports p) = [] := by
  unfold recsOf
  rw [List.filterMap_eq_nil_iff]
  intro st hs
  rcases oi_body hs with ⟨a, b, rfl⟩ | ⟨a, b, c, d, rfl⟩ <;> rfl
theorem oi_lits (p : Program) : litsOf (onlyImports p) = [] := by
  unfold litsOf
  rw [List.filterMap_eq_nil_iff]
  intro st hs
  rcases oi_body hs with ⟨a, b, rfl⟩ | ⟨a, b, c, d, rfl⟩ <;> rfl
theorem oi_clss (p : Program) (loose : List Str) : clssOf (onlyImports p) loose = [] := by
  unfold clssOf
  rw [List.filterMap_eq_nil_iff]
  intro st hs
  rcases oi_body hs with ⟨a, b, rfl⟩ | ⟨a, b, c, d, rfl⟩ <;> rfl
theorem oi_vals (p : Program) (x : Str) : valOf (onlyImports p) x = none := by
  unfold valOf
  rw [List.findSome?_eq_none_iff]
  intro st hs
  rcases oi_body (List.mem_reverse.mp hs) with ⟨a, b, rfl⟩ | ⟨a, b, c, d, rfl⟩ <;> rfl
theorem oi_owns (p : Program) : ownsOf (onlyImports p) = [] := by
  unfold ownsOf
  have : ∀ l : List Stmt, (∀ st ∈ l, st ∈ (onlyImports p).main.body) → l.foldl ownStep [] = [] := fun l => by
    induction l with
    | nil => intro _; rfl
    | cons st r ih =>
      intro h
      have e : ownStep [] st = [] := by
        rcases oi_body (h st (.head _)) with ⟨a, b, rfl⟩ | ⟨a, b, c, d, rfl⟩ <;> rfl
      rw [List.foldl_cons, e]
      exact ih fun st hs => h st (.tail _ hs)
  exact this _ fun _ h => h
theorem top_hide {p : Program} {loose : List Str} {mean : ExcName → Option Value} {mg mb : Str → Option Value} {h : Heap} {ps : Array Value} (T : Top p loose mean mg mb h) (t : h.get? 100 = some (tabObj ps)) :
    Top (onlyImports p) (loose ++ ((recsOf p).map (·.name) ++ ((litsOf p).map (·.1) ++ (clssOf p loose).map (·.name)))) mean mg mb (h.hide 100) where
  g := ns_hide t T.g
  b := ns_hide t T.b
  nolimit := by obtain ⟨mc, a, b⟩ := T.nolimit; exact ⟨mc, ns_hide t a, b⟩
  nodigits := by obtain ⟨mc, a, b⟩ := T.nodigits; exact ⟨mc, ns_hide t a, b⟩
  fn := fun d hd => by rw [oi_recs] at hd; cases hd
  own := fun o ho => by rw [oi_owns] at ho; cases ho
  const := fun x d hd => by rw [oi_vals] at hd; cases hd
  free := fun x h1 h2 _ _ _ => by
    simp only [List.mem_append, not_or] at h2
    exact T.free x h1 h2.1 h2.2.1 h2.2.2.1 h2.2.2.2
  builtins := T.builtins
  tab := fun d hd => by rw [oi_recs] at hd; cases hd
  bmain := by
    obtain ⟨bm, ob, h1, h2, h3, h4, r⟩ := T.bmain
    exact ⟨bm, ob, h1, h2, hide_tab t h3 (fun z => by rw [z] at h4; cases h4), h4, r⟩
  seer := fun hi => by
    have S := T.seer (by rw [← oi_imports]; exact hi)
    refine ⟨?_, ?_, ?_, ?_⟩
    · obtain ⟨mc, a, r⟩ := S.statics; exact ⟨mc, ns_hide t a, r⟩
    · obtain ⟨mc, a, r⟩ := S.mods; exact ⟨mc, ns_hide t a, r⟩
    · obtain ⟨mc, a, r⟩ := S.imp; exact ⟨mc, ns_hide t a, r⟩
    · obtain ⟨mg', bm, ob, a, b, c, d, r⟩ := S.main
      exact ⟨mg', bm, ob, ns_hide t a, b, hide_tab t c (fun z => by rw [z] at d; cases d), d, r⟩
theorem KK_hide {P : Params} {h : Heap} (X : (KK P).In h) : (KK P).In (h.hide 100) := fun a o e => (Heap.hide_ne h fun q => by
  have e0 : (KK P).lookup 100 = none := by kernel_rfl
  rw [q, e0] at e; cases e).trans (X a o e)
theorem rows_ok {ms : List Mark} {rows : List RowS} (e : saysOf rows = bookOf ms) (good : ∀ m ∈ ms, 1 ≤ m.1 ∧ m.1 ≤ 4) (few : ms.length ≤ 8) : ∀ r ∈ rows, (1 ≤ r.k ∧ r.k ≤ 4) ∧ r.its.length ≤ 100 := by
  intro r hr
  rw [book_group] at e
  have m1 : (r.k, r.its) ∈ groupOf ms := by rw [← e]; exact List.mem_map_of_mem (f := fun r : RowS => (r.k, r.its)) hr
  obtain ⟨k, hk, e2⟩ := List.mem_map.mp m1
  have e3 : k = r.k := congrArg (·.1) e2
  have e4 : underOf ms k = r.its := congrArg (·.2) e2
  obtain ⟨it, hit⟩ := List.exists_mem_of_ne_nil _ ((mem_linesOf ms k).mp hk)
  refine ⟨by rw [← e3]; exact good _ (under_mem hit), ?_⟩
  rw [← e4]
  unfold underOf
  rw [List.length_map]
  exact Nat.le_trans (List.length_filter_le _ _) (by omega)
theorem after_enter {h₀ h h' : Heap} {L P : Addr} {m : Str → Option Value} {news K : List (Addr × Obj)} {ps : Says} (F : Fr h₀ L h m) (N : News h₀ L h (news ++ K)) (dis : ∀ p ∈ K, ∀ q ∈ news, q.1 ≠ p.1) (keep : ∀ b o, (hideB h news).get? b = some o → h'.get? b = some o) (new : PairsNew (hideB h news) h' P ps) :
    Fr h₀ L h' m ∧ ∃ K', (∀ p ∈ K, p ∈ K') ∧ News h₀ L h' K' ∧ ∀ h'' : Heap, (∀ p ∈ K', h''.get? p.1 = some p.2) → PairsAt h'' P ps := by
  have st : ∀ b o, h₀.get? b = some o → (hideB h news).get? b = some o := fun b o e => hideB_get (F.keep b o e) fun p hp q => by
    have z := (N p (List.mem_append_left _ hp)).2.2
    rw [q, e] at z; cases z
  have F' := fr_keep (h' := h') F (fun b => ∃ p ∈ news, p.1 = b) (fun b o hb e => keep b o (hideB_get e fun p hp q => hb ⟨p, hp, q⟩)) (by
    rintro ⟨p, hp, q⟩
    exact (N p (List.mem_append_left _ hp)).2.1 q) (by
    rintro b ⟨p, hp, rfl⟩
    exact (N p (List.mem_append_left _ hp)).2.2)
  have gL : (hideB h news).get? L ≠ none := by
    obtain ⟨oL, _, _, hL8, _⟩ := F.ns
    intro z
    rw [hideB_get hL8 (fun p hp => (N p (List.mem_append_left _ hp)).2.1)] at z
    cases z
  have noG : ∀ a, (hideB h news).get? a = none → a ≠ L ∧ h₀.get? a = none := fun a e => ⟨fun q => gL (q ▸ e), by
    cases q : h₀.get? a with
    | none => rfl
    | some o => rw [st _ _ q] at e; cases e⟩
  obtain ⟨pv, pn, pnews, hP1, hP2, hP3, hP4⟩ := new
  refine ⟨F', ((P, listObj pv.toArray pn) :: pnews) ++ K, fun p hp => List.mem_append_right _ hp, fun p hp => ?_, fun h'' k => ⟨pv, pn, pnews, k _ (.head _), hP3, fun p hp => k p (.tail _ (List.mem_append_left _ hp))⟩⟩
  rcases List.mem_append.mp hp with hp | hp
  · rcases List.mem_cons.mp hp with rfl | hp
    · exact ⟨hP1, noG _ hP2⟩
    · exact ⟨(hP4 p hp).1, noG _ (hP4 p hp).2⟩
  · exact ⟨keep _ _ (hideB_get (N p (List.mem_append_right _ hp)).1 (dis p hp)), (N p (List.mem_append_right _ hp)).2⟩
theorem hide_stays {h₀ h : Heap} {L : Addr} {m : Str → Option Value} {news K : List (Addr × Obj)} (F : Fr h₀ L h m) (N : News h₀ L h (news ++ K)) : ∀ b o, h₀.get? b = some o → (hideB h news).get? b = some o := fun b o e => hideB_get (F.keep b o e) fun p hp q => by
  have z := (N p (List.mem_append_left _ hp)).2.2
  rw [q, e] at z; cases z
theorem empty_text : Str.ofString "" = textOf [] := by decide +kernel
theorem two_new {h h' : Heap} {B d : Addr} (n1 : h.get? B = none) (n2 : h.get? d = none) (n4 : h'.get? B = some (bookObj d [] 0)) (n5 : h'.get? d = some (dictObj [] 0)) : ∀ p ∈ bookNews B d [] 0 0 [] ++ [], h'.get? p.1 = some p.2 ∧ h.get? p.1 = none := fun p hp => by
  rcases List.mem_cons.mp hp with rfl | hp
  · exact ⟨n4, n1⟩
  · rw [List.mem_singleton.mp hp]; exact ⟨n5, n2⟩
theorem marks_hide {h : Heap} {ps : Array Value} {D : Addr} {ms : List Mark} (t : h.get? 100 = some (tabObj ps)) (M : MarksAt h D ms) : MarksAt (h.hide 100) D ms := by
  obtain ⟨vs, n, news, h1, h2, h3⟩ := M
  refine ⟨vs, n, news.filter isSeq, hide_tab t h1 (fun z => by cases z), marks_seq h2, fun p hp => ?_⟩
  obtain ⟨m1, m2⟩ := List.mem_filter.mp hp
  refine hide_tab t (h3 p m1) fun z => ?_
  unfold isSeq at m2
  rw [z] at m2
  cases m2
def tabIn (K : Frag) (c P : Addr) : Bool := match K.lookup c with
  | some ⟨.type "code", _, .fields vs, _⟩ => (match (vs[11]? : Option Value) with | some (.ref P') => P' == P | _ => false)
  | _ => false
theorem tab_in {K : Frag} {h : Heap} {c P : Addr} (X : K.In h) (e : tabIn K c P = true) : isCodeTable h P := by
  unfold tabIn at e
  split at e
  · rename_i vs _ hk
    split at e
    · rename_i P' h11
      have hP : P' = P := beq_iff_eq.mp e
      subst hP
      exact ⟨c, _, vs, X _ _ hk, rfl, rfl, h11⟩
    · cases e
  · cases e
theorem tab_code {P : Params} {h : Heap} (X : (hx.heap_39 P).In h) : isCodeTable h 100 := tab_in (c := 104) (K_of_KK (KK_of X)) (by kernel_rfl)
/-- the law's end: the list that was given stays, the code table may have grown -/
theorem old_end {P : Params} {h₀ h h' : Heap} {L : Addr} {m : Str → Option Value} {ps : Array Value} (X : (hx.heap_39 P).In h₀) (F : Fr h₀ L h m) (keep : ∀ b o, (h.hide 100).get? b = some o → h'.get? b = some o) (t : h'.get? 100 = some (tabObj ps)) : OldK h₀ h' := by
  have up : ∀ b o, b ≠ 100 → h₀.get? b = some o → h'.get? b = some o := fun b o hb e => keep b o ((Heap.hide_ne h hb).trans (F.keep b o e))
  refine ⟨fun b o e => ?_, fun b o e => ?_⟩
  · by_cases hb : b = 100
    · subst hb
      have e' : o = tabObj #[] := Option.some.inj (e.symm.trans (tab_of X))
      subst e'
      exact .inr (.inl ⟨tab_code X, rfl, #[], ps, rfl, by rw [t]; simp⟩)
    · exact .inl (up b o hb e)
  · by_cases hb : b = 100
    · subst hb; exact ⟨_, t⟩
    · exact ⟨_, up b o hb e⟩
end Mine
end
local macro_rules | `(tactic| walk_at "idle 0") => `(tactic| skip)
open PySem PySem.W PyProof.Rows PySem.Spec
set_option Elab.async false
set_option maxRecDepth 100000
set_option maxHeartbeats 8000000
local macro_rules | `(tactic| k_room) => `(tactic| exact Nat.le_of_ble_eq_true rfl)
local macro_rules | `(tactic| walk_at "eval Name") => `(tactic| (k_here; (refine' Mine.ld ?k1 ?k2 ?_; (case k1 => k_asm); (case k2 => assumption); k_whole)))
set_option pp.deepTerms false
theorem PySem.Challenge.cw_in0185_02_holds : PySem.Challenge.rw_in0185_02.Holds := by
  refine Mine.hz ?_
  k_fill
  intro w s₀ s₁ mg mb G Y fa o pm cd doc dV kV ho hd hcd hD hmg hg args vals as hpre hlay hrd hwl hlo
  have KX := kIn_of Y
  have X := (Ground.X G).1
  have V := (Ground.X G).2
  refine Ground.open G ?_
  intro T B D TE TW
  try (refine guard_noD D (by decide +kernel) ?_; clear D)
  obtain ⟨_, _, M⟩ := bmod_of_top T
  have TA := at_of_top T
  clear hmg
  wrow_args hpre hlay hrd hwl hlo
  first | refine callC_kw (enter_call ?_) | refine enter_call ?_ | refine callC_kw (enter_callW ?_) | refine enter_callW ?_ | w_how
  w_top on
  have K0 := below_caller (Top.heap T)
  w_call any ho hd hcd hD T F1
  clear hd TA
  k_drop
  rename News _ _ _ _ => N1
  rename IntsAre _ _ => hI
  rename Heap.IsList _ _ _ => hL
  rename (¬ _ < _) => hlen
  have X₁ := Mine.KK_of KX
  have tab := Mine.tab_of KX
  have X₀ := Mine.K_of_KK X₁
  revert X₀; k_fill; intro X₀
  have kX := kFor F1 X₀
  iterate 9 (first | walk1 | (dsimp only; walk1))
  rename Fr _ _ _ _ => F1
  rename News _ _ _ _ => N1
  refine wpAny_call ?_
  refine Mine.up (Mine.marks_ok (X₁.keeps F1.keep) (T.keeps F1.keep) (hL.at fun o e => F1.keep _ _ e) hI (by omega) ?_) rfl (Nat.le_of_ble_eq_true rfl) rfl rfl (Nat.le_of_ble_eq_true rfl)
  intro D2 h2 tk2 x2 m2 d2
  generalize hms : (List.take 8 _).map Mine.markOf = ms at m2
  have good : ∀ m ∈ ms, Mine.GoodMark m ∧ 1 ≤ m.1 ∧ m.1 ≤ 4 := by
    intro m hm
    rw [← hms] at hm
    obtain ⟨n, _, rfl⟩ := List.mem_map.mp hm
    refine ⟨Mine.mark_good n, ?_⟩
    show 1 ≤ 1 + n.fmod 4 ∧ 1 + n.fmod 4 ≤ 4
    rw [Int.fmod_eq_emod_of_nonneg _ (by decide)]
    omega
  have few : ms.length ≤ 8 := by rw [← hms, List.length_map, List.length_take]; exact Nat.min_le_left _ _
  clear hms
  have F2 := Mine.Fr.ext F1 x2
  obtain ⟨K, NK, marksK⟩ := Mine.marks_held F2 m2
  clear F1 N1 m2 d2 x2
  dsimp only
  iterate 15 (first | walk1 | (dsimp only; walk1))
  rename Fr _ _ _ _ => F3
  rename News _ _ _ _ => N3
  refine wpAny_call ?_
  refine Mine.up (Mine.book_ok (X₁.keeps F3.keep) (T.keeps F3.keep) (marksK _ F3.keep fun p hp => (N3 p hp).1) few ?_) rfl (Nat.le_of_ble_eq_true rfl) rfl rfl (Nat.le_of_ble_eq_true rfl)
  intro B d ep rows tups h4 tk4 x4 nw4 G4 R4 t4 s4
  have F4 := Mine.Fr.ext F3 x4
  have N4 := Mine.news_new F3 N3 x4 nw4
  have nB : ∀ p ∈ K, ∀ q ∈ Mine.bookNews B d [] 0 ep rows ++ tups, q.1 ≠ p.1 := fun p hp q hq e => by
    have z := (nw4 q hq).2
    rw [e, (N3 p hp).1] at z; cases z
  clear F3 N3 x4 nw4
  dsimp only
  iterate 4 (first | walk1 | (dsimp only; walk1))
  rename Fr _ _ _ _ => F4
  rename News _ _ _ _ => N4
  rw [Mine.empty_text]
  have rok := Mine.rows_ok s4 (fun m hm => (good m hm).2) few
  have st4 := Mine.hide_stays F4 N4
  refine wpAny_call ?_
  refine Mine.up (Mine.enter_ok (g := Mine.hideB h4 (Mine.bookNews B d [] 0 ep rows ++ tups)) (rs := []) (Mine.hideB_base _ _) (X₁.keeps st4) (T.keeps st4) (fun q hq => ⟨(N4 q (List.mem_append_left _ hq)).1, Mine.hideB_none hq⟩) (.inl rfl) G4 R4 t4 (fun r hr => (rok r hr).1) (fun r hr => (rok r hr).2) (fun m hm => nomatch hm) (Nat.zero_le _) ?_) rfl (Nat.le_of_ble_eq_true rfl) rfl rfl (Nat.le_of_ble_eq_true rfl)
  intro P h5 tk5 ep5 rows5 tups5 keep5 book5 G5 R5 says5 adr5 new5
  have e5 : Mine.saysOf rows5 = Mine.groupOf ms := by rw [says5, ← Mine.book_group]; exact s4
  rw [e5] at new5
  obtain ⟨F5, K5, sub5, N5, pairs5⟩ := Mine.after_enter F4 N4 nB keep5 new5
  clear F4 N4 nB keep5 new5 book5 G5 R5 says5 adr5 rok st4 G4 R4 t4 s4 e5
  dsimp only
  iterate 13 (first | walk1 | (dsimp only; walk1))
  rename Fr _ _ _ _ => F6
  rename News _ _ _ _ => N6
  refine wpAny_call ?_
  refine Mine.up (Mine.group_ok (X₁.keeps F6.keep) (T.keeps F6.keep) (marksK _ F6.keep fun p hp => (N6 p (sub5 p hp)).1) few ?_) rfl (Nat.le_of_ble_eq_true rfl) rfl rfl (Nat.le_of_ble_eq_true rfl)
  intro D7 h7 tk7 x7 p7
  have F7 := Mine.Fr.ext F6 x7
  have N7 := Mine.News.ext N6 x7
  clear F6 N6 x7
  dsimp only
  have okG : ∀ p ∈ Mine.groupOf ms, Mine.okIts p.2 := fun p hp it hit => by
    obtain ⟨k, _, rfl⟩ := List.mem_map.mp hp
    exact Mine.word_ascii (good _ (Mine.under_mem hit)).1
  refine (Mine.pairs_cmp (pairs5 _ fun p hp => (N7 p hp).1) p7 okG (Nat.le_of_ble_eq_true rfl)).1 ?_
  iterate 12 (first | walk1 | (dsimp only; walk1))
  rename Fr _ _ _ _ => F8
  rename News _ _ _ _ => N8
  have goodF : ∀ m ∈ Mine.flatOf (Mine.groupOf ms), Mine.GoodMark m ∧ 1 ≤ m.1 ∧ m.1 ≤ 4 := fun m hm => good m (Mine.flat_mem hm)
  have fewF : (Mine.flatOf (Mine.groupOf ms)).length ≤ 8 := Nat.le_trans (Mine.sum_len ms (Mine.linesOf_nodup ms)) few
  refine wpAny_call ?_
  refine Mine.up (Mine.written_ok (X₁.keeps F8.keep) (T.keeps F8.keep) (pairs5 _ fun p hp => (N8 p hp).1) (fun m hm => (goodF m hm).1) fewF ?_) rfl (Nat.le_of_ble_eq_true rfl) rfl rfl (Nat.le_of_ble_eq_true rfl)
  intro h9 tk9 t9 x9
  have F9 := Mine.Fr.ext F8 x9
  have N9 := Mine.News.ext N8 x9
  clear F8 N8 x9 p7
  dsimp only
  iterate 16 (first | walk1 | (dsimp only; walk1))
  rename Fr _ _ _ _ => F10
  rename News _ _ _ _ => N10
  refine Mine.call_rets (Mine.upW (Mine.book_new (s := ⟨_, _, _, _, _⟩) (X₁.keeps F10.keep)) rfl (Nat.le_of_ble_eq_true rfl) rfl rfl (Nat.le_of_ble_eq_true rfl)) fun v h11 tk11 x11 hv => ?_
  obtain ⟨B2, d2, e, n1, n2, n3, n4, n5⟩ := hv
  subst e
  have F11 := Mine.Fr.ext F10 x11
  have nw11 := Mine.two_new n1 n2 n4 n5
  have N11 := Mine.news_new F10 N10 x11 nw11
  have nB2 : ∀ p ∈ K5, ∀ q ∈ Mine.bookNews B2 d2 [] 0 0 [] ++ [], q.1 ≠ p.1 := fun p hp q hq e => by
    have z := (nw11 q hq).2
    rw [e] at z
    have := (N10 p hp).1
    have z' := z.symm.trans this
    cases z'
  clear F10 N10 x11 nw11
  dsimp only
  iterate 4 (first | walk1 | (dsimp only; walk1))
  rename Fr _ _ _ _ => F12
  rename News _ _ _ _ => N12
  have st12 := Mine.hide_stays F12 N12
  refine wpAny_call ?_
  refine Mine.up (Mine.enter_ok (g := Mine.hideB h11 (Mine.bookNews B2 d2 [] 0 0 [] ++ [])) (fs := []) (fp := 0) (ep := 0) (rows := []) (tups := []) (rs := Mine.flatOf (Mine.groupOf ms)) (Mine.hideB_base _ _) (X₁.keeps st12) (T.keeps st12) (fun q hq => ⟨(N12 q (List.mem_append_left _ hq)).1, Mine.hideB_none hq⟩) (.inl rfl) ⟨by simp, by simp, by simp⟩ (fun r hr => nomatch hr) (fun q hq => nomatch hq) (fun r hr => nomatch hr) (fun r hr => nomatch hr) goodF fewF ?_) rfl (Nat.le_of_ble_eq_true rfl) rfl rfl (Nat.le_of_ble_eq_true rfl)
  intro P2 h13 tk13 ep13 rows13 tups13 keep13 book13 G13 R13 says13 adr13 new13
  have e13 : Mine.saysOf rows13 = Mine.groupOf ms := says13.trans (Mine.book_again ms)
  rw [e13] at new13
  obtain ⟨F13, K13, sub13, N13, pairs13⟩ := Mine.after_enter F12 N12 nB2 keep13 new13
  clear F12 N12 nB2 keep13 new13 book13 G13 R13 says13 adr13 st12 e13
  dsimp only
  iterate 1 (first | walk1 | (dsimp only; walk1))
  rename Fr _ _ _ _ => F14
  rename News _ _ _ _ => N14
  refine (Mine.pairs_cmp (pairs13 _ fun p hp => (N14 p hp).1) (pairs5 _ fun p hp => (N14 p (sub13 p hp)).1) okG (Nat.le_of_ble_eq_true rfl)).1 ?_
  iterate 14 (first | walk1 | (dsimp only; walk1))
  rename Fr _ _ _ _ => F15
  rename News _ _ _ _ => N15
  have tab15 : Mine.TabE h13 := F15.keep _ _ tab
  refine wpAny_call ?_
  refine Mine.up (Mine.sieves_ok (g := h13.hide 100) ⟨fun _ _ e => Heap.of_hide e, Nat.le_of_eq (Heap.hide_size _ _)⟩ (Mine.KK_hide (X₁.keeps F15.keep)) (Mine.top_hide (T.keeps F15.keep) tab15) (Heap.hide_self _ _) tab15 (Mine.marks_hide tab15 (marksK _ F15.keep fun p hp => (N15 p (sub13 p (sub5 p hp))).1)) few good ?_) rfl (Nat.le_of_ble_eq_true rfl) rfl rfl (Nat.le_of_ble_eq_true rfl)
  intro h16 tk16 keep16 tp16
  obtain ⟨ps16, t16⟩ := tp16
  have O16 := Mine.old_end KX F15 keep16 t16
  dsimp only
  refine ⟨.inl ⟨.bool true, .bool true, [], rfl, ?hn, .bool true, ?hp, unshared_nil⟩, O16, rfl, .of_eq hg⟩
  case hn => exact fun _ => rfl
  case hp =>
    refine' postW_of ?zs ?zv ?ze
    case zs => first | wrow_shape | o_shape
    case zv => wtm_val
    case ze => first | rfl | w_fin
