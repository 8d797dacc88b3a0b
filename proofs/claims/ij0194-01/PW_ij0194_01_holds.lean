import PyProof.Rows.All
import Wide.All
import OpenK.AllK
import Wide.FinOn
import Lean
import PySem.Challenge.RW_ij0194_01
set_option Elab.async false
namespace Mine
section TextHead0
open PySem PySem.W PyProof.Rows
set_option maxRecDepth 100000 in
set_option maxHeartbeats 8000000 in
open_top hd for PySem.Challenge.rw_ij0194_01

end TextHead0
section TextG1
set_option maxRecDepth 100000
open PySem PySem.W PyProof.Rows
section
variable {prog : Program} {w : World} {A : Around} {E : Value → Shared → Prop} {h : Heap} {g : Array GenState} {d : Drawn} {t : Nat} {os : OsState} {a : Addr} {o : Obj}

theorem lk_contains : typeLookup (.type "list") "__contains__" = pure (some (.builtin "list.__contains__")) := by rw [typeLookup_type, builtinLookup_eq_fast]; kernel_rfl
theorem ty_contains : typeOf (.builtin "list.__contains__") = pure (.type "wrapper_descriptor") := by show builtinType _ = _; rw [builtinType_eq_fast]; kernel_rfl
theorem slot_wd_get : Slot "wrapper_descriptor" "__get__" "wrapper_descriptor.__get__" :=
  .of (owner := "wrapper_descriptor") (n := "__get__") (by rw [typeLookup_type, builtinLookup_eq_fast]; kernel_rfl) (by decide +kernel) (by decide +kernel) (by decide +kernel)
    (by first | exact .inl (by decide +kernel) | exact .inr (by decide +kernel)) (by rw [isSubtype_type]; kernel_rfl)
theorem entry_wd_get : entryFor table "wrapper_descriptor.__get__" = some Builtin.«wrapper_descriptor.__get__» := entryFor_of_tree (by kernel_rfl)
theorem args_wd_get (a b c : Value) : argsOk "wrapper_descriptor.__get__" ⟨[a, b, c], []⟩ := by unfold argsOk; kernel_rfl
theorem wd_set : typeLookup (.type "wrapper_descriptor") "__set__" = pure none := by rw [typeLookup_type, builtinLookup_eq_fast]; kernel_rfl
theorem wd_del : typeLookup (.type "wrapper_descriptor") "__delete__" = pure none := by rw [typeLookup_type, builtinLookup_eq_fast]; kernel_rfl

def wrapObj (k : Addr) : Obj := { cls := .type "method-wrapper", data := .fields #[.builtin "list.__contains__", .ref k] }

theorem own_contains : ".".intercalate ("list.__contains__".cutAt '.').dropLast = "list" := by decide +kernel
theorem sub_contains : isSubtype (.type "list") (.type (".".intercalate ("list.__contains__".cutAt '.').dropLast)) = pure true := by rw [own_contains, isSubtype_type]; kernel_rfl

theorem wd_get {R : Result → Shared → Prop} (hx : h.get? a = some o) (hc : o.cls = .type "list") (hq : R (.ok (.ret (.ref h.objs.size))) ⟨h.push (wrapObj a), g, d, t, os⟩) :
    codeAny (model prog w) A (.call (.builtin "wrapper_descriptor.__get__") ⟨[.builtin "list.__contains__", .ref a, .type "list"], []⟩) R ⟨h, g, d, t, os⟩ := by
  have hT : (⟨h, g, d, t, os⟩ : Shared).TypeIs (.ref a) "list" := ⟨_, hx, hc⟩
  have hT5 : (⟨h, g, d, t, os⟩ : Shared).TypeIs (.builtin "list.__contains__") "wrapper_descriptor" := ty_contains
  have f8 := sub_contains
  refine codeAny_call_builtin slot_wd_get.plain entry_wd_get (slot_wd_get.check _ _ _ _ _ _ _ _ hT5 (args_wd_get _ _ _) ?_)
  repeat (any_goals (first | assumption | wp_step))

theorem ga_entry {tk : Tok} {Q : Fin → Shared → Prop} {xs : Array Value} {n : Nat} {sl : Array (Option Value)} (hx : h.get? a = some { cls := .type "list", dict := none, data := .seq xs n, slots := sl }) (hq : Q (.done (.ret (.ref h.objs.size))) ⟨h.push (wrapObj a), g, d, t, os⟩) :
    wpAny (model prog w) A (Builtin.«object.__getattribute__» ⟨[.ref a, .str "__contains__" tk], []⟩) Q E ⟨h, g, d, t, os⟩ := by
  have hT : (⟨h, g, d, t, os⟩ : Shared).TypeIs (.ref a) "list" := ⟨_, hx, rfl⟩
  have hT5 : (⟨h, g, d, t, os⟩ : Shared).TypeIs (.builtin "list.__contains__") "wrapper_descriptor" := ty_contains
  have f4 := lk_contains
  have f5 := ty_contains
  have f6 := slot_wd_get.lookup
  have f7 := wd_set
  have f8 := wd_del
  repeat (any_goals (first | assumption | wp_step))
  refine wd_get hx rfl ?_
  repeat (any_goals (first | assumption | wp_step))

theorem ga_call {tk : Tok} {R : Result → Shared → Prop} {xs : Array Value} {n : Nat} {sl : Array (Option Value)} (hx : h.get? a = some { cls := .type "list", dict := none, data := .seq xs n, slots := sl }) (hq : R (.ok (.ret (.ref h.objs.size))) ⟨h.push (wrapObj a), g, d, t, os⟩) :
    codeAny (model prog w) A (.call (.builtin "list.__getattribute__") ⟨[.ref a, .str "__contains__" tk], []⟩) R ⟨h, g, d, t, os⟩ :=
  codeAny_call_builtin PySem.F.slot_list_getattribute.plain PySem.am_entry_list_getattribute (PySem.F.slot_list_getattribute.check _ _ _ _ _ _ _ _ (show (⟨h, g, d, t, os⟩ : Shared).TypeIs (.ref a) "list" from ⟨_, hx, rfl⟩) (PySem.F.args_list_getattribute_2 _ _) (ga_entry hx hq))

theorem ga_by {tk : Tok} {Q : Value → Shared → Prop} {xs : Array Value} {n : Nat} {sl : Array (Option Value)} (hx : h.get? a = some { cls := .type "list", dict := none, data := .seq xs n, slots := sl }) (hq : Q (.ref h.objs.size) ⟨h.push (wrapObj a), g, d, t, os⟩) : wpAny (model prog w) A (getAttrBy (.ref a) (.str "__contains__" tk) true true) Q E ⟨h, g, d, t, os⟩ := by
  have hT : (⟨h, g, d, t, os⟩ : Shared).TypeIs (.ref a) "list" := ⟨_, hx, rfl⟩
  have f2 := PySem.F.slot_list_getattribute.lookup
  have f3 := PySem.F.slot_list_getattribute.bind (.ref a)
  unfold getAttrBy
  repeat (any_goals (first | assumption | wp_step))
  refine ga_call hx ?_
  repeat (any_goals (first | assumption | wp_step))

theorem getAttr_contains {s : Shared} {Q : Value → Shared → Prop} {xs : Array Value} {n : Nat} {sl : Array (Option Value)} (hx : s.heap.get? a = some { cls := .type "list", dict := none, data := .seq xs n, slots := sl }) (hq : Q (.ref s.heap.objs.size) { s with heap := s.heap.push (wrapObj a), toks := s.toks + 1 }) :
    wpAny (model prog w) A (getAttr (.ref a) "__contains__" true) Q E s := by
  obtain ⟨h, g, d, t, os⟩ := s
  unfold getAttr
  refine wpAny_bind (wpAny_mkText ?_)
  exact ga_by hx hq

theorem getAttr_containsN {s : Shared} {Q : Value → Shared → Prop} {h₀ : Heap} {L : Addr} {m : Str → Option Value} {news : List (Addr × Obj)} {xs : Array Value} {n : Nat} (F : Fr h₀ L s.heap m) (N : News h₀ L s.heap news) (hm : (a, listOf xs n) ∈ news)
   (hq : ∀ q h', Fr h₀ L h' m → News h₀ L h' ((q, wrapObj a) :: news) → (∀ p ∈ news, p.1 < q) → Q (.ref q) { s with heap := h', toks := s.toks + 1 }) :
    wpAny (model prog w) A (getAttr (.ref a) "__contains__" true) Q E s :=
  getAttr_contains (N _ hm).1 (hq _ _ (F.push _) (News.push F N _) fun p hp => Heap.lt_size (N p hp).1)
end

end TextG1
section TextG2
set_option maxRecDepth 100000
open PySem PySem.W PyProof.Rows

def liObj (l : Addr) (i : Nat) : Obj := { cls := .type "list_iterator", data := .fields #[.ref l, .int (i : Int) 0] }
def rangeL (x : Int) (k : Nat) : List Int := (List.range k).map fun j : Nat => x + (j : Int)
theorem rangeL_zero (x : Int) : rangeL x 0 = [] := rfl
theorem rangeL_succ (x : Int) (k : Nat) : rangeL x (k + 1) = x :: rangeL (x + 1) k := by
  unfold rangeL
  rw [List.range_succ_eq_map, List.map_cons, List.map_map]
  refine congr (congrArg List.cons (by simp)) (List.map_congr_left fun j _ => ?_)
  simp only [Function.comp]
  push_cast
  omega
theorem rangeL_length (x : Int) (k : Nat) : (rangeL x k).length = k := by simp [rangeL]

inductive ItSt (others : List (Addr × Obj)) : Obj → List Int → Prop
  | list {l : Addr} {vs : Array Value} {c i : Nat} {ns : List Int} : (l, listOf vs c) ∈ others → IntsAre (vs.toList.drop i) ns → ItSt others (liObj l i) ns
  | range {x : Int} {k : Nat} : ItSt others (itR x (k : Int)) (rangeL x k)

theorem own_stop (args : List Value) : ownMembersOf (.type "StopIteration") args = #[] := by
  unfold ownMembersOf
  split <;> first | rfl | (rename_i h; revert h; decide) | simp_all

theorem next_entry {prog : Program} {w : World} {A : Around} {E : Value → Shared → Prop} {s : Shared} {it : Addr} {T : String} {id : String} {Q : Value → Shared → Prop}
    (hT : s.TypeIs (.ref it) T) (S : Slot T "__next__" id)
    (h : wpAny (model prog w) A.in1 (callSpecial? (.ref it) (Str.ofString "__next__")) (fun r s' => ∃ v, r = some v ∧ Q v s') E s) :
    wpAny (model prog w) A (call (.builtin "next") [.ref it]) Q E s := by
  refine Calls.call_function_entry (by decide +kernel) (by decide +kernel) kdk_entry_next (kdk_args_next _) ?_
  unfold Builtin.«next»
  refine wpAny_bind (m := someArgs "next" 1 2 _) (wpAny_of_eq (a := [Value.ref it]) (by first | rfl | kernel_rfl!) ?_)
  dsimp only
  refine wpAny_bind (wpAny_specialOf (name := Str.ofString "__next__") hT S.lookup ?_)
  refine wpAny_ite_split (fun hab => absurd hab (by simp)) (fun _ => ?_)
  refine wpAny_bind (wpAny_mono h (fun r s' hr => ?_) fun _ _ z => z)
  obtain ⟨v, rfl, hq⟩ := hr
  exact wpAny_pure ⟨_, rfl, hq⟩

section
variable {prog : Program} {w : World} {A : Around} {E : Value → Shared → Prop} {s : Shared} {Q : Value → Shared → Prop}
-- the builtin's word at an item of a list
theorem next_list_item {it l : Addr} {i : Nat} {items : Array Value} {x : Value} (hit : s.heap.get? it = some (liObj l i)) (hl : s.heap.IsList l items) (hx : items[i]? = some x)
    (hQ : ∀ h', h'.get? it = some (liObj l (i + 1)) → Heap.SameBut it s.heap h' → Q x { s with heap := h' }) :
    wpAny (model prog w) A (call (.builtin "next") [.ref it]) Q E s := by
  obtain ⟨ol, hol, _, nl, hdl⟩ := hl
  have hT : s.TypeIs (.ref it) "list_iterator" := ⟨_, hit, rfl⟩
  refine next_entry hT slot_listiter_next ?_
  refine wpAny_callSpecial?_slot (name := Str.ofString "__next__") hT slot_listiter_next (wpAny_call_entry slot_listiter_next hT entry_listiter_next ?_ (args_listiter_next _))
  show wpAny _ _ (field (.ref it) 0 >>= _) _ _ s
  refine wpAny_bind (wpAny_field hit rfl (x := .ref l) rfl ?_)
  show wpAny _ _ (if (Value.ref l == Value.none) = true then _ else _) _ _ s
  rw [if_neg (show ¬ ((Value.ref l == Value.none) = true) from Bool.false_ne_true)]
  show wpAny _ _ (field (.ref it) 1 >>= _) _ _ s
  refine wpAny_bind (wpAny_field hit rfl (x := .int i 0) rfl ?_)
  show wpAny _ _ (seqItems? (.ref l) >>= _) _ _ s
  refine wpAny_bind (wpAny_seqItems hol hdl ?_)
  simp only [Int.toNat_natCast, hx]
  refine wpAny_bind (wpAny_setField hit rfl (by simp) (wpAny_pure ⟨x, rfl, ⟨x, rfl, hQ _ ?_ (Heap.SameBut.update ..)⟩⟩))
  rw [Heap.get?_update_self _ hit rfl]
  simp [liObj, Obj.mapFields, rawInt]

theorem next_list_end {it l : Addr} {i : Nat} {items : Array Value} (hh : A.handled = none) (hit : s.heap.get? it = some (liObj l i)) (hl : s.heap.IsList l items) (hx : items[i]? = none)
    (hE : ∀ h₁ oI h' e, h₁.get? it = some oI → Heap.SameBut it s.heap h₁ → Heap.NewExc h₁ h' e "StopIteration" → E (.ref e) { s with heap := h' }) :
    wpAny (model prog w) A (call (.builtin "next") [.ref it]) Q E s := by
  obtain ⟨ol, hol, _, nl, hdl⟩ := hl
  have hT : s.TypeIs (.ref it) "list_iterator" := ⟨_, hit, rfl⟩
  refine next_entry hT slot_listiter_next ?_
  refine wpAny_callSpecial?_slot (name := Str.ofString "__next__") hT slot_listiter_next (wpAny_call_entry slot_listiter_next hT entry_listiter_next ?_ (args_listiter_next _))
  show wpAny _ _ (field (.ref it) 0 >>= _) _ _ s
  refine wpAny_bind (wpAny_field hit rfl (x := .ref l) rfl ?_)
  show wpAny _ _ (if (Value.ref l == Value.none) = true then _ else _) _ _ s
  rw [if_neg (show ¬ ((Value.ref l == Value.none) = true) from Bool.false_ne_true)]
  show wpAny _ _ (field (.ref it) 1 >>= _) _ _ s
  refine wpAny_bind (wpAny_field hit rfl (x := .int i 0) rfl ?_)
  show wpAny _ _ (seqItems? (.ref l) >>= _) _ _ s
  refine wpAny_bind (wpAny_seqItems hol hdl ?_)
  simp only [Int.toNat_natCast, hx]
  refine wpAny_bind (wpAny_rule (wpAny_bind (wpAny_setField hit rfl (by simp) ?_)))
  have h1 := Heap.get?_update_self (Obj.mapFields (·.setIfInBounds 0 Value.none)) hit rfl
  have h2 : Heap.SameBut it s.heap (s.heap.update it (Obj.mapFields (·.setIfInBounds 0 Value.none))) := Heap.SameBut.update ..
  show wpAny _ _ (newExc (.type "StopIteration") [] >>= _) _ _ _
  refine wpAny_bind ?_
  simp only [newExc, newTuple]
  refine wpAny_bind (wpAny_newObj_type ?_ (by size_fits))
  refine wpAny_bind (m := firstArgMember _ _) (wpAny_of_eq (a := Value.none) (by first | rfl | (simp only [firstArgMember]; rfl)) ?_)
  refine wpAny_newObj_type ?_ (by size_fits)
  simp only [raiseNew]
  refine wpAny_bind (wpAny_handled ?_)
  first | rw [show A.in1.in1.handled = none from hh] | rw [show A.in1.handled = none from hh] | rw [hh]
  refine wpAny_bind (wpAny_pure (wpAny_throw ?_))
  rw [own_stop]
  exact hE _ _ _ _ h1 h2 ⟨fun b o e => Heap.get?_push_of_some _ (Heap.get?_push_of_some _ e), Heap.get?_none_of_le (by rw [Heap.size_push]; exact Nat.le_succ _), ⟨_, .ref _, Heap.get?_push_size _ rfl, rfl, rfl⟩⟩

-- the same of a range's iterator
theorem next_range_item {it : Addr} {x left : Int} (hit : s.heap.get? it = some (itR x left)) (hleft : 0 < left)
    (hQ : ∀ h', h'.get? it = some (itR (x + 1) (left - 1)) → Heap.SameBut it s.heap h' → Q (.int x s.toks) { s with heap := h', toks := s.toks + 1 }) :
    wpAny (model prog w) A (call (.builtin "next") [.ref it]) Q E s := by
  have hT : s.TypeIs (.ref it) "range_iterator" := ⟨_, hit, rfl⟩
  refine next_entry hT PySem.F.slot_range_iterator_next ?_
  refine wpAny_callSpecial?_slot (name := Str.ofString "__next__") hT PySem.F.slot_range_iterator_next
    (call_meets PySem.F.slot_range_iterator_next hT PySem.F.entry_range_iterator_next (PySem.F.args_range_iterator_next_1 _) (AutoRange.range_iterator___next___range_iterator_1 it x left 1 (by omega)) ⟨hit, ?_⟩)
  exact ⟨_, rfl, hQ _ (Heap.get?_update_self _ (Heap.get?_update_self _ hit rfl) rfl) ((Heap.SameBut.update ..).trans (Heap.SameBut.update ..))⟩

theorem next_range_end {it : Addr} {x left : Int} (hh : A.handled = none) (hit : s.heap.get? it = some (itR x left)) (hleft : left ≤ 0)
    (hE : ∀ h' e, Heap.NewExc s.heap h' e "StopIteration" → E (.ref e) { s with heap := h' }) :
    wpAny (model prog w) A (call (.builtin "next") [.ref it]) Q E s := by
  have hT : s.TypeIs (.ref it) "range_iterator" := ⟨_, hit, rfl⟩
  refine next_entry hT PySem.F.slot_range_iterator_next ?_
  refine wpAny_callSpecial?_slot (name := Str.ofString "__next__") hT PySem.F.slot_range_iterator_next
    (wpAny_call_entry PySem.F.slot_range_iterator_next hT PySem.F.entry_range_iterator_next ?_ (PySem.F.args_range_iterator_next_1 _))
  show wpAny _ _ (field (.ref it) 0 >>= _) _ _ s
  refine wpAny_bind (wpAny_field hit rfl (x := rawInt x) rfl ?_)
  show wpAny _ _ (field (.ref it) 1 >>= _) _ _ s
  refine wpAny_bind (wpAny_field hit rfl (x := rawInt left) rfl ?_)
  show wpAny _ _ (field (.ref it) 2 >>= _) _ _ s
  refine wpAny_bind (wpAny_field hit rfl (x := rawInt 1) rfl ?_)
  show wpAny _ _ (if left ≤ 0 then _ else _) _ _ s
  rw [if_pos hleft]
  refine wpAny_bind (wpAny_rule ?_)
  first | (show wpAny _ _ (newExc (.type "StopIteration") [] >>= _) _ _ _) | refine wpAny_bind ?_
  try (show wpAny _ _ (newExc (.type "StopIteration") [] >>= _) _ _ _)
  refine wpAny_bind ?_
  simp only [newExc, newTuple]
  refine wpAny_bind (wpAny_newObj_type ?_ (by size_fits))
  refine wpAny_bind (m := firstArgMember _ _) (wpAny_of_eq (a := Value.none) (by first | rfl | (simp only [firstArgMember]; rfl)) ?_)
  refine wpAny_newObj_type ?_ (by size_fits)
  simp only [raiseNew]
  try refine wpAny_pure ?_
  refine wpAny_bind ?_
  first | refine wpAny_handled ?_ | refine wpAny_bind (wpAny_handled ?_)
  first | rw [show A.in1.in1.handled = none from hh] | rw [show A.in1.handled = none from hh] | rw [hh]
  first | refine wpAny_throw ?_ | refine wpAny_bind (wpAny_pure (wpAny_throw ?_)) | refine wpAny_bind (wpAny_throw ?_)
  rw [own_stop]
  exact hE _ _ ⟨fun b o e => Heap.get?_push_of_some _ (Heap.get?_push_of_some _ e), Heap.get?_none_of_le (by rw [Heap.size_push]; exact Nat.le_succ _), ⟨_, .ref _, Heap.get?_push_size _ rfl, rfl, rfl⟩⟩
end

section
variable {prog : Program} {w : World} {A : Around} {E : Value → Shared → Prop} {s : Shared} {Q : Value → Shared → Prop} {h₀ : Heap} {L I : Addr} {m : Str → Option Value} {others lst : List (Addr × Obj)} {oI : Obj}
theorem News.head_set {h h' : Heap} {oI' : Obj} (N : News h₀ L h ((I, oI) :: others)) (off : ∀ p ∈ others, p.1 ≠ I) (hs : Heap.SameBut I h h') (hI : h'.get? I = some oI') : News h₀ L h' ((I, oI') :: others) := by
  intro p hp
  rcases List.mem_cons.mp hp with rfl | hp
  · exact ⟨hI, (N _ (.head _)).2⟩
  · have := N p (.tail _ hp)
    exact ⟨(hs.2 p.1 (off p hp)).trans this.1, this.2⟩
theorem News.list {h : Heap} {l : Addr} {vs : Array Value} {c : Nat} {news : List (Addr × Obj)} (N : News h₀ L h news) (hm : (l, listOf vs c) ∈ news) : h.IsList l vs := ⟨_, (N _ hm).1, rfl, _, rfl⟩

theorem ints_head {vs : Array Value} {i : Nat} {n : Int} {ns : List Int} (h : IntsAre (vs.toList.drop i) (n :: ns)) : ∃ t, vs[i]? = some (.int n t) ∧ IntsAre (vs.toList.drop (i + 1)) ns := by
  have e : vs[i]? = vs.toList[i]? := by simp
  cases q : vs.toList.drop i with
  | nil => rw [q] at h; cases h
  | cons v r =>
    rw [q] at h
    have h1 : vs.toList[i]? = some v := by rw [← List.head?_drop, q]; rfl
    have h2 : vs.toList.drop (i + 1) = r := by rw [← List.tail_drop, q]; rfl
    cases h with
    | cons _ _ hr => exact ⟨_, by rw [e, h1], by rw [h2]; exact hr⟩
theorem ints_end {vs : Array Value} {i : Nat} (h : IntsAre (vs.toList.drop i) []) : vs[i]? = none := by
  have e : vs[i]? = vs.toList[i]? := by simp
  cases q : vs.toList.drop i with
  | nil => rw [e, ← List.head?_drop, q]; rfl
  | cons v r => rw [q] at h; cases h

theorem next_item {n : Int} {ns : List Int} (F : Fr h₀ L s.heap m) (N : News h₀ L s.heap ((I, oI) :: others)) (off : ∀ p ∈ others, p.1 ≠ I) (sub : ∀ p ∈ lst, p ∈ others) (hI : ItSt lst oI (n :: ns))
    (h : ∀ h' tk t oI', Fr h₀ L h' m → News h₀ L h' ((I, oI') :: others) → ItSt lst oI' ns → Q (.int n t) { s with heap := h', toks := tk }) :
    wpAny (model prog w) A (call (.builtin "next") [.ref I]) Q E s := by
  have hm := N _ (.head _)
  generalize hl : n :: ns = l at hI
  cases hI with
  | list hv hi =>
    subst hl
    obtain ⟨t, ht, hr⟩ := ints_head hi
    exact next_list_item hm.1 (News.list N (.tail _ (sub _ hv))) ht fun h' e hs => h h' s.toks t _ (F.change hs hm.2.1 hm.2.2) (News.head_set N off hs e) (.list hv hr)
  | @range x k =>
    cases k with
    | zero => cases hl
    | succ k =>
      rw [rangeL_succ] at hl
      cases hl
      refine next_range_item hm.1 (by omega) fun h' e hs => h h' _ _ _ (F.change hs hm.2.1 hm.2.2) (News.head_set N off hs e) ?_
      have q : (((k + 1 : Nat) : Int) - 1) = ((k : Nat) : Int) := by push_cast; omega
      rw [q]
      exact .range

theorem next_end (hh : A.handled = none) (F : Fr h₀ L s.heap m) (N : News h₀ L s.heap ((I, oI) :: others)) (off : ∀ p ∈ others, p.1 ≠ I) (sub : ∀ p ∈ lst, p ∈ others) (hI : ItSt lst oI [])
    (h : ∀ h₁ h' e oI', Fr h₀ L h₁ m → News h₀ L h₁ ((I, oI') :: others) → Heap.NewExc h₁ h' e "StopIteration" → E (.ref e) { s with heap := h' }) :
    wpAny (model prog w) A (call (.builtin "next") [.ref I]) Q E s := by
  have hm := N _ (.head _)
  generalize hl : ([] : List Int) = l at hI
  cases hI with
  | list hv hi =>
    subst hl
    exact next_list_end hh hm.1 (News.list N (.tail _ (sub _ hv))) (ints_end hi) fun h₁ o h' e e1 hs hx => h h₁ h' e o (F.change hs hm.2.1 hm.2.2) (News.head_set N off hs e1) hx
  | @range x k =>
    cases k with
    | zero => exact next_range_end hh hm.1 (by simp) fun h' e hx => h s.heap h' e _ F N hx
    | succ k => rw [rangeL_succ] at hl; cases hl
end

end TextG2
section TextG3
set_option maxRecDepth 100000
open PySem PySem.W PySem.Calls PyProof.Rows
section
variable {prog : Program} {w : World} {A : Around} {E : Value → Shared → Prop} {s : Shared} {q k : Addr} {env : Env} {pos : Pos}

theorem keeps_wrap {M : Model} (h : Heap) (X : h.get? q = some (wrapObj k)) : ∃ kp, (kp = Keeper.frame ∨ kp = Keeper.machine ∨ kp = Keeper.boundFrame) ∧ Looks M h (keeperOf (.ref q)) kp :=
  ⟨.machine, .inr (.inl rfl), (Looks.ld (part := none) X).andThen .now⟩

theorem callWith_wrap {h₀ : Heap} {L : Addr} {news : List (Addr × Obj)} {first : List Value} {e : PySem.Expr} {rest : List PySem.Expr} {M : Model} {Q : Value → Shared → Prop} (_N : News h₀ L s.heap news) (_q : (q, wrapObj k) ∈ news)
    (h : wpAny M A (spliced (backTo pos (starEach (e :: rest) env))) (fun vs s₁ => s₁.heap.get? q = some (wrapObj k) ∧ wpAny M A (call (.ref q) (first ++ vs)) Q E s₁) E s)
    (he : starEach (e :: rest) env = (false, eval e env) :: starEach rest env := by rfl) (hplain : (backTo pos (starEach rest env)).any (·.1) = false := by rfl) :
    wpAny M A (callWith pos (.ref q) first (backTo pos (starEach (e :: rest) env)) []) Q E s := by
  rw [he] at h ⊢
  exact callWith_of (by show ((false || (backTo pos (starEach rest env)).any (·.1)) || false) = false; rw [hplain]; rfl) keeps_wrap (evalArgs_plain h)

def isN (n : Int) : Value → Bool
  | .int a _ => a == n
  | _ => false
theorem any_isN {vs : List Value} {ns : List Int} (h : IntsAre vs ns) (n : Int) : vs.any (isN n) = decide (n ∈ ns) := by
  induction h with
  | nil => simp
  | cons a t _ ih =>
    rw [List.any_cons, ih]
    simp only [isN, List.mem_cons]
    by_cases hn : n = a
    · subst hn; simp
    · have : ¬ a = n := fun e => hn e.symm
      simp [hn, this]
theorem ints_mem {vs : List Value} {ns : List Int} (h : IntsAre vs ns) : ∀ v ∈ vs, ∃ a t, v = .int a t := by
  induction h with
  | nil => intro v hv; cases hv
  | cons a t _ ih =>
    intro v hv
    rcases List.mem_cons.mp hv with rfl | hv
    · exact ⟨a, t, rfl⟩
    · exact ih v hv

theorem check_contains (a b : Value) : checkBoundCall "list.__contains__" ⟨[a, b], []⟩ = pure () := by kernel_rfl
theorem plain_contains : plainId "list.__contains__" = true := by decide +kernel

theorem call_wrap {items : Array Value} {c : Nat} {kz : List Int} {n : Int} {t : Tok} {Q : Value → Shared → Prop} (hq : s.heap.get? q = some (wrapObj k)) (hk : s.heap.get? k = some (listOf items c)) (hi : IntsAre items.toList kz)
    (h : Q (.bool (decide (n ∈ kz))) s) : wpAny (model prog w) A (call (.ref q) [.int n t]) Q E s := by
  refine wpAny_call (codeAny_of_tree ?_)
  show wpAny _ _ (callAny (.ref q) _) _ _ _
  refine nd_load hq ?_
  show wpAny _ _ (checkBoundCall "list.__contains__" ⟨[.ref k, .int n t], []⟩ >>= fun _ => again (.builtin "list.__contains__" ⟨[.ref k, .int n t], []⟩) >>= fun x => pure x) _ _ _
  rw [check_contains]
  refine wpAny_bind (wpAny_pure ?_)
  refine wpAny_bind (wpAny_pure (wpAny_pure ⟨plainId_quiet plain_contains _, codeAny_builtin PySem.F.entry_list_contains ?_⟩))
  rw [Around.under_plainId plain_contains]
  refine MeetsSeq.list_contains k items c (.int n t) (isN n) (fun y hy => ?_) prog w _ _ s ⟨hk, ?_⟩
  · obtain ⟨a, u, rfl⟩ := ints_mem hi y (Array.mem_toList_iff.mpr hy)
    exact MeetsSeq.EqGives.int a n u t
  · show Q _ _
    rw [← Array.any_toList, any_isN hi n]
    exact h

theorem call_wrapN {h₀ : Heap} {L : Addr} {news : List (Addr × Obj)} {items : Array Value} {c : Nat} {kz : List Int} {n : Int} {t : Tok} {Q : Value → Shared → Prop} (N : News h₀ L s.heap news) (hq : (q, wrapObj k) ∈ news) (hk : (k, listOf items c) ∈ news) (hi : IntsAre items.toList kz)
    (h : Q (.bool (decide (n ∈ kz))) s) : wpAny (model prog w) A (call (.ref q) [.int n t]) Q E s := call_wrap (N _ hq).1 (N _ hk).1 hi h
end

end TextG3
section TextG4
set_option maxRecDepth 100000
open PySem PySem.W PySem.Calls PyProof.Rows
section
variable {prog : Program} {w : World} {A : Around} {E : Value → Shared → Prop} {s : Shared}
-- the items that a range hands to a new list, whatever its iterator
theorem run_loop {R : Result → Shared → Prop} {I S : Addr} {a c : Int} {n : Nat} {St : Nat → Heap → Prop} (W : Walks prog w A.in1 I [I] [I] n (fun i v => ∃ t, v = .int (a + i * c) t) St) (hn : n ≤ 1000) (hSI : S ≠ I) (res : Value) {c₁ : Nat}
    (hst : St 0 s.heap) (hS : s.heap.get? S = some (listOf #[] c₁))
    (hR : ∀ h' tk acc' c', (∀ b o, b ≠ S → b ≠ I → s.heap.get? b = some o → h'.get? b = some o) → h'.get? S = some (listOf acc' c') → ItemsOf (fun i v => ∃ t, v = .int (a + i * c) t) acc' n → R (.ok (.ret res)) { s with heap := h', toks := tk }) :
    codeAny (model prog w) A (.builtin "list.extend.loop" ⟨[.ref S, .ref I, res], []⟩) R s := by
  refine codeAny_extend_loopS W.toS (by rw [sizeLine_eq]; omega) S (fun hm => hSI (List.mem_singleton.mp hm)) res n 0 s #[] c₁ rfl (Nat.zero_le _) hst hS (ItemsOf.nil _) fun s' acc' c' hm hS' hacc => ?_
  obtain ⟨h', g', d', tk', os'⟩ := s'
  have e1 : g' = s.gens := hm.gens
  have e2 : d' = s.drawn := hm.drawn
  have e3 : os' = s.os := hm.os
  subst e1 e2 e3
  exact hR h' tk' acc' c' (fun b o h1 h2 e => hm.heap b o (fun q => by
    rcases List.mem_cons.mp q with z | z
    · exact h1 z
    · exact h2 (List.mem_singleton.mp z)) e) hS' hacc

theorem ints_of_get : ∀ (vs : List Value) (ns : List Int), vs.length = ns.length → (∀ (j : Nat) (v : Value), vs[j]? = some v → ∃ (n : Int) (t : Tok), ns[j]? = some n ∧ v = Value.int n t) → IntsAre vs ns
  | [], [], _, _ => .nil
  | [], _ :: _, h, _ => by cases h
  | _ :: _, [], h, _ => by cases h
  | v :: vs, n :: ns, h, hg => by
    obtain ⟨n', t, e1, e2⟩ := hg 0 v rfl
    cases e1
    subst e2
    exact .cons _ _ (ints_of_get vs ns (Nat.succ.inj h) fun j v hv => hg (j + 1) v hv)
theorem ints_of {a c : Int} {acc : Array Value} {n : Nat} (h : ItemsOf (fun i v => ∃ t, v = .int (a + i * c) t) acc n) : IntsAre acc.toList (rangeInts a c n) :=
  ints_of_get _ _ (by rw [rangeInts_length, Array.length_toList, h.1]) fun j v hv => by
    have hj : j < n := by
      have := (List.getElem?_eq_some_iff.mp hv).1
      rw [Array.length_toList, h.1] at this
      exact this
    obtain ⟨t, e⟩ := h.2 j v (by rw [← Array.getElem?_toList]; exact hv)
    exact ⟨_, t, rangeInts_get hj, e⟩

theorem run_extend {R : Result → Shared → Prop} {r S : Addr} {a b c : Int} {t u v : Tok} {n : Nat} (hh : A.handled = none) (hr : IsRange s.heap r a b c t u v) (hn : Builtin.Range.rangeSize a b c = n) (hlen : n ≤ 1000) (res : Value) {c₀ : Nat} (hS : s.heap.get? S = some (listOf #[] c₀))
    (hR : ∀ h' tk acc' c', (∀ b o, b ≠ S → s.heap.get? b = some o → h'.get? b = some o) → h'.get? S = some (listOf acc' c') → IntsAre acc'.toList (rangeInts a c n) → R (.ok (.ret res)) { s with heap := h', toks := tk }) :
    wpAny (model prog w) A.in1 (Builtin.List.listExtendWith (.ref S) (.ref r) res)
      (fun fin s' => match fin with | .done f => R (.ok f) s' | .again c' => c'.quiet = true ∧ codeAny (model prog w) A c' R s') (fun e s' => R (.error e) s') s := by
  have hSr : S ≠ r := fun e => by rw [e, hr] at hS; simp at hS
  have hSI : S ≠ s.heap.objs.size := Nat.ne_of_lt (Heap.lt_size hS)
  -- what follows, an iterator at hand
  have go : ∀ (io : Obj) (St : Nat → Heap → Prop), io.isFreed = false → Walks prog w A.in1 s.heap.objs.size [s.heap.objs.size] [s.heap.objs.size] n (fun i v => ∃ t, v = .int (a + i * c) t) St → (∀ h, h.get? s.heap.objs.size = some io → St 0 h) →
      wpAny (model prog w) A.in1 (holding [Value.ref s.heap.objs.size] (Builtin.List.listLengthHint (.ref r)) >>= fun room => if room || (["set", "frozenset", "dict", "dict_keys", "dict_values", "dict_items"] : List String).any (fun x => Value.type "range" == Value.type x) then (rule "list.extend.makes-room" >>= fun _ => Builtin.List.listTouch (.ref S) >>= fun _ => again (.builtin "list.extend.loop" ⟨[.ref S, .ref s.heap.objs.size, res], []⟩)) else again (.builtin "list.extend.loop" ⟨[.ref S, .ref s.heap.objs.size, res], []⟩))
        (fun fin s' => match fin with | .done f => R (.ok f) s' | .again c' => c'.quiet = true ∧ codeAny (model prog w) A c' R s') (fun e s' => R (.error e) s') { s with heap := s.heap.push io } := by
    intro io St hfr W hst
    have hI := Heap.get?_push_size s.heap (o := io) hfr
    have hS₁ := Heap.get?_push_of_some io hS
    have fin : ∀ (h : Heap) (c₁ tk : Nat), h.get? s.heap.objs.size = some io → (∀ b o, b ≠ S → s.heap.get? b = some o → h.get? b = some o) → h.get? S = some (listOf #[] c₁) →
        codeAny (model prog w) A (.builtin "list.extend.loop" ⟨[.ref S, .ref s.heap.objs.size, res], []⟩) R { s with heap := h, toks := tk } := fun h c₁ tk hi hk hs =>
      run_loop (s := { s with heap := h, toks := tk }) W hlen hSI res (hst h hi) hs fun h' tk' acc' c' hk' hS' hacc =>
        hR h' tk' acc' c' (fun b o h1 e => hk' b o h1 (Nat.ne_of_lt (Heap.lt_size e)) (hk b o h1 e)) hS' (ints_of hacc)
    refine wpAny_bind (wpAny_holding (wpAny_hint_range (n := n) (Heap.get?_push_of_some _ hr) hn (by omega) ?_))
    refine wpAny_ite_split (fun _ => ?_) (fun _ => wpAny_pure ⟨plainId_quiet PySem.F.plain_extend_loop _, fin _ c₀ _ hI (fun b o _ e => Heap.get?_push_of_some _ e) hS₁⟩)
    refine wpAny_bind (wpAny_rule ?_)
    refine wpAny_bind ?_
    show wpAny _ _ (updateSeq S (·.push .none) >>= fun _ => updateSeq S (·.pop)) _ _ _
    refine wpAny_bind (wpAny_updateSeq hS₁ rfl ?_)
    have hS₂ := Heap.get?_update_self (Obj.mapSeq (·.push Value.none)) hS₁ rfl
    refine wpAny_updateSeq (hz := by seq_fits) hS₂ rfl ?_
    have hS₃ := Heap.get?_update_self (Obj.mapSeq (·.pop)) hS₂ rfl
    refine wpAny_pure ⟨plainId_quiet PySem.F.plain_extend_loop _, fin _ _ _ ?_ (fun b o hb e => ?_) hS₃⟩
    · exact (Heap.get?_update_other _ _ hSI).trans ((Heap.get?_update_other _ _ hSI).trans hI)
    · exact (Heap.get?_update_other _ _ (Ne.symm hb)).trans ((Heap.get?_update_other _ _ (Ne.symm hb)).trans (Heap.get?_push_of_some _ e))
  unfold Builtin.List.listExtendWith
  refine wpAny_bind (wpAny_typeOf (T := "range") ⟨_, hr, rfl⟩ ?_)
  have h1 : Builtin.List.listSameRef (.ref S) (.ref r) = false := by simp [Builtin.List.listSameRef, hSr]
  have h2 : (Value.type "range" == Value.type "list") = false := by decide
  have h3 : (Value.type "range" == Value.type "tuple") = false := by decide
  simp only [h1, h2, h3, Bool.or_false, Bool.false_eq_true, if_false]
  by_cases hsm : Builtin.Range.small a b c = true
  · refine wpAny_bind (wpAny_pyIter_range hr hsm ?_)
    exact go _ _ rfl (Walks.range (prog := prog) (w := w) (A := A.in1) hh s.heap.objs.size a c n) fun h hi => by show IsRangeIter _ _ _ _ _; rw [← hn]; simpa using hi
  · refine wpAny_bind (wpAny_pyIter_longrange hr (by simpa using hsm) ?_)
    exact go _ _ rfl (Walks.longrange (prog := prog) (w := w) (A := A.in1) hh s.heap.objs.size a c n) fun h hi => by show IsLongIter _ _ _ _ _; rw [← hn]; simpa using hi

theorem list_rangeN {Q : Value → Shared → Prop} {h₀ : Heap} {L : Addr} {m : Str → Option Value} {news : List (Addr × Obj)} {r : Addr} {a b c : Int} {t u v : Tok} {n : Nat} (hh : A.handled = none) (F : Fr h₀ L s.heap m) (N : News h₀ L s.heap news) (hr : IsRange s.heap r a b c t u v) (hn : Builtin.Range.rangeSize a b c = n) (hlen : n ≤ 1000)
    (hQ : ∀ D h' tk acc' c', Fr h₀ L h' m → News h₀ L h' ((D, listOf acc' c') :: news) → IntsAre acc'.toList (rangeInts a c n) → (∀ p ∈ news, p.1 < D) → Q (.ref D) { s with heap := h', toks := tk }) :
    wpAny (model prog w) A (call (.type "list") [.ref r]) Q E s := by
  have hS : (s.heap.push (listOf #[] 0)).get? s.heap.objs.size = some (listOf #[] 0) := Heap.get?_push_size _ rfl
  refine callType_codes (Q₁ := fun obj s₁ => obj = .ref s.heap.objs.size ∧ s₁ = { s with heap := s.heap.push (listOf #[] 0) }) PySem.F.called_list (PySem.F.typeCall_list_1 _) PySem.F.entry_list_init (code_list_new _ ⟨rfl, rfl⟩) fun obj s₁ h₁ => ?_
  obtain ⟨rfl, rfl⟩ := h₁
  refine ⟨⟨_, hS, rfl⟩, PySem.F.args_list_init_2 _ _, ?_⟩
  show wpAny _ A.in1.in1 (do let old ← Builtin.List.listItems (.ref s.heap.objs.size); Builtin.List.listUpdate (.ref s.heap.objs.size) (fun _ => #[]); letGo old.toList.reverse; Builtin.List.listExtendWith (.ref s.heap.objs.size) (.ref r) .none) _ _ _
  refine wpAny_bind ?_
  unfold Builtin.List.listItems
  refine wpAny_bind (wpAny_seqItems hS rfl (wpAny_pure ?_))
  show wpAny _ _ (updateSeq s.heap.objs.size (fun _ => #[]) >>= fun _ => letGo (#[] : Array Value).toList.reverse >>= fun _ => Builtin.List.listExtendWith (.ref s.heap.objs.size) (.ref r) .none) _ _ _
  refine wpAny_bind (wpAny_updateSeq hS rfl ?_)
  have lt : ∀ p ∈ news, p.1 < s.heap.objs.size := fun p hp => Heap.lt_size (N p hp).1
  obtain ⟨F2, N2⟩ := news_upd (f := Obj.mapSeq (fun _ => (#[] : Array Value))) (o' := listOf #[] 0) (pre := []) (F.push (listOf #[] 0)) (N.push F (listOf #[] 0)) (fun p hp => nomatch hp) (fun p hp => Nat.ne_of_lt (lt p hp)) rfl rfl
  refine wpAny_bind (wpAny_letGo ?_)
  have hSr : r ≠ s.heap.objs.size := Nat.ne_of_lt (Heap.lt_size hr)
  refine run_extend (A := A.in1) hh ((Heap.get?_update_other _ _ (Ne.symm hSr)).trans (Heap.get?_push_of_some _ hr)) hn hlen .none (N2 _ (.head _)).1 fun h' tk acc' c' hk hS' hi => ?_
  refine ⟨rfl, hQ _ h' tk acc' c' ⟨?_, fun b o e => ?_, F.above⟩ (fun p hp => ?_) hi lt⟩
  · obtain ⟨oL, es, ep, hL, x⟩ := F2.ns
    exact ⟨oL, es, ep, hk _ _ (fun z => (N2 _ (.head _)).2.1 z.symm) hL, x⟩
  · exact hk b o (fun z => by have := (N2 _ (.head _)).2.2; rw [← z, e] at this; cases this) (F2.keep b o e)
  · rcases List.mem_cons.mp hp with rfl | hp
    · exact ⟨hS', (N2 _ (.head _)).2⟩
    · have := N2 p (.tail _ hp)
      exact ⟨hk _ _ (Nat.ne_of_lt (lt p hp)) this.1, this.2⟩
end

end TextG4
section TextF2
open PySem PySem.W PyProof.Rows
local macro_rules | `(tactic| k_room) => `(tactic| ktr_room)
local macro_rules | `(tactic| k_mem) => `(tactic| first | exact List.mem_cons_self .. | ktr_member | (refine' List.mem_cons_of_mem _ ?_; k_mem))
def Hold (P : Prop) : Prop := P
theorem Hold.out {P : Prop} (h : Hold P) : P := h
local macro_rules | `(tactic| walk_at "exec While") => `(tactic| refine Hold.out ?_)
local macro_rules | `(tactic| walk_at "call builtin:next") => `(tactic| (k_here; (with_reducible show wpAny _ _ (call (Value.builtin "next") [Value.ref _]) _ _ _); k_dflt (first
  | (refine' Mine.next_item ?F ?N ?off ?sub ?hI ?_; (case F => k_asm); (case N => k_asm); (case off => k_asm); (case sub => k_asm); (case hI => k_asm); intro h' tk' t' o' F' N' hi'; (try k_sweep))
  | (refine' Mine.next_end ?hh ?F ?N ?off ?sub ?hI ?_; (case hh => rfl); (case F => k_asm); (case N => k_asm); (case off => k_asm); (case sub => k_asm); (case hI => k_asm); intro h1' h' e' o' F' N' hx'))))
local macro_rules | `(tactic| walk_at "callWith ref") => `(tactic| (k_here; k_dflt (refine' Mine.callWith_wrap ?N ?q ?_; (case N => k_asm); (case q => k_mem))))
local macro_rules | `(tactic| walk_at "call ref") => `(tactic| (k_here; k_dflt (refine' Mine.call_wrapN ?N ?q ?k ?i ?_; (case N => k_asm); (case q => k_mem); (case k => k_mem); (case i => k_asm))))
local macro_rules | `(tactic| walk_at "leaving ref") => `(tactic| (k_here; k_dflt (refine' leave_newS ?K ?x ?F ?N ?_; (case K => k_asm); (case x => k_asm); (case F => k_asm); (case N => k_asm); intro h' R' _ U')))
theorem wrap_at {h₀ h : Heap} {L q k : Addr} {news : List (Addr × Obj)} (N : News h₀ L h news) (hq : (q, Mine.wrapObj k) ∈ news) : h.get? q = some (Mine.wrapObj k) := (N _ hq).1
local macro_rules | `(tactic| walk_at "And") => `(tactic| (k_here; k_dflt (refine' And.intro (wrap_at ?N ?q) ?_; (case N => k_asm); (case q => k_mem))))
def ffObj (C dx : Addr) (fv it : Value) : Obj := { cls := .ref C, dict := some dx, data := .plain, slots := #[some fv, some it] }

def NextJ (p : Int → Bool) (I : Addr) (lst others : List (Addr × Obj)) (ns : List Int) (M : Str → Option Value) (n : Nat) (m₁ : Str → Option Value) (news₁ : List (Addr × Obj)) : Prop :=
  ∃ oI₁ ns₁ o, n = ns₁.length ∧ news₁ = (I, oI₁) :: others ∧ Mine.ItSt lst oI₁ ns₁ ∧ ns₁.dropWhile p = ns.dropWhile p ∧ m₁ = fun y => if y = Str.ofString "item" then o else M y
section
variable {prog : Program} {w : World} {A : Around} {E : Value → Shared → Prop} {s : Shared} {Q : Flow → Shared → Prop} {h₀ : Heap} {L I : Addr} {M : Str → Option Value} {lst others : List (Addr × Obj)} {oI : Obj} {ns : List Int} {p : Int → Bool}
theorem while_next {test : PySem.Expr} {body : List Stmt} {pos : Pos} {env : Env} (p : Int → Bool) (F : Fr h₀ L s.heap M) (N : News h₀ L s.heap ((I, oI) :: others)) (hit : Mine.ItSt lst oI ns) (hM : M (Str.ofString "item") = none)
    (turn : ∀ oI₁ ns₁ o h₁ tk₁, Fr h₀ L h₁ (fun y => if y = Str.ofString "item" then o else M y) → News h₀ L h₁ ((I, oI₁) :: others) → Mine.ItSt lst oI₁ ns₁ → ns₁.dropWhile p = ns.dropWhile p →
      wpAny (model prog w) A (isTrue test env (eval test env)) (fun b s₂ => if b = true then wpAny (model prog w) A (execs body env) (WhileStep2 h₀ L s (NextJ p I lst others ns M) Q ns₁.length) E s₂ else Q .next s₂) E { s with heap := h₁, toks := tk₁ })
    (hE : PassesOwn (model prog w) A env E) :
    wpAny (model prog w) A (exec (.While test body [] pos) env) Q E s := by
  refine While_inv2 (NextJ p I lst others ns M) (n₀ := ns.length) F N ⟨oI, ns, none, rfl, rfl, hit, rfl, funext fun y => ?_⟩ ?_ hE
  · split
    · rename_i h; rw [h, hM]
    · rfl
  · rintro n m₁ news₁ h₁ tk₁ F₁ N₁ ⟨oI₁, ns₁, o, rfl, rfl, hit₁, hd, rfl⟩
    exact turn oI₁ ns₁ o h₁ tk₁ F₁ N₁ hit₁ hd
theorem while_ret {J : Nat → (Str → Option Value) → List (Addr × Obj) → Prop} {n : Nat} {v : Value} {s₃ : Shared} (h : Q (.ret v) s₃) : WhileStep2 h₀ L s J Q n (.ret v) s₃ := h
theorem while_go {h₁ : Heap} {tk₁ : Nat} {o : Option Value} {oI₁ : Obj} {ns₁ : List Int} {n : Int} (F : Fr h₀ L h₁ (fun y => if y = Str.ofString "item" then o else M y)) (N : News h₀ L h₁ ((I, oI₁) :: others)) (hit : Mine.ItSt lst oI₁ ns₁) (hd : (n :: ns₁).dropWhile p = ns.dropWhile p) (hp : p n = true) :
    WhileStep2 h₀ L s (NextJ p I lst others ns M) Q (n :: ns₁).length .next { s with heap := h₁, toks := tk₁ } :=
  ⟨h₁, tk₁, _, _, ns₁.length, rfl, F, N, Nat.lt_succ_self _, oI₁, ns₁, o, rfl, rfl, hit, by rw [← hd, List.dropWhile_cons_of_pos hp], rfl⟩
theorem while_go2 {h₁ : Heap} {tk₁ : Nat} {v : Value} {o : Option Value} {oI₁ : Obj} {ns₁ : List Int} {n : Int} (F : Fr h₀ L h₁ (fun y => if y = Str.ofString "item" then some v else if y = Str.ofString "item" then o else M y)) (N : News h₀ L h₁ ((I, oI₁) :: others)) (hit : Mine.ItSt lst oI₁ ns₁) (hd : (n :: ns₁).dropWhile p = ns.dropWhile p) (hp : p n = true) :
    WhileStep2 h₀ L s (NextJ p I lst others ns M) Q (n :: ns₁).length .next { s with heap := h₁, toks := tk₁ } :=
  while_go (o := some v) ((funext fun y => by split <;> rfl : (fun y => if y = Str.ofString "item" then some v else if y = Str.ofString "item" then o else M y) = fun y => if y = Str.ofString "item" then some v else M y) ▸ F) N hit hd hp
end
set_option maxRecDepth 100000 in
set_option maxHeartbeats 8000000 in
theorem nextC {w : World} {mean : ExcName → Option Value} {mg mb : Str → Option Value} (dp un : Nat) (gd : Option (List Code)) (cn : Str) (cs : Scope) (a : Addr) (ccd : Value) (cl : List (Str × Addr)) (outer : List Env) (A₀ : Around) (base h₀ : Heap) (L : Addr) (m : Str → Option Value) (s : Shared) (Q E : Value → Shared → Prop)
  (x dx I q k : Addr) (ks : Array Value) (kz ns : List Int) (n2 : Nat) (oI : Obj) (lst others : List (Addr × Obj)) :
    Below A₀ base outer h₀ → Fr h₀ L s.heap m → (hd.heap_39 w.params).In h₀ → News h₀ L s.heap ((I, oI) :: others) → (∀ p ∈ others, p.1 ≠ I) → (∀ p ∈ lst, p ∈ others) → (x, ffObj 47 dx (.ref q) (.ref I)) ∈ others → (dx, dictOf [] 0) ∈ others → (q, Mine.wrapObj k) ∈ others → (k, listOf ks n2) ∈ others → IntsAre ks.toList kz → Mine.ItSt lst oI ns →
     Top hd.view_39 (looseW hd.view_39 [Str.ofString "filterfalse"]) mean mg mb h₀ → cs.kind = .function →
     dp + 10 < recursionLimit → un + 80 < cLine →
     (∀ n ns' t h' tk oI', ns.dropWhile (fun z => decide (z ∈ kz)) = n :: ns' → Fr h₀ L h' m → News h₀ L h' ((I, oI') :: others) → Mine.ItSt lst oI' ns' → Q (.int n t) { s with heap := h', toks := tk }) →
     (∀ h' tk e oI' G, ns.dropWhile (fun z => decide (z ∈ kz)) = [] → RaisedSN base G (envX cn cs L a ccd cl :: outer) e (.type "StopIteration") ((I, oI') :: others) h' → Fr h₀ L G m → G.UpToSlots h' → E (.ref e) { s with heap := h', toks := tk }) →
      wpAny (model PySem.Challenge.rw_ij0194_01.row.prog w) (ktrTop dp un gd cn cs L a ccd cl outer) (call (.ref 43) [.ref x]) Q E s := by
  k_fill
  intro B F X N hoff hsub mx mdx mq mk hi hit T hk hdp hun hitem hstop
  refine wpAny_call ?_
  k_dflt cell_enter
  k_steps
  unfold Hold
  rename Fr _ _ _ _ => F1
  rename News _ _ _ _ => N1
  refine while_next (fun z => decide (z ∈ kz)) F1 N1 hit (by exact rfl) ?_ (by first | passes_own | with_unfolding_all passes_own)
  intro oI1 ns1 o1 h1 tk1 F2 N2 hit1 hd1
  clear F1 N1 hit
  cases ns1 with
  | nil =>
    k_steps
    exact hstop _ _ _ _ _ (by rw [← hd1]; rfl) (by assumption) (by assumption) (by assumption)
  | cons n ns2 =>
    k_steps
    · exact while_go2 (by assumption) (by assumption) (by assumption) hd1 (by simp only [decide_eq_true_eq]; assumption)
    · dsimp only
      k_steps
      refine while_ret ?_
      dsimp only
      k_steps
      refine hitem _ _ _ _ _ _ (by rw [← hd1]; exact List.dropWhile_cons_of_neg (by simp only [decide_eq_true_eq]; assumption)) ?_ ?_ (by assumption)
      all_goals k_asm

end TextF2
section TextF3
set_option maxRecDepth 100000
open PySem PySem.W PySem.Calls PyProof.Rows

section
variable {M : Model} {A A₀ : Around} {E : Value → Shared → Prop} {Q : Option Value → Shared → Prop} {s : Shared} {base g G : Heap} {outer : List Env} {L a e : Addr} {m : Str → Option Value} {name : Str} {scope : Scope} {cd : Value} {news : List (Addr × Obj)}
theorem stop_on (R : RaisedSN base G (envOf name scope L a cd :: outer) e (.type "StopIteration") news s.heap) (F : Fr g L G m) (K : Below A₀ base outer g) (hsm : G.UpToSlots s.heap)
    (k : ∀ g', KtsTurn (outer.filterMap (·.frame)) g g' → Fr g' L s.heap m → News g' L s.heap news → Below A₀ base outer g' → Q none s) : OwitStop M A Q E (.ref e) s := by
  obtain ⟨B, a0, hB, hBG, hl, hfl⟩ := R
  have hL : B.get? L = none := by
    obtain ⟨_, ⟨L', _, hf, hn', _⟩, _⟩ := hfl.2.2.1
    obtain rfl : L = L' := Option.some.inj hf
    exact hn'
  obtain ⟨g₅, T₅, F₅, K₅⟩ := kts_ground K F hBG hfl.1 hsm
  obtain ⟨ob, hob, hobc⟩ := hfl.there
  have hT : s.TypeIs (.ref e) "StopIteration" := ⟨ob, hob, hobc⟩
  unfold OwitStop
  refine wpAny_isInstance (b := true) hT (by rw [isSubtype_type]; kernel_rfl) ?_
  rw [if_pos rfl]
  exact k g₅ T₅ F₅ (fun q hq => ⟨hfl.1 _ _ (hl q hq).1, (fun z => by have := (hl q hq).1; rw [z, hL] at this; cases this), T₅.none_ _ (kts_none F.keep (hl q hq).2.1)⟩) K₅
end

abbrev NextPre (w : World) (mean : ExcName → Option Value) (mg mb : Str → Option Value) (A₀ : Around) (base : Heap) (outer : List Env) (h₀ : Heap) (k : Addr) (kz : List Int) (x dx I q : Addr) (lst others : List (Addr × Obj)) : Prop :=
  Below A₀ base outer h₀ ∧ (hd.heap_39 w.params).In h₀ ∧ Top hd.view_39 (looseW hd.view_39 [Str.ofString "filterfalse"]) mean mg mb h₀ ∧ (∀ p ∈ others, p.1 ≠ I) ∧ (∀ p ∈ lst, p ∈ others) ∧
  (x, ffObj 47 dx (.ref q) (.ref I)) ∈ others ∧ (dx, dictOf [] 0) ∈ others ∧ (q, Mine.wrapObj k) ∈ others ∧ ∃ ks n2, (k, listOf ks n2) ∈ others ∧ IntsAre ks.toList kz

set_option maxHeartbeats 8000000 in
theorem nextP {w : World} {mean : ExcName → Option Value} {mg mb : Str → Option Value} {dp un : Nat} {gd : Option (List Code)} {cn : Str} {cs : Scope} {a : Addr} {ccd : Value} {outer : List Env} {A₀ : Around} {base h₀ : Heap} {L : Addr} {m : Str → Option Value} {s : Shared} {Q : Option Value → Shared → Prop} {E : Value → Shared → Prop}
  {x dx I q k : Addr} {kz ns : List Int} {oI : Obj} {lst others : List (Addr × Obj)}
    (P : NextPre w mean mg mb A₀ base outer h₀ k kz x dx I q lst others) (F : Fr h₀ L s.heap m) (N : News h₀ L s.heap ((I, oI) :: others)) (hit : Mine.ItSt lst oI ns) (hk : cs.kind = .function) (hdp : dp + 10 < recursionLimit) (hun : un + 80 < cLine)
    (item : ∀ n ns' t h' tk oI', ns.dropWhile (fun z => decide (z ∈ kz)) = n :: ns' → Fr h₀ L h' m → News h₀ L h' ((I, oI') :: others) → Mine.ItSt lst oI' ns' → Q (some (.int n t)) { s with heap := h', toks := tk })
    (stop : ∀ h' tk oI' g', ns.dropWhile (fun z => decide (z ∈ kz)) = [] → KtsTurn (outer.filterMap (·.frame)) h₀ g' → Fr g' L h' m → News g' L h' ((I, oI') :: others) → Below A₀ base outer g' → Q none { s with heap := h', toks := tk }) :
    wpAny (model PySem.Challenge.rw_ij0194_01.row.prog w) (ktrTop dp un gd cn cs L a ccd [] outer) (pyNext (.ref x)) Q E s := by
  have P' := P
  clear P
  obtain ⟨B, X, T, hoff, hsub, mx, mdx, mq, ks, n2, mk, hi⟩ := P'
  revert X
  k_fill
  intro X
  have I' : InstAt s.heap x (ffObj 47 dx (.ref q) (.ref I)) 47 (some (dictOf [] 0)) := InstAt.of_news N (List.mem_cons_of_mem _ mx) (List.mem_cons_of_mem _ mdx)
  refine owit_next F X I' (f := 43) (by k_is) (by k_is) ?_
  refine nextC dp un gd cn cs a ccd [] outer A₀ base h₀ L m s _ _ x dx I q k ks kz ns n2 oI lst others B F X N hoff hsub mx mdx mq mk hi hit T hk hdp hun ?_ ?_
  · intro n ns' t h' tk oI' e F' N' hit'
    exact item n ns' t h' tk oI' e F' N' hit'
  · intro h' tk e oI' G hd R FG U
    refine stop_on (A₀ := A₀) (name := cn) (scope := cs) (a := a) (cd := ccd) (L := L) (outer := outer) (base := base) R FG B U fun g' T' F' N' B' => ?_
    exact stop h' tk oI' g' hd T' F' N' B'

theorem drop_item {p : Int → Bool} : ∀ {ns ns' : List Int} {n : Int}, ns.dropWhile p = n :: ns' → p n = false ∧ ns.filter (fun z => !p z) = n :: ns'.filter (fun z => !p z) ∧ ns'.length < ns.length
  | [], _, _, h => by cases h
  | a :: r, ns', n, h => by
    by_cases ha : p a = true
    · rw [List.dropWhile_cons_of_pos ha] at h
      obtain ⟨h1, h2, h3⟩ := drop_item h
      exact ⟨h1, by rw [List.filter_cons_of_neg (by simp [ha])]; exact h2, Nat.lt_succ_of_lt h3⟩
    · rw [List.dropWhile_cons_of_neg ha] at h
      cases h
      exact ⟨by simpa using ha, List.filter_cons_of_pos (by simpa using ha), Nat.lt_succ_self _⟩
theorem drop_stop {p : Int → Bool} : ∀ {ns : List Int}, ns.dropWhile p = [] → ns.filter (fun z => !p z) = []
  | [], _ => rfl
  | a :: r, h => by
    by_cases ha : p a = true
    · rw [List.dropWhile_cons_of_pos ha] at h
      rw [List.filter_cons_of_neg (by simp [ha])]
      exact drop_stop h
    · rw [List.dropWhile_cons_of_neg ha] at h
      cases h

abbrev keptL (kz ns : List Int) : List Int := ns.filter fun z => !decide (z ∈ kz)

theorem ext_loop {w : World} {mean : ExcName → Option Value} {mg mb : Str → Option Value} {dp un : Nat} {gd : Option (List Code)} {cn : Str} {cs : Scope} {a : Addr} {ccd : Value} {outer : List Env} {A₀ : Around} {base h₀ : Heap} {L : Addr} {m : Str → Option Value} {R : Result → Shared → Prop}
  {x dx I q k D : Addr} {kz : List Int} {rest : List (Addr × Obj)} {res : Value} (hk : cs.kind = .function) (hdp : dp + 10 < recursionLimit) (hun : un + 81 < cLine) (hDI : D ≠ I) (hD : ∀ p ∈ rest, p.1 ≠ D)
  (P : ∀ o, NextPre w mean mg mb A₀ base outer h₀ k kz x dx I q rest ((D, o) :: rest)) :
  ∀ (len : Nat) (ns az : List Int) (s : Shared) (oI : Obj) (acc : Array Value) (c : Nat), ns.length ≤ len → acc.size + ns.length ≤ sizeLine → Fr h₀ L s.heap m → News h₀ L s.heap ((I, oI) :: (D, listOf acc c) :: rest) → Mine.ItSt rest oI ns → IntsAre acc.toList az →
    (∀ h' tk g' acc' c' oI', KtsTurn (outer.filterMap (·.frame)) h₀ g' → Fr g' L h' m → News g' L h' ((I, oI') :: (D, listOf acc' c') :: rest) → IntsAre acc'.toList (az ++ keptL kz ns) → Below A₀ base outer g' → R (.ok (.ret res)) { s with heap := h', toks := tk }) →
    codeAny (model PySem.Challenge.rw_ij0194_01.row.prog w) (ktrTop dp un gd cn cs L a ccd [] outer) (.builtin "list.extend.loop" ⟨[.ref D, .ref x, res], []⟩) R s := by
  intro len
  induction len with
  | zero =>
    intro ns az s oI acc c hlen hsz F N hit hi hR
    have e : ns = [] := List.length_eq_zero_iff.mp (Nat.le_zero.mp hlen)
    subst e
    refine codeAny_builtin PySem.F.entry_extend_loop ?_
    rw [Around.under_plainId PySem.F.plain_extend_loop _]
    show wpAny _ (ktrTop dp (un + 1) gd cn cs L a ccd [] outer) (pyNext (.ref x) >>= _) _ _ s
    refine wpAny_bind (nextP (P _) F N hit hk hdp (by omega) (fun n ns' t h' tk oI' e _ _ _ => by cases e) fun h' tk oI' g' _ T' F' N' B' => ?_)
    exact wpAny_pure (hR h' tk g' acc c oI' T' F' N' (by simpa using hi) B')
  | succ len ih =>
    intro ns az s oI acc c hlen hsz F N hit hi hR
    refine codeAny_builtin PySem.F.entry_extend_loop ?_
    rw [Around.under_plainId PySem.F.plain_extend_loop _]
    show wpAny _ (ktrTop dp (un + 1) gd cn cs L a ccd [] outer) (pyNext (.ref x) >>= _) _ _ s
    refine wpAny_bind (nextP (P _) F N hit hk hdp (by omega) (fun n ns' t h' tk oI' e F' N' hit' => ?_) fun h' tk oI' g' e T' F' N' B' => ?_)
    · obtain ⟨hp, hf, hl⟩ := drop_item e
      show wpAny _ _ (updateSeq D (·.push (.int n t)) >>= _) _ _ _
      have hm : News h₀ L h' ([(I, oI')] ++ (D, listOf acc c) :: rest) := N'
      obtain ⟨U1, U2⟩ := news_upd (f := Obj.mapSeq (·.push (.int n t))) (o' := listOf (acc.push (.int n t)) (if (acc.push (.int n t)).size == acc.size then c else c + 1)) F' hm (fun p hp => by rw [List.mem_singleton.mp hp]; exact fun z => hDI z.symm) hD rfl rfl
      have hs1 : (acc.push (.int n t)).size = acc.size + 1 := Array.size_push _
      refine wpAny_bind (wpAny_updateSeq (N' _ (.tail _ (.head _))).1 rfl (wpAny_pure ⟨plainId_quiet PySem.F.plain_extend_loop _, ?_⟩) (by omega) (by rw [hs1]; omega))
      refine ih ns' (az ++ [n]) _ oI' (acc.push (.int n t)) _ (by omega) (by rw [hs1]; omega) U1 U2 hit' (intsAre_push hi) fun h'' tk'' g' acc' c' oI'' T'' F'' N'' hi'' B'' => ?_
      refine hR h'' tk'' g' acc' c' oI'' T'' F'' N'' ?_ B''
      have q : keptL kz ns = n :: keptL kz ns' := hf
      rw [q]
      simpa using hi''
    · refine wpAny_pure (hR h' tk g' acc c oI' T' F' N' ?_ B')
      have q : keptL kz ns = [] := drop_stop e
      rw [q, List.append_nil]
      exact hi

end TextF3
section TextF4
set_option maxRecDepth 100000
open PySem PySem.W PySem.Calls PyProof.Rows
local macro_rules | `(tactic| k_room) => `(tactic| ktr_room)

set_option maxHeartbeats 8000000 in
theorem iterC {w : World} {mean : ExcName → Option Value} {mg mb : Str → Option Value} (dp un : Nat) (gd : Option (List Code)) (cn : Str) (cs : Scope) (a : Addr) (ccd : Value) (cl : List (Str × Addr)) (outer : List Env) (A₀ : Around) (base h₀ : Heap) (L : Addr) (m : Str → Option Value) (s : Shared) (Q E : Value → Shared → Prop)
  (x : Addr) (news : List (Addr × Obj)) :
    Below A₀ base outer h₀ → Fr h₀ L s.heap m → (hd.heap_39 w.params).In h₀ → News h₀ L s.heap news →
     Top hd.view_39 (looseW hd.view_39 [Str.ofString "filterfalse"]) mean mg mb h₀ → cs.kind = .function →
     dp + 10 < recursionLimit → un + 80 < cLine →
     (∀ h' tk, Fr h₀ L h' m → News h₀ L h' news → Q (.ref x) { s with heap := h', toks := tk }) →
      wpAny (model PySem.Challenge.rw_ij0194_01.row.prog w) (ktrTop dp un gd cn cs L a ccd cl outer) (call (.ref 36) [.ref x]) Q E s := by
  k_fill
  intro B F X N T hk hdp hun hret
  refine wpAny_call ?_
  k_dflt cell_enter
  k_steps
  refine hret _ _ ?_ ?_
  all_goals k_asm

-- list(x), x the filter: what the loop leaves
set_option maxHeartbeats 8000000 in
theorem list_ff {w : World} {mean : ExcName → Option Value} {mg mb : Str → Option Value} {dp un : Nat} {gd : Option (List Code)} {cn : Str} {cs : Scope} {a : Addr} {ccd : Value} {outer : List Env} {A₀ : Around} {base h₀ : Heap} {L : Addr} {m : Str → Option Value} {s : Shared} {Q E : Value → Shared → Prop}
  {x dx I q k : Addr} {kz ns : List Int} {oI : Obj} {rest : List (Addr × Obj)}
    (B : Below A₀ base outer h₀) (X : (hd.heap_39 w.params).In h₀) (T : Top hd.view_39 (looseW hd.view_39 [Str.ofString "filterfalse"]) mean mg mb h₀) (hoff : ∀ p ∈ rest, p.1 ≠ I) 
    (mx : (x, ffObj 47 dx (.ref q) (.ref I)) ∈ rest) (mdx : (dx, dictOf [] 0) ∈ rest) (mq : (q, Mine.wrapObj k) ∈ rest) (mk : ∃ ks n2, (k, listOf ks n2) ∈ rest ∧ IntsAre ks.toList kz)
    (F : Fr h₀ L s.heap m) (N : News h₀ L s.heap ((I, oI) :: rest)) (hit : Mine.ItSt rest oI ns) (hk : cs.kind = .function) (hdp : dp + 10 < recursionLimit) (hun : un + 85 < cLine) (hsz : ns.length ≤ 1000)
    (hQ : ∀ D h' tk g' acc' c' oI', KtsTurn (outer.filterMap (·.frame)) h₀ g' → Fr g' L h' m → News g' L h' ((I, oI') :: (D, listOf acc' c') :: rest) → IntsAre acc'.toList (keptL kz ns) → Below A₀ base outer g' → (∀ p ∈ (I, oI) :: rest, p.1 < D) → Q (.ref D) { s with heap := h', toks := tk }) :
    wpAny (model PySem.Challenge.rw_ij0194_01.row.prog w) (ktrTop dp un gd cn cs L a ccd [] outer) (call (.type "list") [.ref x]) Q E s := by
  have lts : ∀ p ∈ (I, oI) :: rest, p.1 < s.heap.objs.size := fun p hp => Heap.lt_size (N p hp).1
  refine callType_codes (Q₁ := fun obj s₁ => obj = .ref s.heap.objs.size ∧ s₁ = { s with heap := s.heap.push { cls := .type "list", data := .seq #[] } }) PySem.F.called_list (PySem.F.typeCall_list_1 _) PySem.F.entry_list_init (code_list_new _ ⟨rfl, rfl⟩) fun obj s₁ h₁ => ?_
  obtain ⟨rfl, rfl⟩ := h₁
  have F1 := F.push { cls := .type "list", data := .seq #[] }
  have N1 := N.push F { cls := .type "list", data := .seq #[] }
  generalize hS : s.heap.objs.size = S at *
  have hS1 := (N1 _ (.head _)).1
  refine ⟨⟨_, hS1, rfl⟩, PySem.F.args_list_init_2 _ _, ?_⟩
  show wpAny _ (ktrTop dp (un + 2) gd cn cs L a ccd [] outer) (do let old ← Builtin.List.listItems (.ref S); Builtin.List.listUpdate (.ref S) (fun _ => #[]); letGo old.toList.reverse; Builtin.List.listExtendWith (.ref S) (.ref x) .none) _ _ _
  refine wpAny_bind ?_
  unfold Builtin.List.listItems
  refine wpAny_bind (wpAny_seqItems hS1 rfl (wpAny_pure ?_))
  show wpAny _ _ (updateSeq S (fun _ => #[]) >>= fun _ => letGo (#[] : Array Value).toList.reverse >>= fun _ => Builtin.List.listExtendWith (.ref S) (.ref x) .none) _ _ _
  obtain ⟨F2, N2⟩ := news_upd (f := Obj.mapSeq (fun _ => (#[] : Array Value))) (o' := listOf #[] 0) (pre := []) F1 N1 (fun p hp => nomatch hp) (fun p hp => Nat.ne_of_lt (lts p hp)) rfl rfl
  refine wpAny_bind (wpAny_updateSeq hS1 rfl ?_)
  refine wpAny_bind (wpAny_letGo ?_)
  clear hS1 N1 F1
  generalize hH : ((s.heap.push { cls := Value.type "list", data := Data.seq #[] }).update S (Obj.mapSeq fun _ => (#[] : Array Value))) = H at *
  show wpAny _ _ (Builtin.List.listExtendWith (.ref S) (.ref x) .none) _ _ { s with heap := H }
  have N3 : News h₀ L H ((S, listOf #[] 0) :: (I, oI) :: rest) := N2
  clear N2
  have I3 : InstAt H x (ffObj 47 dx (.ref q) (.ref I)) 47 (some (dictOf [] 0)) := InstAt.of_news N3 (.tail _ (.tail _ mx)) (.tail _ (.tail _ mdx))
  have hSx : (S == x) = false := by
    have := lts _ (.tail _ mx)
    simp only [beq_eq_false_iff_ne, ne_eq]
    intro z
    rw [z] at this
    exact Nat.lt_irrefl _ this
  revert X
  k_fill
  intro X
  unfold Builtin.List.listExtendWith
  refine wpAny_bind (I3.type.here ?_)
  have h1 : Builtin.List.listSameRef (.ref S) (.ref x) = false := hSx
  simp only [h1, show (Value.ref 47 == Value.type "list") = false from rfl, show (Value.ref 47 == Value.type "tuple") = false from rfl, Bool.or_false, Bool.false_eq_true, if_false]
  refine wpAny_bind ?_
  refine owit_iter (s := { s with heap := H }) F2 X I3 (f := 36) (by k_is) (by k_is) ?_
  refine iterC (s := { s with heap := H }) dp (un + 2) gd cn cs a ccd [] outer A₀ base h₀ L m _ _ x _ B F2 X N3 T hk hdp (by omega) fun H4 tk4 F4 N4 => ?_
  have I4 : InstAt H4 x (ffObj 47 dx (.ref q) (.ref I)) 47 (some (dictOf [] 0)) := InstAt.of_news N4 (.tail _ (.tail _ mx)) (.tail _ (.tail _ mdx))
  refine owit_it (s := { s with heap := H4, toks := tk4 }) F4 X I4 (g := .ref 43) (by k_is) ?_
  refine wpAny_bind (wpAny_holding ?_)
  unfold Builtin.List.listLengthHint
  refine wpAny_bind (wpAny_bind (I4.type.here ((looks_findIn (X.keeps F4.keep) (r := none) (by k_is)).here ?_)))
  show wpAny _ _ (specialOf (Value.ref x) (Str.ofString "__length_hint__") >>= _) _ _ _
  refine wpAny_bind (wpAny_bind (I4.type.here ((looks_findIn (X.keeps F4.keep) (r := none) (by k_is)).here ?_)))
  refine wpAny_pure ?_
  show wpAny _ _ (rule "list.extend.makes-room" >>= fun _ => Builtin.List.listTouch (.ref S) >>= fun _ =>
    again (.builtin "list.extend.loop" ⟨[.ref S, .ref x, .none], []⟩)) _ _ _
  refine wpAny_bind (wpAny_rule ?_)
  refine wpAny_bind ?_
  show wpAny _ _ (updateSeq S (·.push .none) >>= fun _ => updateSeq S (·.pop)) _ _ _
  have lt' : ∀ p ∈ (I, oI) :: rest, p.1 ≠ S := fun p hp => Nat.ne_of_lt (lts p hp)
  obtain ⟨F5, N5⟩ := news_upd (f := Obj.mapSeq (·.push Value.none)) (o' := listOf #[.none] 1) (pre := []) F4 N4 (fun p hp => nomatch hp) lt' rfl rfl
  refine wpAny_bind (wpAny_updateSeq (N4 _ (.head _)).1 rfl ?_)
  obtain ⟨F6, N6⟩ := news_upd (f := Obj.mapSeq (·.pop)) (o' := listOf #[] 2) (pre := []) F5 N5 (fun p hp => nomatch hp) lt' rfl rfl
  refine wpAny_updateSeq (hz := by seq_fits) (N5 _ (.head _)).1 rfl ?_
  refine wpAny_pure ⟨plainId_quiet PySem.F.plain_extend_loop _, ?_⟩
  obtain ⟨ks, n2, mk1, mk2⟩ := mk
  refine ext_loop (mean := mean) (mg := mg) (mb := mb) (un := un + 1) (A₀ := A₀) (base := base) (h₀ := h₀) (L := L) (m := m) (dx := dx) (I := I) (q := q) (k := k) (kz := kz) (rest := rest) hk hdp (by omega) (fun z => lt' _ (.head _) z.symm) (fun p hp => lt' _ (.tail _ hp)) (fun o => ?_) ns.length ns [] _ oI #[] 2 (Nat.le_refl _) (by rw [sizeLine_eq]; simp; omega) F6 (fun p hp => ?_) hit IntsAre.nil fun h' tk g' acc' c' oI' T' F' N' hi' B' => ?_
  · refine ⟨B, X, T, fun p hp => ?_, fun p hp => .tail _ hp, .tail _ mx, .tail _ mdx, .tail _ mq, ks, n2, .tail _ mk1, mk2⟩
    rcases List.mem_cons.mp hp with rfl | hp
    · exact fun z => lt' _ (.head _) z.symm
    · exact hoff p hp
  · refine N6 p ?_
    rcases List.mem_cons.mp hp with rfl | hp
    · exact .tail _ (.head _)
    · rcases List.mem_cons.mp hp with rfl | hp
      · exact .head _
      · exact .tail _ (.tail _ hp)
  · exact ⟨rfl, hQ S h' tk g' acc' c' oI' T' F' N' (by simpa using hi') B' lts⟩

end TextF4
section TextF5
set_option maxRecDepth 100000
open PySem PySem.W PySem.Calls PyProof.Rows

section
variable {prog : Program} {w : World} {A₀ A : Around} {s : Shared} {base h₀ : Heap} {L : Addr} {m : Str → Option Value} {env : Env} {news : List (Addr × Obj)} {K : Frag} {p : Program} {loose : List Str} {mean : ExcName → Option Value} {mg mb : Str → Option Value}
    {R : Result → Shared → Prop} {name qual : Str} {params : Arguments} {body : List Stmt} {scope : Scope} {dV kV doc pm cdv ct oc : Value} {an od : Option Addr} {osl : Array (Option Value)} {f : Addr} {args : Args} {binds : List (Str × Value)}

-- a def called from the law's own frame, whose call may turn the slots of that frame
theorem code_turn (B : Below A₀ base [] h₀) (F : Fr h₀ L s.heap m) (X₀ : K.In h₀) (N : News h₀ L s.heap news) (T : Top p loose mean mg mb h₀) (hA : A.frames = some [env]) (hf : env.frame = some L) (hke : env.scope.kind = .function)
    (ho : K.lookup f = some ⟨oc, od, .func (fnOf name qual params body scope dV kV doc pm an cdv ct), osl⟩) (hcd : codeIn K cdv qual = true) (hroom : A.depth < recursionLimit)
    (hbind : BindsTo s (fnOf name qual params body scope dV kV doc pm an cdv ct) args binds) (hloc : ∀ y ∈ binds, scope.names.lookup y.1 = some .local)
    (h : ∀ g L' h₁, Fr h₀ L g m → Fr g L' h₁ (fun y => binds.reverse.lookup y) → News g L' h₁ news → Below A base [env] g → K.In g → Top p loose mean mg mb g →
      wpAny (model prog w) (A.deeper (envOf qual scope L' f cdv)) (execs body (envOf qual scope L' f cdv))
        (fun fl s' => LeaveS0 [L] h₀ L m g R (match fl with | .ret v => v | _ => .none) s')
        (fun e s' => wpAny (model prog w) (A.deeper (envOf qual scope L' f cdv)) (leaving (envOf qual scope L' f cdv) e) (fun _ s'' => R (.error e) s'') (fun e' s'' => R (.error e') s'') s')
        { s with heap := h₁, toks := s.toks + binds.length })
    (hco : scope.isCoroutine = false) (hgen : scope.isGenerator = false) (hk : scope.kind = .function)
    (hcell : ∀ x ∈ scope.names, x.2 ≠ .cell) : codeAny (model prog w) A (.call (.ref f) args) R s := by
  have X := X₀.keeps F.keep
  obtain ⟨FG, BG, st, _⟩ := groundX (R := R) B F N hA hf hke
  refine codeAny_call_def (fd := fnOf name qual params body scope dV kV doc pm an cdv ct) (body := body) (binds := binds) hroom (X _ _ ho) rfl (T.nolimit.keeps F.keep) (codeRec_of X hcd) rfl hbind hcell hloc (fun h₁ hns hk₁ => ?_) hco hgen hk
  refine wpAny_mono (h _ s.heap.objs.size h₁ FG ⟨hns, fun b o e => hk₁ b o (of_hideAll _ e), Nat.le_of_eq (hideAll_size _ _)⟩
    (fun q hq => ⟨hk₁ _ _ (N q hq).1, Nat.ne_of_lt (Heap.lt_size (N q hq).1), hideAll_none _ (List.mem_map_of_mem hq)⟩) BG (X₀.keeps st) (T.keeps st)) (fun fl s' hl => ?_) fun _ _ y => y
  obtain ⟨g', L', m', news', T', F', N', k⟩ := hl
  obtain ⟨oL, es, ep, hL, hLd, hLk, hLf⟩ := FG.ns
  obtain ⟨sl, hs⟩ := T'.up hL
  have hs' := F'.keep _ _ hs
  have nL : h₀.get? L = none := kts_self F
  refine k ⟨⟨_, es, ep, hs', hLd, hLk, hLf⟩, fun b o e => F'.keep b o (T'.other b o (st b o e) fun q => ?_), F.above⟩ fun q hq => ⟨(N' q hq).1, fun z => ?_, ?_⟩
  · rw [List.mem_singleton.mp q, nL] at e; cases e
  · have := (N' q hq).2.2; rw [z, hs] at this; cases this
  · cases e : h₀.get? q.1 with
    | none => rfl
    | some o =>
      obtain ⟨sl', hs''⟩ := T'.up (st _ _ e)
      have := (N' q hq).2.2
      rw [hs''] at this
      cases this
end

local macro_rules | `(tactic| k_room) => `(tactic| ktr_room)
local macro_rules | `(tactic| k_mem) => `(tactic| first | exact List.mem_cons_self .. | ktr_member | (refine' List.mem_cons_of_mem _ ?_; k_mem))
local macro_rules | `(tactic| walk_at "getAttr ref") => `(tactic| (k_here; (with_reducible show wpAny _ _ (getAttr (Value.ref _) (PySem.Str.ofString "__contains__") true) _ _ _); k_dflt (refine' Mine.getAttr_containsN ?k1 ?k2 ?k3 ?_; (case k1 => k_asm); (case k2 => k_asm); (case k3 => k_mem); k_whole); intro q' h' F' N' l1; (try k_sweep)))

abbrev rangeObj (a b c : Int) (t u v : Tok) : Obj := { cls := .type "range", data := .fields #[.int a t, .int b u, .int c v] }
-- what a call may be handed to walk over: a list of ints, or range(count)
inductive Src (news : List (Addr × Obj)) (l : Addr) : List Int → Prop
  | list {vs : Array Value} {c : Nat} {ns : List Int} : (l, listOf vs c) ∈ news → IntsAre vs.toList ns → Src news l ns
  | range {k : Nat} {t u v : Tok} : (l, rangeObj 0 (k : Int) 1 t u v) ∈ news → k < 1000 → Src news l (Mine.rangeL 0 k)

theorem iter_srcN {prog : Program} {w : World} {A : Around} {E : Value → Shared → Prop} {s : Shared} {h₀ : Heap} {L l : Addr} {m : Str → Option Value} {lst news : List (Addr × Obj)} {ns : List Int} {Q : Value → Shared → Prop} (F : Fr h₀ L s.heap m) (N : News h₀ L s.heap news) (sub : ∀ p ∈ lst, p ∈ news) (hp : Src lst l ns)
    (h : ∀ (I : Addr) h' oI, Fr h₀ L h' m → News h₀ L h' ((I, oI) :: news) → (∀ p ∈ news, p.1 < I) → Mine.ItSt lst oI ns → Q (.ref I) { s with heap := h' }) :
    wpAny (model prog w) A (call (.builtin "iter") [.ref l]) Q E s := by
  refine call_function_entry (by decide +kernel) (by decide +kernel) kdk_entry_iter (kdk_args_iter _) ?_
  unfold Builtin.«iter»
  refine wpAny_bind (m := someArgs "iter" 1 2 _) (wpAny_of_eq (a := [Value.ref l]) (by first | rfl | kernel_rfl!) ?_)
  show wpAny _ _ (pyIter (.ref l) >>= _) _ _ _
  have lt : ∀ q ∈ news, q.1 < s.heap.objs.size := fun q hq => Heap.lt_size (N q hq).1
  cases hp with
  | list hm hi =>
    refine wpAny_bind (wpAny_pyIter_list (Mine.News.list N (sub _ hm)) ?_)
    exact wpAny_pure ⟨_, rfl, h _ _ (Mine.liObj l 0) (F.push _) (News.push F N _ rfl) lt (.list hm hi)⟩
  | @range k t u v hm hk =>
    refine wpAny_bind (wpAny_pyIter_range (N _ (sub _ hm)).1 (small_one (by omega) (by omega) (by omega) (by omega)) ?_)
    have e : Builtin.Range.rangeSize 0 (k : Int) 1 = (k : Int) := by
      rw [rangeSize_one]
      split <;> omega
    rw [e]
    exact wpAny_pure ⟨_, rfl, h _ _ (itR 0 (k : Int)) (F.push _) (News.push F N _ rfl) lt .range⟩

theorem ItSt.mono {lst lst' : List (Addr × Obj)} {oI : Obj} {ns : List Int} (h : Mine.ItSt lst oI ns) (sub : ∀ p ∈ lst, p ∈ lst') : Mine.ItSt lst' oI ns := by
  cases h with
  | list hm hi => exact .list (sub _ hm) hi
  | range => exact .range

local macro_rules | `(tactic| walk_at "call builtin:iter") => `(tactic| (k_here; (with_reducible show wpAny _ _ (call (Value.builtin "iter") [Value.ref _]) _ _ _); k_dflt (refine' iter_srcN ?F ?N ?sub ?src ?_; (case src => k_asm); (case F => k_asm); (case N => k_asm); (case sub => (intro p9 hp9; repeat (first | exact hp9 | refine' List.mem_cons_of_mem _ ?_)))); intro I' h' oI' F' N' l1 it'; (try k_lt l1); (try k_sweep)))

theorem ne_lt {news : List (Addr × Obj)} {d x : Nat} (h : ∀ p ∈ news, p.1 < d) (hx : @LE.le Nat _ d x) : ∀ p ∈ news, p.1 ≠ x := fun p hp => Nat.ne_of_lt (Nat.lt_of_lt_of_le (h p hp) hx)
local macro_rules | `(tactic| k_all) => `(tactic| exact ne_lt (by assumption) (by omega))
set_option maxHeartbeats 8000000 in
theorem filtC {w : World} {mean : ExcName → Option Value} {mg mb : Str → Option Value} (dp un : Nat) (gd : Option (List Code)) (cn : Str) (cs : Scope) (a : Addr) (ccd : Value) (cl : List (Str × Addr)) (A₀ : Around) (base h₀ : Heap) (L : Addr) (m : Str → Option Value) (s : Shared) (Q E : Value → Shared → Prop)
  (l k : Addr) (ks : Array Value) (n2 : Nat) (ns kz : List Int) (news : List (Addr × Obj)) :
    Below A₀ base [] h₀ → Fr h₀ L s.heap m → (hd.heap_39 w.params).In h₀ → News h₀ L s.heap news → Src news l ns → (k, listOf ks n2) ∈ news → IntsAre ks.toList kz → Top hd.view_39 (looseW hd.view_39 [Str.ofString "filterfalse"]) mean mg mb h₀ → cs.kind = .function →
     dp + 15 < recursionLimit → un + 100 < cLine → ns.length ≤ 1000 →
     (∀ D h' tk acc' c', Fr h₀ L h' m → News h₀ L h' ((D, listOf acc' c') :: news) → IntsAre acc'.toList (keptL kz ns) → (∀ p ∈ news, p.1 < D) → Q (.ref D) { s with heap := h', toks := tk }) →
      wpAny (model PySem.Challenge.rw_ij0194_01.row.prog w) (ktrTop dp un gd cn cs L a ccd cl []) (call (.ref 58) [.ref l, .ref k]) Q E s := by
  k_fill
  intro B F X N hsrc mk hj T hk hdp hun hsz hret
  refine wpAny_call ?_
  k_dflt (refine' code_turn ?k1 ?k2 ?k3 ?k4 ?k5 ?kA ?kF ?kK ?k6 ?k7 ?k8 ?k9 ?kB ?_ ?c2 ?c3 ?c4 ?c5; (case kA => exact rfl); (case kF => exact rfl); (case kK => assumption); (case k1 => k_asm); (case k2 => k_asm); (case k3 => k_asm); (case k4 => k_asm); (case k5 => k_asm); (case k6 => k_is); (case k7 => k_is); (case k8 => ktr_room); (case k9 => exact BindsTo.of_eq rfl); (case c5 => decide); (case kB => exact locs rfl); (case c2 => exact rfl); (case c3 => exact rfl); (case c4 => exact rfl); k_whole; intro g' L' h' FG' F' N' B' X' T'; (try dsimp only); (try k_fold))
  k_steps
  rename Fr _ _ _ _ => F9
  rename News _ _ _ _ => N9
  refine list_ff (ns := ns) (kz := kz) (k := k) (un := un + 3) (dp := dp + 1) B' X' T' ?_ (List.mem_cons_self ..) (List.mem_cons_of_mem _ (List.mem_cons_self ..)) (List.mem_cons_of_mem _ (List.mem_cons_of_mem _ (List.mem_cons_self ..))) ⟨ks, n2, List.mem_cons_of_mem _ (List.mem_cons_of_mem _ (List.mem_cons_of_mem _ mk)), hj⟩ F9 N9 (ItSt.mono (by assumption) fun p hp => List.mem_cons_of_mem _ (List.mem_cons_of_mem _ (List.mem_cons_of_mem _ hp))) rfl (by omega) (by omega) hsz ?_
  · first | k_all | fail "off"
  · intro D h9 tk9 g9 acc9 c9 oI9 T9 F8 N8 hi9 B9 lt9
    k_unfold
    dsimp only
    refine leaveS0_ (news' := (D, listOf acc9 c9) :: news) F8 (fun p hp => N8 p ?_) T9 fun F7 N7 => ?_
    · rcases List.mem_cons.mp hp with e | hp
      · rw [e]; exact List.mem_cons_of_mem _ (List.mem_cons_self ..)
      · exact List.mem_cons_of_mem _ (List.mem_cons_of_mem _ (List.mem_cons_of_mem _ (List.mem_cons_of_mem _ (List.mem_cons_of_mem _ hp))))
    · exact hret D h9 tk9 acc9 c9 F7 N7 hi9 fun p hp => lt9 p (List.mem_cons_of_mem _ (List.mem_cons_of_mem _ (List.mem_cons_of_mem _ (List.mem_cons_of_mem _ hp))))

end TextF5
section TextL0
open PySem PySem.W PySem.Calls PyProof.Rows
def lawFD : List Stmt × Scope := match PySem.Challenge.pw_ij0194_01.main.body with
  | [_, _, _, _, _, _, .FunctionDef _ _ b _ _ _ sc _ _ _] => (b, sc)
  | _ => ([], { kind := .module, names := [], isGenerator := false, isCoroutine := false })
abbrev lawEnv (L fa : Addr) (cdv : Value) : Env := envOfC (Str.ofString "law") lawFD.2 L fa cdv

end TextL0
section TextC1
set_option maxRecDepth 100000
open PySem PySem.W PySem.Calls PyProof.Rows
-- references to lists of ints, all of them objects of the ledger
inductive Lists (news : List (Addr × Obj)) : List Value → List (List Int) → Prop
  | nil : Lists news [] []
  | cons {a : Addr} {acc : Array Value} {c : Nat} {ns : List Int} {vs : List Value} {nss : List (List Int)} : (a, listOf acc c) ∈ news → IntsAre acc.toList ns → Lists news vs nss → Lists news (.ref a :: vs) (ns :: nss)
theorem Lists.mono {news news' : List (Addr × Obj)} {vs : List Value} {nss : List (List Int)} (h : Lists news vs nss) (sub : ∀ p ∈ news, p ∈ news') : Lists news' vs nss := by
  induction h with
  | nil => exact .nil
  | cons m i _ ih => exact .cons (sub _ m) i ih
theorem Lists.app {news : List (Addr × Obj)} {vs ws : List Value} {nss mss : List (List Int)} (h : Lists news vs nss) (k : Lists news ws mss) : Lists news (vs ++ ws) (nss ++ mss) := by
  induction h with
  | nil => exact k
  | cons m i _ ih => exact .cons m i ih
theorem Lists.one {news : List (Addr × Obj)} {a : Addr} {acc : Array Value} {c : Nat} {ns : List Int} (m : (a, listOf acc c) ∈ news) (i : IntsAre acc.toList ns) : Lists news [.ref a] [ns] := .cons m i .nil
theorem Lists.length {news : List (Addr × Obj)} {vs : List Value} {nss : List (List Int)} (h : Lists news vs nss) : vs.length = nss.length := by
  induction h with
  | nil => rfl
  | cons _ _ _ ih => simp [ih]
theorem Lists.rev {news : List (Addr × Obj)} {vs : List Value} {nss : List (List Int)} (h : Lists news vs nss) : Lists news vs.reverse nss.reverse := by
  induction h with
  | nil => exact .nil
  | cons m i _ ih => rw [List.reverse_cons, List.reverse_cons]; exact ih.app (.one m i)

section
variable {prog : Program} {w : World} {A : Around} {E : Value → Shared → Prop} {s : Shared} {h₀ : Heap} {L : Addr} {m : Str → Option Value} {env : Env}
variable {elt : Expr} {x : Str} {scope : Scope} {cl : List (Str × Addr)} {Fin : List Value → List (Addr × Obj) → Prop} {news : List (Addr × Obj)}
theorem lists_rest (its : Array Value) (ax : Addr) (g : Int → List Int) (hS : LCg.SrcAt h₀ ax its news)
    (turn : ∀ n t I oI C oC D ys new m₂ h tk (E' : Value → Shared → Prop), (∃ i : Nat, its[i]? = some (Value.int n t)) → LCg.NsObj oC m₂ → m₂ x = some (.int n t) → Fr h₀ L h m → News h₀ L h ((I, oI) :: (C, oC) :: (D, LCg.lst ys) :: (new ++ news)) →
      wpAny (model prog w) A (eval elt (compEnvC scope cl C env)) (fun v s' => ∃ T h' tk' acc c, v = .ref T ∧ s' = { s with heap := h', toks := tk' } ∧ Fr h₀ L h' m ∧ News h₀ L h' ((T, listOf acc c) :: (I, oI) :: (C, oC) :: (D, LCg.lst ys) :: (new ++ news)) ∧ IntsAre acc.toList (g n) ∧ ∀ p ∈ (I, oI) :: (C, oC) :: (D, LCg.lst ys) :: (new ++ news), p.1 < T) E' { s with heap := h, toks := tk }) :
    ∀ (k i : Nat) (ns : List Int) (ys : List Value) (new : List (Addr × Obj)) (gs : List (List Int)), IntsAre (its.toList.drop i) ns → k = ns.length → Lists new ys gs → (∀ p ∈ new, ∀ q ∈ news, q.1 < p.1) →
      (∀ ys' new', Lists new' ys' (gs ++ ns.map g) → (∀ p ∈ new', ∀ q ∈ news, q.1 < p.1) → Fin ys' (new' ++ news)) →
      LCg.CompRest prog w A h₀ L m env elt x scope cl s (LCg.SrcAt h₀ ax its) (fun i v => its[i]? = some v) Fin k i ys (new ++ news) := by
  intro k
  induction k with
  | zero =>
    intro i ns ys new gs hi hk hl hn hF
    have : ns = [] := List.length_eq_zero_iff.mp hk.symm
    subst this
    rw [List.map_nil, List.append_nil] at hF
    exact LCg.CompRest.zero (hF ys new hl hn)
  | succ k ih =>
    intro i ns ys new gs hi hk hl hn hF
    refine LCg.CompRest.succ fun v I oI C oC D m₂ h tk E' hv hC hx F N off ne => ?_
    cases ns with
    | nil => cases hk
    | cons n ns =>
      generalize hd : its.toList.drop i = vs at hi
      have e1 : its.toList[i]? = some v := by simpa using hv
      cases vs with
      | nil => cases hi
      | cons v' vs =>
        have e2 : v' = v := by
          have := congrArg (fun l => l[0]?) hd
          simp only [List.getElem?_drop, Nat.add_zero, List.getElem?_cons_zero] at this
          rw [e1] at this
          exact (Option.some.inj this).symm
        subst e2
        cases hi with
        | @cons _ t _ _ hi' =>
        have hd' : its.toList.drop (i + 1) = vs := by rw [← List.drop_drop, hd]; rfl
        refine wpAny_mono (turn n t I oI C oC D ys new m₂ h tk E' ⟨i, hv⟩ hC hx F N) (fun v s' hv' => ?_) fun _ _ e => e
        obtain ⟨T, h', tk', acc, c, rfl, rfl, F', N', ha, lt⟩ := hv'
        refine LCg.CompEnd.intro F' N' ((T, listOf acc c) :: (new ++ news)) (fun p hp => ?_) ⟨⟨?_, ?_, ?_⟩, off⟩ ?_ ?_
        · rcases List.mem_cons.mp hp with rfl | hp
          · exact .tail _ (.head _)
          rcases List.mem_cons.mp hp with rfl | hp
          · exact .tail _ (.tail _ (.head _))
          rcases List.mem_cons.mp hp with rfl | hp
          · exact .tail _ (.tail _ (.tail _ (.head _)))
          rcases List.mem_cons.mp hp with rfl | hp
          · exact .head _
          · exact .tail _ (.tail _ (.tail _ (.tail _ hp)))
        · exact Ne.symm (Nat.ne_of_lt (lt _ (.head _)))
        · exact Ne.symm (Nat.ne_of_lt (lt _ (.tail _ (.head _))))
        · exact Ne.symm (Nat.ne_of_lt (lt _ (.tail _ (.tail _ (.head _)))))
        · rcases hS with h1 | ⟨o, hm, h2⟩
          · exact .inl h1
          · exact .inr ⟨o, .tail _ (List.mem_append_right _ hm), h2⟩
        · refine ih (i + 1) ns (ys ++ [.ref T]) ((T, listOf acc c) :: new) (gs ++ [g n]) (by rw [hd']; exact hi') (Nat.succ.inj hk) ((hl.mono fun p hp => .tail _ hp).app (.one (.head _) ha)) (fun p hp q hq => ?_) fun ys' new' l' n' => hF ys' new' ?_ n'
          · rcases List.mem_cons.mp hp with rfl | hp
            · exact lt _ (.tail _ (.tail _ (.tail _ (List.mem_append_right _ hq))))
            · exact hn p hp q hq
          · rw [List.append_assoc] at l'
            exact l'
end

end TextC1
section TextS1
set_option maxRecDepth 100000
open PySem PySem.W PySem.Calls PyProof.Rows
-- the spoke of the remainder r by the count c, over the thirty from f on
def spokeL (f : Int) (c : Nat) (r : Int) : List Int := rangeInts (f + (r - f).fmod (c : Int)) (c : Int) (30 / c)
theorem spoke_size {f r : Int} {c : Nat} (hc : c = 2 ∨ c = 3 ∨ c = 5) : Builtin.Range.rangeSize (f + (r - f).fmod (c : Int)) (f + 30) (c : Int) = ((30 / c : Nat) : Int) := by
  have h0 : 0 ≤ (r - f).fmod (c : Int) ∧ (r - f).fmod (c : Int) < (c : Int) := by
    rcases hc with rfl | rfl | rfl <;> exact ⟨Int.fmod_nonneg_of_pos _ (by decide), Int.fmod_lt_of_pos _ (by decide)⟩
  generalize (r - f).fmod (c : Int) = d at h0
  unfold Builtin.Range.rangeSize
  rcases hc with rfl | rfl | rfl
  all_goals
    rw [if_pos (by decide)]
    rw [if_pos (by omega)]
    omega
local macro_rules | `(tactic| k_room) => `(tactic| ktr_room)
local macro_rules | `(tactic| walk_at "call type:list") => `(tactic| (k_here; (with_reducible show wpAny _ _ (call (Value.type _) [Value.ref _]) _ _ _); (rename IsRange _ _ _ _ _ _ _ _ => rgX); k_dflt (refine' Mine.list_rangeN ?hh ?F ?N rgX ?n ?l ?_; (case hh => rfl); (case F => k_asm); (case N => k_asm); (case n => exact spoke_size (by assumption)); (case l => omega)); intro D' h' tk' acc' c' F' N' hi' l1; (try k_sweep)))
set_option maxHeartbeats 8000000 in
theorem spokeC {w : World} {mean : ExcName → Option Value} {mg mb : Str → Option Value} (dp un : Nat) (gd : Option (List Code)) (cn : Str) (cs : Scope) (a : Addr) (ccd : Value) (cl : List (Str × Addr)) (outer : List Env) (A₀ : Around) (base h₀ : Heap) (L : Addr) (m : Str → Option Value) (s : Shared) (Q E : Value → Shared → Prop)
  (f r : Int) (c : Nat) (tf tc tr : Tok) (news : List (Addr × Obj)) :
    Below A₀ base outer h₀ → Fr h₀ L s.heap m → (hd.heap_39 w.params).In h₀ → News h₀ L s.heap news →
     Top hd.view_39 (looseW hd.view_39 [Str.ofString "filterfalse"]) mean mg mb h₀ → cs.kind = .function →
     dp + 10 < recursionLimit → un + 80 < cLine → (c = 2 ∨ c = 3 ∨ c = 5) →
     (∀ T h' tk acc k, Fr h₀ L h' m → News h₀ L h' ((T, listOf acc k) :: news) → IntsAre acc.toList (spokeL f c r) → (∀ p ∈ news, p.1 < T) → Q (.ref T) { s with heap := h', toks := tk }) →
      wpAny (model PySem.Challenge.rw_ij0194_01.row.prog w) (ktrTop dp un gd cn cs L a ccd cl outer) (call (.ref 65) [.int f tf, .int (c : Int) tc, .int r tr]) Q E s := by
  k_fill
  intro B F X N T hk hdp hun hc hret
  have hc0 : (c : Int) ≠ 0 := by omega
  have hcb : 0 < (c : Int) ∧ (c : Int) ≤ 5 := by omega
  refine wpAny_call ?_
  k_dflt cell_enter
  k_steps
  rename IsRange _ _ _ _ _ _ _ _ => rgX
  rename Fr _ _ _ _ => F9
  rename News _ _ _ _ => N9
  refine Mine.list_rangeN (n := 30 / c) rfl F9 N9 rgX (spoke_size hc) (Nat.le_trans (Nat.div_le_self 30 c) (by decide)) ?_
  intro D h9 tk9 acc9 c9 F8 N8 hi9 lt9
  k_steps
  rename Fr h₀ _ _ _ => kF9
  rename News h₀ _ _ _ => kN9
  exact hret D _ _ acc9 c9 kF9 kN9 hi9 lt9

end TextS1
section TextT1
set_option maxRecDepth 100000
open PySem PySem.W PySem.Calls PyProof.Rows
def turnBody : List Stmt := match lawFD.1 with
  | [_, _, _, _, _, .For _ _ b _ _, _, _, _, _, _, _, _, _, _] => b
  | _ => []
local macro_rules | `(tactic| k_room) => `(tactic| ktr_room)
local macro_rules | `(tactic| k_mem) => `(tactic| first | exact List.mem_cons_self .. | ktr_member | (refine' List.mem_cons_of_mem _ ?_; k_mem))
local macro_rules | `(tactic| walk_at "eval Name") => `(tactic| (k_here; k_dflt (refine' nameX_L ?k1 ?k2 ?_; (case k1 => k_asm); (case k2 => assumption); k_whole)))

local macro_rules | `(tactic| walk_at "call ref") => `(tactic| (k_here; (with_reducible show wpAny _ _ (call (Value.ref _) _) _ _ _); refine Hold.out ?_))
local macro_rules | `(tactic| walk_at "call builtin:list.extend") => `(tactic| refine Hold.out ?_)
local macro_rules | `(tactic| walk_at "call builtin:list.append") => `(tactic| refine Hold.out ?_)
-- one turn of `handed`: the figure of mark at k
def handG (mark : Int) (l : List Int) (k : Int) : List Int := if (mark.fdiv (2 ^ k.toNat)).fmod 2 ≠ 0 then l ++ [k] else l
def handedL (mark : Int) (cnt : Nat) : List Int := (rangeKs 0 cnt).foldl (handG mark) []
theorem call_range_N {prog : Program} {w : World} {A : Around} {E : Value → Shared → Prop} {s : Shared} {h₀ : Heap} {L : Addr} {m : Str → Option Value} {news : List (Addr × Obj)} {n : Int} {t : Tok} {Q : Value → Shared → Prop} (F : Fr h₀ L s.heap m) (N : News h₀ L s.heap news)
    (h : ∀ r h' tk u v, Fr h₀ L h' m → News h₀ L h' ((r, rangeObj 0 n 1 u t v) :: news) → IsRange h' r 0 n 1 u t v → (∀ p ∈ news, p.1 < r) → Q (.ref r) { s with heap := h', toks := tk }) :
    wpAny (model prog w) A (call (.type "range") [.int n t]) Q E s :=
  call_range_1 (h _ _ _ _ _ (F.push _) (News.push F N _ rfl) (IsRange.new ..) fun p hp => Heap.lt_size (N p hp).1)
local macro_rules | `(tactic| walk_at "call type:range") => `(tactic| (k_here; (with_reducible show wpAny _ _ (call (Value.type _) [Value.int _ _]) _ _ _); k_dflt (refine' call_range_N ?F ?N ?_; (case F => k_asm); (case N => k_asm)); intro r9 h9 tk9 u9 v9 F9 N9 rg9 l9; (try k_sweep)))
local macro_rules | `(tactic| walk_at "CompSrcT") => `(tactic| refine Hold.out ?_)
local macro_rules | `(tactic| walk_at "CompSrc") => `(tactic| refine Hold.out ?_)
theorem off1_mem {D : Addr} : ∀ {l : List (Addr × Obj)}, LCg.Off1 D l → ∀ p ∈ l, (@Ne Nat p.1 D)
  | [], _, _, h => nomatch h
  | _ :: _, x, p, h => by
    rcases List.mem_cons.mp h with rfl | h
    · exact x.1
    · exact Mine.off1_mem x.2 p h
set_option maxHeartbeats 8000000 in
theorem turnC {w : World} {mean : ExcName → Option Value} {mg mb : Str → Option Value} {base : Heap} {L fa sp kp : Addr} {cdv : Value} {M : Str → Option Value} {s : Shared} {Q : Flow → Shared → Prop} {E : Value → Shared → Prop} {sys kys : List Value} {sc kc : Nat} {f mark : Int} {cnt : Nat} {tf tm tc : Tok} {o1 o2 o3 o4 : Obj} {own : List (Addr × Obj)}
   (B : Below callerA base [] base) (X : (hd.heap_39 w.params).In base) (T : Top hd.view_39 (looseW hd.view_39 [Str.ofString "filterfalse"]) mean mg mb base)
   (F : Fr base L s.heap M) (N : News base L s.heap ((kp, listOf kys.toArray kc) :: (sp, listOf sys.toArray sc) :: (L + 4, o4) :: (L + 3, o3) :: (L + 2, o2) :: (L + 1, o1) :: own))
   (d1 : o1.data = .cell (some (.int f tf))) (d2 : o2.data = .cell (some (.ref kp))) (d3 : o3.data = .cell (some (.int (cnt : Int) tc))) (d4 : o4.data = .cell (some (.int mark tm)))
   (hsp : M (Str.ofString "spokes") = some (.ref sp)) (hc : cnt = 2 ∨ cnt = 3 ∨ cnt = 5)
   (hks : @LT.lt Nat _ sp kp) (hsL : @LT.lt Nat _ (L + 5) sp) (hown : ∀ p ∈ own, (@Ne Nat p.1 sp) ∧ (@Ne Nat p.1 kp)) (hsz : sys.length ≤ 100) (hkz : kys.length ≤ 100)
   (hQ : ∀ D h' tk' sc' kc' T xs new, Fr base L h' (fun z => if z = Str.ofString "handed" then some (.ref D) else M z) → News base L h' ((kp, listOf (kys ++ [Value.ref T]).toArray kc') :: (sp, listOf (sys ++ xs).toArray sc') :: (L + 4, o4) :: (L + 3, o3) :: (L + 2, o2) :: (L + 1, o1) :: (new ++ own)) → Mine.Lists new [Value.ref T] [keptL (handedL mark cnt) (Mine.rangeL 0 cnt)] → Mine.Lists new xs ((handedL mark cnt).map (spokeL f cnt)) →
     (∀ p ∈ new, ∀ q ∈ (kp, listOf kys.toArray kc) :: (sp, listOf sys.toArray sc) :: (L + 4, o4) :: (L + 3, o3) :: (L + 2, o2) :: (L + 1, o1) :: own, q.1 < p.1) → Q .next { s with heap := h', toks := tk' }) :
   wpAny (model PySem.Challenge.rw_ij0194_01.row.prog w) (callerA.deeper (lawEnv L fa cdv)) (execs turnBody (lawEnv L fa cdv)) Q E s := by
  revert X
  k_fill
  intro X
  have hc2 : 2 ≤ cnt ∧ cnt ≤ 5 := by omega
  unfold lawEnv turnBody lawFD PySem.Challenge.pw_ij0194_01
  dsimp only
  k_steps
  unfold Hold
  rename Fr _ _ _ _ => F0
  rename News _ _ _ _ => N0
  rename IsRange _ _ _ _ _ _ _ _ => rgX
  refine LCt.CompSrcT.range (n := cnt) (by rfl) F0 N0 rgX (small_one (by omega) (by omega) (by omega) (by omega)) (by rw [rangeSize_one]; split <;> omega) (by rw [sizeLine_eq]; omega) ?_
  intro g'
  refine kci_range (handG mark) (fun k' t' I' oI' C' oC' D' m' ys' l' h' tk' E' hlo' hhi' hI' hC' hx' F' N' off' ne' mk' => ?_) ?_ ?_
  · k_steps
    · refine LCg.CompEnd.intro F' N' _ (fun _ h => h) off' trivial (kci_el (by rw [handG, if_pos ‹_›]) rfl rfl)
    · refine LCg.CompEnd.intro F' N' _ (fun _ h => h) off' trivial (kci_no (by rw [handG, if_neg (by simpa using ‹_›)]) rfl)
  · unfold KPfDone; intro ys hy hlen; unfold LCg.FinA; intro D h tk F1 N1 off
    k_steps
    unfold Hold
    refine LCg.CompSrc.ledger (its := ys.toArray) (k := ys.length) (by rfl) F1 N1 (List.mem_cons_self ..) (by rw [sizeLine_eq, List.size_toArray]; omega) ?_
    intro g2
    refine Mine.lists_rest ys.toArray D (spokeL f cnt) (.inr ⟨_, List.mem_cons_self .., rfl, _, rfl⟩) (fun n t I oI C oC D2 ys2 new m₂ h tk E' hin hC hx F N => ?_) ys.toArray.size 0 (handedL mark cnt) [] [] [] (by simpa [handedL] using hy) ?_ .nil (fun p hp => nomatch hp) ?_
    · k_steps
      unfold Hold
      refine spokeC (c := cnt) _ _ _ _ _ _ _ _ _ callerA base base L _ _ _ _ f n tf tc t ((I, oI) :: (C, oC) :: (D2, LCg.lst ys2) :: (new ++ _)) B F X N T rfl (by decide +kernel) (by decide +kernel) hc ?_
      intro T2 h2 tk2 acc2 k2 F2 N2 i2 lt2
      exact ⟨T2, h2, tk2, acc2, k2, rfl, rfl, F2, N2, i2, lt2⟩
    · rw [List.size_toArray]; exact hy.length
    · intro ys' new' hl' hn'
      unfold LCg.FinE; intro D1 h1 tk1 F1 N1 off1
      k_steps
      unfold Hold
      have N2 : News base L h1 ([(kp, listOf kys.toArray kc)] ++ (sp, listOf sys.toArray sc) :: (D1, LCg.lst ys') :: (D, LCg.lst ys) :: (L + 4, o4) :: (L + 3, o3) :: (L + 2, o2) :: (L + 1, o1) :: (new' ++ own)) := fun p hp => N1 p (by simp only [List.mem_cons, List.mem_append, List.not_mem_nil, or_false] at hp ⊢; rcases hp with h | h | h | h | h | h | h | h | h | h <;> simp [h])
      clear N1
      have hly : ys.length = (handedL mark cnt).length := by have := hy.length; simpa [handedL] using this
      have hly' : ys'.length ≤ 5 := by have := hl'.length; simp at this; omega
      refine extend_in (ys := sys) (own := [(kp, listOf kys.toArray kc)]) F1 N2 (apart1 (Ne.symm (Nat.ne_of_lt hks))) ?_ (N2 _ (.tail _ (.tail _ (.head _)))).1 ?_ ?_
      · have o1m := Mine.off1_mem off1 (sp, listOf sys.toArray sc) (by simp)
        have o2m := Mine.off1_mem off (sp, listOf sys.toArray sc) (by simp)
        have o1m' : (@Ne Nat sp D1) := o1m
        have o2m' : (@Ne Nat sp D) := o2m
        intro p hp
        simp only [List.mem_cons, List.mem_append] at hp
        show (@Ne Nat p.1 sp)
        rcases hp with h | h | h | h | h | h | h | h
        · rw [h]; exact Ne.symm o1m'
        · rw [h]; exact Ne.symm o2m'
        · rw [h]; show (@Ne Nat (L + 4) sp); omega
        · rw [h]; show (@Ne Nat (L + 3) sp); omega
        · rw [h]; show (@Ne Nat (L + 2) sp); omega
        · rw [h]; show (@Ne Nat (L + 1) sp); omega
        · have h3 : (@LT.lt Nat _ sp p.1) := hn' p h (sp, listOf sys.toArray sc) (by simp)
          omega
        · exact (hown p h).1
      · intro h3 n3 F3 N3
        dsimp only [List.singleton_append] at N3
        k_steps
        unfold Hold
        rename Fr _ _ _ _ => F5
        rename News _ _ _ _ => N5
        refine filtC _ _ _ _ _ _ _ _ callerA base base L _ _ _ _ _ D ys.toArray ys.length (Mine.rangeL 0 cnt) (handedL mark cnt) _ B F5 X N5 (.range (.head _) (by omega)) (.tail _ (.tail _ (.tail _ (.tail _ (.head _))))) (by simpa [handedL] using hy) T rfl (by decide +kernel) (by decide +kernel) (by simp [Mine.rangeL]; omega) ?_
        intro D5 h5 tk5 acc5 c5 F6 N6 i6 lt6
        k_steps
        unfold Hold
        have N7 : News base L h5 ([] ++ (kp, listOf kys.toArray kc) :: (D5, listOf acc5 c5) :: (sp, listOf (sys ++ ys').toArray n3) :: (L + 4, o4) :: (L + 3, o3) :: (L + 2, o2) :: (L + 1, o1) :: (new' ++ own)) := fun p hp => N6 p (by simp only [List.nil_append, List.mem_cons, List.mem_append, List.not_mem_nil, or_false] at hp ⊢; rcases hp with h | h | h | h | h | h | h | h | h <;> simp [h])
        clear N6
        refine append_in (own := []) F6 N7 (fun p hp => nomatch hp) ?_ ?_ (by rw [sizeLine_eq]; omega)
        · have l1 : (@LT.lt Nat _ kp D5) := lt6 (kp, listOf kys.toArray kc) (by simp)
          intro p hp
          simp only [List.mem_cons, List.mem_append] at hp
          show (@Ne Nat p.1 kp)
          rcases hp with h | h | h | h | h | h | h | h
          · rw [h]; show (@Ne Nat D5 kp); omega
          · rw [h]; show (@Ne Nat sp kp); omega
          · rw [h]; show (@Ne Nat (L + 4) kp); omega
          · rw [h]; show (@Ne Nat (L + 3) kp); omega
          · rw [h]; show (@Ne Nat (L + 2) kp); omega
          · rw [h]; show (@Ne Nat (L + 1) kp); omega
          · have h3 : (@LT.lt Nat _ kp p.1) := hn' p h (kp, listOf kys.toArray kc) (by simp)
            omega
          · exact (hown p h).2
        · intro h8 F8 N8
          k_steps
          refine hQ D h8 _ n3 (kc + 1) D5 ys' ((D5, listOf acc5 c5) :: new') F8 (fun p hp => N8 p (by simp only [List.nil_append, List.mem_cons, List.mem_append, List.not_mem_nil, or_false] at hp ⊢; rcases hp with h | h | h | h | h | h | (h | h) | h <;> simp [h])) (.one (.head _) i6) (hl'.mono fun p hp => .tail _ hp) fun p hp q hq => ?_
          simp only [List.mem_cons] at hq
          have hq' : ∃ o, (q.1, o) ∈ (kp, listOf kys.toArray kc) :: (sp, listOf (sys ++ ys').toArray n3) :: (L + 4, o4) :: (L + 3, o3) :: (L + 2, o2) :: (L + 1, o1) :: own := by
            rcases hq with h | h | h | h | h | h | h
            · exact ⟨_, by rw [h]; exact .head _⟩
            · exact ⟨_, by rw [h]; exact .tail _ (.head _)⟩
            · exact ⟨_, by rw [h]; exact .tail _ (.tail _ (.head _))⟩
            · exact ⟨_, by rw [h]; exact .tail _ (.tail _ (.tail _ (.head _)))⟩
            · exact ⟨_, by rw [h]; exact .tail _ (.tail _ (.tail _ (.tail _ (.head _))))⟩
            · exact ⟨_, by rw [h]; exact .tail _ (.tail _ (.tail _ (.tail _ (.tail _ (.head _)))))⟩
            · exact ⟨q.2, .tail _ (.tail _ (.tail _ (.tail _ (.tail _ (.tail _ h)))))⟩
          rcases List.mem_cons.mp hp with h | h
          · rw [h]
            obtain ⟨o, ho⟩ := hq'
            refine lt6 (q.1, o) ?_
            simp only [List.mem_cons, List.mem_append] at ho ⊢
            rcases ho with h | h | h | h | h | h | h <;> simp [h]
          · refine hn' p h q ?_
            simp only [List.mem_cons]
            rcases hq with h | h | h | h | h | h | h <;> simp [h]
      · rw [sizeLine_eq]; simp; omega
  · intro l k
    unfold handG
    split <;> simp

end TextT1
section TextZ1
set_option maxRecDepth 100000
open PySem PySem.W PySem.Calls PyProof.Rows
def zipFor : Stmt := match lawFD.1 with
  | [_, _, _, _, _, z, _, _, _, _, _, _, _, _, _] => z
  | _ => .Pass default
local macro_rules | `(tactic| k_room) => `(tactic| ktr_room)
local macro_rules | `(tactic| k_mem) => `(tactic| first | exact List.mem_cons_self .. | ktr_member | (refine' List.mem_cons_of_mem _ ?_; k_mem))
local macro_rules | `(tactic| walk_at "eval Name") => `(tactic| (k_here; k_dflt (refine' nameX_L ?k1 ?k2 ?_; (case k1 => k_asm); (case k2 => assumption); k_whole)))
theorem handedL_le (mark : Int) (cnt : Nat) : (handedL mark cnt).length ≤ cnt := by
  have : ∀ (l acc : List Int), (l.foldl (handG mark) acc).length ≤ acc.length + l.length := by
    intro l
    induction l with
    | nil => intro acc; exact Nat.le_refl _
    | cons x l ih =>
      intro acc
      have h1 := ih (handG mark acc x)
      have h2 : (handG mark acc x).length ≤ acc.length + 1 := by unfold handG; split <;> simp
      simp only [List.foldl_cons, List.length_cons]
      omega
  have h := this (rangeKs 0 cnt) []
  rw [rangeKs_length] at h
  simpa [handedL] using h
def zipTarget : Expr := match zipFor with
  | .For t _ _ _ _ => t
  | _ => .Name (Str.ofString "x") default
theorem store_cell {M : Model} {A : Around} {E : Value → Shared → Prop} {s : Shared} {h₀ : Heap} {m : Str → Option Value} {cn : Str} {cs : Scope} {L a c : Addr} {ccd : Value} {cl : List (Str × Addr)} {x : Str} {o : Obj} {v₀ : Option Value} {v : Value} {rest : List (Addr × Obj)} {Q : Unit → Shared → Prop} (F : Fr h₀ L s.heap m) (N : News h₀ L s.heap ((c, o) :: rest)) (off : ∀ p ∈ rest, (@Ne Nat p.1 c)) (hc : cl.lookup x = some c) (hd : o.data = .cell v₀)
    (h : ∀ h' o', Fr h₀ L h' m → News h₀ L h' ((c, o') :: rest) → o'.data = .cell (some v) → Q () { s with heap := h' })
    (hk : cs.kind = .function := by rfl) (hx : (envX cn cs L a ccd cl).kindOf x = some .cell := by rfl) : wpAny M A (storeName (envX cn cs L a ccd cl) x v) Q E s :=
  storeX_C F N hc (.head off) hd h hk hx
local macro_rules | `(tactic| walk_at "storeName") => `(tactic| refine Hold.out ?_)
set_option maxHeartbeats 8000000 in
theorem zturn {w : World} {mean : ExcName → Option Value} {mg mb : Str → Option Value} {base : Heap} {L fa sp kp T1 : Addr} {cdv : Value} {M : Str → Option Value} {s : Shared} {Q : Flow → Shared → Prop} {E : Value → Shared → Prop} {sys kys : List Value} {sc kc : Nat} {f mark : Int} {cnt : Nat} {tf tm tc : Tok} {o1 o2 o3 o4 : Obj} {v3 v4 : Option Value} {own : List (Addr × Obj)}
   (B : Below callerA base [] base) (X : (hd.heap_39 w.params).In base) (T : Top hd.view_39 (looseW hd.view_39 [Str.ofString "filterfalse"]) mean mg mb base)
   (F : Fr base L s.heap M) (N : News base L s.heap ((kp, listOf kys.toArray kc) :: (sp, listOf sys.toArray sc) :: (L + 4, o4) :: (L + 3, o3) :: (L + 2, o2) :: (L + 1, o1) :: own))
   (d1 : o1.data = .cell (some (.int f tf))) (d2 : o2.data = .cell (some (.ref kp))) (d3 : o3.data = .cell v3) (d4 : o4.data = .cell v4)
   (ht : IsTup s.heap T1 #[.int (cnt : Int) tc, .int mark tm])
   (hsp : M (Str.ofString "spokes") = some (.ref sp)) (hc : cnt = 2 ∨ cnt = 3 ∨ cnt = 5)
   (hks : @LT.lt Nat _ sp kp) (hsL : @LT.lt Nat _ (L + 5) sp) (hown : ∀ p ∈ own, (@Ne Nat p.1 sp) ∧ (@Ne Nat p.1 kp) ∧ (@LT.lt Nat _ (L + 4) p.1)) (hsz : sys.length ≤ 100) (hkz : kys.length ≤ 100)
   (hQ : ∀ D h' tk' sc' kc' T xs new o3' o4', Fr base L h' (fun z => if z = Str.ofString "handed" then some (.ref D) else M z) → News base L h' ((kp, listOf (kys ++ [Value.ref T]).toArray kc') :: (sp, listOf (sys ++ xs).toArray sc') :: (L + 4, o4') :: (L + 3, o3') :: (L + 2, o2) :: (L + 1, o1) :: (new ++ own)) → o3'.data = .cell (some (.int (cnt : Int) tc)) → o4'.data = .cell (some (.int mark tm)) → Mine.Lists new [Value.ref T] [keptL (handedL mark cnt) (Mine.rangeL 0 cnt)] → Mine.Lists new xs ((handedL mark cnt).map (spokeL f cnt)) →
     (∀ p ∈ new, (@LT.lt Nat _ kp p.1) ∧ ∀ q ∈ own, (@LT.lt Nat _ q.1 p.1)) → Q .next { s with heap := h', toks := tk' }) :
   wpAny (model PySem.Challenge.rw_ij0194_01.row.prog w) (callerA.deeper (lawEnv L fa cdv)) (assign zipTarget (lawEnv L fa cdv) (.ref T1)) (fun _ s₂ => wpAny (model PySem.Challenge.rw_ij0194_01.row.prog w) (callerA.deeper (lawEnv L fa cdv)) (execs turnBody (lawEnv L fa cdv)) Q E s₂) E s := by
  unfold zipTarget zipFor lawFD PySem.Challenge.pw_ij0194_01
  dsimp only
  k_steps
  unfold Hold
  rename Fr _ _ _ _ => F5
  rename News _ _ _ _ => N5
  have N6 : News base L _ ((L + 3, o3) :: (kp, listOf kys.toArray kc) :: (sp, listOf sys.toArray sc) :: (L + 4, o4) :: (L + 2, o2) :: (L + 1, o1) :: own) := fun p hp => N5 p (by simp only [List.mem_cons] at hp ⊢; rcases hp with h | h | h | h | h | h | h <;> simp [h])
  refine store_cell (c := L + 3) F5 N6 ?_ (by rfl) d3 ?_
  · intro p hp
    simp only [List.mem_cons] at hp
    show (@Ne Nat p.1 (L + 3))
    rcases hp with h | h | h | h | h | h
    · rw [h]; show (@Ne Nat kp (L + 3)); omega
    · rw [h]; show (@Ne Nat sp (L + 3)); omega
    · rw [h]; show (@Ne Nat (L + 4) (L + 3)); omega
    · rw [h]; show (@Ne Nat (L + 2) (L + 3)); omega
    · rw [h]; show (@Ne Nat (L + 1) (L + 3)); omega
    · have := (hown p h).2.2; omega
  intro h7 o3' F7 N7 d3'
  k_steps
  unfold Hold
  have N8 : News base L h7 ((L + 4, o4) :: (kp, listOf kys.toArray kc) :: (sp, listOf sys.toArray sc) :: (L + 3, o3') :: (L + 2, o2) :: (L + 1, o1) :: own) := fun p hp => N7 p (by simp only [List.mem_cons] at hp ⊢; rcases hp with h | h | h | h | h | h | h <;> simp [h])
  refine store_cell (c := L + 4) F7 N8 ?_ (by rfl) d4 ?_
  · intro p hp
    simp only [List.mem_cons] at hp
    show (@Ne Nat p.1 (L + 4))
    rcases hp with h | h | h | h | h | h
    · rw [h]; show (@Ne Nat kp (L + 4)); omega
    · rw [h]; show (@Ne Nat sp (L + 4)); omega
    · rw [h]; show (@Ne Nat (L + 3) (L + 4)); omega
    · rw [h]; show (@Ne Nat (L + 2) (L + 4)); omega
    · rw [h]; show (@Ne Nat (L + 1) (L + 4)); omega
    · have := (hown p h).2.2; omega
  intro h9 o4' F9 N9 d4'
  have N10 : News base L h9 ((kp, listOf kys.toArray kc) :: (sp, listOf sys.toArray sc) :: (L + 4, o4') :: (L + 3, o3') :: (L + 2, o2) :: (L + 1, o1) :: own) := fun p hp => N9 p (by simp only [List.mem_cons] at hp ⊢; rcases hp with h | h | h | h | h | h | h <;> simp [h])
  refine wpAny_pure ?_
  refine turnC (cnt := cnt) (mark := mark) B X T ?F9 (sys := sys) (kys := kys) (sp := sp) (kp := kp) (sc := sc) (kc := kc) (own := own) ?N10 d1 d2 d3' d4' hsp hc hks hsL (fun p hp => ⟨(hown p hp).1, (hown p hp).2.1⟩) hsz hkz ?_
  case F9 => exact F9
  case N10 => exact N10
  intro D h' tk' sc' kc' T xs new F1 N1 l1 l2 l3
  refine hQ D h' tk' sc' kc' T xs new o3' o4' F1 N1 d3' d4' l1 l2 fun p hp => ⟨?_, ?_⟩
  · exact l3 p hp (kp, _) (.head _)
  · intro q hq
    exact l3 p hp q (by simp [hq])
abbrev zws (I : Addr) : List (Addr × String) := [(I + 4, "zip"), (I + 2, "tuple"), (I + 3, "tuple"), (I, "list_iterator"), (I + 1, "list_iterator")]
set_option maxHeartbeats 8000000 in
theorem zstep {w : World} {mean : ExcName → Option Value} {mg mb : Str → Option Value} {base : Heap} {L fa sp kp I l1 l2 : Addr} {cdv : Value} {M : Str → Option Value} {s : Shared} {Q : Flow → Shared → Prop} {E : Value → Shared → Prop} {sys kys : List Value} {sc kc : Nat} {f mark : Int} {cnt : Nat} {tf tm tc : Tok} {o1 o2 o3 o4 lo1 lo2 : Obj} {v3 v4 : Option Value} {own new : List (Addr × Obj)} {r : List Itm}
   (B : Below callerA base [] base) (X : (hd.heap_39 w.params).In base) (T : Top hd.view_39 (looseW hd.view_39 [Str.ofString "filterfalse"]) mean mg mb base)
   (d1 : o1.data = .cell (some (.int f tf))) (d2 : o2.data = .cell (some (.ref kp))) (d3 : o3.data = .cell v3) (d4 : o4.data = .cell v4)
   (hsp : M (Str.ofString "spokes") = some (.ref sp)) (hc : cnt = 2 ∨ cnt = 3 ∨ cnt = 5)
   (hks : @LT.lt Nat _ sp kp) (hsL : @LT.lt Nat _ (L + 5) sp) (hown : ∀ p ∈ (l1, lo1) :: (l2, lo2) :: own, (@Ne Nat p.1 sp) ∧ (@Ne Nat p.1 kp) ∧ (@LT.lt Nat _ (L + 4) p.1) ∧ (@LT.lt Nat _ p.1 I)) (hkI : @LT.lt Nat _ kp I) (hnew : ∀ p ∈ new, (@LT.lt Nat _ (I + 4) p.1)) (hsz : sys.length ≤ 100) (hkz : kys.length ≤ 100)
   (hQ : ∀ M' sc' kc' T xs new2 o3' o4', (∀ z, z ≠ Str.ofString "handed" → M' z = M z) → o3'.data = .cell (some (.int (cnt : Int) tc)) → o4'.data = .cell (some (.int mark tm)) → Mine.Lists new2 [Value.ref T] [keptL (handedL mark cnt) (Mine.rangeL 0 cnt)] → Mine.Lists new2 xs ((handedL mark cnt).map (spokeL f cnt)) →
     (∀ p ∈ new2, (@LT.lt Nat _ (I + 4) p.1)) → ItemsRest (PySem.Challenge.rw_ij0194_01.row.prog) w (callerA.deeper (lawEnv L fa cdv)) E base (lawEnv L fa cdv) zipTarget turnBody Q s (zws I) [(l1, lo1), (l2, lo2)] r M' ((kp, listOf (kys ++ [Value.ref T]).toArray kc') :: (sp, listOf (sys ++ xs).toArray sc') :: (L + 4, o4') :: (L + 3, o3') :: (L + 2, o2) :: (L + 1, o1) :: ((new2 ++ new) ++ (l1, lo1) :: (l2, lo2) :: own))) :
   ItemsRest (PySem.Challenge.rw_ij0194_01.row.prog) w (callerA.deeper (lawEnv L fa cdv)) E base (lawEnv L fa cdv) zipTarget turnBody Q s (zws I) [(l1, lo1), (l2, lo2)] (.pair (fun _ => .int (cnt : Int) tc) (.int mark tm) :: r) M ((kp, listOf kys.toArray kc) :: (sp, listOf sys.toArray sc) :: (L + 4, o4) :: (L + 3, o3) :: (L + 2, o2) :: (L + 1, o1) :: (new ++ (l1, lo1) :: (l2, lo2) :: own)) := by
  refine ItemsRest.pair fun T1 t1 h1 tk1 ht1 F1 => ?_
  refine AllObj.cons fun p1 q1 => AllObj.cons fun p2 q2 => AllObj.cons fun p3 q3 => AllObj.cons fun p4 q4 => AllObj.cons fun p5 q5 => AllObj.nil fun N1 => ?_
  have N2 : News base L h1 ((kp, listOf kys.toArray kc) :: (sp, listOf sys.toArray sc) :: (L + 4, o4) :: (L + 3, o3) :: (L + 2, o2) :: (L + 1, o1) :: ([(I + 4, p1), (I + 2, p2), (I + 3, p3), (I, p4), (I + 1, p5)] ++ (new ++ (l1, lo1) :: (l2, lo2) :: own))) := fun p hp => N1 p (by
    simp only [List.mem_cons, List.mem_append, List.not_mem_nil, or_false] at hp ⊢
    rcases hp with h | h | h | h | h | h | (h | h | h | h | h) | h | h | h | h <;> simp [h])
  refine zturn (cnt := cnt) (mark := mark) (sys := sys) (kys := kys) (sc := sc) (kc := kc) (tc := tc) (tm := tm) (own := [(I + 4, p1), (I + 2, p2), (I + 3, p3), (I, p4), (I + 1, p5)] ++ (new ++ (l1, lo1) :: (l2, lo2) :: own)) B X T ?F1 ?N2 d1 d2 d3 d4 ?ht hsp hc hks hsL ?_ hsz hkz ?_
  case F1 => exact F1
  case N2 => exact N2
  case ht => exact ht1
  · intro p hp
    simp only [List.mem_cons, List.mem_append, List.not_mem_nil, or_false] at hp
    rcases hp with (h | h | h | h | h) | h | h | h | h
    · rw [h]; show (@Ne Nat (I + 4) sp) ∧ (@Ne Nat (I + 4) kp) ∧ (@LT.lt Nat _ (L + 4) (I + 4)); omega
    · rw [h]; show (@Ne Nat (I + 2) sp) ∧ (@Ne Nat (I + 2) kp) ∧ (@LT.lt Nat _ (L + 4) (I + 2)); omega
    · rw [h]; show (@Ne Nat (I + 3) sp) ∧ (@Ne Nat (I + 3) kp) ∧ (@LT.lt Nat _ (L + 4) (I + 3)); omega
    · rw [h]; show (@Ne Nat I sp) ∧ (@Ne Nat I kp) ∧ (@LT.lt Nat _ (L + 4) I); omega
    · rw [h]; show (@Ne Nat (I + 1) sp) ∧ (@Ne Nat (I + 1) kp) ∧ (@LT.lt Nat _ (L + 4) (I + 1)); omega
    · have := hnew p h; omega
    · have := hown p (by simp [h]); omega
    · have := hown p (by simp [h]); omega
    · have := hown p (by simp [h]); omega
  · intro D h' tk' sc' kc' T2 xs new2 o3' o4' F3 N3 d3' d4' l1' l2' l3
    have g4 : ∀ p ∈ new2, (@LT.lt Nat _ (I + 4) p.1) := fun p hp => (l3 p hp).2 (I + 4, p1) (by simp)
    refine ⟨h', tk', _, (kp, listOf (kys ++ [Value.ref T2]).toArray kc') :: (sp, listOf (sys ++ xs).toArray sc') :: (L + 4, o4') :: (L + 3, o3') :: (L + 2, o2) :: (L + 1, o1) :: ((new2 ++ new) ++ (l1, lo1) :: (l2, lo2) :: own), rfl, F3, fun p hp => N3 p ?_, fun p hp q hq => ?_, ⟨?_, ?_, trivial⟩, hQ _ sc' kc' T2 xs new2 o3' o4' (fun z hz => by simp [hz]) d3' d4' l1' l2' g4⟩
    · simp only [List.mem_cons, List.mem_append, List.not_mem_nil, or_false] at hp ⊢
      rcases hp with (h | h | h | h | h) | h | h | h | h | h | h | (h | h) | h | h | h <;> simp [h]
    · have hq' : (@LE.le Nat _ I q.1) ∧ (@LE.le Nat _ q.1 (I + 4)) := by
        simp only [List.mem_cons, List.not_mem_nil, or_false] at hq
        rcases hq with h | h | h | h | h
        · rw [h]; show (@LE.le Nat _ I (I + 4)) ∧ (@LE.le Nat _ (I + 4) (I + 4)); omega
        · rw [h]; show (@LE.le Nat _ I (I + 2)) ∧ (@LE.le Nat _ (I + 2) (I + 4)); omega
        · rw [h]; show (@LE.le Nat _ I (I + 3)) ∧ (@LE.le Nat _ (I + 3) (I + 4)); omega
        · rw [h]; show (@LE.le Nat _ I (I + 0)) ∧ (@LE.le Nat _ (I + 0) (I + 4)); omega
        · rw [h]; show (@LE.le Nat _ I (I + 1)) ∧ (@LE.le Nat _ (I + 1) (I + 4)); omega
      have hp' : (@LT.lt Nat _ p.1 I) ∨ (@LT.lt Nat _ (I + 4) p.1) := by
        simp only [List.mem_cons, List.mem_append] at hp
        rcases hp with h | h | h | h | h | h | (h | h) | h
        · rw [h]; exact .inl hkI
        · rw [h]; show (@LT.lt Nat _ sp I) ∨ (@LT.lt Nat _ (I + 4) sp); omega
        · rw [h]; show (@LT.lt Nat _ (L + 4) I) ∨ (@LT.lt Nat _ (I + 4) (L + 4)); omega
        · rw [h]; show (@LT.lt Nat _ (L + 3) I) ∨ (@LT.lt Nat _ (I + 4) (L + 3)); omega
        · rw [h]; show (@LT.lt Nat _ (L + 2) I) ∨ (@LT.lt Nat _ (I + 4) (L + 2)); omega
        · rw [h]; show (@LT.lt Nat _ (L + 1) I) ∨ (@LT.lt Nat _ (I + 4) (L + 1)); omega
        · exact .inr (g4 p h)
        · exact .inr (hnew p h)
        · exact .inl (hown p (by simpa [or_assoc] using h)).2.2.2
      show (@Ne Nat p.1 q.1)
      omega
    · simp
    · simp
set_option maxHeartbeats 8000000 in
theorem zzip {w : World} {mean : ExcName → Option Value} {mg mb : Str → Option Value} {base : Heap} {L fa sp kp mk l1 : Addr} {cdv : Value} {M : Str → Option Value} {s : Shared} {Q : Flow → Shared → Prop} {E : Value → Shared → Prop} {sc kc mc : Nat} {f a b c : Int} {tf ta tb tc t2 t3 t5 : Tok} {o1 o2 o3 o4 : Obj} {v3 v4 : Option Value} {own : List (Addr × Obj)}
   (B : Below callerA base [] base) (X : (hd.heap_39 w.params).In base) (T : Top hd.view_39 (looseW hd.view_39 [Str.ofString "filterfalse"]) mean mg mb base)
   (F : Fr base L s.heap M) (N : News base L s.heap ((l1, listOf #[.int 2 t2, .int 3 t3, .int 5 t5] 0) :: (kp, listOf #[] kc) :: (sp, listOf #[] sc) :: (L + 4, o4) :: (L + 3, o3) :: (L + 2, o2) :: (L + 1, o1) :: (mk, listOf #[.int a ta, .int b tb, .int c tc] mc) :: own))
   (d1 : o1.data = .cell (some (.int f tf))) (d2 : o2.data = .cell (some (.ref kp))) (d3 : o3.data = .cell v3) (d4 : o4.data = .cell v4)
   (hsp : M (Str.ofString "spokes") = some (.ref sp))
   (hks : @LT.lt Nat _ sp kp) (hsL : @LT.lt Nat _ (L + 5) sp) (hmL : @LT.lt Nat _ (L + 5) mk) (hms : @LT.lt Nat _ mk sp) (hown : ∀ p ∈ own, (@Ne Nat p.1 sp) ∧ (@Ne Nat p.1 kp) ∧ (@LT.lt Nat _ (L + 4) p.1))
   (hl : (@LT.lt Nat _ kp l1))
   (hQ : ∀ h' tk' M' sc' kc' K1 K2 K3 xs new o3' o4' t3 t4, (∀ z, z ≠ Str.ofString "handed" → M' z = M z) → Fr base L h' M' → News base L h' ((kp, listOf [Value.ref K1, Value.ref K2, Value.ref K3].toArray kc') :: (sp, listOf xs.toArray sc') :: (L + 4, o4') :: (L + 3, o3') :: (L + 2, o2) :: (L + 1, o1) :: (new ++ own)) → o3'.data = .cell (some (.int 5 t3)) → o4'.data = .cell (some (.int c t4)) →
     Mine.Lists new [Value.ref K1, Value.ref K2, Value.ref K3] [keptL (handedL a 2) (Mine.rangeL 0 2), keptL (handedL b 3) (Mine.rangeL 0 3), keptL (handedL c 5) (Mine.rangeL 0 5)] → Mine.Lists new xs ((handedL a 2).map (spokeL f 2) ++ (handedL b 3).map (spokeL f 3) ++ (handedL c 5).map (spokeL f 5)) →
     (∀ p ∈ new, (@LT.lt Nat _ kp p.1)) → Q .next { s with heap := h', toks := tk' }) :
   wpAny (model PySem.Challenge.rw_ij0194_01.row.prog w) (callerA.deeper (lawEnv L fa cdv)) (call (.type "zip") [.ref l1, .ref mk]) (fun xv s₁ => wpAny (model PySem.Challenge.rw_ij0194_01.row.prog w) (callerA.deeper (lawEnv L fa cdv)) (pyIter xv) (fun it s₂ => TurnsAt (PySem.Challenge.rw_ij0194_01.row.prog) w (callerA.deeper (lawEnv L fa cdv)) base (lawEnv L fa cdv) zipTarget turnBody Q E it s₂) E s₁) E s := by
  have N6 : News base L s.heap ((kp, listOf [].toArray kc) :: (sp, listOf [].toArray sc) :: (L + 4, o4) :: (L + 3, o3) :: (L + 2, o2) :: (L + 1, o1) :: ([] ++ (l1, listOf #[.int 2 t2, .int 3 t3, .int 5 t5] 0) :: (mk, listOf #[.int a ta, .int b tb, .int c tc] mc) :: own)) := fun p hp => N p (by
    simp only [List.mem_cons, List.nil_append] at hp ⊢
    rcases hp with h | h | h | h | h | h | h | h | h <;> simp [h])
  refine ktu_zip (by rfl) F N6 (l1 := l1) (l2 := mk) (lo1 := listOf #[.int 2 t2, .int 3 t3, .int 5 t5] 0) (n1 := 0) (xs := [.int 2 t2, .int 3 t3, .int 5 t5]) (by simp) rfl rfl (lo2 := listOf #[.int a ta, .int b tb, .int c tc] mc) (n2 := mc) (ys := [.int a ta, .int b tb, .int c tc]) (by simp) rfl rfl ?_
  intro I hI
  have hkI : (@LT.lt Nat _ kp I) := hI (kp, listOf [].toArray kc) (by simp)
  have hoff : ∀ p ∈ (l1, listOf #[.int 2 t2, .int 3 t3, .int 5 t5] 0) :: (mk, listOf #[.int a ta, .int b tb, .int c tc] mc) :: own, (@Ne Nat p.1 sp) ∧ (@Ne Nat p.1 kp) ∧ (@LT.lt Nat _ (L + 4) p.1) ∧ (@LT.lt Nat _ p.1 I) := fun p hp => by
    have hpI : (@LT.lt Nat _ p.1 I) := hI p (by
      simp only [List.mem_cons] at hp
      rcases hp with h | h | h <;> simp [h])
    simp only [List.mem_cons] at hp
    rcases hp with h | h | h
    · refine ⟨?_, ?_, ?_, hpI⟩
      · rw [h]; show (@Ne Nat l1 sp); omega
      · rw [h]; show (@Ne Nat l1 kp); omega
      · rw [h]; show (@LT.lt Nat _ (L + 4) l1); omega
    · refine ⟨?_, ?_, ?_, hpI⟩
      · rw [h]; show (@Ne Nat mk sp); omega
      · rw [h]; show (@Ne Nat mk kp); omega
      · rw [h]; show (@LT.lt Nat _ (L + 4) mk); omega
    · exact ⟨(hown p h).1, (hown p h).2.1, (hown p h).2.2, hpI⟩
  have e0 : handedL a 2 = handedL a 2 := rfl
  refine zstep (cnt := 2) (tc := t2) (mark := a) (tm := ta) (sys := []) (kys := []) (new := []) B X T d1 d2 d3 d4 hsp (by decide) hks hsL hoff hkI (fun p hp => nomatch hp) (by decide) (by decide) ?_
  intro M1 sc1 kc1 K1 xs1 new1 p3 p4 m1 e3 e4 g1 s1 n1
  have z1 : xs1.length ≤ 2 := by have := s1.length; have := handedL_le a 2; simp at *; omega
  refine zstep (cnt := 3) (tc := t3) (mark := b) (tm := tb) (sys := [] ++ xs1) (kys := [.ref K1]) (new := new1 ++ []) B X T d1 d2 e3 e4 ((m1 _ (by decide)).trans hsp) (by decide) hks hsL hoff hkI (fun p hp => n1 p (by simpa using hp)) (by simp; omega) (by simp) ?_
  intro M2 sc2 kc2 K2 xs2 new2 q3 q4 m2 e3' e4' g2 s2 n2
  have z2 : xs2.length ≤ 3 := by have := s2.length; have := handedL_le b 3; simp at *; omega
  refine zstep (cnt := 5) (tc := t5) (mark := c) (tm := tc) (sys := [] ++ xs1 ++ xs2) (kys := [.ref K1, .ref K2]) (new := new2 ++ (new1 ++ [])) B X T d1 d2 e3' e4' ((m2 _ (by decide)).trans ((m1 _ (by decide)).trans hsp)) (by decide) hks hsL hoff hkI (fun p hp => by
    rcases List.mem_append.mp hp with h | h
    · exact n2 p h
    · exact n1 p (by simpa using h)) (by simp; omega) (by simp) ?_
  intro M3 sc3 kc3 K3 xs3 new3 r3 r4 m3 e3'' e4'' g3 s3 n3
  refine ItemsRest.zero fun h' tk' F' N' => ?_
  refine hQ h' tk' M3 sc3 kc3 K1 K2 K3 (xs1 ++ xs2 ++ xs3) (new3 ++ (new2 ++ new1)) r3 r4 _ _ (fun z hz => (m3 z hz).trans ((m2 z hz).trans (m1 z hz))) F' (fun p hp => N' p ?_) e3'' e4'' ?_ ?_ ?_
  · simp only [List.mem_cons, List.mem_append, List.nil_append, List.append_nil] at hp ⊢
    rcases hp with h | h | h | h | h | h | (h | h | h) | h <;> simp [h]
  · exact ((g1.mono fun p hp => by simp [hp]).app (g2.mono fun p hp => by simp [hp])).app (g3.mono fun p hp => by simp [hp])
  · exact ((s1.mono fun p hp => by simp [hp]).app (s2.mono fun p hp => by simp [hp])).app (s3.mono fun p hp => by simp [hp])
  · intro p hp
    have : (@LT.lt Nat _ (I + 4) p.1) := by
      simp only [List.mem_append] at hp
      rcases hp with h | h | h
      · exact n3 p h
      · exact n2 p h
      · exact n1 p h
    omega
local macro_rules | `(tactic| walk_at "call type:zip") => `(tactic| refine Hold.out ?_)
set_option maxHeartbeats 8000000 in
theorem zipC {w : World} {mean : ExcName → Option Value} {mg mb : Str → Option Value} {base : Heap} {L fa sp kp mk : Addr} {cdv : Value} {M : Str → Option Value} {s : Shared} {Q : Flow → Shared → Prop} {E : Value → Shared → Prop} {sc kc mc : Nat} {f a b c : Int} {tf ta tb tc : Tok} {o1 o2 o3 o4 : Obj} {own : List (Addr × Obj)}
   (B : Below callerA base [] base) (X : (hd.heap_39 w.params).In base) (T : Top hd.view_39 (looseW hd.view_39 [Str.ofString "filterfalse"]) mean mg mb base)
   (F : Fr base L s.heap M) (N : News base L s.heap ((kp, listOf #[] kc) :: (sp, listOf #[] sc) :: (L + 4, o4) :: (L + 3, o3) :: (L + 2, o2) :: (L + 1, o1) :: (mk, listOf #[.int a ta, .int b tb, .int c tc] mc) :: own))
   (d1 : o1.data = .cell (some (.int f tf))) (d2 : o2.data = .cell (some (.ref kp))) (d3 : o3.data = .cell none) (d4 : o4.data = .cell none)
   (hsp : M (Str.ofString "spokes") = some (.ref sp)) (hmk : M (Str.ofString "marks") = some (.ref mk))
   (hks : @LT.lt Nat _ sp kp) (hsL : @LT.lt Nat _ (L + 5) mk) (hms : @LT.lt Nat _ mk sp) (hown : ∀ p ∈ own, (@Ne Nat p.1 sp) ∧ (@Ne Nat p.1 kp) ∧ (@LT.lt Nat _ (L + 4) p.1))
   (hE : PassesOwn (model PySem.Challenge.rw_ij0194_01.row.prog w) (callerA.deeper (lawEnv L fa cdv)) (lawEnv L fa cdv) E)
   (hQ : ∀ h' tk' M' sc' kc' K1 K2 K3 xs new o3' o4' t3 t4, (∀ z, z ≠ Str.ofString "handed" → M' z = M z) → Fr base L h' M' → News base L h' ((kp, listOf [Value.ref K1, Value.ref K2, Value.ref K3].toArray kc') :: (sp, listOf xs.toArray sc') :: (L + 4, o4') :: (L + 3, o3') :: (L + 2, o2) :: (L + 1, o1) :: (new ++ own)) → o3'.data = .cell (some (.int 5 t3)) → o4'.data = .cell (some (.int c t4)) →
     Mine.Lists new [Value.ref K1, Value.ref K2, Value.ref K3] [keptL (handedL a 2) (Mine.rangeL 0 2), keptL (handedL b 3) (Mine.rangeL 0 3), keptL (handedL c 5) (Mine.rangeL 0 5)] → Mine.Lists new xs ((handedL a 2).map (spokeL f 2) ++ (handedL b 3).map (spokeL f 3) ++ (handedL c 5).map (spokeL f 5)) →
     (∀ p ∈ new, (@LT.lt Nat _ kp p.1)) → Q .next { s with heap := h', toks := tk' }) :
   wpAny (model PySem.Challenge.rw_ij0194_01.row.prog w) (callerA.deeper (lawEnv L fa cdv)) (exec zipFor (lawEnv L fa cdv)) Q E s := by
  revert X
  k_fill
  intro X
  unfold lawEnv zipFor lawFD PySem.Challenge.pw_ij0194_01
  dsimp only
  refine For_turns F ?_ (hE := ?_)
  · k_steps
    unfold Hold
    rename Fr _ _ _ _ => F5
    rename News _ _ _ _ => N5
    rename (_ ∧ _) => l19
    refine zzip (t2 := s.toks) (t3 := s.toks + 1) (t5 := s.toks + 1 + 1) (kc := kc) (sc := sc) B X T F5 N5 d1 d2 d3 d4 hsp (hks := hks) (hsL := Nat.lt_trans hsL hms) (hown := hown) (hms := hms) (hmL := hsL) (hl := l19.1) ?_
    intro h' tk' M' sc' kc' K1 K2 K3 xs new o3' o4' t3 t4 g1 F1 N1
    exact hQ h' tk' M' sc' kc' K1 K2 K3 xs new o3' o4' t3 t4 g1 F1 N1
  · exact hE

end TextZ1
section TextM1
set_option maxRecDepth 100000
open PySem PySem.W PySem.Calls PyProof.Rows
-- the state inside a list comprehension of several clauses: C its namespace, D the list under way
def CSt (h₀ : Heap) (L : Addr) (m : Str → Option Value) (s : Shared) (C D : Addr) (own : List (Addr × Obj)) (kv : List (Str × Value)) (ys : List Value) (s' : Shared) : Prop :=
  ∃ h' tk oC m', s' = { s with heap := h', toks := tk } ∧ Fr h₀ L h' m ∧ News h₀ L h' ((C, oC) :: (D, LCg.lst ys) :: own) ∧ LCg.NsObj oC m' ∧ ∀ q ∈ kv, m' q.1 = some q.2
def LIat (o : Obj) (ax : Addr) (i : Nat) : Prop := o.cls = .type "list_iterator" ∧ o.data = .fields #[.ref ax, .int i 0]
theorem LIat.of {h : Heap} {I ax : Addr} {i : Nat} (x : h.IsListIter I ax i) : ∃ o, h.get? I = some o ∧ LIat o ax i := let ⟨o, a, b, c⟩ := x; ⟨o, a, b, c⟩
theorem LIat.is {h : Heap} {I ax : Addr} {i : Nat} {o : Obj} (x : LIat o ax i) (e : h.get? I = some o) : h.IsListIter I ax i := ⟨o, e, x.1, x.2⟩

def Stop (P : Prop) : Prop := P
section
variable {prog : Program} {w : World} {A : Around} {s : Shared} {h₀ : Heap} {L : Addr} {m : Str → Option Value} {C D : Addr}

theorem comp_loop {e elt : Expr} {gens : List Comprehension} {scope : Scope} {pos : Pos} {d : Nat} {x : Str} {px p : Pos} {cenv : Env} {after : Sem Fin} {I ax : Addr} {its : List Value} {k : Nat} {gss : List (List Int)} {own : List (Addr × Obj)} {kv : List (Str × Value)} {bound : Nat} {R : Result → Shared → Prop}
    (hh : A.handled = none)
    (he : e = .ListComp elt gens scope pos)
    (hturn : compTurn e d (.ref I) (.ref D) cenv = (standAt p >>= fun _ => pyNext (.ref I) >>= fun r => match r with
      | none => pure (.done .next)
      | some v => letOwnedTupleGo (.Name x px) (.ref I) v >>= fun _ => assign (.Name x px) cenv v >>= fun _ => after))
    (hC : cenv.locals = C) (hk : cenv.kindOf x = some .local) (hp : (cenv.scope.kind == .class || (cenv.scope.kind == .module && cenv.locals != cenv.globals)) = false)
    (hm : (ax, listOf its.toArray k) ∈ own) (hx : ∀ q ∈ kv, q.1 ≠ x) (hlen : its.length = gss.length)
    (offI : ∀ p ∈ own, p.1 ≠ I) (offC : ∀ p ∈ own, p.1 ≠ C) (hIC : I ≠ C) (hID : I ≠ D) (hCD : C ≠ D)
    (turn : ∀ (i : Nat) v gs oI ys s' (E' : Value → Shared → Prop), its[i]? = some v → gss[i]? = some gs → ys.length + gs.length ≤ bound → CSt h₀ L m s C D ((I, oI) :: own) ((x, v) :: kv) ys s' →
      wpAny (model prog w) A after (fun fin s'' => fin = .again (.compLoop e d (.ref I) (.ref D) cenv) ∧ ∃ zs, CSt h₀ L m s C D ((I, oI) :: own) ((x, v) :: kv) (ys ++ zs) s'' ∧ IntsAre zs gs) E' s')
    {ys₀ : List Value} {s₀ : Shared} {oI₀ : Obj} (hb : ys₀.length + gss.flatten.length ≤ bound) (hI₀ : LIat oI₀ ax 0)
    (h0 : CSt h₀ L m s C D ((I, oI₀) :: own) kv ys₀ s₀)
    (hR : ∀ zs s'', CSt h₀ L m s C D own kv (ys₀ ++ zs) s'' → IntsAre zs gss.flatten → R (.ok .next) s'') :
    codeAny (model prog w) A (.compLoop e d (.ref I) (.ref D) cenv) R s₀ := by
  have hax : ax ≠ I := offI _ hm
  have W := Walks.list (prog := prog) (w := w) (A := A) hh I ax hax its.toArray
  subst he
  refine codeAny_loop rfl (fun n s' => ∃ i, i ≤ its.length ∧ n = its.length + 1 - i ∧ ∃ oI zs, LIat oI ax i ∧ CSt h₀ L m s C D ((I, oI) :: own) kv (ys₀ ++ zs) s' ∧ IntsAre zs (gss.take i).flatten) ?_ (its.length + 1) ⟨0, Nat.zero_le _, rfl, oI₀, [], hI₀, by rw [List.append_nil]; exact h0, by simpa using IntsAre.nil⟩
  rintro n s' ⟨i, hi, rfl, oI, zs, hI, ⟨h', tk, oC, m', rfl, F, N, hn, hkv⟩, hz⟩
  show wpAny _ A ((compTurn (.ListComp elt gens scope pos) d (.ref I) (.ref D) cenv).onRaise (fun x => do noteFrame x cenv; theTreesLotGoes x)) _ _ _
  refine wpAny_noted ?_
  rw [hturn]
  refine wpAny_bind (wpAny_standAt (wpAny_bind ?_))
  have eI := (N (I, oI) (.tail _ (.tail _ (.head _)))).1
  have nI := (N (I, oI) (.tail _ (.tail _ (.head _)))).2
  have st : h'.IsListIter I ax i ∧ h'.IsList ax its.toArray := ⟨hI.is eI, ⟨_, (N _ (.tail _ (.tail _ (.tail _ hm)))).1, rfl, _, rfl⟩⟩
  by_cases hlt : i < its.length
  · refine W.item i _ _ _ (by simpa using hlt) st fun v h₂ tk₂ hv st₂ hk₂ => ?_
    have hv' : its[i]? = some v := by simpa using hv
    obtain ⟨gs, hgs⟩ : ∃ gs, gss[i]? = some gs := ⟨gss[i]'(hlen ▸ hlt), List.getElem?_eq_getElem _⟩
    obtain ⟨oI₂, eI₂, hI₂⟩ := LIat.of st₂.1
    have F₂ : Fr h₀ L h₂ m := LCg.fr_but F hk₂ (Ne.symm nI.1) nI.2
    have keep : ∀ q o, (q, o) ∈ (C, oC) :: (D, LCg.lst (ys₀ ++ zs)) :: own → q ≠ I → News h₀ L h₂ [(q, o)] := fun q o hq hne p hp => by
      rw [List.mem_singleton.mp hp]
      have hq' : (q, o) ∈ (C, oC) :: (D, LCg.lst (ys₀ ++ zs)) :: (I, oI) :: own := by
        simp only [List.mem_cons] at hq ⊢
        rcases hq with h | h | h <;> simp [h]
      exact ⟨hk₂ _ _ (by simpa using hne) (N _ hq').1, (N _ hq').2⟩
    have nC := (N (C, oC) (.head _)).2
    obtain hnC : h₂.Ns C m' := hn.ns (keep C oC (.head _) (Ne.symm hIC) _ (List.mem_singleton.mpr rfl)).1
    refine wpAny_bind (wpAny_of_eq (show letOwnedTupleGo (.Name x px) (.ref I) v = pure () from rfl) (wpAny_bind (wpAny_assign_Name (wpAny_storeName_local hk (hC ▸ hnC) (fun h₃ hn₃ hs₃ => ?_) hp))))
    rw [hC] at hn₃ hs₃
    obtain ⟨oC₃, eC₃, hC₃⟩ := LCg.ns_obj hn₃
    have F₃ : Fr h₀ L h₃ m := F₂.change hs₃ nC.1 nC.2
    have at3 : ∀ q o, h₂.get? q = some o → q ≠ C → h₃.get? q = some o := fun q o e hne => hs₃.extBut q o hne e
    have N₃ : News h₀ L h₃ ((C, oC₃) :: (D, LCg.lst (ys₀ ++ zs)) :: (I, oI₂) :: own) := fun p hp => by
      rcases List.mem_cons.mp hp with rfl | hp
      · exact ⟨eC₃, nC⟩
      rcases List.mem_cons.mp hp with rfl | hp
      · have z := keep D _ (.tail _ (.head _)) (Ne.symm hID) _ (List.mem_singleton.mpr rfl)
        exact ⟨at3 _ _ z.1 (Ne.symm hCD), z.2⟩
      rcases List.mem_cons.mp hp with rfl | hp
      · exact ⟨at3 _ _ eI₂ hIC, nI⟩
      · have z := keep p.1 p.2 (.tail _ (.tail _ hp)) (offI p hp) _ (List.mem_singleton.mpr rfl)
        exact ⟨at3 _ _ z.1 (offC p hp), z.2⟩
    have htake : (gss.take (i + 1)).flatten = (gss.take i).flatten ++ gs := by
      rw [List.take_add_one, hgs]; simp
    have hle : (gss.take (i + 1)).flatten.length ≤ gss.flatten.length := by
      have : gss.flatten = (gss.take (i + 1)).flatten ++ (gss.drop (i + 1)).flatten := by rw [← List.flatten_append, List.take_append_drop]
      rw [this, List.length_append]; omega
    have hzl := hz.length
    refine wpAny_mono (turn i v gs oI₂ (ys₀ ++ zs) _ _ hv' hgs ?_ ⟨h₃, _, oC₃, _, rfl, F₃, N₃, hC₃, fun q hq => ?_⟩) (fun fin s'' hs'' => ?_) fun _ _ e => e
    · rw [htake, List.length_append] at hle
      rw [List.length_append]; omega
    · rcases List.mem_cons.mp hq with rfl | hq
      · exact if_pos rfl
      · show (if q.1 = x then some v else m' q.1) = some q.2
        rw [if_neg (hx q hq)]; exact hkv q hq
    · obtain ⟨rfl, zs', ⟨h9, tk9, oC9, m9, hs9, F9, N9, hn9, hkv9⟩, hz'⟩ := hs''
      have hc : CSt h₀ L m s C D ((I, oI₂) :: own) kv (ys₀ ++ zs ++ zs') s'' := ⟨h9, tk9, oC9, m9, hs9, F9, N9, hn9, fun q hq => hkv9 q (.tail _ hq)⟩
      refine ⟨rfl, its.length + 1 - (i + 1), by omega, i + 1, hlt, rfl, oI₂, zs ++ zs', hI₂, by rw [← List.append_assoc]; exact hc, ?_⟩
      rw [htake]
      exact hz.append hz'
  · obtain rfl : i = its.length := Nat.le_antisymm hi (Nat.not_lt.mp hlt)
    refine W.done _ _ _ (by simpa using st) fun h₂ tk₂ hk₂ => ?_
    refine wpAny_pure (hR zs _ ⟨h₂, tk₂, oC, m', rfl, LCg.fr_but F hk₂ (Ne.symm nI.1) nI.2, fun p hp => ?_, hn, hkv⟩ ?_)
    · have hp' : p ∈ (C, oC) :: (D, LCg.lst (ys₀ ++ zs)) :: (I, oI) :: own := by
        simp only [List.mem_cons] at hp ⊢
        rcases hp with h | h | h <;> simp [h]
      refine ⟨hk₂ _ _ ?_ (N p hp').1, (N p hp').2⟩
      simp only [List.mem_singleton]
      rcases List.mem_cons.mp hp with rfl | hp
      · exact Ne.symm hIC
      rcases List.mem_cons.mp hp with rfl | hp
      · exact Ne.symm hID
      · exact offI p hp
    · rw [hlen, List.take_length] at hz
      exact hz

theorem codeAny_compStartD {e elt : Expr} {gens : List Comprehension} {scope : Scope} {pos : Pos} {d : Nat} {target iter : Expr} {ifs : List Expr} {it acc : Value} {env : Env} {R : Result → Shared → Prop}
    (he : e = .ListComp elt gens scope pos) (hg : gens[d]? = some ⟨target, iter, ifs, 0⟩)
    (h0 : codeAny (model prog w) A (.compLoop e d it acc env) R s)
    (h : ∀ E : Value → Shared → Prop, wpAny (model prog w) A (pyIter it) (fun it' s' => codeAny (model prog w) A (.compLoop e d it' acc env) R s') E s) :
    codeAny (model prog w) A (.compStart e d it acc env) R s := by
  subst he
  refine codeAny_of_tree ?_
  show wpAny _ A ((compStart (.ListComp elt gens scope pos) d it acc env).onRaise (fun x => do noteFrame x env; standAt theWindowsPlace)) _ _ s
  refine wpAny_notedAt ?_
  have hc : (clausesOf (.ListComp elt gens scope pos))[d]? = some ⟨target, iter, ifs, 0⟩ := hg
  unfold compStart
  rw [hc]
  show wpAny _ A (ask >>= _) _ _ s
  refine wpAny_bind (wpAny_askSetting (wpAny_ite ?_))
  split
  · exact wpAny_bind (wpAny_pure (wpAny_pure (And.intro rfl h0)))
  · exact wpAny_bind (wpAny_rule (wpAny_bind (wpAny_standAt (wpAny_bind (wpAny_mono (h _) (fun it' s' h' => wpAny_pure (And.intro rfl h')) fun _ _ x => x)))))

theorem comp_next {e elt : Expr} {gens : List Comprehension} {scope : Scope} {pos : Pos} {d : Nat} {x : Str} {px : Pos} {iter : Expr} {cenv : Env} {ax : Addr} {its : List Value} {k : Nat} {gs : List Int} {own : List (Addr × Obj)} {kv : List (Str × Value)} {ys : List Value} {s' : Shared} {E' : Value → Shared → Prop} {c0 : Code}
    (he : e = .ListComp elt gens scope pos) (hg : gens[d]? = some ⟨.Name x px, iter, [], 0⟩)
    (hfold : ∀ v, foldedSetIterable iter cenv v = pure v)
    (hm : (ax, listOf its.toArray k) ∈ own)
    (hev : wpAny (model prog w) A (eval iter cenv) (fun v s'' => Stop (v = .ref ax ∧ CSt h₀ L m s C D own kv ys s'')) E' s')
    (hloop : ∀ I oI s'' (R : Result → Shared → Prop), LIat oI ax 0 → (∀ p ∈ own, p.1 ≠ I) → I ≠ C → I ≠ D → CSt h₀ L m s C D ((I, oI) :: own) kv ys s'' → (∀ zs s3, CSt h₀ L m s C D own kv (ys ++ zs) s3 → IntsAre zs gs → R (.ok .next) s3) → codeAny (model prog w) A (.compLoop e d (.ref I) (.ref D) cenv) R s'') :
    wpAny (model prog w) A (eval iter cenv >>= fun x => standAt iter.pos >>= fun _ => foldedSetIterable iter cenv x >>= fun x => holding [x] (pyIter x) >>= fun it => runOwn (.compStart e d it (.ref D) cenv) cenv >>= fun _ => again c0)
      (fun fin s'' => fin = .again c0 ∧ ∃ zs, CSt h₀ L m s C D own kv (ys ++ zs) s'' ∧ IntsAre zs gs) E' s' := by
  refine wpAny_bind (wpAny_mono hev (fun v s1 h1 => ?_) fun _ _ e => e)
  obtain ⟨rfl, h', tk, oC, m', rfl, F, N, hn, hkv⟩ := h1
  refine wpAny_bind (wpAny_standAt (wpAny_bind (wpAny_of_eq (hfold _) (wpAny_bind (wpAny_holding ?_)))))
  have hl : h'.IsList ax its.toArray := ⟨_, (N _ (.tail _ (.tail _ hm))).1, rfl, _, rfl⟩
  refine wpAny_pyIter_list hl ?_
  have lt : ∀ p ∈ (C, oC) :: (D, LCg.lst ys) :: own, p.1 < h'.objs.size := fun p hp => Heap.lt_size (N p hp).1
  have hst : ∀ R : Result → Shared → Prop, (∀ zs s3, CSt h₀ L m s C D own kv (ys ++ zs) s3 → IntsAre zs gs → R (.ok .next) s3) →
      codeAny (model prog w) A (.compLoop e d (.ref h'.objs.size) (.ref D) cenv) R { s with heap := h'.push { cls := .type "list_iterator", data := .fields #[.ref ax, .int 0 0] }, toks := tk } := fun R hR =>
    hloop h'.objs.size { cls := .type "list_iterator", data := .fields #[.ref ax, .int 0 0] } _ R ⟨rfl, rfl⟩ (fun p hp => Nat.ne_of_lt (lt p (.tail _ (.tail _ hp)))) (Ne.symm (Nat.ne_of_lt (lt (C, oC) (.head _)))) (Ne.symm (Nat.ne_of_lt (lt (D, LCg.lst ys) (.tail _ (.head _)))))
      ⟨_, _, oC, m', rfl, F.push _, fun p hp => News.push F N _ rfl p (by
        simp only [List.mem_cons] at hp ⊢
        rcases hp with h | h | h | h <;> simp [h]), hn, hkv⟩ hR
  refine wpAny_bind (wpAny_runOwn ?_)
  refine codeAny_compStartD he hg (hst _ ?_) fun E => ?_
  · intro zs s3 hc hz
    exact wpAny_pure ⟨rfl, zs, hc, hz⟩
  · refine wpAny_pyIter_listiter ⟨_, Heap.get?_push_size _ rfl, rfl, rfl⟩ (hst _ ?_)
    intro zs s3 hc hz
    exact wpAny_pure ⟨rfl, zs, hc, hz⟩

theorem comp_emit {elt : Expr} {cenv : Env} {n : Int} {own : List (Addr × Obj)} {kv : List (Str × Value)} {ys : List Value} {s' : Shared} {E' : Value → Shared → Prop} {c0 : Code}
    (offD : ∀ p ∈ own, p.1 ≠ D) (hCD : C ≠ D) (hsz : ys.length ≤ sizeLine)
    (hev : wpAny (model prog w) A (eval elt cenv) (fun v s'' => Stop ((∃ t, v = .int n t) ∧ CSt h₀ L m s C D own kv ys s'')) E' s') :
    wpAny (model prog w) A ((eval elt cenv >>= fun x => call (.builtin "list.append") [.ref D, x] >>= fun _ => pure ()) >>= fun _ => again c0)
      (fun fin s'' => fin = .again c0 ∧ ∃ zs, CSt h₀ L m s C D own kv (ys ++ zs) s'' ∧ IntsAre zs [n]) E' s' := by
  refine wpAny_bind (wpAny_bind (wpAny_mono hev (fun v s1 h1 => ?_) fun _ _ e => e))
  obtain ⟨⟨t, rfl⟩, h', tk, oC, m', rfl, F, N, hn, hkv⟩ := h1
  refine wpAny_bind (append_in (own := [(C, oC)]) (ys := ys) F N (fun p hp => by rw [List.mem_singleton.mp hp]; exact hCD) offD (fun h2 F2 N2 => ?_) hsz)
  refine wpAny_pure (wpAny_pure ⟨rfl, [.int n t], ⟨h2, tk, oC, m', rfl, F2, fun p hp => ?_, hn, hkv⟩, .cons n t .nil⟩)
  rw [show LCg.lst (ys ++ [Value.int n t]) = { cls := .type "list", data := .seq (ys ++ [Value.int n t]).toArray (ys.length + 1) } by simp [LCg.lst]] at hp
  exact N2 p hp

theorem ListComp_M {E : Value → Shared → Prop} {env : Env} {elt iter : Expr} {x : Str} {px : Pos} {rest : List Comprehension} {scope : Scope} {cl : List (Str × Addr)} {pos : Pos} {Q : Value → Shared → Prop} {ns : List Int}
    (hclos : closureFor scope env = pure cl) (hcell : ∀ y ∈ scope.names, y.2 ≠ .cell) (hkind : scope.kind = .function)
    (hnames : ∀ y ∈ scope.names, y.2 = .local → scope.names.lookup y.1 = some .local)
    (h : wpAny (model prog w) A (eval iter env) (fun xv s₁ => Stop (∃ ax its k news, xv = .ref ax ∧ Fr h₀ L s₁.heap m ∧ News h₀ L s₁.heap news ∧ (ax, listOf (List.toArray its) k) ∈ news ∧
      (∀ I C D oI s₂ (R : Result → Shared → Prop), LIat oI ax 0 → (∀ p ∈ news, p.1 ≠ I ∧ p.1 ≠ C ∧ p.1 ≠ D) → I ≠ C → I ≠ D → C ≠ D → CSt h₀ L m s₁ C D ((I, oI) :: news) [] [] s₂ →
        (∀ zs s', CSt h₀ L m s₁ C D news [] zs s' → IntsAre zs ns → R (.ok .next) s') → codeAny (model prog w) A (.compLoop (.ListComp elt (⟨.Name x px, iter, [], 0⟩ :: rest) scope pos) 0 (.ref I) (.ref D) (compEnvC scope cl C env)) R s₂) ∧
      (∀ D h tk zs, Fr h₀ L h m → News h₀ L h ((D, LCg.lst zs) :: news) → IntsAre zs ns → (∀ p ∈ news, p.1 < D) → Q (.ref D) { s₁ with heap := h, toks := tk }))) E s)
    (hs : ∀ x, foldedSetIterable iter env x = pure x := by intro _; rfl) :
    wpAny (model prog w) A (eval (.ListComp elt (⟨.Name x px, iter, [], 0⟩ :: rest) scope pos) env) Q E s := by
  rw [eval_ListComp]
  refine wpAny_comprehension_free (use := none) rfl hs hclos hkind hnames (wpAny_mono h (fun xv s₁ h₁ => ?_) fun _ _ e => e)
  obtain ⟨ax, its, k, news, rfl, F, N, hm, hloop, hQ⟩ := h₁
  have hl : s₁.heap.IsList ax its.toArray := ⟨_, (N _ hm).1, rfl, _, rfl⟩
  refine wpAny_pyIter_list hl ?_
  have lt : ∀ p ∈ news, p.1 < s₁.heap.objs.size := fun p hp => Heap.lt_size (N p hp).1
  have F1 : Fr h₀ L (s₁.heap.push { cls := .type "list_iterator", data := .fields #[.ref ax, .int 0 0] }) m := F.push _
  have N1 := News.push F N { cls := .type "list_iterator", data := .fields #[.ref ax, .int 0 0] } rfl
  refine wpAny_newObj_type (wpAny_newFunctionEnv hcell (by intro y hy; simp at hy) (fun h₁ hns₁ hsb₁ => ?_) hkind)
  dsimp only at hns₁ hsb₁ ⊢
  have F2 := Fr.push F1 (LCg.lst [])
  have N2 := News.push F1 N1 (LCg.lst []) rfl
  generalize hH2 : (s₁.heap.push { cls := .type "list_iterator", data := .fields #[.ref ax, .int 0 0] }).push (LCg.lst []) = H2 at F2 N2
  have hH2' : (s₁.heap.push { cls := .type "list_iterator", data := .fields #[.ref ax, .int 0 0] }).push { cls := .type "list", dict := none, data := .seq ([] : List Value).toArray } = H2 := hH2
  try rw [hH2'] at hns₁
  try rw [hH2'] at hsb₁
  have hsz1 : (s₁.heap.push { cls := .type "list_iterator", data := .fields #[.ref ax, .int 0 0] }).objs.size = s₁.heap.objs.size + 1 := by rw [Heap.size_push]
  have hsz2 : H2.objs.size = s₁.heap.objs.size + 2 := by rw [← hH2, Heap.size_push, Heap.size_push]
  rw [hsz1] at N2 ⊢
  have hC₀ : h₀.get? H2.objs.size = none := next_is_new F2
  have hCL : H2.objs.size ≠ L := Ne.symm (Nat.ne_of_lt F2.ns.lt)
  have up : ∀ b o, H2.get? b = some o → h₁.get? b = some o := fun b o e => hsb₁.extBut b o (Nat.ne_of_lt (Heap.lt_size e)) (Heap.get?_push_of_some _ e)
  obtain ⟨oC, eC, hoC⟩ := LCg.ns_obj hns₁
  have hst : ∀ R : Result → Shared → Prop, (∀ zs s', CSt h₀ L m s₁ H2.objs.size (s₁.heap.objs.size + 1) news [] zs s' → IntsAre zs ns → R (.ok .next) s') → codeAny (model prog w) A (.compLoop (.ListComp elt (⟨.Name x px, iter, [], 0⟩ :: rest) scope pos) 0 (.ref s₁.heap.objs.size) (.ref (s₁.heap.objs.size + 1)) (compEnvC scope cl H2.objs.size env)) R { s₁ with heap := h₁, toks := s₁.toks + ([] : List (Str × Value)).length } := fun R hR => by
    refine hloop s₁.heap.objs.size H2.objs.size (s₁.heap.objs.size + 1) { cls := .type "list_iterator", data := .fields #[.ref ax, .int 0 0] } _ R ⟨rfl, rfl⟩ (fun p hp => ?_) ?_ ?_ ?_ ⟨h₁, _, oC, _, rfl, F2.keeps up, fun p hp => ?_, hoC, fun q hq => nomatch hq⟩ hR
    · have : @LT.lt Nat _ p.1 s₁.heap.objs.size := lt p hp
      rw [hsz2]
      exact ⟨Nat.ne_of_lt this, (by omega : (@Ne Nat p.1 (s₁.heap.objs.size + 2))), (by omega : (@Ne Nat p.1 (s₁.heap.objs.size + 1)))⟩
    · rw [hsz2]; exact Nat.ne_of_lt (Nat.lt_add_of_pos_right (by decide))
    · exact Nat.ne_of_lt (Nat.lt_succ_self _)
    · rw [hsz2]; exact Ne.symm (Nat.ne_of_lt (Nat.lt_succ_self _))
    · rcases List.mem_cons.mp hp with rfl | hp
      · exact ⟨eC, hCL, hC₀⟩
      · exact ⟨up _ _ (N2 p hp).1, (N2 p hp).2⟩
  have fin : ∀ zs s', CSt h₀ L m s₁ H2.objs.size (s₁.heap.objs.size + 1) news [] zs s' → IntsAre zs ns → compPost (model prog w) A E none Q (.ref (s₁.heap.objs.size + 1)) H2.objs.size (.ok .next) s' := by
    rintro zs s' ⟨h', tk, oC', m', rfl, F', N', hn', _⟩ hz
    refine ⟨m', hn'.ns (N' _ (.head _)).1, fun h'' hs'' => hQ _ h'' tk zs (F'.change hs'' hCL hC₀) (fun p hp => ?_) hz fun p hp => Nat.lt_succ_of_lt (lt p hp)⟩
    refine ⟨hs''.extBut _ _ ?_ (N' p (.tail _ hp)).1, (N' p (.tail _ hp)).2⟩
    rcases List.mem_cons.mp hp with rfl | hp
    · rw [hsz2]; exact Nat.ne_of_lt (Nat.lt_succ_self _)
    · rw [hsz2]; have : @LT.lt Nat _ p.1 s₁.heap.objs.size := lt p hp; exact (by omega : (@Ne Nat p.1 (s₁.heap.objs.size + 2)))
  refine codeAny_compStart_list (hst _ fin) ?_
  refine wpAny_pyIter_listiter ⟨_, up _ _ (N2 (s₁.heap.objs.size, _) (.tail _ (.head _))).1, rfl, rfl⟩ (hst _ fin)

end
theorem compTurn_last {elt iter : Expr} {gens : List Comprehension} {scope : Scope} {pos px : Pos} {d : Nat} {x : Str} {it acc : Value} {env : Env} (hg : gens[d]? = some ⟨.Name x px, iter, [], 0⟩) (hn : gens[d + 1]? = none) :
    compTurn (.ListComp elt gens scope pos) d it acc env = (standAt iter.pos >>= fun _ => pyNext it >>= fun r => match r with
      | none => pure (.done .next)
      | some v => letOwnedTupleGo (.Name x px) it v >>= fun _ => assign (.Name x px) env v >>= fun _ => (eval elt env >>= fun x => call (.builtin "list.append") [acc, x] >>= fun _ => pure ()) >>= fun _ => again (.compLoop (.ListComp elt gens scope pos) d it acc env)) := by
  unfold compTurn
  simp only [hg, hn]
  rfl
theorem compTurn_next {elt iter iter' : Expr} {t' : Expr} {ifs' : List Expr} {gens : List Comprehension} {scope : Scope} {pos px : Pos} {d : Nat} {x : Str} {it acc : Value} {env : Env} (hg : gens[d]? = some ⟨.Name x px, iter, [], 0⟩) (hn : gens[d + 1]? = some ⟨t', iter', ifs', 0⟩) :
    compTurn (.ListComp elt gens scope pos) d it acc env = (standAt iter.pos >>= fun _ => pyNext it >>= fun r => match r with
      | none => pure (.done .next)
      | some v => letOwnedTupleGo (.Name x px) it v >>= fun _ => assign (.Name x px) env v >>= fun _ => (eval iter' env >>= fun x => standAt iter'.pos >>= fun _ => foldedSetIterable iter' env x >>= fun x => holding [x] (pyIter x) >>= fun it' => runOwn (.compStart (.ListComp elt gens scope pos) (d + 1) it' acc env) env >>= fun _ => again (.compLoop (.ListComp elt gens scope pos) d it acc env))) := by
  unfold compTurn
  simp only [hg, hn]
  rfl

end TextM1
section TextD1
set_option maxRecDepth 100000
open PySem PySem.W PySem.Calls PyProof.Rows
def dueStmt : Stmt := match lawFD.1 with
  | [_, _, _, _, _, _, z, _, _, _, _, _, _, _, _] => z
  | _ => .Pass default
theorem ints_map_at {vs : List Value} {ns : List Int} {β : Type} {g : Int → β} (h : IntsAre vs ns) : ∀ {i : Nat} {v : Value} {b : β}, vs[i]? = some v → (ns.map g)[i]? = some b → ∃ n t, v = .int n t ∧ ns[i]? = some n ∧ b = g n := by
  induction h with
  | nil => intro i v b h1; simp at h1
  | @cons n t vs ns _ ih =>
    intro i v b h1 h2
    cases i with
    | zero =>
      simp at h1 h2
      exact ⟨n, t, h1.symm, by simp, h2.symm⟩
    | succ i =>
      simp only [List.getElem?_cons_succ, List.map_cons] at h1 h2
      obtain ⟨n', t', e1, e2, e3⟩ := ih h1 h2
      exact ⟨n', t', e1, by simpa using e2, e3⟩
def dueG (f a b c : Int) : Int := f + (15 * a + 10 * b + 6 * c - f).fmod 30
def dueRaw (f : Int) (A B C : List Int) : List Int := (A.map fun a => (B.map fun b => (C.map fun c => [dueG f a b c]).flatten).flatten).flatten
theorem dueRaw_length (f : Int) (A B C : List Int) : (dueRaw f A B C).length = A.length * (B.length * C.length) := by
  have hc : ∀ {α : Type} (l : List α) (n : Nat), (l.map fun _ => n).sum = l.length * n := by
    intro α l n
    induction l with
    | nil => simp
    | cons x l ih => simp only [List.map_cons, List.sum_cons, List.length_cons, ih, Nat.succ_mul]; omega
  simp [dueRaw, List.length_flatten, Function.comp_def, List.map_map, hc]
theorem dueRaw_le {f : Int} {A B C : List Int} (h1 : A.length ≤ 2) (h2 : B.length ≤ 3) (h3 : C.length ≤ 5) : (dueRaw f A B C).length ≤ 30 := by
  rw [dueRaw_length]
  exact Nat.mul_le_mul h1 (Nat.mul_le_mul h2 h3)
local macro_rules | `(tactic| k_room) => `(tactic| ktr_room)
local macro_rules | `(tactic| k_mem) => `(tactic| first | exact List.mem_cons_self .. | ktr_member | (refine' List.mem_cons_of_mem _ ?_; k_mem))
local macro_rules | `(tactic| walk_at "eval Name") => `(tactic| (k_here; k_dflt (refine' nameX_L ?k1 ?k2 ?_; (case k1 => k_asm); (case k2 => assumption); k_whole)))
local macro_rules | `(tactic| walk_at "eval ListComp") => `(tactic| refine Hold.out ?_)
set_option maxHeartbeats 8000000 in
theorem dueC {w : World} {mean : ExcName → Option Value} {mg mb : Str → Option Value} {base : Heap} {L fa sp kp K1 K2 K3 : Addr} {cdv : Value} {M : Str → Option Value} {s : Shared} {Q : Flow → Shared → Prop} {E : Value → Shared → Prop} {kc k1 k2 k3 : Nat} {v1 v2 v3 : List Value} {A1 A2 A3 : List Int} {f : Int} {tf : Tok} {o1 o2 : Obj} {own : List (Addr × Obj)}
   (B : Below callerA base [] base) (X : (hd.heap_39 w.params).In base) (T : Top hd.view_39 (looseW hd.view_39 [Str.ofString "filterfalse"]) mean mg mb base)
   (F : Fr base L s.heap M) (N : News base L s.heap ((kp, listOf #[Value.ref K1, Value.ref K2, Value.ref K3] kc) :: (K1, listOf v1.toArray k1) :: (K2, listOf v2.toArray k2) :: (K3, listOf v3.toArray k3) :: (L + 2, o2) :: (L + 1, o1) :: own))
   (i1 : IntsAre v1 A1) (i2 : IntsAre v2 A2) (i3 : IntsAre v3 A3)
   (d1 : o1.data = .cell (some (.int f tf))) (d2 : o2.data = .cell (some (.ref kp))) (hl : A1.length ≤ 2 ∧ A2.length ≤ 3 ∧ A3.length ≤ 5)
   (hQ : ∀ D h' tk zs c ns, Fr base L h' (fun y => if y = Str.ofString "due" then some (.ref D) else M y) → News base L h' ((D, listOf (List.toArray zs) c) :: (kp, listOf #[Value.ref K1, Value.ref K2, Value.ref K3] kc) :: (K1, listOf v1.toArray k1) :: (K2, listOf v2.toArray k2) :: (K3, listOf v3.toArray k3) :: (L + 2, o2) :: (L + 1, o1) :: own) → IntsAre zs ns → ns.Perm (dueRaw f A1 A2 A3) → ns.Pairwise (· ≤ ·) → (∀ p ∈ own, p.1 < D) → Q .next { s with heap := h', toks := tk }) :
   wpAny (model PySem.Challenge.rw_ij0194_01.row.prog w) (callerA.deeper (lawEnv L fa cdv)) (exec dueStmt (lawEnv L fa cdv)) Q E s := by
  revert X
  k_fill
  intro X
  unfold lawEnv dueStmt lawFD PySem.Challenge.pw_ij0194_01
  dsimp only
  k_steps
  unfold Hold
  refine Mine.ListComp_M (ns := dueRaw f A1 A2 A3) (h₀ := base) (L := L) (m := M) (by with_unfolding_all rfl) (by decide) (by rfl) (by decide) ?_
  k_steps
  unfold Mine.Stop
  rename Fr _ _ _ _ => F1
  rename News _ _ _ _ => N1
  refine ⟨K1, v1, k1, _, rfl, F1, N1, .tail _ (.head _), ?_, ?_⟩
  · intro I1 C D oI1 s2 R hI1 off1 ne1 ne2 ne3 st0 hR
    refine Mine.comp_loop (kv := []) (bound := 1000) (gss := A1.map fun a => (A2.map fun b => (A3.map fun c => [dueG f a b c]).flatten).flatten) (by rfl) (by rfl) (Mine.compTurn_next (by rfl) (by rfl)) (by rfl) (by rfl) (by rfl) (.tail _ (.head _)) (fun q hq => nomatch hq) (by rw [List.length_map]; exact i1.length) (fun p hp => (off1 p hp).1) (fun p hp => (off1 p hp).2.1) ne1 ne2 ne3 ?_ ?_ hI1 st0 (fun zs s'' hc hz => hR zs s'' hc hz)
    · intro i v gs oJ1 ys s' E' hv hgs hb st1
      obtain ⟨a, ta, rfl, ea, rfl⟩ := ints_map_at i1 hv hgs
      have offC1 : ∀ p ∈ (I1, oJ1) :: (kp, listOf #[Value.ref K1, Value.ref K2, Value.ref K3] kc) :: (K1, listOf v1.toArray k1) :: (K2, listOf v2.toArray k2) :: (K3, listOf v3.toArray k3) :: (L + 2, o2) :: (L + 1, o1) :: own, p.1 ≠ C := fun p hp => by
        rcases List.mem_cons.mp hp with rfl | hp
        · exact ne1
        · exact (off1 p hp).2.1
      have offD1 : ∀ p ∈ (I1, oJ1) :: (kp, listOf #[Value.ref K1, Value.ref K2, Value.ref K3] kc) :: (K1, listOf v1.toArray k1) :: (K2, listOf v2.toArray k2) :: (K3, listOf v3.toArray k3) :: (L + 2, o2) :: (L + 1, o1) :: own, p.1 ≠ D := fun p hp => by
        rcases List.mem_cons.mp hp with rfl | hp
        · exact ne2
        · exact (off1 p hp).2.2
      refine Mine.comp_next (gs := (A2.map fun b => (A3.map fun c => [dueG f a b c]).flatten).flatten) (ax := K2) (its := v2) (k := k2) (by rfl) (by rfl) (by intro _; rfl) (.tail _ (.tail _ (.tail _ (.head _)))) ?_ ?_
      · obtain ⟨h', tk, oC, m', rfl, F2, N2, hn, hkv⟩ := st1
        k_steps
        unfold Mine.Stop
        rename Fr _ _ _ _ => F3
        rename News _ _ _ _ => N3
        exact ⟨rfl, _, _, oC, m', rfl, F3, N3, hn, hkv⟩
      · intro I2 oI2 s3 R2 hI2 off2 ne21 ne22 st2 hR2
        refine Mine.comp_loop (kv := [(Str.ofString "a", .int a ta)]) (bound := 1000) (gss := A2.map fun b => (A3.map fun c => [dueG f a b c]).flatten) (by rfl) (by rfl) (Mine.compTurn_next (by rfl) (by rfl)) (by rfl) (by rfl) (by rfl) (.tail _ (.tail _ (.tail _ (.head _)))) (fun q hq => ?_) (by rw [List.length_map]; exact i2.length) off2 offC1 ne21 ne22 ne3 ?_ ?_ hI2 st2 hR2
        · rw [List.mem_singleton.mp hq]; show Str.ofString "a" ≠ Str.ofString "b"; decide
        · intro i v gs oJ2 ys2 s4 E4 hv2 hgs2 hb2 st3
          obtain ⟨b, tb, rfl, eb, rfl⟩ := ints_map_at i2 hv2 hgs2
          refine Mine.comp_next (gs := (A3.map fun c => [dueG f a b c]).flatten) (ax := K3) (its := v3) (k := k3) (by rfl) (by rfl) (by intro _; rfl) (.tail _ (.tail _ (.tail _ (.tail _ (.tail _ (.head _)))))) ?_ ?_
          · obtain ⟨h', tk, oC, m', rfl, F2, N2, hn, hkv⟩ := st3
            k_steps
            unfold Mine.Stop
            rename Fr _ _ _ _ => F3
            rename News _ _ _ _ => N3
            exact ⟨rfl, _, _, oC, m', rfl, F3, N3, hn, hkv⟩
          · intro I3 oI3 s5 R3 hI3 off3 ne31 ne32 st4 hR3
            refine Mine.comp_loop (kv := [(Str.ofString "b", .int b tb), (Str.ofString "a", .int a ta)]) (bound := 1000) (gss := A3.map fun c => [dueG f a b c]) (by rfl) (by rfl) (Mine.compTurn_last (by rfl) (by rfl)) (by rfl) (by rfl) (by rfl) (.tail _ (.tail _ (.tail _ (.tail _ (.tail _ (.head _)))))) (fun q hq => ?_) (by rw [List.length_map]; exact i3.length) off3 ?_ ne31 ne32 ne3 ?_ ?_ hI3 st4 hR3
            · simp only [List.mem_cons, List.not_mem_nil, or_false] at hq
              rcases hq with h | h
              · rw [h]; show Str.ofString "b" ≠ Str.ofString "c"; decide
              · rw [h]; show Str.ofString "a" ≠ Str.ofString "c"; decide
            · intro p hp
              rcases List.mem_cons.mp hp with rfl | hp
              · exact ne21
              · exact offC1 p hp
            · intro i v gs oJ3 ys3 s6 E6 hv3 hgs3 hb3 st5
              obtain ⟨c, tc, rfl, ec, rfl⟩ := ints_map_at i3 hv3 hgs3
              refine Mine.comp_emit (n := dueG f a b c) (fun p hp => ?_) ne3 (by rw [sizeLine_eq]; omega) ?_
              · rcases List.mem_cons.mp hp with rfl | hp
                · exact ne32
                rcases List.mem_cons.mp hp with rfl | hp
                · exact ne22
                · exact offD1 p hp
              · obtain ⟨h', tk, oC, m', rfl, F2, N2, hn, hkv⟩ := st5
                have ka := hkv _ (.tail _ (.tail _ (.head _)))
                have kb := hkv _ (.tail _ (.head _))
                have kc := hkv _ (.head _)
                dsimp only at ka kb kc
                k_steps
                unfold Mine.Stop
                rename Fr _ _ _ _ => F3
                rename News _ _ _ _ => N3
                exact ⟨⟨_, rfl⟩, _, _, oC, m', rfl, F3, N3, hn, hkv⟩
            · exact hb2
        · exact hb
    · show 0 + (dueRaw f A1 A2 A3).length ≤ 1000
      have := dueRaw_le (f := f) hl.1 hl.2.1 hl.2.2
      omega
  · intro D1 h1 tk1 zs F2 N2 i2 l2
    k_steps
    have hraw := dueRaw_le (f := f) hl.1 hl.2.1 hl.2.2
    have hl9 : h1.IsList D1 zs.toArray := ⟨LCg.lst zs, (N2 (D1, LCg.lst zs) (.head _)).1, rfl, zs.length, rfl⟩
    refine' kso_sorted (vs := zs) (ns := dueRaw f A1 A2 A3) ?F2 ?N2 ?hl9 i2 (by omega) ?_
    case F2 => exact F2
    case N2 => exact N2
    case hl9 => exact hl9
    intro D2 vs2 ns2 c2 h2 F3 N3 l3 i3 le3 p3 q3 _
    k_steps
    rename Fr _ _ _ _ => F4
    rename News _ _ _ _ => N4
    exact hQ D2 _ _ vs2 c2 ns2 F4 (fun p hp => N4 p (by
      simp only [List.mem_cons] at hp ⊢
      rcases hp with h | h | h | h | h | h | h | h <;> simp [h])) i3 p3 q3 (fun p hp => l3 p (by simp [hp]))

end TextD1
section TextO1
set_option maxRecDepth 100000
open PySem PySem.W PySem.Calls PyProof.Rows
def onBody : List Stmt := match lawFD.1 with
  | [_, _, _, _, _, _, _, _, .For _ _ b _ _, _, _, _, _, _, _] => b
  | _ => []
def onTarget : Expr := match lawFD.1 with
  | [_, _, _, _, _, _, _, _, .For t _ _ _ _, _, _, _, _, _, _] => t
  | _ => .Name (Str.ofString "x") default
def backBody : List Stmt := match lawFD.1 with
  | [_, _, _, _, _, _, _, _, _, _, .For _ _ b _ _, _, _, _, _] => b
  | _ => []
def backTarget : Expr := match lawFD.1 with
  | [_, _, _, _, _, _, _, _, _, _, .For t _ _ _ _, _, _, _, _] => t
  | _ => .Name (Str.ofString "x") default
local macro_rules | `(tactic| k_room) => `(tactic| ktr_room)
local macro_rules | `(tactic| k_mem) => `(tactic| first | exact List.mem_cons_self .. | ktr_member | (refine' List.mem_cons_of_mem _ ?_; k_mem))
local macro_rules | `(tactic| walk_at "call ref") => `(tactic| (k_here; (with_reducible show wpAny _ _ (call (Value.ref _) _) _ _ _); refine Hold.out ?_))
local macro_rules | `(tactic| walk_at "eval Name") => `(tactic| (k_here; k_dflt (refine' nameX_L ?k1 ?k2 ?_; (case k1 => k_asm); (case k2 => first | assumption | ((try simp only []); rw [if_neg (by decide)]; assumption)); k_whole)))
-- one turn of a loop whose body hands the variable y and the spoke to _filter
abbrev FiltTurn (w : World) (base : Heap) (L fa : Addr) (cdv : Value) (target : Expr) (body : List Stmt) (y : Str) : Prop :=
  ∀ (s : Shared) (M : Str → Option Value) (cur q : Addr) (acc sacc : Array Value) (c sk : Nat) (cs zs : List Int) (news : List (Addr × Obj)) (Q : Flow → Shared → Prop) (E : Value → Shared → Prop),
    Fr base L s.heap M → News base L s.heap ((cur, listOf acc c) :: news) → IntsAre acc.toList cs → (q, listOf sacc sk) ∈ news → IntsAre sacc.toList zs → M y = some (.ref cur) → cs.length ≤ 1000 →
    (∀ D h' tk acc' c', Fr base L h' (fun z => if z = y then some (.ref D) else if z = Str.ofString "spoke" then some (.ref q) else M z) → News base L h' ((D, listOf acc' c') :: (cur, listOf acc c) :: news) → IntsAre acc'.toList (keptL zs cs) → (∀ p ∈ (cur, listOf acc c) :: news, p.1 < D) → Q .next { s with heap := h', toks := tk }) →
    wpAny (model PySem.Challenge.rw_ij0194_01.row.prog w) (callerA.deeper (lawEnv L fa cdv)) (assign target (lawEnv L fa cdv) (.ref q)) (fun _ s₂ => wpAny (model PySem.Challenge.rw_ij0194_01.row.prog w) (callerA.deeper (lawEnv L fa cdv)) (execs body (lawEnv L fa cdv)) Q E s₂) E s
set_option maxHeartbeats 8000000 in
theorem onTurn {w : World} {mean : ExcName → Option Value} {mg mb : Str → Option Value} {base : Heap} {L fa : Addr} {cdv : Value}
   (B : Below callerA base [] base) (X : (hd.heap_39 w.params).In base) (T : Top hd.view_39 (looseW hd.view_39 [Str.ofString "filterfalse"]) mean mg mb base) : FiltTurn w base L fa cdv onTarget onBody (Str.ofString "onward") := by
  intro s M cur q acc sacc c sk cs zs news Q E F N hi mq hz hM hlen hQ
  revert X
  k_fill
  intro X
  unfold lawEnv onTarget onBody lawFD PySem.Challenge.pw_ij0194_01
  dsimp only
  k_steps
  unfold Hold
  rename Fr _ _ _ _ => F5
  rename News _ _ _ _ => N5
  refine filtC _ _ _ _ _ _ _ _ callerA base base L _ _ _ _ cur q sacc sk cs zs _ B F5 X N5 (.list (.head _) hi) (.tail _ mq) hz T rfl (by decide +kernel) (by decide +kernel) hlen ?_
  intro D5 h5 tk5 acc5 c5 F6 N6 i6 lt6
  k_steps
  rename Fr _ _ _ _ => F7
  rename News _ _ _ _ => N7
  exact hQ D5 _ _ acc5 c5 F7 N7 i6 lt6
set_option maxHeartbeats 8000000 in
theorem backTurn {w : World} {mean : ExcName → Option Value} {mg mb : Str → Option Value} {base : Heap} {L fa : Addr} {cdv : Value}
   (B : Below callerA base [] base) (X : (hd.heap_39 w.params).In base) (T : Top hd.view_39 (looseW hd.view_39 [Str.ofString "filterfalse"]) mean mg mb base) : FiltTurn w base L fa cdv backTarget backBody (Str.ofString "backward") := by
  intro s M cur q acc sacc c sk cs zs news Q E F N hi mq hz hM hlen hQ
  revert X
  k_fill
  intro X
  unfold lawEnv backTarget backBody lawFD PySem.Challenge.pw_ij0194_01
  dsimp only
  k_steps
  unfold Hold
  rename Fr _ _ _ _ => F5
  rename News _ _ _ _ => N5
  refine filtC _ _ _ _ _ _ _ _ callerA base base L _ _ _ _ cur q sacc sk cs zs _ B F5 X N5 (.list (.head _) hi) (.tail _ mq) hz T rfl (by decide +kernel) (by decide +kernel) hlen ?_
  intro D5 h5 tk5 acc5 c5 F6 N6 i6 lt6
  k_steps
  rename Fr _ _ _ _ => F7
  rename News _ _ _ _ => N7
  exact hQ D5 _ _ acc5 c5 F7 N7 i6 lt6

theorem keptL_le (zs cs : List Int) : (keptL zs cs).length ≤ cs.length := List.length_filter_le _ _
-- the loop over the spokes, from a list of references to lists on
theorem filt_rest {w : World} {base : Heap} {L fa : Addr} {cdv : Value} {target : Expr} {body : List Stmt} {y : Str} (hy : y ≠ Str.ofString "spoke") (H : FiltTurn w base L fa cdv target body y) {s : Shared} {Q : Flow → Shared → Prop} {E : Value → Shared → Prop} {I ax : Addr} {lo : Obj} {own : List (Addr × Obj)} (hax : (ax, lo) ∈ own) (hown : ∀ p ∈ own, (@LT.lt Nat _ p.1 I)) :
    ∀ (vs : List Value) (nss : List (List Int)) (M : Str → Option Value) (cur : Addr) (acc : Array Value) (c : Nat) (cs : List Int), Mine.Lists own vs nss → M y = some (.ref cur) → IntsAre acc.toList cs → cs.length ≤ 1000 → (@Ne Nat cur I) →
      (∀ h tk M' cur' acc' c', (∀ z, z ≠ y → z ≠ Str.ofString "spoke" → M' z = M z) → M' y = some (.ref cur') → Fr base L h M' → News base L h ((cur', listOf acc' c') :: own) → IntsAre acc'.toList (nss.foldl (fun cs zs => keptL zs cs) cs) → Q .next { s with heap := h, toks := tk }) →
      ItemsRest (PySem.Challenge.rw_ij0194_01.row.prog) w (callerA.deeper (lawEnv L fa cdv)) E base (lawEnv L fa cdv) target body Q s [(I, "list_iterator")] [(ax, lo)] (vs.map .val) M ((cur, listOf acc c) :: own) := by
  intro vs
  induction vs with
  | nil =>
    intro nss M cur acc c cs hl hM hi hlen hne hQ
    cases hl
    exact ItemsRest.zero fun h tk F N => hQ h tk M cur acc c (fun _ _ _ => rfl) hM F N hi
  | cons v vs ih =>
    intro nss M cur acc c cs hl hM hi hlen hne hQ
    cases hl with
    | @cons q sacc sk zs _ nss hm hz hl =>
    refine ItemsRest.val fun h tk F => AllObj.cons fun p1 q1 => AllObj.nil fun N => ?_
    have N2 : News base L h ((cur, listOf acc c) :: (I, p1) :: own) := fun p hp => N p (by
      simp only [List.mem_cons, List.mem_append, List.not_mem_nil, or_false] at hp ⊢
      rcases hp with h | h | h <;> simp [h])
    refine' H _ M cur q acc sacc c sk cs zs ((I, p1) :: own) _ E ?F ?N hi (.tail _ hm) hz hM hlen ?_
    case F => exact F
    case N => exact N2
    intro D h' tk' acc' c' F3 N3 i3 l3
    have lI : (@LT.lt Nat _ I D) := l3 (I, p1) (.tail _ (.head _))
    refine ⟨h', tk', _, (D, listOf acc' c') :: own, rfl, F3, fun p hp => N3 p ?_, fun p hp p' hp' => ?_, ⟨.tail _ hax, trivial⟩, ih nss _ D acc' c' (keptL zs cs) hl (if_pos rfl) i3 (Nat.le_trans (keptL_le _ _) hlen) (Ne.symm (Nat.ne_of_lt lI)) fun h tk M' cur' acc' c' e1 e2 F4 N4 i4 => hQ h tk M' cur' acc' c' (fun z h1 h2 => (e1 z h1 h2).trans ?_) e2 F4 N4 i4⟩
    · simp only [List.mem_cons, List.mem_append, List.not_mem_nil, or_false] at hp ⊢
      rcases hp with h | h | h <;> simp [h]
    · rw [List.mem_singleton.mp hp']
      rcases List.mem_cons.mp hp with rfl | hp
      · exact Ne.symm (Nat.ne_of_lt lI)
      · exact Nat.ne_of_lt (hown p hp)
    · show (if z = y then some (Value.ref D) else if z = Str.ofString "spoke" then some (Value.ref q) else M z) = M z
      rw [if_neg h1, if_neg h2]

end TextO1
section TextO2
set_option maxRecDepth 100000
open PySem PySem.W PySem.Calls PyProof.Rows
def onFor : Stmt := match lawFD.1 with
  | [_, _, _, _, _, _, _, _, z, _, _, _, _, _, _] => z
  | _ => .Pass default
def backFor : Stmt := match lawFD.1 with
  | [_, _, _, _, _, _, _, _, _, _, z, _, _, _, _] => z
  | _ => .Pass default
local macro_rules | `(tactic| k_room) => `(tactic| ktr_room)
local macro_rules | `(tactic| k_mem) => `(tactic| first | exact List.mem_cons_self .. | ktr_member | assumption | (refine' List.mem_cons_of_mem _ ?_; k_mem))
local macro_rules | `(tactic| walk_at "eval Name") => `(tactic| (k_here; k_dflt (refine' nameX_L ?k1 ?k2 ?_; (case k1 => k_asm); (case k2 => first | assumption | ((try simp only []); rw [if_neg (by decide)]; assumption)); k_whole)))
local macro_rules | `(tactic| walk_at "subscriptTail Name Slice ref ref") => `(tactic| (k_here; (with_reducible show wpAny _ _ (subscriptTail _ (PySem.Expr.Slice none none (some _) _) (Value.ref _) (Value.ref _)) _ _ _); k_dflt (refine' krv_lit ?F ?N ?l ?k ?e ?_ ?s ?t ?z; (case F => k_asm); (case N => k_asm); (case l => assumption); (case k => exact IsPart.int _ _); (case e => exact rfl); (case s => with_unfolding_all rfl); (case t => kmk_pure); (case z => assumption)); intro D' h' F' N' l1; (try k_sweep)))
set_option maxHeartbeats 8000000 in
theorem onForC {w : World} {mean : ExcName → Option Value} {mg mb : Str → Option Value} {base : Heap} {L fa sp cur : Addr} {cdv : Value} {M : Str → Option Value} {s : Shared} {Q : Flow → Shared → Prop} {E : Value → Shared → Prop} {xs : List Value} {sc : Nat} {nss : List (List Int)} {acc : Array Value} {c : Nat} {cs : List Int} {own : List (Addr × Obj)}
   (B : Below callerA base [] base) (X : (hd.heap_39 w.params).In base) (T : Top hd.view_39 (looseW hd.view_39 [Str.ofString "filterfalse"]) mean mg mb base)
   (F : Fr base L s.heap M) (N : News base L s.heap ((cur, listOf acc c) :: own)) (hsp : M (Str.ofString "spokes") = some (.ref sp)) (hon : M (Str.ofString "onward") = some (.ref cur)) (msp : (sp, listOf xs.toArray sc) ∈ own)
   (hl : Mine.Lists own xs nss) (hi : IntsAre acc.toList cs) (hlen : cs.length ≤ 1000)
   (hE : PassesOwn (model PySem.Challenge.rw_ij0194_01.row.prog w) (callerA.deeper (lawEnv L fa cdv)) (lawEnv L fa cdv) E)
   (hQ : ∀ h tk M' cur' acc' c', (∀ z, z ≠ Str.ofString "onward" → z ≠ Str.ofString "spoke" → M' z = M z) → M' (Str.ofString "onward") = some (.ref cur') → Fr base L h M' → News base L h ((cur', listOf acc' c') :: own) → IntsAre acc'.toList (nss.foldl (fun cs zs => keptL zs cs) cs) → Q .next { s with heap := h, toks := tk }) :
   wpAny (model PySem.Challenge.rw_ij0194_01.row.prog w) (callerA.deeper (lawEnv L fa cdv)) (exec onFor (lawEnv L fa cdv)) Q E s := by
  unfold lawEnv onFor lawFD PySem.Challenge.pw_ij0194_01
  dsimp only
  refine For_turns F ?_ (hE := hE)
  refine nameX_L F hsp ?_
  refine iter_listTurns (lo := listOf xs.toArray sc) (n := sc) (vs := xs) (by rfl) F N (.tail _ msp) rfl rfl ?_
  intro I hI
  refine filt_rest (target := onTarget) (body := onBody) (y := Str.ofString "onward") (by decide) (onTurn B X T) msp (fun p hp => hI p (.tail _ hp)) xs nss M cur acc c cs hl hon hi hlen (Nat.ne_of_lt (hI _ (.head _))) ?_
  intro h tk M' cur' acc' c' e1 e2 F1 N1 i1
  exact hQ h tk M' cur' acc' c' e1 e2 F1 N1 i1
set_option maxHeartbeats 8000000 in
theorem backForC {w : World} {mean : ExcName → Option Value} {mg mb : Str → Option Value} {base : Heap} {L fa sp cur : Addr} {cdv : Value} {M : Str → Option Value} {s : Shared} {Q : Flow → Shared → Prop} {E : Value → Shared → Prop} {xs : List Value} {sc : Nat} {nss : List (List Int)} {acc : Array Value} {c : Nat} {cs : List Int} {own : List (Addr × Obj)}
   (B : Below callerA base [] base) (X : (hd.heap_39 w.params).In base) (T : Top hd.view_39 (looseW hd.view_39 [Str.ofString "filterfalse"]) mean mg mb base)
   (F : Fr base L s.heap M) (N : News base L s.heap ((cur, listOf acc c) :: own)) (hsp : M (Str.ofString "spokes") = some (.ref sp)) (hon : M (Str.ofString "backward") = some (.ref cur)) (msp : (sp, listOf xs.toArray sc) ∈ own)
   (hl : Mine.Lists own xs nss) (hi : IntsAre acc.toList cs) (hlen : cs.length ≤ 1000) (hxs : xs.toArray.size ≤ sizeLine)
   (hE : PassesOwn (model PySem.Challenge.rw_ij0194_01.row.prog w) (callerA.deeper (lawEnv L fa cdv)) (lawEnv L fa cdv) E)
   (hQ : ∀ h tk M' cur' acc' c', (∀ z, z ≠ Str.ofString "backward" → z ≠ Str.ofString "spoke" → M' z = M z) → M' (Str.ofString "backward") = some (.ref cur') → Fr base L h M' → News base L h ((cur', listOf acc' c') :: own) → IntsAre acc'.toList (nss.reverse.foldl (fun cs zs => keptL zs cs) cs) → Q .next { s with heap := h, toks := tk }) :
   wpAny (model PySem.Challenge.rw_ij0194_01.row.prog w) (callerA.deeper (lawEnv L fa cdv)) (exec backFor (lawEnv L fa cdv)) Q E s := by
  unfold lawEnv backFor lawFD PySem.Challenge.pw_ij0194_01
  dsimp only
  have hls : s.heap.IsList sp xs.toArray := ⟨_, (N _ (.tail _ msp)).1, rfl, _, rfl⟩
  refine For_turns F ?_ (hE := hE)
  k_steps
  rename Fr _ _ _ _ => F5
  rename News _ _ _ _ => N5
  rename Addr => D5
  have N6 : News base L _ ((cur, listOf acc c) :: (D5, listOf xs.reverse.toArray 0) :: own) := fun p hp => N5 p (by
    simp only [List.mem_cons] at hp ⊢
    rcases hp with h | h | h <;> simp [h])
  refine' iter_listTurns (lo := listOf xs.reverse.toArray 0) (n := 0) (vs := xs.reverse) (by rfl) ?F ?N (.tail _ (.head _)) rfl rfl ?_
  case F => exact F5
  case N => exact N6
  intro I hI
  refine filt_rest (target := backTarget) (body := backBody) (y := Str.ofString "backward") (by decide) (backTurn B X T) (.head _) (fun p hp => hI p (.tail _ hp)) xs.reverse nss.reverse M cur acc c cs (hl.rev.mono fun p hp => .tail _ hp) hon hi hlen (Nat.ne_of_lt (hI _ (.head _))) ?_
  intro h tk M' cur' acc' c' e1 e2 F1 N1 i1
  exact hQ h tk M' cur' acc' c' e1 e2 F1 (fun p hp => N1 p (by
    simp only [List.mem_cons] at hp ⊢
    rcases hp with h | h <;> simp [h])) i1

end TextO2
section TextE1
set_option maxRecDepth 100000
open PySem PySem.W PySem.Calls PyProof.Rows
def goneStmt : Stmt := match lawFD.1 with
  | [_, _, _, _, _, _, _, _, _, _, _, _, z, _, _] => z
  | _ => .Pass default
theorem lists_at {news : List (Addr × Obj)} {vs : List Value} {nss : List (List Int)} (h : Mine.Lists news vs nss) : ∀ {i : Nat} {v : Value} {gs : List Int}, vs[i]? = some v → nss[i]? = some gs → ∃ q acc c, v = .ref q ∧ (q, listOf acc c) ∈ news ∧ IntsAre acc.toList gs := by
  induction h with
  | nil => intro i v gs h1; simp at h1
  | @cons a acc c ns vs nss hm hi _ ih =>
    intro i v gs h1 h2
    cases i with
    | zero =>
      simp at h1 h2
      exact ⟨a, acc, c, h1.symm, hm, h2 ▸ hi⟩
    | succ i =>
      simp only [List.getElem?_cons_succ] at h1 h2
      exact ih h1 h2
theorem single_flatten (l : List Int) : (l.map fun n => [n]).flatten = l := by
  induction l with
  | nil => rfl
  | cons x l ih => simp only [List.map_cons, List.flatten_cons, ih]; rfl
theorem ints_map_at' {vs : List Value} {ns : List Int} {β : Type} {g : Int → β} (h : IntsAre vs ns) : ∀ {i : Nat} {v : Value} {b : β}, vs[i]? = some v → (ns.map g)[i]? = some b → ∃ n t, v = .int n t ∧ ns[i]? = some n ∧ b = g n := by
  induction h with
  | nil => intro i v b h1; simp at h1
  | @cons n t vs ns _ ih =>
    intro i v b h1 h2
    cases i with
    | zero =>
      simp at h1 h2
      exact ⟨n, t, h1.symm, by simp, h2.symm⟩
    | succ i =>
      simp only [List.getElem?_cons_succ, List.map_cons] at h1 h2
      obtain ⟨n', t', e1, e2, e3⟩ := ih h1 h2
      exact ⟨n', t', e1, by simpa using e2, e3⟩
theorem store_cell' {M : Model} {A : Around} {E : Value → Shared → Prop} {s : Shared} {h₀ : Heap} {m : Str → Option Value} {cn : Str} {cs : Scope} {L a c : Addr} {ccd : Value} {cl : List (Str × Addr)} {x : Str} {o : Obj} {v₀ : Option Value} {v : Value} {rest : List (Addr × Obj)} {Q : Unit → Shared → Prop} (F : Fr h₀ L s.heap m) (N : News h₀ L s.heap ((c, o) :: rest)) (off : ∀ p ∈ rest, (@Ne Nat p.1 c)) (hc : cl.lookup x = some c) (hd : o.data = .cell v₀)
    (h : ∀ h' o', Fr h₀ L h' m → News h₀ L h' ((c, o') :: rest) → o'.data = .cell (some v) → Q () { s with heap := h' })
    (hk : cs.kind = .function := by rfl) (hx : (envX cn cs L a ccd cl).kindOf x = some .cell := by rfl) : wpAny M A (storeName (envX cn cs L a ccd cl) x v) Q E s :=
  storeX_C F N hc (.head off) hd h hk hx
local macro_rules | `(tactic| k_room) => `(tactic| ktr_room)
local macro_rules | `(tactic| k_mem) => `(tactic| first | exact List.mem_cons_self .. | ktr_member | (refine' List.mem_cons_of_mem _ ?_; k_mem))
local macro_rules | `(tactic| walk_at "eval Name") => `(tactic| (k_here; k_dflt (refine' nameX_L ?k1 ?k2 ?_; (case k1 => k_asm); (case k2 => assumption); k_whole)))
local macro_rules | `(tactic| walk_at "eval ListComp") => `(tactic| refine Hold.out ?_)
local macro_rules | `(tactic| walk_at "storeName") => `(tactic| refine Hold.out ?_)
set_option maxHeartbeats 8000000 in
theorem goneC {w : World} {mean : ExcName → Option Value} {mg mb : Str → Option Value} {base : Heap} {L fa sp : Addr} {cdv : Value} {M : Str → Option Value} {s : Shared} {Q : Flow → Shared → Prop} {E : Value → Shared → Prop} {xs : List Value} {sc : Nat} {nss : List (List Int)} {o5 : Obj} {v5 : Option Value} {own : List (Addr × Obj)}
   (B : Below callerA base [] base) (X : (hd.heap_39 w.params).In base) (T : Top hd.view_39 (looseW hd.view_39 [Str.ofString "filterfalse"]) mean mg mb base)
   (F : Fr base L s.heap M) (N : News base L s.heap ((L + 5, o5) :: (sp, listOf xs.toArray sc) :: own)) (d5 : o5.data = .cell v5) (hsp : M (Str.ofString "spokes") = some (.ref sp))
   (hl : Mine.Lists own xs nss) (hsz : nss.flatten.length ≤ 1000) (hoff : ∀ p ∈ (sp, listOf xs.toArray sc) :: own, (@Ne Nat p.1 (L + 5)))
   (hQ : ∀ h tk D zs c o5', Fr base L h M → News base L h ((D, listOf (List.toArray zs) c) :: (L + 5, o5') :: (sp, listOf xs.toArray sc) :: own) → o5'.data = .cell (some (.ref D)) → IntsAre zs nss.flatten → (∀ p ∈ own, p.1 < D) → Q .next { s with heap := h, toks := tk }) :
   wpAny (model PySem.Challenge.rw_ij0194_01.row.prog w) (callerA.deeper (lawEnv L fa cdv)) (exec goneStmt (lawEnv L fa cdv)) Q E s := by
  unfold lawEnv goneStmt lawFD PySem.Challenge.pw_ij0194_01
  dsimp only
  k_steps
  unfold Hold
  refine Mine.ListComp_M (ns := nss.flatten) (h₀ := base) (L := L) (m := M) (by with_unfolding_all rfl) (by decide) (by rfl) (by decide) ?_
  k_steps
  unfold Mine.Stop
  rename Fr _ _ _ _ => F1
  rename News _ _ _ _ => N1
  refine ⟨sp, xs, sc, _, rfl, F1, N1, .tail _ (.head _), ?_, ?_⟩
  · intro I1 C D oI1 s2 R hI1 off1 ne1 ne2 ne3 st0 hR
    refine Mine.comp_loop (kv := []) (bound := 1000) (gss := nss) (by rfl) (by rfl) (Mine.compTurn_next (by rfl) (by rfl)) (by rfl) (by rfl) (by rfl) (.tail _ (.head _)) (fun q hq => nomatch hq) hl.length (fun p hp => (off1 p hp).1) (fun p hp => (off1 p hp).2.1) ne1 ne2 ne3 ?_ ?_ hI1 st0 (fun zs s'' hc hz => hR zs s'' hc hz)
    · intro i v gs oJ1 ys s' E' hv hgs hb st1
      obtain ⟨q, acc, c, rfl, hm, hi⟩ := lists_at hl hv hgs
      have offC1 : ∀ p ∈ (I1, oJ1) :: (L + 5, o5) :: (sp, listOf xs.toArray sc) :: own, p.1 ≠ C := fun p hp => by
        rcases List.mem_cons.mp hp with rfl | hp
        · exact ne1
        · exact (off1 p hp).2.1
      have offD1 : ∀ p ∈ (I1, oJ1) :: (L + 5, o5) :: (sp, listOf xs.toArray sc) :: own, p.1 ≠ D := fun p hp => by
        rcases List.mem_cons.mp hp with rfl | hp
        · exact ne2
        · exact (off1 p hp).2.2
      have hm' : (q, listOf acc.toList.toArray c) ∈ (I1, oJ1) :: (L + 5, o5) :: (sp, listOf xs.toArray sc) :: own := by
        rw [Array.toArray_toList]
        exact .tail _ (.tail _ (.tail _ hm))
      refine Mine.comp_next (gs := gs) (ax := q) (its := acc.toList) (k := c) (by rfl) (by rfl) (by intro _; rfl) hm' ?_ ?_
      · obtain ⟨h', tk, oC, m', rfl, F2, N2, hn, hkv⟩ := st1
        have ka := hkv _ (.head _)
        dsimp only at ka
        k_steps
        unfold Mine.Stop
        rename Fr _ _ _ _ => F3
        rename News _ _ _ _ => N3
        exact ⟨rfl, _, _, oC, m', rfl, F3, N3, hn, hkv⟩
      · intro I2 oI2 s3 R2 hI2 off2 ne21 ne22 st2 hR2
        refine Mine.comp_loop (kv := [(Str.ofString "spoke", .ref q)]) (bound := 1000) (gss := gs.map fun n => [n]) (by rfl) (by rfl) (Mine.compTurn_last (by rfl) (by rfl)) (by rfl) (by rfl) (by rfl) hm' (fun q hq => ?_) (by rw [List.length_map]; exact hi.length) off2 offC1 ne21 ne22 ne3 ?_ ?_ hI2 st2 (fun zs s'' hc hz => hR2 zs s'' hc (by rw [single_flatten] at hz; exact hz))
        · rw [List.mem_singleton.mp hq]; show Str.ofString "spoke" ≠ Str.ofString "n"; decide
        · intro i v gs2 oJ2 ys2 s4 E4 hv2 hgs2 hb2 st3
          obtain ⟨n, tn, rfl, en, rfl⟩ := ints_map_at' hi hv2 hgs2
          refine Mine.comp_emit (n := n) (fun p hp => ?_) ne3 (by rw [sizeLine_eq]; omega) ?_
          · rcases List.mem_cons.mp hp with rfl | hp
            · exact ne22
            · exact offD1 p hp
          · obtain ⟨h', tk, oC, m', rfl, F2, N2, hn, hkv⟩ := st3
            have ka := hkv _ (.head _)
            dsimp only at ka
            k_steps
            unfold Mine.Stop
            rename Fr _ _ _ _ => F3
            rename News _ _ _ _ => N3
            exact ⟨⟨_, rfl⟩, _, _, oC, m', rfl, F3, N3, hn, hkv⟩
        · rw [single_flatten]; exact hb
    · show 0 + nss.flatten.length ≤ 1000
      omega
  · intro D1 h1 tk1 zs F2 N2 i2 l2
    k_steps
    unfold Hold
    have N3 : News base L h1 ((L + 5, o5) :: (D1, LCg.lst zs) :: (sp, listOf xs.toArray sc) :: own) := fun p hp => N2 p (by
      simp only [List.mem_cons] at hp ⊢
      rcases hp with h | h | h | h <;> simp [h])
    refine store_cell' (c := L + 5) F2 N3 ?_ (by rfl) d5 ?_
    · intro p hp
      rcases List.mem_cons.mp hp with rfl | hp
      · exact Ne.symm (Nat.ne_of_lt (l2 (L + 5, o5) (.head _)))
      · exact hoff p hp
    intro h3 o5' F4 N4 d5'
    k_steps
    refine hQ _ _ D1 zs zs.length o5' F4 (fun p hp => N4 p ?_) d5' i2 fun p hp => l2 p (.tail _ (.tail _ hp))
    simp only [List.mem_cons] at hp ⊢
    rcases hp with h | h | h | h <;> simp [h]

end TextE1
section TextR1
set_option maxRecDepth 100000
open PySem PySem.W PySem.Calls PyProof.Rows
def if11 : Stmt := match lawFD.1 with
  | [_, _, _, _, _, _, _, _, _, _, _, z, _, _, _] => z
  | _ => .Pass default
def if13 : Stmt := match lawFD.1 with
  | [_, _, _, _, _, _, _, _, _, _, _, _, _, z, _] => z
  | _ => .Pass default
def ret14 : Stmt := match lawFD.1 with
  | [_, _, _, _, _, _, _, _, _, _, _, _, _, _, z] => z
  | _ => .Pass default
local macro_rules | `(tactic| k_room) => `(tactic| ktr_room)
local macro_rules | `(tactic| k_mem) => `(tactic| first | exact List.mem_cons_self .. | ktr_member | assumption | (refine' List.mem_cons_of_mem _ ?_; k_mem))
local macro_rules | `(tactic| walk_at "eval Name") => `(tactic| (k_here; k_dflt (refine' nameX_L ?k1 ?k2 ?_; (case k1 => k_asm); (case k2 => assumption); k_whole)))
set_option maxHeartbeats 8000000 in
theorem if11C {w : World} {mean : ExcName → Option Value} {mg mb : Str → Option Value} {base : Heap} {L fa d1 d2 d3 : Addr} {cdv : Value} {M : Str → Option Value} {s : Shared} {Q : Flow → Shared → Prop} {E : Value → Shared → Prop} {x1 x2 x3 : Array Value} {c1 c2 c3 : Nat} {ds : List Int} {own : List (Addr × Obj)}
   (B : Below callerA base [] base) (X : (hd.heap_39 w.params).In base) (T : Top hd.view_39 (looseW hd.view_39 [Str.ofString "filterfalse"]) mean mg mb base)
   (F : Fr base L s.heap M) (N : News base L s.heap ((d1, listOf x1 c1) :: (d2, listOf x2 c2) :: (d3, listOf x3 c3) :: own)) (i1 : IntsAre x1.toList ds) (i2 : IntsAre x2.toList ds) (i3 : IntsAre x3.toList ds) (hlen : ds.length ≤ 1000)
   (m1 : M (Str.ofString "onward") = some (.ref d1)) (m2 : M (Str.ofString "backward") = some (.ref d2)) (m3 : M (Str.ofString "due") = some (.ref d3))
   (hQ : ∀ h tk, Fr base L h M → News base L h ((d1, listOf x1 c1) :: (d2, listOf x2 c2) :: (d3, listOf x3 c3) :: own) → Q .next { s with heap := h, toks := tk }) :
   wpAny (model PySem.Challenge.rw_ij0194_01.row.prog w) (callerA.deeper (lawEnv L fa cdv)) (exec if11 (lawEnv L fa cdv)) Q E s := by
  unfold lawEnv if11 lawFD PySem.Challenge.pw_ij0194_01
  dsimp only
  k_steps
  exact hQ s.heap s.toks F N
local macro_rules | `(tactic| walk_at "call ref") => `(tactic| (k_here; (with_reducible show wpAny _ _ (call (Value.ref _) _) _ _ _); refine Hold.out ?_))
set_option maxHeartbeats 8000000 in
theorem if13C {w : World} {mean : ExcName → Option Value} {mg mb : Str → Option Value} {base : Heap} {L fa r d g : Addr} {cdv : Value} {M : Str → Option Value} {s : Shared} {Q : Flow → Shared → Prop} {E : Value → Shared → Prop} {rv dv gv : List Value} {rc dc gc : Nat} {rs ds gs : List Int} {o5 : Obj} {own : List (Addr × Obj)}
   (B : Below callerA base [] base) (X : (hd.heap_39 w.params).In base) (T : Top hd.view_39 (looseW hd.view_39 [Str.ofString "filterfalse"]) mean mg mb base)
   (F : Fr base L s.heap M) (N : News base L s.heap ((r, listOf rv.toArray rc) :: (d, listOf dv.toArray dc) :: (g, listOf gv.toArray gc) :: (L + 5, o5) :: own)) (hr : IntsAre rv rs) (hdd : IntsAre dv ds) (hg : IntsAre gv gs) (hlr : rs.length ≤ 100) (hld : ds.length ≤ 100) (hlg : gs.length ≤ 1000)
   (m1 : M (Str.ofString "row") = some (.ref r)) (m3 : M (Str.ofString "due") = some (.ref d)) (d5 : o5.data = .cell (some (.ref g)))
   (heq : keptL gs (rs ++ rs.reverse) = ds ++ ds.reverse)
   (hQ : ∀ h tk, Fr base L h M → News base L h ((r, listOf rv.toArray rc) :: (d, listOf dv.toArray dc) :: (g, listOf gv.toArray gc) :: (L + 5, o5) :: own) → Q .next { s with heap := h, toks := tk }) :
   wpAny (model PySem.Challenge.rw_ij0194_01.row.prog w) (callerA.deeper (lawEnv L fa cdv)) (exec if13 (lawEnv L fa cdv)) Q E s := by
  revert X
  k_fill
  intro X
  unfold lawEnv if13 lawFD PySem.Challenge.pw_ij0194_01
  dsimp only
  k_steps
  unfold Hold
  rename Fr _ _ _ _ => F5
  rename News _ _ _ _ => N5
  rename IntsAre _ _ => hI5
  refine filtC _ _ _ _ _ _ _ _ callerA base base L _ _ _ _ _ g gv.toArray gc (rs ++ rs.reverse) gs _ B F5 X N5 (.list (.head _) hI5) (.tail _ (.tail _ (.tail _ (.tail _ (.head _))))) hg T rfl (by decide +kernel) (by decide +kernel) (by simp; omega) ?_
  intro D6 h6 tk6 acc6 c6 F6 N6 i6 lt6
  rw [heq] at i6
  k_steps
  rename Fr _ _ _ _ => F7
  rename News _ _ _ _ => N7
  exact hQ _ _ F7 fun p hp => N7 p (by
    simp only [List.mem_cons] at hp ⊢
    rcases hp with h | h | h | h | h <;> simp [h])
local macro_rules | `(tactic| walk_at "eval ListComp") => `(tactic| refine Hold.out ?_)
theorem filt_fold (gs : List Int) (rs : List Int) : rs.foldl (fun l k => if k ∈ gs then l ++ [k] else l) [] = rs.filter fun n => decide (n ∈ gs) := by
  have : ∀ (rs acc : List Int), rs.foldl (fun l k => if k ∈ gs then l ++ [k] else l) acc = acc ++ rs.filter fun n => decide (n ∈ gs) := by
    intro rs
    induction rs with
    | nil => intro acc; simp
    | cons x rs ih =>
      intro acc
      rw [List.foldl_cons, ih]
      by_cases h : x ∈ gs
      · simp [h]
      · simp [h]
  simpa using this rs []
set_option maxHeartbeats 8000000 in
theorem ret14C {w : World} {mean : ExcName → Option Value} {mg mb : Str → Option Value} {base : Heap} {L fa r d g : Addr} {cdv : Value} {M : Str → Option Value} {s : Shared} {Q : Flow → Shared → Prop} {E : Value → Shared → Prop} {rv dv gv : List Value} {rc dc gc : Nat} {rs ds gs : List Int} {o5 : Obj} {own : List (Addr × Obj)}
   (B : Below callerA base [] base) (X : (hd.heap_39 w.params).In base) (T : Top hd.view_39 (looseW hd.view_39 [Str.ofString "filterfalse"]) mean mg mb base)
   (F : Fr base L s.heap M) (N : News base L s.heap ((r, listOf rv.toArray rc) :: (d, listOf dv.toArray dc) :: (g, listOf gv.toArray gc) :: (L + 5, o5) :: own)) (hr : IntsAre rv rs) (hdd : IntsAre dv ds) (hg : IntsAre gv gs) (hlr : rs.length ≤ 100) (hld : ds.length ≤ 100) (hlg : gs.length ≤ 1000)
   (m1 : M (Str.ofString "row") = some (.ref r)) (m3 : M (Str.ofString "due") = some (.ref d)) (d5 : o5.data = .cell (some (.ref g)))
   (heq : keptL ds rs = rs.filter fun n => decide (n ∈ gs))
   (hQ : ∀ h tk, Fr base L h M → Q (.ret (.bool true)) { s with heap := h, toks := tk }) :
   wpAny (model PySem.Challenge.rw_ij0194_01.row.prog w) (callerA.deeper (lawEnv L fa cdv)) (exec ret14 (lawEnv L fa cdv)) Q E s := by
  revert X
  k_fill
  intro X
  unfold lawEnv ret14 lawFD PySem.Challenge.pw_ij0194_01
  dsimp only
  k_steps
  unfold Hold
  rename Fr _ _ _ _ => F5
  rename News _ _ _ _ => N5
  refine filtC _ _ _ _ _ _ _ _ callerA base base L _ _ _ _ r d dv.toArray dc rs ds _ B F5 X N5 (.list (.head _) hr) (.tail _ (.head _)) hdd T rfl (by decide +kernel) (by decide +kernel) (by omega) ?_
  intro D6 h6 tk6 acc6 c6 F6 N6 i6 lt6
  rw [heq] at i6
  k_steps
  unfold Hold
  refine LCt.ListComp_T (F₀ := F6) (by with_unfolding_all rfl) (by decide) (by rfl) (by decide) (by rfl) ?_
  k_steps
  refine LCt.CompSrcT.ledger (its := rv.toArray) (k := rc) (by rfl) F6 N6 (.tail _ (.head _)) (by have := hr.length; rw [sizeLine_eq, List.size_toArray]; omega) ?_
  intro g'
  refine kci_list (vs := rv) (ns := rs) (fun l k => if k ∈ gs then l ++ [k] else l) hr (fun k' t' I' oI' C' oC' D' m' ys' l' h' tk' E' hk' hI' hC' hx' F' N' off' ne' mk' => ?_) ?_ ?_
  · k_steps
    · rename (List.any _ _ = true) => hany
      have hin : k' ∈ gs := by simpa using hany
      refine LCg.CompEnd.intro F' N' _ (fun _ h => h) off' (.inr ⟨_, .tail _ (.head _), rfl, _, rfl⟩) (kci_el (by rw [if_pos hin]) rfl rfl)
    · rename (List.any _ _ = false) => hany
      have hin : ¬ k' ∈ gs := by
        intro h
        have : (gs.any fun x => x == k') = true := by simpa using h
        rw [this] at hany; cases hany
      refine LCg.CompEnd.intro F' N' _ (fun _ h => h) off' (.inr ⟨_, .tail _ (.head _), rfl, _, rfl⟩) (kci_no (by rw [if_neg hin]) rfl)
  · unfold KPfDone; intro ys hy hlen; unfold LCg.FinE; intro D h tk F1 N1 off
    have hf : rs.foldl (fun l k => if k ∈ gs then l ++ [k] else l) [] = rs.filter fun n => decide (n ∈ gs) := filt_fold gs rs
    rw [hf] at hy
    k_steps
    exact hQ _ _ F1
  · intro l k
    dsimp only
    split <;> simp

end TextR1
section TextP1
set_option maxRecDepth 100000
open PySem PySem.W PySem.Calls PyProof.Rows
theorem sorted_ext : ∀ {a b : List Int}, a.Pairwise (· < ·) → b.Pairwise (· < ·) → (∀ x, x ∈ a ↔ x ∈ b) → a = b
  | [], [], _, _, _ => rfl
  | [], y :: b, _, _, h => absurd ((h y).mpr (.head _)) List.not_mem_nil
  | x :: a, [], _, _, h => absurd ((h x).mp (.head _)) List.not_mem_nil
  | x :: a, y :: b, ha, hb, h => by
    obtain ⟨ha1, ha2⟩ := List.pairwise_cons.mp ha
    obtain ⟨hb1, hb2⟩ := List.pairwise_cons.mp hb
    have e : x = y := by
      have hx := (h x).mp (.head _)
      have hy := (h y).mpr (.head _)
      rcases List.mem_cons.mp hx with hx | hx
      · exact hx
      rcases List.mem_cons.mp hy with hy | hy
      · exact hy.symm
      · have h1 := ha1 y hy
        have h2 := hb1 x hx
        omega
    subst e
    congr 1
    refine sorted_ext ha2 hb2 fun z => ⟨fun hz => ?_, fun hz => ?_⟩
    · rcases List.mem_cons.mp ((h z).mp (.tail _ hz)) with e | hz'
      · have := ha1 z hz; omega
      · exact hz'
    · rcases List.mem_cons.mp ((h z).mpr (.tail _ hz)) with e | hz'
      · have := hb1 z hz; omega
      · exact hz'
theorem bind_ne {l : List Int} {g : Int → List Int} (hl : l.Pairwise (· ≠ ·)) (h1 : ∀ a ∈ l, (g a).Pairwise (· ≠ ·)) (h2 : ∀ a ∈ l, ∀ b ∈ l, a ≠ b → ∀ x ∈ g a, ∀ y ∈ g b, x ≠ y) : ((l.map g).flatten).Pairwise (· ≠ ·) := by
  induction l with
  | nil => exact List.Pairwise.nil
  | cons a l ih =>
    obtain ⟨p1, p2⟩ := List.pairwise_cons.mp hl
    rw [List.map_cons, List.flatten_cons]
    refine List.pairwise_append.mpr ⟨h1 a (.head _), ih p2 (fun b hb => h1 b (.tail _ hb)) (fun b hb c hc => h2 b (.tail _ hb) c (.tail _ hc)), fun x hx y hy => ?_⟩
    obtain ⟨m, hm, hy⟩ := List.mem_flatten.mp hy
    obtain ⟨b, hb, rfl⟩ := List.mem_map.mp hm
    exact h2 a (.head _) b (.tail _ hb) (p1 b hb) x hx y hy
theorem rangeKs_ne (a : Int) (n : Nat) : (rangeKs a n).Pairwise (· ≠ ·) := by
  unfold rangeKs
  rw [List.pairwise_map]
  exact List.Pairwise.imp (fun h e => by omega) (List.pairwise_lt_range (n := n))
theorem rangeInts_lt (a : Int) (n : Nat) : (rangeInts a 1 n).Pairwise (· < ·) := by
  unfold rangeInts
  rw [List.pairwise_map]
  exact List.Pairwise.imp (fun h => by omega) (List.pairwise_lt_range (n := n))
theorem mem_rangeInts1 {a x : Int} {n : Nat} : x ∈ rangeInts a 1 n ↔ a ≤ x ∧ x < a + n := by
  constructor
  · exact mem_rangeInts
  · rintro ⟨h1, h2⟩
    refine List.mem_map.mpr ⟨(x - a).toNat, List.mem_range.mpr (by omega), by omega⟩
theorem mem_rangeKs' {x : Int} {n : Nat} : x ∈ rangeKs 0 n ↔ 0 ≤ x ∧ x < n := by
  constructor
  · intro h; have := mem_rangeKs h; omega
  · rintro ⟨h1, h2⟩
    exact List.mem_map.mpr ⟨x.toNat, List.mem_range.mpr (by omega), by omega⟩
theorem handed_mem {mark : Int} {cnt : Nat} {x : Int} (h : x ∈ handedL mark cnt) : 0 ≤ x ∧ x < cnt := by
  have key : ∀ (l acc : List Int), x ∈ l.foldl (handG mark) acc → x ∈ acc ∨ x ∈ l := by
    intro l
    induction l with
    | nil => intro acc h; exact .inl h
    | cons y l ih =>
      intro acc h
      rcases ih _ h with h1 | h1
      · unfold handG at h1
        split at h1
        · rcases List.mem_append.mp h1 with h2 | h2
          · exact .inl h2
          · rw [List.mem_singleton.mp h2]; exact .inr (.head _)
        · exact .inl h1
      · exact .inr (.tail _ h1)
  rcases key _ _ h with h1 | h1
  · cases h1
  · exact mem_rangeKs'.mp h1
theorem mem_kept {kz ns : List Int} {x : Int} : x ∈ keptL kz ns ↔ x ∈ ns ∧ x ∉ kz := by
  unfold keptL
  simp [List.mem_filter]
theorem foldl_kept (nss : List (List Int)) : ∀ cs : List Int, nss.foldl (fun cs zs => keptL zs cs) cs = cs.filter fun z => !decide (z ∈ nss.flatten) := by
  induction nss with
  | nil => intro cs; exact (List.filter_eq_self.mpr (by simp)).symm
  | cons zs nss ih =>
    intro cs
    rw [List.foldl_cons, ih]
    unfold keptL
    rw [List.filter_filter]
    refine List.filter_congr fun z _ => ?_
    simp [List.mem_append, Bool.and_comm]
theorem kept_eq (kz ns : List Int) : keptL kz ns = ns.filter fun z => !decide (z ∈ kz) := rfl
-- the spoke of r by c: those of the thirty with the remainder r
theorem mem_spoke {f r x : Int} {c : Nat} (hc : c = 2 ∨ c = 3 ∨ c = 5) (hr : 0 ≤ r ∧ r < c) : x ∈ spokeL f c r ↔ (f ≤ x ∧ x < f + 30) ∧ x % (c : Int) = r := by
  unfold spokeL rangeInts
  rw [List.mem_map]
  have hf : (r - f).fmod (c : Int) = (r - f) % (c : Int) := Int.fmod_eq_emod_of_nonneg _ (by omega)
  rw [hf]
  rcases hc with rfl | rfl | rfl
  · constructor
    · rintro ⟨i, hi, rfl⟩
      have hi := List.mem_range.mp hi
      omega
    · rintro ⟨⟨h1, h2⟩, h3⟩
      exact ⟨((x - (f + (r - f) % 2)) / 2).toNat, List.mem_range.mpr (by omega), by omega⟩
  · constructor
    · rintro ⟨i, hi, rfl⟩
      have hi := List.mem_range.mp hi
      omega
    · rintro ⟨⟨h1, h2⟩, h3⟩
      exact ⟨((x - (f + (r - f) % 3)) / 3).toNat, List.mem_range.mpr (by omega), by omega⟩
  · constructor
    · rintro ⟨i, hi, rfl⟩
      have hi := List.mem_range.mp hi
      omega
    · rintro ⟨⟨h1, h2⟩, h3⟩
      exact ⟨((x - (f + (r - f) % 5)) / 5).toNat, List.mem_range.mpr (by omega), by omega⟩
theorem mem_spokes {f x : Int} {c : Nat} {H : List Int} (hc : c = 2 ∨ c = 3 ∨ c = 5) (hH : ∀ r ∈ H, 0 ≤ r ∧ r < c) : x ∈ (H.map (spokeL f c)).flatten ↔ (f ≤ x ∧ x < f + 30) ∧ x % (c : Int) ∈ H := by
  rw [List.mem_flatten]
  constructor
  · rintro ⟨l, hl, hx⟩
    obtain ⟨r, hr, rfl⟩ := List.mem_map.mp hl
    obtain ⟨h1, h2⟩ := (mem_spoke hc (hH r hr)).mp hx
    exact ⟨h1, h2 ▸ hr⟩
  · rintro ⟨h1, h2⟩
    exact ⟨_, List.mem_map.mpr ⟨_, h2, rfl⟩, (mem_spoke hc (hH _ h2)).mpr ⟨h1, rfl⟩⟩
theorem mem_due {f x : Int} {A B C : List Int} : x ∈ dueRaw f A B C ↔ ∃ a ∈ A, ∃ b ∈ B, ∃ c ∈ C, x = dueG f a b c := by
  unfold dueRaw
  simp only [List.mem_flatten, List.mem_map]
  constructor
  · rintro ⟨_, ⟨a, ha, rfl⟩, hx⟩
    simp only [List.mem_flatten, List.mem_map] at hx
    obtain ⟨_, ⟨b, hb, rfl⟩, hx⟩ := hx
    simp only [List.mem_flatten, List.mem_map] at hx
    obtain ⟨_, ⟨c, hc, rfl⟩, hx⟩ := hx
    exact ⟨a, ha, b, hb, c, hc, by simpa using hx⟩
  · rintro ⟨a, ha, b, hb, c, hc, rfl⟩
    refine ⟨_, ⟨a, ha, rfl⟩, ?_⟩
    simp only [List.mem_flatten, List.mem_map]
    refine ⟨_, ⟨b, hb, rfl⟩, ?_⟩
    simp only [List.mem_flatten, List.mem_map]
    exact ⟨_, ⟨c, hc, rfl⟩, by simp⟩
theorem dueG_spec {f a b c : Int} (ha : 0 ≤ a ∧ a < 2) (hb : 0 ≤ b ∧ b < 3) (hc : 0 ≤ c ∧ c < 5) : (f ≤ dueG f a b c ∧ dueG f a b c < f + 30) ∧ dueG f a b c % 2 = a ∧ dueG f a b c % 3 = b ∧ dueG f a b c % 5 = c := by
  unfold dueG
  rw [Int.fmod_eq_emod_of_nonneg _ (by decide)]
  omega
theorem dueG_back {f x : Int} (h : f ≤ x ∧ x < f + 30) : dueG f (x % 2) (x % 3) (x % 5) = x := by
  unfold dueG
  rw [Int.fmod_eq_emod_of_nonneg _ (by decide)]
  omega
theorem rangeL_ne (k : Nat) : (Mine.rangeL 0 k).Pairwise (· ≠ ·) := by
  unfold Mine.rangeL
  rw [List.pairwise_map]
  exact List.Pairwise.imp (fun h e => by omega) (List.pairwise_lt_range (n := k))
theorem mem_rangeL {k : Nat} {x : Int} : x ∈ Mine.rangeL 0 k ↔ 0 ≤ x ∧ x < k := by
  constructor
  · intro h
    obtain ⟨i, hi, rfl⟩ := List.mem_map.mp h
    have := List.mem_range.mp hi
    omega
  · rintro ⟨h1, h2⟩
    exact List.mem_map.mpr ⟨x.toNat, List.mem_range.mpr (by omega), by omega⟩
-- the law in plain Lean: what the filtering leaves, and what is reckoned from the remainders
abbrev spokes (f a b c : Int) : List (List Int) := (handedL a 2).map (spokeL f 2) ++ (handedL b 3).map (spokeL f 3) ++ (handedL c 5).map (spokeL f 5)
abbrev keptOf (mark : Int) (cnt : Nat) : List Int := keptL (handedL mark cnt) (Mine.rangeL 0 cnt)
theorem mem_gone {f a b c x : Int} : x ∈ (spokes f a b c).flatten ↔ (f ≤ x ∧ x < f + 30) ∧ (x % 2 ∈ handedL a 2 ∨ x % 3 ∈ handedL b 3 ∨ x % 5 ∈ handedL c 5) := by
  unfold spokes
  rw [List.flatten_append, List.flatten_append, List.mem_append, List.mem_append, mem_spokes (c := 2) (by decide) (fun r hr => handed_mem hr), mem_spokes (c := 3) (by decide) (fun r hr => handed_mem hr), mem_spokes (c := 5) (by decide) (fun r hr => handed_mem hr)]
  constructor
  · rintro ((⟨h, h1⟩ | ⟨h, h1⟩) | ⟨h, h1⟩)
    · exact ⟨h, .inl h1⟩
    · exact ⟨h, .inr (.inl h1)⟩
    · exact ⟨h, .inr (.inr h1)⟩
  · rintro ⟨h, h1 | h1 | h1⟩
    · exact .inl (.inl ⟨h, h1⟩)
    · exact .inl (.inr ⟨h, h1⟩)
    · exact .inr ⟨h, h1⟩
theorem keptOf_mem {mark x : Int} {cnt : Nat} : x ∈ keptOf mark cnt ↔ (0 ≤ x ∧ x < cnt) ∧ x ∉ handedL mark cnt := by
  rw [mem_kept, mem_rangeL]
theorem keptOf_ne (mark : Int) (cnt : Nat) : (keptOf mark cnt).Pairwise (· ≠ ·) := List.Pairwise.filter _ (rangeL_ne cnt)
theorem dueRaw_ne (f a b c : Int) : (dueRaw f (keptOf a 2) (keptOf b 3) (keptOf c 5)).Pairwise (· ≠ ·) := by
  have ma : ∀ p ∈ keptOf a 2, 0 ≤ p ∧ p < 2 := fun p hp => by have := (keptOf_mem.mp hp).1; omega
  have mb : ∀ p ∈ keptOf b 3, 0 ≤ p ∧ p < 3 := fun p hp => by have := (keptOf_mem.mp hp).1; omega
  have mc : ∀ p ∈ keptOf c 5, 0 ≤ p ∧ p < 5 := fun p hp => by have := (keptOf_mem.mp hp).1; omega
  unfold dueRaw
  refine bind_ne (keptOf_ne a 2) (fun p hp => bind_ne (keptOf_ne b 3) (fun q hq => bind_ne (keptOf_ne c 5) (fun r hr => ?_) ?_) ?_) ?_
  · exact List.pairwise_singleton _ _
  · intro r hr r' hr' hne x hx y hy
    rw [List.mem_singleton.mp hx, List.mem_singleton.mp hy]
    intro e
    have h1 := dueG_spec (f := f) (ma p hp) (mb q hq) (mc r hr)
    have h2 := dueG_spec (f := f) (ma p hp) (mb q hq) (mc r' hr')
    rw [e] at h1
    omega
  · intro q hq q' hq' hne x hx y hy e
    simp only [List.mem_flatten, List.mem_map] at hx hy
    obtain ⟨_, ⟨r, hr, rfl⟩, hx⟩ := hx
    obtain ⟨_, ⟨r', hr', rfl⟩, hy⟩ := hy
    have hx := List.mem_singleton.mp hx
    have hy := List.mem_singleton.mp hy
    have h1 := dueG_spec (f := f) (ma p hp) (mb q hq) (mc r hr)
    have h2 := dueG_spec (f := f) (ma p hp) (mb q' hq') (mc r' hr')
    rw [← hx, e, hy] at h1
    omega
  · intro p hp p' hp' hne x hx y hy e
    simp only [List.mem_flatten, List.mem_map] at hx hy
    obtain ⟨_, ⟨q, hq, rfl⟩, hx⟩ := hx
    obtain ⟨_, ⟨q', hq', rfl⟩, hy⟩ := hy
    simp only [List.mem_flatten, List.mem_map] at hx hy
    obtain ⟨_, ⟨r, hr, rfl⟩, hx⟩ := hx
    obtain ⟨_, ⟨r', hr', rfl⟩, hy⟩ := hy
    have hx := List.mem_singleton.mp hx
    have hy := List.mem_singleton.mp hy
    have h1 := dueG_spec (f := f) (ma p hp) (mb q hq) (mc r hr)
    have h2 := dueG_spec (f := f) (ma p' hp') (mb q' hq') (mc r' hr')
    rw [← hx, e, hy] at h1
    omega
theorem due_eq {f a b c : Int} {ds : List Int} (hp : ds.Perm (dueRaw f (keptOf a 2) (keptOf b 3) (keptOf c 5))) (hs : ds.Pairwise (· ≤ ·)) : ds = (rangeInts f 1 30).filter fun z => !decide (z ∈ (spokes f a b c).flatten) := by
  have hne : ds.Pairwise (· ≠ ·) := (List.Perm.pairwise_iff (fun h => Ne.symm h) hp).mpr (dueRaw_ne f a b c)
  refine sorted_ext ?_ (List.Pairwise.filter _ (rangeInts_lt f 30)) fun x => ?_
  · exact (hs.and hne).imp fun h => by omega
  · rw [hp.mem_iff, mem_due, List.mem_filter, mem_rangeInts1]
    simp only [Bool.not_eq_true', decide_eq_false_iff_not, mem_gone]
    constructor
    · rintro ⟨p, hp, q, hq, r, hr, rfl⟩
      have hp := keptOf_mem.mp hp
      have hq := keptOf_mem.mp hq
      have hr := keptOf_mem.mp hr
      obtain ⟨h1, h2, h3, h4⟩ := dueG_spec (f := f) (a := p) (b := q) (c := r) (by omega) (by omega) (by omega)
      refine ⟨by omega, ?_⟩
      rintro ⟨_, h | h | h⟩
      · exact hp.2 (h2 ▸ h)
      · exact hq.2 (h3 ▸ h)
      · exact hr.2 (h4 ▸ h)
    · rintro ⟨h1, h2⟩
      have h1 : f ≤ x ∧ x < f + 30 := by omega
      refine ⟨x % 2, keptOf_mem.mpr ⟨by omega, fun h => h2 ⟨h1, .inl h⟩⟩, x % 3, keptOf_mem.mpr ⟨by omega, fun h => h2 ⟨h1, .inr (.inl h)⟩⟩, x % 5, keptOf_mem.mpr ⟨by omega, fun h => h2 ⟨h1, .inr (.inr h)⟩⟩, (dueG_back h1).symm⟩
section
variable {f a b c : Int} {ds : List Int} (hp : ds.Perm (dueRaw f (keptOf a 2) (keptOf b 3) (keptOf c 5))) (hs : ds.Pairwise (· ≤ ·))
include hp hs
theorem on_eq : (spokes f a b c).foldl (fun cs zs => keptL zs cs) (rangeInts f 1 30) = ds := by
  rw [foldl_kept, due_eq hp hs]
theorem back_eq : (spokes f a b c).reverse.foldl (fun cs zs => keptL zs cs) (rangeInts f 1 30) = ds := by
  rw [foldl_kept, due_eq hp hs]
  refine List.filter_congr fun z _ => ?_
  simp only [List.mem_flatten, List.mem_reverse]
theorem both_eq : keptL (spokes f a b c).flatten (rangeInts f 1 30 ++ (rangeInts f 1 30).reverse) = ds ++ ds.reverse := by
  rw [kept_eq, List.filter_append, List.filter_reverse, ← due_eq hp hs]
theorem gone_eq : keptL ds (rangeInts f 1 30) = (rangeInts f 1 30).filter fun n => decide (n ∈ (spokes f a b c).flatten) := by
  rw [kept_eq]
  refine List.filter_congr fun z hz => ?_
  have e := due_eq hp hs
  generalize (spokes f a b c).flatten = G at e
  rw [e]
  by_cases h : z ∈ G
  · simp [List.mem_filter, h]
  · simp [List.mem_filter, h, hz]
end
theorem kept_len (mark : Int) (cnt : Nat) : (keptOf mark cnt).length ≤ cnt := Nat.le_trans (List.length_filter_le _ _) (by simp [Mine.rangeL])
theorem handedL_le' (mark : Int) (cnt : Nat) : (handedL mark cnt).length ≤ cnt := by
  have : ∀ (l acc : List Int), (l.foldl (handG mark) acc).length ≤ acc.length + l.length := by
    intro l
    induction l with
    | nil => intro acc; exact Nat.le_refl _
    | cons x l ih =>
      intro acc
      have h1 := ih (handG mark acc x)
      have h2 : (handG mark acc x).length ≤ acc.length + 1 := by unfold handG; split <;> simp
      simp only [List.foldl_cons, List.length_cons]
      omega
  have h := this (rangeKs 0 cnt) []
  rw [rangeKs_length] at h
  simpa [handedL] using h
theorem spokes_len (f : Int) (c : Nat) (H : List Int) : (H.map (spokeL f c)).flatten.length = H.length * (30 / c) := by
  induction H with
  | nil => simp
  | cons x H ih =>
    rw [List.map_cons, List.flatten_cons, List.length_append, ih, List.length_cons, Nat.succ_mul]
    have : (spokeL f c x).length = 30 / c := rangeInts_length _ _ _
    omega
theorem gone_len (f a b c : Int) : (spokes f a b c).flatten.length ≤ 90 := by
  unfold spokes
  rw [List.flatten_append, List.flatten_append, List.length_append, List.length_append, spokes_len, spokes_len, spokes_len]
  have h2 := handedL_le' a 2
  have h3 := handedL_le' b 3
  have h4 := handedL_le' c 5
  have e2 := Nat.mul_le_mul_right (30 / 2) h2
  have e3 := Nat.mul_le_mul_right (30 / 3) h3
  have e4 := Nat.mul_le_mul_right (30 / 5) h4
  omega

end TextP1
section TextQ1
set_option maxRecDepth 100000
open PySem PySem.W PySem.Calls PyProof.Rows
def as3 : Stmt := match lawFD.1 with
  | [_, _, _, z, _, _, _, _, _, _, _, _, _, _, _] => z
  | _ => .Pass default
def as4 : Stmt := match lawFD.1 with
  | [_, _, _, _, z, _, _, _, _, _, _, _, _, _, _] => z
  | _ => .Pass default
def as7 : Stmt := match lawFD.1 with
  | [_, _, _, _, _, _, _, z, _, _, _, _, _, _, _] => z
  | _ => .Pass default
def as9 : Stmt := match lawFD.1 with
  | [_, _, _, _, _, _, _, _, _, z, _, _, _, _, _] => z
  | _ => .Pass default
local macro_rules | `(tactic| k_room) => `(tactic| ktr_room)
local macro_rules | `(tactic| k_mem) => `(tactic| first | exact List.mem_cons_self .. | ktr_member | assumption | (refine' List.mem_cons_of_mem _ ?_; k_mem))
local macro_rules | `(tactic| walk_at "eval Name") => `(tactic| (k_here; k_dflt (refine' nameX_L ?k1 ?k2 ?_; (case k1 => k_asm); (case k2 => assumption); k_whole)))
section
variable {w : World} {base : Heap} {L fa : Addr} {cdv : Value} {M : Str → Option Value} {s : Shared} {Q : Flow → Shared → Prop} {E : Value → Shared → Prop} {news : List (Addr × Obj)}
set_option maxHeartbeats 8000000 in
theorem as3C (F : Fr base L s.heap M) (N : News base L s.heap news)
   (hQ : ∀ h tk sp c, Fr base L h (fun y => if y = Str.ofString "spokes" then some (.ref sp) else M y) → News base L h ((sp, listOf #[] c) :: news) → (∀ p ∈ news, p.1 < sp) → Q .next { s with heap := h, toks := tk }) :
   wpAny (model PySem.Challenge.rw_ij0194_01.row.prog w) (callerA.deeper (lawEnv L fa cdv)) (exec as3 (lawEnv L fa cdv)) Q E s := by
  unfold lawEnv as3 lawFD PySem.Challenge.pw_ij0194_01
  dsimp only
  k_steps
  rename Fr _ _ _ _ => F5
  rename News _ _ _ _ => N5
  exact hQ _ _ _ 0 F5 N5 fun p hp => Heap.lt_size (N p hp).1
set_option maxHeartbeats 8000000 in
theorem as7C {rw : Addr} (F : Fr base L s.heap M) (N : News base L s.heap news) (hm : M (Str.ofString "row") = some (.ref rw))
   (hQ : ∀ h tk, Fr base L h (fun y => if y = Str.ofString "onward" then some (.ref rw) else M y) → News base L h news → Q .next { s with heap := h, toks := tk }) :
   wpAny (model PySem.Challenge.rw_ij0194_01.row.prog w) (callerA.deeper (lawEnv L fa cdv)) (exec as7 (lawEnv L fa cdv)) Q E s := by
  unfold lawEnv as7 lawFD PySem.Challenge.pw_ij0194_01
  dsimp only
  refine wpAny_Assign_Name ?_
  refine nameX_L F hm ?_
  refine storeX_L F N ?_
  intro h' F' N'
  exact hQ h' _ F' N'
set_option maxHeartbeats 8000000 in
theorem as9C {rw : Addr} (F : Fr base L s.heap M) (N : News base L s.heap news) (hm : M (Str.ofString "row") = some (.ref rw))
   (hQ : ∀ h tk, Fr base L h (fun y => if y = Str.ofString "backward" then some (.ref rw) else M y) → News base L h news → Q .next { s with heap := h, toks := tk }) :
   wpAny (model PySem.Challenge.rw_ij0194_01.row.prog w) (callerA.deeper (lawEnv L fa cdv)) (exec as9 (lawEnv L fa cdv)) Q E s := by
  unfold lawEnv as9 lawFD PySem.Challenge.pw_ij0194_01
  dsimp only
  refine wpAny_Assign_Name ?_
  refine nameX_L F hm ?_
  refine storeX_L F N ?_
  intro h' F' N'
  exact hQ h' _ F' N'
local macro_rules | `(tactic| walk_at "storeName") => `(tactic| refine Hold.out ?_)
set_option maxHeartbeats 8000000 in
theorem as4C {o2 : Obj} {v2 : Option Value} (F : Fr base L s.heap M) (N : News base L s.heap ((L + 2, o2) :: news)) (d2 : o2.data = .cell v2) (off : ∀ p ∈ news, (@Ne Nat p.1 (L + 2)))
   (hQ : ∀ h tk kp c o2', Fr base L h M → News base L h ((kp, listOf #[] c) :: (L + 2, o2') :: news) → o2'.data = .cell (some (.ref kp)) → (∀ p ∈ news, p.1 < kp) → Q .next { s with heap := h, toks := tk }) :
   wpAny (model PySem.Challenge.rw_ij0194_01.row.prog w) (callerA.deeper (lawEnv L fa cdv)) (exec as4 (lawEnv L fa cdv)) Q E s := by
  unfold lawEnv as4 lawFD PySem.Challenge.pw_ij0194_01
  dsimp only
  k_steps
  unfold Hold
  rename Fr _ _ _ _ => F5
  rename News _ _ _ _ => N5
  have lt : ∀ p ∈ (L + 2, o2) :: news, p.1 < s.heap.objs.size := fun p hp => Heap.lt_size (N p hp).1
  have N6 : News base L _ ((L + 2, o2) :: (s.heap.objs.size, listOf #[] 0) :: news) := fun p hp => N5 p (by
    simp only [List.mem_cons] at hp ⊢
    rcases hp with h | h | h <;> simp [h])
  refine' storeX_C (c := L + 2) (g := fun o' => (L + 2, o') :: (s.heap.objs.size, listOf #[] 0) :: news) ?F ?N (by rfl) (.head ?off) d2 ?_
  case F => exact F5
  case N => exact N6
  case off =>
    intro p hp
    rcases List.mem_cons.mp hp with rfl | hp
    · exact Ne.symm (Nat.ne_of_lt (lt (L + 2, o2) (.head _)))
    · exact off p hp
  intro h3 o2' F7 N7 d7
  k_steps
  refine hQ _ _ _ 0 o2' F7 (fun p hp => N7 p ?_) d7 fun p hp => lt p (.tail _ hp)
  simp only [List.mem_cons] at hp ⊢
  rcases hp with h | h | h <;> simp [h]
end

end TextQ1
section TextA1
set_option maxRecDepth 100000
open PySem PySem.W PySem.Calls PyProof.Rows
theorem rest_eq : lawFD.1.drop 3 = [as3, as4, zipFor, dueStmt, as7, onFor, as9, backFor, if11, goneStmt, if13, ret14] := rfl
set_option maxHeartbeats 8000000 in
theorem lawTail {w : World} {mean : ExcName → Option Value} {mg mb : Str → Option Value} {base : Heap} {L fa r mk : Addr} {cdv : Value} {M : Str → Option Value} {s : Shared} {Q : Flow → Shared → Prop} {E : Value → Shared → Prop} {racc : Array Value} {rc mc : Nat} {f a b c : Int} {tf ta tb tc : Tok} {o1 o2 o3 o4 o5 : Obj}
   (B : Below callerA base [] base) (X : (hd.heap_39 w.params).In base) (T : Top hd.view_39 (looseW hd.view_39 [Str.ofString "filterfalse"]) mean mg mb base)
   (F : Fr base L s.heap M) (N : News base L s.heap [(r, listOf racc rc), (mk, listOf #[.int a ta, .int b tb, .int c tc] mc), (L + 5, o5), (L + 4, o4), (L + 3, o3), (L + 2, o2), (L + 1, o1)])
   (m1 : M (Str.ofString "row") = some (.ref r)) (m2 : M (Str.ofString "marks") = some (.ref mk))
   (d1 : o1.data = .cell (some (.int f tf))) (d2 : o2.data = .cell none) (d3 : o3.data = .cell none) (d4 : o4.data = .cell none) (d5 : o5.data = .cell none)
   (hr : IntsAre racc.toList (rangeInts f 1 30)) (l1 : @LT.lt Nat _ (L + 5) mk) (l2 : @LT.lt Nat _ mk r)
   (hE : PassesOwn (model PySem.Challenge.rw_ij0194_01.row.prog w) (callerA.deeper (lawEnv L fa cdv)) (lawEnv L fa cdv) E)
   (hQ : ∀ h tk M', Fr base L h M' → Q (.ret (.bool true)) { s with heap := h, toks := tk }) :
   wpAny (model PySem.Challenge.rw_ij0194_01.row.prog w) (callerA.deeper (lawEnv L fa cdv)) (execs (lawFD.1.drop 3) (lawEnv L fa cdv)) Q E s := by
  rw [rest_eq]
  have lr : (rangeInts f 1 30).length = 30 := rangeInts_length _ _ _
  -- spokes = []
  refine wpAny_execs_cons (as3C F N ?_)
  intro h1 k1 sp c1 F1 N1 lt1
  -- kept = []
  have lsp : (@LT.lt Nat _ r sp) := lt1 (r, listOf racc rc) (.head _)
  refine wpAny_execs_cons (as4C (o2 := o2) (news := [(sp, listOf #[] c1), (r, listOf racc rc), (mk, listOf #[.int a ta, .int b tb, .int c tc] mc), (L + 5, o5), (L + 4, o4), (L + 3, o3), (L + 1, o1)]) F1 (fun p hp => N1 p (by
    simp only [List.mem_cons, List.not_mem_nil, or_false] at hp ⊢
    rcases hp with h | h | h | h | h | h | h | h <;> simp [h])) d2 ?_ ?_)
  · intro p hp
    simp only [List.mem_cons, List.not_mem_nil, or_false] at hp
    rcases hp with h | h | h | h | h | h | h
    · rw [h]; show (@Ne Nat sp (L + 2)); omega
    · rw [h]; show (@Ne Nat r (L + 2)); omega
    · rw [h]; show (@Ne Nat mk (L + 2)); omega
    · rw [h]; show (@Ne Nat (L + 5) (L + 2)); omega
    · rw [h]; show (@Ne Nat (L + 4) (L + 2)); omega
    · rw [h]; show (@Ne Nat (L + 3) (L + 2)); omega
    · rw [h]; show (@Ne Nat (L + 1) (L + 2)); omega
  intro h2 k2 kp c2 o2' F2 N2 d2' lt2
  have lkp : (@LT.lt Nat _ sp kp) := lt2 (sp, listOf #[] c1) (.head _)
  -- the zip loop
  dsimp only
  have own1 : ∀ p ∈ [(r, listOf racc rc), (L + 5, o5)], (@Ne Nat p.1 sp) ∧ (@Ne Nat p.1 kp) ∧ (@LT.lt Nat _ (L + 4) p.1) := by
    intro p hp
    simp only [List.mem_cons, List.not_mem_nil, or_false] at hp
    rcases hp with h | h
    · rw [h]; show (@Ne Nat r sp) ∧ (@Ne Nat r kp) ∧ (@LT.lt Nat _ (L + 4) r); omega
    · rw [h]; show (@Ne Nat (L + 5) sp) ∧ (@Ne Nat (L + 5) kp) ∧ (@LT.lt Nat _ (L + 4) (L + 5)); omega
  have N2' : News base L h2 ((kp, listOf #[] c2) :: (sp, listOf #[] c1) :: (L + 4, o4) :: (L + 3, o3) :: (L + 2, o2') :: (L + 1, o1) :: (mk, listOf #[.int a ta, .int b tb, .int c tc] mc) :: [(r, listOf racc rc), (L + 5, o5)]) := fun p hp => N2 p (by
    simp only [List.mem_cons, List.not_mem_nil, or_false] at hp ⊢
    rcases hp with h | h | h | h | h | h | h | h | h <;> simp [h])
  have s1 : (fun y => if y = Str.ofString "spokes" then some (Value.ref sp) else M y) (Str.ofString "marks") = some (.ref mk) := by
    show (if Str.ofString "marks" = Str.ofString "spokes" then some (Value.ref sp) else M (Str.ofString "marks")) = _
    rw [if_neg (by decide)]; exact m2
  have s2 : (fun y => if y = Str.ofString "spokes" then some (Value.ref sp) else M y) (Str.ofString "row") = some (.ref r) := by
    show (if Str.ofString "row" = Str.ofString "spokes" then some (Value.ref sp) else M (Str.ofString "row")) = _
    rw [if_neg (by decide)]; exact m1
  have s3 : (fun y => if y = Str.ofString "spokes" then some (Value.ref sp) else M y) (Str.ofString "spokes") = some (.ref sp) := if_pos rfl
  generalize (fun y => if y = Str.ofString "spokes" then some (Value.ref sp) else M y) = M1 at F2 s1 s2 s3
  refine wpAny_execs_cons ?_
  refine' zipC B X T ?F ?N d1 d2' d3 d4 s3 s1 lkp l1 (Nat.lt_trans l2 lsp) own1 hE ?_
  case F => exact F2
  case N => exact N2'
  clear N2' N2 N1 F1 N F F2
  intro h3 k3 M2 sc2 kc2 K1 K2 K3 xs new o3' o4' t3 t4 e2 F3 N3 d3' d4' g1 g2 n1
  dsimp only
  -- due
  cases g1 with
  | @cons _ acc1 ac1 _ _ _ hm1 hi1 g1 =>
  cases g1 with
  | @cons _ acc2 ac2 _ _ _ hm2 hi2 g1 =>
  cases g1 with
  | @cons _ acc3 ac3 _ _ _ hm3 hi3 _ =>
  have r2 : M2 (Str.ofString "row") = some (.ref r) := (e2 _ (by decide)).trans s2
  have p2 : M2 (Str.ofString "spokes") = some (.ref sp) := (e2 _ (by decide)).trans s3
  refine wpAny_execs_cons ?_
  refine' dueC (sp := sp) (K1 := K1) (K2 := K2) (K3 := K3) (kp := kp) (kc := kc2) (k1 := ac1) (k2 := ac2) (k3 := ac3) (v1 := acc1.toList) (v2 := acc2.toList) (v3 := acc3.toList) (own := (sp, listOf xs.toArray sc2) :: (L + 4, o4') :: (L + 3, o3') :: (new ++ [(r, listOf racc rc), (L + 5, o5)])) B X T ?F ?N hi1 hi2 hi3 d1 d2' ⟨Mine.kept_len a 2, Mine.kept_len b 3, Mine.kept_len c 5⟩ ?_
  case F => exact F3
  case N =>
    intro p hp
    refine N3 p ?_
    simp only [List.mem_cons, List.mem_append, Array.toArray_toList, List.not_mem_nil, or_false] at hp ⊢
    rcases hp with h | h | h | h | h | h | h | h | h | h | h | h <;> simp [h, hm1, hm2, hm3]
  intro D4 h4 k4 zs4 c4 ds F4 N4 i4 perm sorted lt4
  dsimp only
  have ltD : ∀ p ∈ (sp, listOf xs.toArray sc2) :: (L + 4, o4') :: (L + 3, o3') :: (new ++ [(r, listOf racc rc), (L + 5, o5)]), (@LT.lt Nat _ p.1 D4) := lt4
  -- onward = row
  have r4 : (fun y => if y = Str.ofString "due" then some (Value.ref D4) else M2 y) (Str.ofString "row") = some (.ref r) := by
    show (if Str.ofString "row" = Str.ofString "due" then some (Value.ref D4) else M2 (Str.ofString "row")) = _
    rw [if_neg (by decide)]; exact r2
  have p4 : (fun y => if y = Str.ofString "due" then some (Value.ref D4) else M2 y) (Str.ofString "spokes") = some (.ref sp) := by
    show (if Str.ofString "spokes" = Str.ofString "due" then some (Value.ref D4) else M2 (Str.ofString "spokes")) = _
    rw [if_neg (by decide)]; exact p2
  have q4 : (fun y => if y = Str.ofString "due" then some (Value.ref D4) else M2 y) (Str.ofString "due") = some (.ref D4) := if_pos rfl
  generalize (fun y => if y = Str.ofString "due" then some (Value.ref D4) else M2 y) = M4 at F4 r4 p4 q4
  have N4' : News base L h4 ((D4, listOf zs4.toArray c4) :: (r, listOf racc rc) :: (sp, listOf xs.toArray sc2) :: (L + 5, o5) :: new) := fun p hp => N4 p (by
    simp only [List.mem_cons, List.mem_append, List.not_mem_nil, or_false] at hp ⊢
    rcases hp with h | h | h | h | h <;> simp [h])
  clear N4 N3 F3 e2
  refine wpAny_execs_cons ?_
  refine' as7C F4 N4' r4 ?_
  intro h5 k5 F5 N5
  dsimp only
  have r5 : (fun y => if y = Str.ofString "onward" then some (Value.ref r) else M4 y) (Str.ofString "row") = some (.ref r) := by
    show (if Str.ofString "row" = Str.ofString "onward" then some (Value.ref r) else M4 (Str.ofString "row")) = _
    rw [if_neg (by decide)]; exact r4
  have p5 : (fun y => if y = Str.ofString "onward" then some (Value.ref r) else M4 y) (Str.ofString "spokes") = some (.ref sp) := by
    show (if Str.ofString "spokes" = Str.ofString "onward" then some (Value.ref r) else M4 (Str.ofString "spokes")) = _
    rw [if_neg (by decide)]; exact p4
  have q5 : (fun y => if y = Str.ofString "onward" then some (Value.ref r) else M4 y) (Str.ofString "due") = some (.ref D4) := by
    show (if Str.ofString "due" = Str.ofString "onward" then some (Value.ref r) else M4 (Str.ofString "due")) = _
    rw [if_neg (by decide)]; exact q4
  have w5 : (fun y => if y = Str.ofString "onward" then some (Value.ref r) else M4 y) (Str.ofString "onward") = some (.ref r) := if_pos rfl
  generalize (fun y => if y = Str.ofString "onward" then some (Value.ref r) else M4 y) = M5 at F5 r5 p5 q5 w5
  clear F4 N4' r4 p4 q4
  -- the loop forth
  have hsp5 : (sp, listOf xs.toArray sc2) ∈ (D4, listOf zs4.toArray c4) :: (r, listOf racc rc) :: (sp, listOf xs.toArray sc2) :: (L + 5, o5) :: new := .tail _ (.tail _ (.head _))
  have hl5 : Mine.Lists ((D4, listOf zs4.toArray c4) :: (r, listOf racc rc) :: (sp, listOf xs.toArray sc2) :: (L + 5, o5) :: new) xs (Mine.spokes f a b c) := g2.mono fun p hp => .tail _ (.tail _ (.tail _ (.tail _ hp)))
  have N5' : News base L h5 ((r, listOf racc rc) :: (D4, listOf zs4.toArray c4) :: (r, listOf racc rc) :: (sp, listOf xs.toArray sc2) :: (L + 5, o5) :: new) := fun p hp => N5 p (by
    simp only [List.mem_cons] at hp ⊢
    rcases hp with h | h | h | h | h | h <;> simp [h])
  refine wpAny_execs_cons ?_
  refine' onForC B X T F5 N5' p5 w5 hsp5 hl5 hr (by rw [lr]; decide) hE ?_
  intro h6 k6 M6 on6 oacc oc e6 w6 F6 N6 i6
  dsimp only
  rw [Mine.on_eq perm sorted] at i6
  have r6 := (e6 (Str.ofString "row") (by decide) (by decide)).trans r5
  have p6 := (e6 (Str.ofString "spokes") (by decide) (by decide)).trans p5
  have q6 := (e6 (Str.ofString "due") (by decide) (by decide)).trans q5
  clear F5 N5 N5' e6 r5 p5 q5 w5
  -- backward = row
  refine wpAny_execs_cons ?_
  refine' as9C F6 N6 r6 ?_
  intro h7 k7 F7 N7
  dsimp only
  have r7 : (fun y => if y = Str.ofString "backward" then some (Value.ref r) else M6 y) (Str.ofString "row") = some (.ref r) := by
    show (if Str.ofString "row" = Str.ofString "backward" then some (Value.ref r) else M6 (Str.ofString "row")) = _
    rw [if_neg (by decide)]; exact r6
  have p7 : (fun y => if y = Str.ofString "backward" then some (Value.ref r) else M6 y) (Str.ofString "spokes") = some (.ref sp) := by
    show (if Str.ofString "spokes" = Str.ofString "backward" then some (Value.ref r) else M6 (Str.ofString "spokes")) = _
    rw [if_neg (by decide)]; exact p6
  have q7 : (fun y => if y = Str.ofString "backward" then some (Value.ref r) else M6 y) (Str.ofString "due") = some (.ref D4) := by
    show (if Str.ofString "due" = Str.ofString "backward" then some (Value.ref r) else M6 (Str.ofString "due")) = _
    rw [if_neg (by decide)]; exact q6
  have w7 : (fun y => if y = Str.ofString "backward" then some (Value.ref r) else M6 y) (Str.ofString "onward") = some (.ref on6) := by
    show (if Str.ofString "onward" = Str.ofString "backward" then some (Value.ref r) else M6 (Str.ofString "onward")) = _
    rw [if_neg (by decide)]; exact w6
  have b7 : (fun y => if y = Str.ofString "backward" then some (Value.ref r) else M6 y) (Str.ofString "backward") = some (.ref r) := if_pos rfl
  generalize (fun y => if y = Str.ofString "backward" then some (Value.ref r) else M6 y) = M7 at F7 r7 p7 q7 w7 b7
  clear F6 N6 r6 p6 q6 w6
  have hsp7 : (sp, listOf xs.toArray sc2) ∈ (on6, listOf oacc oc) :: (D4, listOf zs4.toArray c4) :: (r, listOf racc rc) :: (sp, listOf xs.toArray sc2) :: (L + 5, o5) :: new := .tail _ hsp5
  have hl7 : Mine.Lists ((on6, listOf oacc oc) :: (D4, listOf zs4.toArray c4) :: (r, listOf racc rc) :: (sp, listOf xs.toArray sc2) :: (L + 5, o5) :: new) xs (Mine.spokes f a b c) := hl5.mono fun p hp => .tail _ hp
  have N7' : News base L h7 ((r, listOf racc rc) :: (on6, listOf oacc oc) :: (D4, listOf zs4.toArray c4) :: (r, listOf racc rc) :: (sp, listOf xs.toArray sc2) :: (L + 5, o5) :: new) := fun p hp => N7 p (by
    simp only [List.mem_cons] at hp ⊢
    rcases hp with h | h | h | h | h | h | h <;> simp [h])
  have hxs : xs.toArray.size ≤ sizeLine := by
    have h1 := g2.length
    have h2 := handedL_le a 2
    have h3 := handedL_le b 3
    have h4 := handedL_le c 5
    rw [sizeLine_eq, List.size_toArray, h1]
    simp only [List.length_append, List.length_map]
    omega
  refine wpAny_execs_cons ?_
  refine' backForC B X T F7 N7' p7 b7 hsp7 hl7 hr (by rw [lr]; decide) hxs hE ?_
  intro h8 k8 M8 ba8 bacc bc e8 b8 F8 N8 i8
  dsimp only
  rw [Mine.back_eq perm sorted] at i8
  have r8 := (e8 (Str.ofString "row") (by decide) (by decide)).trans r7
  have p8 := (e8 (Str.ofString "spokes") (by decide) (by decide)).trans p7
  have q8 := (e8 (Str.ofString "due") (by decide) (by decide)).trans q7
  have w8 := (e8 (Str.ofString "onward") (by decide) (by decide)).trans w7
  clear F7 N7 N7' e8 r7 p7 q7 w7 b7
  have dle : ds.length ≤ 30 := by
    rw [perm.length_eq]
    exact dueRaw_le (Mine.kept_len a 2) (Mine.kept_len b 3) (Mine.kept_len c 5)
  -- the first if
  refine wpAny_execs_cons ?_
  refine' if11C (d1 := on6) (d2 := ba8) (d3 := D4) (x1 := oacc) (x2 := bacc) (x3 := zs4.toArray) (c1 := oc) (c2 := bc) (c3 := c4) (ds := ds) (own := (r, listOf racc rc) :: (sp, listOf xs.toArray sc2) :: (L + 5, o5) :: new) B X T F8 (fun p hp => N8 p (by
    simp only [List.mem_cons] at hp ⊢
    rcases hp with h | h | h | h | h | h | h <;> simp [h])) i6 i8 i4 (by omega) w8 b8 q8 ?_
  intro h9 k9 F9 N9
  dsimp only
  -- gone
  have goff : ∀ p ∈ (sp, listOf xs.toArray sc2) :: (D4, listOf zs4.toArray c4) :: (r, listOf racc rc) :: new, (@Ne Nat p.1 (L + 5)) := by
    intro p hp
    have hD : (@LT.lt Nat _ sp D4) := ltD (sp, listOf xs.toArray sc2) (.head _)
    simp only [List.mem_cons] at hp
    rcases hp with h | h | h | h
    · rw [h]; show (@Ne Nat sp (L + 5)); omega
    · rw [h]; show (@Ne Nat D4 (L + 5)); omega
    · rw [h]; show (@Ne Nat r (L + 5)); omega
    · have := n1 p h; omega
  have gsz : (Mine.spokes f a b c).flatten.length ≤ 1000 := Nat.le_trans (Mine.gone_len f a b c) (by decide)
  refine wpAny_execs_cons ?_
  refine' goneC (xs := xs) (sc := sc2) (nss := Mine.spokes f a b c) (own := (D4, listOf zs4.toArray c4) :: (r, listOf racc rc) :: new) B X T F9 (fun p hp => N9 p (by
    simp only [List.mem_cons] at hp ⊢
    rcases hp with h | h | h | h | h <;> simp [h])) d5 p8 (g2.mono fun p hp => .tail _ (.tail _ hp)) gsz goff ?_
  intro h10 k10 G gz gc o5' F10 N10 d5' i10 lt10
  dsimp only
  -- the second if
  have N10' : News base L h10 ((r, listOf racc.toList.toArray rc) :: (D4, listOf zs4.toArray c4) :: (G, listOf gz.toArray gc) :: (L + 5, o5') :: new) := fun p hp => N10 p (by
    simp only [List.mem_cons, Array.toArray_toList] at hp ⊢
    rcases hp with h | h | h | h | h <;> simp [h])
  refine wpAny_execs_cons ?_
  refine' if13C (rs := rangeInts f 1 30) (ds := ds) (gs := (Mine.spokes f a b c).flatten) B X T F10 N10' hr i4 i10 (by omega) (by omega) gsz r8 q8 d5' (Mine.both_eq perm sorted) ?_
  intro h11 k11 F11 N11
  dsimp only
  -- return
  refine wpAny_execs_cons ?_
  refine' ret14C (rs := rangeInts f 1 30) (ds := ds) (gs := (Mine.spokes f a b c).flatten) B X T F11 N11 hr i4 i10 (by omega) (by omega) gsz r8 q8 d5' (Mine.gone_eq perm sorted) ?_
  intro h12 k12 F12
  dsimp only
  exact hQ h12 k12 M8 F12
set_option maxHeartbeats 8000000 in
theorem lawTailN {w : World} {mean : ExcName → Option Value} {mg mb : Str → Option Value} {base : Heap} {L fa r mk : Addr} {cdv : Value} {M : Str → Option Value} {s : Shared} {Q : Flow → Shared → Prop} {E : Value → Shared → Prop} {racc : Array Value} {rc mc : Nat} {f a b c : Int} {tf ta tb tc : Tok} {o1 o2 o3 o4 o5 : Obj} {news : List (Addr × Obj)}
   (B : Below callerA base [] base) (X : (hd.heap_39 w.params).In base) (T : Top hd.view_39 (looseW hd.view_39 [Str.ofString "filterfalse"]) mean mg mb base)
   (F : Fr base L s.heap M) (N : News base L s.heap news) (nr : (r, listOf racc rc) ∈ news) (nm : (mk, listOf #[.int a ta, .int b tb, .int c tc] mc) ∈ news) (n5 : (L + 5, o5) ∈ news) (n4 : (L + 4, o4) ∈ news) (n3 : (L + 3, o3) ∈ news) (n2 : (L + 2, o2) ∈ news) (n1 : (L + 1, o1) ∈ news)
   (m1 : M (Str.ofString "row") = some (.ref r)) (m2 : M (Str.ofString "marks") = some (.ref mk))
   (d1 : o1.data = .cell (some (.int f tf))) (d2 : o2.data = .cell none) (d3 : o3.data = .cell none) (d4 : o4.data = .cell none) (d5 : o5.data = .cell none)
   (hr : IntsAre racc.toList (rangeInts f 1 30)) (l1 : @LT.lt Nat _ (L + 5) mk) (l2 : @LT.lt Nat _ mk r)
   (hE : PassesOwn (model PySem.Challenge.rw_ij0194_01.row.prog w) (callerA.deeper (lawEnv L fa cdv)) (lawEnv L fa cdv) E)
   (hQ : ∀ h tk M', Fr base L h M' → Q (.ret (.bool true)) { s with heap := h, toks := tk }) :
   wpAny (model PySem.Challenge.rw_ij0194_01.row.prog w) (callerA.deeper (lawEnv L fa cdv)) (execs (lawFD.1.drop 3) (lawEnv L fa cdv)) Q E s :=
  lawTail B X T F (fun p hp => N p (by
    simp only [List.mem_cons, List.not_mem_nil, or_false] at hp
    rcases hp with h | h | h | h | h | h | h <;> (rw [h]; assumption))) m1 m2 d1 d2 d3 d4 d5 hr l1 l2 hE hQ

end TextA1
section TextL1
set_option maxRecDepth 100000
open PySem PySem.W PySem.Calls PyProof.Rows
local macro_rules | `(tactic| walk_at "execs cons") => `(tactic| ((with_reducible show wpAny _ _ (execs (Stmt.Assign [Expr.Name (PySem.Str.ofString "spokes") _] _ _ :: _) _) _ _ _); refine Hold.out ?_))
local macro_rules | `(tactic| walk_at "eval Name") => `(tactic| (k_here; k_dflt (refine' nameX_L ?k1 ?k2 ?_; (case k1 => k_asm); (case k2 => assumption); k_whole)))
local macro_rules | `(tactic| walk_at "subscriptTail Name Slice ref ref") => `(tactic| (k_here; (with_reducible show wpAny _ _ (subscriptTail _ (PySem.Expr.Slice _ _ none _) (Value.ref _) (Value.ref _)) _ _ _); k_dflt (refine' kmk_slice_ints ?F ?N ?l ?p ?q ?i ?m ?c ?_ ?s ?t ?z; (case F => k_asm); (case N => k_asm); (case l => kmk_list); (case p => kmk_part); (case q => kmk_part); (case i => l_ints); (case m => first | exact kmk_from (by l_ints) (Int.natCast_nonneg _) | exact kmk_run (by l_ints) (by decide) (by decide) | kmk_nums); (case c => kmk_len); (case s => with_unfolding_all rfl); (case t => kmk_pure); (case z => kmk_size)); intro D' ws' h' F' N' l1 hI' hC' hL'; (try simp only [Int.reduceNeg, Int.neg_neg, Int.reduceToNat] at hI' hC' hL'); (try k_lt l1); (try k_sweep)))
theorem rs30 (a : Int) : Builtin.Range.rangeSize a (a + 30) 1 = ((30 : Nat) : Int) := by
  rw [rangeSize_one]
  split <;> omega
local macro_rules | `(tactic| walk_at "call type:list") => `(tactic| (k_here; (with_reducible show wpAny _ _ (call (Value.type _) [Value.ref _]) _ _ _); (rename IsRange _ _ _ _ _ _ _ _ => rgX); k_dflt (refine' Mine.list_rangeN ?hh ?F ?N rgX ?n ?l ?_; (case hh => rfl); (case F => k_asm); (case N => k_asm); (case n => exact rs30 _); (case l => decide)); intro D' h' tk' acc' c' F' N' hi' l1; (try k_lt l1); (try k_sweep)))
theorem ints_three {vs : List Value} {ns : List Int} (h : IntsAre vs ns) (hl : ns.length = 3) : ∃ a ta b tb c tc, vs = [Value.int a ta, Value.int b tb, Value.int c tc] := by
  cases h with
  | nil => cases hl
  | cons a ta h =>
  cases h with
  | nil => cases hl
  | cons b tb h =>
  cases h with
  | nil => cases hl
  | cons c tc h =>
  cases h with
  | nil => exact ⟨a, ta, b, tb, c, tc, rfl⟩
  | cons d td h => simp at hl
set_option maxHeartbeats 8000000 in
theorem lawA {w : World} {mean : ExcName → Option Value} {mg mb : Str → Option Value} {base : Heap} {L fa l : Addr} {cdv : Value} {m₀ : Str → Option Value} {s : Shared} {Q : Flow → Shared → Prop} {E : Value → Shared → Prop} {vs : List Value} {xs : List Int} {o1 o2 o3 o4 o5 : Obj}
   (B : Below callerA base [] base) (X : (hd.heap_39 w.params).In base) (T : Top hd.view_39 (looseW hd.view_39 [Str.ofString "filterfalse"]) mean mg mb base)
   (hl : base.IsList l vs.toArray) (hi : IntsAre vs xs) (hx : xs.length ≤ 1000) (F : Fr base L s.heap m₀) (N : News base L s.heap [(L + 5, o5), (L + 4, o4), (L + 3, o3), (L + 2, o2), (L + 1, o1)])
   (d1 : o1.data = .cell none) (d2 : o2.data = .cell none) (d3 : o3.data = .cell none) (d4 : o4.data = .cell none) (d5 : o5.data = .cell none)
   (hs : m₀ (Str.ofString "script") = some (.ref l))
   (hE : PassesOwn (model PySem.Challenge.rw_ij0194_01.row.prog w) (callerA.deeper (lawEnv L fa cdv)) (lawEnv L fa cdv) E)
   (hQ : ∀ h tk M', Fr base L h M' → Q (.ret (.bool true)) { s with heap := h, toks := tk }) :
   wpAny (model PySem.Challenge.rw_ij0194_01.row.prog w) (callerA.deeper (lawEnv L fa cdv)) (execs lawFD.1 (lawEnv L fa cdv)) Q E s := by
  revert X
  k_fill
  intro X
  unfold lawEnv lawFD PySem.Challenge.pw_ij0194_01
  dsimp only
  k_steps
  unfold Hold
  rename Fr _ _ _ _ => F9
  rename News _ _ _ _ => N9
  rename IntsAre (Array.toList _) (rangeInts _ _ _) => hr9
  rename IntsAre _ (List.take _ _ ++ _) => hm9
  rename Obj.data _ = Data.cell (some (Value.int _ _)) => d9
  rename _ ∧ _ => l9
  have lmr := l9.1
  clear l9
  rename _ ∧ _ => l8
  have lLm := l8.2.2.2.2.2.2.1
  have hl3 : (List.take (min 4 xs.length - 1) (List.drop 1 xs) ++ List.drop (((List.take (min 4 xs.length - 1) (List.drop 1 xs)).length : Int)).toNat [(1 : Int), 2, 20]).length = 3 := by
    simp only [List.length_append, List.length_drop, List.length_take, Int.toNat_natCast, List.length_cons, List.length_nil]
    omega
  obtain ⟨a, ta, b, tb, c, tc, e⟩ := ints_three hm9 hl3
  subst e
  refine' lawTailN (a := a) (b := b) (c := c) (ta := ta) (tb := tb) (tc := tc) (mc := 0) B X T F9 N9 (.head _) (.tail _ (.head _)) (by repeat (first | exact List.Mem.head _ | apply List.Mem.tail)) (by repeat (first | exact List.Mem.head _ | apply List.Mem.tail)) (by repeat (first | exact List.Mem.head _ | apply List.Mem.tail)) (by repeat (first | exact List.Mem.head _ | apply List.Mem.tail)) (by repeat (first | exact List.Mem.head _ | apply List.Mem.tail)) (if_pos rfl) ((if_neg (by decide)).trans (if_pos rfl)) d9 d2 d3 d4 d5 hr9 lLm lmr hE ?_
  intro h tk M' F1
  exact hQ h tk M' F1

end TextL1
section TextW1
set_option maxRecDepth 100000
open PySem PySem.W PySem.Calls PyProof.Rows
local macro_rules | `(tactic| walk_at "execs cons") => `(tactic| refine Hold.out ?_)
set_option maxHeartbeats 8000000 in
theorem main_holds : PySem.Challenge.rw_ij0194_01.Holds := hd (by
  k_go0
  k_fold
  rename Fr _ _ _ _ => F9
  rename News _ _ _ _ => N9
  rename Below _ _ _ _ => B9
  rename Top _ _ _ _ _ _ => T9
  rename Heap.IsList _ _ _ => hl9
  rename IntsAre _ _ => hi9
  rename Frag.In _ _ => X9
  refine' lawA B9 X9 T9 hl9 hi9 ?hx F9 N9 ?d1 ?d2 ?d3 ?d4 ?d5 ?hs ?hE ?hQ
  case hx => omega
  case d1 => assumption
  case d2 => assumption
  case d3 => assumption
  case d4 => assumption
  case d5 => assumption
  case hs => rfl
  case hE => passes_own
  case hQ =>
    intro h tk M' F1
    k_steps)

end TextW1
end Mine
theorem PySem.Challenge.cw_ij0194_01_holds : PySem.Challenge.rw_ij0194_01.Holds :=
  Mine.main_holds
