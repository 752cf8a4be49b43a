import PyProof.Rows.All
import Wide.All
import OpenK.AllK
import Wide.FinOn
import KE.KIntText
import KE.KxPercent
import KE.BitLaws
import KE.KItem
import KE.KItemAt
import Lean
import PySem.Challenge.RW_ez0285_01
set_option Elab.async false
set_option linter.all false

/- text My1 -/
section
set_option maxRecDepth 100000
namespace Mine
open PySem PySem.W PySem.Calls PyProof.Rows Builtin Builtin.ObjectAttr

section
variable {prog : Program} {w : World} {A : Around} {E : Value → Shared → Prop} {s : Shared} {K : Frag} {x C f L : Addr} {ox : Obj} {name : Str} {expr : Bool} {h₀ : Heap} {m : Str → Option Value} {news : List (Addr × Obj)} {es : List DictEntry} {n : Nat}

/-- an own field of an instance whose class has a `__getattr__` of its own: the hook is not asked -/
theorem own_hook {v : Value} {Q : Value → Shared → Prop} {attr : Option Value} (F : Fr h₀ L s.heap m) (X₀ : K.In h₀) (I : InstAt s.heap x ox C (some (dictOf es n))) (hg : findIn K (.ref C) "__getattribute__" = some (some (.builtin "object.__getattribute__"))) (hh : hasDictIn K C = true)
    (ha : findIn K (.ref C) name = some attr) (hn : noGet K attr = true) (hl : getL name es = some (some v)) (hv : handedIn v = true) (h : Q v { s with toks := s.toks + 1 }) :
    wpAny (model prog w) A (getAttr (.ref x) name expr) Q E s :=
  get_value (X₀.keeps F.keep) I hg (findObj_own hh ha hn hl) hv h

theorem bind_hook {od : Option Obj} {g a hook : Value} {Q : Value → Shared → Prop} (X : K.In s.heap) (I : InstAt s.heap x ox C od) (hga : findIn K (.ref C) "__getattribute__" = some (some (.builtin "object.__getattribute__")))
    (hf : findObj K C od name = some (.bind g a)) (hk : findIn K (.ref C) "__getattr__" = some (some hook))
    (h : wpAny (model prog w) A.in1 (call g [a, .ref x, .ref C]) (fun v s' => wpAny (model prog w) A (handedOut v) Q E s') (fun _ _ => False) { s with toks := s.toks + 1 }) :
    wpAny (model prog w) A (getAttr (.ref x) name expr) Q E s := by
  refine get_open X I hga ?_
  obtain ⟨hh', gg, d, t, os⟩ := s
  have L0 := I.type (M := model prog w)
  have L1 := looks_find (M := model prog w) X I hf
  have L2 := looks_findIn (M := model prog w) X hk
  refine wpAny_bind (wpAny_pure (wpAny_bind (L0.at (wpAny_bind (L1.at (wpAny_bind (L2.at ?_)))))))
  show wpAny _ _ (bindOrHook _ _ _ _ _ _) _ _ _
  unfold bindOrHook
  refine wpAny_bind (wpAny_attempt (wpAny_holding ?_))
  show wpAny _ _ (holding [a] (call g [a, .ref x, .ref C]) >>= ret) _ _ _
  exact wpAny_bind (wpAny_holding (wpAny_mono h (fun v s' z => wpAny_pure (wpAny_pure z)) fun _ _ z => z.elim))

theorem fn_hook {hook : Value} {Q : Value → Shared → Prop} (F : Fr h₀ L s.heap m) (X₀ : K.In h₀) (N : News h₀ L s.heap news) (I : InstAt s.heap x ox C (some (dictOf es n))) (hg : findIn K (.ref C) "__getattribute__" = some (some (.builtin "object.__getattribute__"))) (hk : findIn K (.ref C) "__getattr__" = some (some hook)) (hh : hasDictIn K C = true) (ha : findIn K (.ref C) name = some (some (.ref f))) (hf : isFn K (.ref f) = true)
    (hgf : specialIn K (.ref f) "__get__" = some (some (.builtin "function.__get__"))) (ht : takesIn K (.ref f) = some false) (hc : copiedNames.contains name = false) (hl : getL name es = some none)
    (h : ∀ q h', Fr h₀ L h' m → News h₀ L h' ((q, methodObj (.ref f) (.ref x)) :: news) → (∀ p ∈ news, p.1 < q) → Q (.ref q) { s with heap := h', toks := s.toks + 1 }) : wpAny (model prog w) A (getAttr (.ref x) name expr) Q E s :=
  bind_hook (X₀.keeps F.keep) I hg (findObj_fn hh ha hgf ht hc (by show lookIn name (dictOf es n) = _; rw [lookIn_dict, hl])) hk
    (wpAny_call (fn_get (s := { s with toks := s.toks + 1 }) (X₀.keeps F.keep) (beq_iff_eq.mp hf) (handed_on rfl (h s.heap.objs.size _ (F.push _) (N.push F _) fun p hp => Heap.lt_size (N p hp).1))))

/-- a method of an instance whose class has a `__getattr__` of its own: a bound method is made -/
theorem meth_hook {hook : Value} {pl : Sem Bool} {Q : Value × List Value → Shared → Prop} (F : Fr h₀ L s.heap m) (X₀ : K.In h₀) (N : News h₀ L s.heap news) (I : InstAt s.heap x ox C (some (dictOf es n))) (hg : findIn K (.ref C) "__getattribute__" = some (some (.builtin "object.__getattribute__"))) (hk : findIn K (.ref C) "__getattr__" = some (some hook)) (hh : hasDictIn K C = true) (ha : findIn K (.ref C) name = some (some (.ref f))) (hf : isFn K (.ref f) = true)
    (hgf : specialIn K (.ref f) "__get__" = some (some (.builtin "function.__get__"))) (ht : takesIn K (.ref f) = some false) (hc : copiedNames.contains name = false) (hl : getL name es = some none)
    (h : ∀ q h', Fr h₀ L h' m → News h₀ L h' ((q, methodObj (.ref f) (.ref x)) :: news) → (∀ p ∈ news, p.1 < q) → Q (.ref q, []) { s with heap := h', toks := s.toks + 1 }) : wpAny (model prog w) A (getMethod (.ref x) name pl) Q E s := by
  have hcan := PySem.F.canon_object_ga
  have X := X₀.keeps F.keep
  unfold getMethod specialOf
  refine wpAny_bind (wpAny_bind (I.type.here ((looks_findIn X hg).here ?_)))
  dsimp only
  rw [hcan, if_neg (by decide)]
  refine wpAny_bind (wpAny_bind (I.type.here ((looks_findIn X hk).here ?_)))
  show wpAny _ _ (do return (← getAttr (.ref x) name, ([] : List Value))) _ _ _
  refine wpAny_bind (fn_hook (Q := fun v s' => wpAny (model prog w) A (pure (v, ([] : List Value))) Q E s') F X₀ N I hg hk hh ha hf hgf ht hc hl ?_)
  exact fun q h' F' N' l => wpAny_pure (h q h' F' N' l)

theorem prop_hook {hook : Value} {Q : Value → Shared → Prop} {p fget : Addr} {rest : List Value} {od : Obj} (F : Fr h₀ L s.heap m) (X₀ : K.In h₀) (I : InstAt s.heap x ox C (some od)) (hg : findIn K (.ref C) "__getattribute__" = some (some (.builtin "object.__getattribute__"))) (hk : findIn K (.ref C) "__getattr__" = some (some hook)) (hh : hasDictIn K C = true)
    (ha : findIn K (.ref C) name = some (some (.ref p))) (hn : specialIn K (.ref p) "__get__" = some (some (.builtin "property.__get__"))) (ht : takesIn K (.ref p) = some true) (hp : recIn K p "property" = some (.ref fget :: rest))
    (h : codeAny (model prog w) A.in1 (.call (.ref fget) ⟨[.ref x], []⟩) (fun r s' => match r with | .ok (.ret v) => wpAny (model prog w) A (handedOut v) Q E s' | .ok _ => False | .error _ => False) { s with toks := s.toks + 1 }) :
    wpAny (model prog w) A (getAttr (.ref x) name expr) Q E s :=
  bind_hook (X₀.keeps F.keep) I hg (findObj_data (by obtain ⟨cd, hc, _⟩ := any_some hh; rw [hc]; rfl) ha hn ht) hk (wpAny_call (prop_get (s := { s with toks := s.toks + 1 }) (X₀.keeps F.keep) hp (codeAny_mono h fun r s' z => by
    rcases r with e | (_ | _ | _ | _) <;> exact z)))
end
end Mine
namespace Mine
open PySem PySem.W PySem.Calls PyProof.Rows
section
variable {prog : Program} {w : World} {A : Around} {E : Value → Shared → Prop} {s : Shared} {L : Addr} {h₀ : Heap} {news : List (Addr × Obj)}
/-- a list of texts in the ledger, joined -/
theorem join_led {x : Str} {t : Tok} {l : Addr} {tl : List (Str × Tok)} {e : Nat} {Q : Value → Shared → Prop} (N : News h₀ L s.heap news) (hm : (l, PySem.W.listOf (strValues tl).toArray e) ∈ news) (hok : JoinOk x (tl.map (·.1)) = true)
    (hq : ∀ t' k, Q (.str (Txt.join x (tl.map (·.1))) t') { s with toks := k }) : wpAny (model prog w) A (call (.builtin "str.join") [.str x t, .ref l]) Q E s :=
  SC.join (N.isList hm) rfl hok hq
end
end Mine
end

/- text My2 -/
section
set_option maxRecDepth 100000
namespace Mine
open PySem PySem.W PySem.Calls PyProof.Rows Builtin
open Sem (wp)

namespace FM
theorem slot_map_init : Slot "map" "__init__" "object.__init__" :=
  .of (owner := "object") (n := "__init__") (by rw [typeLookup_type, builtinLookup_eq_fast]; kernel_rfl) (by decide +kernel) (by decide +kernel) (by decide +kernel)
    (by first | exact .inl (by decide +kernel) | exact .inr (by decide +kernel)) (by rw [isSubtype_type]; kernel_rfl)
theorem slot_map_iter : Slot "map" "__iter__" "map.__iter__" :=
  .of (owner := "map") (n := "__iter__") (by rw [typeLookup_type, builtinLookup_eq_fast]; kernel_rfl) (by decide +kernel) (by decide +kernel) (by decide +kernel)
    (by first | exact .inl (by decide +kernel) | exact .inr (by decide +kernel)) (by rw [isSubtype_type]; kernel_rfl)
theorem slot_map_next : Slot "map" "__next__" "map.__next__" :=
  .of (owner := "map") (n := "__next__") (by rw [typeLookup_type, builtinLookup_eq_fast]; kernel_rfl) (by decide +kernel) (by decide +kernel) (by decide +kernel)
    (by first | exact .inl (by decide +kernel) | exact .inr (by decide +kernel)) (by rw [isSubtype_type]; kernel_rfl)
theorem args_map_iter (a : Value) : argsOk "map.__iter__" ⟨[a], []⟩ := by unfold argsOk; kernel_rfl
theorem args_map_next (a : Value) : argsOk "map.__next__" ⟨[a], []⟩ := by unfold argsOk; kernel_rfl
theorem entry_map_iter : entryFor table "map.__iter__" = some Builtin.«dict_keyiterator.__iter__» :=
  entryFor_alias (id' := "dict_keyiterator.__iter__") (by kernel_rfl) (by first | rfl | decide +kernel | (unfold String.splitOn; simp +decide [String.splitOnAux])) (by decide +kernel) (by kernel_rfl)
theorem entry_map_next : entryFor table "map.__next__" = some Builtin.«map.__next__» := entryFor_of_tree (by kernel_rfl)
theorem entry_map_new : entryFor table "map.__new__" = some Builtin.«map.__new__» := entryFor_of_tree (by kernel_rfl)
theorem mro_map : mroOf (.type "map") = pure [.type "map", .type "object"] := by rw [mroOf_type]; kernel_rfl
theorem lookup_map_new : typeLookup (.type "map") "__new__" = pure (some (.builtin "map.__new__")) := by rw [typeLookup_type, builtinLookup_eq_fast]; kernel_rfl
theorem called_map : TypeCalled "map" "map.__new__" "object.__init__" :=
  ⟨by decide +kernel, by decide +kernel, ⟨_, _, mro_map⟩, madeBy_type mro_map lookup_map_new (by decide +kernel), by decide +kernel, by rw [isSubtype_type]; kernel_rfl, slot_map_init⟩
theorem typeCall_map_2 (a b : Value) : checkTypeCall "map" ⟨[a, b], []⟩ = pure () := by kernel_rfl
theorem newCall_map_2 (a b : Value) : checkBuiltinCall "map.__new__" ⟨[.type "map", a, b], []⟩ = pure () := by kernel_rfl
theorem sub_map : isSubtype (.type "map") (.type "map") = pure true := by rw [isSubtype_type]; kernel_rfl
theorem args_object_init_3 (o a b : Value) : argsOk "object.__init__" ⟨[o, a, b], []⟩ := by unfold argsOk; kernel_rfl
theorem entry_reduce : entryFor table "_functools.reduce" = some Builtin.«_functools.reduce» := entryFor_of_tree (by kernel_rfl)
theorem entry_loop : entryFor table "_functools.reduce.loop" = some Builtin.«_functools.reduce.loop» := entryFor_of_tree (by kernel_rfl)
theorem entry_xor : entryFor table "_operator.xor" = some Builtin.«_operator.xor» := entryFor_of_tree (by kernel_rfl)
end FM
end Mine
end

/- text My3 -/
section
set_option maxRecDepth 100000
namespace Mine
open PySem PySem.W PySem.Calls PyProof.Rows Builtin
open Sem (wp)

theorem meets_map_new (f : Value) (x : Str) (t : Tok) :
    Meets (Builtin.«map.__new__» ⟨[.type "map", f, .str x t], []⟩) (fun _ R s =>
      R (.ok (.ret (.ref ((s.heap.push { cls := .type (strIterType x), data := .fields #[.str x t, .int 0 0] }).push { cls := .type "tuple", data := .seq #[.ref s.heap.objs.size] }).objs.size)))
        { s with heap := ((s.heap.push { cls := .type (strIterType x), data := .fields #[.str x t, .int 0 0] }).push { cls := .type "tuple", data := .seq #[.ref s.heap.objs.size] }).push { cls := .type "map", data := .fields #[.ref (s.heap.push { cls := .type (strIterType x), data := .fields #[.str x t, .int 0 0] }).objs.size, f] } }) :=
  .of_wp fun prog w A R s h => by
    obtain ⟨hp, g, d, tk, os⟩ := s
    have hsub := FM.sub_map
    unfold Builtin.«map.__new__» SmallTypes.newClass
    refine wpAny_bind ?_
    dsimp only
    refine wpAny_bind ?_
    refine wpAny_of_eq (a := true) rfl ?_
    rw [if_neg (by decide)]
    refine wpAny_bind ?_
    rw [hsub]
    refine wpAny_pure ?_
    rw [if_neg (by decide)]
    refine wpAny_pure ?_
    refine wpAny_bind ?_
    refine wpAny_of_eq (a := ()) rfl ?_
    rw [if_neg (by simp)]
    refine wpAny_bind ?_
    unfold SmallTypes.iterAll
    dsimp only [List.drop]
    simp only [List.forIn_cons, List.forIn_nil]
    refine wpAny_bind (wpAny_bind (wpAny_bind (wpAny_holding (wpAny_pyIter_strU (wpAny_pure (wpAny_pure (wpAny_pure ?_)))))))
    refine wpAny_bind ?_
    unfold newTuple
    refine wpAny_newObj_type ?_ (show (1 : Nat) ≤ sizeLine from Nat.le_of_ble_eq_true rfl)
    refine wpAny_bind ?_
    unfold SmallTypes.newRecord
    refine wpAny_newObj_type ?_ (by size_fits)
    exact wpAny_pure ⟨_, rfl, h⟩

section
variable {prog : Program} {w : World} {A : Around} {E : Value → Shared → Prop} {s : Shared}

/-- a map over the signs of a text stands at mp, its next sign's number i -/
structure MapAt (h : Heap) (mp tp it : Addr) (f : Value) (x : Str) (t : Tok) (i : Nat) : Prop where
  recd : ∃ o, h.get? mp = some o ∧ o.cls = .type "map" ∧ o.data = .fields #[.ref tp, f]
  tup : ∃ o n, h.get? tp = some o ∧ o.data = .seq #[.ref it] n
  iter : h.IsStrIter it "str_ascii_iterator" x t i

theorem call_map {f : Value} {x : Str} {t : Tok} {Q : Value → Shared → Prop} (ha : x.cps.all (· < 128) = true)
    (h : ∀ h', MapAt h' (s.heap.objs.size + 2) (s.heap.objs.size + 1) s.heap.objs.size f x t 0 → h'.objs.size = s.heap.objs.size + 3 →
      (∀ b o, s.heap.get? b = some o → h'.get? b = some o) → Q (.ref (s.heap.objs.size + 2)) { s with heap := h' }) :
    wpAny (model prog w) A (call (.type "map") [f, .str x t]) Q E s := by
  refine callType_new FM.called_map (by decide) (FM.typeCall_map_2 _ _) (FM.newCall_map_2 _ _) (fun obj => FM.args_object_init_3 obj _ _) FM.entry_map_new
    (meets_map_new f x t) ?_
  have hz : (s.heap.push { cls := .type (strIterType x), data := .fields #[.str x t, .int 0 0] }).objs.size = s.heap.objs.size + 1 := Heap.size_push ..
  have hz2 : ((s.heap.push { cls := .type (strIterType x), data := .fields #[.str x t, .int 0 0] }).push { cls := .type "tuple", data := .seq #[.ref s.heap.objs.size] }).objs.size = s.heap.objs.size + 2 := by rw [Heap.size_push, hz]
  show _ ∧ _
  rw [hz2, hz]
  have hs : strIterType x = "str_ascii_iterator" := by unfold strIterType; rw [if_pos ha]
  have e0 : (((s.heap.push { cls := .type (strIterType x), data := .fields #[.str x t, .int 0 0] }).push { cls := .type "tuple", data := .seq #[.ref s.heap.objs.size] }).push { cls := .type "map", data := .fields #[.ref (s.heap.objs.size + 1), f] }).get? s.heap.objs.size = some { cls := .type (strIterType x), data := .fields #[.str x t, .int 0 0] } :=
    Heap.get?_push_of_some _ (Heap.get?_push_of_some _ (Heap.get?_push_size _ rfl))
  have e1 : (((s.heap.push { cls := .type (strIterType x), data := .fields #[.str x t, .int 0 0] }).push { cls := .type "tuple", data := .seq #[.ref s.heap.objs.size] }).push { cls := .type "map", data := .fields #[.ref (s.heap.objs.size + 1), f] }).get? (s.heap.objs.size + 1) = some { cls := .type "tuple", data := .seq #[.ref s.heap.objs.size] } := by
    have := Heap.get?_push_of_some { cls := .type "map", data := .fields #[.ref (s.heap.objs.size + 1), f] } (Heap.get?_push_size (s.heap.push { cls := .type (strIterType x), data := .fields #[.str x t, .int 0 0] }) (o := { cls := .type "tuple", data := .seq #[.ref s.heap.objs.size] }) rfl)
    rwa [hz] at this
  have e2 : (((s.heap.push { cls := .type (strIterType x), data := .fields #[.str x t, .int 0 0] }).push { cls := .type "tuple", data := .seq #[.ref s.heap.objs.size] }).push { cls := .type "map", data := .fields #[.ref (s.heap.objs.size + 1), f] }).get? (s.heap.objs.size + 2) = some { cls := .type "map", data := .fields #[.ref (s.heap.objs.size + 1), f] } := by
    have := Heap.get?_push_size ((s.heap.push { cls := .type (strIterType x), data := .fields #[.str x t, .int 0 0] }).push { cls := .type "tuple", data := .seq #[.ref s.heap.objs.size] }) (o := { cls := .type "map", data := .fields #[.ref (s.heap.objs.size + 1), f] }) rfl
    rwa [hz2] at this
  refine ⟨⟨_, e2, rfl⟩, h _ ⟨⟨_, e2, rfl, rfl⟩, ⟨_, _, e1, rfl⟩, ⟨_, e0, by rw [hs], rfl⟩⟩ (by rw [Heap.size_push, hz2]) fun b o x => Heap.get?_push_of_some _ (Heap.get?_push_of_some _ (Heap.get?_push_of_some _ x))⟩

theorem MapAt.typeIs {mp tp it : Addr} {f : Value} {x : Str} {t : Tok} {i : Nat} (H : MapAt s.heap mp tp it f x t i) : s.TypeIs (.ref mp) "map" := let ⟨o, a, b, _⟩ := H.recd; ⟨o, a, b⟩

theorem pyIter_map {mp tp it : Addr} {f : Value} {x : Str} {t : Tok} {i : Nat} {Q : Value → Shared → Prop} (H : MapAt s.heap mp tp it f x t i) (h : Q (.ref mp) s) : wpAny (model prog w) A (pyIter (.ref mp)) Q E s := by
  have hT := H.typeIs
  refine wpAny_pyIter_slot hT FM.slot_map_iter (wpAny_call_entry FM.slot_map_iter hT FM.entry_map_iter ?_ (FM.args_map_iter _))
  show wpAny _ _ (ret (.ref mp)) _ _ s
  exact wpAny_pure ⟨_, rfl, "map", _, hT, FM.slot_map_next.lookup, h⟩

theorem MapAt.next {mp tp it : Addr} {f : Value} {x : Str} {t : Tok} {i j : Nat} {h h' : Heap} (H : MapAt h mp tp it f x t i) (hm : mp ≠ it) (ht : tp ≠ it) (hi : h'.IsStrIter it "str_ascii_iterator" x t j) (hs : Heap.SameBut it h h') : MapAt h' mp tp it f x t j where
  recd := let ⟨o, a, b⟩ := H.recd; ⟨o, (hs.2 mp hm).trans a, b⟩
  tup := let ⟨o, n, a, b⟩ := H.tup; ⟨o, n, (hs.2 tp ht).trans a, b⟩
  iter := hi

theorem pyNext_map_item {mp tp it : Addr} {x : Str} {t : Tok} {i c : Nat} {Q : Option Value → Shared → Prop} (H : MapAt s.heap mp tp it (.builtin "ord") x t i) (hm : mp ≠ it) (hx : x.cps[i]? = some c)
    (hQ : ∀ h' u k, h'.IsStrIter it "str_ascii_iterator" x t (i + 1) → Heap.SameBut it s.heap h' → Q (some (.int c u)) { s with heap := h', toks := k }) :
    wpAny (model prog w) A (pyNext (.ref mp)) Q E s := by
  have hT := H.typeIs
  obtain ⟨o, ho, hc, hd⟩ := H.recd
  obtain ⟨o2, n2, ho2, hd2⟩ := H.tup
  unfold pyNext
  refine wpAny_bind (wpAny_attempt (wpAny_callSpecial?_slot (name := Str.ofString "__next__") hT FM.slot_map_next
    (wpAny_call_entry FM.slot_map_next hT FM.entry_map_next ?_ (FM.args_map_next _))))
  show wpAny _ _ (field (.ref mp) 0 >>= _) _ _ s
  refine wpAny_bind (wpAny_field ho hd (x := .ref tp) rfl ?_)
  refine wpAny_bind (wpAny_seqItems ho2 hd2 ?_)
  dsimp only
  refine wpAny_bind ?_
  rw [← Array.forIn_toList]
  simp only [List.forIn_cons, List.forIn_nil]
  refine wpAny_bind (wpAny_bind (wpAny_holding (wpAny_nextOf_ascii_item H.iter hx fun h' hi' hs' => wpAny_pure (wpAny_pure ?_))))
  have ho' := (hs'.2 mp hm).trans ho
  refine wpAny_bind (wpAny_field ho' hd (x := .builtin "ord") rfl (wpAny_bind (wpAny_holding (P.ord_of_char ?_))))
  refine wpAny_bind (wpAny_letGo ?_)
  exact wpAny_pure ⟨_, rfl, wpAny_pure (hQ _ _ _ hi' hs')⟩

theorem pyNext_map_end {mp tp it : Addr} {x : Str} {t : Tok} {i : Nat} {f : Value} {Q : Option Value → Shared → Prop} (hh : A.handled = none) (H : MapAt s.heap mp tp it f x t i) (hx : x.cps[i]? = none)
    (hQ : ∀ h', Heap.ExtBut it s.heap h' → Q none { s with heap := h' }) :
    wpAny (model prog w) A (pyNext (.ref mp)) Q E s := by
  have hT := H.typeIs
  obtain ⟨o, ho, hc, hd⟩ := H.recd
  obtain ⟨o2, n2, ho2, hd2⟩ := H.tup
  unfold pyNext
  refine wpAny_bind (wpAny_attempt (wpAny_callSpecial?_slot (name := Str.ofString "__next__") hT FM.slot_map_next
    (wpAny_call_entry FM.slot_map_next hT FM.entry_map_next ?_ (FM.args_map_next _))))
  show wpAny _ _ (field (.ref mp) 0 >>= _) _ _ s
  refine wpAny_bind (wpAny_field ho hd (x := .ref tp) rfl ?_)
  refine wpAny_bind (wpAny_seqItems ho2 hd2 ?_)
  dsimp only
  refine wpAny_bind ?_
  rw [← Array.forIn_toList]
  simp only [List.forIn_cons, List.forIn_nil]
  refine wpAny_bind (wpAny_bind (wpAny_holding (wpAny_nextOf_ascii_end hh H.iter hx fun h' e he hx' => ?_)))
  obtain ⟨o, ho, hc⟩ := hx'
  refine wpAny_bind (wpAny_isInstance (T := "StopIteration") (b := true) ⟨o, ho, hc⟩ isSubtype_stop ?_)
  exact wpAny_pure (hQ _ he)
end
end Mine
end

/- text My4 -/
section
set_option maxRecDepth 100000
namespace Mine
open PySem PySem.W PySem.Calls PyProof.Rows Builtin
open Sem (wp)

/-- the signs of a text, folded by xor -/
def xorFrom (r : Int) : List Nat → Int
  | [] => r
  | c :: cs => xorFrom (Builtin.bitXor r c) cs

namespace FM
theorem plain_loop : plainId "_functools.reduce.loop" = true := by decide +kernel
theorem plain_reduce : plainId "_functools.reduce" = true := by decide +kernel
theorem kind_reduce : builtinKind "_functools.reduce" = none := by decide +kernel
theorem args_reduce (a b c : Value) : argsOk "_functools.reduce" ⟨[a, b, c], []⟩ := by unfold argsOk; kernel_rfl
theorem plain_xor : plainId "_operator.xor" = true := by decide +kernel
theorem kind_xor : builtinKind "_operator.xor" = none := by decide +kernel
theorem args_xor (a b : Value) : argsOk "_operator.xor" ⟨[a, b], []⟩ := by unfold argsOk; kernel_rfl
end FM

section
variable {prog : Program} {w : World} {A : Around} {E : Value → Shared → Prop} {s : Shared}

theorem call_xor {a b : Int} {t u : Tok} {Q : Value → Shared → Prop} (h : ∀ k k', Q (.int (Builtin.bitXor a b) k) { s with toks := k' }) :
    wpAny (model prog w) A (call (.builtin "_operator.xor") [.int a t, .int b u]) Q E s := by
  refine call_function_entry FM.kind_xor FM.plain_xor FM.entry_xor (FM.args_xor _ _) ?_
  unfold Builtin.«_operator.xor»
  refine wpAny_bind (wpAny_of_eq (a := (Value.int a t, Value.int b u)) rfl ?_)
  dsimp only
  exact wpAny_bind (xor_int (wpAny_pure ⟨_, rfl, h _ _⟩))

theorem upd_pair {p : Addr} {o : Obj} {items : Array Value} {n : Nat} {f : Array Value → Array Value} {Q : Unit → Shared → Prop} (ho : s.heap.get? p = some o) (hd : o.data = .seq items n) (hs : (f items).size ≤ 2) (hz : (f items).size = items.size)
    (h : ∀ h' o', h'.get? p = some o' → o'.data = .seq (f items) n → o'.cls = o.cls → Heap.SameBut p s.heap h' → Q () { s with heap := h' }) : wpAny (model prog w) A (updateSeq p f) Q E s := by
  obtain ⟨c, d, dt, sl⟩ := o
  dsimp only at hd
  subst hd
  unfold updateSeq
  refine wpAny_bind (wpAny_load ho ?_)
  dsimp only
  have hu : (s.heap.update p (Obj.mapSeq f)).get? p = some ⟨c, d, .seq (f items) n, sl⟩ := by
    rw [Heap.get?_update_self _ ho (by rfl)]
    unfold Obj.mapSeq
    dsimp only
    rw [if_pos (by simp [hz])]
  refine wpAny_bind (wpAny_update ho ?_)
  exact wpAny_lookBehind hu (pastItsLine_seq (Nat.le_trans hs (Nat.le_of_ble_eq_true rfl))) (h _ _ hu rfl rfl (Heap.SameBut.update ..))

theorem loop_ok {R : Result → Shared → Prop} {base : Heap} {x : Str} {t : Tok} {mp tp it p ow : Addr} (hh : A.handled = none) (a1 : mp ≠ it) (a2 : tp ≠ it) (a3 : p ≠ it) (a4 : ow ≠ it) (a5 : mp ≠ p) (a6 : tp ≠ p) (a7 : it ≠ p) (a8 : ow ≠ p)
    (b1 : base.get? it = none) (b2 : base.get? p = none) :
    ∀ (n i : Nat) (r : Int) (tr : Tok) (s : Shared), n = x.cps.size - i → MapAt s.heap mp tp it (.builtin "ord") x t i →
      (∃ o items k, s.heap.get? p = some o ∧ o.data = .seq items k ∧ items.size = 2) → (∃ o items k, s.heap.get? ow = some o ∧ o.data = .seq items k ∧ items.getD 0 .none = .builtin "_operator.xor") →
      (∀ b o, base.get? b = some o → s.heap.get? b = some o) →
      (∀ h' u k, (∀ b o, base.get? b = some o → h'.get? b = some o) → R (.ok (.ret (.int (xorFrom r (x.cps.toList.drop i)) u))) { s with heap := h', toks := k }) →
      codeAny (model prog w) A (.builtin "_functools.reduce.loop" ⟨[.ref p, .ref mp, .ref ow, .int r tr], []⟩) R s := by
  intro n
  induction n with
  | zero =>
    intro i r tr s hn H hp how hk hq
    refine codeAny_builtin FM.entry_loop ?_
    rw [Around.under_plainId FM.plain_loop]
    obtain ⟨o, items, k, ho, hd, hz⟩ := hp
    obtain ⟨o2, items2, k2, ho2, hd2, hz2⟩ := how
    unfold Builtin.«_functools.reduce.loop»
    dsimp only
    refine wpAny_bind (wpAny_seqItems ho2 hd2 ?_)
    have hx : x.cps[i]? = none := by
      rw [Array.getElem?_eq_none_iff]; omega
    refine wpAny_bind (pyNext_map_end (by exact hh) H hx fun h' he => ?_)
    dsimp only
    refine wpAny_pure ?_
    have hd0 : x.cps.toList.drop i = [] := List.drop_eq_nil_of_le (by rw [Array.length_toList]; omega)
    rw [hd0] at hq
    exact hq _ _ _ fun b o hb => he b o (fun e => by subst e; rw [b1] at hb; cases hb) (hk b o hb)
  | succ n ih =>
    intro i r tr s hn H hp how hk hq
    refine codeAny_builtin FM.entry_loop ?_
    rw [Around.under_plainId FM.plain_loop]
    obtain ⟨o, items, k, ho, hd, hz⟩ := hp
    obtain ⟨o2, items2, k2, ho2, hd2, hz2⟩ := how
    unfold Builtin.«_functools.reduce.loop»
    dsimp only
    refine wpAny_bind (wpAny_seqItems ho2 hd2 ?_)
    have hi : i < x.cps.size := by omega
    have hx : x.cps[i]? = some x.cps[i] := by simp [hi]
    refine wpAny_bind (pyNext_map_item H a1 hx fun h1 u1 k1 hi1 hs1 => ?_)
    dsimp only
    have ho1 := (hs1.2 p a3).trans ho
    refine wpAny_bind (wpAny_seqItems ho1 hd ?_)
    refine wpAny_bind (upd_pair ho1 hd (f := (·.setIfInBounds 0 (.int r tr))) (by simp [hz]) (by simp) fun h2 o' ho' hd' hc' hs2 => ?_)
    refine wpAny_bind (wpAny_letGo ?_)
    refine wpAny_bind (upd_pair ho' hd' (f := (·.setIfInBounds 1 _)) (by simp [hz]) (by simp) fun h3 o3 ho3 hd3 hc3 hs3 => ?_)
    refine wpAny_bind (wpAny_letGo ?_)
    rw [show ((some items2).getD #[]).getD 0 Value.none = Value.builtin "_operator.xor" from hz2]
    refine wpAny_bind (call_xor fun u k' => ?_)
    refine wpAny_pure ⟨Code.quiet_builtin _ (by decide +kernel), ?_⟩
    have k2' : ∀ b, b ≠ p → h3.get? b = h1.get? b := fun b hb => (hs3.2 b hb).trans (hs2.2 b hb)
    refine ih (i + 1) _ u _ (by omega) ?_ ⟨o3, _, _, ho3, hd3, by simp [hz]⟩ ⟨o2, items2, _, (k2' ow a8).trans ((hs1.2 ow a4).trans ho2), hd2, hz2⟩ (fun b o' hb => ?_) fun h' u' k'' hk' => ?_
    · have H1 := H.next a1 a2 hi1 hs1
      exact { recd := let ⟨o, a, b⟩ := H1.recd; ⟨o, (k2' mp a5).trans a, b⟩, tup := let ⟨o, n, a, b⟩ := H1.tup; ⟨o, n, (k2' tp a6).trans a, b⟩, iter := let ⟨o, a, b⟩ := H1.iter; ⟨o, (k2' it a7).trans a, b⟩ }
    · have e1 : b ≠ it := fun e => by subst e; rw [b1] at hb; cases hb
      have e2 : b ≠ p := fun e => by subst e; rw [b2] at hb; cases hb
      exact (k2' b e2).trans ((hs1.2 b e1).trans (hk b o' hb))
    · have hd0 : x.cps.toList.drop i = x.cps[i] :: x.cps.toList.drop (i + 1) := by
        rw [List.drop_eq_getElem_cons (by rw [Array.length_toList]; exact hi)]; simp
      have := hq h' u' k'' hk'
      rw [hd0] at this
      exact this

/-- reduce(xor, map(ord, x), 0) behind the map's making -/
theorem call_reduce {Q : Value → Shared → Prop} {base : Heap} {x : Str} {t t0 : Tok} {z : Addr} (hh : A.handled = none) (hb : base.objs.size = z) (H : MapAt s.heap (z + 2) (z + 1) z (.builtin "ord") x t 0) (hsz : s.heap.objs.size = z + 3)
    (hk : ∀ b o, base.get? b = some o → s.heap.get? b = some o)
    (h : ∀ h' u k, (∀ b o, base.get? b = some o → h'.get? b = some o) → Q (.int (xorFrom 0 x.cps.toList) u) { s with heap := h', toks := k }) :
    wpAny (model prog w) A (call (.builtin "_functools.reduce") [.builtin "_operator.xor", .ref (z + 2), .int 0 t0]) Q E s := by
  have hnone : ∀ b, z ≤ b → base.get? b = none := fun b hle => by
    cases hq : base.get? b with
    | none => rfl
    | some o => exact absurd (Heap.lt_size hq) (Nat.not_lt.mpr (hb ▸ hle))
  refine wpAny_call (codeAny_call_builtin FM.plain_reduce FM.entry_reduce ?_)
  have hc : wpAny (model prog w) A.in1 (checkBuiltinCall "_functools.reduce" ⟨[.builtin "_operator.xor", .ref (z + 2), .int 0 t0], []⟩) (fun _ s₁ => s₁ = s) (fun _ _ => False) s := by
    have ha := FM.args_reduce (.builtin "_operator.xor") (.ref (z + 2)) (.int 0 t0)
    simp only [checkBuiltinCall, FM.kind_reduce]
    cases hsig : Manifest.signature? "_functools.reduce" with
    | none => exact wpAny_pure rfl
    | some sig =>
      simp only [argsOk, hsig] at ha
      have h2 : Bind.checkArgs "_functools.reduce" sig ⟨[.builtin "_operator.xor", .ref (z + 2), .int 0 t0], []⟩ = pure () := ha
      show wpAny _ A.in1 (Bind.checkArgs _ sig _) _ _ s
      rw [h2]; exact wpAny_pure rfl
  refine wpAny_mono hc (fun _ s₁ e => ?_) fun _ _ e => e.elim
  subst e
  unfold Builtin.«_functools.reduce»
  refine wpAny_bind (wpAny_of_eq (a := [Value.builtin "_operator.xor", .ref (z + 2), .int 0 t0]) rfl ?_)
  refine wpAny_bind (wpAny_tryCatch ?_)
  refine pyIter_map (by exact H) ?_
  refine wpAny_bind (wpAny_holding ?_)
  unfold newTuple
  refine wpAny_newObj_type ?_ (show (2 : Nat) ≤ sizeLine from Nat.le_of_ble_eq_true rfl)
  refine wpAny_bind (wpAny_holding ?_)
  refine wpAny_newObj_type ?_ (show (3 : Nat) ≤ sizeLine from Nat.le_of_ble_eq_true rfl)
  refine wpAny_pure ⟨Code.quiet_builtin _ (by decide +kernel), ?_⟩
  have hz1 : (s₁.heap.push { cls := Value.type "tuple", data := Data.seq #[rawInt 0, rawInt 0] }).objs.size = z + 4 := by rw [Heap.size_push, hsz]
  have kk : ∀ b o, s₁.heap.get? b = some o → ((s₁.heap.push { cls := Value.type "tuple", data := Data.seq #[rawInt 0, rawInt 0] }).push
          { cls := Value.type "tuple", data := Data.seq #[Value.builtin "_operator.xor", Value.ref (z + 2), Value.int 0 t0] }).get? b = some o := fun b o e => Heap.get?_push_of_some _ (Heap.get?_push_of_some _ e)
  have e1 : ((s₁.heap.push { cls := Value.type "tuple", data := Data.seq #[rawInt 0, rawInt 0] }).push
          { cls := Value.type "tuple", data := Data.seq #[Value.builtin "_operator.xor", Value.ref (z + 2), Value.int 0 t0] }).get? (z + 3) = some { cls := Value.type "tuple", data := Data.seq #[rawInt 0, rawInt 0] } := by
    have := Heap.get?_push_of_some { cls := Value.type "tuple", data := Data.seq #[Value.builtin "_operator.xor", Value.ref (z + 2), Value.int 0 t0] } (Heap.get?_push_size s₁.heap (o := { cls := Value.type "tuple", data := Data.seq #[rawInt 0, rawInt 0] }) rfl)
    rwa [hsz] at this
  have e2 : ((s₁.heap.push { cls := Value.type "tuple", data := Data.seq #[rawInt 0, rawInt 0] }).push
          { cls := Value.type "tuple", data := Data.seq #[Value.builtin "_operator.xor", Value.ref (z + 2), Value.int 0 t0] }).get? (z + 4) = some { cls := Value.type "tuple", data := Data.seq #[Value.builtin "_operator.xor", Value.ref (z + 2), Value.int 0 t0] } := by
    have := Heap.get?_push_size (s₁.heap.push { cls := Value.type "tuple", data := Data.seq #[rawInt 0, rawInt 0] }) (o := { cls := Value.type "tuple", data := Data.seq #[Value.builtin "_operator.xor", Value.ref (z + 2), Value.int 0 t0] }) rfl
    rwa [hz1] at this
  dsimp only [List.drop, List.cons_append, List.nil_append]
  rw [hz1, hsz]
  have n1 : ∀ {i j : Nat}, i ≠ j → z + i ≠ z + j := fun h e => h (Nat.add_left_cancel e)
  refine loop_ok (base := base) (x := x) (t := t) (mp := z + 2) (tp := z + 1) (it := z) (p := z + 3) (ow := z + 4) (by exact hh) (n1 (j := 0) (by decide)) (n1 (j := 0) (by decide)) (n1 (j := 0) (by decide)) (n1 (j := 0) (by decide)) (n1 (by decide)) (n1 (by decide)) (n1 (i := 0) (by decide)) (n1 (by decide))
    (hnone _ (Nat.le_refl _)) (hnone _ (Nat.le_add_right ..)) x.cps.size 0 0 t0 _ rfl ?_ ⟨_, _, _, e1, rfl, rfl⟩ ⟨_, _, _, e2, rfl, rfl⟩ (fun b o e => kk b o (hk b o e)) fun h' u k hk' => ?_
  · exact { recd := let ⟨o, a, b⟩ := H.recd; ⟨o, kk _ _ a, b⟩, tup := let ⟨o, n, a, b⟩ := H.tup; ⟨o, n, kk _ _ a, b⟩, iter := let ⟨o, a, b⟩ := H.iter; ⟨o, kk _ _ a, b⟩ }
  · exact h h' u k hk'
end
end Mine
end

/- text My5 -/
section
set_option maxRecDepth 100000
namespace Mine
open PySem PySem.W PySem.Calls PyProof.Rows Builtin

structure MapK (h₀ : Heap) (L : Addr) (m : Str → Option Value) (news : List (Addr × Obj)) (base : Heap) (z : Addr) (h : Heap) (x : Str) (t : Tok) : Prop where
  fr : Fr h₀ L base m
  led : News h₀ L base news
  size : base.objs.size = z
  at_ : MapAt h (z + 2) (z + 1) z (.builtin "ord") x t 0
  size' : h.objs.size = z + 3
  keep : ∀ b o, base.get? b = some o → h.get? b = some o

section
variable {prog : Program} {w : World} {A : Around} {E : Value → Shared → Prop} {s : Shared} {L : Addr} {h₀ : Heap} {m : Str → Option Value} {news : List (Addr × Obj)}
theorem News.upKept {h h' : Heap} (N : News h₀ L h news) (hk : ∀ b o, h.get? b = some o → h'.get? b = some o) : News h₀ L h' news := fun p hp => ⟨hk _ _ (N p hp).1, (N p hp).2⟩

theorem map_K {x : Str} {t : Tok} {Q : Value → Shared → Prop} (F : Fr h₀ L s.heap m) (N : News h₀ L s.heap news) (ha : x.cps.all (· < 128) = true)
    (h : ∀ z h', MapK h₀ L m news s.heap z h' x t → Fr h₀ L h' m → News h₀ L h' news → Q (.ref (z + 2)) { s with heap := h' }) :
    wpAny (model prog w) A (call (.type "map") [.builtin "ord", .str x t]) Q E s :=
  call_map ha fun h' H hz hk => h _ h' ⟨F, N, rfl, H, hz, hk⟩ (F.kept hk) (News.upKept N hk)

theorem reduce_K {x : Str} {t t0 : Tok} {base : Heap} {z : Addr} {Q : Value → Shared → Prop} (M : MapK h₀ L m news base z s.heap x t) (hh : A.handled = none)
    (h : ∀ h' u k, Fr h₀ L h' m → News h₀ L h' news → Q (.int (xorFrom 0 x.cps.toList) u) { s with heap := h', toks := k }) :
    wpAny (model prog w) A (call (.builtin "_functools.reduce") [.builtin "_operator.xor", .ref (z + 2), .int 0 t0]) Q E s :=
  call_reduce hh M.size M.at_ M.size' M.keep fun h' u k hk => h h' u k (M.fr.kept hk) (News.upKept M.led hk)
end
end Mine
end

/- text My6 -/
section
set_option maxRecDepth 100000
namespace Mine
open PySem PySem.W PySem.Calls PyProof.Rows Builtin

def hexD (d : Nat) : Nat := if d < 10 then 48 + d else 55 + d
/-- two digits of a number below 256 -/
def hexT (n : Nat) : Str := ⟨#[hexD (n / 16), hexD (n % 16)]⟩

theorem my_inst {α : Type} (P : α → Prop) (a : α) (h : ∀ a, P a) : P a := h a

theorem add_len {M : Model} {A : Around} {E : Value → Shared → Prop} {s : Shared} {w : Str.Writer} {T x y : Str} {N K : Nat} {o : Option Value} {l : List Nat} {p : List Value} {r : List Nat} {f : Nat → List Value × Str.Writer × List Nat → Sem (ForInStep (List Value × Str.Writer × List Nat))} {Q : List Value × Str.Writer × List Nat → Shared → Prop}
    (g : KPc.Good w T N) (hx : x = y) (hy : y.length ≤ K) (ho : KPc.Obj o x) (h : ∀ w', KPc.Good w' (T ++ y) (N + K) → wpAny M A (forIn l (p, w', r) f) Q E s) : wpAny M A (forIn l (p, w.add x o, r) f) Q E s :=
  KPc.after_add g hx ho fun w' g' => h w' (KPc.good_mono g' (Nat.add_le_add_left hy _))

theorem pct_meets {t u : Tok} (k : Fin 128) :
    Meets (Builtin.«str.__mod__» ⟨[.str ⟨#[42, 37, 48, 50, 88]⟩ t, .int (k.val : Int) u], []⟩) (fun _ R s => ∀ t' j, R (.ok (.ret (.str (Str.ofString "*" ++ hexT k.val) t'))) { s with toks := j }) := by
  apply KPc.meets_of
  intro _ _ _ _ _ _ _
  rw [KPc.entry_is]
  unfold Builtin.Str.percentFormat
  refine wpAny_bind (wpAny_isInstance (typeIs_int _ _ _) F.sub_int_tuple ?_)
  refine wpAny_bind (wpAny_of_eq (a := none) rfl ?_)
  refine wpAny_bind (wpAny_of_eq (KPc.fills _ _) ?_)
  kpc_if
  refine wpAny_bind (wpAny_pure ?_)
  refine wpAny_bind ?_
  rw [KPc.range_list]
  refine KPc.start ?_
  intro _ _
  refine KPc.turn ?_; kpc_check; (repeat kpc_if)
  refine wpAny_pure ?_
  kpc_piece
  refine KPc.turn ?_; kpc_check; (repeat kpc_if)
  refine wpAny_bind ?_; refine wpAny_holding ?_; (repeat kpc_if)
  refine wpAny_bind (wpAny_of_eq (a := (k.val : Int)) rfl ?_); (repeat kpc_if)
  refine wpAny_bind (wpAny_pure ?_)
  refine wpAny_pure ?_
  dsimp only
  split
  · rename_i h
    refine wpAny_pure ?_
    refine add_len (by kpc_g) (y := hexT k.val) (K := 2) (by revert h; generalize k = j; revert j; decide +kernel) (by exact Nat.le_refl 2) (by kpc_obj) ?_
    intro _ _
    kpc_turns
  · rename_i h
    refine wpAny_pure ?_
    refine add_len (by kpc_g) (y := hexT k.val) (K := 2) (by
      have e := congrArg (fun o : Option (List Nat) => o.all (fun l => decide ((⟨l.toArray⟩ : Str) = hexT k.val))) h
      refine of_decide_eq_true (e.symm.trans ?_)
      generalize k = j
      revert j
      decide +kernel) (by exact Nat.le_refl 2) (by kpc_obj) ?_
    intro _ _
    kpc_turns

theorem pct_hex {prog : Program} {w : World} {A : Around} {E : Value → Shared → Prop} {s : Shared} {t u : Tok} {n : Int} {Q : Value → Shared → Prop} (h0 : 0 ≤ n) (h1 : n < 128)
    (h : (hexT n.toNat).length = 2 → ∀ t' k, Q (.str (Str.ofString "*" ++ hexT n.toNat) t') { s with toks := k }) : wpAny (model prog w) A (binaryOp .Mod (.str (Str.ofString "*%02X") t) (.int n u)) Q E s := by
  obtain ⟨k, rfl⟩ := Int.eq_ofNat_of_zero_le h0
  have hk : k < 128 := by omega
  refine KPc.mod_lit (X' := ⟨#[42, 37, 48, 50, 88]⟩) (by decide +kernel) ?_ (fun _ _ => pct_meets ⟨k, hk⟩) (h rfl)
  exact shown (N := 2 ^ 1920) (by omega) (by omega) (Int.le_refl _)
end Mine
end

/- text My7 -/
section
set_option maxRecDepth 100000
namespace Mine
open PySem PySem.W

theorem xor_step : ∀ a b : Fin 128, 0 ≤ Builtin.bitXor (a.val : Int) (b.val : Int) ∧ Builtin.bitXor (a.val : Int) (b.val : Int) < 128 := by decide +kernel

theorem xor_small_from : ∀ (l : List Nat) (r : Int), 0 ≤ r → r < 128 → l.all (fun c => decide (c < 128)) = true → 0 ≤ xorFrom r l ∧ xorFrom r l < 128
  | [], r, h0, h1, _ => ⟨h0, h1⟩
  | c :: l, r, h0, h1, h => by
    simp only [List.all_cons, Bool.and_eq_true, decide_eq_true_eq] at h
    obtain ⟨a, rfl⟩ := Int.eq_ofNat_of_zero_le h0
    have q := xor_step ⟨a, by omega⟩ ⟨c, h.1⟩
    exact xor_small_from l _ q.1 q.2 h.2

theorem xor_small {x : Str} (h : x.cps.all (fun c => decide (c < 128)) = true) : 0 ≤ xorFrom 0 x.cps.toList ∧ xorFrom 0 x.cps.toList < 128 :=
  xor_small_from _ 0 (Int.le_refl _) (by decide) (by rw [← Array.all_toList] at h; exact h)
end Mine
namespace Mine
open PySem PySem.W
theorem lit_len : (Str.ofString "*").length = 1 ∧ (Str.ofString "$").length = 1 ∧ (Str.ofString ",").length = 1 ∧ (Str.ofString "WPL,").length = 4 ∧ (Str.ofString "TXT,").length = 4 ∧ (Str.ofString "R00,").length = 4 ∧ (Str.ofString "P").length = 1 ∧ (Str.ofString "Q,WPL").length = 5 ∧ (Str.ofString "").length = 0 ∧ (Str.ofString "WPL").length = 3 ∧ (Str.ofString "TXT").length = 3 ∧ (Str.ofString "R00").length = 3 ∧ (Str.ofString "\r\n").length = 2 ∧ (Str.ofString "\n").length = 1 ∧ (Str.ofString " \t").length = 2 ∧ (Str.ofString "XYZ").length = 3 ∧ (Str.ofString "A_9").length = 3 ∧ (Str.ofString "ABC").length = 3 ∧ (Str.ofString "GP").length = 2 ∧ (Str.ofString "II").length = 2 ∧ (Str.ofString "HC").length = 2 ∧ (Str.ofString "Z_").length = 2 ∧ (Str.ofString "Q,").length = 2 ∧ Str.empty.length = 0 := by
  refine ⟨?_, ?_, ?_, ?_, ?_, ?_, ?_, ?_, ?_, ?_, ?_, ?_, ?_, ?_, ?_, ?_, ?_, ?_, ?_, ?_, ?_, ?_, ?_, ?_⟩ <;> decide +kernel
end Mine
end

/- text My8 -/
section
set_option maxRecDepth 100000
namespace Mine
open PySem PySem.W PySem.Calls PyProof.Rows

structure CutAt (h₀ : Heap) (L : Addr) (m : Str → Option Value) (news : List (Addr × Obj)) (s : Shared) (x : Str) (R : Value → Prop) (f : Flow) (s' : Shared) : Prop where
  out : f = .next ∧ ∃ v h' k, R v ∧ s' = { s with heap := h', toks := k } ∧ Fr h₀ L h' (fun y => if y = x then some v else m y) ∧ News h₀ L h' news

/-- a statement that stores one name, then the rest: the ways through the first are joined -/
theorem seq_cut {M : Model} {A : Around} {E : Value → Shared → Prop} {s : Shared} {env : Env} {st : Stmt} {rest : List Stmt} {Q : Flow → Shared → Prop} {h₀ : Heap} {L : Addr} {m : Str → Option Value} {news : List (Addr × Obj)}
    (_F : Fr h₀ L s.heap m) (_N : News h₀ L s.heap news) (x : Str) (R : Value → Prop)
    (h1 : wpAny M A (exec st env) (CutAt h₀ L m news s x R) E s)
    (h2 : ∀ v h' k, R v → Fr h₀ L h' (fun y => if y = x then some v else m y) → News h₀ L h' news → wpAny M A (execs rest env) Q E { s with heap := h', toks := k }) :
    wpAny M A (execs (st :: rest) env) Q E s := by
  refine wpAny_execs_cons (wpAny_mono h1 (fun f s' hf => ?_) fun _ _ h => h)
  obtain ⟨rfl, v, h', k, hR, rfl, F', N'⟩ := hf.out
  exact h2 v h' k hR F' N'

theorem cut_end {s : Shared} {h₀ : Heap} {L : Addr} {m : Str → Option Value} {news news' : List (Addr × Obj)} {x : Str} {R : Value → Prop} {v : Value} {h' : Heap} {k : Nat}
    (hR : R v) (F : Fr h₀ L h' (fun y => if y = x then some v else m y)) (N : News h₀ L h' news') (hs : ∀ p ∈ news, p ∈ news') : CutAt h₀ L m news s x R .next { s with heap := h', toks := k } :=
  ⟨rfl, v, h', k, hR, rfl, F, fun p hp => N p (hs p hp)⟩

/-- what a message holds -/
inductive Msg where
  | talk (C : Addr) (st tk : Str) (ps : List Str)
  | ques (tk ot st : Str)
  | prop (mk : Str) (ps : List Str)

def Kind (C : Addr) (st : Str) : Prop := (C = 300 ∧ st = Str.ofString "WPL") ∨ (C = 282 ∧ st = Str.ofString "TXT") ∨ (C = 265 ∧ st = Str.ofString "R00")

def MsgAt (news : List (Addr × Obj)) (x : Addr) : Msg → Prop
  | .talk C st tk ps => Kind C st ∧ ∃ (dx l : Addr) (h1 h2 h3 : Int) (t1 t2 t3 t4 t5 : Tok) (n e : Nat) (tl : List (Str × Tok)), (x, instObj C dx) ∈ news ∧
      (dx, dictOf [⟨h1, .str (Str.ofString "talker") t1, .str tk t4⟩, ⟨h2, .str (Str.ofString "sentence_type") t2, .str st t5⟩, ⟨h3, .str (Str.ofString "data") t3, .ref l⟩] n) ∈ news ∧ (l, PySem.W.listOf (strValues tl).toArray e) ∈ news ∧ tl.map (·.1) = ps
  | .ques tk ot st => ∃ (dx l : Addr) (h1 h2 h3 h4 : Int) (t1 t2 t3 t4 t5 t6 t7 : Tok) (n e : Nat), (x, instObj 218 dx) ∈ news ∧
      (dx, dictOf [⟨h1, .str (Str.ofString "talker") t1, .str tk t4⟩, ⟨h2, .str (Str.ofString "listener") t2, .str ot t5⟩, ⟨h3, .str (Str.ofString "sentence_type") t3, .str st t6⟩, ⟨h4, .str (Str.ofString "data") t7, .ref l⟩] n) ∈ news ∧ (l, PySem.W.listOf (strValues []).toArray e) ∈ news
  | .prop mk ps => ∃ (dx l : Addr) (h1 h2 : Int) (t1 t2 t3 : Tok) (n e : Nat) (tl : List (Str × Tok)), (x, instObj 244 dx) ∈ news ∧
      (dx, dictOf [⟨h1, .str (Str.ofString "manufacturer") t1, .str mk t2⟩, ⟨h2, .str (Str.ofString "data") t3, .ref l⟩] n) ∈ news ∧ (l, PySem.W.listOf (strValues tl).toArray e) ∈ news ∧ tl.map (·.1) = ps

def joinT (ps : List Str) : Str := Txt.join (Str.ofString ",") ps
def Msg.parts : Msg → List Str
  | .talk _ _ _ ps => ps
  | .ques .. => []
  | .prop _ ps => ps
def Msg.ident : Msg → Str
  | .talk _ st tk _ => tk ++ st ++ Str.ofString ","
  | .ques tk ot st => tk ++ ot ++ Str.ofString "Q," ++ st
  | .prop mk _ => Str.ofString "P" ++ mk
def Msg.body (g : Msg) : Str := g.ident ++ joinT g.parts
def Asc (x : Str) : Prop := x.cps.all (fun c => decide (c < 128)) = true
def Msg.small : Msg → Prop
  | .talk _ st tk _ => st.length ≤ 10 ∧ tk.length ≤ 10
  | .ques tk ot st => st.length ≤ 10 ∧ tk.length ≤ 10 ∧ ot.length ≤ 10
  | .prop mk _ => mk.length ≤ 10
structure Msg.Ok (g : Msg) : Prop where
  small : g.small
  jok : JoinOk (Str.ofString ",") g.parts = true
  jlen : (joinT g.parts).length ≤ 100
  asc : Asc g.body

inductive NlV : Value → Str → Prop
  | no : NlV (.bool false) Str.empty
  | yes : NlV (.bool true) (Str.ofString "\r\n")
  | own {e : Str} {t : Tok} : e.length ≤ 10 → e.length ≠ 0 → NlV (.str e t) e

def csum (x : Str) : Nat := (xorFrom 0 x.cps.toList).toNat
/-- a body in its dress -/
def dress (b : Str) (sm dl : Bool) (nl : Str) : Str := (if dl = true then Str.ofString "$" else Str.empty) ++ b ++ (if sm = true then Str.ofString "*" ++ hexT (csum b) else Str.empty) ++ nl
end Mine
namespace Mine
open PySem PySem.W
theorem str_some {a b : Str} {t : Tok} (h : a = b) : ∃ t', Value.str a t = Value.str b t' := ⟨t, by rw [h]⟩
end Mine

namespace Mine
open PySem PySem.W PySem.Calls PyProof.Rows
theorem join_nil : Str.ofString "" = Txt.join (Str.ofString ",") [] := by decide +kernel

theorem Msg.Ok.blen {g : Msg} (h : g.Ok) : g.body.length ≤ 150 := by
  have h1 := h.small
  have h2 := h.jlen
  unfold Msg.body
  rw [Str.length_append]
  cases g <;> simp only [Msg.small, Msg.ident, Str.length_append, lit_len] at h1 ⊢ <;> omega

theorem dress_tt (b nl : Str) : Str.ofString "$" ++ (b ++ (Str.ofString "*" ++ hexT (xorFrom 0 b.cps.toList).toNat)) ++ nl = dress b true true nl := by
  simp only [dress, csum, if_true, Str.append_assoc]
end Mine

namespace Mine
open PySem PySem.W PySem.Calls PyProof.Rows
theorem cut_same {s : Shared} {h₀ : Heap} {L : Addr} {m : Str → Option Value} {news news' : List (Addr × Obj)} {x : Str} {R : Value → Prop} {v : Value} {h' : Heap} {k : Nat}
    (hR : R v) (F : Fr h₀ L h' m) (N : News h₀ L h' news') (hs : ∀ p ∈ news, p ∈ news') (hm : m x = some v) : CutAt h₀ L m news s x R .next { s with heap := h', toks := k } := by
  refine ⟨rfl, v, h', k, hR, rfl, ?_, fun p hp => N p (hs p hp)⟩
  have e : (fun y => if y = x then some v else m y) = m := by
    funext y
    by_cases hy : y = x
    · rw [if_pos hy, hy, hm]
    · rw [if_neg hy]
  rw [e]
  exact F
theorem hexT_len (n : Nat) : (hexT n).length = 2 := rfl
end Mine

namespace Mine
open PySem PySem.W PySem.Calls PyProof.Rows
def textsD (ps : List Str) : Dat := .list (ps.map .str)
def Msg.shown : Msg → List Dat
  | .talk _ st tk ps => [.str st, .str tk, .str st, textsD ps]
  | .ques tk ot st => [.str (Str.ofString "question"), .str tk, .str ot, .str st, textsD []]
  | .prop mk ps => [.str (Str.ofString "maker"), .str mk, textsD ps]
theorem dat_texts {news : List (Addr × Obj)} : ∀ tl : List (Str × Tok), DatAll news (strValues tl) ((tl.map (·.1)).map .str)
  | [] => .nil
  | p :: r => .cons (.str p.1 p.2) (dat_texts r)
theorem dat_list {news : List (Addr × Obj)} {l : Addr} {tl : List (Str × Tok)} {e : Nat} (h : (l, PySem.W.listOf (strValues tl).toArray e) ∈ news) : DatIn news (.ref l) (textsD (tl.map (·.1))) := .list h (dat_texts tl)
end Mine

namespace Mine
open PySem PySem.W PySem.Calls PyProof.Rows
@[irreducible] def wordT (x : Str) (n : Int) : Bool := (x.length : Int) == n && Txt.isalnum (Txt.replace x (Str.ofString "_") (Str.ofString "a"))
/-- what the head of a line says: its place ahead of the star, the dollar gone -/
structure HeadF (x y : Str) : Prop where
  asc : (y.cps.all fun c => decide (c < 128)) = true
  xl : x.length ≤ 300
  yl : y.length ≤ 300
  yy : y = if (Txt.slice (Txt.partition (Txt.lstrip x) (Str.ofString "*")).1 none (some 1) == Str.ofString "$") = true then Txt.slice (Txt.partition (Txt.lstrip x) (Str.ofString "*")).1 (some 1) none else (Txt.partition (Txt.lstrip x) (Str.ofString "*")).1
structure TalkF (y st tk : Str) (ps : List Str) : Prop where
  p2 : ([Str.ofString "P", Str.ofString "p"].any fun z => z == Txt.slice y none (some 1)) = false
  p3 : wordT (Txt.slice y none (some 4)) 4 = true
  p4 : ([Str.ofString "Q,", Str.ofString "q,"].any fun z => z == Txt.slice y (some 4) (some 6)) = false
  p5 : wordT (Txt.slice y none (some 5)) 5 = true
  p6 : (Txt.slice y (some 5) (some 6) == Str.ofString ",") = true
  q1 : (Txt.slice (Txt.upper (Txt.slice y none (some 6))) (some 5) none == Str.ofString ",") = true
  q2 : Txt.slice (Txt.upper (Txt.slice y none (some 6))) none (some 2) = tk
  q3 : Txt.slice (Txt.upper (Txt.slice y none (some 6))) (some 2) (some 5) = st
  q4 : Txt.split (Txt.slice y (some 6) none) (Str.ofString ",") = ps
structure QuesF (y tk ot st : Str) : Prop where
  p2 : ([Str.ofString "P", Str.ofString "p"].any fun z => z == Txt.slice y none (some 1)) = false
  p3 : wordT (Txt.slice y none (some 4)) 4 = true
  p4 : ([Str.ofString "Q,", Str.ofString "q,"].any fun z => z == Txt.slice y (some 4) (some 6)) = true
  p5 : wordT (Txt.slice y (some 6) (some 9)) 3 = true
  q1 : (Txt.slice (Txt.upper (Txt.slice y none (some 9))) (some 5) none == Str.ofString ",") = false
  q2 : (Txt.slice (Txt.upper (Txt.slice y none (some 9))) (some 4) (some 6) == Str.ofString "Q,") = true
  q3 : (((Txt.upper (Txt.slice y none (some 9))).length : Int) == 9) = true
  q4 : (((Txt.upper (Txt.slice y none (some 9))).length : Int) == 4) = false
  q5 : Txt.slice (Txt.upper (Txt.slice y none (some 9))) none (some 2) = tk
  q6 : Txt.slice (Txt.upper (Txt.slice y none (some 9))) (some 2) (some 4) = ot
  q7 : Txt.slice (Txt.upper (Txt.slice y none (some 9))) (some 6) none = st
structure QuesOk (y : Str) : Prop where
  r1 : ((((Txt.slice y (some 9) none)).length : Int) != 0) = false
  r2 : (!((((Txt.slice y (some 9) none)).length : Int) != 0)) = true
structure QuesNo (y : Str) : Prop where
  asc : ∀ c ∈ (Txt.upper (Txt.slice y none (some 9))).cps.toList, c < 16 ^ 8
  r1 : ((((Txt.slice y (some 9) none)).length : Int) != 0) = true
  r2 : (!((((Txt.slice y (some 9) none)).length : Int) != 0)) = false
structure MakerF (y mk : Str) (ps : List Str) : Prop where
  p2 : ([Str.ofString "P", Str.ofString "p"].any fun z => z == Txt.slice y none (some 1)) = true
  p3 : wordT (Txt.slice y (some 1) (some 4)) 3 = true
  q1 : (Txt.slice (Txt.upper (Txt.slice y none (some 4))) (some 5) none == Str.ofString ",") = false
  q2 : (Txt.slice (Txt.upper (Txt.slice y none (some 4))) (some 4) (some 6) == Str.ofString "Q,") = false
  q3 : (((Txt.upper (Txt.slice y none (some 4))).length : Int) == 4) = true
  q4 : Txt.slice (Txt.upper (Txt.slice y none (some 4))) (some 1) none = mk
  q5 : ∀ t1 t2 t3, valueAt (strPairs [(Value.str (Str.ofString "WPL") t1, Value.ref 300), (Value.str (Str.ofString "TXT") t2, Value.ref 282), (Value.str (Str.ofString "R00") t3, Value.ref 265)]) (Txt.upper (Txt.slice y none (some 4))) = none
  q6 : Txt.split (Txt.slice y (some 4) none) (Str.ofString ",") = ps
structure SumF (x y : Str) (n : Nat) : Prop where
  sn : n < 128
  s7 : ((n : Int) != xorFrom 0 y.cps.toList) = false
  s1 : (((Txt.partition (Txt.lstrip x) (Str.ofString "*")).2.1.length : Int) != 0) = true
  s2 : decide (1 < ((Txt.partition (Txt.lstrip x) (Str.ofString "*")).2.2.length : Int)) = true
  s3 : (((Txt.stripChars (Txt.slice (Txt.partition (Txt.lstrip x) (Str.ofString "*")).2.2 none (some 2)) (Str.ofString "0123456789ABCDEFabcdef")).length : Int) != 0) = false
  s3n : (!(((Txt.stripChars (Txt.slice (Txt.partition (Txt.lstrip x) (Str.ofString "*")).2.2 none (some 2)) (Str.ofString "0123456789ABCDEFabcdef")).length : Int) != 0)) = true
  s4 : (((Txt.strip (Txt.slice (Txt.partition (Txt.lstrip x) (Str.ofString "*")).2.2 (some 2) none)).length : Int) != 0) = false
  s4n : (!(((Txt.strip (Txt.slice (Txt.partition (Txt.lstrip x) (Str.ofString "*")).2.2 (some 2) none)).length : Int) != 0)) = true
  s5 : (((Txt.slice (Txt.partition (Txt.lstrip x) (Str.ofString "*")).2.2 none (some 2)).length : Int) != 0) = true
  s6 : Txt.slice (Txt.partition (Txt.lstrip x) (Str.ofString "*")).2.2 none (some 2) = hexT n
structure NoSumF (x : Str) : Prop where
  s1 : (((Txt.partition (Txt.lstrip x) (Str.ofString "*")).2.1.length : Int) != 0) = false
  s5 : (((Txt.slice (Txt.partition (Txt.lstrip x) (Str.ofString "*")).2.2 none (some 2)).length : Int) != 0) = false
end Mine

namespace Mine
open PySem PySem.W PySem.Calls PyProof.Rows
theorem dollar_cut {x y : Str} (_hF : HeadF x y) {M : Model} {A : Around} {E : Value → Shared → Prop} {s : Shared} {env : Env} {st : Stmt} {rest : List Stmt} {Q : Flow → Shared → Prop} {h₀ : Heap} {L : Addr} {m : Str → Option Value} {news : List (Addr × Obj)}
    (F : Fr h₀ L s.heap m) (N : News h₀ L s.heap news)
    (h1 : wpAny M A (exec st env) (CutAt h₀ L m news s (Str.ofString "nmea_str") (fun v => ∃ t, v = .str y t)) E s)
    (h2 : ∀ t h' k, Fr h₀ L h' (fun z => if z = Str.ofString "nmea_str" then some (.str y t) else m z) → News h₀ L h' news → wpAny M A (execs rest env) Q E { s with heap := h', toks := k }) :
    wpAny M A (execs (st :: rest) env) Q E s := seq_cut F N _ _ h1 fun v h' k ⟨t, e⟩ => by subst e; exact h2 t h' k
end Mine

namespace Mine
open PySem PySem.W PySem.Calls PyProof.Rows
/-- the three makes of a line, the size of its head -/
def KindF (y : Str) (n : Int) : Option Msg → Prop
  | some (.talk C st tk ps) => n = 6 ∧ Kind C st ∧ TalkF y st tk ps
  | some (.ques tk ot st) => n = 9 ∧ QuesF y tk ot st ∧ QuesOk y
  | some (.prop mk ps) => n = 4 ∧ MakerF y mk ps
  | none => n = 9 ∧ ∃ tk ot st, QuesF y tk ot st ∧ QuesNo y
def StarF (x y : Str) : Prop := (∃ n, SumF x y n) ∨ NoSumF x
/-- a place where the walk is to stand still -/
def Stop (P : Prop) : Prop := P
theorem Stop.mk {P : Prop} (h : Stop P) : P := h
theorem Stop.out {P : Prop} (h : P) : Stop P := h

structure Cut2 (h₀ : Heap) (L : Addr) (m : Str → Option Value) (news : List (Addr × Obj)) (s : Shared) (x1 x2 : Str) (f : Flow) (s' : Shared) : Prop where
  out : f = .next ∧ ∃ a b h' k, s' = { s with heap := h', toks := k } ∧ Fr h₀ L h' (fun y => if y = x2 then b else if y = x1 then a else m y) ∧ News h₀ L h' news
/-- the same, two names stored whose values nobody asks -/
theorem seq_cut2 {M : Model} {A : Around} {E : Value → Shared → Prop} {s : Shared} {env : Env} {st : Stmt} {rest : List Stmt} {Q : Flow → Shared → Prop} {h₀ : Heap} {L : Addr} {m : Str → Option Value} {news : List (Addr × Obj)}
    (_F : Fr h₀ L s.heap m) (_N : News h₀ L s.heap news) (x1 x2 : Str)
    (h1 : wpAny M A (exec st env) (Cut2 h₀ L m news s x1 x2) E s)
    (h2 : ∀ a b h' k, Fr h₀ L h' (fun y => if y = x2 then b else if y = x1 then a else m y) → News h₀ L h' news → wpAny M A (execs rest env) Q E { s with heap := h', toks := k }) :
    wpAny M A (execs (st :: rest) env) Q E s := by
  refine wpAny_execs_cons (wpAny_mono h1 (fun f s' hf => ?_) fun _ _ h => h)
  obtain ⟨rfl, a, b, h', k, rfl, F', N'⟩ := hf.out
  exact h2 a b h' k F' N'
theorem cut2_same {s : Shared} {h₀ : Heap} {L : Addr} {m : Str → Option Value} {news news' : List (Addr × Obj)} {x1 x2 : Str} {h' : Heap} {k : Nat}
    (F : Fr h₀ L h' m) (N : News h₀ L h' news') (hs : ∀ p ∈ news, p ∈ news') : Cut2 h₀ L m news s x1 x2 .next { s with heap := h', toks := k } := by
  refine ⟨rfl, m x1, m x2, h', k, rfl, ?_, fun p hp => N p (hs p hp)⟩
  have e : (fun y => if y = x2 then m x2 else if y = x1 then m x1 else m y) = m := by
    funext y
    by_cases h2 : y = x2
    · rw [if_pos h2, h2]
    · rw [if_neg h2]
      by_cases h1 : y = x1
      · rw [if_pos h1, h1]
      · rw [if_neg h1]
  rw [e]
  exact F
theorem cut2_end {s : Shared} {h₀ : Heap} {L : Addr} {m : Str → Option Value} {news news' : List (Addr × Obj)} {x1 x2 : Str} {v1 v2 : Value} {h' : Heap} {k : Nat}
    (F : Fr h₀ L h' (fun y => if y = x2 then some v2 else if y = x1 then some v1 else m y)) (N : News h₀ L h' news') (hs : ∀ p ∈ news, p ∈ news') : Cut2 h₀ L m news s x1 x2 .next { s with heap := h', toks := k } :=
  ⟨rfl, _, _, h', k, rfl, F, fun p hp => N p (hs p hp)⟩

structure Cut0 (h₀ : Heap) (L : Addr) (m : Str → Option Value) (news : List (Addr × Obj)) (s : Shared) (f : Flow) (s' : Shared) : Prop where
  out : f = .next ∧ ∃ h' k, s' = { s with heap := h', toks := k } ∧ Fr h₀ L h' m ∧ News h₀ L h' news
/-- a statement that stores nothing -/
theorem seq_cut0 {M : Model} {A : Around} {E : Value → Shared → Prop} {s : Shared} {env : Env} {st : Stmt} {rest : List Stmt} {Q : Flow → Shared → Prop} {h₀ : Heap} {L : Addr} {m : Str → Option Value} {news : List (Addr × Obj)}
    (_F : Fr h₀ L s.heap m) (_N : News h₀ L s.heap news)
    (h1 : wpAny M A (exec st env) (Cut0 h₀ L m news s) E s)
    (h2 : ∀ h' k, Fr h₀ L h' m → News h₀ L h' news → wpAny M A (execs rest env) Q E { s with heap := h', toks := k }) :
    wpAny M A (execs (st :: rest) env) Q E s := by
  refine wpAny_execs_cons (wpAny_mono h1 (fun f s' hf => ?_) fun _ _ h => h)
  obtain ⟨rfl, h', k, rfl, F', N'⟩ := hf.out
  exact h2 h' k F' N'
theorem cut0_end {s : Shared} {h₀ : Heap} {L : Addr} {m : Str → Option Value} {news news' : List (Addr × Obj)} {h' : Heap} {k : Nat}
    (F : Fr h₀ L h' m) (N : News h₀ L h' news') (hs : ∀ p ∈ news, p ∈ news') : Cut0 h₀ L m news s .next { s with heap := h', toks := k } :=
  ⟨rfl, h', k, rfl, F, fun p hp => N p (hs p hp)⟩
end Mine
end

/- text My9 -/
section
set_option maxRecDepth 100000
namespace Mine
open PySem PySem.W PySem.Spec PySem.Calls PyProof.Rows Builtin Builtin.ObjectAttr
section
variable {prog : Program} {w : World} {A : Around} {E : Value → Shared → Prop} {s : Shared} {K : Frag} {x C D : Addr} {ox od : Obj} {hook : Value}

/-- `x.__class__` of an instance whose class has a `__getattr__` of its own -/
theorem class_hook {Q : Option Value → Shared → Prop} (X : K.In s.heap) (I : InstAt s.heap x ox D (some od)) (hga : findIn K (.ref D) "__getattribute__" = some (some (.builtin "object.__getattribute__"))) (hk : findIn K (.ref D) "__getattr__" = some (some hook))
    (hd : hasDictIn K D = true) (ha : findIn K (.ref D) "__class__" = some (some (.builtin "object.__class__"))) (hn : specialIn K (.builtin "object.__class__") "__get__" = some (some (.builtin "getset_descriptor.__get__")))
    (ht : takesIn K (.builtin "object.__class__") = some true) (hm : mroIn K D (.type "object") = some true) (h : Q (some (.ref D)) { s with toks := s.toks + 1 }) : wpAny (model prog w) A (getAttr? (.ref x) "__class__") Q E s := by
  have hf : findObj K D (some od) "__class__" = some (.bind (.builtin "getset_descriptor.__get__") (.builtin "object.__class__")) := findObj_data (by obtain ⟨cd, hc, _⟩ := any_some hd; rw [hc]; rfl) ha hn ht
  refine kin_open X I hga ?_
  obtain ⟨hh, gg, d, t, os⟩ := s
  have L0 := I.type (M := model prog w)
  have L1 := looks_find (M := model prog w) X I hf
  have L2 := looks_findIn (M := model prog w) X hk
  refine wpAny_bind (wpAny_pure (wpAny_bind (L0.at (wpAny_bind (L1.at (wpAny_bind (L2.at ?_)))))))
  show wpAny _ _ (bindOrHook _ _ _ _ _ _) _ _ _
  unfold bindOrHook
  refine wpAny_bind (wpAny_attempt (wpAny_holding ?_))
  show wpAny _ _ (holding [_] (call _ [_, .ref x, .ref D]) >>= ret) _ _ _
  refine wpAny_bind (wpAny_holding (wpAny_call (class_get (s := ⟨hh, gg, d, t + 1, os⟩) (ox := ox) (od := some od) X I hm ?_)))
  exact wpAny_pure (wpAny_pure (handed_on rfl h))

theorem isn_hook {Q : Value → Shared → Prop} (X : K.In s.heap) (I : InstAt s.heap x ox D (some od)) (e : kin_not K D C = true) (hga : findIn K (.ref D) "__getattribute__" = some (some (.builtin "object.__getattribute__"))) (hk : findIn K (.ref D) "__getattr__" = some (some hook))
    (hd : hasDictIn K D = true) (ha : findIn K (.ref D) "__class__" = some (some (.builtin "object.__class__"))) (hn : specialIn K (.builtin "object.__class__") "__get__" = some (some (.builtin "getset_descriptor.__get__")))
    (ht : takesIn K (.builtin "object.__class__") = some true) (hm : mroIn K D (.type "object") = some true) (h : Q (.bool false) { s with toks := s.toks + 1 }) : wpAny (model prog w) A (call (.builtin "isinstance") [.ref x, .ref C]) Q E s := by
  refine call_isinstance (S := fun _ R s => (K.In s.heap ∧ InstAt s.heap x ox D (some od)) ∧ R (.ok (.ret (.bool false))) { s with toks := s.toks + 1 })
    (fun prog w A R s hs => isinstance_outer ?_ (by intro q; cases q)) ⟨⟨X, I⟩, h⟩
  obtain ⟨⟨X, I⟩, hR⟩ := hs
  unfold kin_not at e
  rw [Bool.and_eq_true, Bool.and_eq_true, Bool.and_eq_true] at e
  obtain ⟨⟨⟨e0, e1⟩, e2⟩, e3⟩ := e
  have isT : ∀ B, (clsIn K B).isSome = true → Looks (model prog w) s.heap (isType (.ref B)) true := by
    intro B hB
    unfold clsIn at hB
    split at hB
    · rename_i c' d' cd' sl' ho
      intro A' Q' E' s' k q
      unfold isType loadHead
      exact wpAny_bind (wpAny_loadPart (k _ _ (X _ _ ho)) (wpAny_pure q))
    · cases hB
  have LC := isT C e1
  have LD := isT D (by obtain ⟨cd, hc, _⟩ := any_some hd; rw [hc]; rfl)
  obtain ⟨h0, g, d, tt, os⟩ := s
  have L0 := I.type (M := model prog w)
  have LT := looks_typeIn (M := model prog w) X (beq_iff_eq.mp e2)
  have LS : Looks (model prog w) h0 (isSubtype (.ref D) (.ref C)) false := looks_subIn X (beq_iff_eq.mp e3)
  have LI : Looks (model prog w) h0 (isInstance (.ref x) (.ref C)) false := L0.andThen LS
  have hne : (Value.ref D == Value.ref C) = false := Bool.eq_false_iff.mpr fun q => of_decide_eq_true e0 (Value.ref.inj (beq_iff_eq.mp q))
  unfold Builtin.«isinstance.nested»
  refine wpAny_bind (L0.at ?_)
  rw [if_neg (fun q => by rw [hne] at q; exact Bool.noConfusion q)]
  refine wpAny_bind (LT.at ?_)
  rw [if_pos (by decide)]
  k_delta "plainIsInstance"
  refine wpAny_bind (wpAny_bind (LC.at ?_))
  simp only [Bool.not_true, Bool.false_eq_true, if_false]
  refine wpAny_bind (LI.at ?_)
  simp only [Bool.false_eq_true, if_false]
  refine wpAny_bind (class_hook X I hga hk hd ha hn ht hm ?_)
  refine wpAny_bind (LD.at ?_)
  simp only [Bool.not_true, Bool.false_eq_true, if_false]
  refine wpAny_bind (wpAny_rule ?_)
  refine LS.at ?_
  first
    | exact wpAny_pure hR
    | exact wpAny_pure (wpAny_pure hR)
    | exact wpAny_bind (wpAny_pure (wpAny_pure hR))
end
end Mine
namespace Mine
open PySem PySem.W PySem.Spec PySem.Calls PyProof.Rows Builtin Builtin.ObjectAttr
theorem truthy_cls {M : Model} {A : Around} {E : Value → Shared → Prop} {s : Shared} {K : Frag} {C L : Addr} {h₀ : Heap} {m : Str → Option Value} {Q : Bool → Shared → Prop} (F : Fr h₀ L s.heap m) (X₀ : K.In h₀) (hs : specialIn K (.ref C) "__bool__" = some none) (hl : specialIn K (.ref C) "__len__" = some none)
    (h : Q true s) : wpAny M A (truthy (.ref C)) Q E s := by
  have X := X₀.keeps F.keep
  unfold truthy
  refine wpAny_bind (m := callSpecial? (.ref C) (Str.ofString "__bool__")) (wpAny_bind ((looks_specialIn X hs).here (wpAny_pure ?_)))
  refine wpAny_bind ((looks_specialIn X hl).here ?_)
  exact wpAny_pure h
end Mine
namespace Mine
open PySem PySem.W PyProof.Rows
theorem split_small {l : List (Str × Tok)} {z y : Str} (e : List.map (fun p => p.1) l = Txt.split z y) (hz : z.length ≤ 300) : l.length ≤ 302 := by
  have e' := congrArg List.length e
  rw [List.length_map] at e'
  have := split_le z y
  omega

/-- three objects out of a longer ledger -/
theorem led3 {h₀ h : Heap} {L : Addr} {p q r : Addr × Obj} {news all : List (Addr × Obj)} (N : News h₀ L h all) (h1 : p ∈ all) (h2 : q ∈ all) (h3 : r ∈ all) (hs : ∀ x ∈ news, x ∈ all) : News h₀ L h (p :: q :: r :: news) := fun x hx => by
  rcases List.mem_cons.mp hx with rfl | hx
  · exact N _ h1
  rcases List.mem_cons.mp hx with rfl | hx
  · exact N _ h2
  rcases List.mem_cons.mp hx with rfl | hx
  · exact N _ h3
  exact N _ (hs _ hx)
end Mine
namespace Mine
open PySem PySem.W PySem.Calls PyProof.Rows
theorem msg_talk {news : List (Addr × Obj)} {x dx l C : Addr} {st tk a b : Str} {ps : List Str} {h1 h2 h3 : Int} {t1 t2 t3 t4 t5 : Tok} {n e : Nat} {tl : List (Str × Tok)} (k : Kind C st) (m1 : (x, instObj C dx) ∈ news)
    (m2 : (dx, dictOf [⟨h1, .str (Str.ofString "talker") t1, .str a t4⟩, ⟨h2, .str (Str.ofString "sentence_type") t2, .str b t5⟩, ⟨h3, .str (Str.ofString "data") t3, .ref l⟩] n) ∈ news) (m3 : (l, PySem.W.listOf (strValues tl).toArray e) ∈ news)
    (ha : a = tk) (hb : b = st) (hp : tl.map (fun p => p.1) = ps) : MsgAt news x (.talk C st tk ps) := by
  subst ha hb
  exact ⟨k, dx, l, h1, h2, h3, t1, t2, t3, t4, t5, n, e, tl, m1, m2, m3, hp⟩
theorem msg_ques {news : List (Addr × Obj)} {x dx l : Addr} {st tk ot a b c : Str} {h1 h2 h3 h4 : Int} {t1 t2 t3 t4 t5 t6 t7 : Tok} {n e : Nat} (m1 : (x, instObj 218 dx) ∈ news)
    (m2 : (dx, dictOf [⟨h1, .str (Str.ofString "talker") t1, .str a t4⟩, ⟨h2, .str (Str.ofString "listener") t2, .str b t5⟩, ⟨h3, .str (Str.ofString "sentence_type") t3, .str c t6⟩, ⟨h4, .str (Str.ofString "data") t7, .ref l⟩] n) ∈ news) (m3 : (l, PySem.W.listOf (strValues []).toArray e) ∈ news)
    (ha : a = tk) (hb : b = ot) (hc : c = st) : MsgAt news x (.ques tk ot st) := by
  subst ha hb hc
  exact ⟨dx, l, h1, h2, h3, h4, t1, t2, t3, t4, t5, t6, t7, n, e, m1, m2, m3⟩
theorem msg_prop {news : List (Addr × Obj)} {x dx l : Addr} {mk a : Str} {ps : List Str} {h1 h2 : Int} {t1 t2 t3 : Tok} {n e : Nat} {tl : List (Str × Tok)} (m1 : (x, instObj 244 dx) ∈ news)
    (m2 : (dx, dictOf [⟨h1, .str (Str.ofString "manufacturer") t1, .str a t2⟩, ⟨h2, .str (Str.ofString "data") t3, .ref l⟩] n) ∈ news) (m3 : (l, PySem.W.listOf (strValues tl).toArray e) ∈ news)
    (ha : a = mk) (hp : tl.map (fun p => p.1) = ps) : MsgAt news x (.prop mk ps) := by
  subst ha
  exact ⟨dx, l, h1, h2, t1, t2, t3, n, e, tl, m1, m2, m3, hp⟩
end Mine
end

/- text My10 -/
section
set_option maxRecDepth 100000
namespace Mine
open PySem PySem.W PySem.Calls PyProof.Rows Builtin

theorem num_of {t : int_private% "Numeral"} {i : Int} (h : ((int_private% "Numeral.casesOn") (motive := fun _ => Bool) t false (fun _ => false) false (fun j => j == i)) = true) : t = (int_private% "Numeral.value") i := by
  cases t with
  | invalid => cases h
  | tooLong d => cases h
  | byTheLibrary => cases h
  | value j => rw [eq_of_beq (show (j == i) = true from h)]
theorem chk16 : ∀ k : Fin 128, ((int_private% "Numeral.casesOn") (motive := fun _ => Bool) ((int_private% "readNumeral") 0 16 ((hexT k.val).cps.toList.takeWhile (· != 0))) false (fun _ => false) false (fun j => j == (k.val : Int))) = true := by decide +kernel
theorem seen16 : ∀ k : Fin 128, ((hexT k.val).cps.toList.takeWhile (· != 0)).length ≤ 640 ∧
    (((hexT k.val).cps.toList.takeWhile (· != 0)).length == (hexT k.val).cps.toList.length) = true ∧ (hexT k.val).cps.all (· < 128) = true := by decide +kernel
theorem read16 (k : Fin 128) : (int_private% "readNumeral") 0 16 ((hexT k.val).cps.toList.takeWhile (· != 0)) = (int_private% "Numeral.value") (k.val : Int) ∧ ((hexT k.val).cps.toList.takeWhile (· != 0)).length ≤ 640 ∧
    (((hexT k.val).cps.toList.takeWhile (· != 0)).length == (hexT k.val).cps.toList.length) = true ∧ (hexT k.val).cps.all (· < 128) = true := ⟨num_of (chk16 k), seen16 k⟩

set_option maxHeartbeats 1000000 in
theorem gives_hex {u v : Tok} (k : Fin 128) : Gives (Builtin.«int.__new__» ⟨[.type "int", .str (hexT k.val) u, .int 16 v], []⟩) (.int (k.val : Int)) :=
  .of_wp fun M A E s Q h => by
    obtain ⟨hp, g, d, tk, os⟩ := s
    have f1 := F.conv_sub_int
    have f2 := F.madeHere_int
    have f6 : typeOf (.str (hexT k.val) u) = pure (.type "str") := rfl
    have hk := KIN.Hid.mk (read16 k)
    generalize hexT k.val = x at *
    repeat (any_goals (first
      | assumption
      | wp_step))
    obtain ⟨r1, r2, r3, r4⟩ := hk.out
    simp only [r4, if_true, show Int.toNat 16 = 16 from rfl]
    rw [if_pos r2]
    refine wpAny_bind (wpAny_pure ?_)
    rw [r1]
    dsimp only
    rw [if_pos r3]
    refine wpAny_mkInt ?_
    all_goals (repeat (any_goals (first | assumption | wp_step)))
    all_goals exact ⟨_, rfl, h⟩

theorem typeCall_int_2 (a b : Value) : checkTypeCall "int" ⟨[a, b], []⟩ = pure () := by kernel_rfl
theorem newCall_int_2 (a b : Value) : checkBuiltinCall "int.__new__" ⟨[.type "int", a, b], []⟩ = pure () := by kernel_rfl
theorem args_object_init_3' (o a b : Value) : argsOk "object.__init__" ⟨[o, a, b], []⟩ := by unfold argsOk; kernel_rfl

theorem call_hex {prog : Program} {w : World} {A : Around} {E : Value → Shared → Prop} {s : Shared} {x : Str} {u v : Tok} {n : Nat} {Q : Value → Shared → Prop} (hx : x = hexT n) (hn : n < 128) (h : Q (.int (n : Int) s.toks) { s with toks := s.toks + 1 }) :
    wpAny (model prog w) A (call (.type "int") [.str x u, .int 16 v]) Q E s := by
  subst hx
  exact callType_new F.called_int F.newNe_int (typeCall_int_2 _ _) (newCall_int_2 _ _) (fun obj => args_object_init_3' obj _ _) F.entry_int_new (gives_hex ⟨n, hn⟩).meets (show (Made.int (n : Int)).post _ s from ⟨rfl, h⟩)
end Mine
end

/- text My11 -/
section
set_option maxRecDepth 100000
namespace Mine
open PySem PySem.W
theorem xor_snoc : ∀ (l : List Nat) (r : Int) (c : Nat), xorFrom r (l ++ [c]) = Builtin.bitXor (xorFrom r l) c
  | [], _, _ => rfl
  | b :: l, r, c => xor_snoc l (Builtin.bitXor r b) c

theorem codes_nat (x : Str) : (KStt.codes x).map Int.toNat = x.cps.toList := by
  unfold KStt.codes
  rw [List.map_map]
  exact (List.map_congr_left (g := _root_.id) fun c _ => Int.toNat_natCast c).trans (List.map_id _)

theorem hex_start : (0 : Int) = xorFrom 0 (List.map Int.toNat []) ∧ (0 : Int) ≤ 0 ∧ (0 : Int) < 128 := ⟨rfl, by decide, by decide⟩

theorem hex_turn {x : Str} {pre post : List Int} {n : Nat} {v : Int} (ha : (x.cps.all fun c => decide (c < 128)) = true) (e : KStt.codes x = pre ++ (n : Int) :: post)
    (hv : v = xorFrom 0 (pre.map Int.toNat)) (h0 : 0 ≤ v) (h1 : v < 128) :
    v + (n : Int) - 2 * Builtin.bitAnd v n = xorFrom 0 ((pre ++ [(n : Int)]).map Int.toNat) ∧ 0 ≤ v + (n : Int) - 2 * Builtin.bitAnd v n ∧ v + (n : Int) - 2 * Builtin.bitAnd v n < 128 := by
  rw [← PyProof.Rows.bitXor_and]
  have hn : n < 128 := by
    have e' := congrArg (List.map Int.toNat) e
    rw [codes_nat, List.map_append, List.map_cons, Int.toNat_natCast] at e'
    rw [← Array.all_toList, e', List.all_append, Bool.and_eq_true, List.all_cons, Bool.and_eq_true] at ha
    exact of_decide_eq_true ha.2.1
  obtain ⟨a, rfl⟩ := Int.eq_ofNat_of_zero_le h0
  have q := xor_step ⟨a, by omega⟩ ⟨n, hn⟩
  refine ⟨?_, q⟩
  rw [List.map_append, List.map_cons, List.map_nil, Int.toNat_natCast, xor_snoc, ← hv]

theorem hex_item : ∀ d : Fin 16, Txt.item (Str.ofString "0123456789ABCDEF") (d.val : Int) = ⟨#[hexD d.val]⟩ := by decide +kernel

theorem hex_done {x : Str} {v : Int} (hv : v = xorFrom 0 ((KStt.codes x).map Int.toNat)) (h0 : 0 ≤ v) (h1 : v < 128) :
    Txt.item (Str.ofString "0123456789ABCDEF") (v.fdiv 16) ++ Txt.item (Str.ofString "0123456789ABCDEF") (v.fmod 16) = hexT (csum x) := by
  rw [codes_nat] at hv
  obtain ⟨a, rfl⟩ := Int.eq_ofNat_of_zero_le h0
  have e : csum x = a := by unfold csum; rw [← hv]; rfl
  have e1 : ((a : Int).fdiv 16) = ((a / 16 : Nat) : Int) := by rw [Int.fdiv_eq_ediv_of_nonneg _ (by decide)]; omega
  have e2 : ((a : Int).fmod 16) = ((a % 16 : Nat) : Int) := by rw [Int.fmod_eq_emod_of_nonneg _ (by decide)]; omega
  rw [e, e1, e2, hex_item ⟨a / 16, by omega⟩, hex_item ⟨a % 16, by omega⟩]
  rfl
end Mine
end

/- text My12 -/
section
set_option maxRecDepth 100000
namespace Mine
open PySem PySem.W PySem.Calls PyProof.Rows

def joinMap (m₀ : Str → Option Value) (vk vp : Option Value) (vT : Value) : Str → Option Value := fun y =>
  if y = Str.ofString "text" then some vT else if y = Str.ofString "part" then vp else if y = Str.ofString "k" then vk else m₀ y
structure JoinPost (h₀ : Heap) (L : Addr) (m₀ : Str → Option Value) (all : List (Addr × Obj)) (new : Str) (s₁ : Shared) (f : Flow) (s₂ : Shared) : Prop where
  out : f = .next ∧ ∃ h' tk vk vp t, s₂ = { s₁ with heap := h', toks := tk } ∧ Fr h₀ L h' (joinMap m₀ vk vp (.str new t)) ∧ News h₀ L h' all

theorem joinMap_start (m₀ : Str → Option Value) (v : Value) (h : m₀ (Str.ofString "text") = some v) : m₀ = joinMap m₀ (m₀ (Str.ofString "k")) (m₀ (Str.ofString "part")) v := by
  funext y
  unfold joinMap
  by_cases h1 : y = Str.ofString "text"
  · rw [if_pos h1, h1, h]
  rw [if_neg h1]
  by_cases h2 : y = Str.ofString "part"
  · rw [if_pos h2, h2]
  rw [if_neg h2]
  by_cases h3 : y = Str.ofString "k"
  · rw [if_pos h3, h3]
  rw [if_neg h3]
theorem joinMap_end1 {m₀ : Str → Option Value} {vk vp : Option Value} {a b c v : Value} : (fun y => if y = Str.ofString "text" then some v else if y = Str.ofString "part" then some b else if y = Str.ofString "k" then some a else joinMap m₀ vk vp c y) = joinMap m₀ (some a) (some b) v := by
  funext y
  unfold joinMap
  by_cases h1 : y = Str.ofString "text"
  · simp only [h1, if_true]
  by_cases h2 : y = Str.ofString "part"
  · simp only [h1, h2, if_true]
  by_cases h3 : y = Str.ofString "k"
  · simp only [h1, h3, if_true, if_false]
  simp only [h1, h2, h3, if_false]
theorem joinMap_end2 {m₀ : Str → Option Value} {vk vp : Option Value} {a b c v v₁ : Value} : (fun y => if y = Str.ofString "text" then some v else if y = Str.ofString "text" then some v₁ else if y = Str.ofString "part" then some b else if y = Str.ofString "k" then some a else joinMap m₀ vk vp c y) = joinMap m₀ (some a) (some b) v := by
  rw [← joinMap_end1 (m₀ := m₀) (vk := vk) (vp := vp) (a := a) (b := b) (c := c) (v := v)]
  funext y
  by_cases h1 : y = Str.ofString "text"
  · rw [if_pos h1, if_pos h1]
  · rw [if_neg h1, if_neg h1, if_neg h1]
theorem join_end1 {h₀ h' : Heap} {L : Addr} {m₀ : Str → Option Value} {vk vp : Option Value} {a b c : Value} {x new : Str} {t : Tok} {all all' : List (Addr × Obj)} {s₁ : Shared} {tk : Nat}
    (F : Fr h₀ L h' (fun y => if y = Str.ofString "text" then some (.str x t) else if y = Str.ofString "part" then some b else if y = Str.ofString "k" then some a else joinMap m₀ vk vp c y)) (N : News h₀ L h' all') (hs : ∀ p ∈ all, p ∈ all') (e : x = new) : JoinPost h₀ L m₀ all new s₁ .next { s₁ with heap := h', toks := tk } := by
  subst e
  exact ⟨rfl, h', tk, some a, some b, t, rfl, joinMap_end1 ▸ F, fun p hp => N p (hs p hp)⟩
theorem join_end2 {h₀ h' : Heap} {L : Addr} {m₀ : Str → Option Value} {vk vp : Option Value} {a b c v₁ : Value} {x new : Str} {t : Tok} {all all' : List (Addr × Obj)} {s₁ : Shared} {tk : Nat}
    (F : Fr h₀ L h' (fun y => if y = Str.ofString "text" then some (.str x t) else if y = Str.ofString "text" then some v₁ else if y = Str.ofString "part" then some b else if y = Str.ofString "k" then some a else joinMap m₀ vk vp c y)) (N : News h₀ L h' all') (hs : ∀ p ∈ all, p ∈ all') (e : x = new) : JoinPost h₀ L m₀ all new s₁ .next { s₁ with heap := h', toks := tk } := by
  subst e
  exact ⟨rfl, h', tk, some a, some b, t, rfl, joinMap_end2 ▸ F, fun p hp => N p (hs p hp)⟩
theorem pre_pos {pre : List Str} {a Z b : Str} (h : 0 < (pre.length : Int)) : Z ++ Str.ofString "," ++ a = if pre = [] then b else Z ++ Str.ofString "," ++ a := by
  rw [if_neg]
  intro e
  subst e
  exact absurd h (by decide)
theorem pre_neg {pre : List Str} {a b : Str} (h : ¬ 0 < (pre.length : Int)) : joinT pre ++ a = if pre = [] then a else b := by
  have e : pre = [] := List.eq_nil_of_length_eq_zero (by omega)
  rw [if_pos e, e]
  exact (by rw [show joinT [] = Str.empty from rfl, Str.empty_append])
theorem joinT_snoc (a : Str) (l : List Str) : joinT (l ++ [a]) = if l = [] then a else joinT l ++ Str.ofString "," ++ a := by
  unfold joinT Txt.join
  rw [StrLaws.glued_eq_join, StrLaws.glued_eq_join, FinIter.join_snoc]
theorem joinT_le (a : Str) (l : List Str) : (joinT l).length ≤ (joinT (l ++ [a])).length ∧ a.length ≤ (joinT (l ++ [a])).length := by
  rw [joinT_snoc]
  by_cases h : l = []
  · subst h
    rw [if_pos rfl]
    exact ⟨Nat.zero_le _, Nat.le_refl _⟩
  · rw [if_neg h, Str.length_append, Str.length_append]
    omega
theorem joinT_pre (l : List Str) : ∀ (post : List Str), (joinT l).length ≤ (joinT (l ++ post)).length := by
  intro post
  induction post generalizing l with
  | nil => rw [List.append_nil]; exact Nat.le_refl _
  | cons a r ih =>
    have h1 := ih (l ++ [a])
    rw [List.append_assoc, List.singleton_append] at h1
    exact Nat.le_trans (joinT_le a l).1 h1
theorem joinT_mid {all l post : List Str} {a : Str} (e : all = l ++ a :: post) (h : (joinT all).length ≤ 100) : (joinT l).length ≤ 100 ∧ a.length ≤ 100 := by
  subst e
  have h1 := joinT_pre (l ++ [a]) post
  rw [List.append_assoc, List.singleton_append] at h1
  have h2 := joinT_le a l
  omega

section
variable {prog : Program} {w : World} {A : Around} {E : Value → Shared → Prop} {s : Shared} {env : Env} {h₀ : Heap} {body : List Stmt} {Q : Flow → Shared → Prop} {elts : List Expr} {kk : Nat} {pos : Pos}

theorem join_rest {ws : List (Addr × String)} {l : Addr} {lo : Obj} {all : List Str} {m₀ : Str → Option Value} {news : List (Addr × Obj)} (hm : (l, lo) ∈ news)
    (turn : ∀ (pre : List Str) (a : Str) (post : List Str) (vk vp : Option Value) (tT ti ta : Tok) (T : Addr) (h : Heap) (tk : Nat) (full : List (Addr × Obj)), all = pre ++ a :: post → IsTup h T #[.int (pre.length : Int) ti, .str a ta] →
      Fr h₀ env.locals h (joinMap m₀ vk vp (.str (joinT pre) tT)) → News h₀ env.locals h full →
      wpAny (model prog w) A (assign (.Tuple elts kk pos) env (.ref T)) (fun _ s₂ => wpAny (model prog w) A (execs body env) (JoinPost h₀ env.locals m₀ full (joinT (pre ++ [a])) { s with heap := h, toks := tk }) E s₂) E { s with heap := h, toks := tk })
    (done : ∀ h tk vk vp t, Fr h₀ env.locals h (joinMap m₀ vk vp (.str (joinT all) t)) → News h₀ env.locals h news → Q .next { s with heap := h, toks := tk })
    (hoff : ∀ p ∈ news, ∀ q ∈ ws, p.1 ≠ q.1) :
    ∀ (rest : List (Str × Tok)) (pre : List Str) (i : Nat) (vk vp : Option Value) (t : Tok), i = pre.length → all = pre ++ rest.map (·.1) →
      ItemsRest prog w A E h₀ env (.Tuple elts kk pos) body Q s ws [(l, lo)] (enumItems i (strValues rest)) (joinMap m₀ vk vp (.str (joinT pre) t)) news
  | [], pre, i, vk, vp, t, _, e => by
    rw [List.map_nil, List.append_nil] at e
    subst e
    exact fun h tk F N => done h tk vk vp t F N
  | (a, ta) :: rest, pre, i, vk, vp, t, hi, e => by
    subst hi
    have e' : all = (pre ++ [a]) ++ rest.map (·.1) := by rw [e]; simp
    refine ItemsRest.pair fun T ti h tk hT F => ?_
    have key : ∀ its : List (Addr × Obj), Objs ws its → News h₀ env.locals h (its ++ news) →
        wpAny (model prog w) A (assign (.Tuple elts kk pos) env (.ref T)) (fun _ s₂ => wpAny (model prog w) A (execs body env) (UnrPostW h₀ env.locals { s with heap := h, toks := tk } its (fun m' n' => SubL [(l, lo)] n' ∧ ItemsRest prog w A E h₀ env (.Tuple elts kk pos) body Q s ws [(l, lo)] (enumItems (pre.length + 1) (strValues rest)) m' n') Q) E s₂) E { s with heap := h, toks := tk } := by
      intro its hits N
      refine wpAny_mono (turn pre a _ vk vp t ti ta T h tk _ e hT F N) (fun _ s₂ h₂ => wpAny_mono h₂ (fun f s₃ p => ?_) fun _ _ e => e) fun _ _ e => e
      obtain ⟨rfl, h', tk', vk', vp', t', rfl, F', N'⟩ := p.out
      refine ⟨h', tk', _, news, rfl, F', N', ?_, ⟨⟨hm, trivial⟩, ?_⟩⟩
      · intro p hp q hq e
        have hq' : q.1 ∈ its.map (·.1) := List.mem_map.mpr ⟨q, hq, rfl⟩
        rw [hits.map] at hq'
        obtain ⟨r, hr, hre⟩ := List.mem_map.mp hq'
        exact hoff p hp r hr (e.trans hre.symm)
      · exact join_rest hm turn done hoff rest (pre ++ [a]) _ vk' vp' t' (by simp) e'
    have go : ∀ (ws' : List (Addr × String)) (k : List (Addr × Obj) → Prop), (∀ its, Objs ws' its → k its) → AllObj ws' k := by
      intro ws'
      induction ws' with
      | nil => exact fun k hk => hk [] trivial
      | cons q r ih => exact fun k hk o ho => ih _ fun its hi => hk _ ⟨⟨rfl, ho⟩, hi⟩
    exact go ws _ key

theorem join_enum {l : Addr} {tl : List (Str × Tok)} {e : Nat} {m₀ : Str → Option Value} {news : List (Addr × Obj)} {t₀ : Tok} {T₀ : Str}
    (hh : A.handled = none) (F : Fr h₀ env.locals s.heap m₀) (N : News h₀ env.locals s.heap news) (hm : (l, PySem.W.listOf (strValues tl).toArray e) ∈ news) (h0 : m₀ (Str.ofString "text") = some (.str T₀ t₀)) (hT₀ : T₀ = joinT [])
    (turn : ∀ (pre : List Str) (a : Str) (post : List Str) (vk vp : Option Value) (tT ti ta : Tok) (T : Addr) (h : Heap) (tk : Nat) (full : List (Addr × Obj)), tl.map (·.1) = pre ++ a :: post → IsTup h T #[.int (pre.length : Int) ti, .str a ta] →
      Fr h₀ env.locals h (joinMap m₀ vk vp (.str (joinT pre) tT)) → News h₀ env.locals h full →
      wpAny (model prog w) A (assign (.Tuple elts kk pos) env (.ref T)) (fun _ s₂ => wpAny (model prog w) A (execs body env) (JoinPost h₀ env.locals m₀ full (joinT (pre ++ [a])) { s with heap := h, toks := tk }) E s₂) E { s with heap := h, toks := tk })
    (done : ∀ h tk vk vp t, Fr h₀ env.locals h (joinMap m₀ vk vp (.str (joinT (tl.map (·.1))) t)) → News h₀ env.locals h news → Q .next { s with heap := h, toks := tk }) :
    wpAny (model prog w) A (call (.type "enumerate") [.ref l]) (fun xv s₁ => wpAny (model prog w) A (pyIter xv) (fun it s₂ => TurnsAt prog w A h₀ env (.Tuple elts kk pos) body Q E it s₂) E s₁) E s := by
  subst hT₀
  refine ktu_enum (lo := PySem.W.listOf (strValues tl).toArray e) hh F N hm rfl rfl rfl fun I hI => ?_
  have hs := joinMap_start m₀ _ h0
  have q := join_rest (ws := [(I + 1, "enumerate"), (I, "list_iterator")]) (s := s) (Q := Q) (m₀ := m₀) hm turn done ?_ tl [] 0 (m₀ (Str.ofString "k")) (m₀ (Str.ofString "part")) t₀ rfl rfl
  · rw [← hs] at q
    exact q
  intro p hp q hq e
  have := hI p hp
  simp only [List.mem_cons, List.not_mem_nil, or_false] at hq
  rcases hq with rfl | rfl
  · exact Nat.ne_of_lt (Nat.lt_succ_of_lt this) e
  · exact Nat.ne_of_lt this e
end
end Mine
end

/- text My13 -/
section
set_option maxRecDepth 100000
set_option linter.all false
namespace Mine
open PySem PySem.W PySem.Calls PyProof.Rows Builtin

theorem under_str {prog : Program} {w : World} {A : Around} {E : Value → Shared → Prop} {s : Shared} {b : Nat} {x : Str} {t : Tok} {Q : Value → Shared → Prop} (h : Q (.str (reprText x) s.toks) { s with toks := s.toks + 1 }) (hx : (reprText x).length ≤ sizeLine) :
    wpAny (model prog w) A (pyReprObjUnder b (.str x t)) Q E s := by
  unfold pyReprObjUnder pyReprObjBy
  simp only [cRoomFor, show [Value.str x t].any Value.onHeap = false from rfl, Bool.false_eq_true, if_false, pure_bind]
  refine wpAny_bind (wpAny_specialOf (name := Str.ofString "__repr__") (typeIs_str s x t) F.slot_str_repr.lookup ?_)
  refine wpAny_bind (wpAny_callSpecialIfBoundBy?_slotG (name := Str.ofString "__repr__") (typeIs_str s x t) F.slot_str_repr.toG ?_)
  refine (call_gives F.slot_str_repr (typeIs_str s x t) F.entry_str_repr (F.args_str_repr_1 _) (gives_str_repr x t) ⟨hx, ?_⟩)
  exact wpAny_bind (wpAny_isInstance (T := "str") (b := true) rfl isSubtype_str_str (wpAny_pure h))

theorem pct_r_meets {t u : Tok} (z : Str) (hl : z.length ≤ 1000) (hz : ∀ c ∈ z.cps.toList, c < 16 ^ 8) :
    Meets (Builtin.«str.__mod__» ⟨[.str (Str.ofString "could not parse sentence type: %r") t, .str z u], []⟩) (fun _ R s => ∀ t' j, R (.ok (.ret (.str (Str.ofString "could not parse sentence type: " ++ reprText z) t'))) { s with toks := j }) := by
  have hr := StrLaws.reprText_len z hz
  rw [show Str.ofString "could not parse sentence type: %r" = (⟨#[99, 111, 117, 108, 100, 32, 110, 111, 116, 32, 112, 97, 114, 115, 101, 32, 115, 101, 110, 116, 101, 110, 99, 101, 32, 116, 121, 112, 101, 58, 32, 37, 114]⟩ : Str) by decide +kernel]
  apply KPc.meets_of
  intro _ _ _ _ _ _ _
  rw [KPc.entry_is_s]
  unfold Builtin.Str.percentFormat
  refine wpAny_bind (wpAny_isInstance (typeIs_str _ _ _) F.sub_str_tuple ?_)
  refine wpAny_bind (wpAny_of_eq (a := some _) rfl ?_)
  refine wpAny_bind (KPc.wp_fills_str ?_)
  intro _
  kpc_if
  refine wpAny_bind (wpAny_pure ?_)
  refine wpAny_bind ?_
  rw [KPc.range_list]
  refine KPc.start ?_
  intro _ _
  refine KPc.turn ?_; kpc_check; (repeat kpc_if)
  refine wpAny_pure ?_
  kpc_piece
  refine KPc.turn ?_; kpc_check; (repeat kpc_if)
  refine wpAny_bind ?_; refine wpAny_holding ?_; (repeat kpc_if)
  refine wpAny_bind ?_
  (repeat kpc_if)
  refine under_str ?_ (by rw [sizeLine_eq]; omega)
  refine wpAny_bind (wpAny_of_eq (a := some _) rfl ?_)
  refine wpAny_pure ?_
  refine wpAny_pure ?_
  refine KPc.after_str (K := 10002) (by kpc_g) (by omega) (by kpc_obj) ?_
  intro _ _
  kpc_turns

theorem pct_r {prog : Program} {w : World} {A : Around} {E : Value → Shared → Prop} {s : Shared} {t u : Tok} {z : Str} {Q : Value → Shared → Prop} (hl : z.length ≤ 1000) (hz : ∀ c ∈ z.cps.toList, c < 16 ^ 8)
    (h : ∀ T t' k, Q (.str T t') { s with toks := k }) : wpAny (model prog w) A (binaryOp .Mod (.str (Str.ofString "could not parse sentence type: %r") t) (.str z u)) Q E s :=
  binaryOp_meets (T := "str") (op := .Mod) (typeIs_str s _ t) (typeIs_str s z u) F.fills_str_mod F.slot_str_mod F.entry_str_mod (F.args_str_mod_2 _ _) (pct_r_meets z hl hz) (fun t' k => ⟨(fun e => nomatch e), h _ t' k⟩)
end Mine
end

/- text My14 -/
section
set_option maxRecDepth 100000
set_option linter.all false
namespace Mine
open PySem PySem.W PySem.Calls PyProof.Rows Builtin

abbrev excOb (C t : Addr) : Obj := { cls := .ref C, data := .fields #[.ref t, .none, .none, .none, .bool false, .none] }
abbrev wrapOb (id : String) (e : Addr) : Obj := { cls := .type "method-wrapper", data := .fields #[.builtin id, .ref e] }

theorem slot_wrap_get : Slot "wrapper_descriptor" "__get__" "wrapper_descriptor.__get__" := .of (owner := "wrapper_descriptor") (n := "__get__") (by rw [typeLookup_type, builtinLookup_eq_fast]; kernel_rfl) (by decide +kernel) (by decide +kernel) (by decide +kernel)
    (by first | exact .inl (by decide +kernel) | exact .inr (by decide +kernel)) (by rw [isSubtype_type]; kernel_rfl)
theorem entry_wrap_get : entryFor table "wrapper_descriptor.__get__" = some Builtin.«wrapper_descriptor.__get__» := entryFor_of_tree (by kernel_rfl)
theorem args_wrap_get (a b c : Value) : argsOk "wrapper_descriptor.__get__" ⟨[a, b, c], []⟩ := by unfold argsOk; kernel_rfl
theorem ty_vi (s : Shared) : s.TypeIs (.builtin "ValueError.__init__") "wrapper_descriptor" := by first | rfl | (show _ = _; decide +kernel) | (unfold Shared.TypeIs; decide +kernel)

section
variable {prog : Program} {w : World} {A : Around} {E : Value → Shared → Prop} {s : Shared} {h₀ : Heap} {L : Addr} {m mg mb : Str → Option Value} {news : List (Addr × Obj)} {K : Frag} {e C t0 : Addr}

theorem super_two {cd : ClassData} {Q : Value → Shared → Prop} (F : Fr h₀ L s.heap m) (X₀ : K.In h₀) (N : News h₀ L s.heap news) (he : (e, excOb C t0) ∈ news) (hD : clsIn K C = some cd) (hsub : mroIn K C (.ref C) = some true)
    (h : ∀ so h', Fr h₀ L h' m → News h₀ L h' ((so, ks_superObj C e C) :: news) → (∀ p ∈ news, p.1 < so) → Q (.ref so) { s with heap := h' }) : wpAny (model prog w) A (call (.type "super") [.ref C, .ref e]) Q E s := by
  have X : K.In s.heap := X₀.keeps F.keep
  obtain ⟨hh, g, d, t, os⟩ := s
  obtain ⟨oD, hD1, hD2⟩ : ∃ oD, hh.get? C = some oD ∧ oD.data = .cls cd := by
    unfold clsIn at hD
    split at hD
    · rename_i c d cd' sl ho
      cases hD
      exact ⟨_, X _ _ ho, rfl⟩
    · cases hD
  refine ks_wpAny_call_super hD1 hD2 (N _ he).1 rfl (fun c q => by cases q) (looks_mroIn X hsub) (fun h' q k => ?_)
  obtain ⟨F', N', l'⟩ := ks_newsPush (s := ⟨hh, g, d, t, os⟩) F N rfl q k
  exact h _ _ F' N' l'

theorem super_get {so D x : Addr} {l₀ l : List Value} {tk : Tok} {g : Array GenState} {d : Drawn} {t : Nat} {os : OsState} {h : Heap} {ox : Obj} {Q : Fin → Shared → Prop}
    (hso : h.get? so = some { cls := .type "super", dict := none, data := .fields #[.ref D, .ref x, .ref C], slots := #[] }) (hno : Looks (model prog w) h (opaqueClassAbove (.ref C)) none)
    (hC : Looks (model prog w) h (mroOf (.ref C)) l₀) (hl : (l₀.dropWhile (· != .ref D)).drop 1 = l) (X : K.In h)
    (hf : alongIn K "__init__" l = some (some (.builtin "ValueError.__init__"))) (hx : h.get? x = some ox) (hxc : ox.cls = .ref C) (hsub : Looks (model prog w) h (isSubtype (.ref C) (.type "ValueError")) true) (hxC : x ≠ C)
    (hq : Q (.done (.ret (.ref h.objs.size))) ⟨h.push (wrapOb "ValueError.__init__" x), g, d, t, os⟩) :
    wpAny (model prog w) A (Builtin.«super.__getattribute__» ⟨[.ref so, .str "__init__" tk], []⟩) Q E ⟨h, g, d, t, os⟩ := by
  have hlk := slot_wrap_get.lookup
  have hne : (Value.ref x == Value.ref C) = false := by simp [hxC]
  have hTf : (⟨h, g, d, t, os⟩ : Shared).TypeIs (.builtin "ValueError.__init__") "wrapper_descriptor" := ty_vi _
  have hn : (Str.ofString "__init__" == (Str.ofString "__class__")) = false := by decide +kernel
  have hdt : ({ cls := .type "super", dict := none, data := .fields #[.ref D, .ref x, .ref C], slots := #[] } : Obj).data = .fields #[.ref D, .ref x, .ref C] := rfl
  have f0 : (#[.ref D, .ref x, .ref C] : Array Value)[0]? = some (.ref D) := rfl
  have f1 : (#[.ref D, .ref x, .ref C] : Array Value)[1]? = some (.ref x) := rfl
  have f2 : (#[.ref D, .ref x, .ref C] : Array Value)[2]? = some (.ref C) := rfl
  unfold Builtin.«super.__getattribute__»
  repeat (first
    | (with_reducible refine wpAny_field hso hdt f0 ?_) | (with_reducible refine wpAny_field hso hdt f1 ?_) | (with_reducible refine wpAny_field hso hdt f2 ?_)
    | (with_reducible refine ks_wpAny_notOpaque hno ?_)
    | (with_reducible refine Looks.at hC ?_; rw [hl])
    | (refine ks_forIn_along X (fun _ _ => rfl) rfl ?_ hf)
    | (with_reducible refine wpAny_typeOf hTf ?_)
    | (with_reducible refine wpAny_call_entry slot_wrap_get hTf entry_wrap_get ?_ (args_wrap_get _ _ _))
    | (with_reducible refine ⟨_, rfl, ?_⟩)
    | (simp only [hn, hne, Bool.or_false, Bool.false_eq_true, if_false])
    | wp_step
    | dsimp only)
  rw [hxc, show ".".intercalate ("ValueError.__init__".cutAt '.').dropLast = "ValueError" by decide +kernel]
  refine Looks.at hsub ?_
  refine wpAny_ite ?_
  rw [if_neg (by decide)]
  refine wpAny_pure ?_
  unfold newFields
  refine wpAny_bind (wpAny_newObj_type ?_ ?_)
  · exact wpAny_pure ⟨_, rfl, wpAny_pure (wpAny_pure hq)⟩
  · size_fits

theorem super_getMethod {so D x : Addr} {l₀ l : List Value} {pl : Sem Bool} {g : Array GenState} {d : Drawn} {t : Nat} {os : OsState} {h : Heap} {ox : Obj} {Q : Value × List Value → Shared → Prop}
    (hso : h.get? so = some { cls := .type "super", dict := none, data := .fields #[.ref D, .ref x, .ref C], slots := #[] }) (hno : Looks (model prog w) h (opaqueClassAbove (.ref C)) none)
    (hC : Looks (model prog w) h (mroOf (.ref C)) l₀) (hl : (l₀.dropWhile (· != .ref D)).drop 1 = l) (X : K.In h)
    (hf : alongIn K "__init__" l = some (some (.builtin "ValueError.__init__"))) (hx : h.get? x = some ox) (hxc : ox.cls = .ref C) (hsub : Looks (model prog w) h (isSubtype (.ref C) (.type "ValueError")) true) (hxC : x ≠ C)
    (hq : Q (.ref h.objs.size, []) ⟨h.push (wrapOb "ValueError.__init__" x), g, d, t + 1, os⟩) :
    wpAny (model prog w) A (getMethod (.ref so) "__init__" pl) Q E ⟨h, g, d, t, os⟩ := by
  have hlk := F.ks_slot_super_ga.lookup
  have hcan := F.ks_canon_super_ga
  have hT : ∀ t', (⟨h, g, d, t', os⟩ : Shared).TypeIs (.ref so) "super" := fun _ => ⟨_, hso, rfl⟩
  unfold getMethod
  refine wpAny_bind (wpAny_specialOf (hT _) hlk ?_)
  show wpAny _ _ (if (Manifest.canonical "super.__getattribute__" != "object.__getattribute__") = true then _ else _) _ _ _
  rw [if_pos hcan]
  unfold getAttr getAttrBy
  refine wpAny_bind (wpAny_bind (wpAny_mkText (wpAny_holding (wpAny_bind (wpAny_typeOf (hT _) (wpAny_bind (wpAny_of_eq hlk ?_)))))))
  show wpAny _ _ (getAttrByItsOwn (.ref so) (.str "__init__" t) (.type "super") (.builtin "super.__getattribute__") true false) _ _ _
  unfold getAttrByItsOwn hookBefore callGetattribute boundAndCalled
  refine wpAny_bind (wpAny_of_eq (show (if onTheHeap (.type "super") then typeLookup (.type "super") "__getattr__" else pure none) = pure none from rfl) ?_)
  refine wpAny_bind (wpAny_attempt (wpAny_holding ?_))
  show wpAny _ _ (bindSpecial (.builtin "super.__getattribute__") (.ref so) >>= _) _ _ _
  refine wpAny_bind (wpAny_of_eq (F.ks_slot_super_ga.bind _) ?_)
  refine wpAny_mono (Q := fun v s' => v = .ref h.objs.size ∧ s' = ⟨h.push (wrapOb "ValueError.__init__" x), g, d, t + 1, os⟩) (E := fun _ _ => False)
    (wpAny_call_entry F.ks_slot_super_ga (hT _) F.ks_entry_super_ga (super_get hso hno hC hl X hf hx hxc hsub hxC ⟨_, rfl, rfl, rfl⟩) (F.ks_gaArgs_super _ _)) (fun v s' hv => ?_) fun _ _ z => z.elim
  obtain ⟨rfl, rfl⟩ := hv
  exact wpAny_pure (wpAny_pure hq)

/-- the super object's __init__ of a class made on ValueError -/
theorem super_meth {so : Addr} {pl : Sem Bool} {Q : Value × List Value → Shared → Prop} (F : Fr h₀ L s.heap m) (X₀ : K.In h₀) (N : News h₀ L s.heap news) (hso : (so, ks_superObj C e C) ∈ news) (he : (e, excOb C t0) ∈ news) (ho : nsIn K cStatics "thirdparty.any" = some none)
    (hm : ks_superIn K C C "__init__" = some (some (.builtin "ValueError.__init__"))) (hsub : mroIn K C (.type "ValueError") = some true)
    (h : ∀ q h', Fr h₀ L h' m → News h₀ L h' ((q, wrapOb "ValueError.__init__" e) :: news) → (∀ p ∈ news, p.1 < q) → Q (.ref q, []) { s with heap := h', toks := s.toks + 1 }) : wpAny (model prog w) A (getMethod (.ref so) "__init__" pl) Q E s := by
  have X : K.In s.heap := X₀.keeps F.keep
  obtain ⟨hh, g, d, t, os⟩ := s
  cases hc : clsIn K C with
  | none => unfold ks_superIn at hm; rw [hc] at hm; cases hm
  | some cd =>
    unfold ks_superIn at hm
    rw [hc] at hm
    have hne : e ≠ C := by
      rintro rfl
      unfold clsIn at hc
      split at hc
      · rename_i c d cd' sl hok
        have q1 := X _ _ hok
        have q2 := (N _ he).1
        rw [q1] at q2
        cases q2
      · cases hc
    refine super_getMethod (N _ hso).1 (looks_opaque X ho) (l₀ := cd.mro) ?_ rfl X hm (N _ he).1 rfl (looks_mroIn X hsub) hne ?_
    · exact fun A Q E s k q => wpAny_bind ((looks_clsIn X hc) A _ E s k (wpAny_pure q))
    · obtain ⟨F', N', l'⟩ := ks_newsPush (s := ⟨hh, g, d, t, os⟩) (o := wrapOb "ValueError.__init__" e) F N rfl (Heap.get?_push_at rfl rfl) (fun b o e => Heap.get?_push_of_some _ e)
      exact h _ _ F' N' l'

/-- the call of that: the args are put anew -/
theorem wrap_call {q : Addr} {v : Value} {oD : Obj} {cd : ClassData} {g : Array GenState} {d : Drawn} {t : Nat} {os : OsState} {h : Heap} {Q : Value → Shared → Prop}
    (hq : h.get? q = some (wrapOb "ValueError.__init__" e)) (hD1 : h.get? C = some oD) (hD2 : oD.data = .cls cd) (he : h.get? e = some (excOb C t0)) (hsub : Looks (model prog w) h (isSubtype (.ref C) (.type "ValueError")) true)
    (hQ : ∀ h', h'.get? e = some (excOb C h.objs.size) → h'.get? h.objs.size = some { cls := .type "tuple", data := .seq #[v] } → (∀ y o, y ≠ e → h.get? y = some o → h'.get? y = some o) → Q .none ⟨h', g, d, t, os⟩) :
    wpAny (model prog w) A (call (.ref q) [v]) Q E ⟨h, g, d, t, os⟩ := by
  refine wpAny_call (codeAny_of_tree ?_)
  show wpAny _ A.in1 (callAny (.ref q) ⟨[v], []⟩) _ _ _
  unfold callAny
  refine wpAny_bind (wpAny_load hq ?_)
  dsimp only
  rw [if_pos (by decide)]
  show wpAny _ A.in1 (if (Value.type "method-wrapper" != Value.type "method") = true then _ else _) _ _ _
  rw [if_pos (by decide)]
  have FB := PySem.F.excBase_ValueError
  have hshort := FB.noStar
  refine wpAny_bind ?_
  simp only [checkBoundCall, FB.initKind, FB.initRow]
  repeat (first | (with_reducible refine wpAny_load hD1 ?_; rw [hD2]) | (with_reducible refine wpAny_load he ?_) | wp_step)
  refine ⟨Code.quiet_builtin _ (by decide +kernel), codeAny_builtin FB.initEntry ?_⟩
  unfold Builtin.«BaseException.__init__»
  dsimp only
  rw [if_neg (by simp)]
  unfold newTuple Builtin.BaseException.bexcPut
  have he₁ := Heap.get?_push_of_some (h := h) { cls := .type "tuple", data := .seq #[v] } he
  refine wpAny_bind (wpAny_newObj_type (wpAny_bind (wpAny_bind (wpAny_field he₁ rfl rfl (wpAny_bind (wpAny_setField he₁ rfl (Nat.succ_pos 5) ?_))))) (by size_fits))
  refine wpAny_letGo (wpAny_pure ?_)
  refine hQ _ ?_ ?_ ?_
  · exact (Heap.get?_update_self _ he₁ rfl)
  · rw [Heap.get?_update_other _ _ (Nat.ne_of_lt (Heap.lt_size he))]
    exact Heap.get?_push_at rfl rfl
  · intro y o hy ho
    rw [Heap.get?_update_other _ _ hy.symm]
    exact Heap.get?_push_of_some _ ho

theorem wrap_led {q : Addr} {v : Value} {cd : ClassData} {Q : Value → Shared → Prop} (F : Fr h₀ L s.heap m) (X₀ : K.In h₀) (N : News h₀ L s.heap news) (hq : (q, wrapOb "ValueError.__init__" e) ∈ news) (he : (e, excOb C t0) ∈ news) (hD : clsIn K C = some cd) (hsub : mroIn K C (.type "ValueError") = some true)
    (h : ∀ t' h', Fr h₀ L h' m → (∀ l : List (Addr × Obj), (∀ p ∈ l, p ∈ news) → (∀ p ∈ l, p.1 ≠ e) → News h₀ L h' ((t', { cls := .type "tuple", data := .seq #[v] }) :: (e, excOb C t') :: l)) → (∀ p ∈ news, p.1 < t') → Q .none { s with heap := h' }) : wpAny (model prog w) A (call (.ref q) [v]) Q E s := by
  have X : K.In s.heap := X₀.keeps F.keep
  obtain ⟨hh, g, d, t, os⟩ := s
  obtain ⟨oD, hD1, hD2⟩ : ∃ oD, hh.get? C = some oD ∧ oD.data = .cls cd := by
    unfold clsIn at hD
    split at hD
    · rename_i c d cd' sl ho
      cases hD
      exact ⟨_, X _ _ ho, rfl⟩
    · cases hD
  refine wrap_call (N _ hq).1 hD1 hD2 (N _ he).1 (looks_mroIn X hsub) fun h' q1 q2 q3 => ?_
  have hLe : L ≠ e := fun z => (N _ he).2.1 z.symm
  have hF : Fr h₀ L h' m := by
    obtain ⟨oL, es, ep, hL, r⟩ := F.ns
    refine ⟨⟨oL, es, ep, q3 _ _ hLe hL, r⟩, fun b o z => q3 b o (fun y => ?_) (F.keep b o z), F.above⟩
    subst y
    rw [(N _ he).2.2] at z
    cases z
  refine h _ _ hF (fun l hl hne p hp => ?_) fun p hp => Heap.lt_size (N p hp).1
  rcases List.mem_cons.mp hp with rfl | hp
  · obtain ⟨oL, es, ep, hL, r⟩ := F.ns
    refine ⟨q2, fun z => ?_, ?_⟩
    · exact absurd (Heap.lt_size hL) (by rw [← z]; exact Nat.lt_irrefl _)
    · cases z : h₀.get? hh.objs.size with
      | none => rfl
      | some o => exact absurd (Heap.lt_size (F.keep _ _ z)) (Nat.lt_irrefl _)
  rcases List.mem_cons.mp hp with rfl | hp
  · exact ⟨q1, (N _ he).2⟩
  · have hN := N p (hl p hp)
    exact ⟨q3 _ _ (hne p hp) hN.1, hN.2⟩
end
end Mine
end

/- text My15 -/
section
set_option maxRecDepth 100000
set_option linter.all false
namespace Mine
open PySem PySem.W PySem.Calls PyProof.Rows
/-- as CutAt, the ledger told anew -/
structure CutN (h₀ : Heap) (L : Addr) (m : Str → Option Value) (s : Shared) (x : Str) (R : Value → List (Addr × Obj) → Prop) (f : Flow) (s' : Shared) : Prop where
  out : f = .next ∧ ∃ v h' k news', R v news' ∧ s' = { s with heap := h', toks := k } ∧ Fr h₀ L h' (fun y => if y = x then some v else m y) ∧ News h₀ L h' news'
theorem seq_cutN {M : Model} {A : Around} {E : Value → Shared → Prop} {s : Shared} {env : Env} {st : Stmt} {rest : List Stmt} {Q : Flow → Shared → Prop} {h₀ : Heap} {L : Addr} {m : Str → Option Value}
    (_F : Fr h₀ L s.heap m) (x : Str) (R : Value → List (Addr × Obj) → Prop)
    (h1 : wpAny M A (exec st env) (CutN h₀ L m s x R) E s)
    (h2 : ∀ v h' k news', R v news' → Fr h₀ L h' (fun y => if y = x then some v else m y) → News h₀ L h' news' → wpAny M A (execs rest env) Q E { s with heap := h', toks := k }) :
    wpAny M A (execs (st :: rest) env) Q E s := by
  refine wpAny_execs_cons (wpAny_mono h1 (fun f s' hf => ?_) fun _ _ h => h)
  obtain ⟨rfl, v, h', k, news', hR, rfl, F', N'⟩ := hf.out
  exact h2 v h' k news' hR F' N'
theorem cutN_end {s : Shared} {h₀ : Heap} {L : Addr} {m : Str → Option Value} {news' all : List (Addr × Obj)} {x : Str} {R : Value → List (Addr × Obj) → Prop} {v : Value} {h' : Heap} {k : Nat}
    (F : Fr h₀ L h' (fun y => if y = x then some v else m y)) (N : News h₀ L h' all) (hR : R v news') (hs : ∀ p ∈ news', p ∈ all) : CutN h₀ L m s x R .next { s with heap := h', toks := k } :=
  ⟨rfl, v, h', k, news', hR, rfl, F, fun p hp => N p (hs p hp)⟩

theorem carried_texts {α : Type} {g : α → Str} : ∀ {l : List α} {ys : List Value}, CarriedAll ys (l.map fun k => PyData.str (g k)) → ∃ tl : List (Str × Tok), ys = strValues tl ∧ tl.map (fun p => p.1) = l.map g
  | [], _, .nil => ⟨[], rfl, rfl⟩
  | a :: l, _, .cons (.str _ t) r => by
    obtain ⟨tl, e1, e2⟩ := carried_texts r
    exact ⟨(g a, t) :: tl, by rw [e1]; rfl, by simp [e2]⟩

/-- a statement of many ways: what the law asks behind it -/
structure CutG (h₀ : Heap) (L : Addr) (s : Shared) (R : (Str → Option Value) → List (Addr × Obj) → Prop) (f : Flow) (s' : Shared) : Prop where
  out : f = .next ∧ ∃ m' h' k news', R m' news' ∧ s' = { s with heap := h', toks := k } ∧ Fr h₀ L h' m' ∧ News h₀ L h' news'
theorem seq_cutG {M : Model} {A : Around} {E : Value → Shared → Prop} {s : Shared} {env : Env} {st : Stmt} {rest : List Stmt} {Q : Flow → Shared → Prop} {h₀ : Heap} {L : Addr} {m : Str → Option Value} (_F : Fr h₀ L s.heap m)
    (R : (Str → Option Value) → List (Addr × Obj) → Prop)
    (h1 : wpAny M A (exec st env) (CutG h₀ L s R) E s)
    (h2 : ∀ m' h' k news', R m' news' → Fr h₀ L h' m' → News h₀ L h' news' → wpAny M A (execs rest env) Q E { s with heap := h', toks := k }) :
    wpAny M A (execs (st :: rest) env) Q E s := by
  refine wpAny_execs_cons (wpAny_mono h1 (fun f s' hf => ?_) fun _ _ h => h)
  obtain ⟨rfl, m', h', k, news', hR, rfl, F', N'⟩ := hf.out
  exact h2 m' h' k news' hR F' N'
theorem cutG_end {s : Shared} {h₀ : Heap} {L : Addr} {m' : Str → Option Value} {news' all : List (Addr × Obj)} {R : (Str → Option Value) → List (Addr × Obj) → Prop} {h' : Heap} {k : Nat}
    (F : Fr h₀ L h' m') (N : News h₀ L h' all) (hR : R m' news') (hs : ∀ p ∈ news', p ∈ all) : CutG h₀ L s R .next { s with heap := h', toks := k } :=
  ⟨rfl, m', h', k, news', hR, rfl, F, fun p hp => N p (hs p hp)⟩
end Mine
end

/- text My16 -/
section
set_option maxRecDepth 100000
set_option linter.all false
namespace Mine
open PySem PySem.W PySem.Calls PyProof.Rows

structure TurnPost (h₀ : Heap) (L : Addr) (J : Nat → (Str → Option Value) → List (Addr × Obj) → Prop) (i : Nat) (q : Addr × Obj) (s₁ : Shared) (f : Flow) (s₂ : Shared) : Prop where
  out : f = .next ∧ ∃ h' tk m' nw', s₂ = { s₁ with heap := h', toks := tk } ∧ Fr h₀ L h' m' ∧ News h₀ L h' (q :: nw') ∧ (∀ p ∈ nw', p.1 ≠ q.1) ∧ J i m' nw'

section
variable {prog : Program} {w : World} {A : Around} {E : Value → Shared → Prop} {s : Shared} {env : Env} {h₀ : Heap} {body : List Stmt} {Q : Flow → Shared → Prop} {target : Expr}

theorem tup_rest {vs : List Value} {ax I : Addr} {lo : Obj} (J : Nat → (Str → Option Value) → List (Addr × Obj) → Prop)
    (hk : ∀ i m nw, J i m nw → (ax, lo) ∈ nw)
    (turn : ∀ i v m nw it h tk, vs[i]? = some v → J i m nw → Fr h₀ env.locals h m → News h₀ env.locals h ((I, it) :: nw) → (∀ p ∈ nw, p.1 ≠ I) →
      wpAny (model prog w) A (assign target env v) (fun _ s₂ => wpAny (model prog w) A (execs body env) (TurnPost h₀ env.locals J (i + 1) (I, it) { s with heap := h, toks := tk }) E s₂) E { s with heap := h, toks := tk })
    (done : ∀ m nw h tk, J vs.length m nw → Fr h₀ env.locals h m → News h₀ env.locals h nw → Q .next { s with heap := h, toks := tk }) :
    ∀ (rest : List Value) (i : Nat) (m : Str → Option Value) (nw : List (Addr × Obj)), vs.drop i = rest → i + rest.length = vs.length → J i m nw → (∀ p ∈ nw, p.1 ≠ I) →
      ItemsRest prog w A E h₀ env target body Q s [(I, "tuple_iterator")] [(ax, lo)] (rest.map .val) m nw
  | [], i, m, nw, hd, hl, hJ, hoff => by
    have e : i = vs.length := by simpa using hl
    subst e
    exact fun h tk F N => done m nw h tk hJ F N
  | v :: rest, i, m, nw, hd, hl, hJ, hoff => by
    have hv : vs[i]? = some v := by
      have := congrArg (fun l => l[0]?) hd
      simpa using this
    have hd' : vs.drop (i + 1) = rest := by
      rw [← List.drop_drop, hd]
      rfl
    refine ItemsRest.val fun h tk F => ?_
    refine fun o ho => fun N => ?_
    have N' : News h₀ env.locals h ((I, o) :: nw) := N
    refine wpAny_mono (turn i v m nw o h tk hv hJ F N' hoff) (fun _ s₂ h₂ => wpAny_mono h₂ (fun f s₃ p => ?_) fun _ _ e => e) fun _ _ e => e
    obtain ⟨rfl, h', tk', m', nw', rfl, F₂, N₂, off₂, hJ₂⟩ := p.out
    refine ⟨h', tk', m', nw', rfl, F₂, N₂, ?_, ⟨⟨hk _ _ _ hJ₂, trivial⟩, tup_rest J hk turn done rest (i + 1) m' nw' hd' (by simp only [List.length_cons] at hl; omega) hJ₂ off₂⟩⟩
    intro p hp q hq
    have : q = (I, o) := by simpa using hq
    subst this
    exact off₂ p hp

theorem for_tup {vs : List Value} {ax : Addr} {lo : Obj} {n : Nat} {m₀ : Str → Option Value} {news : List (Addr × Obj)} (J : Nat → (Str → Option Value) → List (Addr × Obj) → Prop)
    (hh : A.handled = none) (F : Fr h₀ env.locals s.heap m₀) (N : News h₀ env.locals s.heap news) (hm : (ax, lo) ∈ news) (hc : lo.cls = .type "tuple") (hd : lo.data = .seq vs.toArray n)
    (J0 : J 0 m₀ news) (hk : ∀ i m nw, J i m nw → (ax, lo) ∈ nw)
    (turn : ∀ i v m nw I it h tk, vs[i]? = some v → J i m nw → Fr h₀ env.locals h m → News h₀ env.locals h ((I, it) :: nw) → (∀ p ∈ nw, p.1 ≠ I) →
      wpAny (model prog w) A (assign target env v) (fun _ s₂ => wpAny (model prog w) A (execs body env) (TurnPost h₀ env.locals J (i + 1) (I, it) { s with heap := h, toks := tk }) E s₂) E { s with heap := h, toks := tk })
    (done : ∀ m nw h tk, J vs.length m nw → Fr h₀ env.locals h m → News h₀ env.locals h nw → Q .next { s with heap := h, toks := tk }) :
    wpAny (model prog w) A (pyIter (.ref ax)) (fun it s₂ => TurnsAt prog w A h₀ env target body Q E it s₂) E s := by
  refine iter_tupTurns hh F N hm hc hd fun I hI => ?_
  exact tup_rest J hk (fun i v m nw it h tk => turn i v m nw I it h tk) done vs 0 m₀ news (by simp) (by simp) J0 fun p hp => Nat.ne_of_lt (hI p hp)
end
end Mine
end

/- text My17 -/
section
set_option maxRecDepth 100000
set_option linter.all false
namespace Mine
open PySem PySem.W PySem.Calls PyProof.Rows

def TkOk (x : Str) : Prop := x = Str.ofString "GP" ∨ x = Str.ofString "II" ∨ x = Str.ofString "HC" ∨ x = Str.ofString "Z_"
def MkOk (x : Str) : Prop := x = Str.ofString "XYZ" ∨ x = Str.ofString "A_9" ∨ x = Str.ofString "ABC"
def GOk (ps : List Str) : Msg → Prop
  | .talk C st tk q => Kind C st ∧ TkOk tk ∧ q = ps
  | .ques tk ot st => TkOk tk ∧ TkOk ot ∧ st = Str.ofString "WPL"
  | .prop mk q => MkOk mk ∧ q = ps
def Msg.isQ : Msg → Bool
  | .ques .. => true
  | _ => false
def Msg.is2 : Msg → Bool
  | .talk C _ _ _ => C == 265
  | _ => false
def Msg.head : Msg → List Dat
  | .talk _ st tk _ => [.str st, .str tk, .str st]
  | .ques tk ot st => [.str (Str.ofString "question"), .str tk, .str ot, .str st]
  | .prop mk _ => [.str (Str.ofString "maker"), .str mk]

/-- the names that the law has when its message is made -/
structure NmS (m : Str → Option Value) (sc : Value) (sort : Int) (ts : Tok) (x pa ha sh : Addr) (body : Str) (tb : Tok) : Prop where
  script : m (Str.ofString "script") = some sc
  sort : m (Str.ofString "sort") = some (.int sort ts)
  msg : m (Str.ofString "msg") = some (.ref x)
  parts : m (Str.ofString "parts") = some (.ref pa)
  handed : m (Str.ofString "handed") = some (.ref ha)
  body : m (Str.ofString "body") = some (.str body tb)
  shown : m (Str.ofString "shown") = some (.ref sh)
/-- what lies about a message that is made -/
structure BaseF (R : List (Addr × Obj)) (g : Msg) (x pa sh : Addr) (tl : List (Str × Tok)) (its : List Value) (ep es : Nat) : Prop where
  msg : MsgAt R x g
  pa : (pa, PySem.W.listOf (strValues tl).toArray ep) ∈ R
  ps : tl.map (fun p => p.1) = g.parts
  sh : (sh, PySem.W.listOf its.toArray es) ∈ R
  hd : DatAll R its g.head

theorem msg_sub {news all : List (Addr × Obj)} {x : Addr} {g : Msg} (h : MsgAt all x g) (hs : ∀ p ∈ all, p ∈ news) : MsgAt news x g := by
  cases g with
  | talk C st tk ps => obtain ⟨hk, dx, l, h1, h2, h3, t1, t2, t3, t4, t5, n, e, tl, m1, m2, m3, r⟩ := h; exact ⟨hk, dx, l, h1, h2, h3, t1, t2, t3, t4, t5, n, e, tl, hs _ m1, hs _ m2, hs _ m3, r⟩
  | ques tk ot st => obtain ⟨dx, l, h1, h2, h3, h4, t1, t2, t3, t4, t5, t6, t7, n, e, m1, m2, m3⟩ := h; exact ⟨dx, l, h1, h2, h3, h4, t1, t2, t3, t4, t5, t6, t7, n, e, hs _ m1, hs _ m2, hs _ m3⟩
  | prop mk ps => obtain ⟨dx, l, h1, h2, t1, t2, t3, n, e, tl, m1, m2, m3, r⟩ := h; exact ⟨dx, l, h1, h2, t1, t2, t3, n, e, tl, hs _ m1, hs _ m2, hs _ m3, r⟩
theorem BaseF.sub {R R' : List (Addr × Obj)} {g : Msg} {x pa sh : Addr} {tl : List (Str × Tok)} {its : List Value} {ep es : Nat} (B : BaseF R g x pa sh tl its ep es) (hs : ∀ p ∈ R, p ∈ R') (hd : DatAll R' its g.head) : BaseF R' g x pa sh tl its ep es :=
  ⟨msg_sub B.msg hs, hs _ B.pa, B.ps, hs _ B.sh, hd⟩

structure Start (psl : List Str) (sort : Int) (ts : Tok) (sc : Value) (tl : List (Str × Tok)) (ha : Addr) (eh : Nat) (m' : Str → Option Value) (nw : List (Addr × Obj)) : Prop where
  ex : ∃ (g : Msg) (x pa sh : Addr) (tl' : List (Str × Tok)) (its : List Value) (ep es : Nat) (tb : Tok) (rest : List (Addr × Obj)),
    GOk psl g ∧ (sort == 3) = g.isQ ∧ (sort == 2) = g.is2 ∧ NmS m' sc sort ts x pa ha sh g.body tb ∧
    nw = (ha, PySem.W.listOf (strValues tl).toArray eh) :: rest ∧ (∀ p ∈ rest, p.1 ≠ ha) ∧ BaseF rest g x pa sh tl' its ep es

theorem start_end {psl : List Str} {sort : Int} {ts : Tok} {sc : Value} {tl : List (Str × Tok)} {ha : Addr} {eh : Nat} {m' : Str → Option Value} {h₀ h' : Heap} {L : Addr} {s : Shared} {k : Nat} {all rest : List (Addr × Obj)}
    {g : Msg} {x pa sh : Addr} {tl' : List (Str × Tok)} {its : List Value} {ep es : Nat} {tb : Tok}
    (F : Fr h₀ L h' m') (N : News h₀ L h' all) (h1 : GOk psl g) (h3 : (sort == 3) = g.isQ) (h2 : (sort == 2) = g.is2) (nm : NmS m' sc sort ts x pa ha sh g.body tb)
    (hr : ∀ p ∈ rest, p ∈ all) (hne : ∀ p ∈ rest, p.1 ≠ ha) (hh : (ha, PySem.W.listOf (strValues tl).toArray eh) ∈ all) (B : BaseF rest g x pa sh tl' its ep es) :
    CutG h₀ L s (Start psl sort ts sc tl ha eh) .next { s with heap := h', toks := k } :=
  cutG_end F N ⟨g, x, pa, sh, tl', its, ep, es, tb, rest, h1, h3, h2, nm, rfl, hne, B⟩ (fun p hp => by
    rcases List.mem_cons.mp hp with rfl | hp
    · exact hh
    · exact hr p hp)

/-- told and due stand apart from the rest -/
structure Off (told due : Addr) (R : List (Addr × Obj)) : Prop where
  dt : due ≠ told
  td : told ≠ due
  r1 : ∀ p ∈ R, p.1 ≠ told
  r2 : ∀ p ∈ R, p.1 ≠ due
theorem Off.all1 {told due : Addr} {R : List (Addr × Obj)} (o : Off told due R) (x : Obj) : ∀ p ∈ (due, x) :: R, p.1 ≠ told := fun p hp => by
  rcases List.mem_cons.mp hp with rfl | hp
  · exact o.dt
  · exact o.r1 p hp
end Mine
namespace Mine
open PySem PySem.W PySem.Calls PyProof.Rows
theorem gt_ne {a b : Addr} (h : a < b) : b ≠ a := Nat.ne_of_gt h
theorem start_talk {psl : List Str} {sort : Int} {ts : Tok} {sc : Value} {tl : List (Str × Tok)} {ha : Addr} {eh : Nat} {m' : Str → Option Value} {h₀ h' : Heap} {L : Addr} {s : Shared} {k : Nat}
    {x pa sh dx l C : Addr} {h1 h2 h3 : Int} {t1 t2 t3 t4 t5 a b c tb : Tok} {n e e1 ep : Nat} {tk st bt : Str} (kd : Kind C st) (htk : TkOk tk) (hps : tl.map (fun p => p.1) = psl)
    (F : Fr h₀ L h' m') (N : News h₀ L h' [(sh, PySem.W.listOf #[.str st a, .str tk b, .str st c] e1), (l, PySem.W.listOf (strValues tl).toArray e), (x, instObj C dx), (dx, dictOf [⟨h1, .str (Str.ofString "talker") t1, .str tk t4⟩, ⟨h2, .str (Str.ofString "sentence_type") t2, .str st t5⟩, ⟨h3, .str (Str.ofString "data") t3, .ref l⟩] n), (ha, PySem.W.listOf (strValues tl).toArray eh), (pa, PySem.W.listOf (strValues tl).toArray ep)])
    (g3 : (sort == 3) = false) (g2 : (sort == 2) = (C == 265)) (nm : NmS m' sc sort ts x pa ha sh bt tb) (hb : bt = tk ++ st ++ Str.ofString "," ++ joinT psl)
    (a1 : @Ne Nat dx ha) (a2 : @Ne Nat x ha) (a3 : @Ne Nat l ha) (a4 : @Ne Nat sh ha) (a5 : @Ne Nat pa ha) : CutG h₀ L s (Start psl sort ts sc tl ha eh) .next { s with heap := h', toks := k } := by
  subst hb
  refine start_end (g := .talk C st tk psl) (rest := [(sh, PySem.W.listOf #[.str st a, .str tk b, .str st c] e1), (l, PySem.W.listOf (strValues tl).toArray e), (x, instObj C dx), (dx, dictOf [⟨h1, .str (Str.ofString "talker") t1, .str tk t4⟩, ⟨h2, .str (Str.ofString "sentence_type") t2, .str st t5⟩, ⟨h3, .str (Str.ofString "data") t3, .ref l⟩] n), (pa, PySem.W.listOf (strValues tl).toArray ep)])
    F N ⟨kd, htk, rfl⟩ g3 g2 nm ?_ ?_ (.tail _ (.tail _ (.tail _ (.tail _ (.head _)))))
    ⟨msg_talk kd (.tail _ (.tail _ (.head _))) (.tail _ (.tail _ (.tail _ (.head _)))) (.tail _ (.head _)) rfl rfl hps, .tail _ (.tail _ (.tail _ (.tail _ (.head _)))), hps, .head _, .cons (.str _ _) (.cons (.str _ _) (.cons (.str _ _) .nil))⟩
  · intro p hp
    simp only [List.mem_cons, List.not_mem_nil, or_false] at hp ⊢
    rcases hp with rfl | rfl | rfl | rfl | rfl <;> simp
  · intro p hp
    simp only [List.mem_cons, List.not_mem_nil, or_false] at hp
    rcases hp with rfl | rfl | rfl | rfl | rfl
    · exact a4
    · exact a3
    · exact a2
    · exact a1
    · exact a5
theorem start_prop {psl : List Str} {sort : Int} {ts : Tok} {sc : Value} {tl : List (Str × Tok)} {ha : Addr} {eh : Nat} {m' : Str → Option Value} {h₀ h' : Heap} {L : Addr} {s : Shared} {k : Nat} {gb : Addr × Obj}
    {x pa sh dx l : Addr} {h1 h2 : Int} {t1 t2 t3 a b tb : Tok} {n e e1 ep : Nat} {mk bt : Str} (hmk : MkOk mk) (hps : tl.map (fun p => p.1) = psl)
    (F : Fr h₀ L h' m') (N : News h₀ L h' [(sh, PySem.W.listOf #[.str (Str.ofString "maker") a, .str mk b] e1), (l, PySem.W.listOf (strValues tl).toArray e), (x, instObj 244 dx), (dx, dictOf [⟨h1, .str (Str.ofString "manufacturer") t1, .str mk t2⟩, ⟨h2, .str (Str.ofString "data") t3, .ref l⟩] n), gb, (ha, PySem.W.listOf (strValues tl).toArray eh), (pa, PySem.W.listOf (strValues tl).toArray ep)])
    (g3 : (sort == 3) = false) (g2 : (sort == 2) = false) (nm : NmS m' sc sort ts x pa ha sh bt tb) (hb : bt = Str.ofString "P" ++ mk ++ joinT psl)
    (a1 : @Ne Nat dx ha) (a2 : @Ne Nat x ha) (a3 : @Ne Nat l ha) (a4 : @Ne Nat sh ha) (a5 : @Ne Nat pa ha) : CutG h₀ L s (Start psl sort ts sc tl ha eh) .next { s with heap := h', toks := k } := by
  subst hb
  refine start_end (g := .prop mk psl) (rest := [(sh, PySem.W.listOf #[.str (Str.ofString "maker") a, .str mk b] e1), (l, PySem.W.listOf (strValues tl).toArray e), (x, instObj 244 dx), (dx, dictOf [⟨h1, .str (Str.ofString "manufacturer") t1, .str mk t2⟩, ⟨h2, .str (Str.ofString "data") t3, .ref l⟩] n), (pa, PySem.W.listOf (strValues tl).toArray ep)])
    F N ⟨hmk, rfl⟩ g3 g2 nm ?_ ?_ (.tail _ (.tail _ (.tail _ (.tail _ (.tail _ (.head _))))))
    ⟨msg_prop (.tail _ (.tail _ (.head _))) (.tail _ (.tail _ (.tail _ (.head _)))) (.tail _ (.head _)) rfl hps, .tail _ (.tail _ (.tail _ (.tail _ (.head _)))), hps, .head _, .cons (.str _ _) (.cons (.str _ _) .nil)⟩
  · intro p hp
    simp only [List.mem_cons, List.not_mem_nil, or_false] at hp ⊢
    rcases hp with rfl | rfl | rfl | rfl | rfl <;> simp
  · intro p hp
    simp only [List.mem_cons, List.not_mem_nil, or_false] at hp
    rcases hp with rfl | rfl | rfl | rfl | rfl
    · exact a4
    · exact a3
    · exact a2
    · exact a1
    · exact a5
theorem start_ques {psl : List Str} {sort : Int} {ts : Tok} {sc : Value} {tl : List (Str × Tok)} {ha : Addr} {eh : Nat} {m' : Str → Option Value} {h₀ h' : Heap} {L : Addr} {s : Shared} {k : Nat} {gb q1 : Addr × Obj}
    {x pa sh dx l : Addr} {h1 h2 h3 h4 : Int} {t1 t2 t3 t4 t5 t6 t7 a b c d tb : Tok} {n e e1 ep : Nat} {tk ot bt : Str} (htk : TkOk tk) (hot : TkOk ot)
    (F : Fr h₀ L h' m') (N : News h₀ L h' [(pa, PySem.W.listOf #[] ep), (sh, PySem.W.listOf #[.str (Str.ofString "question") a, .str tk b, .str ot c, .str (Str.ofString "WPL") d] e1), (l, PySem.W.listOf #[] e), (x, instObj 218 dx), (dx, dictOf [⟨h1, .str (Str.ofString "talker") t1, .str tk t4⟩, ⟨h2, .str (Str.ofString "listener") t2, .str ot t5⟩, ⟨h3, .str (Str.ofString "sentence_type") t3, .str (Str.ofString "WPL") t6⟩, ⟨h4, .str (Str.ofString "data") t7, .ref l⟩] n), gb, (ha, PySem.W.listOf (strValues tl).toArray eh), q1])
    (g3 : (sort == 3) = true) (g2 : (sort == 2) = false) (nm : NmS m' sc sort ts x pa ha sh bt tb) (hb : bt = tk ++ ot ++ Str.ofString "Q,WPL")
    (a1 : @Ne Nat dx ha) (a2 : @Ne Nat x ha) (a3 : @Ne Nat l ha) (a4 : @Ne Nat sh ha) (a5 : @Ne Nat pa ha) : CutG h₀ L s (Start psl sort ts sc tl ha eh) .next { s with heap := h', toks := k } := by
  have hb' : bt = (Msg.ques tk ot (Str.ofString "WPL")).body := by
    rw [hb]
    simp only [Msg.body, Msg.ident, Msg.parts, joinT, ← join_nil, Str.append_assoc]
    rw [show Str.ofString "Q,WPL" = Str.ofString "Q," ++ (Str.ofString "WPL" ++ Str.ofString "") by decide +kernel]
  rw [hb'] at nm
  refine start_end (g := .ques tk ot (Str.ofString "WPL")) (tl' := []) (rest := [(pa, PySem.W.listOf #[] ep), (sh, PySem.W.listOf #[.str (Str.ofString "question") a, .str tk b, .str ot c, .str (Str.ofString "WPL") d] e1), (l, PySem.W.listOf #[] e), (x, instObj 218 dx), (dx, dictOf [⟨h1, .str (Str.ofString "talker") t1, .str tk t4⟩, ⟨h2, .str (Str.ofString "listener") t2, .str ot t5⟩, ⟨h3, .str (Str.ofString "sentence_type") t3, .str (Str.ofString "WPL") t6⟩, ⟨h4, .str (Str.ofString "data") t7, .ref l⟩] n)])
    F N ⟨htk, hot, rfl⟩ g3 g2 nm ?_ ?_ (.tail _ (.tail _ (.tail _ (.tail _ (.tail _ (.tail _ (.head _)))))))
    ⟨msg_ques (.tail _ (.tail _ (.tail _ (.head _)))) (.tail _ (.tail _ (.tail _ (.tail _ (.head _))))) (.tail _ (.tail _ (.head _))) rfl rfl rfl, .head _, rfl, .tail _ (.head _), .cons (.str _ _) (.cons (.str _ _) (.cons (.str _ _) (.cons (.str _ _) .nil)))⟩
  · intro p hp
    simp only [List.mem_cons, List.not_mem_nil, or_false] at hp ⊢
    rcases hp with rfl | rfl | rfl | rfl | rfl <;> simp
  · intro p hp
    simp only [List.mem_cons, List.not_mem_nil, or_false] at hp
    rcases hp with rfl | rfl | rfl | rfl | rfl
    · exact a5
    · exact a4
    · exact a3
    · exact a2
    · exact a1
theorem txt_W {a j psl : Str} (h : j = psl) : a ++ Str.ofString "WPL," ++ j = a ++ Str.ofString "WPL" ++ Str.ofString "," ++ psl := by
  rw [h, show Str.ofString "WPL," = Str.ofString "WPL" ++ Str.ofString "," by decide +kernel, ← Str.append_assoc]
theorem txt_T {a j psl : Str} (h : j = psl) : a ++ Str.ofString "TXT," ++ j = a ++ Str.ofString "TXT" ++ Str.ofString "," ++ psl := by
  rw [h, show Str.ofString "TXT," = Str.ofString "TXT" ++ Str.ofString "," by decide +kernel, ← Str.append_assoc]
theorem txt_R {a j psl : Str} (h : j = psl) : a ++ Str.ofString "R00," ++ j = a ++ Str.ofString "R00" ++ Str.ofString "," ++ psl := by
  rw [h, show Str.ofString "R00," = Str.ofString "R00" ++ Str.ofString "," by decide +kernel, ← Str.append_assoc]
theorem txt_1 {j psl : Str} (h : j = psl) : Str.ofString "PXYZ" ++ j = Str.ofString "P" ++ Str.ofString "XYZ" ++ psl := by
  rw [h, show Str.ofString "PXYZ" = Str.ofString "P" ++ Str.ofString "XYZ" by decide +kernel]
theorem txt_2 {j psl : Str} (h : j = psl) : Str.ofString "PA_9" ++ j = Str.ofString "P" ++ Str.ofString "A_9" ++ psl := by
  rw [h, show Str.ofString "PA_9" = Str.ofString "P" ++ Str.ofString "A_9" by decide +kernel]
theorem txt_3 {j psl : Str} (h : j = psl) : Str.ofString "PABC" ++ j = Str.ofString "P" ++ Str.ofString "ABC" ++ psl := by
  rw [h, show Str.ofString "PABC" = Str.ofString "P" ++ Str.ofString "ABC" by decide +kernel]
theorem push_texts {tl : List (Str × Tok)} {x : Str} {t : Tok} : (strValues tl).toArray.push (.str x t) = (strValues (tl ++ [(x, t)])).toArray := by
  simp [strValues]
/-- the names that the law has in its loops -/
structure NmL (m : Str → Option Value) (sc : Value) (sort : Int) (ts : Tok) (x pa ha sh told due : Addr) (body dg : Str) (tb td : Tok) : Prop where
  script : m (Str.ofString "script") = some sc
  sort : m (Str.ofString "sort") = some (.int sort ts)
  msg : m (Str.ofString "msg") = some (.ref x)
  parts : m (Str.ofString "parts") = some (.ref pa)
  handed : m (Str.ofString "handed") = some (.ref ha)
  body : m (Str.ofString "body") = some (.str body tb)
  shown : m (Str.ofString "shown") = some (.ref sh)
  digits : m (Str.ofString "digits") = some (.str dg td)
  told : m (Str.ofString "told") = some (.ref told)
  due : m (Str.ofString "due") = some (.ref due)
end Mine
end

/- text My18 -/
section
set_option maxRecDepth 100000
set_option linter.all false
namespace Mine
open PySem PySem.W PySem.Calls PyProof.Rows
theorem of_allLt {d : Addr} : ∀ {l : List (Addr × Obj)}, AllLt d l → ∀ p ∈ l, p.1 < d
  | [], _, _, h => nomatch h
  | q :: r, a, p, h => by
    rcases List.mem_cons.mp h with rfl | h
    · exact a.1
    · exact of_allLt a.2 p h
theorem datAll_snoc {n : List (Addr × Obj)} {v : Value} {d : Dat} : ∀ {vs : List Value} {ds : List Dat}, DatAll n vs ds → DatIn n v d → DatAll n (vs ++ [v]) (ds ++ [d])
  | _, _, .nil, h => .cons h .nil
  | _, _, .cons a r, h => .cons a (datAll_snoc r h)

/-- what stays in the law's loops -/
structure LV where
  sc : Value
  sort : Int
  ts : Tok
  x : Addr
  pa : Addr
  ha : Addr
  sh : Addr
  told : Addr
  due : Addr
  g : Msg
  tb : Tok
  td : Tok
  tl : List (Str × Tok)
  its : List Value
  ep : Nat
  es : Nat
  he : Obj
structure Inv (V : LV) (Eo : List (Addr × Obj)) (b : Nat) (m : Str → Option Value) (nw : List (Addr × Obj)) : Prop where
  nm : NmL m V.sc V.sort V.ts V.x V.pa V.ha V.sh V.told V.due V.g.body (hexT (csum V.g.body)) V.tb V.td
  ex : ∃ (T D : List Value) (ds : List Dat) (R : List (Addr × Obj)) (eT eD : Nat), nw = Eo ++ (V.told, PySem.W.listOf T.toArray eT) :: (V.due, PySem.W.listOf D.toArray eD) :: R ∧
    Off V.told V.due (R ++ Eo) ∧ (∀ p ∈ R, ∀ q ∈ Eo, p.1 ≠ q.1) ∧ (V.ha, V.he) ∈ R ∧ BaseF R V.g V.x V.pa V.sh V.tl V.its V.ep V.es ∧ DatAll R T ds ∧ DatAll R D ds ∧ (∀ d ∈ ds, kqdOk 8 d = true) ∧ ds.length ≤ b

theorem datAll_len {n : List (Addr × Obj)} : ∀ {vs : List Value} {ds : List Dat}, DatAll n vs ds → vs.length = ds.length
  | _, _, .nil => rfl
  | _, _, .cons _ r => by simp only [List.length_cons, datAll_len r]

/-- a turn opens -/
theorem turn_open {V : LV} {Eo : List (Addr × Obj)} {b : Nat} {m : Str → Option Value} {nw : List (Addr × Obj)} {h₀ h : Heap} {L I : Addr} {it : Obj} (J : Inv V Eo b m nw) (N : News h₀ L h ((I, it) :: nw)) (hI : ∀ p ∈ nw, p.1 ≠ I) :
    ∃ (T D : List Value) (ds : List Dat) (R RR : List (Addr × Obj)) (eT eD : Nat), RR = R ++ (I, it) :: Eo ∧ News h₀ L h ((V.told, PySem.W.listOf T.toArray eT) :: (V.due, PySem.W.listOf D.toArray eD) :: RR) ∧
      Off V.told V.due RR ∧ (∀ p ∈ R, p ∈ RR) ∧ (∀ p ∈ R, ∀ q ∈ (I, it) :: Eo, p.1 ≠ q.1) ∧ (∀ q ∈ Eo, q.1 ≠ I) ∧ (V.ha, V.he) ∈ R ∧ BaseF R V.g V.x V.pa V.sh V.tl V.its V.ep V.es ∧ DatAll R T ds ∧ DatAll R D ds ∧ (∀ d ∈ ds, kqdOk 8 d = true) ∧ ds.length ≤ b ∧ T.length = ds.length ∧ D.length = ds.length := by
  obtain ⟨nm, T, D, ds, R, eT, eD, rfl, off, hRE, hh, B, dT, dD, hok, hl⟩ := J
  refine ⟨T, D, ds, R, _, eT, eD, rfl, ?_, ⟨off.dt, off.td, ?_, ?_⟩, fun p hp => List.mem_append_left _ hp, ?_, fun q hq => hI q (List.mem_append_left _ hq), hh, B, dT, dD, hok, hl, datAll_len dT, datAll_len dD⟩
  · intro p hp
    refine N p ?_
    simp only [List.mem_cons, List.mem_append] at hp ⊢
    rcases hp with h | h | h | h | h
    · exact .inr (.inr (.inl h))
    · exact .inr (.inr (.inr (.inl h)))
    · exact .inr (.inr (.inr (.inr h)))
    · exact .inl h
    · exact .inr (.inl h)
  · intro p hp
    rcases List.mem_append.mp hp with h | h
    · exact off.r1 p (List.mem_append_left _ h)
    rcases List.mem_cons.mp h with rfl | h
    · exact fun e => hI _ (List.mem_append_right _ (.head _)) e.symm
    · exact off.r1 p (List.mem_append_right _ h)
  · intro p hp
    rcases List.mem_append.mp hp with h | h
    · exact off.r2 p (List.mem_append_left _ h)
    rcases List.mem_cons.mp h with rfl | h
    · exact fun e => hI _ (List.mem_append_right _ (.tail _ (.head _))) e.symm
    · exact off.r2 p (List.mem_append_right _ h)
  · intro p hp q hq
    rcases List.mem_cons.mp hq with rfl | hq
    · exact hI p (List.mem_append_right _ (.tail _ (.tail _ hp)))
    · exact hRE p hp q hq

/-- a turn closes -/
theorem turn_close {V : LV} {Eo R RR W : List (Addr × Obj)} {b i : Nat} {m' : Str → Option Value} {h₀ h' : Heap} {L I : Addr} {it : Obj} {s₁ : Shared} {tk eT eD : Nat} {T D : List Value} {ds : List Dat} (J : Nat → (Str → Option Value) → List (Addr × Obj) → Prop)
    (hRR : RR = R ++ (I, it) :: Eo) (off : Off V.told V.due RR) (hRE : ∀ p ∈ R, ∀ q ∈ (I, it) :: Eo, p.1 ≠ q.1) (hEI : ∀ q ∈ Eo, q.1 ≠ I) (hh : (V.ha, V.he) ∈ R) (B : BaseF R V.g V.x V.pa V.sh V.tl V.its V.ep V.es)
    (F : Fr h₀ L h' m') (N : News h₀ L h' (W ++ (V.told, PySem.W.listOf T.toArray eT) :: (V.due, PySem.W.listOf D.toArray eD) :: RR))
    (nm : NmL m' V.sc V.sort V.ts V.x V.pa V.ha V.sh V.told V.due V.g.body (hexT (csum V.g.body)) V.tb V.td)
    (hW : ∀ w ∈ W, V.told < w.1 ∧ V.due < w.1 ∧ AllLt w.1 RR) (dT : DatAll (W ++ R) T ds) (dD : DatAll (W ++ R) D ds) (hok : ∀ d ∈ ds, kqdOk 8 d = true) (hl : ds.length ≤ b)
    (hJ : ∀ nw, Inv V Eo b m' nw → J i m' nw) : TurnPost h₀ L J i (I, it) s₁ .next { s₁ with heap := h', toks := tk } := by
  subst hRR
  have hWlt : ∀ w ∈ W, ∀ q ∈ R ++ (I, it) :: Eo, q.1 < w.1 := fun w hw => of_allLt (hW w hw).2.2
  refine ⟨rfl, h', tk, m', Eo ++ (V.told, PySem.W.listOf T.toArray eT) :: (V.due, PySem.W.listOf D.toArray eD) :: (W ++ R), rfl, F, ?_, ?_, hJ _ ⟨nm, T, D, ds, W ++ R, eT, eD, rfl, ⟨off.dt, off.td, ?_, ?_⟩, ?_, List.mem_append_right _ hh, B.sub (fun p hp => List.mem_append_right _ hp) (B.hd.mono fun p hp => List.mem_append_right _ hp), dT, dD, hok, hl⟩⟩
  · intro p hp
    refine N p ?_
    simp only [List.mem_cons, List.mem_append] at hp ⊢
    rcases hp with h | h | h | h | h | h
    · exact .inr (.inr (.inr (.inr (.inl h))))
    · exact .inr (.inr (.inr (.inr (.inr h))))
    · exact .inr (.inl h)
    · exact .inr (.inr (.inl h))
    · exact .inl h
    · exact .inr (.inr (.inr (.inl h)))
  · intro p hp
    simp only [List.mem_cons, List.mem_append] at hp
    rcases hp with h | rfl | rfl | h | h
    · exact hEI p h
    · exact fun e => off.r1 (I, it) (List.mem_append_right _ (.head _)) e.symm
    · exact fun e => off.r2 (I, it) (List.mem_append_right _ (.head _)) e.symm
    · exact Nat.ne_of_gt (hWlt p h (I, it) (List.mem_append_right _ (.head _)))
    · exact hRE p h _ (.head _)
  · intro p hp
    simp only [List.mem_append] at hp
    rcases hp with (h | h) | h
    · exact Nat.ne_of_gt (hW p h).1
    · exact off.r1 p (List.mem_append_left _ h)
    · exact off.r1 p (List.mem_append_right _ (.tail _ h))
  · intro p hp
    simp only [List.mem_append] at hp
    rcases hp with (h | h) | h
    · exact Nat.ne_of_gt (hW p h).2.1
    · exact off.r2 p (List.mem_append_left _ h)
    · exact off.r2 p (List.mem_append_right _ (.tail _ h))
  · intro p hp q hq
    rcases List.mem_append.mp hp with h | h
    · exact Nat.ne_of_gt (hWlt p h q (List.mem_append_right _ (.tail _ hq)))
    · exact hRE p h q (.tail _ hq)

def lawNames : List Str := [Str.ofString "script", Str.ofString "sort", Str.ofString "msg", Str.ofString "parts", Str.ofString "handed", Str.ofString "body", Str.ofString "shown", Str.ofString "digits", Str.ofString "told", Str.ofString "due"]
theorem nml_upd {m : Str → Option Value} {sc : Value} {sort : Int} {ts : Tok} {x pa ha sh told due : Addr} {body dg : Str} {tb td : Tok} (n : NmL m sc sort ts x pa ha sh told due body dg tb td) {y : Str} {v : Value} (h : lawNames.all (fun z => z != y) = true) :
    NmL (fun z => if z = y then some v else m z) sc sort ts x pa ha sh told due body dg tb td := by
  simp only [lawNames, List.all_cons, List.all_nil, Bool.and_eq_true, bne_iff_ne, ne_eq, and_true] at h
  obtain ⟨h1, h2, h3, h4, h5, h6, h7, h8, h9, h10⟩ := h
  exact ⟨(if_neg h1).trans n.script, (if_neg h2).trans n.sort, (if_neg h3).trans n.msg, (if_neg h4).trans n.parts, (if_neg h5).trans n.handed, (if_neg h6).trans n.body, (if_neg h7).trans n.shown, (if_neg h8).trans n.digits, (if_neg h9).trans n.told, (if_neg h10).trans n.due⟩

theorem nest_open {V : LV} {Eo : List (Addr × Obj)} {b : Nat} {m : Str → Option Value} {nw : List (Addr × Obj)} {I t3 : Addr} {it tup : Obj} {y : Str} {v : Value} (J : Inv V Eo b m nw) (hI : ∀ p ∈ nw, p.1 ≠ I) (ht : ∀ p ∈ (I, it) :: nw, p.1 < t3) (hy : lawNames.all (fun z => z != y) = true) :
    Inv V ((t3, tup) :: (I, it) :: Eo) b (fun z => if z = y then some v else m z) ((t3, tup) :: (I, it) :: nw) := by
  obtain ⟨nm, T, D, ds, R, eT, eD, rfl, off, hRE, hh, B, r⟩ := J
  have i1 : V.told ≠ I := hI _ (List.mem_append_right _ (.head _))
  have i2 : V.due ≠ I := hI _ (List.mem_append_right _ (.tail _ (.head _)))
  have j1 : V.told < t3 := ht _ (.tail _ (List.mem_append_right _ (.head _)))
  have j2 : V.due < t3 := ht _ (.tail _ (List.mem_append_right _ (.tail _ (.head _))))
  refine ⟨nml_upd nm hy, T, D, ds, R, eT, eD, rfl, ⟨off.dt, off.td, ?_, ?_⟩, ?_, hh, B, r⟩
  · intro p hp
    rcases List.mem_append.mp hp with h | h
    · exact off.r1 p (List.mem_append_left _ h)
    rcases List.mem_cons.mp h with rfl | h
    · exact Nat.ne_of_gt j1
    rcases List.mem_cons.mp h with rfl | h
    · exact i1.symm
    · exact off.r1 p (List.mem_append_right _ h)
  · intro p hp
    rcases List.mem_append.mp hp with h | h
    · exact off.r2 p (List.mem_append_left _ h)
    rcases List.mem_cons.mp h with rfl | h
    · exact Nat.ne_of_gt j2
    rcases List.mem_cons.mp h with rfl | h
    · exact i2.symm
    · exact off.r2 p (List.mem_append_right _ h)
  · intro p hp q hq
    rcases List.mem_cons.mp hq with rfl | hq
    · exact Nat.ne_of_lt (ht p (.tail _ (List.mem_append_right _ (.tail _ (.tail _ hp)))))
    rcases List.mem_cons.mp hq with rfl | hq
    · exact hI p (List.mem_append_right _ (.tail _ (.tail _ hp)))
    · exact hRE p hp q hq

theorem nest_close {V : LV} {Eo : List (Addr × Obj)} {b i : Nat} {m : Str → Option Value} {nw : List (Addr × Obj)} {h₀ h' : Heap} {L I t3 : Addr} {it tup : Obj} {s₁ : Shared} {tk : Nat} (J : Nat → (Str → Option Value) → List (Addr × Obj) → Prop)
    (hinv : Inv V ((t3, tup) :: (I, it) :: Eo) b m nw) (hEI : ∀ q ∈ Eo, q.1 ≠ I) (F : Fr h₀ L h' m) (N : News h₀ L h' nw) (hJ : ∀ nw, Inv V Eo b m nw → J i m nw) : TurnPost h₀ L J i (I, it) s₁ .next { s₁ with heap := h', toks := tk } := by
  obtain ⟨nm, T, D, ds, R, eT, eD, rfl, off, hRE, hh, B, r⟩ := hinv
  refine ⟨rfl, h', tk, m, Eo ++ (V.told, PySem.W.listOf T.toArray eT) :: (V.due, PySem.W.listOf D.toArray eD) :: R, rfl, F, ?_, ?_, hJ _ ⟨nm, T, D, ds, R, eT, eD, rfl, ⟨off.dt, off.td, ?_, ?_⟩, fun p hp q hq => hRE p hp q (.tail _ (.tail _ hq)), hh, B, r⟩⟩
  · exact fun p hp => N p (.tail _ hp)
  · intro p hp
    simp only [List.mem_cons, List.mem_append] at hp
    rcases hp with h | rfl | rfl | h
    · exact hEI p h
    · exact fun e => off.r1 (I, it) (List.mem_append_right _ (.tail _ (.head _))) e.symm
    · exact fun e => off.r2 (I, it) (List.mem_append_right _ (.tail _ (.head _))) e.symm
    · exact hRE p h (I, it) (.tail _ (.head _))
  · intro p hp
    rcases List.mem_append.mp hp with h | h
    · exact off.r1 p (List.mem_append_left _ h)
    · exact off.r1 p (List.mem_append_right _ (.tail _ (.tail _ h)))
  · intro p hp
    rcases List.mem_append.mp hp with h | h
    · exact off.r2 p (List.mem_append_left _ h)
    · exact off.r2 p (List.mem_append_right _ (.tail _ (.tail _ h)))
theorem inv_mem {V : LV} {Eo : List (Addr × Obj)} {q : Addr × Obj} {b : Nat} {m : Str → Option Value} {nw : List (Addr × Obj)} (J : Inv V (q :: Eo) b m nw) : q ∈ nw := by
  obtain ⟨_, _, _, _, _, _, _, rfl, _⟩ := J
  exact .head _
theorem inv_le {V : LV} {Eo : List (Addr × Obj)} {b b' : Nat} {m : Str → Option Value} {nw : List (Addr × Obj)} (J : Inv V Eo b m nw) (h : b ≤ b') : Inv V Eo b' m nw := by
  obtain ⟨nm, T, D, ds, R, eT, eD, e, off, hRE, hh, B, dT, dD, hok, hl⟩ := J
  exact ⟨nm, T, D, ds, R, eT, eD, e, off, hRE, hh, B, dT, dD, hok, Nat.le_trans hl h⟩
theorem two_bools {i : Nat} {v : Value} (h : [Value.bool true, Value.bool false][i]? = some v) : (∃ b, v = .bool b) := by
  rcases i with _ | _ | i
  · exact ⟨true, (Option.some.inj h).symm⟩
  · exact ⟨false, (Option.some.inj h).symm⟩
  · simp at h
theorem first_open {V : LV} {b : Nat} {m : Str → Option Value} {nw : List (Addr × Obj)} {t3 : Addr} {tup : Obj} (J : Inv V [] b m nw) (ht : ∀ p ∈ nw, p.1 < t3) : Inv V [(t3, tup)] b m ((t3, tup) :: nw) := by
  obtain ⟨nm, T, D, ds, R, eT, eD, rfl, off, hRE, hh, B, r⟩ := J
  rw [List.append_nil] at off
  refine ⟨nm, T, D, ds, R, eT, eD, rfl, ⟨off.dt, off.td, ?_, ?_⟩, ?_, hh, B, r⟩
  · intro p hp
    rcases List.mem_append.mp hp with h | h
    · exact off.r1 p h
    · rw [List.mem_singleton.mp h]
      exact Nat.ne_of_gt (ht _ (.head _))
  · intro p hp
    rcases List.mem_append.mp hp with h | h
    · exact off.r2 p h
    · rw [List.mem_singleton.mp h]
      exact Nat.ne_of_gt (ht _ (.tail _ (.head _)))
  · intro p hp q hq
    rw [List.mem_singleton.mp hq]
    exact Nat.ne_of_lt (ht p (.tail _ (.tail _ hp)))
theorem first_close {V : LV} {b : Nat} {m : Str → Option Value} {nw : List (Addr × Obj)} {q : Addr × Obj} (J : Inv V [q] b m nw) : ∃ nw', Inv V [] b m nw' ∧ ∀ p ∈ nw', p ∈ nw := by
  obtain ⟨nm, T, D, ds, R, eT, eD, rfl, off, hRE, hh, B, r⟩ := J
  exact ⟨_, ⟨nm, T, D, ds, R, eT, eD, rfl, ⟨off.dt, off.td, fun p hp => off.r1 p (List.mem_append_left _ (by rw [List.append_nil] at hp; exact hp)), fun p hp => off.r2 p (List.mem_append_left _ (by rw [List.append_nil] at hp; exact hp))⟩, (by intro p hp q hq; cases hq), hh, B, r⟩, fun p hp => .tail _ hp⟩
theorem inv_eo {V : LV} {Eo : List (Addr × Obj)} {b : Nat} {m : Str → Option Value} {nw : List (Addr × Obj)} {I : Addr} (J : Inv V Eo b m nw) (h : ∀ p ∈ nw, p.1 ≠ I) : ∀ q ∈ Eo, q.1 ≠ I := by
  obtain ⟨_, _, _, _, _, _, _, rfl, _⟩ := J
  exact fun q hq => h q (List.mem_append_left _ hq)
def NlOk (nl : Str) : Prop := nl = Str.ofString "" ∨ nl = Str.ofString "\r\n" ∨ nl = Str.ofString "\n" ∨ nl = Str.ofString " \t"
theorem four_ends {i : Nat} {v : Value} {a b : Tok} (h : [Value.bool false, Value.bool true, .str (Str.ofString "\n") a, .str (Str.ofString " \t") b][i]? = some v) : ∃ nl, NlV v nl ∧ NlOk nl := by
  rcases i with _ | _ | _ | _ | i
  · obtain rfl := Option.some.inj h
    exact ⟨_, .no, .inl rfl⟩
  · obtain rfl := Option.some.inj h
    exact ⟨_, .yes, .inr (.inl rfl)⟩
  · obtain rfl := Option.some.inj h
    exact ⟨_, .own (by decide) (by decide), .inr (.inr (.inl rfl))⟩
  · obtain rfl := Option.some.inj h
    exact ⟨_, .own (by decide) (by decide), .inr (.inr (.inr rfl))⟩
  · simp at h
/-- the names of a turn -/
structure NmT (m : Str → Option Value) (sm dl : Bool) (ev : Value) : Prop where
  summed : m (Str.ofString "summed") = some (.bool sm)
  dollar : m (Str.ofString "dollar") = some (.bool dl)
  end_ : m (Str.ofString "end") = some ev
theorem emp_is : Str.ofString "" = Str.empty := by decide +kernel
theorem dr1 {b nl : Str} {sm dl : Bool} (h1 : dl = true) (h2 : sm = true) : Str.ofString "$" ++ b ++ (Str.ofString "*" ++ hexT (csum b)) ++ nl = dress b sm dl nl := by
  subst h1 h2; simp only [dress, if_true]
theorem dr2 {b nl : Str} {sm dl : Bool} (h1 : dl = true) (h2 : sm = false) : Str.ofString "$" ++ b ++ Str.ofString "" ++ nl = dress b sm dl nl := by
  subst h1 h2; simp only [dress, if_true, if_false, Bool.false_eq_true, emp_is]
theorem dr3 {b nl : Str} {sm dl : Bool} (h1 : dl = false) (h2 : sm = true) : Str.ofString "" ++ b ++ (Str.ofString "*" ++ hexT (csum b)) ++ nl = dress b sm dl nl := by
  subst h1 h2; simp only [dress, if_true, if_false, Bool.false_eq_true, emp_is]
theorem dr4 {b nl : Str} {sm dl : Bool} (h1 : dl = false) (h2 : sm = false) : Str.ofString "" ++ b ++ Str.ofString "" ++ nl = dress b sm dl nl := by
  subst h1 h2; simp only [dress, if_false, Bool.false_eq_true, emp_is]
/-- the parts as they are read again -/
def rowsT (ps : List Str) (sm : Bool) (nl : Str) : List Str :=
  let r := if ps = [] then [Str.ofString ""] else ps
  if sm = true then r else r.dropLast ++ [(r.getLastD (Str.ofString "")) ++ nl]
def readBack (g : Msg) (sm : Bool) (nl : Str) : Option Msg := match g with
  | .talk C st tk ps => some (.talk C st tk (rowsT ps sm nl))
  | .prop mk ps => some (.prop mk (rowsT ps sm nl))
  | .ques tk ot st => if sm = false ∧ nl ≠ Str.ofString "" then none else some (.ques tk ot st)
theorem pre3 {α : Type} {p a b c : α} {l : List α} (h : p ∈ [a, b, c]) : p ∈ a :: b :: c :: l := by
  simp only [List.mem_cons, List.not_mem_nil, or_false] at h ⊢
  rcases h with h | h | h
  · exact .inl h
  · exact .inr (.inl h)
  · exact .inr (.inr (.inl h))
structure S3 (s : Int) (b : Bool) : Prop where
  h : (s == 3) = b
end Mine
end

/- text My19 -/
section
set_option maxRecDepth 100000
set_option linter.all false
namespace Mine
open PySem PySem.W PySem.Calls PyProof.Rows
section
variable {prog : Program} {w : World} {A : Around} {E : Value → Shared → Prop} {s : Shared} {h₀ : Heap} {L : Addr} {news : List (Addr × Obj)} {l : Addr} {e : Nat} {Q : Bool → Shared → Prop}
theorem truthy_nil (N : News h₀ L s.heap news) (hm : (l, PySem.W.listOf (strValues []).toArray e) ∈ news) (h : Q false { s with toks := s.toks + 1 + 1 }) : wpAny (model prog w) A (truthy (.ref l)) Q E s := by
  refine wpAny_truthy_list (News.isList N hm) (by decide) ?_
  exact h
theorem truthy_cons {p : Str × Tok} {r : List (Str × Tok)} (N : News h₀ L s.heap news) (hm : (l, PySem.W.listOf (strValues (p :: r)).toArray e) ∈ news) (hl : (p :: r).length ≤ 7) (h : Q true { s with toks := s.toks + 1 + 1 }) : wpAny (model prog w) A (truthy (.ref l)) Q E s := by
  refine wpAny_truthy_list (News.isList N hm) (by simp only [List.size_toArray, strValues, List.length_map]; omega) ?_
  exact h
theorem add_led {m : Str → Option Value} {a b : Addr} {vs ws : List Value} {e1 e2 : Nat} {Q : Value → Shared → Prop} (F : Fr h₀ L s.heap m) (N : News h₀ L s.heap news) (ha : (a, PySem.W.listOf vs.toArray e1) ∈ news) (hb : (b, PySem.W.listOf ws.toArray e2) ∈ news) (hl : vs.length + ws.length ≤ 20)
    (h : ∀ D h', Fr h₀ L h' m → News h₀ L h' ((D, PySem.W.listOf (vs ++ ws).toArray 0) :: news) → (∀ p ∈ news, p.1 < D) → Q (.ref D) { s with heap := h' }) : wpAny (model prog w) A (binaryOp .Add (.ref a) (.ref b)) Q E s := by
  refine kmk_add_lit F N (News.isList N ha) (News.isList N hb) (zs := vs ++ ws) (by simp) h ?_
  simp only [sizeLine_eq]
  omega
end
end Mine
namespace Mine
open PySem PySem.W PySem.Calls PyProof.Rows
theorem push4 {T : List Value} {a b c d : Value} {e : Nat} : PySem.W.listOf ((((T.toArray.push a).push b).push c).push d) e = PySem.W.listOf (T ++ [a, b, c, d]).toArray e := by
  simp
theorem push2 {T : List Value} {a b : Value} {e : Nat} : PySem.W.listOf ((T.toArray.push a).push b) e = PySem.W.listOf (T ++ [a, b]).toArray e := by
  simp
theorem allLt_up {a b : Nat} (h : a ≤ b) : ∀ {l : List (Addr × Obj)}, AllLt a l → AllLt b l
  | [], _ => trivial
  | _ :: _, x => ⟨Nat.lt_of_lt_of_le x.1 h, allLt_up h x.2⟩
theorem hW_of {told due q2 : Addr} {RR W : List (Addr × Obj)} (h0 : @LT.lt Nat _ told q2 ∧ @LT.lt Nat _ due q2 ∧ AllLt q2 RR) (h : ∀ w ∈ W, @LE.le Nat _ q2 w.1) : ∀ w ∈ W, told < w.1 ∧ due < w.1 ∧ AllLt w.1 RR :=
  fun w hw => ⟨Nat.lt_of_lt_of_le h0.1 (h w hw), Nat.lt_of_lt_of_le h0.2.1 (h w hw), allLt_up (h w hw) h0.2.2⟩
theorem shown_eq (g : Msg) : g.shown = g.head ++ [textsD g.parts] := by
  cases g <;> rfl
theorem rb_true {g g' : Msg} {nl : Str} (h : readBack g true nl = some g') (hp : g.parts ≠ []) : g' = g := by
  cases g with
  | talk C st tk ps =>
    have e : rowsT ps true nl = ps := by
      unfold rowsT
      simp only [if_true]
      exact if_neg hp
    simp only [readBack, e] at h
    exact (Option.some.inj h).symm
  | ques tk ot st => exact absurd rfl hp
  | prop mk ps =>
    have e : rowsT ps true nl = ps := by
      unfold rowsT
      simp only [if_true]
      exact if_neg hp
    simp only [readBack, e] at h
    exact (Option.some.inj h).symm
/-- what a summed turn has told and has due -/
def dsT (g : Msg) (dl : Bool) (nl : Str) : List Dat := [.str (dress g.body true dl nl), .list g.shown, .str (dress g.body true dl nl), .str (dress g.body false (!dl) Str.empty)]
theorem told_T {N sub : List (Addr × Obj)} {T : List Value} {ds : List Dat} {g : Msg} {dl : Bool} {nl : Str} {r : Addr} {its : List Value} {e : Nat} {t1 t2 t3 : Tok} {x1 x3 x4 : Str} (dT : DatAll N T ds) (hr : (r, PySem.W.listOf its.toArray e) ∈ N) (hd : DatAll sub its g.shown) (hs : ∀ p ∈ sub, p ∈ N)
    (e1 : x1 = dress g.body true dl nl) (e3 : x3 = dress g.body true dl nl) (e4 : x4 = dress g.body false (!dl) Str.empty) : DatAll N (T ++ [Value.str x1 t1, Value.ref r, Value.str x3 t2, Value.str x4 t3]) (ds ++ dsT g dl nl) := by
  subst e1 e3 e4
  exact dT.append (.cons (.str _ _) (.cons (.list hr (hd.mono hs)) (.cons (.str _ _) (.cons (.str _ _) .nil))))
theorem due_T {N : List (Addr × Obj)} {D : List Value} {ds : List Dat} {g : Msg} {dl : Bool} {nl : Str} {r rows : Addr} {its : List Value} {tl : List (Str × Tok)} {e e2 : Nat} {t1 t2 t3 : Tok} {x1 x3 x4 : Str} (dD : DatAll N D ds) (hr : (r, PySem.W.listOf (its ++ [Value.ref rows]).toArray e) ∈ N) (hd : DatAll N its g.head)
    (hrows : (rows, PySem.W.listOf (strValues tl).toArray e2) ∈ N) (hp : tl.map (fun p => p.1) = g.parts)
    (e1 : x1 = dress g.body true dl nl) (e3 : x3 = dress g.body true dl nl) (e4 : x4 = dress g.body false (!dl) Str.empty) : DatAll N (D ++ [Value.str x1 t1, Value.ref r, Value.str x3 t2, Value.str x4 t3]) (ds ++ dsT g dl nl) := by
  subst e1 e3 e4
  have h2 := hd.append (.cons (dat_list hrows) .nil)
  rw [hp, ← shown_eq] at h2
  exact dD.append (.cons (.str _ _) (.cons (.list hr h2) (.cons (.str _ _) (.cons (.str _ _) .nil))))
theorem nosum_f {b : Str} : Str.ofString "" ++ b = dress b false false Str.empty := by
  simp only [dress, if_false, Bool.false_eq_true, emp_is, Str.empty_append, Str.append_empty]
theorem nosum_t {b : Str} : Str.ofString "$" ++ b = dress b false true Str.empty := by
  simp only [dress, if_false, if_true, Bool.false_eq_true, Str.append_empty]
end Mine
namespace Mine
open PySem PySem.W PySem.Calls PyProof.Rows
def dsU (b : Str) (sh : List Dat) (dl : Bool) (nl : Str) : List Dat := [.str (dress b true dl nl), .list sh, .str (dress b true dl nl), .str (dress b false (!dl) Str.empty)]
theorem told_U {N sub : List (Addr × Obj)} {T : List Value} {ds sh : List Dat} {b : Str} {dl : Bool} {nl : Str} {r : Addr} {its : List Value} {e : Nat} {t1 t2 t3 : Tok} {x1 x3 x4 : Str} (dT : DatAll N T ds) (hr : (r, PySem.W.listOf its.toArray e) ∈ N) (hd : DatAll sub its sh) (hs : ∀ p ∈ sub, p ∈ N)
    (e1 : x1 = dress b true dl nl) (e3 : x3 = dress b true dl nl) (e4 : x4 = dress b false (!dl) Str.empty) : DatAll N (T ++ [Value.str x1 t1, Value.ref r, Value.str x3 t2, Value.str x4 t3]) (ds ++ dsU b sh dl nl) := by
  subst e1 e3 e4
  exact dT.append (.cons (.str _ _) (.cons (.list hr (hd.mono hs)) (.cons (.str _ _) (.cons (.str _ _) .nil))))
theorem due_U {N : List (Addr × Obj)} {D : List Value} {ds sh hds : List Dat} {b : Str} {dl : Bool} {nl : Str} {r rows : Addr} {its : List Value} {tl : List (Str × Tok)} {e e2 : Nat} {t1 t2 t3 : Tok} {x1 x3 x4 : Str} (dD : DatAll N D ds) (hr : (r, PySem.W.listOf (its ++ [Value.ref rows]).toArray e) ∈ N) (hd : DatAll N its hds)
    (hrows : (rows, PySem.W.listOf (strValues tl).toArray e2) ∈ N) (hp : sh = hds ++ [textsD (tl.map fun p => p.1)])
    (e1 : x1 = dress b true dl nl) (e3 : x3 = dress b true dl nl) (e4 : x4 = dress b false (!dl) Str.empty) : DatAll N (D ++ [Value.str x1 t1, Value.ref r, Value.str x3 t2, Value.str x4 t3]) (ds ++ dsU b sh dl nl) := by
  subst e1 e3 e4 hp
  have h2 := hd.append (.cons (dat_list hrows) .nil)
  exact dD.append (.cons (.str _ _) (.cons (.list hr h2) (.cons (.str _ _) (.cons (.str _ _) .nil))))
theorem rb_nil {g g' : Msg} {nl : Str} (h : readBack g true nl = some g') (hp : g.parts = []) (hq : ¬ g.isQ = true) : g'.body = g.body ∧ g'.shown = g.head ++ [textsD [Str.ofString ""]] := by
  have j : joinT [Str.ofString ""] = joinT [] := by decide +kernel
  cases g with
  | talk C st tk ps =>
    obtain rfl : ps = [] := hp
    obtain rfl := Option.some.inj h
    refine ⟨?_, rfl⟩
    show (tk ++ st ++ Str.ofString ",") ++ joinT [Str.ofString ""] = _
    rw [j]
    rfl
  | ques tk ot st => exact absurd rfl hq
  | prop mk ps =>
    obtain rfl : ps = [] := hp
    obtain rfl := Option.some.inj h
    refine ⟨?_, rfl⟩
    show (Str.ofString "P" ++ mk) ++ joinT [Str.ofString ""] = _
    rw [j]
    rfl
theorem lit_row {x : Str} {t : Tok} {e : Nat} : PySem.W.listOf #[Value.str x t] e = PySem.W.listOf (strValues [(x, t)]).toArray e := rfl
end Mine
namespace Mine
theorem rb_q {g g' : Msg} {nl : PySem.Str} (h : readBack g true nl = some g') (hq : g.isQ = true) : g' = g ∧ g.shown = g.head ++ [textsD []] := by
  cases g with
  | talk C st tk ps => exact Bool.noConfusion hq
  | prop mk ps => exact Bool.noConfusion hq
  | ques tk ot st =>
    refine ⟨?_, rfl⟩
    have hn : ¬ (true = false ∧ nl ≠ PySem.Str.ofString "") := fun e => Bool.noConfusion e.1
    have h2 : (if true = false ∧ nl ≠ PySem.Str.ofString "" then none else some (Msg.ques tk ot st)) = some g' := h
    rw [if_neg hn] at h2
    exact (Option.some.inj h2).symm
end Mine
end

/- text Hd -/
section
open PySem PySem.W PyProof.Rows
namespace Mine
set_option maxRecDepth 100000 in
set_option maxHeartbeats 8000000 in
open_top hd for PySem.Challenge.rw_ez0285_01
end Mine
end

/- text Ck -/

namespace Mine
theorem off_Ck : True := by
  w_top off
  exact trivial
end Mine
section
open PySem PySem.W PyProof.Rows PySem.Spec PySem.Calls
set_option linter.all false
namespace Mine
noncomputable abbrev LS := looseW Mine.hd.view_39 [Str.ofString "NMEASentence", Str.ofString "R00", Str.ofString "TXT", Str.ofString "WPL"]

/-- what a call asks of the place it stands at, and what comes of it -/
def Con (w : World) (mean : ExcName → Option Value) (mg mb : Str → Option Value) (f : Addr) (vs : List Value) (dd du : Nat)
    (Ret : Heap → Heap → Addr → (Str → Option Value) → List (Addr × Obj) → Shared → (Value → Shared → Prop) → (Value → Shared → Prop) → Prop) : Prop :=
  ∀ (dp un : Nat) (gd : Option (List Code)) (cn : Str) (cs : Scope) (a : Addr) (ccd : Value) (cl : List (Str × Addr)) (outer : List Env) (A₀ : Around) (base h₀ : Heap) (L : Addr) (m : Str → Option Value) (news : List (Addr × Obj)) (s : Shared)
    (Q E : Value → Shared → Prop),
    Below A₀ base outer h₀ → Fr h₀ L s.heap m → (Mine.hd.heap_39 w.params).In h₀ → News h₀ L s.heap news → Top Mine.hd.view_39 LS mean mg mb h₀ → cs.kind = .function → dp + dd < recursionLimit → un + du < cLine →
    Ret base h₀ L m news s Q E →
    wpAny (model PySem.Challenge.rw_ez0285_01.row.prog w) (ktrTop dp un gd cn cs L a ccd cl outer) (call (.ref f) vs) Q E s

/-- the same, the ledger asked for something -/
def ConP (w : World) (mean : ExcName → Option Value) (mg mb : Str → Option Value) (f : Addr) (vs : List Value) (dd du : Nat) (Pre : List (Addr × Obj) → Prop)
    (Ret : Heap → Heap → Addr → (Str → Option Value) → List (Addr × Obj) → Shared → (Value → Shared → Prop) → (Value → Shared → Prop) → Prop) : Prop :=
  ∀ (dp un : Nat) (gd : Option (List Code)) (cn : Str) (cs : Scope) (a : Addr) (ccd : Value) (cl : List (Str × Addr)) (outer : List Env) (A₀ : Around) (base h₀ : Heap) (L : Addr) (m : Str → Option Value) (news : List (Addr × Obj)) (s : Shared)
    (Q E : Value → Shared → Prop),
    Below A₀ base outer h₀ → Fr h₀ L s.heap m → (Mine.hd.heap_39 w.params).In h₀ → News h₀ L s.heap news → Top Mine.hd.view_39 LS mean mg mb h₀ → cs.kind = .function → dp + dd < recursionLimit → un + du < cLine → Pre news →
    Ret base h₀ L m news s Q E →
    wpAny (model PySem.Challenge.rw_ez0285_01.row.prog w) (ktrTop dp un gd cn cs L a ccd cl outer) (call (.ref f) vs) Q E s

/-- a new message comes back -/
def RetM (g : Msg) (_base h₀ : Heap) (L : Addr) (m : Str → Option Value) (news : List (Addr × Obj)) (s : Shared) (Q : Value → Shared → Prop) : Prop :=
  ∀ (x dx l : Addr) (o1 o2 o3 : Obj) (h' : Heap) (tk' : Nat), Fr h₀ L h' m → News h₀ L h' ((l, o1) :: (x, o2) :: (dx, o3) :: news) → (∀ p ∈ news, p.1 < dx) → dx < x → x < l → MsgAt [(l, o1), (x, o2), (dx, o3)] x g → Q (.ref x) { s with heap := h', toks := tk' }

/-- the table of kinds that parse is handed -/
def KindsAt (w : World) (news : List (Addr × Obj)) (kd : Addr) : Prop := ∃ (o : Obj) (t1 t2 t3 : Tok), (kd, o) ∈ news ∧ Obj.IsDictOf (PySem.strKind PySem.Challenge.rw_ez0285_01.row.prog w) o
  (strPairs [(.str (Str.ofString "WPL") t1, .ref 300), (.str (Str.ofString "TXT") t2, .ref 282), (.str (Str.ofString "R00") t3, .ref 265)]) ∧ (kd == sysModules) = false

/-- a value comes back, nothing is left behind -/
def RetV (R : Tok → Value) (_base h₀ : Heap) (L : Addr) (m : Str → Option Value) (news : List (Addr × Obj)) (s : Shared) (Q _E : Value → Shared → Prop) : Prop :=
  ∀ (t : Tok) (h' : Heap) (tk' : Nat), Fr h₀ L h' m → News h₀ L h' news → Q (R t) { s with heap := h', toks := tk' }

/-- a new list comes back; what it holds is told -/
def RetL (ds : List Dat) (_base h₀ : Heap) (L : Addr) (m : Str → Option Value) (news : List (Addr × Obj)) (s : Shared) (Q _E : Value → Shared → Prop) : Prop :=
  ∀ (r : Addr) (its : List Value) (e : Nat) (h' : Heap) (tk' : Nat), Fr h₀ L h' m → News h₀ L h' ((r, PySem.W.listOf its.toArray e) :: news) → (∀ p ∈ news, p.1 < r) → DatAll news its ds → Q (.ref r) { s with heap := h', toks := tk' }
end Mine
end

/- text C1 -/

namespace Mine
theorem off_C1 : True := by
  w_top off
  exact trivial
end Mine
section
open PySem PySem.W PyProof.Rows PySem.Spec PySem.Calls
set_option linter.all false
namespace Mine
local macro_rules | `(tactic| k_room) => `(tactic| ktr_room)
local macro_rules | `(tactic| k_units) => `(tactic| ktr_units)
local macro_rules | `(tactic| walk_at "getAttr ref") => `(tactic| (k_here; k_dflt (refine' Mine.own_hook ?k1 ?k2 ?k3 ?k4 ?k6 ?k7 ?k8 ?k9 ?k10 ?_; (case k3 => k_inst); (case k1 => k_asm); (case k2 => k_asm); (case k4 => k_is); (case k6 => k_is); (case k7 => k_is); (case k8 => k_is); (case k9 => k_get); (case k10 => k_handed); k_whole)))
local macro_rules | `(tactic| walk_at "getMethod ref") => `(tactic| (k_here; k_dflt (refine' Mine.meth_hook ?k1 ?k2 ?k3 ?k4 ?k5 ?k6 ?k7 ?k8 ?k9 ?k10 ?k11 ?k12 ?k13 ?_; (case k4 => k_inst); (case k1 => k_asm); (case k2 => k_asm); (case k3 => k_asm); (case k5 => k_is); (case k6 => k_is); (case k7 => k_is); (case k8 => k_is); (case k9 => k_is); (case k10 => k_is); (case k11 => k_is); (case k12 => decide +kernel); (case k13 => k_get); k_whole); intro q' h' F' N' l1; (try k_lt l1); (try k_sweep)))
local macro_rules | `(tactic| k_mem) => `(tactic| ((show (_ : PySem.Addr × PySem.Obj) ∈ (_ : List (PySem.Addr × PySem.Obj))); ktr_member))
local macro_rules | `(tactic| walk_at "call builtin:str.join") => `(tactic| (k_here; (with_reducible show wpAny _ _ (call (Value.builtin "str.join") [Value.str _ _, Value.ref _]) _ _ _); k_dflt (refine' Mine.join_led ?k1 ?k2 ?k3 ?_; (case k1 => k_asm); (case k2 => k_mem); (case k3 => assumption)); intro _ _))
local macro_rules | `(tactic| walk_at "call type:map") => `(tactic| (k_here; k_dflt (refine' Mine.map_K ?k1 ?k2 ?k3 ?_; (case k1 => k_asm); (case k2 => k_asm); (case k3 => assumption); k_whole); intro _ h' hMK F' N'))
local macro_rules | `(tactic| walk_at "call builtin:_functools.reduce") => `(tactic| (k_here; k_dflt (refine' Mine.reduce_K ?k1 ?k2 ?_; (case k1 => k_asm); (case k2 => exact rfl); k_whole); intro h' _ _ F' N'))
local macro_rules | `(tactic| walk_at "binaryOp Mod str int") => `(tactic| (k_here; (with_reducible show wpAny _ _ (binaryOp Operator.Mod (Value.str _ _) (Value.int (Mine.xorFrom _ _) _)) _ _ _); k_dflt (refine' Mine.pct_hex ?k1 ?k2 ?_; (case k1 => exact (Mine.xor_small (by assumption)).1); (case k2 => exact (Mine.xor_small (by assumption)).2)); intro hHX _ _))
local macro_rules | `(tactic| walk_at "inplaceOp Add str str") => `(tactic| (k_here; (refine PyProof.Rows.SBL.iadd (hsz := ?hsz) ?_); (case hsz => (simp only [PySem.Str.length_append, Mine.lit_len, PySem.sizeLine_eq]; omega)); intro _ _ _))
local macro_rules | `(tactic| walk_at "binaryOp Add str str") => `(tactic| (k_here; (refine PyProof.Rows.SBL.add (hsz := ?hsz) ?_); (case hsz => (simp only [PySem.Str.length_append, Mine.lit_len, PySem.sizeLine_eq]; omega)); intro _ _ _))
local macro_rules | `(tactic| walk_at "call builtin:isinstance") => `(tactic| (k_here; (with_reducible show wpAny _ _ (call _ [Value.ref _, Value.ref _]) _ _ _); k_dflt (refine' Mine.isn_hook ?k1 ?k2 ?k3 ?k4 ?k5 ?k6 ?k7 ?k8 ?k9 ?k10 ?_; (case k1 => k_in); (case k2 => k_inst); (case k3 => kin_no); (case k4 => k_is); (case k5 => k_is); (case k6 => k_is); (case k7 => k_is); (case k8 => k_is); (case k9 => k_is); (case k10 => k_is); k_whole); (try dsimp only)))
local macro_rules | `(tactic| walk_at "truthy ref") => `(tactic| (k_here; k_dflt (refine' Mine.truthy_cls ?k1 ?k2 ?k3 ?k4 ?_; (case k1 => k_asm); (case k2 => k_asm); (case k3 => k_is); (case k4 => k_is); k_whole)))
local macro_rules | `(tactic| walk_at "call type:list") => `(tactic| (k_here; (with_reducible show wpAny _ _ (call (Value.type "list") [Value.ref _]) _ _ _); k_dflt (refine' list_copyK ?k1 ?k2 ?k3 ?_ ?z; (case k1 => k_asm); (case k2 => k_asm); (case k3 => exact News.isList (by k_asm) (by k_mem)); (case z => (simp only [List.size_toArray, strValues, List.length_map, PySem.sizeLine_eq]; omega)); k_whole); intro D' c' h' F' N' l1; (try k_lt l1); (try k_sweep)))
local macro_rules | `(tactic| walk_at "eval Name") => `(tactic| (k_here; k_dflt (refine' ld ?k1 ?k2 ?_; (case k1 => k_asm); (case k2 => exact rfl); k_whole)))

set_option maxRecDepth 100000 in
set_option maxHeartbeats 8000000 in
theorem wordlike_c (w : World) (mean : ExcName → Option Value) (mg mb : Str → Option Value) (x : Str) (tx tn : Tok) (n : Int) (hx : x.length ≤ 1000) :
  Con w mean mg mb 98 [.str x tx, .int n tn] 4 20 (RetV fun _ => .bool (wordT x n)) := by
  unfold Con RetV
  k_fill
  intros
  rename_i hret
  (refine wpAny_call ?_; k_dflt (refine' code_def ?k1 ?k2 ?k3 ?k4 ?k5 ?kA ?kF ?kK ?k6 ?k7 ?k8 ?k9 ?kB ?_ ?c2 ?c3 ?c4 ?c5; (case kA => exact rfl); (case kF => exact rfl); (case kK => assumption); (case k1 => k_asm); (case k2 => k_asm); (case k3 => k_asm); (case k4 => k_asm); (case k5 => k_asm); (case k6 => k_is); (case k7 => k_is); (case k8 => ktr_room); (case k9 => first | exact BindsTo.of_eq rfl | exact binds_K (by k_in) rfl (by k_is) rfl rfl rfl); (case c5 => decide); (case kB => exact locs rfl); (case c2 => exact rfl); (case c3 => exact rfl); (case c4 => exact rfl); k_whole; intro g' L' h' FG' F' N' B' X' T'; (try dsimp only); (try k_lift B'); (try k_fold)))
  k_steps
  · rename_i hl _ _ _ _ _ _
    have e : wordT x n = Txt.isalnum (Txt.replace x (Str.ofString "_") (Str.ofString "a")) := by (with_unfolding_all show ((x.length : Int) == n && _) = _); simp_all
    rw [e] at hret
    exact hret 0 _ _ (by k_asm) (by k_asm)
  · have e : wordT x n = ((x.length : Int) == n) := by (with_unfolding_all show ((x.length : Int) == n && _) = _); simp_all
    rw [e] at hret
    exact hret 0 _ _ (by k_asm) (by k_asm)
end Mine
end

/- text C2 -/

namespace Mine
theorem off_C2 : True := by
  w_top off
  exact trivial
end Mine
section
open PySem PySem.W PyProof.Rows PySem.Spec PySem.Calls
set_option linter.all false
namespace Mine
local macro_rules | `(tactic| k_room) => `(tactic| ktr_room)
local macro_rules | `(tactic| k_units) => `(tactic| ktr_units)
local macro_rules | `(tactic| walk_at "getAttr ref") => `(tactic| (k_here; k_dflt (refine' Mine.own_hook ?k1 ?k2 ?k3 ?k4 ?k6 ?k7 ?k8 ?k9 ?k10 ?_; (case k3 => k_inst); (case k1 => k_asm); (case k2 => k_asm); (case k4 => k_is); (case k6 => k_is); (case k7 => k_is); (case k8 => k_is); (case k9 => k_get); (case k10 => k_handed); k_whole)))
local macro_rules | `(tactic| walk_at "getMethod ref") => `(tactic| (k_here; k_dflt (refine' Mine.meth_hook ?k1 ?k2 ?k3 ?k4 ?k5 ?k6 ?k7 ?k8 ?k9 ?k10 ?k11 ?k12 ?k13 ?_; (case k4 => k_inst); (case k1 => k_asm); (case k2 => k_asm); (case k3 => k_asm); (case k5 => k_is); (case k6 => k_is); (case k7 => k_is); (case k8 => k_is); (case k9 => k_is); (case k10 => k_is); (case k11 => k_is); (case k12 => decide +kernel); (case k13 => k_get); k_whole); intro q' h' F' N' l1; (try k_lt l1); (try k_sweep)))
local macro_rules | `(tactic| k_mem) => `(tactic| ((show (_ : PySem.Addr × PySem.Obj) ∈ (_ : List (PySem.Addr × PySem.Obj))); ktr_member))
local macro_rules | `(tactic| walk_at "call builtin:str.join") => `(tactic| (k_here; (with_reducible show wpAny _ _ (call (Value.builtin "str.join") [Value.str _ _, Value.ref _]) _ _ _); k_dflt (refine' Mine.join_led ?k1 ?k2 ?k3 ?_; (case k1 => k_asm); (case k2 => k_mem); (case k3 => assumption)); intro _ _))
local macro_rules | `(tactic| walk_at "call type:map") => `(tactic| (k_here; k_dflt (refine' Mine.map_K ?k1 ?k2 ?k3 ?_; (case k1 => k_asm); (case k2 => k_asm); (case k3 => assumption); k_whole); intro _ h' hMK F' N'))
local macro_rules | `(tactic| walk_at "call builtin:_functools.reduce") => `(tactic| (k_here; k_dflt (refine' Mine.reduce_K ?k1 ?k2 ?_; (case k1 => k_asm); (case k2 => exact rfl); k_whole); intro h' _ _ F' N'))
local macro_rules | `(tactic| walk_at "binaryOp Mod str int") => `(tactic| (k_here; (with_reducible show wpAny _ _ (binaryOp Operator.Mod (Value.str _ _) (Value.int (Mine.xorFrom _ _) _)) _ _ _); k_dflt (refine' Mine.pct_hex ?k1 ?k2 ?_; (case k1 => exact (Mine.xor_small (by assumption)).1); (case k2 => exact (Mine.xor_small (by assumption)).2)); intro hHX _ _))
local macro_rules | `(tactic| walk_at "inplaceOp Add str str") => `(tactic| (k_here; (refine PyProof.Rows.SBL.iadd (hsz := ?hsz) ?_); (case hsz => (simp only [PySem.Str.length_append, Mine.lit_len, PySem.sizeLine_eq]; omega)); intro _ _ _))
local macro_rules | `(tactic| walk_at "binaryOp Add str str") => `(tactic| (k_here; (refine PyProof.Rows.SBL.add (hsz := ?hsz) ?_); (case hsz => (simp only [PySem.Str.length_append, Mine.lit_len, PySem.sizeLine_eq]; omega)); intro _ _ _))
local macro_rules | `(tactic| walk_at "call builtin:isinstance") => `(tactic| (k_here; (with_reducible show wpAny _ _ (call _ [Value.ref _, Value.ref _]) _ _ _); k_dflt (refine' Mine.isn_hook ?k1 ?k2 ?k3 ?k4 ?k5 ?k6 ?k7 ?k8 ?k9 ?k10 ?_; (case k1 => k_in); (case k2 => k_inst); (case k3 => kin_no); (case k4 => k_is); (case k5 => k_is); (case k6 => k_is); (case k7 => k_is); (case k8 => k_is); (case k9 => k_is); (case k10 => k_is); k_whole); (try dsimp only)))
local macro_rules | `(tactic| walk_at "truthy ref") => `(tactic| (k_here; k_dflt (refine' Mine.truthy_cls ?k1 ?k2 ?k3 ?k4 ?_; (case k1 => k_asm); (case k2 => k_asm); (case k3 => k_is); (case k4 => k_is); k_whole)))
local macro_rules | `(tactic| walk_at "call type:list") => `(tactic| (k_here; (with_reducible show wpAny _ _ (call (Value.type "list") [Value.ref _]) _ _ _); k_dflt (refine' list_copyK ?k1 ?k2 ?k3 ?_ ?z; (case k1 => k_asm); (case k2 => k_asm); (case k3 => exact News.isList (by k_asm) (by k_mem)); (case z => (simp only [List.size_toArray, strValues, List.length_map, PySem.sizeLine_eq]; omega)); k_whole); intro D' c' h' F' N' l1; (try k_lt l1); (try k_sweep)))
local macro_rules | `(tactic| walk_at "eval Name") => `(tactic| (k_here; k_dflt (refine' ld ?k1 ?k2 ?_; (case k1 => k_asm); (case k2 => exact rfl); k_whole)))

set_option maxRecDepth 100000 in
set_option maxHeartbeats 8000000 in
theorem checksum_c (w : World) (mean : ExcName → Option Value) (mg mb : Str → Option Value) (x : Str) (tx : Tok) (hx : x.length ≤ 1000) (ha : x.cps.all (· < 128) = true) :
  Con w mean mg mb 113 [.str x tx] 4 20 (RetV fun t => .int (xorFrom 0 x.cps.toList) t) := by
  unfold Con RetV
  k_fill
  intros
  rename_i hret
  (refine wpAny_call ?_; k_dflt (refine' code_def ?k1 ?k2 ?k3 ?k4 ?k5 ?kA ?kF ?kK ?k6 ?k7 ?k8 ?k9 ?kB ?_ ?c2 ?c3 ?c4 ?c5; (case kA => exact rfl); (case kF => exact rfl); (case kK => assumption); (case k1 => k_asm); (case k2 => k_asm); (case k3 => k_asm); (case k4 => k_asm); (case k5 => k_asm); (case k6 => k_is); (case k7 => k_is); (case k8 => ktr_room); (case k9 => first | exact BindsTo.of_eq rfl | exact binds_K (by k_in) rfl (by k_is) rfl rfl rfl); (case c5 => decide); (case kB => exact locs rfl); (case c2 => exact rfl); (case c3 => exact rfl); (case c4 => exact rfl); k_whole; intro g' L' h' FG' F' N' B' X' T'; (try dsimp only); (try k_lift B'); (try k_fold)))
  k_steps
  all_goals exact hret _ _ _ (by k_asm) (by k_asm)
end Mine
end

/- text C6 -/

namespace Mine
theorem off_C6 : True := by
  w_top off
  exact trivial
end Mine
section
open PySem PySem.W PyProof.Rows PySem.Spec PySem.Calls
set_option linter.all false
namespace Mine
/-- the call of a method's object; what is asked lies in a part of the ledger -/
def ConM (w : World) (mean : ExcName → Option Value) (mg mb : Str → Option Value) (q f x : Addr) (vs : List Value) (dd du : Nat) (sub : List (Addr × Obj))
    (Ret : Heap → Heap → Addr → (Str → Option Value) → List (Addr × Obj) → Shared → (Value → Shared → Prop) → (Value → Shared → Prop) → Prop) : Prop :=
  ∀ (dp un : Nat) (gd : Option (List Code)) (cn : Str) (cs : Scope) (a : Addr) (ccd : Value) (cl : List (Str × Addr)) (outer : List Env) (A₀ : Around) (base h₀ : Heap) (L : Addr) (m : Str → Option Value) (news : List (Addr × Obj)) (s : Shared)
    (Q E : Value → Shared → Prop),
    Below A₀ base outer h₀ → Fr h₀ L s.heap m → (Mine.hd.heap_39 w.params).In h₀ → News h₀ L s.heap news → Top Mine.hd.view_39 LS mean mg mb h₀ → cs.kind = .function → dp + dd < recursionLimit → un + du < cLine → (q, methodObj (.ref f) (.ref x)) ∈ news → (∀ p ∈ sub, p ∈ news) →
    Ret base h₀ L m news s Q E →
    wpAny (model PySem.Challenge.rw_ez0285_01.row.prog w) (ktrTop dp un gd cn cs L a ccd cl outer) (call (.ref q) vs) Q E s
theorem msg_mono {news all : List (Addr × Obj)} {x : Addr} {g : Msg} (h : MsgAt all x g) (hs : ∀ p ∈ all, p ∈ news) : MsgAt news x g := by
  cases g with
  | talk C st tk ps => obtain ⟨hk, dx, l, h1, h2, h3, t1, t2, t3, t4, t5, n, e, tl, m1, m2, m3, r⟩ := h; exact ⟨hk, dx, l, h1, h2, h3, t1, t2, t3, t4, t5, n, e, tl, hs _ m1, hs _ m2, hs _ m3, r⟩
  | ques tk ot st => obtain ⟨dx, l, h1, h2, h3, h4, t1, t2, t3, t4, t5, t6, t7, n, e, m1, m2, m3⟩ := h; exact ⟨dx, l, h1, h2, h3, h4, t1, t2, t3, t4, t5, t6, t7, n, e, hs _ m1, hs _ m2, hs _ m3⟩
  | prop mk ps => obtain ⟨dx, l, h1, h2, t1, t2, t3, n, e, tl, m1, m2, m3, r⟩ := h; exact ⟨dx, l, h1, h2, t1, t2, t3, n, e, tl, hs _ m1, hs _ m2, hs _ m3, r⟩
local macro_rules | `(tactic| k_room) => `(tactic| ktr_room)
local macro_rules | `(tactic| k_units) => `(tactic| ktr_units)
local macro_rules | `(tactic| walk_at "getAttr ref") => `(tactic| (k_here; k_dflt (refine' Mine.own_hook ?k1 ?k2 ?k3 ?k4 ?k6 ?k7 ?k8 ?k9 ?k10 ?_; (case k3 => k_inst); (case k1 => k_asm); (case k2 => k_asm); (case k4 => k_is); (case k6 => k_is); (case k7 => k_is); (case k8 => k_is); (case k9 => k_get); (case k10 => k_handed); k_whole)))
local macro_rules | `(tactic| walk_at "getMethod ref") => `(tactic| (k_here; k_dflt (refine' Mine.meth_hook ?k1 ?k2 ?k3 ?k4 ?k5 ?k6 ?k7 ?k8 ?k9 ?k10 ?k11 ?k12 ?k13 ?_; (case k4 => k_inst); (case k1 => k_asm); (case k2 => k_asm); (case k3 => k_asm); (case k5 => k_is); (case k6 => k_is); (case k7 => k_is); (case k8 => k_is); (case k9 => k_is); (case k10 => k_is); (case k11 => k_is); (case k12 => decide +kernel); (case k13 => k_get); k_whole); intro q' h' F' N' l1; (try k_lt l1); (try k_sweep)))
local macro_rules | `(tactic| k_mem) => `(tactic| ((show (_ : PySem.Addr × PySem.Obj) ∈ (_ : List (PySem.Addr × PySem.Obj))); ktr_member))
local macro_rules | `(tactic| walk_at "call builtin:str.join") => `(tactic| (k_here; (with_reducible show wpAny _ _ (call (Value.builtin "str.join") [Value.str _ _, Value.ref _]) _ _ _); k_dflt (refine' Mine.join_led ?k1 ?k2 ?k3 ?_; (case k1 => k_asm); (case k2 => k_mem); (case k3 => assumption)); intro _ _))
local macro_rules | `(tactic| walk_at "call type:map") => `(tactic| (k_here; k_dflt (refine' Mine.map_K ?k1 ?k2 ?k3 ?_; (case k1 => k_asm); (case k2 => k_asm); (case k3 => assumption); k_whole); intro _ h' hMK F' N'))
local macro_rules | `(tactic| walk_at "call builtin:_functools.reduce") => `(tactic| (k_here; k_dflt (refine' Mine.reduce_K ?k1 ?k2 ?_; (case k1 => k_asm); (case k2 => exact rfl); k_whole); intro h' _ _ F' N'))
local macro_rules | `(tactic| walk_at "binaryOp Mod str int") => `(tactic| (k_here; (with_reducible show wpAny _ _ (binaryOp Operator.Mod (Value.str _ _) (Value.int (Mine.xorFrom _ _) _)) _ _ _); k_dflt (refine' Mine.pct_hex ?k1 ?k2 ?_; (case k1 => exact (Mine.xor_small (by assumption)).1); (case k2 => exact (Mine.xor_small (by assumption)).2)); intro hHX _ _))
local macro_rules | `(tactic| walk_at "inplaceOp Add str str") => `(tactic| (k_here; (refine PyProof.Rows.SBL.iadd (hsz := ?hsz) ?_); (case hsz => (simp only [PySem.Str.length_append, Mine.lit_len, PySem.sizeLine_eq]; omega)); intro _ _ _))
local macro_rules | `(tactic| walk_at "binaryOp Add str str") => `(tactic| (k_here; (refine PyProof.Rows.SBL.add (hsz := ?hsz) ?_); (case hsz => (simp only [PySem.Str.length_append, Mine.lit_len, PySem.sizeLine_eq]; omega)); intro _ _ _))
local macro_rules | `(tactic| walk_at "call builtin:isinstance") => `(tactic| (k_here; (with_reducible show wpAny _ _ (call _ [Value.ref _, Value.ref _]) _ _ _); k_dflt (refine' Mine.isn_hook ?k1 ?k2 ?k3 ?k4 ?k5 ?k6 ?k7 ?k8 ?k9 ?k10 ?_; (case k1 => k_in); (case k2 => k_inst); (case k3 => kin_no); (case k4 => k_is); (case k5 => k_is); (case k6 => k_is); (case k7 => k_is); (case k8 => k_is); (case k9 => k_is); (case k10 => k_is); k_whole); (try dsimp only)))
local macro_rules | `(tactic| walk_at "truthy ref") => `(tactic| (k_here; k_dflt (refine' Mine.truthy_cls ?k1 ?k2 ?k3 ?k4 ?_; (case k1 => k_asm); (case k2 => k_asm); (case k3 => k_is); (case k4 => k_is); k_whole)))
local macro_rules | `(tactic| walk_at "call type:list") => `(tactic| (k_here; (with_reducible show wpAny _ _ (call (Value.type "list") [Value.ref _]) _ _ _); k_dflt (refine' list_copyK ?k1 ?k2 ?k3 ?_ ?z; (case k1 => k_asm); (case k2 => k_asm); (case k3 => exact News.isList (by k_asm) (by k_mem)); (case z => (simp only [List.size_toArray, strValues, List.length_map, PySem.sizeLine_eq]; omega)); k_whole); intro D' c' h' F' N' l1; (try k_lt l1); (try k_sweep)))
local macro_rules | `(tactic| walk_at "eval Name") => `(tactic| (k_here; k_dflt (refine' ld ?k1 ?k2 ?_; (case k1 => k_asm); (case k2 => exact rfl); k_whole)))

local macro_rules | `(tactic| walk_at "call ref") => `(tactic| (k_here; (with_reducible show wpAny _ _ (call (Value.ref 98) _) _ _ _); (try dsimp only [List.nil_append, List.cons_append]); (with_reducible show wpAny _ _ (call (Value.ref 98) [Value.str _ _, Value.int _ _]) _ _ _); k_dflt (refine' Mine.wordlike_c _ _ _ _ _ _ _ _ ?hx _ _ _ _ _ _ _ _ _ _ _ _ _ _ _ _ _ _ ?k1 ?k2 ?k3 ?k4 ?k5 ?k6 ?k7 ?k8 ?_; (case k1 => k_asm); (case k2 => k_asm); (case k3 => k_asm); (case k4 => k_asm); (case k5 => k_asm); (case k6 => first | exact rfl | assumption); (case k7 => ktr_room); (case k8 => ktr_units); (case hx => first | assumption | omega); k_whole; intro _ h' _ F' N'; (try with_reducible dsimp only))))
local macro_rules | `(tactic| walk_at "call ref") => `(tactic| (k_here; (with_reducible show wpAny _ _ (call (Value.ref 113) _) _ _ _); (try dsimp only [List.nil_append, List.cons_append]); (with_reducible show wpAny _ _ (call (Value.ref 113) [Value.str _ _]) _ _ _); k_dflt (refine' Mine.checksum_c _ _ _ _ _ _ ?hx ?ha _ _ _ _ _ _ _ _ _ _ _ _ _ _ _ _ _ _ ?k1 ?k2 ?k3 ?k4 ?k5 ?k6 ?k7 ?k8 ?_; (case k1 => k_asm); (case k2 => k_asm); (case k3 => k_asm); (case k4 => k_asm); (case k5 => k_asm); (case k6 => first | exact rfl | assumption); (case k7 => ktr_room); (case k8 => ktr_units); (case hx => first | assumption | omega); (case ha => assumption); k_whole; intro _ h' _ F' N'; (try with_reducible dsimp only))))
set_option maxRecDepth 100000 in
set_option maxHeartbeats 8000000 in
theorem render_m (w : World) (mean : ExcName → Option Value) (mg mb : Str → Option Value) (q x : Addr) (g : Msg) (sub : List (Addr × Obj)) (hat : MsgAt sub x g) (hg : g.Ok) (sm dl : Bool) (nv : Value) (nl : Str) (hn : NlV nv nl) :
  ConM w mean mg mb q 154 x [.bool sm, .bool dl, nv] 10 40 sub (RetV fun t => .str (dress g.body sm dl nl) t) := by
  unfold ConM RetV
  k_fill
  intros
  rename_i hq hss hret
  replace hat := msg_mono hat hss
  clear hss
  have hbl := hg.blen
  obtain ⟨hsm, hjo, hjl, hasc⟩ := hg
  (refine' call_meth ?m1 ?m2 ?_; (case m1 => k_asm); (case m2 => exact hq); k_dflt (refine' code_def ?k1 ?k2 ?k3 ?k4 ?k5 ?kA ?kF ?kK ?k6 ?k7 ?k8 ?k9 ?kB ?_ ?c2 ?c3 ?c4 ?c5; (case kA => exact rfl); (case kF => exact rfl); (case kK => assumption); (case k1 => k_asm); (case k2 => k_asm); (case k3 => k_asm); (case k4 => k_asm); (case k5 => k_asm); (case k6 => k_is); (case k7 => k_is); (case k8 => ktr_room); (case k9 => first | exact BindsTo.of_eq rfl | exact binds_K (by k_in) rfl (by k_is) rfl rfl rfl); (case c5 => decide); (case kB => exact locs rfl); (case c2 => exact rfl); (case c3 => exact rfl); (case c4 => exact rfl); k_whole; intro g' L' h' FG' F' N' B' X' T'; (try dsimp only); (try k_lift B'); (try k_fold)))
  refine seq_cut (by k_asm) (by k_asm) (Str.ofString "res") (fun v => ∃ t, v = .str g.body t) ?_ ?_
  · clear hret
    cases g with
    | talk C st tk ps =>
      obtain ⟨hk, dx, l, h1, h2, h3, t1, t2, t3, t4, t5, n, e, tl, m1, m2, m3, rfl⟩ := hat
      obtain ⟨b1, b2⟩ := hsm
      unfold joinT Msg.parts at hjl
      unfold Msg.parts at hjo
      dsimp only at hjl hjo
      rcases hk with ⟨rfl, rfl⟩ | ⟨rfl, rfl⟩ | ⟨rfl, rfl⟩
      all_goals k_steps
      all_goals (refine cut_end ?_ (by k_asm) (by k_asm) (fun _ hp => .tail _ hp))
      all_goals (exact str_some (by simp only [Msg.body, Msg.ident, Msg.parts, joinT, Str.empty_append]))
    | ques tk ot st =>
      obtain ⟨dx, l, h1, h2, h3, h4, t1, t2, t3, t4, t5, t6, t7, n, e, m1, m2, m3⟩ := hat
      obtain ⟨b1, b2, b3⟩ := hsm
      unfold joinT Msg.parts at hjl
      unfold Msg.parts at hjo
      dsimp only at hjl hjo
      k_steps
      all_goals (refine cut_end ?_ (by k_asm) (by k_asm) (fun _ hp => .tail _ hp))
      all_goals (exact str_some (by simp only [Msg.body, Msg.ident, Msg.parts, joinT, Str.empty_append, join_nil]))
    | prop mk ps =>
      obtain ⟨dx, l, h1, h2, t1, t2, t3, n, e, tl, m1, m2, m3, rfl⟩ := hat
      unfold joinT Msg.parts at hjl
      unfold Msg.parts at hjo
      unfold Msg.small at hsm
      dsimp only at hjl hjo hsm
      k_steps
      all_goals (refine cut_end ?_ (by k_asm) (by k_asm) (fun _ hp => .tail _ hp))
      all_goals (exact str_some (by simp only [Msg.body, Msg.ident, Msg.parts, joinT, Str.empty_append]))
  · rintro v h' k ⟨t, rfl⟩ F' N'
    unfold Asc at hasc
    refine seq_cut (by k_asm) (by k_asm) (Str.ofString "res") (fun v => ∃ t, v = .str (g.body ++ (if sm = true then Str.ofString "*" ++ hexT (csum g.body) else Str.empty)) t) ?_ ?_
    · clear hret
      k_steps
      all_goals (first | refine cut_end ?_ (by k_asm) (by k_asm) (fun _ hp => hp) | refine cut_same ?_ (by k_asm) (by k_asm) (fun _ hp => hp) rfl)
      all_goals (exact str_some (by simp only [csum, *, if_true, if_false, Bool.false_eq_true, Str.append_empty]))
    rintro v h' k ⟨t, rfl⟩ F' N'
    have hcl : (g.body ++ (if sm = true then Str.ofString "*" ++ hexT (csum g.body) else Str.empty)).length ≤ 160 := by
      cases sm <;> simp only [if_true, if_false, Bool.false_eq_true, Str.length_append, lit_len, hexT_len] <;> omega
    clear hasc hjl hjo hsm hat hbl
    have hd : (if dl = true then Str.ofString "$" else Str.empty) ++ (g.body ++ (if sm = true then Str.ofString "*" ++ hexT (csum g.body) else Str.empty)) ++ nl = dress g.body sm dl nl := by
      simp only [dress, Str.append_assoc]
    rw [← hd] at hret
    clear hd
    generalize (g.body ++ (if sm = true then Str.ofString "*" ++ hexT (csum g.body) else Str.empty)) = r1 at *
    refine seq_cut (by k_asm) (by k_asm) (Str.ofString "res") (fun v => ∃ t, v = .str ((if dl = true then Str.ofString "$" else Str.empty) ++ r1) t) ?_ ?_
    · clear hret
      k_steps
      all_goals (first | refine cut_end ?_ (by k_asm) (by k_asm) (fun _ hp => hp) | refine cut_same ?_ (by k_asm) (by k_asm) (fun _ hp => hp) rfl)
      all_goals (exact str_some (by simp only [*, if_true, if_false, Bool.false_eq_true, Str.empty_append]))
    rintro v h' k ⟨t, rfl⟩ F' N'
    have hcl' : ((if dl = true then Str.ofString "$" else Str.empty) ++ r1).length ≤ 170 := by
      cases dl <;> simp only [if_true, if_false, Bool.false_eq_true, Str.length_append, lit_len] <;> omega
    clear hcl
    generalize ((if dl = true then Str.ofString "$" else Str.empty) ++ r1) = r2 at *
    cases hn
    all_goals k_steps
    all_goals (refine cb_retS hret ?_ (by k_asm) (by k_asm))
    all_goals (first | rfl | (simp only [Str.append_empty]; done) | (exfalso; omega))
end Mine
end

/- text C7 -/

namespace Mine
theorem off_C7 : True := by
  w_top off
  exact trivial
end Mine
section
open PySem PySem.W PyProof.Rows PySem.Spec PySem.Calls
set_option linter.all false
namespace Mine
/-- a new list comes back; what it holds lies in a part of the ledger -/
def RetS (sub : List (Addr × Obj)) (ds : List Dat) (_base h₀ : Heap) (L : Addr) (m : Str → Option Value) (news : List (Addr × Obj)) (s : Shared) (Q _E : Value → Shared → Prop) : Prop :=
  ∀ (r : Addr) (its : List Value) (e : Nat) (h' : Heap) (tk' : Nat), Fr h₀ L h' m → News h₀ L h' ((r, PySem.W.listOf its.toArray e) :: news) → (∀ p ∈ news, p.1 < r) → DatAll sub its ds → Q (.ref r) { s with heap := h', toks := tk' }
local macro_rules | `(tactic| k_room) => `(tactic| ktr_room)
local macro_rules | `(tactic| k_units) => `(tactic| ktr_units)
local macro_rules | `(tactic| walk_at "getAttr ref") => `(tactic| (k_here; k_dflt (refine' Mine.own_hook ?k1 ?k2 ?k3 ?k4 ?k6 ?k7 ?k8 ?k9 ?k10 ?_; (case k3 => k_inst); (case k1 => k_asm); (case k2 => k_asm); (case k4 => k_is); (case k6 => k_is); (case k7 => k_is); (case k8 => k_is); (case k9 => k_get); (case k10 => k_handed); k_whole)))
local macro_rules | `(tactic| walk_at "getMethod ref") => `(tactic| (k_here; k_dflt (refine' Mine.meth_hook ?k1 ?k2 ?k3 ?k4 ?k5 ?k6 ?k7 ?k8 ?k9 ?k10 ?k11 ?k12 ?k13 ?_; (case k4 => k_inst); (case k1 => k_asm); (case k2 => k_asm); (case k3 => k_asm); (case k5 => k_is); (case k6 => k_is); (case k7 => k_is); (case k8 => k_is); (case k9 => k_is); (case k10 => k_is); (case k11 => k_is); (case k12 => decide +kernel); (case k13 => k_get); k_whole); intro q' h' F' N' l1; (try k_lt l1); (try k_sweep)))
local macro_rules | `(tactic| k_mem) => `(tactic| ((show (_ : PySem.Addr × PySem.Obj) ∈ (_ : List (PySem.Addr × PySem.Obj))); ktr_member))
local macro_rules | `(tactic| walk_at "call builtin:str.join") => `(tactic| (k_here; (with_reducible show wpAny _ _ (call (Value.builtin "str.join") [Value.str _ _, Value.ref _]) _ _ _); k_dflt (refine' Mine.join_led ?k1 ?k2 ?k3 ?_; (case k1 => k_asm); (case k2 => k_mem); (case k3 => assumption)); intro _ _))
local macro_rules | `(tactic| walk_at "call type:map") => `(tactic| (k_here; k_dflt (refine' Mine.map_K ?k1 ?k2 ?k3 ?_; (case k1 => k_asm); (case k2 => k_asm); (case k3 => assumption); k_whole); intro _ h' hMK F' N'))
local macro_rules | `(tactic| walk_at "call builtin:_functools.reduce") => `(tactic| (k_here; k_dflt (refine' Mine.reduce_K ?k1 ?k2 ?_; (case k1 => k_asm); (case k2 => exact rfl); k_whole); intro h' _ _ F' N'))
local macro_rules | `(tactic| walk_at "binaryOp Mod str int") => `(tactic| (k_here; (with_reducible show wpAny _ _ (binaryOp Operator.Mod (Value.str _ _) (Value.int (Mine.xorFrom _ _) _)) _ _ _); k_dflt (refine' Mine.pct_hex ?k1 ?k2 ?_; (case k1 => exact (Mine.xor_small (by assumption)).1); (case k2 => exact (Mine.xor_small (by assumption)).2)); intro hHX _ _))
local macro_rules | `(tactic| walk_at "inplaceOp Add str str") => `(tactic| (k_here; (refine PyProof.Rows.SBL.iadd (hsz := ?hsz) ?_); (case hsz => (simp only [PySem.Str.length_append, Mine.lit_len, PySem.sizeLine_eq]; omega)); intro _ _ _))
local macro_rules | `(tactic| walk_at "binaryOp Add str str") => `(tactic| (k_here; (refine PyProof.Rows.SBL.add (hsz := ?hsz) ?_); (case hsz => (simp only [PySem.Str.length_append, Mine.lit_len, PySem.sizeLine_eq]; omega)); intro _ _ _))
local macro_rules | `(tactic| walk_at "call builtin:isinstance") => `(tactic| (k_here; (with_reducible show wpAny _ _ (call _ [Value.ref _, Value.ref _]) _ _ _); k_dflt (refine' Mine.isn_hook ?k1 ?k2 ?k3 ?k4 ?k5 ?k6 ?k7 ?k8 ?k9 ?k10 ?_; (case k1 => k_in); (case k2 => k_inst); (case k3 => kin_no); (case k4 => k_is); (case k5 => k_is); (case k6 => k_is); (case k7 => k_is); (case k8 => k_is); (case k9 => k_is); (case k10 => k_is); k_whole); (try dsimp only)))
local macro_rules | `(tactic| walk_at "truthy ref") => `(tactic| (k_here; k_dflt (refine' Mine.truthy_cls ?k1 ?k2 ?k3 ?k4 ?_; (case k1 => k_asm); (case k2 => k_asm); (case k3 => k_is); (case k4 => k_is); k_whole)))
local macro_rules | `(tactic| walk_at "call type:list") => `(tactic| (k_here; (with_reducible show wpAny _ _ (call (Value.type "list") [Value.ref _]) _ _ _); k_dflt (refine' list_copyK ?k1 ?k2 ?k3 ?_ ?z; (case k1 => k_asm); (case k2 => k_asm); (case k3 => exact News.isList (by k_asm) (by k_mem)); (case z => (simp only [List.size_toArray, strValues, List.length_map, PySem.sizeLine_eq]; omega)); k_whole); intro D' c' h' F' N' l1; (try k_lt l1); (try k_sweep)))
local macro_rules | `(tactic| walk_at "eval Name") => `(tactic| (k_here; k_dflt (refine' ld ?k1 ?k2 ?_; (case k1 => k_asm); (case k2 => exact rfl); k_whole)))

set_option maxRecDepth 100000 in
set_option maxHeartbeats 8000000 in
theorem show_c (w : World) (mean : ExcName → Option Value) (mg mb : Str → Option Value) (x : Addr) (g : Msg) (sub : List (Addr × Obj)) (hat : MsgAt sub x g) :
  ConP w mean mg mb 351 [.ref x] 10 40 (fun news => ∀ p ∈ sub, p ∈ news) (RetS sub g.shown) := by
  unfold ConP RetS
  k_fill
  intros
  rename_i hss hret
  (refine wpAny_call ?_; k_dflt (refine' code_def ?k1 ?k2 ?k3 ?k4 ?k5 ?kA ?kF ?kK ?k6 ?k7 ?k8 ?k9 ?kB ?_ ?c2 ?c3 ?c4 ?c5; (case kA => exact rfl); (case kF => exact rfl); (case kK => assumption); (case k1 => k_asm); (case k2 => k_asm); (case k3 => k_asm); (case k4 => k_asm); (case k5 => k_asm); (case k6 => k_is); (case k7 => k_is); (case k8 => ktr_room); (case k9 => first | exact BindsTo.of_eq rfl | exact binds_K (by k_in) rfl (by k_is) rfl rfl rfl); (case c5 => decide); (case kB => exact locs rfl); (case c2 => exact rfl); (case c3 => exact rfl); (case c4 => exact rfl); k_whole; intro g' L' h' FG' F' N' B' X' T'; (try dsimp only); (try k_lift B'); (try k_fold)))
  cases g with
  | talk C st tk ps =>
    obtain ⟨hk, dx, l, h1, h2, h3, t1, t2, t3, t4, t5, n, e, tl, m1, m2, m3, rfl⟩ := hat
    have n1 := hss _ m1
    have n2 := hss _ m2
    have n3 := hss _ m3
    clear m1 m2
    rcases hk with ⟨rfl, rfl⟩ | ⟨rfl, rfl⟩ | ⟨rfl, rfl⟩
    all_goals k_steps
    all_goals (refine hret _ _ _ _ _ (by k_asm) (by k_asm) (by assumption) ?_)
    all_goals exact .cons (.str _ _) (.cons (.str _ _) (.cons (.str _ _) (.cons (dat_list m3) .nil)))
  | ques tk ot st =>
    obtain ⟨dx, l, h1, h2, h3, h4, t1, t2, t3, t4, t5, t6, t7, n, e, m1, m2, m3⟩ := hat
    have n1 := hss _ m1
    have n2 := hss _ m2
    have n3 := hss _ m3
    clear m1 m2
    k_steps
    all_goals (refine hret _ _ _ _ _ (by k_asm) (by k_asm) (by assumption) ?_)
    all_goals exact .cons (.str _ _) (.cons (.str _ _) (.cons (.str _ _) (.cons (.str _ _) (.cons (dat_list (tl := []) m3) .nil))))
  | prop mk ps =>
    obtain ⟨dx, l, h1, h2, t1, t2, t3, n, e, tl, m1, m2, m3, rfl⟩ := hat
    have n1 := hss _ m1
    have n2 := hss _ m2
    have n3 := hss _ m3
    clear m1 m2
    k_steps
    all_goals (refine hret _ _ _ _ _ (by k_asm) (by k_asm) (by assumption) ?_)
    all_goals exact .cons (.str _ _) (.cons (.str _ _) (.cons (dat_list m3) .nil))

set_option maxRecDepth 100000 in
set_option maxHeartbeats 8000000 in
theorem show_none_c (w : World) (mean : ExcName → Option Value) (mg mb : Str → Option Value) :
  Con w mean mg mb 351 [.none] 10 40 (RetL [.str (Str.ofString "no sentence")]) := by
  unfold Con RetL
  k_fill
  intros
  rename_i hret
  (refine wpAny_call ?_; k_dflt (refine' code_def ?k1 ?k2 ?k3 ?k4 ?k5 ?kA ?kF ?kK ?k6 ?k7 ?k8 ?k9 ?kB ?_ ?c2 ?c3 ?c4 ?c5; (case kA => exact rfl); (case kF => exact rfl); (case kK => assumption); (case k1 => k_asm); (case k2 => k_asm); (case k3 => k_asm); (case k4 => k_asm); (case k5 => k_asm); (case k6 => k_is); (case k7 => k_is); (case k8 => ktr_room); (case k9 => first | exact BindsTo.of_eq rfl | exact binds_K (by k_in) rfl (by k_is) rfl rfl rfl); (case c5 => decide); (case kB => exact locs rfl); (case c2 => exact rfl); (case c3 => exact rfl); (case c4 => exact rfl); k_whole; intro g' L' h' FG' F' N' B' X' T'; (try dsimp only); (try k_lift B'); (try k_fold)))
  k_steps
  all_goals (refine hret _ _ _ _ _ (by k_asm) (by k_asm) (by assumption) ?_)
  all_goals exact .cons (.str _ _) .nil
end Mine
end

/- text C3 -/

namespace Mine
theorem off_C3 : True := by
  w_top off
  exact trivial
end Mine
section
open PySem PySem.W PyProof.Rows PySem.Spec PySem.Calls
set_option linter.all false
namespace Mine
local macro_rules | `(tactic| k_room) => `(tactic| ktr_room)
local macro_rules | `(tactic| k_units) => `(tactic| ktr_units)
local macro_rules | `(tactic| walk_at "getAttr ref") => `(tactic| (k_here; k_dflt (refine' Mine.own_hook ?k1 ?k2 ?k3 ?k4 ?k6 ?k7 ?k8 ?k9 ?k10 ?_; (case k3 => k_inst); (case k1 => k_asm); (case k2 => k_asm); (case k4 => k_is); (case k6 => k_is); (case k7 => k_is); (case k8 => k_is); (case k9 => k_get); (case k10 => k_handed); k_whole)))
local macro_rules | `(tactic| walk_at "getMethod ref") => `(tactic| (k_here; k_dflt (refine' Mine.meth_hook ?k1 ?k2 ?k3 ?k4 ?k5 ?k6 ?k7 ?k8 ?k9 ?k10 ?k11 ?k12 ?k13 ?_; (case k4 => k_inst); (case k1 => k_asm); (case k2 => k_asm); (case k3 => k_asm); (case k5 => k_is); (case k6 => k_is); (case k7 => k_is); (case k8 => k_is); (case k9 => k_is); (case k10 => k_is); (case k11 => k_is); (case k12 => decide +kernel); (case k13 => k_get); k_whole); intro q' h' F' N' l1; (try k_lt l1); (try k_sweep)))
local macro_rules | `(tactic| k_mem) => `(tactic| ((show (_ : PySem.Addr × PySem.Obj) ∈ (_ : List (PySem.Addr × PySem.Obj))); ktr_member))
local macro_rules | `(tactic| walk_at "call builtin:str.join") => `(tactic| (k_here; (with_reducible show wpAny _ _ (call (Value.builtin "str.join") [Value.str _ _, Value.ref _]) _ _ _); k_dflt (refine' Mine.join_led ?k1 ?k2 ?k3 ?_; (case k1 => k_asm); (case k2 => k_mem); (case k3 => assumption)); intro _ _))
local macro_rules | `(tactic| walk_at "call type:map") => `(tactic| (k_here; k_dflt (refine' Mine.map_K ?k1 ?k2 ?k3 ?_; (case k1 => k_asm); (case k2 => k_asm); (case k3 => assumption); k_whole); intro _ h' hMK F' N'))
local macro_rules | `(tactic| walk_at "call builtin:_functools.reduce") => `(tactic| (k_here; k_dflt (refine' Mine.reduce_K ?k1 ?k2 ?_; (case k1 => k_asm); (case k2 => exact rfl); k_whole); intro h' _ _ F' N'))
local macro_rules | `(tactic| walk_at "binaryOp Mod str int") => `(tactic| (k_here; (with_reducible show wpAny _ _ (binaryOp Operator.Mod (Value.str _ _) (Value.int (Mine.xorFrom _ _) _)) _ _ _); k_dflt (refine' Mine.pct_hex ?k1 ?k2 ?_; (case k1 => exact (Mine.xor_small (by assumption)).1); (case k2 => exact (Mine.xor_small (by assumption)).2)); intro hHX _ _))
local macro_rules | `(tactic| walk_at "inplaceOp Add str str") => `(tactic| (k_here; (refine PyProof.Rows.SBL.iadd (hsz := ?hsz) ?_); (case hsz => (simp only [PySem.Str.length_append, Mine.lit_len, PySem.sizeLine_eq]; omega)); intro _ _ _))
local macro_rules | `(tactic| walk_at "binaryOp Add str str") => `(tactic| (k_here; (refine PyProof.Rows.SBL.add (hsz := ?hsz) ?_); (case hsz => (simp only [PySem.Str.length_append, Mine.lit_len, PySem.sizeLine_eq]; omega)); intro _ _ _))
local macro_rules | `(tactic| walk_at "call builtin:isinstance") => `(tactic| (k_here; (with_reducible show wpAny _ _ (call _ [Value.ref _, Value.ref _]) _ _ _); k_dflt (refine' Mine.isn_hook ?k1 ?k2 ?k3 ?k4 ?k5 ?k6 ?k7 ?k8 ?k9 ?k10 ?_; (case k1 => k_in); (case k2 => k_inst); (case k3 => kin_no); (case k4 => k_is); (case k5 => k_is); (case k6 => k_is); (case k7 => k_is); (case k8 => k_is); (case k9 => k_is); (case k10 => k_is); k_whole); (try dsimp only)))
local macro_rules | `(tactic| walk_at "truthy ref") => `(tactic| (k_here; k_dflt (refine' Mine.truthy_cls ?k1 ?k2 ?k3 ?k4 ?_; (case k1 => k_asm); (case k2 => k_asm); (case k3 => k_is); (case k4 => k_is); k_whole)))
local macro_rules | `(tactic| walk_at "call type:list") => `(tactic| (k_here; (with_reducible show wpAny _ _ (call (Value.type "list") [Value.ref _]) _ _ _); k_dflt (refine' list_copyK ?k1 ?k2 ?k3 ?_ ?z; (case k1 => k_asm); (case k2 => k_asm); (case k3 => exact News.isList (by k_asm) (by k_mem)); (case z => (simp only [List.size_toArray, strValues, List.length_map, PySem.sizeLine_eq]; omega)); k_whole); intro D' c' h' F' N' l1; (try k_lt l1); (try k_sweep)))
local macro_rules | `(tactic| walk_at "eval Name") => `(tactic| (k_here; k_dflt (refine' ld ?k1 ?k2 ?_; (case k1 => k_asm); (case k2 => exact rfl); k_whole)))

def signs : Str := Str.ofString "09AzN-.$ Q_'"
def grow : Nat → Int → Str × Int
  | 0, r => (Str.empty, r)
  | n + 1, r => let p := grow n r; (p.1 ++ Txt.item (Str.ofString "09AzN-.$ Q_'") (p.2.fmod 12), p.2.fdiv 12)
theorem grow_len : ∀ n r, (grow n r).1.length = n
  | 0, _ => rfl
  | n + 1, r => by
    show ((grow n r).1 ++ _).length = _
    rw [Str.length_append, grow_len n r]; rfl
def partT (x : Int) : Str := (grow (x.fmod 5).toNat (x.fdiv 5)).1
set_option maxRecDepth 100000 in
set_option maxHeartbeats 1500000 in
theorem part_c (w : World) (mean : ExcName → Option Value) (mg mb : Str → Option Value) (x : Int) (tx : Tok) :
  Con w mean mg mb 323 [.int x tx] 4 20 (RetV fun t => .str (partT x) t) := by
  unfold Con RetV
  k_fill
  intros
  rename_i hret
  (refine wpAny_call ?_; k_dflt (refine' code_def ?k1 ?k2 ?k3 ?k4 ?k5 ?kA ?kF ?kK ?k6 ?k7 ?k8 ?k9 ?kB ?_ ?c2 ?c3 ?c4 ?c5; (case kA => exact rfl); (case kF => exact rfl); (case kK => assumption); (case k1 => k_asm); (case k2 => k_asm); (case k3 => k_asm); (case k4 => k_asm); (case k5 => k_asm); (case k6 => k_is); (case k7 => k_is); (case k8 => ktr_room); (case k9 => first | exact BindsTo.of_eq rfl | exact binds_K (by k_in) rfl (by k_is) rfl rfl rfl); (case c5 => decide); (case kB => exact locs rfl); (case c2 => exact rfl); (case c3 => exact rfl); (case c4 => exact rfl); k_whole; intro g' L' h' FG' F' N' B' X' T'; (try dsimp only); (try k_lift B'); (try k_fold)))
  k_with_none
  k_with "pyIter ref" => k_state_given ["rest!"] (fun (r₀ : Int) (pre : List Int) (text : Str) (rest : Int) => text = (grow pre.length r₀).1 ∧ rest = (grow pre.length r₀).2 ∧ text.length = pre.length ∧ pre.length ≤ 5) "text" "rest"
  k_steps
  all_goals (refine cb_retS hret ?_ (by k_asm) (by k_asm))
  all_goals (refine Eq.trans (b := (grow (rangeKs 0 (x.fmod 5 - 0).toNat).length (x.fdiv 5)).1) (by assumption) ?_)
  all_goals (unfold partT; rw [rangeKs_length, Int.sub_zero])
end Mine
end

/- text C4 -/

namespace Mine
theorem off_C4 : True := by
  w_top off
  exact trivial
end Mine
section
open PySem PySem.W PyProof.Rows PySem.Spec PySem.Calls
set_option linter.all false
namespace Mine
local macro_rules | `(tactic| k_room) => `(tactic| ktr_room)
local macro_rules | `(tactic| k_units) => `(tactic| ktr_units)
local macro_rules | `(tactic| walk_at "getAttr ref") => `(tactic| (k_here; k_dflt (refine' Mine.own_hook ?k1 ?k2 ?k3 ?k4 ?k6 ?k7 ?k8 ?k9 ?k10 ?_; (case k3 => k_inst); (case k1 => k_asm); (case k2 => k_asm); (case k4 => k_is); (case k6 => k_is); (case k7 => k_is); (case k8 => k_is); (case k9 => k_get); (case k10 => k_handed); k_whole)))
local macro_rules | `(tactic| walk_at "getMethod ref") => `(tactic| (k_here; k_dflt (refine' Mine.meth_hook ?k1 ?k2 ?k3 ?k4 ?k5 ?k6 ?k7 ?k8 ?k9 ?k10 ?k11 ?k12 ?k13 ?_; (case k4 => k_inst); (case k1 => k_asm); (case k2 => k_asm); (case k3 => k_asm); (case k5 => k_is); (case k6 => k_is); (case k7 => k_is); (case k8 => k_is); (case k9 => k_is); (case k10 => k_is); (case k11 => k_is); (case k12 => decide +kernel); (case k13 => k_get); k_whole); intro q' h' F' N' l1; (try k_lt l1); (try k_sweep)))
local macro_rules | `(tactic| k_mem) => `(tactic| ((show (_ : PySem.Addr × PySem.Obj) ∈ (_ : List (PySem.Addr × PySem.Obj))); ktr_member))
local macro_rules | `(tactic| walk_at "call builtin:str.join") => `(tactic| (k_here; (with_reducible show wpAny _ _ (call (Value.builtin "str.join") [Value.str _ _, Value.ref _]) _ _ _); k_dflt (refine' Mine.join_led ?k1 ?k2 ?k3 ?_; (case k1 => k_asm); (case k2 => k_mem); (case k3 => assumption)); intro _ _))
local macro_rules | `(tactic| walk_at "call type:map") => `(tactic| (k_here; k_dflt (refine' Mine.map_K ?k1 ?k2 ?k3 ?_; (case k1 => k_asm); (case k2 => k_asm); (case k3 => assumption); k_whole); intro _ h' hMK F' N'))
local macro_rules | `(tactic| walk_at "call builtin:_functools.reduce") => `(tactic| (k_here; k_dflt (refine' Mine.reduce_K ?k1 ?k2 ?_; (case k1 => k_asm); (case k2 => exact rfl); k_whole); intro h' _ _ F' N'))
local macro_rules | `(tactic| walk_at "binaryOp Mod str int") => `(tactic| (k_here; (with_reducible show wpAny _ _ (binaryOp Operator.Mod (Value.str _ _) (Value.int (Mine.xorFrom _ _) _)) _ _ _); k_dflt (refine' Mine.pct_hex ?k1 ?k2 ?_; (case k1 => exact (Mine.xor_small (by assumption)).1); (case k2 => exact (Mine.xor_small (by assumption)).2)); intro hHX _ _))
local macro_rules | `(tactic| walk_at "inplaceOp Add str str") => `(tactic| (k_here; (refine PyProof.Rows.SBL.iadd (hsz := ?hsz) ?_); (case hsz => (simp only [PySem.Str.length_append, Mine.lit_len, PySem.sizeLine_eq]; omega)); intro _ _ _))
local macro_rules | `(tactic| walk_at "binaryOp Add str str") => `(tactic| (k_here; (refine PyProof.Rows.SBL.add (hsz := ?hsz) ?_); (case hsz => (simp only [PySem.Str.length_append, Mine.lit_len, PySem.sizeLine_eq]; omega)); intro _ _ _))
local macro_rules | `(tactic| walk_at "call builtin:isinstance") => `(tactic| (k_here; (with_reducible show wpAny _ _ (call _ [Value.ref _, Value.ref _]) _ _ _); k_dflt (refine' Mine.isn_hook ?k1 ?k2 ?k3 ?k4 ?k5 ?k6 ?k7 ?k8 ?k9 ?k10 ?_; (case k1 => k_in); (case k2 => k_inst); (case k3 => kin_no); (case k4 => k_is); (case k5 => k_is); (case k6 => k_is); (case k7 => k_is); (case k8 => k_is); (case k9 => k_is); (case k10 => k_is); k_whole); (try dsimp only)))
local macro_rules | `(tactic| walk_at "truthy ref") => `(tactic| (k_here; k_dflt (refine' Mine.truthy_cls ?k1 ?k2 ?k3 ?k4 ?_; (case k1 => k_asm); (case k2 => k_asm); (case k3 => k_is); (case k4 => k_is); k_whole)))
local macro_rules | `(tactic| walk_at "call type:list") => `(tactic| (k_here; (with_reducible show wpAny _ _ (call (Value.type "list") [Value.ref _]) _ _ _); k_dflt (refine' list_copyK ?k1 ?k2 ?k3 ?_ ?z; (case k1 => k_asm); (case k2 => k_asm); (case k3 => exact News.isList (by k_asm) (by k_mem)); (case z => (simp only [List.size_toArray, strValues, List.length_map, PySem.sizeLine_eq]; omega)); k_whole); intro D' c' h' F' N' l1; (try k_lt l1); (try k_sweep)))
local macro_rules | `(tactic| walk_at "eval Name") => `(tactic| (k_here; k_dflt (refine' ld ?k1 ?k2 ?_; (case k1 => k_asm); (case k2 => exact rfl); k_whole)))

set_option maxRecDepth 100000 in
set_option maxHeartbeats 3000000 in
theorem hex_c (w : World) (mean : ExcName → Option Value) (mg mb : Str → Option Value) (x : Str) (tx : Tok) (hx : x.length ≤ 1000) (ha : x.cps.all (fun c => decide (c < 128)) = true) :
  Con w mean mg mb 337 [.str x tx] 4 20 (RetV fun t => .str (hexT (csum x)) t) := by
  unfold Con RetV
  k_fill
  intros
  rename_i hret
  (refine wpAny_call ?_; k_dflt (refine' code_def ?k1 ?k2 ?k3 ?k4 ?k5 ?kA ?kF ?kK ?k6 ?k7 ?k8 ?k9 ?kB ?_ ?c2 ?c3 ?c4 ?c5; (case kA => exact rfl); (case kF => exact rfl); (case kK => assumption); (case k1 => k_asm); (case k2 => k_asm); (case k3 => k_asm); (case k4 => k_asm); (case k5 => k_asm); (case k6 => k_is); (case k7 => k_is); (case k8 => ktr_room); (case k9 => first | exact BindsTo.of_eq rfl | exact binds_K (by k_in) rfl (by k_is) rfl rfl rfl); (case c5 => decide); (case kB => exact locs rfl); (case c2 => exact rfl); (case c3 => exact rfl); (case c4 => exact rfl); k_whole; intro g' L' h' FG' F' N' B' X' T'; (try dsimp only); (try k_lift B'); (try k_fold)))
  k_with_none
  k_with "pyIter str" => k_state (fun (pre : List Int) (v : Int) => v = xorFrom 0 (pre.map Int.toNat) ∧ 0 ≤ v ∧ v < 128) "value"
  k_with "state" => first | exact hex_start | exact hex_turn (by assumption) (by assumption) (by assumption) (by assumption) (by assumption)
  k_steps
  all_goals (refine cb_retS hret ?_ (by k_asm) (by k_asm))
  all_goals exact hex_done (by assumption) (by assumption) (by assumption)
end Mine
end

/- text C9 -/

namespace Mine
theorem off_C9 : True := by
  w_top off
  exact trivial
end Mine
section
open PySem PySem.W PyProof.Rows PySem.Spec PySem.Calls
set_option linter.all false
namespace Mine
local macro_rules | `(tactic| k_room) => `(tactic| ktr_room)
local macro_rules | `(tactic| k_units) => `(tactic| ktr_units)
local macro_rules | `(tactic| walk_at "getAttr ref") => `(tactic| (k_here; k_dflt (refine' Mine.own_hook ?k1 ?k2 ?k3 ?k4 ?k6 ?k7 ?k8 ?k9 ?k10 ?_; (case k3 => k_inst); (case k1 => k_asm); (case k2 => k_asm); (case k4 => k_is); (case k6 => k_is); (case k7 => k_is); (case k8 => k_is); (case k9 => k_get); (case k10 => k_handed); k_whole)))
local macro_rules | `(tactic| walk_at "getMethod ref") => `(tactic| (k_here; k_dflt (refine' Mine.meth_hook ?k1 ?k2 ?k3 ?k4 ?k5 ?k6 ?k7 ?k8 ?k9 ?k10 ?k11 ?k12 ?k13 ?_; (case k4 => k_inst); (case k1 => k_asm); (case k2 => k_asm); (case k3 => k_asm); (case k5 => k_is); (case k6 => k_is); (case k7 => k_is); (case k8 => k_is); (case k9 => k_is); (case k10 => k_is); (case k11 => k_is); (case k12 => decide +kernel); (case k13 => k_get); k_whole); intro q' h' F' N' l1; (try k_lt l1); (try k_sweep)))
local macro_rules | `(tactic| k_mem) => `(tactic| ((show (_ : PySem.Addr × PySem.Obj) ∈ (_ : List (PySem.Addr × PySem.Obj))); ktr_member))
local macro_rules | `(tactic| walk_at "call builtin:str.join") => `(tactic| (k_here; (with_reducible show wpAny _ _ (call (Value.builtin "str.join") [Value.str _ _, Value.ref _]) _ _ _); k_dflt (refine' Mine.join_led ?k1 ?k2 ?k3 ?_; (case k1 => k_asm); (case k2 => k_mem); (case k3 => assumption)); intro _ _))
local macro_rules | `(tactic| walk_at "call type:map") => `(tactic| (k_here; k_dflt (refine' Mine.map_K ?k1 ?k2 ?k3 ?_; (case k1 => k_asm); (case k2 => k_asm); (case k3 => assumption); k_whole); intro _ h' hMK F' N'))
local macro_rules | `(tactic| walk_at "call builtin:_functools.reduce") => `(tactic| (k_here; k_dflt (refine' Mine.reduce_K ?k1 ?k2 ?_; (case k1 => k_asm); (case k2 => exact rfl); k_whole); intro h' _ _ F' N'))
local macro_rules | `(tactic| walk_at "binaryOp Mod str int") => `(tactic| (k_here; (with_reducible show wpAny _ _ (binaryOp Operator.Mod (Value.str _ _) (Value.int (Mine.xorFrom _ _) _)) _ _ _); k_dflt (refine' Mine.pct_hex ?k1 ?k2 ?_; (case k1 => exact (Mine.xor_small (by assumption)).1); (case k2 => exact (Mine.xor_small (by assumption)).2)); intro hHX _ _))
local macro_rules | `(tactic| walk_at "inplaceOp Add str str") => `(tactic| (k_here; (refine PyProof.Rows.SBL.iadd (hsz := ?hsz) ?_); (case hsz => (simp only [PySem.Str.length_append, Mine.lit_len, PySem.sizeLine_eq]; omega)); intro _ _ _))
local macro_rules | `(tactic| walk_at "binaryOp Add str str") => `(tactic| (k_here; (refine PyProof.Rows.SBL.add (hsz := ?hsz) ?_); (case hsz => (simp only [PySem.Str.length_append, Mine.lit_len, PySem.sizeLine_eq]; omega)); intro _ _ _))
local macro_rules | `(tactic| walk_at "call builtin:isinstance") => `(tactic| (k_here; (with_reducible show wpAny _ _ (call _ [Value.ref _, Value.ref _]) _ _ _); k_dflt (refine' Mine.isn_hook ?k1 ?k2 ?k3 ?k4 ?k5 ?k6 ?k7 ?k8 ?k9 ?k10 ?_; (case k1 => k_in); (case k2 => k_inst); (case k3 => kin_no); (case k4 => k_is); (case k5 => k_is); (case k6 => k_is); (case k7 => k_is); (case k8 => k_is); (case k9 => k_is); (case k10 => k_is); k_whole); (try dsimp only)))
local macro_rules | `(tactic| walk_at "truthy ref") => `(tactic| (k_here; k_dflt (refine' Mine.truthy_cls ?k1 ?k2 ?k3 ?k4 ?_; (case k1 => k_asm); (case k2 => k_asm); (case k3 => k_is); (case k4 => k_is); k_whole)))
local macro_rules | `(tactic| walk_at "call type:list") => `(tactic| (k_here; (with_reducible show wpAny _ _ (call (Value.type "list") [Value.ref _]) _ _ _); k_dflt (refine' list_copyK ?k1 ?k2 ?k3 ?_ ?z; (case k1 => k_asm); (case k2 => k_asm); (case k3 => exact News.isList (by k_asm) (by k_mem)); (case z => (simp only [List.size_toArray, strValues, List.length_map, PySem.sizeLine_eq]; omega)); k_whole); intro D' c' h' F' N' l1; (try k_lt l1); (try k_sweep)))
local macro_rules | `(tactic| walk_at "eval Name") => `(tactic| (k_here; k_dflt (refine' ld ?k1 ?k2 ?_; (case k1 => k_asm); (case k2 => exact rfl); k_whole)))

local macro_rules | `(tactic| walk_at "exec For Tuple Call") => `(tactic| (k_here; (rename Fr _ _ _ _ => lF'); (with_unfolding_all refine For_turns lF' ?_)))
local macro_rules | `(tactic| walk_at "call type:enumerate") => `(tactic| (k_here; refine Stop.mk ?_))
def TextsAt (news : List (Addr × Obj)) (l : Addr) (ps : List Str) : Prop := ∃ tl e, (l, PySem.W.listOf (strValues tl).toArray e) ∈ news ∧ tl.map (·.1) = ps
set_option maxRecDepth 100000 in
set_option maxHeartbeats 3000000 in
theorem join_c (w : World) (mean : ExcName → Option Value) (mg mb : Str → Option Value) (l : Addr) (ps : List Str) (hl : (joinT ps).length ≤ 100) :
  ConP w mean mg mb 330 [.ref l] 4 20 (fun news => TextsAt news l ps) (RetV fun t => .str (joinT ps) t) := by
  unfold ConP RetV
  k_fill
  intros
  rename_i hat hret
  obtain ⟨tl, e, hm, rfl⟩ := hat
  (refine wpAny_call ?_; k_dflt (refine' code_def ?k1 ?k2 ?k3 ?k4 ?k5 ?kA ?kF ?kK ?k6 ?k7 ?k8 ?k9 ?kB ?_ ?c2 ?c3 ?c4 ?c5; (case kA => exact rfl); (case kF => exact rfl); (case kK => assumption); (case k1 => k_asm); (case k2 => k_asm); (case k3 => k_asm); (case k4 => k_asm); (case k5 => k_asm); (case k6 => k_is); (case k7 => k_is); (case k8 => ktr_room); (case k9 => first | exact BindsTo.of_eq rfl | exact binds_K (by k_in) rfl (by k_is) rfl rfl rfl); (case c5 => decide); (case kB => exact locs rfl); (case c2 => exact rfl); (case c3 => exact rfl); (case c4 => exact rfl); k_whole; intro g' L' h' FG' F' N' B' X' T'; (try dsimp only); (try k_lift B'); (try k_fold)))
  k_with_none
  k_steps
  refine Stop.out ?_
  refine' join_enum ?k1 ?k2 ?k3 hm ?k4 join_nil ?k5 ?k6
  case k2 => k_asm
  case k3 => k_asm
  case k4 => exact rfl
  case k1 => exact rfl
  case k5 =>
    intro pre a post vk vp tT ti ta T h tk full hE hT F N
    have hb := joinT_mid hE hl
    obtain ⟨hb1, hb2⟩ := hb
    have hpos := @pre_pos pre a (joinT pre) a
    have hneg := @pre_neg pre a (joinT pre ++ Str.ofString "," ++ a)
    rw [← joinT_snoc] at hpos hneg
    generalize joinT (pre ++ [a]) = new at *
    clear hret hl hE
    generalize joinT pre = Z at *
    k_steps
    all_goals first
      | exact join_end1 (by k_asm) (by k_asm) (fun _ hp => hp) (hneg (by assumption))
      | exact join_end2 (by k_asm) (by k_asm) (fun _ hp => hp) (hpos (by assumption))
  case k6 =>
    intro h tk vk vp t F N
    k_steps
    refine cb_retS hret rfl (by k_asm) (by k_asm)
theorem join_l (w : World) (mean : ExcName → Option Value) (mg mb : Str → Option Value) (l : Addr) (tl : List (Str × Tok)) (e : Nat) (hl : (joinT (tl.map fun p => p.1)).length ≤ 100) :
  ConP w mean mg mb 330 [.ref l] 4 20 (fun news => (l, PySem.W.listOf (strValues tl).toArray e) ∈ news) (RetV fun t => .str (joinT (tl.map fun p => p.1)) t) :=
  fun dp un gd cn cs a ccd cl outer A₀ base h₀ L m news s Q E a1 a2 a3 a4 a5 a6 a7 a8 a9 a10 => join_c w mean mg mb l _ hl dp un gd cn cs a ccd cl outer A₀ base h₀ L m news s Q E a1 a2 a3 a4 a5 a6 a7 a8 ⟨tl, e, a9, rfl⟩ a10
end Mine
end

/- text C10 -/

namespace Mine
theorem off_C10 : True := by
  w_top off
  exact trivial
end Mine
section
open PySem PySem.W PyProof.Rows PySem.Spec PySem.Calls
set_option linter.all false
namespace Mine
def excInitIn (K : Frag) (C f : Addr) : Bool := match K.lookup C with
  | some ⟨.type "type", _, .cls cd, sl⟩ => (match cd.mro, sl.toList with
    | .ref C' :: bm, [_, _, _, _, some (.builtin n), _] => C' == C && n == "ValueError.__new__" && !cd.hasDel && bm == [.type "ValueError", .type "Exception", .type "BaseException", .type "object"] && nsOkIn K cd.ns && nsIn K cd.ns "__init__" == some (some (.ref f))
    | _, _ => false)
  | _ => false
theorem ns_some_of {K : Frag} {h : Heap} {N : Addr} {mg : Str → Option Value} {n : Str} {v : Value} (X : K.In h) (G : h.Ns N mg) (e : nsIn K N n = some (some v)) : mg n = some v := by
  obtain ⟨o, es, ep, ho, hd, _, hf⟩ := G
  unfold nsIn at e
  split at e
  · rename_i c d es' n' sl q
    have := X _ _ q
    rw [ho] at this
    cases this
    cases hd
    split at e
    · rename_i en he
      cases e
      rw [← hf]
      unfold nsFind findBy
      rw [← Array.find?_toList, he]
      rfl
    · split at e <;> cases e
  · cases e
theorem excInit_of {K : Frag} {h₀ : Heap} {C f : Addr} (X : K.In h₀) (q : excInitIn K C f = true) :
    ∃ N nm qn bs hd sn sub ab col dd k0 k1 k2 k3 k5 mN, h₀.get? C = some (excClassObj nm qn C N bs [.type "ValueError", .type "Exception", .type "BaseException", .type "object"] hd sn sub ab col dd k0 k1 k2 k3 k5 "ValueError.__new__") ∧ h₀.Ns N mN ∧ mN "__init__" = some (.ref f) := by
  unfold excInitIn at q
  split at q
  · rename_i dd cd sl ho
    split at q
    · rename_i C' bm k0 k1 k2 k3 n k5 hm hs
      simp only [Bool.and_eq_true, beq_iff_eq, Bool.not_eq_true'] at q
      obtain ⟨⟨⟨⟨⟨rfl, rfl⟩, hdel⟩, rfl⟩, hok⟩, hni⟩ := q
      obtain ⟨nm, bs, mro, ns, qn, hd, sn, sub, ab, col, del⟩ := cd
      dsimp only at hm hdel hok hni
      subst hm hdel
      have hsl : sl = #[k0, k1, k2, k3, some (.builtin "ValueError.__new__"), k5] := by
        obtain ⟨l⟩ := sl
        simp only at hs
        rw [hs]
      subst hsl
      have G : h₀.Ns ns (h₀.nsMap ns) := .of_isNs (isNs_of_in X hok)
      exact ⟨ns, nm, qn, bs, hd, sn, sub, ab, col, dd, k0, k1, k2, k3, k5, _, X _ _ ho, G, ns_some_of X G hni⟩
    · cases q
  · cases q
theorem pe_is (ps : Params) : excInitIn (Mine.hd.heap_39 ps) 64 61 = true := by kernel_rfl
theorem exc_make {prog : Program} {w : World} {A : Around} {E : Value → Shared → Prop} {s : Shared} {h₀ : Heap} {L : Addr} {m : Str → Option Value} {news : List (Addr × Obj)} {K : Frag} {C f : Addr} {rest : List Value} {Q : Value → Shared → Prop}
    (F : Fr h₀ L s.heap m) (X₀ : K.In h₀) (N : News h₀ L s.heap news) (q : excInitIn K C f = true) (ht : typeIn K (.ref f) = some (.type "function"))
    (h : ∀ e t0 h', Fr h₀ L h' m → News h₀ L h' ((e, excOb C t0) :: news) → (∀ p ∈ news, p.1 ≠ e) →
      codeAny (model prog w) (A.under (.builtin "type.__call__" ⟨.ref C :: rest, []⟩)) (.call (.ref f) ⟨.ref e :: rest, []⟩) (fun r s' => match r with | .ok (.ret v) => v = .none ∧ Q (.ref e) s' | .ok _ => False | .error e => E e s') { s with heap := h' }) (hrest : rest.length ≤ sizeLine) :
    wpAny (model prog w) A (call (.ref C) rest) Q E s := by
  have X : K.In s.heap := X₀.keeps F.keep
  obtain ⟨hh, g, d, t, os⟩ := s
  obtain ⟨of, hof, hofc⟩ : ∃ of, hh.get? f = some of ∧ of.cls = .type "function" := by
    have ht' : (K.lookup f).map (·.cls) = some (.type "function") := ht
    cases z : K.lookup f with
    | none => rw [z] at ht'; cases ht'
    | some of => rw [z] at ht'; exact ⟨of, X _ _ z, Option.some.inj ht'⟩
  obtain ⟨Na, nm, qn, bs, hd, sn, sub, ab, col, dd, k0, k1, k2, k3, k5, mN, e1, e2, e3⟩ := excInit_of X q
  refine wpAny_call_exc_init PySem.F.excBase_ValueError e1 e2 e3 hof hofc (fun h' e hm => ?_) hrest
  obtain ⟨t0, ht0, hnt, _⟩ := hm.there
  have hLe : L ≠ e := by
    obtain ⟨oL, es, ep, hL, r⟩ := F.ns
    rintro rfl
    exact nomatch hL.symm.trans hm.new
  refine wpAny_call (h e t0 h' (F.keeps hm.keeps) (fun p hp => ?_) fun p hp z => ?_)
  · rcases List.mem_cons.mp hp with rfl | hp
    · refine ⟨ht0, hLe.symm, ?_⟩
      cases z : h₀.get? e with
      | none => rfl
      | some o => exact nomatch (F.keep _ _ z).symm.trans hm.new
    · exact ⟨hm.keeps _ _ (N p hp).1, (N p hp).2⟩
  · have z1 := (N p hp).1
    rw [z] at z1
    exact nomatch z1.symm.trans hm.new
def WrapP (q : Addr) (id : String) (e : Addr) (h : Heap) : Prop := h.get? q = some (wrapOb id e)
theorem keeps_W {M : Model} {q e : Addr} {id : String} (h : Heap) (X : WrapP q id e h) : ∃ k, (k = Keeper.frame ∨ k = Keeper.machine ∨ k = Keeper.boundFrame) ∧ Looks M h (keeperOf (.ref q)) k :=
  ⟨.machine, .inr (.inl rfl), (Looks.ld (part := none) X).andThen .now⟩
theorem callWith_W {M : Model} {A : Around} {E : Value → Shared → Prop} {s : Shared} {env : Env} {pos : Pos} {first : List Value} {Q : Value → Shared → Prop} {h₀ : Heap} {L : Addr} {news : List (Addr × Obj)} {q e' : Addr} {id : String} {e : Expr} {rest : List Expr} (_N : News h₀ L s.heap news) (_q : (q, wrapOb id e') ∈ news)
    (h : wpAny M A (spliced (backTo pos (starEach (e :: rest) env))) (fun vs s₁ => WrapP q id e' s₁.heap ∧ wpAny M A (call (.ref q) (first ++ vs)) Q E s₁) E s)
    (he : starEach (e :: rest) env = (false, eval e env) :: starEach rest env := by rfl) (hplain : (backTo pos (starEach rest env)).any (·.1) = false := by rfl) :
    wpAny M A (callWith pos (.ref q) first (backTo pos (starEach (e :: rest) env)) []) Q E s := by
  rw [he] at h ⊢
  exact callWith_of (by show ((false || (backTo pos (starEach rest env)).any (·.1)) || false) = false; rw [hplain]; rfl) keeps_W (evalArgs_plain h)
local macro_rules | `(tactic| k_room) => `(tactic| ktr_room)
local macro_rules | `(tactic| k_units) => `(tactic| ktr_units)
local macro_rules | `(tactic| walk_at "getAttr ref") => `(tactic| (k_here; k_dflt (refine' Mine.own_hook ?k1 ?k2 ?k3 ?k4 ?k6 ?k7 ?k8 ?k9 ?k10 ?_; (case k3 => k_inst); (case k1 => k_asm); (case k2 => k_asm); (case k4 => k_is); (case k6 => k_is); (case k7 => k_is); (case k8 => k_is); (case k9 => k_get); (case k10 => k_handed); k_whole)))
local macro_rules | `(tactic| walk_at "getMethod ref") => `(tactic| (k_here; k_dflt (refine' Mine.meth_hook ?k1 ?k2 ?k3 ?k4 ?k5 ?k6 ?k7 ?k8 ?k9 ?k10 ?k11 ?k12 ?k13 ?_; (case k4 => k_inst); (case k1 => k_asm); (case k2 => k_asm); (case k3 => k_asm); (case k5 => k_is); (case k6 => k_is); (case k7 => k_is); (case k8 => k_is); (case k9 => k_is); (case k10 => k_is); (case k11 => k_is); (case k12 => decide +kernel); (case k13 => k_get); k_whole); intro q' h' F' N' l1; (try k_lt l1); (try k_sweep)))
local macro_rules | `(tactic| k_mem) => `(tactic| ((show (_ : PySem.Addr × PySem.Obj) ∈ (_ : List (PySem.Addr × PySem.Obj))); ktr_member))
local macro_rules | `(tactic| walk_at "call builtin:str.join") => `(tactic| (k_here; (with_reducible show wpAny _ _ (call (Value.builtin "str.join") [Value.str _ _, Value.ref _]) _ _ _); k_dflt (refine' Mine.join_led ?k1 ?k2 ?k3 ?_; (case k1 => k_asm); (case k2 => k_mem); (case k3 => assumption)); intro _ _))
local macro_rules | `(tactic| walk_at "call type:map") => `(tactic| (k_here; k_dflt (refine' Mine.map_K ?k1 ?k2 ?k3 ?_; (case k1 => k_asm); (case k2 => k_asm); (case k3 => assumption); k_whole); intro _ h' hMK F' N'))
local macro_rules | `(tactic| walk_at "call builtin:_functools.reduce") => `(tactic| (k_here; k_dflt (refine' Mine.reduce_K ?k1 ?k2 ?_; (case k1 => k_asm); (case k2 => exact rfl); k_whole); intro h' _ _ F' N'))
local macro_rules | `(tactic| walk_at "binaryOp Mod str int") => `(tactic| (k_here; (with_reducible show wpAny _ _ (binaryOp Operator.Mod (Value.str _ _) (Value.int (Mine.xorFrom _ _) _)) _ _ _); k_dflt (refine' Mine.pct_hex ?k1 ?k2 ?_; (case k1 => exact (Mine.xor_small (by assumption)).1); (case k2 => exact (Mine.xor_small (by assumption)).2)); intro hHX _ _))
local macro_rules | `(tactic| walk_at "inplaceOp Add str str") => `(tactic| (k_here; (refine PyProof.Rows.SBL.iadd (hsz := ?hsz) ?_); (case hsz => (simp only [PySem.Str.length_append, Mine.lit_len, PySem.sizeLine_eq]; omega)); intro _ _ _))
local macro_rules | `(tactic| walk_at "binaryOp Add str str") => `(tactic| (k_here; (refine PyProof.Rows.SBL.add (hsz := ?hsz) ?_); (case hsz => (simp only [PySem.Str.length_append, Mine.lit_len, PySem.sizeLine_eq]; omega)); intro _ _ _))
local macro_rules | `(tactic| walk_at "call builtin:isinstance") => `(tactic| (k_here; (with_reducible show wpAny _ _ (call _ [Value.ref _, Value.ref _]) _ _ _); k_dflt (refine' Mine.isn_hook ?k1 ?k2 ?k3 ?k4 ?k5 ?k6 ?k7 ?k8 ?k9 ?k10 ?_; (case k1 => k_in); (case k2 => k_inst); (case k3 => kin_no); (case k4 => k_is); (case k5 => k_is); (case k6 => k_is); (case k7 => k_is); (case k8 => k_is); (case k9 => k_is); (case k10 => k_is); k_whole); (try dsimp only)))
local macro_rules | `(tactic| walk_at "truthy ref") => `(tactic| (k_here; k_dflt (refine' Mine.truthy_cls ?k1 ?k2 ?k3 ?k4 ?_; (case k1 => k_asm); (case k2 => k_asm); (case k3 => k_is); (case k4 => k_is); k_whole)))
local macro_rules | `(tactic| walk_at "call type:list") => `(tactic| (k_here; (with_reducible show wpAny _ _ (call (Value.type "list") [Value.ref _]) _ _ _); k_dflt (refine' list_copyK ?k1 ?k2 ?k3 ?_ ?z; (case k1 => k_asm); (case k2 => k_asm); (case k3 => exact News.isList (by k_asm) (by k_mem)); (case z => (simp only [List.size_toArray, strValues, List.length_map, PySem.sizeLine_eq]; omega)); k_whole); intro D' c' h' F' N' l1; (try k_lt l1); (try k_sweep)))
local macro_rules | `(tactic| walk_at "eval Name") => `(tactic| (k_here; k_dflt (refine' ld ?k1 ?k2 ?_; (case k1 => k_asm); (case k2 => exact rfl); k_whole)))

theorem boot_super : bootBuiltins "super" = some (.type "super") := by first | boot_by_name | rfl | kernel_rfl
local macro_rules | `(tactic| walk_at "eval Name") => `(tactic| (k_here; k_dflt (first
  | (refine' nameX_L ?F ?v ?_ ?a ?b; (case a => rfl); (case b => rfl); (case F => k_asm); (case v => exact rfl); k_whole)
  | (refine' nameX_K ?F ?X ?T ?e ?_ ?a ?b; (case a => rfl); (case b => rfl); (case F => k_asm); (case X => k_asm); (case T => k_asm); (case e => k_is); k_whole)
  | (refine' nameX_B ?F ?X ?T ?e boot_super ?hn ?_ ?a ?b; (case F => k_asm); (case X => k_asm); (case T => k_asm); (case e => k_is); (case hn => decide); (case a => rfl); (case b => rfl); k_whole))))
local macro_rules | `(tactic| walk_at "call type:super") => `(tactic| (k_here; k_dflt (refine' Mine.super_two ?k1 ?k2 ?k3 ?k4 ?k5 ?k6 ?_; (case k1 => k_asm); (case k2 => k_asm); (case k3 => k_asm); (case k4 => k_mem); (case k5 => k_is); (case k6 => k_is); k_whole); intro so' h' F' N' l1; (try k_lt l1)))
local macro_rules | `(tactic| walk_at "getMethod ref") => `(tactic| (k_here; (with_reducible show wpAny _ _ (getMethod _ (Str.ofString "__init__") _) _ _ _); k_dflt (refine' Mine.super_meth ?k1 ?k2 ?k3 ?k4 ?k5 ?k6 ?k7 ?k8 ?_; (case k1 => k_asm); (case k2 => k_asm); (case k3 => k_asm); (case k4 => k_mem); (case k5 => k_mem); (case k6 => k_is); (case k7 => ks_is); (case k8 => k_is); k_whole); intro q' h' F' N' l1; (try k_lt l1)))
def RetX (_base h₀ : Heap) (L : Addr) (m : Str → Option Value) (news : List (Addr × Obj)) (s : Shared) (Q _E : Value → Shared → Prop) : Prop :=
  ∀ (e t : Addr) (its : Array Value) (h' : Heap) (tk' : Nat), Fr h₀ L h' m → News h₀ L h' ((t, { cls := .type "tuple", data := .seq its }) :: (e, excOb 64 t) :: news) → e ≠ t → (∀ p ∈ news, p.1 ≠ e ∧ p.1 ≠ t) → Q (.ref e) { s with heap := h', toks := tk' }
set_option maxRecDepth 100000 in
set_option maxHeartbeats 2000000 in
theorem pe_c (w : World) (mean : ExcName → Option Value) (mg mb : Str → Option Value) (x y : Str) (tx ty : Tok) :
  Con w mean mg mb 64 [.str x tx, .str y ty] 4 20 RetX := by
  unfold Con RetX
  k_fill
  intros
  rename_i hret
  refine exc_make (by k_asm) (by k_asm) (by k_asm) (pe_is w.params) (by k_is) (fun e t0 h' F' N' hne => ?_) (by size_fits)
  (refine' ks_code_super ?k1 ?k2 ?k3 ?k4 ?k5 ?kA ?kF ?kK ?k6 ?k7 ?k8 ?k9 ?kB ?_ ?c1 ?c2 ?c3 ?c4; (case kA => exact rfl); (case kF => exact rfl); (case kK => assumption); (case k1 => k_asm); (case k2 => k_asm); (case k3 => k_asm); (case k4 => k_asm); (case k5 => k_asm); (case k6 => k_is); (case k7 => k_is); (case k8 => ktr_room); (case k9 => exact BindsTo.of_eq rfl); (case kB => exact locs rfl); (case c1 => decide); (case c2 => exact rfl); (case c3 => exact rfl); (case c4 => exact rfl); intro g' L' h' FG' F' N' B' X' T' l1; (try k_lt l1); (try dsimp only); (try k_lift B'); (try dsimp only [ksFn, fnX] at F'); (try k_fold))
  refine wpAt_of_wpAny ?_
  k_steps
  dsimp only
  refine callWith_W (by k_asm) (by k_mem) ?_
  k_steps
  · rename News _ _ _ _ => nX
    exact (nX _ (.tail _ (.head _))).1
  · refine wrap_led (by k_asm) (by k_asm) (by k_asm) (by k_mem) (by k_mem) (cd := _) (by k_is) (by k_is) ?_
    intro t' h'' F'' hN l1'
    have N'' := hN _ (fun p hp => .tail _ (.tail _ (.tail _ (.tail _ hp)))) hne
    have hte : e < t' := l1' _ (.tail _ (.tail _ (.tail _ (.head _))))
    clear hN
    k_steps
    exact hret _ _ _ _ _ (by k_asm) (by k_asm) (Nat.ne_of_lt hte) (fun p hp => ⟨hne p hp, Nat.ne_of_lt (l1' _ (.tail _ (.tail _ (.tail _ (.tail _ hp)))))⟩)

theorem hide_made {g : Heap} {L : Addr} {h' : Heap} {m : Str → Option Value} {news : List (Addr × Obj)} {C e t : Addr} {its : Array Value} (F : Fr g L h' m) (N : News g L h' ((t, { cls := .type "tuple", data := .seq its }) :: (e, excOb C t) :: news)) (_het : e ≠ t) (hne : ∀ p ∈ news, p.1 ≠ e ∧ p.1 ≠ t) :
    ∃ h, Heap.MadeExcOf h h' e (.ref C) its.toList ∧ Fr g L h m ∧ News g L h news := by
  have Nt := N _ (.head _)
  have Ne := N _ (.tail _ (.head _))
  refine ⟨hideAll h' [e, t], ⟨fun b o q => of_hideAll _ q, hideAll_none _ (.head _), t, Ne.1, hideAll_none _ (.tail _ (.head _)), Nt.1⟩, ?_, fun p hp => ?_⟩
  · obtain ⟨oL, es, ep, hL, r⟩ := F.ns
    have hmem : ∀ b o, g.get? b = some o → b ∉ [e, t] := fun b o q hb => by
      rcases List.mem_cons.mp hb with rfl | hb
      · rw [Ne.2.2] at q; cases q
      rcases List.mem_cons.mp hb with rfl | hb
      · rw [Nt.2.2] at q; cases q
      · cases hb
    refine ⟨⟨oL, es, ep, hideAll_get _ hL fun hb => ?_, r⟩, fun b o q => hideAll_get _ (F.keep b o q) (hmem b o q), F.above⟩
    rcases List.mem_cons.mp hb with rfl | hb
    · exact Ne.2.1 rfl
    rcases List.mem_cons.mp hb with rfl | hb
    · exact Nt.2.1 rfl
    · cases hb
  · have hN := N p (.tail _ (.tail _ hp))
    refine ⟨hideAll_get _ hN.1 fun hb => ?_, hN.2⟩
    rcases List.mem_cons.mp hb with z | hb
    · exact (hne p hp).1 z
    rcases List.mem_cons.mp hb with z | hb
    · exact (hne p hp).2 z
    · cases hb

theorem Raise_val {prog : Program} {w : World} {A : Around} {E : Value → Shared → Prop} {s : Shared} {env : Env} {K : Frag} {C f : Addr} {fn : Expr} {args : List Expr} {cpos pos : Pos} {Q : Flow → Shared → Prop} {h₀ : Heap}
    (X₀ : K.In h₀) (q : excInitIn K C f = true) (hh : A.handled = none)
    (h : wpAny (model prog w) A (eval (.Call fn args [] cpos) env) (fun v s₁ => ∃ e t, v = .ref e ∧ (∀ b o, h₀.get? b = some o → s₁.heap.get? b = some o) ∧ s₁.heap.get? e = some (excOb C t) ∧ E (.ref e) s₁) E s) :
    wpAny (model prog w) A (exec (.Raise (some (.Call fn args [] cpos)) none pos) env) Q E s := by
  obtain ⟨Na, nm, qn, bs, hd, sn, sub, ab, col, dd, k0, k1, k2, k3, k5, mN, e1, e2, e3⟩ := excInit_of X₀ q
  rw [arm_exec_Raise]
  simp only [evalOpt, Option.map]
  refine wpAny_bind (wpAny_standAt (wpAny_raiseStmt_made_sub (C := C) (nm := nm) (q := qn) (N := Na) (bs := bs) (bm := [.type "ValueError", .type "Exception", .type "BaseException", .type "object"]) (hdct := hd) (sn := sn) (sub := sub) (ab := ab) (col := col) (dd := dd) (k0 := k0) (k1 := k1) (k2 := k2) (k3 := k3) (k5 := k5) (newId := "ValueError.__new__") rfl hh ?_))
  refine wpAny_bind (wpAny_mono h (fun v s₁ h₁ => wpAny_bind (wpAny_standAt (wpAny_pure ?_))) fun _ _ x => x)
  obtain ⟨e, t, rfl, hk, he, hE⟩ := h₁
  exact ⟨e, t, rfl, hk _ _ e1, he, hE⟩

/-- the same as ConP, its frames told -/
def ConE (w : World) (mean : ExcName → Option Value) (mg mb : Str → Option Value) (f : Addr) (vs : List Value) (dd du : Nat) (Pre : List (Addr × Obj) → Prop)
    (Ret : List Env → Heap → Heap → Addr → (Str → Option Value) → List (Addr × Obj) → Shared → (Value → Shared → Prop) → (Value → Shared → Prop) → Prop) : Prop :=
  ∀ (dp un : Nat) (gd : Option (List Code)) (cn : Str) (cs : Scope) (a : Addr) (ccd : Value) (cl : List (Str × Addr)) (outer : List Env) (A₀ : Around) (base h₀ : Heap) (L : Addr) (m : Str → Option Value) (news : List (Addr × Obj)) (s : Shared)
    (Q E : Value → Shared → Prop),
    Below A₀ base outer h₀ → Fr h₀ L s.heap m → (Mine.hd.heap_39 w.params).In h₀ → News h₀ L s.heap news → Top Mine.hd.view_39 LS mean mg mb h₀ → cs.kind = .function → dp + dd < recursionLimit → un + du < cLine → Pre news →
    Ret (envX cn cs L a ccd cl :: outer) base h₀ L m news s Q E →
    wpAny (model PySem.Challenge.rw_ez0285_01.row.prog w) (ktrTop dp un gd cn cs L a ccd cl outer) (call (.ref f) vs) Q E s
/-- ParseError goes out -/
def RetNo (envs : List Env) (base h₀ : Heap) (L : Addr) (m : Str → Option Value) (news : List (Addr × Obj)) (s : Shared) (_Q E : Value → Shared → Prop) : Prop :=
  ∀ (e t : Addr) (vs : List Value) (g h' : Heap) (tk' : Nat), Fr h₀ L g m → g.UpToSlots h' → RaisedS base g envs e (.ref 64) t vs news h' → E (.ref e) { s with heap := h', toks := tk' }
theorem raised_sub {base G : Heap} {l : List Env} {e : Addr} {cls : Value} {t : Addr} {vs : List Value} {news l' : List (Addr × Obj)} {h : Heap} (R : RaisedS base G l e cls t vs news h) (hs : ∀ p ∈ l', p ∈ news) : RaisedS base G l e cls t vs l' h := by
  obtain ⟨⟨B, hB, hG, hl, r⟩, ht⟩ := R
  exact ⟨⟨B, hB, hG, fun q hq => hl q (hs q hq), r⟩, ht⟩
/-- a call that stands in the law itself -/
def ConT (w : World) (mean : ExcName → Option Value) (mg mb : Str → Option Value) (f : Addr) (vs : List Value) (dd du : Nat) (Pre : List (Addr × Obj) → Prop)
    (Ret : Heap → Heap → Addr → (Str → Option Value) → List (Addr × Obj) → Shared → (Value → Shared → Prop) → (Value → Shared → Prop) → Prop) : Prop :=
  ∀ (dp un : Nat) (gd : Option (List Code)) (cn : Str) (cs : Scope) (a : Addr) (ccd : Value) (A₀ : Around) (h₀ : Heap) (L : Addr) (m : Str → Option Value) (news : List (Addr × Obj)) (s : Shared)
    (Q E : Value → Shared → Prop),
    Below A₀ h₀ [] h₀ → Fr h₀ L s.heap m → (Mine.hd.heap_39 w.params).In h₀ → News h₀ L s.heap news → Top Mine.hd.view_39 LS mean mg mb h₀ → cs.kind = .function → dp + dd < recursionLimit → un + du < cLine → Pre news →
    Ret h₀ h₀ L m news s Q E →
    wpAny (model PySem.Challenge.rw_ez0285_01.row.prog w) (ktrTop dp un gd cn cs L a ccd [] []) (call (.ref f) vs) Q E s
end Mine
end

/- text C11 -/

namespace Mine
theorem off_C11 : True := by
  w_top off
  exact trivial
end Mine
section
open PySem PySem.W PyProof.Rows PySem.Spec PySem.Calls
set_option linter.all false
namespace Mine
local macro_rules | `(tactic| k_room) => `(tactic| ktr_room)
local macro_rules | `(tactic| k_units) => `(tactic| ktr_units)
local macro_rules | `(tactic| walk_at "getAttr ref") => `(tactic| (k_here; k_dflt (refine' Mine.own_hook ?k1 ?k2 ?k3 ?k4 ?k6 ?k7 ?k8 ?k9 ?k10 ?_; (case k3 => k_inst); (case k1 => k_asm); (case k2 => k_asm); (case k4 => k_is); (case k6 => k_is); (case k7 => k_is); (case k8 => k_is); (case k9 => k_get); (case k10 => k_handed); k_whole)))
local macro_rules | `(tactic| walk_at "getMethod ref") => `(tactic| (k_here; k_dflt (refine' Mine.meth_hook ?k1 ?k2 ?k3 ?k4 ?k5 ?k6 ?k7 ?k8 ?k9 ?k10 ?k11 ?k12 ?k13 ?_; (case k4 => k_inst); (case k1 => k_asm); (case k2 => k_asm); (case k3 => k_asm); (case k5 => k_is); (case k6 => k_is); (case k7 => k_is); (case k8 => k_is); (case k9 => k_is); (case k10 => k_is); (case k11 => k_is); (case k12 => decide +kernel); (case k13 => k_get); k_whole); intro q' h' F' N' l1; (try k_lt l1); (try k_sweep)))
local macro_rules | `(tactic| k_mem) => `(tactic| ((show (_ : PySem.Addr × PySem.Obj) ∈ (_ : List (PySem.Addr × PySem.Obj))); ktr_member))
local macro_rules | `(tactic| walk_at "call builtin:str.join") => `(tactic| (k_here; (with_reducible show wpAny _ _ (call (Value.builtin "str.join") [Value.str _ _, Value.ref _]) _ _ _); k_dflt (refine' Mine.join_led ?k1 ?k2 ?k3 ?_; (case k1 => k_asm); (case k2 => k_mem); (case k3 => assumption)); intro _ _))
local macro_rules | `(tactic| walk_at "call type:map") => `(tactic| (k_here; k_dflt (refine' Mine.map_K ?k1 ?k2 ?k3 ?_; (case k1 => k_asm); (case k2 => k_asm); (case k3 => assumption); k_whole); intro _ h' hMK F' N'))
local macro_rules | `(tactic| walk_at "call builtin:_functools.reduce") => `(tactic| (k_here; k_dflt (refine' Mine.reduce_K ?k1 ?k2 ?_; (case k1 => k_asm); (case k2 => exact rfl); k_whole); intro h' _ _ F' N'))
local macro_rules | `(tactic| walk_at "binaryOp Mod str int") => `(tactic| (k_here; (with_reducible show wpAny _ _ (binaryOp Operator.Mod (Value.str _ _) (Value.int (Mine.xorFrom _ _) _)) _ _ _); k_dflt (refine' Mine.pct_hex ?k1 ?k2 ?_; (case k1 => exact (Mine.xor_small (by assumption)).1); (case k2 => exact (Mine.xor_small (by assumption)).2)); intro hHX _ _))
local macro_rules | `(tactic| walk_at "inplaceOp Add str str") => `(tactic| (k_here; (refine PyProof.Rows.SBL.iadd (hsz := ?hsz) ?_); (case hsz => (simp only [PySem.Str.length_append, Mine.lit_len, PySem.sizeLine_eq]; omega)); intro _ _ _))
local macro_rules | `(tactic| walk_at "binaryOp Add str str") => `(tactic| (k_here; (refine PyProof.Rows.SBL.add (hsz := ?hsz) ?_); (case hsz => (simp only [PySem.Str.length_append, Mine.lit_len, PySem.sizeLine_eq]; omega)); intro _ _ _))
local macro_rules | `(tactic| walk_at "call builtin:isinstance") => `(tactic| (k_here; (with_reducible show wpAny _ _ (call _ [Value.ref _, Value.ref _]) _ _ _); k_dflt (refine' Mine.isn_hook ?k1 ?k2 ?k3 ?k4 ?k5 ?k6 ?k7 ?k8 ?k9 ?k10 ?_; (case k1 => k_in); (case k2 => k_inst); (case k3 => kin_no); (case k4 => k_is); (case k5 => k_is); (case k6 => k_is); (case k7 => k_is); (case k8 => k_is); (case k9 => k_is); (case k10 => k_is); k_whole); (try dsimp only)))
local macro_rules | `(tactic| walk_at "truthy ref") => `(tactic| (k_here; k_dflt (refine' Mine.truthy_cls ?k1 ?k2 ?k3 ?k4 ?_; (case k1 => k_asm); (case k2 => k_asm); (case k3 => k_is); (case k4 => k_is); k_whole)))
local macro_rules | `(tactic| walk_at "call type:list") => `(tactic| (k_here; (with_reducible show wpAny _ _ (call (Value.type "list") [Value.ref _]) _ _ _); k_dflt (refine' list_copyK ?k1 ?k2 ?k3 ?_ ?z; (case k1 => k_asm); (case k2 => k_asm); (case k3 => exact News.isList (by k_asm) (by k_mem)); (case z => (simp only [List.size_toArray, strValues, List.length_map, PySem.sizeLine_eq]; omega)); k_whole); intro D' c' h' F' N' l1; (try k_lt l1); (try k_sweep)))
local macro_rules | `(tactic| walk_at "eval Name") => `(tactic| (k_here; k_dflt (refine' ld ?k1 ?k2 ?_; (case k1 => k_asm); (case k2 => exact rfl); k_whole)))

local macro_rules | `(tactic| walk_at "call ref") => `(tactic| (k_here; (with_reducible show wpAny _ _ (call (Value.ref 98) _) _ _ _); (try dsimp only [List.nil_append, List.cons_append]); (with_reducible show wpAny _ _ (call (Value.ref 98) [Value.str _ _, Value.int _ _]) _ _ _); k_dflt (refine' Mine.wordlike_c _ _ _ _ _ _ _ _ ?hx _ _ _ _ _ _ _ _ _ _ _ _ _ _ _ _ _ _ ?k1 ?k2 ?k3 ?k4 ?k5 ?k6 ?k7 ?k8 ?_; (case k1 => k_asm); (case k2 => k_asm); (case k3 => k_asm); (case k4 => k_asm); (case k5 => k_asm); (case k6 => first | exact rfl | assumption); (case k7 => ktr_room); (case k8 => ktr_units); (case hx => first | assumption | omega); k_whole; intro _ h' _ F' N'; (try with_reducible dsimp only))))
local macro_rules | `(tactic| walk_at "call ref") => `(tactic| (k_here; (with_reducible show wpAny _ _ (call (Value.ref 113) _) _ _ _); (try dsimp only [List.nil_append, List.cons_append]); (with_reducible show wpAny _ _ (call (Value.ref 113) [Value.str _ _]) _ _ _); k_dflt (refine' Mine.checksum_c _ _ _ _ _ _ ?hx ?ha _ _ _ _ _ _ _ _ _ _ _ _ _ _ _ _ _ _ ?k1 ?k2 ?k3 ?k4 ?k5 ?k6 ?k7 ?k8 ?_; (case k1 => k_asm); (case k2 => k_asm); (case k3 => k_asm); (case k4 => k_asm); (case k5 => k_asm); (case k6 => first | exact rfl | assumption); (case k7 => ktr_room); (case k8 => ktr_units); (case hx => first | assumption | omega); (case ha => assumption); k_whole; intro _ h' _ F' N'; (try with_reducible dsimp only))))
local macro_rules | `(tactic| walk_at "call ref") => `(tactic| (k_here; (with_reducible show wpAny _ _ (call (Value.ref 64) _) _ _ _); (try dsimp only [List.nil_append, List.cons_append]); (with_reducible show wpAny _ _ (call (Value.ref 64) [Value.str _ _, Value.str _ _]) _ _ _); k_dflt (refine' Mine.pe_c _ _ _ _ _ _ _ _ _ _ _ _ _ _ _ _ _ _ _ _ _ _ _ _ _ _ ?k1 ?k2 ?k3 ?k4 ?k5 ?k6 ?k7 ?k8 ?_; (case k1 => k_asm); (case k2 => k_asm); (case k3 => k_asm); (case k4 => k_asm); (case k5 => k_asm); (case k6 => first | exact rfl | assumption); (case k7 => ktr_room); (case k8 => ktr_units); k_whole; intro e' t' _ h' _ F' N' hne' hno'; (try with_reducible dsimp only))))
local macro_rules | `(tactic| walk_at "ite") => `(tactic| (k_here; first
  | (with_reducible refine ite_pos ?hc ?_; (case hc => with_reducible (first | (apply TalkF.p3; assumption) | (apply TalkF.p5; assumption) | (apply TalkF.p6; assumption) | (apply TalkF.q1; assumption) | (apply QuesF.p3; assumption) | (apply QuesF.p4; assumption) | (apply QuesF.p5; assumption) | (apply QuesF.q2; assumption) | (apply QuesF.q3; assumption) | (apply QuesOk.r2; assumption) | (apply QuesNo.r1; assumption) | (apply MakerF.q3; assumption) | (apply MakerF.p2; assumption) | (apply MakerF.p3; assumption) | (apply SumF.s1; assumption) | (apply SumF.s2; assumption) | (apply SumF.s3n; assumption) | (apply SumF.s4n; assumption) | (apply SumF.s5; assumption))))
  | (with_reducible refine ite_isFalse ?hc ?_; (case hc => with_reducible (first | (apply TalkF.p2; assumption) | (apply TalkF.p4; assumption) | (apply QuesF.p2; assumption) | (apply QuesF.q1; assumption) | (apply QuesF.q4; assumption) | (apply QuesOk.r1; assumption) | (apply QuesNo.r2; assumption) | (apply MakerF.q1; assumption) | (apply MakerF.q2; assumption) | (apply SumF.s3; assumption) | (apply SumF.s4; assumption) | (apply SumF.s7; assumption) | (apply NoSumF.s1; assumption) | (apply NoSumF.s5; assumption))))))
local macro_rules | `(tactic| walk_at "getMethod ref") => `(tactic| (k_here; (with_reducible show wpAny _ _ (getMethod (Value.ref _) (Str.ofString "get") _) _ _ _); k_dflt (refine' kdg_method (knd := PySem.strKind _ _) ?k1 ?k2 ?k3 ?_; (case k1 => k_asm); (case k2 => k_mem); (case k3 => k_asm); k_whole)))
local macro_rules | `(tactic| walk_at "call builtin:dict.get") => `(tactic| (k_here; (with_reducible show wpAny _ _ (call (Value.builtin _) [Value.ref _, Value.str _ _]) _ _ _); k_dflt (refine' kdg_get1 (knd := PySem.strKind _ _) ?k1 ?k2 ?k3 ?k4 (strKind_is _ _ _ _) (some _) ?k5 ?_; (case k1 => k_asm); (case k2 => k_mem); (case k3 => k_asm); (case k4 => k_asm); (case k5 => rw [TalkF.q3 (by assumption)]; rfl); k_whole); (try dsimp only [Option.getD])))
local macro_rules | `(tactic| walk_at "call builtin:dict.get") => `(tactic| (k_here; (with_reducible show wpAny _ _ (call (Value.builtin _) [Value.ref _, Value.str _ _, _]) _ _ _); k_dflt (refine' kdg_get2 (knd := PySem.strKind _ _) ?k1 ?k2 ?k3 ?k4 (strKind_is _ _ _ _) none ?k5 ?_; (case k1 => k_asm); (case k2 => k_mem); (case k3 => k_asm); (case k4 => k_asm); (case k5 => exact MakerF.q5 (by assumption) _ _ _); k_whole); (try dsimp only [Option.getD])))
local macro_rules | `(tactic| walk_at "call type:int") => `(tactic| (k_here; (with_reducible show wpAny _ _ (call (Value.type "int") [Value.str _ _, Value.int _ _]) _ _ _); k_dflt (refine' Mine.call_hex ?k1 ?k2 ?_; (case k1 => exact SumF.s6 (by assumption)); (case k2 => exact SumF.sn (by assumption)); k_whole); (try dsimp only)))
local macro_rules | `(tactic| walk_at "execs cons") => `(tactic| (k_here; (with_reducible show wpAny _ _ (execs (Stmt.If (Expr.BoolOp BoolOp.And (Expr.Compare (Expr.Subscript (Expr.Name (Str.ofString "nmea_str") _) _ _) [CmpOp.In] _ _ :: _) _) _ _ _ :: _) _) _ _ _); refine Mine.Stop.mk ?_))
local macro_rules | `(tactic| walk_at "execs cons") => `(tactic| (k_here; (with_reducible show wpAny _ _ (execs (Stmt.If (Expr.BoolOp BoolOp.Or _ _) _ _ _ :: _) _) _ _ _); refine Mine.Stop.mk ?_))
local macro_rules | `(tactic| walk_at "execs cons") => `(tactic| (k_here; (with_reducible show wpAny _ _ (execs (Stmt.Assign [Expr.Tuple (Expr.Name (Str.ofString "sentence_type") _ :: _) _ _] _ _ :: _) _) _ _ _); refine Mine.Stop.mk ?_))
local macro_rules | `(tactic| walk_at "execs cons") => `(tactic| (k_here; (with_reducible show wpAny _ _ (execs (Stmt.If (Expr.Name (Str.ofString "checksum") _) _ _ _ :: _) _) _ _ _); refine Mine.Stop.mk ?_))
local macro_rules | `(tactic| walk_at "execs cons") => `(tactic| (k_here; (with_reducible show wpAny _ _ (execs (Stmt.If (Expr.Compare (Expr.Subscript (Expr.Name (Str.ofString "sentence_type") _) _ _) [CmpOp.Eq] _ _) _ _ _ :: _) _) _ _ _); refine Mine.Stop.mk ?_))
local macro_rules | `(tactic| walk_at "execs cons") => `(tactic| (k_here; (with_reducible show wpAny _ _ (execs (Stmt.If (Expr.Compare (Expr.Subscript (Expr.Name (Str.ofString "nmea_str") _) _ _) [CmpOp.Eq] _ _) _ _ _ :: _) _) _ _ _); refine Mine.Stop.mk ?_))

local macro_rules | `(tactic| walk_at "call ref") => `(tactic| (k_here; (with_reducible show wpAny _ _ (call (Value.ref 64) _) _ _ _); refine Stop.mk ?_))
local macro_rules | `(tactic| walk_at "binaryOp Mod str str") => `(tactic| (k_here; k_dflt (refine' Mine.pct_r ?k1 ?k2 ?_; (case k1 => omega); (case k2 => exact QuesNo.asc (by assumption)); k_whole); intro T' _ _))
local macro_rules | `(tactic| walk_at "exec Raise some none") => `(tactic| (k_here; k_dflt (refine' Mine.Raise_val ?k1 (Mine.pe_is _) ?k3 ?_; (case k1 => k_asm); (case k3 => first | rfl | assumption); k_whole)))
set_option maxRecDepth 100000 in
set_option maxHeartbeats 8000000 in
theorem parse_no_c (w : World) (mean : ExcName → Option Value) (mg mb : Str → Option Value) (x y : Str) (tx : Tok) (kd : Addr) (hF : HeadF x y) (hK : KindF y 9 none) (hS : NoSumF x) :
  ConE w mean mg mb 124 [.str x tx, .ref kd] 10 40 (fun news => KindsAt w news kd) RetNo := by
  unfold ConE RetNo
  k_fill
  intros
  rename_i hkd hret
  obtain ⟨ok, t1, t2, t3, hk1, hk2, hk3⟩ := hkd
  have hxl := hF.xl
  have hyl := hF.yl
  have hya := hF.asc
  (refine wpAny_call ?_; k_dflt (refine' code_def ?k1 ?k2 ?k3 ?k4 ?k5 ?kA ?kF ?kK ?k6 ?k7 ?k8 ?k9 ?kB ?_ ?c2 ?c3 ?c4 ?c5; (case kA => exact rfl); (case kF => exact rfl); (case kK => assumption); (case k1 => k_asm); (case k2 => k_asm); (case k3 => k_asm); (case k4 => k_asm); (case k5 => k_asm); (case k6 => k_is); (case k7 => k_is); (case k8 => ktr_room); (case k9 => first | exact BindsTo.of_eq rfl | exact binds_K (by k_in) rfl (by k_is) rfl rfl rfl); (case c5 => decide); (case kB => exact locs rfl); (case c2 => exact rfl); (case c3 => exact rfl); (case c4 => exact rfl); k_whole; intro g' L' h' FG' F' N' B' X' T'; (try dsimp only); (try k_lift B'); (try k_fold)))
  k_steps
  refine Stop.out ?_
  refine seq_cut (by k_asm) (by k_asm) (Str.ofString "nmea_str") (fun v => ∃ t, v = .str y t) ?_ ?_
  · clear hret hK hS
    k_steps
    all_goals (first | refine cut_end ?_ (by k_asm) (by k_asm) (fun _ hp => hp) | refine cut_same ?_ (by k_asm) (by k_asm) (fun _ hp => hp) rfl)
    all_goals (exact str_some (by rw [hF.yy]; simp only [*, if_true, if_false, Bool.false_eq_true]))
  rintro v h' k ⟨t, rfl⟩ F' N'
  dsimp only
  obtain ⟨_, tk, ot, st, hT, hO⟩ := hK
  k_steps
  refine Stop.out ?_
  refine wpAny_execs_cons ?_
  k_steps
  refine Stop.out ?_
  refine wpAny_execs_cons ?_
  k_steps
  refine Stop.out ?_
  refine wpAny_execs_cons ?_
  k_steps
  refine Stop.out ?_
  have hsp := split_small (by assumption) (by omega)
  refine wpAny_execs_cons ?_
  k_steps
  refine Stop.out ?_
  refine wpAny_execs_cons ?_
  k_steps
  refine Stop.out ?_
  refine' Mine.pe_c _ _ _ _ _ _ _ _ _ _ _ _ _ _ _ _ _ _ _ _ _ _ _ _ _ _ ?k1 ?k2 ?k3 ?k4 ?k5 ?k6 ?k7 ?k8 ?_
  case k1 => k_asm
  case k2 => k_asm
  case k3 => k_asm
  case k4 => k_asm
  case k5 => k_asm
  case k6 => first | exact rfl | assumption
  case k7 => ktr_room
  case k8 => ktr_units
  intro e' t' its h' tk'' F' N' hne' hno'
  have Ne := N' _ (.tail _ (.head _))
  refine ⟨e', t', rfl, F'.keep, Ne.1, ?_⟩
  obtain ⟨hx, hm, Fx, Nx⟩ := hide_made F' N' hne' hno'
  refine leave_raiseS (by k_asm) hm Fx Nx ?_
  intro h' t' R' _ U'
  exact hret _ _ _ _ _ _ (by k_asm) U' (raised_sub R' fun _ hp => by repeat (first | exact hp | apply List.Mem.tail))
end Mine
end

/- text C8 -/

namespace Mine
theorem off_C8 : True := by
  w_top off
  exact trivial
end Mine
section
open PySem PySem.W PyProof.Rows PySem.Spec PySem.Calls
set_option linter.all false
namespace Mine
local macro_rules | `(tactic| k_room) => `(tactic| ktr_room)
local macro_rules | `(tactic| k_units) => `(tactic| ktr_units)
local macro_rules | `(tactic| walk_at "getAttr ref") => `(tactic| (k_here; k_dflt (refine' Mine.own_hook ?k1 ?k2 ?k3 ?k4 ?k6 ?k7 ?k8 ?k9 ?k10 ?_; (case k3 => k_inst); (case k1 => k_asm); (case k2 => k_asm); (case k4 => k_is); (case k6 => k_is); (case k7 => k_is); (case k8 => k_is); (case k9 => k_get); (case k10 => k_handed); k_whole)))
local macro_rules | `(tactic| walk_at "getMethod ref") => `(tactic| (k_here; k_dflt (refine' Mine.meth_hook ?k1 ?k2 ?k3 ?k4 ?k5 ?k6 ?k7 ?k8 ?k9 ?k10 ?k11 ?k12 ?k13 ?_; (case k4 => k_inst); (case k1 => k_asm); (case k2 => k_asm); (case k3 => k_asm); (case k5 => k_is); (case k6 => k_is); (case k7 => k_is); (case k8 => k_is); (case k9 => k_is); (case k10 => k_is); (case k11 => k_is); (case k12 => decide +kernel); (case k13 => k_get); k_whole); intro q' h' F' N' l1; (try k_lt l1); (try k_sweep)))
local macro_rules | `(tactic| k_mem) => `(tactic| ((show (_ : PySem.Addr × PySem.Obj) ∈ (_ : List (PySem.Addr × PySem.Obj))); ktr_member))
local macro_rules | `(tactic| walk_at "call builtin:str.join") => `(tactic| (k_here; (with_reducible show wpAny _ _ (call (Value.builtin "str.join") [Value.str _ _, Value.ref _]) _ _ _); k_dflt (refine' Mine.join_led ?k1 ?k2 ?k3 ?_; (case k1 => k_asm); (case k2 => k_mem); (case k3 => assumption)); intro _ _))
local macro_rules | `(tactic| walk_at "call type:map") => `(tactic| (k_here; k_dflt (refine' Mine.map_K ?k1 ?k2 ?k3 ?_; (case k1 => k_asm); (case k2 => k_asm); (case k3 => assumption); k_whole); intro _ h' hMK F' N'))
local macro_rules | `(tactic| walk_at "call builtin:_functools.reduce") => `(tactic| (k_here; k_dflt (refine' Mine.reduce_K ?k1 ?k2 ?_; (case k1 => k_asm); (case k2 => exact rfl); k_whole); intro h' _ _ F' N'))
local macro_rules | `(tactic| walk_at "binaryOp Mod str int") => `(tactic| (k_here; (with_reducible show wpAny _ _ (binaryOp Operator.Mod (Value.str _ _) (Value.int (Mine.xorFrom _ _) _)) _ _ _); k_dflt (refine' Mine.pct_hex ?k1 ?k2 ?_; (case k1 => exact (Mine.xor_small (by assumption)).1); (case k2 => exact (Mine.xor_small (by assumption)).2)); intro hHX _ _))
local macro_rules | `(tactic| walk_at "inplaceOp Add str str") => `(tactic| (k_here; (refine PyProof.Rows.SBL.iadd (hsz := ?hsz) ?_); (case hsz => (simp only [PySem.Str.length_append, Mine.lit_len, PySem.sizeLine_eq]; omega)); intro _ _ _))
local macro_rules | `(tactic| walk_at "binaryOp Add str str") => `(tactic| (k_here; (refine PyProof.Rows.SBL.add (hsz := ?hsz) ?_); (case hsz => (simp only [PySem.Str.length_append, Mine.lit_len, PySem.sizeLine_eq]; omega)); intro _ _ _))
local macro_rules | `(tactic| walk_at "call builtin:isinstance") => `(tactic| (k_here; (with_reducible show wpAny _ _ (call _ [Value.ref _, Value.ref _]) _ _ _); k_dflt (refine' Mine.isn_hook ?k1 ?k2 ?k3 ?k4 ?k5 ?k6 ?k7 ?k8 ?k9 ?k10 ?_; (case k1 => k_in); (case k2 => k_inst); (case k3 => kin_no); (case k4 => k_is); (case k5 => k_is); (case k6 => k_is); (case k7 => k_is); (case k8 => k_is); (case k9 => k_is); (case k10 => k_is); k_whole); (try dsimp only)))
local macro_rules | `(tactic| walk_at "truthy ref") => `(tactic| (k_here; k_dflt (refine' Mine.truthy_cls ?k1 ?k2 ?k3 ?k4 ?_; (case k1 => k_asm); (case k2 => k_asm); (case k3 => k_is); (case k4 => k_is); k_whole)))
local macro_rules | `(tactic| walk_at "call type:list") => `(tactic| (k_here; (with_reducible show wpAny _ _ (call (Value.type "list") [Value.ref _]) _ _ _); k_dflt (refine' list_copyK ?k1 ?k2 ?k3 ?_ ?z; (case k1 => k_asm); (case k2 => k_asm); (case k3 => exact News.isList (by k_asm) (by k_mem)); (case z => (simp only [List.size_toArray, strValues, List.length_map, PySem.sizeLine_eq]; omega)); k_whole); intro D' c' h' F' N' l1; (try k_lt l1); (try k_sweep)))
local macro_rules | `(tactic| walk_at "eval Name") => `(tactic| (k_here; k_dflt (refine' ld ?k1 ?k2 ?_; (case k1 => k_asm); (case k2 => exact rfl); k_whole)))

set_option maxRecDepth 100000 in
set_option maxHeartbeats 2000000 in
theorem read_no_c (w : World) (mean : ExcName → Option Value) (mg mb : Str → Option Value) (x y : Str) (tx : Tok) (hF : HeadF x y) (hK : KindF y 9 none) (hS : NoSumF x) :
  ConT w mean mg mb 344 [.str x tx] 14 60 (fun _ => True) (RetV fun _ => .none) := by
  unfold ConT RetV
  k_fill
  intros
  rename_i hret
  have hxl := hF.xl
  refine wpAny_call ?_
  k_dflt (refine' code_defS0 ?k1 ?k2 ?k3 ?k4 ?k5 ?kA ?k6 ?k7 ?k8 ?k9 ?kB ?_ ?kK ?c2 ?c3 ?c4 ?c5; (case kA => exact rfl); (case kK => assumption); (case k1 => k_asm); (case k2 => k_asm); (case k3 => k_asm); (case k4 => k_asm); (case k5 => k_asm); (case k6 => k_is); (case k7 => k_is); (case k8 => ktr_room); (case k9 => first | exact BindsTo.of_eq rfl | exact binds_K (by k_in) rfl (by k_is) rfl rfl rfl); (case c5 => decide); (case kB => exact locs rfl); (case c2 => exact rfl); (case c3 => exact rfl); (case c4 => exact rfl); k_whole; intro g' L' h' FG' F' N' B' X' T' D'; (try dsimp only); (try k_lift B'); (try k_fold))
  (iterate 40 (first | (with_reducible show wpAny _ _ (call (Value.ref 124) _) _ _ _) | walk1 | (dsimp only; walk1)))
  refine' parse_no_c _ _ _ _ _ _ _ _ hF hK hS _ _ _ _ _ _ _ _ _ _ _ _ _ _ _ _ _ _ ?k1 ?k2 ?k3 ?k4 ?k5 ?k6 ?k7 ?k8 ?k9 ?_
  case k1 => k_asm
  case k2 => k_asm
  case k3 => k_asm
  case k4 => k_asm
  case k5 => k_asm
  case k6 => first | exact rfl | assumption
  case k7 => ktr_room
  case k8 => ktr_units
  case k9 => exact ⟨_, _, _, _, .head _, by assumption, by assumption⟩
  intro e t vs g h' tk' Fg U R
  dsimp only
  refine' caught_SO0 R Fg ?K U ?X ?T ?D KtsTurn.refl ?e ?q ?_
  case K => k_asm
  case X => k_asm
  case T => k_asm
  case D => assumption
  case e => k_is
  case q => kernel_rfl
  intro h'' g'' n2 T2 F2 N2 G2 N3 K2 X2 P2 D2
  k_steps
  rename News _ _ _ _ => nZ
  exact hret 0 _ _ (by k_asm) (fun p hp => nZ p (.tail _ hp))
end Mine
end

/- text C5 -/

namespace Mine
theorem off_C5 : True := by
  w_top off
  exact trivial
end Mine
section
open PySem PySem.W PyProof.Rows PySem.Spec PySem.Calls
set_option linter.all false
namespace Mine
local macro_rules | `(tactic| k_room) => `(tactic| ktr_room)
local macro_rules | `(tactic| k_units) => `(tactic| ktr_units)
local macro_rules | `(tactic| walk_at "getAttr ref") => `(tactic| (k_here; k_dflt (refine' Mine.own_hook ?k1 ?k2 ?k3 ?k4 ?k6 ?k7 ?k8 ?k9 ?k10 ?_; (case k3 => k_inst); (case k1 => k_asm); (case k2 => k_asm); (case k4 => k_is); (case k6 => k_is); (case k7 => k_is); (case k8 => k_is); (case k9 => k_get); (case k10 => k_handed); k_whole)))
local macro_rules | `(tactic| walk_at "getMethod ref") => `(tactic| (k_here; k_dflt (refine' Mine.meth_hook ?k1 ?k2 ?k3 ?k4 ?k5 ?k6 ?k7 ?k8 ?k9 ?k10 ?k11 ?k12 ?k13 ?_; (case k4 => k_inst); (case k1 => k_asm); (case k2 => k_asm); (case k3 => k_asm); (case k5 => k_is); (case k6 => k_is); (case k7 => k_is); (case k8 => k_is); (case k9 => k_is); (case k10 => k_is); (case k11 => k_is); (case k12 => decide +kernel); (case k13 => k_get); k_whole); intro q' h' F' N' l1; (try k_lt l1); (try k_sweep)))
local macro_rules | `(tactic| k_mem) => `(tactic| ((show (_ : PySem.Addr × PySem.Obj) ∈ (_ : List (PySem.Addr × PySem.Obj))); ktr_member))
local macro_rules | `(tactic| walk_at "call builtin:str.join") => `(tactic| (k_here; (with_reducible show wpAny _ _ (call (Value.builtin "str.join") [Value.str _ _, Value.ref _]) _ _ _); k_dflt (refine' Mine.join_led ?k1 ?k2 ?k3 ?_; (case k1 => k_asm); (case k2 => k_mem); (case k3 => assumption)); intro _ _))
local macro_rules | `(tactic| walk_at "call type:map") => `(tactic| (k_here; k_dflt (refine' Mine.map_K ?k1 ?k2 ?k3 ?_; (case k1 => k_asm); (case k2 => k_asm); (case k3 => assumption); k_whole); intro _ h' hMK F' N'))
local macro_rules | `(tactic| walk_at "call builtin:_functools.reduce") => `(tactic| (k_here; k_dflt (refine' Mine.reduce_K ?k1 ?k2 ?_; (case k1 => k_asm); (case k2 => exact rfl); k_whole); intro h' _ _ F' N'))
local macro_rules | `(tactic| walk_at "binaryOp Mod str int") => `(tactic| (k_here; (with_reducible show wpAny _ _ (binaryOp Operator.Mod (Value.str _ _) (Value.int (Mine.xorFrom _ _) _)) _ _ _); k_dflt (refine' Mine.pct_hex ?k1 ?k2 ?_; (case k1 => exact (Mine.xor_small (by assumption)).1); (case k2 => exact (Mine.xor_small (by assumption)).2)); intro hHX _ _))
local macro_rules | `(tactic| walk_at "inplaceOp Add str str") => `(tactic| (k_here; (refine PyProof.Rows.SBL.iadd (hsz := ?hsz) ?_); (case hsz => (simp only [PySem.Str.length_append, Mine.lit_len, PySem.sizeLine_eq]; omega)); intro _ _ _))
local macro_rules | `(tactic| walk_at "binaryOp Add str str") => `(tactic| (k_here; (refine PyProof.Rows.SBL.add (hsz := ?hsz) ?_); (case hsz => (simp only [PySem.Str.length_append, Mine.lit_len, PySem.sizeLine_eq]; omega)); intro _ _ _))
local macro_rules | `(tactic| walk_at "call builtin:isinstance") => `(tactic| (k_here; (with_reducible show wpAny _ _ (call _ [Value.ref _, Value.ref _]) _ _ _); k_dflt (refine' Mine.isn_hook ?k1 ?k2 ?k3 ?k4 ?k5 ?k6 ?k7 ?k8 ?k9 ?k10 ?_; (case k1 => k_in); (case k2 => k_inst); (case k3 => kin_no); (case k4 => k_is); (case k5 => k_is); (case k6 => k_is); (case k7 => k_is); (case k8 => k_is); (case k9 => k_is); (case k10 => k_is); k_whole); (try dsimp only)))
local macro_rules | `(tactic| walk_at "truthy ref") => `(tactic| (k_here; k_dflt (refine' Mine.truthy_cls ?k1 ?k2 ?k3 ?k4 ?_; (case k1 => k_asm); (case k2 => k_asm); (case k3 => k_is); (case k4 => k_is); k_whole)))
local macro_rules | `(tactic| walk_at "call type:list") => `(tactic| (k_here; (with_reducible show wpAny _ _ (call (Value.type "list") [Value.ref _]) _ _ _); k_dflt (refine' list_copyK ?k1 ?k2 ?k3 ?_ ?z; (case k1 => k_asm); (case k2 => k_asm); (case k3 => exact News.isList (by k_asm) (by k_mem)); (case z => (simp only [List.size_toArray, strValues, List.length_map, PySem.sizeLine_eq]; omega)); k_whole); intro D' c' h' F' N' l1; (try k_lt l1); (try k_sweep)))
local macro_rules | `(tactic| walk_at "eval Name") => `(tactic| (k_here; k_dflt (refine' ld ?k1 ?k2 ?_; (case k1 => k_asm); (case k2 => exact rfl); k_whole)))

local macro_rules | `(tactic| walk_at "call ref") => `(tactic| (k_here; (with_reducible show wpAny _ _ (call (Value.ref 98) _) _ _ _); (try dsimp only [List.nil_append, List.cons_append]); (with_reducible show wpAny _ _ (call (Value.ref 98) [Value.str _ _, Value.int _ _]) _ _ _); k_dflt (refine' Mine.wordlike_c _ _ _ _ _ _ _ _ ?hx _ _ _ _ _ _ _ _ _ _ _ _ _ _ _ _ _ _ ?k1 ?k2 ?k3 ?k4 ?k5 ?k6 ?k7 ?k8 ?_; (case k1 => k_asm); (case k2 => k_asm); (case k3 => k_asm); (case k4 => k_asm); (case k5 => k_asm); (case k6 => first | exact rfl | assumption); (case k7 => ktr_room); (case k8 => ktr_units); (case hx => first | assumption | omega); k_whole; intro _ h' _ F' N'; (try with_reducible dsimp only))))
local macro_rules | `(tactic| walk_at "call ref") => `(tactic| (k_here; (with_reducible show wpAny _ _ (call (Value.ref 113) _) _ _ _); (try dsimp only [List.nil_append, List.cons_append]); (with_reducible show wpAny _ _ (call (Value.ref 113) [Value.str _ _]) _ _ _); k_dflt (refine' Mine.checksum_c _ _ _ _ _ _ ?hx ?ha _ _ _ _ _ _ _ _ _ _ _ _ _ _ _ _ _ _ ?k1 ?k2 ?k3 ?k4 ?k5 ?k6 ?k7 ?k8 ?_; (case k1 => k_asm); (case k2 => k_asm); (case k3 => k_asm); (case k4 => k_asm); (case k5 => k_asm); (case k6 => first | exact rfl | assumption); (case k7 => ktr_room); (case k8 => ktr_units); (case hx => first | assumption | omega); (case ha => assumption); k_whole; intro _ h' _ F' N'; (try with_reducible dsimp only))))
local macro_rules | `(tactic| walk_at "ite") => `(tactic| (k_here; first
  | (with_reducible refine ite_pos ?hc ?_; (case hc => with_reducible (first | (apply TalkF.p3; assumption) | (apply TalkF.p5; assumption) | (apply TalkF.p6; assumption) | (apply TalkF.q1; assumption) | (apply QuesF.p3; assumption) | (apply QuesF.p4; assumption) | (apply QuesF.p5; assumption) | (apply QuesF.q2; assumption) | (apply QuesF.q3; assumption) | (apply QuesOk.r2; assumption) | (apply QuesNo.r1; assumption) | (apply MakerF.q3; assumption) | (apply MakerF.p2; assumption) | (apply MakerF.p3; assumption) | (apply SumF.s1; assumption) | (apply SumF.s2; assumption) | (apply SumF.s3n; assumption) | (apply SumF.s4n; assumption) | (apply SumF.s5; assumption))))
  | (with_reducible refine ite_isFalse ?hc ?_; (case hc => with_reducible (first | (apply TalkF.p2; assumption) | (apply TalkF.p4; assumption) | (apply QuesF.p2; assumption) | (apply QuesF.q1; assumption) | (apply QuesF.q4; assumption) | (apply QuesOk.r1; assumption) | (apply QuesNo.r2; assumption) | (apply MakerF.q1; assumption) | (apply MakerF.q2; assumption) | (apply SumF.s3; assumption) | (apply SumF.s4; assumption) | (apply SumF.s7; assumption) | (apply NoSumF.s1; assumption) | (apply NoSumF.s5; assumption))))))
local macro_rules | `(tactic| walk_at "getMethod ref") => `(tactic| (k_here; (with_reducible show wpAny _ _ (getMethod (Value.ref _) (Str.ofString "get") _) _ _ _); k_dflt (refine' kdg_method (knd := PySem.strKind _ _) ?k1 ?k2 ?k3 ?_; (case k1 => k_asm); (case k2 => k_mem); (case k3 => k_asm); k_whole)))
local macro_rules | `(tactic| walk_at "call builtin:dict.get") => `(tactic| (k_here; (with_reducible show wpAny _ _ (call (Value.builtin _) [Value.ref _, Value.str _ _]) _ _ _); k_dflt (refine' kdg_get1 (knd := PySem.strKind _ _) ?k1 ?k2 ?k3 ?k4 (strKind_is _ _ _ _) (some _) ?k5 ?_; (case k1 => k_asm); (case k2 => k_mem); (case k3 => k_asm); (case k4 => k_asm); (case k5 => rw [TalkF.q3 (by assumption)]; rfl); k_whole); (try dsimp only [Option.getD])))
local macro_rules | `(tactic| walk_at "call builtin:dict.get") => `(tactic| (k_here; (with_reducible show wpAny _ _ (call (Value.builtin _) [Value.ref _, Value.str _ _, _]) _ _ _); k_dflt (refine' kdg_get2 (knd := PySem.strKind _ _) ?k1 ?k2 ?k3 ?k4 (strKind_is _ _ _ _) none ?k5 ?_; (case k1 => k_asm); (case k2 => k_mem); (case k3 => k_asm); (case k4 => k_asm); (case k5 => exact MakerF.q5 (by assumption) _ _ _); k_whole); (try dsimp only [Option.getD])))
local macro_rules | `(tactic| walk_at "call type:int") => `(tactic| (k_here; (with_reducible show wpAny _ _ (call (Value.type "int") [Value.str _ _, Value.int _ _]) _ _ _); k_dflt (refine' Mine.call_hex ?k1 ?k2 ?_; (case k1 => exact SumF.s6 (by assumption)); (case k2 => exact SumF.sn (by assumption)); k_whole); (try dsimp only)))
local macro_rules | `(tactic| walk_at "execs cons") => `(tactic| (k_here; (with_reducible show wpAny _ _ (execs (Stmt.If (Expr.BoolOp BoolOp.And (Expr.Compare (Expr.Subscript (Expr.Name (Str.ofString "nmea_str") _) _ _) [CmpOp.In] _ _ :: _) _) _ _ _ :: _) _) _ _ _); refine Mine.Stop.mk ?_))
local macro_rules | `(tactic| walk_at "execs cons") => `(tactic| (k_here; (with_reducible show wpAny _ _ (execs (Stmt.If (Expr.BoolOp BoolOp.Or _ _) _ _ _ :: _) _) _ _ _); refine Mine.Stop.mk ?_))
local macro_rules | `(tactic| walk_at "execs cons") => `(tactic| (k_here; (with_reducible show wpAny _ _ (execs (Stmt.Assign [Expr.Tuple (Expr.Name (Str.ofString "sentence_type") _ :: _) _ _] _ _ :: _) _) _ _ _); refine Mine.Stop.mk ?_))
local macro_rules | `(tactic| walk_at "execs cons") => `(tactic| (k_here; (with_reducible show wpAny _ _ (execs (Stmt.If (Expr.Name (Str.ofString "checksum") _) _ _ _ :: _) _) _ _ _); refine Mine.Stop.mk ?_))
local macro_rules | `(tactic| walk_at "execs cons") => `(tactic| (k_here; (with_reducible show wpAny _ _ (execs (Stmt.If (Expr.Compare (Expr.Subscript (Expr.Name (Str.ofString "sentence_type") _) _ _) [CmpOp.Eq] _ _) _ _ _ :: _) _) _ _ _); refine Mine.Stop.mk ?_))
local macro_rules | `(tactic| walk_at "execs cons") => `(tactic| (k_here; (with_reducible show wpAny _ _ (execs (Stmt.If (Expr.Compare (Expr.Subscript (Expr.Name (Str.ofString "nmea_str") _) _ _) [CmpOp.Eq] _ _) _ _ _ :: _) _) _ _ _); refine Mine.Stop.mk ?_))

local macro_rules | `(tactic| walk_at "newList nil") => `(tactic| (k_here; k_dflt (refine' newList_K ?k1 ?k2 ?_ (Nat.zero_le _); (case k1 => k_asm); (case k2 => k_asm); k_whole); intro l' h' F' N' l1; (try k_lt l1); (try k_sweep)))
set_option maxRecDepth 100000 in
set_option maxHeartbeats 8000000 in
theorem parse_c (w : World) (mean : ExcName → Option Value) (mg mb : Str → Option Value) (x y : Str) (n : Int) (g : Msg) (tx : Tok) (kd : Addr) (hF : HeadF x y) (hK : KindF y n (some g)) (hS : StarF x y) :
  ConP w mean mg mb 124 [.str x tx, .ref kd] 10 40 (fun news => KindsAt w news kd) (fun base h₀ L m news s Q _ => RetM g base h₀ L m news s Q) := by
  unfold ConP
  k_fill
  intros
  rename_i hkd hret
  obtain ⟨ok, t1, t2, t3, hk1, hk2, hk3⟩ := hkd
  have hxl := hF.xl
  have hyl := hF.yl
  have hya := hF.asc
  (refine wpAny_call ?_; k_dflt (refine' code_def ?k1 ?k2 ?k3 ?k4 ?k5 ?kA ?kF ?kK ?k6 ?k7 ?k8 ?k9 ?kB ?_ ?c2 ?c3 ?c4 ?c5; (case kA => exact rfl); (case kF => exact rfl); (case kK => assumption); (case k1 => k_asm); (case k2 => k_asm); (case k3 => k_asm); (case k4 => k_asm); (case k5 => k_asm); (case k6 => k_is); (case k7 => k_is); (case k8 => ktr_room); (case k9 => first | exact BindsTo.of_eq rfl | exact binds_K (by k_in) rfl (by k_is) rfl rfl rfl); (case c5 => decide); (case kB => exact locs rfl); (case c2 => exact rfl); (case c3 => exact rfl); (case c4 => exact rfl); k_whole; intro g' L' h' FG' F' N' B' X' T'; (try dsimp only); (try k_lift B'); (try k_fold)))
  k_steps
  refine Stop.out ?_
  refine seq_cut (by k_asm) (by k_asm) (Str.ofString "nmea_str") (fun v => ∃ t, v = .str y t) ?_ ?_
  · clear hret hK hS
    k_steps
    all_goals (first | refine cut_end ?_ (by k_asm) (by k_asm) (fun _ hp => hp) | refine cut_same ?_ (by k_asm) (by k_asm) (fun _ hp => hp) rfl)
    all_goals (exact str_some (by rw [hF.yy]; simp only [*, if_true, if_false, Bool.false_eq_true]))
  rintro v h' k ⟨t, rfl⟩ F' N'
  dsimp only
  k_steps
  refine Stop.out ?_
  refine seq_cut (by k_asm) (by k_asm) (Str.ofString "size") (fun v => ∃ t, v = .int n t) ?_ ?_
  · clear hret hS
    rcases g with ⟨C, st, tk, ps⟩ | ⟨tk, ot, st⟩ | ⟨mk, ps⟩
    · obtain ⟨rfl, hC, hT⟩ := hK
      k_steps
      all_goals (refine cut_end ⟨_, rfl⟩ (by k_asm) (by k_asm) (fun _ hp => by repeat (first | exact hp | apply List.Mem.tail)))
    · obtain ⟨rfl, hT, hO⟩ := hK
      k_steps
      all_goals (refine cut_end ⟨_, rfl⟩ (by k_asm) (by k_asm) (fun _ hp => by repeat (first | exact hp | apply List.Mem.tail)))
    · obtain ⟨rfl, hT⟩ := hK
      k_steps
      all_goals (refine cut_end ⟨_, rfl⟩ (by k_asm) (by k_asm) (fun _ hp => by repeat (first | exact hp | apply List.Mem.tail)))
  rintro v h' k ⟨t, rfl⟩ F' N'
  dsimp only
  have hn0 : (n == 0) = false ∧ 0 ≤ n ∧ n ≤ 9 := by
    rcases g with ⟨C, st, tk, ps⟩ | ⟨tk, ot, st⟩ | ⟨mk, ps⟩
    all_goals (have e := hK.1; subst e; decide)
  obtain ⟨hn0, hn1, hn2⟩ := hn0
  k_steps
  refine Stop.out ?_
  refine seq_cut0 (by k_asm) (by k_asm) ?_ ?_
  · clear hret hK
    rcases hS with ⟨ns, hS⟩ | hS
    all_goals k_steps
    all_goals (refine cut0_end (by k_asm) (by k_asm) (fun _ hp => by repeat (first | exact hp | apply List.Mem.tail)))
  intro h' k F' N'
  dsimp only
  k_steps
  refine Stop.out ?_
  refine wpAny_execs_cons ?_
  k_steps
  refine Stop.out ?_
  have hsp := split_small (by assumption) (by omega)
  refine seq_cut2 (by k_asm) (by k_asm) (Str.ofString "cs1") (Str.ofString "cs2") ?_ ?_
  · clear hret hK
    rcases hS with ⟨ns, hS⟩ | hS
    · k_steps
      all_goals (refine cut2_end (by k_asm) (by k_asm) (fun _ hp => by repeat (first | exact hp | apply List.Mem.tail)))
    · k_steps
      all_goals (refine cut2_same (by k_asm) (by k_asm) (fun _ hp => by repeat (first | exact hp | apply List.Mem.tail)))
  intro va vb h' k F' N'
  dsimp only
  rcases g with ⟨C, st, tk, ps⟩ | ⟨tk, ot, st⟩ | ⟨mk, ps⟩
  · obtain ⟨rfl, hC, hT⟩ := hK
    rcases hC with ⟨rfl, rfl⟩ | ⟨rfl, rfl⟩ | ⟨rfl, rfl⟩
    · k_steps
      refine Stop.out ?_
      refine wpAny_execs_cons ?_
      k_steps
      (refine' hret _ _ _ _ _ _ _ _ (by k_asm) (led3 (by k_asm) (.head _) (.tail _ (.head _)) (.tail _ (.tail _ (.head _))) (fun _ hp => by repeat (first | exact hp | apply List.Mem.tail))) ?eA ?eB ?eC ?eM); (case eA => exact ktn_ltOf (by first | exact And.right (And.right (And.right (And.right (by assumption)))) | exact And.right (And.right (And.right (by assumption))) | exact And.right (And.right (And.right (And.right (And.right (by assumption))))) | exact And.right (And.right (by assumption)))); (case eB => with_reducible assumption); (case eC => with_reducible first | assumption | exact And.left (by assumption)); (case eM => exact (msg_talk (Or.inl ⟨rfl, rfl⟩) (.tail _ (.head _)) (.tail _ (.tail _ (.head _))) (.head _) hT.q2 hT.q3 (Eq.trans (by assumption) hT.q4)))
    · k_steps
      refine Stop.out ?_
      refine wpAny_execs_cons ?_
      k_steps
      (refine' hret _ _ _ _ _ _ _ _ (by k_asm) (led3 (by k_asm) (.head _) (.tail _ (.head _)) (.tail _ (.tail _ (.head _))) (fun _ hp => by repeat (first | exact hp | apply List.Mem.tail))) ?eA ?eB ?eC ?eM); (case eA => exact ktn_ltOf (by first | exact And.right (And.right (And.right (And.right (by assumption)))) | exact And.right (And.right (And.right (by assumption))) | exact And.right (And.right (And.right (And.right (And.right (by assumption))))) | exact And.right (And.right (by assumption)))); (case eB => with_reducible assumption); (case eC => with_reducible first | assumption | exact And.left (by assumption)); (case eM => exact (msg_talk (Or.inr (Or.inl ⟨rfl, rfl⟩)) (.tail _ (.head _)) (.tail _ (.tail _ (.head _))) (.head _) hT.q2 hT.q3 (Eq.trans (by assumption) hT.q4)))
    · k_steps
      refine Stop.out ?_
      refine wpAny_execs_cons ?_
      k_steps
      (refine' hret _ _ _ _ _ _ _ _ (by k_asm) (led3 (by k_asm) (.head _) (.tail _ (.head _)) (.tail _ (.tail _ (.head _))) (fun _ hp => by repeat (first | exact hp | apply List.Mem.tail))) ?eA ?eB ?eC ?eM); (case eA => exact ktn_ltOf (by first | exact And.right (And.right (And.right (And.right (by assumption)))) | exact And.right (And.right (And.right (by assumption))) | exact And.right (And.right (And.right (And.right (And.right (by assumption))))) | exact And.right (And.right (by assumption)))); (case eB => with_reducible assumption); (case eC => with_reducible first | assumption | exact And.left (by assumption)); (case eM => exact (msg_talk (Or.inr (Or.inr ⟨rfl, rfl⟩)) (.tail _ (.head _)) (.tail _ (.tail _ (.head _))) (.head _) hT.q2 hT.q3 (Eq.trans (by assumption) hT.q4)))
  · obtain ⟨rfl, hT, hO⟩ := hK
    k_steps
    refine Stop.out ?_
    refine wpAny_execs_cons ?_
    k_steps
    (refine' hret _ _ _ _ _ _ _ _ (by k_asm) (led3 (by k_asm) (.head _) (.tail _ (.head _)) (.tail _ (.tail _ (.head _))) (fun _ hp => by repeat (first | exact hp | apply List.Mem.tail))) ?eA ?eB ?eC ?eM); (case eA => exact ktn_ltOf (by first | exact And.right (And.right (And.right (And.right (by assumption)))) | exact And.right (And.right (And.right (by assumption))) | exact And.right (And.right (And.right (And.right (And.right (by assumption))))) | exact And.right (And.right (by assumption)))); (case eB => with_reducible assumption); (case eC => with_reducible first | assumption | exact And.left (by assumption)); (case eM => exact (msg_ques (.tail _ (.head _)) (.tail _ (.tail _ (.head _))) (.head _) hT.q5 hT.q6 hT.q7))
  · obtain ⟨rfl, hT⟩ := hK
    k_steps
    refine Stop.out ?_
    refine wpAny_execs_cons ?_
    k_steps
    (refine' hret _ _ _ _ _ _ _ _ (by k_asm) (led3 (by k_asm) (.head _) (.tail _ (.head _)) (.tail _ (.tail _ (.head _))) (fun _ hp => by repeat (first | exact hp | apply List.Mem.tail))) ?eA ?eB ?eC ?eM); (case eA => exact ktn_ltOf (by first | exact And.right (And.right (And.right (And.right (by assumption)))) | exact And.right (And.right (And.right (by assumption))) | exact And.right (And.right (And.right (And.right (And.right (by assumption))))) | exact And.right (And.right (by assumption)))); (case eB => with_reducible assumption); (case eC => with_reducible first | assumption | exact And.left (by assumption)); (case eM => exact (msg_prop (.tail _ (.head _)) (.tail _ (.tail _ (.head _))) (.head _) hT.q4 (Eq.trans (by assumption) hT.q6)))
end Mine
end

/- text C12 -/

namespace Mine
theorem off_C12 : True := by
  w_top off
  exact trivial
end Mine
section
open PySem PySem.W PyProof.Rows PySem.Spec PySem.Calls
set_option linter.all false
namespace Mine
local macro_rules | `(tactic| k_room) => `(tactic| ktr_room)
local macro_rules | `(tactic| k_units) => `(tactic| ktr_units)
local macro_rules | `(tactic| walk_at "getAttr ref") => `(tactic| (k_here; k_dflt (refine' Mine.own_hook ?k1 ?k2 ?k3 ?k4 ?k6 ?k7 ?k8 ?k9 ?k10 ?_; (case k3 => k_inst); (case k1 => k_asm); (case k2 => k_asm); (case k4 => k_is); (case k6 => k_is); (case k7 => k_is); (case k8 => k_is); (case k9 => k_get); (case k10 => k_handed); k_whole)))
local macro_rules | `(tactic| walk_at "getMethod ref") => `(tactic| (k_here; k_dflt (refine' Mine.meth_hook ?k1 ?k2 ?k3 ?k4 ?k5 ?k6 ?k7 ?k8 ?k9 ?k10 ?k11 ?k12 ?k13 ?_; (case k4 => k_inst); (case k1 => k_asm); (case k2 => k_asm); (case k3 => k_asm); (case k5 => k_is); (case k6 => k_is); (case k7 => k_is); (case k8 => k_is); (case k9 => k_is); (case k10 => k_is); (case k11 => k_is); (case k12 => decide +kernel); (case k13 => k_get); k_whole); intro q' h' F' N' l1; (try k_lt l1); (try k_sweep)))
local macro_rules | `(tactic| k_mem) => `(tactic| ((show (_ : PySem.Addr × PySem.Obj) ∈ (_ : List (PySem.Addr × PySem.Obj))); ktr_member))
local macro_rules | `(tactic| walk_at "call builtin:str.join") => `(tactic| (k_here; (with_reducible show wpAny _ _ (call (Value.builtin "str.join") [Value.str _ _, Value.ref _]) _ _ _); k_dflt (refine' Mine.join_led ?k1 ?k2 ?k3 ?_; (case k1 => k_asm); (case k2 => k_mem); (case k3 => assumption)); intro _ _))
local macro_rules | `(tactic| walk_at "call type:map") => `(tactic| (k_here; k_dflt (refine' Mine.map_K ?k1 ?k2 ?k3 ?_; (case k1 => k_asm); (case k2 => k_asm); (case k3 => assumption); k_whole); intro _ h' hMK F' N'))
local macro_rules | `(tactic| walk_at "call builtin:_functools.reduce") => `(tactic| (k_here; k_dflt (refine' Mine.reduce_K ?k1 ?k2 ?_; (case k1 => k_asm); (case k2 => exact rfl); k_whole); intro h' _ _ F' N'))
local macro_rules | `(tactic| walk_at "binaryOp Mod str int") => `(tactic| (k_here; (with_reducible show wpAny _ _ (binaryOp Operator.Mod (Value.str _ _) (Value.int (Mine.xorFrom _ _) _)) _ _ _); k_dflt (refine' Mine.pct_hex ?k1 ?k2 ?_; (case k1 => exact (Mine.xor_small (by assumption)).1); (case k2 => exact (Mine.xor_small (by assumption)).2)); intro hHX _ _))
local macro_rules | `(tactic| walk_at "inplaceOp Add str str") => `(tactic| (k_here; (refine PyProof.Rows.SBL.iadd (hsz := ?hsz) ?_); (case hsz => (simp only [PySem.Str.length_append, Mine.lit_len, PySem.sizeLine_eq]; omega)); intro _ _ _))
local macro_rules | `(tactic| walk_at "binaryOp Add str str") => `(tactic| (k_here; (refine PyProof.Rows.SBL.add (hsz := ?hsz) ?_); (case hsz => (simp only [PySem.Str.length_append, Mine.lit_len, PySem.sizeLine_eq]; omega)); intro _ _ _))
local macro_rules | `(tactic| walk_at "call builtin:isinstance") => `(tactic| (k_here; (with_reducible show wpAny _ _ (call _ [Value.ref _, Value.ref _]) _ _ _); k_dflt (refine' Mine.isn_hook ?k1 ?k2 ?k3 ?k4 ?k5 ?k6 ?k7 ?k8 ?k9 ?k10 ?_; (case k1 => k_in); (case k2 => k_inst); (case k3 => kin_no); (case k4 => k_is); (case k5 => k_is); (case k6 => k_is); (case k7 => k_is); (case k8 => k_is); (case k9 => k_is); (case k10 => k_is); k_whole); (try dsimp only)))
local macro_rules | `(tactic| walk_at "truthy ref") => `(tactic| (k_here; k_dflt (refine' Mine.truthy_cls ?k1 ?k2 ?k3 ?k4 ?_; (case k1 => k_asm); (case k2 => k_asm); (case k3 => k_is); (case k4 => k_is); k_whole)))
local macro_rules | `(tactic| walk_at "call type:list") => `(tactic| (k_here; (with_reducible show wpAny _ _ (call (Value.type "list") [Value.ref _]) _ _ _); k_dflt (refine' list_copyK ?k1 ?k2 ?k3 ?_ ?z; (case k1 => k_asm); (case k2 => k_asm); (case k3 => exact News.isList (by k_asm) (by k_mem)); (case z => (simp only [List.size_toArray, strValues, List.length_map, PySem.sizeLine_eq]; omega)); k_whole); intro D' c' h' F' N' l1; (try k_lt l1); (try k_sweep)))
local macro_rules | `(tactic| walk_at "eval Name") => `(tactic| (k_here; k_dflt (refine' ld ?k1 ?k2 ?_; (case k1 => k_asm); (case k2 => exact rfl); k_whole)))

set_option maxRecDepth 100000 in
set_option maxHeartbeats 2000000 in
theorem read_c (w : World) (mean : ExcName → Option Value) (mg mb : Str → Option Value) (x y : Str) (n : Int) (g : Msg) (tx : Tok) (hF : HeadF x y) (hK : KindF y n (some g)) (hS : StarF x y) :
  Con w mean mg mb 344 [.str x tx] 14 60 (fun base h₀ L m news s Q _ => ∀ (r dx l kd : Addr) (o1 o2 o3 o4 : Obj) (h' : Heap) (tk' : Nat), Fr h₀ L h' m → News h₀ L h' ((l, o1) :: (r, o2) :: (dx, o3) :: (kd, o4) :: news) → (∀ p ∈ news, p.1 < kd) → kd < dx → dx < r → r < l → MsgAt [(l, o1), (r, o2), (dx, o3)] r g → Q (.ref r) { s with heap := h', toks := tk' }) := by
  unfold Con
  k_fill
  intros
  rename_i hret
  have hxl := hF.xl
  (refine wpAny_call ?_; k_dflt (refine' code_def ?k1 ?k2 ?k3 ?k4 ?k5 ?kA ?kF ?kK ?k6 ?k7 ?k8 ?k9 ?kB ?_ ?c2 ?c3 ?c4 ?c5; (case kA => exact rfl); (case kF => exact rfl); (case kK => assumption); (case k1 => k_asm); (case k2 => k_asm); (case k3 => k_asm); (case k4 => k_asm); (case k5 => k_asm); (case k6 => k_is); (case k7 => k_is); (case k8 => ktr_room); (case k9 => first | exact BindsTo.of_eq rfl | exact binds_K (by k_in) rfl (by k_is) rfl rfl rfl); (case c5 => decide); (case kB => exact locs rfl); (case c2 => exact rfl); (case c3 => exact rfl); (case c4 => exact rfl); k_whole; intro g' L' h' FG' F' N' B' X' T'; (try dsimp only); (try k_lift B'); (try k_fold)))
  (iterate 40 (first | (with_reducible show wpAny _ _ (call (Value.ref 124) _) _ _ _) | walk1 | (dsimp only; walk1)))
  refine' parse_c _ _ _ _ _ _ _ _ _ _ hF hK hS _ _ _ _ _ _ _ _ _ _ _ _ _ _ _ _ _ _ ?k1 ?k2 ?k3 ?k4 ?k5 ?k6 ?k7 ?k8 ?k9 ?_
  case k1 => k_asm
  case k2 => k_asm
  case k3 => k_asm
  case k4 => k_asm
  case k5 => k_asm
  case k6 => first | exact rfl | assumption
  case k7 => ktr_room
  case k8 => ktr_units
  case k9 => exact ⟨_, _, _, _, .head _, by assumption, by assumption⟩
  rename (∀ (p : Addr × Obj), p ∈ _ → p.1 < _) => l0
  intro r dx l o1 o2 o3 h' tk' F' N' l1 l2 l3 hat
  dsimp only
  k_steps
  rename News _ _ _ _ => nZ
  exact hret r dx l _ o1 o2 o3 _ _ _ (by k_asm) nZ l0 (l1 _ (.head _)) l2 l3 hat
end Mine
end

/- text C13 -/

namespace Mine
theorem off_C13 : True := by
  w_top off
  exact trivial
end Mine
section
open PySem PySem.W PyProof.Rows PySem.Spec PySem.Calls
set_option linter.all false
namespace Mine
local macro_rules | `(tactic| k_room) => `(tactic| ktr_room)
local macro_rules | `(tactic| k_units) => `(tactic| ktr_units)
local macro_rules | `(tactic| walk_at "getAttr ref") => `(tactic| (k_here; k_dflt (refine' Mine.own_hook ?k1 ?k2 ?k3 ?k4 ?k6 ?k7 ?k8 ?k9 ?k10 ?_; (case k3 => k_inst); (case k1 => k_asm); (case k2 => k_asm); (case k4 => k_is); (case k6 => k_is); (case k7 => k_is); (case k8 => k_is); (case k9 => k_get); (case k10 => k_handed); k_whole)))
local macro_rules | `(tactic| walk_at "getMethod ref") => `(tactic| (k_here; k_dflt (refine' Mine.meth_hook ?k1 ?k2 ?k3 ?k4 ?k5 ?k6 ?k7 ?k8 ?k9 ?k10 ?k11 ?k12 ?k13 ?_; (case k4 => k_inst); (case k1 => k_asm); (case k2 => k_asm); (case k3 => k_asm); (case k5 => k_is); (case k6 => k_is); (case k7 => k_is); (case k8 => k_is); (case k9 => k_is); (case k10 => k_is); (case k11 => k_is); (case k12 => decide +kernel); (case k13 => k_get); k_whole); intro q' h' F' N' l1; (try k_lt l1); (try k_sweep)))
local macro_rules | `(tactic| k_mem) => `(tactic| ((show (_ : PySem.Addr × PySem.Obj) ∈ (_ : List (PySem.Addr × PySem.Obj))); ktr_member))
local macro_rules | `(tactic| walk_at "call builtin:str.join") => `(tactic| (k_here; (with_reducible show wpAny _ _ (call (Value.builtin "str.join") [Value.str _ _, Value.ref _]) _ _ _); k_dflt (refine' Mine.join_led ?k1 ?k2 ?k3 ?_; (case k1 => k_asm); (case k2 => k_mem); (case k3 => assumption)); intro _ _))
local macro_rules | `(tactic| walk_at "call type:map") => `(tactic| (k_here; k_dflt (refine' Mine.map_K ?k1 ?k2 ?k3 ?_; (case k1 => k_asm); (case k2 => k_asm); (case k3 => assumption); k_whole); intro _ h' hMK F' N'))
local macro_rules | `(tactic| walk_at "call builtin:_functools.reduce") => `(tactic| (k_here; k_dflt (refine' Mine.reduce_K ?k1 ?k2 ?_; (case k1 => k_asm); (case k2 => exact rfl); k_whole); intro h' _ _ F' N'))
local macro_rules | `(tactic| walk_at "binaryOp Mod str int") => `(tactic| (k_here; (with_reducible show wpAny _ _ (binaryOp Operator.Mod (Value.str _ _) (Value.int (Mine.xorFrom _ _) _)) _ _ _); k_dflt (refine' Mine.pct_hex ?k1 ?k2 ?_; (case k1 => exact (Mine.xor_small (by assumption)).1); (case k2 => exact (Mine.xor_small (by assumption)).2)); intro hHX _ _))
local macro_rules | `(tactic| walk_at "inplaceOp Add str str") => `(tactic| (k_here; (refine PyProof.Rows.SBL.iadd (hsz := ?hsz) ?_); (case hsz => (simp only [PySem.Str.length_append, Mine.lit_len, PySem.sizeLine_eq]; omega)); intro _ _ _))
local macro_rules | `(tactic| walk_at "binaryOp Add str str") => `(tactic| (k_here; (refine PyProof.Rows.SBL.add (hsz := ?hsz) ?_); (case hsz => (simp only [PySem.Str.length_append, Mine.lit_len, PySem.sizeLine_eq]; omega)); intro _ _ _))
local macro_rules | `(tactic| walk_at "call builtin:isinstance") => `(tactic| (k_here; (with_reducible show wpAny _ _ (call _ [Value.ref _, Value.ref _]) _ _ _); k_dflt (refine' Mine.isn_hook ?k1 ?k2 ?k3 ?k4 ?k5 ?k6 ?k7 ?k8 ?k9 ?k10 ?_; (case k1 => k_in); (case k2 => k_inst); (case k3 => kin_no); (case k4 => k_is); (case k5 => k_is); (case k6 => k_is); (case k7 => k_is); (case k8 => k_is); (case k9 => k_is); (case k10 => k_is); k_whole); (try dsimp only)))
local macro_rules | `(tactic| walk_at "truthy ref") => `(tactic| (k_here; k_dflt (refine' Mine.truthy_cls ?k1 ?k2 ?k3 ?k4 ?_; (case k1 => k_asm); (case k2 => k_asm); (case k3 => k_is); (case k4 => k_is); k_whole)))
local macro_rules | `(tactic| walk_at "call type:list") => `(tactic| (k_here; (with_reducible show wpAny _ _ (call (Value.type "list") [Value.ref _]) _ _ _); k_dflt (refine' list_copyK ?k1 ?k2 ?k3 ?_ ?z; (case k1 => k_asm); (case k2 => k_asm); (case k3 => exact News.isList (by k_asm) (by k_mem)); (case z => (simp only [List.size_toArray, strValues, List.length_map, PySem.sizeLine_eq]; omega)); k_whole); intro D' c' h' F' N' l1; (try k_lt l1); (try k_sweep)))
local macro_rules | `(tactic| walk_at "eval Name") => `(tactic| (k_here; k_dflt (refine' ld ?k1 ?k2 ?_; (case k1 => k_asm); (case k2 => exact rfl); k_whole)))

set_option maxRecDepth 100000 in
set_option maxHeartbeats 2000000 in
theorem meth_render (w : World) {A : Around} {E : Value → Shared → Prop} {s : Shared} {h₀ : Heap} {L : Addr} {m : Str → Option Value} {news sub : List (Addr × Obj)} {x : Addr} {g : Msg} {pl : Sem Bool} {Q : Value × List Value → Shared → Prop}
    (hat : MsgAt sub x g) (F : Fr h₀ L s.heap m) (X₀ : (Mine.hd.heap_39 w.params).In h₀) (N : News h₀ L s.heap news) (hs : ∀ p ∈ sub, p ∈ news)
    (h : ∀ q h', Fr h₀ L h' m → News h₀ L h' ((q, methodObj (.ref 154) (.ref x)) :: news) → (∀ p ∈ news, p.1 < q) → Q (.ref q, []) { s with heap := h', toks := s.toks + 1 }) :
    wpAny (model PySem.Challenge.rw_ez0285_01.row.prog w) A (getMethod (.ref x) (Str.ofString "render") pl) Q E s := by
  revert X₀
  k_fill
  intro X₀
  replace hat := msg_mono hat hs
  cases g with
  | talk C st tk ps =>
    obtain ⟨hk, dx, l, h1, h2, h3, t1, t2, t3, t4, t5, n, e, tl, m1, m2, m3, rfl⟩ := hat
    rcases hk with ⟨rfl, rfl⟩ | ⟨rfl, rfl⟩ | ⟨rfl, rfl⟩
    all_goals walk1
    all_goals exact h _ _ (by k_asm) (by k_asm) (by assumption)
  | ques tk ot st =>
    obtain ⟨dx, l, h1, h2, h3, h4, t1, t2, t3, t4, t5, t6, t7, n, e, m1, m2, m3⟩ := hat
    walk1
    all_goals exact h _ _ (by k_asm) (by k_asm) (by assumption)
  | prop mk ps =>
    obtain ⟨dx, l, h1, h2, t1, t2, t3, n, e, tl, m1, m2, m3, rfl⟩ := hat
    walk1
    all_goals exact h _ _ (by k_asm) (by k_asm) (by assumption)
end Mine
end

/- text C14 -/

namespace Mine
theorem off_C14 : True := by
  w_top off
  exact trivial
end Mine
section
open PySem PySem.W PyProof.Rows PySem.Spec PySem.Calls
set_option linter.all false
namespace Mine
local macro_rules | `(tactic| k_room) => `(tactic| ktr_room)
local macro_rules | `(tactic| k_units) => `(tactic| ktr_units)
local macro_rules | `(tactic| walk_at "getAttr ref") => `(tactic| (k_here; k_dflt (refine' Mine.own_hook ?k1 ?k2 ?k3 ?k4 ?k6 ?k7 ?k8 ?k9 ?k10 ?_; (case k3 => k_inst); (case k1 => k_asm); (case k2 => k_asm); (case k4 => k_is); (case k6 => k_is); (case k7 => k_is); (case k8 => k_is); (case k9 => k_get); (case k10 => k_handed); k_whole)))
local macro_rules | `(tactic| walk_at "getMethod ref") => `(tactic| (k_here; k_dflt (refine' Mine.meth_hook ?k1 ?k2 ?k3 ?k4 ?k5 ?k6 ?k7 ?k8 ?k9 ?k10 ?k11 ?k12 ?k13 ?_; (case k4 => k_inst); (case k1 => k_asm); (case k2 => k_asm); (case k3 => k_asm); (case k5 => k_is); (case k6 => k_is); (case k7 => k_is); (case k8 => k_is); (case k9 => k_is); (case k10 => k_is); (case k11 => k_is); (case k12 => decide +kernel); (case k13 => k_get); k_whole); intro q' h' F' N' l1; (try k_lt l1); (try k_sweep)))
local macro_rules | `(tactic| k_mem) => `(tactic| ((show (_ : PySem.Addr × PySem.Obj) ∈ (_ : List (PySem.Addr × PySem.Obj))); ktr_member))
local macro_rules | `(tactic| walk_at "call builtin:str.join") => `(tactic| (k_here; (with_reducible show wpAny _ _ (call (Value.builtin "str.join") [Value.str _ _, Value.ref _]) _ _ _); k_dflt (refine' Mine.join_led ?k1 ?k2 ?k3 ?_; (case k1 => k_asm); (case k2 => k_mem); (case k3 => assumption)); intro _ _))
local macro_rules | `(tactic| walk_at "call type:map") => `(tactic| (k_here; k_dflt (refine' Mine.map_K ?k1 ?k2 ?k3 ?_; (case k1 => k_asm); (case k2 => k_asm); (case k3 => assumption); k_whole); intro _ h' hMK F' N'))
local macro_rules | `(tactic| walk_at "call builtin:_functools.reduce") => `(tactic| (k_here; k_dflt (refine' Mine.reduce_K ?k1 ?k2 ?_; (case k1 => k_asm); (case k2 => exact rfl); k_whole); intro h' _ _ F' N'))
local macro_rules | `(tactic| walk_at "binaryOp Mod str int") => `(tactic| (k_here; (with_reducible show wpAny _ _ (binaryOp Operator.Mod (Value.str _ _) (Value.int (Mine.xorFrom _ _) _)) _ _ _); k_dflt (refine' Mine.pct_hex ?k1 ?k2 ?_; (case k1 => exact (Mine.xor_small (by assumption)).1); (case k2 => exact (Mine.xor_small (by assumption)).2)); intro hHX _ _))
local macro_rules | `(tactic| walk_at "inplaceOp Add str str") => `(tactic| (k_here; (refine PyProof.Rows.SBL.iadd (hsz := ?hsz) ?_); (case hsz => (simp only [PySem.Str.length_append, Mine.lit_len, PySem.sizeLine_eq]; omega)); intro _ _ _))
local macro_rules | `(tactic| walk_at "binaryOp Add str str") => `(tactic| (k_here; (refine PyProof.Rows.SBL.add (hsz := ?hsz) ?_); (case hsz => (simp only [PySem.Str.length_append, Mine.lit_len, PySem.sizeLine_eq]; omega)); intro _ _ _))
local macro_rules | `(tactic| walk_at "call builtin:isinstance") => `(tactic| (k_here; (with_reducible show wpAny _ _ (call _ [Value.ref _, Value.ref _]) _ _ _); k_dflt (refine' Mine.isn_hook ?k1 ?k2 ?k3 ?k4 ?k5 ?k6 ?k7 ?k8 ?k9 ?k10 ?_; (case k1 => k_in); (case k2 => k_inst); (case k3 => kin_no); (case k4 => k_is); (case k5 => k_is); (case k6 => k_is); (case k7 => k_is); (case k8 => k_is); (case k9 => k_is); (case k10 => k_is); k_whole); (try dsimp only)))
local macro_rules | `(tactic| walk_at "truthy ref") => `(tactic| (k_here; k_dflt (refine' Mine.truthy_cls ?k1 ?k2 ?k3 ?k4 ?_; (case k1 => k_asm); (case k2 => k_asm); (case k3 => k_is); (case k4 => k_is); k_whole)))
local macro_rules | `(tactic| walk_at "call type:list") => `(tactic| (k_here; (with_reducible show wpAny _ _ (call (Value.type "list") [Value.ref _]) _ _ _); k_dflt (refine' list_copyK ?k1 ?k2 ?k3 ?_ ?z; (case k1 => k_asm); (case k2 => k_asm); (case k3 => exact News.isList (by k_asm) (by k_mem)); (case z => (simp only [List.size_toArray, strValues, List.length_map, PySem.sizeLine_eq]; omega)); k_whole); intro D' c' h' F' N' l1; (try k_lt l1); (try k_sweep)))
local macro_rules | `(tactic| walk_at "eval Name") => `(tactic| (k_here; k_dflt (refine' ld ?k1 ?k2 ?_; (case k1 => k_asm); (case k2 => exact rfl); k_whole)))

local macro_rules | `(tactic| walk_at "call ref") => `(tactic| (k_here; (with_reducible show wpAny _ _ (call (Value.ref 98) _) _ _ _); (try dsimp only [List.nil_append, List.cons_append]); (with_reducible show wpAny _ _ (call (Value.ref 98) [Value.str _ _, Value.int _ _]) _ _ _); k_dflt (refine' Mine.wordlike_c _ _ _ _ _ _ _ _ ?hx _ _ _ _ _ _ _ _ _ _ _ _ _ _ _ _ _ _ ?k1 ?k2 ?k3 ?k4 ?k5 ?k6 ?k7 ?k8 ?_; (case k1 => k_asm); (case k2 => k_asm); (case k3 => k_asm); (case k4 => k_asm); (case k5 => k_asm); (case k6 => first | exact rfl | assumption); (case k7 => ktr_room); (case k8 => ktr_units); (case hx => first | assumption | omega); k_whole; intro _ h' _ F' N'; (try with_reducible dsimp only))))
local macro_rules | `(tactic| walk_at "call ref") => `(tactic| (k_here; (with_reducible show wpAny _ _ (call (Value.ref 113) _) _ _ _); (try dsimp only [List.nil_append, List.cons_append]); (with_reducible show wpAny _ _ (call (Value.ref 113) [Value.str _ _]) _ _ _); k_dflt (refine' Mine.checksum_c _ _ _ _ _ _ ?hx ?ha _ _ _ _ _ _ _ _ _ _ _ _ _ _ _ _ _ _ ?k1 ?k2 ?k3 ?k4 ?k5 ?k6 ?k7 ?k8 ?_; (case k1 => k_asm); (case k2 => k_asm); (case k3 => k_asm); (case k4 => k_asm); (case k5 => k_asm); (case k6 => first | exact rfl | assumption); (case k7 => ktr_room); (case k8 => ktr_units); (case hx => first | assumption | omega); (case ha => assumption); k_whole; intro _ h' _ F' N'; (try with_reducible dsimp only))))
set_option maxRecDepth 100000 in
set_option maxHeartbeats 8000000 in
theorem render_d (w : World) (mean : ExcName → Option Value) (mg mb : Str → Option Value) (q x : Addr) (g : Msg) (sub : List (Addr × Obj)) (hat : MsgAt sub x g) (hg : g.Ok) :
  ConM w mean mg mb q 154 x [] 10 40 sub (RetV fun t => .str (dress g.body true true Str.empty) t) := by
  unfold ConM RetV
  k_fill
  intros
  rename_i hq hss hret
  replace hat := msg_mono hat hss
  clear hss
  have hbl := hg.blen
  obtain ⟨hsm, hjo, hjl, hasc⟩ := hg
  (refine' call_meth ?m1 ?m2 ?_; (case m1 => k_asm); (case m2 => exact hq); k_dflt (refine' code_def ?k1 ?k2 ?k3 ?k4 ?k5 ?kA ?kF ?kK ?k6 ?k7 ?k8 ?k9 ?kB ?_ ?c2 ?c3 ?c4 ?c5; (case kA => exact rfl); (case kF => exact rfl); (case kK => assumption); (case k1 => k_asm); (case k2 => k_asm); (case k3 => k_asm); (case k4 => k_asm); (case k5 => k_asm); (case k6 => k_is); (case k7 => k_is); (case k8 => ktr_room); (case k9 => first | exact BindsTo.of_eq rfl | exact binds_K (by k_in) rfl (by k_is) rfl rfl rfl); (case c5 => decide); (case kB => exact locs rfl); (case c2 => exact rfl); (case c3 => exact rfl); (case c4 => exact rfl); k_whole; intro g' L' h' FG' F' N' B' X' T'; (try dsimp only); (try k_lift B'); (try k_fold)))
  refine seq_cut (by k_asm) (by k_asm) (Str.ofString "res") (fun v => ∃ t, v = .str g.body t) ?_ ?_
  · clear hret
    cases g with
    | talk C st tk ps =>
      obtain ⟨hk, dx, l, h1, h2, h3, t1, t2, t3, t4, t5, n, e, tl, m1, m2, m3, rfl⟩ := hat
      obtain ⟨b1, b2⟩ := hsm
      unfold joinT Msg.parts at hjl
      unfold Msg.parts at hjo
      dsimp only at hjl hjo
      rcases hk with ⟨rfl, rfl⟩ | ⟨rfl, rfl⟩ | ⟨rfl, rfl⟩
      all_goals k_steps
      all_goals (refine cut_end ?_ (by k_asm) (by k_asm) (fun _ hp => .tail _ hp))
      all_goals (exact str_some (by simp only [Msg.body, Msg.ident, Msg.parts, joinT, Str.empty_append]))
    | ques tk ot st =>
      obtain ⟨dx, l, h1, h2, h3, h4, t1, t2, t3, t4, t5, t6, t7, n, e, m1, m2, m3⟩ := hat
      obtain ⟨b1, b2, b3⟩ := hsm
      unfold joinT Msg.parts at hjl
      unfold Msg.parts at hjo
      dsimp only at hjl hjo
      k_steps
      all_goals (refine cut_end ?_ (by k_asm) (by k_asm) (fun _ hp => .tail _ hp))
      all_goals (exact str_some (by simp only [Msg.body, Msg.ident, Msg.parts, joinT, Str.empty_append, join_nil]))
    | prop mk ps =>
      obtain ⟨dx, l, h1, h2, t1, t2, t3, n, e, tl, m1, m2, m3, rfl⟩ := hat
      unfold joinT Msg.parts at hjl
      unfold Msg.parts at hjo
      unfold Msg.small at hsm
      dsimp only at hjl hjo hsm
      k_steps
      all_goals (refine cut_end ?_ (by k_asm) (by k_asm) (fun _ hp => .tail _ hp))
      all_goals (exact str_some (by simp only [Msg.body, Msg.ident, Msg.parts, joinT, Str.empty_append]))
  · rintro v h' k ⟨t, rfl⟩ F' N'
    unfold Asc at hasc
    have hcl : (g.body ++ (Str.ofString "*" ++ hexT (csum g.body))).length ≤ 160 := by
      simp only [Str.length_append, lit_len, hexT_len]
      omega
    refine seq_cut (by k_asm) (by k_asm) (Str.ofString "res") (fun v => ∃ t, v = .str (g.body ++ (Str.ofString "*" ++ hexT (csum g.body))) t) ?_ ?_
    · clear hret
      k_steps
      all_goals (first | refine cut_end ?_ (by k_asm) (by k_asm) (fun _ hp => hp) | refine cut_same ?_ (by k_asm) (by k_asm) (fun _ hp => hp) rfl)
      all_goals exact ⟨_, rfl⟩
    rintro v h' k ⟨t, rfl⟩ F' N'
    clear hasc hjl hjo hsm hat hbl
    have hd : Str.ofString "$" ++ (g.body ++ (Str.ofString "*" ++ hexT (csum g.body))) = dress g.body true true Str.empty := by
      simp only [dress, if_true, Str.append_assoc, Str.append_empty]
    rw [← hd] at hret
    clear hd
    generalize (g.body ++ (Str.ofString "*" ++ hexT (csum g.body))) = r1 at *
    k_steps
    all_goals (refine cb_retS hret ?_ (by k_asm) (by k_asm))
    all_goals rfl
end Mine
end

/- text P1 -/

namespace Mine
theorem off_P1 : True := by
  w_top off
  exact trivial
end Mine
section
open PySem PySem.W PyProof.Rows PySem.Spec PySem.Calls
open PySem.Builtin PySem.Builtin.Str
set_option maxRecDepth 100000
set_option linter.all false
namespace Mine
theorem toL_app (a b : Str) : (a ++ b).cps.toList = a.cps.toList ++ b.cps.toList := by
  rw [Str.cps_append, Array.toList_append]
theorem toL_len (a : Str) : a.cps.toList.length = a.length := by simp [Str.length]
theorem str_ext {a b : Str} (h : a.cps.toList = b.cps.toList) : a = b := Str.ext' (Array.toList_inj.mp h)
theorem sl_cut (x : Str) {a b : Nat} (hab : a ≤ b) (hb : b ≤ x.length) : Txt.slice x (some (a : Int)) (some (b : Int)) = ⟨((x.cps.toList.drop a).take (b - a)).toArray⟩ := StrLaws.sliceText_nat x hab hb
theorem sl_to (x : Str) {b : Nat} (hb : b ≤ x.length) : Txt.slice x none (some (b : Int)) = ⟨(x.cps.toList.take b).toArray⟩ := by
  have h := StrLaws.sliceText_to (x := x) (j := (b : Int)) ⟨by omega, by rw [toL_len]; omega⟩
  have e : ((b : Int) - 0).toNat = b := by omega
  rw [e, List.drop_zero] at h
  exact h
theorem sl_from (x : Str) {a : Nat} (ha : a ≤ x.length) : Txt.slice x (some (a : Int)) none = ⟨(x.cps.toList.drop a).toArray⟩ := by
  have h := StrLaws.sliceText_from (x := x) (i := (a : Int)) ⟨by omega, by rw [toL_len]; omega⟩
  rw [toL_len] at h
  have e : ((x.length : Int) - (a : Int)).toNat = x.length - a := by omega
  rw [e] at h
  have e2 : ((a : Nat) : Int).toNat = a := by omega
  rw [e2, List.take_of_length_le (by rw [List.length_drop, toL_len]; omega)] at h
  exact h
theorem sl_to_app {h r : Str} {b : Nat} (hb : b ≤ h.length) : Txt.slice (h ++ r) none (some (b : Int)) = Txt.slice h none (some (b : Int)) := by
  rw [sl_to _ hb, sl_to _ (by rw [Str.length_append]; omega), toL_app, List.take_append_of_le_length (by rw [toL_len]; omega)]
theorem sl_cut_app {h r : Str} {a b : Nat} (hab : a ≤ b) (hb : b ≤ h.length) : Txt.slice (h ++ r) (some (a : Int)) (some (b : Int)) = Txt.slice h (some (a : Int)) (some (b : Int)) := by
  rw [sl_cut _ hab hb, sl_cut _ hab (by rw [Str.length_append]; omega), toL_app, List.drop_append_of_le_length (by rw [toL_len]; omega), List.take_append_of_le_length (by rw [List.length_drop, toL_len]; omega)]
theorem sl_from_app {h r : Str} {a : Nat} (e : h.length = a) : Txt.slice (h ++ r) (some (a : Int)) none = r := by
  rw [sl_from _ (by rw [Str.length_append]; omega)]
  refine str_ext ?_
  show (List.drop a (h ++ r).cps.toList) = _
  rw [toL_app, List.drop_append, List.drop_of_length_le (by rw [toL_len]; omega), toL_len, e]
  simp
theorem sl_to_app' {h r : Str} {a : Nat} (e : h.length = a) : Txt.slice (h ++ r) none (some (a : Int)) = h := by
  rw [sl_to_app (by omega), sl_to _ (by omega), List.take_of_length_le (by rw [toL_len]; omega)]
/-- a text that begins with no blank -/
theorem lstrip_same {x : Str} {c : Nat} {l : List Nat} (h : x.cps.toList = c :: l) (hc : Unicode.isSpace c = false) : Txt.lstrip x = x := by
  show (if stripSame Unicode.isSpace true false x then x else PySem.stripped Unicode.isSpace true false x) = x
  rw [if_pos]
  unfold stripSame stripLo stripHi
  rw [h, List.takeWhile_cons, hc]
  simp
theorem part_none {x : Str} {c : Nat} (h : c ∉ x.cps.toList) : Txt.partition x ⟨#[c]⟩ = (x, Str.empty, Str.empty) := by
  unfold Txt.partition
  rcases StrLaws.occ_head x ⟨#[c]⟩ 1 (Nat.le_refl _) with ⟨e, _⟩ | ⟨i, r, e, ha, _⟩
  · rw [e]
  · exact absurd (List.mem_of_getElem? ((StrLaws.subAt_one x c i).mp ha)) h
theorem part_at {a b : Str} {c : Nat} (h : c ∉ a.cps.toList) : Txt.partition (a ++ (⟨#[c]⟩ ++ b)) ⟨#[c]⟩ = (a, ⟨#[c]⟩, b) := by
  have hL : (a ++ ((⟨#[c]⟩ : Str) ++ b)).cps.toList = a.cps.toList ++ c :: b.cps.toList := by
    rw [toL_app, toL_app]
    rfl
  have hat : StrLaws.At (a ++ ((⟨#[c]⟩ : Str) ++ b)) ⟨#[c]⟩ (a ++ ((⟨#[c]⟩ : Str) ++ b)).length a.length := by
    refine (StrLaws.subAt_one _ c _).mpr ?_
    rw [hL, List.getElem?_append_right (by rw [toL_len]; omega), toL_len, Nat.sub_self]
    rfl
  unfold Txt.partition
  rcases StrLaws.occ_head (a ++ (⟨#[c]⟩ ++ b)) ⟨#[c]⟩ 1 (Nat.le_refl _) with ⟨_, hn⟩ | ⟨i, r, e, ha, hn⟩
  · exact absurd hat (hn _)
  · have hi : i = a.length := by
      rcases Nat.lt_trichotomy i a.length with hlt | he | hgt
      · exfalso
        have q := (StrLaws.subAt_one _ c i).mp ha
        rw [hL, List.getElem?_append_left (by rw [toL_len]; omega)] at q
        exact h (List.mem_of_getElem? q)
      · exact he
      · exact absurd hat (hn _ hgt)
    rw [e]
    subst hi
    have e1 : strSub (a ++ ((⟨#[c]⟩ : Str) ++ b)) 0 a.length = a := by
      refine str_ext ?_
      rw [StrLaws.strSub_toList, hL, List.drop_zero, Nat.sub_zero, List.take_append_of_le_length (by rw [toL_len]; omega), List.take_of_length_le (by rw [toL_len]; omega)]
    have e2 : strSub (a ++ ((⟨#[c]⟩ : Str) ++ b)) (a.length + (⟨#[c]⟩ : Str).length) (a ++ ((⟨#[c]⟩ : Str) ++ b)).length = b := by
      refine str_ext ?_
      rw [StrLaws.strSub_toList, hL]
      show List.take _ (List.drop (a.length + 1) _) = _
      rw [List.drop_append, List.drop_of_length_le (by rw [toL_len]; omega), toL_len]
      have e3 : a.length + 1 - a.length = 1 := by omega
      rw [e3]
      show List.take _ ([] ++ b.cps.toList) = _
      rw [List.nil_append]
      refine List.take_of_length_le ?_
      rw [toL_len, Str.length_append, Str.length_append]
      show b.length ≤ a.length + (1 + b.length) - (a.length + 1)
      omega
    show (strSub _ 0 a.length, _, strSub _ _ _) = _
    rw [e1, e2]

/-- texts without the sign, joined by it, are told apart -/
theorem free_cut {c : Nat} : ∀ {a a' r r' : List Nat}, c ∉ a → c ∉ a' → a ++ c :: r = a' ++ c :: r' → a = a' ∧ r = r'
  | [], [], _, _, _, _, h => ⟨rfl, (List.cons.inj h).2⟩
  | [], d :: a', _, _, _, h2, h => absurd ((List.cons.inj h).1 ▸ List.Mem.head _) h2
  | d :: a, [], _, _, h1, _, h => absurd ((List.cons.inj h).1 ▸ List.Mem.head _) h1
  | d :: a, e :: a', r, r', h1, h2, h => by
    obtain ⟨e1, e2⟩ := List.cons.inj h
    obtain ⟨q1, q2⟩ := free_cut (fun m => h1 (.tail _ m)) (fun m => h2 (.tail _ m)) e2
    exact ⟨by rw [e1, q1], q2⟩
theorem join_toL (c : Nat) (x y : Str) (r : List Str) : (Str.join ⟨#[c]⟩ (x :: y :: r)).cps.toList = x.cps.toList ++ c :: (Str.join ⟨#[c]⟩ (y :: r)).cps.toList := by
  show (x ++ ⟨#[c]⟩ ++ Str.join ⟨#[c]⟩ (y :: r)).cps.toList = _
  rw [toL_app, toL_app, List.append_assoc]
  rfl
theorem join_inj {c : Nat} : ∀ {l l' : List Str}, l ≠ [] → l' ≠ [] → (∀ p ∈ l, c ∉ p.cps.toList) → (∀ p ∈ l', c ∉ p.cps.toList) → Str.join ⟨#[c]⟩ l = Str.join ⟨#[c]⟩ l' → l = l'
  | [], _, h, _, _, _, _ => absurd rfl h
  | _, [], _, h, _, _, _ => absurd rfl h
  | [x], [y], _, _, _, _, h => by rw [show x = y from h]
  | [x], y :: z :: r, _, _, h1, _, h => by
    have q := congrArg (fun s : Str => s.cps.toList) h
    simp only [join_toL] at q
    refine absurd ?_ (h1 x (.head _))
    show c ∈ (Str.join ⟨#[c]⟩ [x]).cps.toList
    rw [q]
    exact List.mem_append_right _ (.head _)
  | x :: z :: r, [y], _, _, _, h2, h => by
    have q := congrArg (fun s : Str => s.cps.toList) h
    simp only [join_toL] at q
    refine absurd ?_ (h2 y (.head _))
    show c ∈ (Str.join ⟨#[c]⟩ [y]).cps.toList
    rw [← q]
    exact List.mem_append_right _ (.head _)
  | x :: z :: r, y :: w :: r', _, _, h1, h2, h => by
    have q := congrArg (fun s : Str => s.cps.toList) h
    simp only [join_toL] at q
    obtain ⟨e1, e2⟩ := free_cut (h1 x (.head _)) (h2 y (.head _)) q
    have ih := join_inj (l := z :: r) (l' := w :: r') (fun e => nomatch e) (fun e => nomatch e) (fun p hp => h1 p (.tail _ hp)) (fun p hp => h2 p (.tail _ hp)) (str_ext e2)
    rw [str_ext e1, ih]
theorem comma_is : Str.ofString "," = ⟨#[44]⟩ := by decide +kernel
theorem star_is : Str.ofString "*" = ⟨#[42]⟩ := by decide +kernel
theorem joinT_eq (ps : List Str) : joinT ps = Str.join ⟨#[44]⟩ ps := by
  unfold joinT
  rw [comma_is]
  exact StrLaws.glued_eq_join _ _
theorem split_joined {ps : List Str} (hne : ps ≠ []) (hf : ∀ p ∈ ps, 44 ∉ p.cps.toList) : Txt.split (joinT ps) (Str.ofString ",") = ps := by
  rw [joinT_eq, comma_is]
  refine join_inj ?_ hne (StrLaws.split_free _ _) hf (StrLaws.join_split _ _)
  intro e
  have h := split_pos (Str.join ⟨#[44]⟩ ps) ⟨#[44]⟩
  rw [e] at h
  exact absurd h (by decide)
end Mine
end

/- text P2 -/

namespace Mine
theorem off_P2 : True := by
  w_top off
  exact trivial
end Mine
section
open PySem PySem.W PyProof.Rows PySem.Spec PySem.Calls
open PySem.Builtin PySem.Builtin.Str
set_option maxRecDepth 100000
set_option linter.all false
namespace Mine
/-- what a text's signs are: plain ones, no star -/
def Pl (x : Str) : Prop := ∀ c ∈ x.cps.toList, c < 128 ∧ c ≠ 42
theorem Pl.app {a b : Str} (h1 : Pl a) (h2 : Pl b) : Pl (a ++ b) := fun c hc => by
  rw [toL_app] at hc
  rcases List.mem_append.mp hc with h | h
  · exact h1 c h
  · exact h2 c h
theorem Pl.star {a : Str} (h : Pl a) : 42 ∉ a.cps.toList := fun m => (h _ m).2 rfl
theorem Pl.asc {a : Str} (h : Pl a) : (a.cps.all fun c => decide (c < 128)) = true := by
  rw [← Array.all_toList, List.all_eq_true]
  exact fun c hc => decide_eq_true (h c hc).1
theorem pl_of {a : Str} (h : a.cps.toList.all (fun c => decide (c < 128) && c != 42) = true) : Pl a := fun c hc => by
  have q := List.all_eq_true.mp h c hc
  rw [Bool.and_eq_true, decide_eq_true_eq, bne_iff_ne] at q
  exact q
theorem pl_empty : Pl Str.empty := fun c hc => nomatch hc
structure PartOk (p : Str) : Prop where
  len : p.length ≤ 4
  ch : ∀ c ∈ p.cps.toList, c < 128 ∧ c ≠ 42 ∧ c ≠ 44
structure PsOk (ps : List Str) : Prop where
  len : ps.length ≤ 7
  all : ∀ p ∈ ps, PartOk p
theorem joinT_cons2 (x y : Str) (r : List Str) : joinT (x :: y :: r) = x ++ Str.ofString "," ++ joinT (y :: r) := by
  rw [joinT_eq, joinT_eq, comma_is]
  rfl
theorem joinT_one (x : Str) : joinT [x] = x := by
  rw [joinT_eq]
  rfl
theorem joinT_none : joinT [] = Str.empty := by
  rw [joinT_eq]
  rfl
theorem pl_comma : Pl (Str.ofString ",") := pl_of (by decide +kernel)
theorem joinT_pl : ∀ {ps : List Str}, (∀ p ∈ ps, Pl p) → Pl (joinT ps)
  | [], _ => by rw [joinT_none]; exact pl_empty
  | [x], h => by rw [joinT_one]; exact h x (.head _)
  | x :: y :: r, h => by
    rw [joinT_cons2]
    exact ((h x (.head _)).app pl_comma).app (joinT_pl fun p hp => h p (.tail _ hp))
theorem joinT_len5 : ∀ {ps : List Str} {k : Nat}, (∀ p ∈ ps, p.length ≤ k) → (joinT ps).length ≤ ps.length * (k + 1)
  | [], _, _ => by rw [joinT_none]; exact Nat.zero_le _
  | [x], k, h => by rw [joinT_one]; have := h x (.head _); simp only [List.length_cons, List.length_nil]; omega
  | x :: y :: r, k, h => by
    have ih := joinT_len5 (ps := y :: r) (k := k) fun p hp => h p (.tail _ hp)
    have := h x (.head _)
    rw [joinT_cons2, Str.length_append, Str.length_append]
    have l1 : (Str.ofString ",").length = 1 := by decide +kernel
    rw [l1]
    simp only [List.length_cons, Nat.add_mul] at ih ⊢
    omega
theorem PsOk.pl {ps : List Str} (h : PsOk ps) : Pl (joinT ps) := joinT_pl fun p hp c hc => ⟨((h.all p hp).ch c hc).1, ((h.all p hp).ch c hc).2.1⟩
theorem PsOk.jlen {ps : List Str} (h : PsOk ps) : (joinT ps).length ≤ 35 := by
  have h1 := joinT_len5 (ps := ps) (k := 4) fun p hp => (h.all p hp).len
  have h2 := h.len
  have : ps.length * 5 ≤ 7 * 5 := Nat.mul_le_mul_right _ h2
  omega
theorem nl_pl {nl : Str} (h : NlOk nl) : Pl nl := by
  rcases h with rfl | rfl | rfl | rfl <;> exact pl_of (by decide +kernel)
theorem nl_free {nl : Str} (h : NlOk nl) : 44 ∉ nl.cps.toList := by
  rcases h with rfl | rfl | rfl | rfl <;> decide +kernel
theorem nl_len {nl : Str} (h : NlOk nl) : nl.length ≤ 2 := by
  rcases h with rfl | rfl | rfl | rfl <;> decide +kernel
/-- what is left behind a body, where there is no sum -/
def nlx (sm : Bool) (nl : Str) : Str := if sm = true then Str.empty else nl
theorem nlx_pl {sm : Bool} {nl : Str} (h : NlOk nl) : Pl (nlx sm nl) := by
  unfold nlx
  split
  · exact pl_empty
  · exact nl_pl h
theorem nlx_len {sm : Bool} {nl : Str} (h : NlOk nl) : (nlx sm nl).length ≤ 2 := by
  unfold nlx
  split
  · decide
  · exact nl_len h
theorem joinT_last {l : List Str} {a nl : Str} : joinT (l ++ [a ++ nl]) = joinT (l ++ [a]) ++ nl := by
  induction l with
  | nil => rw [List.nil_append, List.nil_append, joinT_one, joinT_one]
  | cons x l ih =>
    cases l with
    | nil =>
      show joinT [x, a ++ nl] = joinT [x, a] ++ nl
      rw [joinT_cons2, joinT_cons2, joinT_one, joinT_one, Str.append_assoc (x ++ _)]
    | cons y l =>
      show joinT (x :: y :: (l ++ [a ++ nl])) = joinT (x :: y :: (l ++ [a])) ++ nl
      rw [joinT_cons2, joinT_cons2, Str.append_assoc (x ++ _)]
      exact congrArg _ ih
theorem snoc_of {l : List Str} (h : l ≠ []) : ∃ r a, l = r ++ [a] := ⟨l.dropLast, l.getLast h, (List.dropLast_concat_getLast h).symm⟩
theorem rows_snoc {r : List Str} {a nl : Str} : rowsT (r ++ [a]) false nl = r ++ [a ++ nl] := by
  have hn : r ++ [a] ≠ [] := by simp
  unfold rowsT
  simp only [if_neg hn, Bool.false_eq_true, if_false, List.dropLast_concat, List.getLastD_eq_getLast?, List.getLast?_concat]
  rfl
theorem rows_nil {nl : Str} : rowsT [] false nl = [nl] := by
  unfold rowsT
  simp only [if_true, Bool.false_eq_true, if_false]
  show [Str.ofString "" ++ nl] = [nl]
  rw [emp_is, Str.empty_append]
theorem rows_true' {ps : List Str} {nl : Str} (h : ps ≠ []) : rowsT ps true nl = ps := by
  unfold rowsT
  simp only [if_true, if_neg h]
theorem rows_true {p : Str} {r : List Str} {nl : Str} : rowsT (p :: r) true nl = p :: r := rows_true' (fun e => nomatch e)
theorem rows_true_nil {nl : Str} : rowsT [] true nl = [Str.ofString ""] := by
  unfold rowsT
  simp only [if_true]
theorem rows_ne (ps : List Str) (sm : Bool) (nl : Str) : rowsT ps sm nl ≠ [] := by
  cases ps with
  | nil => cases sm; rw [rows_nil]; exact fun e => nomatch e; rw [rows_true_nil]; exact fun e => nomatch e
  | cons p r =>
    cases sm
    · obtain ⟨q, a, e⟩ := snoc_of (l := p :: r) (fun e => nomatch e)
      rw [e, rows_snoc]; simp
    · rw [rows_true]; exact fun e => nomatch e
theorem rows_join (ps : List Str) (sm : Bool) (nl : Str) : joinT (rowsT ps sm nl) = joinT ps ++ nlx sm nl := by
  cases ps with
  | nil =>
    cases sm
    · rw [rows_nil, joinT_one, joinT_none, Str.empty_append]; rfl
    · rw [rows_true_nil, joinT_one, joinT_none, emp_is]; rfl
  | cons p r =>
    cases sm
    · obtain ⟨q, a, e⟩ := snoc_of (l := p :: r) (fun e => nomatch e)
      rw [e, rows_snoc, joinT_last]; rfl
    · rw [rows_true]
      show _ = joinT (p :: r) ++ Str.empty
      rw [Str.append_empty]
theorem rows_all {ps : List Str} {sm : Bool} {nl : Str} {P : Str → Prop} (h : ∀ p ∈ ps, P p) (h0 : P (Str.ofString "")) (hn : ∀ p, P p → P (p ++ nl)) : ∀ p ∈ rowsT ps sm nl, P p := by
  cases ps with
  | nil =>
    cases sm
    · rw [rows_nil]
      intro p hp
      rw [List.mem_singleton.mp hp, ← Str.empty_append nl, ← emp_is]
      exact hn _ h0
    · rw [rows_true_nil]
      intro p hp
      rw [List.mem_singleton.mp hp]
      exact h0
  | cons p r =>
    cases sm
    · obtain ⟨q, a, e⟩ := snoc_of (l := p :: r) (fun e => nomatch e)
      rw [e] at h ⊢
      rw [rows_snoc]
      intro p hp
      rcases List.mem_append.mp hp with hp | hp
      · exact h p (List.mem_append_left _ hp)
      · rw [List.mem_singleton.mp hp]
        exact hn _ (h a (List.mem_append_right _ (.head _)))
    · rw [rows_true]
      exact h
theorem rows_free {ps : List Str} {sm : Bool} {nl : Str} (h : PsOk ps) (hn : NlOk nl) : ∀ p ∈ rowsT ps sm nl, 44 ∉ p.cps.toList :=
  rows_all (fun p hp m => ((h.all p hp).ch _ m).2.2 rfl) (by decide +kernel) fun p hp m => by
    rw [toL_app] at m
    rcases List.mem_append.mp m with m | m
    · exact hp m
    · exact nl_free hn m
theorem rows_split {ps : List Str} {sm : Bool} {nl : Str} (h : PsOk ps) (hn : NlOk nl) : Txt.split (joinT ps ++ nlx sm nl) (Str.ofString ",") = rowsT ps sm nl := by
  rw [← rows_join]
  exact split_joined (rows_ne _ _ _) (rows_free h hn)
theorem rows_len {ps : List Str} {sm : Bool} {nl : Str} (h : ps.length ≤ 7) : (rowsT ps sm nl).length ≤ 7 := by
  cases ps with
  | nil => cases sm; (rw [rows_nil]; exact Nat.le_of_ble_eq_true rfl); rw [rows_true_nil]; exact Nat.le_of_ble_eq_true rfl
  | cons p r =>
    cases sm
    · obtain ⟨q, a, e⟩ := snoc_of (l := p :: r) (fun e => nomatch e)
      rw [e] at h ⊢
      rw [rows_snoc]
      simpa using h
    · rw [rows_true]; exact h
end Mine
end

/- text P3 -/

namespace Mine
theorem off_P3 : True := by
  w_top off
  exact trivial
end Mine
section
open PySem PySem.W PyProof.Rows PySem.Spec PySem.Calls
open PySem.Builtin PySem.Builtin.Str
set_option maxRecDepth 100000
set_option linter.all false
namespace Mine
theorem dollar_is : Str.ofString "$" = ⟨#[36]⟩ := by decide +kernel
theorem slice1 {y : Str} {c : Nat} {l : List Nat} (h : y.cps.toList = c :: l) : Txt.slice y none (some 1) = ⟨#[c]⟩ := by
  have hl : 1 ≤ y.length := by rw [← toL_len, h]; simp
  refine (sl_to y (b := 1) hl).trans ?_
  rw [h]
  rfl
/-- a body whose head is plain -/
structure BodyOk (b : Str) : Prop where
  fst : ∃ c l, b.cps.toList = c :: l ∧ Unicode.isSpace c = false ∧ c ≠ 36
  pl : Pl b
  len : b.length ≤ 150
theorem fst_app {b r : Str} (h : ∃ c l, b.cps.toList = c :: l ∧ Unicode.isSpace c = false ∧ c ≠ 36) : ∃ c l, (b ++ r).cps.toList = c :: l ∧ Unicode.isSpace c = false ∧ c ≠ 36 := by
  obtain ⟨c, l, e, h⟩ := h
  exact ⟨c, l ++ r.cps.toList, by rw [toL_app, e]; rfl, h⟩
def dlT (dl : Bool) : Str := if dl = true then Str.ofString "$" else Str.empty
theorem dl_pl (dl : Bool) : Pl (dlT dl) := by
  cases dl
  · exact pl_empty
  · exact pl_of (by decide +kernel)
theorem dress_s (b : Str) (dl : Bool) (nl : Str) : dress b true dl nl = (dlT dl ++ b) ++ (⟨#[42]⟩ ++ (hexT (csum b) ++ nl)) := by
  simp only [dress, if_true, star_is, Str.append_assoc]
  rfl
theorem dress_n (b : Str) (dl : Bool) (nl : Str) : dress b false dl nl = dlT dl ++ (b ++ nl) := by
  simp only [dress, Bool.false_eq_true, if_false, Str.append_assoc, Str.append_empty, Str.empty_append]
  rfl
theorem dl_fst {y z : Str} (dl : Bool) (h : ∃ c l, y.cps.toList = c :: l ∧ Unicode.isSpace c = false ∧ c ≠ 36) : Txt.lstrip ((dlT dl ++ y) ++ z) = (dlT dl ++ y) ++ z := by
  cases dl
  · obtain ⟨c, l, e, h1, _⟩ := fst_app (r := z) h
    refine lstrip_same (c := c) (l := l) ?_ h1
    rw [show dlT false = Str.empty from rfl, Str.empty_append]
    exact e
  · refine lstrip_same (c := 36) (l := (y ++ z).cps.toList) ?_ (by decide +kernel)
    rw [Str.append_assoc, toL_app, show dlT true = Str.ofString "$" from rfl, dollar_is]
    rfl
/-- the three places of a line -/
theorem dress_part {b nl : Str} {sm dl : Bool} (h : BodyOk b) (hn : NlOk nl) :
    Txt.partition (Txt.lstrip (dress b sm dl nl)) (Str.ofString "*") = (dlT dl ++ (b ++ nlx sm nl), if sm = true then Str.ofString "*" else Str.empty, if sm = true then hexT (csum b) ++ nl else Str.empty) := by
  cases sm
  · simp only [Bool.false_eq_true, if_false]
    have e : Txt.lstrip (dress b false dl nl) = dlT dl ++ (b ++ nl) := by
      rw [dress_n, ← Str.append_assoc]
      exact dl_fst dl h.fst
    rw [e, star_is]
    exact part_none ((dl_pl dl).app (h.pl.app (nl_pl hn))).star
  · simp only [if_true]
    have e : Txt.lstrip (dress b true dl nl) = (dlT dl ++ b) ++ (⟨#[42]⟩ ++ (hexT (csum b) ++ nl)) := by
      rw [dress_s]
      exact dl_fst dl h.fst
    rw [e, star_is, part_at ((dl_pl dl).app h.pl).star]
    show _ = (dlT dl ++ (b ++ Str.empty), _, _)
    rw [Str.append_empty]
theorem head_ok {b nl : Str} {sm dl : Bool} (h : BodyOk b) (hn : NlOk nl) : HeadF (dress b sm dl nl) (b ++ nlx sm nl) := by
  have h1 := h.len
  have h2 := nl_len hn
  have h3 := nlx_len (sm := sm) hn
  have ld : (dlT dl).length ≤ 1 := by cases dl <;> decide +kernel
  refine ⟨(h.pl.app (nlx_pl hn)).asc, ?_, ?_, ?_⟩
  · cases sm
    · rw [dress_n]
      simp only [Str.length_append]
      omega
    · rw [dress_s]
      simp only [Str.length_append, hexT_len]
      have : (⟨#[42]⟩ : Str).length = 1 := rfl
      omega
  · rw [Str.length_append]
    omega
  · rw [dress_part h hn]
    show _ = if (Txt.slice (dlT dl ++ (b ++ nlx sm nl)) none (some 1) == Str.ofString "$") = true then Txt.slice (dlT dl ++ (b ++ nlx sm nl)) (some 1) none else dlT dl ++ (b ++ nlx sm nl)
    cases dl
    · obtain ⟨c, l, e, _, hc⟩ := fst_app (r := nlx sm nl) h.fst
      rw [show dlT false = Str.empty from rfl, Str.empty_append, slice1 e, if_neg]
      rw [dollar_is, beq_iff_eq]
      intro q
      exact hc (by injection q with q; simpa using q)
    · have q1 : Txt.slice (dlT true ++ (b ++ nlx sm nl)) none (some 1) = Str.ofString "$" := sl_to_app' (a := 1) (by decide +kernel)
      have q2 : Txt.slice (dlT true ++ (b ++ nlx sm nl)) (some 1) none = b ++ nlx sm nl := sl_from_app (a := 1) (by decide +kernel)
      rw [q1, q2, if_pos (beq_iff_eq.mpr rfl)]
theorem hex_strip : ∀ k : Fin 128, (((Txt.stripChars (hexT k.val) (Str.ofString "0123456789ABCDEFabcdef")).length : Int) != 0) = false := by decide +kernel
theorem nl_strip {nl : Str} (h : NlOk nl) : (((Txt.strip nl).length : Int) != 0) = false := by
  rcases h with rfl | rfl | rfl | rfl <;> decide +kernel
theorem csum_small {b : Str} (h : Pl b) : csum b < 128 ∧ ((csum b : Nat) : Int) = xorFrom 0 b.cps.toList := by
  have q := xor_small h.asc
  unfold csum
  omega
theorem nosum_ok {b nl : Str} {dl : Bool} (h : BodyOk b) (hn : NlOk nl) : NoSumF (dress b false dl nl) := by
  refine ⟨?_, ?_⟩
  · rw [dress_part h hn]; exact (by decide +kernel : (((Str.empty).length : Int) != 0) = false)
  · rw [dress_part h hn]; exact (by decide +kernel : (((Txt.slice Str.empty none (some 2)).length : Int) != 0) = false)
theorem star_ok {b nl : Str} {sm dl : Bool} (h : BodyOk b) (hn : NlOk nl) : StarF (dress b sm dl nl) (b ++ nlx sm nl) := by
  cases sm
  · exact .inr (nosum_ok h hn)
  · refine .inl ⟨csum b, ?_⟩
    obtain ⟨c1, c2⟩ := csum_small h.pl
    have e1 : Txt.slice (hexT (csum b) ++ nl) none (some 2) = hexT (csum b) := sl_to_app' (a := 2) rfl
    have e2 : Txt.slice (hexT (csum b) ++ nl) (some 2) none = nl := sl_from_app (a := 2) rfl
    have e3 : b ++ nlx true nl = b := Str.append_empty b
    have s3 := hex_strip ⟨csum b, c1⟩
    have s4 := nl_strip hn
    have p1 : (Txt.partition (Txt.lstrip (dress b true dl nl)) (Str.ofString "*")).2.1 = Str.ofString "*" := by rw [dress_part h hn]; rfl
    have p2 : (Txt.partition (Txt.lstrip (dress b true dl nl)) (Str.ofString "*")).2.2 = hexT (csum b) ++ nl := by rw [dress_part h hn]; rfl
    rw [e3]
    refine ⟨c1, ?_, ?_, ?_, ?_, ?_, ?_, ?_, ?_, ?_⟩
    · rw [c2]; exact bne_self_eq_false _
    · rw [p1]; decide +kernel
    · rw [p2, decide_eq_true_eq, Str.length_append, hexT_len]; omega
    · rw [p2, e1]; exact s3
    · rw [p2, e1, s3]; rfl
    · rw [p2, e2]; exact s4
    · rw [p2, e2, s4]; rfl
    · rw [p2, e1]; rfl
    · rw [p2, e1]
end Mine
end

/- text P4 -/

namespace Mine
theorem off_P4 : True := by
  w_top off
  exact trivial
end Mine
section
open PySem PySem.W PyProof.Rows PySem.Spec PySem.Calls
open PySem.Builtin PySem.Builtin.Str
set_option maxRecDepth 100000
set_option linter.all false
namespace Mine
structure HdTalk (hd st tk : Str) : Prop where
  l : hd.length = 6
  p2 : ([Str.ofString "P", Str.ofString "p"].any fun z => z == Txt.slice hd none (some 1)) = false
  p3 : wordT (Txt.slice hd none (some 4)) 4 = true
  p4 : ([Str.ofString "Q,", Str.ofString "q,"].any fun z => z == Txt.slice hd (some 4) (some 6)) = false
  p5 : wordT (Txt.slice hd none (some 5)) 5 = true
  p6 : (Txt.slice hd (some 5) (some 6) == Str.ofString ",") = true
  q1 : (Txt.slice (Txt.upper (Txt.slice hd none (some 6))) (some 5) none == Str.ofString ",") = true
  q2 : Txt.slice (Txt.upper (Txt.slice hd none (some 6))) none (some 2) = tk
  q3 : Txt.slice (Txt.upper (Txt.slice hd none (some 6))) (some 2) (some 5) = st
  fs : ∃ c l, hd.cps.toList = c :: l ∧ Unicode.isSpace c = false ∧ c ≠ 36
  pl : Pl hd
theorem talkF {hd st tk r : Str} {ps : List Str} (H : HdTalk hd st tk) (hs : Txt.split r (Str.ofString ",") = ps) : TalkF (hd ++ r) st tk ps := by
  have l := H.l
  have e1 : Txt.slice (hd ++ r) none (some 1) = Txt.slice hd none (some 1) := sl_to_app (b := 1) (by omega)
  have e4 : Txt.slice (hd ++ r) none (some 4) = Txt.slice hd none (some 4) := sl_to_app (b := 4) (by omega)
  have e5 : Txt.slice (hd ++ r) none (some 5) = Txt.slice hd none (some 5) := sl_to_app (b := 5) (by omega)
  have e6 : Txt.slice (hd ++ r) none (some 6) = Txt.slice hd none (some 6) := sl_to_app (b := 6) (by omega)
  have e46 : Txt.slice (hd ++ r) (some 4) (some 6) = Txt.slice hd (some 4) (some 6) := sl_cut_app (a := 4) (b := 6) (by omega) (by omega)
  have e56 : Txt.slice (hd ++ r) (some 5) (some 6) = Txt.slice hd (some 5) (some 6) := sl_cut_app (a := 5) (b := 6) (by omega) (by omega)
  have er : Txt.slice (hd ++ r) (some 6) none = r := sl_from_app (a := 6) l
  exact ⟨by rw [e1]; exact H.p2, by rw [e4]; exact H.p3, by rw [e46]; exact H.p4, by rw [e5]; exact H.p5, by rw [e56]; exact H.p6, by rw [e6]; exact H.q1, by rw [e6]; exact H.q2, by rw [e6]; exact H.q3, by rw [er]; exact hs⟩
theorem hdTalk {C : Addr} {st tk : Str} (k : Kind C st) (h : TkOk tk) : HdTalk (tk ++ st ++ Str.ofString ",") st tk := by
  rcases k with ⟨_, rfl⟩ | ⟨_, rfl⟩ | ⟨_, rfl⟩ <;> rcases h with rfl | rfl | rfl | rfl
  all_goals
    refine ⟨?_, ?_, ?_, ?_, ?_, ?_, ?_, ?_, ?_, ⟨_, _, rfl, ?_, ?_⟩, pl_of ?_⟩
    all_goals decide +kernel
structure HdQues (hd tk ot st : Str) : Prop where
  l : hd.length = 9
  p2 : ([Str.ofString "P", Str.ofString "p"].any fun z => z == Txt.slice hd none (some 1)) = false
  p3 : wordT (Txt.slice hd none (some 4)) 4 = true
  p4 : ([Str.ofString "Q,", Str.ofString "q,"].any fun z => z == Txt.slice hd (some 4) (some 6)) = true
  p5 : wordT (Txt.slice hd (some 6) (some 9)) 3 = true
  up : Txt.upper hd = hd
  q1 : (Txt.slice hd (some 5) none == Str.ofString ",") = false
  q2 : (Txt.slice hd (some 4) (some 6) == Str.ofString "Q,") = true
  q5 : Txt.slice hd none (some 2) = tk
  q6 : Txt.slice hd (some 2) (some 4) = ot
  q7 : Txt.slice hd (some 6) none = st
  fs : ∃ c l, hd.cps.toList = c :: l ∧ Unicode.isSpace c = false ∧ c ≠ 36
  pl : Pl hd
theorem hdQues {tk ot : Str} (h : TkOk tk) (h2 : TkOk ot) : HdQues (tk ++ ot ++ Str.ofString "Q," ++ Str.ofString "WPL") tk ot (Str.ofString "WPL") := by
  rcases h with rfl | rfl | rfl | rfl <;> rcases h2 with rfl | rfl | rfl | rfl
  all_goals
    refine ⟨?_, ?_, ?_, ?_, ?_, ?_, ?_, ?_, ?_, ?_, ?_, ⟨_, _, rfl, ?_, ?_⟩, pl_of ?_⟩
    all_goals decide +kernel
theorem quesF {hd tk ot st r : Str} (H : HdQues hd tk ot st) : QuesF (hd ++ r) tk ot st := by
  have l := H.l
  have e1 : Txt.slice (hd ++ r) none (some 1) = Txt.slice hd none (some 1) := sl_to_app (b := 1) (by omega)
  have e4 : Txt.slice (hd ++ r) none (some 4) = Txt.slice hd none (some 4) := sl_to_app (b := 4) (by omega)
  have e9 : Txt.upper (Txt.slice (hd ++ r) none (some 9)) = hd := by
    rw [show Txt.slice (hd ++ r) none (some 9) = hd from sl_to_app' (a := 9) l]
    exact H.up
  have e46 : Txt.slice (hd ++ r) (some 4) (some 6) = Txt.slice hd (some 4) (some 6) := sl_cut_app (a := 4) (b := 6) (by omega) (by omega)
  have e69 : Txt.slice (hd ++ r) (some 6) (some 9) = Txt.slice hd (some 6) (some 9) := sl_cut_app (a := 6) (b := 9) (by omega) (by omega)
  refine ⟨by rw [e1]; exact H.p2, by rw [e4]; exact H.p3, by rw [e46]; exact H.p4, by rw [e69]; exact H.p5, by rw [e9]; exact H.q1, by rw [e9]; exact H.q2, by rw [e9, l]; rfl, by rw [e9, l]; rfl, by rw [e9]; exact H.q5, by rw [e9]; exact H.q6, by rw [e9]; exact H.q7⟩
theorem quesOk {hd tk ot st : Str} (H : HdQues hd tk ot st) : QuesOk (hd ++ Str.empty) := by
  have e : Txt.slice (hd ++ Str.empty) (some 9) none = Str.empty := sl_from_app (a := 9) H.l
  exact ⟨by rw [e]; rfl, by rw [e]; rfl⟩
theorem quesNo {hd tk ot st r : Str} (H : HdQues hd tk ot st) (hr : r.length ≠ 0) : QuesNo (hd ++ r) := by
  have e : Txt.slice (hd ++ r) (some 9) none = r := sl_from_app (a := 9) H.l
  have e9 : Txt.upper (Txt.slice (hd ++ r) none (some 9)) = hd := by
    rw [show Txt.slice (hd ++ r) none (some 9) = hd from sl_to_app' (a := 9) H.l]
    exact H.up
  have q : ((r.length : Int) != 0) = true := by rw [bne_iff_ne]; omega
  refine ⟨?_, by rw [e]; exact q, by rw [e, q]; rfl⟩
  rw [e9]
  intro c hc
  have := (H.pl c hc).1
  have e : (16 : Nat) ^ 8 = 4294967296 := by decide
  omega
structure HdMaker (hd mk : Str) : Prop where
  l : hd.length = 4
  p2 : ([Str.ofString "P", Str.ofString "p"].any fun z => z == Txt.slice hd none (some 1)) = true
  p3 : wordT (Txt.slice hd (some 1) (some 4)) 3 = true
  up : Txt.upper hd = hd
  q1 : (Txt.slice hd (some 5) none == Str.ofString ",") = false
  q2 : (Txt.slice hd (some 4) (some 6) == Str.ofString "Q,") = false
  q4 : Txt.slice hd (some 1) none = mk
  n1 : Str.ofString "WPL" ≠ hd
  n2 : Str.ofString "TXT" ≠ hd
  n3 : Str.ofString "R00" ≠ hd
  fs : ∃ c l, hd.cps.toList = c :: l ∧ Unicode.isSpace c = false ∧ c ≠ 36
  pl : Pl hd
theorem hdMaker {mk : Str} (h : MkOk mk) : HdMaker (Str.ofString "P" ++ mk) mk := by
  rcases h with rfl | rfl | rfl
  all_goals
    refine ⟨?_, ?_, ?_, ?_, ?_, ?_, ?_, ?_, ?_, ?_, ⟨_, _, rfl, ?_, ?_⟩, pl_of ?_⟩
    all_goals decide +kernel
theorem makerF {hd mk r : Str} {ps : List Str} (H : HdMaker hd mk) (hs : Txt.split r (Str.ofString ",") = ps) : MakerF (hd ++ r) mk ps := by
  have l := H.l
  have e1 : Txt.slice (hd ++ r) none (some 1) = Txt.slice hd none (some 1) := sl_to_app (b := 1) (by omega)
  have e14 : Txt.slice (hd ++ r) (some 1) (some 4) = Txt.slice hd (some 1) (some 4) := sl_cut_app (a := 1) (b := 4) (by omega) (by omega)
  have e4 : Txt.upper (Txt.slice (hd ++ r) none (some 4)) = hd := by
    rw [show Txt.slice (hd ++ r) none (some 4) = hd from sl_to_app' (a := 4) l]
    exact H.up
  have er : Txt.slice (hd ++ r) (some 4) none = r := sl_from_app (a := 4) l
  refine ⟨by rw [e1]; exact H.p2, by rw [e14]; exact H.p3, by rw [e4]; exact H.q1, by rw [e4]; exact H.q2, by rw [e4, l]; rfl, by rw [e4]; exact H.q4, ?_, by rw [er]; exact hs⟩
  intro t1 t2 t3
  rw [e4]
  simp only [valueAt, strPairs, List.find?_cons, List.find?_nil, H.n1, H.n2, H.n3, decide_false, Option.map_none]
end Mine
end

/- text P5 -/

namespace Mine
theorem off_P5 : True := by
  w_top off
  exact trivial
end Mine
section
open PySem PySem.W PyProof.Rows PySem.Spec PySem.Calls
open PySem.Builtin PySem.Builtin.Str
set_option maxRecDepth 100000
set_option linter.all false
namespace Mine
def psOf (xs : List Int) : List Str := (List.take (min 9 xs.length - 2) (List.drop 2 xs)).map partT
theorem item_ok : ∀ k : Fin 12, (Txt.item (Str.ofString "09AzN-.$ Q_'") (k.val : Int)).cps.toList.all (fun c => decide (c < 128) && c != 42 && c != 44) = true := by decide +kernel
theorem grow_ok : ∀ n r, ∀ c ∈ (grow n r).1.cps.toList, c < 128 ∧ c ≠ 42 ∧ c ≠ 44
  | 0, _, c, hc => nomatch hc
  | n + 1, r, c, hc => by
    have hc : c ∈ ((grow n r).1 ++ Txt.item (Str.ofString "09AzN-.$ Q_'") ((grow n r).2.fmod 12)).cps.toList := hc
    rw [toL_app] at hc
    rcases List.mem_append.mp hc with h | h
    · exact grow_ok n r c h
    · have h0 : 0 ≤ (grow n r).2.fmod 12 := Int.fmod_nonneg_of_pos _ (by decide)
      have h1 : (grow n r).2.fmod 12 < 12 := Int.fmod_lt_of_pos _ (by decide)
      obtain ⟨k, hk⟩ := Int.eq_ofNat_of_zero_le h0
      rw [hk] at h h1
      have q := List.all_eq_true.mp (item_ok ⟨k, by omega⟩) c h
      rw [Bool.and_eq_true, Bool.and_eq_true, decide_eq_true_eq, bne_iff_ne, bne_iff_ne] at q
      exact ⟨q.1.1, q.1.2, q.2⟩
theorem partT_ok (x : Int) : PartOk (partT x) := by
  refine ⟨?_, fun c hc => grow_ok _ _ c hc⟩
  unfold partT
  rw [grow_len]
  have h1 : x.fmod 5 < 5 := Int.fmod_lt_of_pos _ (by decide)
  omega
theorem psOf_ok (xs : List Int) : PsOk (psOf xs) := by
  refine ⟨?_, ?_⟩
  · simp only [psOf, List.length_map, List.length_take]
    omega
  · intro p hp
    obtain ⟨x, _, rfl⟩ := List.mem_map.mp hp
    exact partT_ok x
theorem nlx_emp {sm : Bool} {nl : Str} (h : ¬ (sm = false ∧ nl ≠ Str.ofString "")) : nlx sm nl = Str.empty := by
  unfold nlx
  cases sm
  · rw [if_neg (fun e => Bool.noConfusion e), ← emp_is]
    exact Decidable.byContradiction fun e => h ⟨rfl, e⟩
  · rw [if_pos rfl]
theorem body_ok {ps : List Str} {g : Msg} (hp : PsOk ps) (hg : GOk ps g) : BodyOk g.body := by
  have hj := hp.jlen
  cases g with
  | talk C st tk q =>
    obtain ⟨k, ht, rfl⟩ := hg
    have H := hdTalk k ht
    refine ⟨fst_app H.fs, H.pl.app hp.pl, ?_⟩
    show ((tk ++ st ++ Str.ofString ",") ++ joinT q).length ≤ 150
    rw [Str.length_append, H.l]
    omega
  | ques tk ot st =>
    obtain ⟨h1, h2, rfl⟩ := hg
    have H := hdQues h1 h2
    refine ⟨fst_app H.fs, H.pl.app (by rw [show (Msg.ques tk ot (Str.ofString "WPL")).parts = [] from rfl, joinT_none]; exact pl_empty), ?_⟩
    show ((tk ++ ot ++ Str.ofString "Q," ++ Str.ofString "WPL") ++ joinT []).length ≤ 150
    rw [Str.length_append, H.l, joinT_none]
    decide
  | prop mk q =>
    obtain ⟨h1, rfl⟩ := hg
    have H := hdMaker h1
    refine ⟨fst_app H.fs, H.pl.app hp.pl, ?_⟩
    show ((Str.ofString "P" ++ mk) ++ joinT q).length ≤ 150
    rw [Str.length_append, H.l]
    omega
/-- a line that is read again -/
theorem line_some {ps : List Str} {g g' : Msg} {sm dl : Bool} {nl : Str} (hp : PsOk ps) (hg : GOk ps g) (hn : NlOk nl) (h : readBack g sm nl = some g') :
    ∃ y n, HeadF (dress g.body sm dl nl) y ∧ KindF y n (some g') ∧ StarF (dress g.body sm dl nl) y := by
  have B := body_ok hp hg
  refine ⟨g.body ++ nlx sm nl, match g with | .talk .. => 6 | .ques .. => 9 | .prop .. => 4, head_ok B hn, ?_, star_ok B hn⟩
  cases g with
  | talk C st tk q =>
    obtain ⟨k, ht, rfl⟩ := hg
    obtain rfl := Option.some.inj h
    refine ⟨rfl, k, ?_⟩
    show TalkF (((tk ++ st ++ Str.ofString ",") ++ joinT q) ++ nlx sm nl) st tk (rowsT q sm nl)
    rw [Str.append_assoc (tk ++ st ++ Str.ofString ",")]
    exact talkF (hdTalk k ht) (rows_split hp hn)
  | ques tk ot st =>
    obtain ⟨h1, h2, rfl⟩ := hg
    have h : (if sm = false ∧ nl ≠ Str.ofString "" then none else some (Msg.ques tk ot (Str.ofString "WPL"))) = some g' := h
    by_cases hc : sm = false ∧ nl ≠ Str.ofString ""
    · rw [if_pos hc] at h; exact nomatch h
    · rw [if_neg hc] at h
      obtain rfl := Option.some.inj h
      have e : (Msg.ques tk ot (Str.ofString "WPL")).body ++ nlx sm nl = (tk ++ ot ++ Str.ofString "Q," ++ Str.ofString "WPL") ++ Str.empty := by
        rw [nlx_emp hc, Str.append_empty, Str.append_empty]
        show (tk ++ ot ++ Str.ofString "Q," ++ Str.ofString "WPL") ++ joinT [] = _
        rw [joinT_none, Str.append_empty]
      rw [e]
      exact ⟨rfl, quesF (hdQues h1 h2), quesOk (hdQues h1 h2)⟩
  | prop mk q =>
    obtain ⟨h1, rfl⟩ := hg
    obtain rfl := Option.some.inj h
    refine ⟨rfl, ?_⟩
    show MakerF (((Str.ofString "P" ++ mk) ++ joinT q) ++ nlx sm nl) mk (rowsT q sm nl)
    rw [Str.append_assoc (Str.ofString "P" ++ mk)]
    exact makerF (hdMaker h1) (rows_split hp hn)
theorem line_none {ps : List Str} {g : Msg} {sm dl : Bool} {nl : Str} (hp : PsOk ps) (hg : GOk ps g) (hn : NlOk nl) (h : readBack g sm nl = none) :
    sm = false ∧ nl ≠ Str.ofString "" ∧ g.isQ = true ∧ ∃ y, HeadF (dress g.body sm dl nl) y ∧ KindF y 9 none ∧ NoSumF (dress g.body sm dl nl) := by
  have B := body_ok hp hg
  cases g with
  | talk C st tk q => exact nomatch h
  | prop mk q => exact nomatch h
  | ques tk ot st =>
    obtain ⟨h1, h2, rfl⟩ := hg
    have h : (if sm = false ∧ nl ≠ Str.ofString "" then none else some (Msg.ques tk ot (Str.ofString "WPL"))) = none := h
    by_cases hc : sm = false ∧ nl ≠ Str.ofString ""
    · obtain ⟨rfl, hne⟩ := hc
      refine ⟨rfl, hne, rfl, _, head_ok B hn, ?_, nosum_ok B hn⟩
      have e : (Msg.ques tk ot (Str.ofString "WPL")).body ++ nlx false nl = (tk ++ ot ++ Str.ofString "Q," ++ Str.ofString "WPL") ++ nl := by
        show ((tk ++ ot ++ Str.ofString "Q," ++ Str.ofString "WPL") ++ joinT []) ++ nl = _
        rw [joinT_none, Str.append_empty]
      rw [e]
      refine ⟨rfl, tk, ot, Str.ofString "WPL", quesF (hdQues h1 h2), quesNo (hdQues h1 h2) ?_⟩
      rcases hn with rfl | rfl | rfl | rfl
      · exact absurd rfl hne
      all_goals decide +kernel
    · rw [if_neg hc] at h; exact nomatch h
theorem back_gok {ps : List Str} {g g' : Msg} {sm : Bool} {nl : Str} (hg : GOk ps g) (h : readBack g sm nl = some g') : GOk (rowsT ps sm nl) g' := by
  cases g with
  | talk C st tk q =>
    obtain ⟨k, ht, rfl⟩ := hg
    obtain rfl := Option.some.inj h
    exact ⟨k, ht, rfl⟩
  | prop mk q =>
    obtain ⟨h1, rfl⟩ := hg
    obtain rfl := Option.some.inj h
    exact ⟨h1, rfl⟩
  | ques tk ot st =>
    have h : (if sm = false ∧ nl ≠ Str.ofString "" then none else some (Msg.ques tk ot st)) = some g' := h
    by_cases hc : sm = false ∧ nl ≠ Str.ofString ""
    · rw [if_pos hc] at h; exact nomatch h
    · rw [if_neg hc] at h
      obtain rfl := Option.some.inj h
      exact hg
/-- parts that a message may hold -/
structure QsOk (qs : List Str) : Prop where
  len : qs.length ≤ 7
  all : ∀ p ∈ qs, p.length ≤ 6 ∧ Pl p
theorem PsOk.qs {ps : List Str} (h : PsOk ps) : QsOk ps := ⟨h.len, fun p hp => ⟨by have := (h.all p hp).len; omega, fun c hc => ⟨((h.all p hp).ch c hc).1, ((h.all p hp).ch c hc).2.1⟩⟩⟩
theorem rows_qs {ps : List Str} {sm : Bool} {nl : Str} (h : PsOk ps) (hn : NlOk nl) : QsOk (rowsT ps sm nl) := by
  refine ⟨rows_len h.len, ?_⟩
  have := rows_all (ps := ps) (sm := sm) (nl := nl) (P := fun p => p.length ≤ 6 ∧ Pl p) (fun p hp => (h.qs.all p hp)) ⟨by decide +kernel, pl_of (by decide +kernel)⟩
  cases ps with
  | nil =>
    cases sm
    · rw [rows_nil]
      intro p hp
      rw [List.mem_singleton.mp hp]
      exact ⟨by have := nl_len hn; omega, nl_pl hn⟩
    · rw [rows_true_nil]
      intro p hp
      rw [List.mem_singleton.mp hp]
      exact ⟨by decide +kernel, pl_of (by decide +kernel)⟩
  | cons p r =>
    cases sm
    · obtain ⟨q, a, e⟩ := snoc_of (l := p :: r) (fun e => nomatch e)
      rw [e] at h ⊢
      rw [rows_snoc]
      intro p hp
      rcases List.mem_append.mp hp with hp | hp
      · exact h.qs.all p (List.mem_append_left _ hp)
      · rw [List.mem_singleton.mp hp]
        have h1 := (h.all a (List.mem_append_right _ (.head _))).len
        have h2 := (h.qs.all a (List.mem_append_right _ (.head _))).2
        have h3 := nl_len hn
        exact ⟨by rw [Str.length_append]; omega, h2.app (nl_pl hn)⟩
    · rw [rows_true]
      exact h.qs.all
theorem small_of {ps : List Str} {g : Msg} (hg : GOk ps g) : g.small := by
  cases g with
  | talk C st tk q =>
    obtain ⟨k, ht, rfl⟩ := hg
    rcases k with ⟨_, rfl⟩ | ⟨_, rfl⟩ | ⟨_, rfl⟩ <;> rcases ht with rfl | rfl | rfl | rfl <;> exact ⟨by decide +kernel, by decide +kernel⟩
  | ques tk ot st =>
    obtain ⟨h1, h2, rfl⟩ := hg
    rcases h1 with rfl | rfl | rfl | rfl <;> rcases h2 with rfl | rfl | rfl | rfl <;> exact ⟨by decide +kernel, by decide +kernel, by decide +kernel⟩
  | prop mk q =>
    obtain ⟨h1, rfl⟩ := hg
    rcases h1 with rfl | rfl | rfl
    · exact (by decide +kernel : (Str.ofString "XYZ").length ≤ 10)
    · exact (by decide +kernel : (Str.ofString "A_9").length ≤ 10)
    · exact (by decide +kernel : (Str.ofString "ABC").length ≤ 10)
theorem ident_pl {ps : List Str} {g : Msg} (hg : GOk ps g) : Pl g.ident := by
  cases g with
  | talk C st tk q =>
    obtain ⟨k, ht, rfl⟩ := hg
    exact (hdTalk k ht).pl
  | ques tk ot st =>
    obtain ⟨h1, h2, rfl⟩ := hg
    exact (hdQues h1 h2).pl
  | prop mk q =>
    obtain ⟨h1, rfl⟩ := hg
    exact (hdMaker h1).pl
theorem parts_of {ps : List Str} {g : Msg} (hg : GOk ps g) : g.parts = ps ∨ g.parts = [] := by
  cases g with
  | talk C st tk q => exact .inl hg.2.2
  | ques tk ot st => exact .inr rfl
  | prop mk q => exact .inl hg.2
theorem ok_of {ps : List Str} {g : Msg} (hp : QsOk ps) (hg : GOk ps g) : g.Ok := by
  have hq : QsOk g.parts := by
    rcases parts_of hg with e | e <;> rw [e]
    · exact hp
    · exact ⟨Nat.zero_le _, fun p h => nomatch h⟩
  refine ⟨small_of hg, ?_, ?_, ?_⟩
  · have h := StrLaws.joinFits (sep := Str.ofString ",") (texts := g.parts) (B := 6) (fun p h => (hq.all p h).1) (by
      have l1 : (Str.ofString ",").length = 1 := by decide +kernel
      rw [l1]
      have := hq.len
      omega)
    unfold JoinOk
    rw [h]
    rfl
  · have h1 := joinT_len5 (ps := g.parts) (k := 6) fun p h => (hq.all p h).1
    have h2 := hq.len
    have : g.parts.length * 7 ≤ 7 * 7 := Nat.mul_le_mul_right _ h2
    omega
  · exact ((ident_pl hg).app (joinT_pl fun p h => (hq.all p h).2)).asc
theorem strOk_of {x : Str} (h : Pl x) : PyData.strOk x = true := by
  unfold PyData.strOk
  rw [← Array.all_toList, List.all_eq_true]
  intro c hc
  have := (h c hc).1
  exact decide_eq_true (by omega)
theorem kq_texts {qs : List Str} (n : Nat) (h : ∀ p ∈ qs, Pl p) : kqdOk (n + 1) (textsD qs) = true := by
  show (qs.map Dat.str).all (kqdOk n) = true
  rw [List.all_eq_true]
  intro d hd
  obtain ⟨p, hp, rfl⟩ := List.mem_map.mp hd
  cases n <;> exact strOk_of (h p hp)
theorem kq_str {x : Str} (n : Nat) (h : Pl x) : kqdOk n (.str x) = true := by
  cases n <;> exact strOk_of h
theorem tk_pl {x : Str} (h : TkOk x) : Pl x := by
  rcases h with rfl | rfl | rfl | rfl <;> exact pl_of (by decide +kernel)
theorem mk_pl {x : Str} (h : MkOk x) : Pl x := by
  rcases h with rfl | rfl | rfl <;> exact pl_of (by decide +kernel)
theorem st_pl {C : Addr} {x : Str} (h : Kind C x) : Pl x := by
  rcases h with ⟨_, rfl⟩ | ⟨_, rfl⟩ | ⟨_, rfl⟩ <;> exact pl_of (by decide +kernel)
theorem kq_head {ps : List Str} {g : Msg} (hg : GOk ps g) (n : Nat) : ∀ d ∈ g.head, kqdOk n d = true := by
  cases g with
  | talk C st tk q =>
    obtain ⟨k, ht, rfl⟩ := hg
    intro d hd
    simp only [Msg.head, List.mem_cons, List.not_mem_nil, or_false] at hd
    rcases hd with rfl | rfl | rfl
    · exact kq_str _ (st_pl k)
    · exact kq_str _ (tk_pl ht)
    · exact kq_str _ (st_pl k)
  | ques tk ot st =>
    obtain ⟨h1, h2, rfl⟩ := hg
    intro d hd
    simp only [Msg.head, List.mem_cons, List.not_mem_nil, or_false] at hd
    rcases hd with rfl | rfl | rfl | rfl
    · exact kq_str _ (pl_of (by decide +kernel))
    · exact kq_str _ (tk_pl h1)
    · exact kq_str _ (tk_pl h2)
    · exact kq_str _ (pl_of (by decide +kernel))
  | prop mk q =>
    obtain ⟨h1, rfl⟩ := hg
    intro d hd
    simp only [Msg.head, List.mem_cons, List.not_mem_nil, or_false] at hd
    rcases hd with rfl | rfl
    · exact kq_str _ (pl_of (by decide +kernel))
    · exact kq_str _ (mk_pl h1)
theorem kq_shown {qs : List Str} {g : Msg} (hg : GOk qs g) (hq : ∀ p ∈ qs, Pl p) (n : Nat) : kqdOk (n + 2) (.list g.shown) = true := by
  show g.shown.all (kqdOk (n + 1)) = true
  rw [List.all_eq_true]
  intro d hd
  rw [shown_eq] at hd
  rcases List.mem_append.mp hd with hd | hd
  · exact kq_head hg _ d hd
  · rw [List.mem_singleton.mp hd]
    refine kq_texts _ ?_
    rcases parts_of hg with e | e <;> rw [e]
    · exact hq
    · exact fun p h => nomatch h
theorem hexT_pl : ∀ k : Fin 128, (hexT k.val).cps.toList.all (fun c => decide (c < 128) && c != 42) = true := by decide +kernel
structure As (x : Str) : Prop where
  h : ∀ c ∈ x.cps.toList, c < 128
theorem Pl.as {x : Str} (h : Pl x) : As x := ⟨fun c hc => (h c hc).1⟩
theorem As.app {a b : Str} (h1 : As a) (h2 : As b) : As (a ++ b) := ⟨fun c hc => by
  rw [toL_app] at hc
  rcases List.mem_append.mp hc with h | h
  · exact h1.h c h
  · exact h2.h c h⟩
theorem dress_as {b nl : Str} {sm dl : Bool} (h : Pl b) (hn : Pl nl) : As (dress b sm dl nl) := by
  cases sm
  · rw [dress_n]
    exact (dl_pl dl).as.app (h.as.app hn.as)
  · rw [dress_s]
    have q := pl_of (hexT_pl ⟨csum b, (csum_small h).1⟩)
    refine ((dl_pl dl).as.app h.as).app (As.app ⟨fun c hc => ?_⟩ (q.as.app hn.as))
    rw [List.mem_singleton.mp hc]
    decide
theorem kq_as {x : Str} (n : Nat) (h : As x) : kqdOk n (.str x) = true := by
  have : PyData.strOk x = true := by
    unfold PyData.strOk
    rw [← Array.all_toList, List.all_eq_true]
    intro c hc
    have := h.h c hc
    exact decide_eq_true (by omega)
  cases n <;> exact this
end Mine
end

/- text My20 -/

namespace Mine
theorem off_My20 : True := by
  w_top off
  exact trivial
end Mine
section
open PySem PySem.W PyProof.Rows PySem.Spec PySem.Calls
set_option maxRecDepth 100000
set_option linter.all false
namespace Mine
theorem push1 {T : List Value} {a : Value} {e : Nat} : PySem.W.listOf (T.toArray.push a) e = PySem.W.listOf (T ++ [a]).toArray e := by
  simp
structure NmU (m : Str → Option Value) (tx bh : Value) : Prop where
  text : m (Str.ofString "text") = some tx
  behind : m (Str.ofString "behind") = some bh
structure NmA (m : Str → Option Value) (v : Value) : Prop where
  again : m (Str.ofString "again") = some v
/-- what a turn has made beside told and due -/
structure Ext (told due : Addr) (W RR : List (Addr × Obj)) : Prop where
  h : ∀ w ∈ W, told < w.1 ∧ due < w.1 ∧ AllLt w.1 RR
theorem Ext.nil {told due : Addr} {RR : List (Addr × Obj)} : Ext told due [] RR := ⟨fun _ h => nomatch h⟩
theorem allLt_drop {a : Addr} : ∀ {W RR : List (Addr × Obj)}, AllLt a (W ++ RR) → AllLt a RR
  | [], _, h => h
  | _ :: _, _, h => allLt_drop h.2
theorem allLt_left {a : Addr} : ∀ {W RR : List (Addr × Obj)}, AllLt a (W ++ RR) → AllLt a W
  | [], _, _ => trivial
  | _ :: _, _, h => ⟨h.1, allLt_left h.2⟩
theorem Ext.app {told due : Addr} {W2 W RR : List (Addr × Obj)} (h2 : Ext told due W2 (W ++ RR)) (h : Ext told due W RR) : Ext told due (W2 ++ W) RR := ⟨fun w hw => by
  rcases List.mem_append.mp hw with hw | hw
  · obtain ⟨a, b, c⟩ := h2.h w hw
    exact ⟨a, b, allLt_drop c⟩
  · exact h.h w hw⟩
theorem Ext.off {told due : Addr} {W RR : List (Addr × Obj)} (h : Ext told due W RR) (o : Off told due RR) : Off told due (W ++ RR) := by
  refine ⟨o.dt, o.td, fun p hp => ?_, fun p hp => ?_⟩
  · rcases List.mem_append.mp hp with hp | hp
    · exact Nat.ne_of_gt (h.h p hp).1
    · exact o.r1 p hp
  · rcases List.mem_append.mp hp with hp | hp
    · exact Nat.ne_of_gt (h.h p hp).2.1
    · exact o.r2 p hp
theorem read_ext {told due kd dx r l : Nat} {o1 o2 o3 : Obj} {RR : List (Addr × Obj)} (h : told < kd ∧ due < kd ∧ AllLt kd RR) (h1 : kd < dx) (h2 : dx < r) (h3 : r < l) : Ext told due [(l, o1), (r, o2), (dx, o3)] RR := by
  obtain ⟨a, b, c⟩ := h
  refine ⟨fun w hw => ?_⟩
  simp only [List.mem_cons, List.not_mem_nil, or_false] at hw
  rcases hw with rfl | rfl | rfl
  · exact ⟨Nat.lt_trans a (Nat.lt_trans h1 (Nat.lt_trans h2 h3)), Nat.lt_trans b (Nat.lt_trans h1 (Nat.lt_trans h2 h3)), allLt_up (Nat.le_of_lt (Nat.lt_trans h1 (Nat.lt_trans h2 h3))) c⟩
  · exact ⟨Nat.lt_trans a (Nat.lt_trans h1 h2), Nat.lt_trans b (Nat.lt_trans h1 h2), allLt_up (Nat.le_of_lt (Nat.lt_trans h1 h2)) c⟩
  · exact ⟨Nat.lt_trans a h1, Nat.lt_trans b h1, allLt_up (Nat.le_of_lt h1) c⟩
theorem one_ext {told due r : Nat} {o : Obj} {RR : List (Addr × Obj)} (h : told < r ∧ due < r ∧ AllLt r RR) : Ext told due [(r, o)] RR := by
  refine ⟨fun w hw => ?_⟩
  rw [List.mem_singleton.mp hw]
  exact h
theorem sub4 {α : Type} {t d a b c k : α} {RR : List α} : ∀ p ∈ t :: d :: ([a, b, c] ++ RR), p ∈ a :: b :: c :: k :: t :: d :: RR := by
  intro p hp
  simp only [List.mem_cons, List.mem_append, List.not_mem_nil, or_false] at hp ⊢
  rcases hp with h | h | (h | h | h) | h
  · exact .inr (.inr (.inr (.inr (.inl h))))
  · exact .inr (.inr (.inr (.inr (.inr (.inl h)))))
  · exact .inl h
  · exact .inr (.inl h)
  · exact .inr (.inr (.inl h))
  · exact .inr (.inr (.inr (.inr (.inr (.inr h)))))
structure Sub (W RR : List (Addr × Obj)) : Prop where
  h : ∀ p ∈ W, p ∈ RR
theorem Sub.left {W RR : List (Addr × Obj)} : Sub W (W ++ RR) := ⟨fun _ h => List.mem_append_left _ h⟩
section
variable {prog : Program} {w : World} {A : Around} {E : Value → Shared → Prop} {s : Shared} {h₀ : Heap} {L D : Addr} {m : Str → Option Value} {news news' : List (Addr × Obj)} {tl : List (Str × Tok)} {a b : Str} {t t' u : Tok} {n : Nat} {value slice : Expr}
theorem last_sub {Q : Value → Shared → Prop} (N : News h₀ L s.heap news) (hm : (D, PySem.W.listOf (strValues (tl ++ [(a, t)])).toArray n) ∈ news) (h : Q (.str a t) s)
    (hs : subscripted slice false (.ref D) (.int (-1) u) = operate [.ref D, .int (-1) u] (getItem (.ref D) (.int (-1) u)) := by with_unfolding_all rfl) (hg : ∀ r, letTemporaryGo value (.ref D) r = pure () := by intro _; with_unfolding_all rfl) :
    wpAny (model prog w) A (subscriptTail value slice (.ref D) (.int (-1) u)) Q E s := by
  have hl : (strValues (tl ++ [(a, t)])).length = tl.length + 1 := by simp [strValues]
  refine kim_back N hm rfl rfl (by decide) (by rw [hl]; omega) (by decide) ?_ h hs hg
  rw [hl]
  have e : ((-1 : Int) + ((tl.length + 1 : Nat) : Int)).toNat = tl.length := by omega
  rw [e]
  simp [strValues]
theorem ki_setL_last {v : Value} : ∀ {l : List Value} {x : Value}, ki_setL (l ++ [x]) l.length v = some (l ++ [v])
  | [], _ => rfl
  | y :: l, x => by
    show (match ki_setL (l ++ [x]) l.length v with | some q => some (y :: q) | none => none) = some (y :: (l ++ [v]))
    rw [ki_setL_last]
theorem last_set {Q : Unit → Shared → Prop} (F : Fr h₀ L s.heap m) (N : News h₀ L s.heap news) (U : Upd D (PySem.W.listOf (strValues (tl ++ [(a, t)])).toArray n) (PySem.W.listOf (strValues (tl ++ [(b, t')])).toArray n) news news')
    (h : ∀ h', Fr h₀ L h' m → News h₀ L h' news' → Q () { s with heap := h' }) : wpAny (model prog w) A (setItem (.ref D) (.int (-1) u) (.str b t')) Q E s := by
  have hl : (strValues (tl ++ [(a, t)])).length = tl.length + 1 := by simp [strValues]
  have e1 : ∀ (x : Str) (y : Tok), strValues (tl ++ [(x, y)]) = strValues tl ++ [.str x y] := fun x y => by simp [strValues]
  refine ki_setNeg (j := tl.length) F N (by decide) (by decide) ?_ (q := strValues (tl ++ [(b, t')])) ?_ U h
  · rw [List.size_toArray, hl, PySem.seqIndex_neg (by decide) (by omega)]
    congr 1
    omega
  · rw [e1, e1]
    have := ki_setL_last (v := .str b t') (l := strValues tl) (x := .str a t)
    rw [show (strValues tl).length = tl.length by simp [strValues]] at this
    exact this
end
theorem sub1 {α : Type} {t d a : α} {RR : List α} : ∀ p ∈ t :: d :: ([a] ++ RR), p ∈ a :: t :: d :: RR := by
  intro p hp
  simp only [List.mem_cons, List.mem_append, List.not_mem_nil, or_false] at hp ⊢
  rcases hp with h | h | h | h
  · exact .inr (.inl h)
  · exact .inr (.inr (.inl h))
  · exact .inl h
  · exact .inr (.inr (.inr h))
theorem push_b {T : List Value} {x a : Value} {e : Nat} : PySem.W.listOf ((T ++ [x]).toArray.push a) e = PySem.W.listOf (T ++ [x, a]).toArray e := by
  simp
theorem rb_nl {g g' : Msg} {nl : Str} (h : readBack g false nl = some g') (hq : g.isQ = true) : nl = Str.ofString "" := by
  cases g with
  | talk C st tk ps => exact Bool.noConfusion hq
  | prop mk ps => exact Bool.noConfusion hq
  | ques tk ot st =>
    have h2 : (if false = false ∧ nl ≠ Str.ofString "" then none else some (Msg.ques tk ot st)) = some g' := h
    by_cases hn : nl = Str.ofString ""
    · exact hn
    · rw [if_pos ⟨rfl, hn⟩] at h2
      exact nomatch h2
theorem rb_shown_q {g g' : Msg} {sm : Bool} {nl : Str} (h : readBack g sm nl = some g') (hq : g.isQ = true) : g'.shown = g.head ++ [textsD []] := by
  cases g with
  | talk C st tk ps => exact Bool.noConfusion hq
  | prop mk ps => exact Bool.noConfusion hq
  | ques tk ot st =>
    have h2 : (if sm = false ∧ nl ≠ Str.ofString "" then none else some (Msg.ques tk ot st)) = some g' := h
    by_cases hn : sm = false ∧ nl ≠ Str.ofString ""
    · rw [if_pos hn] at h2
      exact nomatch h2
    · rw [if_neg hn] at h2
      obtain rfl := Option.some.inj h2
      rfl
theorem rb_shown_n {g g' : Msg} {sm : Bool} {nl : Str} (h : readBack g sm nl = some g') (hq : ¬ g.isQ = true) : g'.shown = g.head ++ [textsD (rowsT g.parts sm nl)] := by
  cases g with
  | ques tk ot st => exact absurd rfl hq
  | talk C st tk ps =>
    obtain rfl := Option.some.inj h
    rfl
  | prop mk ps =>
    obtain rfl := Option.some.inj h
    rfl
theorem rb_body {g g' : Msg} {sm : Bool} {nl : Str} (h : readBack g sm nl = some g') : g'.body = g.body ++ nlx sm nl := by
  cases g with
  | talk C st tk ps =>
    obtain rfl := Option.some.inj h
    show (tk ++ st ++ Str.ofString ",") ++ joinT (rowsT ps sm nl) = ((tk ++ st ++ Str.ofString ",") ++ joinT ps) ++ nlx sm nl
    rw [rows_join, Str.append_assoc (tk ++ st ++ Str.ofString ",")]
  | prop mk ps =>
    obtain rfl := Option.some.inj h
    show (Str.ofString "P" ++ mk) ++ joinT (rowsT ps sm nl) = ((Str.ofString "P" ++ mk) ++ joinT ps) ++ nlx sm nl
    rw [rows_join, Str.append_assoc (Str.ofString "P" ++ mk)]
  | ques tk ot st =>
    have h2 : (if sm = false ∧ nl ≠ Str.ofString "" then none else some (Msg.ques tk ot st)) = some g' := h
    by_cases hn : sm = false ∧ nl ≠ Str.ofString ""
    · rw [if_pos hn] at h2
      exact nomatch h2
    · rw [if_neg hn] at h2
      obtain rfl := Option.some.inj h2
      rw [nlx_emp hn, Str.append_empty]
theorem tl_snoc {tl : List (Str × Tok)} (h : tl ≠ []) : ∃ r a t, tl = r ++ [(a, t)] := ⟨tl.dropLast, (tl.getLast h).1, (tl.getLast h).2, (List.dropLast_concat_getLast h).symm⟩
theorem rows_of_snoc {r : List (Str × Tok)} {a nl : Str} {t t' : Tok} {ps : List Str} (h : (r ++ [(a, t)]).map (fun p => p.1) = rowsT ps true nl) : (r ++ [(a ++ nl, t')]).map (fun p => p.1) = rowsT ps false nl := by
  rw [List.map_append] at h ⊢
  cases ps with
  | nil =>
    rw [rows_true_nil] at h
    rw [rows_nil]
    cases r with
    | nil =>
      obtain rfl : a = Str.ofString "" := (List.cons.inj h).1
      show [Str.ofString "" ++ nl] = [nl]
      rw [emp_is, Str.empty_append]
    | cons b r =>
      have := congrArg List.length h
      simp at this
  | cons p q =>
    rw [rows_true] at h
    rw [← h]
    show _ = rowsT (r.map (fun p => p.1) ++ [a]) false nl
    rw [rows_snoc]
    rfl
theorem nmt_upd {m : Str → Option Value} {sm dl : Bool} {ev : Value} (n : NmT m sm dl ev) {y : Str} {v : Value} (h : [Str.ofString "summed", Str.ofString "dollar", Str.ofString "end"].all (fun z => z != y) = true) : NmT (fun z => if z = y then some v else m z) sm dl ev := by
  simp only [List.all_cons, List.all_nil, Bool.and_eq_true, bne_iff_ne, ne_eq, and_true] at h
  exact ⟨(if_neg h.1).trans n.summed, (if_neg h.2.1).trans n.dollar, (if_neg h.2.2).trans n.end_⟩
theorem nmu_upd {m : Str → Option Value} {a b : Value} (n : NmU m a b) {y : Str} {v : Value} (h : [Str.ofString "text", Str.ofString "behind"].all (fun z => z != y) = true) : NmU (fun z => if z = y then some v else m z) a b := by
  simp only [List.all_cons, List.all_nil, Bool.and_eq_true, bne_iff_ne, ne_eq, and_true] at h
  exact ⟨(if_neg h.1).trans n.text, (if_neg h.2).trans n.behind⟩
theorem nma_upd {m : Str → Option Value} {a : Value} (n : NmA m a) {y : Str} {v : Value} (h : (Str.ofString "again" != y) = true) : NmA (fun z => if z = y then some v else m z) a := by
  rw [bne_iff_ne] at h
  exact ⟨(if_neg h).trans n.again⟩
theorem three_ext {told due a b c : Nat} {o1 o2 o3 : Obj} {RR : List (Addr × Obj)} (h1 : told < a ∧ due < a ∧ AllLt a RR) (h2 : a < b ∧ told < b ∧ due < b ∧ AllLt b RR) (h3 : b < c ∧ a < c ∧ told < c ∧ due < c ∧ AllLt c RR) : Ext told due [(c, o1), (b, o2), (a, o3)] RR := by
  refine ⟨fun w hw => ?_⟩
  simp only [List.mem_cons, List.not_mem_nil, or_false] at hw
  rcases hw with rfl | rfl | rfl
  · exact h3.2.2
  · exact h2.2
  · exact h1
theorem sub3 {α : Type} {t d a b c : α} {RR : List α} : ∀ p ∈ t :: d :: ([a, b, c] ++ RR), p ∈ a :: b :: c :: t :: d :: RR := by
  intro p hp
  simp only [List.mem_cons, List.mem_append, List.not_mem_nil, or_false] at hp ⊢
  rcases hp with h | h | (h | h | h) | h
  · exact .inr (.inr (.inr (.inl h)))
  · exact .inr (.inr (.inr (.inr (.inl h))))
  · exact .inl h
  · exact .inr (.inl h)
  · exact .inr (.inr (.inl h))
  · exact .inr (.inr (.inr (.inr (.inr h))))
theorem parts_qs {ps : List Str} {g : Msg} (h : PsOk ps) (hg : GOk ps g) : QsOk g.parts := by
  rcases parts_of hg with e | e <;> rw [e]
  · exact h.qs
  · exact ⟨Nat.zero_le _, fun p h => nomatch h⟩
theorem head_len (g : Msg) : g.head.length ≤ 4 := by cases g <;> exact Nat.le_of_ble_eq_true rfl
/-- the sentence's pieces, then the list of its parts -/
theorem dat_shown {N : List (Addr × Obj)} {its : List Value} {hd : List Dat} {rows : Addr} {tl : List (Str × Tok)} {e : Nat} {ps : List Str} {sh : List Dat} (h : DatAll N its hd) (hr : (rows, PySem.W.listOf (strValues tl).toArray e) ∈ N) (hp : tl.map (fun p => p.1) = ps) (hs : sh = hd ++ [textsD ps]) : DatAll N (its ++ [Value.ref rows]) sh := by
  subst hp hs
  exact h.append (.cons (dat_list hr) .nil)
end Mine
end

/- text My21 -/

namespace Mine
theorem off_My21 : True := by
  w_top off
  exact trivial
end Mine
section
open PySem PySem.W PyProof.Rows PySem.Spec PySem.Calls
set_option maxRecDepth 100000
set_option linter.all false
namespace Mine
theorem turn_close2 {V : LV} {Eo R RR W all : List (Addr × Obj)} {b i : Nat} {m' : Str → Option Value} {h₀ h' : Heap} {L I : Addr} {it : Obj} {s₁ : Shared} {tk eT eD : Nat} {T D : List Value} {ds : List Dat} (J : Nat → (Str → Option Value) → List (Addr × Obj) → Prop)
    (hRR : RR = R ++ (I, it) :: Eo) (off : Off V.told V.due RR) (hRE : ∀ p ∈ R, ∀ q ∈ (I, it) :: Eo, p.1 ≠ q.1) (hEI : ∀ q ∈ Eo, q.1 ≠ I) (hh : (V.ha, V.he) ∈ R) (B : BaseF R V.g V.x V.pa V.sh V.tl V.its V.ep V.es)
    (F : Fr h₀ L h' m') (N : News h₀ L h' all) (hs : ∀ p ∈ (V.told, PySem.W.listOf T.toArray eT) :: (V.due, PySem.W.listOf D.toArray eD) :: (W ++ RR), p ∈ all)
    (nm : NmL m' V.sc V.sort V.ts V.x V.pa V.ha V.sh V.told V.due V.g.body (hexT (csum V.g.body)) V.tb V.td)
    (hW : Ext V.told V.due W RR) (dT : DatAll (W ++ R) T ds) (dD : DatAll (W ++ R) D ds) (hok : ∀ d ∈ ds, kqdOk 8 d = true) (hl : ds.length ≤ b)
    (hJ : ∀ nw, Inv V Eo b m' nw → J i m' nw) : TurnPost h₀ L J i (I, it) s₁ .next { s₁ with heap := h', toks := tk } := by
  refine turn_close (W := W) (T := T) (D := D) (eT := eT) (eD := eD) J hRR off hRE hEI hh B F (fun p hp => N p (hs p ?_)) nm hW.h dT dD hok hl hJ
  simp only [List.mem_cons, List.mem_append] at hp ⊢
  rcases hp with h | h | h | h
  · exact .inr (.inr (.inl h))
  · exact .inl h
  · exact .inr (.inl h)
  · exact .inr (.inr (.inr h))
theorem push_c {T : List Value} {x y a : Value} {e : Nat} : PySem.W.listOf ((T ++ [x, y]).toArray.push a) e = PySem.W.listOf (T ++ [x, y, a]).toArray e := by
  simp
theorem push_d {T : List Value} {x y a b : Value} {e : Nat} : PySem.W.listOf (((T ++ [x, y]).toArray.push a).push b) e = PySem.W.listOf (T ++ [x, y, a, b]).toArray e := by
  simp
/-- what a turn without a sum has told and has due -/
def dsN (b : Str) (sh : List Dat) (dl : Bool) (nl : Str) : List Dat := [.str (dress b false dl nl), .list sh, .str (dress b false dl nl)]
theorem told_N {N : List (Addr × Obj)} {T : List Value} {ds sh : List Dat} {b : Str} {dl : Bool} {nl : Str} {r : Addr} {its : List Value} {e : Nat} {t1 t2 : Tok} {x1 x3 : Str} (dT : DatAll N T ds) (hr : (r, PySem.W.listOf its.toArray e) ∈ N) (hd : DatAll N its sh)
    (e1 : x1 = dress b false dl nl) (e3 : x3 = dress b false dl nl) : DatAll N (T ++ [Value.str x1 t1, Value.ref r, Value.str x3 t2]) (ds ++ dsN b sh dl nl) := by
  subst e1 e3
  exact dT.append (.cons (.str _ _) (.cons (.list hr hd) (.cons (.str _ _) .nil)))
theorem told_S {N : List (Addr × Obj)} {T : List Value} {ds sh : List Dat} {b : Str} {dl : Bool} {nl : Str} {r : Addr} {its : List Value} {e : Nat} {t1 t2 t3 : Tok} {x1 x3 x4 : Str} (dT : DatAll N T ds) (hr : (r, PySem.W.listOf its.toArray e) ∈ N) (hd : DatAll N its sh)
    (e1 : x1 = dress b true dl nl) (e3 : x3 = dress b true dl nl) (e4 : x4 = dress b false (!dl) Str.empty) : DatAll N (T ++ [Value.str x1 t1, Value.ref r, Value.str x3 t2, Value.str x4 t3]) (ds ++ dsU b sh dl nl) := by
  subst e1 e3 e4
  exact dT.append (.cons (.str _ _) (.cons (.list hr hd) (.cons (.str _ _) (.cons (.str _ _) .nil))))
theorem told_1 {N : List (Addr × Obj)} {T : List Value} {ds sh : List Dat} {r : Addr} {its : List Value} {e : Nat} {t1 : Tok} {x1 : Str} (dT : DatAll N T ds) (hr : (r, PySem.W.listOf its.toArray e) ∈ N) (hd : DatAll N its sh) : DatAll N (T ++ [Value.str x1 t1, Value.ref r]) (ds ++ [.str x1, .list sh]) :=
  dT.append (.cons (.str _ _) (.cons (.list hr hd) .nil))
theorem rb_pl {ps : List Str} {g : Msg} (hp : PsOk ps) (hg : GOk ps g) : Pl g.body := (body_ok hp hg).pl
theorem kq_back {ps : List Str} {g g' : Msg} {sm : Bool} {nl : Str} (hp : PsOk ps) (hg : GOk ps g) (hn : NlOk nl) (h : readBack g sm nl = some g') : kqdOk 8 (.list g'.shown) = true :=
  kq_shown (back_gok hg h) (fun p hp' => ((rows_qs hp hn).all p hp').2) 6
theorem ok_S {ps : List Str} {g g' : Msg} {ds : List Dat} {dl : Bool} {nl : Str} (hp : PsOk ps) (hg : GOk ps g) (hn : NlOk nl) (h : readBack g true nl = some g') (hd : ∀ d ∈ ds, kqdOk 8 d = true) : ∀ d ∈ ds ++ dsU g.body g'.shown dl nl, kqdOk 8 d = true := by
  intro d hd'
  rcases List.mem_append.mp hd' with q | q
  · exact hd d q
  simp only [dsU, List.mem_cons, List.not_mem_nil, or_false] at q
  rcases q with rfl | rfl | rfl | rfl
  · exact kq_as _ (dress_as (rb_pl hp hg) (nl_pl hn))
  · exact kq_back hp hg hn h
  · exact kq_as _ (dress_as (rb_pl hp hg) (nl_pl hn))
  · exact kq_as _ (dress_as (rb_pl hp hg) pl_empty)
theorem ok_N {ps : List Str} {g g' : Msg} {ds : List Dat} {dl : Bool} {nl : Str} (hp : PsOk ps) (hg : GOk ps g) (hn : NlOk nl) (h : readBack g false nl = some g') (hd : ∀ d ∈ ds, kqdOk 8 d = true) : ∀ d ∈ ds ++ dsN g.body g'.shown dl nl, kqdOk 8 d = true := by
  intro d hd'
  rcases List.mem_append.mp hd' with q | q
  · exact hd d q
  simp only [dsN, List.mem_cons, List.not_mem_nil, or_false] at q
  rcases q with rfl | rfl | rfl
  · exact kq_as _ (dress_as (rb_pl hp hg) (nl_pl hn))
  · exact kq_back hp hg hn h
  · exact kq_as _ (dress_as (rb_pl hp hg) (nl_pl hn))
theorem back_dress {g g' : Msg} {dl : Bool} {nl : Str} (h : readBack g false nl = some g') : dress g'.body false dl Str.empty = dress g.body false dl nl := by
  rw [rb_body h, dress_n, dress_n, Str.append_empty]
  rfl
theorem back_body {g g' : Msg} {nl : Str} (h : readBack g true nl = some g') : g'.body = g.body := by
  rw [rb_body h]
  exact Str.append_empty _
end Mine
namespace Mine
theorem dat_no {N N' : List (Addr × Obj)} {its : List Value} {x : Str} (h : DatAll N its [.str x]) : DatAll N' its [.str x] := by
  cases h with
  | cons a r =>
    cases r
    cases a
    exact .cons (.str _ _) .nil
theorem ok_No {ps : List Str} {g : Msg} {ds : List Dat} {dl : Bool} {nl : Str} (hp : PsOk ps) (hg : GOk ps g) (hn : NlOk nl) (hd : ∀ d ∈ ds, kqdOk 8 d = true) : ∀ d ∈ ds ++ [.str (dress g.body false dl nl), .list [.str (Str.ofString "no sentence")]], kqdOk 8 d = true := by
  intro d hd'
  rcases List.mem_append.mp hd' with q | q
  · exact hd d q
  simp only [List.mem_cons, List.not_mem_nil, or_false] at q
  rcases q with rfl | rfl
  · exact kq_as _ (dress_as (rb_pl hp hg) (nl_pl hn))
  · show [Dat.str (Str.ofString "no sentence")].all (kqdOk 7) = true
    rw [List.all_cons, kq_str 7 (pl_of (by decide +kernel))]
    rfl
end Mine
namespace Mine
structure S2 (s : Int) (b : Bool) : Prop where
  h : (s == 2) = b
theorem is2_talk {g : Msg} (h : g.is2 = true) : ∃ st tk ps, g = .talk 265 st tk ps := by
  cases g with
  | talk C st tk ps =>
    have e : C = 265 := beq_iff_eq.mp h
    subst e
    exact ⟨_, _, _, rfl⟩
  | ques tk ot st => exact Bool.noConfusion h
  | prop mk ps => exact Bool.noConfusion h
end Mine
namespace Mine
theorem dat_texts_eq {N : List (Addr × Obj)} {l : Addr} {tl : List (Str × Tok)} {e : Nat} {ps : List Str} (h : (l, PySem.W.listOf (strValues tl).toArray e) ∈ N) (hp : tl.map (fun p => p.1) = ps) : DatIn N (.ref l) (textsD ps) := by
  subst hp
  exact dat_list h
theorem dat_copy {N : List (Addr × Obj)} {l : Addr} {its : List Value} {e : Nat} {ps : List Str} (h : (l, PySem.W.listOf its.toArray e) ∈ N) (hd : DatAll [] its (ps.map .str)) : DatIn N (.ref l) (textsD ps) :=
  .list h (hd.mono (fun p hp => absurd hp (List.not_mem_nil)))
theorem late_map {tl : List (Str × Tok)} {t : Tok} {ps : List Str} (h : tl.map (fun p => p.1) = ps) : (tl ++ [(Str.ofString "late", t)]).map (fun p => p.1) = ps ++ [Str.ofString "late"] := by
  rw [List.map_append, h]
  rfl
end Mine
namespace Mine
section
variable {prog : Program} {w : World} {A : Around} {E : Value → Shared → Prop} {s : Shared} {h₀ : Heap} {L : Addr} {m : Str → Option Value} {news : List (Addr × Obj)}
theorem add_carried {α : Type} {g : α → Str} {l : List α} {ys : List Value} {a b : Addr} {x : Str} {t : Tok} {Q : Value → Shared → Prop} (F : Fr h₀ L s.heap m) (N : News h₀ L s.heap news) (hc : CarriedAll ys (l.map fun k => PyData.str (g k))) (ha : (a, LCg.lst ys) ∈ news) (hb : (b, PySem.W.listOf #[.str x t] 0) ∈ news) (hl : l.length ≤ 9)
    (h : ∀ D h' tl, tl.map (fun p => p.1) = l.map g → Fr h₀ L h' m → News h₀ L h' ((D, PySem.W.listOf (strValues (tl ++ [(x, t)])).toArray 0) :: news) → (∀ p ∈ news, p.1 < D) → Q (.ref D) { s with heap := h' }) : wpAny (model prog w) A (binaryOp .Add (.ref a) (.ref b)) Q E s := by
  obtain ⟨tl, rfl, e2⟩ := carried_texts hc
  refine add_led (vs := strValues tl) (ws := [.str x t]) F N (e1 := (strValues tl).length) (e2 := 0) ha hb ?_ ?_
  · have := congrArg List.length e2
    simp only [List.length_map] at this
    simp only [strValues, List.length_map, List.length_cons, List.length_nil]
    omega
  · intro D h' F' N' l1
    refine h D h' tl e2 F' ?_ l1
    have e : strValues (tl ++ [(x, t)]) = strValues tl ++ [.str x t] := by simp [strValues]
    rw [e]
    exact N'
end
end Mine
namespace Mine
/-- what stands behind the turns -/
def lastD (g : Msg) (ps : List Str) : List Dat := [.list g.shown, textsD (ps ++ [Str.ofString "late"]), .str (dress g.body true true Str.empty), textsD (if g.is2 = true then g.parts else [])]
theorem ok_last {ps : List Str} {g : Msg} {ds : List Dat} (hp : PsOk ps) (hg : GOk ps g) (hd : ∀ d ∈ ds, kqdOk 8 d = true) : ∀ d ∈ ds ++ [.list (lastD g ps)], kqdOk 8 d = true := by
  intro d hd'
  rcases List.mem_append.mp hd' with q | q
  · exact hd d q
  rw [List.mem_singleton.mp q]
  show (lastD g ps).all (kqdOk 7) = true
  have hq := parts_qs hp hg
  rw [List.all_eq_true]
  intro d hd
  simp only [lastD, List.mem_cons, List.not_mem_nil, or_false] at hd
  rcases hd with rfl | rfl | rfl | rfl
  · exact kq_shown hg (fun p h => (hp.qs.all p h).2) 5
  · refine kq_texts 6 fun p h => ?_
    rcases List.mem_append.mp h with h | h
    · exact (hp.qs.all p h).2
    · rw [List.mem_singleton.mp h]
      exact pl_of (by decide +kernel)
  · exact kq_as _ (dress_as (rb_pl hp hg) pl_empty)
  · refine kq_texts 6 fun p h => ?_
    by_cases h2 : g.is2 = true
    · rw [if_pos h2] at h
      exact (hq.all p h).2
    · rw [if_neg h2] at h
      exact nomatch h
theorem sub7 {α : Type} {t d a b c x y z w : α} {RR : List α} : ∀ p ∈ t :: d :: ([a, b, c] ++ RR), p ∈ a :: b :: x :: y :: z :: c :: w :: t :: d :: RR := by
  intro p hp
  simp only [List.mem_cons, List.mem_append, List.not_mem_nil, or_false] at hp ⊢
  rcases hp with h | h | (h | h | h) | h
  · exact .inr (.inr (.inr (.inr (.inr (.inr (.inr (.inl h)))))))
  · exact .inr (.inr (.inr (.inr (.inr (.inr (.inr (.inr (.inl h))))))))
  · exact .inl h
  · exact .inr (.inl h)
  · exact .inr (.inr (.inr (.inr (.inr (.inl h)))))
  · exact .inr (.inr (.inr (.inr (.inr (.inr (.inr (.inr (.inr h))))))))
theorem sub8 {α : Type} {t d a e b c x y z w : α} {RR : List α} : ∀ p ∈ t :: d :: ([a, e, b, c] ++ RR), p ∈ a :: e :: b :: x :: y :: z :: c :: w :: t :: d :: RR := by
  intro p hp
  simp only [List.mem_cons, List.mem_append, List.not_mem_nil, or_false] at hp ⊢
  rcases hp with h | h | (h | h | h | h) | h
  · exact .inr (.inr (.inr (.inr (.inr (.inr (.inr (.inr (.inl h))))))))
  · exact .inr (.inr (.inr (.inr (.inr (.inr (.inr (.inr (.inr (.inl h)))))))))
  · exact .inl h
  · exact .inr (.inl h)
  · exact .inr (.inr (.inl h))
  · exact .inr (.inr (.inr (.inr (.inr (.inr (.inl h))))))
  · exact .inr (.inr (.inr (.inr (.inr (.inr (.inr (.inr (.inr (.inr h)))))))))
theorem last_text {b : Str} : Str.ofString "$" ++ b ++ Str.ofString "*" ++ hexT (csum b) = dress b true true Str.empty := by
  simp only [dress, if_true, Str.append_empty, Str.append_assoc]
end Mine
namespace Mine
/-- a mark: the law's second part is walked -/
structure Ph2 : Prop where
  h : True
end Mine
namespace Mine
open PySem PySem.W PySem.Calls PyProof.Rows
theorem start_prop2 {psl : List Str} {sort : Int} {ts : Tok} {sc : Value} {tl : List (Str × Tok)} {ha : Addr} {eh : Nat} {m' : Str → Option Value} {h₀ h' : Heap} {L : Addr} {s : Shared} {k : Nat}
    {x pa sh dx l : Addr} {h1 h2 : Int} {t1 t2 t3 a b tb : Tok} {n e e1 ep : Nat} {mk bt : Str} (hmk : MkOk mk) (hps : tl.map (fun p => p.1) = psl)
    (F : Fr h₀ L h' m') (N : News h₀ L h' [(sh, PySem.W.listOf #[.str (Str.ofString "maker") a, .str mk b] e1), (l, PySem.W.listOf (strValues tl).toArray e), (x, instObj 244 dx), (dx, dictOf [⟨h1, .str (Str.ofString "manufacturer") t1, .str mk t2⟩, ⟨h2, .str (Str.ofString "data") t3, .ref l⟩] n), (ha, PySem.W.listOf (strValues tl).toArray eh), (pa, PySem.W.listOf (strValues tl).toArray ep)])
    (g3 : (sort == 3) = false) (g2 : (sort == 2) = false) (nm : NmS m' sc sort ts x pa ha sh bt tb) (hb : bt = Str.ofString "P" ++ mk ++ joinT psl)
    (a1 : @Ne Nat dx ha) (a2 : @Ne Nat x ha) (a3 : @Ne Nat l ha) (a4 : @Ne Nat sh ha) (a5 : @Ne Nat pa ha) : CutG h₀ L s (Start psl sort ts sc tl ha eh) .next { s with heap := h', toks := k } := by
  subst hb
  refine start_end (g := .prop mk psl) (rest := [(sh, PySem.W.listOf #[.str (Str.ofString "maker") a, .str mk b] e1), (l, PySem.W.listOf (strValues tl).toArray e), (x, instObj 244 dx), (dx, dictOf [⟨h1, .str (Str.ofString "manufacturer") t1, .str mk t2⟩, ⟨h2, .str (Str.ofString "data") t3, .ref l⟩] n), (pa, PySem.W.listOf (strValues tl).toArray ep)])
    F N ⟨hmk, rfl⟩ g3 g2 nm ?_ ?_ (.tail _ (.tail _ (.tail _ (.tail _ (.head _)))))
    ⟨msg_prop (.tail _ (.tail _ (.head _))) (.tail _ (.tail _ (.tail _ (.head _)))) (.tail _ (.head _)) rfl hps, .tail _ (.tail _ (.tail _ (.tail _ (.head _)))), hps, .head _, .cons (.str _ _) (.cons (.str _ _) .nil)⟩
  · intro p hp
    simp only [List.mem_cons, List.not_mem_nil, or_false] at hp ⊢
    rcases hp with rfl | rfl | rfl | rfl | rfl <;> simp
  · intro p hp
    simp only [List.mem_cons, List.not_mem_nil, or_false] at hp
    rcases hp with rfl | rfl | rfl | rfl | rfl
    · exact a4
    · exact a3
    · exact a2
    · exact a1
    · exact a5
theorem start_ques2 {psl : List Str} {sort : Int} {ts : Tok} {sc : Value} {tl : List (Str × Tok)} {ha : Addr} {eh : Nat} {m' : Str → Option Value} {h₀ h' : Heap} {L : Addr} {s : Shared} {k : Nat} {q1 : Addr × Obj}
    {x pa sh dx l : Addr} {h1 h2 h3 h4 : Int} {t1 t2 t3 t4 t5 t6 t7 a b c d tb : Tok} {n e e1 ep : Nat} {tk ot bt : Str} (htk : TkOk tk) (hot : TkOk ot)
    (F : Fr h₀ L h' m') (N : News h₀ L h' [(pa, PySem.W.listOf #[] ep), (sh, PySem.W.listOf #[.str (Str.ofString "question") a, .str tk b, .str ot c, .str (Str.ofString "WPL") d] e1), (l, PySem.W.listOf #[] e), (x, instObj 218 dx), (dx, dictOf [⟨h1, .str (Str.ofString "talker") t1, .str tk t4⟩, ⟨h2, .str (Str.ofString "listener") t2, .str ot t5⟩, ⟨h3, .str (Str.ofString "sentence_type") t3, .str (Str.ofString "WPL") t6⟩, ⟨h4, .str (Str.ofString "data") t7, .ref l⟩] n), (ha, PySem.W.listOf (strValues tl).toArray eh), q1])
    (g3 : (sort == 3) = true) (g2 : (sort == 2) = false) (nm : NmS m' sc sort ts x pa ha sh bt tb) (hb : bt = tk ++ ot ++ Str.ofString "Q,WPL")
    (a1 : @Ne Nat dx ha) (a2 : @Ne Nat x ha) (a3 : @Ne Nat l ha) (a4 : @Ne Nat sh ha) (a5 : @Ne Nat pa ha) : CutG h₀ L s (Start psl sort ts sc tl ha eh) .next { s with heap := h', toks := k } := by
  have N2 : News h₀ L h' [(pa, PySem.W.listOf #[] ep), (sh, PySem.W.listOf #[.str (Str.ofString "question") a, .str tk b, .str ot c, .str (Str.ofString "WPL") d] e1), (l, PySem.W.listOf #[] e), (x, instObj 218 dx), (dx, dictOf [⟨h1, .str (Str.ofString "talker") t1, .str tk t4⟩, ⟨h2, .str (Str.ofString "listener") t2, .str ot t5⟩, ⟨h3, .str (Str.ofString "sentence_type") t3, .str (Str.ofString "WPL") t6⟩, ⟨h4, .str (Str.ofString "data") t7, .ref l⟩] n), (pa, PySem.W.listOf #[] ep), (ha, PySem.W.listOf (strValues tl).toArray eh), q1] := by
    intro p hp
    refine N p ?_
    simp only [List.mem_cons, List.not_mem_nil, or_false] at hp ⊢
    rcases hp with h | h | h | h | h | h | h | h
    · exact .inl h
    · exact .inr (.inl h)
    · exact .inr (.inr (.inl h))
    · exact .inr (.inr (.inr (.inl h)))
    · exact .inr (.inr (.inr (.inr (.inl h))))
    · exact .inl h
    · exact .inr (.inr (.inr (.inr (.inr (.inl h)))))
    · exact .inr (.inr (.inr (.inr (.inr (.inr h)))))
  exact start_ques htk hot F N2 g3 g2 nm hb a1 a2 a3 a4 a5
end Mine
end

/- text C15 -/

namespace Mine
theorem off_C15 : True := by
  w_top off
  exact trivial
end Mine
section
open PySem PySem.W PyProof.Rows PySem.Spec PySem.Calls
set_option linter.all false
namespace Mine
local macro_rules | `(tactic| k_room) => `(tactic| ktr_room)
local macro_rules | `(tactic| k_units) => `(tactic| ktr_units)
local macro_rules | `(tactic| walk_at "getAttr ref") => `(tactic| (k_here; k_dflt (refine' Mine.own_hook ?k1 ?k2 ?k3 ?k4 ?k6 ?k7 ?k8 ?k9 ?k10 ?_; (case k3 => k_inst); (case k1 => k_asm); (case k2 => k_asm); (case k4 => k_is); (case k6 => k_is); (case k7 => k_is); (case k8 => k_is); (case k9 => k_get); (case k10 => k_handed); k_whole)))
local macro_rules | `(tactic| walk_at "getMethod ref") => `(tactic| (k_here; k_dflt (refine' Mine.meth_hook ?k1 ?k2 ?k3 ?k4 ?k5 ?k6 ?k7 ?k8 ?k9 ?k10 ?k11 ?k12 ?k13 ?_; (case k4 => k_inst); (case k1 => k_asm); (case k2 => k_asm); (case k3 => k_asm); (case k5 => k_is); (case k6 => k_is); (case k7 => k_is); (case k8 => k_is); (case k9 => k_is); (case k10 => k_is); (case k11 => k_is); (case k12 => decide +kernel); (case k13 => k_get); k_whole); intro q' h' F' N' l1; (try k_lt l1); (try k_sweep)))
local macro_rules | `(tactic| k_mem) => `(tactic| ((show (_ : PySem.Addr × PySem.Obj) ∈ (_ : List (PySem.Addr × PySem.Obj))); ktr_member))
local macro_rules | `(tactic| walk_at "call builtin:str.join") => `(tactic| (k_here; (with_reducible show wpAny _ _ (call (Value.builtin "str.join") [Value.str _ _, Value.ref _]) _ _ _); k_dflt (refine' Mine.join_led ?k1 ?k2 ?k3 ?_; (case k1 => k_asm); (case k2 => k_mem); (case k3 => assumption)); intro _ _))
local macro_rules | `(tactic| walk_at "call type:map") => `(tactic| (k_here; k_dflt (refine' Mine.map_K ?k1 ?k2 ?k3 ?_; (case k1 => k_asm); (case k2 => k_asm); (case k3 => assumption); k_whole); intro _ h' hMK F' N'))
local macro_rules | `(tactic| walk_at "call builtin:_functools.reduce") => `(tactic| (k_here; k_dflt (refine' Mine.reduce_K ?k1 ?k2 ?_; (case k1 => k_asm); (case k2 => exact rfl); k_whole); intro h' _ _ F' N'))
local macro_rules | `(tactic| walk_at "binaryOp Mod str int") => `(tactic| (k_here; (with_reducible show wpAny _ _ (binaryOp Operator.Mod (Value.str _ _) (Value.int (Mine.xorFrom _ _) _)) _ _ _); k_dflt (refine' Mine.pct_hex ?k1 ?k2 ?_; (case k1 => exact (Mine.xor_small (by assumption)).1); (case k2 => exact (Mine.xor_small (by assumption)).2)); intro hHX _ _))
local macro_rules | `(tactic| walk_at "inplaceOp Add str str") => `(tactic| (k_here; (refine PyProof.Rows.SBL.iadd (hsz := ?hsz) ?_); (case hsz => (simp only [PySem.Str.length_append, Mine.lit_len, PySem.sizeLine_eq]; omega)); intro _ _ _))
local macro_rules | `(tactic| walk_at "binaryOp Add str str") => `(tactic| (k_here; (refine PyProof.Rows.SBL.add (hsz := ?hsz) ?_); (case hsz => (simp only [PySem.Str.length_append, Mine.lit_len, PySem.sizeLine_eq]; omega)); intro _ _ _))
local macro_rules | `(tactic| walk_at "call builtin:isinstance") => `(tactic| (k_here; (with_reducible show wpAny _ _ (call _ [Value.ref _, Value.ref _]) _ _ _); k_dflt (refine' Mine.isn_hook ?k1 ?k2 ?k3 ?k4 ?k5 ?k6 ?k7 ?k8 ?k9 ?k10 ?_; (case k1 => k_in); (case k2 => k_inst); (case k3 => kin_no); (case k4 => k_is); (case k5 => k_is); (case k6 => k_is); (case k7 => k_is); (case k8 => k_is); (case k9 => k_is); (case k10 => k_is); k_whole); (try dsimp only)))
local macro_rules | `(tactic| walk_at "truthy ref") => `(tactic| (k_here; k_dflt (refine' Mine.truthy_cls ?k1 ?k2 ?k3 ?k4 ?_; (case k1 => k_asm); (case k2 => k_asm); (case k3 => k_is); (case k4 => k_is); k_whole)))
local macro_rules | `(tactic| walk_at "call type:list") => `(tactic| (k_here; (with_reducible show wpAny _ _ (call (Value.type "list") [Value.ref _]) _ _ _); k_dflt (refine' list_copyK ?k1 ?k2 ?k3 ?_ ?z; (case k1 => k_asm); (case k2 => k_asm); (case k3 => exact News.isList (by k_asm) (by k_mem)); (case z => (simp only [List.size_toArray, strValues, List.length_map, PySem.sizeLine_eq]; omega)); k_whole); intro D' c' h' F' N' l1; (try k_lt l1); (try k_sweep)))
local macro_rules | `(tactic| walk_at "eval Name") => `(tactic| (k_here; k_dflt (refine' ld ?k1 ?k2 ?_; (case k1 => k_asm); (case k2 => exact rfl); k_whole)))

local macro_rules | `(tactic| walk_at "no such key") => `(tactic| fail)
local macro_rules | `(tactic| walk_at "getMethod ref") => `(tactic| (k_here; (with_reducible show wpAny _ _ (getMethod (Value.ref _) (Str.ofString "render") _) _ _ _); k_dflt (refine' Mine.meth_render _ ?hat ?k1 ?k2 ?k3 ?k4 ?_; (case hat => assumption); (case k1 => k_asm); (case k2 => k_asm); (case k3 => k_asm); (case k4 => exact fun _ hp => Mine.Sub.h (by assumption) _ hp); k_whole); intro q' h' F' N' l1; (try k_lt l1)))
local macro_rules | `(tactic| walk_at "call ref") => `(tactic| (k_here; (try dsimp only [List.nil_append, List.cons_append]); (with_reducible show wpAny _ _ (call (Value.ref _) []) _ _ _); k_dflt (refine' Mine.render_d _ _ _ _ _ _ _ _ ?hat ?hg _ _ _ _ _ _ _ _ _ _ _ _ _ _ _ _ _ _ ?k1 ?k2 ?k3 ?k4 ?k5 ?k6 ?k7 ?k8 ?k9 ?k10 ?_; (case k1 => k_asm); (case k2 => k_asm); (case k3 => k_asm); (case k4 => k_asm); (case k5 => k_asm); (case k6 => first | exact rfl | assumption); (case k7 => ktr_room); (case k8 => ktr_units); (case k9 => k_mem); (case hat => assumption); (case k10 => exact fun _ hp => .tail _ (Mine.Sub.h (by assumption) _ hp)); (case hg => assumption); k_whole; intro _ h' _ F' N'; (try with_reducible dsimp only))))
set_option maxRecDepth 100000 in
set_option maxHeartbeats 8000000 in
theorem str_c (w : World) (mean : ExcName → Option Value) (mg mb : Str → Option Value) (x : Addr) (g : Msg) (sub : List (Addr × Obj)) (hat : MsgAt sub x g) (hg : g.Ok) :
  ConP w mean mg mb 161 [.ref x] 14 60 (fun news => ∀ p ∈ sub, p ∈ news) (RetV fun t => .str (dress g.body true true Str.empty) t) := by
  unfold ConP RetV
  k_fill
  intros
  rename_i hss hret
  replace hss : Sub sub _ := ⟨hss⟩
  (refine wpAny_call ?_; k_dflt (refine' code_def ?k1 ?k2 ?k3 ?k4 ?k5 ?kA ?kF ?kK ?k6 ?k7 ?k8 ?k9 ?kB ?_ ?c2 ?c3 ?c4 ?c5; (case kA => exact rfl); (case kF => exact rfl); (case kK => assumption); (case k1 => k_asm); (case k2 => k_asm); (case k3 => k_asm); (case k4 => k_asm); (case k5 => k_asm); (case k6 => k_is); (case k7 => k_is); (case k8 => ktr_room); (case k9 => first | exact BindsTo.of_eq rfl | exact binds_K (by k_in) rfl (by k_is) rfl rfl rfl); (case c5 => decide); (case kB => exact locs rfl); (case c2 => exact rfl); (case c3 => exact rfl); (case c4 => exact rfl); k_whole; intro g' L' h' FG' F' N' B' X' T'; (try dsimp only); (try k_lift B'); (try k_fold)))
  k_steps
  rename News _ _ _ _ => nZ
  first
    | exact cb_retS hret rfl (by k_asm) (fun p hp => nZ p (.tail _ hp))
    | exact cb_retS hret rfl (by k_asm) nZ
    | exact cb_retS hret rfl (by k_asm) (by k_asm)
set_option maxRecDepth 100000 in
set_option maxHeartbeats 8000000 in
theorem str_m (w : World) (mean : ExcName → Option Value) (mg mb : Str → Option Value) (x : Addr) (g : Msg) (sub : List (Addr × Obj)) (hat : MsgAt sub x g) (hg : g.Ok) :
  ∀ (dp un : Nat) (gd : Option (List Code)) (cn : Str) (cs : Scope) (a : Addr) (ccd : Value) (cl : List (Str × Addr)) (outer : List Env) (A₀ : Around) (base h₀ : Heap) (L : Addr) (m : Str → Option Value) (news : List (Addr × Obj)) (s : Shared)
    (Q E : Value → Shared → Prop),
    Below A₀ base outer h₀ → Fr h₀ L s.heap m → (Mine.hd.heap_39 w.params).In h₀ → News h₀ L s.heap news → Top Mine.hd.view_39 LS mean mg mb h₀ → cs.kind = .function → dp + 20 < recursionLimit → un + 80 < cLine → (∀ p ∈ sub, p ∈ news) →
    RetV (fun t => .str (dress g.body true true Str.empty) t) base h₀ L m news s Q E →
    wpAny (model PySem.Challenge.rw_ez0285_01.row.prog w) (ktrTop dp un gd cn cs L a ccd cl outer) (call (.type "str") [.ref x]) Q E s := by
  unfold RetV
  k_fill
  intros
  rename_i hss hret
  have hss' : Sub sub _ := ⟨hss⟩
  have hat' := hat
  replace hat := msg_mono hat hss
  clear hss
  cases g with
  | talk C st tk ps =>
    obtain ⟨hk, dx, l, h1, h2, h3, t1, t2, t3, t4, t5, n, e, tl, m1, m2, m3, rfl⟩ := hat
    rcases hk with ⟨rfl, rfl⟩ | ⟨rfl, rfl⟩ | ⟨rfl, rfl⟩
    all_goals walk1
    all_goals k_dflt (refine' str_c _ _ _ _ _ _ _ hat' hg _ _ _ _ _ _ _ _ _ _ _ _ _ _ _ _ _ _ ?k1 ?k2 ?k3 ?k4 ?k5 ?k6 ?k7 ?k8 ?k9 ?_; (case k1 => k_asm); (case k2 => k_asm); (case k3 => k_asm); (case k4 => k_asm); (case k5 => k_asm); (case k6 => first | exact rfl | assumption); (case k7 => ktr_room); (case k8 => ktr_units); (case k9 => exact hss'.h))
    all_goals (intro t h' tk' F' N'; exact hret t h' tk' F' N')
  | ques tk ot st =>
    obtain ⟨dx, l, h1, h2, h3, h4, t1, t2, t3, t4, t5, t6, t7, n, e, m1, m2, m3⟩ := hat
    walk1
    k_dflt (refine' str_c _ _ _ _ _ _ _ hat' hg _ _ _ _ _ _ _ _ _ _ _ _ _ _ _ _ _ _ ?k1 ?k2 ?k3 ?k4 ?k5 ?k6 ?k7 ?k8 ?k9 ?_; (case k1 => k_asm); (case k2 => k_asm); (case k3 => k_asm); (case k4 => k_asm); (case k5 => k_asm); (case k6 => first | exact rfl | assumption); (case k7 => ktr_room); (case k8 => ktr_units); (case k9 => exact hss'.h))
    (intro t h' tk' F' N'; exact hret t h' tk' F' N')
  | prop mk ps =>
    obtain ⟨dx, l, h1, h2, t1, t2, t3, n, e, tl, m1, m2, m3, rfl⟩ := hat
    walk1
    k_dflt (refine' str_c _ _ _ _ _ _ _ hat' hg _ _ _ _ _ _ _ _ _ _ _ _ _ _ _ _ _ _ ?k1 ?k2 ?k3 ?k4 ?k5 ?k6 ?k7 ?k8 ?k9 ?_; (case k1 => k_asm); (case k2 => k_asm); (case k3 => k_asm); (case k4 => k_asm); (case k5 => k_asm); (case k6 => first | exact rfl | assumption); (case k7 => ktr_room); (case k8 => ktr_units); (case k9 => exact hss'.h))
    (intro t h' tk' F' N'; exact hret t h' tk' F' N')
theorem pick_all {tl : List (Str × Tok)} : (slicePick (strValues tl).toArray none none none).toList = strValues tl := by
  rw [slicePick_all]
local macro_rules | `(tactic| walk_at "subscriptTail Name Slice ref ref") => `(tactic| (k_here; (with_reducible show wpAny _ _ (subscriptTail _ (PySem.Expr.Slice _ _ none _) (Value.ref _) (Value.ref _)) _ _ _); k_dflt (refine' kmk_slice_lit ?F ?N ?l ?p ?q ?e ?_ ?s ?t ?z; (case F => k_asm); (case N => k_asm); (case l => kmk_list); (case p => kmk_part); (case q => kmk_part); (case e => exact Mine.pick_all); (case s => with_unfolding_all rfl); (case t => kmk_pure); (case z => (simp only [List.size_toArray, strValues, List.length_map, PySem.sizeLine_eq]; omega))); intro D' h' F' N' l1; (try k_lt l1)))
set_option maxRecDepth 100000 in
set_option maxHeartbeats 8000000 in
theorem wp_c (w : World) (mean : ExcName → Option Value) (mg mb : Str → Option Value) (x : Addr) (st tk : Str) (ps : List Str) (sub : List (Addr × Obj)) (hat : MsgAt sub x (.talk 265 st tk ps)) (hps : ps.length ≤ 20) (expr : Bool) :
  ∀ (dp un : Nat) (gd : Option (List Code)) (cn : Str) (cs : Scope) (a : Addr) (ccd : Value) (cl : List (Str × Addr)) (outer : List Env) (A₀ : Around) (base h₀ : Heap) (L : Addr) (m : Str → Option Value) (news : List (Addr × Obj)) (s : Shared)
    (Q E : Value → Shared → Prop),
    Below A₀ base outer h₀ → Fr h₀ L s.heap m → (Mine.hd.heap_39 w.params).In h₀ → News h₀ L s.heap news → Top Mine.hd.view_39 LS mean mg mb h₀ → cs.kind = .function → dp + 20 < recursionLimit → un + 80 < cLine → (∀ p ∈ sub, p ∈ news) →
    RetS [] (ps.map .str) base h₀ L m news s Q E →
    wpAny (model PySem.Challenge.rw_ez0285_01.row.prog w) (ktrTop dp un gd cn cs L a ccd cl outer) (getAttr (.ref x) (Str.ofString "waypoint_list") expr) Q E s := by
  unfold RetS
  k_fill
  intros
  rename_i hss hret
  replace hat := msg_mono hat hss
  obtain ⟨hk, dx, l, h1, h2, h3, t1, t2, t3, t4, t5, n, e, tl, m1, m2, m3, rfl⟩ := hat
  rw [List.length_map] at hps
  k_here
  k_dflt (refine' Mine.prop_hook ?k1 ?k2 ?k3 ?k4 ?k5 ?k6 ?k7 ?k8 ?k9 ?k10 ?_; (case k3 => k_inst); (case k1 => k_asm); (case k2 => k_asm); (case k4 => k_is); (case k5 => k_is); (case k6 => k_is); (case k7 => k_is); (case k8 => k_is); (case k9 => k_is); (case k10 => k_is); k_whole)
  k_dflt (refine' code_def ?k1 ?k2 ?k3 ?k4 ?k5 ?kA ?kF ?kK ?k6 ?k7 ?k8 ?k9 ?kB ?_ ?c2 ?c3 ?c4 ?c5; (case kA => exact rfl); (case kF => exact rfl); (case kK => assumption); (case k1 => k_asm); (case k2 => k_asm); (case k3 => k_asm); (case k4 => k_asm); (case k5 => k_asm); (case k6 => k_is); (case k7 => k_is); (case k8 => ktr_room); (case k9 => first | exact BindsTo.of_eq rfl | exact binds_K (by k_in) rfl (by k_is) rfl rfl rfl); (case c5 => decide); (case kB => exact locs rfl); (case c2 => exact rfl); (case c3 => exact rfl); (case c4 => exact rfl); k_whole; intro g' L' h' FG' F' N' B' X' T'; (try dsimp only); (try k_lift B'); (try k_fold))
  k_steps
  exact hret _ _ _ _ _ (by k_asm) (by k_asm) (by first | assumption | exact of_allLt (by assumption)) (dat_texts tl)
end Mine
end

/- the law -/
section
open PySem PySem.W PyProof.Rows PySem.Spec PySem.Calls
set_option linter.all false
namespace Mine
local macro_rules | `(tactic| k_room) => `(tactic| ktr_room)
local macro_rules | `(tactic| k_units) => `(tactic| ktr_units)
local macro_rules | `(tactic| walk_at "getAttr ref") => `(tactic| (k_here; k_dflt (refine' Mine.own_hook ?k1 ?k2 ?k3 ?k4 ?k6 ?k7 ?k8 ?k9 ?k10 ?_; (case k3 => k_inst); (case k1 => k_asm); (case k2 => k_asm); (case k4 => k_is); (case k6 => k_is); (case k7 => k_is); (case k8 => k_is); (case k9 => k_get); (case k10 => k_handed); k_whole)))
local macro_rules | `(tactic| walk_at "getMethod ref") => `(tactic| (k_here; k_dflt (refine' Mine.meth_hook ?k1 ?k2 ?k3 ?k4 ?k5 ?k6 ?k7 ?k8 ?k9 ?k10 ?k11 ?k12 ?k13 ?_; (case k4 => k_inst); (case k1 => k_asm); (case k2 => k_asm); (case k3 => k_asm); (case k5 => k_is); (case k6 => k_is); (case k7 => k_is); (case k8 => k_is); (case k9 => k_is); (case k10 => k_is); (case k11 => k_is); (case k12 => decide +kernel); (case k13 => k_get); k_whole); intro q' h' F' N' l1; (try k_lt l1); (try k_sweep)))
local macro_rules | `(tactic| k_mem) => `(tactic| ((show (_ : PySem.Addr × PySem.Obj) ∈ (_ : List (PySem.Addr × PySem.Obj))); ktr_member))
local macro_rules | `(tactic| walk_at "call builtin:str.join") => `(tactic| (k_here; (with_reducible show wpAny _ _ (call (Value.builtin "str.join") [Value.str _ _, Value.ref _]) _ _ _); k_dflt (refine' Mine.join_led ?k1 ?k2 ?k3 ?_; (case k1 => k_asm); (case k2 => k_mem); (case k3 => assumption)); intro _ _))
local macro_rules | `(tactic| walk_at "call type:map") => `(tactic| (k_here; k_dflt (refine' Mine.map_K ?k1 ?k2 ?k3 ?_; (case k1 => k_asm); (case k2 => k_asm); (case k3 => assumption); k_whole); intro _ h' hMK F' N'))
local macro_rules | `(tactic| walk_at "call builtin:_functools.reduce") => `(tactic| (k_here; k_dflt (refine' Mine.reduce_K ?k1 ?k2 ?_; (case k1 => k_asm); (case k2 => exact rfl); k_whole); intro h' _ _ F' N'))
local macro_rules | `(tactic| walk_at "binaryOp Mod str int") => `(tactic| (k_here; (with_reducible show wpAny _ _ (binaryOp Operator.Mod (Value.str _ _) (Value.int (Mine.xorFrom _ _) _)) _ _ _); k_dflt (refine' Mine.pct_hex ?k1 ?k2 ?_; (case k1 => exact (Mine.xor_small (by assumption)).1); (case k2 => exact (Mine.xor_small (by assumption)).2)); intro hHX _ _))
local macro_rules | `(tactic| walk_at "inplaceOp Add str str") => `(tactic| (k_here; (refine PyProof.Rows.SBL.iadd (hsz := ?hsz) ?_); (case hsz => (simp only [PySem.Str.length_append, Mine.lit_len, PySem.sizeLine_eq]; omega)); intro _ _ _))
local macro_rules | `(tactic| walk_at "binaryOp Add str str") => `(tactic| (k_here; (refine PyProof.Rows.SBL.add (hsz := ?hsz) ?_); (case hsz => (simp only [PySem.Str.length_append, Mine.lit_len, PySem.sizeLine_eq]; omega)); intro _ _ _))
local macro_rules | `(tactic| walk_at "call builtin:isinstance") => `(tactic| (k_here; (with_reducible show wpAny _ _ (call _ [Value.ref _, Value.ref _]) _ _ _); k_dflt (refine' Mine.isn_hook ?k1 ?k2 ?k3 ?k4 ?k5 ?k6 ?k7 ?k8 ?k9 ?k10 ?_; (case k1 => k_in); (case k2 => k_inst); (case k3 => kin_no); (case k4 => k_is); (case k5 => k_is); (case k6 => k_is); (case k7 => k_is); (case k8 => k_is); (case k9 => k_is); (case k10 => k_is); k_whole); (try dsimp only)))
local macro_rules | `(tactic| walk_at "truthy ref") => `(tactic| (k_here; k_dflt (refine' Mine.truthy_cls ?k1 ?k2 ?k3 ?k4 ?_; (case k1 => k_asm); (case k2 => k_asm); (case k3 => k_is); (case k4 => k_is); k_whole)))
local macro_rules | `(tactic| walk_at "call type:list") => `(tactic| (k_here; (with_reducible show wpAny _ _ (call (Value.type "list") [Value.ref _]) _ _ _); k_dflt (refine' list_copyK ?k1 ?k2 ?k3 ?_ ?z; (case k1 => k_asm); (case k2 => k_asm); (case k3 => exact News.isList (by k_asm) (by k_mem)); (case z => (simp only [List.size_toArray, strValues, List.length_map, PySem.sizeLine_eq]; omega)); k_whole); intro D' c' h' F' N' l1; (try k_lt l1); (try k_sweep)))
local macro_rules | `(tactic| walk_at "eval Name") => `(tactic| (k_here; k_dflt (refine' ld ?k1 ?k2 ?_; (case k1 => k_asm); (case k2 => exact rfl); k_whole)))

local macro_rules | `(tactic| walk_at "execs cons") => `(tactic| (k_here; (with_reducible show wpAny _ _ (execs (Stmt.Assign [Expr.Name (Str.ofString "other") _] _ _ :: _) _) _ _ _); refine Mine.Stop.mk ?_))
local macro_rules | `(tactic| walk_at "execs cons") => `(tactic| (k_here; (with_reducible show wpAny _ _ (execs (Stmt.Assign [Expr.Name (Str.ofString "maker") _] _ _ :: _) _) _ _ _); refine Mine.Stop.mk ?_))
local macro_rules | `(tactic| walk_at "call ref") => `(tactic| (k_here; (with_reducible show wpAny _ _ (call (Value.ref 323) _) _ _ _); (try dsimp only [List.nil_append, List.cons_append]); (with_reducible show wpAny _ _ (call (Value.ref 323) [Value.int _ _]) _ _ _); k_dflt (refine' Mine.part_c _ _ _ _ _ _ _ _ _ _ _ _ _ _ _ _ _ _ _ _ _ _ _ _ ?k1 ?k2 ?k3 ?k4 ?k5 ?k6 ?k7 ?k8 ?_; (case k1 => k_asm); (case k2 => k_asm); (case k3 => k_asm); (case k4 => k_asm); (case k5 => k_asm); (case k6 => first | exact rfl | assumption); (case k7 => ktr_room); (case k8 => ktr_units); k_whole; intro _ h' _ F' N'; (try with_reducible dsimp only))))
local macro_rules | `(tactic| walk_at "call ref") => `(tactic| (k_here; (with_reducible show wpAny _ _ (call (Value.ref 330) _) _ _ _); (try dsimp only [List.nil_append, List.cons_append]); (with_reducible show wpAny _ _ (call (Value.ref 330) [Value.ref _]) _ _ _); k_dflt (refine' Mine.join_l _ _ _ _ _ _ _ ?hl _ _ _ _ _ _ _ _ _ _ _ _ _ _ _ _ _ _ ?k1 ?k2 ?k3 ?k4 ?k5 ?k6 ?k7 ?k8 ?k9 ?_; (case k1 => k_asm); (case k2 => k_asm); (case k3 => k_asm); (case k4 => k_asm); (case k5 => k_asm); (case k6 => first | exact rfl | assumption); (case k7 => ktr_room); (case k8 => ktr_units); (case k9 => (try dsimp only); k_mem); (case hl => assumption); k_whole; intro _ h' _ F' N'; (try with_reducible dsimp only))))
local macro_rules | `(tactic| walk_at "call ref") => `(tactic| ((rename Mine.Ph2 => hPh2); (k_here; (with_reducible show wpAny _ _ (call (Value.ref 337) _) _ _ _); (try dsimp only [List.nil_append, List.cons_append]); (with_reducible show wpAny _ _ (call (Value.ref 337) [Value.str _ _]) _ _ _); k_dflt (refine' Mine.hex_c _ _ _ _ _ _ ?hx ?ha _ _ _ _ _ _ _ _ _ _ _ _ _ _ _ _ _ _ ?k1 ?k2 ?k3 ?k4 ?k5 ?k6 ?k7 ?k8 ?_; (case k1 => k_asm); (case k2 => k_asm); (case k3 => k_asm); (case k4 => k_asm); (case k5 => k_asm); (case k6 => first | exact rfl | assumption); (case k7 => ktr_room); (case k8 => ktr_units); (case hx => first | assumption | omega); (case ha => assumption); k_whole; intro _ h' _ F' N'; (try with_reducible dsimp only)))))
local macro_rules | `(tactic| walk_at "call ref") => `(tactic| ((rename Mine.Ph2 => hPh2); (k_here; (try dsimp only [List.nil_append, List.cons_append]); (with_reducible show wpAny _ _ (call (Value.ref _) [Value.bool _, Value.bool _, _]) _ _ _); k_dflt (refine' Mine.render_m _ _ _ _ _ _ _ _ ?hat ?hg _ _ _ _ ?hn _ _ _ _ _ _ _ _ _ _ _ _ _ _ _ _ _ _ ?k1 ?k2 ?k3 ?k4 ?k5 ?k6 ?k7 ?k8 ?k9 ?k10 ?_; (case k1 => k_asm); (case k2 => k_asm); (case k3 => k_asm); (case k4 => k_asm); (case k5 => k_asm); (case k6 => first | exact rfl | assumption); (case k7 => ktr_room); (case k8 => ktr_units); (case k9 => k_mem); (case hat => assumption); (case k10 => first | exact fun _ hp => .tail _ (.tail _ (Mine.Sub.h (by assumption) _ hp)) | exact fun _ hp => .tail _ (.tail _ (.tail _ (Mine.Sub.h (by assumption) _ hp))) | exact fun _ hp => Mine.pre3 hp | exact fun _ hp => .tail _ (Mine.pre3 hp) | exact fun _ hp => .tail _ (.tail _ (Mine.pre3 hp)) | exact fun _ hp => .tail _ (.tail _ (.tail _ (Mine.pre3 hp))) | exact fun _ hp => .tail _ (.tail _ (.tail _ (.tail _ (Mine.pre3 hp)))) | exact fun _ hp => .tail _ (.tail _ (.tail _ (.tail _ (.tail _ (Mine.pre3 hp))))) | exact fun _ hp => .tail _ (.tail _ (.tail _ (.tail _ (.tail _ (.tail _ (Mine.pre3 hp)))))) | exact fun _ hp => .tail _ (.tail _ (.tail _ (.tail _ (.tail _ (.tail _ (.tail _ (Mine.pre3 hp))))))) | exact fun _ hp => .tail _ (.tail _ (.tail _ (.tail _ (.tail _ (.tail _ (.tail _ (.tail _ (Mine.pre3 hp)))))))) | (intro _ hp; repeat (first | exact hp | exact Mine.Sub.h (by assumption) _ hp | apply List.Mem.tail))); (case hg => assumption); (case hn => assumption); k_whole; intro _ h' _ F' N'; (try with_reducible dsimp only)))))
local macro_rules | `(tactic| walk_at "call ref") => `(tactic| ((rename Mine.Ph2 => hPh2); (k_here; (with_reducible show wpAny _ _ (call (Value.ref 351) _) _ _ _); (try dsimp only [List.nil_append, List.cons_append]); (with_reducible show wpAny _ _ (call (Value.ref 351) [Value.ref _]) _ _ _); k_dflt (refine' Mine.show_c _ _ _ _ _ _ _ ?hat _ _ _ _ _ _ _ _ _ _ _ _ _ _ _ _ _ _ ?k1 ?k2 ?k3 ?k4 ?k5 ?k6 ?k7 ?k8 ?k9 ?_; (case k1 => k_asm); (case k2 => k_asm); (case k3 => k_asm); (case k4 => k_asm); (case k5 => k_asm); (case k6 => first | exact rfl | assumption); (case k7 => ktr_room); (case k8 => ktr_units); (case hat => assumption); (case k9 => first | exact fun _ hp => .tail _ (.tail _ (Mine.Sub.h (by assumption) _ hp)) | exact fun _ hp => .tail _ (.tail _ (.tail _ (Mine.Sub.h (by assumption) _ hp))) | exact fun _ hp => Mine.pre3 hp | exact fun _ hp => .tail _ (Mine.pre3 hp) | exact fun _ hp => .tail _ (.tail _ (Mine.pre3 hp)) | exact fun _ hp => .tail _ (.tail _ (.tail _ (Mine.pre3 hp))) | exact fun _ hp => .tail _ (.tail _ (.tail _ (.tail _ (Mine.pre3 hp)))) | exact fun _ hp => .tail _ (.tail _ (.tail _ (.tail _ (.tail _ (Mine.pre3 hp))))) | exact fun _ hp => .tail _ (.tail _ (.tail _ (.tail _ (.tail _ (.tail _ (Mine.pre3 hp)))))) | exact fun _ hp => .tail _ (.tail _ (.tail _ (.tail _ (.tail _ (.tail _ (.tail _ (Mine.pre3 hp))))))) | exact fun _ hp => .tail _ (.tail _ (.tail _ (.tail _ (.tail _ (.tail _ (.tail _ (.tail _ (Mine.pre3 hp)))))))) | (intro _ hp; repeat (first | exact hp | exact Mine.Sub.h (by assumption) _ hp | apply List.Mem.tail))); k_whole; intro r' its' _ h' _ F' N' l1 hD'; (try with_reducible dsimp only); (try k_lt l1)))))
local macro_rules | `(tactic| walk_at "call ref") => `(tactic| ((rename Mine.Ph2 => hPh2); (k_here; (with_reducible show wpAny _ _ (call (Value.ref 344) _) _ _ _); (try dsimp only [List.nil_append, List.cons_append]); (with_reducible show wpAny _ _ (call (Value.ref 344) [Value.str _ _]) _ _ _); k_dflt (refine' Mine.read_c _ _ _ _ _ _ _ _ _ ?hF ?hK ?hS _ _ _ _ _ _ _ _ _ _ _ _ _ _ _ _ _ _ ?k1 ?k2 ?k3 ?k4 ?k5 ?k6 ?k7 ?k8 ?_; (case k1 => k_asm); (case k2 => k_asm); (case k3 => k_asm); (case k4 => k_asm); (case k5 => k_asm); (case k6 => first | exact rfl | assumption); (case k7 => ktr_room); (case k8 => ktr_units); (case hF => assumption); (case hK => assumption); (case hS => assumption); k_whole; intro r' dx' l' kd' o1' o2' o3' o4' h' _ F' N' l1 l2 l3 l4 hA'; (try with_reducible dsimp only); (try k_lt l1); (try k_lt2 l2); (try k_lt2 l3); (try k_lt2 l4)))))
local macro_rules | `(tactic| walk_at "call ref") => `(tactic| ((rename Mine.Ph2 => hPh2); (k_here; (with_reducible show wpAny _ _ (call (Value.ref 344) _) _ _ _); (try dsimp only [List.nil_append, List.cons_append]); (with_reducible show wpAny _ _ (call (Value.ref 344) [Value.str _ _]) _ _ _); k_dflt (refine' Mine.read_no_c _ _ _ _ _ _ _ ?hF ?hK ?hS _ _ _ _ _ _ _ _ _ _ _ _ _ _ _ ?k1 ?k2 ?k3 ?k4 ?k5 ?k6 ?k7 ?k8 True.intro ?_; (case k1 => k_asm); (case k2 => k_asm); (case k3 => k_asm); (case k4 => k_asm); (case k5 => k_asm); (case k6 => first | exact rfl | assumption); (case k7 => ktr_room); (case k8 => ktr_units); (case hF => assumption); (case hK => assumption); (case hS => assumption); k_whole; intro _ h' _ F' N'; (try with_reducible dsimp only)))))
local macro_rules | `(tactic| walk_at "call ref") => `(tactic| ((rename Mine.Ph2 => hPh2); (k_here; (with_reducible show wpAny _ _ (call (Value.ref 351) _) _ _ _); (try dsimp only [List.nil_append, List.cons_append]); (with_reducible show wpAny _ _ (call (Value.ref 351) [Value.none]) _ _ _); k_dflt (refine' Mine.show_none_c _ _ _ _ _ _ _ _ _ _ _ _ _ _ _ _ _ _ _ _ _ _ ?k1 ?k2 ?k3 ?k4 ?k5 ?k6 ?k7 ?k8 ?_; (case k1 => k_asm); (case k2 => k_asm); (case k3 => k_asm); (case k4 => k_asm); (case k5 => k_asm); (case k6 => first | exact rfl | assumption); (case k7 => ktr_room); (case k8 => ktr_units); k_whole; intro r' its' _ h' _ F' N' l1 hD'; (try with_reducible dsimp only); (try k_lt l1)))))
local macro_rules | `(tactic| walk_at "call type:str") => `(tactic| ((rename Mine.Ph2 => hPh2); (k_here; (with_reducible show wpAny _ _ (call (Value.type "str") [Value.ref _]) _ _ _); k_dflt (refine' Mine.str_m _ _ _ _ _ _ _ ?hat ?hg _ _ _ _ _ _ _ _ _ _ _ _ _ _ _ _ _ _ ?k1 ?k2 ?k3 ?k4 ?k5 ?k6 ?k7 ?k8 ?k9 ?_; (case k1 => k_asm); (case k2 => k_asm); (case k3 => k_asm); (case k4 => k_asm); (case k5 => k_asm); (case k6 => first | exact rfl | assumption); (case k7 => ktr_room); (case k8 => ktr_units); (case hat => assumption); (case hg => assumption); (case k9 => first | exact fun _ hp => .tail _ (.tail _ (Mine.Sub.h (by assumption) _ hp)) | exact fun _ hp => .tail _ (.tail _ (.tail _ (Mine.Sub.h (by assumption) _ hp))) | exact fun _ hp => Mine.pre3 hp | exact fun _ hp => .tail _ (Mine.pre3 hp) | exact fun _ hp => .tail _ (.tail _ (Mine.pre3 hp)) | exact fun _ hp => .tail _ (.tail _ (.tail _ (Mine.pre3 hp))) | exact fun _ hp => .tail _ (.tail _ (.tail _ (.tail _ (Mine.pre3 hp)))) | exact fun _ hp => .tail _ (.tail _ (.tail _ (.tail _ (.tail _ (Mine.pre3 hp))))) | exact fun _ hp => .tail _ (.tail _ (.tail _ (.tail _ (.tail _ (.tail _ (Mine.pre3 hp)))))) | exact fun _ hp => .tail _ (.tail _ (.tail _ (.tail _ (.tail _ (.tail _ (.tail _ (Mine.pre3 hp))))))) | exact fun _ hp => .tail _ (.tail _ (.tail _ (.tail _ (.tail _ (.tail _ (.tail _ (.tail _ (Mine.pre3 hp)))))))) | (intro _ hp; repeat (first | exact hp | exact Mine.Sub.h (by assumption) _ hp | apply List.Mem.tail))); k_whole; intro _ h' _ F' N'; (try with_reducible dsimp only)))))
local macro_rules | `(tactic| walk_at "getAttr ref") => `(tactic| ((rename Mine.Ph2 => hPh2); (k_here; (with_reducible show wpAny _ _ (getAttr (Value.ref _) (Str.ofString "waypoint_list") _) _ _ _); k_dflt (refine' Mine.wp_c _ _ _ _ _ _ _ _ _ ?hat ?hl _ _ _ _ _ _ _ _ _ _ _ _ _ _ _ _ _ _ _ ?k1 ?k2 ?k3 ?k4 ?k5 ?k6 ?k7 ?k8 ?k9 ?_; (case k1 => k_asm); (case k2 => k_asm); (case k3 => k_asm); (case k4 => k_asm); (case k5 => k_asm); (case k6 => first | exact rfl | assumption); (case k7 => ktr_room); (case k8 => ktr_units); (case hat => assumption); (case hl => assumption); (case k9 => first | exact fun _ hp => .tail _ (.tail _ (Mine.Sub.h (by assumption) _ hp)) | exact fun _ hp => .tail _ (.tail _ (.tail _ (Mine.Sub.h (by assumption) _ hp))) | exact fun _ hp => Mine.pre3 hp | exact fun _ hp => .tail _ (Mine.pre3 hp) | exact fun _ hp => .tail _ (.tail _ (Mine.pre3 hp)) | exact fun _ hp => .tail _ (.tail _ (.tail _ (Mine.pre3 hp))) | exact fun _ hp => .tail _ (.tail _ (.tail _ (.tail _ (Mine.pre3 hp)))) | exact fun _ hp => .tail _ (.tail _ (.tail _ (.tail _ (.tail _ (Mine.pre3 hp))))) | exact fun _ hp => .tail _ (.tail _ (.tail _ (.tail _ (.tail _ (.tail _ (Mine.pre3 hp)))))) | exact fun _ hp => .tail _ (.tail _ (.tail _ (.tail _ (.tail _ (.tail _ (.tail _ (Mine.pre3 hp))))))) | exact fun _ hp => .tail _ (.tail _ (.tail _ (.tail _ (.tail _ (.tail _ (.tail _ (.tail _ (Mine.pre3 hp)))))))) | (intro _ hp; repeat (first | exact hp | exact Mine.Sub.h (by assumption) _ hp | apply List.Mem.tail))); k_whole; intro r' its' _ h' _ F' N' l1 hD'; (try with_reducible dsimp only); (try k_lt l1)))))
local macro_rules | `(tactic| walk_at "eval Name") => `(tactic| ((rename Mine.Ph2 => hPh2); (k_here; (with_reducible show wpAny _ _ (eval (Expr.Name (Str.ofString "script") _) _) _ _ _); (rename NmS _ _ _ _ _ _ _ _ _ _ => nmS); k_dflt (refine' ld ?k1 ?k2 ?_; (case k1 => k_asm); (case k2 => exact nmS.script); k_whole))))
local macro_rules | `(tactic| walk_at "eval Name") => `(tactic| ((rename Mine.Ph2 => hPh2); (k_here; (with_reducible show wpAny _ _ (eval (Expr.Name (Str.ofString "sort") _) _) _ _ _); (rename NmS _ _ _ _ _ _ _ _ _ _ => nmS); k_dflt (refine' ld ?k1 ?k2 ?_; (case k1 => k_asm); (case k2 => exact nmS.sort); k_whole))))
local macro_rules | `(tactic| walk_at "eval Name") => `(tactic| ((rename Mine.Ph2 => hPh2); (k_here; (with_reducible show wpAny _ _ (eval (Expr.Name (Str.ofString "msg") _) _) _ _ _); (rename NmS _ _ _ _ _ _ _ _ _ _ => nmS); k_dflt (refine' ld ?k1 ?k2 ?_; (case k1 => k_asm); (case k2 => exact nmS.msg); k_whole))))
local macro_rules | `(tactic| walk_at "eval Name") => `(tactic| ((rename Mine.Ph2 => hPh2); (k_here; (with_reducible show wpAny _ _ (eval (Expr.Name (Str.ofString "parts") _) _) _ _ _); (rename NmS _ _ _ _ _ _ _ _ _ _ => nmS); k_dflt (refine' ld ?k1 ?k2 ?_; (case k1 => k_asm); (case k2 => exact nmS.parts); k_whole))))
local macro_rules | `(tactic| walk_at "eval Name") => `(tactic| ((rename Mine.Ph2 => hPh2); (k_here; (with_reducible show wpAny _ _ (eval (Expr.Name (Str.ofString "handed") _) _) _ _ _); (rename NmS _ _ _ _ _ _ _ _ _ _ => nmS); k_dflt (refine' ld ?k1 ?k2 ?_; (case k1 => k_asm); (case k2 => exact nmS.handed); k_whole))))
local macro_rules | `(tactic| walk_at "eval Name") => `(tactic| ((rename Mine.Ph2 => hPh2); (k_here; (with_reducible show wpAny _ _ (eval (Expr.Name (Str.ofString "body") _) _) _ _ _); (rename NmS _ _ _ _ _ _ _ _ _ _ => nmS); k_dflt (refine' ld ?k1 ?k2 ?_; (case k1 => k_asm); (case k2 => exact nmS.body); k_whole))))
local macro_rules | `(tactic| walk_at "eval Name") => `(tactic| ((rename Mine.Ph2 => hPh2); (k_here; (with_reducible show wpAny _ _ (eval (Expr.Name (Str.ofString "shown") _) _) _ _ _); (rename NmS _ _ _ _ _ _ _ _ _ _ => nmS); k_dflt (refine' ld ?k1 ?k2 ?_; (case k1 => k_asm); (case k2 => exact nmS.shown); k_whole))))
local macro_rules | `(tactic| walk_at "eval Name") => `(tactic| ((rename Mine.Ph2 => hPh2); (k_here; (with_reducible show wpAny _ _ (eval (Expr.Name (Str.ofString "script") _) _) _ _ _); (rename NmL _ _ _ _ _ _ _ _ _ _ _ _ _ _ => nmL); k_dflt (refine' ld ?k1 ?k2 ?_; (case k1 => k_asm); (case k2 => exact nmL.script); k_whole))))
local macro_rules | `(tactic| walk_at "eval Name") => `(tactic| ((rename Mine.Ph2 => hPh2); (k_here; (with_reducible show wpAny _ _ (eval (Expr.Name (Str.ofString "sort") _) _) _ _ _); (rename NmL _ _ _ _ _ _ _ _ _ _ _ _ _ _ => nmL); k_dflt (refine' ld ?k1 ?k2 ?_; (case k1 => k_asm); (case k2 => exact nmL.sort); k_whole))))
local macro_rules | `(tactic| walk_at "eval Name") => `(tactic| ((rename Mine.Ph2 => hPh2); (k_here; (with_reducible show wpAny _ _ (eval (Expr.Name (Str.ofString "msg") _) _) _ _ _); (rename NmL _ _ _ _ _ _ _ _ _ _ _ _ _ _ => nmL); k_dflt (refine' ld ?k1 ?k2 ?_; (case k1 => k_asm); (case k2 => exact nmL.msg); k_whole))))
local macro_rules | `(tactic| walk_at "eval Name") => `(tactic| ((rename Mine.Ph2 => hPh2); (k_here; (with_reducible show wpAny _ _ (eval (Expr.Name (Str.ofString "parts") _) _) _ _ _); (rename NmL _ _ _ _ _ _ _ _ _ _ _ _ _ _ => nmL); k_dflt (refine' ld ?k1 ?k2 ?_; (case k1 => k_asm); (case k2 => exact nmL.parts); k_whole))))
local macro_rules | `(tactic| walk_at "eval Name") => `(tactic| ((rename Mine.Ph2 => hPh2); (k_here; (with_reducible show wpAny _ _ (eval (Expr.Name (Str.ofString "handed") _) _) _ _ _); (rename NmL _ _ _ _ _ _ _ _ _ _ _ _ _ _ => nmL); k_dflt (refine' ld ?k1 ?k2 ?_; (case k1 => k_asm); (case k2 => exact nmL.handed); k_whole))))
local macro_rules | `(tactic| walk_at "eval Name") => `(tactic| ((rename Mine.Ph2 => hPh2); (k_here; (with_reducible show wpAny _ _ (eval (Expr.Name (Str.ofString "body") _) _) _ _ _); (rename NmL _ _ _ _ _ _ _ _ _ _ _ _ _ _ => nmL); k_dflt (refine' ld ?k1 ?k2 ?_; (case k1 => k_asm); (case k2 => exact nmL.body); k_whole))))
local macro_rules | `(tactic| walk_at "eval Name") => `(tactic| ((rename Mine.Ph2 => hPh2); (k_here; (with_reducible show wpAny _ _ (eval (Expr.Name (Str.ofString "shown") _) _) _ _ _); (rename NmL _ _ _ _ _ _ _ _ _ _ _ _ _ _ => nmL); k_dflt (refine' ld ?k1 ?k2 ?_; (case k1 => k_asm); (case k2 => exact nmL.shown); k_whole))))
local macro_rules | `(tactic| walk_at "eval Name") => `(tactic| ((rename Mine.Ph2 => hPh2); (k_here; (with_reducible show wpAny _ _ (eval (Expr.Name (Str.ofString "digits") _) _) _ _ _); (rename NmL _ _ _ _ _ _ _ _ _ _ _ _ _ _ => nmL); k_dflt (refine' ld ?k1 ?k2 ?_; (case k1 => k_asm); (case k2 => exact nmL.digits); k_whole))))
local macro_rules | `(tactic| walk_at "eval Name") => `(tactic| ((rename Mine.Ph2 => hPh2); (k_here; (with_reducible show wpAny _ _ (eval (Expr.Name (Str.ofString "told") _) _) _ _ _); (rename NmL _ _ _ _ _ _ _ _ _ _ _ _ _ _ => nmL); k_dflt (refine' ld ?k1 ?k2 ?_; (case k1 => k_asm); (case k2 => exact nmL.told); k_whole))))
local macro_rules | `(tactic| walk_at "eval Name") => `(tactic| ((rename Mine.Ph2 => hPh2); (k_here; (with_reducible show wpAny _ _ (eval (Expr.Name (Str.ofString "due") _) _) _ _ _); (rename NmL _ _ _ _ _ _ _ _ _ _ _ _ _ _ => nmL); k_dflt (refine' ld ?k1 ?k2 ?_; (case k1 => k_asm); (case k2 => exact nmL.due); k_whole))))
local macro_rules | `(tactic| walk_at "eval Name") => `(tactic| ((rename Mine.Ph2 => hPh2); (k_here; (with_reducible show wpAny _ _ (eval (Expr.Name (Str.ofString "summed") _) _) _ _ _); (rename NmT _ _ _ _ => nmT); k_dflt (refine' ld ?k1 ?k2 ?_; (case k1 => k_asm); (case k2 => exact nmT.summed); k_whole))))
local macro_rules | `(tactic| walk_at "eval Name") => `(tactic| ((rename Mine.Ph2 => hPh2); (k_here; (with_reducible show wpAny _ _ (eval (Expr.Name (Str.ofString "dollar") _) _) _ _ _); (rename NmT _ _ _ _ => nmT); k_dflt (refine' ld ?k1 ?k2 ?_; (case k1 => k_asm); (case k2 => exact nmT.dollar); k_whole))))
local macro_rules | `(tactic| walk_at "eval Name") => `(tactic| ((rename Mine.Ph2 => hPh2); (k_here; (with_reducible show wpAny _ _ (eval (Expr.Name (Str.ofString "end") _) _) _ _ _); (rename NmT _ _ _ _ => nmT); k_dflt (refine' ld ?k1 ?k2 ?_; (case k1 => k_asm); (case k2 => exact nmT.end_); k_whole))))
local macro_rules | `(tactic| walk_at "eval Name") => `(tactic| ((rename Mine.Ph2 => hPh2); (k_here; (with_reducible show wpAny _ _ (eval (Expr.Name (Str.ofString "text") _) _) _ _ _); (rename NmU _ _ _ => nmU); k_dflt (refine' ld ?k1 ?k2 ?_; (case k1 => k_asm); (case k2 => exact nmU.text); k_whole))))
local macro_rules | `(tactic| walk_at "eval Name") => `(tactic| ((rename Mine.Ph2 => hPh2); (k_here; (with_reducible show wpAny _ _ (eval (Expr.Name (Str.ofString "behind") _) _) _ _ _); (rename NmU _ _ _ => nmU); k_dflt (refine' ld ?k1 ?k2 ?_; (case k1 => k_asm); (case k2 => exact nmU.behind); k_whole))))
local macro_rules | `(tactic| walk_at "eval Name") => `(tactic| ((rename Mine.Ph2 => hPh2); (k_here; (with_reducible show wpAny _ _ (eval (Expr.Name (Str.ofString "again") _) _) _ _ _); (rename NmA _ _ => nmA); k_dflt (refine' ld ?k1 ?k2 ?_; (case k1 => k_asm); (case k2 => exact nmA.again); k_whole))))

local macro_rules | `(tactic| k_all) => `(tactic| ((rename Mine.Ph2 => hPh2); assumption))
local macro_rules | `(tactic| k_all) => `(tactic| ((rename Mine.Ph2 => hPh2); first | exact Off.all1 (by assumption) _ | exact Off.r2 (by assumption)))
local macro_rules | `(tactic| walk_at "getMethod ref") => `(tactic| ((rename Mine.Ph2 => hPh2); (k_here; (with_reducible show wpAny _ _ (getMethod (Value.ref _) (Str.ofString "render") _) _ _ _); k_dflt (refine' Mine.meth_render _ ?hat ?k1 ?k2 ?k3 ?k4 ?_; (case hat => assumption); (case k1 => k_asm); (case k2 => k_asm); (case k3 => k_asm); (case k4 => (first | exact fun _ hp => .tail _ (.tail _ (Mine.Sub.h (by assumption) _ hp)) | exact fun _ hp => .tail _ (.tail _ (.tail _ (Mine.Sub.h (by assumption) _ hp))) | exact fun _ hp => Mine.pre3 hp | exact fun _ hp => .tail _ (Mine.pre3 hp) | exact fun _ hp => .tail _ (.tail _ (Mine.pre3 hp)) | exact fun _ hp => .tail _ (.tail _ (.tail _ (Mine.pre3 hp))) | exact fun _ hp => .tail _ (.tail _ (.tail _ (.tail _ (Mine.pre3 hp)))) | exact fun _ hp => .tail _ (.tail _ (.tail _ (.tail _ (.tail _ (Mine.pre3 hp))))) | exact fun _ hp => .tail _ (.tail _ (.tail _ (.tail _ (.tail _ (.tail _ (Mine.pre3 hp)))))) | exact fun _ hp => .tail _ (.tail _ (.tail _ (.tail _ (.tail _ (.tail _ (.tail _ (Mine.pre3 hp))))))) | exact fun _ hp => .tail _ (.tail _ (.tail _ (.tail _ (.tail _ (.tail _ (.tail _ (.tail _ (Mine.pre3 hp)))))))) | (intro _ hp; repeat (first | exact hp | exact Mine.Sub.h (by assumption) _ hp | apply List.Mem.tail)))); k_whole); intro q' h' F' N' l1; (try k_lt l1))))
local macro_rules | `(tactic| walk_at "getMethod ref") => `(tactic| ((rename Mine.Ph2 => hPh2); (k_here; (with_reducible show wpAny _ _ (getMethod (Value.ref _) (Str.ofString "append") _) _ _ _); k_dflt (refine' listMethod_K ?N ?m PySem.F.slot_list_append PySem.F.type_list_append ?_; (case N => k_asm); (case m => k_mem); k_whole))))
local macro_rules | `(tactic| walk_at "ite") => `(tactic| ((rename Mine.Ph2 => hPh2); (k_here; first | (with_reducible refine ite_pos ?hc ?_; (case hc => with_reducible (apply Mine.S3.h; assumption))) | (with_reducible refine ite_isFalse ?hc ?_; (case hc => with_reducible (apply Mine.S3.h; assumption))))))
local macro_rules | `(tactic| walk_at "truthy ref") => `(tactic| ((rename Mine.Ph2 => hPh2); (k_here; (with_reducible show wpAny _ _ (truthy (Value.ref _)) _ _ _); k_dflt (first
  | (refine' Mine.truthy_cons ?k1 ?k2 ?k3 ?_; (case k1 => k_asm); (case k2 => k_mem); (case k3 => assumption); k_whole)
  | (refine' Mine.truthy_nil ?k1 ?k2 ?_; (case k1 => k_asm); (case k2 => k_mem); k_whole)))))
local macro_rules | `(tactic| walk_at "binaryOp Add ref ref") => `(tactic| ((rename Mine.Ph2 => hPh2); (k_here; (with_reducible show wpAny _ _ (binaryOp _ (Value.ref _) (Value.ref _)) _ _ _); k_dflt (refine' Mine.add_led ?k1 ?k2 ?k3 ?k4 ?k5 ?_; (case k1 => k_asm); (case k2 => k_asm); (case k3 => k_mem); (case k4 => k_mem); (case k5 => (simp only [List.length_cons, List.length_nil]; omega)); k_whole); intro D' h' F' N' l1; (try k_lt l1))))
local macro_rules | `(tactic| k_ne) => `(tactic| ((rename Mine.Ph2 => hPh2); exact Off.td (by assumption)))
local macro_rules | `(tactic| k_mem) => `(tactic| ((rename Mine.Ph2 => hPh2); ((show (_ : PySem.Addr × PySem.Obj) ∈ (_ : List (PySem.Addr × PySem.Obj))); repeat (first | assumption | exact List.Mem.head _ | apply List.Mem.tail))))
local macro_rules | `(tactic| walk_at "execs cons") => `(tactic| ((rename Mine.Ph2 => hPh2); (k_here; (with_reducible show wpAny _ _ (execs (Stmt.Assign [Expr.Name (Str.ofString "behind") _] _ _ :: _) _) _ _ _); refine Stop.mk ?_)))
local macro_rules | `(tactic| walk_at "pyIter ref") => `(tactic| ((rename Mine.Ph2 => hPh2); (k_here; (with_reducible show wpAny _ _ (pyIter (Value.ref _)) (fun it s₂ => TurnsAt _ _ _ _ _ _ _ _ _ it s₂) _ _); refine Stop.mk ?_)))
local macro_rules | `(tactic| walk_at "call builtin:list.append") => `(tactic| ((rename Mine.Ph2 => hPh2); (k_here; (with_reducible show wpAny _ _ (call (Value.builtin _) [Value.ref _, _]) _ _ _); k_dflt (refine' append_K ?k1 ?k2 ?k3 ?_ ?z; (case k1 => k_asm); (case k2 => k_asm); (case k3 => k_upd); (case z => (simp only [List.size_toArray, strValues, List.length_map, List.length_append, List.length_cons, List.length_nil, Array.size_push, PySem.sizeLine_eq]; omega)); k_whole); intro h' F' N'; (try k_sweep))))
local macro_rules | `(tactic| walk_at "CompSrc") => `(tactic| (k_here; k_dflt (refine LCg.CompSrc.ledger (by rfl) (by k_asm) (by k_asm) (by k_mem) (by kcf_size) ?_; intro g'; (refine' kct_list Mine.partT (by assumption) (fun k' t' I' oI' C' oC' D' m' ys' h' tk' E' hk' hC' hx' F' N' off' ne' => ?_) ?_); (all_goals (try (have off0' := off'))); (all_goals (try (simp only [LCg.Off3, and_true] at off'))); (all_goals (try ((show KPfMark → _); intro hMark'))); kcf_last)))
local macro_rules | `(tactic| walk_at "execs cons") => `(tactic| ((rename Mine.Ph2 => hPh2); (k_here; (with_reducible show wpAny _ _ (execs (Stmt.Assign [Expr.Name (Str.ofString "rows") _] _ _ :: _) _) _ _ _); refine Mine.Stop.mk ?_)))
local macro_rules | `(tactic| walk_at "subscriptTail") => `(tactic| ((rename Mine.Ph2 => hPh2); (k_here; (with_reducible show wpAny _ _ (subscriptTail _ _ (Value.ref _) (Value.int _ _)) _ _ _); k_dflt (refine' Mine.last_sub ?k1 ?k2 ?_ ?k3 ?k4; (case k1 => k_asm); (case k2 => k_mem); (case k3 => with_unfolding_all rfl); (case k4 => intro _; with_unfolding_all rfl); k_whole))))
local macro_rules | `(tactic| walk_at "setItem ref int") => `(tactic| ((rename Mine.Ph2 => hPh2); (k_here; (with_reducible show wpAny _ _ (setItem (Value.ref _) (Value.int _ _) (Value.str _ _)) _ _ _); k_dflt (refine' Mine.last_set ?k1 ?k2 ?k3 ?_; (case k1 => k_asm); (case k2 => k_asm); (case k3 => k_upd); k_whole); intro h' F' N')))
local macro_rules | `(tactic| walk_at "ite") => `(tactic| ((rename Mine.Ph2 => hPh2); (k_here; first | (with_reducible refine ite_pos ?hc ?_; (case hc => with_reducible (apply Mine.S2.h; assumption))) | (with_reducible refine ite_isFalse ?hc ?_; (case hc => with_reducible (apply Mine.S2.h; assumption))))))
local macro_rules | `(tactic| walk_at "CompEnd") => `(tactic| ((rename Mine.Ph2 => hPh2); (refine LCg.CompEnd.intro (by assumption) (by assumption) _ (fun _ hp => hp) (by assumption) (by first | lcg_src | assumption) ?_; exact ⟨rfl, _, rfl⟩)))
local macro_rules | `(tactic| walk_at "binaryOp Add ref ref") => `(tactic| ((rename Mine.Ph2 => hPh2); (k_here; (with_reducible show wpAny _ _ (binaryOp _ (Value.ref _) (Value.ref _)) _ _ _); k_dflt (refine' Mine.add_carried ?k1 ?k2 ?k3 ?k4 ?k5 ?k6 ?_; (case k1 => k_asm); (case k2 => k_asm); (case k3 => assumption); (case k4 => k_mem); (case k5 => k_mem); (case k6 => (simp only [List.length_take]; omega)); k_whole); intro D' h' tl' hTL' F' N' l1; (try k_lt l1))))
local macro_rules | `(tactic| walk_at "compareOp Eq ref ref") => `(tactic| ((rename Mine.Ph2 => hPh2); (k_here; (with_reducible show wpAny _ _ (compareOp _ (Value.ref _) (Value.ref _)) _ _ _); k_dflt (refine' kqd_eq ?N ?ma rfl rfl ?Da ?sa ?mb rfl rfl ?Db ?sb ?ha ?hb ?hu ?_; (case N => k_asm); (case ma => k_mem); (case mb => k_mem); (case Da => assumption); (case Db => assumption); (case sa => exact fun _ hp => .tail _ (.tail _ hp)); (case sb => exact fun _ hp => .tail _ (.tail _ hp)); (case ha => assumption); (case hb => assumption); (case hu => ktr_units); k_whole); (try simp only [decide_true]))))
local macro_rules | `(tactic| walk_at "eval ListComp") => `(tactic| ((rename Mine.Ph2 => hPh2); (k_here; k_dflt (refine LCg.ListComp_U (F₀ := by k_asm) (by with_unfolding_all rfl) (by decide) (by rfl) (by decide) (by rfl) ?_))))
local macro_rules | `(tactic| walk_at "subscriptTail Name Slice ref ref") => `(tactic| ((rename Mine.Ph2 => hPh2); (k_here; (with_reducible show wpAny _ _ (subscriptTail _ (PySem.Expr.Slice _ _ none _) (Value.ref _) (Value.ref _)) _ _ _); k_dflt (refine' kmk_slice_ints ?F ?N ?l ?p ?q ?i ?m ?c ?_ ?s ?t ?z; (case F => k_asm); (case N => k_asm); (case l => first | exact Fr.lst (by k_asm) (by k_asm) | kmk_list); (case p => kmk_part); (case q => kmk_part); (case i => with_reducible assumption); (case m => kmk_nums); (case c => kmk_len); (case s => with_unfolding_all rfl); (case t => kmk_pure); (case z => exact kmk_sz (by with_reducible assumption) (Nat.le_trans (by with_reducible assumption : _ ≤ 63) (by decide)))); intro D' ws' h' F' N' l1 hI' hC' hL'; (try simp only [Int.reduceNeg, Int.neg_neg, Int.reduceToNat] at hI' hC' hL'); (try k_lt l1); (try k_sweep))))
set_option maxRecDepth 100000 in
set_option maxHeartbeats 0 in
theorem main_t : PySem.Challenge.rw_ez0285_01.Holds := Mine.hd (by
  k_go0
  (all_goals try k_fold)
  k_with_none
  rename List Int => xs
  rename Addr => sa
  rename IntsAre _ xs => hIx
  have hxs63 : xs.length ≤ 63 := by omega
  dsimp only
  refine seq_cut (by k_asm) (by k_asm) (Str.ofString "sort") (fun v => ∃ k t, v = .int k t ∧ 0 ≤ k ∧ k < 5) ?_ ?_
  · k_steps
    all_goals (refine cut_end ?_ (by k_asm) (by k_asm) (fun _ hp => hp))
    all_goals first
      | exact ⟨_, _, rfl, fmod_lo _ (by decide), fmod_hi _ (by decide)⟩
      | exact ⟨_, _, rfl, by decide, by decide⟩
  rintro v h' k ⟨sort, ts, rfl, hs0, hs5⟩ F' N'
  dsimp only
  refine seq_cut (by k_asm) (by k_asm) (Str.ofString "pick") (fun v => ∃ k t, v = .int k t) ?_ ?_
  · k_steps
    all_goals (refine cut_end ?_ (by k_asm) (by k_asm) (fun _ hp => hp))
    all_goals exact ⟨_, _, rfl⟩
  rintro v h' k ⟨pick, tp, rfl⟩ F' N'
  dsimp only
  refine seq_cutN (by k_asm) (Str.ofString "parts") (fun v nw => ∃ pa tl e, v = .ref pa ∧ nw = [(pa, PySem.W.listOf (strValues tl).toArray e)] ∧ tl.map (fun p => p.1) = psOf xs) ?_ ?_
  · k_steps
    obtain ⟨tl, e1, e2⟩ := carried_texts (by assumption)
    subst e1
    exact cutN_end (by k_asm) (by k_asm) ⟨_, tl, _, rfl, rfl, e2⟩ (fun p hp => by rcases List.mem_cons.mp hp with rfl | hp; exact .head _; cases hp)
  rintro v h' k nw ⟨pa, tl, ep, rfl, rfl, hps⟩ F' N'
  have htl : tl.length ≤ 7 := by
    have := congrArg List.length hps
    rw [List.length_map] at this
    rw [this]
    simp only [psOf, List.length_map, List.length_take]
    omega
  dsimp only
  refine seq_cutN (by k_asm) (Str.ofString "handed") (fun v nw => ∃ ha e, v = .ref ha ∧ nw = [(ha, PySem.W.listOf (strValues tl).toArray e), (pa, PySem.W.listOf (strValues tl).toArray ep)] ∧ pa < ha) ?_ ?_
  · k_steps
    exact cutN_end (by k_asm) (by k_asm) ⟨_, _, rfl, rfl, by assumption⟩ (fun _ hp => hp)
  rintro v h' k nw ⟨ha, eh, rfl, rfl, hpaha⟩ F' N'
  replace hpaha := ltN hpaha
  dsimp only
  refine seq_cut (by k_asm) (by k_asm) (Str.ofString "talker") (fun v => ∃ x t, v = .str x t ∧ TkOk x) ?_ ?_
  · k_steps
    all_goals (refine cut_end ?_ (by k_asm) (by k_asm) (fun _ hp => .tail _ hp))
    · exact ⟨_, _, rfl, .inl rfl⟩
    · exact ⟨_, _, rfl, .inr (.inl rfl)⟩
    · exact ⟨_, _, rfl, .inr (.inr (.inl rfl))⟩
    · exact ⟨_, _, rfl, .inr (.inr (.inr rfl))⟩
  rintro v h' k ⟨tk, tt, rfl, htk⟩ F' N'
  dsimp only
  have htkl : tk.length ≤ 2 := by rcases htk with rfl | rfl | rfl | rfl <;> decide
  have hjl : (joinT (tl.map (fun p => p.1))).length ≤ 100 := by
    rw [hps]
    have := (psOf_ok xs).jlen
    omega
  refine seq_cutG (by k_asm) (Start (psOf xs) sort ts (.ref sa) tl ha eh) ?_ ?_
  · k_steps
    rotate_left 3
    · refine Stop.out ?_
      refine seq_cut (by k_asm) (by k_asm) (Str.ofString "other") (fun v => ∃ x t, v = .str x t ∧ TkOk x) ?_ ?_
      · k_steps
        all_goals (refine cut_end ?_ (by k_asm) (by k_asm) (fun _ hp => .tail _ hp))
        · exact ⟨_, _, rfl, .inl rfl⟩
        · exact ⟨_, _, rfl, .inr (.inl rfl)⟩
        · exact ⟨_, _, rfl, .inr (.inr (.inl rfl))⟩
        · exact ⟨_, _, rfl, .inr (.inr (.inr rfl))⟩
      rintro v h' k ⟨ot, tq, rfl, hot⟩ F' N'
      dsimp only
      have hotl : ot.length ≤ 2 := by rcases hot with rfl | rfl | rfl | rfl <;> decide
      k_steps
      rename News _ _ _ _ => nZ
      refine start_ques2 htk hot (by k_asm) nZ ?_ ?_ ⟨rfl, rfl, rfl, rfl, rfl, rfl, rfl⟩ ?_ (by omega) (by omega) (by omega) (by omega) (by omega)
      all_goals first
        | (rw [beq_eq_false_iff_ne]; omega)
        | (rw [beq_iff_eq]; omega)
        | with_reducible rfl
        | with_reducible exact congrArg _ (congrArg joinT hps)
        | rfl
    · refine Stop.out ?_
      refine seq_cut (by k_asm) (by k_asm) (Str.ofString "maker") (fun v => ∃ x t, v = .str x t ∧ MkOk x) ?_ ?_
      · k_steps
        all_goals (refine cut_end ?_ (by k_asm) (by k_asm) (fun _ hp => .tail _ hp))
        · exact ⟨_, _, rfl, .inl rfl⟩
        · exact ⟨_, _, rfl, .inr (.inl rfl)⟩
        · exact ⟨_, _, rfl, .inr (.inr rfl)⟩
      rintro v h' k ⟨mk, tm, rfl, hmk⟩ F' N'
      dsimp only
      have hmkl : mk.length ≤ 3 := by rcases hmk with rfl | rfl | rfl <;> decide
      k_steps
      rename News _ _ _ _ => nZ
      refine start_prop2 hmk hps (by k_asm) nZ ?_ ?_ ⟨rfl, rfl, rfl, rfl, rfl, rfl, rfl⟩ ?_ (by omega) (by omega) (by omega) (by omega) (by omega)
      all_goals first
        | (rw [beq_eq_false_iff_ne]; omega)
        | (rw [beq_iff_eq]; omega)
        | with_reducible rfl
        | with_reducible exact congrArg _ (congrArg joinT hps)
        | rfl
    all_goals (rename News _ _ _ _ => nZ)
    all_goals first
      | refine start_talk (Or.inl ⟨rfl, rfl⟩) htk hps (by k_asm) nZ ?_ ?_ ⟨rfl, rfl, rfl, rfl, rfl, rfl, rfl⟩ ?_ (by omega) (by omega) (by omega) (by omega) (by omega)
      | refine start_talk (Or.inr (Or.inl ⟨rfl, rfl⟩)) htk hps (by k_asm) nZ ?_ ?_ ⟨rfl, rfl, rfl, rfl, rfl, rfl, rfl⟩ ?_ (by omega) (by omega) (by omega) (by omega) (by omega)
      | refine start_talk (Or.inr (Or.inr ⟨rfl, rfl⟩)) htk hps (by k_asm) nZ ?_ ?_ ⟨rfl, rfl, rfl, rfl, rfl, rfl, rfl⟩ ?_ (by omega) (by omega) (by omega) (by omega) (by omega)
    all_goals first
      | (rw [beq_eq_false_iff_ne]; omega)
      | (rw [beq_iff_eq]; omega)
      | (show (sort == 2) = false; rw [beq_eq_false_iff_ne]; omega)
      | (show (sort == 2) = true; rw [beq_iff_eq]; omega)
      | (with_reducible exact txt_W (congrArg joinT hps))
      | (with_reducible exact txt_T (congrArg joinT hps))
      | (with_reducible exact txt_R (congrArg joinT hps))
      | with_reducible rfl
  rintro m' h' k nw ⟨⟨g, x, pa', sh, tl', its, ep', es, tb, rest, hg, h3, h2, nm, rfl, hne, B⟩⟩ F' N'
  have hPh : Mine.Ph2 := ⟨trivial⟩
  dsimp only
  have hOk : g.Ok := ok_of (psOf_ok xs).qs hg
  have hbl := hOk.blen
  have hba := hOk.asc
  unfold Asc at hba
  refine seq_cutG (by k_asm) (fun m'' nw => m'' = m' ∧ ∃ t e, nw = (ha, PySem.W.listOf (strValues (tl ++ [(Str.ofString "late", t)])).toArray e) :: rest) ?_ ?_
  · k_steps
    exact cutG_end (by k_asm) (by k_asm) ⟨rfl, _, _, by rw [← push_texts]⟩ (fun _ hp => hp)
  rintro m'' h' k nw ⟨rfl, tL, eh', rfl⟩ F' N'
  dsimp only
  refine seq_cut (by k_asm) (by k_asm) (Str.ofString "digits") (fun v => ∃ t, v = .str (hexT (csum g.body)) t) ?_ ?_
  · k_steps
    exact cut_end ⟨_, rfl⟩ (by k_asm) (by k_asm) (fun _ hp => hp)
  rintro v h' k ⟨td, rfl⟩ F' N'
  dsimp only
  refine seq_cutN (by k_asm) (Str.ofString "told") (fun v nw => ∃ a e, v = .ref a ∧ nw = (a, PySem.W.listOf #[] e) :: (ha, PySem.W.listOf (strValues (tl ++ [(Str.ofString "late", tL)])).toArray eh') :: rest ∧ ∀ p ∈ (ha, PySem.W.listOf (strValues (tl ++ [(Str.ofString "late", tL)])).toArray eh') :: rest, p.1 < a) ?_ ?_
  · k_steps
    rename And _ _ => lz
    exact cutN_end (by k_asm) (by k_asm) ⟨_, _, rfl, rfl, List.forall_mem_cons.mpr ⟨lz.1, of_allLt lz.2⟩⟩ (fun _ hp => hp)
  rintro v h' k nw ⟨told, eT, rfl, rfl, hlt⟩ F' N'
  dsimp only
  refine seq_cutN (by k_asm) (Str.ofString "due") (fun v nw => ∃ a e, v = .ref a ∧ nw = (a, PySem.W.listOf #[] e) :: (told, PySem.W.listOf #[] eT) :: (ha, PySem.W.listOf (strValues (tl ++ [(Str.ofString "late", tL)])).toArray eh') :: rest ∧ told < a ∧ ∀ p ∈ (ha, PySem.W.listOf (strValues (tl ++ [(Str.ofString "late", tL)])).toArray eh') :: rest, p.1 < a) ?_ ?_
  · k_steps
    rename And _ _ => lz
    exact cutN_end (by k_asm) (by k_asm) ⟨_, _, rfl, rfl, lz.1, List.forall_mem_cons.mpr ⟨lz.2.1, of_allLt lz.2.2⟩⟩ (fun _ hp => hp)
  rintro v h' k nw ⟨due, eD, rfl, rfl, htd, hld⟩ F' N'
  dsimp only
  rename News _ _ _ _ => nZ
  rename Fr _ _ _ _ => fZ
  have hnm := nm
  clear nm
  generalize hV : LV.mk (.ref sa) sort ts x pa' ha sh told due g tb td tl' its ep' es (PySem.W.listOf (strValues (tl ++ [(Str.ofString "late", tL)])).toArray eh') = V
  have J0 : Inv V [] 0 (fun y => if y = Str.ofString "due" then some (Value.ref due) else if y = Str.ofString "told" then some (Value.ref told) else if y = Str.ofString "digits" then some (Value.str (hexT (csum g.body)) td) else m'' y) ((told, PySem.W.listOf #[] eT) :: (due, PySem.W.listOf #[] eD) :: (ha, PySem.W.listOf (strValues (tl ++ [(Str.ofString "late", tL)])).toArray eh') :: rest) := by
    subst hV
    refine ⟨⟨hnm.script, hnm.sort, hnm.msg, hnm.parts, hnm.handed, hnm.body, hnm.shown, ?_, ?_, ?_⟩, [], [], [], (ha, _) :: rest, eT, eD, rfl, ⟨Nat.ne_of_gt htd, Nat.ne_of_lt htd, ?_, ?_⟩, (by intro p hp q hq; cases hq), .head _, B.sub (fun _ hp => .tail _ hp) (B.hd.mono fun _ hp => .tail _ hp), .nil, .nil, (by intro d h; cases h), Nat.zero_le _⟩
    · rfl
    · rfl
    · rfl
    · exact fun p hp => Nat.ne_of_lt (hlt p (by rw [List.append_nil] at hp; exact hp))
    · exact fun p hp => Nat.ne_of_lt (hld p (by rw [List.append_nil] at hp; exact hp))
  have hVok : V.g.Ok := by subst hV; exact hOk
  have hV3 : (V.sort == 3) = V.g.isQ := by subst hV; exact h3
  have hV2 : (V.sort == 2) = V.g.is2 := by subst hV; exact h2
  have hVg : GOk (psOf xs) V.g := by subst hV; exact hg
  clear hnm
  have N1 : News _ _ _ ((told, PySem.W.listOf #[] eT) :: (due, PySem.W.listOf #[] eD) :: (ha, PySem.W.listOf (strValues (tl ++ [(Str.ofString "late", tL)])).toArray eh') :: rest) := fun p hp => nZ p (by
    rcases List.mem_cons.mp hp with rfl | hp
    · exact .tail _ (.head _)
    rcases List.mem_cons.mp hp with rfl | hp
    · exact .head _
    · exact .tail _ (.tail _ hp))
  generalize hm3 : (fun y => if y = Str.ofString "due" then some (Value.ref due) else if y = Str.ofString "told" then some (Value.ref told) else if y = Str.ofString "digits" then some (Value.str (hexT (csum g.body)) td) else m'' y) = m3 at fZ J0
  generalize ((told, PySem.W.listOf #[] eT) :: (due, PySem.W.listOf #[] eD) :: (ha, PySem.W.listOf (strValues (tl ++ [(Str.ofString "late", tL)])).toArray eh') :: rest) = nw0 at J0 N1
  refine seq_cutG (by k_asm) (Inv V [] 64) ?_ ?_
  · refine For_turns fZ ?_
    k_steps
    refine Stop.out ?_
    rename News _ _ _ _ => nT
    rename (∀ (p : Addr × Obj), p ∈ _ → p.1 < _) => lT
    refine for_tup (vs := [.bool true, .bool false]) (fun i => Inv V [(_, _)] (32 * i)) rfl (by k_asm) nT (.head _) rfl rfl (first_open J0 lT) (fun i m nw J => inv_mem J) ?_ ?_
    · intro i v m nw I it h tk hv J F1 N1 hI
      obtain ⟨sm, rfl⟩ := two_bools hv
      k_steps
      refine Stop.out ?_
      rename News _ _ _ _ => nT2
      rename And _ _ => lT2
      refine for_tup (vs := [.bool true, .bool false]) (fun i2 m nw => Inv V (_ :: (I, it) :: _) (32 * i + 16 * i2) m nw ∧ m (Str.ofString "summed") = some (.bool sm)) rfl (by k_asm) nT2 (.head _) rfl rfl ⟨nest_open J hI (List.forall_mem_cons.mpr ⟨lT2.1, of_allLt lT2.2⟩) (by decide +kernel), rfl⟩ (fun _ _ _ J => inv_mem J.1) ?_ ?_
      · intro i2 v2 m nw I2 it2 h tk hv2 J2 F2 N2 hI2
        obtain ⟨dl, rfl⟩ := two_bools hv2
        k_steps
        refine Stop.out ?_
        rename News _ _ _ _ => nT3
        rename And _ _ => lT3
        refine for_tup (vs := [.bool false, .bool true, .str (Str.ofString "\n") _, .str (Str.ofString " \t") _]) (fun i3 m nw => Inv V (_ :: (I2, it2) :: _) (32 * i + 16 * i2 + 4 * i3) m nw ∧ m (Str.ofString "summed") = some (.bool sm) ∧ m (Str.ofString "dollar") = some (.bool dl)) rfl (by k_asm) nT3 (.head _) rfl rfl ⟨nest_open (y := Str.ofString "dollar") (v := .bool dl) J2.1 hI2 (List.forall_mem_cons.mpr ⟨lT3.1, of_allLt lT3.2⟩) (by decide +kernel), (if_neg (by decide)).trans J2.2, rfl⟩ (fun _ _ _ J => inv_mem J.1) ?_ ?_
        · intro i3 v3 m nw I3 it3 h tk hv3 J3 F3 N3 hI3
          obtain ⟨nl, hnv, hnl⟩ := four_ends hv3
          obtain ⟨J3, ms, md⟩ := J3
          obtain ⟨T, D, ds, R, RR, eT, eD, hRR, NR, off, hRs, hRE, hEI, hhR, BR, dT, dD, hok, hdl, lT, lD⟩ := turn_open J3 N3 hI3
          have nmO := J3.nm
          clear J3 N3 J2 J F2 N2 F1 N1 J0
          k_steps
          refine Stop.out ?_
          rename Fr _ _ _ _ => fE
          have hNL : NmL (fun z => if z = Str.ofString "end" then some v3 else m z) _ _ _ _ _ _ _ _ _ _ _ _ _ := nml_upd nmO (by decide +kernel)
          have hNT : NmT (fun z => if z = Str.ofString "end" then some v3 else m z) sm dl v3 := ⟨(if_neg (by decide)).trans ms, (if_neg (by decide)).trans md, if_pos rfl⟩
          clear nmO ms md
          generalize hm4 : (fun z => if z = Str.ofString "end" then some v3 else m z) = m4 at fE hNL hNT
          clear hm4
          have hbl := hVok.blen
          have hba := hVok.asc
          unfold Asc at hba
          refine seq_cut (by k_asm) (by k_asm) (Str.ofString "behind") (fun v => ∃ t, v = .str nl t) ?_ ?_
          · cases hnv
            all_goals k_steps
            all_goals (refine cut_end ⟨_, rfl⟩ (by k_asm) (by k_asm) (fun _ hp => hp))
          rintro v h' k ⟨tB, rfl⟩ F' N'
          dsimp only
          refine seq_cut (by k_asm) (by k_asm) (Str.ofString "text") (fun v => ∃ t, v = .str (dress V.g.body sm dl nl) t) ?_ ?_
          · have hnll : nl.length ≤ 10 := by rcases hnl with rfl | rfl | rfl | rfl <;> decide
            k_steps
            all_goals (refine cut_end (str_some ?_) (by k_asm) (by k_asm) (fun _ hp => hp))
            all_goals with_reducible first
              | exact dr1 (by assumption) (by assumption)
              | exact dr2 (by assumption) (by assumption)
              | exact dr3 (by assumption) (by assumption)
              | exact dr4 (by assumption) (by assumption)
          rintro v h' k ⟨tX, rfl⟩ F' N'
          dsimp only
          have hM : MsgAt RR V.x V.g := msg_sub BR.msg hRs
          have hpa := hRs _ BR.pa
          have hsh := hRs _ BR.sh
          have hdl' : ds.length ≤ 124 := by
            have h1 : i < 2 := (List.getElem?_eq_some_iff.mp hv).1
            have h2 : i2 < 2 := (List.getElem?_eq_some_iff.mp hv2).1
            have h3 : i3 < 4 := (List.getElem?_eq_some_iff.mp hv3).1
            omega
          have hno : NlV (.bool false) Str.empty := .no
          rename Fr _ _ _ _ => fE5
          have hNL5 : NmL (fun z => if z = Str.ofString "text" then some (Value.str (dress V.g.body sm dl nl) tX) else if z = Str.ofString "behind" then some (Value.str nl tB) else m4 z) _ _ _ _ _ _ _ _ _ _ _ _ _ := nml_upd (nml_upd hNL (by decide +kernel)) (by decide +kernel)
          have hNT5 : NmT (fun z => if z = Str.ofString "text" then some (Value.str (dress V.g.body sm dl nl) tX) else if z = Str.ofString "behind" then some (Value.str nl tB) else m4 z) sm dl v3 := ⟨(if_neg (by decide)).trans ((if_neg (by decide)).trans hNT.summed), (if_neg (by decide)).trans ((if_neg (by decide)).trans hNT.dollar), (if_neg (by decide)).trans ((if_neg (by decide)).trans hNT.end_)⟩
          have hNU : NmU (fun z => if z = Str.ofString "text" then some (Value.str (dress V.g.body sm dl nl) tX) else if z = Str.ofString "behind" then some (Value.str nl tB) else m4 z) (Value.str (dress V.g.body sm dl nl) tX) (Value.str nl tB) := ⟨if_pos rfl, (if_neg (by decide)).trans (if_pos rfl)⟩
          generalize hm5 : (fun z => if z = Str.ofString "text" then some (Value.str (dress V.g.body sm dl nl) tX) else if z = Str.ofString "behind" then some (Value.str nl tB) else m4 z) = m5 at fE5 hNL5 hNT5 hNU
          clear hm5 hNL hNT
          refine seq_cutG (by k_asm) (fun m'' nw => m'' = m5 ∧ ∃ t e, nw = (V.told, PySem.W.listOf (T ++ [Value.str (dress V.g.body sm dl nl) t]).toArray e) :: (V.due, PySem.W.listOf D.toArray eD) :: RR) ?_ ?_
          · k_steps
            all_goals (rename News _ _ _ _ => nZ)
            all_goals rw [push1] at nZ
            all_goals exact cutG_end (by k_asm) nZ ⟨rfl, _, _, rfl⟩ (fun p hp => List.Mem.tail _ hp)
          rintro m5 h' k _ ⟨rfl, tZ, eT1, rfl⟩ F' N'
          dsimp only
          refine seq_cutG (by k_asm) (fun m'' nw => m'' = m5 ∧ ∃ e, nw = (V.told, PySem.W.listOf (T ++ [Value.str (dress V.g.body sm dl nl) tZ]).toArray eT1) :: (V.due, PySem.W.listOf (D ++ [Value.str (dress V.g.body sm dl nl) tX]).toArray e) :: RR) ?_ ?_
          · k_steps
            all_goals (rename News _ _ _ _ => nZ)
            all_goals rw [push1] at nZ
            all_goals exact cutG_end (by k_asm) nZ ⟨rfl, _, rfl⟩ (fun p hp => hp)
          rintro m5 h' k _ ⟨rfl, eD1, rfl⟩ F' N'
          dsimp only
          rcases hrb : readBack V.g sm nl with _ | g'
          · obtain ⟨rfl, hne, hq, y, hF, hK, hS⟩ := line_none (dl := dl) (psOf_ok xs) hVg hnl hrb
            have hne' : (nl != Str.ofString "") = true := by rw [bne_iff_ne]; exact hne
            have hnll : nl.length ≤ 10 := by have := nl_len hnl; omega
            refine seq_cutG (by k_asm) (fun m'' nw => m'' = (fun z => if z = Str.ofString "again" then some Value.none else m5 z) ∧ nw = (V.told, PySem.W.listOf (T ++ [Value.str (dress V.g.body false dl nl) tZ]).toArray eT1) :: (V.due, PySem.W.listOf (D ++ [Value.str (dress V.g.body false dl nl) tX]).toArray eD1) :: RR) ?_ ?_
            · k_steps
              all_goals (rename News _ _ _ _ => nZ)
              all_goals exact cutG_end (by k_asm) nZ ⟨rfl, rfl⟩ (fun _ hp => hp)
            rintro _ h' k _ ⟨rfl, rfl⟩ F' N'
            have nmL6 : NmL (fun z => if z = Str.ofString "again" then some Value.none else m5 z) _ _ _ _ _ _ _ _ _ _ _ _ _ := nml_upd hNL5 (by decide +kernel)
            have nmT6 : NmT (fun z => if z = Str.ofString "again" then some Value.none else m5 z) false dl v3 := nmt_upd hNT5 (by decide +kernel)
            have nmU6 : NmU (fun z => if z = Str.ofString "again" then some Value.none else m5 z) (Value.str (dress V.g.body false dl nl) tX) (Value.str nl tB) := nmu_upd hNU (by decide +kernel)
            have nmA6 : NmA (fun z => if z = Str.ofString "again" then some Value.none else m5 z) Value.none := ⟨if_pos rfl⟩
            generalize hm6 : (fun z => if z = Str.ofString "again" then some Value.none else m5 z) = m6 at F' nmL6 nmT6 nmU6 nmA6
            clear hm6 hNL5 hNT5 hNU
            dsimp only
            refine seq_cutG (by k_asm) (fun m'' nw => m'' = m6 ∧ ∃ r3 its e e', DatAll [] its [Dat.str (Str.ofString "no sentence")] ∧ Ext V.told V.due [(r3, PySem.W.listOf its.toArray e)] RR ∧ nw = (V.told, PySem.W.listOf (T ++ [Value.str (dress V.g.body false dl nl) tZ, Value.ref r3]).toArray e') :: (V.due, PySem.W.listOf (D ++ [Value.str (dress V.g.body false dl nl) tX]).toArray eD1) :: ([(r3, PySem.W.listOf its.toArray e)] ++ RR)) ?_ ?_
            · k_steps
              all_goals (rename News _ _ _ _ => nZ)
              all_goals rw [push_b] at nZ
              all_goals exact cutG_end (by k_asm) nZ ⟨rfl, _, _, _, _, dat_no (by assumption), one_ext (by assumption), rfl⟩ sub1
            rintro m6 h' k _ ⟨rfl, r3, its3, e3, eT3, hD3, hX3, rfl⟩ F' N'
            dsimp only
            have off3 := hX3.off off
            have hr3 : (r3, PySem.W.listOf its3.toArray e3) ∈ [(r3, PySem.W.listOf its3.toArray e3)] := .head _
            generalize hW3 : [(r3, PySem.W.listOf its3.toArray e3)] = W3 at N' hX3 off3 hr3
            clear hW3
            have hs3 : Sub RR (W3 ++ RR) := ⟨fun p hp => List.mem_append_right _ hp⟩
            generalize hRR3 : W3 ++ RR = RR3 at N' off3 hs3
            have hS3 : S3 V.sort true := ⟨by rw [hV3]; exact hq⟩
            refine seq_cutG (by k_asm) (fun m'' nw => NmL m'' V.sc V.sort V.ts V.x V.pa V.ha V.sh V.told V.due V.g.body (hexT (csum V.g.body)) V.tb V.td ∧ NmT m'' false dl v3 ∧ NmA m'' Value.none ∧ ∃ r6 t6 e6 eD6, Ext V.told V.due [(r6, PySem.W.listOf [Value.str (Str.ofString "no sentence") t6].toArray e6)] RR3 ∧ nw = (V.told, PySem.W.listOf (T ++ [Value.str (dress V.g.body false dl nl) tZ, Value.ref r3]).toArray eT3) :: (V.due, PySem.W.listOf (D ++ [Value.str (dress V.g.body false dl nl) tX, Value.ref r6]).toArray eD6) :: ([(r6, PySem.W.listOf [Value.str (Str.ofString "no sentence") t6].toArray e6)] ++ RR3)) ?_ ?_
            · k_steps
              all_goals (rename News _ _ _ _ => nZ)
              all_goals first
                | exact absurd (Eq.trans (Eq.symm hne') (by assumption)) (by decide)
                | (rw [push_b] at nZ
                   exact cutG_end (by k_asm) nZ ⟨by assumption, by assumption, by assumption, _, _, _, _, one_ext (by assumption), rfl⟩ sub1)
            rintro m7 h' k _ ⟨nmL7, nmT7, nmA7, r6, t6, e6, eD6, hX6, rfl⟩ F' N'
            clear nmL6 nmT6 nmU6 nmA6
            dsimp only
            have off4 := hX6.off off3
            have hr6 : (r6, PySem.W.listOf [Value.str (Str.ofString "no sentence") t6].toArray e6) ∈ [(r6, PySem.W.listOf [Value.str (Str.ofString "no sentence") t6].toArray e6)] := .head _
            generalize hW6 : [(r6, PySem.W.listOf [Value.str (Str.ofString "no sentence") t6].toArray e6)] = W6 at N' hX6 off4 hr6
            clear hW6
            generalize hRR4 : W6 ++ RR3 = RR4 at N' off4
            have hRR' : RR4 = (W6 ++ W3) ++ RR := by
              rw [← hRR4, ← hRR3, List.append_assoc]
            have hX : Ext V.told V.due (W6 ++ W3) RR := by
              refine Ext.app ?_ hX3
              rw [hRR3]
              exact hX6
            have hmT : ∀ p ∈ R, p ∈ (W6 ++ W3) ++ R := fun p hp => List.mem_append_right _ hp
            have hm3 : (r3, PySem.W.listOf its3.toArray e3) ∈ (W6 ++ W3) ++ R := List.mem_append_left _ (List.mem_append_right _ hr3)
            have hm6 : (r6, PySem.W.listOf [Value.str (Str.ofString "no sentence") t6].toArray e6) ∈ (W6 ++ W3) ++ R := List.mem_append_left _ (List.mem_append_left _ hr6)
            k_steps
            rename News _ _ _ _ => nZ
            refine turn_close2 (W := W6 ++ W3) (ds := ds ++ [.str (dress V.g.body false dl nl), .list [.str (Str.ofString "no sentence")]]) (b := 32 * i + 16 * i2 + 4 * (i3 + 1)) _ hRR off hRE hEI hhR BR (by k_asm) nZ (fun p hp => by rw [← hRR'] at hp; exact hp) (by assumption) hX ?_ ?_ (ok_No (psOf_ok xs) hVg hnl hok) ?_ (fun nw J' => ⟨J', NmT.summed (by assumption), NmT.dollar (by assumption)⟩)
            · exact told_1 (dT.mono hmT) hm3 (dat_no hD3)
            · exact told_1 (dD.mono hmT) hm6 (.cons (.str _ _) .nil)
            · simp only [List.length_append, List.length_cons, List.length_nil]
              omega
          · have hOk' : g'.Ok := ok_of (rows_qs (psOf_ok xs) hnl) (back_gok hVg hrb)
            obtain ⟨y, n, hF, hK, hS⟩ := line_some (dl := dl) (psOf_ok xs) hVg hnl hrb
            refine seq_cutG (by k_asm) (fun m'' nw => ∃ r dx l o1 o2 o3, m'' = (fun z => if z = Str.ofString "again" then some (Value.ref r) else m5 z) ∧ MsgAt [(l, o1), (r, o2), (dx, o3)] r g' ∧ Ext V.told V.due [(l, o1), (r, o2), (dx, o3)] RR ∧ nw = (V.told, PySem.W.listOf (T ++ [Value.str (dress V.g.body sm dl nl) tZ]).toArray eT1) :: (V.due, PySem.W.listOf (D ++ [Value.str (dress V.g.body sm dl nl) tX]).toArray eD1) :: ([(l, o1), (r, o2), (dx, o3)] ++ RR)) ?_ ?_
            · k_steps
              all_goals (rename News _ _ _ _ => nZ)
              all_goals exact cutG_end (by k_asm) nZ ⟨_, _, _, _, _, _, rfl, by assumption, read_ext (by assumption) (by assumption) (by assumption) (by assumption), rfl⟩ sub4
            rintro _ h' k _ ⟨r, dx, l, o1, o2, o3, rfl, hM2, hX2, rfl⟩ F' N'
            try dsimp only at F'
            have off2 := hX2.off off
            generalize hW2 : [(l, o1), (r, o2), (dx, o3)] = W2 at N' hM2 hX2 off2
            clear hW2
            have hs2 : Sub W2 (W2 ++ RR) := .left
            have hs2' : Sub RR (W2 ++ RR) := ⟨fun p hp => List.mem_append_right _ hp⟩
            generalize hRR2 : W2 ++ RR = RR2 at N' off2 hs2 hs2'
            have hpa2 := hs2'.h _ hpa
            have hsh2 := hs2'.h _ hsh
            have nmL6 : NmL (fun z => if z = Str.ofString "again" then some (Value.ref r) else m5 z) _ _ _ _ _ _ _ _ _ _ _ _ _ := nml_upd hNL5 (by decide +kernel)
            have nmT6 : NmT (fun z => if z = Str.ofString "again" then some (Value.ref r) else m5 z) sm dl v3 := ⟨(if_neg (by decide)).trans hNT5.summed, (if_neg (by decide)).trans hNT5.dollar, (if_neg (by decide)).trans hNT5.end_⟩
            have nmU6 : NmU (fun z => if z = Str.ofString "again" then some (Value.ref r) else m5 z) (Value.str (dress V.g.body sm dl nl) tX) (Value.str nl tB) := ⟨(if_neg (by decide)).trans hNU.text, (if_neg (by decide)).trans hNU.behind⟩
            have nmA6 : NmA (fun z => if z = Str.ofString "again" then some (Value.ref r) else m5 z) (Value.ref r) := ⟨if_pos rfl⟩
            generalize hm6 : (fun z => if z = Str.ofString "again" then some (Value.ref r) else m5 z) = m6 at F' nmL6 nmT6 nmU6 nmA6
            clear hm6 hNL5 hNT5 hNU
            dsimp only
            refine seq_cutG (by k_asm) (fun m'' nw => m'' = m6 ∧ ∃ r3 its e e', DatAll W2 its g'.shown ∧ Ext V.told V.due [(r3, PySem.W.listOf its.toArray e)] RR2 ∧ nw = (V.told, PySem.W.listOf (T ++ [Value.str (dress V.g.body sm dl nl) tZ, Value.ref r3]).toArray e') :: (V.due, PySem.W.listOf (D ++ [Value.str (dress V.g.body sm dl nl) tX]).toArray eD1) :: ([(r3, PySem.W.listOf its.toArray e)] ++ RR2)) ?_ ?_
            · k_steps
              all_goals (rename News _ _ _ _ => nZ)
              all_goals rw [push_b] at nZ
              all_goals exact cutG_end (by k_asm) nZ ⟨rfl, _, _, _, _, by assumption, one_ext (by assumption), rfl⟩ sub1
            rintro m6 h' k _ ⟨rfl, r3, its3, e3, eT3, hD3, hX3, rfl⟩ F' N'
            dsimp only
            have off3 := hX3.off off2
            have hr3 : (r3, PySem.W.listOf its3.toArray e3) ∈ [(r3, PySem.W.listOf its3.toArray e3)] := .head _
            generalize hW3 : [(r3, PySem.W.listOf its3.toArray e3)] = W3 at N' hX3 off3 hr3
            clear hW3
            have hs3 : Sub RR2 (W3 ++ RR2) := ⟨fun p hp => List.mem_append_right _ hp⟩
            generalize hRR3 : W3 ++ RR2 = RR3 at N' off3 hs3
            have hpa3 := hs3.h _ hpa2
            have hsh3 := hs3.h _ hsh2
            have hqs := parts_qs (psOf_ok xs) hVg
            have hVl : V.tl.length ≤ 7 := by
              have h1 := congrArg List.length BR.ps
              rw [List.length_map] at h1
              have := hqs.len
              omega
            have hIl : V.its.length ≤ 8 := by
              have h1 := datAll_len BR.hd
              have := head_len V.g
              omega
            have hnll : nl.length ≤ 10 := by have := nl_len hnl; omega
            refine seq_cutG (by k_asm) (fun m'' nw => NmL m'' V.sc V.sort V.ts V.x V.pa V.ha V.sh V.told V.due V.g.body (hexT (csum V.g.body)) V.tb V.td ∧ NmT m'' sm dl v3 ∧ NmU m'' (Value.str (dress V.g.body sm dl nl) tX) (Value.str nl tB) ∧ NmA m'' (Value.ref r) ∧ ∃ W6 r6 its6 e6 eD6, Ext V.told V.due W6 RR3 ∧ (r6, PySem.W.listOf its6.toArray e6) ∈ W6 ∧ DatAll (W6 ++ R) its6 g'.shown ∧ nw = (V.told, PySem.W.listOf (T ++ [Value.str (dress V.g.body sm dl nl) tZ, Value.ref r3]).toArray eT3) :: (V.due, PySem.W.listOf (D ++ [Value.str (dress V.g.body sm dl nl) tX, Value.ref r6]).toArray eD6) :: (W6 ++ RR3)) ?_ ?_
            · by_cases hq : V.g.isQ = true
              · have hs3 : S3 V.sort true := ⟨by rw [hV3]; exact hq⟩
                have hsh' := rb_shown_q hrb hq
                cases sm
                · have hnn := rb_nl hrb hq
                  subst hnn
                  k_steps
                  all_goals (rename News _ _ _ _ => nZ; rw [push_b] at nZ)
                  all_goals exact cutG_end (by k_asm) nZ ⟨by assumption, by assumption, by assumption, by assumption, [_, _, _], _, _, _, _, three_ext (by assumption) (by assumption) (by assumption), .head _, dat_shown (tl := []) (BR.hd.mono fun p hp => List.mem_append_right _ hp) (List.mem_append_left _ (.tail _ (.tail _ (.head _)))) rfl hsh', rfl⟩ sub3
                · k_steps
                  all_goals (rename News _ _ _ _ => nZ; rw [push_b] at nZ)
                  all_goals exact cutG_end (by k_asm) nZ ⟨by assumption, by assumption, by assumption, by assumption, [_, _, _], _, _, _, _, three_ext (by assumption) (by assumption) (by assumption), .head _, dat_shown (tl := []) (BR.hd.mono fun p hp => List.mem_append_right _ hp) (List.mem_append_left _ (.tail _ (.tail _ (.head _)))) rfl hsh', rfl⟩ sub3
              · have hs3 : S3 V.sort false := ⟨by rw [hV3]; exact Bool.eq_false_iff.mpr hq⟩
                have hsh' := rb_shown_n hrb hq
                k_steps
                refine Stop.out ?_
                refine seq_cutG (by k_asm) (fun m'' nw => ∃ rw tl2 a t2 e2, m'' = (fun z => if z = Str.ofString "rows" then some (Value.ref rw) else m6 z) ∧ (tl2 ++ [(a, t2)]).map (fun p => p.1) = rowsT V.g.parts true nl ∧ tl2.length ≤ 6 ∧ a.length ≤ 6 ∧ (@LT.lt Nat _ V.told rw ∧ @LT.lt Nat _ V.due rw ∧ AllLt rw RR3) ∧ nw = (rw, PySem.W.listOf (strValues (tl2 ++ [(a, t2)])).toArray e2) :: (V.told, PySem.W.listOf (T ++ [Value.str (dress V.g.body sm dl nl) tZ, Value.ref r3]).toArray eT3) :: (V.due, PySem.W.listOf (D ++ [Value.str (dress V.g.body sm dl nl) tX]).toArray eD1) :: RR3) ?_ ?_
                · have hps' := BR.ps
                  rcases hVtl : V.tl with _ | ⟨p0, tlr⟩
                  · rw [hVtl] at hpa3 hps'
                    k_steps
                    all_goals (rename News _ _ _ _ => nZ)
                    all_goals exact cutG_end (by k_asm) nZ ⟨_, [], _, _, _, rfl, (by rw [← hps']; exact rows_true_nil.symm), Nat.zero_le _, (by decide +kernel), by assumption, rfl⟩ (fun _ hp => hp)
                  · rw [hVtl] at hpa3 hVl hps'
                    k_steps
                    all_goals (rename News _ _ _ _ => nZ)
                    obtain ⟨tl2, a, t2, hsn⟩ := tl_snoc (tl := p0 :: tlr) (fun e => nomatch e)
                    have ha : a.length ≤ 6 := (hqs.all a (by rw [← hps', hsn, List.map_append]; exact List.mem_append_right _ (.head _))).1
                    have hrt : (tl2 ++ [(a, t2)]).map (fun p => p.1) = rowsT V.g.parts true nl := by
                      rw [← hsn, hps', rows_true']
                      rw [← hps']
                      exact fun e => nomatch e
                    have hl2 : tl2.length ≤ 6 := by
                      rw [hsn, List.length_append] at hVl
                      have : [(a, t2)].length = 1 := rfl
                      omega
                    rw [hsn] at nZ
                    exact cutG_end (by k_asm) nZ ⟨_, tl2, a, t2, _, rfl, hrt, hl2, ha, by assumption, rfl⟩ (fun _ hp => hp)
                rintro _ h' k _ ⟨rw, tl2, a, t2, e2, rfl, hrt, hl2, ha, lrw, rfl⟩ F' N'
                dsimp only
                cases sm
                · k_steps
                  all_goals (rename News _ _ _ _ => nZ; rw [push_b] at nZ)
                  all_goals exact cutG_end (by k_asm) nZ ⟨nml_upd (by assumption) (by decide +kernel), nmt_upd (by assumption) (by decide +kernel), nmu_upd (by assumption) (by decide +kernel), nma_upd (by assumption) (by decide +kernel), [_, _, _], _, _, _, _, three_ext lrw (by assumption) (by assumption), .head _, dat_shown (BR.hd.mono fun p hp => List.mem_append_right _ hp) (List.mem_append_left _ (.tail _ (.tail _ (.head _)))) (rows_of_snoc hrt) hsh', rfl⟩ sub3
                · k_steps
                  all_goals (rename News _ _ _ _ => nZ; rw [push_b] at nZ)
                  all_goals exact cutG_end (by k_asm) nZ ⟨nml_upd (by assumption) (by decide +kernel), nmt_upd (by assumption) (by decide +kernel), nmu_upd (by assumption) (by decide +kernel), nma_upd (by assumption) (by decide +kernel), [_, _, _], _, _, _, _, three_ext lrw (by assumption) (by assumption), .head _, dat_shown (BR.hd.mono fun p hp => List.mem_append_right _ hp) (List.mem_append_left _ (.tail _ (.tail _ (.head _)))) hrt hsh', rfl⟩ sub3
            rintro m7 h' k _ ⟨nmL7, nmT7, nmU7, nmA7, W6, r6, its6, e6, eD6, hX6, hr6, hD6, rfl⟩ F' N'
            clear nmL6 nmT6 nmU6 nmA6
            dsimp only
            have off4 := hX6.off off3
            have hs4 : Sub W2 (W6 ++ RR3) := ⟨fun p hp => List.mem_append_right _ (hs3.h _ (hs2.h _ hp))⟩
            generalize hRR4 : W6 ++ RR3 = RR4 at N' off4 hs4
            have hRR' : RR4 = (W6 ++ (W3 ++ W2)) ++ RR := by
              rw [← hRR4, ← hRR3, ← hRR2, List.append_assoc, List.append_assoc]
            have hX : Ext V.told V.due (W6 ++ (W3 ++ W2)) RR := by
              refine Ext.app ?_ (Ext.app ?_ hX2)
              · rw [List.append_assoc, hRR2, hRR3]
                exact hX6
              · rw [hRR2]
                exact hX3
            have hmT : ∀ p ∈ R, p ∈ (W6 ++ (W3 ++ W2)) ++ R := fun p hp => List.mem_append_right _ hp
            have hm2 : ∀ p ∈ W2, p ∈ (W6 ++ (W3 ++ W2)) ++ R := fun p hp => List.mem_append_left _ (List.mem_append_right _ (List.mem_append_right _ hp))
            have hm3 : (r3, PySem.W.listOf its3.toArray e3) ∈ (W6 ++ (W3 ++ W2)) ++ R := List.mem_append_left _ (List.mem_append_right _ (List.mem_append_left _ hr3))
            have hm6 : (r6, PySem.W.listOf its6.toArray e6) ∈ (W6 ++ (W3 ++ W2)) ++ R := List.mem_append_left _ (List.mem_append_left _ hr6)
            have hmD : ∀ p ∈ W6 ++ R, p ∈ (W6 ++ (W3 ++ W2)) ++ R := fun p hp => by
              rcases List.mem_append.mp hp with hp | hp
              · exact List.mem_append_left _ (List.mem_append_left _ hp)
              · exact List.mem_append_right _ hp
            cases sm
            · k_steps
              rename News _ _ _ _ => nZ
              rw [push_c, push_c] at nZ
              refine turn_close2 (W := W6 ++ (W3 ++ W2)) (ds := ds ++ dsN V.g.body g'.shown dl nl) (b := 32 * i + 16 * i2 + 4 * (i3 + 1)) _ hRR off hRE hEI hhR BR (by k_asm) nZ (fun p hp => by rw [← hRR'] at hp; exact .tail _ hp) (by assumption) hX ?_ ?_ (ok_N (psOf_ok xs) hVg hnl hrb hok) ?_ (fun nw J' => ⟨J', NmT.summed (by assumption), NmT.dollar (by assumption)⟩)
              · exact told_N (dT.mono hmT) hm3 (hD3.mono hm2) rfl (back_dress hrb)
              · exact told_N (dD.mono hmT) hm6 (hD6.mono hmD) rfl rfl
              · simp only [List.length_append, dsN, List.length_cons, List.length_nil]
                omega
            · have hbb := back_body hrb
              cases dl
              · k_steps
                rename News _ _ _ _ => nZ
                rw [push_d, push_d] at nZ
                refine turn_close2 (W := W6 ++ (W3 ++ W2)) (ds := ds ++ dsU V.g.body g'.shown false nl) (b := 32 * i + 16 * i2 + 4 * (i3 + 1)) _ hRR off hRE hEI hhR BR (by k_asm) nZ (fun p hp => by rw [← hRR'] at hp; exact .tail _ (.tail _ hp)) (by assumption) hX ?_ ?_ (ok_S (psOf_ok xs) hVg hnl hrb hok) ?_ (fun nw J' => ⟨J', NmT.summed (by assumption), NmT.dollar (by assumption)⟩)
                · exact told_S (dT.mono hmT) hm3 (hD3.mono hm2) rfl (by rw [hbb]) (by rw [hbb])
                · exact told_S (dD.mono hmT) hm6 (hD6.mono hmD) rfl rfl nosum_t
                · simp only [List.length_append, dsU, List.length_cons, List.length_nil]
                  omega
              · k_steps
                rename News _ _ _ _ => nZ
                rw [push_d, push_d] at nZ
                refine turn_close2 (W := W6 ++ (W3 ++ W2)) (ds := ds ++ dsU V.g.body g'.shown true nl) (b := 32 * i + 16 * i2 + 4 * (i3 + 1)) _ hRR off hRE hEI hhR BR (by k_asm) nZ (fun p hp => by rw [← hRR'] at hp; exact .tail _ (.tail _ hp)) (by assumption) hX ?_ ?_ (ok_S (psOf_ok xs) hVg hnl hrb hok) ?_ (fun nw J' => ⟨J', NmT.summed (by assumption), NmT.dollar (by assumption)⟩)
                · exact told_S (dT.mono hmT) hm3 (hD3.mono hm2) rfl (by rw [hbb]) (by rw [hbb])
                · exact told_S (dD.mono hmT) hm6 (hD6.mono hmD) rfl rfl nosum_f
                · simp only [List.length_append, dsU, List.length_cons, List.length_nil]
                  omega
        · intro m nw h tk J F1 N1
          k_steps
          exact nest_close (fun i2 m nw => Inv V (_ :: (I, it) :: _) (32 * i + 16 * i2) m nw ∧ m (Str.ofString "summed") = some (.bool sm)) J.1 (inv_eo J2.1 hI2) F1 N1 (fun nw J' => ⟨inv_le J' (by simp only [List.length_cons, List.length_nil]; omega), J.2.1⟩)
      · intro m nw h tk J' F1 N1
        k_steps
        exact nest_close (fun i => Inv V _ (32 * i)) J'.1 (inv_eo J hI) F1 N1 (fun nw J'' => inv_le J'' (by simp only [List.length_cons, List.length_nil]; omega))
    · intro m nw h tk J F1 N1
      obtain ⟨nw', J', hs⟩ := first_close J
      exact cutG_end F1 N1 J' hs
  rintro m9 h' k _ ⟨nm9, T, D, ds, R, eT, eD, rfl, off, -, hh, B9, dT, dD, hok, hl⟩ F' N'
  rw [List.nil_append] at N'
  rw [List.append_nil] at off
  have hsc : V.sc = .ref sa := by rw [← hV]
  rw [hsc] at nm9
  have hM := B9.msg
  have hbl9 := hVok.blen
  have hsr : Sub R R := ⟨fun _ h => h⟩
  have hqs := parts_qs (psOf_ok xs) hVg
  have lT := datAll_len dT
  have lD := datAll_len dD
  have hhe : (V.ha, PySem.W.listOf (strValues (tl ++ [(Str.ofString "late", tL)])).toArray eh') ∈ R := by
    have e : V.he = PySem.W.listOf (strValues (tl ++ [(Str.ofString "late", tL)])).toArray eh' := by rw [← hV]
    rw [← e]
    exact hh
  dsimp only
  refine seq_cutG (by k_asm) (fun m'' nw => m'' = m9 ∧ ∃ W rl its el eT', Ext V.told V.due W R ∧ (rl, PySem.W.listOf its.toArray el) ∈ W ∧ DatAll (W ++ R) its (lastD V.g (psOf xs)) ∧ nw = (V.told, PySem.W.listOf (T ++ [Value.ref rl]).toArray eT') :: (V.due, PySem.W.listOf D.toArray eD) :: (W ++ R)) ?_ ?_
  · by_cases h2 : V.g.is2 = true
    · have hs2 : S2 V.sort true := ⟨by rw [hV2]; exact h2⟩
      obtain ⟨st, tk, ps, hg2⟩ := is2_talk h2
      have hM2 := hM
      rw [hg2] at hM2
      have hpl : ps.length ≤ 20 := by
        have := hqs.len
        rw [hg2] at this
        exact Nat.le_trans this (by decide)
      have hgp : V.g.parts = ps := by rw [hg2]; rfl
      replace hM := hM
      clear hg2
      k_steps
      rename News _ _ _ _ => nZ
      rw [push1] at nZ
      exact cutG_end (by k_asm) nZ ⟨rfl, [_, _, _], _, _, _, _, three_ext (by assumption) (by assumption) (by assumption), .head _, .cons (.list (List.mem_append_left _ (.tail _ (.tail _ (.head _)))) ((by assumption : DatAll R _ V.g.shown).mono fun p hp => List.mem_append_right _ hp)) (.cons (dat_texts_eq (List.mem_append_right _ hhe) (late_map hps)) (.cons (.str _ _) (.cons (by rw [if_pos h2, hgp]; exact dat_copy (List.mem_append_left _ (.tail _ (.head _))) (by assumption)) .nil))), rfl⟩ sub3
    · have hs2 : S2 V.sort false := ⟨by rw [hV2]; exact Bool.eq_false_iff.mpr h2⟩
      k_steps
      rename News _ _ _ _ => nZ
      rw [push1] at nZ
      exact cutG_end (by k_asm) nZ ⟨rfl, [_, _, _], _, _, _, _, three_ext (by assumption) (by assumption) (by assumption), .head _, .cons (.list (List.mem_append_left _ (.tail _ (.tail _ (.head _)))) ((by assumption : DatAll R _ V.g.shown).mono fun p hp => List.mem_append_right _ hp)) (.cons (dat_texts_eq (List.mem_append_right _ hhe) (late_map hps)) (.cons (.str _ _) (.cons (by rw [if_neg h2]; exact dat_texts_eq (tl := []) (List.mem_append_left _ (.tail _ (.head _))) rfl) .nil))), rfl⟩ sub3
  rintro m9 h' k _ ⟨rfl, W, rl, its, el, eT', hX, hrl, hD1, rfl⟩ F' N'
  have off2 := hX.off off
  have hWR : Sub R (W ++ R) := ⟨fun p hp => List.mem_append_right _ hp⟩
  have hRW : ∀ p ∈ W ++ R, p ∈ W ++ R := fun p hp => hp
  have hrl' : (rl, PySem.W.listOf its.toArray el) ∈ W ++ R := List.mem_append_left _ hrl
  have dT' := dT.mono hWR.h
  have dD' := dD.mono hWR.h
  generalize hR2 : W ++ R = R2 at N' off2 hWR hD1 hrl' dT' dD'
  have hsh2 := hWR.h _ B9.sh
  have hpa2 := hWR.h _ B9.pa
  have hIl : V.its.length ≤ 8 := by
    have h1 := datAll_len B9.hd
    have := head_len V.g
    omega
  dsimp only
  refine seq_cutG (by k_asm) (fun m'' nw => m'' = m9 ∧ ∃ W2 rl2 its2 el2 eD', Ext V.told V.due W2 R2 ∧ (rl2, PySem.W.listOf its2.toArray el2) ∈ W2 ∧ DatAll (W2 ++ R2) its2 (lastD V.g (psOf xs)) ∧ nw = (V.told, PySem.W.listOf (T ++ [Value.ref rl]).toArray eT') :: (V.due, PySem.W.listOf (D ++ [Value.ref rl2]).toArray eD') :: (W2 ++ R2)) ?_ ?_
  · by_cases h2 : V.g.is2 = true
    · have hs2 : S2 V.sort true := ⟨by rw [hV2]; exact h2⟩
      k_steps
      rename News _ _ _ _ => nZ
      rw [push1] at nZ
      refine cutG_end (by k_asm) nZ ⟨rfl, [_, _, _], _, _, _, _, ⟨hW_of (by assumption) ?_⟩, .head _, .cons (.list (List.mem_append_left _ (.tail _ (.tail _ (.head _)))) ?_) (.cons (dat_texts_eq (List.mem_append_left _ (.tail _ (.head _))) (late_map (by assumption))) (.cons ?_ (.cons ?_ .nil))), rfl⟩ sub7
      · intro w hw
        simp only [List.mem_cons, List.not_mem_nil, or_false] at hw
        rcases hw with rfl | rfl | rfl
        all_goals ((try dsimp only); omega)
      · rw [shown_eq, ← B9.ps]
        exact (B9.hd.mono fun p hp => List.mem_append_right _ (hWR.h _ hp)).append (.cons (dat_list (List.mem_append_right _ hpa2)) .nil)
      · rw [← last_text]
        exact .str _ _
      · rw [if_pos h2]
        exact dat_texts_eq (List.mem_append_right _ hpa2) B9.ps
    · have hs2 : S2 V.sort false := ⟨by rw [hV2]; exact Bool.eq_false_iff.mpr h2⟩
      k_steps
      rename News _ _ _ _ => nZ
      rw [push1] at nZ
      refine cutG_end (by k_asm) nZ ⟨rfl, [_, _, _, _], _, _, _, _, ⟨hW_of (by assumption) ?_⟩, .head _, .cons (.list (List.mem_append_left _ (.tail _ (.tail _ (.tail _ (.head _))))) ?_) (.cons (dat_texts_eq (List.mem_append_left _ (.tail _ (.tail _ (.head _)))) (late_map (by assumption))) (.cons ?_ (.cons ?_ .nil))), rfl⟩ sub8
      · intro w hw
        simp only [List.mem_cons, List.not_mem_nil, or_false] at hw
        rcases hw with rfl | rfl | rfl | rfl
        all_goals ((try dsimp only); omega)
      · rw [shown_eq, ← B9.ps]
        exact (B9.hd.mono fun p hp => List.mem_append_right _ (hWR.h _ hp)).append (.cons (dat_list (List.mem_append_right _ hpa2)) .nil)
      · rw [← last_text]
        exact .str _ _
      · rw [if_neg h2]
        exact dat_texts_eq (tl := []) (List.mem_append_left _ (.tail _ (.head _))) rfl
  rintro m9 h' k _ ⟨rfl, W2, rl2, its2, el2, eD', hX2, hrl2, hD2, rfl⟩ F' N'
  dsimp only
  have hm2 : ∀ p ∈ R2, p ∈ W2 ++ R2 := fun p hp => List.mem_append_right _ hp
  have dT3 : DatAll (W2 ++ R2) (T ++ [Value.ref rl]) (ds ++ [.list (lastD V.g (psOf xs))]) := (dT'.mono hm2).append (.cons (.list (hm2 _ hrl') (hD1.mono hm2)) .nil)
  have dD3 : DatAll (W2 ++ R2) (D ++ [Value.ref rl2]) (ds ++ [.list (lastD V.g (psOf xs))]) := (dD'.mono hm2).append (.cons (.list (List.mem_append_left _ hrl2) hD2) .nil)
  have hok3 := ok_last (psOf_ok xs) hVg hok
  generalize W2 ++ R2 = R3 at N' dT3 dD3
  generalize ds ++ [.list (lastD V.g (psOf xs))] = ds3 at dT3 dD3 hok3
  k_steps)
end Mine
end

theorem PySem.Challenge.cw_ez0285_01_holds : PySem.Challenge.rw_ez0285_01.Holds :=
  Mine.main_t
