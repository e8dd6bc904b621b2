import PyProof.Rows.All
import Wide.All
import OpenK.AllK
import Wide.FinOn
import PySem.Challenge.RW_pe0051_01
open PySem PySem.W PyProof.Rows
set_option Elab.async false
set_option maxRecDepth 100000

namespace Mine

/-- The table of `_platform`'s code: empty, or with the generator expression's code booked. -/
def TabOk (c P : Addr) (h : Heap) : Prop :=
  ∃ ps, h.IsCode c P ps ∧ h.TableAt c P ps ∧ (ps = #[] ∨ ∃ c', ps = #[rawInt 3, rawInt 24, .ref c'])

/-- `s'` is behind `s`: every object off `X` and off `P` is as it was. -/
structure Mv (c P : Addr) (X : List Addr) (s s' : Shared) : Prop where
  ext : ∀ b o, b ∉ X → b ≠ P → s.heap.get? b = some o → s'.heap.get? b = some o
  tab : TabOk c P s.heap → TabOk c P s'.heap
  bare : AllBare s.gens → AllBare s'.gens
  os : s'.os = s.os
  toks : s.toks ≤ s'.toks

variable {c P : Addr}

theorem Mv.refl (X : List Addr) (s : Shared) : Mv c P X s s := ⟨fun _ _ _ _ e => e, id, id, rfl, Nat.le_refl _⟩
theorem Mv.trans {X : List Addr} {s s' s'' : Shared} (a : Mv c P X s s') (b : Mv c P X s' s'') : Mv c P X s s'' :=
  ⟨fun x o h1 h2 e => b.ext x o h1 h2 (a.ext x o h1 h2 e), fun t => b.tab (a.tab t), fun t => b.bare (a.bare t), b.os.trans a.os, Nat.le_trans a.toks b.toks⟩
theorem Mv.weaken {X Y : List Addr} {s s' : Shared} (a : Mv c P X s s') (h : ∀ b ∈ X, b ∈ Y) : Mv c P Y s s' :=
  ⟨fun x o h1 h2 e => a.ext x o (fun m => h1 (h x m)) h2 e, a.tab, a.bare, a.os, a.toks⟩
theorem Mv.nil {X : List Addr} {s s' : Shared} (a : Mv c P [] s s') : Mv c P X s s' := a.weaken (fun _ h => nomatch h)

theorem TabOk.off {X : List Addr} {h h' : Heap} (t : TabOk c P h) (hc : c ∉ X) (hP : P ∉ X) (k : ∀ b o, b ∉ X → h.get? b = some o → h'.get? b = some o) : TabOk c P h' := by
  obtain ⟨ps, ⟨o, vs, file, tf, flags, tg, inF, text, tt, op, a, r1, r2, r3, r4, r5, r6, b, r⟩, ⟨⟨o', vs', e', q⟩, t'⟩, d⟩ := t
  exact ⟨ps, ⟨o, vs, file, tf, flags, tg, inF, text, tt, op, k _ _ hc a, r1, r2, r3, r4, r5, r6, k _ _ hP b, r⟩, ⟨⟨o', vs', k _ _ hc e', q⟩, k _ _ hP t'⟩, d⟩

theorem Mv.off {X : List Addr} {s : Shared} {h' : Heap} {tk : Nat} (k : ∀ b o, b ∉ X → s.heap.get? b = some o → h'.get? b = some o) (htk : s.toks ≤ tk)
    (hc : c ∉ X := by simp) (hP : P ∉ X := by simp) : Mv c P X s { s with heap := h', toks := tk } :=
  ⟨fun b o h1 _ e => k b o h1 e, fun t => t.off hc hP k, id, rfl, htk⟩
theorem Mv.keep {X : List Addr} {s : Shared} {h' : Heap} {tk : Nat} (k : ∀ b o, s.heap.get? b = some o → h'.get? b = some o) (htk : s.toks ≤ tk) : Mv c P X s { s with heap := h', toks := tk } :=
  (Mv.off (X := []) (fun b o _ e => k b o e) htk).nil
theorem Mv.tk {X : List Addr} {s : Shared} {tk : Nat} (htk : s.toks ≤ tk) : Mv c P X s { s with toks := tk } := Mv.keep (h' := s.heap) (fun _ _ e => e) htk
theorem Mv.push {X : List Addr} {s : Shared} {tk : Nat} (o : Obj) (htk : s.toks ≤ tk) : Mv c P X s { s with heap := s.heap.push o, toks := tk } := Mv.keep (fun _ _ e => Heap.get?_push_of_some _ e) htk
theorem Mv.keeps {X : List Addr} {s s' : Shared} (k : Keeps s s') (htk : s.toks ≤ s'.toks) : Mv c P X s s' := by
  obtain ⟨h', tk, rfl, hk⟩ := k
  exact Mv.keep hk htk

theorem ns_of {X : List Addr} {s s' : Shared} {a : Addr} {m : Str → Option Value} (v : Mv c P X s s') (n : s.heap.Ns a m) (h1 : a ∉ X) (h2 : a ≠ P) : s'.heap.Ns a m := n.at' fun o e => v.ext a o h1 h2 e
theorem list_of {X : List Addr} {s s' : Shared} {a : Addr} {its : Array Value} (v : Mv c P X s s') (n : s.heap.IsList a its) (h1 : a ∉ X) (h2 : a ≠ P) : s'.heap.IsList a its := n.at fun o e => v.ext a o h1 h2 e
theorem cell_of {X : List Addr} {s s' : Shared} {a : Addr} {x : Option Value} (v : Mv c P X s s') (n : s.heap.IsCell a x) (h1 : a ∉ X) (h2 : a ≠ P) : s'.heap.IsCell a x :=
  let ⟨o, ho, hd⟩ := n; ⟨o, v.ext a o h1 h2 ho, hd⟩
theorem gone {h : Heap} {a : Addr} (e : h.objs.size ≤ a) : h.get? a = none := by
  cases q : h.get? a with
  | none => rfl
  | some o => exact absurd (Heap.lt_size q) (Nat.not_lt.mpr e)

section
variable {prog : Program} {w : World} {A : Around} {E : Value → Shared → Prop} {s : Shared} {env : Env}

/-- `t = t.replace(y, z)`, `t` a local's text. -/
theorem assign_replace {nm y z x : Str} {t : Tok} {m : Str → Option Value} {p0 p1 p2 p3 p4 p5 p6 : Pos} {k1 k2 : Nat} {Q : Flow → Shared → Prop}
    (hk : env.scope.kind = .function) (hl : env.kindOf nm = some .local) (hn : s.heap.Ns env.locals m) (hv : m nm = some (.str x t)) (hx : x.length ≤ 1000) (hz : z.length ≤ 14) (hyz : (y == z) = false) (htk : 1 ≤ s.toks)
    (hc : c ≠ env.locals) (hP : P ≠ env.locals)
    (h : ∀ s' t', Mv c P [env.locals] s s' → s'.heap.Ns env.locals (fun q => if q = nm then some (.str (Txt.replace x y z) t') else m q) → Q .next s')
    (hline : (p2.endLine == p5.line) = true) (hd : (nm == ("__debug__" : Str)) = false)
    (hs : swapsWith (.Call (.Attribute (.Name nm p1) "replace" p2) [.Constant (.str y) k1 p3, .Constant (.str z) k2 p4] [] p5) (some (.Name nm p0)) p6.line env = pure false)
    (hb : attributeBase (.Name nm p1) "replace" env (eval (.Name nm p1) env) = eval (.Name nm p1) env) :
    wpAny (model prog w) A (exec (.Assign [.Name nm p0] (.Call (.Attribute (.Name nm p1) "replace" p2) [.Constant (.str y) k1 p3, .Constant (.str z) k2 p4] [] p5) p6) env) Q E s := by
  refine wpAny_Assign_Name ?_ hs
  refine wpAny_Call_method_lateS hb rfl hline ?_
  refine wpAny_Name (wpAny_loadName_local hk hl hn hv ?_) hd
  refine ⟨"str", "str.replace", F.plainAttrs_str, F.slot_str_replace, F.type_str_replace, typeIs_str _ _ _, (fun a e => nomatch e), ?_⟩
  refine Calls.callWith_builtin rfl (Calls.evalArgs_plain ?_)
  refine wpAny_items_cons (wpAny_Constant_str ?_)
  refine wpAny_items_cons (wpAny_Constant_str ?_)
  refine wpAny_items_nil ?_
  refine wpAny_with_toks (n := s.toks) (by simp; omega) ?_
  refine SC.replaceW (u := s.toks) (v := s.toks + 1) (Nat.ne_of_gt htk) (Nat.succ_ne_zero _) (Nat.ne_of_lt (Nat.lt_succ_self _)) hyz (by omega) hz fun t' k hk' => ?_
  refine wpAny_storeName_local hl hn (fun h' hn' hs' => ?_) (by rw [hk]; rfl)
  refine h _ t' ?_ hn'
  exact Mv.off (s := s) (fun b o hb e => hs'.extBut b o (by simpa using hb) e) (by simp at hk' ⊢; omega) (by simpa using hc) (by simpa using hP)
end
end Mine

namespace Mine

/-! filter(len, args) -/
theorem slot_filter_next : Slot "filter" "__next__" "filter.__next__" :=
  .of (owner := "filter") (n := "__next__") (by rw [typeLookup_type, builtinLookup_eq_fast]; kernel_rfl) (by decide +kernel) (by decide +kernel) (by decide +kernel)
    (by first | exact .inl (by decide +kernel) | exact .inr (by decide +kernel)) (by rw [isSubtype_type]; kernel_rfl)
theorem entry_filter_next : entryFor table "filter.__next__" = some Builtin.«filter.__next__» := entryFor_of_tree (by kernel_rfl)
theorem owner_filter : Manifest.owners.lookup (String.ofList ['r', 'e', 't', 'l', 'i', 'f'].reverse) = some Manifest.sig_filter := by kernel_rfl
theorem args_filter_next (a : Value) : argsOk "filter.__next__" ⟨[a], []⟩ := by
  unfold argsOk; rw [signature?_of (id := "filter.__next__") (n := ['_', '_', 't', 'x', 'e', 'n', '_', '_']) (o := ['r', 'e', 't', 'l', 'i', 'f']) (by kernel_rfl) owner_filter]; kernel_rfl
theorem slot_filter_iter : Slot "filter" "__iter__" "filter.__iter__" :=
  .of (owner := "filter") (n := "__iter__") (by rw [typeLookup_type, builtinLookup_eq_fast]; kernel_rfl) (by decide +kernel) (by decide +kernel) (by decide +kernel)
    (by first | exact .inl (by decide +kernel) | exact .inr (by decide +kernel)) (by rw [isSubtype_type]; kernel_rfl)
theorem args_filter_iter (a : Value) : argsOk "filter.__iter__" ⟨[a], []⟩ := by
  unfold argsOk; rw [signature?_of (id := "filter.__iter__") (n := ['_', '_', 'r', 'e', 't', 'i', '_', '_']) (o := ['r', 'e', 't', 'l', 'i', 'f']) (by kernel_rfl) owner_filter]; kernel_rfl
theorem entry_filter_iter : entryFor table "filter.__iter__" = some Builtin.«dict_keyiterator.__iter__» :=
  entryFor_alias (id' := "dict_keyiterator.__iter__") (by kernel_rfl) (by first | rfl | decide +kernel | (unfold String.splitOn; simp +decide [String.splitOnAux])) (by decide +kernel) (by kernel_rfl)
theorem slot_filter_init : Slot "filter" "__init__" "object.__init__" :=
  .of (owner := "object") (n := "__init__") (by rw [typeLookup_type, builtinLookup_eq_fast]; kernel_rfl) (by decide +kernel) (by decide +kernel) (by decide +kernel)
    (by first | exact .inl (by decide +kernel) | exact .inr (by decide +kernel)) (by rw [isSubtype_type]; kernel_rfl)
theorem mro_filter : mroOf (.type "filter") = pure [.type "filter", .type "object"] := by rw [mroOf_type]; kernel_rfl
theorem lookup_filter_new : typeLookup (.type "filter") "__new__" = pure (some (.builtin "filter.__new__")) := by rw [typeLookup_type, builtinLookup_eq_fast]; kernel_rfl
theorem called_filter : TypeCalled "filter" "filter.__new__" "object.__init__" :=
  ⟨by decide +kernel, by decide +kernel, ⟨_, _, mro_filter⟩, madeBy_type mro_filter lookup_filter_new (by decide +kernel), by decide +kernel, by rw [isSubtype_type]; kernel_rfl, slot_filter_init⟩
theorem typeCall_filter_2 (a b : Value) : checkTypeCall "filter" ⟨[a, b], []⟩ = pure () := by kernel_rfl
theorem newCall_filter_2 (a b : Value) : checkBuiltinCall "filter.__new__" ⟨[.type "filter", a, b], []⟩ = pure () := by kernel_rfl
theorem entry_filter_new : entryFor table "filter.__new__" = some Builtin.«filter.__new__» := entryFor_of_tree (by kernel_rfl)
theorem sub_filter : isSubtype (.type "filter") (.type "filter") = pure true := by rw [isSubtype_type]; kernel_rfl

abbrev IsFilt (h : Heap) (z I : Addr) : Prop := h.get? z = some { cls := .type "filter", dict := none, data := .fields #[.builtin "len", .ref I], slots := #[] }

theorem meets_filter_new (T : Addr) (xs : Array Value) :
    Meets (Builtin.«filter.__new__» ⟨[.type "filter", .builtin "len", .ref T], []⟩) (fun _ R s => IsTup s.heap T xs ∧
      R (.ok (.ret (.ref (s.heap.objs.size + 1)))) { s with heap := (s.heap.push { cls := .type "tuple_iterator", data := .fields #[.ref T, .int 0 0] }).push { cls := .type "filter", data := .fields #[.builtin "len", .ref s.heap.objs.size] } }) :=
  .of_wp fun prog w A R s h => by
    obtain ⟨hp, g, d, tk, os⟩ := s; obtain ⟨hl1, h⟩ := h
    have hsub := sub_filter
    have hL1 : IsTup (Shared.heap ⟨hp, g, d, tk, os⟩) T xs := hl1
    wp_walk using iter_tuple hL1
    refine ⟨_, rfl, ?_⟩
    have e : (hp.push { cls := .type "tuple_iterator", data := .fields #[.ref T, .int 0 0] }).objs.size = hp.objs.size + 1 := Heap.size_push ..
    rw [e]
    exact h

section
variable {prog : Program} {w : World} {A : Around} {E : Value → Shared → Prop} {s : Shared}

theorem call_filter {T : Addr} {xs : Array Value} {Q : Value → Shared → Prop} (ht : IsTup s.heap T xs)
    (h : ∀ h', IsFilt h' (s.heap.objs.size + 1) s.heap.objs.size → IsTupIter h' s.heap.objs.size T 0 → h'.objs.size = s.heap.objs.size + 2 → (∀ b o, s.heap.get? b = some o → h'.get? b = some o) →
      Q (.ref (s.heap.objs.size + 1)) { s with heap := h' }) :
    wpAny (model prog w) A (call (.type "filter") [.builtin "len", .ref T]) Q E s := by
  refine callType_new called_filter (by decide) (typeCall_filter_2 _ _) (newCall_filter_2 _ _) (fun obj => F.args_object_init_3 obj _ _) entry_filter_new (meets_filter_new T xs) ⟨ht, ?_⟩
  have z1 : (s.heap.push { cls := .type "tuple_iterator", data := .fields #[.ref T, .int 0 0] }).objs.size = s.heap.objs.size + 1 := Heap.size_push ..
  have g1 := Heap.get?_push_size (s.heap.push { cls := .type "tuple_iterator", data := .fields #[.ref T, .int 0 0] }) (o := { cls := .type "filter", data := .fields #[.builtin "len", .ref s.heap.objs.size] }) rfl
  rw [z1] at g1
  show _ ∧ _
  refine ⟨⟨_, g1, rfl⟩, h _ g1 ⟨_, Heap.get?_push_of_some _ (Heap.get?_push_size _ rfl), rfl, rfl⟩ ?_ fun b o e => Heap.get?_push_of_some _ (Heap.get?_push_of_some _ e)⟩
  rw [Heap.size_push, z1]

theorem typeIs_filt {z I : Addr} (hz : IsFilt s.heap z I) : s.TypeIs (.ref z) "filter" := ⟨_, hz, rfl⟩

theorem next_filter_item {z I T : Addr} {x : Str} {t : Tok} {i : Nat} {xs : Array Value} {Q : Option Value → Shared → Prop} (hz : IsFilt s.heap z I) (hI : IsTupIter s.heap I T i) (hT : IsTup s.heap T xs)
    (hx : xs[i]? = some (.str x t)) (h0 : 0 < x.length) (hlen : x.length ≤ 1000)
    (hQ : ∀ h' tk, IsTupIter h' I T (i + 1) → Heap.SameBut I s.heap h' → Q (some (.str x t)) { s with heap := h', toks := tk }) :
    wpAny (model prog w) A (pyNext (.ref z)) Q E s := by
  obtain ⟨o, ho, hc, hd⟩ := id hI
  obtain ⟨ol, hol, _, nl, hdl⟩ := hT
  unfold pyNext
  refine wpAny_bind (wpAny_attempt (wpAny_callSpecial?_slot (name := Str.ofString "__next__") (typeIs_filt hz) slot_filter_next
    (wpAny_call_entry slot_filter_next (typeIs_filt hz) entry_filter_next ?_ (args_filter_next _))))
  show wpAny _ _ (field (.ref z) 0 >>= _) _ _ s
  refine wpAny_bind (wpAny_field hz rfl (x := .builtin "len") rfl ?_)
  show wpAny _ _ (field (.ref z) 1 >>= _) _ _ s
  refine wpAny_bind (wpAny_field hz rfl (x := .ref I) rfl ?_)
  refine wpAny_bind (wpAny_callSpecial?_slot (name := Str.ofString "__next__") hI.typeIs slot_tupleiter_next (wpAny_call_entry slot_tupleiter_next hI.typeIs entry_tupleiter_next ?_ (args_tupleiter_next _)))
  show wpAny _ _ (field (.ref I) 0 >>= _) _ _ s
  refine wpAny_bind (wpAny_field ho hd (x := .ref T) rfl ?_)
  show wpAny _ _ (if (Value.ref T == Value.none) = true then _ else _) _ _ s
  rw [if_neg (show ¬ ((Value.ref T == Value.none) = true) from Bool.false_ne_true)]
  show wpAny _ _ (field (.ref I) 1 >>= _) _ _ s
  refine wpAny_bind (wpAny_field ho hd (x := .int i 0) rfl ?_)
  show wpAny _ _ (seqItems? (.ref T) >>= _) _ _ s
  refine wpAny_bind (wpAny_seqItems hol hdl ?_)
  simp only [Int.toNat_natCast, hx]
  refine wpAny_bind (wpAny_setField ho hd (by simp) (wpAny_pure ⟨_, rfl, ?_⟩))
  refine wpAny_bind (wpAny_holding ?_)
  show wpAny _ _ (if (Value.builtin "len" == Value.none || Value.builtin "len" == Value.type "bool") = true then _ else _) _ _ _
  rw [if_neg (by decide)]
  refine wpAny_bind (P.len_str (by omega) ?_)
  refine wpAny_holding (P.truthy_int ?_)
  have hne : (((x.length : Nat) : Int) != 0) = true := by simp; omega
  rw [hne]
  refine wpAny_pure ⟨_, rfl, wpAny_pure (hQ _ _ ?_ (Heap.SameBut.update ..))⟩
  exact ⟨_, Heap.get?_update_self _ ho (Obj.isFreed_of_fields (Obj.data_mapFields hd _)), (Obj.cls_mapFields ..).trans hc, by
    rw [Obj.data_mapFields hd]; simp [rawInt]⟩

theorem next_filter_end {z I T : Addr} {i : Nat} {xs : Array Value} {Q : Option Value → Shared → Prop} (hh : A.handled = none) (hz : IsFilt s.heap z I) (hI : IsTupIter s.heap I T i) (hT : IsTup s.heap T xs)
    (hx : xs[i]? = none) (hQ : ∀ h', Heap.ExtBut I s.heap h' → Q none { s with heap := h' }) :
    wpAny (model prog w) A (pyNext (.ref z)) Q E s := by
  obtain ⟨o, ho, hc, hd⟩ := id hI
  obtain ⟨ol, hol, _, nl, hdl⟩ := hT
  unfold pyNext
  refine wpAny_bind (wpAny_attempt (wpAny_callSpecial?_slot (name := Str.ofString "__next__") (typeIs_filt hz) slot_filter_next
    (wpAny_call_entry slot_filter_next (typeIs_filt hz) entry_filter_next ?_ (args_filter_next _))))
  show wpAny _ _ (field (.ref z) 0 >>= _) _ _ s
  refine wpAny_bind (wpAny_field hz rfl (x := .builtin "len") rfl ?_)
  show wpAny _ _ (field (.ref z) 1 >>= _) _ _ s
  refine wpAny_bind (wpAny_field hz rfl (x := .ref I) rfl ?_)
  refine wpAny_bind (wpAny_callSpecial?_slot (name := Str.ofString "__next__") hI.typeIs slot_tupleiter_next (wpAny_call_entry slot_tupleiter_next hI.typeIs entry_tupleiter_next ?_ (args_tupleiter_next _)))
  show wpAny _ _ (field (.ref I) 0 >>= _) _ _ s
  refine wpAny_bind (wpAny_field ho hd (x := .ref T) rfl ?_)
  show wpAny _ _ (if (Value.ref T == Value.none) = true then _ else _) _ _ s
  rw [if_neg (show ¬ ((Value.ref T == Value.none) = true) from Bool.false_ne_true)]
  show wpAny _ _ (field (.ref I) 1 >>= _) _ _ s
  refine wpAny_bind (wpAny_field ho hd (x := .int i 0) rfl ?_)
  show wpAny _ _ (seqItems? (.ref T) >>= _) _ _ s
  refine wpAny_bind (wpAny_seqItems hol hdl ?_)
  simp only [Int.toNat_natCast, hx]
  refine wpAny_bind (wpAny_rule (wpAny_bind (wpAny_setField ho hd (by simp) ?_)))
  show wpAny _ _ (newExc (.type "StopIteration") [] >>= _) _ _ _
  refine wpAny_bind ?_
  simp only [newExc, newTuple]
  refine wpAny_bind (wpAny_newObj_type ?_ (by size_fits))
  refine wpAny_bind (m := firstArgMember _ _) (wpAny_of_eq (a := Value.none) (by first | rfl | (simp only [firstArgMember]; rfl)) ?_)
  refine wpAny_newObj_type ?_ (by size_fits)
  simp only [raiseNew]
  refine wpAny_bind (wpAny_handled ?_)
  first | rw [show A.in1.in1.handled = none from hh] | rw [hh]
  refine wpAny_bind (wpAny_pure (wpAny_throw ?_))
  refine wpAny_bind (wpAny_isInstance (T := "StopIteration") (b := true) ⟨_, Heap.get?_push_size _ rfl, rfl⟩ isSubtype_stop ?_)
  exact wpAny_pure (hQ _ (((Heap.SameBut.update ..).extBut.push _).push _))

theorem filter_stop {z I T : Addr} {i : Nat} {xs : Array Value} {Q : Fin → Shared → Prop} (hh : A.handled = none) (hz : IsFilt s.heap z I) (hI : IsTupIter s.heap I T i) (hT : IsTup s.heap T xs)
    (hx : xs[i]? = none) (hE : ∀ e h', Heap.ExtBut I s.heap h' → Shared.TypeIs { s with heap := h' } e "StopIteration" → E e { s with heap := h' }) :
    wpAny (model prog w) A (Builtin.«filter.__next__» ⟨[.ref z], []⟩) Q E s := by
  obtain ⟨o, ho, hc, hd⟩ := id hI
  obtain ⟨ol, hol, _, nl, hdl⟩ := hT
  show wpAny _ _ (field (.ref z) 0 >>= _) _ _ s
  refine wpAny_bind (wpAny_field hz rfl (x := .builtin "len") rfl ?_)
  show wpAny _ _ (field (.ref z) 1 >>= _) _ _ s
  refine wpAny_bind (wpAny_field hz rfl (x := .ref I) rfl ?_)
  refine wpAny_bind (wpAny_callSpecial?_slot (name := Str.ofString "__next__") hI.typeIs slot_tupleiter_next (wpAny_call_entry slot_tupleiter_next hI.typeIs entry_tupleiter_next ?_ (args_tupleiter_next _)))
  show wpAny _ _ (field (.ref I) 0 >>= _) _ _ s
  refine wpAny_bind (wpAny_field ho hd (x := .ref T) rfl ?_)
  show wpAny _ _ (if (Value.ref T == Value.none) = true then _ else _) _ _ s
  rw [if_neg (show ¬ ((Value.ref T == Value.none) = true) from Bool.false_ne_true)]
  show wpAny _ _ (field (.ref I) 1 >>= _) _ _ s
  refine wpAny_bind (wpAny_field ho hd (x := .int i 0) rfl ?_)
  show wpAny _ _ (seqItems? (.ref T) >>= _) _ _ s
  refine wpAny_bind (wpAny_seqItems hol hdl ?_)
  simp only [Int.toNat_natCast, hx]
  refine wpAny_bind (wpAny_rule (wpAny_bind (wpAny_setField ho hd (by simp) ?_)))
  show wpAny _ _ (newExc (.type "StopIteration") [] >>= _) _ _ _
  refine wpAny_bind ?_
  simp only [newExc, newTuple]
  refine wpAny_bind (wpAny_newObj_type ?_ (by size_fits))
  refine wpAny_bind (m := firstArgMember _ _) (wpAny_of_eq (a := Value.none) (by first | rfl | (simp only [firstArgMember]; rfl)) ?_)
  refine wpAny_newObj_type ?_ (by size_fits)
  simp only [raiseNew]
  refine wpAny_bind (wpAny_handled ?_)
  first | rw [show A.in1.handled = none from hh] | rw [hh]
  refine wpAny_bind (wpAny_pure (wpAny_throw ?_))
  exact hE _ _ (((Heap.SameBut.update ..).extBut.push _).push _) ⟨_, Heap.get?_push_size _ rfl, rfl⟩

theorem next_filter_skip {z I T : Addr} {x : Str} {t : Tok} {Q : Option Value → Shared → Prop} (hh : A.handled = none) (hIz : I ≠ z) (hIT : I ≠ T) (hz : IsFilt s.heap z I) (hI : IsTupIter s.heap I T 0) (hT : IsTup s.heap T #[.str x t])
    (h0 : x.length = 0) (hQ : ∀ h' tk, Heap.ExtBut I s.heap h' → Q none { s with heap := h', toks := tk }) :
    wpAny (model prog w) A (pyNext (.ref z)) Q E s := by
  have hlen : x.length ≤ 1000 := by omega
  have hx : (#[Value.str x t] : Array Value)[0]? = some (.str x t) := rfl
  have hx1 : (#[Value.str x t] : Array Value)[1]? = none := rfl
  obtain ⟨o, ho, hc, hd⟩ := id hI
  obtain ⟨ol, hol, hcl, nl, hdl⟩ := hT
  unfold pyNext
  refine wpAny_bind (wpAny_attempt (wpAny_callSpecial?_slot (name := Str.ofString "__next__") (typeIs_filt hz) slot_filter_next
    (wpAny_call (codeAny_call_builtin slot_filter_next.plain entry_filter_next (slot_filter_next.check _ _ _ _ _ _ _ _ (typeIs_filt hz) (args_filter_next _) ?_)))))
  show wpAny _ _ (field (.ref z) 0 >>= _) _ _ s
  refine wpAny_bind (wpAny_field hz rfl (x := .builtin "len") rfl ?_)
  show wpAny _ _ (field (.ref z) 1 >>= _) _ _ s
  refine wpAny_bind (wpAny_field hz rfl (x := .ref I) rfl ?_)
  refine wpAny_bind (wpAny_callSpecial?_slot (name := Str.ofString "__next__") hI.typeIs slot_tupleiter_next (wpAny_call_entry slot_tupleiter_next hI.typeIs entry_tupleiter_next ?_ (args_tupleiter_next _)))
  show wpAny _ _ (field (.ref I) 0 >>= _) _ _ s
  refine wpAny_bind (wpAny_field ho hd (x := .ref T) rfl ?_)
  show wpAny _ _ (if (Value.ref T == Value.none) = true then _ else _) _ _ s
  rw [if_neg (show ¬ ((Value.ref T == Value.none) = true) from Bool.false_ne_true)]
  show wpAny _ _ (field (.ref I) 1 >>= _) _ _ s
  refine wpAny_bind (wpAny_field ho hd (x := .int ((0 : Nat) : Int) 0) rfl ?_)
  show wpAny _ _ (seqItems? (.ref T) >>= _) _ _ s
  refine wpAny_bind (wpAny_seqItems hol hdl ?_)
  simp only [Int.toNat_natCast, hx]
  refine wpAny_bind (wpAny_setField ho hd (by simp) (wpAny_pure ⟨_, rfl, ?_⟩))
  refine wpAny_bind (wpAny_holding ?_)
  show wpAny _ _ (if (Value.builtin "len" == Value.none || Value.builtin "len" == Value.type "bool") = true then _ else _) _ _ _
  rw [if_neg (by decide)]
  refine wpAny_bind (P.len_str (by omega) ?_)
  refine wpAny_holding (P.truthy_int ?_)
  have hne : (((x.length : Nat) : Int) != 0) = false := by simp [h0]
  rw [hne]
  refine wpAny_pure ⟨plainId_quiet slot_filter_next.plain _, codeAny_builtin entry_filter_next ?_⟩
  rw [Around.under_plainId slot_filter_next.plain]
  refine filter_stop (I := I) (T := T) (i := 1) hh ?_ ?_ ?_ hx1 fun e h' hs' hT' => ?_
  · exact (Heap.SameBut.update ..).extBut _ _ (Ne.symm hIz) hz
  · exact ⟨_, Heap.get?_update_self _ ho (Obj.isFreed_of_fields (Obj.data_mapFields hd _)), (Obj.cls_mapFields ..).trans hc, by rw [Obj.data_mapFields hd]; simp [rawInt]⟩
  · exact ⟨ol, (Heap.SameBut.update ..).extBut _ _ (Ne.symm hIT) hol, hcl, nl, hdl⟩
  · refine wpAny_bind (wpAny_isInstance (T := "StopIteration") (b := true) hT' isSubtype_stop ?_)
    exact wpAny_pure (hQ _ _ fun b o hb e => hs' b o hb ((Heap.SameBut.update ..).extBut b o hb e))

theorem iter_filter {z I : Addr} {Q : Value → Shared → Prop} (hz : IsFilt s.heap z I) (h : Q (.ref z) s) : wpAny (model prog w) A (pyIter (.ref z)) Q E s := by
  refine wpAny_pyIter_slot (typeIs_filt hz) slot_filter_iter (wpAny_call_entry slot_filter_iter (typeIs_filt hz) entry_filter_iter ?_ (args_filter_iter _))
  show wpAny _ _ (ret (.ref z)) _ _ s
  exact wpAny_pure ⟨_, rfl, "filter", _, typeIs_filt hz, slot_filter_next.lookup, h⟩

theorem walks_filter (hh : A.handled = none) (z I T : Addr) (hIz : I ≠ z) (hIT : I ≠ T) (x : Str) (t : Tok) (h0 : 0 < x.length) (hlen : x.length ≤ 1000) :
    Walks prog w A z [z, I, T] [I] 1 (fun _ v => v = .str x t) (fun i h => IsFilt h z I ∧ IsTupIter h I T i ∧ IsTup h T #[.str x t]) where
  sub := fun b hb => by simp at hb ⊢; exact .inr (.inl hb)
  frame := fun i h h' st hk => ⟨hk z (by simp) _ st.1, (let ⟨o, e, r⟩ := st.2.1; ⟨o, hk I (by simp) _ e, r⟩), (let ⟨o, e, r⟩ := st.2.2; ⟨o, hk T (by simp) _ e, r⟩)⟩
  item := fun i s Q E hi st hQ => by
    have hi0 : i = 0 := by omega
    subst hi0
    refine next_filter_item st.1 st.2.1 st.2.2 (i := 0) rfl h0 hlen fun h' tk hI' hs' => ?_
    exact hQ _ h' tk rfl ⟨hs'.extBut _ _ (Ne.symm hIz) st.1, hI', (let ⟨o, e, r⟩ := st.2.2; ⟨o, hs'.extBut _ _ (Ne.symm hIT) e, r⟩)⟩ fun b o hb e => hs'.extBut b o (by simpa using hb) e
  done := fun s Q E st hQ => by
    have : wpAny (model prog w) A (pyNext (.ref z)) Q E { s with toks := s.toks } := next_filter_end hh st.1 st.2.1 st.2.2 (i := 1) rfl fun h' hs' => hQ h' s.toks fun b o hb e => hs' b o (by simpa using hb) e
    exact this
  self := fun i s Q E st hQ => iter_filter st.1 hQ
theorem walks_filter0 (hh : A.handled = none) (z I T : Addr) (hIz : I ≠ z) (hIT : I ≠ T) (x : Str) (t : Tok) (h0 : x.length = 0) :
    Walks prog w A z [z, I, T] [I] 0 (fun _ v => v = .str x t) (fun i h => IsFilt h z I ∧ IsTupIter h I T i ∧ IsTup h T #[.str x t]) where
  sub := fun b hb => by simp at hb ⊢; exact .inr (.inl hb)
  frame := fun i h h' st hk => ⟨hk z (by simp) _ st.1, (let ⟨o, e, r⟩ := st.2.1; ⟨o, hk I (by simp) _ e, r⟩), (let ⟨o, e, r⟩ := st.2.2; ⟨o, hk T (by simp) _ e, r⟩)⟩
  item := fun i s Q E hi st hQ => absurd hi (Nat.not_lt_zero _)
  done := fun s Q E st hQ => next_filter_skip hh hIz hIT st.1 st.2.1 st.2.2 h0 fun h' tk hs' => hQ h' tk fun b o hb e => hs' b o (by simpa using hb) e
  self := fun i s Q E st hQ => iter_filter st.1 hQ
end
end Mine

namespace Mine

/-! The program's own defs, by their place. -/
def stAt (i : Nat) : Stmt := PySem.Challenge.pw_pe0051_01.main.body.getD i (.Pass default)
def sname : Stmt → Str
  | .FunctionDef n .. => n
  | _ => ""
def sparams : Stmt → Arguments
  | .FunctionDef _ a .. => a
  | _ => { posonlyargs := [], args := [], vararg := none, kwonlyargs := [], kw_defaults := [], kwarg := none, defaults := [] }
def sbody : Stmt → List Stmt
  | .FunctionDef _ _ b .. => b
  | _ => []
def sscope : Stmt → Scope
  | .FunctionDef _ _ _ _ _ _ sc .. => sc
  | _ => { kind := .function, names := [], isGenerator := false, isCoroutine := false, more := [] }
abbrev sAt (i k : Nat) : Stmt := (sbody (stAt i)).getD k (.Pass default)

def FnAt (h : Heap) (f : Addr) (st : Stmt) (cd : Value) : Prop :=
  ∃ oc od osl doc pm an ct, h.get? f = some ⟨oc, od, .func (fnOf (sname st) (sname st) (sparams st) (sbody st) (sscope st) .none .none doc pm an cd ct), osl⟩ ∧ h.CodeRec cd (sname st)

/-- What stands at the law's call. -/
structure Base (c P : Addr) (mg mb : Str → Option Value) (h₁ : Heap) : Prop where
  nl : h₁.NoLimit
  g : h₁.Ns mainGlobals mg
  b : h₁.Ns builtinsNs mb
  bm : ∃ bm ob, BMod h₁ mainGlobals mg bm ob
  tab : h₁.TableAt c P #[]
  nst : P ≠ cStatics
  filt : mg "filter" = none ∧ mb "filter" = some (.type "filter")
  len : mg "len" = none ∧ mb "len" = some (.builtin "len")
  range : mg "range" = none ∧ mb "range" = some (.type "range")
  zip : mg "zip" = none ∧ mb "zip" = some (.type "zip")
  set : mg "set" = none ∧ mb "set" = some (.type "set")

structure At (c P : Addr) (h₁ : Heap) (s : Shared) : Prop where
  ext : ∀ b o, b ≠ P → h₁.get? b = some o → s.heap.get? b = some o
  tab : TabOk c P s.heap
  bare : AllBare s.gens
  tk : 1 ≤ s.toks

variable {c P : Addr} {mg mb : Str → Option Value} {h₁ : Heap}

theorem At.mv {s s' : Shared} {X : List Addr} (a : At c P h₁ s) (v : Mv c P X s s') (hX : ∀ b ∈ X, h₁.get? b = none) : At c P h₁ s' :=
  ⟨fun b o hb e => v.ext b o (fun m => by rw [hX b m] at e; cases e) hb (a.ext b o hb e), v.tab a.tab, v.bare a.bare, Nat.le_trans a.tk v.toks⟩

namespace Base
variable (B : Base c P mg mb h₁)
include B
theorem neP {a : Addr} {o : Obj} (e : h₁.get? a = some o) (h : o.data ≠ .fields #[]) : a ≠ P := by
  rintro rfl
  rw [B.tab.2] at e; cases e; exact h rfl
theorem nsP {a : Addr} {m : Str → Option Value} (e : h₁.Ns a m) : a ≠ P := by
  obtain ⟨o, es, ep, ho, hd, _⟩ := e
  exact B.neP ho (by rw [hd]; nofun)
theorem gAt {s : Shared} (a : At c P h₁ s) : s.heap.Ns mainGlobals mg := B.g.at' fun o e => a.ext _ o (B.nsP B.g) e
theorem bAt {s : Shared} (a : At c P h₁ s) : s.heap.Ns builtinsNs mb := B.b.at' fun o e => a.ext _ o (B.nsP B.b) e
theorem nlAt {s : Shared} (a : At c P h₁ s) : s.heap.NoLimit := by
  obtain ⟨mc, h1, h2⟩ := B.nl
  exact ⟨mc, h1.at' fun o e => a.ext _ o (B.nsP h1) e, h2⟩
end Base

/-- `_platform`'s frame. -/
abbrev platEnv (c f L : Addr) : Env := envOf (sname (stAt 1)) (sscope (stAt 1)) L f (.ref c)

theorem passing1 : passing (fun _ => true) 1 0 = [0] := rfl

section
variable {prog : Program} {w : World} {A : Around} {E : Value → Shared → Prop} {s : Shared}

theorem plat_strip {C : Addr} {code : Value} {f L : Addr} {x : Str} {t : Tok} (hlen : x.length ≤ 1000) (fp wr : List Addr) (href : Heap) (scope : Scope) (elt : Expr)
    (he : ∃ p1 p2 p3, elt = .Call (.Attribute (.Name "x" p1) "strip" p2) [] [] p3 ∧ (p2.endLine == p3.line) = true)
    (hk : scope.kind = .function) (hx : scope.names.lookup ("x" : Str) = some .local) :
    QuietGen prog w (genEnv scope [] C code builtinsNs (platEnv c f L)) "x" [] elt fp wr (fun _ v => v = .str x t) (fun _ => true) (fun _ y => ∃ u, y = .str (Txt.strip x) u) href where
  tests := fun A' E' i v s₂ m₂ _ _ _ _ _ => wpAny_tests_nil ⟨rfl, s₂.heap, s₂.toks, rfl, fun _ _ e => e⟩
  elt := fun A' E' i v s₂ m₂ _ hv _ hn hm _ => by
    obtain ⟨p1, p2, p3, rfl, hl⟩ := he
    subst hv
    refine wpAny_Call_method_lateS rfl rfl hl ?_
    refine wpAny_Name (wpAny_loadName_local hk hx hn hm ?_) (by decide)
    exact SB.strip (fun t' k => ⟨⟨t', rfl⟩, s₂.heap, k, rfl, fun _ _ e => e⟩) (by unfold sizeLine; omega)

theorem strip_len (x : Str) : (Txt.strip x).length ≤ x.length := by
  unfold Txt.strip Txt.stripBy
  split
  · exact Nat.le_refl _
  · unfold PySem.stripped Builtin.Str.strSub Str.length
    simp
    omega
theorem join1_ok (sep x : Str) (h1 : sep.length ≤ 1000) (h2 : x.length ≤ 1000) : JoinOk sep [Txt.strip x] = true := by
  have := strip_len x
  unfold JoinOk Builtin.Str.tooLong sizeLine
  simp
  omega

theorem gencode {M : Model} {env : Env} {pos : Pos} {qualname : Str} {scope : Scope} {Q : Value → Shared → Prop} (hc : env.code = .ref c) (t : TabOk c P s.heap) (hl : pos.line = 3) (hcol : pos.col = 24)
    (hQ : ∀ code h' tk, (∀ b o, b ≠ P → s.heap.get? b = some o → h'.get? b = some o) → s.heap.objs.size ≤ h'.objs.size → TabOk c P h' → Q code { s with heap := h', toks := tk }) :
    wpAny M A (genexprCode env pos qualname scope) Q E s := by
  obtain ⟨ps, h1, h2, d⟩ := id t
  rcases d with rfl | ⟨c', rfl⟩
  · refine wpAny_genexprCodeX hc h1 h2 rfl fun c' h' tk hx hge hlt hcode _ htab _ => ?_
    refine hQ _ h' tk (fun b o hb e => hx b o hb e) (Nat.le_trans hge (Nat.le_of_lt hlt)) ⟨_, hcode, htab, .inr ⟨c', ?_⟩⟩
    rw [hl, hcol]; rfl
  · refine wpAny_genexprCode_hit (c' := .ref c') hc h1 ?_ (hQ _ s.heap s.toks (fun _ _ _ e => e) (Nat.le_refl _) t)
    simp [codeAmong, rawInt, hl, hcol]

set_option maxHeartbeats 4000000 in
theorem plat_join (B : Base c P mg mb h₁) {f L T : Addr} {m : Str → Option Value} {x : Str} {t : Tok} {Q : Flow → Shared → Prop}
    (a : At c P h₁ s) (hh : A.handled = none) (hroom : A.depth < recursionLimit) (hn : s.heap.Ns L m) (hL : h₁.get? L = none) (hargs : m "args" = some (.ref T)) (hT : IsTup s.heap T #[.str x t]) (hTP : T ≠ P) (hTL : T ≠ L) (hlen : x.length ≤ 1000)
    (h : ∀ s' t', Mv c P [L] s s' → s'.heap.Ns L (fun q => if q = "platform" then some (.str (Txt.strip x) t') else m q) → Q .next s') :
    wpAny (model prog w) A (exec (sAt 1 0) (platEnv c f L)) Q E s := by
  show wpAny (model prog w) A (exec (Stmt.Assign [Expr.Name _ _] (Expr.Call (Expr.Attribute (Expr.Constant (Const.str _) _ _) _ _) [Expr.GeneratorExp _ [⟨Expr.Name _ _, Expr.Call (Expr.Name _ _) [Expr.Name _ _, Expr.Name _ _] [] _, [], 0⟩] _ _] [] _) _) _) Q E s
  refine wpAny_with_toks (n := s.toks) (Nat.le_refl _) ?_
  refine wpAny_Assign_Name ?_ rfl
  refine wpAny_Call_method_lateS rfl rfl rfl ?_
  refine wpAny_Constant_str ?_
  refine ⟨"str", "str.join", F.plainAttrs_str, F.slot_str_join, F.type_str_join, typeIs_str _ _ _, (fun a e => nomatch e), ?_⟩
  refine Calls.callWith_builtin rfl (Calls.evalArgs_plain ?_)
  refine Calls.spliced_cons ?_
  refine wpAny_GeneratorExp_walksQ (cl := []) hh rfl rfl (by decide) rfl rfl rfl hroom ?_ (fun _ => rfl)
  -- filter(len, args)
  refine wpAny_Call_Name_kw ?_
  have a1 : At c P h₁ { s with toks := s.toks + 1 } := a.mv (Mv.tk (X := []) (Nat.le_succ _)) (fun _ h => nomatch h)
  refine Calls.Name_function_global rfl rfl (Calls.loadGlobal_builtin (B.gAt a1) B.filt.1 (B.bAt a1) B.filt.2 ?_)
  refine PySem.callWith_type rfl (Calls.evalArgs_plain ?_)
  refine Calls.spliced_cons (Calls.Name_function_global rfl rfl (Calls.loadGlobal_builtin (B.gAt a1) B.len.1 (B.bAt a1) B.len.2 ?_))
  refine Calls.spliced_cons (wpAny_Name (wpAny_loadName_local rfl rfl hn hargs ?_))
  refine Calls.spliced_nil ?_
  refine call_filter (T := T) hT fun h₂ hF hI hsz hk₂ => ?_
  refine iter_filter hF ?_
  have hPlt : @LT.lt Nat _ P s.heap.objs.size := by
    obtain ⟨ps, _, ⟨_, t2⟩, _⟩ := a.tab
    exact Heap.lt_size t2
  have hclt : @LT.lt Nat _ c s.heap.objs.size := by
    obtain ⟨ps, _, ⟨⟨_, _, t2, _⟩, _⟩, _⟩ := a.tab
    exact Heap.lt_size t2
  have hTlt : @LT.lt Nat _ T s.heap.objs.size := by obtain ⟨_, t2, _⟩ := hT; exact Heap.lt_size t2
  have hLlt : @LT.lt Nat _ L s.heap.objs.size := hn.lt
  have a2 : At c P h₁ { s with heap := h₂, toks := s.toks + 1 } := a.mv (Mv.keep (X := []) hk₂ (Nat.le_succ _)) (fun _ h => nomatch h)
  refine ⟨B.nlAt a2, ?_⟩
  obtain ⟨bm, ob, M⟩ := B.bm
  refine gencode rfl a2.tab rfl rfl fun code h₃ tk₃ hx₃ hge₃ htab₃ => ?_
  dsimp only at hF hI hsz hk₂ hx₃ hge₃ htab₃
  have ext₃ : ∀ b o, b ≠ P → h₁.get? b = some o → h₃.get? b = some o := fun b o hb e => hx₃ b o hb (a2.ext b o hb e)
  refine wpAny_builtinsFor (M.ns.at' fun o e => ext₃ _ o (B.nsP M.ns) e) M.name M.ne (ext₃ _ _ (B.neP M.obj (by rw [M.data]; nofun)) M.obj) M.cls M.dict M.data ?_
  have hIP : s.heap.objs.size ≠ P := Nat.ne_of_gt hPlt
  have hzP : s.heap.objs.size + 1 ≠ P := Nat.ne_of_gt (Nat.lt_succ_of_lt hPlt)
  have hF₃ : IsFilt h₃ (s.heap.objs.size + 1) s.heap.objs.size := hx₃ _ _ hzP hF
  have hI₃ : IsTupIter h₃ s.heap.objs.size T 0 := let ⟨o, e, r⟩ := hI; ⟨o, hx₃ _ _ hIP e, r⟩
  have hT₃ : IsTup h₃ T #[.str x t] := let ⟨o, e, r⟩ := hT; ⟨o, hx₃ _ _ hTP (hk₂ _ _ e), r⟩
  have hcS : ∃ mc, h₁.Ns cStatics mc ∧ mc "sys.recursionlimit" = none := B.nl
  obtain ⟨mc, hc1, hc2⟩ := hcS
  have hcSlt : cStatics < s.heap.objs.size := by
    obtain ⟨o, _, _, e, _⟩ := hc1
    exact Heap.lt_size (a.ext _ o (Ne.symm B.nst) e)
  obtain ⟨n, hn01, hW, hjoin⟩ : ∃ n : Nat, (n = 0 ∨ n = 1) ∧ (∀ A' : Around, A'.handled = none → Walks prog w A' (s.heap.objs.size + 1) [s.heap.objs.size + 1, s.heap.objs.size, T] [s.heap.objs.size] n (fun _ v => v = .str x t) (fun i h => IsFilt h (s.heap.objs.size + 1) s.heap.objs.size ∧ IsTupIter h s.heap.objs.size T i ∧ IsTup h T #[.str x t])) ∧
      Txt.join "-" (List.replicate n (Txt.strip x)) = Txt.strip x := by
    by_cases h0 : x.length = 0
    · refine ⟨0, .inl rfl, fun A' hA' => walks_filter0 hA' _ _ T (Nat.ne_of_lt (Nat.lt_succ_self _)) (Nat.ne_of_gt hTlt) x t h0, ?_⟩
      have e0 : x = "" := by
        obtain ⟨cs⟩ := x
        have : cs.size = 0 := h0
        rw [Array.eq_empty_of_size_eq_zero this]; rfl
      subst e0; rfl
    · exact ⟨1, .inr rfl, fun A' hA' => walks_filter hA' _ _ T (Nat.ne_of_lt (Nat.lt_succ_self _)) (Nat.ne_of_gt hTlt) x t (Nat.pos_of_ne_zero h0) hlen, rfl⟩
  refine ⟨s.heap.objs.size + 1, [s.heap.objs.size + 1, s.heap.objs.size, T], [s.heap.objs.size], n, _, _, (fun _ => true), (fun _ y => ∃ u, y = .str (Txt.strip x) u), rfl,
    hW, ⟨hF₃, hI₃, hT₃⟩, ?_, ⟨mc, hc1.at' fun o e => ext₃ _ o (Ne.symm B.nst) e, hc2⟩, ?_,
    (fun href _ => plat_strip hlen _ _ href _ _ ⟨_, _, _, rfl, rfl⟩ rfl rfl), ?_⟩
  · intro b hb
    show b < h₃.objs.size
    simp at hb
    rcases hb with rfl | rfl | rfl <;> refine ltN ?_ <;> omega
  · simp only [List.mem_singleton]
    exact Nat.ne_of_lt hcSlt
  intro a₅ h₅ tk₅ gs hgb hlt₅ hsz₅ hk₅ W hat
  dsimp only at hlt₅ hsz₅ hk₅ W hat
  refine Calls.spliced_nil ?_
  refine SC.joinGen W.in4_2 (fun i s' st => st.1.typeIs) hat ?_ List.mem_cons_self (fun i v hv => ?_) (fun s' l hm hit => ?_) (by rcases hn01 with rfl | rfl <;> decide)
  · intro b hb
    show b < h₅.objs.size
    have hlt₅' : @LT.lt Nat _ h₃.objs.size a₅ := hlt₅
    rcases List.mem_cons.mp hb with rfl | hb
    · refine ltN ?_; omega
    · rcases List.mem_cons.mp hb with rfl | hb
      · refine ltN ?_; omega
      · have : @LT.lt Nat _ b h₃.objs.size := List.mem_range.mp hb
        refine ltN ?_; omega
  · obtain ⟨_, _, u, e⟩ := hv
    exact ⟨_, u, e⟩
  have hl1 : l.map (·.1) = List.replicate n (Txt.strip x) := by
    rcases hn01 with rfl | rfl
    · have hsz : l.length = 0 := by simpa [strValues, passing] using hit.1
      rw [List.length_eq_zero_iff.mp hsz]; rfl
    have hsz : l.length = 1 := by simpa [strValues, passing1] using hit.1
    obtain ⟨⟨y, u⟩, rfl⟩ := List.length_eq_one_iff.mp hsz
    obtain ⟨_, _, u', e⟩ := hit.2 0 (.str y u) rfl
    injection e with e1 _
    simp [e1]
  rw [hl1]
  refine ⟨?_, fun t' k => ?_⟩
  · rcases hn01 with rfl | rfl
    · rfl
    · exact join1_ok _ _ (by decide) hlen
  rw [show Txt.join (Str.ofString "-") (List.replicate n (Txt.strip x)) = Txt.strip x from hjoin]
  have hfar : ∀ b : Addr, b < s.heap.objs.size → b ∉ (h₃.objs.size :: [s.heap.objs.size] : List Addr) := fun b hb hm => by
    have hb' : @LT.lt Nat _ b s.heap.objs.size := hb
    simp only [List.mem_cons, List.not_mem_nil, or_false] at hm
    rcases hm with rfl | rfl <;> omega
  have hLP : L ≠ P := by
    rintro rfl
    rw [B.tab.2] at hL; cases hL
  have up : ∀ b o, b ≠ P → s.heap.get? b = some o → s'.heap.get? b = some o := fun b o hb e => hm.heap b o (hfar b (Heap.lt_size e)) (hk₅ _ _ (hx₃ _ _ hb (hk₂ _ _ e)))
  have hn' : s'.heap.Ns L m := hn.at' fun o e => up L o hLP e
  refine wpAny_storeName_local rfl hn' (fun h' hn'' hs' => ?_) rfl
  intro htk
  refine h _ t' ⟨fun b o hb hbP e => hs'.extBut b o (fun q => hb (List.mem_singleton.mpr q)) (up b o hbP e), fun _ => ?_, fun hb => (hb.push hgb).moved hm.gens, hm.os, htk⟩ hn''
  refine ((htab₃.off (X := []) (h' := h₅) (by simp) (by simp) fun b o _ e => hk₅ b o e).off (X := h₃.objs.size :: [s.heap.objs.size]) (h' := s'.heap) (hfar c hclt) (hfar P hPlt) fun b o hb e => hm.heap b o hb e).off (X := [L]) ?_ ?_ fun b o hb e => hs'.extBut b o (fun q => hb (List.mem_singleton.mpr q)) e
  · simp only [List.mem_singleton]
    rintro rfl
    obtain ⟨⟨_, _, e, _⟩, _⟩ := B.tab
    rw [hL] at e; cases e
  · simpa using Ne.symm hLP
end
end Mine

namespace Mine
variable {c P : Addr} {mg mb : Str → Option Value} {h₁ : Heap}

section
variable {prog : Program} {w : World} {A : Around} {E : Value → Shared → Prop} {s : Shared} {env : Env}

theorem while_rule {test : Expr} {body : List Stmt} {pos : Pos} {Q : Flow → Shared → Prop} (I : Nat → Shared → Prop)
    (turn : ∀ n s E, I n s → wpAny (model prog w) A (isTrue test env (eval test env)) (fun b s₂ => if b = true then wpAny (model prog w) A (execs body env)
      (fun f s₃ => match f with | .next => ∃ m, m < n ∧ I m s₃ | .cont => ∃ m, m < n ∧ I m s₃ | .brk => Q .next s₃ | .ret v => Q (.ret v) s₃) E s₂ else Q .next s₂) E s)
    (n : Nat) (h : I n s) : wpAny (model prog w) A (exec (.While test body [] pos) env) Q E s := by
  refine wpAny_While (codeAny_whileLoop I (fun n s hI => ?_) n h)
  refine wpAny_mono (turn n s _ hI) (fun b s₂ h₂ => ?_) fun _ _ e => e
  cases b with
  | true =>
    simp only [if_true] at h₂ ⊢
    refine wpAny_mono h₂ (fun f s₃ h₃ => ?_) fun _ _ e => e
    cases f <;> exact h₃
  | false =>
    simp only [Bool.false_eq_true, if_false] at h₂ ⊢
    exact wpAny_execs_nil h₂

theorem args1 {M : Model} {f : Value} {e : Expr} {pos : Pos} {Q : Args → Shared → Prop} (he : starEach [e] env = [(false, eval e env)])
    (h : wpAny M A (eval e env) (fun v s₁ => Q ⟨[v], []⟩ s₁) E s) : wpAny M A (evalArgs f true (backTo pos (starEach [e] env)) []) Q E s := by
  rw [he]
  exact Calls.evalArgs_plain (Calls.spliced_cons (wpAny_mono h (fun v s₁ h₁ => Calls.spliced_nil h₁) fun _ _ e => e))
theorem args2 {M : Model} {f : Value} {e₁ e₂ : Expr} {pos : Pos} {Q : Args → Shared → Prop} (he : starEach [e₁, e₂] env = [(false, eval e₁ env), (false, eval e₂ env)])
    (h : wpAny M A (eval e₁ env) (fun v s₁ => wpAny M A (eval e₂ env) (fun v' s₂ => Q ⟨[v, v'], []⟩ s₂) E s₁) E s) : wpAny M A (evalArgs f true (backTo pos (starEach [e₁, e₂] env)) []) Q E s := by
  rw [he]
  exact Calls.evalArgs_plain (Calls.spliced_cons (wpAny_mono h (fun v s₁ h₁ => Calls.spliced_cons (wpAny_mono h₁ (fun v s₁ h₂ => Calls.spliced_nil h₂) fun _ _ e => e)) fun _ _ e => e))

theorem tk_mono {α : Type} {M : Model} {t : Sem α} {Q : α → Shared → Prop} (h : wpAny M A t (fun a s' => s.toks ≤ s'.toks → Q a s') (fun e s' => s.toks ≤ s'.toks → E e s') s) : wpAny M A t Q E s :=
  wpAny_with_toks (Nat.le_refl _) h

/-- a slice of a text -/
theorem sub_slice {value : Expr} {lower upper : Option Expr} {p pos : Pos} {Q : Value → Shared → Prop} {x : Str} {t : Tok}
    (h : wpAny (model prog w) A (eval value env) (fun o s₁ => o = .str x t ∧ wpAny (model prog w) A (evalPart lower env) (fun vl s₂ => wpAny (model prog w) A (evalPart upper env) (fun vu s₃ =>
      ∃ l u, vl = partValue l ∧ vu = partValue u ∧ ∀ h' t' k, (∀ b o, s₃.heap.get? b = some o → h'.get? b = some o) → Q (.str (Txt.slice x (l.map (·.1)) (u.map (·.1))) t') { s₃ with heap := h', toks := k }) E s₂) E s₁) E s)
    (hx : x.length ≤ 1000) (ht : ∀ o r, letTemporaryGo value o r = pure () := by intro _ _; rfl) :
    wpAny (model prog w) A (eval (.Subscript value (.Slice lower upper none p) pos) env) Q E s := by
  refine wpAny_Subscript_str_slice (wpAny_mono h (fun o s₁ h₁ => ?_) fun _ _ e => e) ht
  obtain ⟨rfl, h₁⟩ := h₁
  refine wpAny_mono h₁ (fun vl s₂ h₂ => wpAny_mono h₂ (fun vu s₃ h₃ => ?_) fun _ _ e => e) fun _ _ e => e
  obtain ⟨l, u, rfl, rfl, hQ⟩ := h₃
  refine ⟨x, t, l, u, rfl, rfl, rfl, ?_⟩
  refine post_val_or_str ⟨?_, fun t' k => ?_⟩
  · exact Nat.le_trans (Txt.slice_le x _ _) (by unfold sizeLine; omega)
  · exact hQ _ t' k fun b o e => Heap.get?_push_of_some _ e
end

/-! `_platform`, behind its join -/
def rep2 (y : Str) : Str := Txt.replace y "--" "-"
inductive Sq : Str → Str → Nat → Prop
  | done {y : Str} : y.length ≤ 1000 → rep2 y = y → Sq y y 0
  | step {y z : Str} {n : Nat} : y.length ≤ 1000 → rep2 y ≠ y → Sq (rep2 y) z n → Sq y z (n + 1)
inductive Rd : Str → Str → Nat → Prop
  | nil {y : Str} : y.length = 0 → Rd y y 0
  | stop {y : Str} : 0 < y.length → y.length ≤ 1000 → Txt.item y (-1) ≠ "-" → Rd y y 0
  | step {y z : Str} {n : Nat} : 0 < y.length → y.length ≤ 1000 → Txt.item y (-1) = "-" → Rd (Txt.slice y none (some (-1))) z n → Rd y z (n + 1)

section
variable {prog : Program} {w : World} {A : Around} {E : Value → Shared → Prop} {s : Shared} {f L : Addr} {m : Str → Option Value}

theorem ns_skip {q nm : Str} {v : Value} {m : Str → Option Value} {r : Option Value} (h : q ≠ nm) (e : m q = r) : (fun y => if y = nm then some v else m y) q = r := by simp [h, e]
theorem ns_get {q : Str} {v : Value} {m : Str → Option Value} : (fun y => if y = q then some v else m y) q = some v := by simp

theorem squeeze {y z : Str} {t : Tok} {n : Nat} {Q : Flow → Shared → Prop} (hc : c ≠ L) (hP : P ≠ L) (hn : s.heap.Ns L m) (hm : m "platform" = some (.str y t)) (htk : 1 ≤ s.toks) (hs : Sq y z n)
    (h : ∀ s' m' t', Mv c P [L] s s' → s'.heap.Ns L m' → m' "platform" = some (.str z t') → Q .next s') :
    wpAny (model prog w) A (exec (sAt 1 10) (platEnv c f L)) Q E s := by
  show wpAny (model prog w) A (exec (Stmt.While (Expr.Constant (Const.bool true) _ _) [Stmt.Assign [Expr.Name _ _] (Expr.Call (Expr.Attribute (Expr.Name _ _) _ _) [Expr.Constant (Const.str _) _ _, Expr.Constant (Const.str _) _ _] [] _) _,
    Stmt.If (Expr.Compare (Expr.Name _ _) [CmpOp.Eq] [Expr.Name _ _] _) [Stmt.Break _] [] _, Stmt.Assign [Expr.Name _ _] (Expr.Name _ _) _] [] _) _) Q E s
  refine while_rule (fun n s' => ∃ y m' t', Mv c P [L] s s' ∧ s'.heap.Ns L m' ∧ m' "platform" = some (.str y t') ∧ Sq y z n) (fun n s₁ E ⟨y, m₁, t₁, mv, hn, hm, hs⟩ => ?_) n ⟨y, m, t, Mv.refl _ _, hn, hm, hs⟩
  refine wpAny_isTrue_value (wpAny_Constant_bool (wpAny_truthy_bool ?_)) rfl
  simp only [if_true]
  have hlen : y.length ≤ 1000 := by cases hs <;> assumption
  refine wpAny_execs_cons ?_
  refine tk_mono ?_
  refine wpAny_Assign_Name ?_ rfl
  refine wpAny_Call_method_lateS rfl rfl rfl ?_
  refine wpAny_Name (wpAny_loadName_local rfl rfl hn hm ?_)
  refine ⟨"str", "str.replace", F.plainAttrs_str, F.slot_str_replace, F.type_str_replace, typeIs_str _ _ _, (fun a e => nomatch e), ?_⟩
  refine Calls.callWith_builtin rfl (args2 rfl ?_)
  refine wpAny_Constant_str (wpAny_Constant_str ?_)
  refine SC.replaceW (u := s₁.toks) (v := s₁.toks + 1) (Nat.ne_of_gt (Nat.le_trans htk mv.toks)) (Nat.succ_ne_zero _) (Nat.ne_of_lt (Nat.lt_succ_self _)) (by decide) (by omega) (by decide) fun t' k => ?_
  refine wpAny_storeName_local rfl hn (fun h' hn' hs' htk' => ?_) rfl
  refine wpAny_execs_cons ?_
  refine wpAny_If ?_
  refine wpAny_isTrue_Compare1 ?_
  refine wpAny_Name (wpAny_loadName_local rfl rfl hn' ns_get ?_)
  refine wpAny_Name (wpAny_loadName_local rfl rfl hn' (ns_skip (by decide) hm) ?_)
  refine PyProof.Rows.eq_str ?_
  refine wpAny_truthy_bool ?_
  have mv₂ : Mv c P [L] s { s₁ with heap := h', toks := k + 1 } := mv.trans (Mv.off (fun b o hb e => hs'.extBut b o (fun q => hb (List.mem_singleton.mpr q)) e) htk' (by simpa using hc) (by simpa using hP))
  cases hs with
  | done _ e =>
    rw [show (Txt.replace z (Str.ofString "--") (Str.ofString "-") == z) = true from beq_iff_eq.mpr e]
    simp only [if_true]
    refine wpAny_execs_cons (wpAny_Break ?_)
    exact h _ _ t₁ mv₂ hn' (ns_skip (by decide) hm)
  | step _ ne rest =>
    rw [show (Txt.replace y (Str.ofString "--") (Str.ofString "-") == y) = false from beq_eq_false_iff_ne.mpr ne]
    simp only [Bool.false_eq_true, if_false]
    refine wpAny_execs_nil ?_
    refine wpAny_execs_cons ?_
    refine wpAny_Assign_Name ?_ rfl
    refine wpAny_Name (wpAny_loadName_local rfl rfl hn' ns_get ?_)
    refine wpAny_storeName_local rfl hn' (fun h'' hn'' hs'' => ?_) rfl
    refine wpAny_execs_nil ?_
    refine ⟨_, Nat.lt_succ_self _, _, _, t', mv₂.trans (Mv.off (fun b o hb e => hs''.extBut b o (fun q => hb (List.mem_singleton.mpr q)) e) (Nat.le_succ _) (by simpa using hc) (by simpa using hP)), hn'', ?_, rest⟩
    exact ns_get

theorem trim {y z : Str} {t : Tok} {n : Nat} {Q : Flow → Shared → Prop} (hc : c ≠ L) (hP : P ≠ L) (hn : s.heap.Ns L m) (hm : m "platform" = some (.str y t)) (hs : Rd y z n)
    (h : ∀ s' m' t', Mv c P [L] s s' → s'.heap.Ns L m' → m' "platform" = some (.str z t') → Q .next s') :
    wpAny (model prog w) A (exec (sAt 1 11) (platEnv c f L)) Q E s := by
  show wpAny (model prog w) A (exec (Stmt.While (Expr.BoolOp BoolOp.And [Expr.Name _ _, Expr.Compare (Expr.Subscript (Expr.Name _ _) (Expr.UnaryOp UnaryOp.USub (Expr.Constant (Const.int 1) _ _) _) _) [CmpOp.Eq] [Expr.Constant (Const.str _) _ _] _] _)
    [Stmt.Assign [Expr.Name _ _] (Expr.Subscript (Expr.Name _ _) (Expr.Slice none (some (Expr.UnaryOp UnaryOp.USub (Expr.Constant (Const.int 1) _ _) _)) none _) _) _] [] _) _) Q E s
  refine while_rule (fun n s' => ∃ y m' t', Mv c P [L] s s' ∧ s'.heap.Ns L m' ∧ m' "platform" = some (.str y t') ∧ Rd y z n) (fun n s₁ E ⟨y, m₁, t₁, mv, hn, hm, hs⟩ => ?_) n ⟨y, m, t, Mv.refl _ _, hn, hm, hs⟩
  have hlen : y.length ≤ 1000 := by cases hs <;> omega
  refine wpAny_isTrue_BoolOp ?_
  refine wpAny_allTrue_And_cons (wpAny_isTrue_value ?_ rfl)
  refine wpAny_Name (wpAny_loadName_local rfl rfl hn hm ?_)
  refine SBL.truthy (by omega) ?_
  by_cases h0 : y.length = 0
  · have e0 : ((y.length : Int) != 0) = false := by simp [h0]
    rw [e0]
    simp only [Bool.false_eq_true, if_false]
    cases hs with
    | nil _ => exact h _ m₁ t₁ (mv.trans (Mv.tk (by omega))) hn hm
    | stop hp _ _ => omega
    | step hp _ _ _ => omega
  · have e0 : ((y.length : Int) != 0) = true := by simp [h0]
    rw [e0]
    simp only [if_true]
    refine wpAny_allTrue_And_cons (wpAny_isTrue_Compare1 ?_)
    refine Subscript_UnaryOp ?_
    refine wpAny_Name (wpAny_loadName_local rfl rfl hn hm ?_)
    refine wpAny_UnaryOp (wpAny_Constant_int (PySem.P.neg_int ?_))
    refine SBL.item (by omega) (by omega) (by omega) fun _ => ?_
    refine wpAny_Constant_str ?_
    refine PyProof.Rows.eq_str (wpAny_truthy_bool ?_)
    cases hs with
    | nil h' => exact absurd h' h0
    | stop _ _ ne =>
      rw [show (Txt.item z (-1) == Str.ofString "-") = false from beq_eq_false_iff_ne.mpr ne]
      simp only [Bool.false_eq_true, if_false]
      exact h _ m₁ t₁ (mv.trans (Mv.tk (by omega))) hn hm
    | step _ _ e rest =>
      rw [show (Txt.item y (-1) == Str.ofString "-") = true from beq_iff_eq.mpr e]
      simp only [if_true]
      refine wpAny_allTrue_And_nil ?_
      simp only [if_true]
      refine wpAny_execs_cons ?_
      refine tk_mono ?_
      refine wpAny_Assign_Name ?_ rfl
      refine sub_slice (x := y) (t := t₁) ?_ hlen
      refine wpAny_Name (wpAny_loadName_local rfl rfl hn hm ⟨rfl, ?_⟩)
      refine evalPart_none_step ?_
      refine evalPart_some_step (wpAny_UnaryOp (wpAny_Constant_int (PySem.P.neg_int ?_)))
      refine ⟨none, some (-1, _), rfl, rfl, fun h₂ t₂ k hk₂ => ?_⟩
      refine wpAny_storeName_local rfl (hn.keeps hk₂) (fun h₃ hn₃ hs₃ htk => ?_) rfl
      refine wpAny_execs_nil ?_
      refine ⟨_, Nat.lt_succ_self _, _, _, t₂, mv.trans (Mv.off (s := s₁) (h' := h₃) (tk := k + 1) (fun b o hb e => hs₃.extBut b o (fun q => hb (List.mem_singleton.mpr q)) (hk₂ b o e)) ?_ (by simpa using hc) (by simpa using hP)), hn₃, ns_get, rest⟩
      dsimp only at htk
      omega

/-! the whole of `_platform` -/
def reps : List (Str × Str) := [(" ", "_"), ("/", "-"), ("\\", "-"), (":", "-"), (";", "-"), ("\"", "-"), ("(", "-"), (")", "-"), ("unknown", "")]
def repAll (x : Str) : Str := reps.foldl (fun x p => Txt.replace x p.1 p.2) x
def RepOk : List (Str × Str) → Str → Prop
  | [], _ => True
  | p :: r, x => x.length ≤ 1000 ∧ RepOk r (Txt.replace x p.1 p.2)

/-- What `_platform` makes of `x`. -/
structure Plat (x r : Str) : Prop where
  len : x.length ≤ 1000
  reps : RepOk reps (Txt.strip x)
  run : ∃ z n k, Sq (repAll (Txt.strip x)) z n ∧ Rd z r k

set_option maxHeartbeats 4000000 in
theorem plat_body (B : Base c P mg mb h₁) {T : Addr} {x r : Str} {t : Tok} {Q : Flow → Shared → Prop} (p : Plat x r)
    (a : At c P h₁ s) (hh : A.handled = none) (hroom : A.depth < recursionLimit) (hn : s.heap.Ns L m) (hL : h₁.get? L = none) (hargs : m "args" = some (.ref T)) (hT : IsTup s.heap T #[.str x t]) (hTP : T ≠ P) (hTL : T ≠ L)
    (h : ∀ s' t', Mv c P [L] s s' → Q (.ret (.str r t')) s') :
    wpAny (model prog w) A (execs (sbody (stAt 1)) (platEnv c f L)) Q E s := by
  have hP : P ≠ L := by
    rintro rfl
    rw [B.tab.2] at hL; cases hL
  have hc : c ≠ L := by
    rintro rfl
    obtain ⟨⟨_, _, e, _⟩, _⟩ := B.tab
    rw [hL] at e; cases e
  obtain ⟨hlen, hr, z, n, k, hsq, hrd⟩ := p
  refine wpAny_execs_cons ?_
  refine plat_join B a hh hroom hn hL hargs hT hTP hTL hlen fun s₁ t₁ mv₁ hn₁ => ?_
  dsimp only [reps, RepOk] at hr
  obtain ⟨r1, r2, r3, r4, r5, r6, r7, r8, r9, _⟩ := hr
  have tk₁ : 1 ≤ s₁.toks := Nat.le_trans a.tk mv₁.toks
  refine wpAny_execs_cons ?_
  refine assign_replace rfl rfl hn₁ (if_pos rfl) r1 (by decide) (by decide) tk₁ hc hP (fun s₂ t₂ mv₂ hn₂ => ?_) rfl (by decide) rfl rfl
  refine wpAny_execs_cons ?_
  refine assign_replace rfl rfl hn₂ (if_pos rfl) r2 (by decide) (by decide) (Nat.le_trans tk₁ mv₂.toks) hc hP (fun s₃ t₃ mv₃ hn₃ => ?_) rfl (by decide) rfl rfl
  have mv₃' := mv₂.trans mv₃
  refine wpAny_execs_cons ?_
  refine assign_replace rfl rfl hn₃ (if_pos rfl) r3 (by decide) (by decide) (Nat.le_trans tk₁ mv₃'.toks) hc hP (fun s₄ t₄ mv₄ hn₄ => ?_) rfl (by decide) rfl rfl
  have mv₄' := mv₃'.trans mv₄
  refine wpAny_execs_cons ?_
  refine assign_replace rfl rfl hn₄ (if_pos rfl) r4 (by decide) (by decide) (Nat.le_trans tk₁ mv₄'.toks) hc hP (fun s₅ t₅ mv₅ hn₅ => ?_) rfl (by decide) rfl rfl
  have mv₅' := mv₄'.trans mv₅
  refine wpAny_execs_cons ?_
  refine assign_replace rfl rfl hn₅ (if_pos rfl) r5 (by decide) (by decide) (Nat.le_trans tk₁ mv₅'.toks) hc hP (fun s₆ t₆ mv₆ hn₆ => ?_) rfl (by decide) rfl rfl
  have mv₆' := mv₅'.trans mv₆
  refine wpAny_execs_cons ?_
  refine assign_replace rfl rfl hn₆ (if_pos rfl) r6 (by decide) (by decide) (Nat.le_trans tk₁ mv₆'.toks) hc hP (fun s₇ t₇ mv₇ hn₇ => ?_) rfl (by decide) rfl rfl
  have mv₇' := mv₆'.trans mv₇
  refine wpAny_execs_cons ?_
  refine assign_replace rfl rfl hn₇ (if_pos rfl) r7 (by decide) (by decide) (Nat.le_trans tk₁ mv₇'.toks) hc hP (fun s₈ t₈ mv₈ hn₈ => ?_) rfl (by decide) rfl rfl
  have mv₈' := mv₇'.trans mv₈
  refine wpAny_execs_cons ?_
  refine assign_replace rfl rfl hn₈ (if_pos rfl) r8 (by decide) (by decide) (Nat.le_trans tk₁ mv₈'.toks) hc hP (fun s₉ t₉ mv₉ hn₉ => ?_) rfl (by decide) rfl rfl
  have mv₉' := mv₈'.trans mv₉
  refine wpAny_execs_cons ?_
  refine assign_replace rfl rfl hn₉ (if_pos rfl) r9 (by decide) (by decide) (Nat.le_trans tk₁ mv₉'.toks) hc hP (fun s₀ t₀ mv₀ hn₀ => ?_) rfl (by decide) rfl rfl
  have mv₀' := mv₉'.trans mv₀
  refine wpAny_execs_cons ?_
  refine squeeze hc hP hn₀ (if_pos rfl) (Nat.le_trans tk₁ mv₀'.toks) hsq fun sa ma ta mva hna hma => ?_
  refine wpAny_execs_cons ?_
  refine trim hc hP hna hma hrd fun sb mb' tb mvb hnb hmb => ?_
  refine wpAny_execs_cons ?_
  refine wpAny_Return_some ?_
  refine wpAny_Name (wpAny_loadName_local rfl rfl hnb hmb ?_)
  exact h _ tb ((mv₁.trans mv₀').trans (mva.trans mvb))
end
end Mine

namespace Mine
variable {c P : Addr} {mg mb : Str → Option Value} {h₁ : Heap}

theorem Base.fnAt (B : Base c P mg mb h₁) {s : Shared} {f : Addr} {st : Stmt} {cd : Value} (a : At c P h₁ s) (hf : FnAt h₁ f st cd) (hcd : ∀ b, cd = .ref b → b ≠ P) : FnAt s.heap f st cd := by
  obtain ⟨oc, od, osl, doc, pm, an, ct, e, c', o, vs, t, rfl, g, r⟩ := hf
  exact ⟨oc, od, osl, doc, pm, an, ct, a.ext _ _ (B.neP e (by nofun)) e, c', o, vs, t, rfl, a.ext _ _ (hcd c' rfl) g, r⟩

section
variable {prog : Program} {w : World} {A : Around} {E : Value → Shared → Prop} {s : Shared}

theorem plat_call (B : Base c P mg mb h₁) {f : Addr} {x r : Str} {t : Tok} {Q : Value → Shared → Prop} (hf : FnAt h₁ f (stAt 1) (.ref c)) (hcP : c ≠ P) (p : Plat x r) (a : At c P h₁ s) (hlow : h₁.objs.size ≤ s.heap.objs.size)
    (hh : A.handled = none) (hroom : A.depth + 1 < recursionLimit) (h : ∀ s' t', Mv c P [] s s' → Q (.str r t') s') :
    wpAny (model prog w) A (call (.ref f) [.str x t]) Q E s := by
  obtain ⟨oc, od, osl, doc, pm, an, ct, ho, hcd⟩ := B.fnAt a hf (fun b e => by cases e; exact hcP)
  refine wpAny_call (codeAny_call_function (Nat.lt_of_succ_lt hroom) ho rfl rfl rfl rfl hcd ?_)
  have e : bindArgs (fnOf (sname (stAt 1)) (sname (stAt 1)) (sparams (stAt 1)) (sbody (stAt 1)) (sscope (stAt 1)) .none .none doc pm an (.ref c) ct) ⟨[.str x t], []⟩ = (do let T ← newTuple [.str x t]; pure [("args", T)]) := rfl
  rw [e]
  refine wpAny_bind (wpAny_newTuple (wpAny_pure ?_))
  refine wpAny_newFunctionEnv (show ∀ x ∈ (sscope (stAt 1)).names, x.2 ≠ .cell by decide) (locs rfl) (fun h₂ hns hsb => ?_) rfl
  dsimp only at hns hsb ⊢
  have hPlt : @LT.lt Nat _ P s.heap.objs.size := by
    obtain ⟨ps, _, ⟨_, t2⟩, _⟩ := a.tab
    exact Heap.lt_size t2
  have hsz : (s.heap.push { cls := .type "tuple", dict := none, data := .seq [Value.str x t].toArray }).objs.size = s.heap.objs.size + 1 := Heap.size_push ..
  rw [hsz] at hns hsb
  have k₂ : ∀ b o, s.heap.get? b = some o → h₂.get? b = some o := fun b o e => hsb.extBut b o (Nat.ne_of_lt (Nat.lt_succ_of_lt (Heap.lt_size e))) (Heap.get?_push_of_some _ (Heap.get?_push_of_some _ e))
  have mv₂ : ∀ tk, s.toks ≤ tk → Mv c P [] s { s with heap := h₂, toks := tk } := fun tk htk => Mv.keep k₂ htk
  have a₂ := a.mv (mv₂ (s.toks + 1) (Nat.le_succ _)) (fun _ h => nomatch h)
  refine ⟨B.nlAt a₂, codeAny_func ?_⟩
  have hT : IsTup h₂ s.heap.objs.size #[.str x t] := ⟨_, hsb.extBut _ _ (Nat.ne_of_lt (Nat.lt_succ_self _)) (Heap.get?_push_of_some _ (Heap.get?_push_size _ rfl)), rfl, _, rfl⟩
  rw [hsz]
  refine plat_body B (f := f) (L := s.heap.objs.size + 1) p a₂ hh hroom hns (gone (Nat.le_trans hlow (Nat.le_succ _))) rfl hT (Nat.ne_of_gt hPlt) (Nat.ne_of_lt (Nat.lt_succ_self _)) fun s' t' mv => ?_
  refine h s' t' ⟨fun b o _ hb e => mv.ext b o ?_ hb (k₂ b o e), fun ht => mv.tab (a₂.tab), fun hb => mv.bare hb, mv.os, Nat.le_trans (Nat.le_succ _) mv.toks⟩
  simp only [List.mem_singleton]
  exact Nat.ne_of_lt (Nat.lt_succ_of_lt (Heap.lt_size e))
end
end Mine

namespace Mine
variable {c P : Addr} {mg mb : Str → Option Value} {h₁ : Heap}

/-- `d` is read off `resp` from `i` on, behind what is read already. -/
inductive Pr (resp : Str) : Nat → Str → Str → Nat → Prop
  | stop {i : Nat} {d : Str} : resp.length ≤ i → Pr resp i d d 0
  | brk {i : Nat} {d : Str} : i < resp.length → Txt.item resp i = "\"" → (resp.length ≤ i + 1 ∨ Txt.item resp ((i + 1 : Nat) : Int) ≠ "\"") → Pr resp i d d 0
  | quote {i k : Nat} {d r : Str} : i + 1 < resp.length → Txt.item resp i = "\"" → Txt.item resp ((i + 1 : Nat) : Int) = "\"" → d.length ≤ 1000 → Pr resp (i + 2) (d ++ Txt.item resp i) r k → Pr resp i d r (k + 1)
  | step {i k : Nat} {d r : Str} : i < resp.length → Txt.item resp i ≠ "\"" → d.length ≤ 1000 → Pr resp (i + 1) (d ++ Txt.item resp i) r k → Pr resp i d r (k + 1)

structure Parse (resp r : Str) : Prop where
  len : resp.length ≤ 1000
  code : Txt.slice resp none (some 3) = "257"
  mark : Txt.slice resp (some 3) (some 5) = " \""
  run : ∃ k, Pr resp 5 "" r k

section
variable {prog : Program} {w : World} {A : Around} {E : Value → Shared → Prop} {s : Shared} {env : Env}

theorem assign_local {nm : Str} {m : Str → Option Value} {value : Expr} {p0 p : Pos} {Q : Flow → Shared → Prop} (hs : swapsWith value (some (.Name nm p0)) p.line env = pure false)
    (hk : env.scope.kind = .function) (hl : env.kindOf nm = some .local) (hn : s.heap.Ns env.locals m) (hc : c ≠ env.locals) (hP : P ≠ env.locals)
    (h : wpAny (model prog w) A (eval value env) (fun v s₁ => s.toks ≤ s₁.toks → Mv c P [] s s₁ ∧ ∀ s' m', Mv c P [env.locals] s s' → s'.heap.Ns env.locals m' → m' nm = some v → (∀ q, q ≠ nm → m' q = m q) → Q .next s') (fun e s' => s.toks ≤ s'.toks → E e s') s) :
    wpAny (model prog w) A (exec (.Assign [.Name nm p0] value p) env) Q E s := by
  refine wpAny_Assign_Name ?_ hs
  refine tk_mono (wpAny_mono h (fun v s₁ h₁ htk => ?_) fun _ _ e => e)
  obtain ⟨mv, h₂⟩ := h₁ htk
  refine wpAny_storeName_local hl (ns_of mv hn (by simp) (Ne.symm hP)) (fun h' hn' hs' => ?_) (by rw [hk]; rfl)
  exact h₂ _ _ (mv.nil.trans (Mv.off (fun b o hb e => hs'.extBut b o (fun q => hb (List.mem_singleton.mpr q)) e) (Nat.le_succ _) (by simpa using hc) (by simpa using hP))) hn' (if_pos rfl) (fun q hq => if_neg hq)

theorem name_local {nm : Str} {m : Str → Option Value} {v : Value} {p : Pos} {Q : Value → Shared → Prop} (hk : env.scope.kind = .function) (hl : env.kindOf nm = some .local) (hn : s.heap.Ns env.locals m) (hm : m nm = some v)
    (h : Q v s) (hd : (nm == ("__debug__" : Str)) = false := by decide) : wpAny (model prog w) A (eval (.Name nm p) env) Q E s := wpAny_Name (wpAny_loadName_local hk hl hn hm h) hd

theorem call_len_name {id : Str} {p pos : Pos} {e : Expr} {Q : Value → Shared → Prop} (B : Base c P mg mb h₁) (a : At c P h₁ s) (hid : id = "len") (hk : env.scope.kind = .function) (hx : env.kindOf id = some .globalImplicit) (hg : env.globals = mainGlobals) (hb : env.builtins = builtinsNs)
    (he : starEach [e] env = [(false, eval e env)]) (h : wpAny (model prog w) A (eval e env) (fun v s₁ => wpAny (model prog w) A (call (.builtin "len") [v]) Q E s₁) E s) :
    wpAny (model prog w) A (eval (.Call (.Name id p) [e] [] pos) env) Q E s := by
  subst hid
  refine wpAny_Call_Name_kw ?_
  refine Calls.Name_function_global hk hx (Calls.loadGlobal_builtin (by rw [hg]; exact B.gAt a) B.len.1 (by rw [hb]; exact B.bAt a) B.len.2 ?_)
  exact Calls.callWith_builtin (by rw [he]; rfl) (args1 he h)
end

/-- `parse257`'s frame. -/
abbrev parseEnv (cd : Value) (f L : Addr) : Env := envOf (sname (stAt 5)) (sscope (stAt 5)) L f cd

section
variable {prog : Program} {w : World} {A : Around} {E : Value → Shared → Prop} {s : Shared} {f L : Addr} {m : Str → Option Value} {cd : Value}

theorem parse_last {p0 p1 p2 p3 p4 : Pos} {d ch : Str} {z y : Tok} {Q : Flow → Shared → Prop} (hc : c ≠ L) (hP : P ≠ L) (hn : s.heap.Ns L m) (hd : m "dirname" = some (.str d z)) (hch : m "c" = some (.str ch y)) (h1 : d.length ≤ 1000) (h2 : ch.length ≤ 1000)
    (h : ∀ s' m' t', Mv c P [L] s s' → s'.heap.Ns L m' → m' "dirname" = some (.str (d ++ ch) t') → (∀ q : Str, q ≠ "dirname" → m' q = m q) → Q .next s') :
    wpAny (model prog w) A (execs [Stmt.Assign [Expr.Name "dirname" p0] (Expr.BinOp (Expr.Name "dirname" p1) Operator.Add (Expr.Name "c" p2) p3) p4] (parseEnv cd f L)) Q E s := by
  refine wpAny_execs_cons ?_
  refine assign_local (c := c) (P := P) rfl rfl rfl hn hc hP ?_
  refine wpAny_BinOp (name_local rfl rfl hn hd (name_local rfl rfl hn hch ?_))
  refine PyProof.Rows.add_str (fun t' tk htk => ⟨Mv.tk htk, fun s₅ m₅ mv₅ hn₅ hd₅ ho₅ => ?_⟩) (by unfold sizeLine; omega)
  exact wpAny_execs_nil (h _ m₅ t' mv₅ hn₅ hd₅ ho₅)

theorem parse_loop {resp r d : Str} {i k : Nat} {t u v z : Tok} {Q : Flow → Shared → Prop} (hlen : resp.length ≤ 1000) (hc : c ≠ L) (hP : P ≠ L) (hn : s.heap.Ns L m) (hr : m "resp" = some (.str resp t)) (hi : m "i" = some (.int i u)) (hnn : m "n" = some (.int resp.length v))
    (hd : m "dirname" = some (.str d z)) (hp : Pr resp i d r k)
    (h : ∀ s' m' t', Mv c P [L] s s' → s'.heap.Ns L m' → m' "dirname" = some (.str r t') → Q .next s') :
    wpAny (model prog w) A (exec (sAt 5 5) (parseEnv cd f L)) Q E s := by
  show wpAny (model prog w) A (exec (Stmt.While (Expr.Compare (Expr.Name _ _) [CmpOp.Lt] [Expr.Name _ _] _)
    [Stmt.Assign [Expr.Name _ _] (Expr.Subscript (Expr.Name _ _) (Expr.Name _ _) _) _, Stmt.Assign [Expr.Name _ _] (Expr.BinOp (Expr.Name _ _) Operator.Add (Expr.Constant (Const.int 1) _ _) _) _,
      Stmt.If (Expr.Compare (Expr.Name _ _) [CmpOp.Eq] [Expr.Constant (Const.str _) _ _] _)
        [Stmt.If (Expr.BoolOp BoolOp.Or [Expr.Compare (Expr.Name _ _) [CmpOp.GtE] [Expr.Name _ _] _, Expr.Compare (Expr.Subscript (Expr.Name _ _) (Expr.Name _ _) _) [CmpOp.NotEq] [Expr.Constant (Const.str _) _ _] _] _) [Stmt.Break _] [] _,
          Stmt.Assign [Expr.Name _ _] (Expr.BinOp (Expr.Name _ _) Operator.Add (Expr.Constant (Const.int 1) _ _) _) _] [] _,
      Stmt.Assign [Expr.Name _ _] (Expr.BinOp (Expr.Name _ _) Operator.Add (Expr.Name _ _) _) _] [] _) _) Q E s
  refine while_rule (fun k s' => ∃ i d m' u z, Mv c P [L] s s' ∧ s'.heap.Ns L m' ∧ m' "resp" = some (.str resp t) ∧ m' "i" = some (.int (i : Nat) u) ∧ m' "n" = some (.int resp.length v) ∧ m' "dirname" = some (.str d z) ∧ Pr resp i d r k)
    (fun k s₁ E ⟨i, d, m₁, u, z, mv, hn, hr, hi, hnn, hd, hp⟩ => ?_) k ⟨i, d, m, u, z, Mv.refl _ _, hn, hr, hi, hnn, hd, hp⟩
  refine wpAny_isTrue_Compare1 ?_
  refine name_local rfl rfl hn hi (name_local rfl rfl hn hnn ?_)
  refine lt_int (wpAny_truthy_bool ?_)
  by_cases hlt : i < resp.length
  · rw [show decide (((i : Nat) : Int) < (resp.length : Int)) = true from decide_eq_true (by omega)]
    simp only [if_true]
    -- c = resp[i]
    refine wpAny_execs_cons ?_
    refine assign_local (c := c) (P := P) rfl rfl rfl hn hc hP ?_
    refine Subscript_Name ?_
    refine name_local rfl rfl hn hr (name_local rfl rfl hn hi ?_)
    refine SBL.item (by omega) (by omega) (by omega) fun _ htk => ⟨Mv.tk htk, fun s₂ m₂ mv₂ hn₂ hc₂ ho₂ => ?_⟩
    -- i = i + 1
    refine wpAny_execs_cons ?_
    refine assign_local (c := c) (P := P) rfl rfl rfl hn₂ hc hP ?_
    refine wpAny_BinOp (name_local rfl rfl hn₂ ((ho₂ _ (by decide)).trans hi) (wpAny_Constant_int (add_int ?_)))
    intro htk
    refine ⟨Mv.tk htk, fun s₃ m₃ mv₃ hn₃ hi₃ ho₃ => ?_⟩
    have mv3 := (mv.trans mv₂).trans mv₃
    rw [show ((i : Nat) : Int) + 1 = ((i + 1 : Nat) : Int) by omega] at hi₃
    have hr₃ := ((ho₃ (Str.ofString "resp") (by decide)).trans (ho₂ _ (by decide))).trans hr
    have hd₃ := ((ho₃ (Str.ofString "dirname") (by decide)).trans (ho₂ _ (by decide))).trans hd
    have hn₃' := ((ho₃ (Str.ofString "n") (by decide)).trans (ho₂ _ (by decide))).trans hnn
    have hc₃ := (ho₃ (Str.ofString "c") (by decide)).trans hc₂
    refine wpAny_execs_cons ?_
    refine wpAny_If (wpAny_isTrue_Compare1 ?_)
    refine name_local rfl rfl hn₃ hc₃ (wpAny_Constant_str ?_)
    refine PyProof.Rows.eq_str (wpAny_truthy_bool ?_)
    cases hp with
    | stop q => exact absurd hlt (Nat.not_lt.mpr q)
    | step _ ne hdl rest =>
      rw [show (Txt.item resp i == Str.ofString "\"") = false from beq_eq_false_iff_ne.mpr ne]
      simp only [Bool.false_eq_true, if_false]
      refine wpAny_execs_nil ?_
      refine parse_last (c := c) (P := P) hc hP hn₃ hd₃ hc₃ hdl (by rw [len_item]; decide) fun s₅ m₅ t₅ mv₅ hn₅ hd₅ ho₅ => ?_
      exact ⟨_, Nat.lt_succ_self _, i + 1, _, m₅, _, t₅, (mv3.trans (Mv.tk (Nat.le_succ _))).trans mv₅, hn₅, (ho₅ _ (by decide)).trans hr₃, (ho₅ _ (by decide)).trans hi₃, (ho₅ _ (by decide)).trans hn₃', hd₅, rest⟩
    | brk _ e hor =>
      rw [show (Txt.item resp i == Str.ofString "\"") = true from beq_iff_eq.mpr e]
      simp only [if_true]
      refine wpAny_execs_cons ?_
      refine wpAny_If (wpAny_isTrue_BoolOp ?_)
      refine wpAny_allTrue_Or_cons (wpAny_isTrue_Compare1 ?_)
      refine name_local rfl rfl hn₃ hi₃ (name_local rfl rfl hn₃ hn₃' ?_)
      refine ge_int (wpAny_truthy_bool ?_)
      by_cases hge : resp.length ≤ i + 1
      · rw [show decide ((resp.length : Int) ≤ ((i + 1 : Nat) : Int)) = true from decide_eq_true (by omega)]
        simp only [if_true]
        refine wpAny_execs_cons (wpAny_Break ?_)
        exact h _ m₃ z (mv3.trans (Mv.tk (Nat.le_succ _))) hn₃ hd₃
      · rw [show decide ((resp.length : Int) ≤ ((i + 1 : Nat) : Int)) = false from decide_eq_false (by omega)]
        simp only [Bool.false_eq_true, if_false]
        refine wpAny_allTrue_Or_cons (wpAny_isTrue_Compare1 ?_)
        refine Subscript_Name ?_
        refine name_local rfl rfl hn₃ hr₃ (name_local rfl rfl hn₃ hi₃ ?_)
        refine SBL.item (by omega) (by omega) (by omega) fun _ => ?_
        refine wpAny_Constant_str (PyProof.Rows.ne_str (wpAny_truthy_bool ?_))
        have ne : Txt.item resp ((i + 1 : Nat) : Int) ≠ Str.ofString "\"" := hor.resolve_left hge
        rw [show (Txt.item resp ((i + 1 : Nat) : Int) != Str.ofString "\"") = true from bne_iff_ne.mpr ne]
        simp only [if_true]
        refine wpAny_execs_cons (wpAny_Break ?_)
        exact h _ m₃ z (mv3.trans (Mv.tk (by omega))) hn₃ hd₃
    | quote hlt2 e e2 hdl rest =>
      rw [show (Txt.item resp i == Str.ofString "\"") = true from beq_iff_eq.mpr e]
      simp only [if_true]
      refine wpAny_execs_cons ?_
      refine wpAny_If (wpAny_isTrue_BoolOp ?_)
      refine wpAny_allTrue_Or_cons (wpAny_isTrue_Compare1 ?_)
      refine name_local rfl rfl hn₃ hi₃ (name_local rfl rfl hn₃ hn₃' ?_)
      refine ge_int (wpAny_truthy_bool ?_)
      rw [show decide ((resp.length : Int) ≤ ((i + 1 : Nat) : Int)) = false from decide_eq_false (by omega)]
      simp only [Bool.false_eq_true, if_false]
      refine wpAny_allTrue_Or_cons (wpAny_isTrue_Compare1 ?_)
      refine Subscript_Name ?_
      refine name_local rfl rfl hn₃ hr₃ (name_local rfl rfl hn₃ hi₃ ?_)
      refine SBL.item (by omega) (by omega) (by omega) fun _ => ?_
      refine wpAny_Constant_str (PyProof.Rows.ne_str (wpAny_truthy_bool ?_))
      rw [show (Txt.item resp ((i + 1 : Nat) : Int) != Str.ofString "\"") = false by rw [e2]; rfl]
      simp only [Bool.false_eq_true, if_false]
      refine wpAny_allTrue_Or_nil ?_
      simp only [Bool.false_eq_true, if_false]
      refine wpAny_execs_nil ?_
      refine wpAny_execs_cons ?_
      refine assign_local (c := c) (P := P) rfl rfl rfl hn₃ hc hP ?_
      refine wpAny_BinOp (name_local rfl rfl hn₃ hi₃ (wpAny_Constant_int (add_int ?_)))
      intro htk
      refine ⟨Mv.tk htk, fun s₄ m₄ mv₄ hn₄ hi₄ ho₄ => ?_⟩
      rw [show ((i + 1 : Nat) : Int) + 1 = ((i + 2 : Nat) : Int) by omega] at hi₄
      refine wpAny_execs_nil ?_
      refine parse_last (c := c) (P := P) hc hP hn₄ ((ho₄ _ (by decide)).trans hd₃) ((ho₄ _ (by decide)).trans hc₃) hdl (by rw [len_item]; decide) fun s₅ m₅ t₅ mv₅ hn₅ hd₅ ho₅ => ?_
      exact ⟨_, Nat.lt_succ_self _, i + 2, _, m₅, _, t₅, ((mv3.trans (Mv.tk (by omega))).trans mv₄).trans mv₅, hn₅, ((ho₅ _ (by decide)).trans (ho₄ _ (by decide))).trans hr₃, (ho₅ _ (by decide)).trans hi₄, ((ho₅ _ (by decide)).trans (ho₄ _ (by decide))).trans hn₃', hd₅, rest⟩
  · rw [show decide (((i : Nat) : Int) < (resp.length : Int)) = false from decide_eq_false (by omega)]
    simp only [Bool.false_eq_true, if_false]
    cases hp with
    | stop _ => exact h _ m₁ z mv hn hd
    | brk q _ _ => exact absurd q hlt
    | quote q _ _ _ _ => exact absurd (Nat.lt_of_succ_lt q) hlt
    | step q _ _ _ => exact absurd q hlt

set_option maxHeartbeats 4000000 in
theorem parse_body (B : Base c P mg mb h₁) {resp r : Str} {t : Tok} {Q : Flow → Shared → Prop} (p : Parse resp r) (a : At c P h₁ s) (hL : h₁.get? L = none) (hc : c ≠ L) (hP : P ≠ L) (hn : s.heap.Ns L m) (hr : m "resp" = some (.str resp t))
    (h : ∀ s' t', Mv c P [L] s s' → Q (.ret (.str r t')) s') :
    wpAny (model prog w) A (execs (sbody (stAt 5)) (parseEnv cd f L)) Q E s := by
  obtain ⟨hlen, e1, e2, k, hp⟩ := p
  have hX : ∀ b ∈ [L], h₁.get? b = none := fun b hb => by rw [List.mem_singleton.mp hb]; exact hL
  have fin : ∀ (h₂ : Heap) (tk : Nat) (y lit : Str) (body : List Stmt) (Q' : Flow → Shared → Prop) (E' : Value → Shared → Prop), y = lit → s.toks ≤ tk → Mv c P [] s { s with heap := h₂, toks := tk } → Q' .next { s with heap := h₂, toks := tk } →
      if (y != lit) = true then wpAny (model prog w) A (execs body (parseEnv cd f L)) Q' E' { s with heap := h₂, toks := tk } else wpAny (model prog w) A (execs [] (parseEnv cd f L)) Q' E' { s with heap := h₂, toks := tk } := by
    intro h₂ tk y lit body Q' E' e _ _ q
    rw [show (y != lit) = false by rw [e]; exact bne_self_eq_false _]
    simp only [Bool.false_eq_true, if_false]
    exact wpAny_execs_nil q
  refine wpAny_execs_cons ?_
  refine wpAny_If (tk_mono (wpAny_isTrue_Compare1 ?_))
  refine sub_slice (x := resp) (t := t) ?_ hlen
  refine name_local rfl rfl hn hr ⟨rfl, ?_⟩
  refine evalPart_none_step (evalPart_some_step (wpAny_Constant_int ?_))
  refine ⟨none, some (3, _), rfl, rfl, fun h₂ t₂ k₂ hk₂ => ?_⟩
  refine wpAny_Constant_str (PyProof.Rows.ne_str (wpAny_truthy_bool ?_))
  intro htk
  have mv₂ : Mv c P [] s { s with heap := h₂, toks := k₂ + 1 } := Mv.keep hk₂ htk
  refine fin h₂ (k₂ + 1) _ _ _ _ _ e1 htk mv₂ ?_
  clear fin
  generalize ({ s with heap := h₂, toks := k₂ + 1 } : Shared) = s₂ at mv₂
  have hn₂ : s₂.heap.Ns L m := ns_of mv₂ hn (by simp) (Ne.symm hP)
  show wpAny (model prog w) A _ _ _ s₂
  refine wpAny_execs_cons ?_
  refine wpAny_If (tk_mono (wpAny_isTrue_Compare1 ?_))
  refine sub_slice (x := resp) (t := t) ?_ hlen
  refine name_local rfl rfl hn₂ hr ⟨rfl, ?_⟩
  refine evalPart_some_step (wpAny_Constant_int (evalPart_some_step (wpAny_Constant_int ?_)))
  refine ⟨some (3, _), some (5, _), rfl, rfl, fun h₃ t₃ k₃ hk₃ => ?_⟩
  refine wpAny_Constant_str (PyProof.Rows.ne_str (wpAny_truthy_bool ?_))
  intro htk
  have mv₃ : Mv c P [] s₂ { s₂ with heap := h₃, toks := k₃ + 1 } := Mv.keep hk₃ (Nat.le_trans (by exact Nat.le_refl _) htk)
  rw [show (Txt.slice resp (Option.map (·.1) (some ((3 : Int), s₂.toks))) (Option.map (·.1) (some ((5 : Int), s₂.toks + 1))) != Str.ofString " \"") = false by
    rw [show Txt.slice resp (Option.map (·.1) (some ((3 : Int), s₂.toks))) (Option.map (·.1) (some ((5 : Int), s₂.toks + 1))) = Str.ofString " \"" from e2]; rfl]
  simp only [Bool.false_eq_true, if_false]
  refine wpAny_execs_nil ?_
  dsimp only
  generalize ({ s₂ with heap := h₃, toks := k₃ + 1 } : Shared) = s₃ at mv₃ ⊢
  have hn₃ : s₃.heap.Ns L m := ns_of mv₃ hn₂ (by simp) (Ne.symm hP)
  have mvA : Mv c P [L] s s₃ := (mv₂.trans mv₃).nil
  refine wpAny_execs_cons ?_
  refine assign_local (c := c) (P := P) rfl rfl rfl hn₃ hc hP ?_
  refine wpAny_Constant_str fun htk => ⟨Mv.tk htk, fun s₄ m₄ mv₄ hn₄ hv₄ ho₄ => ?_⟩
  refine wpAny_execs_cons ?_
  refine assign_local (c := c) (P := P) rfl rfl rfl hn₄ hc hP ?_
  refine wpAny_Constant_int fun htk => ⟨Mv.tk htk, fun s₅ m₅ mv₅ hn₅ hv₅ ho₅ => ?_⟩
  refine wpAny_execs_cons ?_
  have mvB := (mvA.trans mv₄).trans mv₅
  refine assign_local (c := c) (P := P) rfl rfl rfl hn₅ hc hP ?_
  refine call_len_name B (a.mv mvB hX) rfl rfl rfl rfl rfl rfl ?_
  have hr₅ := ((ho₅ (Str.ofString "resp") (by decide)).trans (ho₄ _ (by decide))).trans hr
  refine name_local rfl rfl hn₅ hr₅ ?_
  refine SBL.len (by omega) fun htk => ⟨Mv.tk htk, fun s₆ m₆ mv₆ hn₆ hv₆ ho₆ => ?_⟩
  refine wpAny_execs_cons ?_
  refine parse_loop (c := c) (P := P) hlen hc hP hn₆ ((ho₆ _ (by decide)).trans hr₅) ((ho₆ _ (by decide)).trans hv₅) hv₆ (((ho₆ _ (by decide)).trans (ho₅ _ (by decide))).trans hv₄) hp fun s₇ m₇ t₇ mv₇ hn₇ hv₇ => ?_
  refine wpAny_execs_cons ?_
  refine wpAny_Return_some (name_local rfl rfl hn₇ hv₇ ?_)
  exact h _ t₇ ((mvB.trans mv₆).trans mv₇)

theorem parse_call (B : Base c P mg mb h₁) {f : Addr} {cd : Value} {x r : Str} {t : Tok} {Q : Value → Shared → Prop} (hf : FnAt h₁ f (stAt 5) cd) (hcd : ∀ b, cd = .ref b → b ≠ P) (p : Parse x r) (a : At c P h₁ s) (hlow : h₁.objs.size ≤ s.heap.objs.size)
    (hroom : A.depth + 1 < recursionLimit) (h : ∀ s' t', Mv c P [] s s' → Q (.str r t') s') :
    wpAny (model prog w) A (call (.ref f) [.str x t]) Q E s := by
  obtain ⟨oc, od, osl, doc, pm, an, ct, ho, hcd⟩ := B.fnAt a hf hcd
  refine wpAny_call (codeAny_call_def (Nat.lt_of_succ_lt hroom) ho rfl (B.nlAt a) hcd rfl (BindsTo.of_eq rfl) (show ∀ x ∈ (sscope (stAt 5)).names, x.2 ≠ .cell by decide) (locs rfl) (fun h₂ hns k₂ => ?_) rfl rfl rfl)
  have mv₂ : Mv c P [] s { s with heap := h₂, toks := s.toks + 1 } := Mv.keep k₂ (Nat.le_succ _)
  have a₂ := a.mv mv₂ (fun _ h => nomatch h)
  have hPlt : P < s.heap.objs.size := by
    obtain ⟨ps, _, ⟨_, t2⟩, _⟩ := a.tab
    exact Heap.lt_size t2
  have hclt : c < s.heap.objs.size := by
    obtain ⟨ps, _, ⟨⟨_, _, t2, _⟩, _⟩, _⟩ := a.tab
    exact Heap.lt_size t2
  refine parse_body B (f := f) (L := s.heap.objs.size) (cd := cd) p a₂ (gone hlow) (Nat.ne_of_lt hclt) (Nat.ne_of_lt hPlt) hns rfl fun s' t' mv => ?_
  refine h s' t' ⟨fun b o _ hb e => mv.ext b o ?_ hb (k₂ b o e), fun ht => mv.tab (a₂.tab), fun hb => mv.bare hb, mv.os, Nat.le_trans (Nat.le_succ _) mv.toks⟩
  simp only [List.mem_singleton]
  exact Nat.ne_of_lt (Heap.lt_size e)
end
end Mine

namespace Mine
variable {c P : Addr} {mg mb : Str → Option Value} {h₁ : Heap}

section
variable {prog : Program} {w : World} {A : Around} {E : Value → Shared → Prop} {R : Result → Shared → Prop} {s : Shared}

/-- what is wanted behind a draw -/
def onDraw (N : Shared → Prop) (K : Value → Shared → Prop) (r : Option Value) (s : Shared) : Prop := match r with | none => N s | some v => K v s

/-- the tests of a comprehension's clause -/
abbrev testsOf (ifs : List Expr) (env : Env) : Sem Bool :=
  forIn ifs true fun c r => if r = true then do let ok ← isTrue c env (eval c env); pure (ForInStep.yield ok) else pure (ForInStep.yield r)

theorem loop_gen {elt target iter : Expr} {ifs : List Expr} {scope : Scope} {pos : Pos} {it acc : Value} {env : Env} (I : Nat → Shared → Prop)
    (turn : ∀ n s E, I n s → wpAny (model prog w) A (pyNext it) (onDraw (fun s₁ => R (.ok .next) s₁)
      (fun v s₁ => wpAny (model prog w) A (letOwnedTupleGo target it v) (fun _ s₂ => wpAny (model prog w) A (assign target env v) (fun _ s₂ =>
          wpAny (model prog w) A (testsOf ifs env) (fun ok s₃ =>
            if ok = true then wpAny (model prog w) A (eval elt env) (fun x s₄ =>
              wpAny (model prog w) A (call (.builtin "list.append") [acc, x]) (fun _ s₅ => ∃ m, m < n ∧ I m s₅) E s₄) E s₃
            else ∃ m, m < n ∧ I m s₃) E s₂) E s₂) E s₁)) E s)
    (n : Nat) (h : I n s) :
    codeAny (model prog w) A (.compLoop (.ListComp elt [⟨target, iter, ifs, 0⟩] scope pos) 0 it acc env) R s := by
  refine codeAny_loop rfl I (fun n s hI => ?_) n h
  show wpAny _ A ((compTurn (.ListComp elt [⟨target, iter, ifs, 0⟩] scope pos) 0 it acc env).onRaise (fun x => do noteFrame x env; theTreesLotGoes x)) _ _ s
  refine wpAny_noted ?_
  rw [compTurn_list]
  refine wpAny_bind (wpAny_standAt (wpAny_bind (wpAny_mono (turn n s _ hI) (fun r s₁ h₁ => ?_) fun _ _ h' => h')))
  cases r with
  | none => exact wpAny_pure h₁
  | some v =>
    refine wpAny_bind (wpAny_mono h₁ (fun _ s₂ h₂ => ?_) fun _ _ h' => h')
    refine wpAny_bind (wpAny_mono h₂ (fun _ s₂ h₂ => wpAny_bind (wpAny_mono h₂ (fun ok s₃ h₃ => ?_) fun _ _ h' => h')) fun _ _ h' => h')
    cases ok with
    | false => exact wpAny_pure ⟨rfl, h₃⟩
    | true =>
      exact wpAny_bind (wpAny_bind (wpAny_mono h₃ (fun x s₄ h₄ => wpAny_bind (wpAny_mono h₄ (fun _ s₅ h₅ => wpAny_pure (wpAny_pure ⟨rfl, h₅⟩)) fun _ _ h' => h')) fun _ _ h' => h'))
end

/-- One by one: what is drawn and bound. `X`: what a draw may change; `fp`: what it stands on. -/
structure Turns (prog : Program) (w : World) (A : Around) (c P : Addr) (it : Value) (target : Expr) (cenv : Env) (fp X : List Addr) (n : Nat) (St V : Nat → Heap → Prop) : Prop where
  frame : ∀ i h h', St i h → (∀ b ∈ fp, ∀ o, h.get? b = some o → h'.get? b = some o) → St i h'
  vframe : ∀ i h h', V i h → (∀ b ∈ fp, ∀ o, h.get? b = some o → h'.get? b = some o) → V i h'
  live : ∀ i h, St i h → ∀ b ∈ X, ∃ o, h.get? b = some o
  noP : P ∉ fp
  item : ∀ i (s : Shared) (N Q : Shared → Prop) (E : Value → Shared → Prop), i < n → St i s.heap → (∀ s₂, Mv c P X s s₂ → St (i + 1) s₂.heap → V i s₂.heap → Q s₂) →
    wpAny (model prog w) A (pyNext it) (onDraw N fun v s₁ => wpAny (model prog w) A (letOwnedTupleGo target it v) (fun _ s₂ => wpAny (model prog w) A (assign target cenv v) (fun _ s₂ => Q s₂) E s₂) E s₁) E s
  done : ∀ (s : Shared) (Q : Shared → Prop) (K : Value → Shared → Prop) (E : Value → Shared → Prop), St n s.heap → (∀ s', Mv c P X s s' → (∃ m, s'.heap.Ns cenv.locals m) → Q s') →
    wpAny (model prog w) A (pyNext it) (onDraw Q K) E s
  self : ∀ (s : Shared) (Q : Value → Shared → Prop) (E : Value → Shared → Prop), St 0 s.heap → Q it s → wpAny (model prog w) A (pyIter it) Q E s

/-- an element: a plain value, or a new list -/
def Is (φ : Value → Prop) (ψ : Array Value → Prop) (base h : Heap) (y : Value) : Prop :=
  φ y ∨ ∃ T its, y = .ref T ∧ base.get? T = none ∧ h.IsList T its ∧ ψ its

section
variable {prog : Program} {w : World} {A : Around} {E : Value → Shared → Prop} {R : Result → Shared → Prop} {s : Shared}

/-- as `Is`, off `Y` -/
def IsOff (Y : List Addr) (φ : Value → Prop) (ψ : Array Value → Prop) (base h : Heap) (y : Value) : Prop :=
  φ y ∨ ∃ T its, y = .ref T ∧ T ∉ Y ∧ T ≠ P ∧ base.get? T = none ∧ h.IsList T its ∧ ψ its

theorem range_succ_filter (p : Nat → Bool) (i : Nat) : (List.range (i + 1)).filter p = (List.range i).filter p ++ (if p i then [i] else []) := by
  rw [List.range_succ, List.filter_append]
  cases h : p i <;> simp [h]

theorem comp_loop {elt target iter : Expr} {ifs : List Expr} {scope : Scope} {pos : Pos} {it : Value} {D : Addr} {cenv : Env} {fp X : List Addr} {n : Nat} {St V : Nat → Heap → Prop}
    (T : Turns prog w A c P it target cenv fp X n St V) (hn : n ≤ 1000) (p : Nat → Bool) (φ : Nat → Value → Prop) (ψ : Nat → Array Value → Prop)
    (hDf : D ∉ fp) (hDX : D ∉ X) (hDP : D ≠ P) (hcX : c ∉ D :: X) (hPX : P ∉ D :: X) (htab : TabOk c P s.heap) (hst : St 0 s.heap) (hD : s.heap.IsList D #[])
    (htest : ∀ i s₂ E', i < n → V i s₂.heap → Mv c P (D :: X) s s₂ → wpAny (model prog w) A (testsOf ifs cenv) (fun ok s₃ => ok = p i ∧ Mv c P [] s₂ s₃) E' s₂)
    (helt : ∀ i s₂ E', i < n → p i = true → V i s₂.heap → Mv c P (D :: X) s s₂ → wpAny (model prog w) A (eval elt cenv) (fun y s₃ => Mv c P [] s₂ s₃ ∧ Is (φ i) (ψ i) s₂.heap s₃.heap y) E' s₂)
    (hR : ∀ s' ys, Mv c P (D :: X) s s' → (∃ m, s'.heap.Ns cenv.locals m) → s'.heap.IsList D ys → Paired (fun i y => IsOff (P := P) (D :: X) (φ i) (ψ i) s.heap s'.heap y) ((List.range n).filter p) ys.toList → R (.ok .next) s') :
    codeAny (model prog w) A (.compLoop (.ListComp elt [⟨target, iter, ifs, 0⟩] scope pos) 0 it (.ref D) cenv) R s := by
  refine loop_gen (fun k s' => ∃ i ys, Mv c P (D :: X) s s' ∧ St i s'.heap ∧ i ≤ n ∧ k = n + 1 - i ∧ s'.heap.IsList D ys ∧ Paired (fun i y => IsOff (P := P) (D :: X) (φ i) (ψ i) s.heap s'.heap y) ((List.range i).filter p) ys.toList)
    (fun k s' E' ⟨i, ys, mv, hst', hi, hk, hD', hF⟩ => ?_) (n + 1) ⟨0, #[], Mv.refl _ _, hst, Nat.zero_le _, rfl, hD, .nil⟩
  have up : ∀ {s' s'' : Shared} {l : List Nat} {ys : List Value} {Y : List Addr}, Mv c P Y s' s'' → (∀ b ∈ Y, b ∈ D :: X) → Paired (fun i y => IsOff (P := P) (D :: X) (φ i) (ψ i) s.heap s'.heap y) l ys →
      Paired (fun i y => IsOff (P := P) (D :: X) (φ i) (ψ i) s.heap s''.heap y) l ys := fun mv hY hF => hF.mono fun i y h => by
    rcases h with h | ⟨T, its, e, h1, h2, h3, h4, h5⟩
    · exact .inl h
    · exact .inr ⟨T, its, e, h1, h2, h3, list_of mv h4 (fun hm => h1 (hY _ hm)) h2, h5⟩
  rcases Nat.lt_or_ge i n with hlt | hge
  · refine T.item i s' _ _ E' hlt hst' fun s₂ mv₂ hst₂ hv₂ => ?_
    have mv2 : Mv c P (D :: X) s s₂ := mv.trans (mv₂.weaken fun b hb => List.mem_cons_of_mem _ hb)
    have hD₂ : s₂.heap.IsList D ys := list_of mv₂ hD' hDX hDP
    have hF₂ := up mv₂ (fun b hb => List.mem_cons_of_mem _ hb) hF
    refine wpAny_mono (htest i s₂ E' hlt hv₂ mv2) (fun ok s₃ h₃ => ?_) fun _ _ e => e
    obtain ⟨rfl, mv₃⟩ := h₃
    have mv3 := mv2.trans mv₃.nil
    have keep₃ : ∀ b ∈ fp, ∀ o, s₂.heap.get? b = some o → s₃.heap.get? b = some o := fun b hb o e => mv₃.ext b o (by simp) (fun q => T.noP (q ▸ hb)) e
    have hst₃ := T.frame _ _ _ hst₂ keep₃
    have hv₃ := T.vframe _ _ _ hv₂ keep₃
    have hD₃ : s₃.heap.IsList D ys := list_of mv₃ hD₂ (by simp) hDP
    have hF₃ := up mv₃ (fun b hb => nomatch hb) hF₂
    cases hp : p i with
    | false =>
      simp only [Bool.false_eq_true, if_false]
      refine ⟨n + 1 - (i + 1), by omega, i + 1, ys, mv3, hst₃, hlt, rfl, hD₃, ?_⟩
      rw [range_succ_filter, hp]
      simpa using hF₃
    | true =>
      simp only [if_true]
      refine wpAny_mono (helt i s₃ E' hlt hp hv₃ mv3) (fun y s₄ h₄ => ?_) fun _ _ e => e
      obtain ⟨mv₄, hy⟩ := h₄
      have hD₄ : s₄.heap.IsList D ys := list_of mv₄ hD₃ (by simp) hDP
      have mv4 := mv3.trans mv₄.nil
      have hys : ys.size ≤ sizeLine := by
        have e1 := hF.length
        have e2 : ((List.range i).filter p).length ≤ (List.range i).length := List.length_filter_le _ _
        have e3 : ys.toList.length = ys.size := by simp
        rw [List.length_range] at e2
        unfold sizeLine
        omega
      refine tk_mono (wpAny_list_append (hsz := hys) hD₄ fun h₅ hl₅ hs₅ htk => ?_)
      have mv₅ : Mv c P (D :: X) s₄ { s₄ with heap := h₅ } := Mv.off (s := s₄) (h' := h₅) (tk := s₄.toks) (fun b o hb e => hs₅.extBut b o (fun q => hb (q ▸ List.mem_cons_self)) e) (Nat.le_refl _) hcX hPX
      have hst₄ := T.frame _ _ s₄.heap hst₃ fun b hb o e => mv₄.ext b o (by simp) (fun q => T.noP (q ▸ hb)) e
      have hst₅ := T.frame _ _ h₅ hst₄ fun b hb o e => hs₅.extBut b o (fun q => hDf (q ▸ hb)) e
      refine ⟨n + 1 - (i + 1), by omega, i + 1, ys.push y, mv4.trans mv₅, hst₅, hlt, rfl, hl₅, ?_⟩
      rw [range_succ_filter, hp]
      have hF₅ := up mv₅ (fun b hb => hb) (up mv₄ (fun b hb => nomatch hb) hF₃)
      have hy₅ : IsOff (P := P) (D :: X) (φ i) (ψ i) s.heap h₅ y := by
        rcases hy with hy | ⟨T', its, rfl, n1, n2, n3⟩
        · exact .inl hy
        · have live : ∀ b, (∃ o, s₃.heap.get? b = some o) → T' ≠ b := fun b ⟨o, e⟩ q => by rw [q, e] at n1; cases n1
          have hTD : T' ≠ D := live D (let ⟨o, e, _⟩ := hD₃; ⟨o, e⟩)
          have hTX : T' ∉ D :: X := fun hm => by
            rcases List.mem_cons.mp hm with q | q
            · exact hTD q
            · exact live T' (T.live _ _ hst₃ T' q) rfl
          have hTP : T' ≠ P := by
            obtain ⟨ps, _, ⟨_, t2⟩, _⟩ := mv3.tab htab
            exact live P ⟨_, t2⟩
          refine .inr ⟨T', its, rfl, hTX, hTP, ?_, n2.extBut hs₅.extBut hTD, n3⟩
          cases q : s.heap.get? T' with
          | none => rfl
          | some o =>
            have := mv3.ext T' o hTX hTP q
            rw [n1] at this; cases this
      simpa using Paired.snoc hF₅ hy₅
  · obtain rfl : i = n := Nat.le_antisymm hi hge
    refine T.done s' _ _ E' hst' fun s₂ mv₂ hC => ?_
    exact hR s₂ ys (mv.trans (mv₂.weaken fun b hb => List.mem_cons_of_mem _ hb)) hC (list_of mv₂ hD' hDX hDP) (up mv₂ (fun b hb => List.mem_cons_of_mem _ hb) hF)

/-- a comprehension's block -/
abbrev blockEnv (scope : Scope) (env : Env) (cl : List (Str × Addr)) (C : Addr) : Env :=
  { scope := relabel scope env, locals := C, globals := env.globals, cells := cellsFrom (C + 1) scope.names cl, qual := env.qual, func := none, code := env.code, frame := env.frame, builtins := env.builtins }

theorem cellsFrom_acc : ∀ (names : List (Str × NameKind)) (n : Nat) (acc acc' : List (Str × Addr)), cellsFrom n names (acc ++ acc') = cellsFrom n names acc ++ acc'
  | [], _, _, _ => rfl
  | (x, k) :: r, n, acc, acc' => by
    unfold cellsFrom
    split
    · exact cellsFrom_acc r (n + 1) ((x, n) :: acc) acc'
    · exact cellsFrom_acc r n acc acc'

theorem new_block {M : Model} {scope : Scope} {globals : Addr} {cl : List (Str × Addr)} {qual : Str} {env : Env} {Q : Env → Shared → Prop}
    (hQ : ∀ h', h'.Ns s.heap.objs.size (fun _ => none) → (∀ b o, s.heap.get? b = some o → h'.get? b = some o) → (∀ n k, (n, k) ∈ cellsFrom (s.heap.objs.size + 1) scope.names [] → h'.IsCell k none ∧ s.heap.objs.size + 1 ≤ k) →
      Q { scope, locals := s.heap.objs.size, globals, cells := cellsFrom (s.heap.objs.size + 1) scope.names cl, qual, func := none, code := env.code, frame := env.frame, builtins := env.builtins } { s with heap := h' }) :
    wpAny M A (newFunctionEnv scope globals cl [] qual none .none (some env)) Q E s := by
  simp only [newFunctionEnv, Option.isSome_some, if_true]
  refine wpAny_bind (wpAny_alloc ?_)
  refine wpAny_bind (wpAny_layCells _ (fun name kind cells => by cases hkc : kind == NameKind.cell <;> simp [hkc]) _ _ _ _ ?_)
  have ok := cellsFrom_ok scope.names (s.heap.push { cls := .type "dict", data := .dict #[] }) (s.heap.objs.size + 1) [] ⟨fun _ _ hm => (nomatch hm), List.Pairwise.nil⟩ (by rw [Heap.size_push]; exact Nat.le_refl _)
  rw [Heap.size_push] at ok
  rw [show ({ s with heap := s.heap.push { cls := .type "dict", data := .dict #[] } } : Shared).heap.objs.size = s.heap.objs.size + 1 from Heap.size_push ..]
  refine wpAny_bind (wpAny_of_eq (List.forIn_nil ..) ?_)
  exact wpAny_pure (hQ _ ((Heap.Ns.new s.heap (.type "dict")).keeps (pushCells_keeps _ _)) (fun b o e => pushCells_keeps _ _ b o (Heap.get?_push_of_some _ e)) fun n k hm => ok.empty n k hm)

/-- What a comprehension's clause draws from; `s₂`: behind the iterator's making. -/
structure Clause (prog : Program) (w : World) (A : Around) (c P : Addr) (env : Env) (scope : Scope) (cl : List (Str × Addr)) (elt target : Expr) (ifs : List Expr) (it : Value) (fp X : List Addr) (n : Nat) (St V : Nat → Heap → Prop)
    (p : Nat → Bool) (φ : Nat → Value → Prop) (ψ : Nat → Array Value → Prop) (s₂ : Shared) : Prop where
  turns : Turns prog w A c P it target (blockEnv scope env cl (s₂.heap.objs.size + 1)) fp X n St V
  few : n ≤ 1000
  start : ∀ h', (∀ b o, s₂.heap.get? b = some o → h'.get? b = some o) → h'.Ns (s₂.heap.objs.size + 1) (fun _ => none) → (∀ n k, (n, k) ∈ cellsFrom (s₂.heap.objs.size + 2) scope.names [] → h'.IsCell k none) → St 0 h'
  offF : s₂.heap.objs.size ∉ fp
  offX : s₂.heap.objs.size ∉ X
  cIn : s₂.heap.objs.size + 1 ∈ X
  cX : c ∉ X
  PX : P ∉ X
  tab : TabOk c P s₂.heap
  test : ∀ i s₃ E', i < n → V i s₃.heap → Mv c P (s₂.heap.objs.size :: X) s₂ s₃ → wpAny (model prog w) A (testsOf ifs (blockEnv scope env cl (s₂.heap.objs.size + 1))) (fun ok s₄ => ok = p i ∧ Mv c P [] s₃ s₄) E' s₃
  elt : ∀ i s₃ E', i < n → p i = true → V i s₃.heap → Mv c P (s₂.heap.objs.size :: X) s₂ s₃ →
    wpAny (model prog w) A (eval elt (blockEnv scope env cl (s₂.heap.objs.size + 1))) (fun y s₄ => Mv c P [] s₃ s₄ ∧ Is (φ i) (ψ i) s₃.heap s₄.heap y) E' s₃

theorem comp_core {elt target iter : Expr} {ifs : List Expr} {scope : Scope} {pos : Pos} {env : Env} {cl : List (Str × Addr)} {use : Option (Value → Sem Unit)} {Q : Value → Shared → Prop}
    {p : Nat → Bool} {φ : Nat → Value → Prop} {ψ : Nat → Array Value → Prop}
    (hs : ∀ x, foldedSetIterable iter env x = pure x) (hclos : closureFor scope env = pure cl) (hkind : scope.kind = .function) (hnames : ∀ x ∈ scope.names, x.2 = .local → scope.names.lookup x.1 = some .local)
    (h : wpAny (model prog w) A (eval iter env) (fun xv s₁ => wpAny (model prog w) A (pyIter xv) (fun it s₂ => ∃ fp X n St V, Clause prog w A c P env scope cl elt target ifs it fp X n St V p φ ψ s₂ ∧
      (∀ D C s' ys, s₂.heap.get? D = none → s₂.heap.get? C = none → D ≠ C → D ∉ X → C ∈ X → Mv c P (D :: X) s₂ s' → C ≠ P → D ≠ P → (∃ m, s'.heap.Ns C m) → s'.heap.IsList D ys → Paired (fun i y => IsOff (P := P) (D :: X) (φ i) (ψ i) s₂.heap s'.heap y) ((List.range n).filter p) ys.toList →
        compPost (model prog w) A E use Q (.ref D) C (.ok .next) s')) E s₁) E s) :
    wpAny (model prog w) A (comprehension (.ListComp elt [⟨target, iter, ifs, 0⟩] scope pos) scope env (firstIterPos [⟨target, iter, ifs, 0⟩] pos) (newList []) false (eval iter env) use) Q E s := by
  refine wpAny_comprehension_free (use := use) rfl hs hclos hkind hnames (wpAny_mono h (fun xv s₁ h₁ => wpAny_mono h₁ (fun it s₂ h₂ => ?_) fun _ _ e => e) fun _ _ e => e)
  obtain ⟨fp, X, n, St, V, K, hQ⟩ := h₂
  refine wpAny_newObj_type (new_block fun h₃ hns hk₃ hcl => ?_)
  have hsz : (s₂.heap.push { cls := .type "list", dict := none, data := .seq ([] : List Value).toArray }).objs.size = s₂.heap.objs.size + 1 := Heap.size_push ..
  dsimp only at hns hk₃ hcl ⊢
  rw [hsz] at hns hcl ⊢
  have hk : ∀ b o, s₂.heap.get? b = some o → h₃.get? b = some o := fun b o e => hk₃ b o (Heap.get?_push_of_some _ e)
  have hD : h₃.IsList s₂.heap.objs.size #[] := ⟨_, hk₃ _ _ (Heap.get?_push_size _ rfl), rfl, _, rfl⟩
  have hPlt : @LT.lt Nat _ P s₂.heap.objs.size := by
    obtain ⟨ps, _, ⟨_, t2⟩, _⟩ := K.tab
    exact Heap.lt_size t2
  have hclt : @LT.lt Nat _ c s₂.heap.objs.size := by
    obtain ⟨ps, _, ⟨⟨_, _, t2, _⟩, _⟩, _⟩ := K.tab
    exact Heap.lt_size t2
  have mv₃ : ∀ tk, s₂.toks ≤ tk → Mv c P [] s₂ { s₂ with heap := h₃, toks := tk } := fun tk htk => Mv.keep hk htk
  have hDc : c ∉ s₂.heap.objs.size :: X := fun hm => by
    rcases List.mem_cons.mp hm with e | e
    · exact Nat.ne_of_lt hclt e
    · exact K.cX e
  have hDP : P ∉ s₂.heap.objs.size :: X := fun hm => by
    rcases List.mem_cons.mp hm with e | e
    · exact Nat.ne_of_lt hPlt e
    · exact K.PX e
  have mvv := mv₃ s₂.toks (Nat.le_refl _)
  have loop : codeAny (model prog w) A (.compLoop (.ListComp elt [⟨target, iter, ifs, 0⟩] scope pos) 0 it (.ref s₂.heap.objs.size) (blockEnv scope env cl (s₂.heap.objs.size + 1)))
      (compPost (model prog w) A E use Q (.ref s₂.heap.objs.size) (s₂.heap.objs.size + 1)) { s₂ with heap := h₃ } := by
    refine comp_loop K.turns K.few p φ ψ K.offF K.offX (Nat.ne_of_gt hPlt) hDc hDP (mvv.tab K.tab) (K.start h₃ hk hns fun n k hm => (hcl n k hm).1) hD
      (fun i s₄ E' hi hv mv => K.test i s₄ E' hi hv (mvv.nil.trans mv)) (fun i s₄ E' hi hp hv mv => K.elt i s₄ E' hi hp hv (mvv.nil.trans mv)) fun s' ys mv hC hl hF => ?_
    refine hQ _ _ s' ys (gone (Nat.le_refl _)) (gone (Nat.le_succ _)) (Nat.ne_of_lt (Nat.lt_succ_self _)) K.offX K.cIn (mvv.nil.trans mv) (Nat.ne_of_gt (Nat.lt_succ_of_lt hPlt)) (Nat.ne_of_gt hPlt) hC hl (hF.mono fun i y hy => ?_)
    rcases hy with hy | ⟨T, its, e, a1, a2, a3, a4, a5⟩
    · exact .inl hy
    · refine .inr ⟨T, its, e, a1, a2, ?_, a4, a5⟩
      cases q : s₂.heap.get? T with
      | none => rfl
      | some o => rw [hk T o q] at a3; cases a3
  exact codeAny_compStart_list loop (K.turns.self _ _ _ (K.start h₃ hk hns fun n k hm => (hcl n k hm).1) loop)

/-- an item of a new list: a plain value, or a list that is new too -/
abbrev Item (P : Addr) (φ : Value → Prop) (ψ : Array Value → Prop) (base h : Heap) (y : Value) : Prop :=
  φ y ∨ ∃ T its, y = .ref T ∧ T ≠ P ∧ base.get? T = none ∧ h.IsList T its ∧ ψ its

theorem Mv.drop {X : List Addr} {s s' : Shared} (v : Mv c P X s s') (h : ∀ b ∈ X, s.heap.get? b = none) : Mv c P [] s s' :=
  ⟨fun b o _ hb e => v.ext b o (fun m => by rw [h b m] at e; cases e) hb e, v.tab, v.bare, v.os, v.toks⟩
theorem Mv.dropFrom {X : List Addr} {s s₂ s' : Shared} (u : Mv c P [] s s₂) (v : Mv c P X s₂ s') (h : ∀ b ∈ X, s.heap.get? b = none) : Mv c P [] s s' := (u.nil.trans v).drop h
theorem none_of {X : List Addr} {s s' : Shared} {b : Addr} (v : Mv c P X s s') (e : s'.heap.get? b = none) (h1 : b ∉ X) (h2 : b ≠ P) : s.heap.get? b = none := by
  cases q : s.heap.get? b with
  | none => rfl
  | some o => rw [v.ext b o h1 h2 q] at e; cases e

theorem comp_eval {elt target iter : Expr} {ifs : List Expr} {scope : Scope} {pos : Pos} {env : Env} {cl : List (Str × Addr)} {Q : Value → Shared → Prop}
    {p : Nat → Bool} {φ : Nat → Value → Prop} {ψ : Nat → Array Value → Prop}
    (hs : ∀ x, foldedSetIterable iter env x = pure x) (hclos : closureFor scope env = pure cl) (hkind : scope.kind = .function) (hnames : ∀ x ∈ scope.names, x.2 = .local → scope.names.lookup x.1 = some .local)
    (h : wpAny (model prog w) A (eval iter env) (fun xv s₁ => wpAny (model prog w) A (pyIter xv) (fun it s₂ => ∃ fp X n St V, Clause prog w A c P env scope cl elt target ifs it fp X n St V p φ ψ s₂ ∧ Mv c P [] s s₂ ∧ (∀ b ∈ X, s.heap.get? b = none) ∧
      (∀ D s' ys, s.heap.get? D = none → D ≠ P → Mv c P [] s s' → s'.heap.IsList D ys → Paired (fun i y => Item P (φ i) (ψ i) s.heap s'.heap y) ((List.range n).filter p) ys.toList → Q (.ref D) s')) E s₁) E s) :
    wpAny (model prog w) A (eval (.ListComp elt [⟨target, iter, ifs, 0⟩] scope pos) env) Q E s := by
  rw [eval_ListComp]
  refine comp_core (c := c) (P := P) (p := p) (φ := φ) (ψ := ψ) hs hclos hkind hnames (wpAny_mono h (fun xv s₁ h₁ => wpAny_mono h₁ (fun it s₂ h₂ => ?_) fun _ _ e => e) fun _ _ e => e)
  obtain ⟨fp, X, n, St, V, K, mv, hX, hQ⟩ := h₂
  refine ⟨fp, X, n, St, V, K, fun D C s' ys hD hC hDC hDX hCX mv' hCP hDP ⟨m, hm⟩ hl hF => ⟨m, hm, fun h' hs' => ?_⟩⟩
  have hD' : s.heap.get? D = none := none_of mv hD (by simp) hDP
  have mvC : Mv c P X s' { s' with heap := h' } := Mv.off (s := s') (h' := h') (tk := s'.toks) (fun b o hb e => hs'.extBut b o (fun q => hb (q ▸ hCX)) e) (Nat.le_refl _) K.cX K.PX
  have mvA : Mv c P [] s { s' with heap := h' } := mv.dropFrom (mv'.trans (mvC.weaken fun b hb => List.mem_cons_of_mem _ hb)) fun b hb => by
    rcases List.mem_cons.mp hb with rfl | hb
    · exact hD'
    · exact hX b hb
  refine hQ D _ ys hD' hDP mvA (hl.extBut hs'.extBut hDC) (hF.mono fun i y hy => ?_)
  rcases hy with hy | ⟨T, its, e, a1, a2, a3, a4, a5⟩
  · exact .inl hy
  · exact .inr ⟨T, its, e, a2, none_of mv a3 (by simp) a2, a4.extBut hs'.extBut (fun q => a1 (q ▸ List.mem_cons_of_mem _ hCX)), a5⟩

/-- `y = [.. for ..]`, `y` a local: the store is the comprehension's own. -/
theorem comp_assign {elt target iter : Expr} {ifs : List Expr} {scope : Scope} {pos spos py : Pos} {y : Str} {env : Env} {cl : List (Str × Addr)} {Q : Flow → Shared → Prop} {m : Str → Option Value}
    {p : Nat → Bool} {φ : Nat → Value → Prop} {ψ : Nat → Array Value → Prop}
    (hsw : swapsWith (.ListComp elt [⟨target, iter, ifs, 0⟩] scope pos) (some (.Name y py)) spos.line env = pure true)
    (hs : ∀ x, foldedSetIterable iter env x = pure x) (hclos : closureFor scope env = pure cl) (hkind : scope.kind = .function) (hnames : ∀ x ∈ scope.names, x.2 = .local → scope.names.lookup x.1 = some .local)
    (hk : env.scope.kind = .function) (hy : env.kindOf y = some .local) (hn : s.heap.Ns env.locals m) (hc : c ≠ env.locals) (hP : P ≠ env.locals)
    (h : wpAny (model prog w) A (eval iter env) (fun xv s₁ => wpAny (model prog w) A (pyIter xv) (fun it s₂ => ∃ fp X n St V, Clause prog w A c P env scope cl elt target ifs it fp X n St V p φ ψ s₂ ∧ Mv c P [] s s₂ ∧ (∀ b ∈ X, s.heap.get? b = none) ∧
      (∀ D s' m' ys, s.heap.get? D = none → D ≠ P → Mv c P [env.locals] s s' → s'.heap.Ns env.locals m' → m' y = some (.ref D) → (∀ q, q ≠ y → m' q = m q) → s'.heap.IsList D ys →
        Paired (fun i y => Item P (φ i) (ψ i) s.heap s'.heap y) ((List.range n).filter p) ys.toList → Q .next s')) E s₁) E s) :
    wpAny (model prog w) A (exec (.Assign [.Name y py] (.ListComp elt [⟨target, iter, ifs, 0⟩] scope pos) spos) env) Q E s := by
  rw [exec_Assign_Name_used _ _ _ _ hsw]
  refine wpAny_bind (wpAny_standAt (wpAny_bind ?_))
  show wpAny _ A (do let _ ← comprehension (.ListComp elt [⟨target, iter, ifs, 0⟩] scope pos) scope env _ (newList []) false (eval iter env) (some (assign (.Name y py) env))) _ _ s
  refine wpAny_bind (wpAny_mono (comp_core (c := c) (P := P) (p := p) (φ := φ) (ψ := ψ) (Q := fun _ s' => Q .next s') hs hclos hkind hnames (wpAny_mono h (fun xv s₁ h₁ => wpAny_mono h₁ (fun it s₂ h₂ => ?_) fun _ _ e => e) fun _ _ e => e))
    (fun _ s' hq => wpAny_pure (wpAny_pure hq)) fun _ _ e => e)
  obtain ⟨fp, X, n, St, V, K, mv, hX, hQ⟩ := h₂
  refine ⟨fp, X, n, St, V, K, fun D C s' ys hD hC hDC hDX hCX mv' hCP hDP ⟨mC, hmC⟩ hl hF => ?_⟩
  have hD' : s.heap.get? D = none := none_of mv hD (by simp) hDP
  have hlive : ∀ b, s.heap.get? b = none → env.locals ≠ b := fun b e q => by
    obtain ⟨o, _, _, ho, _⟩ := hn
    rw [q, e] at ho; cases ho
  have mvA : Mv c P [] s s' := mv.dropFrom mv' fun b hb => by
    rcases List.mem_cons.mp hb with rfl | hb
    · exact hD'
    · exact hX b hb
  have hLC : env.locals ≠ C := hlive C (hX C hCX)
  have hLD : env.locals ≠ D := hlive D hD'
  refine wpAny_assign_Name (wpAny_storeName_local hy (ns_of mvA hn (by simp) (Ne.symm hP)) (fun h₅ hn₅ hs₅ => ?_) (by rw [hk]; rfl))
  refine ⟨mC, hmC.sameBut hs₅ (Ne.symm hLC), fun h₆ hs₆ => ?_⟩
  have mv₅ : Mv c P [env.locals] s' { s' with heap := h₅, toks := s'.toks + 1 } := Mv.off (fun b o hb e => hs₅.extBut b o (fun q => hb (List.mem_singleton.mpr q)) e) (Nat.le_succ _) (by simpa using hc) (by simpa using hP)
  have mv₆ : Mv c P X { s' with heap := h₅, toks := s'.toks + 1 } { s' with heap := h₆, toks := s'.toks + 1 } :=
    Mv.off (s := { s' with heap := h₅, toks := s'.toks + 1 }) (fun b o hb e => hs₆.extBut b o (fun q => hb (q ▸ hCX)) e) (Nat.le_refl _) K.cX K.PX
  have mvT : Mv c P [env.locals] s { s' with heap := h₆, toks := s'.toks + 1 } :=
    ⟨fun b o hb hbP e => mv₆.ext b o (fun hm => by rw [hX b hm] at e; cases e) hbP (mv₅.ext b o hb hbP (mvA.ext b o (by simp) hbP e)), fun t => mv₆.tab (mv₅.tab (mvA.tab t)), fun t => mvA.bare t, mvA.os, Nat.le_trans mvA.toks (Nat.le_succ _)⟩
  refine hQ D _ _ ys hD' hDP mvT (hn₅.sameBut hs₆ hLC) (if_pos rfl) (fun q hq => if_neg hq) ((hl.extBut hs₅.extBut (Ne.symm hLD)).extBut hs₆.extBut hDC) (hF.mono fun i y hy => ?_)
  rcases hy with hy | ⟨T, its, e, a1, a2, a3, a4, a5⟩
  · exact .inl hy
  · have hT := none_of mv a3 (by simp) a2
    exact .inr ⟨T, its, e, a2, hT, (a4.extBut hs₅.extBut (Ne.symm (hlive T hT))).extBut hs₆.extBut (fun q => a1 (q ▸ List.mem_cons_of_mem _ hCX)), a5⟩
end
end Mine

namespace Mine
variable {c P : Addr} {mg mb : Str → Option Value} {h₁ : Heap}

section
variable {prog : Program} {w : World} {A : Around} {E : Value → Shared → Prop} {s : Shared}

theorem mem_cons_off {a b : Addr} {X : List Addr} (h1 : a ≠ b) (h2 : a ∉ X) : a ∉ b :: X := fun h => by
  rcases List.mem_cons.mp h with e | e
  · exact h1 e
  · exact h2 e

theorem turns_name {I : Addr} {fp wr : List Addr} {n : Nat} {Pv : Nat → Value → Prop} {St : Nat → Heap → Prop} {cenv : Env} {x : Str} {px : Pos} (W : Walks prog w A I fp wr n Pv St)
    (hlive : ∀ i h, St i h → ∀ b ∈ wr, ∃ o, h.get? b = some o) (hx : cenv.kindOf x = some .local) (hk : cenv.scope.kind = .function) (hCf : cenv.locals ∉ fp) (hPf : P ∉ fp) (hPC : P ≠ cenv.locals) (hcw : c ∉ wr) (hcC : c ≠ cenv.locals) :
    Turns prog w A c P (.ref I) (.Name x px) cenv (cenv.locals :: fp) (cenv.locals :: wr) n (fun i h => St i h ∧ ∃ m, h.Ns cenv.locals m) (fun i h => ∃ m v, h.Ns cenv.locals m ∧ m x = some v ∧ Pv i v) where
  frame := fun i h h' st k => ⟨W.frame _ _ _ st.1 fun b hb o e => k b (List.mem_cons_of_mem _ hb) o e, let ⟨m, hm⟩ := st.2; ⟨m, hm.at' fun o e => k _ List.mem_cons_self o e⟩⟩
  vframe := fun i h h' ⟨m, v, hm, r⟩ k => ⟨m, v, hm.at' fun o e => k _ List.mem_cons_self o e, r⟩
  live := fun i h st b hb => by
    rcases List.mem_cons.mp hb with rfl | hb
    · obtain ⟨m, o, _, _, ho, _⟩ := st.2; exact ⟨o, ho⟩
    · exact hlive i h st.1 b hb
  noP := mem_cons_off hPC hPf
  item := fun i s N Q E hi st hQ => by
    have hCw : cenv.locals ∉ wr := fun h => hCf (W.sub _ h)
    have hPw : P ∉ wr := fun h => hPf (W.sub _ h)
    obtain ⟨m, hm⟩ := st.2
    refine tk_mono (W.item i s _ _ hi st.1 fun v h' tk hPv hst' hk' => ?_)
    intro htk
    show wpAny (model prog w) A (pure ()) _ _ _
    refine wpAny_pure ?_
    refine wpAny_assign_Name (wpAny_storeName_local hx (hm.at' fun o e => hk' _ o hCw e) (fun h₂ hn₂ hs₂ => ?_) (by rw [hk]; rfl))
    refine hQ _ (Mv.off (s := s) (fun b o hb e => hs₂.extBut b o (fun q => hb (q ▸ List.mem_cons_self)) (hk' b o (fun q => hb (List.mem_cons_of_mem _ q)) e)) (Nat.le_succ_of_le htk) (mem_cons_off hcC hcw) (mem_cons_off hPC hPw))
      ⟨W.frame _ _ _ hst' fun b hb o e => hs₂.extBut b o (fun q => hCf (q ▸ hb)) e, _, hn₂⟩ ⟨_, v, hn₂, if_pos rfl, hPv⟩
  done := fun s Q K E st hQ => by
    have hCw : cenv.locals ∉ wr := fun h => hCf (W.sub _ h)
    have hPw : P ∉ wr := fun h => hPf (W.sub _ h)
    obtain ⟨m, hm⟩ := st.2
    refine tk_mono (W.done s _ _ st.1 fun h' tk hk' => ?_)
    intro htk
    exact hQ _ (Mv.off (s := s) (fun b o hb e => hk' b o (fun q => hb (List.mem_cons_of_mem _ q)) e) htk (mem_cons_off hcC hcw) (mem_cons_off hPC hPw)) ⟨m, hm.at' fun o e => hk' _ o hCw e⟩
  self := fun s Q E st hQ => W.self 0 s Q E st.1 hQ

theorem turns_cell {I K : Addr} {fp wr : List Addr} {n : Nat} {Pv : Nat → Value → Prop} {St : Nat → Heap → Prop} {cenv : Env} {x : Str} {px : Pos} (W : Walks prog w A I fp wr n Pv St)
    (hlive : ∀ i h, St i h → ∀ b ∈ wr, ∃ o, h.get? b = some o) (hx : cenv.kindOf x = some .cell) (hxc : cenv.cells.lookup x = some K) (hk : cenv.scope.kind = .function) (hCf : cenv.locals ∉ fp) (hKf : K ∉ fp) (hKC : K ≠ cenv.locals) (hPf : P ∉ fp) (hPC : P ≠ cenv.locals) (hPK : P ≠ K) (hcw : c ∉ wr) (hcC : c ≠ cenv.locals) (hcK : c ≠ K) :
    Turns prog w A c P (.ref I) (.Name x px) cenv (K :: cenv.locals :: fp) (K :: cenv.locals :: wr) n (fun i h => St i h ∧ (∃ m, h.Ns cenv.locals m) ∧ ∃ v, h.IsCell K v) (fun i h => ∃ v, h.IsCell K (some v) ∧ Pv i v) where
  frame := fun i h h' st k => ⟨W.frame _ _ _ st.1 fun b hb o e => k b (List.mem_cons_of_mem _ (List.mem_cons_of_mem _ hb)) o e, (let ⟨m, hm⟩ := st.2.1; ⟨m, hm.at' fun o e => k _ (List.mem_cons_of_mem _ List.mem_cons_self) o e⟩),
    let ⟨v, o, ho, hd⟩ := st.2.2; ⟨v, o, k _ List.mem_cons_self o ho, hd⟩⟩
  vframe := fun i h h' ⟨v, ⟨o, ho, hd⟩, r⟩ k => ⟨v, ⟨o, k _ List.mem_cons_self o ho, hd⟩, r⟩
  live := fun i h st b hb => by
    rcases List.mem_cons.mp hb with rfl | hb
    · obtain ⟨_, o, ho, _⟩ := st.2.2; exact ⟨o, ho⟩
    rcases List.mem_cons.mp hb with rfl | hb
    · obtain ⟨m, o, _, _, ho, _⟩ := st.2.1; exact ⟨o, ho⟩
    · exact hlive i h st.1 b hb
  noP := mem_cons_off hPK (mem_cons_off hPC hPf)
  item := fun i s N Q E hi st hQ => by
    have hCw : cenv.locals ∉ wr := fun h => hCf (W.sub _ h)
    have hKw : K ∉ wr := fun h => hKf (W.sub _ h)
    have hPw : P ∉ wr := fun h => hPf (W.sub _ h)
    obtain ⟨m, hm⟩ := st.2.1
    obtain ⟨v₀, o₀, ho₀, hd₀⟩ := st.2.2
    refine tk_mono (W.item i s _ _ hi st.1 fun v h' tk hPv hst' hk' => ?_)
    intro htk
    show wpAny (model prog w) A (pure ()) _ _ _
    refine wpAny_pure ?_
    refine wpAny_assign_Name (wpAny_storeName_cell hk hx hxc ⟨o₀, hk' _ _ hKw ho₀, hd₀⟩ (fun h₂ hc₂ hs₂ => ?_))
    refine hQ _ (Mv.off (s := s) (fun b o hb e => hs₂.extBut b o (fun q => hb (q ▸ List.mem_cons_self)) (hk' b o (fun q => hb (List.mem_cons_of_mem _ (List.mem_cons_of_mem _ q))) e)) htk (mem_cons_off hcK (mem_cons_off hcC hcw)) (mem_cons_off hPK (mem_cons_off hPC hPw)))
      ⟨W.frame _ _ _ hst' fun b hb o e => hs₂.extBut b o (fun q => hKf (q ▸ hb)) e, ⟨m, (hm.at' fun o e => hk' _ o hCw e).sameBut hs₂ (Ne.symm hKC)⟩, _, hc₂⟩ ⟨v, hc₂, hPv⟩
  done := fun s Q K' E st hQ => by
    have hCw : cenv.locals ∉ wr := fun h => hCf (W.sub _ h)
    have hPw : P ∉ wr := fun h => hPf (W.sub _ h)
    obtain ⟨m, hm⟩ := st.2.1
    refine tk_mono (W.done s _ _ st.1 fun h' tk hk' => ?_)
    intro htk
    exact hQ _ (Mv.off (s := s) (fun b o hb e => hk' b o (fun q => hb (List.mem_cons_of_mem _ (List.mem_cons_of_mem _ q))) e) htk (mem_cons_off hcK (mem_cons_off hcC hcw)) (mem_cons_off hPK (mem_cons_off hPC hPw))) ⟨m, hm.at' fun o e => hk' _ o hCw e⟩
  self := fun s Q E st hQ => W.self 0 s Q E st.1 hQ

theorem turns_pair {I : Addr} {fp wr : List Addr} {n : Nat} {Pt : Nat → Array Value → Prop} {St : Nat → Heap → Prop} {Mid : Nat → Addr → Heap → Prop} {cenv : Env} {x y : Str} {px py pos : Pos} {k : Nat} (W : WalksT prog w A I fp wr n Pt St Mid)
    (hh : A.handled = none) (hPt : ∀ i vs, Pt i vs → ∃ a b, vs = #[a, b]) (hxy : x ≠ y)
    (hlive : ∀ i h, St i h → ∀ b ∈ wr, ∃ o, h.get? b = some o) (hx : cenv.kindOf x = some .local) (hy : cenv.kindOf y = some .local) (hk : cenv.scope.kind = .function) (hCf : cenv.locals ∉ fp) (hPf : P ∉ fp) (hPC : P ≠ cenv.locals) (hcw : c ∉ wr) (hcC : c ≠ cenv.locals) :
    Turns prog w A c P (.ref I) (.Tuple [.Name x px, .Name y py] k pos) cenv (cenv.locals :: fp) (cenv.locals :: wr) n (fun i h => St i h ∧ ∃ m, h.Ns cenv.locals m) (fun i h => ∃ m a b, h.Ns cenv.locals m ∧ m x = some a ∧ m y = some b ∧ Pt i #[a, b]) where
  frame := fun i h h' st k => ⟨W.frame _ _ _ st.1 fun b hb o e => k b (List.mem_cons_of_mem _ hb) o e, let ⟨m, hm⟩ := st.2; ⟨m, hm.at' fun o e => k _ List.mem_cons_self o e⟩⟩
  vframe := fun i h h' ⟨m, a, b, hm, r⟩ k => ⟨m, a, b, hm.at' fun o e => k _ List.mem_cons_self o e, r⟩
  live := fun i h st b hb => by
    rcases List.mem_cons.mp hb with rfl | hb
    · obtain ⟨m, o, _, _, ho, _⟩ := st.2; exact ⟨o, ho⟩
    · exact hlive i h st.1 b hb
  noP := mem_cons_off hPC hPf
  item := fun i s N Q E hi st hQ => by
    have hCw : cenv.locals ∉ wr := fun h => hCf (W.sub _ h)
    have hPw : P ∉ wr := fun h => hPf (W.sub _ h)
    obtain ⟨m, hm⟩ := st.2
    refine tk_mono (W.item i s _ _ hi st.1 fun T vals h' tk hPv hT hTup hMid hk' => ?_)
    intro htk
    obtain ⟨a, b, rfl⟩ := hPt _ _ hPv
    refine W.go _ _ _ i T _ _ _ hMid fun h₂ hst₂ hk₂ => ?_
    have hT₂ : IsTup h₂ T #[a, b] := by
      obtain ⟨o, ho, r⟩ := hTup
      exact ⟨o, hk₂ _ _ (W.apart _ _ _ hMid) ho, r⟩
    have hm₂ : h₂.Ns cenv.locals m := hm.at' fun o e => hk₂ _ o hCw (hk' _ o hCw e)
    refine assign_Tuple_tuple hh hT₂ rfl rfl fun h₃ he₃ => ?_
    have hm₃ : h₃.Ns cenv.locals m := hm₂.at' fun o e => he₃ _ o (Nat.ne_of_lt (Heap.lt_size e)) e
    refine assignInOrder_cons (wpAny_assign_Name (wpAny_storeName_local hx hm₃ (fun h₄ hn₄ hs₄ => ?_) (by rw [hk]; rfl)))
    refine assignInOrder_cons (wpAny_assign_Name (wpAny_storeName_local hy hn₄ (fun h₅ hn₅ hs₅ => ?_) (by rw [hk]; rfl)))
    refine assignInOrder_nil ?_
    have up : ∀ b o, b ≠ cenv.locals → h₂.get? b = some o → h₅.get? b = some o := fun b o hb e => hs₅.extBut b o hb (hs₄.extBut b o hb (he₃ b o (Nat.ne_of_lt (Heap.lt_size e)) e))
    refine hQ _ (Mv.off (s := s) (tk := tk + 1 + 1) (fun b o hb e => up b o (fun q => hb (q ▸ List.mem_cons_self)) (hk₂ b o (fun q => hb (List.mem_cons_of_mem _ q)) (hk' b o (fun q => hb (List.mem_cons_of_mem _ q)) e))) ?_ (mem_cons_off hcC hcw) (mem_cons_off hPC hPw))
      ⟨W.frame _ _ _ hst₂ fun b hb o e => up b o (fun q => hCf (q ▸ hb)) e, _, hn₅⟩ ⟨_, a, b, hn₅, ?_, if_pos rfl, hPv⟩
    · exact Nat.le_trans htk (by exact Nat.le_add_right _ 2)
    · simp [hxy]
  done := fun s Q K E st hQ => by
    have hCw : cenv.locals ∉ wr := fun h => hCf (W.sub _ h)
    have hPw : P ∉ wr := fun h => hPf (W.sub _ h)
    obtain ⟨m, hm⟩ := st.2
    refine tk_mono (W.done s _ _ st.1 fun h' tk hk' => ?_)
    intro htk
    exact hQ _ (Mv.off (s := s) (fun b o hb e => hk' b o (fun q => hb (List.mem_cons_of_mem _ q)) e) htk (mem_cons_off hcC hcw) (mem_cons_off hPC hPw)) ⟨m, hm.at' fun o e => hk' _ o hCw e⟩
  self := fun s Q E st hQ => W.self 0 s Q E st.1 hQ

/-! clauses -/
theorem tab_lt {h : Heap} (t : TabOk c P h) : c < h.objs.size ∧ P < h.objs.size := by
  obtain ⟨ps, _, ⟨⟨_, _, e, _⟩, t2⟩, _⟩ := t
  exact ⟨Heap.lt_size e, Heap.lt_size t2⟩

theorem Mv.dropSome {X Y : List Addr} {s s' : Shared} (v : Mv c P X s s') (h : ∀ b ∈ X, b ∈ Y ∨ s.heap.get? b = none) : Mv c P Y s s' :=
  ⟨fun b o hY hb e => v.ext b o (fun m => by
    rcases h b m with q | q
    · exact hY q
    · rw [q] at e; cases e) hb e, v.tab, v.bare, v.os, v.toks⟩

theorem clause_walk {s₂ : Shared} {I : Addr} {fp wr : List Addr} {n : Nat} {Pv : Nat → Value → Prop} {St : Nat → Heap → Prop} {elt : Expr} {x : Str} {px : Pos} {ifs : List Expr} {scope : Scope} {env : Env} {cl : List (Str × Addr)} {p : Nat → Bool} {φ : Nat → Value → Prop} {ψ : Nat → Array Value → Prop}
    (W : Walks prog w A I fp wr n Pv St) (hlive : ∀ i h, St i h → ∀ b ∈ wr, ∃ o, h.get? b = some o) (hst : St 0 s₂.heap) (hfp : ∀ b ∈ fp, b < s₂.heap.objs.size) (hPf : P ∉ fp) (hcw : c ∉ wr) (hn : n ≤ 1000) (tab : TabOk c P s₂.heap)
    (hx : (relabel scope env).names.lookup x = some .local) (hk : scope.kind = .function)
    (test : ∀ C i v s₃ m₃ E', i < n → Pv i v → s₃.heap.Ns C m₃ → m₃ x = some v → Mv c P wr s₂ s₃ → C ≠ P → s₂.heap.get? C = none → wpAny (model prog w) A (testsOf ifs (blockEnv scope env cl C)) (fun ok s₄ => ok = p i ∧ Mv c P [] s₃ s₄) E' s₃)
    (helt : ∀ C i v s₃ m₃ E', i < n → Pv i v → p i = true → s₃.heap.Ns C m₃ → m₃ x = some v → Mv c P wr s₂ s₃ → C ≠ P → s₂.heap.get? C = none → wpAny (model prog w) A (eval elt (blockEnv scope env cl C)) (fun y s₄ => Mv c P [] s₃ s₄ ∧ Is (φ i) (ψ i) s₃.heap s₄.heap y) E' s₃) :
    Clause prog w A c P env scope cl elt (.Name x px) ifs (.ref I) ((s₂.heap.objs.size + 1) :: fp) ((s₂.heap.objs.size + 1) :: wr) n (fun i h => St i h ∧ ∃ m, h.Ns (s₂.heap.objs.size + 1) m) (fun i h => ∃ m v, h.Ns (s₂.heap.objs.size + 1) m ∧ m x = some v ∧ Pv i v) p φ ψ s₂ := by
  obtain ⟨hclt, hPlt⟩ := tab_lt tab
  have hCf : s₂.heap.objs.size + 1 ∉ fp := fun h => Nat.lt_irrefl _ (Nat.lt_of_succ_lt (hfp _ h))
  have hDf : s₂.heap.objs.size ∉ fp := fun h => Nat.lt_irrefl _ (hfp _ h)
  have hne : s₂.heap.objs.size ≠ s₂.heap.objs.size + 1 := Nat.ne_of_lt (Nat.lt_succ_self _)
  have hPC : P ≠ s₂.heap.objs.size + 1 := Nat.ne_of_lt (Nat.lt_succ_of_lt hPlt)
  have hcC : c ≠ s₂.heap.objs.size + 1 := Nat.ne_of_lt (Nat.lt_succ_of_lt hclt)
  have dropW : ∀ {s₃ : Shared}, Mv c P (s₂.heap.objs.size :: (s₂.heap.objs.size + 1) :: wr) s₂ s₃ → Mv c P wr s₂ s₃ := fun mv => mv.dropSome fun b hb => by
    rcases List.mem_cons.mp hb with rfl | hb
    · exact .inr (gone (Nat.le_refl _))
    rcases List.mem_cons.mp hb with rfl | hb
    · exact .inr (gone (Nat.le_succ _))
    · exact .inl hb
  refine ⟨turns_name (cenv := blockEnv scope env cl (s₂.heap.objs.size + 1)) W hlive hx hk hCf hPf hPC hcw hcC, hn, fun h' hk' hns _ => ⟨W.frame _ _ _ hst fun b _ o e => hk' b o e, _, hns⟩, mem_cons_off hne hDf, mem_cons_off hne fun h => hDf (W.sub _ h), List.mem_cons_self,
    mem_cons_off hcC hcw, mem_cons_off hPC fun h => hPf (W.sub _ h), tab, fun i s₃ E' hi hv mv => ?_, fun i s₃ E' hi hp hv mv => ?_⟩
  · obtain ⟨m, v, hm, hmx, hPv⟩ := hv
    exact test _ i v s₃ m E' hi hPv hm hmx (dropW mv) (Ne.symm hPC) (gone (Nat.le_succ _))
  · obtain ⟨m, v, hm, hmx, hPv⟩ := hv
    exact helt _ i v s₃ m E' hi hPv hp hm hmx (dropW mv) (Ne.symm hPC) (gone (Nat.le_succ _))

theorem live_iter {h : Heap} {I ax : Addr} {i : Nat} {its : Array Value} (x : h.IsListIter I ax i ∧ h.IsList ax its) : ∀ b ∈ [I], ∃ o, h.get? b = some o := fun b hb => by
  rw [List.mem_singleton.mp hb]
  obtain ⟨o, e, _⟩ := x.1
  exact ⟨o, e⟩

/-- over a list, one local name -/
theorem clause_list {ax : Addr} {items : Array Value} {elt : Expr} {x : Str} {px : Pos} {ifs : List Expr} {scope : Scope} {env : Env} {cl : List (Str × Addr)} {p : Nat → Bool} {φ : Nat → Value → Prop} {ψ : Nat → Array Value → Prop} {s₀ : Shared} {Fin : Nat → Prop}
    (hl : s.heap.IsList ax items) (haP : ax ≠ P) (hsz : items.size ≤ 1000) (hh : A.handled = none) (tab : TabOk c P s.heap) (mv : Mv c P [] s₀ s)
    (hx : (relabel scope env).names.lookup x = some .local) (hk : scope.kind = .function)
    (test : ∀ C i v s₃ m₃ E', items[i]? = some v → s₃.heap.Ns C m₃ → m₃ x = some v → Mv c P [] s s₃ → C ≠ P → s.heap.get? C = none → wpAny (model prog w) A (testsOf ifs (blockEnv scope env cl C)) (fun ok s₄ => ok = p i ∧ Mv c P [] s₃ s₄) E' s₃)
    (helt : ∀ C i v s₃ m₃ E', items[i]? = some v → p i = true → s₃.heap.Ns C m₃ → m₃ x = some v → Mv c P [] s s₃ → C ≠ P → s.heap.get? C = none → wpAny (model prog w) A (eval elt (blockEnv scope env cl C)) (fun y s₄ => Mv c P [] s₃ s₄ ∧ Is (φ i) (ψ i) s₃.heap s₄.heap y) E' s₃)
    (fin : Fin items.size) :
    wpAny (model prog w) A (pyIter (.ref ax)) (fun it s₂ => ∃ fp X n St V, Clause prog w A c P env scope cl elt (.Name x px) ifs it fp X n St V p φ ψ s₂ ∧ Mv c P [] s₀ s₂ ∧ (∀ b ∈ X, s₀.heap.get? b = none) ∧ Fin n) E s := by
  refine wpAny_pyIter_list hl ?_
  obtain ⟨hclt, hPlt⟩ := tab_lt tab
  have halt : ax < s.heap.objs.size := by obtain ⟨o, e, _⟩ := hl; exact Heap.lt_size e
  have hsz2 : (s.heap.push { cls := .type "list_iterator", data := .fields #[.ref ax, .int 0 0] }).objs.size = s.heap.objs.size + 1 := Heap.size_push ..
  have mvp : Mv c P [] s { s with heap := s.heap.push { cls := .type "list_iterator", data := .fields #[.ref ax, .int 0 0] } } := Mv.keep (s := s) (tk := s.toks) (fun _ _ e => Heap.get?_push_of_some _ e) (Nat.le_refl _)
  have hnew : ∀ b ∈ [s.heap.objs.size], s.heap.get? b = none := fun b hb => by rw [List.mem_singleton.mp hb]; exact gone (Nat.le_refl _)
  have back : ∀ {C : Addr}, (s.heap.push { cls := .type "list_iterator", data := .fields #[.ref ax, .int 0 0] }).get? C = none → s.heap.get? C = none := fun {C} e => by
    cases q : s.heap.get? C with
    | none => rfl
    | some o => rw [Heap.get?_push_of_some _ q] at e; cases e
  refine ⟨_, _, items.size, _, _, clause_walk (s₂ := { s with heap := s.heap.push { cls := .type "list_iterator", data := .fields #[.ref ax, .int 0 0] } }) (Walks.list hh s.heap.objs.size ax (Nat.ne_of_lt halt) items) (fun i h st => live_iter st)
    ⟨⟨_, Heap.get?_push_size _ rfl, rfl, rfl⟩, hl.push _⟩ ?_ (mem_cons_off (Nat.ne_of_lt hPlt) (mem_cons_off (Ne.symm haP) (by simp))) (mem_cons_off (Nat.ne_of_lt hclt) (by simp)) hsz (mvp.tab tab) hx hk
    (fun C i v s₃ m₃ E' _ hv hm hmx mv' hCP hC => test C i v s₃ m₃ E' hv hm hmx (mvp.dropFrom mv' hnew) hCP (back hC))
    (fun C i v s₃ m₃ E' _ hv hp hm hmx mv' hCP hC => helt C i v s₃ m₃ E' hv hp hm hmx (mvp.dropFrom mv' hnew) hCP (back hC)), mv.trans mvp, ?_, fin⟩
  · intro b hb
    show b < (s.heap.push _).objs.size
    rw [hsz2]
    simp only [List.mem_cons, List.not_mem_nil, or_false] at hb
    rcases hb with rfl | rfl
    · exact Nat.lt_succ_self _
    · exact Nat.lt_succ_of_lt halt
  · intro b hb
    simp only [List.mem_cons, List.not_mem_nil, or_false] at hb
    rcases hb with rfl | rfl
    · have hle : s.heap.objs.size ≤ (s.heap.push { cls := .type "list_iterator", data := .fields #[.ref ax, .int 0 0] }).objs.size + 1 := by rw [hsz2]; exact Nat.le_add_right _ 2
      exact none_of mv (gone hle) (by simp) (Nat.ne_of_gt (Nat.lt_of_lt_of_le hPlt hle))
    · exact none_of mv (gone (Nat.le_refl _)) (by simp) (Nat.ne_of_gt hPlt)

theorem live_one {h : Heap} {I : Addr} {o : Obj} (e : h.get? I = some o) : ∀ b ∈ [I], ∃ o, h.get? b = some o := fun b hb => by
  rw [List.mem_singleton.mp hb]; exact ⟨o, e⟩

/-- over range(n), one local name -/
theorem clause_range {r : Addr} {n : Nat} {t u v : Tok} {elt : Expr} {x : Str} {px : Pos} {ifs : List Expr} {scope : Scope} {env : Env} {cl : List (Str × Addr)} {p : Nat → Bool} {φ : Nat → Value → Prop} {ψ : Nat → Array Value → Prop} {s₀ : Shared} {Fin : Nat → Prop}
    (hr : IsRange s.heap r 0 n 1 t u v) (hsz : n ≤ 1000) (hh : A.handled = none) (tab : TabOk c P s.heap) (mv : Mv c P [] s₀ s)
    (hx : (relabel scope env).names.lookup x = some .local) (hk : scope.kind = .function)
    (test : ∀ C i t s₃ m₃ E', i < n → s₃.heap.Ns C m₃ → m₃ x = some (.int (i : Nat) t) → Mv c P [] s s₃ → C ≠ P → s.heap.get? C = none → wpAny (model prog w) A (testsOf ifs (blockEnv scope env cl C)) (fun ok s₄ => ok = p i ∧ Mv c P [] s₃ s₄) E' s₃)
    (helt : ∀ C i t s₃ m₃ E', i < n → p i = true → s₃.heap.Ns C m₃ → m₃ x = some (.int (i : Nat) t) → Mv c P [] s s₃ → C ≠ P → s.heap.get? C = none → wpAny (model prog w) A (eval elt (blockEnv scope env cl C)) (fun y s₄ => Mv c P [] s₃ s₄ ∧ Is (φ i) (ψ i) s₃.heap s₄.heap y) E' s₃)
    (fin : Fin n) :
    wpAny (model prog w) A (pyIter (.ref r)) (fun it s₂ => ∃ fp X n St V, Clause prog w A c P env scope cl elt (.Name x px) ifs it fp X n St V p φ ψ s₂ ∧ Mv c P [] s₀ s₂ ∧ (∀ b ∈ X, s₀.heap.get? b = none) ∧ Fin n) E s := by
  have hrs : Builtin.Range.rangeSize 0 n 1 = (n : Int) := by rw [rangeSize_one]; split <;> omega
  refine wpAny_pyIter_range hr (small_one (by decide) (by decide) (by omega) (by omega)) ?_
  rw [hrs]
  obtain ⟨hclt, hPlt⟩ := tab_lt tab
  have hsz2 : (s.heap.push { cls := .type "range_iterator", data := .fields #[rawInt 0, rawInt n, rawInt 1] }).objs.size = s.heap.objs.size + 1 := Heap.size_push ..
  have mvp : Mv c P [] s { s with heap := s.heap.push { cls := .type "range_iterator", data := .fields #[rawInt 0, rawInt n, rawInt 1] } } := Mv.keep (s := s) (tk := s.toks) (fun _ _ e => Heap.get?_push_of_some _ e) (Nat.le_refl _)
  have hnew : ∀ b ∈ [s.heap.objs.size], s.heap.get? b = none := fun b hb => by rw [List.mem_singleton.mp hb]; exact gone (Nat.le_refl _)
  have back : ∀ {C : Addr}, (s.heap.push { cls := .type "range_iterator", data := .fields #[rawInt 0, rawInt n, rawInt 1] }).get? C = none → s.heap.get? C = none := fun {C} e => by
    cases q : s.heap.get? C with
    | none => rfl
    | some o => rw [Heap.get?_push_of_some _ q] at e; cases e
  refine ⟨_, _, n, _, _, clause_walk (s₂ := { s with heap := s.heap.push { cls := .type "range_iterator", data := .fields #[rawInt 0, rawInt n, rawInt 1] } }) (LCg.range_walks hh 0 n) (fun i h st b hb => live_one st b hb)
    ?_ ?_ (mem_cons_off (Nat.ne_of_lt hPlt) (by simp)) (mem_cons_off (Nat.ne_of_lt hclt) (by simp)) hsz (mvp.tab tab) hx hk
    (fun C i v s₃ m₃ E' hi hv hm hmx mv' hCP hC => ?_)
    (fun C i v s₃ m₃ E' hi hv hp hm hmx mv' hCP hC => ?_), mv.trans mvp, ?_, fin⟩
  · show IsRangeIter _ _ _ _ _
    simpa using Heap.get?_push_size s.heap (o := { cls := .type "range_iterator", data := .fields #[rawInt 0, rawInt n, rawInt 1] }) rfl
  · intro b hb
    show b < (s.heap.push _).objs.size
    rw [hsz2, List.mem_singleton.mp hb]
    exact Nat.lt_succ_self _
  · obtain ⟨t, rfl⟩ := hv
    rw [Int.zero_add] at hmx
    exact test C i t s₃ m₃ E' hi hm hmx (mvp.dropFrom mv' hnew) hCP (back hC)
  · obtain ⟨t, rfl⟩ := hv
    rw [Int.zero_add] at hmx
    exact helt C i t s₃ m₃ E' hi hp hm hmx (mvp.dropFrom mv' hnew) hCP (back hC)
  · intro b hb
    simp only [List.mem_cons, List.not_mem_nil, or_false] at hb
    rcases hb with rfl | rfl
    · have hle : s.heap.objs.size ≤ (s.heap.push { cls := .type "range_iterator", data := .fields #[rawInt 0, rawInt n, rawInt 1] }).objs.size + 1 := by rw [hsz2]; exact Nat.le_add_right _ 2
      exact none_of mv (gone hle) (by simp) (Nat.ne_of_gt (Nat.lt_of_lt_of_le hPlt hle))
    · exact none_of mv (gone (Nat.le_refl _)) (by simp) (Nat.ne_of_gt hPlt)

theorem range_name {env : Env} {id : Str} {p pos : Pos} {e : Expr} {Q : Value → Shared → Prop} (B : Base c P mg mb h₁) (a : At c P h₁ s) (hid : id = "range") (hk : env.scope.kind = .function) (hx : env.kindOf id = some .globalImplicit) (hg : env.globals = mainGlobals) (hb : env.builtins = builtinsNs)
    (he : starEach [e] env = [(false, eval e env)])
    (h : wpAny (model prog w) A (eval e env) (fun v s₁ => ∃ n t, v = .int n t ∧ ∀ r s₂ t u v, Mv c P [] s₁ s₂ → IsRange s₂.heap r 0 n 1 t u v → Q (.ref r) s₂) E s) :
    wpAny (model prog w) A (eval (.Call (.Name id p) [e] [] pos) env) Q E s := by
  subst hid
  refine wpAny_Call_Name_kw ?_
  refine Calls.Name_function_global hk hx (Calls.loadGlobal_builtin (by rw [hg]; exact B.gAt a) B.range.1 (by rw [hb]; exact B.bAt a) B.range.2 ?_)
  refine PySem.callWith_type (by rw [he]; rfl) (args1 he (wpAny_mono h (fun v s₁ h₁ => ?_) fun _ _ e => e))
  obtain ⟨n, t, rfl, hQ⟩ := h₁
  refine call_range_1 (hQ _ _ _ _ _ (Mv.push _ (by omega)) (IsRange.new ..))
end
end Mine

namespace Mine
variable {c P : Addr} {mg mb : Str → Option Value} {h₁ : Heap}

/-- an element that is the text `x` -/
abbrev isStr (x : Str) : Value → Prop := fun y => ∃ t, y = .str x t
abbrev isInt (x : Int) : Value → Prop := fun y => ∃ t, y = .int x t
abbrev noList : Array Value → Prop := fun _ => False

theorem strs_of {base h : Heap} {g : Nat → Str} : ∀ {l : List Nat} {ys : List Value}, Paired (fun i y => Item P (isStr (g i)) noList base h y) l ys → StrsAre ys (l.map g)
  | _, _, .nil => .nil
  | _, _, .cons hy t => by
    rcases hy with ⟨u, rfl⟩ | ⟨_, _, _, _, _, _, f⟩
    · exact .cons _ u (strs_of t)
    · exact f.elim
theorem ints_of {base h : Heap} {g : Nat → Int} : ∀ {l : List Nat} {ys : List Value}, Paired (fun i y => Item P (isInt (g i)) noList base h y) l ys → IntsAre ys (l.map g)
  | _, _, .nil => .nil
  | _, _, .cons hy t => by
    rcases hy with ⟨u, rfl⟩ | ⟨_, _, _, _, _, _, f⟩
    · exact .cons _ u (ints_of t)
    · exact f.elim

theorem Mv.retok {X : List Addr} {s s' : Shared} {tk : Nat} (v : Mv c P X s s') (h : s.toks ≤ tk) : Mv c P X s { s' with toks := tk } := ⟨v.ext, v.tab, v.bare, v.os, h⟩

/-- what `_law_folded` makes of a text -/
def keepAt (x : Str) (i : Nat) : Bool := Txt.item x i != "-" || ((i : Int) == 0 || Txt.item x ((i : Int) - 1) != "-")
def foldedOf (x : Str) : Str := Txt.rstripChars (Txt.join "" (((List.range x.length).filter (keepAt x)).map fun i => Txt.item x (i : Nat))) "-"

section
variable {prog : Program} {w : World} {A : Around} {E : Value → Shared → Prop} {s : Shared} {env : Env}

theorem name_cell {nm : Str} {K : Addr} {v : Value} {p : Pos} {Q : Value → Shared → Prop} (hk : env.scope.kind = .function) (hl : env.kindOf nm = some .cell) (hc : env.cells.lookup nm = some K) (hv : s.heap.IsCell K (some v))
    (h : Q v s) (hd : (nm == ("__debug__" : Str)) = false := by decide) : wpAny (model prog w) A (eval (.Name nm p) env) Q E s := wpAny_Name (wpAny_loadName_cell hk hl hc hv h) hd

/-- `_law_folded`'s frame -/
abbrev foldEnv (cd : Value) (f L : Addr) : Env := newEnv (sscope (stAt 8)) L mainGlobals (cellsFrom (L + 1) (sscope (stAt 8)).names []) (sname (stAt 8) ++ ".<locals>.") (some f) cd none builtinsNs

theorem item_len (x : Str) (i : Int) : (Txt.item x i).length = 1 := rfl

set_option maxHeartbeats 4000000 in
theorem fold_body (B : Base c P mg mb h₁) {f L : Addr} {cd : Value} {x : Str} {t : Tok} {Q : Flow → Shared → Prop} (a : At c P h₁ s) (hh : A.handled = none) (hx : x.length ≤ 1000) (hcell : s.heap.IsCell (L + 1) (some (.str x t))) (hKP : L + 1 ≠ P)
    (h : ∀ s' t', Mv c P [] s s' → Q (.ret (.str (foldedOf x) t')) s') :
    wpAny (model prog w) A (execs (sbody (stAt 8)) (foldEnv cd f L)) Q E s := by
  refine wpAny_execs_cons ?_
  refine wpAny_Return_some ?_
  refine tk_mono ?_
  refine wpAny_Call_method_lateS rfl rfl rfl ?_
  refine wpAny_Call_method_lateS rfl rfl rfl ?_
  refine wpAny_Constant_str ?_
  refine ⟨"str", "str.join", F.plainAttrs_str, F.slot_str_join, F.type_str_join, typeIs_str _ _ _, (fun a e => nomatch e), ?_⟩
  refine Calls.callWith_builtin rfl (args1 rfl ?_)
  have a1 : At c P h₁ { s with toks := s.toks + 1 } := a.mv (Mv.tk (X := []) (Nat.le_succ _)) (fun _ h => nomatch h)
  have mv1 : Mv c P [] s { s with toks := s.toks + 1 } := Mv.tk (Nat.le_succ _)
  generalize ({ s with toks := s.toks + 1 } : Shared) = s₁ at a1 mv1 ⊢
  have hc1 := cell_of mv1 hcell (by simp) hKP
  refine comp_eval (c := c) (P := P) (cl := [("text", L + 1)]) (p := keepAt x) (φ := fun i => isStr (Txt.item x (i : Nat))) (ψ := fun _ => noList) (fun _ => rfl) rfl rfl (by decide) ?_
  refine range_name B a1 rfl rfl rfl rfl rfl rfl ?_
  refine call_len_name B a1 rfl rfl rfl rfl rfl rfl ?_
  refine name_cell rfl rfl rfl hc1 ?_
  refine SBL.len (by omega) ⟨_, _, rfl, fun r s₂ t u v mv₂ hr => ?_⟩
  have mv2 : Mv c P [] s₁ s₂ := (Mv.tk (by omega)).trans mv₂
  have cellAt : ∀ {s' : Shared}, Mv c P [] s₂ s' → s'.heap.IsCell (L + 1) (some (.str x _)) := fun m => cell_of m (cell_of mv2 hc1 (by simp) hKP) (by simp) hKP
  refine clause_range hr hx hh (mv2.tab a1.tab) mv2 rfl rfl (fun C i t' s₃ m₃ E' hi hm hmk mv₃ hCP hC => ?_) (fun C i t' s₃ m₃ E' hi hp hm hmk mv₃ hCP hC => ?_) ?_
  · -- the test
    have hcell₃ := cellAt mv₃
    refine wpAny_tests_one (tk_mono ?_)
    refine wpAny_isTrue_BoolOp ?_
    refine wpAny_allTrue_Or_cons (wpAny_isTrue_Compare1 ?_)
    refine Subscript_Name (name_cell rfl rfl rfl hcell₃ (name_local rfl rfl hm hmk ?_))
    refine SBL.item (by omega) (by omega) (by omega) fun _ => ?_
    refine wpAny_Constant_str (PyProof.Rows.ne_str (wpAny_truthy_bool ?_))
    cases e1 : (Txt.item x (i : Nat) != Str.ofString "-") with
    | true =>
      simp only [if_true]
      intro htk
      exact ⟨by unfold keepAt; rw [e1]; rfl, Mv.tk htk⟩
    | false =>
      simp only [Bool.false_eq_true, if_false]
      refine wpAny_allTrue_Or_cons (wpAny_isTrue_Compare1 ?_)
      refine name_local rfl rfl hm hmk (wpAny_Constant_int (eq_int (wpAny_truthy_bool ?_)))
      cases e2 : (((i : Nat) : Int) == 0) with
      | true =>
        simp only [if_true]
        intro htk
        exact ⟨by unfold keepAt; rw [e1, e2]; rfl, Mv.tk htk⟩
      | false =>
        simp only [Bool.false_eq_true, if_false]
        have hi0 : i ≠ 0 := by rintro rfl; simp at e2
        refine wpAny_allTrue_Or_cons (wpAny_isTrue_Compare1 ?_)
        refine Subscript_BinOp (name_cell rfl rfl rfl hcell₃ (wpAny_BinOp (name_local rfl rfl hm hmk (wpAny_Constant_int (sub_int ?_)))))
        refine SBL.item (by omega) (by omega) (by omega) fun _ => ?_
        refine wpAny_Constant_str (PyProof.Rows.ne_str (wpAny_truthy_bool ?_))
        cases e3 : (Txt.item x ((i : Nat) - 1) != Str.ofString "-") with
        | true =>
          simp only [if_true]
          intro htk
          exact ⟨by unfold keepAt; rw [e1, e2, e3]; rfl, Mv.tk htk⟩
        | false =>
          simp only [Bool.false_eq_true, if_false]
          refine wpAny_allTrue_Or_nil ?_
          intro htk
          exact ⟨by unfold keepAt; rw [e1, e2, e3]; rfl, Mv.tk htk⟩
  · -- the element
    have hcell₃ := cellAt mv₃
    refine tk_mono ?_
    refine Subscript_Name (name_cell rfl rfl rfl hcell₃ (name_local rfl rfl hm hmk ?_))
    refine SBL.item (by omega) (by omega) (by omega) fun _ htk => ?_
    exact ⟨Mv.tk htk, .inl ⟨_, rfl⟩⟩
  · -- behind it
    intro D s' ys hD hDP mv' hl hF
    have hstr := strs_of hF
    have hw : ((((List.range x.length).filter (keepAt x)).map fun i => Txt.item x (i : Nat)).map (·.length)).sum + (((List.range x.length).filter (keepAt x)).map fun i => Txt.item x (i : Nat)).length ≤ 1048576 := by
      have e1 : ∀ l : List Nat, ((l.map fun i => Txt.item x (i : Nat)).map (·.length)).sum = l.length := by
        intro l
        induction l with
        | nil => rfl
        | cons i r ih => simp only [List.map_cons, List.sum_cons, item_len, ih, List.length_cons]; omega
      rw [e1, List.length_map]
      have e2 := List.length_filter_le (keepAt x) (List.range x.length)
      rw [List.length_range] at e2
      omega
    refine join_listW hl hstr (by decide) hw fun t' k => ?_
    refine ⟨"str", "str.rstrip", F.plainAttrs_str, F.slot_str_rstrip, F.type_str_rstrip, typeIs_str _ _ _, (fun a e => nomatch e), ?_⟩
    refine Calls.callWith_builtin rfl (args1 rfl (wpAny_Constant_str ?_))
    refine SC.rstripChars (fun t'' k' htk => ?_) ?_
    · exact h _ t'' ((mv1.trans mv').retok htk)
    · have e3 := StrLaws.join_length_le (Str.ofString "") (((List.range x.length).filter (keepAt x)).map fun i => Txt.item x (i : Nat))
      rw [show (Str.ofString "").length = 0 from rfl, Nat.mul_zero, Nat.add_zero] at e3
      show (Builtin.Str.glued (Str.ofString "") (((List.range x.length).filter (keepAt x)).map fun i => Txt.item x (i : Nat))).length ≤ sizeLine
      rw [StrLaws.glued_eq_join]
      unfold sizeLine
      omega

theorem fold_call (B : Base c P mg mb h₁) {f : Addr} {cd : Value} {x : Str} {t : Tok} {Q : Value → Shared → Prop} (hf : FnAt h₁ f (stAt 8) cd) (hcd : ∀ b, cd = .ref b → b ≠ P) (hx : x.length ≤ 1000) (a : At c P h₁ s) (hh : A.handled = none)
    (hroom : A.depth + 1 < recursionLimit) (h : ∀ s' t', Mv c P [] s s' → Q (.str (foldedOf x) t') s') :
    wpAny (model prog w) A (call (.ref f) [.str x t]) Q E s := by
  obtain ⟨oc, od, osl, doc, pm, an, ct, ho, hcd⟩ := B.fnAt a hf hcd
  refine wpAny_call (codeAny_call_function (Nat.lt_of_succ_lt hroom) ho rfl rfl rfl rfl hcd ?_)
  have e : bindArgs (fnOf (sname (stAt 8)) (sname (stAt 8)) (sparams (stAt 8)) (sbody (stAt 8)) (sscope (stAt 8)) .none .none doc pm an cd ct) ⟨[.str x t], []⟩ = (pure [(Str.ofString "text", Value.str x t)] : Sem (List (Str × Value))) := rfl
  rw [e]
  refine wpAny_pure (tk_mono (wpAny_newFunctionEnv_cells rfl (kindsX rfl _) fun env he s₁ X htk => ?_))
  subst he
  obtain ⟨h', tk, rfl, hk⟩ := X.done
  have mv₁ : Mv c P [] s { s with heap := h', toks := tk } := Mv.keep hk htk
  have a₁ := a.mv mv₁ (fun _ h => nomatch h)
  refine ⟨B.nlAt a₁, codeAny_func ?_⟩
  have hcell := X.cell (Str.ofString "text") (s.heap.objs.size + 1) rfl
  have hPlt := (tab_lt a.tab).2
  refine fold_body B (f := f) (L := s.heap.objs.size) (cd := cd) (t := t) a₁ hh hx hcell (Nat.ne_of_gt (Nat.lt_succ_of_lt hPlt)) fun s' t' mv => ?_
  exact h s' t' (mv₁.trans mv)

end
end Mine

namespace Mine
variable {c P : Addr} {mg mb : Str → Option Value} {h₁ : Heap}

section
variable {prog : Program} {w : World} {A : Around} {E : Value → Shared → Prop} {s : Shared} {env : Env}

/-- `x, y = (a, b)`, stored from the right -/
theorem assign_pair_swapped {x y : Str} {px py tpos pos : Pos} {k : Nat} {value : Expr} {m : Str → Option Value} {Q : Flow → Shared → Prop}
    (hs : swapsWithSole [.Tuple [.Name x px, .Name y py] k tpos] value pos.line env = pure false) (hw : swappedStores [.Tuple [.Name x px, .Name y py] k tpos] value env = pure (some [x, y]))
    (hk : env.scope.kind = .function) (hx : env.kindOf x = some .local) (hy : env.kindOf y = some .local) (hxy : x ≠ y) (hh : A.handled = none) (hn : s.heap.Ns env.locals m) (hc : c ≠ env.locals) (hP : P ≠ env.locals)
    (h : wpAny (model prog w) A (eval value env) (fun v s₁ => ∃ T a b, v = .ref T ∧ IsTup s₁.heap T #[a, b] ∧ Mv c P [] s s₁ ∧
      ∀ s' m', Mv c P [env.locals] s₁ s' → s'.heap.Ns env.locals m' → m' x = some a → m' y = some b → (∀ q, q ≠ x → q ≠ y → m' q = m q) → Q .next s') E s) :
    wpAny (model prog w) A (exec (.Assign [.Tuple [.Name x px, .Name y py] k tpos] value pos) env) Q E s := by
  refine Assign_Tuple_swapped (wpAny_mono h (fun v s₁ h₁ => ?_) fun _ _ e => e) hs hw
  obtain ⟨T, a, b, rfl, hT, mv, hQ⟩ := h₁
  have hn₁ := ns_of mv hn (by simp) (Ne.symm hP)
  show wpAny (model prog w) A (unpackItems (.ref T) (#[a, b] : Array Value).size none) _ _ s₁
  refine unpackItems_tuple hh hT fun h₂ he₂ => ?_
  have k₂ : ∀ b o, s₁.heap.get? b = some o → h₂.get? b = some o := fun b o e => he₂ b o (Nat.ne_of_lt (Heap.lt_size e)) e
  show wpAny _ _ (assignInOrder [bindName env y, bindName env x] [b, a]) _ _ _
  refine assignInOrder_cons (wpAny_bindName (wpAny_storeName_local hy (hn₁.keeps k₂) (fun h₃ hn₃ hs₃ => ?_) (by rw [hk]; rfl)))
  refine assignInOrder_cons (wpAny_bindName (wpAny_storeName_local hx hn₃ (fun h₄ hn₄ hs₄ => ?_) (by rw [hk]; rfl)))
  refine assignInOrder_nil ?_
  refine hQ _ _ (Mv.off (s := s₁) (tk := s₁.toks + 1 + 1) (fun b o hb e => ?_) (by omega) (by simpa using hc) (by simpa using hP)) hn₄ (if_pos rfl) ?_ ?_
  · have hb' : b ≠ env.locals := fun q => hb (List.mem_singleton.mpr q)
    exact hs₄.extBut b o hb' (hs₃.extBut b o hb' (k₂ b o e))
  · simp [Ne.symm hxy]
  · intro q h1 h2
    simp [h1, h2]

/-- `x, y = v`, `v` a tuple or a list of two -/
theorem assign_pair {x y : Str} {px py tpos pos : Pos} {k : Nat} {value : Expr} {m : Str → Option Value} {Q : Flow → Shared → Prop}
    (hs : swapsWithSole [.Tuple [.Name x px, .Name y py] k tpos] value pos.line env = pure false) (hw : swappedStores [.Tuple [.Name x px, .Name y py] k tpos] value env = pure none)
    (hk : env.scope.kind = .function) (hx : env.kindOf x = some .local) (hy : env.kindOf y = some .local) (hxy : x ≠ y) (hh : A.handled = none) (hn : s.heap.Ns env.locals m) (hc : c ≠ env.locals) (hP : P ≠ env.locals)
    (h : wpAny (model prog w) A (eval value env) (fun v s₁ => ∃ T a b, v = .ref T ∧ IsTup s₁.heap T #[a, b] ∧ Mv c P [] s s₁ ∧
      ∀ s' m', Mv c P [env.locals] s₁ s' → s'.heap.Ns env.locals m' → m' x = some a → m' y = some b → (∀ q, q ≠ x → q ≠ y → m' q = m q) → Q .next s') E s) :
    wpAny (model prog w) A (exec (.Assign [.Tuple [.Name x px, .Name y py] k tpos] value pos) env) Q E s := by
  refine Assign_Tuple (wpAny_mono h (fun v s₁ h₁ => ?_) fun _ _ e => e) hs hw
  obtain ⟨T, a, b, rfl, hT, mv, hQ⟩ := h₁
  have hn₁ := ns_of mv hn (by simp) (Ne.symm hP)
  refine assign_Tuple_tuple hh hT rfl rfl fun h₂ he₂ => ?_
  have k₂ : ∀ b o, s₁.heap.get? b = some o → h₂.get? b = some o := fun b o e => he₂ b o (Nat.ne_of_lt (Heap.lt_size e)) e
  refine assignInOrder_cons (wpAny_assign_Name (wpAny_storeName_local hx (hn₁.keeps k₂) (fun h₃ hn₃ hs₃ => ?_) (by rw [hk]; rfl)))
  refine assignInOrder_cons (wpAny_assign_Name (wpAny_storeName_local hy hn₃ (fun h₄ hn₄ hs₄ => ?_) (by rw [hk]; rfl)))
  refine assignInOrder_nil ?_
  refine hQ _ _ (Mv.off (s := s₁) (tk := s₁.toks + 1 + 1) (fun b o hb e => ?_) (by omega) (by simpa using hc) (by simpa using hP)) hn₄ ?_ (if_pos rfl) ?_
  · have hb' : b ≠ env.locals := fun q => hb (List.mem_singleton.mpr q)
    exact hs₄.extBut b o hb' (hs₃.extBut b o hb' (k₂ b o e))
  · simp [hxy]
  · intro q h1 h2
    simp [h1, h2]

/-- a tuple of two -/
theorem tuple2 {e₁ e₂ : Expr} {k : Nat} {pos : Pos} {Q : Value → Shared → Prop} (he : starEach [e₁, e₂] env = [(false, eval e₁ env), (false, eval e₂ env)])
    (h : wpAny (model prog w) A (eval e₁ env) (fun a s₁ => wpAny (model prog w) A (eval e₂ env) (fun b s₂ => ∀ T h', IsTup h' T #[a, b] → (∀ b o, s₂.heap.get? b = some o → h'.get? b = some o) → s₂.heap.get? T = none → Q (.ref T) { s₂ with heap := h' }) E s₁) E s) :
    wpAny (model prog w) A (eval (.Tuple [e₁, e₂] k pos) env) Q E s := by
  refine wpAny_Tuple ?_
  rw [he]
  refine Calls.spliced_cons (wpAny_mono h (fun a s₁ h₁ => Calls.spliced_cons (wpAny_mono h₁ (fun b s₂ h₂ => Calls.spliced_nil ⟨(by unfold sizeLine; simp), ?_⟩) fun _ _ e => e)) fun _ _ e => e)
  exact h₂ _ _ (IsTup.new ..) (fun _ _ e => Heap.get?_push_of_some _ e) (gone (Nat.le_refl _))
end

section
variable {prog : Program} {w : World} {A : Around} {E : Value → Shared → Prop} {s : Shared} {env : Env}

theorem for_range {x : Str} {px pos : Pos} {iter : Expr} {body : List Stmt} {m : Str → Option Value} {n : Nat} {Q : Flow → Shared → Prop} (J : Nat → (Str → Option Value) → Prop)
    (hs : ∀ x, foldedSetIterable iter env x = pure x) (hh : A.handled = none) (hk : env.scope.kind = .function) (hx : env.kindOf x = some .local) (hc : c ≠ env.locals) (hP : P ≠ env.locals) (hn1 : n ≤ 1000) (htab : TabOk c P s.heap)
    (hn : s.heap.Ns env.locals m) (h0 : J 0 m)
    (h : wpAny (model prog w) A (eval iter env) (fun v s₁ => ∃ r t u w', v = .ref r ∧ IsRange s₁.heap r 0 n 1 t u w' ∧ Mv c P [] s s₁) E s)
    (step : ∀ i t m₁ m₂ s₁ E, i < n → J i m₁ → m₂ x = some (.int (i : Nat) t) → (∀ q, q ≠ x → m₂ q = m₁ q) → s₁.heap.Ns env.locals m₂ → Mv c P [env.locals] s s₁ →
      wpAny (model prog w) A (execs body env) (fun f s₂ => f = .next ∧ Mv c P [env.locals] s₁ s₂ ∧ ∃ m₃, s₂.heap.Ns env.locals m₃ ∧ J (i + 1) m₃) E s₁)
    (hQ : ∀ s' m', Mv c P [env.locals] s s' → s'.heap.Ns env.locals m' → J n m' → Q .next s') :
    wpAny (model prog w) A (exec (.For (.Name x px) iter body [] pos) env) Q E s := by
  refine wpAny_For (wpAny_mono h (fun v s₁ h₁ => ?_) fun _ _ e => e) hs
  obtain ⟨r, t, u, w', rfl, hr, mv₁⟩ := h₁
  have hrs : Builtin.Range.rangeSize 0 n 1 = (n : Int) := by rw [rangeSize_one]; split <;> omega
  refine wpAny_pyIter_range hr (small_one (by decide) (by decide) (by omega) (by omega)) ?_
  rw [hrs]
  have hPlt := (tab_lt (mv₁.tab htab)).2
  have hclt := (tab_lt (mv₁.tab htab)).1
  have hLlt : env.locals < s₁.heap.objs.size := (ns_of mv₁ hn (by simp) (Ne.symm hP)).lt
  generalize hI : s₁.heap.objs.size = I at *
  have hIn : s.heap.get? I = none := none_of mv₁ (gone (Nat.le_of_eq hI)) (by simp) (Nat.ne_of_gt hPlt)
  have mv₂ : Mv c P [] s₁ { s₁ with heap := s₁.heap.push { cls := .type "range_iterator", data := .fields #[rawInt 0, rawInt n, rawInt 1] } } := Mv.keep (s := s₁) (tk := s₁.toks) (fun _ _ e => Heap.get?_push_of_some _ e) (Nat.le_refl _)
  have hIL : I ≠ env.locals := Nat.ne_of_gt hLlt
  have hX : ∀ {s'}, Mv c P [env.locals, I] s s' → Mv c P [env.locals] s s' := fun v => v.dropSome fun b hb => by
    simp only [List.mem_cons, List.not_mem_nil, or_false] at hb
    rcases hb with rfl | rfl
    · exact .inl (List.mem_singleton.mpr rfl)
    · exact .inr hIn
  have hcX : c ∉ [env.locals, I] := mem_cons_off hc (mem_cons_off (Nat.ne_of_lt hclt) (by simp))
  have hPX : P ∉ [env.locals, I] := mem_cons_off hP (mem_cons_off (Nat.ne_of_lt hPlt) (by simp))
  refine codeAny_forLoop (fun k s' => ∃ i m', Mv c P [env.locals, I] s s' ∧ IsRangeIter s'.heap I (i : Nat) ((n : Int) - (i : Nat)) 1 ∧ s'.heap.Ns env.locals m' ∧ J i m' ∧ i ≤ n ∧ k = n + 1 - i) ?_ (n + 1)
    ⟨0, m, (mv₁.trans mv₂).nil, ?_, ns_of (mv₁.trans mv₂) hn (by simp) (Ne.symm hP), h0, Nat.zero_le _, rfl⟩
  · rintro k s' ⟨i, m', mv, hit, hn', hJ, hi, rfl⟩
    by_cases hlt : i < n
    · refine tk_mono (wpAny_pyNext_range_item hit (by omega) fun h₂ hit₂ hs₂ htk => ?_)
      refine wpAny_assign_Name (wpAny_storeName_local hx (hn'.sameBut hs₂ (Ne.symm hIL)) (fun h₃ hn₃ hs₃ => ?_) (by rw [hk]; rfl))
      have mv3 : Mv c P [env.locals, I] s { s' with heap := h₃, toks := s'.toks + 1 + 1 } := mv.trans (Mv.off (s := s') (tk := s'.toks + 1 + 1) (fun b o hb e => hs₃.extBut b o (fun q => hb (by simp [q])) (hs₂.extBut b o (fun q => hb (by simp [q])) e)) (by omega) hcX hPX)
      have hit₃ : IsRangeIter h₃ I ((i + 1 : Nat) : Int) ((n : Int) - (i + 1 : Nat)) 1 := by
        have e1 : ((i + 1 : Nat) : Int) = (i : Int) + 1 := by omega
        have e2 : (n : Int) - ((i + 1 : Nat) : Int) = (n : Int) - (i : Int) - 1 := by omega
        rw [e1]
        rw [show (n : Int) - ((i : Int) + 1) = (n : Int) - (i : Int) - 1 by omega]
        exact hs₃.extBut _ _ hIL hit₂
      refine wpAny_mono (step i _ m' _ _ _ hlt hJ (if_pos rfl) (fun q hq => if_neg hq) hn₃ (hX mv3)) (fun fl s₄ h₄ => ?_) fun _ _ e => e
      obtain ⟨rfl, mv₄, m₃, hn₄, hJ₄⟩ := h₄
      refine ⟨n + 1 - (i + 1), by omega, i + 1, m₃, mv3.trans (mv₄.weaken fun b hb => by rw [List.mem_singleton.mp hb]; exact List.mem_cons_self), ?_, hn₄, hJ₄, hlt, rfl⟩
      exact mv₄.ext I _ (by simpa using hIL) (Nat.ne_of_gt hPlt) hit₃
    · have hin : i = n := by omega
      subst hin
      refine tk_mono (wpAny_pyNext_range_end hh hit (by omega) fun h₂ he₂ htk => wpAny_execs_nil ?_)
      exact hQ _ m' (hX (mv.trans (Mv.off (s := s') (tk := s'.toks) (fun b o hb e => he₂ b o (fun q => hb (by simp [q])) e) (Nat.le_refl _) hcX hPX))) (hn'.extBut he₂ (Ne.symm hIL)) hJ
  · rw [← hI]
    simpa using Heap.get?_push_size s₁.heap (o := { cls := .type "range_iterator", data := .fields #[rawInt 0, rawInt n, rawInt 1] }) rfl
end

/-! `_law_fibonacci` -/
def fibPair : Nat → Int × Int
  | 0 => (1, 1)
  | n + 1 => ((fibPair n).2, (fibPair n).1 + (fibPair n).2)

abbrev fibEnv (cd : Value) (f L : Addr) : Env := envOf (sname (stAt 7)) (sscope (stAt 7)) L f cd

section
variable {prog : Program} {w : World} {A : Around} {E : Value → Shared → Prop} {s : Shared} {f L : Addr} {m : Str → Option Value} {cd : Value}

set_option maxHeartbeats 4000000 in
theorem fib_body (B : Base c P mg mb h₁) {n : Nat} {t : Tok} {Q : Flow → Shared → Prop} (a : At c P h₁ s) (hh : A.handled = none) (hL : h₁.get? L = none) (hc : c ≠ L) (hP : P ≠ L) (hn : s.heap.Ns L m) (hm : m "place" = some (.int ((n : Int) + 1) t)) (hn1 : n ≤ 1000)
    (h : ∀ s' t', Mv c P [L] s s' → Q (.ret (.int (fibPair n).1 t')) s') :
    wpAny (model prog w) A (execs (sbody (stAt 7)) (fibEnv cd f L)) Q E s := by
  have hX : ∀ b ∈ [L], h₁.get? b = none := fun b hb => by rw [List.mem_singleton.mp hb]; exact hL
  refine wpAny_execs_cons ?_
  refine tk_mono ?_
  refine assign_pair (c := c) (P := P) rfl rfl rfl rfl rfl (by decide) hh hn hc hP ?_
  refine tuple2 rfl (wpAny_Constant_int (wpAny_Constant_int fun T h' hT hk hTn => ?_))
  refine ⟨T, _, _, rfl, hT, Mv.keep (s := s) (tk := s.toks + 1 + 1) hk (by omega), fun s₁ m₁ mv₁ hn₁ ho ht hq htk => ?_⟩
  have mv1 : Mv c P [L] s s₁ := (Mv.keep (s := s) (tk := s.toks + 1 + 1) hk (by omega)).trans mv₁
  have a1 := a.mv mv1 hX
  have hm₁ : m₁ "place" = some (.int ((n : Int) + 1) t) := (hq _ (by decide) (by decide)).trans hm
  refine wpAny_execs_cons ?_
  refine for_range (c := c) (P := P) (n := n) (fun i m' => m' "place" = some (.int ((n : Int) + 1) t) ∧ (∃ u, m' "one" = some (.int (fibPair i).1 u)) ∧ ∃ u, m' "two" = some (.int (fibPair i).2 u)) (fun _ => rfl) hh rfl rfl hc hP hn1 a1.tab hn₁ ⟨hm₁, ⟨_, ho⟩, _, ht⟩ ?_ ?_ ?_
  · refine range_name B a1 rfl rfl rfl rfl rfl rfl ?_
    refine wpAny_BinOp (name_local rfl rfl hn₁ hm₁ (wpAny_Constant_int (sub_int ?_)))
    refine ⟨_, _, rfl, fun r s₂ t u v mv₂ hr => ?_⟩
    rw [show (n : Int) + 1 - 1 = (n : Int) by omega] at hr
    exact ⟨r, t, u, v, rfl, hr, (Mv.tk (s := s₁) (tk := s₁.toks + 1 + 1) (by omega)).trans mv₂⟩
  · rintro i t' m₂ m₃ s₂ E' hi ⟨hp, ⟨u1, h1⟩, u2, h2⟩ _ hother hn₂ mv₂
    refine wpAny_execs_cons ?_
    refine assign_pair_swapped (c := c) (P := P) rfl rfl rfl rfl rfl (by decide) hh hn₂ hc hP ?_
    have h1' := (hother (Str.ofString "one") (by decide)).trans h1
    have h2' := (hother (Str.ofString "two") (by decide)).trans h2
    refine tuple2 rfl (name_local rfl rfl hn₂ h2' ?_)
    refine wpAny_BinOp (name_local rfl rfl hn₂ h1' (name_local rfl rfl hn₂ h2' (add_int fun T h' hT hk hTn => ?_)))
    refine ⟨T, _, _, rfl, hT, Mv.keep (s := s₂) (tk := s₂.toks + 1) hk (by omega), fun s₃ m₄ mv₃ hn₃ ho ht hq => ?_⟩
    refine wpAny_execs_nil ⟨rfl, (Mv.keep (s := s₂) (tk := s₂.toks + 1) hk (by omega)).trans mv₃, m₄, hn₃, ?_, ⟨_, ho⟩, _, ht⟩
    exact ((hq _ (by decide) (by decide)).trans (hother _ (by decide))).trans hp
  · rintro s₂ m₂ mv₂ hn₂ ⟨_, ⟨u, h1⟩, _⟩
    refine wpAny_execs_cons (wpAny_Return_some (name_local rfl rfl hn₂ h1 ?_))
    exact h _ u (mv1.trans mv₂)

theorem fib_call (B : Base c P mg mb h₁) {f : Addr} {cd : Value} {n : Nat} {t : Tok} {Q : Value → Shared → Prop} (hf : FnAt h₁ f (stAt 7) cd) (hcd : ∀ b, cd = .ref b → b ≠ P) (hn1 : n ≤ 1000) (a : At c P h₁ s) (hlow : h₁.objs.size ≤ s.heap.objs.size) (hh : A.handled = none)
    (hroom : A.depth + 1 < recursionLimit) (h : ∀ s' t', Mv c P [] s s' → Q (.int (fibPair n).1 t') s') :
    wpAny (model prog w) A (call (.ref f) [.int ((n : Int) + 1) t]) Q E s := by
  obtain ⟨oc, od, osl, doc, pm, an, ct, ho, hcd⟩ := B.fnAt a hf hcd
  refine wpAny_call (codeAny_call_def (Nat.lt_of_succ_lt hroom) ho rfl (B.nlAt a) hcd rfl (BindsTo.of_eq rfl) (show ∀ x ∈ (sscope (stAt 7)).names, x.2 ≠ .cell by decide) (locs rfl) (fun h₂ hns k₂ => ?_) rfl rfl rfl)
  have mv₂ : Mv c P [] s { s with heap := h₂, toks := s.toks + 1 } := Mv.keep k₂ (Nat.le_succ _)
  have a₂ := a.mv mv₂ (fun _ h => nomatch h)
  obtain ⟨hclt, hPlt⟩ := tab_lt a.tab
  refine fib_body B (f := f) (L := s.heap.objs.size) (cd := cd) a₂ hh (gone hlow) (Nat.ne_of_lt hclt) (Nat.ne_of_lt hPlt) hns rfl hn1 fun s' t' mv => ?_
  exact h s' t' (mv₂.dropFrom mv fun b hb => by rw [List.mem_singleton.mp hb]; exact gone (Nat.le_refl _))
end
end Mine

namespace Mine
variable {c P : Addr} {mg mb : Str → Option Value} {h₁ : Heap}

/-! a set of texts -/
def addNew (l : List Str) (x : Str) : List Str := if x ∈ l then l else l ++ [x]
def uniq (l : List Str) : List Str := l.foldl addNew []

theorem uniq_snoc (l : List Str) (x : Str) : uniq (l ++ [x]) = addNew (uniq l) x := by simp [uniq, List.foldl_append]
theorem addNew_len (l : List Str) (x : Str) : (addNew l x).length ≤ l.length + 1 := by unfold addNew; split <;> simp
theorem foldl_len : ∀ (xs l : List Str), (xs.foldl addNew l).length ≤ l.length + xs.length
  | [], l => by simp
  | x :: r, l => by
    have h1 := foldl_len r (addNew l x)
    have h2 := addNew_len l x
    simp only [List.foldl_cons, List.length_cons]
    omega
theorem uniq_len (l : List Str) : (uniq l).length ≤ l.length := by
  have := foldl_len l []
  unfold uniq
  simpa using this

section
variable {prog : Program} {w : World} {A : Around} {E : Value → Shared → Prop} {R : Result → Shared → Prop} {s : Shared}

/-- `S` is the set of the texts `l` -/
abbrev SetIs (prog : Program) (w : World) (h : Heap) (S : Addr) (l : List Str) : Prop := h.SetOf (strKind prog w) S (fun k => decide (k ∈ uniq l)) (uniq l).length

theorem SetIs.snoc {h : Heap} {S : Addr} {l : List Str} {x : Str} (hS : h.SetOf (strKind prog w) S (fun k => decide (k ∈ uniq l) || decide (k = x)) (if decide (x ∈ uniq l) = true then (uniq l).length else (uniq l).length + 1)) : SetIs prog w h S (l ++ [x]) := by
  refine SetOf_congr hS (fun k => ?_) ?_
  · rw [uniq_snoc]
    unfold addNew
    by_cases hx : x ∈ uniq l
    · simp only [hx, if_true]
      by_cases hk : k = x
      · subst hk; simp [hx]
      · simp [hk]
    · simp only [hx, if_false, List.mem_append, List.mem_singleton]
      simp
  · rw [uniq_snoc]
    unfold addNew
    by_cases hx : x ∈ uniq l <;> simp [hx]

theorem set_loop {I S : Addr} {fp wr : List Addr} {n : Nat} {Pv : Nat → Value → Prop} {St : Nat → Heap → Prop} (W : Walks prog w A.in1 I fp wr n Pv St) (ts : List Str) (hts : ts.length = n) (hv : ∀ i v, Pv i v → ∃ t, v = .str (ts.getD i "") t) (hSf : S ∉ fp) (hn : n ≤ 1000) :
    ∀ (k i : Nat) (s : Shared), n - i = k → i ≤ n → St i s.heap → SetIs prog w s.heap S (ts.take i) →
      (∀ h' tk, (∀ b o, b ∉ S :: wr → s.heap.get? b = some o → h'.get? b = some o) → SetIs prog w h' S ts → R (.ok (.ret .none)) { s with heap := h', toks := tk }) →
      codeAny (model prog w) A (.builtin "set.update.loop" ⟨[.ref S, .ref I], []⟩) R s := by
  have hSw : S ∉ wr := fun h => hSf (W.sub _ h)
  intro k
  induction k with
  | zero =>
    intro i s hk hi hst hS hR
    obtain rfl : i = n := by omega
    refine codeAny_builtin F.entry_set_update_loop ?_
    rw [Around.under_plainId F.plain_set_update_loop _]
    show wpAny _ A.in1 (pyNext (.ref I) >>= _) _ _ s
    refine wpAny_bind (W.done s _ _ hst fun h' tk hk' => ?_)
    refine wpAny_pure (hR h' tk (fun b o hb e => hk' b o (fun hm => hb (List.mem_cons_of_mem _ hm)) e) ?_)
    rw [← hts, List.take_length] at hS
    obtain ⟨o, es, ep, t, ho, rest⟩ := hS
    exact ⟨o, es, ep, t, hk' S o hSw ho, rest⟩
  | succ k ih =>
    intro i s hk hi hst hS hR
    have hlt : i < n := by omega
    refine codeAny_builtin F.entry_set_update_loop ?_
    rw [Around.under_plainId F.plain_set_update_loop _]
    show wpAny _ A.in1 (pyNext (.ref I) >>= _) _ _ s
    refine wpAny_bind (W.item i s _ _ hlt hst fun v h' tk hP hst' hk' => ?_)
    obtain ⟨t, rfl⟩ := hv i v hP
    have hS' : SetIs prog w h' S (ts.take i) := by
      obtain ⟨o, es, ep, tb, ho, rest⟩ := hS
      exact ⟨o, es, ep, tb, hk' S o hSw ho, rest⟩
    show wpAny _ A.in1 (holding [Value.str (ts.getD i "") t] (setAdd S (.str (ts.getD i "") t)) >>= _) _ _ _
    refine wpAny_bind (wpAny_holding ?_)
    unfold setAdd
    refine wpAny_holding (wpAny_bind ((strKind prog w).pyHash (k := ts.getD i "") (strKind_is prog w _ _) ?_))
    have hroom : (uniq (ts.take i)).length + 1 < scanBound := by
      have h1 := uniq_len (ts.take i)
      have h2 : (ts.take i).length ≤ i := List.length_take_le ..
      unfold scanBound
      omega
    refine wpAny_setAddHashed_of (knd := strKind prog w) (strKind_is prog w _ _) rfl hS' hroom fun h₂ hs₂ hS₂ => ?_
    have hi' : ts.take i ++ [ts.getD i ""] = ts.take (i + 1) := by
      have : i < ts.length := by omega
      rw [List.take_add_one, List.getElem?_eq_getElem this]
      simp [List.getD_eq_getElem?_getD, this]
    refine wpAny_pure ⟨plainId_quiet F.plain_set_update_loop _, ih (i + 1) _ (by omega) hlt (W.frame _ _ _ hst' fun b hb o e => hs₂.extBut b o (fun q => hSf (q ▸ hb)) e) (hi' ▸ SetIs.snoc hS₂) fun h₃ tk₃ hk₃ hS₃ => ?_⟩
    exact hR h₃ tk₃ (fun b o hb e => hk₃ b o hb (hs₂.extBut b o (fun q => hb (q ▸ List.mem_cons_self)) (hk' b o (fun hm => hb (List.mem_cons_of_mem _ hm)) e))) hS₃

theorem strs_at : ∀ {vs : List Value} {ts : List Str}, StrsAre vs ts → ∀ (i : Nat) (v : Value), vs[i]? = some v → ∃ t, v = .str (ts.getD i "") t
  | _, _, .nil, i, v, h => by simp at h
  | _, _, .cons y t r, 0, v, h => by simp at h; exact ⟨t, by rw [← h]; rfl⟩
  | _, _, .cons y t r, i + 1, v, h => by
    obtain ⟨u, e⟩ := strs_at r i v (by simpa using h)
    exact ⟨u, by rw [e]; rfl⟩

/-- what a set's making leaves -/
abbrev SetMade (prog : Program) (w : World) (s : Shared) (ts : List Str) (s' : Shared) : Prop :=
  ∃ h' tk, s' = { s with heap := h', toks := tk } ∧ SetIs prog w h' s.heap.objs.size ts ∧ ∀ b o, s.heap.get? b = some o → h'.get? b = some o

theorem set_init {l : Addr} {items : Array Value} {ts : List Str} {led : Bool} (hh : A.handled = none) (hl : s.heap.IsList l items) (hi : StrsAre items.toList ts) (hn : items.size ≤ 1000) :
    codeAny (model prog w) A (.call (.builtin "set.__init__") ⟨[.ref s.heap.objs.size, .ref l], []⟩) (wants (fun r s₂ => r = .none ∧ SetMade prog w s ts s₂) E)
      { s with heap := s.heap.push { cls := .type "set", dict := none, data := .set #[] 0 (.fresh 0 0 led) } } := by
  have hS : (s.heap.push { cls := .type "set", dict := none, data := .set #[] 0 (.fresh 0 0 led) }).get? s.heap.objs.size = some { cls := .type "set", dict := none, data := .set #[] 0 (.fresh 0 0 led) } := Heap.get?_push_size _ rfl
  refine codeAny_call_builtin F.called_set.init.plain F.entry_set_init (check_set_init_1 ⟨_, hS, rfl⟩ ?_)
  have hl1 := hl.push { cls := .type "set", dict := none, data := .set #[] 0 (.fresh 0 0 led) }
  have hlt : l < s.heap.objs.size := by obtain ⟨o, e, _⟩ := hl; exact Heap.lt_size e
  have hz : (s.heap.push { cls := .type "set", dict := none, data := .set #[] 0 (.fresh 0 0 led) }).objs.size = s.heap.objs.size + 1 := Heap.size_push ..
  obtain ⟨⟨ocls, odict, odata, oslots⟩, hol, hcl, nl, hdl⟩ := id hl1
  simp only at hcl hdl
  subst hcl hdl
  have hsls := F.sub_list_set
  have hslf := F.sub_list_frozenset
  have hne : (Value.type "list" == Value.type "dict") = false := by decide
  unfold Builtin.«set.__init__» noKeywords Builtin.Frozenset.updateFrom
  generalize hPI : pyIter = PI
  wp_walk
  subst hPI
  refine wpAny_pyIter_list hl1 ?_
  refine wpAny_bind (wpAny_runValue ?_)
  have hcnt : ts.length = items.size := by have := hi.length; simpa using this.symm
  have W : Walks prog w A.in1.in1 (s.heap.push { cls := .type "set", dict := none, data := .set #[] 0 (.fresh 0 0 led) }).objs.size _ _ items.size _ _ :=
    Walks.list (by simpa using hh) _ l (by rw [hz]; exact Nat.ne_of_lt (Nat.lt_succ_of_lt hlt)) items
  refine set_loop W ts hcnt (fun i v hv => strs_at hi i v (by rw [Array.getElem?_toList]; exact hv)) ?_ hn (items.size - 0) 0 _ rfl (Nat.zero_le _) ?_ ?_ ?_
  · rw [hz]
    exact mem_cons_off (Nat.ne_of_lt (Nat.lt_succ_self _)) (mem_cons_off (Nat.ne_of_gt hlt) (by simp))
  · exact ⟨⟨_, Heap.get?_push_size _ rfl, rfl, rfl⟩, hl1.push _⟩
  · exact SetOf_congr ((setObjOf_fresh (knd := strKind prog w) led).setOf (Heap.get?_push_of_some _ hS) (by unfold scanBound; omega)) (fun _ => rfl) rfl
  · intro h' tk hk hS'
    refine wpAny_pure (wpAny_pure ⟨rfl, h', tk, rfl, hS', fun b o e => hk b o ?_ (Heap.get?_push_of_some _ (Heap.get?_push_of_some _ e))⟩)
    have hb := Heap.lt_size e
    rw [hz]
    exact mem_cons_off (Nat.ne_of_lt hb) (mem_cons_off (Nat.ne_of_lt (Nat.lt_succ_of_lt hb)) (by simp))

theorem call_set {l : Addr} {items : Array Value} {ts : List Str} {Q : Value → Shared → Prop} (hh : A.handled = none) (hl : s.heap.IsList l items) (hi : StrsAre items.toList ts) (hn : items.size ≤ 1000)
    (h : ∀ s', SetMade prog w s ts s' → Q (.ref s.heap.objs.size) s') : wpAny (model prog w) A (call (.type "set") [.ref l]) Q E s := by
  obtain ⟨c, tl, hmro⟩ := F.called_set.mro
  have hmade := F.called_set.made
  have hsub := F.called_set.sub
  refine wpAny_call (codeAny_of_tree ?_)
  show wpAny _ _ (callAny (.type "set") _) _ _ _
  refine wpAny_pure ⟨Code.quiet_builtin _ (by decide +kernel), codeAny_builtin F.entry_type_call ?_⟩
  rw [Around.under_plain (weight_type_call_type "set" [.ref l] []) rfl]
  have h1 := F.called_set.notType
  have h2 := F.called_set.canCreate
  have hct := F.typeCall_set_1 (.ref l)
  repeat (any_goals (first | assumption | wp_step))
  refine codeAny_mono (code_set_new_1 (.ref l) (E := E) (Q₁ := fun obj s₁ => ∃ led : Bool, obj = .ref s.heap.objs.size ∧ s₁ = { s with heap := s.heap.push { cls := .type "set", dict := none, data := .set #[] 0 (.fresh 0 0 led) } }) fun led => ⟨led, rfl, rfl⟩) fun r s₁ hr => ?_
  cases r with
  | error e => exact hr
  | ok fl =>
    cases fl with
    | ret obj =>
      obtain ⟨led, rfl, rfl⟩ := hr
      have hT : Shared.TypeIs { s with heap := s.heap.push { cls := .type "set", dict := none, data := .set #[] 0 (.fresh 0 0 led) } } (.ref s.heap.objs.size) "set" := ⟨_, Heap.get?_push_size _ rfl, rfl⟩
      have hli := F.called_set.init.lookup
      have hbi := F.called_set.init.bind (.ref s.heap.objs.size)
      repeat (any_goals (first | assumption | wp_step))
      refine codeAny_mono (set_init (E := E) (by simpa using hh) hl hi hn) fun r₂ s₂ hr₂ => ?_
      cases r₂ with
      | error e => exact hr₂
      | ok fl₂ =>
        cases fl₂ with
        | ret r =>
          obtain ⟨rfl, hM⟩ := hr₂
          repeat (any_goals (first | assumption | wp_step))
          exact h _ hM
        | _ => exact hr₂.elim
    | _ => exact hr.elim

/-- `len(set(l))` -/
theorem len_set_name {env : Env} {pl ps pos1 pos2 : Pos} {e : Expr} {Q : Value → Shared → Prop} (B : Base c P mg mb h₁) (a : At c P h₁ s) (hh : A.handled = none) (hk : env.scope.kind = .function) (hx : env.kindOf "len" = some .globalImplicit) (hx2 : env.kindOf "set" = some .globalImplicit) (hg : env.globals = mainGlobals) (hb : env.builtins = builtinsNs)
    (he : starEach [e] env = [(false, eval e env)]) (he2 : starEach [Expr.Call (.Name "set" ps) [e] [] pos2] env = [(false, eval (.Call (.Name "set" ps) [e] [] pos2) env)])
    (h : wpAny (model prog w) A (eval e env) (fun v s₁ => ∃ l items ts, v = .ref l ∧ s₁.heap.IsList l items ∧ StrsAre items.toList ts ∧ items.size ≤ 1000 ∧ ∀ s₂ t, Mv c P [] s₁ s₂ → Q (.int (uniq ts).length t) s₂) E s) :
    wpAny (model prog w) A (eval (.Call (.Name "len" pl) [.Call (.Name "set" ps) [e] [] pos2] [] pos1) env) Q E s := by
  refine call_len_name B a rfl hk hx hg hb he2 ?_
  refine wpAny_Call_Name_kw ?_
  refine Calls.Name_function_global hk hx2 (Calls.loadGlobal_builtin (by rw [hg]; exact B.gAt a) B.set.1 (by rw [hb]; exact B.bAt a) B.set.2 ?_)
  refine PySem.callWith_type (by rw [he]; rfl) (args1 he (wpAny_mono h (fun v s₁ h₁ => ?_) fun _ _ e => e))
  obtain ⟨l, items, ts, rfl, hl, hi, hn, hQ⟩ := h₁
  refine tk_mono (call_set hh hl hi hn ?_)
  rintro s₂ ⟨h', tk, rfl, hS, hk'⟩ htk
  obtain ⟨o, es, ep, t, ho, hex, hd, _, _, hb', hf, hsz⟩ := hS
  refine call_len_set ho hex hd hf (by unfold scanBound at hb'; omega) ?_
  rw [hsz]
  exact hQ _ _ (Mv.keep hk' (Nat.le_trans htk (by dsimp only; omega)))
end
end Mine

namespace Mine
variable {c P : Addr} {mg mb : Str → Option Value} {h₁ : Heap}

/-! lists of texts compared -/
theorem strs_canLay : ∀ l : List Str, (∀ x ∈ l, PyData.strOk x = true) → PyData.canLayAll0 (l.map PyData.str) = true
  | [], _ => rfl
  | x :: r, h => by simp [PyData.canLayAll0, PyData.canLay0, strs_canLay r fun y hy => h y (List.mem_cons_of_mem _ hy), h x List.mem_cons_self]
theorem strs_depth : ∀ l : List Str, PyData.depthAll (l.map PyData.str) = 0
  | [] => rfl
  | _ :: r => by simp [PyData.depthAll, PyData.depth, strs_depth r]
theorem strs_shaped (l : List Str) (h : ∀ x ∈ l, PyData.strOk x = true) : SeqAt.shaped (.list (l.map PyData.str)) = true := by simp [SeqAt.shaped, PyData.canLay0, PyData.depth, strs_canLay l h, strs_depth]
theorem strs_sameAll : ∀ l k : List Str, PySem.Spec.sameAll (l.map PyData.str) (k.map PyData.str) = decide (l = k)
  | [], [] => by simp [PySem.Spec.sameAll]
  | [], _ :: _ => by simp [PySem.Spec.sameAll]
  | _ :: _, [] => by simp [PySem.Spec.sameAll]
  | a :: r, b :: t => by
    simp only [List.map_cons, PySem.Spec.sameAll, PySem.Spec.same, strs_sameAll r t]
    by_cases h : a = b <;> by_cases h' : r = t <;> simp [h, h']
theorem strs_noMix : ∀ l k : List Str, SeqAt.noMixAll (l.map PyData.str) (k.map PyData.str) = true
  | [], [] => by simp [SeqAt.noMixAll]
  | [], _ :: _ => by simp [SeqAt.noMixAll]
  | _ :: _, [] => by simp [SeqAt.noMixAll]
  | _ :: r, _ :: q => by simp [SeqAt.noMixAll, SeqAt.noMix, strs_noMix r q]

section
variable {prog : Program} {w : World} {A : Around} {E : Value → Shared → Prop} {s : Shared} {a b : Addr} {xs ys : Array Value} {l k : List Str} {Q : Value → Shared → Prop}

theorem eq_strs (ha : s.heap.IsList a xs) (hb : s.heap.IsList b ys) (hi : StrsAre xs.toList l) (hj : StrsAre ys.toList k) (hok : ∀ x ∈ l, PyData.strOk x = true) (hlk : l = k) (hu : A.units + 64 < cLine) (h : Q (.bool true) s) :
    wpAny (model prog w) A (compareOp .Eq (.ref a) (.ref b)) Q E s :=
  eq_dataH_same (reads_newData (ys := xs.toList) ha hi.carried) (reads_newData (ys := ys.toList) hb hj.carried) (strs_shaped _ hok) (strs_shaped _ (hlk ▸ hok)) hu (by simp only [SeqAt.noMix]; exact strs_noMix l k) (by simp only [PySem.Spec.same]; rw [strs_sameAll, decide_eq_true hlk]; exact h)
theorem ne_strs (ha : s.heap.IsList a xs) (hb : s.heap.IsList b ys) (hi : StrsAre xs.toList l) (hj : StrsAre ys.toList k) (hok : ∀ x ∈ l, PyData.strOk x = true) (hlk : l = k) (hu : A.units + 64 < cLine) (h : Q (.bool false) s) :
    wpAny (model prog w) A (compareOp .NotEq (.ref a) (.ref b)) Q E s :=
  ne_dataH_same (reads_newData (ys := xs.toList) ha hi.carried) (reads_newData (ys := ys.toList) hb hj.carried) (strs_shaped _ hok) (strs_shaped _ (hlk ▸ hok)) hu (by simp only [SeqAt.noMix]; exact strs_noMix l k) (by simp only [PySem.Spec.same]; rw [strs_sameAll, decide_eq_true hlk]; exact h)

theorem strs_append : ∀ {vs ws : List Value} {l k : List Str}, StrsAre vs l → StrsAre ws k → StrsAre (vs ++ ws) (l ++ k)
  | _, _, _, _, .nil, h => h
  | _, _, _, _, .cons y t r, h => .cons y t (strs_append r h)

/-- two lists joined -/
theorem add_lists' (ha : s.heap.IsList a xs) (hb : s.heap.IsList b ys) (hsz : xs.size + ys.size ≤ 1000)
    (h : ∀ D s', s.heap.get? D = none → Mv c P [] s s' → s'.heap.IsList D (xs ++ ys) → Q (.ref D) s') : wpAny (model prog w) A (binaryOp .Add (.ref a) (.ref b)) Q E s := by
  obtain ⟨⟨cls, dd, data, sl⟩, ho, hc, n, hd⟩ := id ha
  obtain ⟨⟨cls2, dd2, data2, sl2⟩, ho2, hc2, n2, hd2⟩ := id hb
  simp only at hc hd hc2 hd2
  subst hc hd hc2 hd2
  refine concat_meets ⟨_, ho, rfl⟩ ⟨_, ho2, rfl⟩ noFill_list_add seq_list_add PySem.F.slot_list_add PySem.F.entry_list_add (PySem.F.args_list_add_2 _ _) (list_addW a b xs ys n n2 dd dd2 sl sl2 (by unfold sizeLine; omega)) ⟨ho, ho2, ?_⟩
  exact h _ _ (gone (Nat.le_refl _)) (Mv.push (s := s) (tk := s.toks) _ (Nat.le_refl _)) ⟨_, Heap.get?_push_size _ rfl, rfl, _, rfl⟩

/-- an item of a list -/
theorem item_at {x : Value} {i : Int} {u : Tok} (ha : s.heap.IsList a xs) (h0 : 0 ≤ i) (hi : i < 1000) (hx : xs[i.toNat]? = some x) (h : Q x s) : ItemOn (model prog w) A E (.ref a) (.int i u) Q s :=
  ⟨"list", _, slot_list_getitem.lookup, ha.typeIs, wpAny_getItem_list ha h0 (by omega) hx h⟩

/-- a list written out, of one or two -/
theorem list1 {env : Env} {e : Expr} {pos : Pos} (he : starEach [e] env = [(false, eval e env)])
    (h : wpAny (model prog w) A (eval e env) (fun x s₁ => ∀ D h', s₁.heap.get? D = none → h'.get? D = some { cls := .type "list", data := .seq #[x] } → (∀ b o, s₁.heap.get? b = some o → h'.get? b = some o) → Q (.ref D) { s₁ with heap := h' }) E s) :
    wpAny (model prog w) A (eval (.List [e] pos) env) Q E s := by
  refine wpAny_List ?_
  rw [he]
  refine Calls.spliced_cons (wpAny_mono h (fun x s₁ h₁ => Calls.spliced_nil ⟨(by unfold sizeLine; simp), ?_⟩) fun _ _ e => e)
  exact h₁ _ _ (gone (Nat.le_refl _)) (Heap.get?_push_size _ rfl) fun _ _ e => Heap.get?_push_of_some _ e
theorem list2 {env : Env} {e₁ e₂ : Expr} {pos : Pos} (he : starEach [e₁, e₂] env = [(false, eval e₁ env), (false, eval e₂ env)])
    (h : wpAny (model prog w) A (eval e₁ env) (fun x s₁ => wpAny (model prog w) A (eval e₂ env) (fun y s₂ => ∀ D h', s₂.heap.get? D = none → h'.get? D = some { cls := .type "list", data := .seq #[x, y] } → (∀ b o, s₂.heap.get? b = some o → h'.get? b = some o) → Q (.ref D) { s₂ with heap := h' }) E s₁) E s) :
    wpAny (model prog w) A (eval (.List [e₁, e₂] pos) env) Q E s := by
  refine wpAny_List ?_
  rw [he]
  refine Calls.spliced_cons (wpAny_mono h (fun x s₁ h₁ => Calls.spliced_cons (wpAny_mono h₁ (fun y s₂ h₂ => Calls.spliced_nil ⟨(by unfold sizeLine; simp), ?_⟩) fun _ _ e => e)) fun _ _ e => e)
  exact h₂ _ _ (gone (Nat.le_refl _)) (Heap.get?_push_size _ rfl) fun _ _ e => Heap.get?_push_of_some _ e

/-- `[x] * k` -/
theorem mul_one {x : Value} {j : Int} {u : Tok} (ha : s.heap.get? a = some { cls := .type "list", data := .seq #[x] }) (h0 : 0 ≤ j) (hj : j ≤ 1000)
    (h : ∀ D s', s.heap.get? D = none → Mv c P [] s s' → s'.heap.IsList D (List.replicate j.toNat x).toArray → Q (.ref D) s') : wpAny (model prog w) A (binaryOp .Mult (.ref a) (.int j u)) Q E s := by
  refine wpAny_binaryOp_repeat_ref (T := "list") (U := "int") (by decide) ⟨_, ha, rfl⟩ (fun s' => typeIs_int s' j u) noFill_list_mul F.fills_int_mul F.slot_int_rmul repeat_list F.slot_int_index.lookup
    (call_meets F.slot_int_rmul (typeIs_int s j u) F.entry_int_rmul (F.args_int_rmul_2 _ _) (int___rmul___int_list j u a #[x] 0)
      ⟨ha, rfl, ⟨_, ha, rfl⟩, call_meets F.slot_list_mul ⟨_, ha, rfl⟩ F.entry_list_mul (F.args_list_mul_2 _ _)
        (AutoListH.list___mul___list_int_3 a #[x] 0 j u (by simp [Builtin.List.listFitsIndex]; omega) (by simp; omega) (by simp [Builtin.List.listTooLong, sizeLine]; omega)) ⟨ha, ?_⟩⟩)
  have e : ∀ k : Nat, List.foldl (fun x1 x2 => x1 ++ x2) #[] (List.replicate k (#[x] : Array Value)) = (List.replicate k x).toArray := by
    have g : ∀ (k : Nat) (acc : Array Value), List.foldl (fun x1 x2 => x1 ++ x2) acc (List.replicate k (#[x] : Array Value)) = acc ++ (List.replicate k x).toArray := by
      intro k
      induction k with
      | zero => intro acc; simp
      | succ k ih =>
        intro acc
        rw [List.replicate_succ, List.foldl_cons, ih, List.replicate_succ]
        apply Array.ext'
        simp
    intro k
    rw [g]; simp
  show Q (.ref s.heap.objs.size) { s with heap := s.heap.push { cls := .type "list", data := .seq (List.foldl (fun x1 x2 => x1 ++ x2) #[] (List.replicate j.toNat #[x])) } }
  rw [e]
  exact h _ _ (gone (Nat.le_refl _)) (Mv.push (s := s) (tk := s.toks) _ (Nat.le_refl _)) ⟨_, Heap.get?_push_size _ rfl, rfl, _, rfl⟩
end
end Mine

namespace Mine
variable {c P : Addr} {mg mb : Str → Option Value} {h₁ : Heap}

/-! the law's frame -/
structure Fr (c P : Addr) (h₁ : Heap) (s : Shared) : Prop where
  toAt : At c P h₁ s
  live : ∃ m, s.heap.Ns h₁.objs.size m

/-- the program's own functions -/
structure Fns (c P : Addr) (mg : Str → Option Value) (h₁ : Heap) : Prop where
  cP : c ≠ P
  plat : ∃ f, mg "_platform" = some (.ref f) ∧ FnAt h₁ f (stAt 1) (.ref c)
  parse : ∃ f cd, mg "parse257" = some (.ref f) ∧ FnAt h₁ f (stAt 5) cd ∧ ∀ b, cd = .ref b → b ≠ P
  fib : ∃ f cd, mg "_law_fibonacci" = some (.ref f) ∧ FnAt h₁ f (stAt 7) cd ∧ ∀ b, cd = .ref b → b ≠ P
  fold : ∃ f cd, mg "_law_folded" = some (.ref f) ∧ FnAt h₁ f (stAt 8) cd ∧ ∀ b, cd = .ref b → b ≠ P

theorem Base.Plt (B : Base c P mg mb h₁) : P < h₁.objs.size := Heap.lt_size B.tab.2
theorem Base.clt (B : Base c P mg mb h₁) : c < h₁.objs.size := by
  obtain ⟨⟨_, _, e, _⟩, _⟩ := B.tab
  exact Heap.lt_size e
theorem Fr.mv {s s' : Shared} (B : Base c P mg mb h₁) (F : Fr c P h₁ s) (v : Mv c P [] s s') : Fr c P h₁ s' :=
  ⟨F.toAt.mv v (fun _ h => nomatch h), let ⟨m, hm⟩ := F.live; ⟨m, ns_of v hm (by simp) (Nat.ne_of_gt B.Plt)⟩⟩
theorem Fr.low {s : Shared} (F : Fr c P h₁ s) : h₁.objs.size ≤ s.heap.objs.size := by
  obtain ⟨m, hm⟩ := F.live
  exact Nat.le_of_lt hm.lt

/-- a list of texts -/
def StrL (P : Addr) (h : Heap) (D : Addr) (l : List Str) : Prop := D ≠ P ∧ ∃ ys : Array Value, h.IsList D ys ∧ StrsAre ys.toList l
theorem StrL.mv {X : List Addr} {s s' : Shared} {D : Addr} {l : List Str} (h : StrL P s.heap D l) (v : Mv c P X s s') (hD : D ∉ X) : StrL P s'.heap D l :=
  let ⟨h1, ys, h2, h3⟩ := h; ⟨h1, ys, list_of v h2 hD h1, h3⟩
theorem StrL.nil {s s' : Shared} {D : Addr} {l : List Str} (h : StrL P s.heap D l) (v : Mv c P [] s s') : StrL P s'.heap D l := h.mv v (by simp)

theorem range_all (n : Nat) : (List.range n).filter (fun _ => true) = List.range n := by simp
theorem map_getD (l : List Str) (g : Str → Str) : (List.range l.length).map (fun i => g (l.getD i "")) = l.map g := by
  apply List.ext_getElem
  · simp
  · intro i h1 h2
    simp at h1 h2 ⊢
    rw [List.getElem?_eq_getElem h1]; rfl

section
variable {prog : Program} {w : World} {A : Around} {E : Value → Shared → Prop} {s : Shared} {env : Env}

/-- a call of an own function of one argument -/
theorem call_own1 {id : Str} {p pos : Pos} {e : Expr} {f : Addr} {st : Stmt} {cd : Value} {Q : Value → Shared → Prop} (B : Base c P mg mb h₁) (a : At c P h₁ s) (hmg : mg id = some (.ref f)) (hf : FnAt h₁ f st cd)
    (hk : env.scope.kind = .function) (hx : env.kindOf id = some .globalImplicit) (hg : env.globals = mainGlobals) (he : starEach [e] env = [(false, eval e env)]) (hd : (id == ("__debug__" : Str)) = false)
    (h : wpAny (model prog w) A (eval e env) (fun v s₁ => At c P h₁ s₁ ∧ wpAny (model prog w) A (call (.ref f) [v]) Q E s₁) E s) :
    wpAny (model prog w) A (eval (.Call (.Name id p) [e] [] pos) env) Q E s := by
  obtain ⟨o, fd, ho, hfd⟩ : ∃ o fd, h₁.get? f = some o ∧ o.data = .func fd := by
    obtain ⟨oc, od, osl, doc, pm, an, ct, ho, _⟩ := hf
    exact ⟨_, _, ho, rfl⟩
  refine wpAny_Call_Name_kw ?_
  refine Calls.Name_function_global hk hx (Calls.loadGlobal_global (by rw [hg]; exact B.gAt a) hmg ?_) hd
  refine Calls.callWith_function (o := o) (fd := fd) (args1 he (wpAny_mono h (fun v s₁ h₁ => ?_) fun _ _ e => e))
  exact ⟨⟨h₁.1.ext _ _ (B.neP ho (by rw [hfd]; nofun)) ho, hfd⟩, h₁.2⟩

theorem plat_name {id : Str} {p pos : Pos} {e : Expr} {x r : Str} {Q : Value → Shared → Prop} (B : Base c P mg mb h₁) (Fs : Fns c P mg h₁) (F : Fr c P h₁ s) (hh : A.handled = none) (hroom : A.depth + 1 < recursionLimit) (hid : id = "_platform") (pl : Plat x r)
    (hk : env.scope.kind = .function) (hx : env.kindOf id = some .globalImplicit) (hg : env.globals = mainGlobals) (he : starEach [e] env = [(false, eval e env)])
    (h : wpAny (model prog w) A (eval e env) (fun v s₁ => Mv c P [] s s₁ ∧ (∃ t, v = .str x t) ∧ ∀ s' t', Mv c P [] s s' → Q (.str r t') s') E s) :
    wpAny (model prog w) A (eval (.Call (.Name id p) [e] [] pos) env) Q E s := by
  subst hid
  obtain ⟨f, hm, hf⟩ := Fs.plat
  refine call_own1 B F.toAt hm hf hk hx hg he (by decide) (wpAny_mono h (fun v s₁ h₁ => ?_) fun _ _ e => e)
  obtain ⟨mv, ⟨t, rfl⟩, hQ⟩ := h₁
  have F1 := F.mv B mv
  exact ⟨F1.toAt, plat_call B hf Fs.cP pl F1.toAt F1.low hh hroom fun s' t' mv' => hQ s' t' (mv.trans mv')⟩
theorem parse_name {id : Str} {p pos : Pos} {e : Expr} {x r : Str} {Q : Value → Shared → Prop} (B : Base c P mg mb h₁) (Fs : Fns c P mg h₁) (F : Fr c P h₁ s) (hroom : A.depth + 1 < recursionLimit) (hid : id = "parse257") (pl : Parse x r)
    (hk : env.scope.kind = .function) (hx : env.kindOf id = some .globalImplicit) (hg : env.globals = mainGlobals) (he : starEach [e] env = [(false, eval e env)])
    (h : wpAny (model prog w) A (eval e env) (fun v s₁ => Mv c P [] s s₁ ∧ (∃ t, v = .str x t) ∧ ∀ s' t', Mv c P [] s s' → Q (.str r t') s') E s) :
    wpAny (model prog w) A (eval (.Call (.Name id p) [e] [] pos) env) Q E s := by
  subst hid
  obtain ⟨f, cd, hm, hf, hc⟩ := Fs.parse
  refine call_own1 B F.toAt hm hf hk hx hg he (by decide) (wpAny_mono h (fun v s₁ h₁ => ?_) fun _ _ e => e)
  obtain ⟨mv, ⟨t, rfl⟩, hQ⟩ := h₁
  have F1 := F.mv B mv
  exact ⟨F1.toAt, parse_call B hf hc pl F1.toAt F1.low hroom fun s' t' mv' => hQ s' t' (mv.trans mv')⟩
theorem fold_name {id : Str} {p pos : Pos} {e : Expr} {x : Str} {Q : Value → Shared → Prop} (B : Base c P mg mb h₁) (Fs : Fns c P mg h₁) (F : Fr c P h₁ s) (hh : A.handled = none) (hroom : A.depth + 1 < recursionLimit) (hid : id = "_law_folded") (hlen : x.length ≤ 1000)
    (hk : env.scope.kind = .function) (hx : env.kindOf id = some .globalImplicit) (hg : env.globals = mainGlobals) (he : starEach [e] env = [(false, eval e env)])
    (h : wpAny (model prog w) A (eval e env) (fun v s₁ => Mv c P [] s s₁ ∧ (∃ t, v = .str x t) ∧ ∀ s' t', Mv c P [] s s' → Q (.str (foldedOf x) t') s') E s) :
    wpAny (model prog w) A (eval (.Call (.Name id p) [e] [] pos) env) Q E s := by
  subst hid
  obtain ⟨f, cd, hm, hf, hc⟩ := Fs.fold
  refine call_own1 B F.toAt hm hf hk hx hg he (by decide) (wpAny_mono h (fun v s₁ h₁ => ?_) fun _ _ e => e)
  obtain ⟨mv, ⟨t, rfl⟩, hQ⟩ := h₁
  have F1 := F.mv B mv
  exact ⟨F1.toAt, fold_call B hf hc hlen F1.toAt hh hroom fun s' t' mv' => hQ s' t' (mv.trans mv')⟩
theorem fib_name {id : Str} {p pos : Pos} {e : Expr} {n : Nat} {Q : Value → Shared → Prop} (B : Base c P mg mb h₁) (Fs : Fns c P mg h₁) (F : Fr c P h₁ s) (hh : A.handled = none) (hroom : A.depth + 1 < recursionLimit) (hid : id = "_law_fibonacci") (hn : n ≤ 1000)
    (hk : env.scope.kind = .function) (hx : env.kindOf id = some .globalImplicit) (hg : env.globals = mainGlobals) (he : starEach [e] env = [(false, eval e env)])
    (h : wpAny (model prog w) A (eval e env) (fun v s₁ => Mv c P [] s s₁ ∧ (∃ t, v = .int ((n : Int) + 1) t) ∧ ∀ s' t', Mv c P [] s s' → Q (.int (fibPair n).1 t') s') E s) :
    wpAny (model prog w) A (eval (.Call (.Name id p) [e] [] pos) env) Q E s := by
  subst hid
  obtain ⟨f, cd, hm, hf, hc⟩ := Fs.fib
  refine call_own1 B F.toAt hm hf hk hx hg he (by decide) (wpAny_mono h (fun v s₁ h₁ => ?_) fun _ _ e => e)
  obtain ⟨mv, ⟨t, rfl⟩, hQ⟩ := h₁
  have F1 := F.mv B mv
  exact ⟨F1.toAt, fib_call B hf hc hn F1.toAt F1.low hh hroom fun s' t' mv' => hQ s' t' (mv.trans mv')⟩

/-- a comprehension over a list, one local name, no test -/
theorem comp_over {elt iter : Expr} {x : Str} {px pos : Pos} {scope : Scope} {cl : List (Str × Addr)} {n : Nat} {Pv : Nat → Value → Prop} {φ : Nat → Value → Prop} {ψ : Nat → Array Value → Prop} {Q : Value → Shared → Prop}
    (hs : ∀ x, foldedSetIterable iter env x = pure x) (hclos : closureFor scope env = pure cl) (hkind : scope.kind = .function) (hnames : ∀ x ∈ scope.names, x.2 = .local → scope.names.lookup x.1 = some .local)
    (hx : (relabel scope env).names.lookup x = some .local) (hh : A.handled = none) (tab : TabOk c P s.heap) (hn : n ≤ 1000)
    (hiter : wpAny (model prog w) A (eval iter env) (fun xv s₁ => ∃ D ys, xv = .ref D ∧ D ≠ P ∧ Mv c P [] s s₁ ∧ s₁.heap.IsList D ys ∧ ys.size = n ∧ ∀ i v, ys[i]? = some v → Pv i v) E s)
    (helt : ∀ C i v s₃ m₃ E', i < n → Pv i v → s₃.heap.Ns C m₃ → m₃ x = some v → Mv c P [] s s₃ → C ≠ P → s.heap.get? C = none → wpAny (model prog w) A (eval elt (blockEnv scope env cl C)) (fun y s₄ => Mv c P [] s₃ s₄ ∧ Is (φ i) (ψ i) s₃.heap s₄.heap y) E' s₃)
    (h : ∀ D s' ys, s.heap.get? D = none → D ≠ P → Mv c P [] s s' → s'.heap.IsList D ys → Paired (fun i y => Item P (φ i) (ψ i) s.heap s'.heap y) (List.range n) ys.toList → Q (.ref D) s') :
    wpAny (model prog w) A (eval (.ListComp elt [⟨.Name x px, iter, [], 0⟩] scope pos) env) Q E s := by
  refine comp_eval (c := c) (P := P) (p := fun _ => true) (φ := φ) (ψ := ψ) hs hclos hkind hnames (wpAny_mono hiter (fun xv s₁ h₁ => ?_) fun _ _ e => e)
  obtain ⟨D, ys, rfl, hD, mv, hl, hsz, hPv⟩ := h₁
  refine clause_list hl hD (by omega) hh (mv.tab tab) mv hx hkind (fun C i v s₃ m₃ E' _ _ _ _ _ _ => wpAny_tests_nil ⟨rfl, Mv.refl _ _⟩) (fun C i v s₃ m₃ E' hi _ hm hmx mv₃ hCP hC => ?_) ?_
  · exact helt C i v s₃ m₃ E' (by have := (Array.getElem?_eq_some_iff.mp hi).1; omega) (hPv i v hi) hm hmx (mv.trans mv₃) hCP (none_of mv hC (by simp) hCP)
  · intro D' s' ys' hD' hDP mv' hl' hF
    rw [range_all, hsz] at hF
    exact h D' s' ys' hD' hDP mv' hl' hF

theorem assign_over {elt iter : Expr} {x y : Str} {px py pos spos : Pos} {scope : Scope} {cl : List (Str × Addr)} {n : Nat} {Pv : Nat → Value → Prop} {φ : Nat → Value → Prop} {ψ : Nat → Array Value → Prop} {Q : Flow → Shared → Prop} {m : Str → Option Value}
    (hsw : swapsWith (.ListComp elt [⟨.Name x px, iter, [], 0⟩] scope pos) (some (.Name y py)) spos.line env = pure true)
    (hs : ∀ x, foldedSetIterable iter env x = pure x) (hclos : closureFor scope env = pure cl) (hkind : scope.kind = .function) (hnames : ∀ x ∈ scope.names, x.2 = .local → scope.names.lookup x.1 = some .local)
    (hk : env.scope.kind = .function) (hy : env.kindOf y = some .local) (hnL : s.heap.Ns env.locals m) (hc : c ≠ env.locals) (hP : P ≠ env.locals)
    (hx : (relabel scope env).names.lookup x = some .local) (hh : A.handled = none) (tab : TabOk c P s.heap) (hn : n ≤ 1000)
    (hiter : wpAny (model prog w) A (eval iter env) (fun xv s₁ => ∃ D ys, xv = .ref D ∧ D ≠ P ∧ Mv c P [] s s₁ ∧ s₁.heap.IsList D ys ∧ ys.size = n ∧ ∀ i v, ys[i]? = some v → Pv i v) E s)
    (helt : ∀ C i v s₃ m₃ E', i < n → Pv i v → s₃.heap.Ns C m₃ → m₃ x = some v → Mv c P [] s s₃ → C ≠ P → s.heap.get? C = none → wpAny (model prog w) A (eval elt (blockEnv scope env cl C)) (fun y s₄ => Mv c P [] s₃ s₄ ∧ Is (φ i) (ψ i) s₃.heap s₄.heap y) E' s₃)
    (h : ∀ D s' m' ys, s.heap.get? D = none → D ≠ P → Mv c P [env.locals] s s' → s'.heap.Ns env.locals m' → m' y = some (.ref D) → (∀ q, q ≠ y → m' q = m q) → s'.heap.IsList D ys →
      Paired (fun i y => Item P (φ i) (ψ i) s.heap s'.heap y) (List.range n) ys.toList → Q .next s') :
    wpAny (model prog w) A (exec (.Assign [.Name y py] (.ListComp elt [⟨.Name x px, iter, [], 0⟩] scope pos) spos) env) Q E s := by
  refine comp_assign (c := c) (P := P) (p := fun _ => true) (φ := φ) (ψ := ψ) hsw hs hclos hkind hnames hk hy hnL hc hP (wpAny_mono hiter (fun xv s₁ h₁ => ?_) fun _ _ e => e)
  obtain ⟨D, ys, rfl, hD, mv, hl, hsz, hPv⟩ := h₁
  refine clause_list hl hD (by omega) hh (mv.tab tab) mv hx hkind (fun C i v s₃ m₃ E' _ _ _ _ _ _ => wpAny_tests_nil ⟨rfl, Mv.refl _ _⟩) (fun C i v s₃ m₃ E' hi _ hm hmx mv₃ hCP hC => ?_) ?_
  · exact helt C i v s₃ m₃ E' (by have := (Array.getElem?_eq_some_iff.mp hi).1; omega) (hPv i v hi) hm hmx (mv.trans mv₃) hCP (none_of mv hC (by simp) hCP)
  · intro D' s' m' ys' hD' hDP mv' hn' hm' ho' hl' hF
    rw [range_all, hsz] at hF
    exact h D' s' m' ys' hD' hDP mv' hn' hm' ho' hl' hF

/-- over a list of texts, texts -/
theorem comp_strs {elt iter : Expr} {x : Str} {px pos : Pos} {scope : Scope} {cl : List (Str × Addr)} {l : List Str} {g : Str → Str} {Q : Value → Shared → Prop}
    (hs : ∀ x, foldedSetIterable iter env x = pure x) (hclos : closureFor scope env = pure cl) (hkind : scope.kind = .function) (hnames : ∀ x ∈ scope.names, x.2 = .local → scope.names.lookup x.1 = some .local)
    (hx : (relabel scope env).names.lookup x = some .local) (hh : A.handled = none) (tab : TabOk c P s.heap) (hn : l.length ≤ 1000)
    (hiter : wpAny (model prog w) A (eval iter env) (fun xv s₁ => ∃ D, xv = .ref D ∧ Mv c P [] s s₁ ∧ StrL P s₁.heap D l) E s)
    (helt : ∀ C y t s₃ m₃ E', y ∈ l → s₃.heap.Ns C m₃ → m₃ x = some (.str y t) → Mv c P [] s s₃ → C ≠ P → wpAny (model prog w) A (eval elt (blockEnv scope env cl C)) (fun v s₄ => Mv c P [] s₃ s₄ ∧ ∃ t, v = .str (g y) t) E' s₃)
    (h : ∀ D s', s.heap.get? D = none → Mv c P [] s s' → StrL P s'.heap D (l.map g) → Q (.ref D) s') :
    wpAny (model prog w) A (eval (.ListComp elt [⟨.Name x px, iter, [], 0⟩] scope pos) env) Q E s := by
  refine comp_over (c := c) (P := P) (n := l.length) (Pv := fun i v => (l.getD i "" ∈ l) ∧ ∃ t, v = .str (l.getD i "") t) (φ := fun i => isStr (g (l.getD i ""))) (ψ := fun _ => noList) hs hclos hkind hnames hx hh tab hn
    (wpAny_mono hiter (fun xv s₁ h₁ => ?_) fun _ _ e => e) (fun C i v s₃ m₃ E' hi hPv hm hmx mv hCP _ => ?_) fun D s' ys hD hDP mv hl hF => ?_
  · obtain ⟨D, rfl, mv, hDP, ys, hl, hst⟩ := h₁
    have hlen : ys.size = l.length := by have := hst.length; simpa using this
    refine ⟨D, ys, rfl, hDP, mv, hl, hlen, fun i v hv => ⟨?_, strs_at hst i v (by rw [Array.getElem?_toList]; exact hv)⟩⟩
    have hi : i < l.length := by have := (Array.getElem?_eq_some_iff.mp hv).1; omega
    rw [List.getD_eq_getElem?_getD, List.getElem?_eq_getElem hi]
    exact List.getElem_mem hi
  · obtain ⟨hy, t, rfl⟩ := hPv
    refine wpAny_mono (helt C _ t s₃ m₃ E' hy hm hmx mv hCP) (fun v s₄ h₄ => ?_) fun _ _ e => e
    exact ⟨h₄.1, .inl h₄.2⟩
  · refine h D s' hD mv ⟨hDP, ys, hl, ?_⟩
    have := strs_of hF
    rwa [map_getD] at this
end
end Mine

namespace Mine
variable {c P : Addr} {mg mb : Str → Option Value} {h₁ : Heap}

section
variable {prog : Program} {w : World} {A : Around} {E : Value → Shared → Prop} {s : Shared} {env : Env}

theorem clause_pair {s₂ : Shared} {I : Addr} {fp wr : List Addr} {n : Nat} {Pt : Nat → Array Value → Prop} {St : Nat → Heap → Prop} {Mid : Nat → Addr → Heap → Prop} {elt : Expr} {x y : Str} {px py tpos : Pos} {kk : Nat} {scope : Scope} {cl : List (Str × Addr)} {φ : Nat → Value → Prop} {ψ : Nat → Array Value → Prop}
    (W : WalksT prog w A I fp wr n Pt St Mid) (hh : A.handled = none) (hPt : ∀ i vs, Pt i vs → ∃ a b, vs = #[a, b]) (hxy : x ≠ y) (hlive : ∀ i h, St i h → ∀ b ∈ wr, ∃ o, h.get? b = some o) (hst : St 0 s₂.heap) (hfp : ∀ b ∈ fp, b < s₂.heap.objs.size) (hPf : P ∉ fp) (hcw : c ∉ wr) (hn : n ≤ 1000) (tab : TabOk c P s₂.heap)
    (hx : (relabel scope env).names.lookup x = some .local) (hy : (relabel scope env).names.lookup y = some .local) (hk : scope.kind = .function)
    (helt : ∀ C i a b s₃ m₃ E', i < n → Pt i #[a, b] → s₃.heap.Ns C m₃ → m₃ x = some a → m₃ y = some b → Mv c P wr s₂ s₃ → C ≠ P → s₂.heap.get? C = none → wpAny (model prog w) A (eval elt (blockEnv scope env cl C)) (fun y s₄ => Mv c P [] s₃ s₄ ∧ Is (φ i) (ψ i) s₃.heap s₄.heap y) E' s₃) :
    Clause prog w A c P env scope cl elt (.Tuple [.Name x px, .Name y py] kk tpos) [] (.ref I) ((s₂.heap.objs.size + 1) :: fp) ((s₂.heap.objs.size + 1) :: wr) n (fun i h => St i h ∧ ∃ m, h.Ns (s₂.heap.objs.size + 1) m) (fun i h => ∃ m a b, h.Ns (s₂.heap.objs.size + 1) m ∧ m x = some a ∧ m y = some b ∧ Pt i #[a, b]) (fun _ => true) φ ψ s₂ := by
  obtain ⟨hclt, hPlt⟩ := tab_lt tab
  have hCf : s₂.heap.objs.size + 1 ∉ fp := fun h => Nat.lt_irrefl _ (Nat.lt_of_succ_lt (hfp _ h))
  have hDf : s₂.heap.objs.size ∉ fp := fun h => Nat.lt_irrefl _ (hfp _ h)
  have hne : s₂.heap.objs.size ≠ s₂.heap.objs.size + 1 := Nat.ne_of_lt (Nat.lt_succ_self _)
  have hPC : P ≠ s₂.heap.objs.size + 1 := Nat.ne_of_lt (Nat.lt_succ_of_lt hPlt)
  have hcC : c ≠ s₂.heap.objs.size + 1 := Nat.ne_of_lt (Nat.lt_succ_of_lt hclt)
  have dropW : ∀ {s₃ : Shared}, Mv c P (s₂.heap.objs.size :: (s₂.heap.objs.size + 1) :: wr) s₂ s₃ → Mv c P wr s₂ s₃ := fun mv => mv.dropSome fun b hb => by
    rcases List.mem_cons.mp hb with rfl | hb
    · exact .inr (gone (Nat.le_refl _))
    rcases List.mem_cons.mp hb with rfl | hb
    · exact .inr (gone (Nat.le_succ _))
    · exact .inl hb
  refine ⟨turns_pair (cenv := blockEnv scope env cl (s₂.heap.objs.size + 1)) W hh hPt hxy hlive hx hy hk hCf hPf hPC hcw hcC, hn, fun h' hk' hns _ => ⟨W.frame _ _ _ hst fun b _ o e => hk' b o e, _, hns⟩, mem_cons_off hne hDf, mem_cons_off hne fun h => hDf (W.sub _ h), List.mem_cons_self,
    mem_cons_off hcC hcw, mem_cons_off hPC fun h => hPf (W.sub _ h), tab, fun i s₃ E' hi hv mv => wpAny_tests_nil ⟨rfl, Mv.refl _ _⟩, fun i s₃ E' hi hp hv mv => ?_⟩
  obtain ⟨m, a, b, hm, hmx, hmy, hPv⟩ := hv
  exact helt _ i a b s₃ m E' hi hPv hm hmx hmy (dropW mv) (Ne.symm hPC) (gone (Nat.le_succ _))

/-- `[.. for x, y in zip(e₁, e₂)]` -/
theorem comp_zip {elt e₁ e₂ : Expr} {x y id : Str} {px py tpos pos pz pz2 : Pos} {kk : Nat} {scope : Scope} {cl : List (Str × Addr)} {n : Nat} {Pv : Nat → Value → Value → Prop} {φ : Nat → Value → Prop} {ψ : Nat → Array Value → Prop} {Q : Value → Shared → Prop}
    (hid : id = "zip") (hg : s.heap.Ns env.globals mg) (hb : s.heap.Ns env.builtins mb) (hz : mg "zip" = none ∧ mb "zip" = some (.type "zip")) (hk : env.scope.kind = .function) (hzk : env.kindOf id = some .globalImplicit) (he : starEach [e₁, e₂] env = [(false, eval e₁ env), (false, eval e₂ env)])
    (hs : ∀ x, foldedSetIterable (.Call (.Name id pz) [e₁, e₂] [] pz2) env x = pure x) (hclos : closureFor scope env = pure cl) (hkind : scope.kind = .function) (hnames : ∀ x ∈ scope.names, x.2 = .local → scope.names.lookup x.1 = some .local)
    (hx : (relabel scope env).names.lookup x = some .local) (hy : (relabel scope env).names.lookup y = some .local) (hxy : x ≠ y) (hh : A.handled = none) (tab : TabOk c P s.heap) (hn : n ≤ 1000)
    (hiter : wpAny (model prog w) A (eval e₁ env) (fun v₁ s₁ => wpAny (model prog w) A (eval e₂ env) (fun v₂ s₂ => ∃ l1 l2 xs ys, v₁ = .ref l1 ∧ v₂ = .ref l2 ∧ l1 ≠ P ∧ l2 ≠ P ∧ Mv c P [] s s₂ ∧ s₂.heap.IsList l1 xs ∧ s₂.heap.IsList l2 ys ∧ xs.size = n ∧ ys.size = n ∧
      ∀ i a b, xs[i]? = some a → ys[i]? = some b → Pv i a b) E s₁) E s)
    (helt : ∀ C i a b s₃ m₃ E', i < n → Pv i a b → s₃.heap.Ns C m₃ → m₃ x = some a → m₃ y = some b → Mv c P [] s s₃ → C ≠ P → s.heap.get? C = none → wpAny (model prog w) A (eval elt (blockEnv scope env cl C)) (fun y s₄ => Mv c P [] s₃ s₄ ∧ Is (φ i) (ψ i) s₃.heap s₄.heap y) E' s₃)
    (h : ∀ D s' ys, s.heap.get? D = none → D ≠ P → Mv c P [] s s' → s'.heap.IsList D ys → Paired (fun i y => Item P (φ i) (ψ i) s.heap s'.heap y) (List.range n) ys.toList → Q (.ref D) s') :
    wpAny (model prog w) A (eval (.ListComp elt [⟨.Tuple [.Name x px, .Name y py] kk tpos, .Call (.Name id pz) [e₁, e₂] [] pz2, [], 0⟩] scope pos) env) Q E s := by
  subst hid
  refine comp_eval (c := c) (P := P) (p := fun _ => true) (φ := φ) (ψ := ψ) hs hclos hkind hnames ?_
  refine wpAny_Call_Name_kw ?_
  refine Calls.Name_function_global hk hzk (Calls.loadGlobal_builtin hg hz.1 hb hz.2 ?_)
  refine PySem.callWith_type (by rw [he]; rfl) (args2 he (wpAny_mono hiter (fun v₁ s₁ h₁ => wpAny_mono h₁ (fun v₂ s₂ h₂ => ?_) fun _ _ e => e) fun _ _ e => e))
  obtain ⟨l1, l2, xs, ys, rfl, rfl, hP1, hP2, mv, hl1, hl2, hn1, hn2, hPv⟩ := h₂
  refine call_zip_2 hl1 hl2 fun h' hZ hTI hTO hi1 hi2 hsz hkp => ?_
  have lt1 : @LT.lt Nat _ l1 s₂.heap.objs.size := by obtain ⟨o, e, _⟩ := hl1; exact Heap.lt_size e
  have lt2 : @LT.lt Nat _ l2 s₂.heap.objs.size := by obtain ⟨o, e, _⟩ := hl2; exact Heap.lt_size e
  have D : ZipApart (s₂.heap.objs.size + 4) (s₂.heap.objs.size + 2) (s₂.heap.objs.size + 3) s₂.heap.objs.size (s₂.heap.objs.size + 1) l1 l2 := ktu_apart _ _ _ lt1 lt2
  have W := WalksT.zip2 (prog := prog) (w := w) hh _ _ _ _ _ _ _ D xs ys
  have st0 := (show IsZip h' _ _ _ .none ∧ IsPair h' _ _ _ ∧ (∃ a b, IsPair h' (s₂.heap.objs.size + 3) a b) ∧ h'.IsListIter _ l1 0 ∧ h'.IsListIter _ l2 0 ∧ h'.IsList l1 xs ∧ h'.IsList l2 ys from
    ⟨hZ, hTI, ⟨_, _, hTO⟩, hi1, hi2, hl1.at fun o e => hkp _ o e, hl2.at fun o e => hkp _ o e⟩)
  refine W.self 0 { s₂ with heap := h' } _ _ st0 ?_
  have mvp : Mv c P [] s₂ { s₂ with heap := h' } := Mv.keep (s := s₂) (tk := s₂.toks) hkp (Nat.le_refl _)
  obtain ⟨hclt, hPlt⟩ := tab_lt (mv.tab tab)
  have hmin : min xs.size ys.size = n := by omega
  have hwr : ∀ b ∈ [s₂.heap.objs.size + 4, s₂.heap.objs.size + 3, s₂.heap.objs.size, s₂.heap.objs.size + 1], s₂.heap.objs.size ≤ b := by
    intro b hb
    simp only [List.mem_cons, List.not_mem_nil, or_false] at hb
    rcases hb with rfl | rfl | rfl | rfl
    · exact Nat.le_add_right _ 4
    · exact Nat.le_add_right _ 3
    · exact Nat.le_refl _
    · exact Nat.le_add_right _ 1
  have hnew : ∀ b ∈ [s₂.heap.objs.size + 4, s₂.heap.objs.size + 3, s₂.heap.objs.size, s₂.heap.objs.size + 1], s₂.heap.get? b = none := fun b hb => gone (hwr b hb)
  refine ⟨_, _, min xs.size ys.size, _, _, clause_pair (s₂ := { s₂ with heap := h' }) W hh (fun i vs ⟨x, y, _, _, e⟩ => ⟨x, y, e⟩) hxy ?_ st0 ?_ ?_ ?_ (by omega) (mvp.tab (mv.tab tab)) hx hy hkind (fun C i a b s₃ m₃ E' hi hPt hm hmx hmy mv₃ hCP hC => ?_), mv.trans mvp, ?_, ?_⟩
  · rintro i h ⟨a1, a2, ⟨_, _, a3⟩, ⟨o4, a4, _⟩, ⟨o5, a5, _⟩, _, _⟩ b hb
    simp only [List.mem_cons, List.not_mem_nil, or_false] at hb
    rcases hb with rfl | rfl | rfl | rfl
    · exact ⟨_, a1⟩
    · exact ⟨_, a3⟩
    · exact ⟨_, a4⟩
    · exact ⟨_, a5⟩
  · intro b hb
    show b < h'.objs.size
    rw [hsz]
    simp only [List.mem_cons, List.not_mem_nil, or_false] at hb
    rcases hb with rfl | rfl | rfl | rfl | rfl | rfl | rfl <;> refine ltN ?_ <;> omega
  · have hPlt' : @LT.lt Nat _ P s₂.heap.objs.size := hPlt
    intro hb
    simp only [List.mem_cons, List.not_mem_nil, or_false] at hb
    rcases hb with e | e | e | e | e | e | e
    · exact absurd e (Nat.ne_of_lt (Nat.lt_of_lt_of_le hPlt (Nat.le_add_right _ 4)))
    · exact absurd e (Nat.ne_of_lt (Nat.lt_of_lt_of_le hPlt (Nat.le_add_right _ 2)))
    · exact absurd e (Nat.ne_of_lt (Nat.lt_of_lt_of_le hPlt (Nat.le_add_right _ 3)))
    · exact absurd e (Nat.ne_of_lt hPlt)
    · exact absurd e (Nat.ne_of_lt (Nat.lt_of_lt_of_le hPlt (Nat.le_add_right _ 1)))
    · exact hP1 e.symm
    · exact hP2 e.symm
  · intro hb
    exact Nat.lt_irrefl _ (Nat.lt_of_lt_of_le hclt (hwr _ hb))
  · obtain ⟨x', y', e1, e2, e3⟩ := hPt
    have ea : a = x' ∧ b = y' := by
      have := congrArg Array.toList e3
      simpa using this
    obtain ⟨rfl, rfl⟩ := ea
    have mvT : Mv c P [] s₂ s₃ := mvp.dropFrom mv₃ hnew
    refine helt C i a b s₃ m₃ E' (by omega) (hPv i a b e1 e2) hm hmx hmy (mv.trans mvT) hCP ?_
    exact none_of (mv.trans mvp) hC (by simp) hCP
  · intro b hb
    rcases List.mem_cons.mp hb with rfl | hb
    · have hle : s₂.heap.objs.size ≤ h'.objs.size + 1 := by rw [hsz]; exact Nat.le_add_right _ 6
      exact none_of mv (gone hle) (by simp) (Nat.ne_of_gt (Nat.lt_of_lt_of_le hPlt hle))
    · exact none_of mv (hnew b hb) (by simp) (Nat.ne_of_gt (Nat.lt_of_lt_of_le hPlt (hwr b hb)))
  · intro D' s' ys' hD' hDP mv' hl' hF
    rw [range_all, hmin] at hF
    exact h D' s' ys' hD' hDP mv' hl' hF
end
end Mine

namespace Mine
variable {c P : Addr} {mg mb : Str → Option Value} {h₁ : Heap}

/-- the law's frame -/
abbrev lawEnv (cd : Value) (f L : Addr) : Env := newEnv (sscope (stAt 9)) L mainGlobals (cellsFrom (L + 1) (sscope (stAt 9)).names []) (sname (stAt 9) ++ ".<locals>.") (some f) cd none builtinsNs

/-- a list of whole numbers -/
def IntL (P : Addr) (h : Heap) (D : Addr) (l : List Int) : Prop := D ≠ P ∧ ∃ ys : Array Value, h.IsList D ys ∧ IntsAre ys.toList l
theorem IntL.mv {X : List Addr} {s s' : Shared} {D : Addr} {l : List Int} (h : IntL P s.heap D l) (v : Mv c P X s s') (hD : D ∉ X) : IntL P s'.heap D l :=
  let ⟨h1, ys, h2, h3⟩ := h; ⟨h1, ys, list_of v h2 hD h1, h3⟩
theorem IntL.nil {s s' : Shared} {D : Addr} {l : List Int} (h : IntL P s.heap D l) (v : Mv c P [] s s') : IntL P s'.heap D l := h.mv v (by simp)

theorem ints_at {vs : List Value} {l : List Int} (h : IntsAre vs l) : ∀ (i : Nat) (v : Value), vs[i]? = some v → ∃ t, v = .int (l.getD i 0) t := by
  induction h with
  | nil => intro i v e; simp at e
  | cons x t r ih =>
    intro i v e
    cases i with
    | zero => simp at e; exact ⟨t, by rw [← e]; rfl⟩
    | succ k => simpa using ih k v (by simpa using e)
theorem ints_get {ys : Array Value} {l : List Int} (h : IntsAre ys.toList l) {i : Nat} (hi : i < l.length) : ∃ t, ys[i]? = some (.int (l.getD i 0) t) := by
  have hlen : ys.size = l.length := by have := h.length; simpa using this
  have hi' : i < ys.size := by omega
  have e : ys[i]? = some ys[i] := Array.getElem?_eq_getElem hi'
  obtain ⟨t, ht⟩ := ints_at h i ys[i] (by rw [Array.getElem?_toList]; exact e)
  exact ⟨t, by rw [e, ht]⟩

section
variable {prog : Program} {w : World} {A : Around} {E : Value → Shared → Prop} {s : Shared} {env : Env}

/-- `script[:2]` -/
theorem script2 {p1 p2 p3 p4 : Pos} {k2 : Nat} {l : Addr} {vs : List Value} {m : Str → Option Value} {Q : Value → Shared → Prop} (hk : env.scope.kind = .function) (hx : env.kindOf "script" = some .local) (hn : s.heap.Ns env.locals m) (hm : m "script" = some (.ref l)) (hl : s.heap.IsList l vs.toArray) (hlen : vs.length ≤ 1000) (tab : TabOk c P s.heap)
    (h : ∀ D s', Mv c P [] s s' → D ≠ P → s'.heap.IsList D (vs.take 2).toArray → Q (.ref D) s') :
    wpAny (model prog w) A (eval (.Subscript (.Name "script" p1) (.Slice none (some (.Constant (.int 2) k2 p2)) none p3) p4) env) Q E s := by
  refine wpAny_Subscript_list_slice ?_
  refine name_local hk hx hn hm (evalPart_none_step (evalPart_some_step (wpAny_Constant_int ?_)))
  refine ⟨l, vs.toArray, none, some 2, rfl, hl, by unfold sizeLine; simp; omega, .none, .int _ _, ?_⟩
  have hPlt := (tab_lt tab).2
  refine h _ _ (Mv.keep (s := s) (tk := s.toks + 1) (fun b o e => Heap.get?_push_of_some _ (Heap.get?_push_of_some _ e)) (by omega)) (Nat.ne_of_gt (Nat.lt_succ_of_lt hPlt)) ?_
  rw [show slicePick vs.toArray none (some 2) none = (vs.take 2).toArray from slicePick_upto' vs.toArray 2]
  refine ⟨{ cls := .type "list", data := .seq (vs.take 2).toArray }, ?_, rfl, _, rfl⟩
  have e := Heap.get?_push_size (s.heap.push { cls := .type "slice", data := .fields #[.none, .int 2 s.toks, .none] }) (o := { cls := .type "list", data := .seq (vs.take 2).toArray }) rfl
  rw [Heap.size_push] at e
  exact e

set_option maxHeartbeats 4000000 in
theorem law_numbers {f L l : Addr} {cd : Value} {vs : List Value} {xs : List Int} {m : Str → Option Value} {Q : Flow → Shared → Prop} {v₀ : Option Value} (B : Base c P mg mb h₁) (hext : ∀ b o, b ≠ P → h₁.get? b = some o → s.heap.get? b = some o) (hh : A.handled = none) (tab : TabOk c P s.heap) (hbare : AllBare s.gens)
    (hn : s.heap.Ns L m) (hLP : L ≠ P) (hm : m "script" = some (.ref l)) (hl : s.heap.IsList l vs.toArray) (hlP : l ≠ P) (hi : IntsAre vs xs) (hlen : vs.length ≤ 1000) (hcell : s.heap.IsCell (L + 1) v₀) (hKP : L + 1 ≠ P) (hKc : L + 1 ≠ c)
    (h : ∀ s' D a b, Mv c P [L + 1] s s' → s'.heap.IsCell (L + 1) (some (.ref D)) → s.heap.get? D = none → IntL P s'.heap D [a, b] → Q .next s') :
    wpAny (model prog w) A (exec (sAt 9 0) (lawEnv cd f L)) Q E s := by
  show wpAny (model prog w) A (exec (Stmt.Assign [Expr.Name _ _] (Expr.ListComp _ [⟨Expr.Tuple [Expr.Name _ _, Expr.Name _ _] _ _, Expr.Call (Expr.Name _ _) [Expr.List [Expr.Constant (Const.int _) _ _, Expr.Constant (Const.int _) _ _] _, Expr.BinOp (Expr.Subscript _ _ _) Operator.Add (Expr.BinOp (Expr.List [Expr.Constant (Const.int _) _ _] _) Operator.Mult (Expr.BinOp (Expr.Constant (Const.int _) _ _) Operator.Sub (Expr.Call (Expr.Name _ _) [Expr.Subscript _ _ _] [] _) _) _) _] [] _, [], 0⟩] _ _) _) _) Q E s
  have gAt : ∀ {s' : Shared}, Mv c P [] s s' → s'.heap.Ns mainGlobals mg := fun v => ns_of v (B.g.at' fun o e => hext _ o (B.nsP B.g) e) (by simp) (B.nsP B.g)
  have bAt : ∀ {s' : Shared}, Mv c P [] s s' → s'.heap.Ns builtinsNs mb := fun v => ns_of v (B.b.at' fun o e => hext _ o (B.nsP B.b) e) (by simp) (B.nsP B.b)
  refine wpAny_Assign_Name ?_ rfl
  refine comp_zip (c := c) (P := P) (n := 2) (Pv := fun _ a b => (∃ z t, a = .int z t) ∧ ∃ z t, b = .int z t) (φ := fun _ v => ∃ z t, v = .int z t) (ψ := fun _ => noList) rfl (gAt (Mv.refl _ _)) (bAt (Mv.refl _ _)) B.zip rfl rfl rfl (fun _ => rfl) rfl rfl (by decide) rfl rfl (by decide) hh tab (by decide) ?_ ?_ ?_
  · refine list2 rfl (wpAny_Constant_int (wpAny_Constant_int fun D h' hD hob hk => ?_))
    have mv1 : Mv c P [] s { s with heap := h', toks := s.toks + 1 + 1 } := Mv.keep hk (by omega)
    have hPD : D ≠ P := by
      rintro rfl
      obtain ⟨ps, _, ⟨_, t2⟩, _⟩ := tab
      have : s.heap.get? D = none := hD
      rw [t2] at this; cases this
    have hlD : ({ s with heap := h', toks := s.toks + 1 + 1 } : Shared).heap.IsList D #[.int 1 s.toks, .int 0 (s.toks + 1)] := ⟨_, hob, rfl, _, rfl⟩
    have htk1 : s.toks + 1 + 1 ≤ ({ s with heap := h', toks := s.toks + 1 + 1 } : Shared).toks := Nat.le_refl _
    generalize ({ s with heap := h', toks := s.toks + 1 + 1 } : Shared) = s₁ at mv1 hlD htk1 ⊢
    have a1 : At c P h₁ s₁ := ⟨fun b o hb e => mv1.ext b o (by simp) hb (hext b o hb e), mv1.tab tab, mv1.bare hbare, by omega⟩
    refine wpAny_BinOp ?_
    refine script2 (c := c) (P := P) rfl rfl (ns_of mv1 hn (by simp) hLP) hm (list_of mv1 hl (by simp) hlP) hlen a1.tab fun D2 s2 mv2 hD2 hl2 => ?_
    have mv12 := mv1.trans mv2
    refine wpAny_BinOp ?_
    refine list1 rfl (wpAny_Constant_int fun D3 h3 hD3 hob3 hk3 => ?_)
    have mv3 : Mv c P [] s2 { s2 with heap := h3, toks := s2.toks + 1 } := Mv.keep hk3 (by omega)
    have hob3' : ({ s2 with heap := h3, toks := s2.toks + 1 } : Shared).heap.get? D3 = some { cls := .type "list", data := .seq #[.int 0 s2.toks] } := hob3
    have hPD3 : D3 ≠ P := by
      rintro rfl
      obtain ⟨ps, _, ⟨_, t2⟩, _⟩ := mv12.tab tab
      have : s2.heap.get? D3 = none := hD3
      rw [t2] at this; cases this
    generalize ({ s2 with heap := h3, toks := s2.toks + 1 } : Shared) = s3 at mv3 hob3' ⊢
    have mv13 := mv12.trans mv3
    have a3 : At c P h₁ s3 := (a1.mv mv2 (by simp)).mv mv3 (by simp)
    refine wpAny_BinOp (wpAny_Constant_int ?_)
    have mv4 : Mv c P [] s3 { s3 with toks := s3.toks + 1 } := Mv.tk (Nat.le_succ _)
    have hob4 : ({ s3 with toks := s3.toks + 1 } : Shared).heap.get? D3 = some { cls := .type "list", data := .seq #[.int 0 s2.toks] } := hob3'
    generalize ({ s3 with toks := s3.toks + 1 } : Shared) = s4 at mv4 hob4 ⊢
    have mv14 := mv13.trans mv4
    have a4 := a3.mv mv4 (by simp)
    refine call_len_name B a4 rfl rfl rfl rfl rfl rfl ?_
    refine script2 (c := c) (P := P) rfl rfl (ns_of mv14 hn (by simp) hLP) hm (list_of mv14 hl (by simp) hlP) hlen a4.tab fun D5 s5 mv5 hD5 hl5 => ?_
    have hsz5 : (vs.take 2).toArray.size ≤ 2 := by simp; omega
    refine PyProof.Rows.len_list hl5 (by omega) ?_
    refine sub_int ?_
    have mv6 : Mv c P [] s4 { s5 with toks := s5.toks + 1 + 1 + 1 } := mv5.trans (Mv.tk (by omega))
    generalize ({ s5 with toks := s5.toks + 1 + 1 + 1 } : Shared) = s6 at mv6 ⊢
    refine mul_one (c := c) (P := P) (x := .int 0 s2.toks) (mv6.ext _ _ (by simp) hPD3 hob4) (by omega) (by omega) fun D7 s7 hD7 mv7 hl7 => ?_
    have mv27 : Mv c P [] s2 s7 := ((mv3.trans mv4).trans mv6).trans mv7
    refine add_lists' (c := c) (P := P) (list_of mv27 hl2 (by simp) hD2) hl7 ?_ fun D8 s8 hD8 mv8 hl8 => ?_
    · simp; omega
    have mv18 := (mv2.trans mv27).trans mv8
    have hPD8 : D8 ≠ P := by
      rintro rfl
      obtain ⟨ps, _, ⟨_, t2⟩, _⟩ := ((mv12.trans mv27).tab tab)
      rw [t2] at hD8; cases hD8
    refine ⟨D, D8, _, _, rfl, rfl, hPD, hPD8, mv1.trans mv18, list_of mv18 hlD (by simp) hPD, hl8, rfl, ?_, fun i a b ha hb => ⟨?_, ?_⟩⟩
    · simp only [Array.size_append, List.size_toArray, List.length_take, List.length_replicate] at hsz5 ⊢
      omega
    · match i with
      | 0 => simp at ha; exact ⟨_, _, ha.symm⟩
      | 1 => simp at ha; exact ⟨_, _, ha.symm⟩
      | _ + 2 => simp at ha
    · have : (vs.take 2 ++ List.replicate (2 - ((vs.take 2).toArray.size : Int)).toNat (Value.int 0 s2.toks))[i]? = some b := by
        have e := hb
        rw [← Array.getElem?_toList] at e
        simpa using e
      have hb' := List.mem_of_getElem? this
      rcases List.mem_append.mp hb' with h1 | h1
      · have h2 := List.mem_of_mem_take h1
        obtain ⟨j, hj⟩ := List.getElem?_of_mem h2
        obtain ⟨t, e⟩ := ints_at hi j b hj
        exact ⟨_, t, e⟩
      · exact ⟨_, _, List.eq_of_mem_replicate h1⟩
  · rintro C i a b s₃ m₃ E' _ ⟨⟨z1, t1, rfl⟩, z2, t2, rfl⟩ hm₃ hx hy mv₃ hCP _
    refine wpAny_BinOp (name_local rfl rfl hm₃ hx (name_local rfl rfl hm₃ hy (add_int ?_)))
    exact ⟨Mv.tk (Nat.le_succ _), .inl ⟨_, _, rfl⟩⟩
  · intro D s' ys hD hDP mv' hl' hF
    refine wpAny_storeName_cell rfl rfl rfl (cell_of mv' hcell (by simp) hKP) fun h' hc' hs' => ?_
    have hDL : D ≠ L + 1 := by
      rintro rfl
      obtain ⟨o, e, _⟩ := hcell
      rw [hD] at e; cases e
    have hF' : ∃ a b, IntsAre ys.toList [a, b] := by
      generalize ys.toList = zs at hF
      rw [show List.range 2 = [0, 1] from rfl] at hF
      cases hF with
      | cons h0 t =>
        cases t with
        | cons h1 t =>
          cases t
          rcases h0 with ⟨a, t, rfl⟩ | ⟨_, _, _, _, _, _, f⟩
          · rcases h1 with ⟨b, u, rfl⟩ | ⟨_, _, _, _, _, _, f⟩
            · exact ⟨a, b, .cons _ _ (.cons _ _ .nil)⟩
            · exact f.elim
          · exact f.elim
    obtain ⟨a, b, hab⟩ := hF'
    refine h _ D a b (mv'.nil.trans (Mv.off (s := s') (h' := h') (tk := s'.toks) (fun b o hb e => hs'.extBut b o (fun q => hb (List.mem_singleton.mpr q)) e) (Nat.le_refl _) (by simpa using Ne.symm hKc) (by simpa using Ne.symm hKP))) hc' hD ⟨hDP, ys, hl'.extBut hs'.extBut hDL, hab⟩
end
end Mine

namespace Mine
variable {c P : Addr} {mg mb : Str → Option Value} {h₁ : Heap}

def markAt (b : Int) (k : Nat) : Str := Txt.item "\"/:;()\\-" ((b.fdiv (8 ^ k)).fmod 8)
def wayOf (sz w : Nat) : List Int := (List.range sz).map fun k => ((w : Int).fdiv (2 ^ k)).fmod 2

section
variable {prog : Program} {w : World} {A : Around} {E : Value → Shared → Prop} {s : Shared} {env : Env}

theorem law_size {f L D : Addr} {cd : Value} {a b : Int} {Q : Flow → Shared → Prop} {v₀ : Option Value}
    (hnum : s.heap.IsCell (L + 1) (some (.ref D))) (hD : IntL P s.heap D [a, b]) (hcell : s.heap.IsCell (L + 2) v₀) (hKP : L + 2 ≠ P) (hKc : L + 2 ≠ c)
    (h : ∀ s' (sz : Nat) t, Mv c P [L + 2] s s' → s'.heap.IsCell (L + 2) (some (.int sz t)) → 3 ≤ sz → sz ≤ 5 → 1 ≤ s'.toks → Q .next s') :
    wpAny (model prog w) A (exec (sAt 9 1) (lawEnv cd f L)) Q E s := by
  show wpAny (model prog w) A (exec (Stmt.Assign [Expr.Name _ _] (Expr.BinOp (Expr.Constant (Const.int _) _ _) Operator.Add (Expr.BinOp (Expr.Subscript (Expr.Name _ _) (Expr.Constant (Const.int 0) _ _) _) Operator.Mod (Expr.Constant (Const.int 3) _ _) _) _) _) _) Q E s
  obtain ⟨hDP, ys, hl, hi⟩ := hD
  obtain ⟨t0, e0⟩ := ints_get hi (i := 0) (by simp)
  refine wpAny_Assign_Name ?_ rfl
  refine wpAny_BinOp (wpAny_Constant_int (wpAny_BinOp ?_))
  refine Subscript_Constant (name_cell rfl rfl rfl hnum (wpAny_Constant_int ?_))
  refine item_at hl (by decide) (by decide) e0 ?_
  refine wpAny_Constant_int (mod_int (by decide) (add_int ?_))
  refine wpAny_storeName_cell rfl rfl rfl hcell fun h' hc' hs' => ?_
  have hm0 : 0 ≤ (a.fmod 3) := Int.fmod_nonneg_of_pos _ (by decide)
  have hm3 : (a.fmod 3) < 3 := Int.fmod_lt_of_pos _ (by decide)
  have e : (3 : Int) + a.fmod 3 = ((3 + (a.fmod 3).toNat : Nat) : Int) := by omega
  refine h _ (3 + (a.fmod 3).toNat) _ (Mv.off (s := s) (h' := h') (tk := s.toks + 1 + 1 + 1 + 1 + 1) (fun b o hb e => hs'.extBut b o (fun q => hb (List.mem_singleton.mpr q)) e) (by omega) (by simpa using Ne.symm hKc) (by simpa using Ne.symm hKP)) (e ▸ hc') (by omega) (by omega) (by show 1 ≤ s.toks + 1 + 1 + 1 + 1 + 1; omega)

/-- a comprehension over `range(e)`, one local name, no test -/
theorem comp_range {elt e : Expr} {x id : Str} {px pos pr pr2 : Pos} {scope : Scope} {cl : List (Str × Addr)} {n : Nat} {φ : Nat → Value → Prop} {ψ : Nat → Array Value → Prop} {Q : Value → Shared → Prop} (B : Base c P mg mb h₁) (a : At c P h₁ s)
    (hid : id = "range") (hk : env.scope.kind = .function) (hrk : env.kindOf id = some .globalImplicit) (hg : env.globals = mainGlobals) (hb : env.builtins = builtinsNs) (he : starEach [e] env = [(false, eval e env)])
    (hs : ∀ x, foldedSetIterable (.Call (.Name id pr) [e] [] pr2) env x = pure x) (hclos : closureFor scope env = pure cl) (hkind : scope.kind = .function) (hnames : ∀ x ∈ scope.names, x.2 = .local → scope.names.lookup x.1 = some .local)
    (hx : (relabel scope env).names.lookup x = some .local) (hh : A.handled = none) (hn : n ≤ 1000)
    (hiter : wpAny (model prog w) A (eval e env) (fun v s₁ => (∃ t, v = .int n t) ∧ Mv c P [] s s₁) E s)
    (helt : ∀ C i t s₃ m₃ E', i < n → s₃.heap.Ns C m₃ → m₃ x = some (.int (i : Nat) t) → Mv c P [] s s₃ → C ≠ P → s.heap.get? C = none → wpAny (model prog w) A (eval elt (blockEnv scope env cl C)) (fun y s₄ => Mv c P [] s₃ s₄ ∧ Is (φ i) (ψ i) s₃.heap s₄.heap y) E' s₃)
    (h : ∀ D s' ys, s.heap.get? D = none → D ≠ P → Mv c P [] s s' → s'.heap.IsList D ys → Paired (fun i y => Item P (φ i) (ψ i) s.heap s'.heap y) (List.range n) ys.toList → Q (.ref D) s') :
    wpAny (model prog w) A (eval (.ListComp elt [⟨.Name x px, .Call (.Name id pr) [e] [] pr2, [], 0⟩] scope pos) env) Q E s := by
  refine comp_eval (c := c) (P := P) (p := fun _ => true) (φ := φ) (ψ := ψ) hs hclos hkind hnames ?_
  refine range_name B a hid hk hrk hg hb he (wpAny_mono hiter (fun v s₁ h₁ => ?_) fun _ _ e => e)
  obtain ⟨⟨t, rfl⟩, mv⟩ := h₁
  refine ⟨n, t, rfl, fun r s₂ t u v mv₂ hr => ?_⟩
  have mv2 := mv.trans mv₂
  refine clause_range hr hn hh (mv2.tab a.tab) mv2 hx hkind (fun C i v s₃ m₃ E' _ _ _ _ _ _ => wpAny_tests_nil ⟨rfl, Mv.refl _ _⟩) (fun C i v s₃ m₃ E' hi _ hm hmx mv₃ hCP hC => ?_) ?_
  · exact helt C i v s₃ m₃ E' hi hm hmx (mv2.trans mv₃) hCP (none_of mv2 hC (by simp) hCP)
  · intro D' s' ys' hD' hDP mv' hl' hF
    rw [range_all] at hF
    exact h D' s' ys' hD' hDP mv' hl' hF

theorem small_pow {b : Int} {k : Nat} (hb : b = 8 ∨ b = 2) (hk : k < 5) : (Builtin.Int.intBits b : Int) * (k : Int) ≤ 2 ^ 27 ∧ b ^ k ≠ 0 ∧ Builtin.divisionGoesByPylong x (b ^ k) = false := by
  have h5 : k = 0 ∨ k = 1 ∨ k = 2 ∨ k = 3 ∨ k = 4 := by omega
  rcases hb with rfl | rfl <;> rcases h5 with rfl | rfl | rfl | rfl | rfl <;> exact ⟨by decide, by decide, PyProof.noPylong_small (by decide)⟩

theorem tail_of {value slice : Expr} {x : Str} {t u : Tok} {i : Int} {Q : Value → Shared → Prop} (h : ItemOn (model prog w) A E (.str x t) (.int i u) Q s)
    (hs : subscripted slice false (.str x t) (.int i u) = operate [.str x t, .int i u] (getItem (.str x t) (.int i u))) (hg : ∀ r, letTemporaryGo value (.str x t) r = pure ()) :
    wpAny (model prog w) A (subscriptTail value slice (.str x t) (.int i u)) Q E s := by
  obtain ⟨T, id, hl, hT, hw⟩ := h
  exact subscriptTail_builtin hT hl hw hs hg

set_option maxHeartbeats 4000000 in
theorem law_marks {f L D : Addr} {cd : Value} {a b : Int} {sz : Nat} {tz : Tok} {Q : Flow → Shared → Prop} {v₀ : Option Value} (B : Base c P mg mb h₁) (at' : At c P h₁ s) (hh : A.handled = none) (hsz : sz ≤ 5)
    (hnum : s.heap.IsCell (L + 1) (some (.ref D))) (hNP : L + 1 ≠ P) (hD : IntL P s.heap D [a, b]) (hsize : s.heap.IsCell (L + 2) (some (.int sz tz))) (hcell : s.heap.IsCell (L + 3) v₀) (hKP : L + 3 ≠ P) (hKc : L + 3 ≠ c)
    (h : ∀ s' M, Mv c P [L + 3] s s' → s'.heap.IsCell (L + 3) (some (.ref M)) → s.heap.get? M = none → StrL P s'.heap M ((List.range sz).map (markAt b)) → Q .next s') :
    wpAny (model prog w) A (exec (sAt 9 2) (lawEnv cd f L)) Q E s := by
  show wpAny (model prog w) A (exec (Stmt.Assign [Expr.Name _ _] (Expr.ListComp (Expr.Subscript (Expr.Constant (Const.str _) _ _) (Expr.BinOp (Expr.BinOp (Expr.Subscript (Expr.Name _ _) (Expr.Constant (Const.int 1) _ _) _) Operator.FloorDiv (Expr.BinOp (Expr.Constant (Const.int 8) _ _) Operator.Pow (Expr.Name _ _) _) _) Operator.Mod (Expr.Constant (Const.int 8) _ _) _) _) [⟨Expr.Name _ _, Expr.Call (Expr.Name _ _) [Expr.Name _ _] [] _, [], 0⟩] _ _) _) _) Q E s
  refine wpAny_Assign_Name ?_ rfl
  refine comp_range (c := c) (P := P) (n := sz) (cl := [("numbers", L + 1)]) (φ := fun k => isStr (markAt b k)) (ψ := fun _ => noList) B at' rfl rfl rfl rfl rfl rfl (fun _ => rfl) rfl rfl (by decide) rfl hh (by omega) ?_ ?_ ?_
  · exact name_cell rfl rfl rfl hsize ⟨⟨_, rfl⟩, Mv.refl _ _⟩
  · intro C k t s₃ m₃ E' hk hm hmx mv hCP _
    have hD₃ := hD.nil mv
    obtain ⟨hDP, ys, hl, hi⟩ := hD₃
    obtain ⟨t1, e1⟩ := ints_get hi (i := 1) (by simp)
    obtain ⟨p1, p2, p3⟩ := small_pow (b := 8) (x := b) (.inl rfl) (show k < 5 by omega)
    have hnum₃ := cell_of mv hnum (by simp) hNP
    refine tk_mono ?_
    refine PyProof.Rows.Subscript_ (wpAny_Constant_str (wpAny_BinOp (wpAny_BinOp ?_)))
    refine Subscript_Constant (name_cell rfl rfl rfl hnum₃ (wpAny_Constant_int ?_))
    refine item_at hl (by decide) (by decide) e1 ?_
    refine wpAny_BinOp (wpAny_Constant_int (name_local rfl rfl hm hmx ?_))
    refine pow_int (by omega) p1 ?_
    rw [show ((k : Nat) : Int).toNat = k from Int.toNat_natCast k]
    refine floordiv_int p2 ?_ (.inl p3)
    refine wpAny_Constant_int (mod_int (by decide) ?_)
    have hm0 : 0 ≤ ((b.fdiv (8 ^ k)).fmod 8) := Int.fmod_nonneg_of_pos _ (by decide)
    have hm8 : ((b.fdiv (8 ^ k)).fmod 8) < 8 := Int.fmod_lt_of_pos _ (by decide)
    have hlen : (Str.ofString "\"/:;()\\-").length = 8 := by decide
    refine tail_of (SBL.item (by rw [hlen]; exact Int.le_trans (by decide) hm0) (by rw [hlen]; exact hm8) (by rw [hlen]; decide) fun _ htk => ?_) (by with_unfolding_all rfl) (fun _ => rfl)
    exact ⟨Mv.tk htk, .inl ⟨_, rfl⟩⟩
  · intro M s' ys hM hMP mv' hl' hF
    refine wpAny_storeName_cell rfl rfl rfl (cell_of mv' hcell (by simp) hKP) fun h' hc' hs' => ?_
    have hML : M ≠ L + 3 := by
      rintro rfl
      obtain ⟨o, e, _⟩ := hcell
      rw [hM] at e; cases e
    exact h _ M (mv'.nil.trans (Mv.off (s := s') (h' := h') (tk := s'.toks) (fun b o hb e => hs'.extBut b o (fun q => hb (List.mem_singleton.mpr q)) e) (Nat.le_refl _) (by simpa using Ne.symm hKc) (by simpa using Ne.symm hKP))) hc' hM ⟨hMP, ys, hl'.extBut hs'.extBut hML, strs_of hF⟩
end
end Mine

namespace Mine
variable {c P : Addr} {mg mb : Str → Option Value} {h₁ : Heap}

section
variable {prog : Program} {w : World} {A : Around} {E : Value → Shared → Prop} {s : Shared} {env : Env}

theorem clause_cell {s₂ : Shared} {I : Addr} {fp wr : List Addr} {n : Nat} {Pv : Nat → Value → Prop} {St : Nat → Heap → Prop} {elt : Expr} {x : Str} {px : Pos} {scope : Scope} {cl : List (Str × Addr)} {φ : Nat → Value → Prop} {ψ : Nat → Array Value → Prop}
    (W : Walks prog w A I fp wr n Pv St) (hlive : ∀ i h, St i h → ∀ b ∈ wr, ∃ o, h.get? b = some o) (hst : St 0 s₂.heap) (hfp : ∀ b ∈ fp, b < s₂.heap.objs.size) (hPf : P ∉ fp) (hcw : c ∉ wr) (hn : n ≤ 1000) (tab : TabOk c P s₂.heap)
    (hx : (relabel scope env).names.lookup x = some .cell) (hxc : ∀ C : Addr, (cellsFrom (C + 1) scope.names cl).lookup x = some (C + 1)) (hmem : ∀ C : Addr, (x, C + 1) ∈ cellsFrom (C + 1) scope.names []) (hk : scope.kind = .function)
    (helt : ∀ (C : Addr) i v s₃ E', i < n → Pv i v → s₃.heap.IsCell (C + 1) (some v) → Mv c P wr s₂ s₃ → C + 1 ≠ P → s₂.heap.get? (C + 1) = none → wpAny (model prog w) A (eval elt (blockEnv scope env cl C)) (fun y s₄ => Mv c P [] s₃ s₄ ∧ Is (φ i) (ψ i) s₃.heap s₄.heap y) E' s₃) :
    Clause prog w A c P env scope cl elt (.Name x px) [] (.ref I) ((s₂.heap.objs.size + 1 + 1) :: (s₂.heap.objs.size + 1) :: fp) ((s₂.heap.objs.size + 1 + 1) :: (s₂.heap.objs.size + 1) :: wr) n
      (fun i h => St i h ∧ (∃ m, h.Ns (s₂.heap.objs.size + 1) m) ∧ ∃ v, h.IsCell (s₂.heap.objs.size + 1 + 1) v) (fun i h => ∃ v, h.IsCell (s₂.heap.objs.size + 1 + 1) (some v) ∧ Pv i v) (fun _ => true) φ ψ s₂ := by
  obtain ⟨hclt, hPlt⟩ := tab_lt tab
  have hCf : s₂.heap.objs.size + 1 ∉ fp := fun h => Nat.lt_irrefl _ (Nat.lt_of_succ_lt (hfp _ h))
  have hKf : s₂.heap.objs.size + 1 + 1 ∉ fp := fun h => Nat.lt_irrefl _ (Nat.lt_of_succ_lt (Nat.lt_of_succ_lt (hfp _ h)))
  have hDf : s₂.heap.objs.size ∉ fp := fun h => Nat.lt_irrefl _ (hfp _ h)
  have hne : s₂.heap.objs.size ≠ s₂.heap.objs.size + 1 := Nat.ne_of_lt (Nat.lt_succ_self _)
  have hne2 : s₂.heap.objs.size ≠ s₂.heap.objs.size + 1 + 1 := Nat.ne_of_lt (Nat.lt_succ_of_lt (Nat.lt_succ_self _))
  have hPC : P ≠ s₂.heap.objs.size + 1 := Nat.ne_of_lt (Nat.lt_succ_of_lt hPlt)
  have hcC : c ≠ s₂.heap.objs.size + 1 := Nat.ne_of_lt (Nat.lt_succ_of_lt hclt)
  have hPK : P ≠ s₂.heap.objs.size + 1 + 1 := Nat.ne_of_lt (Nat.lt_succ_of_lt (Nat.lt_succ_of_lt hPlt))
  have hcK : c ≠ s₂.heap.objs.size + 1 + 1 := Nat.ne_of_lt (Nat.lt_succ_of_lt (Nat.lt_succ_of_lt hclt))
  have dropW : ∀ {s₃ : Shared}, Mv c P (s₂.heap.objs.size :: (s₂.heap.objs.size + 1 + 1) :: (s₂.heap.objs.size + 1) :: wr) s₂ s₃ → Mv c P wr s₂ s₃ := fun mv => mv.dropSome fun b hb => by
    rcases List.mem_cons.mp hb with rfl | hb
    · exact .inr (gone (Nat.le_refl _))
    rcases List.mem_cons.mp hb with rfl | hb
    · exact .inr (gone (Nat.le_succ_of_le (Nat.le_succ _)))
    rcases List.mem_cons.mp hb with rfl | hb
    · exact .inr (gone (Nat.le_succ _))
    · exact .inl hb
  refine ⟨turns_cell (cenv := blockEnv scope env cl (s₂.heap.objs.size + 1)) W hlive hx (hxc _) hk hCf hKf (Nat.ne_of_gt (Nat.lt_succ_self _)) hPf hPC hPK hcw hcC hcK, hn, fun h' hk' hns hcl => ⟨W.frame _ _ _ hst fun b _ o e => hk' b o e, ⟨_, hns⟩, _, hcl x _ (hmem _)⟩,
    mem_cons_off hne2 (mem_cons_off hne hDf), mem_cons_off hne2 (mem_cons_off hne fun h => hDf (W.sub _ h)), List.mem_cons_of_mem _ List.mem_cons_self,
    mem_cons_off hcK (mem_cons_off hcC hcw), mem_cons_off hPK (mem_cons_off hPC fun h => hPf (W.sub _ h)), tab, fun i s₃ E' hi hv mv => wpAny_tests_nil ⟨rfl, Mv.refl _ _⟩, fun i s₃ E' hi hp hv mv => ?_⟩
  obtain ⟨v, hm, hPv⟩ := hv
  exact helt _ i v s₃ E' hi hPv hm (dropW mv) (Ne.symm hPK) (gone (Nat.le_succ_of_le (Nat.le_succ _)))

/-- over range(n), one name in a cell -/
theorem clause_range_cell {r : Addr} {n : Nat} {t u v : Tok} {elt : Expr} {x : Str} {px : Pos} {scope : Scope} {cl : List (Str × Addr)} {φ : Nat → Value → Prop} {ψ : Nat → Array Value → Prop} {s₀ : Shared} {Fin : Nat → Prop}
    (hr : IsRange s.heap r 0 n 1 t u v) (hsz : n ≤ 1000) (hh : A.handled = none) (tab : TabOk c P s.heap) (mv : Mv c P [] s₀ s)
    (hx : (relabel scope env).names.lookup x = some .cell) (hxc : ∀ C : Addr, (cellsFrom (C + 1) scope.names cl).lookup x = some (C + 1)) (hmem : ∀ C : Addr, (x, C + 1) ∈ cellsFrom (C + 1) scope.names []) (hk : scope.kind = .function)
    (helt : ∀ (C : Addr) i t s₃ E', i < n → s₃.heap.IsCell (C + 1) (some (.int (i : Nat) t)) → Mv c P [] s s₃ → C + 1 ≠ P → wpAny (model prog w) A (eval elt (blockEnv scope env cl C)) (fun y s₄ => Mv c P [] s₃ s₄ ∧ Is (φ i) (ψ i) s₃.heap s₄.heap y) E' s₃)
    (fin : Fin n) :
    wpAny (model prog w) A (pyIter (.ref r)) (fun it s₂ => ∃ fp X n St V, Clause prog w A c P env scope cl elt (.Name x px) [] it fp X n St V (fun _ => true) φ ψ s₂ ∧ Mv c P [] s₀ s₂ ∧ (∀ b ∈ X, s₀.heap.get? b = none) ∧ Fin n) E s := by
  have hrs : Builtin.Range.rangeSize 0 n 1 = (n : Int) := by rw [rangeSize_one]; split <;> omega
  refine wpAny_pyIter_range hr (small_one (by decide) (by decide) (by omega) (by omega)) ?_
  rw [hrs]
  obtain ⟨hclt, hPlt⟩ := tab_lt tab
  have hsz2 : (s.heap.push { cls := .type "range_iterator", data := .fields #[rawInt 0, rawInt n, rawInt 1] }).objs.size = s.heap.objs.size + 1 := Heap.size_push ..
  have mvp : Mv c P [] s { s with heap := s.heap.push { cls := .type "range_iterator", data := .fields #[rawInt 0, rawInt n, rawInt 1] } } := Mv.keep (s := s) (tk := s.toks) (fun _ _ e => Heap.get?_push_of_some _ e) (Nat.le_refl _)
  have hnew : ∀ b ∈ [s.heap.objs.size], s.heap.get? b = none := fun b hb => by rw [List.mem_singleton.mp hb]; exact gone (Nat.le_refl _)
  refine ⟨_, _, n, _, _, clause_cell (s₂ := { s with heap := s.heap.push { cls := .type "range_iterator", data := .fields #[rawInt 0, rawInt n, rawInt 1] } }) (LCg.range_walks hh 0 n) (fun i h st b hb => live_one st b hb)
    ?_ ?_ (mem_cons_off (Nat.ne_of_lt hPlt) (by simp)) (mem_cons_off (Nat.ne_of_lt hclt) (by simp)) hsz (mvp.tab tab) hx hxc hmem hk
    (fun C i v s₃ E' hi hv hc mv' hCP hC => ?_), mv.trans mvp, ?_, fin⟩
  · show IsRangeIter _ _ _ _ _
    simpa using Heap.get?_push_size s.heap (o := { cls := .type "range_iterator", data := .fields #[rawInt 0, rawInt n, rawInt 1] }) rfl
  · intro b hb
    show b < (s.heap.push _).objs.size
    rw [hsz2, List.mem_singleton.mp hb]
    exact Nat.lt_succ_self _
  · obtain ⟨t, rfl⟩ := hv
    rw [Int.zero_add] at hc
    exact helt C i t s₃ E' hi hc (mvp.dropFrom mv' hnew) hCP
  · have low : ∀ k : Nat, s₀.heap.get? ((s.heap.push { cls := .type "range_iterator", data := .fields #[rawInt 0, rawInt n, rawInt 1] }).objs.size + k) = none := fun k => by
      have hle : s.heap.objs.size ≤ (s.heap.push { cls := .type "range_iterator", data := .fields #[rawInt 0, rawInt n, rawInt 1] }).objs.size + k := by rw [hsz2]; exact Nat.le_trans (Nat.le_succ _) (Nat.le_add_right _ k)
      exact none_of mv (gone hle) (by simp) (Nat.ne_of_gt (Nat.lt_of_lt_of_le hPlt hle))
    intro b hb
    simp only [List.mem_cons, List.not_mem_nil, or_false] at hb
    rcases hb with rfl | rfl | rfl
    · exact low 2
    · exact low 1
    · exact none_of mv (gone (Nat.le_refl _)) (by simp) (Nat.ne_of_gt hPlt)

/-- the ways: a list of lists of whole numbers -/
def WaysL (P : Addr) (X : List Addr) (h : Heap) (D : Addr) (sz n : Nat) : Prop :=
  D ∉ X ∧ D ≠ P ∧ ∃ ys : Array Value, h.IsList D ys ∧ Paired (fun i y => ∃ T its, y = .ref T ∧ T ∉ X ∧ T ≠ P ∧ h.IsList T its ∧ IntsAre its.toList (wayOf sz i)) (List.range n) ys.toList
theorem WaysL.mv {X Y : List Addr} {s s' : Shared} {D : Addr} {sz n : Nat} (h : WaysL P X s.heap D sz n) (v : Mv c P Y s s') (hY : ∀ b ∈ Y, b ∈ X) : WaysL P X s'.heap D sz n := by
  obtain ⟨h1, h2, ys, h3, h4⟩ := h
  refine ⟨h1, h2, ys, list_of v h3 (fun q => h1 (hY _ q)) h2, h4.mono fun i y ⟨T, its, e, a1, a2, a3, a4⟩ => ⟨T, its, e, a1, a2, list_of v a3 (fun q => a1 (hY _ q)) a2, a4⟩⟩

set_option maxHeartbeats 4000000 in
theorem law_ways {f L : Addr} {cd : Value} {sz : Nat} {tz : Tok} {m : Str → Option Value} {Q : Flow → Shared → Prop} (B : Base c P mg mb h₁) (at' : At c P h₁ s) (hh : A.handled = none) (hsz : sz ≤ 5)
    (hn : s.heap.Ns L m) (hcL : c ≠ L) (hPL : P ≠ L) (hsize : s.heap.IsCell (L + 2) (some (.int sz tz))) (hSP : L + 2 ≠ P) (hXl : ∀ b ∈ [L, L + 1, L + 2, L + 3], ∃ o, s.heap.get? b = some o)
    (h : ∀ s' m' D, Mv c P [L] s s' → s'.heap.Ns L m' → m' "ways" = some (.ref D) → (∀ q : Str, q ≠ "ways" → m' q = m q) → WaysL P [L, L + 1, L + 2, L + 3] s'.heap D sz (2 ^ sz) → Q .next s') :
    wpAny (model prog w) A (exec (sAt 9 3) (lawEnv cd f L)) Q E s := by
  show wpAny (model prog w) A (exec (Stmt.Assign [Expr.Name _ _] (Expr.ListComp (Expr.ListComp (Expr.BinOp (Expr.BinOp (Expr.Name _ _) Operator.FloorDiv (Expr.BinOp (Expr.Constant (Const.int 2) _ _) Operator.Pow (Expr.Name _ _) _) _) Operator.Mod (Expr.Constant (Const.int 2) _ _) _) [⟨Expr.Name _ _, Expr.Call (Expr.Name _ _) [Expr.Name _ _] [] _, [], 0⟩] _ _)
    [⟨Expr.Name _ _, Expr.Call (Expr.Name _ _) [Expr.BinOp (Expr.Constant (Const.int 2) _ _) Operator.Pow (Expr.Name _ _) _] [] _, [], 0⟩] _ _) _) _) Q E s
  have h6 : sz < 6 := by omega
  have hpow : (Builtin.Int.intBits 2 : Int) * (sz : Int) ≤ 2 ^ 27 := by
    rw [show (Builtin.Int.intBits 2 : Int) = 2 by decide]; omega
  have hn2 : 2 ^ sz ≤ 1000 := Nat.le_trans (Nat.pow_le_pow_right (by decide) hsz) (by decide)
  refine comp_assign (c := c) (P := P) (cl := [("size", L + 2)]) (p := fun _ => true) (φ := fun _ _ => False) (ψ := fun i its => IntsAre its.toList (wayOf sz i)) rfl (fun _ => rfl) rfl rfl (by decide) rfl rfl hn hcL hPL ?_
  refine range_name B at' rfl rfl rfl rfl rfl rfl ?_
  refine wpAny_BinOp (wpAny_Constant_int (name_cell rfl rfl rfl hsize ?_))
  refine pow_int (by omega) hpow ?_
  refine ⟨((2 ^ sz : Nat) : Int), _, by rw [show ((sz : Nat) : Int).toNat = sz from Int.toNat_natCast sz]; simp; rfl, fun r s₂ t u v mv₂ hr => ?_⟩
  have mv2 : Mv c P [] s s₂ := (Mv.tk (s := s) (tk := s.toks + 1 + 1) (by omega)).trans mv₂
  refine clause_range_cell hr hn2 hh (mv2.tab at'.tab) mv2 rfl (fun _ => rfl) (fun C => ?_) rfl (fun C i t' s₃ E' hi hc mv₃ hCP => ?_) ?_
  · show _ ∈ [(Str.ofString "way", C + 1)]
    exact List.mem_singleton.mpr rfl
  · have mv3 := mv2.trans mv₃
    have a3 : At c P h₁ s₃ := at'.mv mv3 (by simp)
    refine comp_range (c := c) (P := P) (n := sz) (cl := [("way", C + 1)]) (φ := fun k => isInt (((i : Int).fdiv (2 ^ k)).fmod 2)) (ψ := fun _ => noList) B a3 rfl rfl rfl rfl rfl rfl (fun _ => rfl) rfl rfl (by decide) rfl hh (by omega) ?_ ?_ ?_
    · exact name_cell rfl rfl rfl (cell_of mv3 hsize (by simp) hSP) ⟨⟨_, rfl⟩, Mv.refl _ _⟩
    · intro C' k t s₄ m₄ E'' hk hm hmx mv hCP' _
      have hc₄ := cell_of mv hc (by simp) hCP
      obtain ⟨p1, p2, p3⟩ := small_pow (b := 2) (x := (i : Int)) (.inr rfl) (show k < 5 by omega)
      refine tk_mono ?_
      refine wpAny_BinOp (wpAny_BinOp (name_cell rfl rfl rfl hc₄ ?_))
      refine wpAny_BinOp (wpAny_Constant_int (name_local rfl rfl hm hmx ?_))
      refine pow_int (by omega) p1 ?_
      rw [show ((k : Nat) : Int).toNat = k from Int.toNat_natCast k]
      refine floordiv_int p2 ?_ (.inl p3)
      refine wpAny_Constant_int (mod_int (by decide) fun htk => ?_)
      exact ⟨Mv.tk htk, .inl ⟨_, rfl⟩⟩
    · intro D s' ys hD hDP mv' hl' hF
      exact ⟨mv', .inr ⟨D, ys, rfl, hD, hl', ints_of hF⟩⟩
  · intro D s' m' ys hD hDP mv' hn' hm' ho' hl' hF
    rw [range_all] at hF
    have fresh : ∀ T, s.heap.get? T = none → T ∉ [L, L + 1, L + 2, L + 3] := fun T hT hm => by
      obtain ⟨o, e⟩ := hXl T hm
      rw [hT] at e; cases e
    refine h s' m' D mv' hn' hm' ho' ⟨fresh D hD, hDP, ys, hl', hF.mono fun i y hy => ?_⟩
    rcases hy with f | ⟨T, its, e, a1, a2, a3, a4⟩
    · exact f.elim
    · exact ⟨T, its, e, fresh T a2, a1, a3, a4⟩
end
end Mine

namespace Mine
variable {c P : Addr} {mg mb : Str → Option Value} {h₁ : Heap}

def bitOf (w k : Nat) : Int := ((w : Int).fdiv (2 ^ k)).fmod 2
def nameOf (mk : Nat → Str) (sz w : Nat) : Str := Txt.join "" ((List.range sz).map fun k => if bitOf w k == 1 then mk k else "a")
abbrev signOf (sz w : Nat) : Str := nameOf (fun _ => "-") sz w

theorem way_getD {sz w k : Nat} (hk : k < sz) : (wayOf sz w).getD k 0 = bitOf w k := by
  unfold wayOf
  rw [List.getD_eq_getElem?_getD, List.getElem?_map, List.getElem?_range hk]; rfl
theorem way_len (sz w : Nat) : (wayOf sz w).length = sz := by simp [wayOf]

theorem paired_at {R : Nat → Value → Prop} {l : List Nat} {ys : List Value} (h : Paired R l ys) : ∀ (i : Nat) (v : Value), ys[i]? = some v → ∃ j, l[i]? = some j ∧ R j v := by
  induction h with
  | nil => intro i v e; simp at e
  | cons hy t ih =>
    intro i v e
    cases i with
    | zero => simp at e; exact ⟨_, rfl, e ▸ hy⟩
    | succ k => simpa using ih k v (by simpa using e)
theorem paired_range {R : Nat → Value → Prop} {n : Nat} {ys : Array Value} (h : Paired R (List.range n) ys.toList) : ys.size = n ∧ ∀ i v, ys[i]? = some v → R i v := by
  refine ⟨by have := h.length; simpa using this.symm, fun i v e => ?_⟩
  obtain ⟨j, hj, hR⟩ := paired_at h i v (by rw [Array.getElem?_toList]; exact e)
  have hi : i < n := by
    rcases Nat.lt_or_ge i n with q | q
    · exact q
    · rw [List.getElem?_eq_none (by simpa using q)] at hj; cases hj
  rw [List.getElem?_range hi] at hj
  cases hj; exact hR

theorem sum_small {g : Nat → Str} (hg : ∀ k, (g k).length ≤ 1) : ∀ l : List Nat, ((l.map g).map (·.length)).sum ≤ l.length
  | [] => Nat.le_refl _
  | k :: r => by
    have h1 := hg k
    have h2 := sum_small hg r
    simp only [List.map_cons, List.sum_cons, List.length_cons]
    omega

section
variable {prog : Program} {w : World} {A : Around} {E : Value → Shared → Prop} {s : Shared} {env : Env}

theorem Fr.keepAt {s s' : Shared} {m : Str → Option Value} (B : Base c P mg mb h₁) (F : Fr c P h₁ s) {X : List Addr} (v : Mv c P X s s') (hX : ∀ b ∈ X, h₁.get? b = none) (hm : s'.heap.Ns h₁.objs.size m) : Fr c P h₁ s' := ⟨F.toAt.mv v hX, m, hm⟩

set_option maxHeartbeats 4000000 in
theorem law_names {f L D M : Addr} {cd : Value} {sz : Nat} {mk : Nat → Str} {m : Str → Option Value} {Q : Flow → Shared → Prop} (B : Base c P mg mb h₁) (at' : At c P h₁ s) (hh : A.handled = none) (hsz : sz ≤ 5) (hmk : ∀ k, (mk k).length ≤ 1)
    (hn : s.heap.Ns L m) (hcL : c ≠ L) (hPL : P ≠ L) (hways : m "ways" = some (.ref D)) (hD : WaysL P [L, L + 1, L + 2, L + 3] s.heap D sz (2 ^ sz)) (hmarks : s.heap.IsCell (L + 3) (some (.ref M))) (hMP : L + 3 ≠ P) (hM : StrL P s.heap M ((List.range sz).map mk))
    (h : ∀ s' m' D', Mv c P [L] s s' → s'.heap.Ns L m' → m' "names" = some (.ref D') → (∀ q : Str, q ≠ "names" → m' q = m q) → s.heap.get? D' = none → StrL P s'.heap D' ((List.range (2 ^ sz)).map (nameOf mk sz)) → Q .next s') :
    wpAny (model prog w) A (exec (sAt 9 4) (lawEnv cd f L)) Q E s := by
  show wpAny (model prog w) A (exec (Stmt.Assign [Expr.Name _ _] (Expr.ListComp (Expr.Call (Expr.Attribute (Expr.Constant (Const.str _) _ _) _ _) [Expr.ListComp (Expr.IfExp (Expr.Compare (Expr.Name _ _) [CmpOp.Eq] [Expr.Constant (Const.int 1) _ _] _) (Expr.Name _ _) (Expr.Constant (Const.str _) _ _) _) [⟨Expr.Tuple [Expr.Name _ _, Expr.Name _ _] _ _, Expr.Call (Expr.Name _ _) [Expr.Name _ _, Expr.Name _ _] [] _, [], 0⟩] _ _] [] _)
    [⟨Expr.Name _ _, Expr.Name _ _, [], 0⟩] _ _) _) _) Q E s
  have hn2 : 2 ^ sz ≤ 1000 := Nat.le_trans (Nat.pow_le_pow_right (by decide) hsz) (by decide)
  obtain ⟨hDX, hDP, ys, hl, hF⟩ := hD
  obtain ⟨hys, hat⟩ := paired_range hF
  refine assign_over (c := c) (P := P) (n := 2 ^ sz) (cl := [("marks", L + 3)]) (Pv := fun i y => ∃ T its, y = .ref T ∧ T ≠ P ∧ s.heap.IsList T its ∧ IntsAre its.toList (wayOf sz i)) (φ := fun i => isStr (nameOf mk sz i)) (ψ := fun _ => noList)
    rfl (fun _ => rfl) rfl rfl (by decide) rfl rfl hn hcL hPL rfl hh at'.tab hn2 ?_ ?_ ?_
  · refine name_local rfl rfl hn hways ⟨D, ys, rfl, hDP, Mv.refl _ _, hl, hys, fun i v e => ?_⟩
    obtain ⟨T, its, e, _, a2, a3, a4⟩ := hat i v e
    exact ⟨T, its, e, a2, a3, a4⟩
  · rintro C i v s₃ m₃ E' hi ⟨T, its, rfl, hTP, hT, hints⟩ hm hmx mv hCP _
    have a3 : At c P h₁ s₃ := at'.mv mv (by simp)
    have hT₃ := list_of mv hT (by simp) hTP
    have hM₃ := hM.nil mv
    have hmarks₃ := cell_of mv hmarks (by simp) hMP
    obtain ⟨hMP', zs, hMl, hMs⟩ := hM₃
    refine wpAny_Call_method_lateS rfl rfl rfl ?_
    refine wpAny_Constant_str ?_
    refine ⟨"str", "str.join", F.plainAttrs_str, F.slot_str_join, F.type_str_join, typeIs_str _ _ _, (fun a e => nomatch e), ?_⟩
    refine Calls.callWith_builtin rfl (args1 rfl ?_)
    have mv1 : Mv c P [] s₃ { s₃ with toks := s₃.toks + 1 } := Mv.tk (Nat.le_succ _)
    generalize ({ s₃ with toks := s₃.toks + 1 } : Shared) = s₄ at mv1 ⊢
    have a4 := a3.mv mv1 (by simp)
    refine comp_zip (c := c) (P := P) (n := sz) (cl := []) (Pv := fun k a b => (∃ t, a = .int (bitOf i k) t) ∧ ∃ t, b = .str (mk k) t) (φ := fun k => isStr (if bitOf i k == 1 then mk k else "a")) (ψ := fun _ => noList) rfl (B.gAt a4) (B.bAt a4) B.zip rfl rfl rfl (fun _ => rfl) rfl rfl (by decide) rfl rfl (by decide) hh a4.tab (by omega) ?_ ?_ ?_
    · refine name_local rfl rfl (ns_of mv1 hm (by simp) hCP) hmx ?_
      refine name_cell rfl rfl rfl (cell_of mv1 hmarks₃ (by simp) hMP) ?_
      have e1 : its.size = sz := by have := hints.length; rw [way_len] at this; simpa using this
      have e2 : zs.size = sz := by have := hMs.length; simpa using this
      refine ⟨T, M, its, zs, rfl, rfl, hTP, hMP', Mv.refl _ _, list_of mv1 hT₃ (by simp) hTP, list_of mv1 hMl (by simp) hMP', e1, e2, fun k a b ha hb => ?_⟩
      have hk : k < sz := by have := (Array.getElem?_eq_some_iff.mp ha).1; omega
      obtain ⟨t, ea⟩ := ints_at hints k a (by rw [Array.getElem?_toList]; exact ha)
      obtain ⟨u, eb⟩ := strs_at hMs k b (by rw [Array.getElem?_toList]; exact hb)
      rw [way_getD hk] at ea
      rw [List.getD_eq_getElem?_getD, List.getElem?_map, List.getElem?_range hk] at eb
      exact ⟨⟨t, ea⟩, u, eb⟩
    · rintro C' k a b s₅ m₅ E'' hk ⟨⟨t, rfl⟩, u, rfl⟩ hm₅ hx hy mv₅ hCP' _
      refine wpAny_IfExp (wpAny_isTrue_Compare1 ?_)
      refine name_local rfl rfl hm₅ hx (wpAny_Constant_int (eq_int (wpAny_truthy_bool ?_)))
      cases e : (bitOf i k == 1) with
      | true =>
        simp only [if_true]
        refine name_local rfl rfl hm₅ hy ⟨Mv.tk (Nat.le_succ _), .inl ⟨u, ?_⟩⟩
        rfl
      | false =>
        simp only [Bool.false_eq_true, if_false]
        exact wpAny_Constant_str ⟨Mv.tk (s := s₅) (tk := s₅.toks + 1 + 1) (by omega), .inl ⟨_, rfl⟩⟩
    · intro D' s' ys' hD' hDP' mv' hl' hF'
      have hst := strs_of hF'
      refine tk_mono (join_listW hl' hst (by decide) ?_ fun t' k htk => ?_)
      · have e1 := sum_small (g := fun k => if bitOf i k == 1 then mk k else "a") (fun k => by split; exact hmk k; decide) (List.range sz)
        simp only [List.length_map, List.length_range] at e1 ⊢
        omega
      · exact ⟨(mv1.trans mv').trans (Mv.tk htk), .inl ⟨t', rfl⟩⟩
  · intro D' s' m' ys' hD' hDP' mv' hn' hm' ho' hl' hF'
    exact h s' m' D' mv' hn' hm' ho' hD' ⟨hDP', ys', hl', strs_of hF'⟩

set_option maxHeartbeats 4000000 in
theorem law_signs {f L D : Addr} {cd : Value} {sz : Nat} {m : Str → Option Value} {Q : Flow → Shared → Prop} (at' : At c P h₁ s) (hh : A.handled = none) (hsz : sz ≤ 5)
    (hn : s.heap.Ns L m) (hcL : c ≠ L) (hPL : P ≠ L) (hways : m "ways" = some (.ref D)) (hD : WaysL P [L, L + 1, L + 2, L + 3] s.heap D sz (2 ^ sz))
    (h : ∀ s' m' D', Mv c P [L] s s' → s'.heap.Ns L m' → m' "signs" = some (.ref D') → (∀ q : Str, q ≠ "signs" → m' q = m q) → s.heap.get? D' = none → StrL P s'.heap D' ((List.range (2 ^ sz)).map (signOf sz)) → Q .next s') :
    wpAny (model prog w) A (exec (sAt 9 10) (lawEnv cd f L)) Q E s := by
  show wpAny (model prog w) A (exec (Stmt.Assign [Expr.Name _ _] (Expr.ListComp (Expr.Call (Expr.Attribute (Expr.Constant (Const.str _) _ _) _ _) [Expr.ListComp (Expr.IfExp (Expr.Compare (Expr.Name _ _) [CmpOp.Eq] [Expr.Constant (Const.int 1) _ _] _) (Expr.Constant (Const.str _) _ _) (Expr.Constant (Const.str _) _ _) _) [⟨Expr.Name _ _, Expr.Name _ _, [], 0⟩] _ _] [] _)
    [⟨Expr.Name _ _, Expr.Name _ _, [], 0⟩] _ _) _) _) Q E s
  have hn2 : 2 ^ sz ≤ 1000 := Nat.le_trans (Nat.pow_le_pow_right (by decide) hsz) (by decide)
  obtain ⟨hDX, hDP, ys, hl, hF⟩ := hD
  obtain ⟨hys, hat⟩ := paired_range hF
  refine assign_over (c := c) (P := P) (n := 2 ^ sz) (cl := []) (Pv := fun i y => ∃ T its, y = .ref T ∧ T ≠ P ∧ s.heap.IsList T its ∧ IntsAre its.toList (wayOf sz i)) (φ := fun i => isStr (signOf sz i)) (ψ := fun _ => noList)
    rfl (fun _ => rfl) rfl rfl (by decide) rfl rfl hn hcL hPL rfl hh at'.tab hn2 ?_ ?_ ?_
  · refine name_local rfl rfl hn hways ⟨D, ys, rfl, hDP, Mv.refl _ _, hl, hys, fun i v e => ?_⟩
    obtain ⟨T, its, e, _, a2, a3, a4⟩ := hat i v e
    exact ⟨T, its, e, a2, a3, a4⟩
  · rintro C i v s₃ m₃ E' hi ⟨T, its, rfl, hTP, hT, hints⟩ hm hmx mv hCP _
    have a3 : At c P h₁ s₃ := at'.mv mv (by simp)
    have hT₃ := list_of mv hT (by simp) hTP
    refine wpAny_Call_method_lateS rfl rfl rfl ?_
    refine wpAny_Constant_str ?_
    refine ⟨"str", "str.join", F.plainAttrs_str, F.slot_str_join, F.type_str_join, typeIs_str _ _ _, (fun a e => nomatch e), ?_⟩
    refine Calls.callWith_builtin rfl (args1 rfl ?_)
    have mv1 : Mv c P [] s₃ { s₃ with toks := s₃.toks + 1 } := Mv.tk (Nat.le_succ _)
    generalize ({ s₃ with toks := s₃.toks + 1 } : Shared) = s₄ at mv1 ⊢
    have a4 := a3.mv mv1 (by simp)
    refine comp_over (c := c) (P := P) (n := sz) (cl := []) (Pv := fun k a => ∃ t, a = .int (bitOf i k) t) (φ := fun k => isStr (if bitOf i k == 1 then "-" else "a")) (ψ := fun _ => noList) (fun _ => rfl) rfl rfl (by decide) rfl hh a4.tab (by omega) ?_ ?_ ?_
    · refine name_local rfl rfl (ns_of mv1 hm (by simp) hCP) hmx ?_
      have e1 : its.size = sz := by have := hints.length; rw [way_len] at this; simpa using this
      refine ⟨T, its, rfl, hTP, Mv.refl _ _, list_of mv1 hT₃ (by simp) hTP, e1, fun k a ha => ?_⟩
      have hk : k < sz := by have := (Array.getElem?_eq_some_iff.mp ha).1; omega
      obtain ⟨t, ea⟩ := ints_at hints k a (by rw [Array.getElem?_toList]; exact ha)
      rw [way_getD hk] at ea
      exact ⟨t, ea⟩
    · rintro C' k a s₅ m₅ E'' hk ⟨t, rfl⟩ hm₅ hx mv₅ hCP' _
      refine wpAny_IfExp (wpAny_isTrue_Compare1 ?_)
      refine name_local rfl rfl hm₅ hx (wpAny_Constant_int (eq_int (wpAny_truthy_bool ?_)))
      cases e : (bitOf i k == 1) with
      | true =>
        simp only [if_true]
        exact wpAny_Constant_str ⟨Mv.tk (s := s₅) (tk := s₅.toks + 1 + 1) (by omega), .inl ⟨_, rfl⟩⟩
      | false =>
        simp only [Bool.false_eq_true, if_false]
        exact wpAny_Constant_str ⟨Mv.tk (s := s₅) (tk := s₅.toks + 1 + 1) (by omega), .inl ⟨_, rfl⟩⟩
    · intro D' s' ys' hD' hDP' mv' hl' hF'
      have hst := strs_of hF'
      refine tk_mono (join_listW hl' hst (by decide) ?_ fun t' k htk => ?_)
      · have e1 := sum_small (g := fun k => if bitOf i k == 1 then "-" else "a") (fun k => by split <;> decide) (List.range sz)
        simp only [List.length_map, List.length_range] at e1 ⊢
        omega
      · exact ⟨(mv1.trans mv').trans (Mv.tk htk), .inl ⟨t', rfl⟩⟩
  · intro D' s' m' ys' hD' hDP' mv' hn' hm' ho' hl' hF'
    exact h s' m' D' mv' hn' hm' ho' hD' ⟨hDP', ys', hl', strs_of hF'⟩
end
end Mine

namespace Mine
variable {c P : Addr} {mg mb : Str → Option Value} {h₁ : Heap}

def dbl (x : Str) : Str := Txt.replace x "\"" "\"\""
def wrap (x : Str) : Str := Str.ofString "257 \"" ++ x ++ Str.ofString "\""
def fileOf (sz i : Nat) : Str := foldedOf (signOf sz i)
def toldOf (sz i : Nat) : Str := foldedOf (Str.ofString "257_-" ++ signOf sz i)
abbrev upTo (n : Nat) (F : Nat → Str) : List Str := (List.range n).map F

/-- what the law asks, in plain words -/
structure LawOk (sz : Nat) (mk : Nat → Str) : Prop where
  parse : ∀ i, i < 2 ^ sz → Parse (wrap (dbl (nameOf mk sz i))) (nameOf mk sz i)
  name : ∀ i, i < 2 ^ sz → Plat (nameOf mk sz i) (fileOf sz i)
  doubled : ∀ i, i < 2 ^ sz → Plat (wrap (dbl (nameOf mk sz i))) (toldOf sz i)
  plain : ∀ i, i < 2 ^ sz → Plat (wrap (nameOf mk sz i)) (toldOf sz i)
  again : ∀ i, i < 2 ^ sz → Plat (fileOf sz i) (fileOf sz i) ∧ Plat (toldOf sz i) (toldOf sz i)
  okName : ∀ i, i < 2 ^ sz → PyData.strOk (nameOf mk sz i) = true
  okFile : ∀ i, i < 2 ^ sz → PyData.strOk (fileOf sz i) = true
  okTold : ∀ i, i < 2 ^ sz → PyData.strOk (toldOf sz i) = true
  len : ∀ i, i < 2 ^ sz → (nameOf mk sz i).length ≤ 100 ∧ (dbl (nameOf mk sz i)).length ≤ 200 ∧ (signOf sz i).length ≤ 100
  files : ((uniq (upTo (2 ^ sz) (fileOf sz))).length : Int) = (fibPair (sz + 2)).1 - 1
  told : ((uniq (upTo (2 ^ sz) (toldOf sz))).length : Int) = (fibPair (sz + 1)).1

theorem upTo_get {n : Nat} {F : Nat → Str} {i : Nat} (hi : i < n) : (upTo n F).getD i "" = F i := by
  rw [List.getD_eq_getElem?_getD, List.getElem?_map, List.getElem?_range hi]; rfl
theorem upTo_mem {n : Nat} {F : Nat → Str} {x : Str} (h : x ∈ upTo n F) : ∃ i, i < n ∧ F i = x := by
  obtain ⟨i, hi, e⟩ := List.mem_map.mp h
  exact ⟨i, List.mem_range.mp hi, e⟩
theorem upTo_len {n : Nat} {F : Nat → Str} : (upTo n F).length = n := by simp [upTo]
theorem upTo_ok {n : Nat} {F : Nat → Str} (h : ∀ i, i < n → PyData.strOk (F i) = true) : ∀ x ∈ upTo n F, PyData.strOk x = true := fun x hx => by
  obtain ⟨i, hi, rfl⟩ := upTo_mem hx
  exact h i hi

section
variable {prog : Program} {w : World} {A : Around} {E : Value → Shared → Prop} {s : Shared} {env : Env}

/-- over a list, the element's proof behind the iterator's -/
theorem comp_late {elt iter : Expr} {x : Str} {px pos : Pos} {scope : Scope} {cl : List (Str × Addr)} {n : Nat} {φ : Nat → Value → Prop} {ψ : Nat → Array Value → Prop} {Q : Value → Shared → Prop}
    (hs : ∀ x, foldedSetIterable iter env x = pure x) (hclos : closureFor scope env = pure cl) (hkind : scope.kind = .function) (hnames : ∀ x ∈ scope.names, x.2 = .local → scope.names.lookup x.1 = some .local)
    (hx : (relabel scope env).names.lookup x = some .local) (hh : A.handled = none) (tab : TabOk c P s.heap) (hn : n ≤ 1000)
    (hiter : wpAny (model prog w) A (eval iter env) (fun xv s₁ => ∃ D ys, xv = .ref D ∧ D ≠ P ∧ Mv c P [] s s₁ ∧ s₁.heap.IsList D ys ∧ ys.size = n ∧
      ∀ C i v s₃ m₃ E', i < n → ys[i]? = some v → s₃.heap.Ns C m₃ → m₃ x = some v → Mv c P [] s₁ s₃ → C ≠ P → wpAny (model prog w) A (eval elt (blockEnv scope env cl C)) (fun y s₄ => Mv c P [] s₃ s₄ ∧ Is (φ i) (ψ i) s₃.heap s₄.heap y) E' s₃) E s)
    (h : ∀ D s' ys, s.heap.get? D = none → D ≠ P → Mv c P [] s s' → s'.heap.IsList D ys → Paired (fun i y => Item P (φ i) (ψ i) s.heap s'.heap y) (List.range n) ys.toList → Q (.ref D) s') :
    wpAny (model prog w) A (eval (.ListComp elt [⟨.Name x px, iter, [], 0⟩] scope pos) env) Q E s := by
  refine comp_eval (c := c) (P := P) (p := fun _ => true) (φ := φ) (ψ := ψ) hs hclos hkind hnames (wpAny_mono hiter (fun xv s₁ h₁ => ?_) fun _ _ e => e)
  obtain ⟨D, ys, rfl, hD, mv, hl, hsz, helt⟩ := h₁
  refine clause_list hl hD (by omega) hh (mv.tab tab) mv hx hkind (fun C i v s₃ m₃ E' _ _ _ _ _ _ => wpAny_tests_nil ⟨rfl, Mv.refl _ _⟩) (fun C i v s₃ m₃ E' hi _ hm hmx mv₃ hCP hC => ?_) ?_
  · exact helt C i v s₃ m₃ E' (by have := (Array.getElem?_eq_some_iff.mp hi).1; omega) hi hm hmx mv₃ hCP
  · intro D' s' ys' hD' hDP mv' hl' hF
    rw [range_all, hsz] at hF
    exact h D' s' ys' hD' hDP mv' hl' hF

theorem comp_idx {elt iter : Expr} {x : Str} {px pos : Pos} {scope : Scope} {cl : List (Str × Addr)} {n : Nat} {F G : Nat → Str} {Q : Value → Shared → Prop}
    (hs : ∀ x, foldedSetIterable iter env x = pure x) (hclos : closureFor scope env = pure cl) (hkind : scope.kind = .function) (hnames : ∀ x ∈ scope.names, x.2 = .local → scope.names.lookup x.1 = some .local)
    (hx : (relabel scope env).names.lookup x = some .local) (hh : A.handled = none) (tab : TabOk c P s.heap) (hn : n ≤ 1000)
    (hiter : wpAny (model prog w) A (eval iter env) (fun xv s₁ => ∃ D, xv = .ref D ∧ Mv c P [] s s₁ ∧ StrL P s₁.heap D (upTo n F)) E s)
    (helt : ∀ C i t s₃ m₃ E', i < n → s₃.heap.Ns C m₃ → m₃ x = some (.str (F i) t) → Mv c P [] s s₃ → C ≠ P → wpAny (model prog w) A (eval elt (blockEnv scope env cl C)) (fun v s₄ => Mv c P [] s₃ s₄ ∧ ∃ t, v = .str (G i) t) E' s₃)
    (h : ∀ D s', s.heap.get? D = none → Mv c P [] s s' → StrL P s'.heap D (upTo n G) → Q (.ref D) s') :
    wpAny (model prog w) A (eval (.ListComp elt [⟨.Name x px, iter, [], 0⟩] scope pos) env) Q E s := by
  refine comp_over (c := c) (P := P) (n := n) (Pv := fun i v => ∃ t, v = .str (F i) t) (φ := fun i => isStr (G i)) (ψ := fun _ => noList) hs hclos hkind hnames hx hh tab hn
    (wpAny_mono hiter (fun xv s₁ h₁ => ?_) fun _ _ e => e) (fun C i v s₃ m₃ E' hi hPv hm hmx mv hCP _ => ?_) fun D s' ys hD hDP mv hl hF => ?_
  · obtain ⟨D, rfl, mv, hDP, ys, hl, hst⟩ := h₁
    have hlen : ys.size = n := by have := hst.length; rw [upTo_len] at this; simpa using this
    refine ⟨D, ys, rfl, hDP, mv, hl, hlen, fun i v hv => ?_⟩
    have hi : i < n := by have := (Array.getElem?_eq_some_iff.mp hv).1; omega
    obtain ⟨t, e⟩ := strs_at hst i v (by rw [Array.getElem?_toList]; exact hv)
    rw [upTo_get hi] at e
    exact ⟨t, e⟩
  · obtain ⟨t, rfl⟩ := hPv
    refine wpAny_mono (helt C i t s₃ m₃ E' hi hm hmx mv hCP) (fun v s₄ h₄ => ?_) fun _ _ e => e
    exact ⟨h₄.1, .inl h₄.2⟩
  · exact h D s' hD mv ⟨hDP, ys, hl, strs_of hF⟩

/-- `x, y = v`, `v` a list of two -/
theorem assign_pair_list {x y : Str} {px py tpos pos : Pos} {k : Nat} {value : Expr} {m : Str → Option Value} {Q : Flow → Shared → Prop}
    (hs : swapsWithSole [.Tuple [.Name x px, .Name y py] k tpos] value pos.line env = pure false) (hw : swappedStores [.Tuple [.Name x px, .Name y py] k tpos] value env = pure none)
    (hk : env.scope.kind = .function) (hx : env.kindOf x = some .local) (hy : env.kindOf y = some .local) (hxy : x ≠ y) (hh : A.handled = none) (hn : s.heap.Ns env.locals m) (hc : c ≠ env.locals) (hP : P ≠ env.locals)
    (h : wpAny (model prog w) A (eval value env) (fun v s₁ => ∃ T a b, v = .ref T ∧ s₁.heap.IsList T #[a, b] ∧ Mv c P [] s s₁ ∧
      ∀ s' m', Mv c P [env.locals] s₁ s' → s'.heap.Ns env.locals m' → m' x = some a → m' y = some b → (∀ q, q ≠ x → q ≠ y → m' q = m q) → Q .next s') E s) :
    wpAny (model prog w) A (exec (.Assign [.Tuple [.Name x px, .Name y py] k tpos] value pos) env) Q E s := by
  refine Assign_Tuple (wpAny_mono h (fun v s₁ h₁ => ?_) fun _ _ e => e) hs hw
  obtain ⟨T, a, b, rfl, hT, mv, hQ⟩ := h₁
  have hn₁ := ns_of mv hn (by simp) (Ne.symm hP)
  rw [assign_Tuple]
  refine wpAny_bind (wpAny_standAt ?_)
  unfold unpack
  refine wpAny_bind (wpAny_holding ?_)
  refine kun_itemsOf (items := #[a, b]) hh hT fun h₂ he₂ => ?_
  have k₂ : ∀ b o, s₁.heap.get? b = some o → h₂.get? b = some o := fun b o e => he₂ b o (Nat.ne_of_lt (Heap.lt_size e)) e
  show wpAny _ _ (assignInOrder [assign (.Name x px) env, assign (.Name y py) env] [a, b]) _ _ _
  refine assignInOrder_cons (wpAny_assign_Name (wpAny_storeName_local hx (hn₁.keeps k₂) (fun h₃ hn₃ hs₃ => ?_) (by rw [hk]; rfl)))
  refine assignInOrder_cons (wpAny_assign_Name (wpAny_storeName_local hy hn₃ (fun h₄ hn₄ hs₄ => ?_) (by rw [hk]; rfl)))
  refine assignInOrder_nil ?_
  refine hQ _ _ (Mv.off (s := s₁) (tk := s₁.toks + 1 + 1) (fun b o hb e => ?_) (by omega) (by simpa using hc) (by simpa using hP)) hn₄ ?_ (if_pos rfl) ?_
  · have hb' : b ≠ env.locals := fun q => hb (List.mem_singleton.mpr q)
    exact hs₄.extBut b o hb' (hs₃.extBut b o hb' (k₂ b o e))
  · simp [hxy]
  · intro q h1 h2
    simp [h1, h2]

theorem off_live {X : List Addr} {D : Addr} (hX : ∀ b ∈ X, ∃ o, s.heap.get? b = some o) (h : s.heap.get? D = none) : D ∉ X := fun hm => by
  obtain ⟨o, e⟩ := hX D hm
  rw [h] at e; cases e

set_option maxHeartbeats 4000000 in
theorem law_replies {f L D : Addr} {cd : Value} {n : Nat} {N : Nat → Str} {m : Str → Option Value} {Q : Flow → Shared → Prop} (at' : At c P h₁ s) (hh : A.handled = none) (hn2 : n ≤ 1000) (hlen : ∀ i, i < n → (N i).length ≤ 100 ∧ (dbl (N i)).length ≤ 200)
    (hn : s.heap.Ns L m) (hcL : c ≠ L) (hPL : P ≠ L) (hnames : m "names" = some (.ref D)) (hD : StrL P s.heap D (upTo n N))
    (h : ∀ s' m' D₁ D₂, Mv c P [L] s s' → s'.heap.Ns L m' → m' "doubled" = some (.ref D₁) → m' "plain" = some (.ref D₂) → (∀ q : Str, q ≠ "doubled" → q ≠ "plain" → m' q = m q) → D₁ ∉ [L] → D₂ ∉ [L] →
      StrL P s'.heap D₁ (upTo n fun i => wrap (dbl (N i))) → StrL P s'.heap D₂ (upTo n fun i => wrap (N i)) → Q .next s') :
    wpAny (model prog w) A (exec (sAt 9 5) (lawEnv cd f L)) Q E s := by
  show wpAny (model prog w) A (exec (Stmt.Assign [Expr.Tuple [Expr.Name _ _, Expr.Name _ _] _ _] (Expr.ListComp (Expr.ListComp (Expr.BinOp (Expr.BinOp (Expr.Constant (Const.str _) _ _) Operator.Add (Expr.Name _ _) _) Operator.Add (Expr.Constant (Const.str _) _ _) _) [⟨Expr.Name _ _, Expr.Name _ _, [], 0⟩] _ _)
    [⟨Expr.Name _ _, Expr.List [Expr.ListComp (Expr.Call (Expr.Attribute (Expr.Name _ _) _ _) [Expr.Constant (Const.str _) _ _, Expr.Constant (Const.str _) _ _] [] _) [⟨Expr.Name _ _, Expr.Name _ _, [], 0⟩] _ _, Expr.Name _ _] _, [], 0⟩] _ _) _) _) Q E s
  have hLlive : ∀ b ∈ [L], ∃ o, s.heap.get? b = some o := fun b hb => by
    rw [List.mem_singleton.mp hb]
    obtain ⟨o, _, _, ho, _⟩ := hn
    exact ⟨o, ho⟩
  refine assign_pair_list (c := c) (P := P) rfl rfl rfl rfl rfl (by decide) hh hn hcL hPL ?_
  refine comp_late (c := c) (P := P) (n := 2) (cl := []) (φ := fun _ _ => False) (ψ := fun i its => StrsAre its.toList (if i = 0 then upTo n fun i => wrap (dbl (N i)) else upTo n fun i => wrap (N i))) (fun _ => rfl) rfl rfl (by decide) rfl hh at'.tab (by decide) ?_ ?_
  · refine list2 rfl ?_
    refine comp_idx (c := c) (P := P) (n := n) (cl := []) (F := N) (G := fun i => dbl (N i)) (fun _ => rfl) rfl rfl (by decide) rfl hh at'.tab hn2 ?_ ?_ ?_
    · exact name_local rfl rfl hn hnames ⟨D, rfl, Mv.refl _ _, hD⟩
    · intro C i t s₃ m₃ E' hi hm hmx mv hCP
      refine tk_mono ?_
      refine wpAny_Call_method_lateS rfl rfl rfl ?_
      refine name_local rfl rfl hm hmx ?_
      refine ⟨"str", "str.replace", F.plainAttrs_str, F.slot_str_replace, F.type_str_replace, typeIs_str _ _ _, (fun a e => nomatch e), ?_⟩
      refine Calls.callWith_builtin rfl (args2 rfl ?_)
      refine wpAny_Constant_str (wpAny_Constant_str ?_)
      refine SC.replaceW (u := s₃.toks) (v := s₃.toks + 1) (Nat.ne_of_gt (Nat.le_trans at'.tk mv.toks)) (Nat.succ_ne_zero _) (Nat.ne_of_lt (Nat.lt_succ_self _)) (by decide) (by have := (hlen i hi).1; omega) (by decide) fun t' k htk => ?_
      exact ⟨Mv.tk htk, t', rfl⟩
    · intro D₁ s₁ hD₁ mv₁ hs₁
      refine name_local rfl rfl (ns_of mv₁ hn (by simp) (Ne.symm hPL)) hnames fun D₂ h₂ hD₂ hob hk₂ => ?_
      have mv₂ : Mv c P [] s₁ { s₁ with heap := h₂ } := Mv.keep (s := s₁) (tk := s₁.toks) hk₂ (Nat.le_refl _)
      have hP2 : D₂ ≠ P := by
        rintro rfl
        obtain ⟨ps, _, ⟨_, t2⟩, _⟩ := mv₁.tab at'.tab
        have : s₁.heap.get? D₂ = none := hD₂
        rw [t2] at this; cases this
      refine ⟨D₂, #[.ref D₁, .ref D], rfl, hP2, mv₁.trans mv₂, ⟨_, hob, rfl, _, rfl⟩, rfl, fun C i v s₃ m₃ E' hi hv hm hmx mv hCP => ?_⟩
      have a3 : At c P h₁ s₃ := ((at'.mv mv₁ (by simp)).mv mv₂ (by simp)).mv mv (by simp)
      obtain ⟨T, W, rfl, hWlen, hTL, hgoal⟩ : ∃ T W, v = .ref T ∧ (∀ j, j < n → (W j).length ≤ 200) ∧ StrL P s₃.heap T (upTo n W) ∧ (upTo n fun j => wrap (W j)) = (if i = 0 then upTo n fun i => wrap (dbl (N i)) else upTo n fun i => wrap (N i)) := by
        match i, hi with
        | 0, _ =>
          simp at hv
          exact ⟨D₁, fun i => dbl (N i), hv.symm, fun j hj => (hlen j hj).2, (hs₁.nil mv₂).nil mv, rfl⟩
        | 1, _ =>
          simp at hv
          exact ⟨D, N, hv.symm, fun j hj => Nat.le_trans (hlen j hj).1 (by decide), ((hD.nil mv₁).nil mv₂).nil mv, rfl⟩
      refine comp_idx (c := c) (P := P) (n := n) (cl := []) (F := W) (G := fun i => wrap (W i)) (fun _ => rfl) rfl rfl (by decide) rfl hh a3.tab hn2 ?_ ?_ ?_
      · exact name_local rfl rfl hm hmx ⟨T, rfl, Mv.refl _ _, hTL⟩
      · intro C' j t s₄ m₄ E'' hj hm₄ hmx₄ mv₄ hCP'
        have hw := hWlen j hj
        refine tk_mono ?_
        refine wpAny_BinOp (wpAny_BinOp (wpAny_Constant_str (name_local rfl rfl hm₄ hmx₄ ?_)))
        refine PyProof.Rows.add_str (fun t₁ k₁ => wpAny_Constant_str (PyProof.Rows.add_str (fun t₂ k₂ htk => ⟨Mv.tk htk, t₂, rfl⟩) ?_)) ?_
        · have e1 : (Str.ofString "257 \"" ++ W j).length = 5 + (W j).length := (PySem.Str.length_append _ _).trans rfl
          rw [e1, show (Str.ofString "\"").length = 1 from rfl]
          unfold sizeLine; omega
        · rw [show (Str.ofString "257 \"").length = 5 from rfl]
          unfold sizeLine; omega
      · intro D' s' hD' mv' hs'
        obtain ⟨hDP', zs, hl', hst'⟩ := hs'
        exact ⟨mv', .inr ⟨D', zs, rfl, hD', hl', hgoal ▸ hst'⟩⟩
  · intro T s' ys hT hTP mv' hl' hF
    have hF' : ∃ T₁ T₂ its₁ its₂, ys = #[.ref T₁, .ref T₂] ∧ (T₁ ≠ P ∧ s.heap.get? T₁ = none ∧ s'.heap.IsList T₁ its₁ ∧ StrsAre its₁.toList (upTo n fun i => wrap (dbl (N i)))) ∧ (T₂ ≠ P ∧ s.heap.get? T₂ = none ∧ s'.heap.IsList T₂ its₂ ∧ StrsAre its₂.toList (upTo n fun i => wrap (N i))) := by
      obtain ⟨zs⟩ := ys
      rw [show List.range 2 = [0, 1] from rfl] at hF
      cases hF with
      | cons h0 t =>
        cases t with
        | cons h1 t =>
          cases t
          rcases h0 with f | ⟨T₁, its₁, rfl, a1, a2, a3, a4⟩
          · exact f.elim
          rcases h1 with f | ⟨T₂, its₂, rfl, b1, b2, b3, b4⟩
          · exact f.elim
          exact ⟨T₁, T₂, its₁, its₂, rfl, ⟨a1, a2, a3, a4⟩, b1, b2, b3, b4⟩
    obtain ⟨T₁, T₂, its₁, its₂, rfl, ⟨a1, a2, a3, a4⟩, b1, b2, b3, b4⟩ := hF'
    refine ⟨T, _, _, rfl, hl', mv', fun s₂ m₂ mv₂ hn₂ e1 e2 e3 => ?_⟩
    have o1 := off_live hLlive a2
    have o2 := off_live hLlive b2
    exact h s₂ m₂ T₁ T₂ (mv'.nil.trans mv₂) hn₂ e1 e2 e3 o1 o2 ⟨a1, its₁, list_of mv₂ a3 o1 a1, a4⟩ ⟨b1, its₂, list_of mv₂ b3 o2 b1, b4⟩
end
end Mine

namespace Mine
variable {c P : Addr} {mg mb : Str → Option Value} {h₁ : Heap}

section
variable {prog : Program} {w : World} {A : Around} {E : Value → Shared → Prop} {s : Shared} {env : Env} {f D₁ D₂ D₃ D₄ : Addr} {cd : Value} {n : Nat} {m : Str → Option Value} {Q : Flow → Shared → Prop}

theorem len_le {n : Nat} (h : n ≤ 32) : n ≤ 1000 := by omega

set_option maxHeartbeats 4000000 in
theorem law_check1 {X N : Nat → Str} (B : Base c P mg mb h₁) (Fs : Fns c P mg h₁) (F : Fr c P h₁ s) (hh : A.handled = none) (hroom : A.depth + 1 < recursionLimit) (hu : A.units + 64 < cLine) (hn2 : n ≤ 1000) (hok : ∀ i, i < n → PyData.strOk (N i) = true) (hp : ∀ i, i < n → Parse (X i) (N i))
    (hn : s.heap.Ns h₁.objs.size m) (h1 : m "doubled" = some (.ref D₁)) (h2 : m "names" = some (.ref D₂)) (hD₁ : StrL P s.heap D₁ (upTo n X)) (hD₂ : StrL P s.heap D₂ (upTo n N))
    (h : ∀ s', Mv c P [] s s' → Q .next s') :
    wpAny (model prog w) A (exec (sAt 9 6) (lawEnv cd f h₁.objs.size)) Q E s := by
  show wpAny (model prog w) A (exec (Stmt.If (Expr.Compare (Expr.ListComp (Expr.Call (Expr.Name _ _) [Expr.Name _ _] [] _) [⟨Expr.Name _ _, Expr.Name _ _, [], 0⟩] _ _) [CmpOp.NotEq] [Expr.Name _ _] _) _ [] _) _) Q E s
  have hPL : h₁.objs.size ≠ P := Nat.ne_of_gt B.Plt
  refine wpAny_If (wpAny_isTrue_Compare1 ?_)
  refine comp_idx (c := c) (P := P) (n := n) (cl := []) (F := X) (G := N) (fun _ => rfl) rfl rfl (by decide) rfl hh F.toAt.tab hn2 ?_ ?_ ?_
  · exact name_local rfl rfl hn h1 ⟨D₁, rfl, Mv.refl _ _, hD₁⟩
  · intro C i t s₃ m₃ E' hi hm hmx mv hCP
    refine parse_name B Fs (F.mv B mv) hroom rfl (hp i hi) rfl rfl rfl rfl ?_
    exact name_local rfl rfl hm hmx ⟨Mv.refl _ _, ⟨_, rfl⟩, fun s' t' mv' => ⟨mv', t', rfl⟩⟩
  · intro D' s' hD' mv' hs'
    refine name_local rfl rfl (ns_of mv' hn (by simp) hPL) h2 ?_
    obtain ⟨_, ys, hl, hst⟩ := hs'
    obtain ⟨_, zs, hl2, hst2⟩ := hD₂.nil mv'
    refine ne_strs hl hl2 hst hst2 (upTo_ok hok) rfl hu (wpAny_truthy_bool ?_)
    simp only [Bool.false_eq_true, if_false]
    exact wpAny_execs_nil (h s' mv')

set_option maxHeartbeats 4000000 in
theorem law_tell {N X R S : Nat → Str} (B : Base c P mg mb h₁) (Fs : Fns c P mg h₁) (F : Fr c P h₁ s) (hh : A.handled = none) (hroom : A.depth + 1 < recursionLimit) (hn2 : n ≤ 1000) (hp : ∀ i, i < n → Plat (N i) (R i)) (hq : ∀ i, i < n → Plat (X i) (S i))
    (hn : s.heap.Ns h₁.objs.size m) (h1 : m "doubled" = some (.ref D₁)) (h2 : m "names" = some (.ref D₂)) (hD₁ : StrL P s.heap D₁ (upTo n X)) (hD₂ : StrL P s.heap D₂ (upTo n N))
    (h : ∀ s' m' D₃ D₄, Mv c P [h₁.objs.size] s s' → s'.heap.Ns h₁.objs.size m' → m' "files" = some (.ref D₃) → m' "told" = some (.ref D₄) → (∀ q : Str, q ≠ "files" → q ≠ "told" → m' q = m q) → D₃ ∉ [h₁.objs.size] → D₄ ∉ [h₁.objs.size] →
      StrL P s'.heap D₃ (upTo n R) → StrL P s'.heap D₄ (upTo n S) → Q .next s') :
    wpAny (model prog w) A (exec (sAt 9 7) (lawEnv cd f h₁.objs.size)) Q E s := by
  show wpAny (model prog w) A (exec (Stmt.Assign [Expr.Tuple [Expr.Name _ _, Expr.Name _ _] _ _] (Expr.Tuple [Expr.ListComp (Expr.Call (Expr.Name _ _) [Expr.Name _ _] [] _) [⟨Expr.Name _ _, Expr.Name _ _, [], 0⟩] _ _, Expr.ListComp (Expr.Call (Expr.Name _ _) [Expr.Name _ _] [] _) [⟨Expr.Name _ _, Expr.Name _ _, [], 0⟩] _ _] _ _) _) _) Q E s
  have hPL : h₁.objs.size ≠ P := Nat.ne_of_gt B.Plt
  have hcL : c ≠ h₁.objs.size := Nat.ne_of_lt B.clt
  have hLlive : ∀ {s' : Shared}, s'.heap.Ns h₁.objs.size m → ∀ b ∈ [h₁.objs.size], ∃ o, s'.heap.get? b = some o := fun hn b hb => by
    rw [List.mem_singleton.mp hb]
    obtain ⟨o, _, _, ho, _⟩ := hn
    exact ⟨o, ho⟩
  refine assign_pair_swapped (c := c) (P := P) rfl rfl rfl rfl rfl (by decide) hh hn hcL (Ne.symm hPL) ?_
  refine tuple2 rfl ?_
  refine comp_idx (c := c) (P := P) (n := n) (cl := []) (F := N) (G := R) (fun _ => rfl) rfl rfl (by decide) rfl hh F.toAt.tab hn2 ?_ ?_ ?_
  · exact name_local rfl rfl hn h2 ⟨D₂, rfl, Mv.refl _ _, hD₂⟩
  · intro C i t s₃ m₃ E' hi hm hmx mv hCP
    refine plat_name B Fs (F.mv B mv) hh hroom rfl (hp i hi) rfl rfl rfl rfl ?_
    exact name_local rfl rfl hm hmx ⟨Mv.refl _ _, ⟨_, rfl⟩, fun s' t' mv' => ⟨mv', t', rfl⟩⟩
  intro E₁ s₁ hE₁ mv₁ hs₁
  have F1 := F.mv B mv₁
  have hn₁ := ns_of mv₁ hn (by simp) hPL
  refine comp_idx (c := c) (P := P) (n := n) (cl := []) (F := X) (G := S) (fun _ => rfl) rfl rfl (by decide) rfl hh F1.toAt.tab hn2 ?_ ?_ ?_
  · exact name_local rfl rfl hn₁ h1 ⟨D₁, rfl, Mv.refl _ _, hD₁.nil mv₁⟩
  · intro C i t s₃ m₃ E' hi hm hmx mv hCP
    refine plat_name B Fs (F1.mv B mv) hh hroom rfl (hq i hi) rfl rfl rfl rfl ?_
    exact name_local rfl rfl hm hmx ⟨Mv.refl _ _, ⟨_, rfl⟩, fun s' t' mv' => ⟨mv', t', rfl⟩⟩
  intro E₂ s₂ hE₂ mv₂ hs₂ T h' hT hk hTn
  have mv₃ : Mv c P [] s₂ { s₂ with heap := h' } := Mv.keep (s := s₂) (tk := s₂.toks) hk (Nat.le_refl _)
  refine ⟨T, _, _, rfl, hT, (mv₁.trans mv₂).trans mv₃, fun s' m' mv' hn' e1 e2 e3 => ?_⟩
  have o1 := off_live (hLlive hn) hE₁
  have o2 := off_live (hLlive hn₁) hE₂
  exact h s' m' E₁ E₂ (((mv₁.trans mv₂).trans mv₃).nil.trans mv') hn' e1 e2 e3 o1 o2 (((hs₁.nil mv₂).nil mv₃).mv mv' o1) ((hs₂.nil mv₃).mv mv' o2)

set_option maxHeartbeats 4000000 in
theorem law_check2 {sz : Nat} {tz : Tok} {X R S : Nat → Str} (B : Base c P mg mb h₁) (Fs : Fns c P mg h₁) (F : Fr c P h₁ s) (hh : A.handled = none) (hroom : A.depth + 1 < recursionLimit) (hu : A.units + 64 < cLine) (hn2 : n ≤ 1000) (hsz : sz ≤ 5) (hok : ∀ i, i < n → PyData.strOk (S i) = true) (hp : ∀ i, i < n → Plat (X i) (S i))
    (hfiles : ((uniq (upTo n R)).length : Int) = (fibPair (sz + 2)).1 - 1) (htold : ((uniq (upTo n S)).length : Int) = (fibPair (sz + 1)).1)
    (hn : s.heap.Ns h₁.objs.size m) (hsize : s.heap.IsCell (h₁.objs.size + 2) (some (.int sz tz))) (h1 : m "files" = some (.ref D₁)) (h2 : m "told" = some (.ref D₂)) (h3 : m "plain" = some (.ref D₃)) (hD₁ : StrL P s.heap D₁ (upTo n R)) (hD₂ : StrL P s.heap D₂ (upTo n S)) (hD₃ : StrL P s.heap D₃ (upTo n X))
    (h : ∀ s', Mv c P [] s s' → Q .next s') :
    wpAny (model prog w) A (exec (sAt 9 8) (lawEnv cd f h₁.objs.size)) Q E s := by
  show wpAny (model prog w) A (exec (Stmt.If (Expr.BoolOp BoolOp.Or [Expr.Compare (Expr.List [Expr.Call (Expr.Name _ _) [Expr.Call (Expr.Name _ _) [Expr.Name _ _] [] _] [] _, Expr.Call (Expr.Name _ _) [Expr.Call (Expr.Name _ _) [Expr.Name _ _] [] _] [] _] _) [CmpOp.NotEq]
      [Expr.List [Expr.BinOp (Expr.Call (Expr.Name _ _) [Expr.BinOp (Expr.Name _ _) Operator.Add (Expr.Constant (Const.int 3) _ _) _] [] _) Operator.Sub (Expr.Constant (Const.int 1) _ _) _, Expr.Call (Expr.Name _ _) [Expr.BinOp (Expr.Name _ _) Operator.Add (Expr.Constant (Const.int 2) _ _) _] [] _] _] _,
    Expr.Compare (Expr.ListComp (Expr.Call (Expr.Name _ _) [Expr.Name _ _] [] _) [⟨Expr.Name _ _, Expr.Name _ _, [], 0⟩] _ _) [CmpOp.NotEq] [Expr.Name _ _] _] _) _ [] _) _) Q E s
  have hPL : h₁.objs.size ≠ P := Nat.ne_of_gt B.Plt
  have hKP : h₁.objs.size + 2 ≠ P := Nat.ne_of_gt (Nat.lt_of_lt_of_le B.Plt (Nat.le_add_right _ 2))
  have sizeOf : ∀ {h : Heap} {D : Addr} {F : Nat → Str} {ys : Array Value}, StrsAre ys.toList (upTo n F) → ys.size ≤ 1000 := fun {h D F ys} hst => by
    have := hst.length
    rw [upTo_len] at this
    have e : ys.toList.length = ys.size := by simp
    omega
  refine wpAny_If (wpAny_isTrue_BoolOp ?_)
  refine wpAny_allTrue_Or_cons (wpAny_isTrue_Compare1 ?_)
  refine list2 rfl ?_
  refine len_set_name B F.toAt hh rfl rfl rfl rfl rfl rfl rfl ?_
  obtain ⟨hP1, ys1, hl1, hst1⟩ := id hD₁
  refine name_local rfl rfl hn h1 ⟨D₁, ys1, _, rfl, hl1, hst1, sizeOf (h := s.heap) (D := D₁) hst1, fun s₁ t₁ mv₁ => ?_⟩
  have F1 := F.mv B mv₁
  refine len_set_name B F1.toAt hh rfl rfl rfl rfl rfl rfl rfl ?_
  obtain ⟨hP2, ys2, hl2, hst2⟩ := hD₂.nil mv₁
  refine name_local rfl rfl (ns_of mv₁ hn (by simp) hPL) h2 ⟨D₂, ys2, _, rfl, hl2, hst2, sizeOf (h := s.heap) (D := D₂) hst2, fun s₂ t₂ mv₂ => ?_⟩
  intro L₁ h' hL₁ hob₁ hk₁
  have mv3 : Mv c P [] s { s₂ with heap := h' } := (mv₁.trans mv₂).trans (Mv.keep (s := s₂) (tk := s₂.toks) hk₁ (Nat.le_refl _))
  have hPL1 : L₁ ≠ P := by
    rintro rfl
    obtain ⟨ps, _, ⟨_, t2⟩, _⟩ := (mv₁.trans mv₂).tab F.toAt.tab
    have : s₂.heap.get? L₁ = none := hL₁
    rw [t2] at this; cases this
  have hL₁' : ({ s₂ with heap := h' } : Shared).heap.IsList L₁ #[.int ((uniq (upTo n R)).length : Nat) t₁, .int ((uniq (upTo n S)).length : Nat) t₂] := ⟨_, hob₁, rfl, _, rfl⟩
  generalize ({ s₂ with heap := h' } : Shared) = s₃ at mv3 hL₁' ⊢
  have F3 := F.mv B mv3
  refine list2 rfl ?_
  refine wpAny_BinOp ?_
  refine fib_name (n := sz + 2) B Fs F3 hh hroom rfl (by omega) rfl rfl rfl rfl ?_
  refine wpAny_BinOp (name_cell rfl rfl rfl (cell_of mv3 hsize (by simp) hKP) (wpAny_Constant_int (add_int ?_)))
  refine ⟨Mv.tk (s := s₃) (tk := s₃.toks + 1 + 1) (by omega), ⟨_, by rw [show (sz : Int) + 3 = ((sz + 2 : Nat) : Int) + 1 by omega]⟩, fun s₄ t₄ mv₄ => ?_⟩
  refine wpAny_Constant_int (sub_int ?_)
  have mv5 : Mv c P [] s₃ { s₄ with toks := s₄.toks + 1 + 1 } := mv₄.trans (Mv.tk (by omega))
  generalize ({ s₄ with toks := s₄.toks + 1 + 1 } : Shared) = s₅ at mv5 ⊢
  have F5 := F3.mv B mv5
  refine fib_name (n := sz + 1) B Fs F5 hh hroom rfl (by omega) rfl rfl rfl rfl ?_
  refine wpAny_BinOp (name_cell rfl rfl rfl (cell_of (mv3.trans mv5) hsize (by simp) hKP) (wpAny_Constant_int (add_int ?_)))
  refine ⟨Mv.tk (s := s₅) (tk := s₅.toks + 1 + 1) (by omega), ⟨_, by rw [show (sz : Int) + 2 = ((sz + 1 : Nat) : Int) + 1 by omega]⟩, fun s₆ t₆ mv₆ => ?_⟩
  intro L₂ h'' hL₂ hob₂ hk₂
  have mv7 : Mv c P [] s₃ { s₆ with heap := h'' } := (mv5.trans mv₆).trans (Mv.keep (s := s₆) (tk := s₆.toks) hk₂ (Nat.le_refl _))
  have hL₂' : ({ s₆ with heap := h'' } : Shared).heap.IsList L₂ #[.int ((fibPair (sz + 2)).1 - 1) (s₄.toks + 1), .int (fibPair (sz + 1)).1 t₆] := ⟨_, hob₂, rfl, _, rfl⟩
  generalize ({ s₆ with heap := h'' } : Shared) = s₇ at mv7 hL₂' ⊢
  refine ke_ne_ints (list_of mv7 hL₁' (by simp) hPL1) hL₂' (.cons _ _ (.cons _ _ .nil)) (.cons _ _ (.cons _ _ .nil)) hu (wpAny_truthy_bool ?_)
  rw [hfiles, htold]
  simp only [decide_true, Bool.not_true, Bool.false_eq_true, if_false]
  have mv8 := mv3.trans mv7
  have F7 := F.mv B mv8
  have hn₇ := ns_of mv8 hn (by simp) hPL
  refine wpAny_allTrue_Or_cons (wpAny_isTrue_Compare1 ?_)
  refine comp_idx (c := c) (P := P) (n := n) (cl := []) (F := X) (G := S) (fun _ => rfl) rfl rfl (by decide) rfl hh F7.toAt.tab hn2 ?_ ?_ ?_
  · exact name_local rfl rfl hn₇ h3 ⟨D₃, rfl, Mv.refl _ _, hD₃.nil mv8⟩
  · intro C i t s₃ m₃ E' hi hm hmx mv hCP
    refine plat_name B Fs (F7.mv B mv) hh hroom rfl (hp i hi) rfl rfl rfl rfl ?_
    exact name_local rfl rfl hm hmx ⟨Mv.refl _ _, ⟨_, rfl⟩, fun s' t' mv' => ⟨mv', t', rfl⟩⟩
  · intro D' s' hD' mv' hs'
    refine name_local rfl rfl (ns_of mv' hn₇ (by simp) hPL) h2 ?_
    obtain ⟨_, ys, hl, hst⟩ := hs'
    obtain ⟨_, zs, hl2, hst2⟩ := hD₂.nil (mv8.trans mv')
    refine ne_strs hl hl2 hst hst2 (upTo_ok hok) rfl hu (wpAny_truthy_bool ?_)
    simp only [Bool.false_eq_true, if_false]
    refine wpAny_allTrue_Or_nil ?_
    simp only [Bool.false_eq_true, if_false]
    exact wpAny_execs_nil (h s' (mv8.trans mv'))

set_option maxHeartbeats 4000000 in
theorem law_check3 {l k : List Str} (B : Base c P mg mb h₁) (Fs : Fns c P mg h₁) (F : Fr c P h₁ s) (hh : A.handled = none) (hroom : A.depth + 1 < recursionLimit) (hu : A.units + 64 < cLine) (hn2 : l.length + k.length ≤ 1000) (hok : ∀ x ∈ l ++ k, PyData.strOk x = true) (hp : ∀ x ∈ l ++ k, Plat x x)
    (hn : s.heap.Ns h₁.objs.size m) (h1 : m "files" = some (.ref D₁)) (h2 : m "told" = some (.ref D₂)) (hD₁ : StrL P s.heap D₁ l) (hD₂ : StrL P s.heap D₂ k)
    (h : ∀ s', Mv c P [] s s' → Q .next s') :
    wpAny (model prog w) A (exec (sAt 9 9) (lawEnv cd f h₁.objs.size)) Q E s := by
  show wpAny (model prog w) A (exec (Stmt.If (Expr.Compare (Expr.ListComp (Expr.Call (Expr.Name _ _) [Expr.Name _ _] [] _) [⟨Expr.Name _ _, Expr.BinOp (Expr.Name _ _) Operator.Add (Expr.Name _ _) _, [], 0⟩] _ _) [CmpOp.NotEq] [Expr.BinOp (Expr.Name _ _) Operator.Add (Expr.Name _ _) _] _) _ [] _) _) Q E s
  have hPL : h₁.objs.size ≠ P := Nat.ne_of_gt B.Plt
  have both : ∀ {s' : Shared} {E' : Value → Shared → Prop} {Q' : Value → Shared → Prop}, Mv c P [] s s' → (∀ D s'', Mv c P [] s' s'' → StrL P s''.heap D (l ++ k) → Q' (.ref D) s'') → wpAny (model prog w) A (binaryOp .Add (.ref D₁) (.ref D₂)) Q' E' s' := fun {s' E' Q'} mv hQ => by
    obtain ⟨p1, ys, hl, hst⟩ := hD₁.nil mv
    obtain ⟨p2, zs, hl2, hst2⟩ := hD₂.nil mv
    have e1 : ys.size = l.length := by have := hst.length; simpa using this
    have e2 : zs.size = k.length := by have := hst2.length; simpa using this
    refine add_lists' (c := c) (P := P) hl hl2 (by omega) fun D s'' hD mv' hl' => hQ D s'' mv' ⟨?_, _, hl', ?_⟩
    · rintro rfl
      obtain ⟨ps, _, ⟨_, t2⟩, _⟩ := mv.tab F.toAt.tab
      rw [t2] at hD; cases hD
    · have := strs_append hst hst2
      simpa using this
  refine wpAny_If (wpAny_isTrue_Compare1 ?_)
  refine comp_strs (c := c) (P := P) (l := l ++ k) (g := fun x => x) (cl := []) (fun _ => rfl) rfl rfl (by decide) rfl hh F.toAt.tab (by simpa using hn2) ?_ ?_ ?_
  · refine wpAny_BinOp (name_local rfl rfl hn h1 (name_local rfl rfl hn h2 ?_))
    exact both (Mv.refl _ _) fun D s'' mv hs => ⟨D, rfl, mv, hs⟩
  · intro C y t s₃ m₃ E' hy hm hmx mv hCP
    refine plat_name B Fs (F.mv B mv) hh hroom rfl (hp y hy) rfl rfl rfl rfl ?_
    exact name_local rfl rfl hm hmx ⟨Mv.refl _ _, ⟨_, rfl⟩, fun s' t' mv' => ⟨mv', t', rfl⟩⟩
  · intro D' s' hD' mv' hs'
    have hn' := ns_of mv' hn (by simp) hPL
    refine wpAny_BinOp (name_local rfl rfl hn' h1 (name_local rfl rfl hn' h2 ?_))
    refine both mv' fun D s'' mv'' hs'' => ?_
    obtain ⟨_, ys, hl, hst⟩ := hs'.nil mv''
    obtain ⟨_, zs, hl2, hst2⟩ := hs''
    rw [List.map_id'] at hst
    refine ne_strs hl hl2 hst hst2 hok rfl hu (wpAny_truthy_bool ?_)
    simp only [Bool.false_eq_true, if_false]
    exact wpAny_execs_nil (h s'' (mv'.trans mv''))

set_option maxHeartbeats 4000000 in
theorem law_return {G : Nat → Str} (B : Base c P mg mb h₁) (Fs : Fns c P mg h₁) (F : Fr c P h₁ s) (hh : A.handled = none) (hroom : A.depth + 1 < recursionLimit) (hu : A.units + 64 < cLine) (hn2 : n ≤ 1000) (hlen : ∀ i, i < n → (G i).length ≤ 100)
    (hok1 : ∀ i, i < n → PyData.strOk (foldedOf (G i)) = true) (hok2 : ∀ i, i < n → PyData.strOk (foldedOf (Str.ofString "257_-" ++ G i)) = true)
    (hn : s.heap.Ns h₁.objs.size m) (h1 : m "files" = some (.ref D₁)) (h2 : m "told" = some (.ref D₂)) (h3 : m "signs" = some (.ref D₃)) (hD₁ : StrL P s.heap D₁ (upTo n fun i => foldedOf (G i))) (hD₂ : StrL P s.heap D₂ (upTo n fun i => foldedOf (Str.ofString "257_-" ++ G i))) (hD₃ : StrL P s.heap D₃ (upTo n G))
    (h : ∀ s', Mv c P [] s s' → Q (.ret (.bool true)) s') :
    wpAny (model prog w) A (exec (sAt 9 11) (lawEnv cd f h₁.objs.size)) Q E s := by
  show wpAny (model prog w) A (exec (Stmt.Return (some (Expr.BoolOp BoolOp.And [Expr.Compare (Expr.Name _ _) [CmpOp.Eq] [Expr.ListComp (Expr.Call (Expr.Name _ _) [Expr.Name _ _] [] _) [⟨Expr.Name _ _, Expr.Name _ _, [], 0⟩] _ _] _, Expr.Compare (Expr.Name _ _) [CmpOp.Eq] [Expr.ListComp (Expr.Call (Expr.Name _ _) [Expr.BinOp (Expr.Constant (Const.str _) _ _) Operator.Add (Expr.Name _ _) _] [] _) [⟨Expr.Name _ _, Expr.Name _ _, [], 0⟩] _ _] _] _)) _) _) Q E s
  have hPL : h₁.objs.size ≠ P := Nat.ne_of_gt B.Plt
  refine wpAny_Return_some (wpAny_And2 ?_)
  refine wpAny_Compare1 ?_
  refine name_local rfl rfl hn h1 ?_
  refine comp_idx (c := c) (P := P) (n := n) (cl := []) (F := G) (G := fun i => foldedOf (G i)) (fun _ => rfl) rfl rfl (by decide) rfl hh F.toAt.tab hn2 ?_ ?_ ?_
  · exact name_local rfl rfl hn h3 ⟨D₃, rfl, Mv.refl _ _, hD₃⟩
  · intro C i t s₃ m₃ E' hi hm hmx mv hCP
    refine fold_name (x := G i) B Fs (F.mv B mv) hh hroom rfl (by have := hlen i hi; omega) rfl rfl rfl rfl ?_
    exact name_local rfl rfl hm hmx ⟨Mv.refl _ _, ⟨_, rfl⟩, fun s' t' mv' => ⟨mv', t', rfl⟩⟩
  intro E₁ s₁ hE₁ mv₁ hs₁
  obtain ⟨_, ys, hl, hst⟩ := hD₁.nil mv₁
  obtain ⟨_, zs, hl2, hst2⟩ := hs₁
  refine eq_strs hl hl2 hst hst2 (upTo_ok hok1) rfl hu (wpAny_truthy_bool ?_)
  simp only [if_true]
  have F1 := F.mv B mv₁
  have hn₁ := ns_of mv₁ hn (by simp) hPL
  refine wpAny_Compare1 ?_
  refine name_local rfl rfl hn₁ h2 ?_
  refine comp_idx (c := c) (P := P) (n := n) (cl := []) (F := G) (G := fun i => foldedOf (Str.ofString "257_-" ++ G i)) (fun _ => rfl) rfl rfl (by decide) rfl hh F1.toAt.tab hn2 ?_ ?_ ?_
  · exact name_local rfl rfl hn₁ h3 ⟨D₃, rfl, Mv.refl _ _, hD₃.nil mv₁⟩
  · intro C i t s₃ m₃ E' hi hm hmx mv hCP
    have hli := hlen i hi
    refine fold_name (x := Str.ofString "257_-" ++ G i) B Fs (F1.mv B mv) hh hroom rfl ?_ rfl rfl rfl rfl ?_
    · rw [PySem.Str.length_append, show (Str.ofString "257_-").length = 5 from rfl]; omega
    refine tk_mono (wpAny_BinOp (wpAny_Constant_str (name_local rfl rfl hm hmx ?_)))
    refine PyProof.Rows.add_str (fun t₁ k₁ htk => ⟨Mv.tk htk, ⟨_, rfl⟩, fun s' t' mv' => ⟨mv', t', rfl⟩⟩) ?_
    rw [show (Str.ofString "257_-").length = 5 from rfl]
    unfold sizeLine; omega
  intro E₂ s₂ hE₂ mv₂ hs₂
  obtain ⟨_, ys', hl', hst'⟩ := hD₂.nil (mv₁.trans mv₂)
  obtain ⟨_, zs', hl2', hst2'⟩ := hs₂
  refine eq_strs hl' hl2' hst' hst2' (upTo_ok hok2) rfl hu ?_
  exact h s₂ (mv₁.trans mv₂)
end
end Mine

namespace Mine
variable {c P : Addr} {mg mb : Str → Option Value} {h₁ : Heap}

theorem offk (L i j : Nat) (h : i ≠ j) : L + i ∉ [L + j] := by simp; omega
theorem off0 (L j : Nat) (h : 0 ≠ j) : L ∉ [L + j] := by simp; omega
theorem offL (L i : Nat) (h : 0 ≠ i) : L + i ∉ [L] := by simp; omega
theorem mark_len (b : Int) (k : Nat) : (markAt b k).length ≤ 1 := Nat.le_refl _

section
variable {prog : Program} {w : World} {A : Around} {E : Value → Shared → Prop} {s : Shared} {f l : Addr} {cd : Value} {m : Str → Option Value} {vs : List Value} {xs : List Int}

set_option maxHeartbeats 4000000 in
theorem law_body {Q : Flow → Shared → Prop} (law : ∀ b sz, 3 ≤ sz → sz ≤ 5 → LawOk sz (markAt b)) (B : Base c P mg mb h₁) (Fs : Fns c P mg h₁) (hext : ∀ b o, h₁.get? b = some o → s.heap.get? b = some o) (tab : TabOk c P s.heap) (hbare : AllBare s.gens) (hh : A.handled = none) (hroom : A.depth + 1 < recursionLimit) (hu : A.units + 64 < cLine)
    (hn : s.heap.Ns h₁.objs.size m) (hm : m "script" = some (.ref l)) (hl : h₁.IsList l vs.toArray) (hi : IntsAre vs xs) (hlen : vs.length ≤ 1000)
    (hc1 : s.heap.IsCell (h₁.objs.size + 1) none) (hc2 : s.heap.IsCell (h₁.objs.size + 2) none) (hc3 : s.heap.IsCell (h₁.objs.size + 3) none)
    (h : ∀ s', Mv c P [h₁.objs.size, h₁.objs.size + 1, h₁.objs.size + 2, h₁.objs.size + 3] s s' → Q (.ret (.bool true)) s') :
    wpAny (model prog w) A (execs (sbody (stAt 9)) (lawEnv cd f h₁.objs.size)) Q E s := by
  have hPlt := B.Plt
  have hclt := B.clt
  have hPk : ∀ k : Nat, h₁.objs.size + k ≠ P := fun k => Nat.ne_of_gt (Nat.lt_of_lt_of_le hPlt (Nat.le_add_right _ k))
  have hck : ∀ k : Nat, h₁.objs.size + k ≠ c := fun k => Nat.ne_of_gt (Nat.lt_of_lt_of_le hclt (Nat.le_add_right _ k))
  have hPL : h₁.objs.size ≠ P := hPk 0
  have hcL : h₁.objs.size ≠ c := hck 0
  have hlP : l ≠ P := by
    obtain ⟨o, e, hcls, _⟩ := hl
    rintro rfl
    rw [B.tab.2] at e; cases e; cases hcls
  have hX1 : ∀ b ∈ [h₁.objs.size, h₁.objs.size + 1, h₁.objs.size + 2, h₁.objs.size + 3], h₁.get? b = none := fun b hb => by
    simp only [List.mem_cons, List.not_mem_nil, or_false] at hb
    rcases hb with rfl | rfl | rfl | rfl
    · exact gone (Nat.le_refl _)
    · exact gone (Nat.le_add_right _ 1)
    · exact gone (Nat.le_add_right _ 2)
    · exact gone (Nat.le_add_right _ 3)
  have w0 : ∀ b ∈ [h₁.objs.size], b ∈ [h₁.objs.size, h₁.objs.size + 1, h₁.objs.size + 2, h₁.objs.size + 3] := fun b hb => by rw [List.mem_singleton.mp hb]; simp
  have w1 : ∀ b ∈ [h₁.objs.size + 1], b ∈ [h₁.objs.size, h₁.objs.size + 1, h₁.objs.size + 2, h₁.objs.size + 3] := fun b hb => by rw [List.mem_singleton.mp hb]; simp
  have w2 : ∀ b ∈ [h₁.objs.size + 2], b ∈ [h₁.objs.size, h₁.objs.size + 1, h₁.objs.size + 2, h₁.objs.size + 3] := fun b hb => by rw [List.mem_singleton.mp hb]; simp
  have w3 : ∀ b ∈ [h₁.objs.size + 3], b ∈ [h₁.objs.size, h₁.objs.size + 1, h₁.objs.size + 2, h₁.objs.size + 3] := fun b hb => by rw [List.mem_singleton.mp hb]; simp
  have live : ∀ {s' : Shared} {m : Str → Option Value} {a b d : Option Value}, s'.heap.Ns h₁.objs.size m → s'.heap.IsCell (h₁.objs.size + 1) a → s'.heap.IsCell (h₁.objs.size + 2) b → s'.heap.IsCell (h₁.objs.size + 3) d →
      ∀ b ∈ [h₁.objs.size, h₁.objs.size + 1, h₁.objs.size + 2, h₁.objs.size + 3], ∃ o, s'.heap.get? b = some o := fun h0 h1 h2 h3 b hb => by
    obtain ⟨o0, _, _, e0, _⟩ := h0
    obtain ⟨o1, e1, _⟩ := h1
    obtain ⟨o2, e2, _⟩ := h2
    obtain ⟨o3, e3, _⟩ := h3
    simp only [List.mem_cons, List.not_mem_nil, or_false] at hb
    rcases hb with rfl | rfl | rfl | rfl
    · exact ⟨_, e0⟩
    · exact ⟨_, e1⟩
    · exact ⟨_, e2⟩
    · exact ⟨_, e3⟩
  -- numbers
  refine wpAny_execs_cons ?_
  refine law_numbers B (fun b o _ e => hext b o e) hh tab hbare hn hPL hm (hl.at fun o e => hext _ o e) hlP hi hlen hc1 (hPk 1) (hck 1) fun s1 D0 a b mv1 cN hD0 hI => ?_
  have hD0X := off_live (live hn hc1 hc2 hc3) hD0
  have mvA1 := mv1.weaken w1
  have n1 := ns_of mv1 hn (off0 _ 1 (by decide)) hPL
  have c21 := cell_of mv1 hc2 (offk _ 2 1 (by decide)) (hPk 2)
  have c31 := cell_of mv1 hc3 (offk _ 3 1 (by decide)) (hPk 3)
  -- size
  refine wpAny_execs_cons ?_
  refine law_size cN hI c21 (hPk 2) (hck 2) fun s2 sz tz mv2 cS hs3 hs5 htk2 => ?_
  have mvA2 := mvA1.trans (mv2.weaken w2)
  have n2 := ns_of mv2 n1 (off0 _ 2 (by decide)) hPL
  have c12 := cell_of mv2 cN (offk _ 1 2 (by decide)) (hPk 1)
  have c32 := cell_of mv2 c31 (offk _ 3 2 (by decide)) (hPk 3)
  have hI2 := hI.mv mv2 (fun q => hD0X (w2 _ q))
  have a2 : At c P h₁ s2 := ⟨fun b o hb e => mvA2.ext b o (fun q => by rw [hX1 b q] at e; cases e) hb (hext b o e), mvA2.tab tab, mvA2.bare hbare, htk2⟩
  -- marks
  refine wpAny_execs_cons ?_
  refine law_marks B a2 hh hs5 c12 (hPk 1) hI2 cS c32 (hPk 3) (hck 3) fun s3 M mv3 cM hM hSM => ?_
  have ok := law b sz hs3 hs5
  have hMX := off_live (live n2 c12 cS c32) hM
  have mvA3 := mvA2.trans (mv3.weaken w3)
  have n3 := ns_of mv3 n2 (off0 _ 3 (by decide)) hPL
  have c13 := cell_of mv3 c12 (offk _ 1 3 (by decide)) (hPk 1)
  have c23 := cell_of mv3 cS (offk _ 2 3 (by decide)) (hPk 2)
  have a3 := a2.mv mv3 (fun b q => hX1 b (w3 b q))
  -- ways
  refine wpAny_execs_cons ?_
  refine law_ways B a3 hh hs5 n3 (Ne.symm hcL) (Ne.symm hPL) c23 (hPk 2) (live n3 c13 c23 cM) fun s4 m4 W mv4 n4 eW q4 hW => ?_
  have mvA4 := mvA3.trans (mv4.weaken w0)
  have a4 := a3.mv mv4 (fun b q => hX1 b (w0 b q))
  have c24 := cell_of mv4 c23 (offL _ 2 (by decide)) (hPk 2)
  have cM4 := cell_of mv4 cM (offL _ 3 (by decide)) (hPk 3)
  have hSM4 := hSM.mv mv4 (fun q => hMX (w0 _ q))
  -- names
  refine wpAny_execs_cons ?_
  refine law_names B a4 hh hs5 (mark_len b) n4 (Ne.symm hcL) (Ne.symm hPL) eW hW cM4 (hPk 3) hSM4 fun s5 m5 N mv5 n5 eN q5 hN hSN => ?_
  have hn2 : 2 ^ sz ≤ 1000 := Nat.le_trans (Nat.pow_le_pow_right (by decide) hs5) (by decide)
  have oneL : ∀ {s' : Shared} {m : Str → Option Value}, s'.heap.Ns h₁.objs.size m → ∀ b ∈ [h₁.objs.size], ∃ o, s'.heap.get? b = some o := fun hn b hb => by
    rw [List.mem_singleton.mp hb]
    obtain ⟨o, _, _, ho, _⟩ := hn
    exact ⟨o, ho⟩
  have hNX := off_live (oneL n4) hN
  have mvA5 := mvA4.trans (mv5.weaken w0)
  have a5 := a4.mv mv5 (fun b q => hX1 b (w0 b q))
  have c25 := cell_of mv5 c24 (offL _ 2 (by decide)) (hPk 2)
  have hW5 := hW.mv mv5 w0
  -- replies
  refine wpAny_execs_cons ?_
  refine law_replies a5 hh hn2 (fun i hi => ⟨(ok.len i hi).1, (ok.len i hi).2.1⟩) n5 (Ne.symm hcL) (Ne.symm hPL) eN hSN fun s6 m6 D1 D2 mv6 n6 e1 e2 q6 o1 o2 hS1 hS2 => ?_
  have mvA6 := mvA5.trans (mv6.weaken w0)
  have F6 : Fr c P h₁ s6 := ⟨a5.mv mv6 (fun b q => hX1 b (w0 b q)), m6, n6⟩
  have c26 := cell_of mv6 c25 (offL _ 2 (by decide)) (hPk 2)
  have hW6 := hW5.mv mv6 w0
  have hSN6 := hSN.mv mv6 hNX
  have eN6 := (q6 "names" (by decide) (by decide)).trans eN
  have eW6 := ((q6 "ways" (by decide) (by decide)).trans (q5 _ (by decide))).trans eW
  -- parse257
  refine wpAny_execs_cons ?_
  refine law_check1 B Fs F6 hh hroom hu hn2 ok.okName ok.parse n6 e1 eN6 hS1 hSN6 fun s7 mv7 => ?_
  have mvA7 := mvA6.trans (mv7.nil)
  have F7 := F6.mv B mv7
  have n7 := ns_of mv7 n6 (by simp) hPL
  have c27 := cell_of mv7 c26 (by simp) (hPk 2)
  have hW7 := hW6.mv mv7 (fun _ h => nomatch h)
  have hSN7 := hSN6.nil mv7
  have hS17 := hS1.nil mv7
  have hS27 := hS2.nil mv7
  -- files, told
  refine wpAny_execs_cons ?_
  refine law_tell B Fs F7 hh hroom hn2 ok.name ok.doubled n7 e1 eN6 hS17 hSN7 fun s8 m8 D3 D4 mv8 n8 e3 e4 q8 o3 o4 hS3 hS4 => ?_
  have mvA8 := mvA7.trans (mv8.weaken w0)
  have F8 : Fr c P h₁ s8 := ⟨F7.toAt.mv mv8 (fun b q => hX1 b (w0 b q)), m8, n8⟩
  have c28 := cell_of mv8 c27 (offL _ 2 (by decide)) (hPk 2)
  have hW8 := hW7.mv mv8 w0
  have hS28 := hS27.mv mv8 o2
  have e28 := (q8 "plain" (by decide) (by decide)).trans e2
  have eW8 := (q8 "ways" (by decide) (by decide)).trans eW6
  -- counts
  refine wpAny_execs_cons ?_
  refine law_check2 B Fs F8 hh hroom hu hn2 hs5 ok.okTold ok.plain ok.files ok.told n8 c28 e3 e4 e28 hS3 hS4 hS28 fun s9 mv9 => ?_
  have mvA9 := mvA8.trans (mv9.nil)
  have F9 := F8.mv B mv9
  have n9 := ns_of mv9 n8 (by simp) hPL
  have hW9 := hW8.mv mv9 (fun _ h => nomatch h)
  have hS39 := hS3.nil mv9
  have hS49 := hS4.nil mv9
  -- once more
  refine wpAny_execs_cons ?_
  refine law_check3 B Fs F9 hh hroom hu ?_ ?_ ?_ n9 e3 e4 hS39 hS49 fun s10 mv10 => ?_
  · rw [upTo_len, upTo_len]
    have : 2 ^ sz ≤ 32 := Nat.le_trans (Nat.pow_le_pow_right (by decide) hs5) (by decide)
    omega
  · intro x hx
    rcases List.mem_append.mp hx with q | q
    · exact upTo_ok ok.okFile x q
    · exact upTo_ok ok.okTold x q
  · intro x hx
    rcases List.mem_append.mp hx with q | q
    · obtain ⟨i, hi, rfl⟩ := upTo_mem q
      exact (ok.again i hi).1
    · obtain ⟨i, hi, rfl⟩ := upTo_mem q
      exact (ok.again i hi).2
  have mvA10 := mvA9.trans (mv10.nil)
  have F10 := F9.mv B mv10
  have n10 := ns_of mv10 n9 (by simp) hPL
  have hW10 := hW9.mv mv10 (fun _ h => nomatch h)
  -- signs
  refine wpAny_execs_cons ?_
  refine law_signs F10.toAt hh hs5 n10 (Ne.symm hcL) (Ne.symm hPL) eW8 hW10 fun s11 m11 G mv11 n11 eG q11 hG hSG => ?_
  have mvA11 := mvA10.trans (mv11.weaken w0)
  have F11 : Fr c P h₁ s11 := ⟨F10.toAt.mv mv11 (fun b q => hX1 b (w0 b q)), m11, n11⟩
  refine wpAny_execs_cons ?_
  refine law_return (G := signOf sz) B Fs F11 hh hroom hu hn2 (fun i hi => (ok.len i hi).2.2) ok.okFile ok.okTold n11 ((q11 _ (by decide)).trans e3) ((q11 _ (by decide)).trans e4) eG ((hS39.nil mv10).mv mv11 o3) ((hS49.nil mv10).mv mv11 o4) hSG fun s12 mv12 => ?_
  exact h s12 (mvA11.trans mv12.nil)

theorem law_call {R : Result → Shared → Prop} {oc : Value} {od : Option Addr} {osl : Array (Option Value)} {doc pm : Value} {an : Option Addr} {ct : Value} (law : ∀ b sz, 3 ≤ sz → sz ≤ 5 → LawOk sz (markAt b)) (B : Base c P mg mb s.heap) (Fs : Fns c P mg s.heap) (tab : TabOk c P s.heap) (hbare : AllBare s.gens)
    (ho : s.heap.get? f = some ⟨oc, od, .func (fnOf (sname (stAt 9)) (sname (stAt 9)) (sparams (stAt 9)) (sbody (stAt 9)) (sscope (stAt 9)) .none .none doc pm an cd ct), osl⟩) (hcd : s.heap.CodeRec cd (sname (stAt 9)))
    (hh : A.handled = none) (hroom : A.depth < recursionLimit) (hroom' : ∀ env, (A.deeper env).depth + 1 < recursionLimit) (hu : ∀ env, (A.deeper env).units + 64 < cLine)
    (hl : s.heap.IsList l vs.toArray) (hi : IntsAre vs xs) (hlen : vs.length ≤ 1000)
    (h : ∀ s', Mv c P [] s s' → R (.ok (.ret (.bool true))) s') :
    codeAny (model prog w) A (.call (.ref f) ⟨[.ref l], []⟩) R s := by
  refine codeAny_call_function hroom ho rfl rfl rfl rfl hcd ?_
  have e : bindArgs (fnOf (sname (stAt 9)) (sname (stAt 9)) (sparams (stAt 9)) (sbody (stAt 9)) (sscope (stAt 9)) .none .none doc pm an cd ct) ⟨[.ref l], []⟩ = (pure [(Str.ofString "script", Value.ref l)] : Sem (List (Str × Value))) := rfl
  rw [e]
  refine wpAny_pure (tk_mono (wpAny_newFunctionEnv_cells rfl (kindsX rfl _) fun env he s₁ X htk => ?_))
  subst he
  obtain ⟨h', tk, rfl, hk⟩ := X.done
  have mv₁ : Mv c P [] s { s with heap := h', toks := tk } := Mv.keep hk htk
  have nl : Heap.NoLimit h' := B.nl.keeps hk
  refine ⟨nl, codeAny_func ?_⟩
  have hc1 := X.cell (Str.ofString "numbers") (s.heap.objs.size + 1) rfl
  have hc2 := X.cell (Str.ofString "size") (s.heap.objs.size + 2) rfl
  have hc3 := X.cell (Str.ofString "marks") (s.heap.objs.size + 3) rfl
  refine law_body (h₁ := s.heap) law B Fs hk (mv₁.tab tab) (mv₁.bare hbare) hh (hroom' _) (hu _) X.toInCall.ns rfl hl hi hlen hc1 hc2 hc3 fun s' mv => ?_
  refine h s' (mv₁.dropFrom mv fun b hb => ?_)
  simp only [List.mem_cons, List.not_mem_nil, or_false] at hb
  rcases hb with rfl | rfl | rfl | rfl
  · exact gone (Nat.le_refl _)
  · exact gone (Nat.le_add_right _ 1)
  · exact gone (Nat.le_add_right _ 2)
  · exact gone (Nat.le_add_right _ 3)
end
end Mine

set_option maxRecDepth 100000 in
set_option maxHeartbeats 8000000 in
open_top Mine.hd0051 for PySem.Challenge.rw_pe0051_01

namespace Mine

theorem fn_rec {p : Program} {loose : List Str} {mean : ExcName → Option Value} {mg mb : Str → Option Value} {h : Heap} (T : Top p loose mean mg mb h) (st : Stmt) {pos : Pos} {name : Str}
    (hf : (recsOf p).find? (fun e => e.name == name) = some ⟨sname st, sparams st, sbody st, sscope st, pos⟩) :
    ∃ f c P, mg name = some (.ref f) ∧ FnAt h f st (.ref c) ∧ h.IsCode c P #[] ∧ h.TableAt c P #[] ∧ P ≠ cStatics := by
  have hn : sname st = name := beq_iff_eq.mp (List.find?_some (p := fun e : DefRec => e.name == name) hf)
  have hm := List.mem_of_find?_eq_some hf
  obtain ⟨a, o, pm, code, doc, h1, h2, h3, h4⟩ := T.fn _ hm
  obtain ⟨a', o', fd', c, P, g1, g2, g3, g4, g5, g6⟩ := T.tab _ hm
  rw [h1] at g1; cases g1
  rw [h2] at g2; cases g2
  rw [h3] at g3; cases g3
  cases g4
  obtain ⟨oc, od, dt, osl⟩ := o
  simp only at h3
  subst h3
  refine ⟨a, c, P, hn ▸ h1, ⟨oc, od, osl, doc, pm, _, _, h2, h4⟩, g5, g6, fun e => ?_⟩
  obtain ⟨_, ⟨oc, _, _, e1, e2, _⟩, _⟩ := T.nodigits
  rw [← e, g6.2] at e1; cases e1; cases e2

theorem code_ne {h : Heap} {c P : Addr} {q : Str} (t : ∃ cc, h.TableAt cc P #[]) (r : h.CodeRec (.ref c) q) : c ≠ P := by
  obtain ⟨cc, t⟩ := t
  obtain ⟨c', o, vs, u, e, g, hd, hv⟩ := r
  cases e
  rintro rfl
  rw [t.2] at g
  cases g
  cases hd
  simp at hv
theorem fn_code {h : Heap} {f : Addr} {st : Stmt} {cd : Value} (x : FnAt h f st cd) : h.CodeRec cd (sname st) := let ⟨_, _, _, _, _, _, _, _, r⟩ := x; r

set_option maxHeartbeats 8000000 in
theorem whole (law : ∀ b sz, 3 ≤ sz → sz ≤ 5 → LawOk sz (markAt b)) : PySem.Challenge.rw_pe0051_01.Holds := hd0051 (by
  k_fill
  intro w s₀ s₁ mg mb G Y fa o pm cd doc dV kV ho hd hcd hD hmg hg args vals as hpre hlay hrd hwl hlo
  have KX := kIn_of Y
  refine Ground.open G ?_
  intro T B D TE TW
  wrow_args hpre hlay hrd hwl hlo
  all_goals (
    first | refine callC_kw (enter_call ?_) | refine enter_call ?_ | refine callC_kw (enter_callW ?_) | refine enter_callW ?_ | w_how
    w_top on)
  clear D G Y
  rename_i hII _ _
  have he1 := Dflts.none hD rfl
  subst he1
  have he2 := Dflts.noKw hD
  subst he2
  obtain ⟨f1, c1, P1, m1, F1, I1, T1, N1⟩ := fn_rec T (stAt 1) (name := "_platform") rfl
  obtain ⟨f5, c5, P5, m5, F5, -⟩ := fn_rec T (stAt 5) (name := "parse257") rfl
  obtain ⟨f7, c7, P7, m7, F7, -⟩ := fn_rec T (stAt 7) (name := "_law_fibonacci") rfl
  obtain ⟨f8, c8, P8, m8, F8, -⟩ := fn_rec T (stAt 8) (name := "_law_folded") rfl
  have Bs : Base c1 P1 mg mb s₁.heap := ⟨T.nolimit, T.g, T.b, bmod_of_top T, T1, N1, ⟨mg_none_of KX T.g (by kernel_rfl), (T.builtins _ (by decide)).trans (by decide +kernel)⟩, ⟨mg_none_of KX T.g (by kernel_rfl), (T.builtins _ (by decide)).trans (by decide +kernel)⟩,
    ⟨mg_none_of KX T.g (by kernel_rfl), (T.builtins _ (by decide)).trans (by decide +kernel)⟩, ⟨mg_none_of KX T.g (by kernel_rfl), (T.builtins _ (by decide)).trans (by decide +kernel)⟩, ⟨mg_none_of KX T.g (by kernel_rfl), (T.builtins _ (by decide)).trans (by decide +kernel)⟩⟩
  have Fs : Fns c1 P1 mg s₁.heap := ⟨code_ne ⟨_, T1⟩ (fn_code F1), ⟨f1, m1, F1⟩, ⟨f5, _, m5, F5, fun b e => by cases e; exact code_ne ⟨_, T1⟩ (fn_code F5)⟩, ⟨f7, _, m7, F7, fun b e => by cases e; exact code_ne ⟨_, T1⟩ (fn_code F7)⟩,
    ⟨f8, _, m8, F8, fun b e => by cases e; exact code_ne ⟨_, T1⟩ (fn_code F8)⟩⟩
  have tab1 : TabOk c1 P1 s₁.heap := ⟨_, I1, T1, .inl rfl⟩
  obtain ⟨oc, od, dt, osl⟩ := o
  simp only at hd
  subst hd
  refine law_call (c := c1) (P := P1) law Bs Fs tab1 (AllBare.of_eq hg) ho hcd rfl (by decide) (fun _ => of_decide_eq_true rfl) (fun _ => of_decide_eq_true rfl) (by assumption) (by assumption) ?_ fun s' mv => ?_
  · have e := IntsAre.length (by assumption : IntsAre _ _)
    omega
  refine ⟨.inl ⟨_, _, [], rfl, fun _ => rfl, .bool true, by kernel_rfl, fun _ => ⟨List.nodup_nil, fun a h => nomatch h⟩⟩, ?_, mv.os, mv.bare (AllBare.of_eq hg)⟩
  obtain ⟨ps, _, t', d⟩ := mv.tab tab1
  refine OldK.step_table (OldK.refl _) T1 T1 (more := ps) ?_ (fun b o hb e => mv.ext b o (by simp) hb e) N1
  rw [Array.empty_append]
  exact t')
end Mine

namespace Mine

abbrev tx (l : List Nat) : Str := ⟨l.toArray⟩

def sqF : Nat → Str → Option Str
  | 0, _ => none
  | n + 1, y => if y.length ≤ 1000 then (if rep2 y = y then some y else sqF n (rep2 y)) else none
def rdF : Nat → Str → Option Str
  | 0, _ => none
  | n + 1, y => if y.length = 0 then some y else if y.length ≤ 1000 then (if Txt.item y (-1) = Str.ofString "-" then rdF n (Txt.slice y none (some (-1))) else some y) else none

theorem sqF_ok : ∀ (n : Nat) (y z : Str), sqF n y = some z → ∃ k, Sq y z k
  | 0, _, _, h => by cases h
  | n + 1, y, z, h => by
    unfold sqF at h
    split at h
    · rename_i hl
      split at h
      · rename_i he
        cases h
        exact ⟨0, .done hl he⟩
      · rename_i hne
        obtain ⟨k, hk⟩ := sqF_ok n _ _ h
        exact ⟨k + 1, .step hl hne hk⟩
    · cases h
theorem rdF_ok : ∀ (n : Nat) (y z : Str), rdF n y = some z → ∃ k, Rd y z k
  | 0, _, _, h => by cases h
  | n + 1, y, z, h => by
    unfold rdF at h
    split at h
    · rename_i h0
      cases h
      exact ⟨0, .nil h0⟩
    · rename_i h0
      split at h
      · rename_i hl
        split at h
        · rename_i he
          obtain ⟨k, hk⟩ := rdF_ok n _ _ h
          exact ⟨k + 1, .step (Nat.pos_of_ne_zero h0) hl he hk⟩
        · rename_i hne
          cases h
          exact ⟨0, .stop (Nat.pos_of_ne_zero h0) hl hne⟩
      · cases h

/-! one sign for another -/
def sub1 (c : Nat) (z l : List Nat) : List Nat := l.flatMap fun k => if k = c then z else [k]
theorem sub1_free {c : Nat} {z : List Nat} : ∀ {l : List Nat}, c ∉ l → sub1 c z l = l
  | [], _ => rfl
  | k :: r, h => by
    have h1 : ¬ k = c := fun e => h (e ▸ List.mem_cons_self ..)
    have ih := sub1_free (z := z) (l := r) fun m => h (List.mem_cons_of_mem _ m)
    unfold sub1 at ih ⊢
    rw [List.flatMap_cons, if_neg h1, ih]; rfl
theorem sub1_append (c : Nat) (z a b : List Nat) : sub1 c z (a ++ b) = sub1 c z a ++ sub1 c z b := by simp [sub1]
theorem sub1_join {c : Nat} {z : Str} : ∀ parts : List Str, (∀ p ∈ parts, c ∉ p.cps.toList) → sub1 c z.cps.toList (Str.join ⟨#[c]⟩ parts).cps.toList = (Str.join z parts).cps.toList
  | [], _ => rfl
  | [p], h => sub1_free (h p (List.mem_singleton.mpr rfl))
  | p :: q :: r, h => by
    have ih := sub1_join (c := c) (z := z) (q :: r) fun a ha => h a (List.mem_cons_of_mem _ ha)
    show sub1 c z.cps.toList (p ++ ⟨#[c]⟩ ++ Str.join ⟨#[c]⟩ (q :: r)).cps.toList = (p ++ z ++ Str.join z (q :: r)).cps.toList
    simp only [Str.cps_append, Array.toList_append]
    rw [sub1_append, sub1_append, ih, sub1_free (h p (List.mem_cons_self ..))]
    congr 2
    simp [sub1]
theorem rep_one (x z : Str) (c : Nat) : Txt.replace x ⟨#[c]⟩ z = tx (sub1 c z.cps.toList x.cps.toList) := by
  rw [StrLaws.replace_one]
  apply PySem.Str.ext'
  apply Array.toList_inj.mp
  rw [← sub1_join _ (StrLaws.split_free x c), StrLaws.join_split]
theorem rep_sign (l : List Nat) (c d : Nat) : Txt.replace (tx l) ⟨#[c]⟩ ⟨#[d]⟩ = tx (l.map fun k => if k = c then d else k) := by
  rw [rep_one]
  congr 2
  show sub1 c [d] l = _
  unfold sub1
  induction l with
  | nil => rfl
  | cons k r ih =>
    rw [List.flatMap_cons, ih, List.map_cons]
    split <;> rfl

/-- what the first eight replacements make of a sign -/
def g8 (k : Nat) : Nat :=
  (fun k => if k = 41 then 45 else k) ((fun k => if k = 40 then 45 else k) ((fun k => if k = 34 then 45 else k) ((fun k => if k = 59 then 45 else k)
    ((fun k => if k = 58 then 45 else k) ((fun k => if k = 92 then 45 else k) ((fun k => if k = 47 then 45 else k) ((fun k => if k = 32 then 95 else k) k)))))))

theorem rep8 {l : List Nat} (hl : l.length ≤ 1000) (hu : Txt.replace (tx (l.map g8)) "unknown" "" = tx (l.map g8)) : RepOk reps (tx l) ∧ repAll (tx l) = tx (l.map g8) := by
  have len : ∀ k : List Nat, k.length ≤ 1000 → (tx k).length ≤ 1000 := fun k h => by unfold Str.length; simpa using h
  have e1 : ∀ k : List Nat, Txt.replace (tx k) (Str.ofString " ") (Str.ofString "_") = _ := fun k => rep_sign k 32 95
  have e2 : ∀ k : List Nat, Txt.replace (tx k) (Str.ofString "/") (Str.ofString "-") = _ := fun k => rep_sign k 47 45
  have e3 : ∀ k : List Nat, Txt.replace (tx k) (Str.ofString "\\") (Str.ofString "-") = _ := fun k => rep_sign k 92 45
  have e4 : ∀ k : List Nat, Txt.replace (tx k) (Str.ofString ":") (Str.ofString "-") = _ := fun k => rep_sign k 58 45
  have e5 : ∀ k : List Nat, Txt.replace (tx k) (Str.ofString ";") (Str.ofString "-") = _ := fun k => rep_sign k 59 45
  have e6 : ∀ k : List Nat, Txt.replace (tx k) (Str.ofString "\"") (Str.ofString "-") = _ := fun k => rep_sign k 34 45
  have e7 : ∀ k : List Nat, Txt.replace (tx k) (Str.ofString "(") (Str.ofString "-") = _ := fun k => rep_sign k 40 45
  have e8 : ∀ k : List Nat, Txt.replace (tx k) (Str.ofString ")") (Str.ofString "-") = _ := fun k => rep_sign k 41 45
  have hg : tx (((((((((l.map fun k => if k = 32 then 95 else k).map fun k => if k = 47 then 45 else k).map fun k => if k = 92 then 45 else k).map fun k => if k = 58 then 45 else k).map fun k => if k = 59 then 45 else k).map fun k => if k = 34 then 45 else k).map fun k => if k = 40 then 45 else k).map fun k => if k = 41 then 45 else k)) = tx (l.map g8) := by
    refine congrArg tx ?_
    rw [List.map_map, List.map_map, List.map_map, List.map_map, List.map_map, List.map_map, List.map_map]
    rfl
  constructor
  · dsimp only [reps, RepOk]
    rw [e1, e2, e3, e4, e5, e6, e7, e8]
    refine ⟨len _ hl, len _ (by simpa using hl), len _ (by simpa using hl), len _ (by simpa using hl), len _ (by simpa using hl), len _ (by simpa using hl), len _ (by simpa using hl), len _ (by simpa using hl), len _ (by simpa using hl), trivial⟩
  · unfold repAll reps
    simp only [List.foldl_cons, List.foldl_nil]
    rw [e1, e2, e3, e4, e5, e6, e7, e8, hg]
    exact hu

theorem strip_same {l : List Nat} (h1 : ∀ k, l.head? = some k → Unicode.isSpace k = false) (h2 : ∀ k, l.getLast? = some k → Unicode.isSpace k = false) : Txt.strip (tx l) = tx l := by
  have lo : stripLo Unicode.isSpace true (tx l) = 0 := by
    unfold stripLo
    cases l with
    | nil => rfl
    | cons k r => simp [List.takeWhile, h1 k rfl]
  have hi : stripHi Unicode.isSpace true (tx l) 0 = (tx l).length := by
    unfold stripHi
    have : (((tx l).cps.toList.drop 0).reverse.takeWhile Unicode.isSpace).length = 0 := by
      show ((l.drop 0).reverse.takeWhile Unicode.isSpace).length = 0
      rw [List.drop_zero]
      have h3 : ∀ k, l.reverse.head? = some k → Unicode.isSpace k = false := fun k e => h2 k (by rw [← e]; simp)
      cases hr : l.reverse with
      | nil => rfl
      | cons k r => simp [List.takeWhile, h3 k (by rw [hr]; rfl)]
    rw [if_pos rfl, this]; rfl
  unfold Txt.strip Txt.stripBy
  rw [if_pos]
  unfold stripSame
  rw [lo, hi]
  simp

theorem unk {l : List Nat} (h : 117 ∉ l) : Txt.replace (tx l) "unknown" "" = tx l := by
  obtain ⟨f, hG, _⟩ := StrLaws.occ_tight (tx l) "unknown" (by decide)
  have e : Builtin.Str.occurrences (tx l) "unknown" 0 (tx l).length ((tx l).length + 1) = [] := by
    cases ho : Builtin.Str.occurrences (tx l) "unknown" 0 (tx l).length ((tx l).length + 1) with
    | nil => rfl
    | cons i r =>
      exfalso
      rw [ho] at hG
      have hA : Builtin.Str.subAt (tx l) "unknown" i = true := hG.2.1.2
      unfold Builtin.Str.subAt at hA
      have he := eq_of_beq hA
      have hm : (117 : Nat) ∈ (l.toArray.extract i (i + (Str.ofString "unknown").length)).toList := by
        rw [show l.toArray.extract i (i + (Str.ofString "unknown").length) = (Str.ofString "unknown").cps from he]; decide
      rw [Array.toList_extract] at hm
      have h1 := List.mem_of_mem_drop (List.mem_of_mem_take (by simpa [List.extract_eq_take_drop] using hm))
      exact h h1
  unfold Txt.replace
  rw [e]; rfl

theorem plat_of {l : List Nat} {r : Str} (hs : Txt.strip (tx l) = tx l) (hl : l.length ≤ 1000) (hu : 117 ∉ l.map g8) (hrun : ∃ z n k, Sq (tx (l.map g8)) z n ∧ Rd z r k) : Plat (tx l) r := by
  obtain ⟨h1, h2⟩ := rep8 hl (unk hu)
  refine ⟨by unfold Str.length; simpa using hl, by rw [hs]; exact h1, ?_⟩
  rw [hs, h2]
  exact hrun

/-- squeezed and trimmed -/
def goes (y r : Str) : Bool := match sqF 8 y with | some z => rdF 12 z == some r | none => false
theorem goes_ok {y r : Str} (h : goes y r = true) : ∃ z n k, Sq y z n ∧ Rd z r k := by
  unfold goes at h
  split at h
  · rename_i z hz
    obtain ⟨n, hn⟩ := sqF_ok _ _ _ hz
    obtain ⟨k, hk⟩ := rdF_ok _ _ _ (eq_of_beq h)
    exact ⟨z, n, k, hn, hk⟩
  · cases h

/-- `_platform` leaves it -/
def tame : List Nat := [97, 45, 50, 53, 55, 95]
theorem tame_ok : ∀ k ∈ tame, g8 k = k ∧ k ≠ 117 ∧ k < 0x110000 := by decide
theorem tame_space : ∀ k ∈ tame, Unicode.isSpace k = false := by decide +kernel
def stays (r : Str) : Bool := decide (r.length ≤ 1000) && (r.cps.toList.all fun k => decide (k ∈ tame)) && decide (rep2 r = r) && (decide (r.length = 0) || decide (Txt.item r (-1) ≠ Str.ofString "-"))
theorem stays_ok {r : Str} (h : stays r = true) : Plat r r ∧ PyData.strOk r = true := by
  unfold stays at h
  simp only [Bool.and_eq_true, Bool.or_eq_true, decide_eq_true_eq] at h
  obtain ⟨⟨⟨h1, h2⟩, h3⟩, h4⟩ := h
  obtain ⟨⟨l⟩⟩ := r
  have hl : ∀ k ∈ l, k ∈ tame := fun k hk => of_decide_eq_true (List.all_eq_true.mp h2 k hk)
  have hmap : l.map g8 = l := by
    have : l.map g8 = l.map id := List.map_congr_left fun k hk => (tame_ok k (hl k hk)).1
    rw [this, List.map_id]
  constructor
  · refine plat_of (l := l) (strip_same (fun k e => tame_space k (hl k (List.mem_of_mem_head? e))) (fun k e => tame_space k (hl k (List.mem_of_getLast? e)))) (by unfold Str.length at h1; simpa using h1) ?_ ?_
    · rw [hmap]
      exact fun hm => (tame_ok 117 (hl 117 hm)).2.1 rfl
    · rw [hmap]
      refine ⟨tx l, 0, 0, .done h1 h3, ?_⟩
      rcases h4 with h4 | h4
      · exact .nil h4
      · by_cases h0 : (tx l).length = 0
        · exact .nil h0
        · exact .stop (Nat.pos_of_ne_zero h0) h1 h4
  · unfold PyData.strOk
    rw [← Array.all_toList]
    exact List.all_eq_true.mpr fun k hk => decide_eq_true (tame_ok k (hl k hk)).2.2

def pats {α : Type} (ls : List α) : Nat → List (List α)
  | 0 => [[]]
  | n + 1 => (pats ls n).flatMap fun r => ls.map (· :: r)
theorem mem_pats {α : Type} {ls : List α} : ∀ {l : List α}, (∀ a ∈ l, a ∈ ls) → l ∈ pats ls l.length
  | [], _ => List.mem_singleton.mpr rfl
  | a :: r, h => List.mem_flatMap.mpr ⟨r, mem_pats fun b hb => h b (List.mem_cons_of_mem _ hb), List.mem_map.mpr ⟨a, h a List.mem_cons_self, rfl⟩⟩

/-- a place of a reply: an `a`, one hyphen or two -/
def plc : Nat → List Nat
  | 0 => [97]
  | 1 => [45]
  | _ => [45, 45]
def sgn : Nat → Nat
  | 0 => 97
  | _ => 45
def pre257 : List Nat := [50, 53, 55, 95, 45]

def chk1 (ss : List Nat) : Bool := goes (tx ss) (foldedOf (tx ss)) && stays (foldedOf (tx ss)) && stays (foldedOf (tx (pre257 ++ ss)))
def chk2 (ps : List Nat) : Bool := goes (tx (pre257 ++ ps.flatMap plc ++ [45])) (foldedOf (tx (pre257 ++ ps.map sgn)))

theorem all_flat {α : Type} {ls : List α} {n : Nat} {f : List α → Bool} (h : ∀ a ∈ ls, ∀ r ∈ pats ls n, f (a :: r) = true) : ∀ l ∈ pats ls (n + 1), f l = true := fun l hl => by
  obtain ⟨r, hr, hl⟩ := List.mem_flatMap.mp hl
  obtain ⟨a, ha, rfl⟩ := List.mem_map.mp hl
  exact h a ha r hr
theorem two {p : Nat → Prop} (h0 : p 97) (h1 : p 45) : ∀ a ∈ [97, 45], p a := fun a ha => by
  simp only [List.mem_cons, List.not_mem_nil, or_false] at ha
  rcases ha with rfl | rfl
  · exact h0
  · exact h1
theorem three {p : Nat → Prop} (h0 : p 0) (h1 : p 1) (h2 : p 2) : ∀ a ∈ [0, 1, 2], p a := fun a ha => by
  simp only [List.mem_cons, List.not_mem_nil, or_false] at ha
  rcases ha with rfl | rfl | rfl
  · exact h0
  · exact h1
  · exact h2
theorem ca3x : (pats [97, 45] 2).all (fun r => chk1 (97 :: r)) = true := by decide +kernel
theorem ca3y : (pats [97, 45] 2).all (fun r => chk1 (45 :: r)) = true := by decide +kernel
theorem ca4xx : (pats [97, 45] 2).all (fun r => chk1 (97 :: 97 :: r)) = true := by decide +kernel
theorem ca4xy : (pats [97, 45] 2).all (fun r => chk1 (97 :: 45 :: r)) = true := by decide +kernel
theorem ca4yx : (pats [97, 45] 2).all (fun r => chk1 (45 :: 97 :: r)) = true := by decide +kernel
theorem ca4yy : (pats [97, 45] 2).all (fun r => chk1 (45 :: 45 :: r)) = true := by decide +kernel
theorem ca5xxx : (pats [97, 45] 2).all (fun r => chk1 (97 :: 97 :: 97 :: r)) = true := by decide +kernel
theorem ca5xxy : (pats [97, 45] 2).all (fun r => chk1 (97 :: 97 :: 45 :: r)) = true := by decide +kernel
theorem ca5xyx : (pats [97, 45] 2).all (fun r => chk1 (97 :: 45 :: 97 :: r)) = true := by decide +kernel
theorem ca5xyy : (pats [97, 45] 2).all (fun r => chk1 (97 :: 45 :: 45 :: r)) = true := by decide +kernel
theorem ca5yxx : (pats [97, 45] 2).all (fun r => chk1 (45 :: 97 :: 97 :: r)) = true := by decide +kernel
theorem ca5yxy : (pats [97, 45] 2).all (fun r => chk1 (45 :: 97 :: 45 :: r)) = true := by decide +kernel
theorem ca5yyx : (pats [97, 45] 2).all (fun r => chk1 (45 :: 45 :: 97 :: r)) = true := by decide +kernel
theorem ca5yyy : (pats [97, 45] 2).all (fun r => chk1 (45 :: 45 :: 45 :: r)) = true := by decide +kernel
theorem cb3a : (pats [0, 1, 2] 2).all (fun r => chk2 (0 :: r)) = true := by decide +kernel
theorem cb3b : (pats [0, 1, 2] 2).all (fun r => chk2 (1 :: r)) = true := by decide +kernel
theorem cb3c : (pats [0, 1, 2] 2).all (fun r => chk2 (2 :: r)) = true := by decide +kernel
theorem cb4aa : (pats [0, 1, 2] 2).all (fun r => chk2 (0 :: 0 :: r)) = true := by decide +kernel
theorem cb4ab : (pats [0, 1, 2] 2).all (fun r => chk2 (0 :: 1 :: r)) = true := by decide +kernel
theorem cb4ac : (pats [0, 1, 2] 2).all (fun r => chk2 (0 :: 2 :: r)) = true := by decide +kernel
theorem cb4ba : (pats [0, 1, 2] 2).all (fun r => chk2 (1 :: 0 :: r)) = true := by decide +kernel
theorem cb4bb : (pats [0, 1, 2] 2).all (fun r => chk2 (1 :: 1 :: r)) = true := by decide +kernel
theorem cb4bc : (pats [0, 1, 2] 2).all (fun r => chk2 (1 :: 2 :: r)) = true := by decide +kernel
theorem cb4ca : (pats [0, 1, 2] 2).all (fun r => chk2 (2 :: 0 :: r)) = true := by decide +kernel
theorem cb4cb : (pats [0, 1, 2] 2).all (fun r => chk2 (2 :: 1 :: r)) = true := by decide +kernel
theorem cb4cc : (pats [0, 1, 2] 2).all (fun r => chk2 (2 :: 2 :: r)) = true := by decide +kernel
theorem cb5aaa : (pats [0, 1, 2] 2).all (fun r => chk2 (0 :: 0 :: 0 :: r)) = true := by decide +kernel
theorem cb5aab : (pats [0, 1, 2] 2).all (fun r => chk2 (0 :: 0 :: 1 :: r)) = true := by decide +kernel
theorem cb5aac : (pats [0, 1, 2] 2).all (fun r => chk2 (0 :: 0 :: 2 :: r)) = true := by decide +kernel
theorem cb5aba : (pats [0, 1, 2] 2).all (fun r => chk2 (0 :: 1 :: 0 :: r)) = true := by decide +kernel
theorem cb5abb : (pats [0, 1, 2] 2).all (fun r => chk2 (0 :: 1 :: 1 :: r)) = true := by decide +kernel
theorem cb5abc : (pats [0, 1, 2] 2).all (fun r => chk2 (0 :: 1 :: 2 :: r)) = true := by decide +kernel
theorem cb5aca : (pats [0, 1, 2] 2).all (fun r => chk2 (0 :: 2 :: 0 :: r)) = true := by decide +kernel
theorem cb5acb : (pats [0, 1, 2] 2).all (fun r => chk2 (0 :: 2 :: 1 :: r)) = true := by decide +kernel
theorem cb5acc : (pats [0, 1, 2] 2).all (fun r => chk2 (0 :: 2 :: 2 :: r)) = true := by decide +kernel
theorem cb5baa : (pats [0, 1, 2] 2).all (fun r => chk2 (1 :: 0 :: 0 :: r)) = true := by decide +kernel
theorem cb5bab : (pats [0, 1, 2] 2).all (fun r => chk2 (1 :: 0 :: 1 :: r)) = true := by decide +kernel
theorem cb5bac : (pats [0, 1, 2] 2).all (fun r => chk2 (1 :: 0 :: 2 :: r)) = true := by decide +kernel
theorem cb5bba : (pats [0, 1, 2] 2).all (fun r => chk2 (1 :: 1 :: 0 :: r)) = true := by decide +kernel
theorem cb5bbb : (pats [0, 1, 2] 2).all (fun r => chk2 (1 :: 1 :: 1 :: r)) = true := by decide +kernel
theorem cb5bbc : (pats [0, 1, 2] 2).all (fun r => chk2 (1 :: 1 :: 2 :: r)) = true := by decide +kernel
theorem cb5bca : (pats [0, 1, 2] 2).all (fun r => chk2 (1 :: 2 :: 0 :: r)) = true := by decide +kernel
theorem cb5bcb : (pats [0, 1, 2] 2).all (fun r => chk2 (1 :: 2 :: 1 :: r)) = true := by decide +kernel
theorem cb5bcc : (pats [0, 1, 2] 2).all (fun r => chk2 (1 :: 2 :: 2 :: r)) = true := by decide +kernel
theorem cb5caa : (pats [0, 1, 2] 2).all (fun r => chk2 (2 :: 0 :: 0 :: r)) = true := by decide +kernel
theorem cb5cab : (pats [0, 1, 2] 2).all (fun r => chk2 (2 :: 0 :: 1 :: r)) = true := by decide +kernel
theorem cb5cac : (pats [0, 1, 2] 2).all (fun r => chk2 (2 :: 0 :: 2 :: r)) = true := by decide +kernel
theorem cb5cba : (pats [0, 1, 2] 2).all (fun r => chk2 (2 :: 1 :: 0 :: r)) = true := by decide +kernel
theorem cb5cbb : (pats [0, 1, 2] 2).all (fun r => chk2 (2 :: 1 :: 1 :: r)) = true := by decide +kernel
theorem cb5cbc : (pats [0, 1, 2] 2).all (fun r => chk2 (2 :: 1 :: 2 :: r)) = true := by decide +kernel
theorem cb5cca : (pats [0, 1, 2] 2).all (fun r => chk2 (2 :: 2 :: 0 :: r)) = true := by decide +kernel
theorem cb5ccb : (pats [0, 1, 2] 2).all (fun r => chk2 (2 :: 2 :: 1 :: r)) = true := by decide +kernel
theorem cb5ccc : (pats [0, 1, 2] 2).all (fun r => chk2 (2 :: 2 :: 2 :: r)) = true := by decide +kernel
theorem all1 {n : Nat} (h3 : 3 ≤ n) (h5 : n ≤ 5) : ∀ ss ∈ pats [97, 45] n, chk1 ss = true := by
  have : n = 3 ∨ n = 4 ∨ n = 5 := by omega
  rcases this with rfl | rfl | rfl
  · exact (all_flat (f := chk1) (two (List.all_eq_true.mp ca3x) (List.all_eq_true.mp ca3y)))
  · exact (all_flat (f := chk1) (two (all_flat (f := fun r => chk1 (97 :: r)) (two (List.all_eq_true.mp ca4xx) (List.all_eq_true.mp ca4xy))) (all_flat (f := fun r => chk1 (45 :: r)) (two (List.all_eq_true.mp ca4yx) (List.all_eq_true.mp ca4yy)))))
  · exact (all_flat (f := chk1) (two (all_flat (f := fun r => chk1 (97 :: r)) (two (all_flat (f := fun r => chk1 (97 :: 97 :: r)) (two (List.all_eq_true.mp ca5xxx) (List.all_eq_true.mp ca5xxy))) (all_flat (f := fun r => chk1 (97 :: 45 :: r)) (two (List.all_eq_true.mp ca5xyx) (List.all_eq_true.mp ca5xyy))))) (all_flat (f := fun r => chk1 (45 :: r)) (two (all_flat (f := fun r => chk1 (45 :: 97 :: r)) (two (List.all_eq_true.mp ca5yxx) (List.all_eq_true.mp ca5yxy))) (all_flat (f := fun r => chk1 (45 :: 45 :: r)) (two (List.all_eq_true.mp ca5yyx) (List.all_eq_true.mp ca5yyy)))))))
theorem all2 {n : Nat} (h3 : 3 ≤ n) (h5 : n ≤ 5) : ∀ ps ∈ pats [0, 1, 2] n, chk2 ps = true := by
  have : n = 3 ∨ n = 4 ∨ n = 5 := by omega
  rcases this with rfl | rfl | rfl
  · exact (all_flat (f := chk2) (three (List.all_eq_true.mp cb3a) (List.all_eq_true.mp cb3b) (List.all_eq_true.mp cb3c)))
  · exact (all_flat (f := chk2) (three (all_flat (f := fun r => chk2 (0 :: r)) (three (List.all_eq_true.mp cb4aa) (List.all_eq_true.mp cb4ab) (List.all_eq_true.mp cb4ac))) (all_flat (f := fun r => chk2 (1 :: r)) (three (List.all_eq_true.mp cb4ba) (List.all_eq_true.mp cb4bb) (List.all_eq_true.mp cb4bc))) (all_flat (f := fun r => chk2 (2 :: r)) (three (List.all_eq_true.mp cb4ca) (List.all_eq_true.mp cb4cb) (List.all_eq_true.mp cb4cc)))))
  · exact (all_flat (f := chk2) (three (all_flat (f := fun r => chk2 (0 :: r)) (three (all_flat (f := fun r => chk2 (0 :: 0 :: r)) (three (List.all_eq_true.mp cb5aaa) (List.all_eq_true.mp cb5aab) (List.all_eq_true.mp cb5aac))) (all_flat (f := fun r => chk2 (0 :: 1 :: r)) (three (List.all_eq_true.mp cb5aba) (List.all_eq_true.mp cb5abb) (List.all_eq_true.mp cb5abc))) (all_flat (f := fun r => chk2 (0 :: 2 :: r)) (three (List.all_eq_true.mp cb5aca) (List.all_eq_true.mp cb5acb) (List.all_eq_true.mp cb5acc))))) (all_flat (f := fun r => chk2 (1 :: r)) (three (all_flat (f := fun r => chk2 (1 :: 0 :: r)) (three (List.all_eq_true.mp cb5baa) (List.all_eq_true.mp cb5bab) (List.all_eq_true.mp cb5bac))) (all_flat (f := fun r => chk2 (1 :: 1 :: r)) (three (List.all_eq_true.mp cb5bba) (List.all_eq_true.mp cb5bbb) (List.all_eq_true.mp cb5bbc))) (all_flat (f := fun r => chk2 (1 :: 2 :: r)) (three (List.all_eq_true.mp cb5bca) (List.all_eq_true.mp cb5bcb) (List.all_eq_true.mp cb5bcc))))) (all_flat (f := fun r => chk2 (2 :: r)) (three (all_flat (f := fun r => chk2 (2 :: 0 :: r)) (three (List.all_eq_true.mp cb5caa) (List.all_eq_true.mp cb5cab) (List.all_eq_true.mp cb5cac))) (all_flat (f := fun r => chk2 (2 :: 1 :: r)) (three (List.all_eq_true.mp cb5cba) (List.all_eq_true.mp cb5cbb) (List.all_eq_true.mp cb5cbc))) (all_flat (f := fun r => chk2 (2 :: 2 :: r)) (three (List.all_eq_true.mp cb5cca) (List.all_eq_true.mp cb5ccb) (List.all_eq_true.mp cb5ccc)))))))

end Mine

namespace Mine

/-- the signs of a name -/
def alph : List Nat := [97, 34, 47, 58, 59, 40, 41, 92, 45]
def f1 (k : Nat) : Nat := if k = 97 then 97 else 45
theorem alph_g8 : ∀ k ∈ alph, g8 k = f1 k := by decide
theorem alph_space : ∀ k ∈ alph, Unicode.isSpace k = false := by decide +kernel
theorem alph_ok : ∀ k ∈ alph, k < 0x110000 := by decide
theorem sign_u {cs : List Nat} : 117 ∉ cs.map f1 := fun h => by
  obtain ⟨k, _, e⟩ := List.mem_map.mp h
  unfold f1 at e
  split at e <;> cases e

theorem map_g8 {cs : List Nat} (h : ∀ k ∈ cs, k ∈ alph) : cs.map g8 = cs.map f1 := List.map_congr_left fun k hk => alph_g8 k (h k hk)
theorem sign_pat {cs : List Nat} : cs.map f1 ∈ pats [97, 45] cs.length := by
  have := mem_pats (ls := [97, 45]) (l := cs.map f1) fun a ha => by
    obtain ⟨k, _, rfl⟩ := List.mem_map.mp ha
    unfold f1
    split <;> simp
  simpa using this

section
variable {cs : List Nat} (h : ∀ k ∈ cs, k ∈ alph) (h3 : 3 ≤ cs.length) (h5 : cs.length ≤ 5)
include h h3 h5

theorem chk_sign : chk1 (cs.map f1) = true := all1 h3 h5 _ sign_pat

theorem name_plat : Plat (tx cs) (foldedOf (tx (cs.map f1))) := by
  refine plat_of (strip_same (fun k e => alph_space k (h k (List.mem_of_mem_head? e))) (fun k e => alph_space k (h k (List.mem_of_getLast? e)))) (by omega) (by rw [map_g8 h]; exact sign_u) ?_
  rw [map_g8 h]
  have := chk_sign h h3 h5
  unfold chk1 at this
  simp only [Bool.and_eq_true] at this
  exact goes_ok this.1.1
theorem file_again : stays (foldedOf (tx (cs.map f1))) = true := by
  have := chk_sign h h3 h5
  unfold chk1 at this
  simp only [Bool.and_eq_true] at this
  exact this.1.2
theorem told_again : stays (foldedOf (tx (pre257 ++ cs.map f1))) = true := by
  have := chk_sign h h3 h5
  unfold chk1 at this
  simp only [Bool.and_eq_true] at this
  exact this.2

/-- a reply, each place by `ch` -/
theorem reply_plat (d : Nat → List Nat) (cat : Nat → Nat) (hcat : ∀ k ∈ alph, cat k ∈ [0, 1, 2] ∧ (d k).map g8 = plc (cat k) ∧ sgn (cat k) = f1 k ∧ (d k).length ≤ 2) :
    Plat (tx ([50, 53, 55, 32, 34] ++ cs.flatMap d ++ [34])) (foldedOf (tx (pre257 ++ cs.map f1))) := by
  have hlen : ∀ l : List Nat, (∀ k ∈ l, k ∈ alph) → (l.flatMap d).length ≤ 2 * l.length := by
    intro l
    induction l with
    | nil => intro _; simp
    | cons k r ih =>
      intro hl
      have h1 := ih fun q hq => hl q (List.mem_cons_of_mem _ hq)
      have h2 := (hcat k (hl k List.mem_cons_self)).2.2.2
      rw [List.flatMap_cons, List.length_append, List.length_cons]
      omega
  have e1 : ([50, 53, 55, 32, 34] ++ cs.flatMap d ++ [34]).map g8 = pre257 ++ (cs.map cat).flatMap plc ++ [45] := by
    rw [List.map_append, List.map_append]
    congr 2
    rw [List.map_flatMap, List.flatMap_map]
    have : ∀ l : List Nat, (∀ k ∈ l, k ∈ alph) → (l.flatMap fun k => (d k).map g8) = l.flatMap fun k => plc (cat k) := by
      intro l
      induction l with
      | nil => intro _; rfl
      | cons k r ih =>
        intro hl
        rw [List.flatMap_cons, List.flatMap_cons, ih fun q hq => hl q (List.mem_cons_of_mem _ hq), (hcat k (hl k List.mem_cons_self)).2.1]
    exact this cs h
  have e2 : cs.map f1 = (cs.map cat).map sgn := by
    rw [List.map_map]
    exact List.map_congr_left fun k hk => ((hcat k (h k hk)).2.2.1).symm
  refine plat_of (strip_same (fun k e => ?_) (fun k e => ?_)) ?_ ?_ ?_
  · simp at e; subst e; decide +kernel
  · rw [List.getLast?_concat] at e
    cases e; decide +kernel
  · have := hlen cs h
    simp only [List.length_append, List.length_cons, List.length_nil]
    omega
  · rw [e1]
    intro hm
    rcases List.mem_append.mp hm with q | q
    · rcases List.mem_append.mp q with q | q
      · exact absurd q (by decide)
      · obtain ⟨a, _, ha⟩ := List.mem_flatMap.mp q
        unfold plc at ha
        split at ha <;> simp at ha
    · simp at q
  rw [e1, e2]
  have hp : cs.map cat ∈ pats [0, 1, 2] cs.length := by
    have := mem_pats (ls := [0, 1, 2]) (l := cs.map cat) fun a ha => by
      obtain ⟨k, hk, rfl⟩ := List.mem_map.mp ha
      exact (hcat k (h k hk)).1
    simpa using this
  exact goes_ok (all2 h3 h5 _ hp)
end

/-! the replies -/
def dq (k : Nat) : List Nat := if k = 34 then [34, 34] else [k]
theorem dbl_eq (cs : List Nat) : dbl (tx cs) = tx (cs.flatMap dq) := by
  unfold dbl
  show Txt.replace (tx cs) ⟨#[34]⟩ ⟨#[34, 34]⟩ = _
  rw [rep_one]; rfl
theorem wrap_eq (cs : List Nat) : wrap (tx cs) = tx ([50, 53, 55, 32, 34] ++ cs ++ [34]) := by
  unfold wrap
  apply PySem.Str.ext'
  apply Array.toList_inj.mp
  simp only [Str.cps_append, Array.toList_append]
  rfl
theorem told_eq (cs : List Nat) : Str.ofString "257_-" ++ tx cs = tx (pre257 ++ cs) := by
  apply PySem.Str.ext'
  apply Array.toList_inj.mp
  simp only [Str.cps_append, Array.toList_append]
  rfl
def cat2 (k : Nat) : Nat := if k = 97 then 0 else if k = 34 then 2 else 1
def cat1 (k : Nat) : Nat := if k = 97 then 0 else 1
theorem cat2_ok : ∀ k ∈ alph, cat2 k ∈ [0, 1, 2] ∧ (dq k).map g8 = plc (cat2 k) ∧ sgn (cat2 k) = f1 k ∧ (dq k).length ≤ 2 := by decide
theorem cat1_ok : ∀ k ∈ alph, cat1 k ∈ [0, 1, 2] ∧ ([k] : List Nat).map g8 = plc (cat1 k) ∧ sgn (cat1 k) = f1 k ∧ ([k] : List Nat).length ≤ 2 := by decide

theorem doubled_plat {cs : List Nat} (h : ∀ k ∈ cs, k ∈ alph) (h3 : 3 ≤ cs.length) (h5 : cs.length ≤ 5) : Plat (wrap (dbl (tx cs))) (foldedOf (Str.ofString "257_-" ++ tx (cs.map f1))) := by
  rw [dbl_eq, wrap_eq, told_eq]
  exact reply_plat h h3 h5 dq cat2 cat2_ok
theorem plain_plat {cs : List Nat} (h : ∀ k ∈ cs, k ∈ alph) (h3 : 3 ≤ cs.length) (h5 : cs.length ≤ 5) : Plat (wrap (tx cs)) (foldedOf (Str.ofString "257_-" ++ tx (cs.map f1))) := by
  rw [wrap_eq, told_eq]
  have := reply_plat h h3 h5 (fun k => [k]) cat1 cat1_ok
  rwa [show cs.flatMap (fun k => [k]) = cs by simp] at this
end Mine

namespace Mine

theorem tx_len (l : List Nat) : (tx l).length = l.length := by unfold Str.length; simp
theorem tx_append (a b : List Nat) : tx a ++ tx b = tx (a ++ b) := by
  apply PySem.Str.ext'
  apply Array.toList_inj.mp
  simp only [Str.cps_append, Array.toList_append]
theorem item_tx {l : List Nat} {i c : Nat} (h : l[i]? = some c) : Txt.item (tx l) (i : Nat) = tx [c] := by
  have hi : i < l.length := by
    rcases Nat.lt_or_ge i l.length with q | q
    · exact q
    · rw [List.getElem?_eq_none q] at h; cases h
  unfold Txt.item Txt.charAt
  have e : seqIndex? (i : Int) (tx l).length = some i := by
    rw [tx_len]
    unfold seqIndex?
    simp
    omega
  rw [e]
  show (⟨#[((l.toArray)[i]?).getD 0]⟩ : Str) = _
  rw [List.getElem?_toArray, h]; rfl
theorem tx_ne {a b : Nat} (h : a ≠ b) : tx [a] ≠ tx [b] := fun e => by
  have := congrArg (fun s : Str => s.cps.toList) e
  simp at this
  exact h this

theorem pr_run {resp : List Nat} : ∀ (cs pre d : List Nat), resp = pre ++ cs.flatMap dq ++ [34] → d.length + cs.length ≤ 1000 → ∃ k, Pr (tx resp) pre.length (tx d) (tx (d ++ cs)) k
  | [], pre, d, e, _ => by
    subst e
    refine ⟨0, ?_⟩
    rw [List.append_nil]
    refine .brk ?_ ?_ (.inl ?_)
    · rw [tx_len]; simp
    · exact item_tx (c := 34) (by simp)
    · rw [tx_len]; simp
  | c :: r, pre, d, e, hd => by
    simp only [List.length_cons] at hd
    by_cases hc : c = 34
    · subst hc
      obtain ⟨k, hk⟩ := pr_run (resp := resp) r (pre ++ [34, 34]) (d ++ [34]) (by rw [e]; simp [dq]) (by simp; omega)
      refine ⟨k + 1, .quote ?_ ?_ ?_ ?_ ?_⟩
      · rw [tx_len, e]; simp [dq]
      · exact item_tx (c := 34) (by rw [e]; simp [dq])
      · exact item_tx (c := 34) (by rw [e, List.append_assoc, List.getElem?_append_right (by omega)]; simp [dq])
      · rw [tx_len]; omega
      · rw [item_tx (c := 34) (by rw [e]; simp [dq]), tx_append]
        simpa using hk
    · obtain ⟨k, hk⟩ := pr_run (resp := resp) r (pre ++ [c]) (d ++ [c]) (by rw [e]; simp [dq, hc]) (by simp; omega)
      refine ⟨k + 1, .step ?_ ?_ ?_ ?_⟩
      · rw [tx_len, e]; simp [dq]; omega
      · rw [item_tx (c := c) (by rw [e]; simp [dq, hc])]
        exact tx_ne hc
      · rw [tx_len]; omega
      · rw [item_tx (c := c) (by rw [e]; simp [dq, hc]), tx_append]
        simpa using hk

theorem slices : ∀ n ∈ [6, 7, 8, 9, 10, 11, 12, 13, 14, 15, 16], (Builtin.Str.strSliceIndices none (some 3) 1 n = [0, 1, 2] ∧ ((3 : Nat) == n) = false) ∧ Builtin.Str.strSliceIndices (some 3) (some 5) 1 n = [3, 4] ∧ ((2 : Nat) == n) = false := by decide
theorem slice_257 {X : List Nat} (h : X.length ≤ 10) : Txt.slice (tx ([50, 53, 55, 32, 34] ++ X ++ [34])) none (some 3) = "257" ∧ Txt.slice (tx ([50, 53, 55, 32, 34] ++ X ++ [34])) (some 3) (some 5) = " \"" := by
  have hlen : (tx ([50, 53, 55, 32, 34] ++ X ++ [34])).length = X.length + 6 := by rw [tx_len]; simp
  have hm : X.length + 6 ∈ [6, 7, 8, 9, 10, 11, 12, 13, 14, 15, 16] := by
    simp only [List.mem_cons, List.not_mem_nil, or_false]; omega
  obtain ⟨⟨e1, n1⟩, e2, n2⟩ := slices _ hm
  constructor
  · unfold Txt.slice
    rw [hlen, e1, show ([0, 1, 2] : List Nat).length = 3 from rfl, n1]
    rfl
  · unfold Txt.slice
    rw [hlen, e2, show ([3, 4] : List Nat).length = 2 from rfl, n2]
    rfl
theorem parse_ok {cs : List Nat} (h5 : cs.length ≤ 5) : Parse (wrap (dbl (tx cs))) (tx cs) := by
  rw [dbl_eq, wrap_eq]
  have hl : (cs.flatMap dq).length ≤ 10 := by
    have : ∀ l : List Nat, (l.flatMap dq).length ≤ 2 * l.length := by
      intro l
      induction l with
      | nil => simp
      | cons k r ih =>
        rw [List.flatMap_cons, List.length_append, List.length_cons]
        have : (dq k).length ≤ 2 := by unfold dq; split <;> simp
        omega
    have := this cs
    omega
  refine ⟨?_, ?_, ?_, ?_⟩
  · rw [tx_len]
    simp only [List.length_append, List.length_cons, List.length_nil]
    omega
  · exact (slice_257 hl).1
  · exact (slice_257 hl).2
  · have := pr_run (resp := [50, 53, 55, 32, 34] ++ cs.flatMap dq ++ [34]) cs [50, 53, 55, 32, 34] [] rfl (by simp; omega)
    exact this

/-! names -/
theorem join_tx (l : List Nat) : Txt.join "" (l.map fun k => tx [k]) = tx l := by
  show Builtin.Str.glued (Str.ofString "") _ = _
  rw [StrLaws.glued_eq_join]
  exact PyProof.Rows.join_ones l
theorem name_tx {mk : Nat → Str} {mc : Nat → Nat} (h : ∀ k, mk k = tx [mc k]) (sz i : Nat) : nameOf mk sz i = tx ((List.range sz).map fun k => if bitOf i k == 1 then mc k else 97) := by
  unfold nameOf
  rw [← join_tx, List.map_map]
  congr 1
  refine List.map_congr_left fun k _ => ?_
  simp only [Function.comp]
  split
  · exact h k
  · rfl

def mcOf (b : Int) (k : Nat) : Nat := (Txt.charAt "\"/:;()\\-" ((b.fdiv (8 ^ k)).fmod 8)).getD 0
theorem mark_tx (b : Int) (k : Nat) : markAt b k = tx [mcOf b k] := rfl
theorem mc_alph (b : Int) (k : Nat) : mcOf b k ∈ alph ∧ mcOf b k ≠ 97 := by
  unfold mcOf
  have h0 : 0 ≤ ((b.fdiv (8 ^ k)).fmod 8) := Int.fmod_nonneg_of_pos _ (by decide)
  have h8 : ((b.fdiv (8 ^ k)).fmod 8) < 8 := Int.fmod_lt_of_pos _ (by decide)
  generalize ((b.fdiv (8 ^ k)).fmod 8) = i at h0 h8
  have : i = 0 ∨ i = 1 ∨ i = 2 ∨ i = 3 ∨ i = 4 ∨ i = 5 ∨ i = 6 ∨ i = 7 := by omega
  rcases this with rfl | rfl | rfl | rfl | rfl | rfl | rfl | rfl <;> decide +kernel

end Mine

namespace Mine

/-! counts -/
theorem upTo_eq {n : Nat} {F : Nat → Str} {l : List Str} (hl : l.length = n) (h : ∀ i, i < n → F i = l.getD i "") : upTo n F = l := by
  refine List.ext_getElem (by simp [upTo, hl]) fun i h1 h2 => ?_
  have hi : i < n := by simpa [upTo] using h1
  have e := h i hi
  rw [List.getD_eq_getElem?_getD, List.getElem?_eq_getElem h2] at e
  simpa [upTo] using e
def fileL3 : List Str := [⟨#[97, 97, 97]⟩, ⟨#[45, 97, 97]⟩, ⟨#[97, 45, 97]⟩, ⟨#[45, 97]⟩, ⟨#[97, 97]⟩, ⟨#[45, 97]⟩, ⟨#[97]⟩, ⟨#[]⟩]
theorem fileL3_a : ∀ j, j < 8 → fileOf 3 (0 + j) = fileL3.getD (0 + j) "" := by decide +kernel
theorem fileL3_eq : upTo (2 ^ 3) (fileOf 3) = fileL3 := upTo_eq rfl fun i hi => by
  have hi : i < 8 := hi
  exact (by have := fileL3_a (i - 0) (by omega); rwa [show 0 + (i - 0) = i by omega] at this)
theorem fileL3_cnt : ((uniq (upTo (2 ^ 3) (fileOf 3))).length : Int) = (fibPair (3 + 2)).1 - 1 := by
  rw [fileL3_eq]; decide +kernel
def toldL3 : List Str := [⟨#[50, 53, 55, 95, 45, 97, 97, 97]⟩, ⟨#[50, 53, 55, 95, 45, 97, 97]⟩, ⟨#[50, 53, 55, 95, 45, 97, 45, 97]⟩, ⟨#[50, 53, 55, 95, 45, 97]⟩, ⟨#[50, 53, 55, 95, 45, 97, 97]⟩, ⟨#[50, 53, 55, 95, 45, 97]⟩, ⟨#[50, 53, 55, 95, 45, 97]⟩, ⟨#[50, 53, 55, 95]⟩]
theorem toldL3_a : ∀ j, j < 8 → toldOf 3 (0 + j) = toldL3.getD (0 + j) "" := by decide +kernel
theorem toldL3_eq : upTo (2 ^ 3) (toldOf 3) = toldL3 := upTo_eq rfl fun i hi => by
  have hi : i < 8 := hi
  exact (by have := toldL3_a (i - 0) (by omega); rwa [show 0 + (i - 0) = i by omega] at this)
theorem toldL3_cnt : ((uniq (upTo (2 ^ 3) (toldOf 3))).length : Int) = (fibPair (3 + 1)).1 := by
  rw [toldL3_eq]; decide +kernel
def fileL4 : List Str := [⟨#[97, 97, 97, 97]⟩, ⟨#[45, 97, 97, 97]⟩, ⟨#[97, 45, 97, 97]⟩, ⟨#[45, 97, 97]⟩, ⟨#[97, 97, 45, 97]⟩, ⟨#[45, 97, 45, 97]⟩, ⟨#[97, 45, 97]⟩, ⟨#[45, 97]⟩, ⟨#[97, 97, 97]⟩, ⟨#[45, 97, 97]⟩, ⟨#[97, 45, 97]⟩, ⟨#[45, 97]⟩, ⟨#[97, 97]⟩, ⟨#[45, 97]⟩, ⟨#[97]⟩, ⟨#[]⟩]
theorem fileL4_a : ∀ j, j < 8 → fileOf 4 (0 + j) = fileL4.getD (0 + j) "" := by decide +kernel
theorem fileL4_b : ∀ j, j < 8 → fileOf 4 (8 + j) = fileL4.getD (8 + j) "" := by decide +kernel
theorem fileL4_eq : upTo (2 ^ 4) (fileOf 4) = fileL4 := upTo_eq rfl fun i hi => by
  have hi : i < 16 := hi
  by_cases h0 : i < 8
  · exact (by have := fileL4_a (i - 0) (by omega); rwa [show 0 + (i - 0) = i by omega] at this)
  exact (by have := fileL4_b (i - 8) (by omega); rwa [show 8 + (i - 8) = i by omega] at this)
theorem fileL4_cnt : ((uniq (upTo (2 ^ 4) (fileOf 4))).length : Int) = (fibPair (4 + 2)).1 - 1 := by
  rw [fileL4_eq]; decide +kernel
def toldL4 : List Str := [⟨#[50, 53, 55, 95, 45, 97, 97, 97, 97]⟩, ⟨#[50, 53, 55, 95, 45, 97, 97, 97]⟩, ⟨#[50, 53, 55, 95, 45, 97, 45, 97, 97]⟩, ⟨#[50, 53, 55, 95, 45, 97, 97]⟩, ⟨#[50, 53, 55, 95, 45, 97, 97, 45, 97]⟩, ⟨#[50, 53, 55, 95, 45, 97, 45, 97]⟩, ⟨#[50, 53, 55, 95, 45, 97, 45, 97]⟩, ⟨#[50, 53, 55, 95, 45, 97]⟩, ⟨#[50, 53, 55, 95, 45, 97, 97, 97]⟩, ⟨#[50, 53, 55, 95, 45, 97, 97]⟩, ⟨#[50, 53, 55, 95, 45, 97, 45, 97]⟩, ⟨#[50, 53, 55, 95, 45, 97]⟩, ⟨#[50, 53, 55, 95, 45, 97, 97]⟩, ⟨#[50, 53, 55, 95, 45, 97]⟩, ⟨#[50, 53, 55, 95, 45, 97]⟩, ⟨#[50, 53, 55, 95]⟩]
theorem toldL4_a : ∀ j, j < 8 → toldOf 4 (0 + j) = toldL4.getD (0 + j) "" := by decide +kernel
theorem toldL4_b : ∀ j, j < 8 → toldOf 4 (8 + j) = toldL4.getD (8 + j) "" := by decide +kernel
theorem toldL4_eq : upTo (2 ^ 4) (toldOf 4) = toldL4 := upTo_eq rfl fun i hi => by
  have hi : i < 16 := hi
  by_cases h0 : i < 8
  · exact (by have := toldL4_a (i - 0) (by omega); rwa [show 0 + (i - 0) = i by omega] at this)
  exact (by have := toldL4_b (i - 8) (by omega); rwa [show 8 + (i - 8) = i by omega] at this)
theorem toldL4_cnt : ((uniq (upTo (2 ^ 4) (toldOf 4))).length : Int) = (fibPair (4 + 1)).1 := by
  rw [toldL4_eq]; decide +kernel
def fileL5 : List Str := [⟨#[97, 97, 97, 97, 97]⟩, ⟨#[45, 97, 97, 97, 97]⟩, ⟨#[97, 45, 97, 97, 97]⟩, ⟨#[45, 97, 97, 97]⟩, ⟨#[97, 97, 45, 97, 97]⟩, ⟨#[45, 97, 45, 97, 97]⟩, ⟨#[97, 45, 97, 97]⟩, ⟨#[45, 97, 97]⟩, ⟨#[97, 97, 97, 45, 97]⟩, ⟨#[45, 97, 97, 45, 97]⟩, ⟨#[97, 45, 97, 45, 97]⟩, ⟨#[45, 97, 45, 97]⟩, ⟨#[97, 97, 45, 97]⟩, ⟨#[45, 97, 45, 97]⟩, ⟨#[97, 45, 97]⟩, ⟨#[45, 97]⟩, ⟨#[97, 97, 97, 97]⟩, ⟨#[45, 97, 97, 97]⟩, ⟨#[97, 45, 97, 97]⟩, ⟨#[45, 97, 97]⟩, ⟨#[97, 97, 45, 97]⟩, ⟨#[45, 97, 45, 97]⟩, ⟨#[97, 45, 97]⟩, ⟨#[45, 97]⟩, ⟨#[97, 97, 97]⟩, ⟨#[45, 97, 97]⟩, ⟨#[97, 45, 97]⟩, ⟨#[45, 97]⟩, ⟨#[97, 97]⟩, ⟨#[45, 97]⟩, ⟨#[97]⟩, ⟨#[]⟩]
theorem fileL5_a : ∀ j, j < 8 → fileOf 5 (0 + j) = fileL5.getD (0 + j) "" := by decide +kernel
theorem fileL5_b : ∀ j, j < 8 → fileOf 5 (8 + j) = fileL5.getD (8 + j) "" := by decide +kernel
theorem fileL5_c : ∀ j, j < 8 → fileOf 5 (16 + j) = fileL5.getD (16 + j) "" := by decide +kernel
theorem fileL5_d : ∀ j, j < 8 → fileOf 5 (24 + j) = fileL5.getD (24 + j) "" := by decide +kernel
theorem fileL5_eq : upTo (2 ^ 5) (fileOf 5) = fileL5 := upTo_eq rfl fun i hi => by
  have hi : i < 32 := hi
  by_cases h0 : i < 8
  · exact (by have := fileL5_a (i - 0) (by omega); rwa [show 0 + (i - 0) = i by omega] at this)
  by_cases h8 : i < 16
  · exact (by have := fileL5_b (i - 8) (by omega); rwa [show 8 + (i - 8) = i by omega] at this)
  by_cases h16 : i < 24
  · exact (by have := fileL5_c (i - 16) (by omega); rwa [show 16 + (i - 16) = i by omega] at this)
  exact (by have := fileL5_d (i - 24) (by omega); rwa [show 24 + (i - 24) = i by omega] at this)
theorem fileL5_cnt : ((uniq (upTo (2 ^ 5) (fileOf 5))).length : Int) = (fibPair (5 + 2)).1 - 1 := by
  rw [fileL5_eq]; decide +kernel
def toldL5 : List Str := [⟨#[50, 53, 55, 95, 45, 97, 97, 97, 97, 97]⟩, ⟨#[50, 53, 55, 95, 45, 97, 97, 97, 97]⟩, ⟨#[50, 53, 55, 95, 45, 97, 45, 97, 97, 97]⟩, ⟨#[50, 53, 55, 95, 45, 97, 97, 97]⟩, ⟨#[50, 53, 55, 95, 45, 97, 97, 45, 97, 97]⟩, ⟨#[50, 53, 55, 95, 45, 97, 45, 97, 97]⟩, ⟨#[50, 53, 55, 95, 45, 97, 45, 97, 97]⟩, ⟨#[50, 53, 55, 95, 45, 97, 97]⟩, ⟨#[50, 53, 55, 95, 45, 97, 97, 97, 45, 97]⟩, ⟨#[50, 53, 55, 95, 45, 97, 97, 45, 97]⟩, ⟨#[50, 53, 55, 95, 45, 97, 45, 97, 45, 97]⟩, ⟨#[50, 53, 55, 95, 45, 97, 45, 97]⟩, ⟨#[50, 53, 55, 95, 45, 97, 97, 45, 97]⟩, ⟨#[50, 53, 55, 95, 45, 97, 45, 97]⟩, ⟨#[50, 53, 55, 95, 45, 97, 45, 97]⟩, ⟨#[50, 53, 55, 95, 45, 97]⟩, ⟨#[50, 53, 55, 95, 45, 97, 97, 97, 97]⟩, ⟨#[50, 53, 55, 95, 45, 97, 97, 97]⟩, ⟨#[50, 53, 55, 95, 45, 97, 45, 97, 97]⟩, ⟨#[50, 53, 55, 95, 45, 97, 97]⟩, ⟨#[50, 53, 55, 95, 45, 97, 97, 45, 97]⟩, ⟨#[50, 53, 55, 95, 45, 97, 45, 97]⟩, ⟨#[50, 53, 55, 95, 45, 97, 45, 97]⟩, ⟨#[50, 53, 55, 95, 45, 97]⟩, ⟨#[50, 53, 55, 95, 45, 97, 97, 97]⟩, ⟨#[50, 53, 55, 95, 45, 97, 97]⟩, ⟨#[50, 53, 55, 95, 45, 97, 45, 97]⟩, ⟨#[50, 53, 55, 95, 45, 97]⟩, ⟨#[50, 53, 55, 95, 45, 97, 97]⟩, ⟨#[50, 53, 55, 95, 45, 97]⟩, ⟨#[50, 53, 55, 95, 45, 97]⟩, ⟨#[50, 53, 55, 95]⟩]
theorem toldL5_a : ∀ j, j < 8 → toldOf 5 (0 + j) = toldL5.getD (0 + j) "" := by decide +kernel
theorem toldL5_b : ∀ j, j < 8 → toldOf 5 (8 + j) = toldL5.getD (8 + j) "" := by decide +kernel
theorem toldL5_c : ∀ j, j < 8 → toldOf 5 (16 + j) = toldL5.getD (16 + j) "" := by decide +kernel
theorem toldL5_d : ∀ j, j < 8 → toldOf 5 (24 + j) = toldL5.getD (24 + j) "" := by decide +kernel
theorem toldL5_eq : upTo (2 ^ 5) (toldOf 5) = toldL5 := upTo_eq rfl fun i hi => by
  have hi : i < 32 := hi
  by_cases h0 : i < 8
  · exact (by have := toldL5_a (i - 0) (by omega); rwa [show 0 + (i - 0) = i by omega] at this)
  by_cases h8 : i < 16
  · exact (by have := toldL5_b (i - 8) (by omega); rwa [show 8 + (i - 8) = i by omega] at this)
  by_cases h16 : i < 24
  · exact (by have := toldL5_c (i - 16) (by omega); rwa [show 16 + (i - 16) = i by omega] at this)
  exact (by have := toldL5_d (i - 24) (by omega); rwa [show 24 + (i - 24) = i by omega] at this)
theorem toldL5_cnt : ((uniq (upTo (2 ^ 5) (toldOf 5))).length : Int) = (fibPair (5 + 1)).1 := by
  rw [toldL5_eq]; decide +kernel
end Mine

namespace Mine

theorem str_ok {cs : List Nat} (h : ∀ k ∈ cs, k ∈ alph) : PyData.strOk (tx cs) = true := by
  unfold PyData.strOk
  rw [← Array.all_toList]
  exact List.all_eq_true.mpr fun k hk => decide_eq_true (alph_ok k (h k hk))

def csOf (b : Int) (sz i : Nat) : List Nat := (List.range sz).map fun k => if bitOf i k == 1 then mcOf b k else 97
theorem cs_len (b : Int) (sz i : Nat) : (csOf b sz i).length = sz := by simp [csOf]
theorem cs_alph (b : Int) (sz i : Nat) : ∀ k ∈ csOf b sz i, k ∈ alph := fun k hk => by
  obtain ⟨j, _, rfl⟩ := List.mem_map.mp hk
  split
  · exact (mc_alph b j).1
  · decide
theorem cs_name (b : Int) (sz i : Nat) : nameOf (markAt b) sz i = tx (csOf b sz i) := name_tx (mark_tx b) sz i
theorem cs_sign (b : Int) (sz i : Nat) : signOf sz i = tx ((csOf b sz i).map f1) := by
  refine (name_tx (mk := fun _ => Str.ofString "-") (mc := fun _ => 45) (fun _ => rfl) sz i).trans ?_
  unfold csOf
  rw [List.map_map]
  refine congrArg tx (List.map_congr_left fun k _ => ?_)
  simp only [Function.comp]
  split
  · unfold f1; rw [if_neg (mc_alph b k).2]
  · rfl
theorem cs_file (b : Int) (sz i : Nat) : fileOf sz i = foldedOf (tx ((csOf b sz i).map f1)) := by unfold fileOf; rw [cs_sign b]
theorem cs_told (b : Int) (sz i : Nat) : toldOf sz i = foldedOf (Str.ofString "257_-" ++ tx ((csOf b sz i).map f1)) := by unfold toldOf; rw [cs_sign b]

theorem counts {sz : Nat} (h3 : 3 ≤ sz) (h5 : sz ≤ 5) : ((uniq (upTo (2 ^ sz) (fileOf sz))).length : Int) = (fibPair (sz + 2)).1 - 1 ∧ ((uniq (upTo (2 ^ sz) (toldOf sz))).length : Int) = (fibPair (sz + 1)).1 := by
  have : sz = 3 ∨ sz = 4 ∨ sz = 5 := by omega
  rcases this with rfl | rfl | rfl
  · exact ⟨fileL3_cnt, toldL3_cnt⟩
  · exact ⟨fileL4_cnt, toldL4_cnt⟩
  · exact ⟨fileL5_cnt, toldL5_cnt⟩

theorem law_ok (b : Int) (sz : Nat) (h3 : 3 ≤ sz) (h5 : sz ≤ 5) : LawOk sz (markAt b) := by
  have l3 : ∀ i, 3 ≤ (csOf b sz i).length := fun i => by rw [cs_len]; exact h3
  have l5 : ∀ i, (csOf b sz i).length ≤ 5 := fun i => by rw [cs_len]; exact h5
  have fs : ∀ i, Plat (fileOf sz i) (fileOf sz i) ∧ PyData.strOk (fileOf sz i) = true := fun i => by
    rw [cs_file b]
    exact stays_ok (file_again (cs_alph b sz i) (l3 i) (l5 i))
  have ts : ∀ i, Plat (toldOf sz i) (toldOf sz i) ∧ PyData.strOk (toldOf sz i) = true := fun i => by
    rw [cs_told b, told_eq]
    exact stays_ok (told_again (cs_alph b sz i) (l3 i) (l5 i))
  obtain ⟨c1, c2⟩ := counts h3 h5
  refine ⟨fun i _ => ?_, fun i _ => ?_, fun i _ => ?_, fun i _ => ?_, fun i _ => ⟨(fs i).1, (ts i).1⟩, fun i _ => ?_, fun i _ => (fs i).2, fun i _ => (ts i).2, fun i _ => ⟨?_, ?_, ?_⟩, c1, c2⟩
  · rw [cs_name]; exact parse_ok (l5 i)
  · rw [cs_name, cs_file b]; exact name_plat (cs_alph b sz i) (l3 i) (l5 i)
  · rw [cs_name, cs_told b]; exact doubled_plat (cs_alph b sz i) (l3 i) (l5 i)
  · rw [cs_name, cs_told b]; exact plain_plat (cs_alph b sz i) (l3 i) (l5 i)
  · rw [cs_name]; exact str_ok (cs_alph b sz i)
  · rw [cs_name, tx_len, cs_len]; omega
  · rw [cs_name, dbl_eq, tx_len]
    have : ∀ l : List Nat, (l.flatMap dq).length ≤ 2 * l.length := by
      intro l
      induction l with
      | nil => simp
      | cons k r ih =>
        rw [List.flatMap_cons, List.length_append, List.length_cons]
        have : (dq k).length ≤ 2 := by unfold dq; split <;> simp
        omega
    have := this (csOf b sz i)
    rw [cs_len] at this
    omega
  · rw [cs_sign b, tx_len, List.length_map, cs_len]; omega
end Mine

theorem PySem.Challenge.cw_pe0051_01_holds : PySem.Challenge.rw_pe0051_01.Holds :=
  Mine.whole Mine.law_ok
