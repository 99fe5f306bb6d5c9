import PyProof.Rows.All
import Wide.All
import OpenK.AllK
import Wide.FinOn
import PySem.Challenge.RW_bb0044_01
open PySem PySem.W PyProof.Rows PySem.Calls
set_option Elab.async false
namespace Mine
set_option maxRecDepth 100000 in
set_option maxHeartbeats 8000000 in
open_top hd for PySem.Challenge.rw_bb0044_01
/-! part M1 -/
section
theorem walk_start_M1 : True := by
  w_top off
  trivial
abbrev PR : Program := PySem.Challenge.rw_bb0044_01.row.prog
abbrev kTop (hd : Option Value) (dp un : Nat) (gd : Option (List Code)) (env : Env) (outer : List Env) : Around := { handled := hd, depth := dp, frames := some (env :: outer), guards := gd, units := un }
abbrev ent (w : World) (k : String) (t : Tok) (v : Value) : DictEntry := { hash := PyData.keyHash w.params (Str.ofString k), key := .str (Str.ofString k) t, val := v }
abbrev cDict (w : World) (t1 t2 t3 t4 t5 : Tok) (many : Int) (mp q lk : Addr) (n : Nat) : Obj :=
  dictOf [ent w "capacity" t1 (.int many t5), ent w "_mapping" t2 (.ref mp), ent w "_queue" t3 (.ref q), ent w "_wlock" t4 (.ref lk)] n
/-- the parts of the cache that a method turns lie apart from the rest of the ledger -/
structure Apart (c cd mp q lk lkd : Nat) (rest : List (Addr × Obj)) : Prop where
  a1 : c ≠ mp
  a2 : c ≠ q
  a3 : cd ≠ mp
  a4 : cd ≠ q
  a5 : lk ≠ mp
  a6 : lk ≠ q
  a7 : lkd ≠ mp
  a8 : lkd ≠ q
  a9 : mp ≠ q
  b1 : ∀ p ∈ rest, p.1 ≠ mp
  b2 : ∀ p ∈ rest, p.1 ≠ q
  lo : (mp == sysModules) = false
section
variable {prog : Program} {w : World} {A : Around} {E : Value → Shared → Prop} {s : Shared} {h₀ h : Heap} {L D : Addr} {m : Str → Option Value} {news : List (Addr × Obj)} {g : Obj → List (Addr × Obj)} {vs : List Value} {ks : List Int} {n : Nat}

theorem ints_append {vs : List Value} {ks : List Int} (h : IntsAre vs ks) (k : Int) (t : Tok) : IntsAre (vs ++ [.int k t]) (ks ++ [k]) := by
  induction h with
  | nil => exact .cons _ _ .nil
  | cons a b _ ih => exact .cons a b ih
theorem ints_kf {vs : List Value} {ks : List Int} (h : IntsAre vs ks) : kf_ints vs = true := by
  induction h with
  | nil => rfl
  | cons a b _ ih => exact ih
theorem ints_remove {k : Int} {vs : List Value} {ks : List Int} (h : IntsAre vs ks) (hm : k ∈ ks) :
    ∃ j q, kf_at k vs = some j ∧ ki_delL vs j = some q ∧ IntsAre q (ks.erase k) := by
  induction h with
  | nil => cases hm
  | @cons a b vs ks h ih =>
    by_cases e : a = k
    · subst e
      refine ⟨0, vs, ?_, ?_, ?_⟩
      · unfold kf_at; simp [isInt]
      · simp [ki_delL]
      · simpa using h
    · have hm' : k ∈ ks := by
        rcases List.mem_cons.mp hm with x | x
        · exact absurd x.symm e
        · exact x
      obtain ⟨j, q, h1, h2, h3⟩ := ih hm'
      refine ⟨j + 1, .int a b :: q, ?_, ?_, ?_⟩
      · unfold kf_at; simp [isInt, h1, beq_eq_false_iff_ne.mpr e]
      · simp [ki_delL, h2]
      · rw [List.erase_cons_tail (by simpa using e)]; exact .cons _ _ h3

theorem my_change (F : Fr h₀ L s.heap m) (N : News h₀ L s.heap news) (U : UpdF D (W.listOf vs.toArray n) news g) {vs' : List Value} {f : Array Value → Array Value} (he : f vs.toArray = vs'.toArray) :
    ∃ n', Fr h₀ L (s.heap.update D (Obj.mapSeq f)) m ∧ News h₀ L (s.heap.update D (Obj.mapSeq f)) (g (W.listOf vs'.toArray n')) := by
  obtain ⟨pre, post, rfl, hg, a, b⟩ := U.split
  have z := N (D, W.listOf vs.toArray n) (List.mem_append.mpr (.inr (.head _)))
  exact ⟨_, F.change (Heap.SameBut.update ..) z.2.1 z.2.2, hg _ ▸ ki_turn f N a b he rfl⟩
theorem updF_mem {d : Addr} {o : Obj} {l : List (Addr × Obj)} {g : Obj → List (Addr × Obj)} (U : UpdF d o l g) : (d, o) ∈ l := by
  obtain ⟨pre, post, rfl, hg, a, b⟩ := U.split
  exact List.mem_append.mpr (.inr (.head _))

theorem my_append {k : Int} {t : Tok} {Q : Value → Shared → Prop} (F : Fr h₀ L s.heap m) (N : News h₀ L s.heap news) (hi : IntsAre vs ks) (U : UpdF D (W.listOf vs.toArray n) news g) (hz : ks.length ≤ 1000)
    (h : ∀ h' vs' n', Fr h₀ L h' m → News h₀ L h' (g (W.listOf vs'.toArray n')) → IntsAre vs' (ks ++ [k]) → Q .none { s with heap := h' }) :
    wpAny (model prog w) A (call (.builtin "list.append") [.ref D, .int k t]) Q E s := by
  obtain ⟨pre, post, rfl, hg, a, b⟩ := U.split
  have z := N (D, W.listOf vs.toArray n) (List.mem_append.mpr (.inr (.head _)))
  have hl := hi.length
  refine append_at (hsz := by rw [sizeLine_eq, List.size_toArray]; omega) z.1 fun h' hs ho' => ?_
  have e : vs.toArray.push (Value.int k t) = (vs ++ [Value.int k t]).toArray := by simp
  rw [e] at ho'
  exact h h' _ _ (F.change hs z.2.1 z.2.2) (hg _ ▸ news_set N a b hs ho') (ints_append hi k t)

theorem my_remove {k : Int} {t : Tok} {Q : Value → Shared → Prop} (F : Fr h₀ L s.heap m) (N : News h₀ L s.heap news) (hi : IntsAre vs ks) (U : UpdF D (W.listOf vs.toArray n) news g) (hz : ks.length ≤ 1000) (hm : k ∈ ks)
    (h : ∀ h' vs' n', Fr h₀ L h' m → News h₀ L h' (g (W.listOf vs'.toArray n')) → IntsAre vs' (ks.erase k) → Q .none { s with heap := h' }) :
    wpAny (model prog w) A (call (.builtin "list.remove") [.ref D, .int k t]) Q E s := by
  have hl := hi.length
  obtain ⟨j, q, h1, h2, h3⟩ := ints_remove hi hm
  obtain ⟨pre, post, rfl, hg, a, b⟩ := U.split
  have z := N (D, W.listOf vs.toArray n) (List.mem_append.mpr (.inr (.head _)))
  obtain ⟨a1, b1, c1⟩ := kf_at_spec h1
  obtain ⟨e3, e4⟩ := ki_delL_spec h2
  have hz' : vs.toArray.size ≤ sizeLine := by rw [sizeLine_eq, List.size_toArray]; omega
  refine call_meets PySem.F.slot_list_remove ⟨_, z.1, rfl⟩ PySem.F.entry_list_remove (PySem.F.args_list_remove_2 _ _)
    (MeetsSeq.list_remove D vs.toArray n (.int k t) (isInt k) (fun y hy => kf_eq (ints_kf hi) y (by simpa using hy)) j (by simpa using a1) (by simpa using b1) (fun i hi hlt => by simpa using c1 i (by simpa using hi) hlt) hz')
    ⟨z.1, h _ q _ (F.change (Heap.SameBut.update ..) z.2.1 z.2.2) (hg _ ▸ ki_turn _ N a b ?_ rfl) h3⟩
  rw [← e3]
  apply Array.toList_inj.mp
  simp [Array.toList_eraseIdxIfInBounds]

theorem my_pop0 {k : Int} {u : Tok} {Q : Value → Shared → Prop} (F : Fr h₀ L s.heap m) (N : News h₀ L s.heap news) (hi : IntsAre vs (k :: ks)) (U : UpdF D (W.listOf vs.toArray n) news g) (hz : ks.length ≤ 999)
    (h : ∀ t h' vs' n', Fr h₀ L h' m → News h₀ L h' (g (W.listOf vs'.toArray n')) → IntsAre vs' ks → Q (.int k t) { s with heap := h' }) :
    wpAny (model prog w) A (call (.builtin "list.pop") [.ref D, .int 0 u]) Q E s := by
  cases hi with
  | @cons _ t vs' _ hi =>
  have hl := hi.length
  obtain ⟨pre, post, rfl, hg, a, b⟩ := U.split
  have z := N (D, W.listOf (Value.int k t :: vs').toArray n) (List.mem_append.mpr (.inr (.head _)))
  have hz' : (Value.int k t :: vs').toArray.size ≤ sizeLine := by rw [sizeLine_eq, List.size_toArray, List.length_cons]; omega
  refine call_meets PySem.F.slot_list_pop ⟨_, z.1, rfl⟩ PySem.F.entry_list_pop (PySem.F.args_list_pop_2 _ _)
    (PySem.MeetsSeq.list_pop_at D _ n 0 u 0 (.int k t) (by decide) (by simp [seqIndex?]) (by simp) hz')
    ⟨z.1, h _ _ vs' _ (F.change (Heap.SameBut.update ..) z.2.1 z.2.2) (hg _ ▸ ki_turn _ N a b ?_ rfl) hi⟩
  apply Array.toList_inj.mp
  simp [Array.toList_eraseIdxIfInBounds]

theorem my_clear {Q : Value → Shared → Prop} (F : Fr h₀ L s.heap m) (N : News h₀ L s.heap news) (hi : IntsAre vs ks) (U : UpdF D (W.listOf vs.toArray n) news g) (hz : ks.length ≤ 1000)
    (h : ∀ h' n', Fr h₀ L h' m → News h₀ L h' (g (W.listOf ([] : List Value).toArray n')) → Q .none { s with heap := h' }) :
    wpAny (model prog w) A (call (.builtin "list.clear") [.ref D]) Q E s := by
  have hl := hi.length
  obtain ⟨n', F', N'⟩ := my_change F N U (f := fun _ => #[]) (vs' := []) rfl
  have z := N _ (updF_mem U)
  exact call_meets PySem.F.slot_list_clear ⟨_, z.1, rfl⟩ PySem.F.entry_list_clear (PySem.F.args_list_clear_1 _) (PySem.AutoSeq1.list_clear_list_0 D _ n (by rw [sizeLine_eq, List.size_toArray]; omega)) ⟨z.1, h _ _ F' N'⟩

theorem ints_last {vs : List Value} {ks : List Int} (h : IntsAre vs ks) {k : Int} (hk : ks.getLast? = some k) : ∃ t, vs[vs.length - 1]? = some (.int k t) := by
  have hl := h.length
  obtain ⟨t, e⟩ := h.get (ks.length - 1) k (by rw [List.getLast?_eq_getElem?] at hk; exact hk)
  exact ⟨t, by rw [hl]; exact e⟩
theorem my_last {value slice : PySem.Expr} {k : Int} {u : Tok} {Q : Value → Shared → Prop} (N : News h₀ L s.heap news) (hm : (D, W.listOf vs.toArray n) ∈ news) (hi : IntsAre vs ks) (hk : ks.getLast? = some k) (hz : ks.length ≤ 1000) (h : ∀ t, Q (.int k t) s)
    (hs : subscripted slice false (.ref D) (.int (-1) u) = operate [.ref D, .int (-1) u] (getItem (.ref D) (.int (-1) u)) := by with_unfolding_all rfl) (hg : ∀ r, letTemporaryGo value (.ref D) r = pure () := by intro _; with_unfolding_all rfl) :
    wpAny (model prog w) A (subscriptTail value slice (.ref D) (.int (-1) u)) Q E s := by
  have hl := hi.length
  obtain ⟨t, ht⟩ := ints_last hi hk
  have hne : 0 < vs.length := by
    cases vs with
    | nil => simp at ht
    | cons _ _ => simp
  refine kim_back N hm rfl rfl (by omega) (by omega) (by omega) (x := .int k t) ?_ (h t) hs hg
  rw [← ht]; congr 1; omega
theorem my_item {k : Int} {t : Tok} {v : Value} {kvs : List (Int × Value)} {o : Obj} {Q : Value → Shared → Prop} (N : News h₀ L s.heap news) (hp : (D, o) ∈ news) (hd : o.IsDictOf (intKind prog w) kvs) (hl : valueAt kvs k = some v)
    (h : Q v { s with toks := s.toks + 1 }) : wpAny (model prog w) A (getItem (.ref D) (.int k t)) Q E s :=
  wpAny_getItem_of (knd := intKind prog w) (intKind_is prog w k t) (kda_dict N hp hd).mapOf hl h
theorem my_dclear {kvs : List (Int × Value)} {o : Obj} {Q : Value → Shared → Prop} (F : Fr h₀ L s.heap m) (N : News h₀ L s.heap news) (U : UpdF D o news g) (hd : o.IsDictOf (intKind prog w) kvs) (hsz : kvs.length ≤ 1000)
    (h : ∀ h' o', Fr h₀ L h' m → News h₀ L h' (g o') → o'.IsDictOf (intKind prog w) [] → Q .none { s with heap := h' }) :
    wpAny (model prog w) A (call (.builtin "dict.clear") [.ref D]) Q E s := by
  obtain ⟨pre, post, rfl, hg, a, b⟩ := U.split
  exact call_clear_madeIn (enc := PyData.int) (hsz := by rw [sizeLine_eq]; omega) F N a b hd fun h' o' F' N' x _ => h h' o' F' (hg o' ▸ N') x
theorem my_dmeth {name : Str} {id : String} {pl : Sem Bool} {kvs : List (Int × Value)} {o : Obj} {Q : Value × List Value → Shared → Prop} (slot : Slot "dict" name id) (ty : typeOf (.builtin id) = pure (.type "method_descriptor")) (N : News h₀ L s.heap news) (hp : (D, o) ∈ news)
    (hd : o.IsDictOf (intKind prog w) kvs) (h : Q (.builtin id, [.ref D]) s) : wpAny (model prog w) A (getMethod (.ref D) name pl) Q E s := kob_method slot ty N hp hd h
end
theorem moved_last {ks : List Int} {k : Int} (hnd : ks.Nodup) (h : ks.getLast? = some k) : ks.erase k ++ [k] = ks := by
  obtain ⟨ys, rfl⟩ : ∃ ys, ks = ys ++ [k] := by
    refine ⟨ks.dropLast, ?_⟩
    have hne : ks ≠ [] := by intro e; subst e; simp at h
    have := List.dropLast_concat_getLast hne
    rw [List.getLast?_eq_some_getLast hne] at h
    injection h with h
    rw [h] at this
    exact this.symm
  have hk : k ∉ ys := by
    intro hm
    have := (List.nodup_append.mp hnd).2.2 k hm k (by simp)
    exact this rfl
  rw [List.erase_append_right _ hk]
  simp
/-! reversed(tuple): its making, its items, its end -/
theorem rt_no_dunder : typeLookup (.type "tuple") "__reversed__" = pure none := by rw [typeLookup_type, builtinLookup_eq_fast]; kernel_rfl
theorem rt_mro : mroOf (.type "reversed") = pure [.type "reversed", .type "object"] := by rw [mroOf_type]; kernel_rfl
theorem rt_init : Slot "reversed" "__init__" "object.__init__" :=
  .of (owner := "object") (n := "__init__") (by rw [typeLookup_type, builtinLookup_eq_fast]; kernel_rfl) (by decide +kernel) (by decide +kernel) (by decide +kernel)
    (by first | exact .inl (by decide +kernel) | exact .inr (by decide +kernel)) (by rw [isSubtype_type]; kernel_rfl)
theorem rt_called : TypeCalled "reversed" "reversed.__new__" "object.__init__" :=
  ⟨by decide +kernel, by decide +kernel, ⟨_, _, rt_mro⟩, PySem.F.made_reversed, by decide +kernel, by rw [isSubtype_type]; kernel_rfl, rt_init⟩
abbrev revT (l : Addr) (i : Int) : Obj := { cls := .type "reversed", data := .fields #[.ref l, rawInt i] }
theorem rt_meets (l : Addr) (items : Array Value) (n : Nat) (hfit : items.size ≤ 1000) :
    Meets (Builtin.«reversed.__new__» ⟨[.type "reversed", .ref l], []⟩) (fun _ R s => s.heap.get? l = some { cls := .type "tuple", dict := none, data := .seq items n, slots := #[] } ∧
      R (.ok (.ret (.ref s.heap.objs.size))) { s with heap := s.heap.push (revT l ((items.size : Int) - 1)), toks := s.toks + 1 + 1 }) :=
  .of_wp fun prog w A R s h => by
    obtain ⟨hp, g, d, tk, os⟩ := s; obtain ⟨hl, h⟩ := h
    have hT : Shared.TypeIs ⟨hp, g, d, tk, os⟩ (.ref l) "tuple" := ⟨_, hl, rfl⟩
    unfold Builtin.«reversed.__new__»
    refine wpAny_bind (wpAny_of_eq (PySem.newClass_reversed _) ?_)
    try dsimp only
    refine wpAny_bind (wpAny_of_eq (a := ()) (by first | rfl | kernel_rfl) ?_)
    refine wpAny_bind (wpAny_of_eq (a := ()) (by first | rfl | kernel_rfl) ?_)
    try dsimp only
    refine wpAny_bind (wpAny_specialOf hT rt_no_dunder ?_)
    try dsimp only
    refine wpAny_bind ?_
    wp_delta
    refine wpAny_bind (wpAny_isInstance (b := false) hT (by rw [isSubtype_type]; kernel_rfl) ?_)
    try dsimp only
    try rw [if_neg (by decide)]
    first
    | refine wpAny_bind (wpAny_specialOf hT PySem.slot_tuple_getitem.lookup ?_)
    | refine wpAny_bind (wpAny_specialOf hT slot_tuple_getitem.lookup ?_)
    try dsimp only
    rw [if_pos (by decide)]
    refine wpAny_pure ?_
    rw [if_neg (by decide)]
    refine wpAny_bind (PySem.P.len_tuple hl (by omega) ?_)
    refine wpAny_bind (m := asInt? (Value.int _ _)) (wpAny_of_eq (a := some (items.size : Int)) (by first | rfl | kernel_rfl) ?_)
    try dsimp only
    refine wpAny_bind ?_
    show wpAny _ _ (newObj (.type "reversed") (.fields #[.ref l, rawInt ((items.size : Int) - 1)])) _ _ _
    exact wpAny_newObj_type (wpAny_pure ⟨_, rfl, h⟩)

section
variable {prog : Program} {w : World} {A : Around} {E : Value → Shared → Prop} {s : Shared} {h₀ : Heap} {L : Addr} {m : Str → Option Value}
theorem rt_call {l : Addr} {items : Array Value} {n : Nat} {Q : Value → Shared → Prop} (hl : s.heap.get? l = some { cls := .type "tuple", dict := none, data := .seq items n, slots := #[] }) (hfit : items.size ≤ 1000)
    (h : Q (.ref s.heap.objs.size) { s with heap := s.heap.push (revT l ((items.size : Int) - 1)), toks := s.toks + 1 + 1 }) : wpAny (model prog w) A (call (.type "reversed") [.ref l]) Q E s :=
  callType_new rt_called (by decide) (PySem.F.typeCall_reversed_1 _) (PySem.F.newCall_reversed_1 _) (fun obj => PySem.F.args_object_init_2 obj _) PySem.F.entry_reversed_new (rt_meets l items n hfit)
    ⟨hl, ⟨_, Heap.get?_push_size _ rfl, rfl⟩, h⟩
end
theorem rt_owner : Manifest.owners.lookup (String.ofList ['r', 'e', 'v', 'e', 'r', 's', 'e', 'd']) = some Manifest.sig_reversed := by kernel_rfl
theorem rt_slot_next : Slot "reversed" "__next__" "reversed.__next__" :=
  .of (owner := "reversed") (n := "__next__") (by rw [typeLookup_type, builtinLookup_eq_fast]; kernel_rfl) (by decide +kernel) (by decide +kernel) (by decide +kernel)
    (by first | exact .inl (by decide +kernel) | exact .inr (by decide +kernel)) (by rw [isSubtype_type]; kernel_rfl)
theorem rt_entry_next : entryFor table "reversed.__next__" = some Builtin.«reversed.__next__» := entryFor_of_tree (by kernel_rfl)
theorem rt_args_next (a : Value) : argsOk "reversed.__next__" ⟨[a], []⟩ := by
  unfold argsOk; rw [signature?_of (id := "reversed.__next__") (n := ['_', '_', 't', 'x', 'e', 'n', '_', '_']) (o := ['d', 'e', 's', 'r', 'e', 'v', 'e', 'r']) (by kernel_rfl) rt_owner]; kernel_rfl
theorem rt_slot_iter : Slot "reversed" "__iter__" "reversed.__iter__" :=
  .of (owner := "reversed") (n := "__iter__") (by rw [typeLookup_type, builtinLookup_eq_fast]; kernel_rfl) (by decide +kernel) (by decide +kernel) (by decide +kernel)
    (by first | exact .inl (by decide +kernel) | exact .inr (by decide +kernel)) (by rw [isSubtype_type]; kernel_rfl)
theorem rt_args_iter (a : Value) : argsOk "reversed.__iter__" ⟨[a], []⟩ := by
  unfold argsOk; rw [signature?_of (id := "reversed.__iter__") (n := ['_', '_', 'r', 'e', 't', 'i', '_', '_']) (o := ['d', 'e', 's', 'r', 'e', 'v', 'e', 'r']) (by kernel_rfl) rt_owner]; kernel_rfl
theorem rt_entry_iter : entryFor table "reversed.__iter__" = some Builtin.«dict_keyiterator.__iter__» :=
  entryFor_alias (id' := "dict_keyiterator.__iter__") (by kernel_rfl) (by first | rfl | decide +kernel | (unfold String.splitOn; simp +decide [String.splitOnAux])) (by decide +kernel) (by kernel_rfl)
def RevTAt (h : Heap) (a l : Addr) (i : Int) : Prop := ∃ o, h.get? a = some o ∧ o.cls = .type "reversed" ∧ o.data = .fields #[.ref l, rawInt i]
theorem RevTAt.typeIs {s : Shared} {a l : Addr} {i : Int} (x : RevTAt s.heap a l i) : s.TypeIs (.ref a) "reversed" := let ⟨o, ho, hc, _⟩ := x; ⟨o, ho, hc⟩
theorem RevTAt.at {h h' : Heap} {a l : Addr} {i : Int} (x : RevTAt h a l i) (e : ∀ o, h.get? a = some o → h'.get? a = some o) : RevTAt h' a l i := let ⟨o, ho, r⟩ := x; ⟨o, e _ ho, r⟩
section
variable {prog : Program} {w : World} {A : Around} {E : Value → Shared → Prop} {s : Shared}
theorem rt_next {it l : Addr} {i n : Nat} {items : Array Value} {x : Value} {Q : Option Value → Shared → Prop} (hit : RevTAt s.heap it l (i : Int)) (hl : PySem.IsT s.heap l items n) (hx : items[i]? = some x) (hfit : items.size ≤ 1000)
    (hQ : ∀ h' tk, RevTAt h' it l ((i : Int) - 1) → Heap.SameBut it s.heap h' → Q (some x) { s with heap := h', toks := tk }) : wpAny (model prog w) A (pyNext (.ref it)) Q E s := by
  obtain ⟨o, ho, hc, hd⟩ := id hit
  have hi : i < items.size := (Array.getElem?_eq_some_iff.mp hx).1
  have hT : s.TypeIs (.ref l) "tuple" := ⟨_, hl, rfl⟩
  unfold pyNext
  refine wpAny_bind (wpAny_attempt (wpAny_callSpecial?_slot (name := Str.ofString "__next__") hit.typeIs rt_slot_next
    (wpAny_call_entry rt_slot_next hit.typeIs rt_entry_next ?_ (rt_args_next _))))
  unfold Builtin.«reversed.__next__»
  refine wpAny_bind (wpAny_of_eq (a := (Value.ref it, [])) rfl ?_)
  try dsimp only
  refine wpAny_bind (wpAny_field ho hd (x := .ref l) rfl ?_)
  refine wpAny_bind (wpAny_field ho hd (x := rawInt (i : Int)) rfl ?_)
  show wpAny _ _ (if (i : Int) < 0 then _ else _) _ _ s
  rw [if_neg (by omega)]
  first
  | refine wpAny_bind (wpAny_specialOf hT PySem.slot_tuple_getitem.lookup ?_)
  | refine wpAny_bind (wpAny_specialOf hT slot_tuple_getitem.lookup ?_)
  show wpAny _ _ (if false = true then _ else _) _ _ s
  rw [if_neg (by decide)]
  refine wpAny_bind (wpAny_mkInt ?_)
  refine wpAny_bind (wpAny_attempt (PySem.P.getItem_tuple hl (by omega) (by omega) (k := i) (by simp [seqIndex?]; omega) hx ?_))
  try dsimp only
  refine wpAny_bind (wpAny_field ho hd (x := rawInt (i : Int)) rfl ?_)
  show wpAny _ _ (setField (.ref it) 1 (rawInt ((i : Int) - 1)) >>= _) _ _ _
  refine wpAny_bind (wpAny_setField ho hd (by simp) ?_)
  refine wpAny_pure ⟨x, rfl, wpAny_pure (hQ _ _ ?_ (Heap.SameBut.update ..))⟩
  exact ⟨_, Heap.get?_update_self _ ho (Obj.isFreed_of_fields (Obj.data_mapFields hd _)), (Obj.cls_mapFields ..).trans hc, by
    rw [Obj.data_mapFields hd]; simp⟩
theorem rt_end {it l : Addr} {Q : Option Value → Shared → Prop} (hh : A.handled = none) (hit : RevTAt s.heap it l (-1))
    (hQ : ∀ h', Heap.ExtBut it s.heap h' → Q none { s with heap := h' }) : wpAny (model prog w) A (pyNext (.ref it)) Q E s := by
  obtain ⟨o, ho, hc, hd⟩ := id hit
  unfold pyNext
  refine wpAny_bind (wpAny_attempt (wpAny_callSpecial?_slot (name := Str.ofString "__next__") hit.typeIs rt_slot_next
    (wpAny_call_entry rt_slot_next hit.typeIs rt_entry_next ?_ (rt_args_next _))))
  unfold Builtin.«reversed.__next__»
  refine wpAny_bind (wpAny_of_eq (a := (Value.ref it, [])) rfl ?_)
  try dsimp only
  refine wpAny_bind (wpAny_field ho hd (x := .ref l) rfl ?_)
  refine wpAny_bind (wpAny_field ho hd (x := rawInt (-1)) rfl ?_)
  show wpAny _ _ (if (-1 : Int) < 0 then _ else _) _ _ s
  rw [if_pos (by decide)]
  refine wpAny_bind (wpAny_rule ?_)
  refine wpAny_bind ?_
  wp_delta
  refine wpAny_bind (wpAny_setField ho hd (by simp) ?_)
  have hd1 := Obj.data_mapFields hd (·.setIfInBounds 1 (rawInt (-1)))
  have ho1 := Heap.get?_update_self (Obj.mapFields (·.setIfInBounds 1 (rawInt (-1)))) ho (Obj.isFreed_of_fields hd1)
  refine wpAny_setField ho1 hd1 (by simp) ?_
  have k1 : Heap.ExtBut it s.heap ((s.heap.update it (Obj.mapFields (·.setIfInBounds 1 (rawInt (-1))))).update it (Obj.mapFields (·.setIfInBounds 0 Value.none))) := fun b o hb e =>
    (Heap.get?_update_other _ _ (Ne.symm hb)).trans ((Heap.get?_update_other _ _ (Ne.symm hb)).trans e)
  refine wpAny_bind ?_
  show wpAny _ _ (newExc (.type "StopIteration") [] >>= _) _ _ _
  refine wpAny_bind ?_
  simp only [newExc, newTuple]
  refine wpAny_bind (wpAny_newObj_type ?_ (by size_fits))
  refine wpAny_bind (m := firstArgMember _ _) (wpAny_of_eq (a := Value.none) (by first | rfl | (simp only [firstArgMember]; rfl)) ?_)
  refine wpAny_newObj_type ?_ (by size_fits)
  simp only [raiseNew]
  refine wpAny_bind (wpAny_handled ?_)
  rw [show A.in1.handled = none from hh]
  refine wpAny_bind (wpAny_pure (wpAny_throw ?_))
  refine wpAny_bind (wpAny_isInstance (T := "StopIteration") (b := true) ⟨_, Heap.get?_push_size _ rfl, rfl⟩ isSubtype_stop ?_)
  exact wpAny_pure (hQ _ ((k1.push _).push _))
theorem rt_self {it l : Addr} {i : Int} {Q : Value → Shared → Prop} (hit : RevTAt s.heap it l i) (h : Q (.ref it) s) : wpAny (model prog w) A (pyIter (.ref it)) Q E s := by
  refine wpAny_pyIter_slot hit.typeIs rt_slot_iter (wpAny_call_entry rt_slot_iter hit.typeIs rt_entry_iter ?_ (rt_args_iter _))
  show wpAny _ _ (ret (.ref it)) _ _ s
  exact wpAny_pure ⟨_, rfl, "reversed", _, hit.typeIs, rt_slot_next.lookup, h⟩
end
theorem rt_walks {prog : Program} {w : World} {A : Around} (hh : A.handled = none) (I l : Addr) (hne : l ≠ I) (items : Array Value) (n : Nat) (hfit : items.size ≤ 1000) :
    Walks prog w A I [I, l] [I] items.size (fun i v => items[items.size - 1 - i]? = some v) (fun i h => i ≤ items.size ∧ RevTAt h I l ((items.size : Int) - 1 - (i : Int)) ∧ PySem.IsT h l items n) where
  sub := fun b hb => by simp at hb; simp [hb]
  frame := fun _ _ _ x hk => ⟨x.1, x.2.1.at fun o e => hk I (by simp) o e, hk l (by simp) _ x.2.2⟩
  item := fun i s Q E hi x hQ => by
    have e : (items.size : Int) - 1 - (i : Int) = ((items.size - 1 - i : Nat) : Int) := by omega
    have hit := x.2.1
    rw [e] at hit
    have hx : items[items.size - 1 - i]? = some (items[items.size - 1 - i]'(by omega)) := Array.getElem?_eq_getElem (by omega)
    refine rt_next hit x.2.2 hx hfit fun h' tk hit' hs' => ?_
    have e2 : ((items.size - 1 - i : Nat) : Int) - 1 = (items.size : Int) - 1 - ((i + 1 : Nat) : Int) := by omega
    rw [e2] at hit'
    exact hQ _ h' tk hx ⟨hi, hit', (hs'.2 l hne).trans x.2.2⟩ fun b o hb eo => hs'.extBut b o (fun h => hb (by simp [h])) eo
  done := fun s Q E x hQ => by
    have e : (items.size : Int) - 1 - (items.size : Int) = -1 := by omega
    have hit := x.2.1
    rw [e] at hit
    exact rt_end hh hit fun h' he' => hQ h' s.toks fun b o hb eo => he' b o (fun h => hb (by simp [h])) eo
  self := fun _ _ _ _ x hQ => rt_self x.2.1 hQ
section
variable {prog : Program} {w : World} {A : Around} {E : Value → Shared → Prop} {s : Shared} {h₀ : Heap} {L D : Addr} {m : Str → Option Value} {news : List (Addr × Obj)} {vs : List Value} {n : Nat}
abbrev tupO (vs : List Value) (n : Nat) : Obj := { cls := .type "tuple", data := .seq vs.toArray n }
abbrev tupIt (D : Addr) : Obj := { cls := .type "tuple_iterator", data := .fields #[.ref D, .int 0 0] }
theorem my_rev {Q : Value → Shared → Prop} (F : Fr h₀ L s.heap m) (N : News h₀ L s.heap news) (hm : (D, tupO vs n) ∈ news) (hz : vs.length ≤ 1000)
    (h : ∀ R h' tk, Fr h₀ L h' m → News h₀ L h' ((R, revT D ((vs.length : Int) - 1)) :: news) → (∀ p ∈ news, p.1 < R) → Q (.ref R) { s with heap := h', toks := tk }) :
    wpAny (model prog w) A (call (.type "reversed") [.ref D]) Q E s := by
  refine rt_call (N _ hm).1 (by rw [List.size_toArray]; exact hz) ?_
  have e : ((vs.toArray.size : Nat) : Int) - 1 = (vs.length : Int) - 1 := by simp
  rw [e]
  exact h _ _ _ (F.push _) (News.push F N _) fun p hp => Heap.lt_size (N p hp).1
theorem my_iterT {Q : Value → Shared → Prop} (F : Fr h₀ L s.heap m) (N : News h₀ L s.heap news) (hm : (D, tupO vs n) ∈ news)
    (h : ∀ R h', Fr h₀ L h' m → News h₀ L h' ((R, tupIt D) :: news) → (∀ p ∈ news, p.1 < R) → Q (.ref R) { s with heap := h' }) :
    wpAny (model prog w) A (call (.builtin "iter") [.ref D]) Q E s := by
  refine call_function_entry (by decide +kernel) (by decide +kernel) kdk_entry_iter (kdk_args_iter _) ?_
  unfold Builtin.«iter»
  refine wpAny_bind (m := someArgs "iter" 1 2 _) (wpAny_of_eq (a := [Value.ref D]) (by first | rfl | kernel_rfl!) ?_)
  try dsimp only
  refine wpAny_bind (wpAny_pyIter_tuple ⟨_, (N _ hm).1, rfl, n, rfl⟩ ?_)
  exact wpAny_pure ⟨_, rfl, h _ _ (F.push _) (News.push F N _) fun p hp => Heap.lt_size (N p hp).1⟩
end
theorem k_filled : PySem.Challenge.rw_bb0044_01 = PySem.Challenge.rw_bb0044_01 ∧ hd.heap_39 = hd.heap_39 := by
  k_fill
  exact ⟨rfl, rfl⟩
local macro_rules | `(tactic| k_room) => `(tactic| (dsimp only [Around.deeper, Around.mark, Around.in1, Around.under, kTop]; omega))
local macro_rules | `(tactic| k_units) => `(tactic| (have hcL9 := cLine_is; dsimp only [Around.deeper, Around.mark, Around.in1, Around.under, kTop]; omega))
local macro_rules | `(tactic| ktr_room) => `(tactic| (dsimp only [Around.deeper, Around.mark, Around.in1, Around.under, kTop]; omega))
local macro_rules | `(tactic| k_all) => `(tactic| assumption)
local macro_rules | `(tactic| k_ne) => `(tactic| first | assumption | (apply Ne.symm; assumption) | (refine neN ?_; (try dsimp only); omega))
local macro_rules | `(tactic| cell_enter) => `(tactic| (refine' code_def ?k1 ?k2 ?k3 ?k4 ?k5 ?kA ?kF ?kK ?k6 ?k7 ?k8 ?k9 ?kB ?_ ?c2 ?c3 ?c4 ?c5; (case kA => exact rfl); (case kF => assumption); (case kK => assumption); (case k1 => k_asm); (case k2 => k_asm); (case k3 => k_asm); (case k4 => k_asm); (case k5 => k_asm); (case k6 => k_is); (case k7 => k_is); (case k8 => ktr_room); (case k9 => exact BindsTo.of_eq rfl); (case c5 => decide); (case kB => exact locs rfl); (case c2 => exact rfl); (case c3 => exact rfl); (case c4 => exact rfl); k_whole; intro g' L' h' FG' F' N' B' X' T'; (try dsimp only); (try k_lift B'); (try k_fold)))
local macro_rules | `(tactic| walk_at "getItem ref int") => `(tactic| (k_here; k_dflt (refine' my_item ?N ?m ?d ?l ?_; (case N => k_asm); (case m => k_mem); (case d => assumption); (case l => assumption))))
local macro_rules | `(tactic| walk_at "call builtin:list.append") => `(tactic| (k_here; (with_reducible show wpAny _ _ (call (Value.builtin _) [Value.ref _, Value.int _ _]) _ _ _); k_dflt (refine' my_append ?F ?N ?i ?U ?z ?_; (case F => k_asm); (case N => k_asm); (case U => k_updF); (case i => assumption); (case z => first | omega | (refine Nat.le_trans List.length_erase_le ?_; omega))); intro h' vs' n' F' N' hi'; (try dsimp only at N'); (try k_sweep)))
local macro_rules | `(tactic| walk_at "call builtin:list.remove") => `(tactic| (k_here; (with_reducible show wpAny _ _ (call (Value.builtin _) [Value.ref _, Value.int _ _]) _ _ _); k_dflt (refine' my_remove ?F ?N ?i ?U ?z ?e ?_; (case F => k_asm); (case N => k_asm); (case U => k_updF); (case i => assumption); (case z => omega); (case e => assumption)); intro h' vs' n' F' N' hi'; (try dsimp only at N'); (try k_sweep)))
local macro_rules | `(tactic| walk_at "call builtin:list.clear") => `(tactic| (k_here; (with_reducible show wpAny _ _ (call (Value.builtin _) [Value.ref _]) _ _ _); k_dflt (refine' my_clear ?F ?N ?i ?U ?z ?_; (case F => k_asm); (case N => k_asm); (case U => k_updF); (case i => assumption); (case z => omega)); intro h' n' F' N'; (try dsimp only at N'); (try k_sweep)))
local macro_rules | `(tactic| walk_at "subscriptTail") => `(tactic| (k_here; (with_reducible show wpAny _ _ (subscriptTail _ _ (Value.ref _) (Value.int (-1) _)) _ _ _); k_dflt (refine' my_last ?N ?m ?i ?l ?z ?_ ?a ?b; (case a => with_unfolding_all rfl); (case b => intro _; with_unfolding_all rfl); (case N => k_asm); (case m => k_mem); (case i => assumption); (case l => assumption); (case z => omega)); intro t'; (try dsimp only)))
local macro_rules | `(tactic| walk_at "compareOp In int ref") => `(tactic| (k_here; k_dflt (refine' kda_in (knd := intKind _ _) ?N ?m ?d ?lo (intKind_is _ _ _ _) _ ?e ?_; (case N => k_asm); (case m => k_mem); (case d => assumption); (case lo => assumption); (case e => assumption))))
local macro_rules | `(tactic| walk_at "call builtin:len") => `(tactic| (k_here; (with_reducible show wpAny _ _ (call (Value.builtin "len") [Value.ref _]) _ _ _); k_dflt (refine' kda_len (knd := intKind _ _) ?N ?m ?d ?lo ?z ?_; (case N => k_asm); (case m => k_mem); (case d => assumption); (case lo => assumption); (case z => omega))))
local macro_rules | `(tactic| walk_at "setItem ref int") => `(tactic| (k_here; k_dflt (refine' kda_set (knd := intKind _ _) ?F ?N ?U ?d (intKind_is _ _ _ _) ?z ?_; (case F => k_asm); (case N => k_asm); (case U => k_updF); (case d => assumption); (case z => (rw [sizeLine_eq]; first | omega | (refine Nat.le_trans (List.length_filter_le _ _) ?_; omega)))); intro h' o' F' N' hd'; (try dsimp only at N'); (try k_sweep)))
local macro_rules | `(tactic| walk_at "call builtin:list.pop") => `(tactic| (k_here; (with_reducible show wpAny _ _ (call (Value.builtin _) [Value.ref _, Value.int 0 _]) _ _ _); k_dflt (refine' my_pop0 ?F ?N ?i ?U ?z ?_; (case F => k_asm); (case N => k_asm); (case U => k_updF); (case i => assumption); (case z => simp only [List.length_cons] at *; omega)); intro t' h' vs' n' F' N' hi'; (try dsimp only at N'); (try k_sweep)))
local macro_rules | `(tactic| walk_at "delItem ref int") => `(tactic| (k_here; k_dflt (refine' kob_del (knd := intKind _ _) ?F ?N ?U ?d (intKind_is _ _ _ _) ?l ?z ?_; (case F => k_asm); (case N => k_asm); (case U => k_updF); (case d => assumption); (case l => assumption); (case z => (rw [sizeLine_eq]; omega))); intro h' o' F' N' hd'; (try dsimp only at N'); (try k_sweep)))
local macro_rules | `(tactic| walk_at "call builtin:dict.clear") => `(tactic| (k_here; k_dflt (refine' my_dclear ?F ?N ?U ?d ?z ?_; (case F => k_asm); (case N => k_asm); (case U => k_updF); (case d => assumption); (case z => omega)); intro h' o' F' N' hd'; (try dsimp only at N'); (try k_sweep)))
local macro_rules | `(tactic| walk_at "getMethod ref") => `(tactic| (k_here; (with_reducible show wpAny _ _ (getMethod (Value.ref _) (PySem.Str.ofString "clear") _) _ _ _); k_dflt (first
  | (refine' kl_method ?N ?m PySem.F.slot_list_clear PySem.F.type_list_clear ?_; (case N => k_asm); (case m => k_mem))
  | (refine' my_dmeth PySem.F.slot_dict_clear PySem.F.type_dict_clear ?N ?m ?d ?_; (case N => k_asm); (case m => k_mem); (case d => assumption)))))
local macro_rules | `(tactic| walk_at "call type:reversed") => `(tactic| (k_here; (with_reducible show wpAny _ _ (call (Value.type _) [Value.ref _]) _ _ _); k_dflt (refine' my_rev ?F ?N ?m ?z ?_; (case F => k_asm); (case N => k_asm); (case m => k_mem); (case z => omega)); intro R' h' tk' F' N' l1'; (try dsimp only at N'); (try k_sweep)))
local macro_rules | `(tactic| walk_at "call builtin:iter") => `(tactic| (k_here; (with_reducible show wpAny _ _ (call (Value.builtin _) [Value.ref _]) _ _ _); k_dflt (refine' my_iterT ?F ?N ?m ?_; (case F => k_asm); (case N => k_asm); (case m => k_mem)); intro R' h' F' N' l1'; (try dsimp only at N'); (try k_sweep)))
section
variable {w : World} {s₀ : Shared} {mg mb : Str → Option Value} {hdl : Option Value} {dp un : Nat} {gd : Option (List Code)} {env : Env} {outer : List Env} {A₀ : Around} {base h₀ : Heap} {L : Addr} {m : Str → Option Value} {s : Shared} {Q E : Value → Shared → Prop}
  {c cd mp q lk lkd : Addr} {t1 t2 t3 t4 t5 : Tok} {many : Int} {n : Nat} {om : Obj} {kvs : List (Int × Value)} {vs : List Value} {ks : List Int} {ep : Nat} {rest : List (Addr × Obj)}
  (B : Below A₀ base outer h₀) (F : Fr h₀ L s.heap m) (X : (hd.heap_39 w.params).In h₀)
  (N : News h₀ L s.heap ((c, instObj 169 cd) :: (cd, cDict w t1 t2 t3 t4 t5 many mp q lk n) :: (mp, om) :: (q, W.listOf vs.toArray ep) :: (lk, instObj 45 lkd) :: (lkd, dictOf [] 0) :: rest))
  (T : Top hd.view_39 (looseW hd.view_39 []) (ExcName.means s₀.heap) mg mb h₀)
  (hf : env.frame = some L) (hk : env.scope.kind = .function) (hroom : dp + 10 < recursionLimit) (hun : un + 80 < cLine)
  (hom : om.IsDictOf (intKind PySem.Challenge.rw_bb0044_01.row.prog w) kvs) (hkv : kvs.length ≤ 1000) (hvs : IntsAre vs ks) (hks : ks.length ≤ 1000) (hap : Apart c cd mp q lk lkd rest)
include B F X N T hf hk hroom hun hom hkv hvs hks hap
set_option maxRecDepth 100000 in
set_option maxHeartbeats 4000000 in
theorem getitem_hit {k : Int} {tk0 : Tok} {v : Value} (hv : valueAt kvs k = some v) (hmem : k ∈ ks) (hnd : ks.Nodup)
    (ret : ∀ h' tk vs' ep', Fr h₀ L h' m → News h₀ L h' ((c, instObj 169 cd) :: (cd, cDict w t1 t2 t3 t4 t5 many mp q lk n) :: (mp, om) :: (q, W.listOf vs'.toArray ep') :: (lk, instObj 45 lkd) :: (lkd, dictOf [] 0) :: rest) →
      IntsAre vs' (ks.erase k ++ [k]) → Q v { s with heap := h', toks := tk }) :
    wpAny (model PySem.Challenge.rw_bb0044_01.row.prog w) (kTop hdl dp un gd env outer) (call (.ref 121) [.ref c, .int k tk0]) Q E s := by
  obtain ⟨a1, a2, a3, a4, a5, a6, a7, a8, a9, b1, b2, lo⟩ := hap
  obtain ⟨kl, hkl⟩ : ∃ kl, ks.getLast? = some kl := by
    cases hq : ks.getLast? with
    | none => rw [List.getLast?_eq_none_iff.mp hq] at hmem; cases hmem
    | some x => exact ⟨x, rfl⟩
  refine wpAny_call ?_
  k_dflt cell_enter
  k_steps
  · exact ret _ _ _ _ (by k_asm) (by k_asm) (by assumption)
  · exact ret _ _ _ _ (by k_asm) (by k_asm) (by rename kl = k => e; subst e; rw [moved_last hnd hkl]; assumption)
set_option maxRecDepth 100000 in
set_option maxHeartbeats 4000000 in
theorem len_pact 
    (ret : ∀ t h' tk, Fr h₀ L h' m → News h₀ L h' ((c, instObj 169 cd) :: (cd, cDict w t1 t2 t3 t4 t5 many mp q lk n) :: (mp, om) :: (q, W.listOf vs.toArray ep) :: (lk, instObj 45 lkd) :: (lkd, dictOf [] 0) :: rest) → Q (.int kvs.length t) { s with heap := h', toks := tk }) :
    wpAny (model PySem.Challenge.rw_bb0044_01.row.prog w) (kTop hdl dp un gd env outer) (call (.ref 107) [.ref c]) Q E s := by
  obtain ⟨a1, a2, a3, a4, a5, a6, a7, a8, a9, b1, b2, lo⟩ := hap
  have hvl := hvs.length
  refine wpAny_call ?_
  k_dflt cell_enter
  k_steps
  exact ret _ _ _ (by k_asm) (by k_asm)
set_option maxRecDepth 100000 in
set_option maxHeartbeats 4000000 in
theorem contains_pact {k : Int} {tk0 : Tok} {b : Bool} (hb : (valueAt kvs k).isSome = b)
    (ret : ∀ h' tk, Fr h₀ L h' m → News h₀ L h' ((c, instObj 169 cd) :: (cd, cDict w t1 t2 t3 t4 t5 many mp q lk n) :: (mp, om) :: (q, W.listOf vs.toArray ep) :: (lk, instObj 45 lkd) :: (lkd, dictOf [] 0) :: rest) → Q (.bool b) { s with heap := h', toks := tk }) :
    wpAny (model PySem.Challenge.rw_bb0044_01.row.prog w) (kTop hdl dp un gd env outer) (call (.ref 100) [.ref c, .int k tk0]) Q E s := by
  obtain ⟨a1, a2, a3, a4, a5, a6, a7, a8, a9, b1, b2, lo⟩ := hap
  have hvl := hvs.length
  refine wpAny_call ?_
  k_dflt cell_enter
  k_steps
  exact ret _ _ (by k_asm) (by k_asm)
set_option maxRecDepth 100000 in
set_option maxHeartbeats 4000000 in
theorem clear_pact 
    (ret : ∀ h' tk om' ep', Fr h₀ L h' m → News h₀ L h' ((c, instObj 169 cd) :: (cd, cDict w t1 t2 t3 t4 t5 many mp q lk n) :: (mp, om') :: (q, W.listOf ([] : List Value).toArray ep') :: (lk, instObj 45 lkd) :: (lkd, dictOf [] 0) :: rest) → om'.IsDictOf (intKind PySem.Challenge.rw_bb0044_01.row.prog w) [] → Q .none { s with heap := h', toks := tk }) :
    wpAny (model PySem.Challenge.rw_bb0044_01.row.prog w) (kTop hdl dp un gd env outer) (call (.ref 93) [.ref c]) Q E s := by
  obtain ⟨a1, a2, a3, a4, a5, a6, a7, a8, a9, b1, b2, lo⟩ := hap
  have hvl := hvs.length
  refine wpAny_call ?_
  k_dflt cell_enter
  k_steps
  exact ret _ _ _ _ (by k_asm) (by k_asm) (by assumption)
set_option maxRecDepth 100000 in
set_option maxHeartbeats 4000000 in
theorem setitem_in {k : Int} {tk0 : Tok} {v : Value} (hb : (valueAt kvs k).isSome = true) (hmem : k ∈ ks)
    (ret : ∀ h' tk om' vs' ep', Fr h₀ L h' m → News h₀ L h' ((c, instObj 169 cd) :: (cd, cDict w t1 t2 t3 t4 t5 many mp q lk n) :: (mp, om') :: (q, W.listOf vs'.toArray ep') :: (lk, instObj 45 lkd) :: (lkd, dictOf [] 0) :: rest) → om'.IsDictOf (intKind PySem.Challenge.rw_bb0044_01.row.prog w) (stored kvs k v) → IntsAre vs' (ks.erase k ++ [k]) → Q .none { s with heap := h', toks := tk }) :
    wpAny (model PySem.Challenge.rw_bb0044_01.row.prog w) (kTop hdl dp un gd env outer) (call (.ref 128) [.ref c, .int k tk0, v]) Q E s := by
  obtain ⟨a1, a2, a3, a4, a5, a6, a7, a8, a9, b1, b2, lo⟩ := hap
  have hvl := hvs.length
  refine wpAny_call ?_
  k_dflt cell_enter
  k_steps
  all_goals (try contradiction)
  exact ret _ _ _ _ _ (by k_asm) (by k_asm) (by assumption) (by assumption)
set_option maxRecDepth 100000 in
set_option maxHeartbeats 4000000 in
theorem setitem_new {k : Int} {tk0 : Tok} {v : Value} (hb : (valueAt kvs k).isSome = false) (hsz : ¬ (kvs.length : Int) = many)
    (ret : ∀ h' tk om' vs' ep', Fr h₀ L h' m → News h₀ L h' ((c, instObj 169 cd) :: (cd, cDict w t1 t2 t3 t4 t5 many mp q lk n) :: (mp, om') :: (q, W.listOf vs'.toArray ep') :: (lk, instObj 45 lkd) :: (lkd, dictOf [] 0) :: rest) → om'.IsDictOf (intKind PySem.Challenge.rw_bb0044_01.row.prog w) (stored kvs k v) → IntsAre vs' (ks ++ [k]) → Q .none { s with heap := h', toks := tk }) :
    wpAny (model PySem.Challenge.rw_bb0044_01.row.prog w) (kTop hdl dp un gd env outer) (call (.ref 128) [.ref c, .int k tk0, v]) Q E s := by
  obtain ⟨a1, a2, a3, a4, a5, a6, a7, a8, a9, b1, b2, lo⟩ := hap
  have hvl := hvs.length
  refine wpAny_call ?_
  k_dflt cell_enter
  k_steps
  all_goals (try contradiction)
  exact ret _ _ _ _ _ (by k_asm) (by k_asm) (by assumption) (by assumption)
set_option maxRecDepth 100000 in
set_option maxHeartbeats 4000000 in
theorem setitem_full {k k0 : Int} {ks0 : List Int} {tk0 : Tok} {v : Value} (hb : (valueAt kvs k).isSome = false) (hsz : (kvs.length : Int) = many) (hks0 : ks = k0 :: ks0) (hb0 : (valueAt kvs k0).isSome = true)
    (ret : ∀ h' tk om' vs' ep', Fr h₀ L h' m → News h₀ L h' ((c, instObj 169 cd) :: (cd, cDict w t1 t2 t3 t4 t5 many mp q lk n) :: (mp, om') :: (q, W.listOf vs'.toArray ep') :: (lk, instObj 45 lkd) :: (lkd, dictOf [] 0) :: rest) → om'.IsDictOf (intKind PySem.Challenge.rw_bb0044_01.row.prog w) (stored (without kvs k0) k v) → IntsAre vs' (ks0 ++ [k]) → Q .none { s with heap := h', toks := tk }) :
    wpAny (model PySem.Challenge.rw_bb0044_01.row.prog w) (kTop hdl dp un gd env outer) (call (.ref 128) [.ref c, .int k tk0, v]) Q E s := by
  obtain ⟨a1, a2, a3, a4, a5, a6, a7, a8, a9, b1, b2, lo⟩ := hap
  subst hks0
  have hks1 : ks0.length ≤ 999 := by simp only [List.length_cons] at hks; omega
  have hvl := hvs.length
  refine wpAny_call ?_
  k_dflt cell_enter
  k_steps
  all_goals (try contradiction)
  exact ret _ _ _ _ _ (by k_asm) (by k_asm) (by assumption) (by assumption)
set_option maxRecDepth 100000 in
set_option maxHeartbeats 4000000 in
theorem delitem_hit {k : Int} {tk0 : Tok} (hb : (valueAt kvs k).isSome = true) (hmem : k ∈ ks)
    (ret : ∀ h' tk om' vs' ep', Fr h₀ L h' m → News h₀ L h' ((c, instObj 169 cd) :: (cd, cDict w t1 t2 t3 t4 t5 many mp q lk n) :: (mp, om') :: (q, W.listOf vs'.toArray ep') :: (lk, instObj 45 lkd) :: (lkd, dictOf [] 0) :: rest) → om'.IsDictOf (intKind PySem.Challenge.rw_bb0044_01.row.prog w) (without kvs k) → IntsAre vs' (ks.erase k) → Q .none { s with heap := h', toks := tk }) :
    wpAny (model PySem.Challenge.rw_bb0044_01.row.prog w) (kTop hdl dp un gd env outer) (call (.ref 135) [.ref c, .int k tk0]) Q E s := by
  obtain ⟨a1, a2, a3, a4, a5, a6, a7, a8, a9, b1, b2, lo⟩ := hap
  have hvl := hvs.length
  refine wpAny_call ?_
  k_dflt cell_enter
  k_steps
  all_goals (try contradiction)
  exact ret _ _ _ _ _ (by k_asm) (by k_asm) (by assumption) (by assumption)
set_option maxRecDepth 100000 in
set_option maxHeartbeats 4000000 in
theorem iter_pact 
    (ret : ∀ D R h' tk, Fr h₀ L h' m → News h₀ L h' ((R, revT D ((vs.length : Int) - 1)) :: (D, tupO vs 0) :: (c, instObj 169 cd) :: (cd, cDict w t1 t2 t3 t4 t5 many mp q lk n) :: (mp, om) :: (q, W.listOf vs.toArray ep) :: (lk, instObj 45 lkd) :: (lkd, dictOf [] 0) :: rest) → (∀ p ∈ ((D, tupO vs 0) :: (c, instObj 169 cd) :: (cd, cDict w t1 t2 t3 t4 t5 many mp q lk n) :: (mp, om) :: (q, W.listOf vs.toArray ep) :: (lk, instObj 45 lkd) :: (lkd, dictOf [] 0) :: rest), p.1 < R) → Q (.ref R) { s with heap := h', toks := tk }) :
    wpAny (model PySem.Challenge.rw_bb0044_01.row.prog w) (kTop hdl dp un gd env outer) (call (.ref 159) [.ref c]) Q E s := by
  obtain ⟨a1, a2, a3, a4, a5, a6, a7, a8, a9, b1, b2, lo⟩ := hap
  have hvl := hvs.length
  refine wpAny_call ?_
  k_dflt cell_enter
  k_steps
  exact ret _ _ _ _ (by k_asm) (by k_asm) (by assumption)
set_option maxRecDepth 100000 in
set_option maxHeartbeats 4000000 in
theorem reversed_pact 
    (ret : ∀ D R h' tk, Fr h₀ L h' m → News h₀ L h' ((R, tupIt D) :: (D, tupO vs 0) :: (c, instObj 169 cd) :: (cd, cDict w t1 t2 t3 t4 t5 many mp q lk n) :: (mp, om) :: (q, W.listOf vs.toArray ep) :: (lk, instObj 45 lkd) :: (lkd, dictOf [] 0) :: rest) → (∀ p ∈ ((D, tupO vs 0) :: (c, instObj 169 cd) :: (cd, cDict w t1 t2 t3 t4 t5 many mp q lk n) :: (mp, om) :: (q, W.listOf vs.toArray ep) :: (lk, instObj 45 lkd) :: (lkd, dictOf [] 0) :: rest), p.1 < R) → Q (.ref R) { s with heap := h', toks := tk }) :
    wpAny (model PySem.Challenge.rw_bb0044_01.row.prog w) (kTop hdl dp un gd env outer) (call (.ref 166) [.ref c]) Q E s := by
  obtain ⟨a1, a2, a3, a4, a5, a6, a7, a8, a9, b1, b2, lo⟩ := hap
  have hvl := hvs.length
  refine wpAny_call ?_
  k_dflt cell_enter
  k_steps
  exact ret _ _ _ _ (by k_asm) (by k_asm) (by assumption)
end
end
/-! part CI -/
section
section
variable {h₀ h h' : Heap} {L a b : Addr} {m : Str → Option Value} {news : List (Addr × Obj)} {W : List Addr} {o₁ o₂ : Obj}
theorem ne_of_obj (N : News h₀ L h news) (h1 : (a, o₁) ∈ news) (h2 : (b, o₂) ∈ news) (hne : o₁ ≠ o₂) : a ≠ b := by
  intro e
  subst e
  have x := (N _ h1).1
  have y := (N _ h2).1
  exact hne (by rw [x] at y; exact Option.some.inj y)
theorem fr_moved (F : Fr h₀ L h m) (hk : ∀ b o, b ∉ W → h.get? b = some o → h'.get? b = some o) (hL : L ∉ W) (h0 : ∀ b ∈ W, h₀.get? b = none) : Fr h₀ L h' m :=
  ⟨Heap.Ns.at' F.ns fun o e => hk L o hL e, fun b o e => hk b o (fun hb => by rw [h0 b hb] at e; cases e) (F.keep b o e), F.above⟩
theorem news_moved (N : News h₀ L h news) (hk : ∀ b o, b ∉ W → h.get? b = some o → h'.get? b = some o) (hn : ∀ p ∈ news, p.1 ∉ W) : News h₀ L h' news :=
  fun p hp => ⟨hk _ _ (hn p hp) (N p hp).1, (N p hp).2⟩
theorem news_sub {news' : List (Addr × Obj)} (N : News h₀ L h news) (hs : ∀ p ∈ news', p ∈ news) : News h₀ L h news' := fun p hp => N p (hs p hp)
theorem dict_ne_seq {prog : Program} {w : World} {kvs : List (Int × Value)} {om : Obj} {cl : Value} {xs : Array Value} {n : Nat} (hom : om.IsDictOf (intKind prog w) kvs) : om ≠ { cls := cl, data := .seq xs n } := by
  rintro rfl
  obtain ⟨es, ep', _, hd, _⟩ := hom
  cases hd
theorem dict_ne_fields {prog : Program} {w : World} {kvs : List (Int × Value)} {om : Obj} {cl : Value} {xs : Array Value} (hom : om.IsDictOf (intKind prog w) kvs) : om ≠ { cls := cl, data := .fields xs } := by
  rintro rfl
  obtain ⟨es, ep', _, hd, _⟩ := hom
  cases hd
end
theorem ints_reverse {vs : List Value} {ks : List Int} (h : IntsAre vs ks) : IntsAre vs.reverse ks.reverse := by
  induction h with
  | nil => exact .nil
  | cons a t _ ih => rw [List.reverse_cons, List.reverse_cons]; exact ints_append ih a t
theorem items_rev {vs : List Value} {acc : Array Value} (h : ItemsOf (fun i v => vs.toArray[vs.toArray.size - 1 - i]? = some v) acc vs.toArray.size) : acc.toList = vs.reverse := by
  obtain ⟨h1, h2⟩ := h
  apply List.ext_getElem?
  intro i
  by_cases hi : i < acc.size
  · have e1 : acc.toList[i]? = some acc[i] := by simp [hi]
    have e2 := h2 i acc[i] (by simp [hi])
    rw [e1]
    rw [List.getElem?_reverse (by simp at h1; omega)]
    simp at e2
    rw [← e2]
  · have e1 : acc.toList[i]? = none := by simp; omega
    rw [e1]; symm; simp at h1 ⊢; omega
set_option maxRecDepth 100000
theorem f_iter {w : World} : findIn (hd.heap_39 w.params) (.ref 169) "__iter__" = some (some (.ref 159)) := by k_is
theorem f_len {w : World} : findIn (hd.heap_39 w.params) (.ref 169) "__len__" = some (some (.ref 107)) := by k_is
theorem f_rev {w : World} : findIn (hd.heap_39 w.params) (.ref 169) "__reversed__" = some (some (.ref 166)) := by k_is
theorem f_iterF {w : World} : isFn (hd.heap_39 w.params) (.ref 159) = true := by k_is
theorem f_lenF {w : World} : isFn (hd.heap_39 w.params) (.ref 107) = true := by k_is
theorem f_revF {w : World} : isFn (hd.heap_39 w.params) (.ref 166) = true := by k_is
section
variable {w : World} {s₀ : Shared} {mg mb : Str → Option Value} {hdl : Option Value} {dp un : Nat} {gd : Option (List Code)} {env : Env} {outer : List Env} {A₀ : Around} {base h₀ : Heap} {L : Addr} {m : Str → Option Value} {s : Shared} {Q E : Value → Shared → Prop}
  {c cd mp q lk lkd : Addr} {t1 t2 t3 t4 t5 : Tok} {many : Int} {n : Nat} {om : Obj} {kvs : List (Int × Value)} {vs : List Value} {ks : List Int} {ep : Nat} {rest : List (Addr × Obj)}
  (B : Below A₀ base outer h₀) (F : Fr h₀ L s.heap m) (X : (hd.heap_39 w.params).In h₀)
  (N : News h₀ L s.heap ((c, instObj 169 cd) :: (cd, cDict w t1 t2 t3 t4 t5 many mp q lk n) :: (mp, om) :: (q, W.listOf vs.toArray ep) :: (lk, instObj 45 lkd) :: (lkd, dictOf [] 0) :: rest))
  (T : Top hd.view_39 (looseW hd.view_39 []) (ExcName.means s₀.heap) mg mb h₀)
  (hf : env.frame = some L) (hk : env.scope.kind = .function) (hroom : dp + 10 < recursionLimit) (hun : un + 80 < cLine)
  (hom : om.IsDictOf (intKind PySem.Challenge.rw_bb0044_01.row.prog w) kvs) (hkv : kvs.length ≤ 1000) (hvs : IntsAre vs ks) (hks : ks.length ≤ 1000) (hap : Apart c cd mp q lk lkd rest)
include B F X N T hf hk hroom hun hom hkv hvs hks hap
theorem cache_iter (ret : ∀ D R h' tk, Fr h₀ L h' m → News h₀ L h' ((R, revT D ((vs.length : Int) - 1)) :: (D, tupO vs 0) :: (c, instObj 169 cd) :: (cd, cDict w t1 t2 t3 t4 t5 many mp q lk n) :: (mp, om) :: (q, W.listOf vs.toArray ep) :: (lk, instObj 45 lkd) :: (lkd, dictOf [] 0) :: rest) →
      (∀ p ∈ ((D, tupO vs 0) :: (c, instObj 169 cd) :: (cd, cDict w t1 t2 t3 t4 t5 many mp q lk n) :: (mp, om) :: (q, W.listOf vs.toArray ep) :: (lk, instObj 45 lkd) :: (lkd, dictOf [] 0) :: rest), p.1 < R) → Q (.ref R) { s with heap := h', toks := tk }) :
    wpAny (model PySem.Challenge.rw_bb0044_01.row.prog w) (kTop hdl dp un gd env outer) (pyIter (.ref c)) Q E s := by
  refine owit_iter F X (InstAt.of_news N (.head _) (.tail _ (.head _))) f_iter f_iterF ?_
  refine iter_pact B F X N T hf hk hroom hun hom hkv hvs hks hap fun D R h' tk F' N' l => ?_
  unfold OwitIt
  exact wpAny_specialOf (T := "reversed") ⟨_, (N' _ (.head _)).1, rfl⟩ rt_slot_next.lookup (ret D R h' tk F' N' l)
theorem list_cache (hh : hdl = none) (hun2 : un + 100 < cLine) (ret : ∀ S h' tk vs' n', Fr h₀ L h' m → News h₀ L h' ((S, W.listOf vs'.toArray n') :: (c, instObj 169 cd) :: (cd, cDict w t1 t2 t3 t4 t5 many mp q lk n) :: (mp, om) :: (q, W.listOf vs.toArray ep) :: (lk, instObj 45 lkd) :: (lkd, dictOf [] 0) :: rest) →
      IntsAre vs' ks.reverse → (∀ p ∈ ((c, instObj 169 cd) :: (cd, cDict w t1 t2 t3 t4 t5 many mp q lk n) :: (mp, om) :: (q, W.listOf vs.toArray ep) :: (lk, instObj 45 lkd) :: (lkd, dictOf [] 0) :: rest), p.1 < S) → Q (.ref S) { s with heap := h', toks := tk }) :
    wpAny (model PySem.Challenge.rw_bb0044_01.row.prog w) (kTop hdl dp un gd env outer) (call (.type "list") [.ref c]) Q E s := by
  subst hh
  have hvl := hvs.length
  have N0 := N
  have I0 : InstAt s.heap c (instObj 169 cd) 169 (some (cDict w t1 t2 t3 t4 t5 many mp q lk n)) := InstAt.of_news N (.head _) (.tail _ (.head _))
  have lS : ∀ p ∈ ((c, instObj 169 cd) :: (cd, cDict w t1 t2 t3 t4 t5 many mp q lk n) :: (mp, om) :: (q, W.listOf vs.toArray ep) :: (lk, instObj 45 lkd) :: (lkd, dictOf [] 0) :: rest), p.1 < s.heap.objs.size := fun p hp => Heap.lt_size (N p hp).1
  refine callType_codes (Q₁ := fun obj s₁ => obj = .ref s.heap.objs.size ∧ s₁ = { s with heap := s.heap.push { cls := .type "list", data := .seq #[] } }) PySem.F.called_list (PySem.F.typeCall_list_1 _) PySem.F.entry_list_init (PySem.code_list_new _ ⟨rfl, rfl⟩) fun obj s₁ h₁ => ?_
  obtain ⟨rfl, rfl⟩ := h₁
  have F1 := F.push (W.listOf #[] 0)
  have N1 := News.push F N (W.listOf #[] 0)
  have hS := (N1 _ (.head _)).1
  refine ⟨⟨_, hS, rfl⟩, PySem.F.args_list_init_2 _ _, ?_⟩
  generalize hSz : s.heap.objs.size = S at *
  show wpAny _ _ (do let old ← Builtin.List.listItems (.ref S); Builtin.List.listUpdate (.ref S) (fun _ => #[]); letGo old.toList.reverse; Builtin.List.listExtendWith (.ref S) (.ref c) .none) _ _ _
  refine wpAny_bind ?_
  unfold Builtin.List.listItems
  refine wpAny_bind (wpAny_seqItems hS rfl (wpAny_pure ?_))
  show wpAny _ _ (updateSeq S (fun _ => #[]) >>= fun _ => letGo (#[] : Array Value).toList.reverse >>= fun _ => Builtin.List.listExtendWith (.ref S) (.ref c) .none) _ _ _
  refine wpAny_bind (wpAny_updateSeq hS rfl ?_)
  have neS : ∀ p ∈ ((c, instObj 169 cd) :: (cd, cDict w t1 t2 t3 t4 t5 many mp q lk n) :: (mp, om) :: (q, W.listOf vs.toArray ep) :: (lk, instObj 45 lkd) :: (lkd, dictOf [] 0) :: rest), p.1 ≠ S := fun p hp => Nat.ne_of_lt (lS p hp)
  obtain ⟨n1, F2, N2⟩ := my_change (s := { s with heap := s.heap.push (W.listOf #[] 0) }) (vs := []) (vs' := []) (f := fun _ => (#[] : Array Value)) F1 N1 (UpdF.head neS) rfl
  refine wpAny_bind (wpAny_letGo ?_)
  dsimp only at F2 N2 ⊢
  generalize (s.heap.push { cls := .type "list", data := .seq #[] }).update S (Obj.mapSeq fun _ => (#[] : Array Value)) = H2 at F2 N2 ⊢
  have hap' : Apart c cd mp q lk lkd ((S, W.listOf ([] : List Value).toArray n1) :: rest) := by
    obtain ⟨a1, a2, a3, a4, a5, a6, a7, a8, a9, b1, b2, lo⟩ := hap
    exact ⟨a1, a2, a3, a4, a5, a6, a7, a8, a9, List.forall_mem_cons.mpr ⟨Ne.symm (neS (mp, om) (by simp)), b1⟩, List.forall_mem_cons.mpr ⟨Ne.symm (neS (q, W.listOf vs.toArray ep) (by simp)), b2⟩, lo⟩
  have N2' : News h₀ L H2 ((c, instObj 169 cd) :: (cd, cDict w t1 t2 t3 t4 t5 many mp q lk n) :: (mp, om) :: (q, W.listOf vs.toArray ep) :: (lk, instObj 45 lkd) :: (lkd, dictOf [] 0) :: (S, W.listOf ([] : List Value).toArray n1) :: rest) :=
    fun p hp => N2 p (by simp only [List.mem_cons] at hp ⊢; grind)
  have I2 : InstAt H2 c (instObj 169 cd) 169 (some (cDict w t1 t2 t3 t4 t5 many mp q lk n)) := InstAt.of_news N2' (.head _) (.tail _ (.head _))
  have nc : S ≠ c := Ne.symm (neS (c, instObj 169 cd) (by simp))
  unfold Builtin.List.listExtendWith
  refine wpAny_bind (I2.type.here ?_)
  rw [if_neg (by simp [Builtin.List.listSameRef, nc])]
  refine wpAny_bind (cache_iter (un := un + 1 + 1) (rest := (S, W.listOf ([] : List Value).toArray n1) :: rest) B F2 X N2' T hf hk hroom (by omega) hom hkv hvs hks hap' fun D R h3 tk3 F3 N3 l3 => ?_)
  refine wpAny_bind (wpAny_holding ?_)
  have I3 : InstAt h3 c (instObj 169 cd) 169 (some (cDict w t1 t2 t3 t4 t5 many mp q lk n)) := InstAt.of_news N3 (.tail _ (.tail _ (.head _))) (.tail _ (.tail _ (.tail _ (.head _))))
  unfold Builtin.List.listLengthHint
  refine wpAny_bind (wpAny_bind (I3.type.here ((looks_findIn (X.keeps F3.keep) f_len).here ?_)))
  try dsimp only
  rw [if_neg (by decide)]
  rw [if_pos (by rfl)]
  refine wpAny_bind (wpAny_rule ?_)
  have N3' : News h₀ L h3 ((c, instObj 169 cd) :: (cd, cDict w t1 t2 t3 t4 t5 many mp q lk n) :: (mp, om) :: (q, W.listOf vs.toArray ep) :: (lk, instObj 45 lkd) :: (lkd, dictOf [] 0) :: (R, revT D ((vs.length : Int) - 1)) :: (D, tupO vs 0) :: (S, W.listOf ([] : List Value).toArray n1) :: rest) :=
    fun p hp => N3 p (by simp only [List.mem_cons] at hp ⊢; grind)
  have hap3 : Apart c cd mp q lk lkd ((R, revT D ((vs.length : Int) - 1)) :: (D, tupO vs 0) :: (S, W.listOf ([] : List Value).toArray n1) :: rest) := by
    obtain ⟨a1, a2, a3, a4, a5, a6, a7, a8, a9, b1, b2, lo⟩ := hap'
    have z1 : R ≠ mp := Ne.symm (Nat.ne_of_lt (l3 (mp, om) (by simp)))
    have z2 : R ≠ q := Ne.symm (Nat.ne_of_lt (l3 (q, W.listOf vs.toArray ep) (by simp)))
    have z3 : D ≠ mp := ne_of_obj N3 (o₁ := tupO vs 0) (o₂ := om) (by simp) (by simp) (Ne.symm (dict_ne_seq hom))
    have z4 : D ≠ q := ne_of_obj N3 (o₁ := tupO vs 0) (o₂ := W.listOf vs.toArray ep) (by simp) (by simp) (by intro e; have := congrArg Obj.cls e; simp at this)
    exact ⟨a1, a2, a3, a4, a5, a6, a7, a8, a9, List.forall_mem_cons.mpr ⟨z1, List.forall_mem_cons.mpr ⟨z3, b1⟩⟩, List.forall_mem_cons.mpr ⟨z2, List.forall_mem_cons.mpr ⟨z4, b2⟩⟩, lo⟩
  refine wpAny_bind (wpAny_attempt (len_K F3 X I3 f_len f_lenF (len_pact (un := un + 1 + 1 + 1) (rest := (R, revT D ((vs.length : Int) - 1)) :: (D, tupO vs 0) :: (S, W.listOf ([] : List Value).toArray n1) :: rest) B F3 X N3' T hf hk hroom (by omega) hom hkv hvs hks hap3 fun ti h4 tk4 F4 N4 => ?_)))
  refine ⟨⟨by omega, by omega⟩, ?_⟩
  dsimp only
  refine wpAny_bind (m := asInt? (Value.int _ _)) (wpAny_of_eq (a := some (kvs.length : Int)) (by first | rfl | kernel_rfl) ?_)
  try dsimp only
  rw [if_neg (by simp [Builtin.List.listTooLong, sizeLine_eq]; omega)]
  refine wpAny_pure ?_
  have nDR : D ≠ R := Nat.ne_of_lt (l3 (D, tupO vs 0) (.head _))
  have nSR : S ≠ R := Nat.ne_of_lt (l3 (S, W.listOf ([] : List Value).toArray n1) (by simp))
  have nSD : S ≠ D := ne_of_obj N3 (o₁ := W.listOf ([] : List Value).toArray n1) (o₂ := tupO vs 0) (by simp) (by simp) (by intro e; have := congrArg Obj.cls e; simp at this)
  have fin : ∀ (h5 : Heap) (tk5 : Nat) (n5 : Nat), Fr h₀ L h5 m → News h₀ L h5 ((c, instObj 169 cd) :: (cd, cDict w t1 t2 t3 t4 t5 many mp q lk n) :: (mp, om) :: (q, W.listOf vs.toArray ep) :: (lk, instObj 45 lkd) :: (lkd, dictOf [] 0) :: (R, revT D ((vs.length : Int) - 1)) :: (D, tupO vs 0) :: (S, W.listOf ([] : List Value).toArray n5) :: rest) →
      codeAny (model PySem.Challenge.rw_bb0044_01.row.prog w) (kTop none dp un gd env outer).in1 (.builtin "list.extend.loop" ⟨[.ref S, .ref R, .none], []⟩) (wants (fun r s₂ => r = Value.none ∧ Q (Value.ref S) s₂) E) { s with heap := h5, toks := tk5 } := by
    intro h5 tk5 n5 F5 N5
    refine codeAny_extend_loopS (rt_walks (A := (kTop none dp un gd env outer).in1.in1) rfl R D nDR vs.toArray 0 (by rw [List.size_toArray]; omega)).toS (by rw [List.size_toArray, sizeLine_eq]; omega) S (by simp [nSR, nSD]) .none _ 0 _ _ _ rfl (Nat.zero_le _)
      ⟨Nat.zero_le _, ⟨_, (N5 (R, revT D ((vs.length : Int) - 1)) (by simp)).1, rfl, by simp⟩, (N5 (D, tupO vs 0) (by simp)).1⟩ (N5 (S, W.listOf ([] : List Value).toArray n5) (by simp)).1 (ItemsOf.nil _) fun s' acc' c' hm hS' hacc => ?_
    obtain ⟨h6, g6, d6, tk6, os6⟩ := s'
    obtain ⟨hm1, hm2, hm3, hm4, hm5⟩ := hm
    dsimp only at hm1 hm2 hm3 hm4 hm5 hS'
    subst hm2 hm3 hm4
    have eacc : acc' = (vs.reverse).toArray := by rw [← items_rev hacc]
    subst eacc
    have hLS : L ∉ [S, R] := by
      have x := (N5 (S, W.listOf ([] : List Value).toArray n5) (by simp)).2.1
      have y := (N5 (R, revT D ((vs.length : Int) - 1)) (by simp)).2.1
      simp [Ne.symm x, Ne.symm y]
    have h0S : ∀ b ∈ [S, R], h₀.get? b = none := by
      have x := (N5 (S, W.listOf ([] : List Value).toArray n5) (by simp)).2.2
      have y := (N5 (R, revT D ((vs.length : Int) - 1)) (by simp)).2.2
      simp [x, y]
    refine ⟨rfl, ret S h6 tk6 vs.reverse c' (fr_moved F5 hm1 hLS h0S) ?_ (ints_reverse hvs) lS⟩
    have N6 : News h₀ L h6 ((c, instObj 169 cd) :: (cd, cDict w t1 t2 t3 t4 t5 many mp q lk n) :: (mp, om) :: (q, W.listOf vs.toArray ep) :: (lk, instObj 45 lkd) :: (lkd, dictOf [] 0) :: rest) :=
      news_moved (news_sub N5 (by intro p hp; simp only [List.mem_cons] at hp ⊢; grind)) hm1 fun p hp => by
        have x := neS p hp
        have y := Nat.ne_of_lt (l3 p (by simp only [List.mem_cons] at hp ⊢; grind))
        simp [x, y]
    intro p hp
    rcases List.mem_cons.mp hp with rfl | hp
    · exact ⟨hS', (N5 (S, W.listOf ([] : List Value).toArray n5) (by simp)).2⟩
    · exact N6 p hp
  by_cases hz : kvs.length = 0
  · rw [if_neg (by rw [hz]; decide)]
    exact wpAny_pure ⟨plainId_quiet PySem.F.plain_extend_loop _, fin _ _ _ F4 N4⟩
  · rw [if_pos (by simp [hz])]
    refine wpAny_bind (wpAny_rule ?_)
    refine wpAny_bind ?_
    show wpAny _ _ (updateSeq S (·.push .none) >>= fun _ => updateSeq S (·.pop)) _ _ _
    have neS4 : ∀ p ∈ ((c, instObj 169 cd) :: (cd, cDict w t1 t2 t3 t4 t5 many mp q lk n) :: (mp, om) :: (q, W.listOf vs.toArray ep) :: (lk, instObj 45 lkd) :: (lkd, dictOf [] 0) :: (R, revT D ((vs.length : Int) - 1)) :: (D, tupO vs 0) :: rest), p.1 ≠ S := fun p hp => by
      simp only [List.mem_cons] at hp
      rcases hp with rfl | rfl | rfl | rfl | rfl | rfl | rfl | rfl | hp
      · exact neS _ (by simp)
      · exact neS _ (by simp)
      · exact neS _ (by simp)
      · exact neS _ (by simp)
      · exact neS _ (by simp)
      · exact neS _ (by simp)
      · exact Ne.symm nSR
      · exact Ne.symm nSD
      · exact neS p (by simp [hp])
    have N4' := news_sub (news' := (S, W.listOf ([] : List Value).toArray n1) :: (c, instObj 169 cd) :: (cd, cDict w t1 t2 t3 t4 t5 many mp q lk n) :: (mp, om) :: (q, W.listOf vs.toArray ep) :: (lk, instObj 45 lkd) :: (lkd, dictOf [] 0) :: (R, revT D ((vs.length : Int) - 1)) :: (D, tupO vs 0) :: rest) N4 (by intro p hp; simp only [List.mem_cons] at hp ⊢; grind)
    refine wpAny_bind (wpAny_updateSeq (N4' _ (.head _)).1 rfl ?_)
    obtain ⟨n5, F5, N5⟩ := my_change (s := { s with heap := h4 }) (vs := []) (vs' := [Value.none]) (f := fun x => x.push .none) F4 N4' (UpdF.head neS4) rfl
    refine wpAny_updateSeq (N5 _ (.head _)).1 rfl ?_
    obtain ⟨n6, F6, N6⟩ := my_change (s := { s with heap := h4.update S (Obj.mapSeq fun x => x.push .none) }) (vs := [Value.none]) (vs' := []) (f := fun x => x.pop) F5 N5 (UpdF.head neS4) rfl
    exact wpAny_pure ⟨plainId_quiet PySem.F.plain_extend_loop _, fin _ _ n6 F6 (news_sub N6 (by intro p hp; simp only [List.mem_cons] at hp ⊢; grind))⟩
end
end
/-! part CMP -/
section
/-! a comprehension whose elements may be made anew: what an element is, is said of the heap -/
abbrev KeepBut (ws : List Addr) (h h' : Heap) : Prop := ∀ b o, b ∉ ws → h.get? b = some o → h'.get? b = some o
theorem KeepBut.refl {ws : List Addr} {h : Heap} : KeepBut ws h h := fun _ _ _ e => e
theorem KeepBut.trans {ws : List Addr} {h h' h'' : Heap} (x : KeepBut ws h h') (y : KeepBut ws h' h'') : KeepBut ws h h'' := fun b o hb e => y b o hb (x b o hb e)
theorem KeepBut.of {ws : List Addr} {h h' : Heap} (x : ∀ b o, h.get? b = some o → h'.get? b = some o) : KeepBut ws h h' := fun b o _ e => x b o e
theorem KeepBut.mono {ws ws' : List Addr} {h h' : Heap} (x : KeepBut ws h h') (hs : ∀ b ∈ ws, b ∈ ws') : KeepBut ws' h h' := fun b o hb e => x b o (fun hm => hb (hs b hm)) e
section
variable {prog : Program} {w : World} {A : Around} {E : Value → Shared → Prop} {R : Result → Shared → Prop} {s : Shared}
theorem my_loop {elt iter : Expr} {x : Str} {px : Pos} {ifs : List Expr} {scope : Scope} {pos : Pos} {I D : Addr} {fp wr : List Addr} {n : Nat} {P : Nat → Value → Prop} {St : Nat → Heap → Prop}
    {cenv : Env} {m : Str → Option Value} (W : Walks prog w A I fp wr n P St) (p : Value → Bool) (Rel : Heap → Value → Value → Prop)
    (hRel : ∀ h h' v y, KeepBut (cenv.locals :: D :: wr) h h' → Rel h v y → Rel h' v y)
    (hlive : ∀ i h, St i h → ∀ b ∈ wr, ∃ o, h.get? b = some o)
    (hx : cenv.kindOf x = some .local) (hp : (cenv.scope.kind == .class || (cenv.scope.kind == .module && cenv.locals != cenv.globals)) = false)
    (hDC : D ≠ cenv.locals) (hDf : D ∉ fp) (hCf : cenv.locals ∉ fp)
    (hst : St 0 s.heap) (hacc : s.heap.PlainList D #[]) (hn : s.heap.Ns cenv.locals m)
    (htests : ∀ i v s₂ m₂, P i v → s₂.heap.Ns cenv.locals m₂ → m₂ x = some v → KeepBut (cenv.locals :: D :: wr) s.heap s₂.heap →
      wpAny (model prog w) A (forIn ifs true fun c r => if r = true then do let ok ← isTrue c cenv (eval c cenv); pure (ForInStep.yield ok) else pure (ForInStep.yield r))
        (fun ok s₃ => ok = p v ∧ Keeps s₂ s₃) (notedBy (model prog w) A cenv fun e s' => R (.error e) s') s₂)
    (helt : ∀ i v s₂ m₂, P i v → p v = true → s₂.heap.Ns cenv.locals m₂ → m₂ x = some v → KeepBut (cenv.locals :: D :: wr) s.heap s₂.heap → (∀ b ∈ cenv.locals :: D :: wr, ∃ o, s₂.heap.get? b = some o) →
      wpAny (model prog w) A (eval elt cenv) (fun y s₃ => Rel s₃.heap v y ∧ Keeps s₂ s₃) (notedBy (model prog w) A cenv fun e s' => R (.error e) s') s₂)
    (hR : ∀ h' tk m' ys (vs : List Value), h'.Ns cenv.locals m' → h'.PlainList D ys → vs.length = n → (∀ j v, vs[j]? = some v → P j v) →
      Paired (Rel h') (vs.filter p) ys.toList → KeepBut (cenv.locals :: D :: wr) s.heap h' → R (.ok .next) { s with heap := h', toks := tk })
    (hsz : n ≤ 1000) :
    codeAny (model prog w) A (.compLoop (.ListComp elt [⟨.Name x px, iter, ifs, 0⟩] scope pos) 0 (.ref I) (.ref D) cenv) R s := by
  refine codeAny_compLoop_tests
    (fun k s' => ∃ h' tk m' ys, ∃ vs : List Value, s' = { s with heap := h', toks := tk } ∧ St vs.length h' ∧ h'.PlainList D ys ∧ h'.Ns cenv.locals m' ∧ (∀ j v, vs[j]? = some v → P j v) ∧
      Paired (Rel h') (vs.filter p) ys.toList ∧ vs.length ≤ n ∧ k = n + 1 - vs.length ∧ KeepBut (cenv.locals :: D :: wr) s.heap h') ?_ (n + 1)
    ⟨s.heap, s.toks, m, #[], [], rfl, hst, hacc, hn, by simp, by simpa using Paired.nil, Nat.zero_le _, rfl, KeepBut.refl⟩
  rintro k s' ⟨H, tk, m', ys, vs, rfl, hst', hacc', hn', hP, hF, hi, rfl, hk⟩
  have hCw : cenv.locals ∉ wr := fun h => hCf (W.sub _ h)
  have hDw : D ∉ wr := fun h => hDf (W.sub _ h)
  by_cases hlt : vs.length < n
  · refine W.item vs.length _ _ _ hlt hst' fun v h₁ tk₁ hPv hst₁ hk₁ => ?_
    refine wpAny_assign_Name (wpAny_storeName_local hx (hn'.at' fun o e => hk₁ _ o hCw e) (fun h₂ hn₂ hs₂ => ?_) hp)
    have up₂ : KeepBut (cenv.locals :: D :: wr) H h₂ := fun b o hb e => hs₂.extBut b o (fun h => hb (by simp [h])) (hk₁ b o (fun h => hb (by simp [h])) e)
    have up₂' : ∀ o, H.get? D = some o → h₂.get? D = some o := fun o e => hs₂.extBut D o hDC (hk₁ D o hDw e)
    have hst₂ : St (vs.length + 1) h₂ := W.frame _ _ _ hst₁ fun b hb o e => hs₂.extBut b o (fun h => hCf (h ▸ hb)) e
    refine wpAny_mono (htests vs.length v _ _ hPv hn₂ (by simp) (hk.trans up₂)) (fun ok s₃ h₃ => ?_) fun _ _ e => e
    obtain ⟨rfl, h₃, tk₃, rfl, hk₃⟩ := h₃
    have up₃ : KeepBut (cenv.locals :: D :: wr) H h₃ := up₂.trans (KeepBut.of hk₃)
    have hst₃ : St (vs.length + 1) h₃ := W.frame _ _ _ hst₂ fun b _ o e => hk₃ b o e
    have hacc₃ : h₃.PlainList D ys := hacc'.at fun o e => hk₃ _ o (up₂' o e)
    have hn₃ := hn₂.keeps hk₃
    have hP' : ∀ j u, (vs ++ [v])[j]? = some u → P j u := fun j u hj => by
      rcases Nat.lt_trichotomy j vs.length with h | h | h
      · exact hP j u (by rwa [List.getElem?_append_left h] at hj)
      · subst h; simp at hj; subst hj; exact hPv
      · have hnone : (vs ++ [v])[j]? = none := List.getElem?_eq_none (by rw [List.length_append, List.length_singleton]; omega)
        rw [hnone] at hj; cases hj
    have hF₃ : Paired (Rel h₃) (vs.filter p) ys.toList := hF.mono fun _ _ hy => hRel _ _ _ _ up₃ hy
    cases hpv : p v with
    | false =>
      simp only [Bool.false_eq_true, if_false]
      refine ⟨n + 1 - (vs.length + 1), by omega, h₃, tk₃, _, ys, vs ++ [v], rfl, by simpa using hst₃, hacc₃, hn₃, hP', ?_, (by rw [List.length_append, List.length_singleton]; exact hlt), (by rw [List.length_append, List.length_singleton]), hk.trans up₃⟩
      rw [List.filter_append]; simpa [hpv] using hF₃
    | true =>
      simp only [if_true]
      have live : ∀ b ∈ cenv.locals :: D :: wr, ∃ o, h₃.get? b = some o := by
        intro b hb
        rcases List.mem_cons.mp hb with rfl | hb
        · obtain ⟨o, _, _, ho, _⟩ := hn₃; exact ⟨o, ho⟩
        · rcases List.mem_cons.mp hb with rfl | hb
          · obtain ⟨_, ho⟩ := hacc₃; exact ⟨_, ho⟩
          · exact hlive _ _ hst₃ b hb
      refine wpAny_mono (helt vs.length v _ _ hPv hpv hn₃ (by simp) (hk.trans up₃) live) (fun y s₄ h₄ => ?_) fun _ _ e => e
      obtain ⟨hy, h₄, tk₄, rfl, hk₄⟩ := h₄
      have hys : ys.size ≤ sizeLine := by
        have e1 := hF.length
        have e2 : (vs.filter p).length ≤ vs.length := List.length_filter_le _ _
        have e4 : ys.toList.length = ys.size := by simp
        rw [sizeLine_eq]
        omega
      refine wpAny_list_append_plain (hsz := hys) (hacc₃.at fun o e => hk₄ _ o e) fun h₅ hl₅ hs₅ => ?_
      have up₅ : KeepBut (cenv.locals :: D :: wr) h₄ h₅ := fun b o hb e => hs₅.extBut b o (fun h => hb (by simp [h])) e
      refine ⟨n + 1 - (vs.length + 1), by omega, h₅, tk₄, _, ys.push y, vs ++ [v], rfl, ?_, hl₅, (hn₃.keeps hk₄).sameBut hs₅ (Ne.symm hDC), hP', ?_, (by rw [List.length_append, List.length_singleton]; exact hlt), (by rw [List.length_append, List.length_singleton]),
        (hk.trans up₃).trans ((KeepBut.of hk₄).trans up₅)⟩
      · have := W.frame _ _ h₅ hst₃ fun b hb o e => hs₅.extBut b o (fun h => hDf (h ▸ hb)) (hk₄ b o e)
        simpa using this
      · have hF₅ := hF₃.mono (F' := Rel h₅) fun _ _ hy => hRel _ _ _ _ ((KeepBut.of hk₄).trans up₅) hy
        have hy₅ : Rel h₅ v y := hRel _ _ _ _ up₅ hy
        rw [List.filter_append]; simpa [hpv] using Paired.snoc hF₅ hy₅
  · have hin : vs.length = n := by omega
    refine W.done _ _ _ (hin ▸ hst') fun h₁ tk₁ hk₁ => ?_
    have up₁ : KeepBut (cenv.locals :: D :: wr) H h₁ := fun b o hb e => hk₁ b o (fun h => hb (by simp [h])) e
    exact hR h₁ tk₁ m' ys vs (hn'.at' fun o e => hk₁ _ o hCw e) (hacc'.at fun o e => hk₁ _ o hDw e) hin hP (hF.mono fun _ _ hy => hRel _ _ _ _ up₁ hy) (hk.trans up₁)
end
section
variable {prog : Program} {w : World} {A : Around} {E : Value → Shared → Prop} {env : Env}
structure CompOk (prog : Program) (w : World) (A : Around) (env : Env) (scope : Scope) (cl : List (Str × Addr)) (x : Str) (ifs : List Expr) (elt : Expr) (wr : List Addr) (P : Nat → Value → Prop) (p : Value → Bool)
    (Rel : List Addr → Heap → Value → Value → Prop) (s₂ : Shared) : Prop where
  keep : ∀ ws h h' v y, KeepBut ws h h' → Rel ws h v y → Rel ws h' v y
  tests : ∀ C i v s₃ m₃ E', P i v → s₃.heap.Ns C m₃ → m₃ x = some v → KeepBut wr s₂.heap s₃.heap →
    wpAny (model prog w) A (forIn ifs true fun c r => if r = true then do let ok ← isTrue c (compEnvC scope cl C env) (eval c (compEnvC scope cl C env)); pure (ForInStep.yield ok) else pure (ForInStep.yield r))
      (fun ok s₄ => ok = p v ∧ Keeps s₃ s₄) E' s₃
  elt : ∀ C D i v s₃ m₃ E', P i v → p v = true → s₃.heap.Ns C m₃ → m₃ x = some v → KeepBut wr s₂.heap s₃.heap → (∀ b ∈ C :: D :: wr, ∃ o, s₃.heap.get? b = some o) →
    wpAny (model prog w) A (eval elt (compEnvC scope cl C env)) (fun y s₄ => Rel (C :: D :: wr) s₄.heap v y ∧ Keeps s₃ s₄) E' s₃

theorem my_block {elt iter : Expr} {x : Str} {px : Pos} {ifs : List Expr} {scope : Scope} {cl : List (Str × Addr)} {pos : Pos} {s₂ : Shared} {I : Addr} {fp wr : List Addr} {n : Nat} {P : Nat → Value → Prop}
    {St : Nat → Heap → Prop} (W : Walks prog w A I fp wr n P St) (hsz : n ≤ 1000) (p : Value → Bool) (Rel : List Addr → Heap → Value → Value → Prop) {RR : Value → Addr → Result → Shared → Prop}
    (hlive : ∀ i h, St i h → ∀ b ∈ wr, ∃ o, h.get? b = some o)
    (hcell : ∀ y ∈ scope.names, y.2 ≠ .cell) (hkind : scope.kind = .function) (hx : scope.names.lookup x = some .local) (hst : St 0 s₂.heap) (hfp : ∀ b ∈ fp, b < s₂.heap.objs.size)
    (hq : CompOk prog w A env scope cl x ifs elt wr P p Rel s₂)
    (hRR : ∀ D C h' tk m' ys (vs : List Value), s₂.heap.get? D = none → s₂.heap.get? C = none → D ≠ C → h'.Ns C m' → h'.PlainList D ys → vs.length = n → (∀ j v, vs[j]? = some v → P j v) →
      Paired (Rel (C :: D :: wr) h') (vs.filter p) ys.toList → KeepBut wr s₂.heap h' → RR (.ref D) C (.ok .next) { s₂ with heap := h', toks := tk }) :
    wpAny (model prog w) A (newList []) (fun acc s₃ => wpAny (model prog w) A (newFunctionEnv scope env.globals cl [] env.qual none .none (some env)) (fun cenv s₄ =>
      codeAny (model prog w) A (.compStart (.ListComp elt [⟨.Name x px, iter, ifs, 0⟩] scope pos) 0 (.ref I) acc { cenv with scope := relabel scope env }) (RR acc cenv.locals) s₄) E s₃) E s₂ := by
  refine wpAny_newObj_type (wpAny_newFunctionEnv hcell (by intro y hy; simp at hy) (fun h₁ hns₁ hsb₁ => ?_) hkind)
  dsimp only at hns₁ hsb₁ ⊢
  generalize hH2 : s₂.heap.push { cls := .type "list", dict := none, data := .seq ([] : List Value).toArray } = H2 at hns₁ hsb₁ ⊢
  have hC : H2.objs.size = s₂.heap.objs.size + 1 := by rw [← hH2, Heap.size_push]
  have hDC : s₂.heap.objs.size ≠ H2.objs.size := by rw [hC]; exact Nat.ne_of_lt (Nat.lt_succ_self _)
  have below : ∀ b, b < s₂.heap.objs.size → b ≠ H2.objs.size ∧ b ≠ s₂.heap.objs.size := fun b hb => ⟨by rw [hC]; exact Nat.ne_of_lt (Nat.lt_succ_of_lt hb), Nat.ne_of_lt hb⟩
  have hDf : s₂.heap.objs.size ∉ fp := fun hm => Nat.lt_irrefl _ (hfp _ hm)
  have hCf : H2.objs.size ∉ fp := fun hm => by have := hfp _ hm; rw [hC] at this; exact Nat.lt_irrefl _ (Nat.lt_of_succ_lt this)
  have old : ∀ b o, s₂.heap.get? b = some o → h₁.get? b = some o := fun b o e => hsb₁.extBut b o (below b (Heap.lt_size e)).1 (Heap.get?_push_of_some _ (hH2 ▸ Heap.get?_push_of_some _ e))
  have hacc : h₁.PlainList s₂.heap.objs.size #[] := ⟨_, hsb₁.extBut _ _ hDC (Heap.get?_push_of_some _ (hH2 ▸ Heap.get?_push_size _ rfl))⟩
  have hst₁ : St 0 h₁ := W.frame _ _ _ hst fun b _ o e => old b o e
  have fresh : ∀ a, s₂.heap.objs.size ≤ a → s₂.heap.get? a = none := fun a ha => by
    cases e : s₂.heap.get? a with
    | none => rfl
    | some o' => exact absurd (Heap.lt_size e) (Nat.not_lt.mpr ha)
  have up : ∀ (ws : List Addr) (h' : Heap), KeepBut (H2.objs.size :: s₂.heap.objs.size :: ws) h₁ h' → KeepBut ws s₂.heap h' := fun ws h' hk b o hb e => hk b o (by
    have := below b (Heap.lt_size e)
    simp [this.1, this.2, hb]) (old b o e)
  have loop : ∀ s₃ : Shared, s₃ = { s₂ with heap := h₁, toks := s₂.toks + ([] : List (Str × Value)).length } →
      codeAny (model prog w) A (.compLoop (.ListComp elt [⟨.Name x px, iter, ifs, 0⟩] scope pos) 0 (.ref I) (.ref s₂.heap.objs.size) (compEnvC scope cl H2.objs.size env))
        (RR (.ref s₂.heap.objs.size) H2.objs.size) s₃ := by
    rintro s₃ rfl
    refine my_loop (hsz := hsz) (cenv := compEnvC scope cl H2.objs.size env) W p (Rel (H2.objs.size :: s₂.heap.objs.size :: wr)) (fun h h' v y hk hr => hq.keep _ _ _ _ _ hk hr) hlive (lookup_relabel_local hx) (by simp [compEnvC, relabel, hkind]) hDC hDf hCf hst₁ hacc hns₁
      (fun i v s₃ m₃ hv hn hm hk => hq.tests _ i v s₃ m₃ _ hv hn hm (up _ _ hk))
      (fun i v s₃ m₃ hv hpv hn hm hk hl => hq.elt _ _ i v s₃ m₃ _ hv hpv hn hm (up _ _ hk) hl) fun h' tk m' ys vs hn hpl hlen hP hF hk => ?_
    exact hRR _ _ h' tk m' ys vs (fresh _ (Nat.le_refl _)) (fresh _ (by rw [hC]; exact Nat.le_succ _)) hDC hn hpl hlen hP hF (up _ _ hk)
  exact codeAny_compStart_list (loop _ rfl) (W.self 0 _ _ _ hst₁ (loop _ rfl))

theorem my_comp {s : Shared} {elt iter : Expr} {x : Str} {px : Pos} {ifs : List Expr} {scope : Scope} {cl : List (Str × Addr)} {pos : Pos} {Q : Value → Shared → Prop}
    (hclos : closureFor scope env = pure cl) (hcell : ∀ y ∈ scope.names, y.2 ≠ .cell) (hkind : scope.kind = .function)
    (hnames : ∀ y ∈ scope.names, y.2 = .local → scope.names.lookup y.1 = some .local) (hx : scope.names.lookup x = some .local)
    (h : wpAny (model prog w) A (eval iter env) (fun xv s₁ => wpAny (model prog w) A (pyIter xv) (fun it s₂ => ∃ I fp wr n P St p, ∃ Rel : List Addr → Heap → Value → Value → Prop, it = .ref I ∧ Walks prog w A I fp wr n P St ∧ n ≤ 1000 ∧ (∀ i h, St i h → ∀ b ∈ wr, ∃ o, h.get? b = some o) ∧ St 0 s₂.heap ∧ (∀ b ∈ fp, b < s₂.heap.objs.size) ∧
      CompOk prog w A env scope cl x ifs elt wr P p Rel s₂ ∧
      (∀ D C h' tk ys (vs : List Value), s₂.heap.get? D = none → s₂.heap.get? C = none → h'.PlainList D ys → vs.length = n → (∀ j v, vs[j]? = some v → P j v) → Paired (Rel (C :: D :: wr) h') (vs.filter p) ys.toList →
        KeepBut wr s₂.heap h' → Q (.ref D) { s₂ with heap := h', toks := tk })) E s₁) E s)
    (hs : ∀ x, foldedSetIterable iter env x = pure x := by intro _; rfl) :
    wpAny (model prog w) A (eval (.ListComp elt [⟨.Name x px, iter, ifs, 0⟩] scope pos) env) Q E s := by
  rw [eval_ListComp]
  refine wpAny_comprehension_free (use := none) rfl hs hclos hkind hnames (wpAny_mono h (fun xv s₁ h₁ => wpAny_mono h₁ (fun it s₂ h₂ => ?_) fun _ _ e => e) fun _ _ e => e)
  obtain ⟨I, fp, wr, n, P, St, p, Rel, rfl, W, hsz, hlive, hst, hfp, hq, hQ⟩ := h₂
  refine my_block (RR := fun acc C => compPost (model prog w) A E none Q acc C) W hsz p Rel hlive hcell hkind hx hst hfp hq ?_
  intro D C h' tk m' ys vs hD hC hDC hn hpl hlen hP hF hk
  refine ⟨m', hn, fun h'' hs'' => hQ D C h'' tk ys vs hD hC (hpl.extBut hs''.extBut hDC) hlen hP ?_ ?_⟩
  · exact hF.mono fun _ _ hy => hq.keep _ _ _ _ _ (fun b o hb e => hs''.extBut b o (fun h => hb (by simp [h])) e) hy
  · exact fun b o hbf e => hs''.extBut b o (by rintro rfl; rw [hC] at e; cases e) (hk b o hbf e)

theorem my_comp_assign {s : Shared} {elt iter : Expr} {x y : Str} {px py : Pos} {ifs : List Expr} {scope : Scope} {cl : List (Str × Addr)} {pos spos : Pos} {Q : Flow → Shared → Prop}
    (hsw : swapsWith (.ListComp elt [⟨.Name x px, iter, ifs, 0⟩] scope pos) (some (.Name y py)) spos.line env = pure true)
    (hclos : closureFor scope env = pure cl) (hcell : ∀ z ∈ scope.names, z.2 ≠ .cell) (hkind : scope.kind = .function)
    (hnames : ∀ z ∈ scope.names, z.2 = .local → scope.names.lookup z.1 = some .local) (hx : scope.names.lookup x = some .local)
    (hy : env.kindOf y = some .local) (hp : (env.scope.kind == .class || (env.scope.kind == .module && env.locals != env.globals)) = false)
    (h : wpAny (model prog w) A (eval iter env) (fun xv s₁ => wpAny (model prog w) A (pyIter xv) (fun it s₂ => ∃ I fp wr n P St p, ∃ Rel : List Addr → Heap → Value → Value → Prop, ∃ m, it = .ref I ∧ Walks prog w A I fp wr n P St ∧ n ≤ 1000 ∧ (∀ i h, St i h → ∀ b ∈ wr, ∃ o, h.get? b = some o) ∧ St 0 s₂.heap ∧ (∀ b ∈ fp, b < s₂.heap.objs.size) ∧
      env.locals ∉ wr ∧ s₂.heap.Ns env.locals m ∧ (∀ ws h h' v y, KeepBut ws h h' → Rel ws h v y → Rel ws h' v y) ∧ CompOk prog w A env scope cl x ifs elt wr P p (fun ws => Rel (env.locals :: ws)) s₂ ∧
      (∀ D C h' tk ys (vs : List Value), s₂.heap.get? D = none → s₂.heap.get? C = none → h'.PlainList D ys → vs.length = n → (∀ j v, vs[j]? = some v → P j v) → Paired (Rel (env.locals :: C :: D :: wr) h') (vs.filter p) ys.toList →
        h'.Ns env.locals (fun z => if z = y then some (.ref D) else m z) → KeepBut (env.locals :: wr) s₂.heap h' → Q .next { s₂ with heap := h', toks := tk })) E s₁) E s)
    (hs : ∀ x, foldedSetIterable iter env x = pure x := by intro _; rfl) :
    wpAny (model prog w) A (exec (.Assign [.Name y py] (.ListComp elt [⟨.Name x px, iter, ifs, 0⟩] scope pos) spos) env) Q E s := by
  rw [exec_Assign_Name_used _ _ _ _ hsw]
  refine wpAny_bind (wpAny_standAt (wpAny_bind ?_))
  show wpAny _ A (do let _ ← comprehension (.ListComp elt [⟨.Name x px, iter, ifs, 0⟩] scope pos) scope env _ (newList []) false (eval iter env) (some (assign (.Name y py) env))) _ _ s
  refine wpAny_bind (wpAny_mono (wpAny_comprehension_free (use := some (assign (.Name y py) env)) (Q := fun _ s' => Q .next s') rfl hs hclos hkind hnames
    (wpAny_mono h (fun xv s₁ h₁ => wpAny_mono h₁ (fun it s₂ h₂ => ?_) fun _ _ e => e) fun _ _ e => e)) (fun _ s' hq => wpAny_pure (wpAny_pure hq)) fun _ _ e => e)
  obtain ⟨I, fp, wr, n, P, St, p, Rel, m, rfl, W, hsz, hlive, hst, hfp, hLf, hn, hkp, hq, hQ⟩ := h₂
  refine my_block (RR := fun acc C => compPost (model prog w) A E (some (assign (.Name y py) env)) (fun _ s' => Q .next s') acc C) W hsz p (fun ws => Rel (env.locals :: ws)) hlive hcell hkind hx hst hfp hq ?_
  intro D C h' tk m' ys vs hD hC hDC hnC hplD hlen hP hF hk
  have hLC : env.locals ≠ C := by rintro rfl; obtain ⟨o, _, _, ho, _⟩ := hn; rw [hC] at ho; cases ho
  have hLD : env.locals ≠ D := by rintro rfl; obtain ⟨o, _, _, ho, _⟩ := hn; rw [hD] at ho; cases ho
  have hnL : h'.Ns env.locals m := hn.at' fun o e => hk _ o hLf e
  show wpAny _ A (assign (.Name y py) env (.ref D)) _ _ _
  refine wpAny_assign_Name (wpAny_storeName_local hy hnL (fun h₂ hn₂ hs₂ => ?_) hp)
  refine ⟨m', hnC.sameBut hs₂ (Ne.symm hLC), fun h₃ hs₃ => ?_⟩
  refine hQ D C h₃ _ ys vs hD hC ((hplD.extBut hs₂.extBut (Ne.symm hLD)).extBut hs₃.extBut hDC) hlen hP ?_ (hn₂.sameBut hs₃ hLC) ?_
  · refine hF.mono fun _ _ hy => hkp _ _ _ _ _ (fun b o hb e => ?_) hy
    exact hs₃.extBut b o (fun h => hb (by simp [h])) (hs₂.extBut b o (fun h => hb (by simp [h])) e)
  · intro b o hb e
    exact hs₃.extBut b o (by rintro rfl; rw [hC] at e; cases e) (hs₂.extBut b o (fun h => hb (by simp [h])) (hk b o (fun h => hb (by simp [h])) e))
end
end
/-! part IT -/
section
theorem walk_start_IT : True := by
  w_top off
  trivial
section
variable {M : Model} {A : Around} {E : Value → Shared → Prop} {s : Shared} {C : Addr} {scope : Scope} {cl : List (Str × Addr)} {env : Env} {x : Str} {pos : Pos} {v : Value} {m : Str → Option Value} {Q : Value → Shared → Prop}
theorem c_loc (hn : s.heap.Ns C m) (hv : m x = some v) (h : Q v s)
    (hk : (compEnvC scope cl C env).scope.kind = .function) (hx : (compEnvC scope cl C env).kindOf x = some .local) (hb : (x == ("__debug__" : Str)) = false := by decide) :
    wpAny M A (eval (.Name x pos) (compEnvC scope cl C env)) Q E s := wpAny_Name (wpAny_loadName_local hk hx hn hv h) hb
end
theorem ints_val {vs : List Value} {ks : List Int} (h : IntsAre vs ks) {i : Nat} {v : Value} (e : vs[i]? = some v) : ∃ k t, v = .int k t ∧ ks[i]? = some k := by
  induction h generalizing i with
  | nil => simp at e
  | @cons a t vs ks h ih =>
    cases i with
    | zero => simp at e; exact ⟨a, t, e.symm, rfl⟩
    | succ i => simp at e; obtain ⟨k, u, h1, h2⟩ := ih e; exact ⟨k, u, h1, by simpa using h2⟩
def Stop (P : Prop) : Prop := P
theorem stop_out {α : Type} {M : Model} {A : Around} {E : Value → Shared → Prop} {s : Shared} {t : Sem α} {Q : α → Shared → Prop} (h : wpAny M A t (fun a s' => Stop (Q a s')) E s) : wpAny M A t Q E s := h
theorem my_newTuple {M : Model} {A : Around} {E : Value → Shared → Prop} {s : Shared} {vs : List Value} {Q : Value → Shared → Prop} (hz : vs.length ≤ 1000) (h : ∀ T h', T = s.heap.objs.size → h' = s.heap.push (tupO vs 0) → Q (.ref T) { s with heap := h' }) : wpAny M A (newTuple vs) Q E s :=
  wpAny_newObj_type (h _ _ rfl rfl) (by show vs.toArray.size ≤ sizeLine; rw [List.size_toArray, sizeLine_eq]; omega)
theorem keeps_push {s : Shared} {o : Obj} {tk : Nat} {h' : Heap} (e : h' = s.heap.push o) : Keeps s { s with heap := h', toks := tk } := ⟨h', tk, rfl, fun b o' x => by rw [e]; exact Heap.get?_push_of_some _ x⟩
theorem size_fresh {h : Heap} : h.get? h.objs.size = none := by
  cases e : h.get? h.objs.size with
  | none => rfl
  | some o => exact absurd (Heap.lt_size e) (Nat.lt_irrefl _)
theorem fresh_notin {h : Heap} {T : Addr} {ws : List Addr} (hT : h.get? T = none) (live : ∀ b ∈ ws, ∃ o, h.get? b = some o) : T ∉ ws := fun hm => by
  obtain ⟨o, ho⟩ := live T hm
  rw [hT] at ho; cases ho
theorem c_name_tup {prog : Program} {w : World} {A : Around} {E : Value → Shared → Prop} {s : Shared} {value slice : PySem.Expr} {a : Addr} {l : List Value} {n : Nat} {k : Int} {u : Tok} {x : Value} {j : Nat} {Q : Value → Shared → Prop}
    (ht : s.heap.get? a = some (tupO l n)) (hlo : -(2 ^ 63) ≤ k) (hhi : k < 2 ^ 63) (hj : seqIndex? k l.length = some j) (hx : l[j]? = some x) (h : Q x s)
    (hs : subscripted slice false (.ref a) (.int k u) = operate [.ref a, .int k u] (getItem (.ref a) (.int k u)) := by with_unfolding_all rfl) (hg : ∀ r, letTemporaryGo value (.ref a) r = pure () := by intro _; with_unfolding_all rfl) :
    wpAny (model prog w) A (subscriptTail value slice (.ref a) (.int k u)) Q E s :=
  item_tupleL ⟨_, ht, rfl, n, rfl⟩ hlo hhi hj hx h hs hg
theorem paired_get {α β : Type} {F : α → β → Prop} {l₁ : List α} {l₂ : List β} (x : Paired F l₁ l₂) {i : Nat} {a : α} (e : l₁[i]? = some a) : ∃ b, l₂[i]? = some b ∧ F a b := by
  induction x generalizing i with
  | nil => simp at e
  | cons h r ih =>
    cases i with
    | zero => simp at e; subst e; exact ⟨_, rfl, h⟩
    | succ i => simp at e; obtain ⟨b, h1, h2⟩ := ih e; exact ⟨b, by simpa using h1, h2⟩
/-- a row's tuples, in their order: what stands at each address -/
abbrev PairAt (h : Heap) (y : Value) (p : Int × Int) : Prop := ∃ T t u, y = .ref T ∧ h.get? T = some (tupO [.int p.1 t, .int p.2 u] 0)
abbrev PairsAt (h : Heap) (ys : List Value) (ps : List (Int × Int)) : Prop := Paired (PairAt h) ys ps
def valOf (kvs : List (Int × Value)) (k : Int) : Int := match valueAt kvs k with
  | some (.int i _) => i
  | _ => 0
theorem valOf_of {kvs : List (Int × Value)} {k i : Int} {t : Tok} (h : valueAt kvs k = some (.int i t)) : valOf kvs k = i := by unfold valOf; rw [h]
theorem PairsAt.mono {h h' : Heap} {ys : List Value} {ps : List (Int × Int)} (x : PairsAt h ys ps) (hk : ∀ T o, Value.ref T ∈ ys → h.get? T = some o → h'.get? T = some o) : PairsAt h' ys ps := by
  induction x with
  | nil => exact .nil
  | cons a r ih =>
    obtain ⟨T, t, u, rfl, hT⟩ := a
    exact .cons ⟨T, t, u, rfl, hk T _ (.head _) hT⟩ (ih fun T' o hm => hk T' o (.tail _ hm))
theorem PairsAt.keep {h h' : Heap} {ys : List Value} {ps : List (Int × Int)} (x : PairsAt h ys ps) (hk : ∀ b o, h.get? b = some o → h'.get? b = some o) : PairsAt h' ys ps := x.mono fun T o _ e => hk T o e
theorem paired_append {α β : Type} {F : α → β → Prop} {a b : List α} {c d : List β} (x : Paired F a c) (y : Paired F b d) : Paired F (a ++ b) (c ++ d) := by
  induction x with
  | nil => exact y
  | cons h r ih => exact .cons h ih
theorem paired_reverse {α β : Type} {F : α → β → Prop} {a : List α} {c : List β} (x : Paired F a c) : Paired F a.reverse c.reverse := by
  induction x with
  | nil => exact .nil
  | cons h r ih => rw [List.reverse_cons, List.reverse_cons]; exact paired_append ih (.cons h .nil)
theorem pairs_of {h : Heap} {vs ys : List Value} {ks : List Int} {kvs : List (Int × Value)} {R : Value → Value → Prop} (x : Paired R vs ys) (hi : IntsAre vs ks)
    (hR : ∀ v y, R v y → ∃ T k t i u, v = .int k t ∧ y = .ref T ∧ h.get? T = some (tupO [.int k t, .int i u] 0) ∧ valueAt kvs k = some (.int i u)) : PairsAt h ys (ks.map fun k => (k, valOf kvs k)) := by
  induction x generalizing ks with
  | nil => cases hi; exact .nil
  | cons a r ih =>
    obtain ⟨T, k, t, i, u, rfl, rfl, hT, hv⟩ := hR _ _ a
    cases hi with
    | cons _ _ hi =>
      exact .cons ⟨T, t, u, rfl, by show _ = some (tupO [.int k t, .int (valOf kvs k) u] 0); rw [valOf_of hv]; exact hT⟩ (ih hi)
section
variable {prog : Program} {w : World} {A : Around} {E : Value → Shared → Prop} {s : Shared} {h₀ : Heap} {L D : Addr} {m : Str → Option Value} {news : List (Addr × Obj)} {g : Obj → List (Addr × Obj)} {xs : List Value} {n : Nat}
theorem my_reverse {Q : Value → Shared → Prop} (F : Fr h₀ L s.heap m) (N : News h₀ L s.heap news) (U : UpdF D (W.listOf xs.toArray n) news g) (hz : xs.length ≤ 1000)
    (h : ∀ h' n', Fr h₀ L h' m → News h₀ L h' (g (W.listOf xs.reverse.toArray n')) → Heap.SameBut D s.heap h' → Q .none { s with heap := h' }) :
    wpAny (model prog w) A (call (.builtin "list.reverse") [.ref D]) Q E s := by
  obtain ⟨n', F', N'⟩ := my_change F N U (f := fun x => x.reverse) (vs' := xs.reverse) (by simp)
  have z := N _ (updF_mem U)
  exact call_meets PySem.F.slot_list_reverse ⟨_, z.1, rfl⟩ PySem.F.entry_list_reverse (PySem.F.args_list_reverse_1 _) (PySem.AutoSeq1.list_reverse_list_0 D _ n (by rw [sizeLine_eq, List.size_toArray]; omega)) ⟨z.1, h _ _ F' N' (Heap.SameBut.update ..)⟩
end
theorem news_drop2 {h₀ h : Heap} {L : Addr} {a b : Addr × Obj} {l : List (Addr × Obj)} (N : News h₀ L h (a :: b :: l)) : News h₀ L h (a :: l) := fun p hp => by
  rcases List.mem_cons.mp hp with rfl | hp
  · exact N _ (.head _)
  · exact N _ (.tail _ (.tail _ hp))
theorem pairAt_uniq {h : Heap} {y : Value} {p p' : Int × Int} (x : PairAt h y p) (z : PairAt h y p') : p = p' := by
  obtain ⟨T, t, u, rfl, hT⟩ := x
  obtain ⟨T', t', u', e, hT'⟩ := z
  cases e
  rw [hT] at hT'
  have h2 : Obj.data (tupO [.int p.1 t, .int p.2 u] 0) = Obj.data (tupO [.int p'.1 t', .int p'.2 u'] 0) := by rw [Option.some.inj hT']
  simp at h2
  exact Prod.ext h2.1.1 h2.2.1
theorem proj_ints {h : Heap} {ys zs : List Value} {ps : List (Int × Int)} {R : Value → Value → Prop} (f : Int × Int → Int) (x : Paired R ys zs) (P : PairsAt h ys ps) (hR : ∀ v y, R v y → ∃ p t, PairAt h v p ∧ y = .int (f p) t) : IntsAre zs (ps.map f) := by
  induction x generalizing ps with
  | nil => cases P; exact .nil
  | cons a r ih =>
    cases P with
    | cons b P =>
      obtain ⟨p, t, h1, rfl⟩ := hR _ _ a
      rw [pairAt_uniq h1 b]
      exact .cons _ _ (ih P)
/-- the ledger behind a comprehension: the new list ahead of what stood -/
theorem news_list {h₀ h h' : Heap} {L D : Addr} {m : Str → Option Value} {news : List (Addr × Obj)} {ws : List Addr} {ys : Array Value} {n : Nat} (F : Fr h₀ L h m) (N : News h₀ L h news) (hk : KeepBut ws h h') (hw : ∀ p ∈ news, p.1 ∉ ws) (hD : h.get? D = none)
    (ho : h'.get? D = some { cls := .type "list", data := .seq ys n }) : News h₀ L h' ((D, W.listOf ys.toList.toArray n) :: news) := by
  intro p hp
  rcases List.mem_cons.mp hp with rfl | hp
  · refine ⟨ho, fun e => ?_, ?_⟩
    · obtain ⟨o, _, _, ho', _⟩ := F.ns
      rw [show D = L from e, ho'] at hD; cases hD
    · cases e : h₀.get? D with
      | none => rfl
      | some o => rw [F.keep _ _ e] at hD; cases hD
  · exact ⟨hk _ _ (hw p hp) (N p hp).1, (N p hp).2⟩
local macro_rules | `(tactic| k_room) => `(tactic| (dsimp only [Around.deeper, Around.mark, Around.in1, Around.under, kTop]; omega))
local macro_rules | `(tactic| k_units) => `(tactic| (have hcL9 := cLine_is; dsimp only [Around.deeper, Around.mark, Around.in1, Around.under, kTop]; omega))
local macro_rules | `(tactic| ktr_room) => `(tactic| (dsimp only [Around.deeper, Around.mark, Around.in1, Around.under, kTop]; omega))
local macro_rules | `(tactic| k_all) => `(tactic| assumption)
local macro_rules | `(tactic| k_ne) => `(tactic| first | assumption | (apply Ne.symm; assumption) | (refine neN ?_; (try dsimp only); omega))
local macro_rules | `(tactic| cell_enter) => `(tactic| (refine' code_def ?k1 ?k2 ?k3 ?k4 ?k5 ?kA ?kF ?kK ?k6 ?k7 ?k8 ?k9 ?kB ?_ ?c2 ?c3 ?c4 ?c5; (case kA => exact rfl); (case kF => assumption); (case kK => assumption); (case k1 => k_asm); (case k2 => k_asm); (case k3 => k_asm); (case k4 => k_asm); (case k5 => k_asm); (case k6 => k_is); (case k7 => k_is); (case k8 => ktr_room); (case k9 => exact BindsTo.of_eq rfl); (case c5 => decide); (case kB => exact locs rfl); (case c2 => exact rfl); (case c3 => exact rfl); (case c4 => exact rfl); k_whole; intro g' L' h' FG' F' N' B' X' T'; (try dsimp only); (try k_lift B'); (try k_fold)))
local macro_rules | `(tactic| walk_at "getItem ref int") => `(tactic| (k_here; k_dflt (refine' my_item ?N ?m ?d ?l ?_; (case N => k_asm); (case m => k_mem); (case d => assumption); (case l => assumption))))
local macro_rules | `(tactic| walk_at "call builtin:list.append") => `(tactic| (k_here; (with_reducible show wpAny _ _ (call (Value.builtin _) [Value.ref _, Value.int _ _]) _ _ _); k_dflt (refine' my_append ?F ?N ?i ?U ?z ?_; (case F => k_asm); (case N => k_asm); (case U => k_updF); (case i => assumption); (case z => first | omega | (refine Nat.le_trans List.length_erase_le ?_; omega))); intro h' vs' n' F' N' hi'; (try dsimp only at N'); (try k_sweep)))
local macro_rules | `(tactic| walk_at "call builtin:list.remove") => `(tactic| (k_here; (with_reducible show wpAny _ _ (call (Value.builtin _) [Value.ref _, Value.int _ _]) _ _ _); k_dflt (refine' my_remove ?F ?N ?i ?U ?z ?e ?_; (case F => k_asm); (case N => k_asm); (case U => k_updF); (case i => assumption); (case z => omega); (case e => assumption)); intro h' vs' n' F' N' hi'; (try dsimp only at N'); (try k_sweep)))
local macro_rules | `(tactic| walk_at "call builtin:list.clear") => `(tactic| (k_here; (with_reducible show wpAny _ _ (call (Value.builtin _) [Value.ref _]) _ _ _); k_dflt (refine' my_clear ?F ?N ?i ?U ?z ?_; (case F => k_asm); (case N => k_asm); (case U => k_updF); (case i => assumption); (case z => omega)); intro h' n' F' N'; (try dsimp only at N'); (try k_sweep)))
local macro_rules | `(tactic| walk_at "subscriptTail") => `(tactic| (k_here; (with_reducible show wpAny _ _ (subscriptTail _ _ (Value.ref _) (Value.int (-1) _)) _ _ _); k_dflt (refine' my_last ?N ?m ?i ?l ?z ?_ ?a ?b; (case a => with_unfolding_all rfl); (case b => intro _; with_unfolding_all rfl); (case N => k_asm); (case m => k_mem); (case i => assumption); (case l => assumption); (case z => omega)); intro t'; (try dsimp only)))
local macro_rules | `(tactic| walk_at "compareOp In int ref") => `(tactic| (k_here; k_dflt (refine' kda_in (knd := intKind _ _) ?N ?m ?d ?lo (intKind_is _ _ _ _) _ ?e ?_; (case N => k_asm); (case m => k_mem); (case d => assumption); (case lo => assumption); (case e => assumption))))
local macro_rules | `(tactic| walk_at "call builtin:len") => `(tactic| (k_here; (with_reducible show wpAny _ _ (call (Value.builtin "len") [Value.ref _]) _ _ _); k_dflt (refine' kda_len (knd := intKind _ _) ?N ?m ?d ?lo ?z ?_; (case N => k_asm); (case m => k_mem); (case d => assumption); (case lo => assumption); (case z => omega))))
local macro_rules | `(tactic| walk_at "setItem ref int") => `(tactic| (k_here; k_dflt (refine' kda_set (knd := intKind _ _) ?F ?N ?U ?d (intKind_is _ _ _ _) ?z ?_; (case F => k_asm); (case N => k_asm); (case U => k_updF); (case d => assumption); (case z => (rw [sizeLine_eq]; first | omega | (refine Nat.le_trans (List.length_filter_le _ _) ?_; omega)))); intro h' o' F' N' hd'; (try dsimp only at N'); (try k_sweep)))
local macro_rules | `(tactic| walk_at "call builtin:list.pop") => `(tactic| (k_here; (with_reducible show wpAny _ _ (call (Value.builtin _) [Value.ref _, Value.int 0 _]) _ _ _); k_dflt (refine' my_pop0 ?F ?N ?i ?U ?z ?_; (case F => k_asm); (case N => k_asm); (case U => k_updF); (case i => assumption); (case z => simp only [List.length_cons] at *; omega)); intro t' h' vs' n' F' N' hi'; (try dsimp only at N'); (try k_sweep)))
local macro_rules | `(tactic| walk_at "delItem ref int") => `(tactic| (k_here; k_dflt (refine' kob_del (knd := intKind _ _) ?F ?N ?U ?d (intKind_is _ _ _ _) ?l ?z ?_; (case F => k_asm); (case N => k_asm); (case U => k_updF); (case d => assumption); (case l => assumption); (case z => (rw [sizeLine_eq]; omega))); intro h' o' F' N' hd'; (try dsimp only at N'); (try k_sweep)))
local macro_rules | `(tactic| walk_at "call builtin:dict.clear") => `(tactic| (k_here; k_dflt (refine' my_dclear ?F ?N ?U ?d ?z ?_; (case F => k_asm); (case N => k_asm); (case U => k_updF); (case d => assumption); (case z => omega)); intro h' o' F' N' hd'; (try dsimp only at N'); (try k_sweep)))
local macro_rules | `(tactic| walk_at "getMethod ref") => `(tactic| (k_here; (with_reducible show wpAny _ _ (getMethod (Value.ref _) (PySem.Str.ofString "clear") _) _ _ _); k_dflt (first
  | (refine' kl_method ?N ?m PySem.F.slot_list_clear PySem.F.type_list_clear ?_; (case N => k_asm); (case m => k_mem))
  | (refine' my_dmeth PySem.F.slot_dict_clear PySem.F.type_dict_clear ?N ?m ?d ?_; (case N => k_asm); (case m => k_mem); (case d => assumption)))))
local macro_rules | `(tactic| walk_at "call type:reversed") => `(tactic| (k_here; (with_reducible show wpAny _ _ (call (Value.type _) [Value.ref _]) _ _ _); k_dflt (refine' my_rev ?F ?N ?m ?z ?_; (case F => k_asm); (case N => k_asm); (case m => k_mem); (case z => omega)); intro R' h' tk' F' N' l1'; (try dsimp only at N'); (try k_sweep)))
local macro_rules | `(tactic| walk_at "call builtin:iter") => `(tactic| (k_here; (with_reducible show wpAny _ _ (call (Value.builtin _) [Value.ref _]) _ _ _); k_dflt (refine' my_iterT ?F ?N ?m ?_; (case F => k_asm); (case N => k_asm); (case m => k_mem)); intro R' h' F' N' l1'; (try dsimp only at N'); (try k_sweep)))
local macro_rules | `(tactic| cell_enter) => `(tactic| (refine' code_defC ?k1 ?k2 ?k3 ?k4 ?k5 ?kA ?kF ?kK ?k6 ?k7 ?k8 ?k9 ?kB ?kD ?_ ?c2 ?c3 ?c4; (case kA => exact rfl); (case kF => assumption); (case kK => assumption); (case k1 => k_asm); (case k2 => k_asm); (case k3 => k_asm); (case k4 => k_asm); (case k5 => k_asm); (case k6 => k_is); (case k7 => k_is); (case k8 => ktr_room); (case k9 => exact BindsTo.of_eq rfl); (case kB => exact rfl); (case kD => decide +kernel); (case c2 => exact rfl); (case c3 => exact rfl); (case c4 => exact rfl); k_whole; intro g' L' h' tk' cells' FG' F' N' Y' B' X' T' l1; k_cells Y'; (try simp only [List.cons_append, List.nil_append] at N'); (try dsimp only); (try k_lift B'); (try k_fold)))
local macro_rules | `(tactic| walk_at "eval Name") => `(tactic| (k_here; (with_reducible show wpAny _ _ (eval (Expr.Name _ _) (compEnvC _ _ _ _)) _ _ _); k_dflt (refine' c_loc ?n ?v ?_ ?a ?b ?d; (case a => rfl); (case b => rfl); (case d => decide); (case n => assumption); (case v => assumption); k_whole)))
local macro_rules | `(tactic| walk_at "newTuple") => `(tactic| (k_here; refine my_newTuple (by simp only [List.length_cons, List.length_nil]; omega) ?_; intro T' h' eT' eh'))
local macro_rules | `(tactic| walk_at "call builtin:list.reverse") => `(tactic| (k_here; (with_reducible show wpAny _ _ (call (Value.builtin _) [Value.ref _]) _ _ _); k_dflt (refine' my_reverse ?F ?N ?U ?z ?_; (case F => k_asm); (case N => k_asm); (case U => exact UpdF.head (by assumption)); (case z => assumption)); intro h' n' F' N' sB'; (try dsimp only at N'); (try k_sweep)))
section
variable {w : World} {s₀ : Shared} {mg mb : Str → Option Value} {hdl : Option Value} {dp un : Nat} {gd : Option (List Code)} {env : Env} {outer : List Env} {A₀ : Around} {base h₀ : Heap} {L : Addr} {m : Str → Option Value} {s : Shared} {Q E : Value → Shared → Prop}
  {c cd mp q lk lkd : Addr} {t1 t2 t3 t4 t5 : Tok} {many : Int} {n : Nat} {om : Obj} {kvs : List (Int × Value)} {vs : List Value} {ks : List Int} {ep : Nat} {rest : List (Addr × Obj)}
  (B : Below A₀ base outer h₀) (F : Fr h₀ L s.heap m) (X : (hd.heap_39 w.params).In h₀)
  (N : News h₀ L s.heap ((c, instObj 169 cd) :: (cd, cDict w t1 t2 t3 t4 t5 many mp q lk n) :: (mp, om) :: (q, W.listOf vs.toArray ep) :: (lk, instObj 45 lkd) :: (lkd, dictOf [] 0) :: rest))
  (T : Top hd.view_39 (looseW hd.view_39 []) (ExcName.means s₀.heap) mg mb h₀)
  (hf : env.frame = some L) (hk : env.scope.kind = .function) (hroom : dp + 10 < recursionLimit) (hun : un + 80 < cLine)
  (hom : om.IsDictOf (intKind PySem.Challenge.rw_bb0044_01.row.prog w) kvs) (hkv : kvs.length ≤ 1000) (hvs : IntsAre vs ks) (hks : ks.length ≤ 1000) (hap : Apart c cd mp q lk lkd rest)
include B F X N T hf hk hroom hun hom hkv hvs hks hap
set_option maxRecDepth 100000 in
set_option maxHeartbeats 4000000 in
theorem items_pact (hh : hdl = none) (hvals : ∀ k ∈ ks, ∃ i t, valueAt kvs k = some (.int i t)) (ret : ∀ D h' tk ys n', Fr h₀ L h' m → News h₀ L h' ((D, W.listOf ys.toArray n') :: (c, instObj 169 cd) :: (cd, cDict w t1 t2 t3 t4 t5 many mp q lk n) :: (mp, om) :: (q, W.listOf vs.toArray ep) :: (lk, instObj 45 lkd) :: (lkd, dictOf [] 0) :: rest) →
      PairsAt h' ys (ks.map fun k => (k, valOf kvs k)).reverse → Q (.ref D) { s with heap := h', toks := tk }) :
    wpAny (model PySem.Challenge.rw_bb0044_01.row.prog w) (kTop hdl dp un gd env outer) (call (.ref 140) [.ref c]) Q E s := by
  subst hh
  have hvl := hvs.length
  refine wpAny_call ?_
  k_dflt cell_enter
  refine wpAny_execs_cons ?_
  refine my_comp_assign (by with_unfolding_all rfl) (by with_unfolding_all rfl) (by decide) (by with_unfolding_all rfl) (by decide) (by with_unfolding_all rfl) (by with_unfolding_all rfl) (by with_unfolding_all rfl) ?_ (by intro _; with_unfolding_all rfl)
  k_steps
  rename_i g L' h0 tk0 FG B' X' T' lL oc hoc D n' h' F' N' l1
  have hoc' : oc.data = .cell (some (.ref c)) := hoc
  refine wpAny_pyIter_list ⟨_, (N' _ (.head _)).1, rfl, n', rfl⟩ ?_
  have F1 := F'.push { cls := .type "list_iterator", data := .fields #[.ref D, .int 0 0] }
  have N1 := News.push F' N' { cls := .type "list_iterator", data := .fields #[.ref D, .int 0 0] }
  have lI : ∀ p ∈ ((D, W.listOf vs.toArray n') :: (L' + 1, oc) :: (c, instObj 169 cd) :: (cd, cDict w t1 t2 t3 t4 t5 many mp q lk n) :: (mp, om) :: (q, W.listOf vs.toArray ep) :: (lk, instObj 45 lkd) :: (lkd, dictOf [] 0) :: rest), p.1 < h'.objs.size := fun p hp => Heap.lt_size (N' p hp).1
  dsimp only
  generalize hI : h'.objs.size = I at *
  generalize h'.push { cls := .type "list_iterator", data := .fields #[.ref D, .int 0 0] } = H1 at F1 N1 ⊢
  have nDI : D ≠ I := Nat.ne_of_lt (lI (D, W.listOf vs.toArray n') (.head _))
  refine ⟨I, [I, D], [I], vs.toArray.size, _, _, fun _ => true, fun ws h v y => ∃ T k t i u, v = .int k t ∧ y = .ref T ∧ T ∉ ws ∧ h.get? T = some (tupO [.int k t, .int i u] 0) ∧ valueAt kvs k = some (.int i u), _, rfl,
    Walks.list rfl I D nDI vs.toArray, by rw [List.size_toArray]; omega, ?_, ⟨⟨_, (N1 _ (.head _)).1, rfl, rfl⟩, ⟨_, (N1 _ (.tail _ (.head _))).1, rfl, n', rfl⟩⟩, ?_, ?_, F1.ns, ?_, ?_, ?_⟩
  · rintro i h ⟨⟨o, ho, _⟩, _⟩ b hb
    rw [List.mem_singleton.mp hb]
    exact ⟨o, ho⟩
  · intro b hb
    rcases List.mem_cons.mp hb with rfl | hb
    · exact Heap.lt_size (N1 _ (.head _)).1
    · rw [List.mem_singleton.mp hb]; exact Heap.lt_size (N1 _ (.tail _ (.head _))).1
  · intro hm
    exact (N1 _ (.head _)).2.1 (List.mem_singleton.mp hm).symm
  · rintro ws h h2 v y hk ⟨T, k, t, i, u, rfl, rfl, hT, hg, hv⟩
    exact ⟨T, k, t, i, u, rfl, rfl, hT, hk T _ hT hg, hv⟩
  · refine ⟨?_, ?_, ?_⟩
    · rintro ws h h2 v y hk ⟨T, k, t, i, u, rfl, rfl, hT, hg, hv⟩
      exact ⟨T, k, t, i, u, rfl, rfl, hT, hk T _ (fun hm => hT (by simp [hm])) hg, hv⟩
    · intro C i v s₃ m₃ E' hP hn hx hk
      exact wpAny_tests_nil ⟨rfl, s₃.heap, s₃.toks, rfl, fun _ _ e => e⟩
    · intro C D2 i v s₃ m₃ E' hP _ hn hx hk live
      obtain ⟨k, t, rfl, hki⟩ := ints_val hvs (by simpa using hP)
      obtain ⟨iv, tv, hval⟩ := hvals k (List.mem_of_getElem? hki)
      have N3 : News g L' s₃.heap ((D, W.listOf vs.toArray n') :: (L' + 1, oc) :: (c, instObj 169 cd) :: (cd, cDict w t1 t2 t3 t4 t5 many mp q lk n) :: (mp, om) :: (q, W.listOf vs.toArray ep) :: (lk, instObj 45 lkd) :: (lkd, dictOf [] 0) :: rest) :=
        news_moved (fun p hp => N1 p (.tail _ hp)) hk fun p hp hm => absurd (List.mem_singleton.mp hm) (Nat.ne_of_lt (lI p hp))
      have F3 := fr_moved F1 hk (by simpa using (N1 _ (.head _)).2.1.symm) (by simpa using (N1 _ (.head _)).2.2)
      have hLl : ∃ o, s₃.heap.get? L' = some o := by obtain ⟨o, _, _, ho, _⟩ := F3.ns; exact ⟨o, ho⟩
      clear F1 N1 F' N' F N
      refine stop_out ?_
      k_steps
      rename_i eT eh
      subst eT
      refine ⟨⟨_, k, t, iv, tv, rfl, rfl, fresh_notin size_fresh ?_, by rw [eh]; exact Heap.get?_push_size _ rfl, hval⟩, keeps_push eh⟩
      intro b hb
      rcases List.mem_cons.mp hb with rfl | hb
      · exact hLl
      · exact live b hb
  · intro D2 C h3 tk3 ys vs2 hD2 hC hpl hlen hP hR hns hkeep
    obtain ⟨n3, hn3⟩ := hpl
    have evs : vs2 = vs := by
      have := PySem.list_of_places (items := vs.toArray) hlen hP
      simpa using this
    subst evs
    have hLI : L' ∉ [I] := by simpa using (N1 _ (.head _)).2.1.symm
    have hLlive : ∃ o, H1.get? L' = some o := by obtain ⟨o, _, _, ho, _⟩ := F1.ns; exact ⟨o, ho⟩
    have F3 : Fr g L' h3 _ := ⟨hns, fun b o e => hkeep b o (fun hm => by
      rcases List.mem_cons.mp hm with rfl | hm
      · exact absurd (Nat.lt_of_lt_of_le (Heap.lt_size e) F1.above) (Nat.lt_irrefl _)
      · rw [List.mem_singleton.mp hm, (N1 _ (.head _)).2.2] at e; cases e) (F1.keep b o e), F1.above⟩
    have ND2 : News g L' h3 [(D2, W.listOf ys n3)] := by
      intro p hp
      rw [List.mem_singleton.mp hp]
      refine ⟨hn3, fun e => ?_, ?_⟩
      · obtain ⟨o, ho⟩ := hLlive
        rw [show D2 = L' from e, ho] at hD2; cases hD2
      · cases e : g.get? D2 with
        | none => rfl
        | some o => rw [F1.keep _ _ e] at hD2; cases hD2
    have N3 : News g L' h3 ((D2, W.listOf ys.toList.toArray n3) :: (L' + 1, oc) :: (c, instObj 169 cd) :: (cd, cDict w t1 t2 t3 t4 t5 many mp q lk n) :: (mp, om) :: (q, W.listOf vs2.toArray ep) :: (lk, instObj 45 lkd) :: (lkd, dictOf [] 0) :: rest) := by
      intro p hp
      rcases List.mem_cons.mp hp with rfl | hp
      · exact ND2 _ (by simp)
      · have hp' : p ∈ ((D, W.listOf vs2.toArray n') :: (L' + 1, oc) :: (c, instObj 169 cd) :: (cd, cDict w t1 t2 t3 t4 t5 many mp q lk n) :: (mp, om) :: (q, W.listOf vs2.toArray ep) :: (lk, instObj 45 lkd) :: (lkd, dictOf [] 0) :: rest) := .tail _ hp
        have z := N1 p (.tail _ hp')
        refine ⟨hkeep _ _ (fun hm => ?_) z.1, z.2⟩
        rcases List.mem_cons.mp hm with e | hm
        · exact z.2.1 e
        · exact absurd (List.mem_singleton.mp hm) (Nat.ne_of_lt (lI p hp'))
    have neD : ∀ p ∈ ((L' + 1, oc) :: (c, instObj 169 cd) :: (cd, cDict w t1 t2 t3 t4 t5 many mp q lk n) :: (mp, om) :: (q, W.listOf vs2.toArray ep) :: (lk, instObj 45 lkd) :: (lkd, dictOf [] 0) :: rest), p.1 ≠ D2 := by
      intro p hp e
      have z := (N1 p (.tail _ (.tail _ hp))).1
      rw [e, hD2] at z; cases z
    have hyl : ys.toList.length ≤ 1000 := by
      have e1 := hR.length
      have e2 : (vs2.filter fun _ => true).length ≤ vs2.length := List.length_filter_le _ _
      omega
    have hfl : vs2.filter (fun _ => true) = vs2 := by simp
    rw [hfl] at hR
    have hPr : PairsAt h3 ys.toList (ks.map fun k => (k, valOf kvs k)) := pairs_of hR hvs fun v y ⟨T, k, t, i, u, e1, e2, _, hT, hv⟩ => ⟨T, k, t, i, u, e1, e2, hT, hv⟩
    have hnD : ∀ T, Value.ref T ∈ ys.toList → T ≠ D2 := by
      intro T hT e
      obtain ⟨v, T', k, t, i, u, e1, e2, hT', _⟩ := PySem.Paired.right hR _ hT
      cases e2
      exact hT' (by simp [e])
    clear F1 N1 F' N' F N hR hkeep
    k_steps
    (rename Heap.SameBut _ _ _ => sB)
    exact ret _ _ _ ys.toList.reverse _ (by k_asm) (news_drop2 (by k_asm)) (paired_reverse (hPr.mono fun T o hm e => (sB.2 T (hnD T hm)).trans e))
end
end
/-! part KY -/
section
theorem walk_start_KY : True := by
  w_top off
  trivial
local macro_rules | `(tactic| k_room) => `(tactic| (dsimp only [Around.deeper, Around.mark, Around.in1, Around.under, kTop]; omega))
local macro_rules | `(tactic| k_units) => `(tactic| (have hcL9 := cLine_is; dsimp only [Around.deeper, Around.mark, Around.in1, Around.under, kTop]; omega))
local macro_rules | `(tactic| ktr_room) => `(tactic| (dsimp only [Around.deeper, Around.mark, Around.in1, Around.under, kTop]; omega))
local macro_rules | `(tactic| k_all) => `(tactic| assumption)
local macro_rules | `(tactic| k_ne) => `(tactic| first | assumption | (apply Ne.symm; assumption) | (refine neN ?_; (try dsimp only); omega))
local macro_rules | `(tactic| cell_enter) => `(tactic| (refine' code_def ?k1 ?k2 ?k3 ?k4 ?k5 ?kA ?kF ?kK ?k6 ?k7 ?k8 ?k9 ?kB ?_ ?c2 ?c3 ?c4 ?c5; (case kA => exact rfl); (case kF => assumption); (case kK => assumption); (case k1 => k_asm); (case k2 => k_asm); (case k3 => k_asm); (case k4 => k_asm); (case k5 => k_asm); (case k6 => k_is); (case k7 => k_is); (case k8 => ktr_room); (case k9 => exact BindsTo.of_eq rfl); (case c5 => decide); (case kB => exact locs rfl); (case c2 => exact rfl); (case c3 => exact rfl); (case c4 => exact rfl); k_whole; intro g' L' h' FG' F' N' B' X' T'; (try dsimp only); (try k_lift B'); (try k_fold)))
local macro_rules | `(tactic| walk_at "getItem ref int") => `(tactic| (k_here; k_dflt (refine' my_item ?N ?m ?d ?l ?_; (case N => k_asm); (case m => k_mem); (case d => assumption); (case l => assumption))))
local macro_rules | `(tactic| walk_at "call builtin:list.append") => `(tactic| (k_here; (with_reducible show wpAny _ _ (call (Value.builtin _) [Value.ref _, Value.int _ _]) _ _ _); k_dflt (refine' my_append ?F ?N ?i ?U ?z ?_; (case F => k_asm); (case N => k_asm); (case U => k_updF); (case i => assumption); (case z => first | omega | (refine Nat.le_trans List.length_erase_le ?_; omega))); intro h' vs' n' F' N' hi'; (try dsimp only at N'); (try k_sweep)))
local macro_rules | `(tactic| walk_at "call builtin:list.remove") => `(tactic| (k_here; (with_reducible show wpAny _ _ (call (Value.builtin _) [Value.ref _, Value.int _ _]) _ _ _); k_dflt (refine' my_remove ?F ?N ?i ?U ?z ?e ?_; (case F => k_asm); (case N => k_asm); (case U => k_updF); (case i => assumption); (case z => omega); (case e => assumption)); intro h' vs' n' F' N' hi'; (try dsimp only at N'); (try k_sweep)))
local macro_rules | `(tactic| walk_at "call builtin:list.clear") => `(tactic| (k_here; (with_reducible show wpAny _ _ (call (Value.builtin _) [Value.ref _]) _ _ _); k_dflt (refine' my_clear ?F ?N ?i ?U ?z ?_; (case F => k_asm); (case N => k_asm); (case U => k_updF); (case i => assumption); (case z => omega)); intro h' n' F' N'; (try dsimp only at N'); (try k_sweep)))
local macro_rules | `(tactic| walk_at "subscriptTail") => `(tactic| (k_here; (with_reducible show wpAny _ _ (subscriptTail _ _ (Value.ref _) (Value.int (-1) _)) _ _ _); k_dflt (refine' my_last ?N ?m ?i ?l ?z ?_ ?a ?b; (case a => with_unfolding_all rfl); (case b => intro _; with_unfolding_all rfl); (case N => k_asm); (case m => k_mem); (case i => assumption); (case l => assumption); (case z => omega)); intro t'; (try dsimp only)))
local macro_rules | `(tactic| walk_at "compareOp In int ref") => `(tactic| (k_here; k_dflt (refine' kda_in (knd := intKind _ _) ?N ?m ?d ?lo (intKind_is _ _ _ _) _ ?e ?_; (case N => k_asm); (case m => k_mem); (case d => assumption); (case lo => assumption); (case e => assumption))))
local macro_rules | `(tactic| walk_at "call builtin:len") => `(tactic| (k_here; (with_reducible show wpAny _ _ (call (Value.builtin "len") [Value.ref _]) _ _ _); k_dflt (refine' kda_len (knd := intKind _ _) ?N ?m ?d ?lo ?z ?_; (case N => k_asm); (case m => k_mem); (case d => assumption); (case lo => assumption); (case z => omega))))
local macro_rules | `(tactic| walk_at "setItem ref int") => `(tactic| (k_here; k_dflt (refine' kda_set (knd := intKind _ _) ?F ?N ?U ?d (intKind_is _ _ _ _) ?z ?_; (case F => k_asm); (case N => k_asm); (case U => k_updF); (case d => assumption); (case z => (rw [sizeLine_eq]; first | omega | (refine Nat.le_trans (List.length_filter_le _ _) ?_; omega)))); intro h' o' F' N' hd'; (try dsimp only at N'); (try k_sweep)))
local macro_rules | `(tactic| walk_at "call builtin:list.pop") => `(tactic| (k_here; (with_reducible show wpAny _ _ (call (Value.builtin _) [Value.ref _, Value.int 0 _]) _ _ _); k_dflt (refine' my_pop0 ?F ?N ?i ?U ?z ?_; (case F => k_asm); (case N => k_asm); (case U => k_updF); (case i => assumption); (case z => simp only [List.length_cons] at *; omega)); intro t' h' vs' n' F' N' hi'; (try dsimp only at N'); (try k_sweep)))
local macro_rules | `(tactic| walk_at "delItem ref int") => `(tactic| (k_here; k_dflt (refine' kob_del (knd := intKind _ _) ?F ?N ?U ?d (intKind_is _ _ _ _) ?l ?z ?_; (case F => k_asm); (case N => k_asm); (case U => k_updF); (case d => assumption); (case l => assumption); (case z => (rw [sizeLine_eq]; omega))); intro h' o' F' N' hd'; (try dsimp only at N'); (try k_sweep)))
local macro_rules | `(tactic| walk_at "call builtin:dict.clear") => `(tactic| (k_here; k_dflt (refine' my_dclear ?F ?N ?U ?d ?z ?_; (case F => k_asm); (case N => k_asm); (case U => k_updF); (case d => assumption); (case z => omega)); intro h' o' F' N' hd'; (try dsimp only at N'); (try k_sweep)))
local macro_rules | `(tactic| walk_at "getMethod ref") => `(tactic| (k_here; (with_reducible show wpAny _ _ (getMethod (Value.ref _) (PySem.Str.ofString "clear") _) _ _ _); k_dflt (first
  | (refine' kl_method ?N ?m PySem.F.slot_list_clear PySem.F.type_list_clear ?_; (case N => k_asm); (case m => k_mem))
  | (refine' my_dmeth PySem.F.slot_dict_clear PySem.F.type_dict_clear ?N ?m ?d ?_; (case N => k_asm); (case m => k_mem); (case d => assumption)))))
local macro_rules | `(tactic| walk_at "call type:reversed") => `(tactic| (k_here; (with_reducible show wpAny _ _ (call (Value.type _) [Value.ref _]) _ _ _); k_dflt (refine' my_rev ?F ?N ?m ?z ?_; (case F => k_asm); (case N => k_asm); (case m => k_mem); (case z => omega)); intro R' h' tk' F' N' l1'; (try dsimp only at N'); (try k_sweep)))
local macro_rules | `(tactic| walk_at "call builtin:iter") => `(tactic| (k_here; (with_reducible show wpAny _ _ (call (Value.builtin _) [Value.ref _]) _ _ _); k_dflt (refine' my_iterT ?F ?N ?m ?_; (case F => k_asm); (case N => k_asm); (case m => k_mem)); intro R' h' F' N' l1'; (try dsimp only at N'); (try k_sweep)))
local macro_rules | `(tactic| walk_at "eval Name") => `(tactic| (k_here; (with_reducible show wpAny _ _ (eval (Expr.Name _ _) (compEnvC _ _ _ _)) _ _ _); k_dflt (refine' c_loc ?n ?v ?_ ?a ?b ?d; (case a => rfl); (case b => rfl); (case d => decide); (case n => assumption); (case v => assumption); k_whole)))
local macro_rules | `(tactic| walk_at "eval ListComp") => `(tactic| (k_here; refine my_comp (by with_unfolding_all rfl) (by decide) (by with_unfolding_all rfl) (by decide) (by with_unfolding_all rfl) ?_ (by intro _; with_unfolding_all rfl)))
local macro_rules | `(tactic| walk_at "call ref") => `(tactic| (k_here; (with_reducible show wpAny _ _ (call (Value.ref 140) _) _ _ _); k_dflt (refine' items_pact ?B ?F ?X ?N ?T ?f ?k ?r ?u ?d ?dz ?i ?iz ?ap ?hh ?hv ?_; (case B => k_asm); (case F => k_asm); (case X => k_asm); (case N => k_asm); (case T => k_asm); (case f => exact rfl); (case k => exact rfl); (case r => k_room); (case u => k_units); (case d => assumption); (case dz => assumption); (case i => assumption); (case iz => assumption); (case ap => assumption); (case hh => exact rfl); (case hv => assumption)); intro D' h' tk' ys' n' F' N' P'; (try dsimp only at N'); (try k_sweep)))
local macro_rules | `(tactic| walk_at "subscriptTail") => `(tactic| (k_here; (with_reducible show wpAny _ _ (subscriptTail _ _ (Value.ref _) (Value.int _ _)) _ _ _); k_dflt (refine' c_name_tup ?t ?lo ?hi ?j ?x ?_ ?a ?b; (case a => with_unfolding_all rfl); (case b => intro _; with_unfolding_all rfl); (case t => assumption); (case lo => decide); (case hi => decide); (case j => rfl); (case x => rfl))))
section
variable {w : World} {s₀ : Shared} {mg mb : Str → Option Value} {hdl : Option Value} {dp un : Nat} {gd : Option (List Code)} {env : Env} {outer : List Env} {A₀ : Around} {base h₀ : Heap} {L : Addr} {m : Str → Option Value} {s : Shared} {Q E : Value → Shared → Prop}
  {c cd mp q lk lkd : Addr} {t1 t2 t3 t4 t5 : Tok} {many : Int} {n : Nat} {om : Obj} {kvs : List (Int × Value)} {vs : List Value} {ks : List Int} {ep : Nat} {rest : List (Addr × Obj)}
  (B : Below A₀ base outer h₀) (F : Fr h₀ L s.heap m) (X : (hd.heap_39 w.params).In h₀)
  (N : News h₀ L s.heap ((c, instObj 169 cd) :: (cd, cDict w t1 t2 t3 t4 t5 many mp q lk n) :: (mp, om) :: (q, W.listOf vs.toArray ep) :: (lk, instObj 45 lkd) :: (lkd, dictOf [] 0) :: rest))
  (T : Top hd.view_39 (looseW hd.view_39 []) (ExcName.means s₀.heap) mg mb h₀)
  (hf : env.frame = some L) (hk : env.scope.kind = .function) (hroom : dp + 10 < recursionLimit) (hun : un + 80 < cLine)
  (hom : om.IsDictOf (intKind PySem.Challenge.rw_bb0044_01.row.prog w) kvs) (hkv : kvs.length ≤ 1000) (hvs : IntsAre vs ks) (hks : ks.length ≤ 1000) (hap : Apart c cd mp q lk lkd rest)
include B F X N T hf hk hroom hun hom hkv hvs hks hap
set_option maxRecDepth 100000 in
set_option maxHeartbeats 4000000 in
theorem keys_pact (hh : hdl = none) (hroom2 : dp + 20 < recursionLimit) (hun2 : un + 200 < cLine)
    (ret : ∀ S h' tk vs' n', Fr h₀ L h' m → News h₀ L h' ((S, W.listOf vs'.toArray n') :: (c, instObj 169 cd) :: (cd, cDict w t1 t2 t3 t4 t5 many mp q lk n) :: (mp, om) :: (q, W.listOf vs.toArray ep) :: (lk, instObj 45 lkd) :: (lkd, dictOf [] 0) :: rest) →
      IntsAre vs' ks.reverse → Q (.ref S) { s with heap := h', toks := tk }) :
    wpAny (model PySem.Challenge.rw_bb0044_01.row.prog w) (kTop hdl dp un gd env outer) (call (.ref 152) [.ref c]) Q E s := by
  subst hh
  refine wpAny_call ?_
  k_dflt cell_enter
  k_steps
  (rename Below _ _ _ _ => B'); (rename Fr _ _ _ _ => F'); (rename News _ _ _ _ => N'); (rename Top _ _ _ _ _ _ => T'); (rename Frag.In _ _ => X')
  refine list_cache (dp := dp + 1) (un := un + 3) B' F' X' N' T' rfl rfl (by omega) (by omega) hom hkv hvs hks hap rfl (by omega) fun S h2 tk2 vs' n' F2 N2 hi l2 => ?_
  k_steps
  exact ret _ _ _ _ _ (by k_asm) (by k_asm) hi
set_option maxRecDepth 100000 in
set_option maxHeartbeats 4000000 in
theorem values_pact (hh : hdl = none) (hroom2 : dp + 20 < recursionLimit) (hun2 : un + 200 < cLine) (hvals : ∀ k ∈ ks, ∃ i t, valueAt kvs k = some (.int i t))
    (ret : ∀ D h' tk vs' n', Fr h₀ L h' m → News h₀ L h' ((D, W.listOf vs'.toArray n') :: (c, instObj 169 cd) :: (cd, cDict w t1 t2 t3 t4 t5 many mp q lk n) :: (mp, om) :: (q, W.listOf vs.toArray ep) :: (lk, instObj 45 lkd) :: (lkd, dictOf [] 0) :: rest) →
      IntsAre vs' (ks.map fun k => valOf kvs k).reverse → Q (.ref D) { s with heap := h', toks := tk }) :
    wpAny (model PySem.Challenge.rw_bb0044_01.row.prog w) (kTop hdl dp un gd env outer) (call (.ref 145) [.ref c]) Q E s := by
  subst hh
  refine wpAny_call ?_
  k_dflt cell_enter
  k_steps
  (rename Fr _ _ _ _ => F'); (rename News _ _ _ _ => N'); (rename PairsAt _ _ _ => P')
  rename_i D h' tk' ys n'
  have hyl : ys.length ≤ 1000 := by
    have := P'.length
    simp at this
    omega
  refine wpAny_pyIter_list ⟨_, (N' _ (.head _)).1, rfl, n', rfl⟩ ?_
  have F1 := F'.push { cls := .type "list_iterator", data := .fields #[.ref D, .int 0 0] }
  have N1 := News.push F' N' { cls := .type "list_iterator", data := .fields #[.ref D, .int 0 0] }
  have lI : ∀ p ∈ ((D, W.listOf ys.toArray n') :: (c, instObj 169 cd) :: (cd, cDict w t1 t2 t3 t4 t5 many mp q lk n) :: (mp, om) :: (q, W.listOf vs.toArray ep) :: (lk, instObj 45 lkd) :: (lkd, dictOf [] 0) :: rest), p.1 < h'.objs.size := fun p hp => Heap.lt_size (N' p hp).1
  have P1 : PairsAt (h'.push { cls := .type "list_iterator", data := .fields #[.ref D, .int 0 0] }) ys (ks.map fun k => (k, valOf kvs k)).reverse := P'.keep fun b o e => Heap.get?_push_of_some _ e
  have fI : h'.get? h'.objs.size = none := size_fresh
  have lT : ∀ T, Value.ref T ∈ ys → T ≠ h'.objs.size := fun T hT e => by
    obtain ⟨i, hi⟩ := List.getElem?_of_mem hT
    obtain ⟨p, _, T', t, u, e1, e2⟩ := paired_get P' hi
    cases e1
    rw [e, fI] at e2; cases e2
  dsimp only
  generalize hI : h'.objs.size = I at *
  generalize h'.push { cls := .type "list_iterator", data := .fields #[.ref D, .int 0 0] } = H1 at F1 N1 P1 ⊢
  have nDI : D ≠ I := Nat.ne_of_lt (lI (D, W.listOf ys.toArray n') (.head _))
  refine ⟨I, [I, D], [I], ys.toArray.size, _, _, fun _ => true, fun _ _ v y => ∃ p t, PairAt H1 v p ∧ y = .int p.2 t, rfl,
    Walks.list rfl I D nDI ys.toArray, by rw [List.size_toArray]; omega, ?_, ⟨⟨_, (N1 _ (.head _)).1, rfl, rfl⟩, ⟨_, (N1 _ (.tail _ (.head _))).1, rfl, n', rfl⟩⟩, ?_, ?_, ?_⟩
  · rintro i h ⟨⟨o, ho, _⟩, _⟩ b hb
    rw [List.mem_singleton.mp hb]
    exact ⟨o, ho⟩
  · intro b hb
    rcases List.mem_cons.mp hb with rfl | hb
    · exact Heap.lt_size (N1 _ (.head _)).1
    · rw [List.mem_singleton.mp hb]; exact Heap.lt_size (N1 _ (.tail _ (.head _))).1
  · refine ⟨fun _ _ _ _ _ _ h => h, ?_, ?_⟩
    · intro C i v s₃ m₃ E' hP hn hx hk
      exact wpAny_tests_nil ⟨rfl, s₃.heap, s₃.toks, rfl, fun _ _ e => e⟩
    · intro C D2 i v s₃ m₃ E' hP _ hn hx hk live
      obtain ⟨p, hp, T, t, u, rfl, hT⟩ := paired_get P1 (by simpa using hP)
      have hT3 := hk T _ (fun hm => lT T (List.mem_of_getElem? (by simpa using hP)) (List.mem_singleton.mp hm)) hT
      have F3 := fr_moved F1 hk (by simpa using (N1 _ (.head _)).2.1.symm) (by simpa using (N1 _ (.head _)).2.2)
      refine stop_out ?_
      clear F1 N1 F' N' F N P' P1
      k_steps
      exact ⟨⟨p, u, ⟨T, t, u, rfl, hT⟩, rfl⟩, s₃.heap, _, rfl, fun _ _ e => e⟩
  · intro D2 C h3 tk3 ys3 vs3 hD2 hC hpl hlen hP hR hkeep
    obtain ⟨n3, hn3⟩ := hpl
    have evs : vs3 = ys := by
      have := PySem.list_of_places (items := ys.toArray) hlen hP
      simpa using this
    subst evs
    have F3 := fr_moved F1 hkeep (by simpa using (N1 _ (.head _)).2.1.symm) (by simpa using (N1 _ (.head _)).2.2)
    have N3 := news_list F1 (news := (c, instObj 169 cd) :: (cd, cDict w t1 t2 t3 t4 t5 many mp q lk n) :: (mp, om) :: (q, W.listOf vs.toArray ep) :: (lk, instObj 45 lkd) :: (lkd, dictOf [] 0) :: rest)
      (fun p hp => N1 p (.tail _ (.tail _ hp))) hkeep (fun p hp hm => absurd (List.mem_singleton.mp hm) (Nat.ne_of_lt (lI p (.tail _ hp)))) hD2 hn3
    have hfl : vs3.filter (fun _ => true) = vs3 := by simp
    rw [hfl] at hR
    have hi := proj_ints (fun p => p.2) hR P1 fun v y h => h
    have he : (ks.map fun k => (k, valOf kvs k)).reverse.map (fun p => p.2) = (ks.map fun k => valOf kvs k).reverse := by rw [List.map_reverse, List.map_map]; rfl
    rw [he] at hi
    clear F1 N1 F' N' F N P' P1
    k_steps
    exact ret _ _ _ _ _ (by k_asm) (by k_asm) hi
end
end
/-! part RL -/
section
theorem my_valueAt_app (kvs : List (Int × Value)) (k k' : Int) (v : Value) (h : k ∉ kvs.map (·.1)) : valueAt (kvs ++ [(k, v)]) k' = if k' = k then some v else valueAt kvs k' := by
  unfold valueAt
  rw [List.find?_append]
  by_cases e : k' = k
  · subst e
    have : (kvs.find? fun kv => decide (kv.1 = k')) = none := by
      rw [List.find?_eq_none]
      intro x hx q
      exact h (List.mem_map.mpr ⟨x, hx, by simpa using q⟩)
    rw [this]; simp
  · rw [if_neg e]
    have : ([(k, v)].find? fun kv => decide (kv.1 = k')) = none := by
      simp; exact fun q => e q.symm
    rw [this]; simp
theorem my_valueAt_map (kvs : List (Int × Value)) (k k' : Int) (v : Value) : valueAt (kvs.map fun kv => if kv.1 = k then (kv.1, v) else kv) k' = if k' = k ∧ k ∈ kvs.map (·.1) then some v else valueAt kvs k' := by
  induction kvs with
  | nil => simp [valueAt]
  | cons p r ih =>
    unfold valueAt at ih ⊢
    rw [List.map_cons, List.find?_cons, List.find?_cons]
    by_cases e1 : p.1 = k
    · by_cases e2 : p.1 = k'
      · simp [e1, e2, show k' = k from e2.symm.trans e1]
      · have : ¬ k' = k := fun q => e2 (e1.trans q.symm)
        simp [e1, this, show ¬ k = k' from fun q => this q.symm] at ih ⊢
        exact ih
    · by_cases e2 : p.1 = k'
      · have : ¬ k' = k := fun q => e1 (e2.trans q)
        simp [e2, this]
      · have e3 : (k ∈ List.map (fun x => x.1) (p :: r)) = (k ∈ List.map (fun x => x.1) r) := by
          rw [List.map_cons, List.mem_cons]
          exact propext ⟨fun q => q.elim (fun q => absurd q.symm e1) id, .inr⟩
        simp only [if_neg e1, decide_eq_false e2, e3]
        exact ih
theorem my_stored_keys (kvs : List (Int × Value)) (k : Int) (v : Value) : (stored kvs k v).map (·.1) = if k ∈ kvs.map (·.1) then kvs.map (·.1) else kvs.map (·.1) ++ [k] := by
  unfold stored
  by_cases h : k ∈ kvs.map (·.1)
  · have : (kvs.any fun kv => decide (kv.1 = k)) = true := by
      obtain ⟨x, hx, e⟩ := List.mem_map.mp h
      exact List.any_eq_true.mpr ⟨x, hx, by simpa using e⟩
    rw [if_pos this, if_pos h, PySem.keys_map_store]
  · have : ¬ (kvs.any fun kv => decide (kv.1 = k)) = true := by
      intro q
      obtain ⟨x, hx, e⟩ := List.any_eq_true.mp q
      exact h (List.mem_map.mpr ⟨x, hx, by simpa using e⟩)
    rw [if_neg this, if_neg h]; simp
theorem my_stored_val (kvs : List (Int × Value)) (k k' : Int) (v : Value) : valueAt (stored kvs k v) k' = if k' = k then some v else valueAt kvs k' := by
  unfold stored
  by_cases h : k ∈ kvs.map (·.1)
  · have : (kvs.any fun kv => decide (kv.1 = k)) = true := by
      obtain ⟨x, hx, e⟩ := List.mem_map.mp h
      exact List.any_eq_true.mpr ⟨x, hx, by simpa using e⟩
    rw [if_pos this, my_valueAt_map]; simp [h]
  · have : ¬ (kvs.any fun kv => decide (kv.1 = k)) = true := by
      intro q
      obtain ⟨x, hx, e⟩ := List.any_eq_true.mp q
      exact h (List.mem_map.mpr ⟨x, hx, by simpa using e⟩)
    rw [if_neg this, my_valueAt_app _ _ _ _ h]
theorem my_without_keys (kvs : List (Int × Value)) (k : Int) : (without kvs k).map (·.1) = (kvs.map (·.1)).filter (· != k) := by
  unfold without
  induction kvs with
  | nil => rfl
  | cons p r ih =>
    by_cases e : p.1 = k <;> simp [e] at ih ⊢ <;> exact ih
theorem my_without_val (kvs : List (Int × Value)) (k k' : Int) (h : k' ≠ k) : valueAt (without kvs k) k' = valueAt kvs k' := by
  unfold without valueAt
  induction kvs with
  | nil => rfl
  | cons p r ih =>
    by_cases e : p.1 = k
    · have : ¬ p.1 = k' := fun q => h (q.symm.trans e)
      simp [e, this, show ¬ k = k' from fun q => h q.symm] at ih ⊢; exact ih
    · by_cases e2 : p.1 = k'
      · have h' : ¬ k' = k := h
        simp [e2, h']
      · simp [e, e2] at ih ⊢; exact ih

def moved (r : List (Int × Int)) (k i : Int) : List (Int × Int) := r.filter (fun p => p.1 != k) ++ [(k, i)]
def theres (r : List (Int × Int)) (k : Int) : List (Int × Int) := r.filter (fun p => p.1 == k)
def cut (many : Int) (r : List (Int × Int)) (k : Int) : List (Int × Int) := if theres r k = [] ∧ (r.length : Int) = many then r.drop 1 else r
def laid (many : Int) (r : List (Int × Int)) (k i : Int) : List (Int × Int) := moved (cut many r k) k i

structure Rel (many : Int) (kvs : List (Int × Value)) (ks : List Int) (r : List (Int × Int)) : Prop where
  hks : ks = r.map (·.1)
  nd : (r.map (·.1)).Nodup
  kn : (kvs.map (·.1)).Nodup
  kp : ∀ k, k ∈ kvs.map (·.1) ↔ k ∈ r.map (·.1)
  val : ∀ k i, (k, i) ∈ r → ∃ t, valueAt kvs k = some (.int i t)
  pos : 0 < many
  le : (r.length : Int) ≤ many
  small : many ≤ 5

theorem theres_nil {r : List (Int × Int)} {k : Int} : theres r k = [] ↔ k ∉ r.map (·.1) := by
  unfold theres
  rw [List.filter_eq_nil_iff]
  constructor
  · intro h q
    obtain ⟨x, hx, e⟩ := List.mem_map.mp q
    exact h x hx (by simpa using e)
  · intro h x hx q
    exact h (List.mem_map.mpr ⟨x, hx, by simpa using q⟩)
theorem filter_keys (r : List (Int × Int)) (k : Int) : (r.filter (fun p => p.1 != k)).map (·.1) = (r.map (·.1)).filter (· != k) := by
  induction r with
  | nil => rfl
  | cons p r ih => by_cases e : p.1 = k <;> simp [e] at ih ⊢ <;> exact ih
theorem filter_none {r : List (Int × Int)} {k : Int} (h : k ∉ r.map (·.1)) : r.filter (fun p => p.1 != k) = r := by
  rw [List.filter_eq_self]
  intro p hp
  simp only [bne_iff_ne, ne_eq]
  exact fun e => h (List.mem_map.mpr ⟨p, hp, e⟩)
namespace Rel
variable {many : Int} {kvs : List (Int × Value)} {ks : List Int} {r : List (Int × Int)} {k i : Int}
theorem len (R : Rel many kvs ks r) : kvs.length = r.length := by
  have := ((List.perm_ext_iff_of_nodup R.kn R.nd).mpr R.kp).length_eq
  simpa using this
theorem none (R : Rel many kvs ks r) (h : k ∉ r.map (·.1)) : valueAt kvs k = .none := PyProof.Rows.valueAt_none_of_not_mem fun q => h ((R.kp k).mp q)
theorem ex (_ : Rel many kvs ks r) (h : k ∈ r.map (·.1)) : ∃ i, (k, i) ∈ r := by
  obtain ⟨⟨a, b⟩, hx, e⟩ := List.mem_map.mp h
  exact ⟨b, by cases e; exact hx⟩
theorem mem (_ : Rel many kvs ks r) (h : (k, i) ∈ r) : k ∈ r.map (·.1) := List.mem_map.mpr ⟨_, h, rfl⟩
theorem uniq (R : Rel many kvs ks r) {j : Int} (h : (k, i) ∈ r) (h' : (k, j) ∈ r) : i = j := by
  obtain ⟨t, e⟩ := R.val _ _ h
  obtain ⟨t', e'⟩ := R.val _ _ h'
  rw [e] at e'; injection e' with e'; injection e'
theorem isSome (R : Rel many kvs ks r) (h : k ∈ r.map (·.1)) : (valueAt kvs k).isSome = true := by
  obtain ⟨i, hi⟩ := R.ex h
  obtain ⟨t, e⟩ := R.val _ _ hi
  rw [e]; rfl
theorem erase (R : Rel many kvs ks r) (k : Int) : ks.erase k = (r.filter (fun p => p.1 != k)).map (·.1) := by
  rw [R.hks, R.nd.erase_eq_filter, filter_keys]
theorem nd_moved (R : Rel many kvs ks r) (k i : Int) : ((moved r k i).map (·.1)).Nodup := by
  unfold moved
  rw [List.map_append, filter_keys]
  refine List.nodup_append.mpr ⟨R.nd.filter _, by simp, ?_⟩
  intro a ha b hb e
  simp at hb ha
  exact ha.2 (e.trans hb)
theorem len_moved_in (R : Rel many kvs ks r) (h : k ∈ r.map (·.1)) (i : Int) : (moved r k i).length = r.length := by
  have h1 : ((r.map (·.1)).erase k).length = (r.map (·.1)).length - 1 := by rw [List.length_erase, if_pos h]
  rw [R.nd.erase_eq_filter, ← filter_keys] at h1
  have h2 : 0 < (r.map (·.1)).length := List.length_pos_of_mem h
  unfold moved
  simp at h1 h2 ⊢
  omega
theorem mem_moved {a b : Int} : (a, b) ∈ moved r k i ↔ ((a, b) ∈ r ∧ a ≠ k) ∨ (a = k ∧ b = i) := by
  unfold moved
  simp
theorem memk_moved {a : Int} : a ∈ (moved r k i).map (·.1) ↔ a ∈ r.map (·.1) ∨ a = k := by
  unfold moved
  rw [List.map_append, filter_keys]
  simp only [List.mem_append, List.mem_filter, List.map_cons, List.map_nil, List.mem_singleton, bne_iff_ne]
  constructor
  · rintro (⟨h, _⟩ | h)
    · exact .inl h
    · exact .inr h
  · rintro (h | h)
    · by_cases e : a = k
      · exact .inr e
      · exact .inl ⟨h, e⟩
    · exact .inr h
theorem move (R : Rel many kvs ks r) (h : (k, i) ∈ r) : Rel many kvs (ks.erase k ++ [k]) (moved r k i) where
  hks := by rw [R.erase]; unfold moved; simp
  nd := R.nd_moved k i
  kn := R.kn
  kp a := by
    rw [R.kp, memk_moved]
    exact ⟨.inl, fun q => q.elim id fun e => e ▸ R.mem h⟩
  val a b q := by
    rcases mem_moved.mp q with ⟨q, _⟩ | ⟨rfl, rfl⟩
    · exact R.val _ _ q
    · exact R.val _ _ h
  pos := R.pos
  le := by rw [R.len_moved_in (R.mem h)]; exact R.le
  small := R.small
theorem set_in (R : Rel many kvs ks r) (h : k ∈ r.map (·.1)) (i : Int) (t : Tok) : Rel many (stored kvs k (.int i t)) (ks.erase k ++ [k]) (moved r k i) where
  hks := by rw [R.erase]; unfold moved; simp
  nd := R.nd_moved k i
  kn := by rw [my_stored_keys, if_pos ((R.kp k).mpr h)]; exact R.kn
  kp a := by
    rw [my_stored_keys, if_pos ((R.kp k).mpr h), R.kp, memk_moved]
    exact ⟨.inl, fun q => q.elim id fun e => e ▸ h⟩
  val a b q := by
    rw [my_stored_val]
    rcases mem_moved.mp q with ⟨q, hn⟩ | ⟨rfl, rfl⟩
    · rw [if_neg hn]; exact R.val _ _ q
    · rw [if_pos rfl]; exact ⟨_, rfl⟩
  pos := R.pos
  le := by rw [R.len_moved_in h]; exact R.le
  small := R.small
theorem set_new (R : Rel many kvs ks r) (h : k ∉ r.map (·.1)) (hl : ¬ (r.length : Int) = many) (i : Int) (t : Tok) : Rel many (stored kvs k (.int i t)) (ks ++ [k]) (moved r k i) where
  hks := by rw [R.hks]; unfold moved; rw [filter_none h]; simp
  nd := R.nd_moved k i
  kn := by
    have hk : k ∉ kvs.map (·.1) := fun q => h ((R.kp k).mp q)
    rw [my_stored_keys, if_neg hk]
    refine List.nodup_append.mpr ⟨R.kn, by simp, ?_⟩
    intro a ha b hb e
    simp only [List.mem_singleton] at hb
    exact hk (hb ▸ e ▸ ha)
  kp a := by
    rw [my_stored_keys, if_neg (fun q => h ((R.kp k).mp q)), memk_moved, List.mem_append, R.kp, List.mem_singleton]
  val a b q := by
    rw [my_stored_val]
    rcases mem_moved.mp q with ⟨q, hn⟩ | ⟨rfl, rfl⟩
    · rw [if_neg hn]; exact R.val _ _ q
    · rw [if_pos rfl]; exact ⟨_, rfl⟩
  pos := R.pos
  le := by
    have := R.le
    unfold moved; rw [filter_none h]; simp; omega
  small := R.small
theorem del (R : Rel many kvs ks r) (k : Int) : Rel many (without kvs k) (ks.erase k) (r.filter (fun p => p.1 != k)) where
  hks := R.erase k
  nd := by rw [filter_keys]; exact R.nd.filter _
  kn := PySem.nodup_without R.kn k
  kp a := by
    rw [my_without_keys, filter_keys, List.mem_filter, List.mem_filter, R.kp]
  val a b q := by
    obtain ⟨q, hn⟩ := List.mem_filter.mp q
    rw [my_without_val _ _ _ (by simpa using hn)]
    exact R.val _ _ q
  pos := R.pos
  le := by
    have h1 := R.le
    have h2 := List.length_filter_le (fun p : Int × Int => p.1 != k) r
    omega
  small := R.small
theorem clear (R : Rel many kvs ks r) : Rel many [] [] [] where
  hks := rfl
  nd := by simp
  kn := by simp
  kp a := by simp
  val a b q := by simp at q
  pos := R.pos
  le := by have := R.pos; simp; omega
  small := R.small
theorem set_full (R : Rel many kvs ks r) (h : k ∉ r.map (·.1)) (hl : (r.length : Int) = many) (i : Int) (t : Tok) : ∃ k0 ks0, ks = k0 :: ks0 ∧ (valueAt kvs k0).isSome = true ∧ Rel many (stored (without kvs k0) k (.int i t)) (ks0 ++ [k]) (moved (r.drop 1) k i) := by
  have hp := R.pos
  match r, R, h, hl with
  | [], R, h, hl => simp at hl; omega
  | (k0, i0) :: r0, R, h, hl =>
    have hk0 : k0 ∉ r0.map (·.1) := (List.nodup_cons.mp R.nd).1
    refine ⟨k0, r0.map (·.1), by rw [R.hks]; rfl, R.isSome (by simp), ?_⟩
    have R1 := R.del k0
    have e1 : ((k0, i0) :: r0).filter (fun p => p.1 != k0) = r0 := by simp; exact fun a b q e => hk0 (List.mem_map.mpr ⟨(a, b), q, e⟩)
    have e2 : ks.erase k0 = r0.map (·.1) := by rw [R.hks]; simp
    rw [e1, e2] at R1
    exact R1.set_new (fun q => h (by simp at q ⊢; exact .inr q)) (by simp at hl; omega) i t
theorem cut_in (h : k ∈ r.map (·.1)) : cut many r k = r := by
  unfold cut; rw [if_neg]; rintro ⟨q, _⟩; exact theres_nil.mp q h
theorem cut_new (h : ¬ (r.length : Int) = many) : cut many r k = r := by
  unfold cut; rw [if_neg]; rintro ⟨_, q⟩; exact h q
theorem cut_full (h : k ∉ r.map (·.1)) (hl : (r.length : Int) = many) : cut many r k = r.drop 1 := by
  unfold cut; rw [if_pos ⟨theres_nil.mpr h, hl⟩]
end Rel
end
/-! part CL2 -/
section
section
variable {prog : Program} {w : World} {A : Around} {E : Value → Shared → Prop} {env : Env} {s : Shared} {g : Heap} {L D : Addr} {m : Str → Option Value} {news : List (Addr × Obj)} {ys : List Value} {n' : Nat} {scope : Scope} {cl : List (Str × Addr)} {x : Str} {ifs : List Expr} {elt : Expr}
theorem comp_list (hh : A.handled = none) (p : Value → Bool) (R : Value → Value → Prop) {Q : Value → Shared → Prop} (F : Fr g L s.heap m) (N : News g L s.heap news) (hmem : (D, W.listOf ys.toArray n') ∈ news) (hz : ys.length ≤ 1000)
    (htests : ∀ (C : Addr) (i : Nat) (v : Value) (s₃ : Shared) (m₃ : Str → Option Value) E', ys[i]? = some v → s₃.heap.Ns C m₃ → m₃ x = some v → Fr g L s₃.heap m → News g L s₃.heap news →
      wpAny (model prog w) A (forIn ifs true fun c r => if r = true then do let ok ← isTrue c (compEnvC scope cl C env) (eval c (compEnvC scope cl C env)); pure (ForInStep.yield ok) else pure (ForInStep.yield r))
        (fun ok s₄ => ok = p v ∧ Keeps s₃ s₄) E' s₃)
    (helt : ∀ (C : Addr) (i : Nat) (v : Value) (s₃ : Shared) (m₃ : Str → Option Value) E', ys[i]? = some v → p v = true → s₃.heap.Ns C m₃ → m₃ x = some v → Fr g L s₃.heap m → News g L s₃.heap news →
      wpAny (model prog w) A (eval elt (compEnvC scope cl C env)) (fun y s₄ => R v y ∧ Keeps s₃ s₄) E' s₃)
    (hQ : ∀ D2 h' tk zs n2, Fr g L h' m → News g L h' ((D2, W.listOf zs.toArray n2) :: news) → Paired R (ys.filter p) zs → s.heap.get? D2 = none → Q (.ref D2) { s with heap := h', toks := tk }) :
    wpAny (model prog w) A (pyIter (.ref D)) (fun it s₂ => ∃ I fp wr n P St p, ∃ Rel : List Addr → Heap → Value → Value → Prop, it = .ref I ∧ Walks prog w A I fp wr n P St ∧ n ≤ 1000 ∧ (∀ i h, St i h → ∀ b ∈ wr, ∃ o, h.get? b = some o) ∧ St 0 s₂.heap ∧ (∀ b ∈ fp, b < s₂.heap.objs.size) ∧
      CompOk prog w A env scope cl x ifs elt wr P p Rel s₂ ∧
      (∀ D C h' tk ys (vs : List Value), s₂.heap.get? D = none → s₂.heap.get? C = none → h'.PlainList D ys → vs.length = n → (∀ j v, vs[j]? = some v → P j v) → Paired (Rel (C :: D :: wr) h') (vs.filter p) ys.toList →
        KeepBut wr s₂.heap h' → Q (.ref D) { s₂ with heap := h', toks := tk })) E s := by
  refine wpAny_pyIter_list ⟨_, (N _ hmem).1, rfl, n', rfl⟩ ?_
  have F1 := F.push { cls := .type "list_iterator", data := .fields #[.ref D, .int 0 0] }
  have N1 := News.push F N { cls := .type "list_iterator", data := .fields #[.ref D, .int 0 0] }
  have lI : ∀ p ∈ news, p.1 < s.heap.objs.size := fun p hp => Heap.lt_size (N p hp).1
  have up : ∀ b o, s.heap.get? b = some o → (s.heap.push { cls := .type "list_iterator", data := .fields #[.ref D, .int 0 0] }).get? b = some o := fun b o e => Heap.get?_push_of_some _ e
  dsimp only
  generalize hI : s.heap.objs.size = I at *
  generalize s.heap.push { cls := .type "list_iterator", data := .fields #[.ref D, .int 0 0] } = H1 at F1 N1 up ⊢
  have nDI : D ≠ I := Nat.ne_of_lt (lI _ hmem)
  refine ⟨I, [I, D], [I], ys.toArray.size, _, _, p, fun _ _ v y => R v y, rfl,
    Walks.list hh I D nDI ys.toArray, by rw [List.size_toArray]; omega, ?_, ⟨⟨_, (N1 _ (.head _)).1, rfl, rfl⟩, ⟨_, (N1 _ (.tail _ hmem)).1, rfl, n', rfl⟩⟩, ?_, ?_, ?_⟩
  · rintro i h ⟨⟨o, ho, _⟩, _⟩ b hb
    rw [List.mem_singleton.mp hb]
    exact ⟨o, ho⟩
  · intro b hb
    rcases List.mem_cons.mp hb with rfl | hb
    · exact Heap.lt_size (N1 _ (.head _)).1
    · rw [List.mem_singleton.mp hb]; exact Heap.lt_size (N1 _ (.tail _ hmem)).1
  · have mv : ∀ h3, KeepBut [I] H1 h3 → Fr g L h3 m ∧ News g L h3 news := fun h3 hk =>
      ⟨fr_moved F1 hk (by simpa using (N1 _ (.head _)).2.1.symm) (by simpa using (N1 _ (.head _)).2.2), news_moved (fun p hp => N1 p (.tail _ hp)) hk fun p hp hm => absurd (List.mem_singleton.mp hm) (Nat.ne_of_lt (lI p hp))⟩
    refine ⟨fun _ _ _ _ _ _ h => h, ?_, ?_⟩
    · intro C i v s₃ m₃ E' hP hn hx hk
      exact htests C i v s₃ m₃ E' (by simpa using hP) hn hx (mv _ hk).1 (mv _ hk).2
    · intro C D2 i v s₃ m₃ E' hP hp hn hx hk live
      exact helt C i v s₃ m₃ E' (by simpa using hP) hp hn hx (mv _ hk).1 (mv _ hk).2
  · intro D2 C h3 tk3 ys3 vs3 hD2 hC hpl hlen hP hR hkeep
    obtain ⟨n3, hn3⟩ := hpl
    have evs : vs3 = ys := by
      have := PySem.list_of_places (items := ys.toArray) hlen hP
      simpa using this
    subst evs
    have F3 := fr_moved F1 hkeep (by simpa using (N1 _ (.head _)).2.1.symm) (by simpa using (N1 _ (.head _)).2.2)
    have N3 := news_list F1 (news := news) (fun p hp => N1 p (.tail _ hp)) hkeep (fun p hp hm => absurd (List.mem_singleton.mp hm) (Nat.ne_of_lt (lI p hp))) hD2 hn3
    refine hQ D2 h3 tk3 ys3.toList n3 F3 N3 hR ?_
    cases e : s.heap.get? D2 with
    | none => rfl
    | some o => have := up _ _ e; rw [hD2] at this; cases this
end
section
variable {prog : Program} {w : World} {A : Around} {E : Value → Shared → Prop} {env : Env}
theorem my_comp_rows {s : Shared} {elt iter : Expr} {x : Str} {px : Pos} {ifs : List Expr} {scope : Scope} {cl : List (Str × Addr)} {pos : Pos} {Q : Value → Shared → Prop} (hh : A.handled = none)
    (hclos : closureFor scope env = pure cl) (hcell : ∀ y ∈ scope.names, y.2 ≠ .cell) (hkind : scope.kind = .function)
    (hnames : ∀ y ∈ scope.names, y.2 = .local → scope.names.lookup y.1 = some .local) (hx : scope.names.lookup x = some .local)
    (hs : ∀ x, foldedSetIterable iter env x = pure x)
    (h : wpAny (model prog w) A (eval iter env) (fun xv s => ∃ (g : Heap) (L : Addr) (m : Str → Option Value) (news : List (Addr × Obj)) (D : Addr) (ys : List Value) (n' : Nat), xv = .ref D ∧ Fr g L s.heap m ∧ News g L s.heap news ∧ (D, W.listOf ys.toArray n') ∈ news ∧ ys.length ≤ 1000 ∧ ∃ (p : Value → Bool) (R : Value → Value → Prop),
      (∀ (C : Addr) (i : Nat) (v : Value) (s₃ : Shared) (m₃ : Str → Option Value) E', ys[i]? = some v → s₃.heap.Ns C m₃ → m₃ x = some v → Fr g L s₃.heap m → News g L s₃.heap news →
        wpAny (model prog w) A (forIn ifs true fun c r => if r = true then do let ok ← isTrue c (compEnvC scope cl C env) (eval c (compEnvC scope cl C env)); pure (ForInStep.yield ok) else pure (ForInStep.yield r))
          (fun ok s₄ => ok = p v ∧ Keeps s₃ s₄) E' s₃) ∧
      (∀ (C : Addr) (i : Nat) (v : Value) (s₃ : Shared) (m₃ : Str → Option Value) E', ys[i]? = some v → p v = true → s₃.heap.Ns C m₃ → m₃ x = some v → Fr g L s₃.heap m → News g L s₃.heap news →
        wpAny (model prog w) A (eval elt (compEnvC scope cl C env)) (fun y s₄ => R v y ∧ Keeps s₃ s₄) E' s₃) ∧
      (∀ (D2 : Addr) (h' : Heap) (tk : Nat) (zs : List Value) (n2 : Nat), Fr g L h' m → News g L h' ((D2, W.listOf zs.toArray n2) :: news) → Paired R (ys.filter p) zs → s.heap.get? D2 = none → Q (.ref D2) { s with heap := h', toks := tk })) E s) :
    wpAny (model prog w) A (eval (.ListComp elt [⟨.Name x px, iter, ifs, 0⟩] scope pos) env) Q E s := by
  refine my_comp hclos hcell hkind hnames hx (wpAny_mono h (fun xv s₁ h₁ => ?_) fun _ _ z => z) hs
  obtain ⟨g, L, m, news, D, ys, n', rfl, F, N, hm, hz, p, R, h1, h2, h3⟩ := h₁
  exact comp_list hh p R F N hm hz h1 h2 h3
end
abbrev PairIn (news : List (Addr × Obj)) (y : Value) (p : Int × Int) : Prop := ∃ T t u, y = .ref T ∧ (T, tupO [.int p.1 t, .int p.2 u] 0) ∈ news
abbrev RowIn (news : List (Addr × Obj)) (ys : List Value) (r : List (Int × Int)) : Prop := Paired (PairIn news) ys r
theorem RowIn.mono {news news' : List (Addr × Obj)} {ys : List Value} {r : List (Int × Int)} (x : RowIn news ys r) (h : ∀ p ∈ news, p ∈ news') : RowIn news' ys r :=
  Paired.mono (fun _ _ ⟨T, t, u, e, m⟩ => ⟨T, t, u, e, h _ m⟩) x
theorem pairIn_uniq {h₀ h : Heap} {L : Addr} {news : List (Addr × Obj)} (N : News h₀ L h news) {y : Value} {p p' : Int × Int} (x : PairIn news y p) (z : PairIn news y p') : p = p' := by
  obtain ⟨T, t, u, rfl, hT⟩ := x
  obtain ⟨T', t', u', e, hT'⟩ := z
  exact pairAt_uniq ⟨T, t, u, rfl, (N _ hT).1⟩ ⟨T', t', u', e, (N _ hT').1⟩
noncomputable def pf (news : List (Addr × Obj)) (f : Int × Int → Bool) (v : Value) : Bool := @decide (∃ q, PairIn news v q ∧ f q = true) (Classical.propDecidable _)
theorem pf_of {h₀ h : Heap} {L : Addr} {news : List (Addr × Obj)} (N : News h₀ L h news) {f : Int × Int → Bool} {v : Value} {q : Int × Int} (x : PairIn news v q) : pf news f v = f q := by
  unfold pf
  cases e : f q with
  | true => exact @decide_eq_true _ (Classical.propDecidable _) ⟨q, x, e⟩
  | false =>
    refine @decide_eq_false _ (Classical.propDecidable _) ?_
    rintro ⟨q', x', e'⟩
    rw [pairIn_uniq N x x', e'] at e; cases e
theorem rowIn_filter {h₀ h : Heap} {L : Addr} {news : List (Addr × Obj)} (N : News h₀ L h news) (f : Int × Int → Bool) {ys : List Value} {r : List (Int × Int)} (x : RowIn news ys r) : RowIn news (ys.filter (pf news f)) (r.filter f) := by
  induction x with
  | nil => exact .nil
  | @cons a b l1 l2 hab rest ih =>
    rw [List.filter_cons, List.filter_cons, pf_of N hab]
    cases f b with
    | true => simp only [if_true]; exact .cons hab ih
    | false => simp only [Bool.false_eq_true, if_false]; exact ih
theorem paired_id {a b : List Value} (x : Paired (fun v y => y = v) a b) : b = a := by
  induction x with
  | nil => rfl
  | cons h r ih => rw [h, ih]
theorem paired_proj {news : List (Addr × Obj)} {h₀ h : Heap} {L : Addr} (N : News h₀ L h news) {ys zs : List Value} {r : List (Int × Int)} (f : Int × Int → Int) (x : RowIn news ys r) (z : Paired (fun v y => ∃ p t, PairIn news v p ∧ y = .int (f p) t) ys zs) : IntsAre zs (r.map f) := by
  induction z generalizing r with
  | nil => cases x; exact .nil
  | cons a z ih =>
    cases x with
    | cons b x =>
      obtain ⟨p, t, h1, rfl⟩ := a
      rw [pairIn_uniq N h1 b]
      exact .cons _ _ (ih x)
theorem rowIn_get {news : List (Addr × Obj)} {ys : List Value} {r : List (Int × Int)} (x : RowIn news ys r) {i : Nat} {v : Value} (e : ys[i]? = some v) : ∃ p, PairIn news v p := by
  obtain ⟨b, _, h⟩ := paired_get x e
  exact ⟨b, h⟩
theorem stopG {P : Prop} (h : Stop P) : P := h
end
/-! part EX -/
section
theorem walk_start_EX : True := by
  w_top off
  trivial
section
variable {prog : Program} {w : World} {A : Around} {E : Value → Shared → Prop} {s : Shared} {env : Env} {K : Frag} {x C L fe fx : Addr} {h₀ : Heap} {m : Str → Option Value} {ox : Obj} {od : Option Obj} {pos : Pos}
def KwRaised (prog : Program) (w : World) (A : Around) (E : Value → Shared → Prop) (env : Env) (x fx : Addr) (e : Value) (s : Shared) : Prop :=
  wpAny (model prog w) A (noteFrame e env) (fun _ s₁ => wpAny (model prog w) A (setFlight e none) (fun _ s₂ => wpAny (model prog w) A (typeOf e) (fun ty s₃ => wpAny (model prog w) A (tracebackOf e) (fun tb s₄ =>
    codeAny (model prog w) (A.mark (some e)) (.call (.ref fx) ⟨[.ref x, ty, e, tb], []⟩) (fun r s₅ => match r with
      | .ok (.ret (.bool false)) => wpAny (model prog w) A (passOn (α := Flow) "with" e env) (fun _ _ => False) E s₅
      | .error e' => E e' s₅
      | _ => False) s₄) E s₃) E s₂) E s₁) E s
theorem kwr_core0 {bdy : Sem Flow} {Q : Flow → Shared → Prop} (X : K.In s.heap) (I : InstAt s.heap x ox C od) (he : findIn K (.ref C) "__enter__" = some (some (.ref fe))) (hfe : isFn K (.ref fe) = true) (hx : findIn K (.ref C) "__exit__" = some (some (.ref fx))) (hfx : isFn K (.ref fx) = true)
    (h : wpAny (model prog w) A (call (.ref fe) [.ref x]) (fun v s₂ => wpAny (model prog w) A bdy (fun f s₄ => wpAny (model prog w) A (call (.ref fx) [.ref x, .none, .none, .none]) (fun _ s₅ => Q f s₅) E s₄) (fun e s₄ => ∃ a, e = .ref a ∧ KwRaised prog w A E env x fx (.ref a) s₄) s₂) E s) :
    wpAny (model prog w) A (withItem false pos env (pure (.ref x)) none bdy) Q E s := by
  obtain ⟨cd, hcd, ae⟩ := kw_along he
  obtain ⟨cd', hcd', ax⟩ := kw_along hx
  cases hcd.symm.trans hcd'
  obtain ⟨hh, g, d, tt, os⟩ := s
  have L1 : Looks (model prog w) hh (specialOnItsLine (.ref x) "__enter__") (some (.ref fe), cd.mro) := kw_special X I hcd ae
  have L2 : Looks (model prog w) hh (specialOnItsLine (.ref x) "__exit__") (some (.ref fx), cd.mro) := kw_special X I hcd ax
  have L3 : Looks (model prog w) hh (bindSpecial (.ref fe) (.ref x)) (.ref fe, [.ref x]) := bind_fn X _ (beq_iff_eq.mp hfe)
  have L4 : Looks (model prog w) hh (bindSpecial (.ref fx) (.ref x)) (.ref fx, [.ref x]) := bind_fn X _ (beq_iff_eq.mp hfx)
  have L5 : Looks (model prog w) hh (aMethodOfAnotherBuiltinTypeStops (.ref fe) cd.mro) () := Looks.of_pure rfl
  have L6 : Looks (model prog w) hh (aMethodOfAnotherBuiltinTypeStops (.ref fx) cd.mro) () := Looks.of_pure rfl
  unfold withItem
  refine wpAny_bind (wpAny_pure ?_)
  refine wpAny_bind (wpAny_standAt ?_)
  simp only [Bool.false_eq_true, if_false]
  kw_lk
  refine wpAny_mono h (fun v s₂ h₂ => ?_) fun _ _ z => z
  kw_lk
  refine wpAny_attempt (kw_held ?_)
  show wpAny _ _ bdy _ _ _
  refine wpAny_mono h₂ (fun f s₄ h₄ => ?_) fun e s₄ z => ?_
  · kw_lk
    refine wpAny_mono h₄ (fun _ s₅ h₅ => ?_) fun _ _ z => z
    kw_lk
    exact h₅
  · obtain ⟨a, rfl, z⟩ := z
    unfold KwRaised at z
    refine wpAny_bind (wpAny_mono z (fun _ s₁ z => ?_) fun _ _ z => z)
    refine wpAny_bind (wpAny_mono z (fun _ s₁ z => ?_) fun _ _ z => z)
    refine wpAny_bind (wpAny_standAt ?_)
    refine wpAny_holding ?_
    refine wpAny_bind (wpAny_mono z (fun _ s₁ z => ?_) fun _ _ z => z)
    refine wpAny_bind (wpAny_mono z (fun _ s₁ z => ?_) fun _ _ z => z)
    unfold withItem.marked
    refine wpAny_bind (wpAny_bind (wpAny_run (codeAny_mono z fun r s₅ z => ?_) (by intro q; cases q)))
    match r, z with
    | .ok (.ret (.bool false)), z =>
      refine wpAny_pure ?_
      refine wpAny_bind (wpAny_pure ?_)
      dsimp only
      refine wpAny_bind (wpAny_pure ?_)
      rw [if_neg (by decide)]
      exact wpAny_mono z (fun _ _ z => z.elim) fun _ _ z => z
    | .error e', z => exact z
theorem kwr_in0 {py : Pos} {body : List Stmt} {Q : Flow → Shared → Prop} (F : Fr h₀ L s.heap m) (X₀ : K.In h₀) (I : InstAt s.heap x ox C od) (he : findIn K (.ref C) "__enter__" = some (some (.ref fe))) (hfe : isFn K (.ref fe) = true)
    (hx : findIn K (.ref C) "__exit__" = some (some (.ref fx))) (hfx : isFn K (.ref fx) = true)
    (h : wpAny (model prog w) A (call (.ref fe) [.ref x]) (fun _ s₂ => wpAny (model prog w) A (execs body env) (KwOut prog w A E x fx Q) (fun e s₄ => ∃ a, e = .ref a ∧ KwRaised prog w A E env x fx (.ref a) s₄) s₂) E s) :
    KwIn prog w A E env pos none py body Q (.ref x) s :=
  kwr_core0 (X₀.keeps F.keep) I he hfe hx hfx h
theorem my_item_miss {D : Addr} {news : List (Addr × Obj)} {k : Int} {t : Tok} {kvs : List (Int × Value)} {o : Obj} {Q : Value → Shared → Prop} (N : News h₀ L s.heap news) (hp : (D, o) ∈ news) (hd : o.IsDictOf (intKind prog w) kvs) (hl : valueAt kvs k = none) (lo : (D == sysModules) = false) (hh : A.handled = none)
    (h : ∀ h' e, Heap.NewExc s.heap h' e "KeyError" → E (.ref e) { s with heap := h', toks := s.toks + 1 }) : wpAny (model prog w) A (getItem (.ref D) (.int k t)) Q E s :=
  wpAny_getItem_missing_of (knd := intKind prog w) (intKind_is prog w k t) lo hh (kda_dict N hp hd).mapOf hl h
theorem my_del_miss {D : Addr} {news : List (Addr × Obj)} {k : Int} {t : Tok} {kvs : List (Int × Value)} {o : Obj} {Q : Unit → Shared → Prop} (N : News h₀ L s.heap news) (hp : (D, o) ∈ news) (hd : o.IsDictOf (intKind prog w) kvs) (hl : valueAt kvs k = none) (lo : (D == sysModules) = false) (hh : A.handled = none)
    (h : ∀ h' e, Heap.NewExc s.heap h' e "KeyError" → E (.ref e) { s with heap := h', toks := s.toks + 1 }) : wpAny (model prog w) A (delItem (.ref D) (.int k t)) Q E s := by
  have hD : s.heap.DictOf (intKind prog w) D kvs := kda_dict N hp hd
  unfold delItem
  try with_reducible refine wpAny_holding ?_
  refine wpAny_bind (wpAny_sequenceKey hD.typeIs (by decide) ?_)
  exact wpAny_bind (wpAny_callSpecial?_slot (name := Str.ofString "__delitem__") hD.typeIs PySem.F.slot_dict_delitem
    (call_meetsIn PySem.F.slot_dict_delitem hD.typeIs PySem.F.entry_dict_delitem (PySem.F.args_dict_delitem_2 _ _) (meets_dict_delitem_missing (intKind prog w) D (intKind_is prog w k t) lo) ⟨hh, kvs, hD, hl, h⟩))

theorem call_keep {p : Program} {R : Result → Shared → Prop} {name qual : Str} {params : Arguments} {body : List Stmt} {scope : Scope} {dV kV doc pm cdv ct oc : Value} {an od : Option Addr} {osl : Array (Option Value)} {f : Addr} {args : Args} {binds : List (Str × Value)}
    (X : K.In s.heap) (NL : s.heap.NoLimit)
    (ho : K.lookup f = some ⟨oc, od, .func (fnOf name qual params body scope dV kV doc pm an cdv ct), osl⟩) (hcd : codeIn K cdv qual = true) (hroom : A.depth < recursionLimit)
    (hbind : BindsTo s (fnOf name qual params body scope dV kV doc pm an cdv ct) args binds) (hloc : ∀ y ∈ binds, scope.names.lookup y.1 = some .local)
    (h : ∀ L' h₁, (∀ b o, s.heap.get? b = some o → h₁.get? b = some o) →
      wpAny (model prog w) (A.deeper (envOf qual scope L' f cdv)) (execs body (envOf qual scope L' f cdv))
        (fun fl s' => R (.ok (.ret (match fl with | .ret v => v | _ => .none))) s')
        (fun e s' => wpAny (model prog w) (A.deeper (envOf qual scope L' f cdv)) (leaving (envOf qual scope L' f cdv) e) (fun _ s'' => R (.error e) s'') (fun e' s'' => R (.error e') s'') s')
        { s with heap := h₁, toks := s.toks + binds.length })
    (hco : scope.isCoroutine = false) (hgen : scope.isGenerator = false) (hk : scope.kind = .function)
    (hcell : ∀ x ∈ scope.names, x.2 ≠ .cell) : codeAny (model prog w) A (.call (.ref f) args) R s := by
  refine codeAny_call_def (fd := fnOf name qual params body scope dV kV doc pm an cdv ct) (body := body) (binds := binds) hroom (X _ _ ho) rfl NL (codeRec_of X hcd) rfl hbind hcell hloc (fun h₁ hns hk₁ => ?_) hco hgen hk
  exact h s.heap.objs.size h₁ hk₁
end
local macro_rules | `(tactic| k_room) => `(tactic| (dsimp only [Around.deeper, Around.mark, Around.in1, Around.under, kTop]; omega))
local macro_rules | `(tactic| k_units) => `(tactic| (have hcL9 := cLine_is; dsimp only [Around.deeper, Around.mark, Around.in1, Around.under, kTop]; omega))
local macro_rules | `(tactic| ktr_room) => `(tactic| (dsimp only [Around.deeper, Around.mark, Around.in1, Around.under, kTop]; omega))
local macro_rules | `(tactic| k_all) => `(tactic| assumption)
local macro_rules | `(tactic| k_ne) => `(tactic| first | assumption | (apply Ne.symm; assumption) | (refine neN ?_; (try dsimp only); omega))
local macro_rules | `(tactic| cell_enter) => `(tactic| (refine' code_def ?k1 ?k2 ?k3 ?k4 ?k5 ?kA ?kF ?kK ?k6 ?k7 ?k8 ?k9 ?kB ?_ ?c2 ?c3 ?c4 ?c5; (case kA => exact rfl); (case kF => assumption); (case kK => assumption); (case k1 => k_asm); (case k2 => k_asm); (case k3 => k_asm); (case k4 => k_asm); (case k5 => k_asm); (case k6 => k_is); (case k7 => k_is); (case k8 => ktr_room); (case k9 => exact BindsTo.of_eq rfl); (case c5 => decide); (case kB => exact locs rfl); (case c2 => exact rfl); (case c3 => exact rfl); (case c4 => exact rfl); k_whole; intro g' L' h' FG' F' N' B' X' T'; (try dsimp only); (try k_lift B'); (try k_fold)))
section
variable {w : World} {A : Around} {s : Shared}
theorem exit_keep {x : Addr} {ty e tb : Value} {R : Result → Shared → Prop} (X : (hd.heap_39 w.params).In s.heap) (NL : s.heap.NoLimit) (hroom : A.depth < recursionLimit)
    (ret : ∀ h' tk, (∀ b o, s.heap.get? b = some o → h'.get? b = some o) → R (.ok (.ret (.bool false))) { s with heap := h', toks := tk }) :
    codeAny (model PySem.Challenge.rw_bb0044_01.row.prog w) A (.call (.ref 42) ⟨[.ref x, ty, e, tb], []⟩) R s := by
  refine' call_keep (K := hd.heap_39 w.params) (p := hd.view_39) ?k1 ?k2 ?k6 ?k7 ?k8 ?k9 ?kB ?_ ?c2 ?c3 ?c4 ?c5
  (case k1 => assumption); (case k2 => assumption); (case k6 => k_is); (case k7 => k_is); (case k8 => assumption); (case k9 => exact BindsTo.of_eq rfl); (case c5 => decide); (case kB => exact locs rfl); (case c2 => exact rfl); (case c3 => exact rfl); (case c4 => exact rfl)
  intro L' h₁ hk
  k_steps
  exact ret _ _ hk
end
def HeldSN (base G : Heap) (l : List Env) (e : Addr) (cls : Value) (L : Addr) (news : List (Addr × Obj)) (h : Heap) : Prop :=
  ∃ B a0, base.StaysIn B ∧ (∀ b o, G.get? b = some o → b ∉ l.filterMap (·.frame) → B.get? b = some o) ∧ (∀ q ∈ news, B.get? q.1 = some q.2 ∧ G.get? q.1 = none ∧ base.get? q.1 = none) ∧ Heap.HeldW B l e cls a0 L h
theorem flyingW_keeps {base h h' : Heap} {l : List Env} {e : Addr} {cls a0 : Value} (x : Heap.FlyingW base l e cls a0 h) (k : ∀ b o, h.get? b = some o → h'.get? b = some o) : Heap.FlyingW base l e cls a0 h' := by
  obtain ⟨f1, f2, f3, oe, vs, T, oT, ts, a1, a2, a3, a4, a5, a6, a7, a8⟩ := x
  exact ⟨fun b o q => k b o (f1 b o q), f2, f3.of_keeps fun b o q _ => ⟨o, k b o q, rfl⟩, oe, vs, T, oT, ts, k _ _ a1, a2, a3, a4, a5, a6, k _ _ a7, a8⟩
section
variable {w : World} {A₀ A : Around} {E : Value → Shared → Prop} {s : Shared} {base g h : Heap} {outer : List Env} {L a e x : Addr} {m : Str → Option Value} {name : Str} {scope : Scope} {cd : Value} {news : List (Addr × Obj)} {mg mb : Str → Option Value} {s₀ : Shared}
theorem tb_of {B : Heap} {l : List Env} {cls a0 : Value} {Q : Value → Shared → Prop} (fl : Heap.FlyingW B l e cls a0 s.heap) (q : ∀ v, Q v s) : wpAny (model PySem.Challenge.rw_bb0044_01.row.prog w) A (tracebackOf (.ref e)) Q E s := by
  obtain ⟨f1, f2, f3, oe, vs, T, oT, ts, a1, a2, a3, a4, a5, a6, a7, a8, a9⟩ := fl
  have sz : 3 < ts.size := (Array.getElem?_eq_some_iff.mp a9).1
  have h1 : ts[1]? = some (ts[1]'(by omega)) := by simp
  unfold tracebackOf
  refine wpAny_bind (wpAny_field a1 a3 a4 ?_)
  dsimp only
  refine wpAny_bind (wpAny_field a7 a8 h1 ?_)
  split
  · exact wpAny_pure (q _)
  · exact wpAny_pure (q _)
theorem passOn_held {B : Heap} {l : List Env} {cls a0 : Value} {env : Env} {Q : Flow → Shared → Prop} (hf : env.frame = some L) (fl : Heap.FlyingW B l e cls a0 s.heap)
    (hE : ∀ h', Heap.HeldW B l e cls a0 L h' → s.heap.UpToSlots h' → E (.ref e) { s with heap := h' }) : wpAny (model PySem.Challenge.rw_bb0044_01.row.prog w) A (PySem.passOn (α := Flow) "with" (.ref e) env) Q E s := by
  obtain ⟨f1, f2, f3, oe, vs, T, oT, ts, a1, a2, a3, a4, a5, a6, a7, a8, a9⟩ := fl
  have sz : 3 < ts.size := (Array.getElem?_eq_some_iff.mp a9).1
  unfold PySem.passOn
  refine wpAny_bind (wpAny_field a1 a3 a4 ?_)
  rw [if_neg (by simp)]
  (try refine wpAny_bind (wpAny_pure ?_))
  unfold setFlight
  refine wpAny_bind (wpAny_bind (wpAny_field a1 a3 a4 ?_))
  rw [if_pos (show (Value.ref T != Value.none) = true from by simp)]
  have noRecord : ∀ b o, s.heap.get? b = some o → (∀ vs, o.data ≠ .fields vs) → b ≠ T := fun b o hb hnf q => by
    rw [q, a7] at hb; injection hb with hb; subst hb; exact hnf ts a8
  have other : ∀ b, b ≠ T → (s.heap.update T (Obj.mapFields (·.setIfInBounds 3 (rawInt L)))).get? b = s.heap.get? b := fun b hb => Heap.get?_update_other _ _ (Ne.symm hb)
  rw [hf]
  refine wpAny_setField a7 a8 sz ?_
  refine wpAny_throw (hE _ ⟨fun b o hbo => (other b fun q => by rw [q, a5] at hbo; cases hbo).trans (f1 b o hbo), f2, f3.of_keeps fun b o hb hnf => ⟨o, (other b (noRecord b o hb hnf)).trans hb, rfl⟩,
    oe, vs, T, _, _, (other e (Ne.symm a6)).trans a1, a2, a3, a4, a5, a6, Heap.get?_update_self _ a7 (Obj.isFreed_of_fields (Obj.data_mapFields a8 _)), Obj.data_mapFields a8 _, by simp [sz]⟩ fun b o hb hn => ⟨o.slots, (other b (noRecord b o hb hn)).trans hb⟩)

theorem kwr_raise (K : Below A₀ base outer g) (hfr : A.frames = some (envOf name scope L a cd :: outer)) (hk : scope.kind = .function) (F : Fr g L h m) (N : News g L h news) (hx : Heap.NewExc h s.heap e "KeyError") (XB : (hd.heap_39 w.params).In base) (TB : Top hd.view_39 (looseW hd.view_39 []) (ExcName.means s₀.heap) mg mb base) (hroom : A.depth < recursionLimit)
    (hE : ∀ h' tk, HeldSN base g (envOf name scope L a cd :: outer) e (.type "KeyError") L news h' → g.UpToSlots h' → E (.ref e) { s with heap := h', toks := tk }) :
    KwRaised PySem.Challenge.rw_bb0044_01.row.prog w A E (envOf name scope L a cd) x 42 (.ref e) s := by
  have K' := K.push (name := name) (a := a) (cd := cd) F hk
  have hin : ∀ env ∈ (envOf name scope L a cd :: outer), ∀ b, env.frame = some b → b ∈ (envOf name scope L a cd :: outer).filterMap (·.frame) := fun env he b hb => List.mem_filterMap.mpr ⟨env, he, hb⟩
  have st : base.StaysIn (hideAll h ((envOf name scope L a cd :: outer).filterMap (·.frame))) := fun b o q => hideAll_get _ (K'.stays b o q) fun hm => by
    rw [(K'.frames.mem hm).1] at q; cases q
  have sg : ∀ b o, g.get? b = some o → b ∉ (envOf name scope L a cd :: outer).filterMap (·.frame) → (hideAll h ((envOf name scope L a cd :: outer).filterMap (·.frame))).get? b = some o := fun b o q nm => hideAll_get _ (F.keep b o q) nm
  have hl : ∀ q ∈ news, (hideAll h ((envOf name scope L a cd :: outer).filterMap (·.frame))).get? q.1 = some q.2 ∧ g.get? q.1 = none ∧ base.get? q.1 = none := fun q hq => by
    refine ⟨hideAll_get _ (N q hq).1 fun hm => ?_, (N q hq).2.2, fresh_of_stays K.stays (N q hq).2.2⟩
    obtain ⟨env, he, hf⟩ := List.mem_filterMap.mp hm
    rcases List.mem_cons.mp he with rfl | he
    · exact (N q hq).2.1 (Option.some.inj hf).symm
    · obtain ⟨o, ho, _⟩ := (K.frames.mem (List.mem_filterMap.mpr ⟨env, he, hf⟩)).2
      rw [(N q hq).2.2] at ho; cases ho
  obtain ⟨ob, tp, he, hcls, hdt⟩ := hx.there
  generalize hB : hideAll h ((envOf name scope L a cd :: outer).filterMap (·.frame)) = B at st sg hl
  have hBh : ∀ b o, B.get? b = some o → h.get? b = some o := fun b o q => by rw [← hB] at q; exact of_hideAll _ q
  have hFF : h.FunFrames B (envOf name scope L a cd :: outer) := by rw [← hB]; exact funFrames_hide K'.frames hin
  have hen : B.get? e = none := by
    cases q : B.get? e with
    | none => rfl
    | some o => have := hBh _ _ q; rw [hx.new] at this; cases this
  have up0 : g.UpToSlots s.heap := (Heap.UpToSlots.of_keeps F.keep).trans (Heap.UpToSlots.of_keeps hx.keeps)
  unfold KwRaised
  have n1 : wpAny (model PySem.Challenge.rw_bb0044_01.row.prog w) A (noteFrame (.ref e) (envOf name scope L a cd)) (fun _ s' => ∃ h', s' = { s with heap := h' } ∧ Heap.HeldW B (envOf name scope L a cd :: outer) e (.type "KeyError") tp L h' ∧ s.heap.UpToSlots h') E s := by
    unfold noteFrame
    simp only [envOf]
    refine wpAny_bind (wpAny_field he hdt rfl ?_)
    rw [if_neg (by simp)]
    refine wpAny_entryW (env := envOf name scope L a cd) hfr (hFF.of_keeps fun b o hb _ => ⟨o, hx.keeps b o hb, rfl⟩) rfl he (fun b o hb => hx.keeps b o (hBh b o hb)) hen hdt (by simp) rfl fun h' hN => ?_
    obtain ⟨k1, k2, k3, k4⟩ := hN
    exact ⟨h', rfl, ⟨k1, hen, k2, by rw [← hcls]; exact k3⟩, k4⟩
  refine wpAny_mono n1 (fun _ s₁ ⟨h₁, e₁, H₁, U₁⟩ => ?_) fun _ _ z => z
  subst e₁
  refine wpAny_landsW H₁ fun h₂ H₂ U₂ => ?_
  obtain ⟨oe, hoe, hoec⟩ := H₂.there
  refine wpAny_typeOf_ref hoe ?_
  refine tb_of H₂ fun tb => ?_
  have bs : base.StaysIn h₂ := fun b o q => H₂.1 b o (st b o q)
  refine exit_keep (XB.keeps bs) (TB.keeps bs).nolimit hroom fun h₃ tk k₃ => ?_
  refine passOn_held rfl (flyingW_keeps H₂ k₃) fun h₄ H₄ U₄ => ?_
  exact hE h₄ tk ⟨B, tp, st, sg, hl, H₄⟩ (((up0.trans U₁).trans U₂).trans ((Heap.UpToSlots.of_keeps k₃).trans U₄))

theorem leave_heldSN {cls : Value} {Q : Unit → Shared → Prop} {m : Str → Option Value} (K : Below A₀ base outer g) (F : Fr g L h m) (R : HeldSN base g (envOf name scope L a cd :: outer) e cls L news s.heap)
    (hQ : ∀ h', RaisedSN base g outer e cls news h' → s.heap.UpToSlots h' → Q () { s with heap := h' }) :
    wpAny (model PySem.Challenge.rw_bb0044_01.row.prog w) A (leaving (envOf name scope L a cd) (.ref e)) Q E s := by
  obtain ⟨B, a0, hB, hBG, hl, hh⟩ := R
  unfold leaving
  refine wpAny_bind (wpAny_noteFrame_againW rfl hh.2.2.2 ?_)
  refine wpAny_landsW hh fun h' hfl U => ?_
  obtain ⟨k1, k2, ⟨_, _, k3⟩, k4⟩ := hfl
  refine hQ h' ⟨B, a0, hB, fun b o q nm => hBG b o q fun hm => ?_, hl, k1, k2, k3, k4⟩ U
  rcases kts_mem hm with z | z
  · rw [z, kts_self F] at q
    cases q
  · exact nm z
end
end
/-! part GM -/
section
theorem walk_start_GM : True := by
  w_top off
  trivial
local macro_rules | `(tactic| k_room) => `(tactic| (dsimp only [Around.deeper, Around.mark, Around.in1, Around.under, kTop]; omega))
local macro_rules | `(tactic| k_units) => `(tactic| (have hcL9 := cLine_is; dsimp only [Around.deeper, Around.mark, Around.in1, Around.under, kTop]; omega))
local macro_rules | `(tactic| ktr_room) => `(tactic| (dsimp only [Around.deeper, Around.mark, Around.in1, Around.under, kTop]; omega))
local macro_rules | `(tactic| k_all) => `(tactic| assumption)
local macro_rules | `(tactic| k_ne) => `(tactic| first | assumption | (apply Ne.symm; assumption) | (refine neN ?_; (try dsimp only); omega))
local macro_rules | `(tactic| cell_enter) => `(tactic| (refine' code_def ?k1 ?k2 ?k3 ?k4 ?k5 ?kA ?kF ?kK ?k6 ?k7 ?k8 ?k9 ?kB ?_ ?c2 ?c3 ?c4 ?c5; (case kA => exact rfl); (case kF => assumption); (case kK => assumption); (case k1 => k_asm); (case k2 => k_asm); (case k3 => k_asm); (case k4 => k_asm); (case k5 => k_asm); (case k6 => k_is); (case k7 => k_is); (case k8 => ktr_room); (case k9 => exact BindsTo.of_eq rfl); (case c5 => decide); (case kB => exact locs rfl); (case c2 => exact rfl); (case c3 => exact rfl); (case c4 => exact rfl); k_whole; intro g' L' h' FG' F' N' B' X' T'; (try dsimp only); (try k_lift B'); (try k_fold)))
local macro_rules | `(tactic| walk_at "getItem ref int") => `(tactic| (k_here; k_dflt (refine' my_item ?N ?m ?d ?l ?_; (case N => k_asm); (case m => k_mem); (case d => assumption); (case l => assumption))))
local macro_rules | `(tactic| walk_at "call builtin:list.append") => `(tactic| (k_here; (with_reducible show wpAny _ _ (call (Value.builtin _) [Value.ref _, Value.int _ _]) _ _ _); k_dflt (refine' my_append ?F ?N ?i ?U ?z ?_; (case F => k_asm); (case N => k_asm); (case U => k_updF); (case i => assumption); (case z => first | omega | (refine Nat.le_trans List.length_erase_le ?_; omega))); intro h' vs' n' F' N' hi'; (try dsimp only at N'); (try k_sweep)))
local macro_rules | `(tactic| walk_at "call builtin:list.remove") => `(tactic| (k_here; (with_reducible show wpAny _ _ (call (Value.builtin _) [Value.ref _, Value.int _ _]) _ _ _); k_dflt (refine' my_remove ?F ?N ?i ?U ?z ?e ?_; (case F => k_asm); (case N => k_asm); (case U => k_updF); (case i => assumption); (case z => omega); (case e => assumption)); intro h' vs' n' F' N' hi'; (try dsimp only at N'); (try k_sweep)))
local macro_rules | `(tactic| walk_at "call builtin:list.clear") => `(tactic| (k_here; (with_reducible show wpAny _ _ (call (Value.builtin _) [Value.ref _]) _ _ _); k_dflt (refine' my_clear ?F ?N ?i ?U ?z ?_; (case F => k_asm); (case N => k_asm); (case U => k_updF); (case i => assumption); (case z => omega)); intro h' n' F' N'; (try dsimp only at N'); (try k_sweep)))
local macro_rules | `(tactic| walk_at "subscriptTail") => `(tactic| (k_here; (with_reducible show wpAny _ _ (subscriptTail _ _ (Value.ref _) (Value.int (-1) _)) _ _ _); k_dflt (refine' my_last ?N ?m ?i ?l ?z ?_ ?a ?b; (case a => with_unfolding_all rfl); (case b => intro _; with_unfolding_all rfl); (case N => k_asm); (case m => k_mem); (case i => assumption); (case l => assumption); (case z => omega)); intro t'; (try dsimp only)))
local macro_rules | `(tactic| walk_at "compareOp In int ref") => `(tactic| (k_here; k_dflt (refine' kda_in (knd := intKind _ _) ?N ?m ?d ?lo (intKind_is _ _ _ _) _ ?e ?_; (case N => k_asm); (case m => k_mem); (case d => assumption); (case lo => assumption); (case e => assumption))))
local macro_rules | `(tactic| walk_at "call builtin:len") => `(tactic| (k_here; (with_reducible show wpAny _ _ (call (Value.builtin "len") [Value.ref _]) _ _ _); k_dflt (refine' kda_len (knd := intKind _ _) ?N ?m ?d ?lo ?z ?_; (case N => k_asm); (case m => k_mem); (case d => assumption); (case lo => assumption); (case z => omega))))
local macro_rules | `(tactic| walk_at "setItem ref int") => `(tactic| (k_here; k_dflt (refine' kda_set (knd := intKind _ _) ?F ?N ?U ?d (intKind_is _ _ _ _) ?z ?_; (case F => k_asm); (case N => k_asm); (case U => k_updF); (case d => assumption); (case z => (rw [sizeLine_eq]; first | omega | (refine Nat.le_trans (List.length_filter_le _ _) ?_; omega)))); intro h' o' F' N' hd'; (try dsimp only at N'); (try k_sweep)))
local macro_rules | `(tactic| walk_at "call builtin:list.pop") => `(tactic| (k_here; (with_reducible show wpAny _ _ (call (Value.builtin _) [Value.ref _, Value.int 0 _]) _ _ _); k_dflt (refine' my_pop0 ?F ?N ?i ?U ?z ?_; (case F => k_asm); (case N => k_asm); (case U => k_updF); (case i => assumption); (case z => simp only [List.length_cons] at *; omega)); intro t' h' vs' n' F' N' hi'; (try dsimp only at N'); (try k_sweep)))
local macro_rules | `(tactic| walk_at "delItem ref int") => `(tactic| (k_here; k_dflt (refine' kob_del (knd := intKind _ _) ?F ?N ?U ?d (intKind_is _ _ _ _) ?l ?z ?_; (case F => k_asm); (case N => k_asm); (case U => k_updF); (case d => assumption); (case l => assumption); (case z => (rw [sizeLine_eq]; omega))); intro h' o' F' N' hd'; (try dsimp only at N'); (try k_sweep)))
local macro_rules | `(tactic| walk_at "call builtin:dict.clear") => `(tactic| (k_here; k_dflt (refine' my_dclear ?F ?N ?U ?d ?z ?_; (case F => k_asm); (case N => k_asm); (case U => k_updF); (case d => assumption); (case z => omega)); intro h' o' F' N' hd'; (try dsimp only at N'); (try k_sweep)))
local macro_rules | `(tactic| walk_at "getMethod ref") => `(tactic| (k_here; (with_reducible show wpAny _ _ (getMethod (Value.ref _) (PySem.Str.ofString "clear") _) _ _ _); k_dflt (first
  | (refine' kl_method ?N ?m PySem.F.slot_list_clear PySem.F.type_list_clear ?_; (case N => k_asm); (case m => k_mem))
  | (refine' my_dmeth PySem.F.slot_dict_clear PySem.F.type_dict_clear ?N ?m ?d ?_; (case N => k_asm); (case m => k_mem); (case d => assumption)))))
local macro_rules | `(tactic| walk_at "call type:reversed") => `(tactic| (k_here; (with_reducible show wpAny _ _ (call (Value.type _) [Value.ref _]) _ _ _); k_dflt (refine' my_rev ?F ?N ?m ?z ?_; (case F => k_asm); (case N => k_asm); (case m => k_mem); (case z => omega)); intro R' h' tk' F' N' l1'; (try dsimp only at N'); (try k_sweep)))
local macro_rules | `(tactic| walk_at "call builtin:iter") => `(tactic| (k_here; (with_reducible show wpAny _ _ (call (Value.builtin _) [Value.ref _]) _ _ _); k_dflt (refine' my_iterT ?F ?N ?m ?_; (case F => k_asm); (case N => k_asm); (case m => k_mem)); intro R' h' F' N' l1'; (try dsimp only at N'); (try k_sweep)))
local macro_rules | `(tactic| cell_enter) => `(tactic| (refine' code_defS ?k1 ?k2 ?k3 ?k4 ?k5 ?XB ?TB ?D ?T0 ?kA ?k6 ?k7 ?k8 ?k9 ?kB ?_ ?cK ?c2 ?c3 ?c4 ?c5; (case kA => exact rfl); (case k2 => k_asm); (case k1 => k_asm); (case XB => assumption); (case TB => assumption); (case D => assumption); (case T0 => exact KtsTurn.refl); (case k3 => k_asm); (case k4 => k_asm); (case k5 => k_asm); (case k6 => k_is); (case k7 => k_is); (case k8 => k_room); (case k9 => exact BindsTo.of_eq rfl); (case kB => exact locs rfl); (case cK => assumption); (case c2 => exact rfl); (case c3 => exact rfl); (case c4 => exact rfl); (case c5 => decide); k_whole; intro g' L' h' FG' F' N' B' X' T' D'; (try dsimp only); (try k_lift B'); (try k_fold)))
local macro_rules | `(tactic| walk_at "KwIn") => `(tactic| (k_here; k_dflt ((with_reducible show KwIn _ _ _ _ _ _ none _ _ _ _ _); refine' kwr_in0 ?F ?X ?I ?hE ?hEf ?hX ?hXf ?_; (case F => k_asm); (case X => k_asm); (case I => k_inst); (case hE => k_is); (case hEf => k_is); (case hX => k_is); (case hXf => k_is); k_whole)))
local macro_rules | `(tactic| walk_at "getItem ref int") => `(tactic| (k_here; k_dflt (refine' my_item_miss ?N ?m ?d ?l ?lo ?h0 ?_; (case N => k_asm); (case m => k_mem); (case d => assumption); (case l => assumption); (case lo => assumption); (case h0 => exact rfl)); intro h' e' hx'))
local macro_rules | `(tactic| walk_at "delItem") => `(tactic| (k_here; k_dflt (refine' my_del_miss ?N ?m ?d ?l ?lo ?h0 ?_; (case N => k_asm); (case m => k_mem); (case d => assumption); (case l => assumption); (case lo => assumption); (case h0 => exact rfl)); intro h' e' hx'))
section
variable {w : World} {s₀ : Shared} {mg mb : Str → Option Value} {hdl : Option Value} {dp un : Nat} {gd : Option (List Code)} {cn : Str} {cs : Scope} {a : Addr} {ccd : Value} {outer : List Env} {A₀ : Around} {base h₀ : Heap} {L : Addr} {m : Str → Option Value} {s : Shared} {Q E : Value → Shared → Prop}
  {c cd mp q lk lkd : Addr} {t1 t2 t3 t4 t5 : Tok} {many : Int} {n : Nat} {om : Obj} {kvs : List (Int × Value)} {vs : List Value} {ks : List Int} {ep : Nat} {rest : List (Addr × Obj)}
  (B : Below A₀ base outer h₀) (F : Fr h₀ L s.heap m) (X : (hd.heap_39 w.params).In h₀)
  (N : News h₀ L s.heap ((c, instObj 169 cd) :: (cd, cDict w t1 t2 t3 t4 t5 many mp q lk n) :: (mp, om) :: (q, W.listOf vs.toArray ep) :: (lk, instObj 45 lkd) :: (lkd, dictOf [] 0) :: rest))
  (T : Top hd.view_39 (looseW hd.view_39 []) (ExcName.means s₀.heap) mg mb h₀)
  (XB : (hd.heap_39 w.params).In base) (TB : Top hd.view_39 (looseW hd.view_39 []) (ExcName.means s₀.heap) mg mb base) (D : KtsDicts (outer.filterMap (·.frame)) h₀) (hck : cs.kind = .function) (hroom : dp + 10 < recursionLimit) (hun : un + 80 < cLine)
  (hom : om.IsDictOf (intKind PySem.Challenge.rw_bb0044_01.row.prog w) kvs) (hkv : kvs.length ≤ 1000) (hvs : IntsAre vs ks) (hks : ks.length ≤ 1000) (hap : Apart c cd mp q lk lkd rest)
include B F X N T XB TB D hck hroom hun hom hkv hvs hks hap
set_option maxRecDepth 100000 in
set_option maxHeartbeats 4000000 in
theorem getitem_miss {k : Int} {tk0 : Tok} (hh : hdl = none) (hv : valueAt kvs k = none)
    (hE : ∀ G e h' tk, Fr h₀ L G m → RaisedSN base G (envOf cn cs L a ccd :: outer) e (.type "KeyError") ((c, instObj 169 cd) :: (cd, cDict w t1 t2 t3 t4 t5 many mp q lk n) :: (mp, om) :: (q, W.listOf vs.toArray ep) :: (lk, instObj 45 lkd) :: (lkd, dictOf [] 0) :: rest) h' →
      G.UpToSlots h' → E (.ref e) { s with heap := h', toks := tk }) :
    wpAny (model PySem.Challenge.rw_bb0044_01.row.prog w) (kTop hdl dp un gd (envOf cn cs L a ccd) outer) (call (.ref 121) [.ref c, .int k tk0]) Q E s := by
  subst hh
  obtain ⟨a1, a2, a3, a4, a5, a6, a7, a8, a9, b1, b2, lo⟩ := hap
  refine wpAny_call ?_
  k_dflt cell_enter
  k_steps
  (rename Fr _ _ _ _ => F'); (rename Heap.NewExc _ _ _ _ => hx)
  refine' kwr_raise ?K ?fr ?hk F' ?N hx XB TB ?r ?_
  (case K => assumption); (case fr => exact rfl); (case hk => exact rfl); (case N => k_asm); (case r => k_room)
  intro h' tk H U
  refine' leave_heldSN ?K F' H ?_
  (case K => assumption)
  intro h'' R U2
  refine hE _ _ _ _ ?_ R (U.trans U2)
  assumption
set_option maxRecDepth 100000 in
set_option maxHeartbeats 4000000 in
theorem delitem_miss {k : Int} {tk0 : Tok} (hh : hdl = none) (hv : valueAt kvs k = none)
    (hE : ∀ G e h' tk, Fr h₀ L G m → RaisedSN base G (envOf cn cs L a ccd :: outer) e (.type "KeyError") ((c, instObj 169 cd) :: (cd, cDict w t1 t2 t3 t4 t5 many mp q lk n) :: (mp, om) :: (q, W.listOf vs.toArray ep) :: (lk, instObj 45 lkd) :: (lkd, dictOf [] 0) :: rest) h' →
      G.UpToSlots h' → E (.ref e) { s with heap := h', toks := tk }) :
    wpAny (model PySem.Challenge.rw_bb0044_01.row.prog w) (kTop hdl dp un gd (envOf cn cs L a ccd) outer) (call (.ref 135) [.ref c, .int k tk0]) Q E s := by
  subst hh
  obtain ⟨a1, a2, a3, a4, a5, a6, a7, a8, a9, b1, b2, lo⟩ := hap
  refine wpAny_call ?_
  k_dflt cell_enter
  k_steps
  (rename Fr _ _ _ _ => F'); (rename Heap.NewExc _ _ _ _ => hx)
  refine' kwr_raise ?K ?fr ?hk F' ?N hx XB TB ?r ?_
  (case K => assumption); (case fr => exact rfl); (case hk => exact rfl); (case N => k_asm); (case r => k_room)
  intro h' tk H U
  refine' leave_heldSN ?K F' H ?_
  (case K => assumption)
  intro h'' R U2
  refine hE _ _ _ _ ?_ R (U.trans U2)
  assumption
end
end
/-! part GG -/
section
theorem walk_start_GG : True := by
  w_top off
  trivial
local macro_rules | `(tactic| k_room) => `(tactic| (dsimp only [Around.deeper, Around.mark, Around.in1, Around.under, kTop]; omega))
local macro_rules | `(tactic| k_units) => `(tactic| (have hcL9 := cLine_is; dsimp only [Around.deeper, Around.mark, Around.in1, Around.under, kTop]; omega))
local macro_rules | `(tactic| ktr_room) => `(tactic| (dsimp only [Around.deeper, Around.mark, Around.in1, Around.under, kTop]; omega))
local macro_rules | `(tactic| k_all) => `(tactic| assumption)
local macro_rules | `(tactic| k_ne) => `(tactic| first | assumption | (apply Ne.symm; assumption) | (refine neN ?_; (try dsimp only); omega))
local macro_rules | `(tactic| cell_enter) => `(tactic| (refine' code_def ?k1 ?k2 ?k3 ?k4 ?k5 ?kA ?kF ?kK ?k6 ?k7 ?k8 ?k9 ?kB ?_ ?c2 ?c3 ?c4 ?c5; (case kA => exact rfl); (case kF => assumption); (case kK => assumption); (case k1 => k_asm); (case k2 => k_asm); (case k3 => k_asm); (case k4 => k_asm); (case k5 => k_asm); (case k6 => k_is); (case k7 => k_is); (case k8 => ktr_room); (case k9 => exact BindsTo.of_eq rfl); (case c5 => decide); (case kB => exact locs rfl); (case c2 => exact rfl); (case c3 => exact rfl); (case c4 => exact rfl); k_whole; intro g' L' h' FG' F' N' B' X' T'; (try dsimp only); (try k_lift B'); (try k_fold)))
local macro_rules | `(tactic| cell_enter) => `(tactic| (refine' code_def ?k1 ?k2 ?k3 ?k4 ?k5 ?kA ?kF ?kK ?k6 ?k7 ?k8 ?k9 ?kB ?_ ?c2 ?c3 ?c4 ?c5; (case kA => exact rfl); (case kF => assumption); (case kK => assumption); (case k1 => k_asm); (case k2 => k_asm); (case k3 => k_asm); (case k4 => k_asm); (case k5 => k_asm); (case k6 => k_is); (case k7 => k_is); (case k8 => ktr_room); (case k9 => exact binds_K (by k_in) rfl (by k_is) rfl rfl rfl); (case c5 => decide); (case kB => exact locs rfl); (case c2 => exact rfl); (case c3 => exact rfl); (case c4 => exact rfl); k_whole; intro g' L' h' FG' F' N' B' X' T'; (try dsimp only); (try k_lift B'); (try k_fold)))
local macro_rules | `(tactic| walk_at "call ref") => `(tactic| (k_here; (show wpAny _ _ (call (Value.ref 121) _) _ _ _); k_dflt (refine' getitem_hit ?B ?F ?X ?N ?T ?hf ?hk ?hroom ?hun ?hom ?hkv ?hvs ?hks ?hap ?hv ?hmem ?hnd ?_; (case B => k_asm); (case F => k_asm); (case X => k_asm); (case N => k_asm); (case T => k_asm); (case hf => exact rfl); (case hk => exact rfl); (case hroom => k_room); (case hun => k_units); (case hom => assumption); (case hkv => assumption); (case hvs => assumption); (case hks => assumption); (case hap => exact ⟨‹_›, ‹_›, ‹_›, ‹_›, ‹_›, ‹_›, ‹_›, ‹_›, ‹_›, ‹_›, ‹_›, ‹_›⟩); (case hv => assumption); (case hmem => assumption); (case hnd => assumption)); intro h' tk' vs' ep' F' N' hi'; (try dsimp only at N'); (try k_sweep)))
section
variable {w : World} {s₀ : Shared} {mg mb : Str → Option Value} {hdl : Option Value} {dp un : Nat} {gd : Option (List Code)} {env : Env} {outer : List Env} {A₀ : Around} {base h₀ : Heap} {L : Addr} {m : Str → Option Value} {s : Shared} {Q E : Value → Shared → Prop}
  {c cd mp q lk lkd : Addr} {t1 t2 t3 t4 t5 : Tok} {many : Int} {n : Nat} {om : Obj} {kvs : List (Int × Value)} {vs : List Value} {ks : List Int} {ep : Nat} {rest : List (Addr × Obj)}
  (B : Below A₀ base outer h₀) (F : Fr h₀ L s.heap m) (X : (hd.heap_39 w.params).In h₀)
  (N : News h₀ L s.heap ((c, instObj 169 cd) :: (cd, cDict w t1 t2 t3 t4 t5 many mp q lk n) :: (mp, om) :: (q, W.listOf vs.toArray ep) :: (lk, instObj 45 lkd) :: (lkd, dictOf [] 0) :: rest))
  (T : Top hd.view_39 (looseW hd.view_39 []) (ExcName.means s₀.heap) mg mb h₀)
  (hf : env.frame = some L) (hk : env.scope.kind = .function) (hroom : dp + 10 < recursionLimit) (hun : un + 80 < cLine)
  (hom : om.IsDictOf (intKind PySem.Challenge.rw_bb0044_01.row.prog w) kvs) (hkv : kvs.length ≤ 1000) (hvs : IntsAre vs ks) (hks : ks.length ≤ 1000) (hap : Apart c cd mp q lk lkd rest)
include B F X N T hf hk hroom hun hom hkv hvs hks hap
set_option maxRecDepth 100000 in
set_option maxHeartbeats 4000000 in
theorem get_hit {k : Int} {tk0 : Tok} {v d : Value} (hroom2 : dp + 20 < recursionLimit) (hun2 : un + 200 < cLine) (hv : valueAt kvs k = some v) (hmem : k ∈ ks) (hnd : ks.Nodup)
    (ret : ∀ h' tk vs' ep', Fr h₀ L h' m → News h₀ L h' ((c, instObj 169 cd) :: (cd, cDict w t1 t2 t3 t4 t5 many mp q lk n) :: (mp, om) :: (q, W.listOf vs'.toArray ep') :: (lk, instObj 45 lkd) :: (lkd, dictOf [] 0) :: rest) → IntsAre vs' (ks.erase k ++ [k]) → Q v { s with heap := h', toks := tk }) :
    wpAny (model PySem.Challenge.rw_bb0044_01.row.prog w) (kTop hdl dp un gd env outer) (call (.ref 78) [.ref c, .int k tk0, d]) Q E s := by
  obtain ⟨a1, a2, a3, a4, a5, a6, a7, a8, a9, b1, b2, lo⟩ := hap
  refine wpAny_call ?_
  k_dflt cell_enter
  k_steps
  exact ret _ _ _ _ (by k_asm) (by k_asm) (by assumption)
set_option maxRecDepth 100000 in
set_option maxHeartbeats 4000000 in
theorem setdef_hit {k : Int} {tk0 : Tok} {v d : Value} (hroom2 : dp + 20 < recursionLimit) (hun2 : un + 200 < cLine) (hv : valueAt kvs k = some v) (hmem : k ∈ ks) (hnd : ks.Nodup)
    (ret : ∀ h' tk vs' ep', Fr h₀ L h' m → News h₀ L h' ((c, instObj 169 cd) :: (cd, cDict w t1 t2 t3 t4 t5 many mp q lk n) :: (mp, om) :: (q, W.listOf vs'.toArray ep') :: (lk, instObj 45 lkd) :: (lkd, dictOf [] 0) :: rest) → IntsAre vs' (ks.erase k ++ [k]) → Q v { s with heap := h', toks := tk }) :
    wpAny (model PySem.Challenge.rw_bb0044_01.row.prog w) (kTop hdl dp un gd env outer) (call (.ref 86) [.ref c, .int k tk0, d]) Q E s := by
  obtain ⟨a1, a2, a3, a4, a5, a6, a7, a8, a9, b1, b2, lo⟩ := hap
  refine wpAny_call ?_
  k_dflt cell_enter
  k_steps
  exact ret _ _ _ _ (by k_asm) (by k_asm) (by assumption)
end
end
/-! part GN -/
section
theorem walk_start_GN : True := by
  w_top off
  trivial
local macro_rules | `(tactic| walk_at "a key that no tree has") => `(tactic| skip)
local macro_rules | `(tactic| k_room) => `(tactic| (dsimp only [Around.deeper, Around.mark, Around.in1, Around.under, kTop]; omega))
local macro_rules | `(tactic| k_units) => `(tactic| (have hcL9 := cLine_is; dsimp only [Around.deeper, Around.mark, Around.in1, Around.under, kTop]; omega))
local macro_rules | `(tactic| ktr_room) => `(tactic| (dsimp only [Around.deeper, Around.mark, Around.in1, Around.under, kTop]; omega))
local macro_rules | `(tactic| k_all) => `(tactic| assumption)
local macro_rules | `(tactic| k_ne) => `(tactic| first | assumption | (apply Ne.symm; assumption) | (refine neN ?_; (try dsimp only); omega))
local macro_rules | `(tactic| cell_enter) => `(tactic| (refine' code_def ?k1 ?k2 ?k3 ?k4 ?k5 ?kA ?kF ?kK ?k6 ?k7 ?k8 ?k9 ?kB ?_ ?c2 ?c3 ?c4 ?c5; (case kA => exact rfl); (case kF => assumption); (case kK => assumption); (case k1 => k_asm); (case k2 => k_asm); (case k3 => k_asm); (case k4 => k_asm); (case k5 => k_asm); (case k6 => k_is); (case k7 => k_is); (case k8 => ktr_room); (case k9 => exact BindsTo.of_eq rfl); (case c5 => decide); (case kB => exact locs rfl); (case c2 => exact rfl); (case c3 => exact rfl); (case c4 => exact rfl); k_whole; intro g' L' h' FG' F' N' B' X' T'; (try dsimp only); (try k_lift B'); (try k_fold)))
local macro_rules | `(tactic| cell_enter) => `(tactic| (refine' code_defS ?k1 ?k2 ?k3 ?k4 ?k5 ?XB ?TB ?D ?T0 ?kA ?k6 ?k7 ?k8 ?k9 ?kB ?_ ?cK ?c2 ?c3 ?c4 ?c5; (case kA => exact rfl); (case k2 => k_asm); (case k1 => k_asm); (case XB => assumption); (case TB => assumption); (case D => assumption); (case T0 => exact KtsTurn.refl); (case k3 => k_asm); (case k4 => k_asm); (case k5 => k_asm); (case k6 => k_is); (case k7 => k_is); (case k8 => k_room); (case k9 => first | exact BindsTo.of_eq rfl | exact binds_K (by first | assumption | k_in) rfl (by k_is) rfl rfl rfl); (case kB => exact locs rfl); (case cK => assumption); (case c2 => exact rfl); (case c3 => exact rfl); (case c4 => exact rfl); (case c5 => decide); k_whole; intro g' L' h' FG' F' N' B' X' T' D'; (try dsimp only); (try k_lift B'); (try k_fold)))
local macro_rules | `(tactic| walk_at "call ref") => `(tactic| (k_here; (show wpAny _ _ (call (Value.ref 121) _) _ _ _); k_dflt (refine' getitem_miss ?B ?F ?X ?N ?T ?XB ?TB ?D ?hck ?hroom ?hun ?hom ?hkv ?hvs ?hks ?hap ?hh ?hv ?_; (case B => k_asm); (case F => k_asm); (case X => k_asm); (case N => k_asm); (case T => k_asm); (case XB => assumption); (case TB => assumption); (case D => assumption); (case hck => exact rfl); (case hroom => k_room); (case hun => k_units); (case hom => assumption); (case hkv => assumption); (case hvs => assumption); (case hks => assumption); (case hap => exact ⟨‹_›, ‹_›, ‹_›, ‹_›, ‹_›, ‹_›, ‹_›, ‹_›, ‹_›, ‹_›, ‹_›, ‹_›⟩); (case hh => exact rfl); (case hv => assumption)); intro G' e' h' tk' FG' R' U'; (try dsimp only at R' U')))
section
variable {w : World} {s₀ : Shared} {mg mb : Str → Option Value} {hdl : Option Value} {dp un : Nat} {gd : Option (List Code)} {cn : Str} {cs : Scope} {a : Addr} {ccd : Value} {outer : List Env} {A₀ : Around} {base h₀ : Heap} {L : Addr} {m : Str → Option Value} {s : Shared} {Q E : Value → Shared → Prop}
  {c cd mp q lk lkd : Addr} {t1 t2 t3 t4 t5 : Tok} {many : Int} {n : Nat} {om : Obj} {kvs : List (Int × Value)} {vs : List Value} {ks : List Int} {ep : Nat} {rest : List (Addr × Obj)}
  (B : Below A₀ base outer h₀) (F : Fr h₀ L s.heap m) (X : (hd.heap_39 w.params).In h₀)
  (N : News h₀ L s.heap ((c, instObj 169 cd) :: (cd, cDict w t1 t2 t3 t4 t5 many mp q lk n) :: (mp, om) :: (q, W.listOf vs.toArray ep) :: (lk, instObj 45 lkd) :: (lkd, dictOf [] 0) :: rest))
  (T : Top hd.view_39 (looseW hd.view_39 []) (ExcName.means s₀.heap) mg mb h₀)
  (XB : (hd.heap_39 w.params).In base) (TB : Top hd.view_39 (looseW hd.view_39 []) (ExcName.means s₀.heap) mg mb base) (D : KtsDicts (outer.filterMap (·.frame)) h₀) (hck : cs.kind = .function) (hroom : dp + 10 < recursionLimit) (hun : un + 80 < cLine)
  (hom : om.IsDictOf (intKind PySem.Challenge.rw_bb0044_01.row.prog w) kvs) (hkv : kvs.length ≤ 1000) (hvs : IntsAre vs ks) (hks : ks.length ≤ 1000) (hap : Apart c cd mp q lk lkd rest)
include B F X N T XB TB D hck hroom hun hom hkv hvs hks hap
set_option maxRecDepth 100000 in
set_option maxHeartbeats 4000000 in
theorem get_miss {k : Int} {tk0 : Tok} {d : Value} (hroom2 : dp + 20 < recursionLimit) (hun2 : un + 200 < cLine) (hh : hdl = none) (hv : valueAt kvs k = none)
    (ret : ∀ g' h' tk, KtsTurn (outer.filterMap (·.frame)) h₀ g' → Fr g' L h' m → News g' L h' ((c, instObj 169 cd) :: (cd, cDict w t1 t2 t3 t4 t5 many mp q lk n) :: (mp, om) :: (q, W.listOf vs.toArray ep) :: (lk, instObj 45 lkd) :: (lkd, dictOf [] 0) :: rest) → Below A₀ base outer g' → (hd.heap_39 w.params).In g' → Top hd.view_39 (looseW hd.view_39 []) (ExcName.means s₀.heap) mg mb g' → KtsDicts (outer.filterMap (·.frame)) g' →  Q d { s with heap := h', toks := tk }) :
    wpAny (model PySem.Challenge.rw_bb0044_01.row.prog w) (kTop hdl dp un gd (envOf cn cs L a ccd) outer) (call (.ref 78) [.ref c, .int k tk0, d]) Q E s := by
  subst hh
  obtain ⟨a1, a2, a3, a4, a5, a6, a7, a8, a9, b1, b2, lo⟩ := hap
  have Xs : (hd.heap_39 w.params).In s.heap := X.keeps F.keep
  refine wpAny_call ?_
  k_dflt cell_enter
  k_steps
  exact ret _ _ _ (by assumption) (by k_asm) (by k_asm) (by k_asm) (by k_asm) (by k_asm) (by assumption)
end
end
/-! part SP -/
section
theorem walk_start_SP : True := by
  w_top off
  trivial
local macro_rules | `(tactic| walk_at "a key that no tree has") => `(tactic| skip)
theorem Rel.hkv {many : Int} {kvs : List (Int × Value)} {ks : List Int} {r : List (Int × Int)} (R : Rel many kvs ks r) : kvs.length ≤ 1000 := by
  have := R.len; have := R.le; have := R.small; omega
theorem Rel.hks' {many : Int} {kvs : List (Int × Value)} {ks : List Int} {r : List (Int × Int)} (R : Rel many kvs ks r) : ks.length ≤ 1000 := by
  have h1 := R.hks; have := R.le; have := R.small; rw [h1]; simp; omega
theorem Rel.kmem {many : Int} {kvs : List (Int × Value)} {ks : List Int} {r : List (Int × Int)} (R : Rel many kvs ks r) {k : Int} (h : k ∈ r.map (·.1)) : k ∈ ks := by rw [R.hks]; exact h
theorem Rel.knd {many : Int} {kvs : List (Int × Value)} {ks : List Int} {r : List (Int × Int)} (R : Rel many kvs ks r) : ks.Nodup := by rw [R.hks]; exact R.nd
inductive Ans | txt (s : Str) | num (n : Int) | flag (b : Bool)
def AnsAt : Value → Ans → Prop
  | .str x _, .txt y => x = y
  | .int n _, .num k => n = k
  | .bool b, .flag c => b = c
  | _, _ => False
section
variable {w : World} {s₀ : Shared} {mg mb : Str → Option Value} {hdl : Option Value} {dp un : Nat} {gd : Option (List Code)} {env : Env} {outer : List Env} {A₀ : Around} {base h₀ : Heap} {L : Addr} {m : Str → Option Value} {s : Shared} {Q E : Value → Shared → Prop}
  {c cd mp q lk lkd : Addr} {t1 t2 t3 t4 t5 : Tok} {many : Int} {n : Nat} {om : Obj} {kvs : List (Int × Value)} {vs : List Value} {ks : List Int} {ep : Nat} {rest : List (Addr × Obj)} {r : List (Int × Int)}
  (B : Below A₀ base outer h₀) (F : Fr h₀ L s.heap m) (X : (hd.heap_39 w.params).In h₀)
  (N : News h₀ L s.heap ((c, instObj 169 cd) :: (cd, cDict w t1 t2 t3 t4 t5 many mp q lk n) :: (mp, om) :: (q, W.listOf vs.toArray ep) :: (lk, instObj 45 lkd) :: (lkd, dictOf [] 0) :: rest))
  (T : Top hd.view_39 (looseW hd.view_39 []) (ExcName.means s₀.heap) mg mb h₀)
  (hf : env.frame = some L) (hk : env.scope.kind = .function) (hroom : dp + 10 < recursionLimit) (hun : un + 80 < cLine)
  (hom : om.IsDictOf (intKind PySem.Challenge.rw_bb0044_01.row.prog w) kvs) (hvs : IntsAre vs ks) (hap : Apart c cd mp q lk lkd rest) (R : Rel many kvs ks r)
include B F X N T hf hk hroom hun hom hvs hap R
set_option maxRecDepth 100000 in
set_option maxHeartbeats 4000000 in
theorem set_pact {k i : Int} {tk0 t : Tok} (ret : ∀ h' tk om' kvs' vs' ks' ep', Fr h₀ L h' m → News h₀ L h' ((c, instObj 169 cd) :: (cd, cDict w t1 t2 t3 t4 t5 many mp q lk n) :: (mp, om') :: (q, W.listOf vs'.toArray ep') :: (lk, instObj 45 lkd) :: (lkd, dictOf [] 0) :: rest) → om'.IsDictOf (intKind PySem.Challenge.rw_bb0044_01.row.prog w) kvs' → IntsAre vs' ks' → Rel many kvs' ks' (laid many r k i) → Q .none { s with heap := h', toks := tk }) :
    wpAny (model PySem.Challenge.rw_bb0044_01.row.prog w) (kTop hdl dp un gd env outer) (call (.ref 128) [.ref c, .int k tk0, .int i t]) Q E s := by
  have hkv := R.hkv
  have hks := R.hks'
  have hvl := hvs.length
  have hln := R.len
  by_cases hm : k ∈ r.map (·.1)
  · refine setitem_in B F X N T hf hk hroom hun hom hkv hvs hks hap (R.isSome hm) (R.kmem hm) fun h' tk om' vs' ep' F' N' ho hi => ?_
    refine ret _ _ _ _ _ _ _ F' N' ho hi ?_
    unfold laid; rw [Rel.cut_in hm]; exact R.set_in hm i t
  · have hn : (valueAt kvs k).isSome = false := by rw [R.none hm]; rfl
    by_cases hl : (r.length : Int) = many
    · obtain ⟨k0, ks0, e1, e2, e3⟩ := R.set_full hm hl i t
      refine setitem_full B F X N T hf hk hroom hun hom hkv hvs hks hap hn (by rw [hln]; exact hl) e1 e2 fun h' tk om' vs' ep' F' N' ho hi => ?_
      refine ret _ _ _ _ _ _ _ F' N' ho hi ?_
      unfold laid; rw [Rel.cut_full hm hl]; exact e3
    · refine setitem_new B F X N T hf hk hroom hun hom hkv hvs hks hap hn (by rw [hln]; exact hl) fun h' tk om' vs' ep' F' N' ho hi => ?_
      refine ret _ _ _ _ _ _ _ F' N' ho hi ?_
      unfold laid; rw [Rel.cut_new hl]; exact R.set_new hm hl i t
end
local macro_rules | `(tactic| k_room) => `(tactic| (dsimp only [Around.deeper, Around.mark, Around.in1, Around.under, kTop]; omega))
local macro_rules | `(tactic| k_units) => `(tactic| (have hcL9 := cLine_is; dsimp only [Around.deeper, Around.mark, Around.in1, Around.under, kTop]; omega))
local macro_rules | `(tactic| ktr_room) => `(tactic| (dsimp only [Around.deeper, Around.mark, Around.in1, Around.under, kTop]; omega))
local macro_rules | `(tactic| k_all) => `(tactic| assumption)
local macro_rules | `(tactic| k_ne) => `(tactic| first | assumption | (apply Ne.symm; assumption) | (refine neN ?_; (try dsimp only); omega))
local macro_rules | `(tactic| cell_enter) => `(tactic| (refine' code_def ?k1 ?k2 ?k3 ?k4 ?k5 ?kA ?kF ?kK ?k6 ?k7 ?k8 ?k9 ?kB ?_ ?c2 ?c3 ?c4 ?c5; (case kA => exact rfl); (case kF => assumption); (case kK => assumption); (case k1 => k_asm); (case k2 => k_asm); (case k3 => k_asm); (case k4 => k_asm); (case k5 => k_asm); (case k6 => k_is); (case k7 => k_is); (case k8 => ktr_room); (case k9 => exact BindsTo.of_eq rfl); (case c5 => decide); (case kB => exact locs rfl); (case c2 => exact rfl); (case c3 => exact rfl); (case c4 => exact rfl); k_whole; intro g' L' h' FG' F' N' B' X' T'; (try dsimp only); (try k_lift B'); (try k_fold)))
local macro_rules | `(tactic| cell_enter) => `(tactic| (refine' code_defS ?k1 ?k2 ?k3 ?k4 ?k5 ?XB ?TB ?D ?T0 ?kA ?k6 ?k7 ?k8 ?k9 ?kB ?_ ?cK ?c2 ?c3 ?c4 ?c5; (case kA => exact rfl); (case k2 => k_asm); (case k1 => k_asm); (case XB => assumption); (case TB => assumption); (case D => assumption); (case T0 => exact KtsTurn.refl); (case k3 => k_asm); (case k4 => k_asm); (case k5 => k_asm); (case k6 => k_is); (case k7 => k_is); (case k8 => k_room); (case k9 => first | exact BindsTo.of_eq rfl | exact binds_K (by first | assumption | k_in) rfl (by k_is) rfl rfl rfl); (case kB => exact locs rfl); (case cK => assumption); (case c2 => exact rfl); (case c3 => exact rfl); (case c4 => exact rfl); (case c5 => decide); k_whole; intro g' L' h' FG' F' N' B' X' T' D'; (try dsimp only); (try k_lift B'); (try k_fold)))
local macro_rules | `(tactic| walk_at "call ref") => `(tactic| (k_here; (show wpAny _ _ (call (Value.ref 121) _) _ _ _); k_dflt (refine' getitem_miss ?B ?F ?X ?N ?T ?XB ?TB ?D ?hck ?hroom ?hun ?hom ?hkv ?hvs ?hks ?hap ?hh ?hv ?_; (case B => k_asm); (case F => k_asm); (case X => k_asm); (case N => k_asm); (case T => k_asm); (case XB => assumption); (case TB => assumption); (case D => assumption); (case hck => exact rfl); (case hroom => k_room); (case hun => k_units); (case hom => assumption); (case hkv => assumption); (case hvs => assumption); (case hks => assumption); (case hap => exact ⟨‹_›, ‹_›, ‹_›, ‹_›, ‹_›, ‹_›, ‹_›, ‹_›, ‹_›, ‹_›, ‹_›, ‹_›⟩); (case hh => exact rfl); (case hv => assumption)); intro G' e' h' tk' FG' R' U'; (try dsimp only at R' U')))
local macro_rules | `(tactic| walk_at "call ref") => `(tactic| (k_here; (show wpAny _ _ (call (Value.ref 128) _) _ _ _); k_dflt (refine' set_pact ?B ?F ?X ?N ?T ?hf ?hk ?hroom ?hun ?hom ?hvs ?hap ?R  ?_; (case B => k_asm); (case F => k_asm); (case X => k_asm); (case N => k_asm); (case T => k_asm); (case hf => exact rfl); (case hk => exact rfl); (case hroom => k_room); (case hun => k_units); (case hom => assumption); (case hvs => assumption); (case hap => exact ⟨‹_›, ‹_›, ‹_›, ‹_›, ‹_›, ‹_›, ‹_›, ‹_›, ‹_›, ‹_›, ‹_›, ‹_›⟩); (case R => assumption)); intro h' tk' om' kvs' vs' ks' ep' F' N' ho' hi' R'; (try dsimp only at N'); (try k_sweep)))
section
variable {w : World} {s₀ : Shared} {mg mb : Str → Option Value} {hdl : Option Value} {dp un : Nat} {gd : Option (List Code)} {cn : Str} {cs : Scope} {a : Addr} {ccd : Value} {outer : List Env} {A₀ : Around} {base h₀ : Heap} {L : Addr} {m : Str → Option Value} {s : Shared} {Q E : Value → Shared → Prop}
  {c cd mp q lk lkd : Addr} {t1 t2 t3 t4 t5 : Tok} {many : Int} {n : Nat} {om : Obj} {kvs : List (Int × Value)} {vs : List Value} {ks : List Int} {ep : Nat} {rest : List (Addr × Obj)} {r : List (Int × Int)}
  (B : Below A₀ base outer h₀) (F : Fr h₀ L s.heap m) (X : (hd.heap_39 w.params).In h₀)
  (N : News h₀ L s.heap ((c, instObj 169 cd) :: (cd, cDict w t1 t2 t3 t4 t5 many mp q lk n) :: (mp, om) :: (q, W.listOf vs.toArray ep) :: (lk, instObj 45 lkd) :: (lkd, dictOf [] 0) :: rest))
  (T : Top hd.view_39 (looseW hd.view_39 []) (ExcName.means s₀.heap) mg mb h₀)
  (XB : (hd.heap_39 w.params).In base) (TB : Top hd.view_39 (looseW hd.view_39 []) (ExcName.means s₀.heap) mg mb base) (D : KtsDicts (outer.filterMap (·.frame)) h₀) (hck : cs.kind = .function) (hroom : dp + 20 < recursionLimit) (hun : un + 200 < cLine)
  (hom : om.IsDictOf (intKind PySem.Challenge.rw_bb0044_01.row.prog w) kvs) (hvs : IntsAre vs ks) (hap : Apart c cd mp q lk lkd rest) (R : Rel many kvs ks r)
include B F X N T XB TB D hck hroom hun hom hvs hap R
set_option maxRecDepth 100000 in
set_option maxHeartbeats 4000000 in
theorem setdef_miss {k i : Int} {tk0 t : Tok} (hh : hdl = none) (hv : valueAt kvs k = none)
    (ret : ∀ g' h' tk om' kvs' vs' ks' ep', KtsTurn (outer.filterMap (·.frame)) h₀ g' → Fr g' L h' m → News g' L h' ((c, instObj 169 cd) :: (cd, cDict w t1 t2 t3 t4 t5 many mp q lk n) :: (mp, om') :: (q, W.listOf vs'.toArray ep') :: (lk, instObj 45 lkd) :: (lkd, dictOf [] 0) :: rest) → Below A₀ base outer g' → (hd.heap_39 w.params).In g' → Top hd.view_39 (looseW hd.view_39 []) (ExcName.means s₀.heap) mg mb g' → KtsDicts (outer.filterMap (·.frame)) g' → om'.IsDictOf (intKind PySem.Challenge.rw_bb0044_01.row.prog w) kvs' → IntsAre vs' ks' → Rel many kvs' ks' (laid many r k i) → Q (.int i t) { s with heap := h', toks := tk }) :
    wpAny (model PySem.Challenge.rw_bb0044_01.row.prog w) (kTop hdl dp un gd (envOf cn cs L a ccd) outer) (call (.ref 86) [.ref c, .int k tk0, .int i t]) Q E s := by
  subst hh
  have hkv := R.hkv
  have hks := R.hks'
  have hvl := hvs.length
  obtain ⟨a1, a2, a3, a4, a5, a6, a7, a8, a9, b1, b2, lo⟩ := hap
  have Xs : (hd.heap_39 w.params).In s.heap := X.keeps F.keep
  refine wpAny_call ?_
  k_dflt cell_enter
  k_steps
  exact ret _ _ _ _ _ _ _ _ (by assumption) (by k_asm) (by k_asm) (by k_asm) (by k_asm) (by k_asm) (by assumption) (by assumption) (by assumption) (by assumption)
end
end
/-! part MV -/
section
theorem walk_start_MV : True := by
  w_top off
  trivial
local macro_rules | `(tactic| walk_at "a key that no tree has") => `(tactic| skip)
local macro_rules | `(tactic| k_room) => `(tactic| (dsimp only [Around.deeper, Around.mark, Around.in1, Around.under, kTop]; omega))
local macro_rules | `(tactic| k_units) => `(tactic| (have hcL9 := cLine_is; dsimp only [Around.deeper, Around.mark, Around.in1, Around.under, kTop]; omega))
local macro_rules | `(tactic| ktr_room) => `(tactic| (dsimp only [Around.deeper, Around.mark, Around.in1, Around.under, kTop]; omega))
local macro_rules | `(tactic| k_all) => `(tactic| assumption)
local macro_rules | `(tactic| k_ne) => `(tactic| first | assumption | (apply Ne.symm; assumption) | (refine neN ?_; (try dsimp only); omega))
local macro_rules | `(tactic| cell_enter) => `(tactic| (refine' code_def ?k1 ?k2 ?k3 ?k4 ?k5 ?kA ?kF ?kK ?k6 ?k7 ?k8 ?k9 ?kB ?_ ?c2 ?c3 ?c4 ?c5; (case kA => exact rfl); (case kF => assumption); (case kK => assumption); (case k1 => k_asm); (case k2 => k_asm); (case k3 => k_asm); (case k4 => k_asm); (case k5 => k_asm); (case k6 => k_is); (case k7 => k_is); (case k8 => ktr_room); (case k9 => exact BindsTo.of_eq rfl); (case c5 => decide); (case kB => exact locs rfl); (case c2 => exact rfl); (case c3 => exact rfl); (case c4 => exact rfl); k_whole; intro g' L' h' FG' F' N' B' X' T'; (try dsimp only); (try k_lift B'); (try k_fold)))
local macro_rules | `(tactic| cell_enter) => `(tactic| (refine' code_defC ?k1 ?k2 ?k3 ?k4 ?k5 ?kA ?kF ?kK ?k6 ?k7 ?k8 ?k9 ?kB ?kD ?_ ?c2 ?c3 ?c4; (case kA => exact rfl); (case kF => assumption); (case kK => assumption); (case k1 => k_asm); (case k2 => k_asm); (case k3 => k_asm); (case k4 => k_asm); (case k5 => k_asm); (case k6 => k_is); (case k7 => k_is); (case k8 => ktr_room); (case k9 => exact BindsTo.of_eq rfl); (case kB => exact rfl); (case kD => decide +kernel); (case c2 => exact rfl); (case c3 => exact rfl); (case c4 => exact rfl); k_whole; intro g' L' h' tk' cells' FG' F' N' Y' B' X' T' l1; k_cells Y'; (try simp only [List.cons_append, List.nil_append] at N'); (try dsimp only); (try k_lift B'); (try k_fold)))
local macro_rules | `(tactic| walk_at "eval Name") => `(tactic| (k_here; (with_reducible show wpAny _ _ (eval (Expr.Name _ _) (compEnvC _ _ _ _)) _ _ _); k_dflt (refine' c_loc ?n ?v ?_ ?a ?b ?d; (case a => rfl); (case b => rfl); (case d => decide); (case n => assumption); (case v => assumption); k_whole)))
local macro_rules | `(tactic| walk_at "subscriptTail") => `(tactic| (k_here; (with_reducible show wpAny _ _ (subscriptTail _ _ (Value.ref _) (Value.int _ _)) _ _ _); k_dflt (refine' c_name_tup ?t ?lo ?hi ?j ?x ?_ ?a ?b; (case a => with_unfolding_all rfl); (case b => intro _; with_unfolding_all rfl); (case t => assumption); (case lo => decide); (case hi => decide); (case j => rfl); (case x => rfl))))
local macro_rules | `(tactic| walk_at "eval ListComp") => `(tactic| (k_here; refine stopG ?_))
section
variable {w : World} {s₀ : Shared} {mg mb : Str → Option Value} {hdl : Option Value} {dp un : Nat} {gd : Option (List Code)} {env : Env} {outer : List Env} {A₀ : Around} {base h₀ : Heap} {L : Addr} {m : Str → Option Value} {s : Shared} {Q E : Value → Shared → Prop}
  {ro : Addr} {e0 : Nat} {ys : List Value} {r : List (Int × Int)} {rest tups : List (Addr × Obj)}
  (B : Below A₀ base outer h₀) (F : Fr h₀ L s.heap m) (X : (hd.heap_39 w.params).In h₀)
  (N : News h₀ L s.heap ((ro, W.listOf ys.toArray e0) :: rest))
  (T : Top hd.view_39 (looseW hd.view_39 []) (ExcName.means s₀.heap) mg mb h₀)
  (hf : env.frame = some L) (hk : env.scope.kind = .function) (hroom : dp + 10 < recursionLimit) (hun : un + 80 < cLine)
  (hr : RowIn tups ys r) (hsub : ∀ p ∈ tups, p ∈ rest) (hys : ys.length ≤ 100)
include B F X N T hf hk hroom hun hr hsub hys
set_option maxRecDepth 100000 in
set_option maxHeartbeats 4000000 in
theorem moved_pact {k i : Int} {tk0 tv : Tok} (hh : hdl = none)
    (ret : ∀ D T h' tk zs e t u, Fr h₀ L h' m → News h₀ L h' ((D, W.listOf zs.toArray e) :: (T, tupO [.int k t, .int i u] 0) :: (ro, W.listOf ys.toArray e0) :: rest) → RowIn ((T, tupO [.int k t, .int i u] 0) :: tups) zs (moved r k i) → (∀ p ∈ (ro, W.listOf ys.toArray e0) :: rest, p.1 ≠ D) → Q (.ref D) { s with heap := h', toks := tk }) :
    wpAny (model PySem.Challenge.rw_bb0044_01.row.prog w) (kTop hdl dp un gd env outer) (call (.ref 192) [.ref ro, .int k tk0, .int i tv]) Q E s := by
  subst hh
  refine wpAny_call ?_
  k_dflt cell_enter
  k_steps
  unfold Stop
  refine my_comp_rows rfl (by with_unfolding_all rfl) (by decide) (by with_unfolding_all rfl) (by decide) (by with_unfolding_all rfl) (by intro _; with_unfolding_all rfl) ?_
  refine stop_out ?_
  k_steps
  unfold Stop
  (rename Below _ _ _ _ => B'); (rename Fr _ _ _ _ => F'); (rename News _ _ _ _ => N'); (rename Top _ _ _ _ _ _ => T'); (rename Frag.In _ _ => X')
  have Nr : News h₀ L s.heap tups := fun p hp => N p (.tail _ (hsub p hp))
  refine ⟨_, _, _, _, _, _, _, rfl, F', N', .tail _ (.head _), Nat.le_trans hys (by decide), pf tups fun p => p.1 != k, fun v y => y = v, ?_, ?_, ?_⟩
  · intro C i v s₃ m₃ E' hv hn hx F3 N3
    obtain ⟨p, hp⟩ := rowIn_get hr hv
    have hpf := pf_of Nr (f := fun p => p.1 != k) hp
    obtain ⟨T, t, u, rfl, hT⟩ := hp
    have hT3 : s₃.heap.get? T = some (tupO [.int p.1 t, .int p.2 u] 0) := (N3 _ (.tail _ (.tail _ (hsub _ hT)))).1
    clear F' N' F N Nr
    refine wpAny_tests_one ?_
    refine stop_out ?_
    k_steps
    exact ⟨hpf.symm, s₃.heap, _, rfl, fun _ _ e => e⟩
  · intro C i v s₃ m₃ E' hv hp hn hx F3 N3
    clear F' N' F N Nr
    refine stop_out ?_
    k_steps
    exact ⟨rfl, s₃.heap, _, rfl, fun _ _ e => e⟩
  · intro D2 h2 tk2 zs n2 F2 N2 hP hD2
    have hzs := paired_id hP
    have hrow := rowIn_filter Nr (fun p => p.1 != k) hr
    rw [← hzs] at hrow
    have hzl : zs.length ≤ 100 := by rw [hzs]; exact Nat.le_trans (List.length_filter_le _ _) hys
    have key : ∀ (D T : Addr) (h' : Heap) (tk : Nat) (l0 d2 c0 : Addr × Obj), Fr h₀ L h' m → News h₀ L h' ((D, W.listOf (zs ++ [Value.ref T]).toArray 0) :: l0 :: (T, tupO [.int k tk0, .int i tv] 0) :: d2 :: c0 :: (ro, W.listOf ys.toArray e0) :: rest) → (∀ p ∈ (ro, W.listOf ys.toArray e0) :: rest, p.1 ≠ D) → Q (.ref D) { s with heap := h', toks := tk } :=
      fun D T h' tk l0 d2 c0 F N Z => ret D T h' tk (zs ++ [.ref T]) 0 tk0 tv F (news_sub N (by intro p hp; simp only [List.mem_cons] at hp ⊢; grind)) (paired_append (RowIn.mono hrow fun p hp => .tail _ hp) (.cons ⟨T, tk0, tv, rfl, .head _⟩ .nil)) Z
    clear F' N' F N Nr hP
    k_steps
    (rename News _ _ _ _ => N5); (rename Fr _ _ _ _ => F5)
    refine key _ _ _ _ _ _ _ F5 N5 ?_
    intro p hp
    refine Nat.ne_of_lt ?_
    refine Heap.lt_size (o := p.2) ?_
    rename_i N7 _ _ _ _ _ _
    exact (N7 p (by simp only [List.mem_cons] at hp ⊢; grind)).1
end
end
/-! part EQ -/
section
def rowD (r : List (Int × Int)) : List PyData := r.map fun p => .tuple [.int p.1, .int p.2]
theorem readsAll_row {h : Heap} {ys : List Value} {r : List (Int × Int)} (x : PairsAt h ys r) : ∃ as, ReadsAll h ys (rowD r) as := by
  induction x with
  | nil => exact ⟨_, .nil⟩
  | cons a r ih =>
    obtain ⟨T, t, u, rfl, hT⟩ := a
    obtain ⟨as, ha⟩ := ih
    exact ⟨_, .cons (reads_tuple_at hT rfl rfl (.cons (.int _ _) (.cons (.int _ _) .nil))) ha⟩
theorem canLay_row : ∀ r : List (Int × Int), PyData.canLayAll0 (rowD r) = true
  | [] => rfl
  | p :: r => by
    have := canLay_row r
    unfold rowD at this ⊢
    simp [PyData.canLayAll0, PyData.canLay0, this]
theorem depth_row : ∀ r : List (Int × Int), PyData.depthAll (rowD r) ≤ 2
  | [] => by simp [rowD, PyData.depthAll]
  | p :: r => by
    have := depth_row r
    unfold rowD at this ⊢
    simp [PyData.depthAll, PyData.depth]
    omega
theorem shaped_row (r : List (Int × Int)) : PySem.SeqAt.shaped (.list (rowD r)) = true := by
  have h1 := depth_row r
  have h2 : PyData.depth (.list (rowD r)) ≤ 64 := by simp only [PyData.depth]; omega
  show (PyData.canLay0 (.list (rowD r)) && decide (PyData.depth (.list (rowD r)) ≤ 64)) = true
  rw [Bool.and_eq_true]
  exact ⟨by simp only [PyData.canLay0]; exact canLay_row r, decide_eq_true h2⟩
theorem eqv_row : ∀ r q : List (Int × Int), PyData.eqvAll (rowD r) (rowD q) = decide (r = q)
  | [], [] => by simp [rowD, PyData.eqvAll]
  | [], _ :: _ => by simp [rowD, PyData.eqvAll]
  | _ :: _, [] => by simp [rowD, PyData.eqvAll]
  | ⟨a, b⟩ :: r, ⟨c, d⟩ :: q => by
    have := eqv_row r q
    unfold rowD at this ⊢
    simp only [List.map_cons, PyData.eqvAll, PyData.eqv, this]
    by_cases h1 : a = c <;> by_cases h2 : b = d <;> by_cases h3 : r = q <;> simp [h1, h2, h3]
section
variable {prog : Program} {w : World} {A : Around} {E : Value → Shared → Prop} {s : Shared}
theorem eq_rows {a b : Addr} {ys zs : List Value} {n n' : Nat} {r q : List (Int × Int)} {Q : Value → Shared → Prop} (ha : s.heap.get? a = some (W.listOf ys.toArray n)) (ra : PairsAt s.heap ys r) (hb : s.heap.get? b = some (W.listOf zs.toArray n')) (rb : PairsAt s.heap zs q) (hu : A.units + 64 < cLine)
    (h : Q (.bool (decide (r = q))) s) : wpAny (model prog w) A (compareOp .Eq (.ref a) (.ref b)) Q E s := by
  obtain ⟨as, h1⟩ := readsAll_row ra
  obtain ⟨bs, h2⟩ := readsAll_row rb
  refine eq_dataH (reads_list_at ha rfl rfl (by simpa using h1)) (reads_list_at hb rfl rfl (by simpa using h2)) (shaped_row r) (shaped_row q) hu ?_
  simp only [PyData.eqv, eqv_row]
  exact h
theorem ne_rows {a b : Addr} {ys zs : List Value} {n n' : Nat} {r q : List (Int × Int)} {Q : Value → Shared → Prop} (ha : s.heap.get? a = some (W.listOf ys.toArray n)) (ra : PairsAt s.heap ys r) (hb : s.heap.get? b = some (W.listOf zs.toArray n')) (rb : PairsAt s.heap zs q) (hu : A.units + 64 < cLine)
    (h : Q (.bool (!decide (r = q))) s) : wpAny (model prog w) A (compareOp .NotEq (.ref a) (.ref b)) Q E s := by
  obtain ⟨as, h1⟩ := readsAll_row ra
  obtain ⟨bs, h2⟩ := readsAll_row rb
  refine ne_dataH (reads_list_at ha rfl rfl (by simpa using h1)) (reads_list_at hb rfl rfl (by simpa using h2)) (shaped_row r) (shaped_row q) hu ?_
  simp only [PyData.eqv, eqv_row]
  exact h
end
theorem rowIn_at {h₀ h : Heap} {L : Addr} {news : List (Addr × Obj)} (N : News h₀ L h news) {ys : List Value} {r : List (Int × Int)} (x : RowIn news ys r) : PairsAt h ys r :=
  Paired.mono (fun _ _ ⟨T, t, u, e, m⟩ => ⟨T, t, u, e, (N _ m).1⟩) x
theorem news_dup {h₀ h : Heap} {L : Addr} {l : List (Addr × Obj)} {p : Addr × Obj} (N : News h₀ L h l) (hm : p ∈ l) : News h₀ L h (p :: l) := fun q hq => by
  rcases List.mem_cons.mp hq with rfl | hq
  · exact N _ hm
  · exact N _ hq
theorem paired_drop {α β : Type} {F : α → β → Prop} {a : List α} {c : List β} (x : Paired F a c) (n : Nat) : Paired F (a.drop n) (c.drop n) := by
  induction n generalizing a c with
  | zero => exact x
  | succ n ih =>
    cases x with
    | nil => exact .nil
    | cons h r => exact ih r
theorem slice_from1 (vs : List Value) : slicePick vs.toArray (some 1) none none = (vs.drop 1).toArray := by
  have e : sliceBounds (some 1) none none vs.toArray.size = (((min (1 : Int).toNat vs.toArray.size : Nat) : Int), ((vs.toArray.size : Nat) : Int), 1) := by
    simp only [sliceBounds, Option.getD_none, show (1 : Int) > 0 by decide, if_true, if_neg (show ¬ ((1 : Int) < 0) by omega)]
    congr 1
    omega
  rw [PySem.W.kmk_pick_nat _ e]
  show ((vs.drop (min 1 vs.toArray.size)).take (vs.toArray.size - min 1 vs.toArray.size)).toArray = _
  rw [List.size_toArray, PySem.W.kmk_drop_min, List.take_of_length_le (by rw [List.length_drop]; omega)]
end
/-! part LD -/
section
theorem walk_start_LD : True := by
  w_top off
  trivial
local macro_rules | `(tactic| k_room) => `(tactic| (dsimp only [Around.deeper, Around.mark, Around.in1, Around.under, kTop]; omega))
local macro_rules | `(tactic| k_units) => `(tactic| (have hcL9 := cLine_is; dsimp only [Around.deeper, Around.mark, Around.in1, Around.under, kTop]; omega))
local macro_rules | `(tactic| ktr_room) => `(tactic| (dsimp only [Around.deeper, Around.mark, Around.in1, Around.under, kTop]; omega))
local macro_rules | `(tactic| k_all) => `(tactic| assumption)
local macro_rules | `(tactic| k_ne) => `(tactic| first | assumption | (apply Ne.symm; assumption) | (refine neN ?_; (try dsimp only); omega))
local macro_rules | `(tactic| cell_enter) => `(tactic| (refine' code_def ?k1 ?k2 ?k3 ?k4 ?k5 ?kA ?kF ?kK ?k6 ?k7 ?k8 ?k9 ?kB ?_ ?c2 ?c3 ?c4 ?c5; (case kA => exact rfl); (case kF => assumption); (case kK => assumption); (case k1 => k_asm); (case k2 => k_asm); (case k3 => k_asm); (case k4 => k_asm); (case k5 => k_asm); (case k6 => k_is); (case k7 => k_is); (case k8 => ktr_room); (case k9 => exact BindsTo.of_eq rfl); (case c5 => decide); (case kB => exact locs rfl); (case c2 => exact rfl); (case c3 => exact rfl); (case c4 => exact rfl); k_whole; intro g' L' h' FG' F' N' B' X' T'; (try dsimp only); (try k_lift B'); (try k_fold)))
local macro_rules | `(tactic| cell_enter) => `(tactic| (refine' code_defC ?k1 ?k2 ?k3 ?k4 ?k5 ?kA ?kF ?kK ?k6 ?k7 ?k8 ?k9 ?kB ?kD ?_ ?c2 ?c3 ?c4; (case kA => exact rfl); (case kF => assumption); (case kK => assumption); (case k1 => k_asm); (case k2 => k_asm); (case k3 => k_asm); (case k4 => k_asm); (case k5 => k_asm); (case k6 => k_is); (case k7 => k_is); (case k8 => ktr_room); (case k9 => exact BindsTo.of_eq rfl); (case kB => exact rfl); (case kD => decide +kernel); (case c2 => exact rfl); (case c3 => exact rfl); (case c4 => exact rfl); k_whole; intro g' L' h' tk' cells' FG' F' N' Y' B' X' T' l1; k_cells Y'; (try simp only [List.cons_append, List.nil_append] at N'); (try dsimp only); (try k_lift B'); (try k_fold)))
local macro_rules | `(tactic| walk_at "eval Name") => `(tactic| (k_here; (with_reducible show wpAny _ _ (eval (Expr.Name _ _) (compEnvC _ _ _ _)) _ _ _); k_dflt (refine' c_loc ?n ?v ?_ ?a ?b ?d; (case a => rfl); (case b => rfl); (case d => decide); (case n => assumption); (case v => assumption); k_whole)))
local macro_rules | `(tactic| walk_at "subscriptTail") => `(tactic| (k_here; (with_reducible show wpAny _ _ (subscriptTail _ _ (Value.ref _) (Value.int _ _)) _ _ _); k_dflt (refine' c_name_tup ?t ?lo ?hi ?j ?x ?_ ?a ?b; (case a => with_unfolding_all rfl); (case b => intro _; with_unfolding_all rfl); (case t => assumption); (case lo => decide); (case hi => decide); (case j => rfl); (case x => rfl))))
local macro_rules | `(tactic| walk_at "eval ListComp") => `(tactic| (k_here; refine stopG ?_))
local macro_rules | `(tactic| walk_at "call ref") => `(tactic| (k_here; (show wpAny _ _ (call (Value.ref 192) _) _ _ _); refine stopG ?_))
local macro_rules | `(tactic| walk_at "call ref") => `(tactic| (k_here; (show wpAny _ _ (call (Value.ref 197) _) _ _ _); refine stopG ?_))
local macro_rules | `(tactic| walk_at "compareOp Eq ref ref") => `(tactic| (k_here; (with_reducible show wpAny _ _ (compareOp CmpOp.Eq (Value.ref _) (Value.ref _)) _ _ _); refine stopG ?_))
section
variable {w : World} {s₀ : Shared} {mg mb : Str → Option Value} {hdl : Option Value} {dp un : Nat} {gd : Option (List Code)} {env : Env} {outer : List Env} {A₀ : Around} {base h₀ : Heap} {L : Addr} {m : Str → Option Value} {s : Shared} {Q E : Value → Shared → Prop}
  {ro : Addr} {e0 : Nat} {ys : List Value} {r : List (Int × Int)} {rest tups : List (Addr × Obj)}
  (B : Below A₀ base outer h₀) (F : Fr h₀ L s.heap m) (X : (hd.heap_39 w.params).In h₀)
  (N : News h₀ L s.heap ((ro, W.listOf ys.toArray e0) :: rest))
  (T : Top hd.view_39 (looseW hd.view_39 []) (ExcName.means s₀.heap) mg mb h₀)
  (hf : env.frame = some L) (hk : env.scope.kind = .function) (hroom : dp + 10 < recursionLimit) (hun : un + 80 < cLine)
  (hr : RowIn tups ys r) (hsub : ∀ p ∈ tups, p ∈ rest) (hys : ys.length ≤ 100)
include B F X N T hf hk hroom hun hr hsub hys
set_option maxRecDepth 100000 in
set_option maxHeartbeats 4000000 in
theorem laid_in {k i many : Int} {tk0 tv tm : Tok} (hroom2 : dp + 20 < recursionLimit) (hun2 : un + 200 < cLine) (hh : hdl = none) (hm : k ∈ r.map (·.1))
    (ret : ∀ D T h' tk zs e t u, Fr h₀ L h' m → News h₀ L h' ((D, W.listOf zs.toArray e) :: (T, tupO [.int k t, .int i u] 0) :: rest) → RowIn ((T, tupO [.int k t, .int i u] 0) :: tups) zs (laid many r k i) → (∀ p ∈ rest, p.1 ≠ D) → Q (.ref D) { s with heap := h', toks := tk }) :
    wpAny (model PySem.Challenge.rw_bb0044_01.row.prog w) (kTop hdl dp un gd env outer) (call (.ref 197) [.ref ro, .int many tm, .int k tk0, .int i tv]) Q E s := by
  subst hh
  have hyl := hr.length
  refine wpAny_call ?_
  k_dflt cell_enter
  k_steps
  unfold Stop
  refine my_comp_rows rfl (by with_unfolding_all rfl) (by decide) (by with_unfolding_all rfl) (by decide) (by with_unfolding_all rfl) (by intro _; with_unfolding_all rfl) ?_
  refine stop_out ?_
  k_steps
  unfold Stop
  (rename Below _ _ _ _ => B'); (rename Fr _ _ _ _ => F'); (rename News _ _ _ _ => N'); (rename Top _ _ _ _ _ _ => T'); (rename Frag.In _ _ => X')
  have Nr : News h₀ L s.heap tups := fun p hp => N p (.tail _ (hsub p hp))
  refine ⟨_, _, _, _, _, _, _, rfl, F', N', .tail _ (.head _), Nat.le_trans hys (by decide), pf tups fun p => p.1 == k, fun v y => y = v, ?_, ?_, ?_⟩
  · intro C i v s₃ m₃ E' hv hn hx F3 N3
    obtain ⟨p, hp⟩ := rowIn_get hr hv
    have hpf := pf_of Nr (f := fun p => p.1 == k) hp
    obtain ⟨T, t, u, rfl, hT⟩ := hp
    have hT3 : s₃.heap.get? T = some (tupO [.int p.1 t, .int p.2 u] 0) := (N3 _ (.tail _ (.tail _ (hsub _ hT)))).1
    clear F' N' F N Nr
    refine wpAny_tests_one ?_
    refine stop_out ?_
    k_steps
    exact ⟨hpf.symm, s₃.heap, _, rfl, fun _ _ e => e⟩
  · intro C i v s₃ m₃ E' hv hp hn hx F3 N3
    clear F' N' F N Nr
    refine stop_out ?_
    k_steps
    exact ⟨rfl, s₃.heap, _, rfl, fun _ _ e => e⟩
  · intro D2 h2 tk2 zs n2 F2 N2 hP hD2
    have hzs := paired_id hP
    have hrow := rowIn_filter Nr (fun p => p.1 == k) hr
    rw [← hzs] at hrow
    clear F' N' F N Nr hP
    k_steps
    (rename News _ _ _ _ => N5)
    unfold Stop
    refine eq_rows (ys := zs) (zs := []) (n := n2) (n' := 0) (N5 _ (.tail _ (.head _))).1 (rowIn_at N5 (RowIn.mono hrow fun p hp => by simp [hsub p hp])) (N5 _ (.head _)).1 .nil (by k_units) ?_
    rw [show decide (List.filter (fun p => p.1 == k) r = []) = false from decide_eq_false fun h => theres_nil.mp h hm]
    k_steps
    (rename News _ _ _ _ => N6)
    unfold Stop
    refine' moved_pact (ys := ys) (e0 := e0) (r := r) ?B ?F ?X (news_dup N6 ?mem) ?T ?hf ?hk ?hroom ?hun hr ?sub hys rfl ?_
    (case F => k_asm); (case B => k_asm); (case X => k_asm); (case T => k_asm); (case hf => exact rfl); (case hk => exact rfl); (case hroom => k_room); (case hun => k_units)
    (case mem => simp)
    (case sub => intro p hp; simp [hsub p hp])
    intro D T h' tk zs2 e t u F7 N7 R7 Z7
    clear N6
    k_steps
    (rename News _ _ _ _ => N8); (rename Fr _ _ _ _ => F8)
    refine ret D T _ _ zs2 e t u F8 (news_sub N8 ?_) ?_ (fun p hp => Z7 p (by simp [hp]))
    · intro p hp; simp only [List.mem_cons] at hp ⊢; grind
    · unfold laid; rw [Rel.cut_in hm]; exact R7
set_option maxRecDepth 100000 in
set_option maxHeartbeats 4000000 in
theorem laid_new {k i many : Int} {tk0 tv tm : Tok} (hroom2 : dp + 20 < recursionLimit) (hun2 : un + 200 < cLine) (hh : hdl = none) (hm : k ∉ r.map (·.1)) (hl : ¬ (r.length : Int) = many)
    (ret : ∀ D T h' tk zs e t u, Fr h₀ L h' m → News h₀ L h' ((D, W.listOf zs.toArray e) :: (T, tupO [.int k t, .int i u] 0) :: rest) → RowIn ((T, tupO [.int k t, .int i u] 0) :: tups) zs (laid many r k i) → (∀ p ∈ rest, p.1 ≠ D) → Q (.ref D) { s with heap := h', toks := tk }) :
    wpAny (model PySem.Challenge.rw_bb0044_01.row.prog w) (kTop hdl dp un gd env outer) (call (.ref 197) [.ref ro, .int many tm, .int k tk0, .int i tv]) Q E s := by
  subst hh
  have hyl := hr.length
  have hsz : ys.toArray.size = r.length := by rw [List.size_toArray]; exact hyl
  refine wpAny_call ?_
  k_dflt cell_enter
  k_steps
  unfold Stop
  refine my_comp_rows rfl (by with_unfolding_all rfl) (by decide) (by with_unfolding_all rfl) (by decide) (by with_unfolding_all rfl) (by intro _; with_unfolding_all rfl) ?_
  refine stop_out ?_
  k_steps
  unfold Stop
  (rename Below _ _ _ _ => B'); (rename Fr _ _ _ _ => F'); (rename News _ _ _ _ => N'); (rename Top _ _ _ _ _ _ => T'); (rename Frag.In _ _ => X')
  have Nr : News h₀ L s.heap tups := fun p hp => N p (.tail _ (hsub p hp))
  refine ⟨_, _, _, _, _, _, _, rfl, F', N', .tail _ (.head _), Nat.le_trans hys (by decide), pf tups fun p => p.1 == k, fun v y => y = v, ?_, ?_, ?_⟩
  · intro C i v s₃ m₃ E' hv hn hx F3 N3
    obtain ⟨p, hp⟩ := rowIn_get hr hv
    have hpf := pf_of Nr (f := fun p => p.1 == k) hp
    obtain ⟨T, t, u, rfl, hT⟩ := hp
    have hT3 : s₃.heap.get? T = some (tupO [.int p.1 t, .int p.2 u] 0) := (N3 _ (.tail _ (.tail _ (hsub _ hT)))).1
    clear F' N' F N Nr
    refine wpAny_tests_one ?_
    refine stop_out ?_
    k_steps
    exact ⟨hpf.symm, s₃.heap, _, rfl, fun _ _ e => e⟩
  · intro C i v s₃ m₃ E' hv hp hn hx F3 N3
    clear F' N' F N Nr
    refine stop_out ?_
    k_steps
    exact ⟨rfl, s₃.heap, _, rfl, fun _ _ e => e⟩
  · intro D2 h2 tk2 zs n2 F2 N2 hP hD2
    have hzs := paired_id hP
    have hrow := rowIn_filter Nr (fun p => p.1 == k) hr
    rw [← hzs] at hrow
    clear F' N' F N Nr hP
    k_steps
    (rename News _ _ _ _ => N5)
    unfold Stop
    refine eq_rows (ys := zs) (zs := []) (n := n2) (n' := 0) (N5 _ (.tail _ (.head _))).1 (rowIn_at N5 (RowIn.mono hrow fun p hp => by simp [hsub p hp])) (N5 _ (.head _)).1 .nil (by k_units) ?_
    rw [show decide (List.filter (fun p => p.1 == k) r = []) = true from decide_eq_true (theres_nil.mpr hm)]
    k_steps
    all_goals (try (exfalso; omega))
    (rename News _ _ _ _ => N6)
    unfold Stop
    refine' moved_pact (ys := ys) (e0 := e0) (r := r) ?B ?F ?X (news_dup N6 ?mem) ?T ?hf ?hk ?hroom ?hun hr ?sub hys rfl ?_
    (case F => k_asm); (case B => k_asm); (case X => k_asm); (case T => k_asm); (case hf => exact rfl); (case hk => exact rfl); (case hroom => k_room); (case hun => k_units)
    (case mem => simp)
    (case sub => intro p hp; simp [hsub p hp])
    intro D T h' tk zs2 e t u F7 N7 R7 Z7
    clear N6
    k_steps
    (rename News _ _ _ _ => N8); (rename Fr _ _ _ _ => F8)
    refine ret D T _ _ zs2 e t u F8 (news_sub N8 ?_) ?_ (fun p hp => Z7 p (by simp [hp]))
    · intro p hp; simp only [List.mem_cons] at hp ⊢; grind
    · unfold laid; rw [Rel.cut_new hl]; exact R7
set_option maxRecDepth 100000 in
set_option maxHeartbeats 4000000 in
theorem laid_full {k i many : Int} {tk0 tv tm : Tok} (hroom2 : dp + 20 < recursionLimit) (hun2 : un + 200 < cLine) (hh : hdl = none) (hm : k ∉ r.map (·.1)) (hl : (r.length : Int) = many)
    (ret : ∀ D T h' tk zs e t u, Fr h₀ L h' m → News h₀ L h' ((D, W.listOf zs.toArray e) :: (T, tupO [.int k t, .int i u] 0) :: rest) → RowIn ((T, tupO [.int k t, .int i u] 0) :: tups) zs (laid many r k i) → (∀ p ∈ rest, p.1 ≠ D) → Q (.ref D) { s with heap := h', toks := tk }) :
    wpAny (model PySem.Challenge.rw_bb0044_01.row.prog w) (kTop hdl dp un gd env outer) (call (.ref 197) [.ref ro, .int many tm, .int k tk0, .int i tv]) Q E s := by
  subst hh
  have hyl := hr.length
  have hsz : ys.toArray.size = r.length := by rw [List.size_toArray]; exact hyl
  refine wpAny_call ?_
  k_dflt cell_enter
  k_steps
  unfold Stop
  refine my_comp_rows rfl (by with_unfolding_all rfl) (by decide) (by with_unfolding_all rfl) (by decide) (by with_unfolding_all rfl) (by intro _; with_unfolding_all rfl) ?_
  refine stop_out ?_
  k_steps
  unfold Stop
  (rename Below _ _ _ _ => B'); (rename Fr _ _ _ _ => F'); (rename News _ _ _ _ => N'); (rename Top _ _ _ _ _ _ => T'); (rename Frag.In _ _ => X')
  have Nr : News h₀ L s.heap tups := fun p hp => N p (.tail _ (hsub p hp))
  refine ⟨_, _, _, _, _, _, _, rfl, F', N', .tail _ (.head _), Nat.le_trans hys (by decide), pf tups fun p => p.1 == k, fun v y => y = v, ?_, ?_, ?_⟩
  · intro C i v s₃ m₃ E' hv hn hx F3 N3
    obtain ⟨p, hp⟩ := rowIn_get hr hv
    have hpf := pf_of Nr (f := fun p => p.1 == k) hp
    obtain ⟨T, t, u, rfl, hT⟩ := hp
    have hT3 : s₃.heap.get? T = some (tupO [.int p.1 t, .int p.2 u] 0) := (N3 _ (.tail _ (.tail _ (hsub _ hT)))).1
    clear F' N' F N Nr
    refine wpAny_tests_one ?_
    refine stop_out ?_
    k_steps
    exact ⟨hpf.symm, s₃.heap, _, rfl, fun _ _ e => e⟩
  · intro C i v s₃ m₃ E' hv hp hn hx F3 N3
    clear F' N' F N Nr
    refine stop_out ?_
    k_steps
    exact ⟨rfl, s₃.heap, _, rfl, fun _ _ e => e⟩
  · intro D2 h2 tk2 zs n2 F2 N2 hP hD2
    have hzs := paired_id hP
    have hrow := rowIn_filter Nr (fun p => p.1 == k) hr
    rw [← hzs] at hrow
    clear F' N' F N Nr hP
    k_steps
    (rename News _ _ _ _ => N5)
    unfold Stop
    refine eq_rows (ys := zs) (zs := []) (n := n2) (n' := 0) (N5 _ (.tail _ (.head _))).1 (rowIn_at N5 (RowIn.mono hrow fun p hp => by simp [hsub p hp])) (N5 _ (.head _)).1 .nil (by k_units) ?_
    rw [show decide (List.filter (fun p => p.1 == k) r = []) = true from decide_eq_true (theres_nil.mpr hm)]
    k_steps
    all_goals (try (exfalso; omega))
    have hsl : slicePick ys.toArray (some 1) none none = (ys.drop 1).toArray := slice_from1 ys
    (rename News _ _ _ _ => N9)
    rw [hsl] at N9
    (rename News _ _ _ _ => N6)
    unfold Stop
    refine' moved_pact (ys := (ys.drop 1)) (e0 := 0) (r := (r.drop 1)) ?B ?F ?X (news_dup N6 ?mem) ?T ?hf ?hk ?hroom ?hun (paired_drop hr 1) ?sub (Nat.le_trans (by rw [List.length_drop]; omega) hys) rfl ?_
    (case F => k_asm); (case B => k_asm); (case X => k_asm); (case T => k_asm); (case hf => exact rfl); (case hk => exact rfl); (case hroom => k_room); (case hun => k_units)
    (case mem => simp)
    (case sub => intro p hp; simp [hsub p hp])
    intro D T h' tk zs2 e t u F7 N7 R7 Z7
    clear N6
    k_steps
    (rename News _ _ _ _ => N8); (rename Fr _ _ _ _ => F8)
    refine ret D T _ _ zs2 e t u F8 (news_sub N8 ?_) ?_ (fun p hp => Z7 p (by simp [hp]))
    · intro p hp; simp only [List.mem_cons] at hp ⊢; grind
    · unfold laid; rw [Rel.cut_full hm hl]; exact R7
end
end
/-! part C3 -/
section
section
variable {prog : Program} {w : World} {A : Around} {E : Value → Shared → Prop} {env : Env}
theorem my_comp_rows_assign {s : Shared} {elt iter : Expr} {x y : Str} {px py : Pos} {ifs : List Expr} {scope : Scope} {cl : List (Str × Addr)} {pos spos : Pos} {Q : Flow → Shared → Prop} (hh : A.handled = none)
    (hsw : swapsWith (.ListComp elt [⟨.Name x px, iter, ifs, 0⟩] scope pos) (some (.Name y py)) spos.line env = pure true)
    (hclos : closureFor scope env = pure cl) (hcell : ∀ z ∈ scope.names, z.2 ≠ .cell) (hkind : scope.kind = .function)
    (hnames : ∀ z ∈ scope.names, z.2 = .local → scope.names.lookup z.1 = some .local) (hx : scope.names.lookup x = some .local)
    (hy : env.kindOf y = some .local) (hp : (env.scope.kind == .class || (env.scope.kind == .module && env.locals != env.globals)) = false)
    (hs : ∀ x, foldedSetIterable iter env x = pure x)
    (h : wpAny (model prog w) A (eval iter env) (fun xv s => ∃ (g : Heap) (m : Str → Option Value) (news : List (Addr × Obj)) (D : Addr) (ys : List Value) (n' : Nat), xv = .ref D ∧ Fr g env.locals s.heap m ∧ News g env.locals s.heap news ∧ (D, W.listOf ys.toArray n') ∈ news ∧ ys.length ≤ 1000 ∧ ∃ (p : Value → Bool) (R : Value → Value → Prop),
      (∀ (C : Addr) (i : Nat) (v : Value) (s₃ : Shared) (m₃ : Str → Option Value) E', ys[i]? = some v → s₃.heap.Ns C m₃ → m₃ x = some v → Fr g env.locals s₃.heap m → News g env.locals s₃.heap news →
        wpAny (model prog w) A (forIn ifs true fun c r => if r = true then do let ok ← isTrue c (compEnvC scope cl C env) (eval c (compEnvC scope cl C env)); pure (ForInStep.yield ok) else pure (ForInStep.yield r))
          (fun ok s₄ => ok = p v ∧ Keeps s₃ s₄) E' s₃) ∧
      (∀ (C : Addr) (i : Nat) (v : Value) (s₃ : Shared) (m₃ : Str → Option Value) E', ys[i]? = some v → p v = true → s₃.heap.Ns C m₃ → m₃ x = some v → Fr g env.locals s₃.heap m → News g env.locals s₃.heap news →
        wpAny (model prog w) A (eval elt (compEnvC scope cl C env)) (fun y s₄ => R v y ∧ Keeps s₃ s₄) E' s₃) ∧
      (∀ (D2 : Addr) (h' : Heap) (tk : Nat) (zs : List Value) (n2 : Nat), Fr g env.locals h' (fun z => if z = y then some (.ref D2) else m z) → News g env.locals h' ((D2, W.listOf zs.toArray n2) :: news) → Paired R (ys.filter p) zs → s.heap.get? D2 = none → Q .next { s with heap := h', toks := tk })) E s) :
    wpAny (model prog w) A (exec (.Assign [.Name y py] (.ListComp elt [⟨.Name x px, iter, ifs, 0⟩] scope pos) spos) env) Q E s := by
  refine my_comp_assign hsw hclos hcell hkind hnames hx hy hp (wpAny_mono h (fun xv s₁ h₁ => ?_) fun _ _ z => z) hs
  obtain ⟨g, m, news, D, ys, n', rfl, F, N, hmem, hz, p, R, htests, helt, hQ⟩ := h₁
  refine wpAny_pyIter_list ⟨_, (N _ hmem).1, rfl, n', rfl⟩ ?_
  have F1 := F.push { cls := .type "list_iterator", data := .fields #[.ref D, .int 0 0] }
  have N1 := News.push F N { cls := .type "list_iterator", data := .fields #[.ref D, .int 0 0] }
  have lI : ∀ p ∈ news, p.1 < s₁.heap.objs.size := fun p hp => Heap.lt_size (N p hp).1
  have up : ∀ b o, s₁.heap.get? b = some o → (s₁.heap.push { cls := .type "list_iterator", data := .fields #[.ref D, .int 0 0] }).get? b = some o := fun b o e => Heap.get?_push_of_some _ e
  dsimp only
  generalize hI : s₁.heap.objs.size = I at *
  generalize s₁.heap.push { cls := .type "list_iterator", data := .fields #[.ref D, .int 0 0] } = H1 at F1 N1 up ⊢
  have nDI : D ≠ I := Nat.ne_of_lt (lI _ hmem)
  have mv : ∀ h3, KeepBut [I] H1 h3 → Fr g env.locals h3 m ∧ News g env.locals h3 news := fun h3 hk =>
      ⟨fr_moved F1 hk (by simpa using (N1 _ (.head _)).2.1.symm) (by simpa using (N1 _ (.head _)).2.2), news_moved (fun p hp => N1 p (.tail _ hp)) hk fun p hp hm => absurd (List.mem_singleton.mp hm) (Nat.ne_of_lt (lI p hp))⟩
  refine ⟨I, [I, D], [I], ys.toArray.size, _, _, p, fun _ _ v y => R v y, m, rfl,
    Walks.list hh I D nDI ys.toArray, by rw [List.size_toArray]; omega, ?_, ⟨⟨_, (N1 _ (.head _)).1, rfl, rfl⟩, ⟨_, (N1 _ (.tail _ hmem)).1, rfl, n', rfl⟩⟩, ?_, ?_, F1.ns, fun _ _ _ _ _ _ h => h, ?_, ?_⟩
  · rintro i h ⟨⟨o, ho, _⟩, _⟩ b hb
    rw [List.mem_singleton.mp hb]
    exact ⟨o, ho⟩
  · intro b hb
    rcases List.mem_cons.mp hb with rfl | hb
    · exact Heap.lt_size (N1 _ (.head _)).1
    · rw [List.mem_singleton.mp hb]; exact Heap.lt_size (N1 _ (.tail _ hmem)).1
  · intro hm
    exact (N1 _ (.head _)).2.1 (List.mem_singleton.mp hm).symm
  · refine ⟨fun _ _ _ _ _ _ h => h, ?_, ?_⟩
    · intro C i v s₃ m₃ E' hP hn hx hk
      exact htests C i v s₃ m₃ E' (by simpa using hP) hn hx (mv _ hk).1 (mv _ hk).2
    · intro C D2 i v s₃ m₃ E' hP hp hn hx hk live
      exact helt C i v s₃ m₃ E' (by simpa using hP) hp hn hx (mv _ hk).1 (mv _ hk).2
  · intro D2 C h3 tk3 ys3 vs3 hD2 hC hpl hlen hP hR hns hkeep
    obtain ⟨n3, hn3⟩ := hpl
    have evs : vs3 = ys := by
      have := PySem.list_of_places (items := ys.toArray) hlen hP
      simpa using this
    subst evs
    have F3 : Fr g env.locals h3 _ := ⟨hns, fun b o e => hkeep b o (fun hm => by
      rcases List.mem_cons.mp hm with rfl | hm
      · exact absurd (Nat.lt_of_lt_of_le (Heap.lt_size e) F1.above) (Nat.lt_irrefl _)
      · rw [List.mem_singleton.mp hm, (N1 _ (.head _)).2.2] at e; cases e) (F1.keep b o e), F1.above⟩
    have N3 : News g env.locals h3 ((D2, W.listOf ys3.toList.toArray n3) :: news) := by
      intro p hp
      rcases List.mem_cons.mp hp with rfl | hp
      · refine ⟨hn3, fun e => ?_, ?_⟩
        · obtain ⟨o, _, _, ho, _⟩ := F1.ns
          rw [show D2 = env.locals from e, ho] at hD2; cases hD2
        · cases e : g.get? D2 with
          | none => rfl
          | some o => rw [F1.keep _ _ e] at hD2; cases hD2
      · have z := N1 p (.tail _ hp)
        refine ⟨hkeep _ _ (fun hm => ?_) z.1, z.2⟩
        rcases List.mem_cons.mp hm with e | hm
        · exact z.2.1 e
        · exact absurd (List.mem_singleton.mp hm) (Nat.ne_of_lt (lI p hp))
    refine hQ D2 h3 tk3 ys3.toList n3 F3 N3 hR ?_
    cases e : s₁.heap.get? D2 with
    | none => rfl
    | some o => have := up _ _ e; rw [hD2] at this; cases this
end
end
/-! part LP -/
section
def TupsOk (tups : List (Addr × Obj)) : Prop := ∀ p ∈ tups, ∃ l, p.2 = tupO l 0
theorem tupsOk_cons {T : Addr} {l : List Value} {tups : List (Addr × Obj)} (h : TupsOk tups) : TupsOk ((T, tupO l 0) :: tups) := fun p hp => by
  rcases List.mem_cons.mp hp with rfl | hp
  · exact ⟨l, rfl⟩
  · exact h p hp
theorem my_allLt {d : Nat} {l : List (Addr × Obj)} (h : AllLt d l) : ∀ p ∈ l, p.1 ≠ d := by
  induction l with
  | nil => intro p hp; cases hp
  | cons a l ih =>
    intro p hp
    obtain ⟨h1, h2⟩ := h
    rcases List.mem_cons.mp hp with rfl | hp
    · exact Nat.ne_of_lt h1
    · exact ih h2 p hp
section
variable {w : World} {s₀ : Shared} {mg mb : Str → Option Value} {hdl : Option Value} {dp un : Nat} {gd : Option (List Code)} {env : Env} {outer : List Env} {A₀ : Around} {base h₀ : Heap} {L : Addr} {m : Str → Option Value} {s : Shared} {Q E : Value → Shared → Prop}
  {ro : Addr} {e0 : Nat} {ys : List Value} {r : List (Int × Int)} {rest tups : List (Addr × Obj)}
  (B : Below A₀ base outer h₀) (F : Fr h₀ L s.heap m) (X : (hd.heap_39 w.params).In h₀)
  (N : News h₀ L s.heap ((ro, W.listOf ys.toArray e0) :: rest))
  (T : Top hd.view_39 (looseW hd.view_39 []) (ExcName.means s₀.heap) mg mb h₀)
  (hf : env.frame = some L) (hk : env.scope.kind = .function) (hroom : dp + 10 < recursionLimit) (hun : un + 80 < cLine)
  (hr : RowIn tups ys r) (hsub : ∀ p ∈ tups, p ∈ rest) (hys : ys.length ≤ 100)
include B F X N T hf hk hroom hun hr hsub hys
theorem laid_pact {k i many : Int} {tk0 tv tm : Tok} (hroom2 : dp + 20 < recursionLimit) (hun2 : un + 200 < cLine) (hh : hdl = none)
    (ret : ∀ D T h' tk zs e t u, Fr h₀ L h' m → News h₀ L h' ((D, W.listOf zs.toArray e) :: (T, tupO [.int k t, .int i u] 0) :: rest) → RowIn ((T, tupO [.int k t, .int i u] 0) :: tups) zs (laid many r k i) → (∀ p ∈ rest, p.1 ≠ D) → Q (.ref D) { s with heap := h', toks := tk }) :
    wpAny (model PySem.Challenge.rw_bb0044_01.row.prog w) (kTop hdl dp un gd env outer) (call (.ref 197) [.ref ro, .int many tm, .int k tk0, .int i tv]) Q E s := by
  by_cases hm : k ∈ r.map (·.1)
  · exact laid_in B F X N T hf hk hroom hun hr hsub hys hroom2 hun2 hh hm ret
  · by_cases hl : (r.length : Int) = many
    · exact laid_full B F X N T hf hk hroom hun hr hsub hys hroom2 hun2 hh hm hl ret
    · exact laid_new B F X N T hf hk hroom hun hr hsub hys hroom2 hun2 hh hm hl ret
end
end
/-! part DU1 -/
section
theorem walk_start_DU1 : True := by
  w_top off
  trivial
local macro_rules | `(tactic| walk_at "a key that no tree has") => `(tactic| skip)
local macro_rules | `(tactic| k_room) => `(tactic| (dsimp only [Around.deeper, Around.mark, Around.in1, Around.under, kTop]; omega))
local macro_rules | `(tactic| k_units) => `(tactic| (have hcL9 := cLine_is; dsimp only [Around.deeper, Around.mark, Around.in1, Around.under, kTop]; omega))
local macro_rules | `(tactic| ktr_room) => `(tactic| (dsimp only [Around.deeper, Around.mark, Around.in1, Around.under, kTop]; omega))
local macro_rules | `(tactic| k_all) => `(tactic| assumption)
local macro_rules | `(tactic| k_ne) => `(tactic| first | assumption | (apply Ne.symm; assumption) | (refine neN ?_; (try dsimp only); omega))
local macro_rules | `(tactic| cell_enter) => `(tactic| (refine' code_def ?k1 ?k2 ?k3 ?k4 ?k5 ?kA ?kF ?kK ?k6 ?k7 ?k8 ?k9 ?kB ?_ ?c2 ?c3 ?c4 ?c5; (case kA => exact rfl); (case kF => assumption); (case kK => assumption); (case k1 => k_asm); (case k2 => k_asm); (case k3 => k_asm); (case k4 => k_asm); (case k5 => k_asm); (case k6 => k_is); (case k7 => k_is); (case k8 => ktr_room); (case k9 => exact BindsTo.of_eq rfl); (case c5 => decide); (case kB => exact locs rfl); (case c2 => exact rfl); (case c3 => exact rfl); (case c4 => exact rfl); k_whole; intro g' L' h' FG' F' N' B' X' T'; (try dsimp only); (try k_lift B'); (try k_fold)))
local macro_rules | `(tactic| cell_enter) => `(tactic| (refine' code_defC ?k1 ?k2 ?k3 ?k4 ?k5 ?kA ?kF ?kK ?k6 ?k7 ?k8 ?k9 ?kB ?kD ?_ ?c2 ?c3 ?c4; (case kA => exact rfl); (case kF => assumption); (case kK => assumption); (case k1 => k_asm); (case k2 => k_asm); (case k3 => k_asm); (case k4 => k_asm); (case k5 => k_asm); (case k6 => k_is); (case k7 => k_is); (case k8 => ktr_room); (case k9 => exact BindsTo.of_eq rfl); (case kB => exact rfl); (case kD => decide +kernel); (case c2 => exact rfl); (case c3 => exact rfl); (case c4 => exact rfl); k_whole; intro g' L' h' tk' cells' FG' F' N' Y' B' X' T' l1; k_cells Y'; (try simp only [List.cons_append, List.nil_append] at N'); (try dsimp only); (try k_lift B'); (try k_fold)))
local macro_rules | `(tactic| walk_at "eval Name") => `(tactic| (k_here; (with_reducible show wpAny _ _ (eval (Expr.Name _ _) (compEnvC _ _ _ _)) _ _ _); k_dflt (refine' c_loc ?n ?v ?_ ?a ?b ?d; (case a => rfl); (case b => rfl); (case d => decide); (case n => assumption); (case v => assumption); k_whole)))
local macro_rules | `(tactic| walk_at "subscriptTail") => `(tactic| (k_here; (with_reducible show wpAny _ _ (subscriptTail _ _ (Value.ref _) (Value.int _ _)) _ _ _); k_dflt (refine' c_name_tup ?t ?lo ?hi ?j ?x ?_ ?a ?b; (case a => with_unfolding_all rfl); (case b => intro _; with_unfolding_all rfl); (case t => assumption); (case lo => decide); (case hi => decide); (case j => rfl); (case x => rfl))))
local macro_rules | `(tactic| walk_at "eval ListComp") => `(tactic| (k_here; refine stopG ?_))
local macro_rules | `(tactic| walk_at "call ref") => `(tactic| (k_here; (show wpAny _ _ (call (Value.ref 192) _) _ _ _); refine stopG ?_))
local macro_rules | `(tactic| walk_at "call ref") => `(tactic| (k_here; (show wpAny _ _ (call (Value.ref 197) _) _ _ _); refine stopG ?_))
local macro_rules | `(tactic| walk_at "compareOp Eq ref ref") => `(tactic| (k_here; (with_reducible show wpAny _ _ (compareOp CmpOp.Eq (Value.ref _) (Value.ref _)) _ _ _); refine stopG ?_))
section
variable {w : World} {s₀ : Shared} {mg mb : Str → Option Value} {hdl : Option Value} {dp un : Nat} {gd : Option (List Code)} {env : Env} {outer : List Env} {A₀ : Around} {base h₀ : Heap} {L : Addr} {m : Str → Option Value} {s : Shared} {Q E : Value → Shared → Prop}
  {ro : Addr} {e0 : Nat} {ys : List Value} {r : List (Int × Int)} {rest tups : List (Addr × Obj)}
  (B : Below A₀ base outer h₀) (F : Fr h₀ L s.heap m) (X : (hd.heap_39 w.params).In h₀)
  (N : News h₀ L s.heap ((ro, W.listOf ys.toArray e0) :: rest))
  (T : Top hd.view_39 (looseW hd.view_39 []) (ExcName.means s₀.heap) mg mb h₀)
  (hf : env.frame = some L) (hk : env.scope.kind = .function) (hroom : dp + 10 < recursionLimit) (hun : un + 80 < cLine)
  (hr : RowIn tups ys r) (hsub : ∀ p ∈ tups, p ∈ rest) (hys : ys.length ≤ 100)
include B F X N T hf hk hroom hun hr hsub hys
set_option maxRecDepth 100000 in
set_option maxHeartbeats 4000000 in
theorem due_0 {k i many : Int} {tk0 tv tm th : Tok} (hroom2 : dp + 30 < recursionLimit) (hun2 : un + 300 < cLine) (hh : hdl = none) (htu : TupsOk tups) 
    (ret : ∀ P D h' tk zs e v tups', Fr h₀ L h' m → News h₀ L h' ((P, tupO [.ref D, v] 0) :: (D, W.listOf zs.toArray e) :: (tups' ++ rest)) → RowIn tups' zs (laid many r k i) → TupsOk tups' → AnsAt v (.txt (Str.ofString "laid")) → (D = ro ∨ ∀ p ∈ rest, p.1 ≠ D) → Q (.ref P) { s with heap := h', toks := tk }) :
    wpAny (model PySem.Challenge.rw_bb0044_01.row.prog w) (kTop hdl dp un gd env outer) (call (.ref 202) [.ref ro, .int many tm, .int 0 th, .int k tk0, .int i tv]) Q E s := by
  subst hh
  have key : ∀ P D h' tk news zs e v tups', Fr h₀ L h' m → News h₀ L h' news → (P, tupO [.ref D, v] 0) ∈ news → (D, W.listOf zs.toArray e) ∈ news → (∀ p ∈ tups', p ∈ news) → (∀ p ∈ rest, p ∈ news) → RowIn tups' zs (laid many r k i) → TupsOk tups' → AnsAt v (.txt (Str.ofString "laid")) → (D = ro ∨ ∀ p ∈ rest, p.1 ≠ D) → Q (.ref P) { s with heap := h', toks := tk } :=
    fun P D h' tk news zs e v tups' F N h1 h2 h3 h4 h5 h6 h7 h8 => ret P D h' tk zs e v tups' F (news_sub N (by intro p hp; simp only [List.mem_cons, List.mem_append] at hp; rcases hp with rfl | rfl | hp | hp <;> first | exact h1 | exact h2 | exact h3 p hp | exact h4 p hp)) h5 h6 h7 h8
  refine wpAny_call ?_
  k_dflt cell_enter
  refine wpAny_execs_cons ?_
  refine my_comp_rows_assign rfl (by with_unfolding_all rfl) (by with_unfolding_all rfl) (by decide) (by with_unfolding_all rfl) (by decide) (by with_unfolding_all rfl) (by with_unfolding_all rfl) (by with_unfolding_all rfl) (by intro _; with_unfolding_all rfl) ?_
  refine stop_out ?_
  k_steps
  unfold Stop
  (rename Below _ _ _ _ => B'); (rename Fr _ _ _ _ => F'); (rename News _ _ _ _ => N'); (rename Top _ _ _ _ _ _ => T'); (rename Frag.In _ _ => X')
  have Nr : News h₀ L s.heap tups := fun p hp => N p (.tail _ (hsub p hp))
  refine ⟨_, _, _, _, _, _, rfl, F', N', .tail _ (.head _), Nat.le_trans hys (by decide), pf tups fun p => p.1 == k, fun v y => ∃ p t, PairIn tups v p ∧ y = .int p.2 t, ?_, ?_, ?_⟩
  · intro C i v s₃ m₃ E' hv hn hx F3 N3
    obtain ⟨p, hp⟩ := rowIn_get hr hv
    have hpf := pf_of Nr (f := fun p => p.1 == k) hp
    obtain ⟨T, t, u, rfl, hT⟩ := hp
    have hT3 : s₃.heap.get? T = some (tupO [.int p.1 t, .int p.2 u] 0) := (N3 _ (.tail _ (.tail _ (hsub _ hT)))).1
    clear F' N' F N Nr
    refine wpAny_tests_one ?_
    refine stop_out ?_
    k_steps
    exact ⟨hpf.symm, s₃.heap, _, rfl, fun _ _ e => e⟩
  · intro C i v s₃ m₃ E' hv hp hn hx F3 N3
    obtain ⟨p, hp⟩ := rowIn_get hr hv
    have hp2 := hp
    obtain ⟨T, t, u, rfl, hT⟩ := hp
    have hT3 : s₃.heap.get? T = some (tupO [.int p.1 t, .int p.2 u] 0) := (N3 _ (.tail _ (.tail _ (hsub _ hT)))).1
    clear F' N' F N Nr
    refine stop_out ?_
    k_steps
    exact ⟨⟨p, u, hp2, rfl⟩, s₃.heap, _, rfl, fun _ _ e => e⟩
  · intro D2 h2 tk2 zs n2 F2 N2 hP hD2
    have hrow := rowIn_filter Nr (fun p => p.1 == k) hr
    have hi := paired_proj Nr (fun p => p.2) hrow hP
    dsimp only [Stop] at *
    clear F' N' hP hrow
    k_steps
    (rename News _ _ _ _ => N6)
    unfold Stop
    refine' laid_pact (ys := ys) (e0 := e0) (r := r) (tups := tups) ?B ?F ?X (news_dup N6 ?mem) ?T ?hf ?hk ?hroom ?hun hr ?sub hys ?r2 ?u2 rfl ?_
    (case F => k_asm); (case B => k_asm); (case X => k_asm); (case T => k_asm); (case hf => exact rfl); (case hk => exact rfl); (case hroom => k_room); (case hun => k_units); (case r2 => k_room); (case u2 => k_units)
    (case mem => simp)
    (case sub => intro p hp; simp [hsub p hp])
    intro D T h' tk zs2 e t u F7 N7 R7 Z7
    clear N6
    k_steps
    (rename News _ _ _ _ => N8); (rename Fr _ _ _ _ => F8)
    exact key _ D _ _ _ zs2 e _ ((T, tupO [.int k t, .int i u] 0) :: tups) F8 N8 (.head _) (by simp) (by intro p hp; simp only [List.mem_cons] at hp ⊢; first | (have := hsub p; grind) | grind) (by intro p hp; simp [hp]) R7 (tupsOk_cons htu) (rfl) (.inr fun p hp => Z7 p (by simp [hp]))
set_option maxRecDepth 100000 in
set_option maxHeartbeats 4000000 in
theorem due_1h {k i many : Int} {tk0 tv tm th : Tok} (hroom2 : dp + 30 < recursionLimit) (hun2 : un + 300 < cLine) (hh : hdl = none) (htu : TupsOk tups) {j : Int} {js : List Int} (hj : (theres r k).map (·.2) = j :: js)
    (ret : ∀ P D h' tk zs e v tups', Fr h₀ L h' m → News h₀ L h' ((P, tupO [.ref D, v] 0) :: (D, W.listOf zs.toArray e) :: (tups' ++ rest)) → RowIn tups' zs (moved r k j) → TupsOk tups' → AnsAt v (.num j) → (D = ro ∨ ∀ p ∈ rest, p.1 ≠ D) → Q (.ref P) { s with heap := h', toks := tk }) :
    wpAny (model PySem.Challenge.rw_bb0044_01.row.prog w) (kTop hdl dp un gd env outer) (call (.ref 202) [.ref ro, .int many tm, .int 1 th, .int k tk0, .int i tv]) Q E s := by
  subst hh
  have key : ∀ P D h' tk news zs e v tups', Fr h₀ L h' m → News h₀ L h' news → (P, tupO [.ref D, v] 0) ∈ news → (D, W.listOf zs.toArray e) ∈ news → (∀ p ∈ tups', p ∈ news) → (∀ p ∈ rest, p ∈ news) → RowIn tups' zs (moved r k j) → TupsOk tups' → AnsAt v (.num j) → (D = ro ∨ ∀ p ∈ rest, p.1 ≠ D) → Q (.ref P) { s with heap := h', toks := tk } :=
    fun P D h' tk news zs e v tups' F N h1 h2 h3 h4 h5 h6 h7 h8 => ret P D h' tk zs e v tups' F (news_sub N (by intro p hp; simp only [List.mem_cons, List.mem_append] at hp; rcases hp with rfl | rfl | hp | hp <;> first | exact h1 | exact h2 | exact h3 p hp | exact h4 p hp)) h5 h6 h7 h8
  refine wpAny_call ?_
  k_dflt cell_enter
  refine wpAny_execs_cons ?_
  refine my_comp_rows_assign rfl (by with_unfolding_all rfl) (by with_unfolding_all rfl) (by decide) (by with_unfolding_all rfl) (by decide) (by with_unfolding_all rfl) (by with_unfolding_all rfl) (by with_unfolding_all rfl) (by intro _; with_unfolding_all rfl) ?_
  refine stop_out ?_
  k_steps
  unfold Stop
  (rename Below _ _ _ _ => B'); (rename Fr _ _ _ _ => F'); (rename News _ _ _ _ => N'); (rename Top _ _ _ _ _ _ => T'); (rename Frag.In _ _ => X')
  have Nr : News h₀ L s.heap tups := fun p hp => N p (.tail _ (hsub p hp))
  refine ⟨_, _, _, _, _, _, rfl, F', N', .tail _ (.head _), Nat.le_trans hys (by decide), pf tups fun p => p.1 == k, fun v y => ∃ p t, PairIn tups v p ∧ y = .int p.2 t, ?_, ?_, ?_⟩
  · intro C i v s₃ m₃ E' hv hn hx F3 N3
    obtain ⟨p, hp⟩ := rowIn_get hr hv
    have hpf := pf_of Nr (f := fun p => p.1 == k) hp
    obtain ⟨T, t, u, rfl, hT⟩ := hp
    have hT3 : s₃.heap.get? T = some (tupO [.int p.1 t, .int p.2 u] 0) := (N3 _ (.tail _ (.tail _ (hsub _ hT)))).1
    clear F' N' F N Nr
    refine wpAny_tests_one ?_
    refine stop_out ?_
    k_steps
    exact ⟨hpf.symm, s₃.heap, _, rfl, fun _ _ e => e⟩
  · intro C i v s₃ m₃ E' hv hp hn hx F3 N3
    obtain ⟨p, hp⟩ := rowIn_get hr hv
    have hp2 := hp
    obtain ⟨T, t, u, rfl, hT⟩ := hp
    have hT3 : s₃.heap.get? T = some (tupO [.int p.1 t, .int p.2 u] 0) := (N3 _ (.tail _ (.tail _ (hsub _ hT)))).1
    clear F' N' F N Nr
    refine stop_out ?_
    k_steps
    exact ⟨⟨p, u, hp2, rfl⟩, s₃.heap, _, rfl, fun _ _ e => e⟩
  · intro D2 h2 tk2 zs n2 F2 N2 hP hD2
    have hrow := rowIn_filter Nr (fun p => p.1 == k) hr
    have hi := paired_proj Nr (fun p => p.2) hrow hP
    dsimp only [Stop] at *
    clear F' N' hP hrow
    change IntsAre zs ((theres r k).map (·.2)) at hi
    rw [hj] at hi
    cases hi with
    | @cons _ tj zs' _ hi =>
    k_steps
    all_goals (try (have hq : decide (j :: js = []) = true := by assumption
                    simp at hq; done))
    (rename News _ _ _ _ => N6)
    unfold Stop
    refine' moved_pact (ys := ys) (e0 := e0) (r := r) (tups := tups) ?B ?F ?X (news_dup N6 ?mem) ?T ?hf ?hk ?hroom ?hun hr ?sub hys  rfl ?_
    (case F => k_asm); (case B => k_asm); (case X => k_asm); (case T => k_asm); (case hf => exact rfl); (case hk => exact rfl); (case hroom => k_room); (case hun => k_units)
    (case mem => simp)
    (case sub => intro p hp; simp [hsub p hp])
    intro D T h' tk zs2 e t u F7 N7 R7 Z7
    clear N6
    k_steps
    (rename News _ _ _ _ => N8); (rename Fr _ _ _ _ => F8)
    exact key _ D _ _ _ zs2 e _ ((T, tupO [.int k t, .int j u] 0) :: tups) F8 N8 (.head _) (by simp) (by intro p hp; simp only [List.mem_cons] at hp ⊢; first | (have := hsub p; grind) | grind) (by intro p hp; simp [hp]) R7 (tupsOk_cons htu) (rfl) (.inr fun p hp => Z7 p (by simp [hp]))
set_option maxRecDepth 100000 in
set_option maxHeartbeats 4000000 in
theorem due_2h {k i many : Int} {tk0 tv tm th : Tok} (hroom2 : dp + 30 < recursionLimit) (hun2 : un + 300 < cLine) (hh : hdl = none) (htu : TupsOk tups) {j : Int} {js : List Int} (hj : (theres r k).map (·.2) = j :: js)
    (ret : ∀ P D h' tk zs e v tups', Fr h₀ L h' m → News h₀ L h' ((P, tupO [.ref D, v] 0) :: (D, W.listOf zs.toArray e) :: (tups' ++ rest)) → RowIn tups' zs (moved r k j) → TupsOk tups' → AnsAt v (.num j) → (D = ro ∨ ∀ p ∈ rest, p.1 ≠ D) → Q (.ref P) { s with heap := h', toks := tk }) :
    wpAny (model PySem.Challenge.rw_bb0044_01.row.prog w) (kTop hdl dp un gd env outer) (call (.ref 202) [.ref ro, .int many tm, .int 2 th, .int k tk0, .int i tv]) Q E s := by
  subst hh
  have key : ∀ P D h' tk news zs e v tups', Fr h₀ L h' m → News h₀ L h' news → (P, tupO [.ref D, v] 0) ∈ news → (D, W.listOf zs.toArray e) ∈ news → (∀ p ∈ tups', p ∈ news) → (∀ p ∈ rest, p ∈ news) → RowIn tups' zs (moved r k j) → TupsOk tups' → AnsAt v (.num j) → (D = ro ∨ ∀ p ∈ rest, p.1 ≠ D) → Q (.ref P) { s with heap := h', toks := tk } :=
    fun P D h' tk news zs e v tups' F N h1 h2 h3 h4 h5 h6 h7 h8 => ret P D h' tk zs e v tups' F (news_sub N (by intro p hp; simp only [List.mem_cons, List.mem_append] at hp; rcases hp with rfl | rfl | hp | hp <;> first | exact h1 | exact h2 | exact h3 p hp | exact h4 p hp)) h5 h6 h7 h8
  refine wpAny_call ?_
  k_dflt cell_enter
  refine wpAny_execs_cons ?_
  refine my_comp_rows_assign rfl (by with_unfolding_all rfl) (by with_unfolding_all rfl) (by decide) (by with_unfolding_all rfl) (by decide) (by with_unfolding_all rfl) (by with_unfolding_all rfl) (by with_unfolding_all rfl) (by intro _; with_unfolding_all rfl) ?_
  refine stop_out ?_
  k_steps
  unfold Stop
  (rename Below _ _ _ _ => B'); (rename Fr _ _ _ _ => F'); (rename News _ _ _ _ => N'); (rename Top _ _ _ _ _ _ => T'); (rename Frag.In _ _ => X')
  have Nr : News h₀ L s.heap tups := fun p hp => N p (.tail _ (hsub p hp))
  refine ⟨_, _, _, _, _, _, rfl, F', N', .tail _ (.head _), Nat.le_trans hys (by decide), pf tups fun p => p.1 == k, fun v y => ∃ p t, PairIn tups v p ∧ y = .int p.2 t, ?_, ?_, ?_⟩
  · intro C i v s₃ m₃ E' hv hn hx F3 N3
    obtain ⟨p, hp⟩ := rowIn_get hr hv
    have hpf := pf_of Nr (f := fun p => p.1 == k) hp
    obtain ⟨T, t, u, rfl, hT⟩ := hp
    have hT3 : s₃.heap.get? T = some (tupO [.int p.1 t, .int p.2 u] 0) := (N3 _ (.tail _ (.tail _ (hsub _ hT)))).1
    clear F' N' F N Nr
    refine wpAny_tests_one ?_
    refine stop_out ?_
    k_steps
    exact ⟨hpf.symm, s₃.heap, _, rfl, fun _ _ e => e⟩
  · intro C i v s₃ m₃ E' hv hp hn hx F3 N3
    obtain ⟨p, hp⟩ := rowIn_get hr hv
    have hp2 := hp
    obtain ⟨T, t, u, rfl, hT⟩ := hp
    have hT3 : s₃.heap.get? T = some (tupO [.int p.1 t, .int p.2 u] 0) := (N3 _ (.tail _ (.tail _ (hsub _ hT)))).1
    clear F' N' F N Nr
    refine stop_out ?_
    k_steps
    exact ⟨⟨p, u, hp2, rfl⟩, s₃.heap, _, rfl, fun _ _ e => e⟩
  · intro D2 h2 tk2 zs n2 F2 N2 hP hD2
    have hrow := rowIn_filter Nr (fun p => p.1 == k) hr
    have hi := paired_proj Nr (fun p => p.2) hrow hP
    dsimp only [Stop] at *
    clear F' N' hP hrow
    change IntsAre zs ((theres r k).map (·.2)) at hi
    rw [hj] at hi
    cases hi with
    | @cons _ tj zs' _ hi =>
    k_steps
    all_goals (try (have hq : decide (j :: js = []) = true := by assumption
                    simp at hq; done))
    (rename News _ _ _ _ => N6)
    unfold Stop
    refine' moved_pact (ys := ys) (e0 := e0) (r := r) (tups := tups) ?B ?F ?X (news_dup N6 ?mem) ?T ?hf ?hk ?hroom ?hun hr ?sub hys  rfl ?_
    (case F => k_asm); (case B => k_asm); (case X => k_asm); (case T => k_asm); (case hf => exact rfl); (case hk => exact rfl); (case hroom => k_room); (case hun => k_units)
    (case mem => simp)
    (case sub => intro p hp; simp [hsub p hp])
    intro D T h' tk zs2 e t u F7 N7 R7 Z7
    clear N6
    k_steps
    (rename News _ _ _ _ => N8); (rename Fr _ _ _ _ => F8)
    exact key _ D _ _ _ zs2 e _ ((T, tupO [.int k t, .int j u] 0) :: tups) F8 N8 (.head _) (by simp) (by intro p hp; simp only [List.mem_cons] at hp ⊢; first | (have := hsub p; grind) | grind) (by intro p hp; simp [hp]) R7 (tupsOk_cons htu) (rfl) (.inr fun p hp => Z7 p (by simp [hp]))
set_option maxRecDepth 100000 in
set_option maxHeartbeats 4000000 in
theorem due_3h {k i many : Int} {tk0 tv tm th : Tok} (hroom2 : dp + 30 < recursionLimit) (hun2 : un + 300 < cLine) (hh : hdl = none) (htu : TupsOk tups) {j : Int} {js : List Int} (hj : (theres r k).map (·.2) = j :: js)
    (ret : ∀ P D h' tk zs e v tups', Fr h₀ L h' m → News h₀ L h' ((P, tupO [.ref D, v] 0) :: (D, W.listOf zs.toArray e) :: (tups' ++ rest)) → RowIn tups' zs (moved r k j) → TupsOk tups' → AnsAt v (.num j) → (D = ro ∨ ∀ p ∈ rest, p.1 ≠ D) → Q (.ref P) { s with heap := h', toks := tk }) :
    wpAny (model PySem.Challenge.rw_bb0044_01.row.prog w) (kTop hdl dp un gd env outer) (call (.ref 202) [.ref ro, .int many tm, .int 3 th, .int k tk0, .int i tv]) Q E s := by
  subst hh
  have key : ∀ P D h' tk news zs e v tups', Fr h₀ L h' m → News h₀ L h' news → (P, tupO [.ref D, v] 0) ∈ news → (D, W.listOf zs.toArray e) ∈ news → (∀ p ∈ tups', p ∈ news) → (∀ p ∈ rest, p ∈ news) → RowIn tups' zs (moved r k j) → TupsOk tups' → AnsAt v (.num j) → (D = ro ∨ ∀ p ∈ rest, p.1 ≠ D) → Q (.ref P) { s with heap := h', toks := tk } :=
    fun P D h' tk news zs e v tups' F N h1 h2 h3 h4 h5 h6 h7 h8 => ret P D h' tk zs e v tups' F (news_sub N (by intro p hp; simp only [List.mem_cons, List.mem_append] at hp; rcases hp with rfl | rfl | hp | hp <;> first | exact h1 | exact h2 | exact h3 p hp | exact h4 p hp)) h5 h6 h7 h8
  refine wpAny_call ?_
  k_dflt cell_enter
  refine wpAny_execs_cons ?_
  refine my_comp_rows_assign rfl (by with_unfolding_all rfl) (by with_unfolding_all rfl) (by decide) (by with_unfolding_all rfl) (by decide) (by with_unfolding_all rfl) (by with_unfolding_all rfl) (by with_unfolding_all rfl) (by intro _; with_unfolding_all rfl) ?_
  refine stop_out ?_
  k_steps
  unfold Stop
  (rename Below _ _ _ _ => B'); (rename Fr _ _ _ _ => F'); (rename News _ _ _ _ => N'); (rename Top _ _ _ _ _ _ => T'); (rename Frag.In _ _ => X')
  have Nr : News h₀ L s.heap tups := fun p hp => N p (.tail _ (hsub p hp))
  refine ⟨_, _, _, _, _, _, rfl, F', N', .tail _ (.head _), Nat.le_trans hys (by decide), pf tups fun p => p.1 == k, fun v y => ∃ p t, PairIn tups v p ∧ y = .int p.2 t, ?_, ?_, ?_⟩
  · intro C i v s₃ m₃ E' hv hn hx F3 N3
    obtain ⟨p, hp⟩ := rowIn_get hr hv
    have hpf := pf_of Nr (f := fun p => p.1 == k) hp
    obtain ⟨T, t, u, rfl, hT⟩ := hp
    have hT3 : s₃.heap.get? T = some (tupO [.int p.1 t, .int p.2 u] 0) := (N3 _ (.tail _ (.tail _ (hsub _ hT)))).1
    clear F' N' F N Nr
    refine wpAny_tests_one ?_
    refine stop_out ?_
    k_steps
    exact ⟨hpf.symm, s₃.heap, _, rfl, fun _ _ e => e⟩
  · intro C i v s₃ m₃ E' hv hp hn hx F3 N3
    obtain ⟨p, hp⟩ := rowIn_get hr hv
    have hp2 := hp
    obtain ⟨T, t, u, rfl, hT⟩ := hp
    have hT3 : s₃.heap.get? T = some (tupO [.int p.1 t, .int p.2 u] 0) := (N3 _ (.tail _ (.tail _ (hsub _ hT)))).1
    clear F' N' F N Nr
    refine stop_out ?_
    k_steps
    exact ⟨⟨p, u, hp2, rfl⟩, s₃.heap, _, rfl, fun _ _ e => e⟩
  · intro D2 h2 tk2 zs n2 F2 N2 hP hD2
    have hrow := rowIn_filter Nr (fun p => p.1 == k) hr
    have hi := paired_proj Nr (fun p => p.2) hrow hP
    dsimp only [Stop] at *
    clear F' N' hP hrow
    change IntsAre zs ((theres r k).map (·.2)) at hi
    rw [hj] at hi
    cases hi with
    | @cons _ tj zs' _ hi =>
    k_steps
    all_goals (try (have hq : decide (j :: js = []) = true := by assumption
                    simp at hq; done))
    (rename News _ _ _ _ => N6)
    unfold Stop
    refine' moved_pact (ys := ys) (e0 := e0) (r := r) (tups := tups) ?B ?F ?X (news_dup N6 ?mem) ?T ?hf ?hk ?hroom ?hun hr ?sub hys  rfl ?_
    (case F => k_asm); (case B => k_asm); (case X => k_asm); (case T => k_asm); (case hf => exact rfl); (case hk => exact rfl); (case hroom => k_room); (case hun => k_units)
    (case mem => simp)
    (case sub => intro p hp; simp [hsub p hp])
    intro D T h' tk zs2 e t u F7 N7 R7 Z7
    clear N6
    k_steps
    (rename News _ _ _ _ => N8); (rename Fr _ _ _ _ => F8)
    exact key _ D _ _ _ zs2 e _ ((T, tupO [.int k t, .int j u] 0) :: tups) F8 N8 (.head _) (by simp) (by intro p hp; simp only [List.mem_cons] at hp ⊢; first | (have := hsub p; grind) | grind) (by intro p hp; simp [hp]) R7 (tupsOk_cons htu) (rfl) (.inr fun p hp => Z7 p (by simp [hp]))
set_option maxRecDepth 100000 in
set_option maxHeartbeats 4000000 in
theorem due_1m {k i many : Int} {tk0 tv tm th : Tok} (hroom2 : dp + 30 < recursionLimit) (hun2 : un + 300 < cLine) (hh : hdl = none) (htu : TupsOk tups) (hj : (theres r k).map (·.2) = [])
    (ret : ∀ P D h' tk zs e v tups', Fr h₀ L h' m → News h₀ L h' ((P, tupO [.ref D, v] 0) :: (D, W.listOf zs.toArray e) :: (tups' ++ rest)) → RowIn tups' zs (r) → TupsOk tups' → AnsAt v (.txt (Str.ofString "missing")) → (D = ro ∨ ∀ p ∈ rest, p.1 ≠ D) → Q (.ref P) { s with heap := h', toks := tk }) :
    wpAny (model PySem.Challenge.rw_bb0044_01.row.prog w) (kTop hdl dp un gd env outer) (call (.ref 202) [.ref ro, .int many tm, .int 1 th, .int k tk0, .int i tv]) Q E s := by
  subst hh
  have key : ∀ P D h' tk news zs e v tups', Fr h₀ L h' m → News h₀ L h' news → (P, tupO [.ref D, v] 0) ∈ news → (D, W.listOf zs.toArray e) ∈ news → (∀ p ∈ tups', p ∈ news) → (∀ p ∈ rest, p ∈ news) → RowIn tups' zs (r) → TupsOk tups' → AnsAt v (.txt (Str.ofString "missing")) → (D = ro ∨ ∀ p ∈ rest, p.1 ≠ D) → Q (.ref P) { s with heap := h', toks := tk } :=
    fun P D h' tk news zs e v tups' F N h1 h2 h3 h4 h5 h6 h7 h8 => ret P D h' tk zs e v tups' F (news_sub N (by intro p hp; simp only [List.mem_cons, List.mem_append] at hp; rcases hp with rfl | rfl | hp | hp <;> first | exact h1 | exact h2 | exact h3 p hp | exact h4 p hp)) h5 h6 h7 h8
  refine wpAny_call ?_
  k_dflt cell_enter
  refine wpAny_execs_cons ?_
  refine my_comp_rows_assign rfl (by with_unfolding_all rfl) (by with_unfolding_all rfl) (by decide) (by with_unfolding_all rfl) (by decide) (by with_unfolding_all rfl) (by with_unfolding_all rfl) (by with_unfolding_all rfl) (by intro _; with_unfolding_all rfl) ?_
  refine stop_out ?_
  k_steps
  unfold Stop
  (rename Below _ _ _ _ => B'); (rename Fr _ _ _ _ => F'); (rename News _ _ _ _ => N'); (rename Top _ _ _ _ _ _ => T'); (rename Frag.In _ _ => X')
  have Nr : News h₀ L s.heap tups := fun p hp => N p (.tail _ (hsub p hp))
  refine ⟨_, _, _, _, _, _, rfl, F', N', .tail _ (.head _), Nat.le_trans hys (by decide), pf tups fun p => p.1 == k, fun v y => ∃ p t, PairIn tups v p ∧ y = .int p.2 t, ?_, ?_, ?_⟩
  · intro C i v s₃ m₃ E' hv hn hx F3 N3
    obtain ⟨p, hp⟩ := rowIn_get hr hv
    have hpf := pf_of Nr (f := fun p => p.1 == k) hp
    obtain ⟨T, t, u, rfl, hT⟩ := hp
    have hT3 : s₃.heap.get? T = some (tupO [.int p.1 t, .int p.2 u] 0) := (N3 _ (.tail _ (.tail _ (hsub _ hT)))).1
    clear F' N' F N Nr
    refine wpAny_tests_one ?_
    refine stop_out ?_
    k_steps
    exact ⟨hpf.symm, s₃.heap, _, rfl, fun _ _ e => e⟩
  · intro C i v s₃ m₃ E' hv hp hn hx F3 N3
    obtain ⟨p, hp⟩ := rowIn_get hr hv
    have hp2 := hp
    obtain ⟨T, t, u, rfl, hT⟩ := hp
    have hT3 : s₃.heap.get? T = some (tupO [.int p.1 t, .int p.2 u] 0) := (N3 _ (.tail _ (.tail _ (hsub _ hT)))).1
    clear F' N' F N Nr
    refine stop_out ?_
    k_steps
    exact ⟨⟨p, u, hp2, rfl⟩, s₃.heap, _, rfl, fun _ _ e => e⟩
  · intro D2 h2 tk2 zs n2 F2 N2 hP hD2
    have hrow := rowIn_filter Nr (fun p => p.1 == k) hr
    have hi := paired_proj Nr (fun p => p.2) hrow hP
    dsimp only [Stop] at *
    clear F' N' hP hrow
    change IntsAre zs ((theres r k).map (·.2)) at hi
    rw [hj] at hi
    cases hi
    k_steps
    (rename News _ _ _ _ => N8); (rename Fr _ _ _ _ => F8)
    exact key _ ro _ _ _ ys e0 _ tups F8 N8 (.head _) (by simp) (by intro p hp; simp only [List.mem_cons] at hp ⊢; first | (have := hsub p; grind) | grind) (by intro p hp; simp [hp]) hr htu (rfl) (.inl rfl)
set_option maxRecDepth 100000 in
set_option maxHeartbeats 4000000 in
theorem due_2m {k i many : Int} {tk0 tv tm th : Tok} (hroom2 : dp + 30 < recursionLimit) (hun2 : un + 300 < cLine) (hh : hdl = none) (htu : TupsOk tups) (hj : (theres r k).map (·.2) = [])
    (ret : ∀ P D h' tk zs e v tups', Fr h₀ L h' m → News h₀ L h' ((P, tupO [.ref D, v] 0) :: (D, W.listOf zs.toArray e) :: (tups' ++ rest)) → RowIn tups' zs (r) → TupsOk tups' → AnsAt v (.num i) → (D = ro ∨ ∀ p ∈ rest, p.1 ≠ D) → Q (.ref P) { s with heap := h', toks := tk }) :
    wpAny (model PySem.Challenge.rw_bb0044_01.row.prog w) (kTop hdl dp un gd env outer) (call (.ref 202) [.ref ro, .int many tm, .int 2 th, .int k tk0, .int i tv]) Q E s := by
  subst hh
  have key : ∀ P D h' tk news zs e v tups', Fr h₀ L h' m → News h₀ L h' news → (P, tupO [.ref D, v] 0) ∈ news → (D, W.listOf zs.toArray e) ∈ news → (∀ p ∈ tups', p ∈ news) → (∀ p ∈ rest, p ∈ news) → RowIn tups' zs (r) → TupsOk tups' → AnsAt v (.num i) → (D = ro ∨ ∀ p ∈ rest, p.1 ≠ D) → Q (.ref P) { s with heap := h', toks := tk } :=
    fun P D h' tk news zs e v tups' F N h1 h2 h3 h4 h5 h6 h7 h8 => ret P D h' tk zs e v tups' F (news_sub N (by intro p hp; simp only [List.mem_cons, List.mem_append] at hp; rcases hp with rfl | rfl | hp | hp <;> first | exact h1 | exact h2 | exact h3 p hp | exact h4 p hp)) h5 h6 h7 h8
  refine wpAny_call ?_
  k_dflt cell_enter
  refine wpAny_execs_cons ?_
  refine my_comp_rows_assign rfl (by with_unfolding_all rfl) (by with_unfolding_all rfl) (by decide) (by with_unfolding_all rfl) (by decide) (by with_unfolding_all rfl) (by with_unfolding_all rfl) (by with_unfolding_all rfl) (by intro _; with_unfolding_all rfl) ?_
  refine stop_out ?_
  k_steps
  unfold Stop
  (rename Below _ _ _ _ => B'); (rename Fr _ _ _ _ => F'); (rename News _ _ _ _ => N'); (rename Top _ _ _ _ _ _ => T'); (rename Frag.In _ _ => X')
  have Nr : News h₀ L s.heap tups := fun p hp => N p (.tail _ (hsub p hp))
  refine ⟨_, _, _, _, _, _, rfl, F', N', .tail _ (.head _), Nat.le_trans hys (by decide), pf tups fun p => p.1 == k, fun v y => ∃ p t, PairIn tups v p ∧ y = .int p.2 t, ?_, ?_, ?_⟩
  · intro C i v s₃ m₃ E' hv hn hx F3 N3
    obtain ⟨p, hp⟩ := rowIn_get hr hv
    have hpf := pf_of Nr (f := fun p => p.1 == k) hp
    obtain ⟨T, t, u, rfl, hT⟩ := hp
    have hT3 : s₃.heap.get? T = some (tupO [.int p.1 t, .int p.2 u] 0) := (N3 _ (.tail _ (.tail _ (hsub _ hT)))).1
    clear F' N' F N Nr
    refine wpAny_tests_one ?_
    refine stop_out ?_
    k_steps
    exact ⟨hpf.symm, s₃.heap, _, rfl, fun _ _ e => e⟩
  · intro C i v s₃ m₃ E' hv hp hn hx F3 N3
    obtain ⟨p, hp⟩ := rowIn_get hr hv
    have hp2 := hp
    obtain ⟨T, t, u, rfl, hT⟩ := hp
    have hT3 : s₃.heap.get? T = some (tupO [.int p.1 t, .int p.2 u] 0) := (N3 _ (.tail _ (.tail _ (hsub _ hT)))).1
    clear F' N' F N Nr
    refine stop_out ?_
    k_steps
    exact ⟨⟨p, u, hp2, rfl⟩, s₃.heap, _, rfl, fun _ _ e => e⟩
  · intro D2 h2 tk2 zs n2 F2 N2 hP hD2
    have hrow := rowIn_filter Nr (fun p => p.1 == k) hr
    have hi := paired_proj Nr (fun p => p.2) hrow hP
    dsimp only [Stop] at *
    clear F' N' hP hrow
    change IntsAre zs ((theres r k).map (·.2)) at hi
    rw [hj] at hi
    cases hi
    k_steps
    (rename News _ _ _ _ => N8); (rename Fr _ _ _ _ => F8)
    exact key _ ro _ _ _ ys e0 _ tups F8 N8 (.head _) (by simp) (by intro p hp; simp only [List.mem_cons] at hp ⊢; first | (have := hsub p; grind) | grind) (by intro p hp; simp [hp]) hr htu (rfl) (.inl rfl)
set_option maxRecDepth 100000 in
set_option maxHeartbeats 4000000 in
theorem due_3m {k i many : Int} {tk0 tv tm th : Tok} (hroom2 : dp + 30 < recursionLimit) (hun2 : un + 300 < cLine) (hh : hdl = none) (htu : TupsOk tups) (hj : (theres r k).map (·.2) = [])
    (ret : ∀ P D h' tk zs e v tups', Fr h₀ L h' m → News h₀ L h' ((P, tupO [.ref D, v] 0) :: (D, W.listOf zs.toArray e) :: (tups' ++ rest)) → RowIn tups' zs (laid many r k i) → TupsOk tups' → AnsAt v (.num i) → (D = ro ∨ ∀ p ∈ rest, p.1 ≠ D) → Q (.ref P) { s with heap := h', toks := tk }) :
    wpAny (model PySem.Challenge.rw_bb0044_01.row.prog w) (kTop hdl dp un gd env outer) (call (.ref 202) [.ref ro, .int many tm, .int 3 th, .int k tk0, .int i tv]) Q E s := by
  subst hh
  have key : ∀ P D h' tk news zs e v tups', Fr h₀ L h' m → News h₀ L h' news → (P, tupO [.ref D, v] 0) ∈ news → (D, W.listOf zs.toArray e) ∈ news → (∀ p ∈ tups', p ∈ news) → (∀ p ∈ rest, p ∈ news) → RowIn tups' zs (laid many r k i) → TupsOk tups' → AnsAt v (.num i) → (D = ro ∨ ∀ p ∈ rest, p.1 ≠ D) → Q (.ref P) { s with heap := h', toks := tk } :=
    fun P D h' tk news zs e v tups' F N h1 h2 h3 h4 h5 h6 h7 h8 => ret P D h' tk zs e v tups' F (news_sub N (by intro p hp; simp only [List.mem_cons, List.mem_append] at hp; rcases hp with rfl | rfl | hp | hp <;> first | exact h1 | exact h2 | exact h3 p hp | exact h4 p hp)) h5 h6 h7 h8
  refine wpAny_call ?_
  k_dflt cell_enter
  refine wpAny_execs_cons ?_
  refine my_comp_rows_assign rfl (by with_unfolding_all rfl) (by with_unfolding_all rfl) (by decide) (by with_unfolding_all rfl) (by decide) (by with_unfolding_all rfl) (by with_unfolding_all rfl) (by with_unfolding_all rfl) (by intro _; with_unfolding_all rfl) ?_
  refine stop_out ?_
  k_steps
  unfold Stop
  (rename Below _ _ _ _ => B'); (rename Fr _ _ _ _ => F'); (rename News _ _ _ _ => N'); (rename Top _ _ _ _ _ _ => T'); (rename Frag.In _ _ => X')
  have Nr : News h₀ L s.heap tups := fun p hp => N p (.tail _ (hsub p hp))
  refine ⟨_, _, _, _, _, _, rfl, F', N', .tail _ (.head _), Nat.le_trans hys (by decide), pf tups fun p => p.1 == k, fun v y => ∃ p t, PairIn tups v p ∧ y = .int p.2 t, ?_, ?_, ?_⟩
  · intro C i v s₃ m₃ E' hv hn hx F3 N3
    obtain ⟨p, hp⟩ := rowIn_get hr hv
    have hpf := pf_of Nr (f := fun p => p.1 == k) hp
    obtain ⟨T, t, u, rfl, hT⟩ := hp
    have hT3 : s₃.heap.get? T = some (tupO [.int p.1 t, .int p.2 u] 0) := (N3 _ (.tail _ (.tail _ (hsub _ hT)))).1
    clear F' N' F N Nr
    refine wpAny_tests_one ?_
    refine stop_out ?_
    k_steps
    exact ⟨hpf.symm, s₃.heap, _, rfl, fun _ _ e => e⟩
  · intro C i v s₃ m₃ E' hv hp hn hx F3 N3
    obtain ⟨p, hp⟩ := rowIn_get hr hv
    have hp2 := hp
    obtain ⟨T, t, u, rfl, hT⟩ := hp
    have hT3 : s₃.heap.get? T = some (tupO [.int p.1 t, .int p.2 u] 0) := (N3 _ (.tail _ (.tail _ (hsub _ hT)))).1
    clear F' N' F N Nr
    refine stop_out ?_
    k_steps
    exact ⟨⟨p, u, hp2, rfl⟩, s₃.heap, _, rfl, fun _ _ e => e⟩
  · intro D2 h2 tk2 zs n2 F2 N2 hP hD2
    have hrow := rowIn_filter Nr (fun p => p.1 == k) hr
    have hi := paired_proj Nr (fun p => p.2) hrow hP
    dsimp only [Stop] at *
    clear F' N' hP hrow
    change IntsAre zs ((theres r k).map (·.2)) at hi
    rw [hj] at hi
    cases hi
    k_steps
    (rename News _ _ _ _ => N6)
    unfold Stop
    refine' laid_pact (ys := ys) (e0 := e0) (r := r) (tups := tups) ?B ?F ?X (news_dup N6 ?mem) ?T ?hf ?hk ?hroom ?hun hr ?sub hys ?r2 ?u2 rfl ?_
    (case F => k_asm); (case B => k_asm); (case X => k_asm); (case T => k_asm); (case hf => exact rfl); (case hk => exact rfl); (case hroom => k_room); (case hun => k_units); (case r2 => k_room); (case u2 => k_units)
    (case mem => simp)
    (case sub => intro p hp; simp [hsub p hp])
    intro D T h' tk zs2 e t u F7 N7 R7 Z7
    clear N6
    k_steps
    (rename News _ _ _ _ => N8); (rename Fr _ _ _ _ => F8)
    exact key _ D _ _ _ zs2 e _ ((T, tupO [.int k t, .int i u] 0) :: tups) F8 N8 (.head _) (by simp) (by intro p hp; simp only [List.mem_cons] at hp ⊢; first | (have := hsub p; grind) | grind) (by intro p hp; simp [hp]) R7 (tupsOk_cons htu) (rfl) (.inr fun p hp => Z7 p (by simp [hp]))
end
end
/-! part DU2 -/
section
theorem walk_start_DU2 : True := by
  w_top off
  trivial
local macro_rules | `(tactic| k_room) => `(tactic| (dsimp only [Around.deeper, Around.mark, Around.in1, Around.under, kTop]; omega))
local macro_rules | `(tactic| k_units) => `(tactic| (have hcL9 := cLine_is; dsimp only [Around.deeper, Around.mark, Around.in1, Around.under, kTop]; omega))
local macro_rules | `(tactic| ktr_room) => `(tactic| (dsimp only [Around.deeper, Around.mark, Around.in1, Around.under, kTop]; omega))
local macro_rules | `(tactic| k_all) => `(tactic| assumption)
local macro_rules | `(tactic| k_ne) => `(tactic| first | assumption | (apply Ne.symm; assumption) | (refine neN ?_; (try dsimp only); omega))
local macro_rules | `(tactic| cell_enter) => `(tactic| (refine' code_def ?k1 ?k2 ?k3 ?k4 ?k5 ?kA ?kF ?kK ?k6 ?k7 ?k8 ?k9 ?kB ?_ ?c2 ?c3 ?c4 ?c5; (case kA => exact rfl); (case kF => assumption); (case kK => assumption); (case k1 => k_asm); (case k2 => k_asm); (case k3 => k_asm); (case k4 => k_asm); (case k5 => k_asm); (case k6 => k_is); (case k7 => k_is); (case k8 => ktr_room); (case k9 => exact BindsTo.of_eq rfl); (case c5 => decide); (case kB => exact locs rfl); (case c2 => exact rfl); (case c3 => exact rfl); (case c4 => exact rfl); k_whole; intro g' L' h' FG' F' N' B' X' T'; (try dsimp only); (try k_lift B'); (try k_fold)))
local macro_rules | `(tactic| cell_enter) => `(tactic| (refine' code_defC ?k1 ?k2 ?k3 ?k4 ?k5 ?kA ?kF ?kK ?k6 ?k7 ?k8 ?k9 ?kB ?kD ?_ ?c2 ?c3 ?c4; (case kA => exact rfl); (case kF => assumption); (case kK => assumption); (case k1 => k_asm); (case k2 => k_asm); (case k3 => k_asm); (case k4 => k_asm); (case k5 => k_asm); (case k6 => k_is); (case k7 => k_is); (case k8 => ktr_room); (case k9 => exact BindsTo.of_eq rfl); (case kB => exact rfl); (case kD => decide +kernel); (case c2 => exact rfl); (case c3 => exact rfl); (case c4 => exact rfl); k_whole; intro g' L' h' tk' cells' FG' F' N' Y' B' X' T' l1; k_cells Y'; (try simp only [List.cons_append, List.nil_append] at N'); (try dsimp only); (try k_lift B'); (try k_fold)))
local macro_rules | `(tactic| walk_at "eval Name") => `(tactic| (k_here; (with_reducible show wpAny _ _ (eval (Expr.Name _ _) (compEnvC _ _ _ _)) _ _ _); k_dflt (refine' c_loc ?n ?v ?_ ?a ?b ?d; (case a => rfl); (case b => rfl); (case d => decide); (case n => assumption); (case v => assumption); k_whole)))
local macro_rules | `(tactic| walk_at "subscriptTail") => `(tactic| (k_here; (with_reducible show wpAny _ _ (subscriptTail _ _ (Value.ref _) (Value.int _ _)) _ _ _); k_dflt (refine' c_name_tup ?t ?lo ?hi ?j ?x ?_ ?a ?b; (case a => with_unfolding_all rfl); (case b => intro _; with_unfolding_all rfl); (case t => assumption); (case lo => decide); (case hi => decide); (case j => rfl); (case x => rfl))))
local macro_rules | `(tactic| walk_at "eval ListComp") => `(tactic| (k_here; refine stopG ?_))
local macro_rules | `(tactic| walk_at "call ref") => `(tactic| (k_here; (show wpAny _ _ (call (Value.ref 192) _) _ _ _); refine stopG ?_))
local macro_rules | `(tactic| walk_at "call ref") => `(tactic| (k_here; (show wpAny _ _ (call (Value.ref 197) _) _ _ _); refine stopG ?_))
local macro_rules | `(tactic| walk_at "compareOp Eq ref ref") => `(tactic| (k_here; (with_reducible show wpAny _ _ (compareOp CmpOp.Eq (Value.ref _) (Value.ref _)) _ _ _); refine stopG ?_))
section
variable {w : World} {s₀ : Shared} {mg mb : Str → Option Value} {hdl : Option Value} {dp un : Nat} {gd : Option (List Code)} {env : Env} {outer : List Env} {A₀ : Around} {base h₀ : Heap} {L : Addr} {m : Str → Option Value} {s : Shared} {Q E : Value → Shared → Prop}
  {ro : Addr} {e0 : Nat} {ys : List Value} {r : List (Int × Int)} {rest tups : List (Addr × Obj)}
  (B : Below A₀ base outer h₀) (F : Fr h₀ L s.heap m) (X : (hd.heap_39 w.params).In h₀)
  (N : News h₀ L s.heap ((ro, W.listOf ys.toArray e0) :: rest))
  (T : Top hd.view_39 (looseW hd.view_39 []) (ExcName.means s₀.heap) mg mb h₀)
  (hf : env.frame = some L) (hk : env.scope.kind = .function) (hroom : dp + 10 < recursionLimit) (hun : un + 80 < cLine)
  (hr : RowIn tups ys r) (hsub : ∀ p ∈ tups, p ∈ rest) (hys : ys.length ≤ 100)
include B F X N T hf hk hroom hun hr hsub hys
set_option maxRecDepth 100000 in
set_option maxHeartbeats 4000000 in
theorem due_4h {k i many : Int} {tk0 tv tm th : Tok} (hroom2 : dp + 30 < recursionLimit) (hun2 : un + 300 < cLine) (hh : hdl = none) (htu : TupsOk tups) {j : Int} {js : List Int} (hj : (theres r k).map (·.2) = j :: js)
    (ret : ∀ P D h' tk zs e v tups', Fr h₀ L h' m → News h₀ L h' ((P, tupO [.ref D, v] 0) :: (D, W.listOf zs.toArray e) :: (tups' ++ rest)) → RowIn tups' zs (r) → TupsOk tups' → AnsAt v (.flag true) → (D = ro ∨ ∀ p ∈ rest, p.1 ≠ D) → Q (.ref P) { s with heap := h', toks := tk }) :
    wpAny (model PySem.Challenge.rw_bb0044_01.row.prog w) (kTop hdl dp un gd env outer) (call (.ref 202) [.ref ro, .int many tm, .int 4 th, .int k tk0, .int i tv]) Q E s := by
  subst hh
  have key : ∀ P D h' tk news zs e v tups', Fr h₀ L h' m → News h₀ L h' news → (P, tupO [.ref D, v] 0) ∈ news → (D, W.listOf zs.toArray e) ∈ news → (∀ p ∈ tups', p ∈ news) → (∀ p ∈ rest, p ∈ news) → RowIn tups' zs (r) → TupsOk tups' → AnsAt v (.flag true) → (D = ro ∨ ∀ p ∈ rest, p.1 ≠ D) → Q (.ref P) { s with heap := h', toks := tk } :=
    fun P D h' tk news zs e v tups' F N h1 h2 h3 h4 h5 h6 h7 h8 => ret P D h' tk zs e v tups' F (news_sub N (by intro p hp; simp only [List.mem_cons, List.mem_append] at hp; rcases hp with rfl | rfl | hp | hp <;> first | exact h1 | exact h2 | exact h3 p hp | exact h4 p hp)) h5 h6 h7 h8
  refine wpAny_call ?_
  k_dflt cell_enter
  refine wpAny_execs_cons ?_
  refine my_comp_rows_assign rfl (by with_unfolding_all rfl) (by with_unfolding_all rfl) (by decide) (by with_unfolding_all rfl) (by decide) (by with_unfolding_all rfl) (by with_unfolding_all rfl) (by with_unfolding_all rfl) (by intro _; with_unfolding_all rfl) ?_
  refine stop_out ?_
  k_steps
  unfold Stop
  (rename Below _ _ _ _ => B'); (rename Fr _ _ _ _ => F'); (rename News _ _ _ _ => N'); (rename Top _ _ _ _ _ _ => T'); (rename Frag.In _ _ => X')
  have Nr : News h₀ L s.heap tups := fun p hp => N p (.tail _ (hsub p hp))
  refine ⟨_, _, _, _, _, _, rfl, F', N', .tail _ (.head _), Nat.le_trans hys (by decide), pf tups fun p => p.1 == k, fun v y => ∃ p t, PairIn tups v p ∧ y = .int p.2 t, ?_, ?_, ?_⟩
  · intro C i v s₃ m₃ E' hv hn hx F3 N3
    obtain ⟨p, hp⟩ := rowIn_get hr hv
    have hpf := pf_of Nr (f := fun p => p.1 == k) hp
    obtain ⟨T, t, u, rfl, hT⟩ := hp
    have hT3 : s₃.heap.get? T = some (tupO [.int p.1 t, .int p.2 u] 0) := (N3 _ (.tail _ (.tail _ (hsub _ hT)))).1
    clear F' N' F N Nr
    refine wpAny_tests_one ?_
    refine stop_out ?_
    k_steps
    exact ⟨hpf.symm, s₃.heap, _, rfl, fun _ _ e => e⟩
  · intro C i v s₃ m₃ E' hv hp hn hx F3 N3
    obtain ⟨p, hp⟩ := rowIn_get hr hv
    have hp2 := hp
    obtain ⟨T, t, u, rfl, hT⟩ := hp
    have hT3 : s₃.heap.get? T = some (tupO [.int p.1 t, .int p.2 u] 0) := (N3 _ (.tail _ (.tail _ (hsub _ hT)))).1
    clear F' N' F N Nr
    refine stop_out ?_
    k_steps
    exact ⟨⟨p, u, hp2, rfl⟩, s₃.heap, _, rfl, fun _ _ e => e⟩
  · intro D2 h2 tk2 zs n2 F2 N2 hP hD2
    have hrow := rowIn_filter Nr (fun p => p.1 == k) hr
    have hi := paired_proj Nr (fun p => p.2) hrow hP
    dsimp only [Stop] at *
    clear F' N' hP hrow
    change IntsAre zs ((theres r k).map (·.2)) at hi
    rw [hj] at hi
    cases hi with
    | @cons _ tj zs' _ hi =>
    k_steps
    (rename News _ _ _ _ => N8); (rename Fr _ _ _ _ => F8)
    exact key _ ro _ _ _ ys e0 _ tups F8 N8 (.head _) (by simp) (by intro p hp; simp only [List.mem_cons] at hp ⊢; first | (have := hsub p; grind) | grind) (by intro p hp; simp [hp]) hr htu (rfl) (.inl rfl)
set_option maxRecDepth 100000 in
set_option maxHeartbeats 4000000 in
theorem due_4m {k i many : Int} {tk0 tv tm th : Tok} (hroom2 : dp + 30 < recursionLimit) (hun2 : un + 300 < cLine) (hh : hdl = none) (htu : TupsOk tups) (hj : (theres r k).map (·.2) = [])
    (ret : ∀ P D h' tk zs e v tups', Fr h₀ L h' m → News h₀ L h' ((P, tupO [.ref D, v] 0) :: (D, W.listOf zs.toArray e) :: (tups' ++ rest)) → RowIn tups' zs (r) → TupsOk tups' → AnsAt v (.flag false) → (D = ro ∨ ∀ p ∈ rest, p.1 ≠ D) → Q (.ref P) { s with heap := h', toks := tk }) :
    wpAny (model PySem.Challenge.rw_bb0044_01.row.prog w) (kTop hdl dp un gd env outer) (call (.ref 202) [.ref ro, .int many tm, .int 4 th, .int k tk0, .int i tv]) Q E s := by
  subst hh
  have key : ∀ P D h' tk news zs e v tups', Fr h₀ L h' m → News h₀ L h' news → (P, tupO [.ref D, v] 0) ∈ news → (D, W.listOf zs.toArray e) ∈ news → (∀ p ∈ tups', p ∈ news) → (∀ p ∈ rest, p ∈ news) → RowIn tups' zs (r) → TupsOk tups' → AnsAt v (.flag false) → (D = ro ∨ ∀ p ∈ rest, p.1 ≠ D) → Q (.ref P) { s with heap := h', toks := tk } :=
    fun P D h' tk news zs e v tups' F N h1 h2 h3 h4 h5 h6 h7 h8 => ret P D h' tk zs e v tups' F (news_sub N (by intro p hp; simp only [List.mem_cons, List.mem_append] at hp; rcases hp with rfl | rfl | hp | hp <;> first | exact h1 | exact h2 | exact h3 p hp | exact h4 p hp)) h5 h6 h7 h8
  refine wpAny_call ?_
  k_dflt cell_enter
  refine wpAny_execs_cons ?_
  refine my_comp_rows_assign rfl (by with_unfolding_all rfl) (by with_unfolding_all rfl) (by decide) (by with_unfolding_all rfl) (by decide) (by with_unfolding_all rfl) (by with_unfolding_all rfl) (by with_unfolding_all rfl) (by intro _; with_unfolding_all rfl) ?_
  refine stop_out ?_
  k_steps
  unfold Stop
  (rename Below _ _ _ _ => B'); (rename Fr _ _ _ _ => F'); (rename News _ _ _ _ => N'); (rename Top _ _ _ _ _ _ => T'); (rename Frag.In _ _ => X')
  have Nr : News h₀ L s.heap tups := fun p hp => N p (.tail _ (hsub p hp))
  refine ⟨_, _, _, _, _, _, rfl, F', N', .tail _ (.head _), Nat.le_trans hys (by decide), pf tups fun p => p.1 == k, fun v y => ∃ p t, PairIn tups v p ∧ y = .int p.2 t, ?_, ?_, ?_⟩
  · intro C i v s₃ m₃ E' hv hn hx F3 N3
    obtain ⟨p, hp⟩ := rowIn_get hr hv
    have hpf := pf_of Nr (f := fun p => p.1 == k) hp
    obtain ⟨T, t, u, rfl, hT⟩ := hp
    have hT3 : s₃.heap.get? T = some (tupO [.int p.1 t, .int p.2 u] 0) := (N3 _ (.tail _ (.tail _ (hsub _ hT)))).1
    clear F' N' F N Nr
    refine wpAny_tests_one ?_
    refine stop_out ?_
    k_steps
    exact ⟨hpf.symm, s₃.heap, _, rfl, fun _ _ e => e⟩
  · intro C i v s₃ m₃ E' hv hp hn hx F3 N3
    obtain ⟨p, hp⟩ := rowIn_get hr hv
    have hp2 := hp
    obtain ⟨T, t, u, rfl, hT⟩ := hp
    have hT3 : s₃.heap.get? T = some (tupO [.int p.1 t, .int p.2 u] 0) := (N3 _ (.tail _ (.tail _ (hsub _ hT)))).1
    clear F' N' F N Nr
    refine stop_out ?_
    k_steps
    exact ⟨⟨p, u, hp2, rfl⟩, s₃.heap, _, rfl, fun _ _ e => e⟩
  · intro D2 h2 tk2 zs n2 F2 N2 hP hD2
    have hrow := rowIn_filter Nr (fun p => p.1 == k) hr
    have hi := paired_proj Nr (fun p => p.2) hrow hP
    dsimp only [Stop] at *
    clear F' N' hP hrow
    change IntsAre zs ((theres r k).map (·.2)) at hi
    rw [hj] at hi
    cases hi
    k_steps
    (rename News _ _ _ _ => N8); (rename Fr _ _ _ _ => F8)
    exact key _ ro _ _ _ ys e0 _ tups F8 N8 (.head _) (by simp) (by intro p hp; simp only [List.mem_cons] at hp ⊢; first | (have := hsub p; grind) | grind) (by intro p hp; simp [hp]) hr htu (rfl) (.inl rfl)
set_option maxRecDepth 100000 in
set_option maxHeartbeats 4000000 in
theorem due_5h {k i many : Int} {tk0 tv tm th : Tok} (hroom2 : dp + 30 < recursionLimit) (hun2 : un + 300 < cLine) (hh : hdl = none) (htu : TupsOk tups) {j : Int} {js : List Int} (hj : (theres r k).map (·.2) = j :: js)
    (ret : ∀ P D h' tk zs e v tups', Fr h₀ L h' m → News h₀ L h' ((P, tupO [.ref D, v] 0) :: (D, W.listOf zs.toArray e) :: (tups' ++ rest)) → RowIn tups' zs (r.filter (fun p => p.1 != k)) → TupsOk tups' → AnsAt v (.txt (Str.ofString "taken")) → (D = ro ∨ ∀ p ∈ rest, p.1 ≠ D) → Q (.ref P) { s with heap := h', toks := tk }) :
    wpAny (model PySem.Challenge.rw_bb0044_01.row.prog w) (kTop hdl dp un gd env outer) (call (.ref 202) [.ref ro, .int many tm, .int 5 th, .int k tk0, .int i tv]) Q E s := by
  subst hh
  have key : ∀ P D h' tk news zs e v tups', Fr h₀ L h' m → News h₀ L h' news → (P, tupO [.ref D, v] 0) ∈ news → (D, W.listOf zs.toArray e) ∈ news → (∀ p ∈ tups', p ∈ news) → (∀ p ∈ rest, p ∈ news) → RowIn tups' zs (r.filter (fun p => p.1 != k)) → TupsOk tups' → AnsAt v (.txt (Str.ofString "taken")) → (D = ro ∨ ∀ p ∈ rest, p.1 ≠ D) → Q (.ref P) { s with heap := h', toks := tk } :=
    fun P D h' tk news zs e v tups' F N h1 h2 h3 h4 h5 h6 h7 h8 => ret P D h' tk zs e v tups' F (news_sub N (by intro p hp; simp only [List.mem_cons, List.mem_append] at hp; rcases hp with rfl | rfl | hp | hp <;> first | exact h1 | exact h2 | exact h3 p hp | exact h4 p hp)) h5 h6 h7 h8
  refine wpAny_call ?_
  k_dflt cell_enter
  refine wpAny_execs_cons ?_
  refine my_comp_rows_assign rfl (by with_unfolding_all rfl) (by with_unfolding_all rfl) (by decide) (by with_unfolding_all rfl) (by decide) (by with_unfolding_all rfl) (by with_unfolding_all rfl) (by with_unfolding_all rfl) (by intro _; with_unfolding_all rfl) ?_
  refine stop_out ?_
  k_steps
  unfold Stop
  (rename Below _ _ _ _ => B'); (rename Fr _ _ _ _ => F'); (rename News _ _ _ _ => N'); (rename Top _ _ _ _ _ _ => T'); (rename Frag.In _ _ => X')
  have Nr : News h₀ L s.heap tups := fun p hp => N p (.tail _ (hsub p hp))
  refine ⟨_, _, _, _, _, _, rfl, F', N', .tail _ (.head _), Nat.le_trans hys (by decide), pf tups fun p => p.1 == k, fun v y => ∃ p t, PairIn tups v p ∧ y = .int p.2 t, ?_, ?_, ?_⟩
  · intro C i v s₃ m₃ E' hv hn hx F3 N3
    obtain ⟨p, hp⟩ := rowIn_get hr hv
    have hpf := pf_of Nr (f := fun p => p.1 == k) hp
    obtain ⟨T, t, u, rfl, hT⟩ := hp
    have hT3 : s₃.heap.get? T = some (tupO [.int p.1 t, .int p.2 u] 0) := (N3 _ (.tail _ (.tail _ (hsub _ hT)))).1
    clear F' N' F N Nr
    refine wpAny_tests_one ?_
    refine stop_out ?_
    k_steps
    exact ⟨hpf.symm, s₃.heap, _, rfl, fun _ _ e => e⟩
  · intro C i v s₃ m₃ E' hv hp hn hx F3 N3
    obtain ⟨p, hp⟩ := rowIn_get hr hv
    have hp2 := hp
    obtain ⟨T, t, u, rfl, hT⟩ := hp
    have hT3 : s₃.heap.get? T = some (tupO [.int p.1 t, .int p.2 u] 0) := (N3 _ (.tail _ (.tail _ (hsub _ hT)))).1
    clear F' N' F N Nr
    refine stop_out ?_
    k_steps
    exact ⟨⟨p, u, hp2, rfl⟩, s₃.heap, _, rfl, fun _ _ e => e⟩
  · intro D2 h2 tk2 zs n2 F2 N2 hP hD2
    have hrow := rowIn_filter Nr (fun p => p.1 == k) hr
    have hi := paired_proj Nr (fun p => p.2) hrow hP
    dsimp only [Stop] at *
    clear F' N' hP hrow
    change IntsAre zs ((theres r k).map (·.2)) at hi
    rw [hj] at hi
    cases hi with
    | @cons _ tj zs' _ hi =>
    k_steps
    unfold Stop
    refine my_comp_rows rfl (by with_unfolding_all rfl) (by decide) (by with_unfolding_all rfl) (by decide) (by with_unfolding_all rfl) (by intro _; with_unfolding_all rfl) ?_
    refine stop_out ?_
    k_steps
    unfold Stop
    (rename Fr _ _ _ _ => F5); (rename News _ _ _ _ => N5)
    have Nr : News h₀ L s.heap tups := fun p hp => N p (.tail _ (hsub p hp))
    refine ⟨_, _, _, _, ro, ys, e0, rfl, F5, N5, by simp, Nat.le_trans hys (by decide), pf tups fun p => p.1 != k, fun v y => y = v, ?_, ?_, ?_⟩
    · intro C i v s₃ m₃ E' hv hn hx F3 N3
      obtain ⟨p, hp⟩ := rowIn_get hr hv
      have hpf := pf_of Nr (f := fun p => p.1 != k) hp
      obtain ⟨T, t, u, rfl, hT⟩ := hp
      have hT3 : s₃.heap.get? T = some (tupO [.int p.1 t, .int p.2 u] 0) := (N3 (T, tupO [.int p.1 t, .int p.2 u] 0) (by simp [hsub _ hT])).1
      clear F5 N5 F N Nr
      refine wpAny_tests_one ?_
      refine stop_out ?_
      k_steps
      exact ⟨hpf.symm, s₃.heap, _, rfl, fun _ _ e => e⟩
    · intro C i v s₃ m₃ E' hv hp hn hx F3 N3
      clear F5 N5 F N Nr
      refine stop_out ?_
      k_steps
      exact ⟨rfl, s₃.heap, _, rfl, fun _ _ e => e⟩
    · intro D5 h5 tk5 zs5 n5 F6 N6 hP5 hD5
      have hzs5 := paired_id hP5
      have hrow5 := rowIn_filter Nr (fun p => p.1 != k) hr
      rw [← hzs5] at hrow5
      have Z5 : ∀ p ∈ rest, p.1 ≠ D5 := fun p hp e => by
        have z := (N5 p (by simp [hp])).1
        rw [e] at z
        exact absurd (z.symm.trans hD5) (by simp)
      clear F5 N5 F N Nr hP5
      k_steps
      all_goals (try (have hq : decide (j :: js = []) = true := by assumption
                      simp at hq; done))
      (rename News _ _ _ _ => N8); (rename Fr _ _ _ _ => F8)
      exact key _ D5 _ _ _ zs5 n5 _ tups F8 N8 (.head _) (by simp) (by intro p hp; simp only [List.mem_cons] at hp ⊢; first | (have := hsub p; grind) | grind) (by intro p hp; simp [hp]) hrow5 htu (rfl) (.inr Z5)
set_option maxRecDepth 100000 in
set_option maxHeartbeats 4000000 in
theorem due_5m {k i many : Int} {tk0 tv tm th : Tok} (hroom2 : dp + 30 < recursionLimit) (hun2 : un + 300 < cLine) (hh : hdl = none) (htu : TupsOk tups) (hj : (theres r k).map (·.2) = [])
    (ret : ∀ P D h' tk zs e v tups', Fr h₀ L h' m → News h₀ L h' ((P, tupO [.ref D, v] 0) :: (D, W.listOf zs.toArray e) :: (tups' ++ rest)) → RowIn tups' zs (r.filter (fun p => p.1 != k)) → TupsOk tups' → AnsAt v (.txt (Str.ofString "missing")) → (D = ro ∨ ∀ p ∈ rest, p.1 ≠ D) → Q (.ref P) { s with heap := h', toks := tk }) :
    wpAny (model PySem.Challenge.rw_bb0044_01.row.prog w) (kTop hdl dp un gd env outer) (call (.ref 202) [.ref ro, .int many tm, .int 5 th, .int k tk0, .int i tv]) Q E s := by
  subst hh
  have key : ∀ P D h' tk news zs e v tups', Fr h₀ L h' m → News h₀ L h' news → (P, tupO [.ref D, v] 0) ∈ news → (D, W.listOf zs.toArray e) ∈ news → (∀ p ∈ tups', p ∈ news) → (∀ p ∈ rest, p ∈ news) → RowIn tups' zs (r.filter (fun p => p.1 != k)) → TupsOk tups' → AnsAt v (.txt (Str.ofString "missing")) → (D = ro ∨ ∀ p ∈ rest, p.1 ≠ D) → Q (.ref P) { s with heap := h', toks := tk } :=
    fun P D h' tk news zs e v tups' F N h1 h2 h3 h4 h5 h6 h7 h8 => ret P D h' tk zs e v tups' F (news_sub N (by intro p hp; simp only [List.mem_cons, List.mem_append] at hp; rcases hp with rfl | rfl | hp | hp <;> first | exact h1 | exact h2 | exact h3 p hp | exact h4 p hp)) h5 h6 h7 h8
  refine wpAny_call ?_
  k_dflt cell_enter
  refine wpAny_execs_cons ?_
  refine my_comp_rows_assign rfl (by with_unfolding_all rfl) (by with_unfolding_all rfl) (by decide) (by with_unfolding_all rfl) (by decide) (by with_unfolding_all rfl) (by with_unfolding_all rfl) (by with_unfolding_all rfl) (by intro _; with_unfolding_all rfl) ?_
  refine stop_out ?_
  k_steps
  unfold Stop
  (rename Below _ _ _ _ => B'); (rename Fr _ _ _ _ => F'); (rename News _ _ _ _ => N'); (rename Top _ _ _ _ _ _ => T'); (rename Frag.In _ _ => X')
  have Nr : News h₀ L s.heap tups := fun p hp => N p (.tail _ (hsub p hp))
  refine ⟨_, _, _, _, _, _, rfl, F', N', .tail _ (.head _), Nat.le_trans hys (by decide), pf tups fun p => p.1 == k, fun v y => ∃ p t, PairIn tups v p ∧ y = .int p.2 t, ?_, ?_, ?_⟩
  · intro C i v s₃ m₃ E' hv hn hx F3 N3
    obtain ⟨p, hp⟩ := rowIn_get hr hv
    have hpf := pf_of Nr (f := fun p => p.1 == k) hp
    obtain ⟨T, t, u, rfl, hT⟩ := hp
    have hT3 : s₃.heap.get? T = some (tupO [.int p.1 t, .int p.2 u] 0) := (N3 _ (.tail _ (.tail _ (hsub _ hT)))).1
    clear F' N' F N Nr
    refine wpAny_tests_one ?_
    refine stop_out ?_
    k_steps
    exact ⟨hpf.symm, s₃.heap, _, rfl, fun _ _ e => e⟩
  · intro C i v s₃ m₃ E' hv hp hn hx F3 N3
    obtain ⟨p, hp⟩ := rowIn_get hr hv
    have hp2 := hp
    obtain ⟨T, t, u, rfl, hT⟩ := hp
    have hT3 : s₃.heap.get? T = some (tupO [.int p.1 t, .int p.2 u] 0) := (N3 _ (.tail _ (.tail _ (hsub _ hT)))).1
    clear F' N' F N Nr
    refine stop_out ?_
    k_steps
    exact ⟨⟨p, u, hp2, rfl⟩, s₃.heap, _, rfl, fun _ _ e => e⟩
  · intro D2 h2 tk2 zs n2 F2 N2 hP hD2
    have hrow := rowIn_filter Nr (fun p => p.1 == k) hr
    have hi := paired_proj Nr (fun p => p.2) hrow hP
    dsimp only [Stop] at *
    clear F' N' hP hrow
    change IntsAre zs ((theres r k).map (·.2)) at hi
    rw [hj] at hi
    cases hi
    k_steps
    unfold Stop
    refine my_comp_rows rfl (by with_unfolding_all rfl) (by decide) (by with_unfolding_all rfl) (by decide) (by with_unfolding_all rfl) (by intro _; with_unfolding_all rfl) ?_
    refine stop_out ?_
    k_steps
    unfold Stop
    (rename Fr _ _ _ _ => F5); (rename News _ _ _ _ => N5)
    have Nr : News h₀ L s.heap tups := fun p hp => N p (.tail _ (hsub p hp))
    refine ⟨_, _, _, _, ro, ys, e0, rfl, F5, N5, by simp, Nat.le_trans hys (by decide), pf tups fun p => p.1 != k, fun v y => y = v, ?_, ?_, ?_⟩
    · intro C i v s₃ m₃ E' hv hn hx F3 N3
      obtain ⟨p, hp⟩ := rowIn_get hr hv
      have hpf := pf_of Nr (f := fun p => p.1 != k) hp
      obtain ⟨T, t, u, rfl, hT⟩ := hp
      have hT3 : s₃.heap.get? T = some (tupO [.int p.1 t, .int p.2 u] 0) := (N3 (T, tupO [.int p.1 t, .int p.2 u] 0) (by simp [hsub _ hT])).1
      clear F5 N5 F N Nr
      refine wpAny_tests_one ?_
      refine stop_out ?_
      k_steps
      exact ⟨hpf.symm, s₃.heap, _, rfl, fun _ _ e => e⟩
    · intro C i v s₃ m₃ E' hv hp hn hx F3 N3
      clear F5 N5 F N Nr
      refine stop_out ?_
      k_steps
      exact ⟨rfl, s₃.heap, _, rfl, fun _ _ e => e⟩
    · intro D5 h5 tk5 zs5 n5 F6 N6 hP5 hD5
      have hzs5 := paired_id hP5
      have hrow5 := rowIn_filter Nr (fun p => p.1 != k) hr
      rw [← hzs5] at hrow5
      have Z5 : ∀ p ∈ rest, p.1 ≠ D5 := fun p hp e => by
        have z := (N5 p (by simp [hp])).1
        rw [e] at z
        exact absurd (z.symm.trans hD5) (by simp)
      clear F5 N5 F N Nr hP5
      k_steps
      (rename News _ _ _ _ => N8); (rename Fr _ _ _ _ => F8)
      exact key _ D5 _ _ _ zs5 n5 _ tups F8 N8 (.head _) (by simp) (by intro p hp; simp only [List.mem_cons] at hp ⊢; first | (have := hsub p; grind) | grind) (by intro p hp; simp [hp]) hrow5 htu (rfl) (.inr Z5)
set_option maxRecDepth 100000 in
set_option maxHeartbeats 4000000 in
theorem due_6 {k i many : Int} {tk0 tv tm th : Tok} (hroom2 : dp + 30 < recursionLimit) (hun2 : un + 300 < cLine) (hh : hdl = none) (htu : TupsOk tups) 
    (ret : ∀ P D h' tk zs e v tups', Fr h₀ L h' m → News h₀ L h' ((P, tupO [.ref D, v] 0) :: (D, W.listOf zs.toArray e) :: (tups' ++ rest)) → RowIn tups' zs ([]) → TupsOk tups' → AnsAt v (.txt (Str.ofString "empty")) → (D = ro ∨ ∀ p ∈ rest, p.1 ≠ D) → Q (.ref P) { s with heap := h', toks := tk }) :
    wpAny (model PySem.Challenge.rw_bb0044_01.row.prog w) (kTop hdl dp un gd env outer) (call (.ref 202) [.ref ro, .int many tm, .int 6 th, .int k tk0, .int i tv]) Q E s := by
  subst hh
  have key : ∀ P D h' tk news zs e v tups', Fr h₀ L h' m → News h₀ L h' news → (P, tupO [.ref D, v] 0) ∈ news → (D, W.listOf zs.toArray e) ∈ news → (∀ p ∈ tups', p ∈ news) → (∀ p ∈ rest, p ∈ news) → RowIn tups' zs ([]) → TupsOk tups' → AnsAt v (.txt (Str.ofString "empty")) → (D = ro ∨ ∀ p ∈ rest, p.1 ≠ D) → Q (.ref P) { s with heap := h', toks := tk } :=
    fun P D h' tk news zs e v tups' F N h1 h2 h3 h4 h5 h6 h7 h8 => ret P D h' tk zs e v tups' F (news_sub N (by intro p hp; simp only [List.mem_cons, List.mem_append] at hp; rcases hp with rfl | rfl | hp | hp <;> first | exact h1 | exact h2 | exact h3 p hp | exact h4 p hp)) h5 h6 h7 h8
  refine wpAny_call ?_
  k_dflt cell_enter
  refine wpAny_execs_cons ?_
  refine my_comp_rows_assign rfl (by with_unfolding_all rfl) (by with_unfolding_all rfl) (by decide) (by with_unfolding_all rfl) (by decide) (by with_unfolding_all rfl) (by with_unfolding_all rfl) (by with_unfolding_all rfl) (by intro _; with_unfolding_all rfl) ?_
  refine stop_out ?_
  k_steps
  unfold Stop
  (rename Below _ _ _ _ => B'); (rename Fr _ _ _ _ => F'); (rename News _ _ _ _ => N'); (rename Top _ _ _ _ _ _ => T'); (rename Frag.In _ _ => X')
  have Nr : News h₀ L s.heap tups := fun p hp => N p (.tail _ (hsub p hp))
  refine ⟨_, _, _, _, _, _, rfl, F', N', .tail _ (.head _), Nat.le_trans hys (by decide), pf tups fun p => p.1 == k, fun v y => ∃ p t, PairIn tups v p ∧ y = .int p.2 t, ?_, ?_, ?_⟩
  · intro C i v s₃ m₃ E' hv hn hx F3 N3
    obtain ⟨p, hp⟩ := rowIn_get hr hv
    have hpf := pf_of Nr (f := fun p => p.1 == k) hp
    obtain ⟨T, t, u, rfl, hT⟩ := hp
    have hT3 : s₃.heap.get? T = some (tupO [.int p.1 t, .int p.2 u] 0) := (N3 _ (.tail _ (.tail _ (hsub _ hT)))).1
    clear F' N' F N Nr
    refine wpAny_tests_one ?_
    refine stop_out ?_
    k_steps
    exact ⟨hpf.symm, s₃.heap, _, rfl, fun _ _ e => e⟩
  · intro C i v s₃ m₃ E' hv hp hn hx F3 N3
    obtain ⟨p, hp⟩ := rowIn_get hr hv
    have hp2 := hp
    obtain ⟨T, t, u, rfl, hT⟩ := hp
    have hT3 : s₃.heap.get? T = some (tupO [.int p.1 t, .int p.2 u] 0) := (N3 _ (.tail _ (.tail _ (hsub _ hT)))).1
    clear F' N' F N Nr
    refine stop_out ?_
    k_steps
    exact ⟨⟨p, u, hp2, rfl⟩, s₃.heap, _, rfl, fun _ _ e => e⟩
  · intro D2 h2 tk2 zs n2 F2 N2 hP hD2
    have hrow := rowIn_filter Nr (fun p => p.1 == k) hr
    have hi := paired_proj Nr (fun p => p.2) hrow hP
    dsimp only [Stop] at *
    clear F' N' hP hrow
    k_steps
    (rename News _ _ _ _ => N8); (rename Fr _ _ _ _ => F8)
    exact key _ _ _ _ _ [] _ _ [] F8 N8 (.head _) (.tail _ (.head _)) (by intro p hp; cases hp) (by intro p hp; simp [hp]) .nil (fun p hp => by cases hp) (rfl) (.inr (my_allLt (d := _) (by assumption : _ ∧ _ ∧ _ ∧ _ ∧ AllLt _ rest).2.2.2.2))
end
end
/-! part DH -/
section
theorem walk_start_DH : True := by
  w_top off
  trivial
local macro_rules | `(tactic| k_room) => `(tactic| (dsimp only [Around.deeper, Around.mark, Around.in1, Around.under, kTop]; omega))
local macro_rules | `(tactic| k_units) => `(tactic| (have hcL9 := cLine_is; dsimp only [Around.deeper, Around.mark, Around.in1, Around.under, kTop]; omega))
local macro_rules | `(tactic| ktr_room) => `(tactic| (dsimp only [Around.deeper, Around.mark, Around.in1, Around.under, kTop]; omega))
local macro_rules | `(tactic| k_all) => `(tactic| assumption)
local macro_rules | `(tactic| k_ne) => `(tactic| first | assumption | (apply Ne.symm; assumption) | (refine neN ?_; (try dsimp only); omega))
local macro_rules | `(tactic| cell_enter) => `(tactic| (refine' code_def ?k1 ?k2 ?k3 ?k4 ?k5 ?kA ?kF ?kK ?k6 ?k7 ?k8 ?k9 ?kB ?_ ?c2 ?c3 ?c4 ?c5; (case kA => exact rfl); (case kF => assumption); (case kK => assumption); (case k1 => k_asm); (case k2 => k_asm); (case k3 => k_asm); (case k4 => k_asm); (case k5 => k_asm); (case k6 => k_is); (case k7 => k_is); (case k8 => ktr_room); (case k9 => exact BindsTo.of_eq rfl); (case c5 => decide); (case kB => exact locs rfl); (case c2 => exact rfl); (case c3 => exact rfl); (case c4 => exact rfl); k_whole; intro g' L' h' FG' F' N' B' X' T'; (try dsimp only); (try k_lift B'); (try k_fold)))
section
variable {M : Model} {A : Around} {E : Value → Shared → Prop} {s : Shared} {K : Frag} {x C L f : Addr} {h₀ : Heap} {m : Str → Option Value} {ox : Obj} {od : Option Obj} {v : Value}
theorem my_delItem_K {Q : Unit → Shared → Prop} (F : Fr h₀ L s.heap m) (X₀ : K.In h₀) (I : InstAt s.heap x ox C od) (hq : noSeq K C = true) (hs : findIn K (.ref C) "__delitem__" = some (some (.ref f))) (hf : isFn K (.ref f) = true)
    (h : wpAny M A (call (.ref f) [.ref x, v]) (fun _ s' => Q () s') E s) : wpAny M A (delItem (.ref x) v) Q E s := by
  have X := X₀.keeps F.keep
  unfold delItem sequenceKey
  refine wpAny_holding (wpAny_bind (wpAny_bind (I.type.here ?_)))
  refine wpAny_bind ((anyM_none X hq).here ?_)
  rw [if_pos (show (!false) = true from rfl)]
  exact wpAny_pure (wpAny_bind (special_fn X I hs (beq_iff_eq.mp hf) (wpAny_mono h (fun _ _ z => wpAny_pure z) fun _ _ z => z)))
end
local macro_rules | `(tactic| walk_at "delItem ref int") => `(tactic| (k_here; k_dflt (refine' my_delItem_K ?k1 ?k2 ?k3 ?k4 ?k5 ?k6 ?_; (case k1 => k_asm); (case k2 => k_asm); (case k3 => k_inst); (case k4 => k_is); (case k5 => k_is); (case k6 => k_is); k_whole)))
local macro_rules | `(tactic| walk_at "call ref") => `(tactic| (k_here; (show wpAny _ _ (call (Value.ref 128) _) _ _ _); k_dflt (refine' set_pact ?B ?F ?X ?N ?T ?hf ?hk ?hroom ?hun ?hom ?hvs ?hap ?R  ?_; (case B => k_asm); (case F => k_asm); (case X => k_asm); (case N => k_asm); (case T => k_asm); (case hf => exact rfl); (case hk => exact rfl); (case hroom => k_room); (case hun => k_units); (case hom => assumption); (case hvs => assumption); (case hap => exact ⟨‹_›, ‹_›, ‹_›, ‹_›, ‹_›, ‹_›, ‹_›, ‹_›, ‹_›, ‹_›, ‹_›, ‹_›⟩); (case R => assumption)); intro h' tk' om' kvs' vs' ks' ep' F' N' ho' hi' R'; (try dsimp only at N'); (try k_sweep)))
section
variable {w : World} {s₀ : Shared} {mg mb : Str → Option Value} {hdl : Option Value} {dp un : Nat} {gd : Option (List Code)} {env : Env} {outer : List Env} {A₀ : Around} {base h₀ : Heap} {L : Addr} {m : Str → Option Value} {s : Shared} {Q E : Value → Shared → Prop}
  {c cd mp q lk lkd : Addr} {t1 t2 t3 t4 t5 : Tok} {many : Int} {n : Nat} {om : Obj} {kvs : List (Int × Value)} {vs : List Value} {ks : List Int} {ep : Nat} {rest : List (Addr × Obj)} {r : List (Int × Int)}
  (B : Below A₀ base outer h₀) (F : Fr h₀ L s.heap m) (X : (hd.heap_39 w.params).In h₀)
  (N : News h₀ L s.heap ((c, instObj 169 cd) :: (cd, cDict w t1 t2 t3 t4 t5 many mp q lk n) :: (mp, om) :: (q, W.listOf vs.toArray ep) :: (lk, instObj 45 lkd) :: (lkd, dictOf [] 0) :: rest))
  (T : Top hd.view_39 (looseW hd.view_39 []) (ExcName.means s₀.heap) mg mb h₀)
  (hf : env.frame = some L) (hk : env.scope.kind = .function) (hroom : dp + 30 < recursionLimit) (hun : un + 300 < cLine)
  (hom : om.IsDictOf (intKind PySem.Challenge.rw_bb0044_01.row.prog w) kvs) (hvs : IntsAre vs ks) (hap : Apart c cd mp q lk lkd rest) (R : Rel many kvs ks r)
include B F X N T hf hk hroom hun hom hvs hap R
set_option maxRecDepth 100000 in
set_option maxHeartbeats 4000000 in
theorem done_d0 {k i : Int} {th tk0 tv : Tok} 
    (ret : ∀ v h' tk om' kvs' vs' ks' ep', Fr h₀ L h' m → News h₀ L h' ((c, instObj 169 cd) :: (cd, cDict w t1 t2 t3 t4 t5 many mp q lk n) :: (mp, om') :: (q, W.listOf vs'.toArray ep') :: (lk, instObj 45 lkd) :: (lkd, dictOf [] 0) :: rest) → om'.IsDictOf (intKind PySem.Challenge.rw_bb0044_01.row.prog w) kvs' → IntsAre vs' ks' → Rel many kvs' ks' (laid many r k i) → AnsAt v (.txt (Str.ofString "laid")) → Q v { s with heap := h', toks := tk }) :
    wpAny (model PySem.Challenge.rw_bb0044_01.row.prog w) (kTop hdl dp un gd env outer) (call (.ref 187) [.ref c, .int 0 th, .int k tk0, .int i tv]) Q E s := by
  have hkv := R.hkv
  have hks := R.hks'
  have hvl := hvs.length
  obtain ⟨a1, a2, a3, a4, a5, a6, a7, a8, a9, b1, b2, lo⟩ := hap
  refine wpAny_call ?_
  k_dflt cell_enter
  k_steps
  exact ret _ _ _ _ _ _ _ _ (by k_asm) (by k_asm) (by assumption) (by assumption) (by assumption) rfl
end
local macro_rules | `(tactic| walk_at "call ref") => `(tactic| (k_here; (show wpAny _ _ (call (Value.ref 121) _) _ _ _); k_dflt (refine' getitem_hit ?B ?F ?X ?N ?T ?hf ?hk ?hroom ?hun ?hom ?hkv ?hvs ?hks ?hap ?hv ?hmem ?hnd ?_; (case B => k_asm); (case F => k_asm); (case X => k_asm); (case N => k_asm); (case T => k_asm); (case hf => exact rfl); (case hk => exact rfl); (case hroom => k_room); (case hun => k_units); (case hom => assumption); (case hkv => assumption); (case hvs => assumption); (case hks => assumption); (case hap => exact ⟨‹_›, ‹_›, ‹_›, ‹_›, ‹_›, ‹_›, ‹_›, ‹_›, ‹_›, ‹_›, ‹_›, ‹_›⟩); (case hv => assumption); (case hmem => assumption); (case hnd => assumption)); intro h' tk' vs' ep' F' N' hi'; (try dsimp only at N'); (try k_sweep)))
local macro_rules | `(tactic| walk_at "call ref") => `(tactic| (k_here; (show wpAny _ _ (call (Value.ref 78) _) _ _ _); k_dflt (refine' get_hit ?B ?F ?X ?N ?T ?hf ?hk ?hroom ?hun ?hom ?hkv ?hvs ?hks ?hap ?r2 ?u2 ?hv ?hmem ?hnd ?_; (case B => k_asm); (case F => k_asm); (case X => k_asm); (case N => k_asm); (case T => k_asm); (case hf => exact rfl); (case hk => exact rfl); (case hroom => k_room); (case hun => k_units); (case hom => assumption); (case hkv => assumption); (case hvs => assumption); (case hks => assumption); (case hap => exact ⟨‹_›, ‹_›, ‹_›, ‹_›, ‹_›, ‹_›, ‹_›, ‹_›, ‹_›, ‹_›, ‹_›, ‹_›⟩); (case r2 => k_room); (case u2 => k_units); (case hv => assumption); (case hmem => assumption); (case hnd => assumption)); intro h' tk' vs' ep' F' N' hi'; (try dsimp only at N'); (try k_sweep)))
local macro_rules | `(tactic| walk_at "call ref") => `(tactic| (k_here; (show wpAny _ _ (call (Value.ref 86) _) _ _ _); k_dflt (refine' setdef_hit ?B ?F ?X ?N ?T ?hf ?hk ?hroom ?hun ?hom ?hkv ?hvs ?hks ?hap ?r2 ?u2 ?hv ?hmem ?hnd ?_; (case B => k_asm); (case F => k_asm); (case X => k_asm); (case N => k_asm); (case T => k_asm); (case hf => exact rfl); (case hk => exact rfl); (case hroom => k_room); (case hun => k_units); (case hom => assumption); (case hkv => assumption); (case hvs => assumption); (case hks => assumption); (case hap => exact ⟨‹_›, ‹_›, ‹_›, ‹_›, ‹_›, ‹_›, ‹_›, ‹_›, ‹_›, ‹_›, ‹_›, ‹_›⟩); (case r2 => k_room); (case u2 => k_units); (case hv => assumption); (case hmem => assumption); (case hnd => assumption)); intro h' tk' vs' ep' F' N' hi'; (try dsimp only at N'); (try k_sweep)))
local macro_rules | `(tactic| walk_at "call ref") => `(tactic| (k_here; (show wpAny _ _ (call (Value.ref 100) _) _ _ _); k_dflt (refine' contains_pact ?B ?F ?X ?N ?T ?hf ?hk ?hroom ?hun ?hom ?hkv ?hvs ?hks ?hap ?hb ?_; (case B => k_asm); (case F => k_asm); (case X => k_asm); (case N => k_asm); (case T => k_asm); (case hf => exact rfl); (case hk => exact rfl); (case hroom => k_room); (case hun => k_units); (case hom => assumption); (case hkv => assumption); (case hvs => assumption); (case hks => assumption); (case hap => exact ⟨‹_›, ‹_›, ‹_›, ‹_›, ‹_›, ‹_›, ‹_›, ‹_›, ‹_›, ‹_›, ‹_›, ‹_›⟩); (case hb => assumption)); intro h' tk' F' N'; (try dsimp only at N'); (try k_sweep)))
local macro_rules | `(tactic| walk_at "call ref") => `(tactic| (k_here; (show wpAny _ _ (call (Value.ref 135) _) _ _ _); k_dflt (refine' delitem_hit ?B ?F ?X ?N ?T ?hf ?hk ?hroom ?hun ?hom ?hkv ?hvs ?hks ?hap ?hb ?hmem ?_; (case B => k_asm); (case F => k_asm); (case X => k_asm); (case N => k_asm); (case T => k_asm); (case hf => exact rfl); (case hk => exact rfl); (case hroom => k_room); (case hun => k_units); (case hom => assumption); (case hkv => assumption); (case hvs => assumption); (case hks => assumption); (case hap => exact ⟨‹_›, ‹_›, ‹_›, ‹_›, ‹_›, ‹_›, ‹_›, ‹_›, ‹_›, ‹_›, ‹_›, ‹_›⟩); (case hb => assumption); (case hmem => assumption)); intro h' tk' om' vs' ep' F' N' ho' hi'; (try dsimp only at N'); (try k_sweep)))
local macro_rules | `(tactic| walk_at "call ref") => `(tactic| (k_here; (show wpAny _ _ (call (Value.ref 93) _) _ _ _); k_dflt (refine' clear_pact ?B ?F ?X ?N ?T ?hf ?hk ?hroom ?hun ?hom ?hkv ?hvs ?hks ?hap  ?_; (case B => k_asm); (case F => k_asm); (case X => k_asm); (case N => k_asm); (case T => k_asm); (case hf => exact rfl); (case hk => exact rfl); (case hroom => k_room); (case hun => k_units); (case hom => assumption); (case hkv => assumption); (case hvs => assumption); (case hks => assumption); (case hap => exact ⟨‹_›, ‹_›, ‹_›, ‹_›, ‹_›, ‹_›, ‹_›, ‹_›, ‹_›, ‹_›, ‹_›, ‹_›⟩)); intro h' tk' om' ep' F' N' ho'; (try dsimp only at N'); (try k_sweep)))
section
variable {w : World} {s₀ : Shared} {mg mb : Str → Option Value} {hdl : Option Value} {dp un : Nat} {gd : Option (List Code)} {env : Env} {outer : List Env} {A₀ : Around} {base h₀ : Heap} {L : Addr} {m : Str → Option Value} {s : Shared} {Q E : Value → Shared → Prop}
  {c cd mp q lk lkd : Addr} {t1 t2 t3 t4 t5 : Tok} {many : Int} {n : Nat} {om : Obj} {kvs : List (Int × Value)} {vs : List Value} {ks : List Int} {ep : Nat} {rest : List (Addr × Obj)} {r : List (Int × Int)}
  (B : Below A₀ base outer h₀) (F : Fr h₀ L s.heap m) (X : (hd.heap_39 w.params).In h₀)
  (N : News h₀ L s.heap ((c, instObj 169 cd) :: (cd, cDict w t1 t2 t3 t4 t5 many mp q lk n) :: (mp, om) :: (q, W.listOf vs.toArray ep) :: (lk, instObj 45 lkd) :: (lkd, dictOf [] 0) :: rest))
  (T : Top hd.view_39 (looseW hd.view_39 []) (ExcName.means s₀.heap) mg mb h₀)
  (hf : env.frame = some L) (hk : env.scope.kind = .function) (hroom : dp + 30 < recursionLimit) (hun : un + 300 < cLine)
  (hom : om.IsDictOf (intKind PySem.Challenge.rw_bb0044_01.row.prog w) kvs) (hvs : IntsAre vs ks) (hap : Apart c cd mp q lk lkd rest) (R : Rel many kvs ks r)
include B F X N T hf hk hroom hun hom hvs hap R
set_option maxRecDepth 100000 in
set_option maxHeartbeats 4000000 in
theorem done_d1h {k i : Int} {th tk0 tv : Tok} {j : Int} (hi : (k, j) ∈ r)
    (ret : ∀ v h' tk om' kvs' vs' ks' ep', Fr h₀ L h' m → News h₀ L h' ((c, instObj 169 cd) :: (cd, cDict w t1 t2 t3 t4 t5 many mp q lk n) :: (mp, om') :: (q, W.listOf vs'.toArray ep') :: (lk, instObj 45 lkd) :: (lkd, dictOf [] 0) :: rest) → om'.IsDictOf (intKind PySem.Challenge.rw_bb0044_01.row.prog w) kvs' → IntsAre vs' ks' → Rel many kvs' ks' (moved r k j) → AnsAt v (.num j) → Q v { s with heap := h', toks := tk }) :
    wpAny (model PySem.Challenge.rw_bb0044_01.row.prog w) (kTop hdl dp un gd env outer) (call (.ref 187) [.ref c, .int 1 th, .int k tk0, .int i tv]) Q E s := by
  have hkv := R.hkv
  have hks := R.hks'
  have hvl := hvs.length
  obtain ⟨a1, a2, a3, a4, a5, a6, a7, a8, a9, b1, b2, lo⟩ := hap
  have hmem := R.kmem (R.mem hi)
  have hnd := R.knd
  obtain ⟨t, hv⟩ := R.val _ _ hi
  refine wpAny_call ?_
  k_dflt cell_enter
  k_steps
  exact ret _ _ _ _ _ _ _ _ (by k_asm) (by k_asm) (by assumption) (by assumption) (R.move hi) rfl
set_option maxRecDepth 100000 in
set_option maxHeartbeats 4000000 in
theorem done_d2h {k i : Int} {th tk0 tv : Tok} {j : Int} (hi : (k, j) ∈ r)
    (ret : ∀ v h' tk om' kvs' vs' ks' ep', Fr h₀ L h' m → News h₀ L h' ((c, instObj 169 cd) :: (cd, cDict w t1 t2 t3 t4 t5 many mp q lk n) :: (mp, om') :: (q, W.listOf vs'.toArray ep') :: (lk, instObj 45 lkd) :: (lkd, dictOf [] 0) :: rest) → om'.IsDictOf (intKind PySem.Challenge.rw_bb0044_01.row.prog w) kvs' → IntsAre vs' ks' → Rel many kvs' ks' (moved r k j) → AnsAt v (.num j) → Q v { s with heap := h', toks := tk }) :
    wpAny (model PySem.Challenge.rw_bb0044_01.row.prog w) (kTop hdl dp un gd env outer) (call (.ref 187) [.ref c, .int 2 th, .int k tk0, .int i tv]) Q E s := by
  have hkv := R.hkv
  have hks := R.hks'
  have hvl := hvs.length
  obtain ⟨a1, a2, a3, a4, a5, a6, a7, a8, a9, b1, b2, lo⟩ := hap
  have hmem := R.kmem (R.mem hi)
  have hnd := R.knd
  obtain ⟨t, hv⟩ := R.val _ _ hi
  refine wpAny_call ?_
  k_dflt cell_enter
  k_steps
  exact ret _ _ _ _ _ _ _ _ (by k_asm) (by k_asm) (by assumption) (by assumption) (R.move hi) rfl
set_option maxRecDepth 100000 in
set_option maxHeartbeats 4000000 in
theorem done_d3h {k i : Int} {th tk0 tv : Tok} {j : Int} (hi : (k, j) ∈ r)
    (ret : ∀ v h' tk om' kvs' vs' ks' ep', Fr h₀ L h' m → News h₀ L h' ((c, instObj 169 cd) :: (cd, cDict w t1 t2 t3 t4 t5 many mp q lk n) :: (mp, om') :: (q, W.listOf vs'.toArray ep') :: (lk, instObj 45 lkd) :: (lkd, dictOf [] 0) :: rest) → om'.IsDictOf (intKind PySem.Challenge.rw_bb0044_01.row.prog w) kvs' → IntsAre vs' ks' → Rel many kvs' ks' (moved r k j) → AnsAt v (.num j) → Q v { s with heap := h', toks := tk }) :
    wpAny (model PySem.Challenge.rw_bb0044_01.row.prog w) (kTop hdl dp un gd env outer) (call (.ref 187) [.ref c, .int 3 th, .int k tk0, .int i tv]) Q E s := by
  have hkv := R.hkv
  have hks := R.hks'
  have hvl := hvs.length
  obtain ⟨a1, a2, a3, a4, a5, a6, a7, a8, a9, b1, b2, lo⟩ := hap
  have hmem := R.kmem (R.mem hi)
  have hnd := R.knd
  obtain ⟨t, hv⟩ := R.val _ _ hi
  refine wpAny_call ?_
  k_dflt cell_enter
  k_steps
  exact ret _ _ _ _ _ _ _ _ (by k_asm) (by k_asm) (by assumption) (by assumption) (R.move hi) rfl
set_option maxRecDepth 100000 in
set_option maxHeartbeats 4000000 in
theorem done_d4t {k i : Int} {th tk0 tv : Tok} (hi : k ∈ r.map (·.1))
    (ret : ∀ v h' tk om' kvs' vs' ks' ep', Fr h₀ L h' m → News h₀ L h' ((c, instObj 169 cd) :: (cd, cDict w t1 t2 t3 t4 t5 many mp q lk n) :: (mp, om') :: (q, W.listOf vs'.toArray ep') :: (lk, instObj 45 lkd) :: (lkd, dictOf [] 0) :: rest) → om'.IsDictOf (intKind PySem.Challenge.rw_bb0044_01.row.prog w) kvs' → IntsAre vs' ks' → Rel many kvs' ks' (r) → AnsAt v (.flag true) → Q v { s with heap := h', toks := tk }) :
    wpAny (model PySem.Challenge.rw_bb0044_01.row.prog w) (kTop hdl dp un gd env outer) (call (.ref 187) [.ref c, .int 4 th, .int k tk0, .int i tv]) Q E s := by
  have hkv := R.hkv
  have hks := R.hks'
  have hvl := hvs.length
  obtain ⟨a1, a2, a3, a4, a5, a6, a7, a8, a9, b1, b2, lo⟩ := hap
  have hb := R.isSome hi
  refine wpAny_call ?_
  k_dflt cell_enter
  k_steps
  exact ret _ _ _ _ _ _ _ _ (by k_asm) (by k_asm) (by assumption) (by assumption) (R) rfl
set_option maxRecDepth 100000 in
set_option maxHeartbeats 4000000 in
theorem done_d4f {k i : Int} {th tk0 tv : Tok} (hn : k ∉ r.map (·.1))
    (ret : ∀ v h' tk om' kvs' vs' ks' ep', Fr h₀ L h' m → News h₀ L h' ((c, instObj 169 cd) :: (cd, cDict w t1 t2 t3 t4 t5 many mp q lk n) :: (mp, om') :: (q, W.listOf vs'.toArray ep') :: (lk, instObj 45 lkd) :: (lkd, dictOf [] 0) :: rest) → om'.IsDictOf (intKind PySem.Challenge.rw_bb0044_01.row.prog w) kvs' → IntsAre vs' ks' → Rel many kvs' ks' (r) → AnsAt v (.flag false) → Q v { s with heap := h', toks := tk }) :
    wpAny (model PySem.Challenge.rw_bb0044_01.row.prog w) (kTop hdl dp un gd env outer) (call (.ref 187) [.ref c, .int 4 th, .int k tk0, .int i tv]) Q E s := by
  have hkv := R.hkv
  have hks := R.hks'
  have hvl := hvs.length
  obtain ⟨a1, a2, a3, a4, a5, a6, a7, a8, a9, b1, b2, lo⟩ := hap
  have hb : (valueAt kvs k).isSome = false := by rw [R.none hn]; rfl
  refine wpAny_call ?_
  k_dflt cell_enter
  k_steps
  exact ret _ _ _ _ _ _ _ _ (by k_asm) (by k_asm) (by assumption) (by assumption) (R) rfl
set_option maxRecDepth 100000 in
set_option maxHeartbeats 4000000 in
theorem done_d5h {k i : Int} {th tk0 tv : Tok} (hi : k ∈ r.map (·.1))
    (ret : ∀ v h' tk om' kvs' vs' ks' ep', Fr h₀ L h' m → News h₀ L h' ((c, instObj 169 cd) :: (cd, cDict w t1 t2 t3 t4 t5 many mp q lk n) :: (mp, om') :: (q, W.listOf vs'.toArray ep') :: (lk, instObj 45 lkd) :: (lkd, dictOf [] 0) :: rest) → om'.IsDictOf (intKind PySem.Challenge.rw_bb0044_01.row.prog w) kvs' → IntsAre vs' ks' → Rel many kvs' ks' (r.filter (fun p => p.1 != k)) → AnsAt v (.txt (Str.ofString "taken")) → Q v { s with heap := h', toks := tk }) :
    wpAny (model PySem.Challenge.rw_bb0044_01.row.prog w) (kTop hdl dp un gd env outer) (call (.ref 187) [.ref c, .int 5 th, .int k tk0, .int i tv]) Q E s := by
  have hkv := R.hkv
  have hks := R.hks'
  have hvl := hvs.length
  obtain ⟨a1, a2, a3, a4, a5, a6, a7, a8, a9, b1, b2, lo⟩ := hap
  have hb := R.isSome hi
  have hmem := R.kmem hi
  refine wpAny_call ?_
  k_dflt cell_enter
  k_steps
  exact ret _ _ _ _ _ _ _ _ (by k_asm) (by k_asm) (by assumption) (by assumption) (R.del k) rfl
set_option maxRecDepth 100000 in
set_option maxHeartbeats 4000000 in
theorem done_d6 {k i : Int} {th tk0 tv : Tok} 
    (ret : ∀ v h' tk om' kvs' vs' ks' ep', Fr h₀ L h' m → News h₀ L h' ((c, instObj 169 cd) :: (cd, cDict w t1 t2 t3 t4 t5 many mp q lk n) :: (mp, om') :: (q, W.listOf vs'.toArray ep') :: (lk, instObj 45 lkd) :: (lkd, dictOf [] 0) :: rest) → om'.IsDictOf (intKind PySem.Challenge.rw_bb0044_01.row.prog w) kvs' → IntsAre vs' ks' → Rel many kvs' ks' ([]) → AnsAt v (.txt (Str.ofString "empty")) → Q v { s with heap := h', toks := tk }) :
    wpAny (model PySem.Challenge.rw_bb0044_01.row.prog w) (kTop hdl dp un gd env outer) (call (.ref 187) [.ref c, .int 6 th, .int k tk0, .int i tv]) Q E s := by
  have hkv := R.hkv
  have hks := R.hks'
  have hvl := hvs.length
  obtain ⟨a1, a2, a3, a4, a5, a6, a7, a8, a9, b1, b2, lo⟩ := hap
  refine wpAny_call ?_
  k_dflt cell_enter
  k_steps
  exact ret _ _ _ _ _ _ _ _ (by k_asm) (by k_asm) (by assumption) (by constructor) (R.clear) rfl
end
end
/-! part DM -/
section
theorem walk_start_DM : True := by
  w_top off
  trivial
local macro_rules | `(tactic| k_room) => `(tactic| (dsimp only [Around.deeper, Around.mark, Around.in1, Around.under, kTop]; omega))
local macro_rules | `(tactic| k_units) => `(tactic| (have hcL9 := cLine_is; dsimp only [Around.deeper, Around.mark, Around.in1, Around.under, kTop]; omega))
local macro_rules | `(tactic| ktr_room) => `(tactic| (dsimp only [Around.deeper, Around.mark, Around.in1, Around.under, kTop]; omega))
local macro_rules | `(tactic| k_all) => `(tactic| assumption)
local macro_rules | `(tactic| k_ne) => `(tactic| first | assumption | (apply Ne.symm; assumption) | (refine neN ?_; (try dsimp only); omega))
local macro_rules | `(tactic| cell_enter) => `(tactic| (refine' code_def ?k1 ?k2 ?k3 ?k4 ?k5 ?kA ?kF ?kK ?k6 ?k7 ?k8 ?k9 ?kB ?_ ?c2 ?c3 ?c4 ?c5; (case kA => exact rfl); (case kF => assumption); (case kK => assumption); (case k1 => k_asm); (case k2 => k_asm); (case k3 => k_asm); (case k4 => k_asm); (case k5 => k_asm); (case k6 => k_is); (case k7 => k_is); (case k8 => ktr_room); (case k9 => exact BindsTo.of_eq rfl); (case c5 => decide); (case kB => exact locs rfl); (case c2 => exact rfl); (case c3 => exact rfl); (case c4 => exact rfl); k_whole; intro g' L' h' FG' F' N' B' X' T'; (try dsimp only); (try k_lift B'); (try k_fold)))
local macro_rules | `(tactic| cell_enter) => `(tactic| (refine' code_defS0 ?k1 ?k2 ?k3 ?k4 ?k5 ?kA ?k6 ?k7 ?k8 ?k9 ?kB ?_ ?cK ?c2 ?c3 ?c4 ?c5; (case kA => exact rfl); (case k2 => k_asm); (case k1 => k_asm); (case k3 => k_asm); (case k4 => k_asm); (case k5 => k_asm); (case k6 => k_is); (case k7 => k_is); (case k8 => k_room); (case k9 => first | exact BindsTo.of_eq rfl | exact binds_K (by first | assumption | k_in) rfl (by k_is) rfl rfl rfl); (case kB => exact locs rfl); (case cK => assumption); (case c2 => exact rfl); (case c3 => exact rfl); (case c4 => exact rfl); (case c5 => decide); k_whole; intro g' L' h' FG' F' N' B' X' T' D'; (try dsimp only); (try k_lift B'); (try k_fold)))
section
variable {M : Model} {A : Around} {E : Value → Shared → Prop} {s : Shared} {K : Frag} {x C L f : Addr} {h₀ : Heap} {m : Str → Option Value} {ox : Obj} {od : Option Obj} {v : Value}
end
local macro_rules | `(tactic| walk_at "delItem ref int") => `(tactic| (k_here; k_dflt (refine' my_delItem_K ?k1 ?k2 ?k3 ?k4 ?k5 ?k6 ?_; (case k1 => k_asm); (case k2 => k_asm); (case k3 => k_inst); (case k4 => k_is); (case k5 => k_is); (case k6 => k_is); k_whole)))
local macro_rules | `(tactic| walk_at "call ref") => `(tactic| (k_here; (show wpAny _ _ (call (Value.ref 121) _) _ _ _); k_dflt (refine' getitem_miss ?B ?F ?X ?N ?T ?XB ?TB ?D ?hck ?hroom ?hun ?hom ?hkv ?hvs ?hks ?hap ?hh ?hv ?_; (case B => k_asm); (case F => k_asm); (case X => k_asm); (case N => k_asm); (case T => k_asm); (case XB => assumption); (case TB => assumption); (case D => assumption); (case hck => exact rfl); (case hroom => k_room); (case hun => k_units); (case hom => assumption); (case hkv => assumption); (case hvs => assumption); (case hks => assumption); (case hap => exact ⟨‹_›, ‹_›, ‹_›, ‹_›, ‹_›, ‹_›, ‹_›, ‹_›, ‹_›, ‹_›, ‹_›, ‹_›⟩); (case hh => exact rfl); (case hv => assumption)); intro G' e' h' tk' FG' R' U'; (try dsimp only at R' U')))
local macro_rules | `(tactic| walk_at "call ref") => `(tactic| (k_here; (show wpAny _ _ (call (Value.ref 78) _) _ _ _); k_dflt (refine' get_miss ?B ?F ?X ?N ?T ?XB ?TB ?D ?hck ?hroom ?hun ?hom ?hkv ?hvs ?hks ?hap ?r2 ?u2 ?hh ?hv ?_; (case B => k_asm); (case F => k_asm); (case X => k_asm); (case N => k_asm); (case T => k_asm); (case XB => assumption); (case TB => assumption); (case D => assumption); (case hck => exact rfl); (case hroom => k_room); (case hun => k_units); (case hom => assumption); (case hkv => assumption); (case hvs => assumption); (case hks => assumption); (case hap => exact ⟨‹_›, ‹_›, ‹_›, ‹_›, ‹_›, ‹_›, ‹_›, ‹_›, ‹_›, ‹_›, ‹_›, ‹_›⟩); (case r2 => k_room); (case u2 => k_units); (case hh => exact rfl); (case hv => assumption)); intro g' h' tk' T' F' N' B' X' P' D'; (try k_lift B'); (try dsimp only at N'); (try k_sweep)))
local macro_rules | `(tactic| walk_at "call ref") => `(tactic| (k_here; (show wpAny _ _ (call (Value.ref 86) _) _ _ _); k_dflt (refine' setdef_miss ?B ?F ?X ?N ?T ?XB ?TB ?D ?hck ?hroom ?hun ?hom ?hvs ?hap ?R ?hh ?hv ?_; (case B => k_asm); (case F => k_asm); (case X => k_asm); (case N => k_asm); (case T => k_asm); (case XB => assumption); (case TB => assumption); (case D => assumption); (case hck => exact rfl); (case hroom => k_room); (case hun => k_units); (case hom => assumption); (case hvs => assumption); (case hap => exact ⟨‹_›, ‹_›, ‹_›, ‹_›, ‹_›, ‹_›, ‹_›, ‹_›, ‹_›, ‹_›, ‹_›, ‹_›⟩); (case R => assumption); (case hh => exact rfl); (case hv => assumption)); intro g' h' tk' om' kvs' vs' ks' ep' T' F' N' B' X' P' D' ho' hi' R'; (try k_lift B'); (try dsimp only at N'); (try k_sweep)))
local macro_rules | `(tactic| walk_at "call ref") => `(tactic| (k_here; (show wpAny _ _ (call (Value.ref 135) _) _ _ _); k_dflt (refine' delitem_miss ?B ?F ?X ?N ?T ?XB ?TB ?D ?hck ?hroom ?hun ?hom ?hkv ?hvs ?hks ?hap ?hh ?hv ?_; (case B => k_asm); (case F => k_asm); (case X => k_asm); (case N => k_asm); (case T => k_asm); (case XB => assumption); (case TB => assumption); (case D => assumption); (case hck => exact rfl); (case hroom => k_room); (case hun => k_units); (case hom => assumption); (case hkv => assumption); (case hvs => assumption); (case hks => assumption); (case hap => exact ⟨‹_›, ‹_›, ‹_›, ‹_›, ‹_›, ‹_›, ‹_›, ‹_›, ‹_›, ‹_›, ‹_›, ‹_›⟩); (case hh => exact rfl); (case hv => assumption)); intro G' e' h' tk' FG' R' U'; (try dsimp only at R' U')))
section
variable {w : World} {s₀ : Shared} {mg mb : Str → Option Value} {hdl : Option Value} {dp un : Nat} {gd : Option (List Code)} {cn : Str} {cs : Scope} {a : Addr} {ccd : Value} {A₀ : Around} {base h₀ : Heap} {L : Addr} {m : Str → Option Value} {s : Shared} {Q E : Value → Shared → Prop}
  {c cd mp q lk lkd : Addr} {t1 t2 t3 t4 t5 : Tok} {many : Int} {n : Nat} {om : Obj} {kvs : List (Int × Value)} {vs : List Value} {ks : List Int} {ep : Nat} {rest : List (Addr × Obj)} {r : List (Int × Int)}
  (B : Below A₀ base [] h₀) (F : Fr h₀ L s.heap m) (X : (hd.heap_39 w.params).In h₀)
  (N : News h₀ L s.heap ((c, instObj 169 cd) :: (cd, cDict w t1 t2 t3 t4 t5 many mp q lk n) :: (mp, om) :: (q, W.listOf vs.toArray ep) :: (lk, instObj 45 lkd) :: (lkd, dictOf [] 0) :: rest))
  (T : Top hd.view_39 (looseW hd.view_39 []) (ExcName.means s₀.heap) mg mb h₀)
  (XB : (hd.heap_39 w.params).In base) (TB : Top hd.view_39 (looseW hd.view_39 []) (ExcName.means s₀.heap) mg mb base) (hck : cs.kind = .function) (hroom : dp + 30 < recursionLimit) (hun : un + 300 < cLine)
  (hom : om.IsDictOf (intKind PySem.Challenge.rw_bb0044_01.row.prog w) kvs) (hvs : IntsAre vs ks) (hap : Apart c cd mp q lk lkd rest) (R : Rel many kvs ks r)
include B F X N T XB TB hck hroom hun hom hvs hap R
set_option maxRecDepth 100000 in
set_option maxHeartbeats 4000000 in
theorem done_d1m {k i : Int} {th tk0 tv : Tok} (hh : hdl = none) (hn : k ∉ r.map (·.1))
    (ret : ∀ v h' tk om' kvs' vs' ks' ep', Fr h₀ L h' m → News h₀ L h' ((c, instObj 169 cd) :: (cd, cDict w t1 t2 t3 t4 t5 many mp q lk n) :: (mp, om') :: (q, W.listOf vs'.toArray ep') :: (lk, instObj 45 lkd) :: (lkd, dictOf [] 0) :: rest) → om'.IsDictOf (intKind PySem.Challenge.rw_bb0044_01.row.prog w) kvs' → IntsAre vs' ks' → Rel many kvs' ks' (r) → AnsAt v (.txt (Str.ofString "missing")) → Q v { s with heap := h', toks := tk }) :
    wpAny (model PySem.Challenge.rw_bb0044_01.row.prog w) (kTop hdl dp un gd (envOf cn cs L a ccd) []) (call (.ref 187) [.ref c, .int 1 th, .int k tk0, .int i tv]) Q E s := by
  subst hh
  have hkv := R.hkv
  have hks := R.hks'
  have hvl := hvs.length
  obtain ⟨a1, a2, a3, a4, a5, a6, a7, a8, a9, b1, b2, lo⟩ := hap
  have hv := R.none hn
  have Xs : (hd.heap_39 w.params).In s.heap := X.keeps F.keep
  refine wpAny_call ?_
  k_dflt cell_enter
  k_steps
  exact ret _ _ _ _ _ _ _ _ (by k_asm) (by k_asm) (by assumption) (by assumption) (R) rfl
set_option maxRecDepth 100000 in
set_option maxHeartbeats 4000000 in
theorem done_d2m {k i : Int} {th tk0 tv : Tok} (hh : hdl = none) (hn : k ∉ r.map (·.1))
    (ret : ∀ v h' tk om' kvs' vs' ks' ep', Fr h₀ L h' m → News h₀ L h' ((c, instObj 169 cd) :: (cd, cDict w t1 t2 t3 t4 t5 many mp q lk n) :: (mp, om') :: (q, W.listOf vs'.toArray ep') :: (lk, instObj 45 lkd) :: (lkd, dictOf [] 0) :: rest) → om'.IsDictOf (intKind PySem.Challenge.rw_bb0044_01.row.prog w) kvs' → IntsAre vs' ks' → Rel many kvs' ks' (r) → AnsAt v (.num i) → Q v { s with heap := h', toks := tk }) :
    wpAny (model PySem.Challenge.rw_bb0044_01.row.prog w) (kTop hdl dp un gd (envOf cn cs L a ccd) []) (call (.ref 187) [.ref c, .int 2 th, .int k tk0, .int i tv]) Q E s := by
  subst hh
  have hkv := R.hkv
  have hks := R.hks'
  have hvl := hvs.length
  obtain ⟨a1, a2, a3, a4, a5, a6, a7, a8, a9, b1, b2, lo⟩ := hap
  have hv := R.none hn
  have Xs : (hd.heap_39 w.params).In s.heap := X.keeps F.keep
  refine wpAny_call ?_
  k_dflt cell_enter
  k_steps
  exact ret _ _ _ _ _ _ _ _ (by k_asm) (by k_asm) (by assumption) (by assumption) (R) rfl
set_option maxRecDepth 100000 in
set_option maxHeartbeats 4000000 in
theorem done_d3m {k i : Int} {th tk0 tv : Tok} (hh : hdl = none) (hn : k ∉ r.map (·.1))
    (ret : ∀ v h' tk om' kvs' vs' ks' ep', Fr h₀ L h' m → News h₀ L h' ((c, instObj 169 cd) :: (cd, cDict w t1 t2 t3 t4 t5 many mp q lk n) :: (mp, om') :: (q, W.listOf vs'.toArray ep') :: (lk, instObj 45 lkd) :: (lkd, dictOf [] 0) :: rest) → om'.IsDictOf (intKind PySem.Challenge.rw_bb0044_01.row.prog w) kvs' → IntsAre vs' ks' → Rel many kvs' ks' (laid many r k i) → AnsAt v (.num i) → Q v { s with heap := h', toks := tk }) :
    wpAny (model PySem.Challenge.rw_bb0044_01.row.prog w) (kTop hdl dp un gd (envOf cn cs L a ccd) []) (call (.ref 187) [.ref c, .int 3 th, .int k tk0, .int i tv]) Q E s := by
  subst hh
  have hkv := R.hkv
  have hks := R.hks'
  have hvl := hvs.length
  obtain ⟨a1, a2, a3, a4, a5, a6, a7, a8, a9, b1, b2, lo⟩ := hap
  have hv := R.none hn
  have Xs : (hd.heap_39 w.params).In s.heap := X.keeps F.keep
  refine wpAny_call ?_
  k_dflt cell_enter
  k_steps
  exact ret _ _ _ _ _ _ _ _ (by k_asm) (by k_asm) (by assumption) (by assumption) (by assumption) rfl
set_option maxRecDepth 100000 in
set_option maxHeartbeats 4000000 in
theorem done_d5m {k i : Int} {th tk0 tv : Tok} (hh : hdl = none) (hn : k ∉ r.map (·.1))
    (ret : ∀ v h' tk om' kvs' vs' ks' ep', Fr h₀ L h' m → News h₀ L h' ((c, instObj 169 cd) :: (cd, cDict w t1 t2 t3 t4 t5 many mp q lk n) :: (mp, om') :: (q, W.listOf vs'.toArray ep') :: (lk, instObj 45 lkd) :: (lkd, dictOf [] 0) :: rest) → om'.IsDictOf (intKind PySem.Challenge.rw_bb0044_01.row.prog w) kvs' → IntsAre vs' ks' → Rel many kvs' ks' (r) → AnsAt v (.txt (Str.ofString "missing")) → Q v { s with heap := h', toks := tk }) :
    wpAny (model PySem.Challenge.rw_bb0044_01.row.prog w) (kTop hdl dp un gd (envOf cn cs L a ccd) []) (call (.ref 187) [.ref c, .int 5 th, .int k tk0, .int i tv]) Q E s := by
  subst hh
  have hkv := R.hkv
  have hks := R.hks'
  have hvl := hvs.length
  obtain ⟨a1, a2, a3, a4, a5, a6, a7, a8, a9, b1, b2, lo⟩ := hap
  have hv := R.none hn
  have Xs : (hd.heap_39 w.params).In s.heap := X.keeps F.keep
  refine wpAny_call ?_
  k_dflt cell_enter
  k_steps
  exact ret _ _ _ _ _ _ _ _ (by k_asm) (by k_asm) (by assumption) (by assumption) (R) rfl
end
end
/-! part ST -/
section
def step (many : Int) (r : List (Int × Int)) (how k i : Int) : List (Int × Int) × Ans :=
  if how = 0 then (laid many r k i, .txt (Str.ofString "laid"))
  else match (theres r k).map (·.2) with
  | j :: _ => if how = 1 ∨ how = 2 ∨ how = 3 then (moved r k j, .num j) else if how = 4 then (r, .flag true) else if how = 5 then (r.filter (fun p => p.1 != k), .txt (Str.ofString "taken")) else ([], .txt (Str.ofString "empty"))
  | [] => if how = 1 then (r, .txt (Str.ofString "missing")) else if how = 2 then (r, .num i) else if how = 3 then (laid many r k i, .num i) else if how = 4 then (r, .flag false)
    else if how = 5 then (r.filter (fun p => p.1 != k), .txt (Str.ofString "missing")) else ([], .txt (Str.ofString "empty"))
section
variable {many k i j : Int} {r : List (Int × Int)} {js : List Int}
theorem step_0 : step many r 0 k i = (laid many r k i, .txt (Str.ofString "laid")) := rfl
theorem step_123h (h : (theres r k).map (·.2) = j :: js) {how : Int} (hh : how = 1 ∨ how = 2 ∨ how = 3) : step many r how k i = (moved r k j, .num j) := by
  unfold step; rw [if_neg (by omega), h]; simp only [if_pos hh]
theorem step_4h (h : (theres r k).map (·.2) = j :: js) : step many r 4 k i = (r, .flag true) := by unfold step; rw [h]; rfl
theorem step_5h (h : (theres r k).map (·.2) = j :: js) : step many r 5 k i = (r.filter (fun p => p.1 != k), .txt (Str.ofString "taken")) := by unfold step; rw [h]; rfl
theorem step_1m (h : (theres r k).map (·.2) = []) : step many r 1 k i = (r, .txt (Str.ofString "missing")) := by unfold step; rw [h]; rfl
theorem step_2m (h : (theres r k).map (·.2) = []) : step many r 2 k i = (r, .num i) := by unfold step; rw [h]; rfl
theorem step_3m (h : (theres r k).map (·.2) = []) : step many r 3 k i = (laid many r k i, .num i) := by unfold step; rw [h]; rfl
theorem step_4m (h : (theres r k).map (·.2) = []) : step many r 4 k i = (r, .flag false) := by unfold step; rw [h]; rfl
theorem step_5m (h : (theres r k).map (·.2) = []) : step many r 5 k i = (r.filter (fun p => p.1 != k), .txt (Str.ofString "missing")) := by unfold step; rw [h]; rfl
theorem step_6 : step many r 6 k i = ([], .txt (Str.ofString "empty")) := by
  unfold step; rw [if_neg (by decide)]; split <;> rfl
theorem theres_head (h : (theres r k).map (·.2) = j :: js) : (k, j) ∈ r := by
  have hm : j ∈ (theres r k).map (·.2) := by rw [h]; exact .head _
  obtain ⟨⟨a, b⟩, hp, e⟩ := List.mem_map.mp hm
  obtain ⟨hp, hk⟩ := List.mem_filter.mp hp
  have hk' : a = k := by simpa using hk
  have e' : b = j := e
  rw [← hk', ← e']; exact hp
theorem theres_none (h : (theres r k).map (·.2) = []) : k ∉ r.map (·.1) := theres_nil.mp (List.map_eq_nil_iff.mp h)
end
end
/-! part TK -/
section
theorem walk_start_TK : True := by
  w_top off
  trivial
local macro_rules | `(tactic| k_room) => `(tactic| (dsimp only [Around.deeper, Around.mark, Around.in1, Around.under, kTop]; omega))
local macro_rules | `(tactic| k_units) => `(tactic| (have hcL9 := cLine_is; dsimp only [Around.deeper, Around.mark, Around.in1, Around.under, kTop]; omega))
local macro_rules | `(tactic| ktr_room) => `(tactic| (dsimp only [Around.deeper, Around.mark, Around.in1, Around.under, kTop]; omega))
local macro_rules | `(tactic| k_all) => `(tactic| assumption)
local macro_rules | `(tactic| k_ne) => `(tactic| first | assumption | (apply Ne.symm; assumption) | (refine neN ?_; (try dsimp only); omega))
local macro_rules | `(tactic| cell_enter) => `(tactic| (refine' code_def ?k1 ?k2 ?k3 ?k4 ?k5 ?kA ?kF ?kK ?k6 ?k7 ?k8 ?k9 ?kB ?_ ?c2 ?c3 ?c4 ?c5; (case kA => exact rfl); (case kF => assumption); (case kK => assumption); (case k1 => k_asm); (case k2 => k_asm); (case k3 => k_asm); (case k4 => k_asm); (case k5 => k_asm); (case k6 => k_is); (case k7 => k_is); (case k8 => ktr_room); (case k9 => exact BindsTo.of_eq rfl); (case c5 => decide); (case kB => exact locs rfl); (case c2 => exact rfl); (case c3 => exact rfl); (case c4 => exact rfl); k_whole; intro g' L' h' FG' F' N' B' X' T'; (try dsimp only); (try k_lift B'); (try k_fold)))
local macro_rules | `(tactic| walk_at "compareOp In int ref") => `(tactic| (k_here; k_dflt (refine' kda_in (knd := intKind _ _) ?N ?m ?d ?lo (intKind_is _ _ _ _) _ ?e ?_; (case N => k_asm); (case m => k_mem); (case d => assumption); (case lo => assumption); (case e => assumption))))
local macro_rules | `(tactic| walk_at "call builtin:len") => `(tactic| (k_here; (with_reducible show wpAny _ _ (call (Value.builtin "len") [Value.ref _]) _ _ _); k_dflt (refine' kda_len (knd := intKind _ _) ?N ?m ?d ?lo ?z ?_; (case N => k_asm); (case m => k_mem); (case d => assumption); (case lo => assumption); (case z => omega))))
local macro_rules | `(tactic| walk_at "setItem ref int") => `(tactic| (k_here; k_dflt (refine' kda_set (knd := intKind _ _) ?F ?N ?U ?d (intKind_is _ _ _ _) ?z ?_; (case F => k_asm); (case N => k_asm); (case U => k_updF); (case d => assumption); (case z => (rw [sizeLine_eq]; first | omega | (refine Nat.le_trans (List.length_filter_le _ _) ?_; omega)))); intro h' o' F' N' hd'; (try dsimp only at N'); (try k_sweep)))
local macro_rules | `(tactic| walk_at "call builtin:list.pop") => `(tactic| (k_here; (with_reducible show wpAny _ _ (call (Value.builtin _) [Value.ref _, Value.int 0 _]) _ _ _); k_dflt (refine' my_pop0 ?F ?N ?i ?U ?z ?_; (case F => k_asm); (case N => k_asm); (case U => k_updF); (case i => assumption); (case z => simp only [List.length_cons] at *; omega)); intro t' h' vs' n' F' N' hi'; (try dsimp only at N'); (try k_sweep)))
local macro_rules | `(tactic| walk_at "delItem ref int") => `(tactic| (k_here; k_dflt (refine' kob_del (knd := intKind _ _) ?F ?N ?U ?d (intKind_is _ _ _ _) ?l ?z ?_; (case F => k_asm); (case N => k_asm); (case U => k_updF); (case d => assumption); (case l => assumption); (case z => (rw [sizeLine_eq]; omega))); intro h' o' F' N' hd'; (try dsimp only at N'); (try k_sweep)))
local macro_rules | `(tactic| walk_at "call builtin:dict.clear") => `(tactic| (k_here; k_dflt (refine' my_dclear ?F ?N ?U ?d ?z ?_; (case F => k_asm); (case N => k_asm); (case U => k_updF); (case d => assumption); (case z => omega)); intro h' o' F' N' hd'; (try dsimp only at N'); (try k_sweep)))
local macro_rules | `(tactic| walk_at "getMethod ref") => `(tactic| (k_here; (with_reducible show wpAny _ _ (getMethod (Value.ref _) (PySem.Str.ofString "clear") _) _ _ _); k_dflt (first
  | (refine' kl_method ?N ?m PySem.F.slot_list_clear PySem.F.type_list_clear ?_; (case N => k_asm); (case m => k_mem))
  | (refine' my_dmeth PySem.F.slot_dict_clear PySem.F.type_dict_clear ?N ?m ?d ?_; (case N => k_asm); (case m => k_mem); (case d => assumption)))))
section
variable {w : World} {s₀ : Shared} {mg mb : Str → Option Value} {hdl : Option Value} {dp un : Nat} {gd : Option (List Code)} {env : Env} {outer : List Env} {A₀ : Around} {base h₀ : Heap} {L : Addr} {m : Str → Option Value} {s : Shared} {Q E : Value → Shared → Prop}
  {dr dl : Addr} {x : Int} {tx : Tok} {e1 e2 : Nat} {xs : List Value} {ns : List Int} {rest : List (Addr × Obj)}
  (B : Below A₀ base outer h₀) (F : Fr h₀ L s.heap m) (X : (hd.heap_39 w.params).In h₀)
  (N : News h₀ L s.heap ((dr, W.listOf #[.int x tx, .ref dl] e1) :: (dl, W.listOf xs.toArray e2) :: rest))
  (T : Top hd.view_39 (looseW hd.view_39 []) (ExcName.means s₀.heap) mg mb h₀)
  (hf : env.frame = some L) (hk : env.scope.kind = .function) (hroom : dp + 10 < recursionLimit) (hun : un + 80 < cLine)
  (hxs : IntsAre xs ns) (hns : ns.length ≤ 1000) (ap : dr ≠ dl) (b1 : ∀ p ∈ rest, p.1 ≠ dr) (b2 : ∀ p ∈ rest, p.1 ≠ dl)
include B F X N T hf hk hroom hun hxs hns ap b1 b2
set_option maxRecDepth 100000 in
set_option maxHeartbeats 4000000 in
theorem take_no {M : Int} {tM : Tok} (hM : 0 < M) (hM2 : M ≤ 10) (hx : ¬ x = 0)
    (ret : ∀ f tf h' tk y ty e1', Fr h₀ L h' m → News h₀ L h' ((dr, W.listOf #[.int y ty, .ref dl] e1') :: (dl, W.listOf xs.toArray e2) :: rest) → 0 ≤ f → f < M → Q (.int f tf) { s with heap := h', toks := tk }) :
    wpAny (model PySem.Challenge.rw_bb0044_01.row.prog w) (kTop hdl dp un gd env outer) (call (.ref 180) [.ref dr, .int M tM]) Q E s := by
  have hM' : ¬ M = 0 := by omega
  refine wpAny_call ?_
  k_dflt cell_enter
  k_steps
  all_goals (try contradiction)
  exact ret _ _ _ _ _ _ _ (by k_asm) (by k_asm) (Int.fmod_nonneg_of_pos _ hM) (Int.fmod_lt_of_pos _ hM)
set_option maxRecDepth 100000 in
set_option maxHeartbeats 4000000 in
theorem take_nil {M : Int} {tM : Tok} (hM : 0 < M) (hM2 : M ≤ 10) (hx : x = 0) (hn : ns = [])
    (ret : ∀ f tf h' tk y ty e1', Fr h₀ L h' m → News h₀ L h' ((dr, W.listOf #[.int y ty, .ref dl] e1') :: (dl, W.listOf xs.toArray e2) :: rest) → 0 ≤ f → f < M → Q (.int f tf) { s with heap := h', toks := tk }) :
    wpAny (model PySem.Challenge.rw_bb0044_01.row.prog w) (kTop hdl dp un gd env outer) (call (.ref 180) [.ref dr, .int M tM]) Q E s := by
  have hM' : ¬ M = 0 := by omega
  subst hx hn
  cases hxs
  refine wpAny_call ?_
  k_dflt cell_enter
  k_steps
  all_goals (try contradiction)
  (rename News _ _ _ _ => N')
  exact ret _ _ _ _ _ _ _ (by k_asm) (fun p hp => N' p (List.Mem.tail _ hp)) (Int.fmod_nonneg_of_pos _ hM) (Int.fmod_lt_of_pos _ hM)
set_option maxRecDepth 100000 in
set_option maxHeartbeats 4000000 in
theorem take_pop {M : Int} {tM : Tok} (hM : 0 < M) (hM2 : M ≤ 10) {n0 : Int} {ns0 : List Int} (hx : x = 0) (hn : ns = n0 :: ns0)
    (ret : ∀ f tf h' tk y ty e1' (xs' : List Value) (e2' : Nat), IntsAre xs' ns0 → Fr h₀ L h' m → News h₀ L h' ((dr, W.listOf #[.int y ty, .ref dl] e1') :: (dl, W.listOf xs'.toArray e2') :: rest) → 0 ≤ f → f < M → Q (.int f tf) { s with heap := h', toks := tk }) :
    wpAny (model PySem.Challenge.rw_bb0044_01.row.prog w) (kTop hdl dp un gd env outer) (call (.ref 180) [.ref dr, .int M tM]) Q E s := by
  have hM' : ¬ M = 0 := by omega
  subst hx hn
  refine wpAny_call ?_
  k_dflt cell_enter
  k_steps
  all_goals (try contradiction)
  (rename News _ _ _ _ => N')
  exact ret _ _ _ _ _ _ _ _ _ (by assumption) (by k_asm) (fun p hp => N' p (List.Mem.tail _ hp)) (Int.fmod_nonneg_of_pos _ hM) (Int.fmod_lt_of_pos _ hM)
end
end
/-! part TP -/
section
section
variable {w : World} {s₀ : Shared} {mg mb : Str → Option Value} {hdl : Option Value} {dp un : Nat} {gd : Option (List Code)} {env : Env} {outer : List Env} {A₀ : Around} {base h₀ : Heap} {L : Addr} {m : Str → Option Value} {s : Shared} {Q E : Value → Shared → Prop}
  {dr dl : Addr} {x : Int} {tx : Tok} {e1 e2 : Nat} {xs : List Value} {ns : List Int} {rest : List (Addr × Obj)}
  (B : Below A₀ base outer h₀) (F : Fr h₀ L s.heap m) (X : (hd.heap_39 w.params).In h₀)
  (N : News h₀ L s.heap ((dr, W.listOf #[.int x tx, .ref dl] e1) :: (dl, W.listOf xs.toArray e2) :: rest))
  (T : Top hd.view_39 (looseW hd.view_39 []) (ExcName.means s₀.heap) mg mb h₀)
  (hf : env.frame = some L) (hk : env.scope.kind = .function) (hroom : dp + 10 < recursionLimit) (hun : un + 80 < cLine)
  (hxs : IntsAre xs ns) (hns : ns.length ≤ 1000) (ap : dr ≠ dl) (b1 : ∀ p ∈ rest, p.1 ≠ dr) (b2 : ∀ p ∈ rest, p.1 ≠ dl)
include B F X N T hf hk hroom hun hxs hns ap b1 b2
theorem take_pact {M : Int} {tM : Tok} (hM : 0 < M) (hM2 : M ≤ 10)
    (ret : ∀ f tf h' tk y ty e1' (xs' : List Value) (ns' : List Int) (e2' : Nat), IntsAre xs' ns' → ns'.length ≤ ns.length → Fr h₀ L h' m → News h₀ L h' ((dr, W.listOf #[.int y ty, .ref dl] e1') :: (dl, W.listOf xs'.toArray e2') :: rest) → 0 ≤ f → f < M → Q (.int f tf) { s with heap := h', toks := tk }) :
    wpAny (model PySem.Challenge.rw_bb0044_01.row.prog w) (kTop hdl dp un gd env outer) (call (.ref 180) [.ref dr, .int M tM]) Q E s := by
  by_cases hx : x = 0
  · cases hn : ns with
    | nil => exact take_nil B F X N T hf hk hroom hun hxs hns ap b1 b2 hM hM2 hx hn fun f tf h' tk y ty e1' F' N' a b => ret f tf h' tk y ty e1' [] [] e2 .nil (Nat.zero_le _) F' (by rw [hn] at hxs; cases hxs; exact N') a b
    | cons n0 ns0 => exact take_pop B F X N T hf hk hroom hun hxs hns ap b1 b2 hM hM2 hx hn fun f tf h' tk y ty e1' xs' e2' hi F' N' a b => ret f tf h' tk y ty e1' xs' ns0 e2' hi (by rw [hn]; simp) F' N' a b
  · exact take_no B F X N T hf hk hroom hun hxs hns ap b1 b2 hM hM2 hx fun f tf h' tk y ty e1' F' N' a b => ret f tf h' tk y ty e1' xs ns e2 hxs (Nat.le_refl _) F' N' a b
end
end
/-! part DP -/
section
section
variable {w : World} {s₀ : Shared} {mg mb : Str → Option Value} {hdl : Option Value} {dp un : Nat} {gd : Option (List Code)} {cn : Str} {cs : Scope} {a : Addr} {ccd : Value} {A₀ : Around} {base h₀ : Heap} {L : Addr} {m : Str → Option Value} {s : Shared} {Q E : Value → Shared → Prop}
  {c cd mp q lk lkd : Addr} {t1 t2 t3 t4 t5 : Tok} {many : Int} {n : Nat} {om : Obj} {kvs : List (Int × Value)} {vs : List Value} {ks : List Int} {ep : Nat} {rest : List (Addr × Obj)} {r : List (Int × Int)}
  (B : Below A₀ base [] h₀) (F : Fr h₀ L s.heap m) (X : (hd.heap_39 w.params).In h₀)
  (N : News h₀ L s.heap ((c, instObj 169 cd) :: (cd, cDict w t1 t2 t3 t4 t5 many mp q lk n) :: (mp, om) :: (q, W.listOf vs.toArray ep) :: (lk, instObj 45 lkd) :: (lkd, dictOf [] 0) :: rest))
  (T : Top hd.view_39 (looseW hd.view_39 []) (ExcName.means s₀.heap) mg mb h₀)
  (XB : (hd.heap_39 w.params).In base) (TB : Top hd.view_39 (looseW hd.view_39 []) (ExcName.means s₀.heap) mg mb base) (hck : cs.kind = .function) (hroom : dp + 30 < recursionLimit) (hun : un + 300 < cLine)
  (hom : om.IsDictOf (intKind PySem.Challenge.rw_bb0044_01.row.prog w) kvs) (hvs : IntsAre vs ks) (hap : Apart c cd mp q lk lkd rest) (R : Rel many kvs ks r)
include B F X N T XB TB hck hroom hun hom hvs hap R
theorem done_pact {k i how : Int} {th tk0 tv : Tok} (hh : hdl = none) (h0 : 0 ≤ how) (h7 : how < 7)
    (ret : ∀ v h' tk om' kvs' vs' ks' ep', Fr h₀ L h' m → News h₀ L h' ((c, instObj 169 cd) :: (cd, cDict w t1 t2 t3 t4 t5 many mp q lk n) :: (mp, om') :: (q, W.listOf vs'.toArray ep') :: (lk, instObj 45 lkd) :: (lkd, dictOf [] 0) :: rest) → om'.IsDictOf (intKind PySem.Challenge.rw_bb0044_01.row.prog w) kvs' → IntsAre vs' ks' → Rel many kvs' ks' (step many r how k i).1 → AnsAt v (step many r how k i).2 → Q v { s with heap := h', toks := tk }) :
    wpAny (model PySem.Challenge.rw_bb0044_01.row.prog w) (kTop hdl dp un gd (envOf cn cs L a ccd) []) (call (.ref 187) [.ref c, .int how th, .int k tk0, .int i tv]) Q E s := by
  have hc : how = 0 ∨ how = 1 ∨ how = 2 ∨ how = 3 ∨ how = 4 ∨ how = 5 ∨ how = 6 := by omega
  cases hj : (theres r k).map (·.2) with
  | nil =>
    have hn := theres_none hj
    rcases hc with rfl | rfl | rfl | rfl | rfl | rfl | rfl
    · rw [step_0] at ret; exact done_d0 B F X N T rfl hck hroom hun hom hvs hap R ret
    · rw [step_1m hj] at ret; exact done_d1m B F X N T XB TB hck hroom hun hom hvs hap R hh hn ret
    · rw [step_2m hj] at ret; exact done_d2m B F X N T XB TB hck hroom hun hom hvs hap R hh hn ret
    · rw [step_3m hj] at ret; exact done_d3m B F X N T XB TB hck hroom hun hom hvs hap R hh hn ret
    · rw [step_4m hj] at ret; exact done_d4f B F X N T rfl hck hroom hun hom hvs hap R hn ret
    · rw [step_5m hj] at ret; rw [filter_none hn] at ret; exact done_d5m B F X N T XB TB hck hroom hun hom hvs hap R hh hn ret
    · rw [step_6] at ret; exact done_d6 B F X N T rfl hck hroom hun hom hvs hap R ret
  | cons j js =>
    have hi := theres_head hj
    rcases hc with rfl | rfl | rfl | rfl | rfl | rfl | rfl
    · rw [step_0] at ret; exact done_d0 B F X N T rfl hck hroom hun hom hvs hap R ret
    · rw [step_123h hj (by decide)] at ret; exact done_d1h B F X N T rfl hck hroom hun hom hvs hap R hi ret
    · rw [step_123h hj (by decide)] at ret; exact done_d2h B F X N T rfl hck hroom hun hom hvs hap R hi ret
    · rw [step_123h hj (by decide)] at ret; exact done_d3h B F X N T rfl hck hroom hun hom hvs hap R hi ret
    · rw [step_4h hj] at ret; exact done_d4t B F X N T rfl hck hroom hun hom hvs hap R (R.mem hi) ret
    · rw [step_5h hj] at ret; exact done_d5h B F X N T rfl hck hroom hun hom hvs hap R (R.mem hi) ret
    · rw [step_6] at ret; exact done_d6 B F X N T rfl hck hroom hun hom hvs hap R ret
end
end
/-! part DQ -/
section
section
variable {w : World} {s₀ : Shared} {mg mb : Str → Option Value} {hdl : Option Value} {dp un : Nat} {gd : Option (List Code)} {env : Env} {outer : List Env} {A₀ : Around} {base h₀ : Heap} {L : Addr} {m : Str → Option Value} {s : Shared} {Q E : Value → Shared → Prop}
  {ro : Addr} {e0 : Nat} {ys : List Value} {r : List (Int × Int)} {rest tups : List (Addr × Obj)}
  (B : Below A₀ base outer h₀) (F : Fr h₀ L s.heap m) (X : (hd.heap_39 w.params).In h₀)
  (N : News h₀ L s.heap ((ro, W.listOf ys.toArray e0) :: rest))
  (T : Top hd.view_39 (looseW hd.view_39 []) (ExcName.means s₀.heap) mg mb h₀)
  (hf : env.frame = some L) (hk : env.scope.kind = .function) (hroom : dp + 10 < recursionLimit) (hun : un + 80 < cLine)
  (hr : RowIn tups ys r) (hsub : ∀ p ∈ tups, p ∈ rest) (hys : ys.length ≤ 100)
include B F X N T hf hk hroom hun hr hsub hys
theorem due_pact {k i many how : Int} {tk0 tv tm th : Tok} (hroom2 : dp + 30 < recursionLimit) (hun2 : un + 300 < cLine) (hh : hdl = none) (htu : TupsOk tups) (h0 : 0 ≤ how) (h7 : how < 7)
    (ret : ∀ P D h' tk zs e v tups', Fr h₀ L h' m → News h₀ L h' ((P, tupO [.ref D, v] 0) :: (D, W.listOf zs.toArray e) :: (tups' ++ rest)) → RowIn tups' zs (step many r how k i).1 → TupsOk tups' → AnsAt v (step many r how k i).2 → (D = ro ∨ ∀ p ∈ rest, p.1 ≠ D) → Q (.ref P) { s with heap := h', toks := tk }) :
    wpAny (model PySem.Challenge.rw_bb0044_01.row.prog w) (kTop hdl dp un gd env outer) (call (.ref 202) [.ref ro, .int many tm, .int how th, .int k tk0, .int i tv]) Q E s := by
  have hc : how = 0 ∨ how = 1 ∨ how = 2 ∨ how = 3 ∨ how = 4 ∨ how = 5 ∨ how = 6 := by omega
  cases hj : (theres r k).map (·.2) with
  | nil =>
    rcases hc with rfl | rfl | rfl | rfl | rfl | rfl | rfl
    · rw [step_0] at ret; exact due_0 B F X N T hf hk hroom hun hr hsub hys hroom2 hun2 hh htu ret
    · rw [step_1m hj] at ret; exact due_1m B F X N T hf hk hroom hun hr hsub hys hroom2 hun2 hh htu hj ret
    · rw [step_2m hj] at ret; exact due_2m B F X N T hf hk hroom hun hr hsub hys hroom2 hun2 hh htu hj ret
    · rw [step_3m hj] at ret; exact due_3m B F X N T hf hk hroom hun hr hsub hys hroom2 hun2 hh htu hj ret
    · rw [step_4m hj] at ret; exact due_4m B F X N T hf hk hroom hun hr hsub hys hroom2 hun2 hh htu hj ret
    · rw [step_5m hj] at ret; exact due_5m B F X N T hf hk hroom hun hr hsub hys hroom2 hun2 hh htu hj ret
    · rw [step_6] at ret; exact due_6 B F X N T hf hk hroom hun hr hsub hys hroom2 hun2 hh htu ret
  | cons j js =>
    rcases hc with rfl | rfl | rfl | rfl | rfl | rfl | rfl
    · rw [step_0] at ret; exact due_0 B F X N T hf hk hroom hun hr hsub hys hroom2 hun2 hh htu ret
    · rw [step_123h hj (by decide)] at ret; exact due_1h B F X N T hf hk hroom hun hr hsub hys hroom2 hun2 hh htu hj ret
    · rw [step_123h hj (by decide)] at ret; exact due_2h B F X N T hf hk hroom hun hr hsub hys hroom2 hun2 hh htu hj ret
    · rw [step_123h hj (by decide)] at ret; exact due_3h B F X N T hf hk hroom hun hr hsub hys hroom2 hun2 hh htu hj ret
    · rw [step_4h hj] at ret; exact due_4h B F X N T hf hk hroom hun hr hsub hys hroom2 hun2 hh htu hj ret
    · rw [step_5h hj] at ret; exact due_5h B F X N T hf hk hroom hun hr hsub hys hroom2 hun2 hh htu hj ret
    · rw [step_6] at ret; exact due_6 B F X N T hf hk hroom hun hr hsub hys hroom2 hun2 hh htu ret
end
end
/-! part CO -/
section
section
variable {prog : Program} {w : World} {A : Around} {E : Value → Shared → Prop} {env : Env}
theorem my_comp_it {s : Shared} {elt iter : Expr} {x : Str} {px : Pos} {scope : Scope} {cl : List (Str × Addr)} {pos : Pos} {Q : Value → Shared → Prop}
    (hclos : closureFor scope env = pure cl) (hcell : ∀ y ∈ scope.names, y.2 ≠ .cell) (hkind : scope.kind = .function)
    (hnames : ∀ y ∈ scope.names, y.2 = .local → scope.names.lookup y.1 = some .local) (hx : scope.names.lookup x = some .local)
    (hs : ∀ x, foldedSetIterable iter env x = pure x)
    (h : wpAny (model prog w) A (eval iter env) (fun xv s₁ => wpAny (model prog w) A (pyIter xv) (fun it s₂ => ∃ (g : Heap) (L : Addr) (m : Str → Option Value) (news : List (Addr × Obj)) (I : Addr) (oI : Obj) (fp : List Addr) (n : Nat) (P : Nat → Value → Prop) (St : Nat → Heap → Prop),
      it = .ref I ∧ Fr g L s₂.heap m ∧ News g L s₂.heap ((I, oI) :: news) ∧ (∀ p ∈ news, p.1 ≠ I) ∧ Walks prog w A I fp [I] n P St ∧ n ≤ 1000 ∧ (∀ i h, St i h → ∃ o, h.get? I = some o) ∧ St 0 s₂.heap ∧ (∀ b ∈ fp, b < s₂.heap.objs.size) ∧
      (∀ (C : Addr) (v : Value) (s₃ : Shared) (m₃ : Str → Option Value) E', s₃.heap.Ns C m₃ → m₃ x = some v →
        wpAny (model prog w) A (eval elt (compEnvC scope cl C env)) (fun y s₄ => y = v ∧ Keeps s₃ s₄) E' s₃) ∧
      (∀ (D2 : Addr) (h' : Heap) (tk : Nat) (vs : List Value) (n2 : Nat), Fr g L h' m → News g L h' ((D2, W.listOf vs.toArray n2) :: news) → vs.length = n → (∀ j v, vs[j]? = some v → P j v) → Q (.ref D2) { s₂ with heap := h', toks := tk })) E s₁) E s) :
    wpAny (model prog w) A (eval (.ListComp elt [⟨.Name x px, iter, [], 0⟩] scope pos) env) Q E s := by
  refine my_comp hclos hcell hkind hnames hx (wpAny_mono h (fun xv s₁ h₁ => wpAny_mono h₁ (fun it s₂ h₂ => ?_) fun _ _ z => z) fun _ _ z => z) hs
  obtain ⟨g, L, m, news, I, oI, fp, n, P, St, rfl, F1, N1, hne, W, hn, hlive, hst, hfp, helt, hQ⟩ := h₂
  refine ⟨I, fp, [I], n, P, St, fun _ => true, fun _ _ v y => y = v, rfl, W, hn, ?_, hst, hfp, ?_, ?_⟩
  · intro i h hS b hb
    rw [List.mem_singleton.mp hb]
    exact hlive i h hS
  · refine ⟨fun _ _ _ _ _ _ h => h, ?_, ?_⟩
    · intro C i v s₃ m₃ E' hP hn hx hk
      exact wpAny_tests_nil ⟨rfl, s₃.heap, s₃.toks, rfl, fun _ _ e => e⟩
    · intro C D2 i v s₃ m₃ E' hP hp hn hx hk live
      exact helt C v s₃ m₃ E' hn hx
  · intro D2 C h3 tk3 ys3 vs3 hD2 hC hpl hlen hP hR hkeep
    obtain ⟨n3, hn3⟩ := hpl
    have hfl : vs3.filter (fun _ => true) = vs3 := by simp
    rw [hfl] at hR
    have hys := paired_id hR
    have F3 := fr_moved F1 hkeep (by simpa using (N1 _ (.head _)).2.1.symm) (by simpa using (N1 _ (.head _)).2.2)
    have N3 := news_list F1 (news := news) (fun p hp => N1 p (.tail _ hp)) hkeep (fun p hp hm => absurd (List.mem_singleton.mp hm) (hne p hp)) hD2 hn3
    rw [hys] at N3
    exact hQ D2 h3 tk3 vs3 n3 F3 N3 hlen hP
theorem rev_places {vs ws : List Value} (hlen : ws.length = vs.toArray.size) (hP : ∀ j v, ws[j]? = some v → vs.toArray[vs.toArray.size - 1 - j]? = some v) : ws = vs.reverse := by
  rw [List.size_toArray] at hlen
  apply List.ext_getElem?
  intro j
  by_cases hj : j < ws.length
  · have h1 : ws[j]? = some ws[j] := List.getElem?_eq_getElem hj
    have h2 := hP j _ h1
    rw [h1, List.getElem?_reverse (by omega)]
    simpa using h2.symm
  · rw [List.getElem?_eq_none (by omega), List.getElem?_eq_none (by rw [List.length_reverse]; omega)]
end
section
variable {prog : Program} {w : World} {A : Around} {E : Value → Shared → Prop} {env : Env}
theorem my_comp_none {s : Shared} {elt iter : Expr} {x : Str} {px : Pos} {ifs : List Expr} {scope : Scope} {cl : List (Str × Addr)} {pos : Pos} {Q : Value → Shared → Prop}
    (hclos : closureFor scope env = pure cl) (hcell : ∀ y ∈ scope.names, y.2 ≠ .cell) (hkind : scope.kind = .function)
    (hnames : ∀ y ∈ scope.names, y.2 = .local → scope.names.lookup y.1 = some .local) (hx : scope.names.lookup x = some .local)
    (hs : ∀ x, foldedSetIterable iter env x = pure x)
    (h : wpAny (model prog w) A (eval iter env) (fun xv s₁ => wpAny (model prog w) A (pyIter xv) (fun it s₂ => ∃ (g : Heap) (L : Addr) (m : Str → Option Value) (news : List (Addr × Obj)) (I : Addr) (oI : Obj) (fp : List Addr) (n : Nat) (P : Nat → Value → Prop) (St : Nat → Heap → Prop),
      it = .ref I ∧ Fr g L s₂.heap m ∧ News g L s₂.heap ((I, oI) :: news) ∧ (∀ p ∈ news, p.1 ≠ I) ∧ Walks prog w A I fp [I] n P St ∧ n ≤ 1000 ∧ (∀ i h, St i h → ∃ o, h.get? I = some o) ∧ St 0 s₂.heap ∧ (∀ b ∈ fp, b < s₂.heap.objs.size) ∧
      (∀ (C : Addr) (i : Nat) (v : Value) (s₃ : Shared) (m₃ : Str → Option Value) E', P i v → s₃.heap.Ns C m₃ → m₃ x = some v → Fr g L s₃.heap m → News g L s₃.heap news →
        wpAny (model prog w) A (forIn ifs true fun c r => if r = true then do let ok ← isTrue c (compEnvC scope cl C env) (eval c (compEnvC scope cl C env)); pure (ForInStep.yield ok) else pure (ForInStep.yield r))
          (fun ok s₄ => ok = false ∧ Keeps s₃ s₄) E' s₃) ∧
      (∀ (D2 : Addr) (h' : Heap) (tk : Nat) (n2 : Nat), Fr g L h' m → News g L h' ((D2, W.listOf #[] n2) :: news) → Q (.ref D2) { s₂ with heap := h', toks := tk })) E s₁) E s) :
    wpAny (model prog w) A (eval (.ListComp elt [⟨.Name x px, iter, ifs, 0⟩] scope pos) env) Q E s := by
  refine my_comp hclos hcell hkind hnames hx (wpAny_mono h (fun xv s₁ h₁ => wpAny_mono h₁ (fun it s₂ h₂ => ?_) fun _ _ z => z) fun _ _ z => z) hs
  obtain ⟨g, L, m, news, I, oI, fp, n, P, St, rfl, F1, N1, hne, W, hn, hlive, hst, hfp, htests, hQ⟩ := h₂
  refine ⟨I, fp, [I], n, P, St, fun _ => false, fun _ _ v y => False, rfl, W, hn, ?_, hst, hfp, ?_, ?_⟩
  · intro i h hS b hb
    rw [List.mem_singleton.mp hb]
    exact hlive i h hS
  · refine ⟨fun _ _ _ _ _ _ h => h, ?_, ?_⟩
    · intro C i v s₃ m₃ E' hP hn hx hk
      exact htests C i v s₃ m₃ E' hP hn hx (fr_moved F1 hk (by simpa using (N1 _ (.head _)).2.1.symm) (by simpa using (N1 _ (.head _)).2.2)) (news_moved (fun p hp => N1 p (.tail _ hp)) hk fun p hp hm => absurd (List.mem_singleton.mp hm) (hne p hp))
    · intro C D2 i v s₃ m₃ E' hP hp hn hx hk live
      cases hp
  · intro D2 C h3 tk3 ys3 vs3 hD2 hC hpl hlen hP hR hkeep
    obtain ⟨n3, hn3⟩ := hpl
    have hfl : vs3.filter (fun _ => false) = [] := by simp
    rw [hfl] at hR
    have hys : ys3 = #[] := by
      have := hR.length
      simpa using this.symm
    have F3 := fr_moved F1 hkeep (by simpa using (N1 _ (.head _)).2.1.symm) (by simpa using (N1 _ (.head _)).2.2)
    have N3 := news_list F1 (news := news) (fun p hp => N1 p (.tail _ hp)) hkeep (fun p hp hm => absurd (List.mem_singleton.mp hm) (hne p hp)) hD2 hn3
    rw [hys] at N3
    exact hQ D2 h3 tk3 n3 F3 N3
end
theorem Rel.rows {many : Int} {kvs : List (Int × Value)} {ks : List Int} {r : List (Int × Int)} (R : Rel many kvs ks r) : (ks.map fun k => (k, valOf kvs k)) = r := by
  rw [R.hks, List.map_map]
  have : ∀ p ∈ r, ((fun k => (k, valOf kvs k)) ∘ fun x : Int × Int => x.1) p = p := fun p hp => by
    obtain ⟨t, ht⟩ := R.val p.1 p.2 hp
    show (p.1, valOf kvs p.1) = p
    rw [valOf_of ht]
  rw [List.map_congr_left this, List.map_id']
theorem Rel.valrow {many : Int} {kvs : List (Int × Value)} {ks : List Int} {r : List (Int × Int)} (R : Rel many kvs ks r) : (ks.map fun k => valOf kvs k) = r.map fun p => p.2 := by
  have h := congrArg (List.map fun p : Int × Int => p.2) R.rows
  rw [List.map_map] at h
  exact h
theorem Rel.isSome_eq {many : Int} {kvs : List (Int × Value)} {ks : List Int} {r : List (Int × Int)} (R : Rel many kvs ks r) (k : Int) : (valueAt kvs k).isSome = decide (k ∈ r.map fun p => p.1) := by
  by_cases h : k ∈ r.map fun p => p.1
  · rw [R.isSome h, decide_eq_true h]
  · rw [R.none h, decide_eq_false h]; rfl
theorem fr_up {h₀ h h' : Heap} {L : Addr} {m : Str → Option Value} (F : Fr h₀ L h m) (k : ∀ b o, h.get? b = some o → h'.get? b = some o) : Fr h₀ L h' m := ⟨F.ns.keeps k, fun b o e => k b o (F.keep b o e), F.above⟩
theorem news_up {h₀ h h' : Heap} {L : Addr} {news : List (Addr × Obj)} (N : News h₀ L h news) (k : ∀ b o, h.get? b = some o → h'.get? b = some o) : News h₀ L h' news := fun p hp => ⟨k _ _ (N p hp).1, (N p hp).2⟩
end
/-! part CK -/
section
theorem walk_start_CK : True := by
  w_top off
  trivial
section
variable {prog : Program} {w : World} {A : Around} {E : Value → Shared → Prop} {env : Env} {s : Shared} {g : Heap} {L D : Addr} {m : Str → Option Value} {news : List (Addr × Obj)} {ys : List Value} {n' : Nat} {scope : Scope} {cl : List (Str × Addr)} {x : Str} {ifs : List Expr} {elt : Expr}
theorem comp_list_k (hh : A.handled = none) (p : Value → Bool) (R : Value → Value → Prop) {Q : Value → Shared → Prop} (F : Fr g L s.heap m) (N : News g L s.heap news) (hmem : (D, W.listOf ys.toArray n') ∈ news) (hz : ys.length ≤ 1000)
    (htests : ∀ (C : Addr) (i : Nat) (v : Value) (s₃ : Shared) (m₃ : Str → Option Value) E', ys[i]? = some v → s₃.heap.Ns C m₃ → m₃ x = some v → Fr g L s₃.heap m → News g L s₃.heap news →
      wpAny (model prog w) A (forIn ifs true fun c r => if r = true then do let ok ← isTrue c (compEnvC scope cl C env) (eval c (compEnvC scope cl C env)); pure (ForInStep.yield ok) else pure (ForInStep.yield r))
        (fun ok s₄ => ok = p v ∧ Keeps s₃ s₄) E' s₃)
    (helt : ∀ (C : Addr) (i : Nat) (v : Value) (s₃ : Shared) (m₃ : Str → Option Value) E', ys[i]? = some v → p v = true → s₃.heap.Ns C m₃ → m₃ x = some v → Fr g L s₃.heap m → News g L s₃.heap news →
      wpAny (model prog w) A (eval elt (compEnvC scope cl C env)) (fun y s₄ => R v y ∧ Keeps s₃ s₄) E' s₃)
    (hQ : ∀ D2 h' tk zs n2, Fr g L h' m → News g L h' ((D2, W.listOf zs.toArray n2) :: news) → Paired R (ys.filter p) zs → s.heap.get? D2 = none → (∀ b o, s.heap.get? b = some o → h'.get? b = some o) → Q (.ref D2) { s with heap := h', toks := tk }) :
    wpAny (model prog w) A (pyIter (.ref D)) (fun it s₂ => ∃ I fp wr n P St p, ∃ Rel : List Addr → Heap → Value → Value → Prop, it = .ref I ∧ Walks prog w A I fp wr n P St ∧ n ≤ 1000 ∧ (∀ i h, St i h → ∀ b ∈ wr, ∃ o, h.get? b = some o) ∧ St 0 s₂.heap ∧ (∀ b ∈ fp, b < s₂.heap.objs.size) ∧
      CompOk prog w A env scope cl x ifs elt wr P p Rel s₂ ∧
      (∀ D C h' tk ys (vs : List Value), s₂.heap.get? D = none → s₂.heap.get? C = none → h'.PlainList D ys → vs.length = n → (∀ j v, vs[j]? = some v → P j v) → Paired (Rel (C :: D :: wr) h') (vs.filter p) ys.toList →
        KeepBut wr s₂.heap h' → Q (.ref D) { s₂ with heap := h', toks := tk })) E s := by
  refine wpAny_pyIter_list ⟨_, (N _ hmem).1, rfl, n', rfl⟩ ?_
  have F1 := F.push { cls := .type "list_iterator", data := .fields #[.ref D, .int 0 0] }
  have N1 := News.push F N { cls := .type "list_iterator", data := .fields #[.ref D, .int 0 0] }
  have lI : ∀ p ∈ news, p.1 < s.heap.objs.size := fun p hp => Heap.lt_size (N p hp).1
  have up : ∀ b o, s.heap.get? b = some o → (s.heap.push { cls := .type "list_iterator", data := .fields #[.ref D, .int 0 0] }).get? b = some o := fun b o e => Heap.get?_push_of_some _ e
  dsimp only
  generalize hI : s.heap.objs.size = I at *
  generalize s.heap.push { cls := .type "list_iterator", data := .fields #[.ref D, .int 0 0] } = H1 at F1 N1 up ⊢
  have nDI : D ≠ I := Nat.ne_of_lt (lI _ hmem)
  refine ⟨I, [I, D], [I], ys.toArray.size, _, _, p, fun _ _ v y => R v y, rfl,
    Walks.list hh I D nDI ys.toArray, by rw [List.size_toArray]; omega, ?_, ⟨⟨_, (N1 _ (.head _)).1, rfl, rfl⟩, ⟨_, (N1 _ (.tail _ hmem)).1, rfl, n', rfl⟩⟩, ?_, ?_, ?_⟩
  · rintro i h ⟨⟨o, ho, _⟩, _⟩ b hb
    rw [List.mem_singleton.mp hb]
    exact ⟨o, ho⟩
  · intro b hb
    rcases List.mem_cons.mp hb with rfl | hb
    · exact Heap.lt_size (N1 _ (.head _)).1
    · rw [List.mem_singleton.mp hb]; exact Heap.lt_size (N1 _ (.tail _ hmem)).1
  · have mv : ∀ h3, KeepBut [I] H1 h3 → Fr g L h3 m ∧ News g L h3 news := fun h3 hk =>
      ⟨fr_moved F1 hk (by simpa using (N1 _ (.head _)).2.1.symm) (by simpa using (N1 _ (.head _)).2.2), news_moved (fun p hp => N1 p (.tail _ hp)) hk fun p hp hm => absurd (List.mem_singleton.mp hm) (Nat.ne_of_lt (lI p hp))⟩
    refine ⟨fun _ _ _ _ _ _ h => h, ?_, ?_⟩
    · intro C i v s₃ m₃ E' hP hn hx hk
      exact htests C i v s₃ m₃ E' (by simpa using hP) hn hx (mv _ hk).1 (mv _ hk).2
    · intro C D2 i v s₃ m₃ E' hP hp hn hx hk live
      exact helt C i v s₃ m₃ E' (by simpa using hP) hp hn hx (mv _ hk).1 (mv _ hk).2
  · intro D2 C h3 tk3 ys3 vs3 hD2 hC hpl hlen hP hR hkeep
    obtain ⟨n3, hn3⟩ := hpl
    have evs : vs3 = ys := by
      have := PySem.list_of_places (items := ys.toArray) hlen hP
      simpa using this
    subst evs
    have F3 := fr_moved F1 hkeep (by simpa using (N1 _ (.head _)).2.1.symm) (by simpa using (N1 _ (.head _)).2.2)
    have N3 := news_list F1 (news := news) (fun p hp => N1 p (.tail _ hp)) hkeep (fun p hp hm => absurd (List.mem_singleton.mp hm) (Nat.ne_of_lt (lI p hp))) hD2 hn3
    have hkk : ∀ b o, s.heap.get? b = some o → h3.get? b = some o := fun b o e => hkeep b o (fun hm => by
      have z := Heap.lt_size e
      rw [List.mem_singleton.mp hm, hI] at z
      exact Nat.lt_irrefl _ z) (up b o e)
    refine hQ D2 h3 tk3 ys3.toList n3 F3 N3 hR ?_ hkk
    cases e : s.heap.get? D2 with
    | none => rfl
    | some o => have := up _ _ e; rw [hD2] at this; cases this
end
section
variable {prog : Program} {w : World} {A : Around} {E : Value → Shared → Prop} {env : Env}
theorem my_comp_rows_k {s : Shared} {elt iter : Expr} {x : Str} {px : Pos} {ifs : List Expr} {scope : Scope} {cl : List (Str × Addr)} {pos : Pos} {Q : Value → Shared → Prop} (hh : A.handled = none)
    (hclos : closureFor scope env = pure cl) (hcell : ∀ y ∈ scope.names, y.2 ≠ .cell) (hkind : scope.kind = .function)
    (hnames : ∀ y ∈ scope.names, y.2 = .local → scope.names.lookup y.1 = some .local) (hx : scope.names.lookup x = some .local)
    (hs : ∀ x, foldedSetIterable iter env x = pure x)
    (h : wpAny (model prog w) A (eval iter env) (fun xv s => ∃ (g : Heap) (L : Addr) (m : Str → Option Value) (news : List (Addr × Obj)) (D : Addr) (ys : List Value) (n' : Nat), xv = .ref D ∧ Fr g L s.heap m ∧ News g L s.heap news ∧ (D, W.listOf ys.toArray n') ∈ news ∧ ys.length ≤ 1000 ∧ ∃ (p : Value → Bool) (R : Value → Value → Prop),
      (∀ (C : Addr) (i : Nat) (v : Value) (s₃ : Shared) (m₃ : Str → Option Value) E', ys[i]? = some v → s₃.heap.Ns C m₃ → m₃ x = some v → Fr g L s₃.heap m → News g L s₃.heap news →
        wpAny (model prog w) A (forIn ifs true fun c r => if r = true then do let ok ← isTrue c (compEnvC scope cl C env) (eval c (compEnvC scope cl C env)); pure (ForInStep.yield ok) else pure (ForInStep.yield r))
          (fun ok s₄ => ok = p v ∧ Keeps s₃ s₄) E' s₃) ∧
      (∀ (C : Addr) (i : Nat) (v : Value) (s₃ : Shared) (m₃ : Str → Option Value) E', ys[i]? = some v → p v = true → s₃.heap.Ns C m₃ → m₃ x = some v → Fr g L s₃.heap m → News g L s₃.heap news →
        wpAny (model prog w) A (eval elt (compEnvC scope cl C env)) (fun y s₄ => R v y ∧ Keeps s₃ s₄) E' s₃) ∧
      (∀ (D2 : Addr) (h' : Heap) (tk : Nat) (zs : List Value) (n2 : Nat), Fr g L h' m → News g L h' ((D2, W.listOf zs.toArray n2) :: news) → Paired R (ys.filter p) zs → s.heap.get? D2 = none → (∀ b o, s.heap.get? b = some o → h'.get? b = some o) → Q (.ref D2) { s with heap := h', toks := tk })) E s) :
    wpAny (model prog w) A (eval (.ListComp elt [⟨.Name x px, iter, ifs, 0⟩] scope pos) env) Q E s := by
  refine my_comp hclos hcell hkind hnames hx (wpAny_mono h (fun xv s₁ h₁ => ?_) fun _ _ z => z) hs
  obtain ⟨g, L, m, news, D, ys, n', rfl, F, N, hm, hz, p, R, h1, h2, h3⟩ := h₁
  exact comp_list_k hh p R F N hm hz h1 h2 h3
end
theorem keep_of {h₀ h g h' : Heap} {L L' : Addr} {m : Str → Option Value} {news : List (Addr × Obj)} (N : News h₀ L h news) (G : GSub h g (news.map (·.1))) (F : Fr g L' h' m) (N1 : News g L' h' news) : ∀ b o, h.get? b = some o → h'.get? b = some o := by
  intro b o e
  by_cases hb : b ∈ news.map (·.1)
  · obtain ⟨p, hp, rfl⟩ := List.mem_map.mp hb
    have h1 := (N p hp).1
    rw [h1] at e
    cases e
    exact (N1 p hp).1
  · exact F.keep _ _ (G b o e hb)
local macro_rules | `(tactic| k_room) => `(tactic| (dsimp only [Around.deeper, Around.mark, Around.in1, Around.under, kTop]; omega))
local macro_rules | `(tactic| k_units) => `(tactic| (have hcL9 := cLine_is; dsimp only [Around.deeper, Around.mark, Around.in1, Around.under, kTop]; omega))
local macro_rules | `(tactic| ktr_room) => `(tactic| (dsimp only [Around.deeper, Around.mark, Around.in1, Around.under, kTop]; omega))
local macro_rules | `(tactic| k_all) => `(tactic| assumption)
local macro_rules | `(tactic| k_ne) => `(tactic| first | assumption | (apply Ne.symm; assumption) | (refine neN ?_; (try dsimp only); omega))
local macro_rules | `(tactic| cell_enter) => `(tactic| (refine' code_def ?k1 ?k2 ?k3 ?k4 ?k5 ?kA ?kF ?kK ?k6 ?k7 ?k8 ?k9 ?kB ?_ ?c2 ?c3 ?c4 ?c5; (case kA => exact rfl); (case kF => assumption); (case kK => assumption); (case k1 => k_asm); (case k2 => k_asm); (case k3 => k_asm); (case k4 => k_asm); (case k5 => k_asm); (case k6 => k_is); (case k7 => k_is); (case k8 => ktr_room); (case k9 => exact BindsTo.of_eq rfl); (case c5 => decide); (case kB => exact locs rfl); (case c2 => exact rfl); (case c3 => exact rfl); (case c4 => exact rfl); k_whole; intro g' L' h' FG' F' N' B' X' T'; (try dsimp only); (try k_lift B'); (try k_fold)))
local macro_rules | `(tactic| walk_at "getItem ref int") => `(tactic| (k_here; k_dflt (refine' my_item ?N ?m ?d ?l ?_; (case N => k_asm); (case m => k_mem); (case d => assumption); (case l => assumption))))
local macro_rules | `(tactic| walk_at "call builtin:list.append") => `(tactic| (k_here; (with_reducible show wpAny _ _ (call (Value.builtin _) [Value.ref _, Value.int _ _]) _ _ _); k_dflt (refine' my_append ?F ?N ?i ?U ?z ?_; (case F => k_asm); (case N => k_asm); (case U => k_updF); (case i => assumption); (case z => first | omega | (refine Nat.le_trans List.length_erase_le ?_; omega))); intro h' vs' n' F' N' hi'; (try dsimp only at N'); (try k_sweep)))
local macro_rules | `(tactic| walk_at "call builtin:list.remove") => `(tactic| (k_here; (with_reducible show wpAny _ _ (call (Value.builtin _) [Value.ref _, Value.int _ _]) _ _ _); k_dflt (refine' my_remove ?F ?N ?i ?U ?z ?e ?_; (case F => k_asm); (case N => k_asm); (case U => k_updF); (case i => assumption); (case z => omega); (case e => assumption)); intro h' vs' n' F' N' hi'; (try dsimp only at N'); (try k_sweep)))
local macro_rules | `(tactic| walk_at "call builtin:list.clear") => `(tactic| (k_here; (with_reducible show wpAny _ _ (call (Value.builtin _) [Value.ref _]) _ _ _); k_dflt (refine' my_clear ?F ?N ?i ?U ?z ?_; (case F => k_asm); (case N => k_asm); (case U => k_updF); (case i => assumption); (case z => omega)); intro h' n' F' N'; (try dsimp only at N'); (try k_sweep)))
local macro_rules | `(tactic| walk_at "subscriptTail") => `(tactic| (k_here; (with_reducible show wpAny _ _ (subscriptTail _ _ (Value.ref _) (Value.int (-1) _)) _ _ _); k_dflt (refine' my_last ?N ?m ?i ?l ?z ?_ ?a ?b; (case a => with_unfolding_all rfl); (case b => intro _; with_unfolding_all rfl); (case N => k_asm); (case m => k_mem); (case i => assumption); (case l => assumption); (case z => omega)); intro t'; (try dsimp only)))
local macro_rules | `(tactic| walk_at "compareOp In int ref") => `(tactic| (k_here; k_dflt (refine' kda_in (knd := intKind _ _) ?N ?m ?d ?lo (intKind_is _ _ _ _) _ ?e ?_; (case N => k_asm); (case m => k_mem); (case d => assumption); (case lo => assumption); (case e => assumption))))
local macro_rules | `(tactic| walk_at "call builtin:len") => `(tactic| (k_here; (with_reducible show wpAny _ _ (call (Value.builtin "len") [Value.ref _]) _ _ _); k_dflt (refine' kda_len (knd := intKind _ _) ?N ?m ?d ?lo ?z ?_; (case N => k_asm); (case m => k_mem); (case d => assumption); (case lo => assumption); (case z => omega))))
local macro_rules | `(tactic| walk_at "setItem ref int") => `(tactic| (k_here; k_dflt (refine' kda_set (knd := intKind _ _) ?F ?N ?U ?d (intKind_is _ _ _ _) ?z ?_; (case F => k_asm); (case N => k_asm); (case U => k_updF); (case d => assumption); (case z => (rw [sizeLine_eq]; first | omega | (refine Nat.le_trans (List.length_filter_le _ _) ?_; omega)))); intro h' o' F' N' hd'; (try dsimp only at N'); (try k_sweep)))
local macro_rules | `(tactic| walk_at "call builtin:list.pop") => `(tactic| (k_here; (with_reducible show wpAny _ _ (call (Value.builtin _) [Value.ref _, Value.int 0 _]) _ _ _); k_dflt (refine' my_pop0 ?F ?N ?i ?U ?z ?_; (case F => k_asm); (case N => k_asm); (case U => k_updF); (case i => assumption); (case z => simp only [List.length_cons] at *; omega)); intro t' h' vs' n' F' N' hi'; (try dsimp only at N'); (try k_sweep)))
local macro_rules | `(tactic| walk_at "delItem ref int") => `(tactic| (k_here; k_dflt (refine' kob_del (knd := intKind _ _) ?F ?N ?U ?d (intKind_is _ _ _ _) ?l ?z ?_; (case F => k_asm); (case N => k_asm); (case U => k_updF); (case d => assumption); (case l => assumption); (case z => (rw [sizeLine_eq]; omega))); intro h' o' F' N' hd'; (try dsimp only at N'); (try k_sweep)))
local macro_rules | `(tactic| walk_at "call builtin:dict.clear") => `(tactic| (k_here; k_dflt (refine' my_dclear ?F ?N ?U ?d ?z ?_; (case F => k_asm); (case N => k_asm); (case U => k_updF); (case d => assumption); (case z => omega)); intro h' o' F' N' hd'; (try dsimp only at N'); (try k_sweep)))
local macro_rules | `(tactic| walk_at "getMethod ref") => `(tactic| (k_here; (with_reducible show wpAny _ _ (getMethod (Value.ref _) (PySem.Str.ofString "clear") _) _ _ _); k_dflt (first
  | (refine' kl_method ?N ?m PySem.F.slot_list_clear PySem.F.type_list_clear ?_; (case N => k_asm); (case m => k_mem))
  | (refine' my_dmeth PySem.F.slot_dict_clear PySem.F.type_dict_clear ?N ?m ?d ?_; (case N => k_asm); (case m => k_mem); (case d => assumption)))))
local macro_rules | `(tactic| cell_enter) => `(tactic| (refine' code_defG ?k1 ?k2 ?k3 ?k4 ?k5 ?kA ?kF ?kK ?k6 ?k7 ?k8 ?k9 ?kB ?_ ?c2 ?c3 ?c4 ?c5; (case kA => exact rfl); (case kF => assumption); (case kK => assumption); (case k1 => k_asm); (case k2 => k_asm); (case k3 => k_asm); (case k4 => k_asm); (case k5 => k_asm); (case k6 => k_is); (case k7 => k_is); (case k8 => ktr_room); (case k9 => exact BindsTo.of_eq rfl); (case c5 => decide); (case kB => exact locs rfl); (case c2 => exact rfl); (case c3 => exact rfl); (case c4 => exact rfl); k_whole; intro g' L' h' FG' F' N' B' X' T' G'; (try dsimp only); (try k_lift B'); (try k_fold)))
section
variable {w : World} {s₀ : Shared} {mg mb : Str → Option Value} {hdl : Option Value} {dp un : Nat} {gd : Option (List Code)} {env : Env} {outer : List Env} {A₀ : Around} {base h₀ : Heap} {L : Addr} {m : Str → Option Value} {s : Shared} {Q E : Value → Shared → Prop}
  {c cd mp q lk lkd : Addr} {t1 t2 t3 t4 t5 : Tok} {many : Int} {n : Nat} {om : Obj} {kvs : List (Int × Value)} {vs : List Value} {ks : List Int} {ep : Nat} {rest : List (Addr × Obj)}
  (B : Below A₀ base outer h₀) (F : Fr h₀ L s.heap m) (X : (hd.heap_39 w.params).In h₀)
  (N : News h₀ L s.heap ((c, instObj 169 cd) :: (cd, cDict w t1 t2 t3 t4 t5 many mp q lk n) :: (mp, om) :: (q, W.listOf vs.toArray ep) :: (lk, instObj 45 lkd) :: (lkd, dictOf [] 0) :: rest))
  (T : Top hd.view_39 (looseW hd.view_39 []) (ExcName.means s₀.heap) mg mb h₀)
  (hf : env.frame = some L) (hk : env.scope.kind = .function) (hroom : dp + 10 < recursionLimit) (hun : un + 80 < cLine)
  (hom : om.IsDictOf (intKind PySem.Challenge.rw_bb0044_01.row.prog w) kvs) (hkv : kvs.length ≤ 1000) (hvs : IntsAre vs ks) (hks : ks.length ≤ 1000) (hap : Apart c cd mp q lk lkd rest)
include B F X N T hf hk hroom hun hom hkv hvs hks hap
set_option maxRecDepth 100000 in
set_option maxHeartbeats 4000000 in
theorem contains_keep {k : Int} {tk0 : Tok} {b : Bool} (hb : (valueAt kvs k).isSome = b)
    (ret : ∀ h' tk, (∀ b o, s.heap.get? b = some o → h'.get? b = some o) → Q (.bool b) { s with heap := h', toks := tk }) :
    wpAny (model PySem.Challenge.rw_bb0044_01.row.prog w) (kTop hdl dp un gd env outer) (call (.ref 100) [.ref c, .int k tk0]) Q E s := by
  obtain ⟨a1, a2, a3, a4, a5, a6, a7, a8, a9, b1, b2, lo⟩ := hap
  refine wpAny_call ?_
  k_dflt cell_enter
  (rename GSub _ _ _ => G')
  (rename Fr _ _ _ _ => F1); (rename News _ _ _ _ => N1)
  have keep := keep_of N G' F1 N1
  k_steps
  exact ret _ _ keep
end
end
/-! part RI -/
section
theorem revi_nsub : isSubtype (.type "tuple_iterator") (.type "reversed") = pure false := by rw [isSubtype_type]; kernel_rfl
section
variable {prog : Program} {w : World} {A : Around} {E : Value → Shared → Prop} {s : Shared}
theorem callType_other {T T' newId initId : String} {args : List Value} {Q Q₁ : Value → Shared → Prop} (ft : TypeCalled T newId initId) (hns : isSubtype (.type T') (.type T) = pure false)
    (hct : checkTypeCall T ⟨args, []⟩ = pure ())
    (hnew : codeAny (model prog w) A.in1 (.call (.builtin newId) ⟨.type T :: args, []⟩) (wants Q₁ E) s)
    (hnext : ∀ obj s₁, Q₁ obj s₁ → s₁.TypeIs obj T' ∧ Q obj s₁) :
    wpAny (model prog w) A (call (.type T) args) Q E s := by
  obtain ⟨c, tl, hmro⟩ := ft.mro
  have hmade := ft.made
  refine wpAny_call (codeAny_of_tree ?_)
  show wpAny _ _ (callAny (.type T) _) _ _ _
  refine wpAny_pure ⟨Code.quiet_builtin _ (by decide +kernel), codeAny_builtin PySem.F.entry_type_call ?_⟩
  rw [Around.under_plain (weight_type_call_type T args []) rfl]
  have h1 := ft.notType
  have h2 := ft.canCreate
  repeat (any_goals (first | assumption | wp_step))
  refine codeAny_mono hnew fun r s₁ hr => ?_
  cases r with
  | error e => exact hr
  | ok fl =>
    cases fl with
    | ret obj =>
      obtain ⟨hT, hq⟩ := hnext _ _ hr
      repeat (any_goals (first | assumption | wp_step))
    | _ => exact hr.elim
end
section
variable {prog : Program} {w : World} {A : Around} {E : Value → Shared → Prop} {s : Shared} {K : Frag} {x C L f : Addr} {h₀ : Heap} {m : Str → Option Value} {ox : Obj} {od : Option Obj}
theorem revi_call {Q : Value → Shared → Prop} (F : Fr h₀ L s.heap m) (X₀ : K.In h₀) (I : InstAt s.heap x ox C od) (hs : findIn K (.ref C) "__reversed__" = some (some (.ref f))) (hf : isFn K (.ref f) = true)
    (h : wpAny (model prog w) A.in1.in1 (call (.ref f) [.ref x]) (fun v s₁ => s₁.TypeIs v "tuple_iterator" ∧ Q v s₁) E s) : wpAny (model prog w) A (call (.type "reversed") [.ref x]) Q E s := by
  have X := X₀.keeps F.keep
  refine callType_other (Q₁ := fun v s₁ => s₁.TypeIs v "tuple_iterator" ∧ Q v s₁) rt_called revi_nsub (PySem.F.typeCall_reversed_1 _) ?_ fun _ _ h => h
  refine codeAny_call_builtin (by decide +kernel) PySem.F.entry_reversed_new (wpAny_of_eq (PySem.F.newCall_reversed_1 _) ?_)
  unfold Builtin.«reversed.__new__»
  refine wpAny_bind (wpAny_of_eq (PySem.newClass_reversed _) ?_)
  try dsimp only
  refine wpAny_bind (wpAny_of_eq (a := ()) (by first | rfl | kernel_rfl) ?_)
  refine wpAny_bind (wpAny_of_eq (a := ()) (by first | rfl | kernel_rfl) ?_)
  try dsimp only
  refine wpAny_bind (wpAny_bind (I.type.here ((looks_findIn X hs).here ?_)))
  try dsimp only
  refine wpAny_bind ((bind_fn X _ (beq_iff_eq.mp hf)).here ?_)
  try dsimp only
  rw [if_neg (by simp)]
  refine wpAny_bind (wpAny_rule ?_)
  refine wpAny_bind (m := call (.ref f) [.ref x]) (wpAny_mono h (fun v s₁ hv => ?_) fun _ _ z => z)
  exact wpAny_pure hv
end
end
/-! part AG -/
section
theorem walk_start_AG : True := by
  w_top off
  trivial
theorem agree_shape {g h : Heap} {L D K1 K2 z c cd mp q lk lkd : Addr} {o1 o2 oc ocd om : Obj} {ov olk olkd : Obj} {ys : List Value} {row : Addr × Obj} {rest : List (Addr × Obj)}
    (N : News g L h ((D, { cls := .type "list", data := .seq (slicePick ys.toArray none none (some (-1))) }) :: (K1, o1) :: (K2, o2) :: (c, oc) :: (cd, ocd) :: (mp, om) :: (q, ov) :: (lk, olk) :: (lkd, olkd) :: row :: rest))
    (hap : Apart c cd mp q lk lkd (row :: rest)) (l1 : mp < z ∧ q < z) (l2 : z ≤ D ∧ z ≤ K1 ∧ z ≤ K2) :
    News g L h ((c, oc) :: (cd, ocd) :: (mp, om) :: (q, ov) :: (lk, olk) :: (lkd, olkd) :: (D, W.listOf ys.reverse.toArray 0) :: (K1, o1) :: (K2, o2) :: row :: rest) ∧
      Apart c cd mp q lk lkd ((D, W.listOf ys.reverse.toArray 0) :: (K1, o1) :: (K2, o2) :: row :: rest) := by
  have e := PySem.W.krv_pick ys.toArray
  rw [e] at N
  refine ⟨news_sub N (by intro p hp; simp only [List.mem_cons] at hp ⊢; grind), ?_⟩
  obtain ⟨a1, a2, a3, a4, a5, a6, a7, a8, a9, b1, b2, lo⟩ := hap
  refine ⟨a1, a2, a3, a4, a5, a6, a7, a8, a9, ?_, ?_, lo⟩
  · intro p hp
    rcases List.mem_cons.mp hp with rfl | hp
    · exact (Nat.ne_of_lt (Nat.lt_of_lt_of_le l1.1 l2.1)).symm
    rcases List.mem_cons.mp hp with rfl | hp
    · exact (Nat.ne_of_lt (Nat.lt_of_lt_of_le l1.1 l2.2.1)).symm
    rcases List.mem_cons.mp hp with rfl | hp
    · exact (Nat.ne_of_lt (Nat.lt_of_lt_of_le l1.1 l2.2.2)).symm
    exact b1 p hp
  · intro p hp
    rcases List.mem_cons.mp hp with rfl | hp
    · exact (Nat.ne_of_lt (Nat.lt_of_lt_of_le l1.2 l2.1)).symm
    rcases List.mem_cons.mp hp with rfl | hp
    · exact (Nat.ne_of_lt (Nat.lt_of_lt_of_le l1.2 l2.2.1)).symm
    rcases List.mem_cons.mp hp with rfl | hp
    · exact (Nat.ne_of_lt (Nat.lt_of_lt_of_le l1.2 l2.2.2)).symm
    exact b2 p hp
local macro_rules | `(tactic| k_room) => `(tactic| (dsimp only [Around.deeper, Around.mark, Around.in1, Around.under, kTop]; omega))
local macro_rules | `(tactic| k_units) => `(tactic| (have hcL9 := cLine_is; dsimp only [Around.deeper, Around.mark, Around.in1, Around.under, kTop]; omega))
local macro_rules | `(tactic| ktr_room) => `(tactic| (dsimp only [Around.deeper, Around.mark, Around.in1, Around.under, kTop]; omega))
local macro_rules | `(tactic| k_all) => `(tactic| assumption)
local macro_rules | `(tactic| k_ne) => `(tactic| first | assumption | (apply Ne.symm; assumption) | (refine neN ?_; (try dsimp only); omega))
local macro_rules | `(tactic| cell_enter) => `(tactic| (refine' code_def ?k1 ?k2 ?k3 ?k4 ?k5 ?kA ?kF ?kK ?k6 ?k7 ?k8 ?k9 ?kB ?_ ?c2 ?c3 ?c4 ?c5; (case kA => exact rfl); (case kF => assumption); (case kK => assumption); (case k1 => k_asm); (case k2 => k_asm); (case k3 => k_asm); (case k4 => k_asm); (case k5 => k_asm); (case k6 => k_is); (case k7 => k_is); (case k8 => ktr_room); (case k9 => exact BindsTo.of_eq rfl); (case c5 => decide); (case kB => exact locs rfl); (case c2 => exact rfl); (case c3 => exact rfl); (case c4 => exact rfl); k_whole; intro g' L' h' FG' F' N' B' X' T'; (try dsimp only); (try k_lift B'); (try k_fold)))
local macro_rules | `(tactic| cell_enter) => `(tactic| (refine' code_defC ?k1 ?k2 ?k3 ?k4 ?k5 ?kA ?kF ?kK ?k6 ?k7 ?k8 ?k9 ?kB ?kD ?_ ?c2 ?c3 ?c4; (case kA => exact rfl); (case kF => assumption); (case kK => assumption); (case k1 => k_asm); (case k2 => k_asm); (case k3 => k_asm); (case k4 => k_asm); (case k5 => k_asm); (case k6 => k_is); (case k7 => k_is); (case k8 => ktr_room); (case k9 => exact BindsTo.of_eq rfl); (case kB => exact rfl); (case kD => decide +kernel); (case c2 => exact rfl); (case c3 => exact rfl); (case c4 => exact rfl); k_whole; intro g' L' h' tk' cells' FG' F' N' Y' B' X' T' l1; k_cells Y'; (try simp only [List.cons_append, List.nil_append] at N'); (try dsimp only); (try k_lift B'); (try k_fold)))
local macro_rules | `(tactic| walk_at "eval Name") => `(tactic| (k_here; (with_reducible show wpAny _ _ (eval (Expr.Name _ _) (compEnvC _ _ _ _)) _ _ _); k_dflt (refine' c_loc ?n ?v ?_ ?a ?b ?d; (case a => rfl); (case b => rfl); (case d => decide); (case n => assumption); (case v => assumption); k_whole)))
local macro_rules | `(tactic| walk_at "subscriptTail") => `(tactic| (k_here; (with_reducible show wpAny _ _ (subscriptTail _ _ (Value.ref _) (Value.int _ _)) _ _ _); k_dflt (refine' c_name_tup ?t ?lo ?hi ?j ?x ?_ ?a ?b; (case a => with_unfolding_all rfl); (case b => intro _; with_unfolding_all rfl); (case t => assumption); (case lo => decide); (case hi => decide); (case j => rfl); (case x => rfl))))
local macro_rules | `(tactic| walk_at "eval ListComp") => `(tactic| (k_here; refine stopG ?_))
local macro_rules | `(tactic| walk_at "call ref") => `(tactic| (k_here; (first | (show wpAny _ _ (call (Value.ref 107) _) _ _ _) | (show wpAny _ _ (call (Value.ref 140) _) _ _ _) | (show wpAny _ _ (call (Value.ref 152) _) _ _ _) | (show wpAny _ _ (call (Value.ref 145) _) _ _ _) | (show wpAny _ _ (call (Value.ref 100) _) _ _ _)); refine stopG ?_))
local macro_rules | `(tactic| walk_at "compareOp NotEq ref ref") => `(tactic| (k_here; (with_reducible show wpAny _ _ (compareOp CmpOp.NotEq (Value.ref _) (Value.ref _)) _ _ _); refine stopG ?_))
local macro_rules | `(tactic| walk_at "compareOp Eq ref ref") => `(tactic| (k_here; (with_reducible show wpAny _ _ (compareOp CmpOp.Eq (Value.ref _) (Value.ref _)) _ _ _); refine stopG ?_))
local macro_rules | `(tactic| walk_at "call type:reversed") => `(tactic| (k_here; (with_reducible show wpAny _ _ (call (Value.type "reversed") _) _ _ _); refine stopG ?_))
section
variable {w : World} {s₀ : Shared} {mg mb : Str → Option Value} {hdl : Option Value} {dp un : Nat} {gd : Option (List Code)} {env : Env} {outer : List Env} {A₀ : Around} {base h₀ : Heap} {L : Addr} {m : Str → Option Value} {s : Shared} {Q E : Value → Shared → Prop}
  {c cd mp q lk lkd : Addr} {t1 t2 t3 t4 t5 : Tok} {many : Int} {n : Nat} {om : Obj} {kvs : List (Int × Value)} {vs : List Value} {ks : List Int} {ep : Nat} {rest : List (Addr × Obj)} {r : List (Int × Int)}
  {ro : Addr} {e0 : Nat} {ys : List Value} {tups : List (Addr × Obj)}
  (B : Below A₀ base outer h₀) (F : Fr h₀ L s.heap m) (X : (hd.heap_39 w.params).In h₀)
  (N : News h₀ L s.heap ((c, instObj 169 cd) :: (cd, cDict w t1 t2 t3 t4 t5 many mp q lk n) :: (mp, om) :: (q, W.listOf vs.toArray ep) :: (lk, instObj 45 lkd) :: (lkd, dictOf [] 0) :: (ro, W.listOf ys.toArray e0) :: rest))
  (T : Top hd.view_39 (looseW hd.view_39 []) (ExcName.means s₀.heap) mg mb h₀)
  (hf : env.frame = some L) (hk : env.scope.kind = .function) (hroom : dp + 40 < recursionLimit) (hun : un + 400 < cLine)
  (hom : om.IsDictOf (intKind PySem.Challenge.rw_bb0044_01.row.prog w) kvs) (hvs : IntsAre vs ks) (hap : Apart c cd mp q lk lkd ((ro, W.listOf ys.toArray e0) :: rest)) (R : Rel many kvs ks r) (hr : RowIn tups ys r) (hsub : ∀ p ∈ tups, p ∈ rest)
include B F X N T hf hk hroom hun hom hvs hap R hr hsub
set_option maxRecDepth 100000 in
set_option maxHeartbeats 4000000 in
theorem agrees_pact (hh : hdl = none)
    (ret : ∀ h' tk, Fr h₀ L h' m → News h₀ L h' ((c, instObj 169 cd) :: (cd, cDict w t1 t2 t3 t4 t5 many mp q lk n) :: (mp, om) :: (q, W.listOf vs.toArray ep) :: (lk, instObj 45 lkd) :: (lkd, dictOf [] 0) :: (ro, W.listOf ys.toArray e0) :: rest) → Q (.bool true) { s with heap := h', toks := tk }) :
    wpAny (model PySem.Challenge.rw_bb0044_01.row.prog w) (kTop hdl dp un gd env outer) (call (.ref 207) [.ref c, .ref ro]) Q E s := by
  subst hh
  have hkv := R.hkv
  have hks := R.hks'
  have hvl := hvs.length
  have hyl := hr.length
  have hln := R.len
  have hys : ys.length ≤ 100 := by have h1 := R.le; have h2 := R.small; omega
  have hvals : ∀ k ∈ ks, ∃ i t, valueAt kvs k = some (.int i t) := fun k hk => by
    obtain ⟨i, hi⟩ := R.ex (R.hks ▸ hk)
    exact ⟨i, R.val k i hi⟩
  have hsz : ys.toArray.size = r.length := by rw [List.size_toArray]; exact hyl
  refine wpAny_call ?_
  k_dflt cell_enter
  (rename News _ _ _ _ => N1); (rename Fr _ _ _ _ => F1); (rename (∀ p ∈ _, _ < _) => l1)
  have lH := fun (p : Addr × Obj) hp => Heap.lt_size (N1 p hp).1
  k_steps
  (rename News _ _ _ _ => N2)
  dsimp only at N2
  have l3 := lH _ (List.Mem.head _)
  have l3' := lH _ (List.Mem.tail _ (List.Mem.head _))
  have l4 := l1 (mp, om) (by simp)
  have l5 := l1 (q, W.listOf vs.toArray ep) (by simp)
  dsimp only at l3 l3' l4 l5
  obtain ⟨N3, hap3⟩ := agree_shape N2 hap ⟨l4, l5⟩ ⟨Nat.le_of_lt (Nat.lt_succ_of_lt (Nat.lt_of_succ_lt (Nat.lt_of_succ_lt l3))), Nat.le_add_right _ 2, Nat.le_add_right _ 1⟩
  clear N2 lH l1
  unfold Stop
  refine' len_pact ?B ?F ?X ?N ?T ?hf ?hk ?hroom ?hun hom hkv hvs hks hap3  ?_
  (case F => k_asm); (case B => k_asm); (case X => k_asm); (case N => k_asm); (case T => k_asm); (case hf => exact rfl); (case hk => exact rfl); (case hroom => k_room); (case hun => k_units)
  intro tl h4 tk4 F4 N4
  (try dsimp only at N4); (try k_sweep)
  dsimp only [PySem.W.LenBack]
  refine ⟨⟨by omega, by omega⟩, ?_⟩
  (try dsimp only)
  k_steps
  all_goals (try (exfalso; omega))
  unfold Stop
  refine' items_pact ?B ?F ?X ?N ?T ?hf ?hk ?hroom ?hun hom hkv hvs hks hap3 ?hh ?hv ?_
  (case F => k_asm); (case B => k_asm); (case X => k_asm); (case N => k_asm); (case T => k_asm); (case hf => exact rfl); (case hk => exact rfl); (case hroom => k_room); (case hun => k_units); (case hh => exact rfl); (case hv => exact hvals)
  intro D4 h5 tk5 ys5 n5 F5 N5 P5
  (try dsimp only at N4); (try k_sweep)
  k_steps
  (rename News _ _ _ _ => N6)
  unfold Stop
  refine ne_rows (ys := ys5) (zs := ys.reverse) (n := n5) (n' := 0) (N6 _ (.head _)).1 P5 (N6 (_, W.listOf ys.reverse.toArray 0) (by simp)).1 (rowIn_at N6 (paired_reverse (RowIn.mono hr fun p hp => by simp [hsub p hp]))) (by k_units) ?_
  rw [show (!decide ((ks.map fun k => (k, valOf kvs k)).reverse = r.reverse)) = false from by rw [R.rows]; simp]
  have N7 : News _ _ _ _ := fun p hp => N6 p (.tail _ hp)
  clear N6
  k_steps
  unfold Stop
  refine' keys_pact ?B ?F ?X ?N ?T ?hf ?hk ?hroom ?hun hom hkv hvs hks hap3 ?hh ?r2 ?u2 ?_
  (case F => k_asm); (case B => k_asm); (case X => k_asm); (case N => k_asm); (case T => k_asm); (case hf => exact rfl); (case hk => exact rfl); (case hroom => k_room); (case hun => k_units); (case hh => exact rfl); (case r2 => k_room); (case u2 => k_units)
  intro S7 h7 tk7 vs7 n7 F7 N8 hi7
  (try dsimp only at N4); (try k_sweep)
  k_steps
  unfold Stop
  refine my_comp_rows rfl (by with_unfolding_all rfl) (by decide) (by with_unfolding_all rfl) (by decide) (by with_unfolding_all rfl) (by intro _; with_unfolding_all rfl) ?_
  refine stop_out ?_
  k_steps
  unfold Stop
  (rename Fr _ _ _ _ => Fca); (rename News _ _ _ _ => Nca)
  refine ⟨_, _, _, _, _, ys.reverse, 0, rfl, Fca, Nca, by simp, by first | omega | (simp; omega), fun _ => true, fun v y => ∃ p t, PairIn tups v p ∧ y = .int p.1 t, ?_, ?_, ?_⟩
  · intro C i v s₃ m₃ E' hv hn hx F3 N3
    exact wpAny_tests_nil ⟨rfl, s₃.heap, s₃.toks, rfl, fun _ _ e => e⟩
  · intro C i v s₃ m₃ E' hv hp hn hx F3 N3
    obtain ⟨p, hp⟩ := rowIn_get (paired_reverse hr) hv
    have hp2 := hp
    obtain ⟨T, t, u, rfl, hT⟩ := hp
    have hT3 : s₃.heap.get? T = some (tupO [.int p.1 t, .int p.2 u] 0) := (N3 (T, tupO [.int p.1 t, .int p.2 u] 0) (by simp [hsub _ hT])).1
    clear Fca Nca F N
    refine stop_out ?_
    k_steps
    exact ⟨⟨p, _, hp2, rfl⟩, s₃.heap, _, rfl, fun _ _ e => e⟩
  intro Dca hca tkca zca nca Fda Nda hPca _
  have hzca := paired_proj (fun p hp => N p (by simp [hsub p hp])) (fun p => p.1) (paired_reverse hr) (by rw [List.filter_eq_self.mpr (fun _ _ => rfl)] at hPca; exact hPca)
  clear Fca Nca hPca
  k_steps
  (rename News _ _ _ _ => Nea)
  unfold Stop
  refine ne_intsK ⟨_, (Nea _ (.tail _ (.head _))).1, rfl, _, rfl⟩ hi7 ⟨_, (Nea _ (.head _)).1, rfl, _, rfl⟩ hzca (by k_units) ?_
  rw [show (!decide (ks.reverse = r.reverse.map fun p => p.1)) = false from by rw [show ks.reverse = r.reverse.map fun p => p.1 from by rw [R.hks, List.map_reverse]]; simp]
  have Nfa : News _ _ _ _ := fun p hp => Nea p (.tail _ (.tail _ (hp)))
  clear Nea
  k_steps
  unfold Stop
  refine' values_pact ?B ?F ?X ?N ?T ?hf ?hk ?hroom ?hun hom hkv hvs hks hap3 ?hh ?r2 ?u2 ?hv ?_
  (case F => k_asm); (case B => k_asm); (case X => k_asm); (case N => k_asm); (case T => k_asm); (case hf => exact rfl); (case hk => exact rfl); (case hroom => k_room); (case hun => k_units); (case hh => exact rfl); (case r2 => k_room); (case u2 => k_units); (case hv => exact hvals)
  intro S8 h8 tk8 vs8 n8 F8 N9 hi8
  (try dsimp only at N4); (try k_sweep)
  k_steps
  unfold Stop
  refine my_comp_rows rfl (by with_unfolding_all rfl) (by decide) (by with_unfolding_all rfl) (by decide) (by with_unfolding_all rfl) (by intro _; with_unfolding_all rfl) ?_
  refine stop_out ?_
  k_steps
  unfold Stop
  (rename Fr _ _ _ _ => Fcb); (rename News _ _ _ _ => Ncb)
  refine ⟨_, _, _, _, _, ys.reverse, 0, rfl, Fcb, Ncb, by simp, by first | omega | (simp; omega), fun _ => true, fun v y => ∃ p t, PairIn tups v p ∧ y = .int p.2 t, ?_, ?_, ?_⟩
  · intro C i v s₃ m₃ E' hv hn hx F3 N3
    exact wpAny_tests_nil ⟨rfl, s₃.heap, s₃.toks, rfl, fun _ _ e => e⟩
  · intro C i v s₃ m₃ E' hv hp hn hx F3 N3
    obtain ⟨p, hp⟩ := rowIn_get (paired_reverse hr) hv
    have hp2 := hp
    obtain ⟨T, t, u, rfl, hT⟩ := hp
    have hT3 : s₃.heap.get? T = some (tupO [.int p.1 t, .int p.2 u] 0) := (N3 (T, tupO [.int p.1 t, .int p.2 u] 0) (by simp [hsub _ hT])).1
    clear Fcb Ncb F N
    refine stop_out ?_
    k_steps
    exact ⟨⟨p, _, hp2, rfl⟩, s₃.heap, _, rfl, fun _ _ e => e⟩
  intro Dcb hcb tkcb zcb ncb Fdb Ndb hPcb _
  have hzcb := paired_proj (fun p hp => N p (by simp [hsub p hp])) (fun p => p.2) (paired_reverse hr) (by rw [List.filter_eq_self.mpr (fun _ _ => rfl)] at hPcb; exact hPcb)
  clear Fcb Ncb hPcb
  k_steps
  (rename News _ _ _ _ => Neb)
  unfold Stop
  refine ne_intsK ⟨_, (Neb _ (.tail _ (.head _))).1, rfl, _, rfl⟩ hi8 ⟨_, (Neb _ (.head _)).1, rfl, _, rfl⟩ hzcb (by k_units) ?_
  rw [show (!decide ((ks.map fun k => valOf kvs k).reverse = r.reverse.map fun p => p.2)) = false from by rw [show (ks.map fun k => valOf kvs k).reverse = r.reverse.map fun p => p.2 from by rw [R.valrow, List.map_reverse]]; simp]
  have Nfb : News _ _ _ _ := fun p hp => Neb p (.tail _ (.tail _ (hp)))
  clear Neb
  k_steps
  unfold Stop
  refine my_comp_it (by with_unfolding_all rfl) (by decide) (by with_unfolding_all rfl) (by decide) (by with_unfolding_all rfl) (by intro _; with_unfolding_all rfl) ?_
  refine stop_out ?_
  k_steps
  unfold Stop
  refine' cache_iter ?B ?F ?X ?N ?T ?hf ?hk ?hroom ?hun hom hkv hvs hks hap3 ?_
  (case F => k_asm); (case B => k_asm); (case X => k_asm); (case N => k_asm); (case T => k_asm); (case hf => exact rfl); (case hk => exact rfl); (case hroom => k_room); (case hun => k_units)
  intro Dx Rx hx8 tkx Fx Nx lx
  refine ⟨_, _, _, _, Rx, _, [Rx, Dx], vs.toArray.size, _, _, rfl, Fx, Nx, fun p hp => Nat.ne_of_lt (lx p hp), rt_walks rfl Rx Dx (Nat.ne_of_lt (lx _ (.head _))) vs.toArray 0 (by rw [List.size_toArray]; omega), by rw [List.size_toArray]; omega, ?_, ?_, ?_, ?_, ?_⟩
  · rintro i h ⟨_, ⟨o, ho, _⟩, _⟩
    exact ⟨o, ho⟩
  · refine ⟨Nat.zero_le _, ?_, (Nx _ (.tail _ (.head _))).1⟩
    refine ⟨_, (Nx _ (.head _)).1, rfl, ?_⟩
    simp
  · intro b hb
    rcases List.mem_cons.mp hb with rfl | hb
    · exact Heap.lt_size (Nx _ (.head _)).1
    · rw [List.mem_singleton.mp hb]; exact Heap.lt_size (Nx _ (.tail _ (.head _))).1
  · intro C v s₃ m₃ E' hn hx
    clear Fx Nx F N
    refine stop_out ?_
    k_steps
    exact ⟨rfl, s₃.heap, _, rfl, fun _ _ e => e⟩
  intro Dy hy tky wsy ny Fy Ny hleny hPy
  have ey := rev_places hleny hPy
  subst ey
  have hiy := hvs.reverse
  clear Fx Nx hPy
  k_steps
  unfold Stop
  refine my_comp_rows rfl (by with_unfolding_all rfl) (by decide) (by with_unfolding_all rfl) (by decide) (by with_unfolding_all rfl) (by intro _; with_unfolding_all rfl) ?_
  refine stop_out ?_
  k_steps
  unfold Stop
  (rename Fr _ _ _ _ => Fcd); (rename News _ _ _ _ => Ncd)
  refine ⟨_, _, _, _, _, ys.reverse, 0, rfl, Fcd, Ncd, by simp, by first | omega | (simp; omega), fun _ => true, fun v y => ∃ p t, PairIn tups v p ∧ y = .int p.1 t, ?_, ?_, ?_⟩
  · intro C i v s₃ m₃ E' hv hn hx F3 N3
    exact wpAny_tests_nil ⟨rfl, s₃.heap, s₃.toks, rfl, fun _ _ e => e⟩
  · intro C i v s₃ m₃ E' hv hp hn hx F3 N3
    obtain ⟨p, hp⟩ := rowIn_get (paired_reverse hr) hv
    have hp2 := hp
    obtain ⟨T, t, u, rfl, hT⟩ := hp
    have hT3 : s₃.heap.get? T = some (tupO [.int p.1 t, .int p.2 u] 0) := (N3 (T, tupO [.int p.1 t, .int p.2 u] 0) (by simp [hsub _ hT])).1
    clear Fcd Ncd F N
    refine stop_out ?_
    k_steps
    exact ⟨⟨p, _, hp2, rfl⟩, s₃.heap, _, rfl, fun _ _ e => e⟩
  intro Dcd hcd tkcd zcd ncd Fdd Ndd hPcd _
  have hzcd := paired_proj (fun p hp => N p (by simp [hsub p hp])) (fun p => p.1) (paired_reverse hr) (by rw [List.filter_eq_self.mpr (fun _ _ => rfl)] at hPcd; exact hPcd)
  clear Fcd Ncd hPcd
  k_steps
  (rename News _ _ _ _ => Ned)
  unfold Stop
  refine ne_intsK ⟨_, (Ned _ (.tail _ (.head _))).1, rfl, _, rfl⟩ hiy ⟨_, (Ned _ (.head _)).1, rfl, _, rfl⟩ hzcd (by k_units) ?_
  rw [show (!decide (ks.reverse = r.reverse.map fun p => p.1)) = false from by rw [show ks.reverse = r.reverse.map fun p => p.1 from by rw [R.hks, List.map_reverse]]; simp]
  have Nfd : News _ _ _ _ := fun p hp => Ned p (.tail _ (.tail _ (.tail _ (hp))))
  clear Ned
  k_steps
  unfold Stop
  refine my_comp_it (by with_unfolding_all rfl) (by decide) (by with_unfolding_all rfl) (by decide) (by with_unfolding_all rfl) (by intro _; with_unfolding_all rfl) ?_
  refine stop_out ?_
  k_steps
  unfold Stop
  refine revi_call (by k_asm) (by k_asm) (by k_inst) (by k_is) (by k_is) ?_
  refine' reversed_pact ?B ?F ?X ?N ?T ?hf ?hk ?hroom ?hun hom hkv hvs hks hap3 ?_
  (case F => k_asm); (case B => k_asm); (case X => k_asm); (case N => k_asm); (case T => k_asm); (case hf => exact rfl); (case hk => exact rfl); (case hroom => k_room); (case hun => k_units)
  intro Du Ru hu8 tku Fu Nu lu
  refine ⟨⟨_, (Nu _ (.head _)).1, rfl⟩, ?_⟩
  k_steps
  (try unfold Stop)
  refine wpAny_pyIter_tupleiter (t := Du) (i := 0) ⟨_, (Nu _ (.head _)).1, rfl, rfl⟩ ?_
  refine ⟨_, _, _, _, Ru, _, [Ru, Du], vs.toArray.size, _, _, rfl, Fu, Nu, fun p hp => Nat.ne_of_lt (lu p hp), Walks.tuple rfl Ru Du (Nat.ne_of_lt (lu _ (.head _))) vs.toArray, by rw [List.size_toArray]; omega, ?_, ?_, ?_, ?_, ?_⟩
  · rintro i h ⟨⟨o, ho, _⟩, _⟩
    exact ⟨o, ho⟩
  · exact ⟨⟨_, (Nu _ (.head _)).1, rfl, rfl⟩, ⟨_, (Nu _ (.tail _ (.head _))).1, rfl, _, rfl⟩⟩
  · intro b hb
    rcases List.mem_cons.mp hb with rfl | hb
    · exact Heap.lt_size (Nu _ (.head _)).1
    · rw [List.mem_singleton.mp hb]; exact Heap.lt_size (Nu _ (.tail _ (.head _))).1
  · intro C v s₃ m₃ E' hn hx
    clear Fu Nu F N
    refine stop_out ?_
    k_steps
    exact ⟨rfl, s₃.heap, _, rfl, fun _ _ e => e⟩
  intro Dz hz8 tkz wsz nz Fz Nz hlenz hPz
  have ez : wsz = vs := by
    have := PySem.list_of_places (items := vs.toArray) hlenz hPz
    simpa using this
  subst ez
  clear Fu Nu hPz
  k_steps
  unfold Stop
  refine my_comp_rows rfl (by with_unfolding_all rfl) (by decide) (by with_unfolding_all rfl) (by decide) (by with_unfolding_all rfl) (by intro _; with_unfolding_all rfl) ?_
  refine stop_out ?_
  k_steps
  unfold Stop
  (rename Fr _ _ _ _ => Fcg); (rename News _ _ _ _ => Ncg)
  refine ⟨_, _, _, _, _, ys, e0, rfl, Fcg, Ncg, by simp, by first | omega | (simp; omega), fun _ => true, fun v y => ∃ p t, PairIn tups v p ∧ y = .int p.1 t, ?_, ?_, ?_⟩
  · intro C i v s₃ m₃ E' hv hn hx F3 N3
    exact wpAny_tests_nil ⟨rfl, s₃.heap, s₃.toks, rfl, fun _ _ e => e⟩
  · intro C i v s₃ m₃ E' hv hp hn hx F3 N3
    obtain ⟨p, hp⟩ := rowIn_get hr hv
    have hp2 := hp
    obtain ⟨T, t, u, rfl, hT⟩ := hp
    have hT3 : s₃.heap.get? T = some (tupO [.int p.1 t, .int p.2 u] 0) := (N3 (T, tupO [.int p.1 t, .int p.2 u] 0) (by simp [hsub _ hT])).1
    clear Fcg Ncg F N
    refine stop_out ?_
    k_steps
    exact ⟨⟨p, _, hp2, rfl⟩, s₃.heap, _, rfl, fun _ _ e => e⟩
  intro Dcg hcg tkcg zcg ncg Fdg Ndg hPcg _
  have hzcg := paired_proj (fun p hp => N p (by simp [hsub p hp])) (fun p => p.1) hr (by rw [List.filter_eq_self.mpr (fun _ _ => rfl)] at hPcg; exact hPcg)
  clear Fcg Ncg hPcg
  k_steps
  (rename News _ _ _ _ => Neg)
  unfold Stop
  refine ne_intsK ⟨_, (Neg _ (.tail _ (.head _))).1, rfl, _, rfl⟩ hvs ⟨_, (Neg _ (.head _)).1, rfl, _, rfl⟩ hzcg (by k_units) ?_
  rw [show (!decide (ks = r.map fun p => p.1)) = false from by rw [show ks = r.map fun p => p.1 from R.hks]; simp]
  have Nfg : News _ _ _ _ := fun p hp => Neg p (.tail _ (.tail _ (.tail _ (hp))))
  clear Neg
  k_steps
  unfold Stop
  refine my_comp_none (by with_unfolding_all rfl) (by decide) (by with_unfolding_all rfl) (by decide) (by with_unfolding_all rfl) (by intro _; with_unfolding_all rfl) ?_
  refine stop_out ?_
  k_steps
  unfold Stop
  (rename IsRange _ _ _ _ _ _ _ _ => hrg)
  (rename Fr _ _ _ _ => Fh); (rename News _ _ _ _ => Nh)
  refine wpAny_pyIter_range hrg (by decide) ?_
  have F1h := Fh.push { cls := .type "range_iterator", data := .fields #[rawInt 0, rawInt (Builtin.Range.rangeSize 0 7 1), rawInt 1] }
  have N1h := News.push Fh Nh { cls := .type "range_iterator", data := .fields #[rawInt 0, rawInt (Builtin.Range.rangeSize 0 7 1), rawInt 1] }
  refine ⟨_, _, _, _, _, _, [_], 7, _, _, rfl, F1h, N1h, fun p hp => Nat.ne_of_lt (Heap.lt_size (Nh p hp).1), Walks.range rfl _ 0 1 7, by decide, fun i h hS => ⟨_, hS⟩, (N1h _ (.head _)).1, ?_, ?_, ?_⟩
  · intro b hb
    rw [List.mem_singleton.mp hb]
    exact Heap.lt_size (N1h _ (.head _)).1
  · intro C i v s₃ m₃ E' hP hn hx F3 N3
    obtain ⟨tv, rfl⟩ := hP
    generalize (0 + ((i : Nat) : Int) * 1) = kk at hx ⊢
    clear Fh Nh F1h N1h F
    have N0 := N
    clear N
    refine wpAny_tests_one ?_
    refine stop_out ?_
    k_steps
    unfold Stop
    refine' contains_keep (b := decide (kk ∈ r.map fun p => p.1)) ?B ?F ?X ?N ?T ?hf ?hk ?hroom ?hun hom hkv hvs hks hap3 (R.isSome_eq kk) ?_
    (case F => exact F3); (case B => k_asm); (case X => k_asm); (case N => exact N3); (case T => k_asm); (case hf => exact rfl); (case hk => exact rfl); (case hroom => k_room); (case hun => k_units)
    intro hv4 tkv4 keep4
    have F4 := fr_up F3 keep4
    have N4 := news_up N3 keep4
    have hn4 := hn.keeps keep4
    clear hn F3 N3
    k_steps
    refine my_comp_rows_k rfl (by with_unfolding_all rfl) (by decide) (by with_unfolding_all rfl) (by decide) (by with_unfolding_all rfl) (by intro _; with_unfolding_all rfl) ?_
    refine stop_out ?_
    k_steps
    unfold Stop
    refine ⟨_, _, _, _, ro, ys, e0, rfl, F4, N4, by simp, by omega, fun _ => true, fun v y => ∃ p t, PairIn tups v p ∧ y = .int p.1 t, ?_, ?_, ?_⟩
    · intro C i v s₅ m₅ E' hv hn hx F3 N3
      exact wpAny_tests_nil ⟨rfl, s₅.heap, s₅.toks, rfl, fun _ _ e => e⟩
    · intro C i v s₅ m₅ E' hv hp hn hx F3 N3
      obtain ⟨p, hp⟩ := rowIn_get hr hv
      have hp2 := hp
      obtain ⟨T, t, u, rfl, hT⟩ := hp
      have hT3 : s₅.heap.get? T = some (tupO [.int p.1 t, .int p.2 u] 0) := (N3 (T, tupO [.int p.1 t, .int p.2 u] 0) (by simp [hsub _ hT])).1
      clear F4 N4 N0
      refine stop_out ?_
      k_steps
      exact ⟨⟨p, _, hp2, rfl⟩, s₅.heap, _, rfl, fun _ _ e => e⟩
    intro D6 h6 tk6 z6 n6 F6 N6 hP6 _ keep6
    have hz6 := paired_proj (fun p hp => N0 p (by simp [hsub p hp])) (fun p => p.1) hr (by rw [List.filter_eq_self.mpr (fun _ _ => rfl)] at hP6; exact hP6)
    clear F4 N4 hP6
    k_steps
    · have e1 : (List.map (fun p : Int × Int => p.1) r).any (fun x => x == kk) = decide (kk ∈ List.map (fun p : Int × Int => p.1) r) := by rw [Bool.eq_iff_iff]; simp
      rw [e1]; simp
    · exact ⟨_, _, rfl, fun b o e => keep6 b o (keep4 b o e)⟩
  intro D7 h7z tk7z n7z F7z N7z
  clear Fh Nh F1h N1h F N
  k_steps
  (rename News _ _ _ _ => Nz9)
  unfold Stop
  refine eq_rows (ys := []) (zs := []) (r := []) (q := []) (n := n7z) (n' := 0) (Nz9 _ (.tail _ (.head _))).1 .nil (Nz9 _ (.head _)).1 .nil (by k_units) ?_
  rw [show decide (([] : List (Int × Int)) = []) = true from rfl]
  k_steps
  (rename News _ _ _ _ => Nz10); (rename Fr _ _ _ _ => Fz10)
  exact ret _ _ Fz10 (news_sub Nz10 (by intro p hp; simp only [List.mem_cons] at hp ⊢; grind))
end
end
/-! part FR -/
section
section
variable {prog : Program} {w : World} {A : Around} {E : Value → Shared → Prop} {env : Env}
theorem my_for_range {s : Shared} {x : Str} {px pos : Pos} {iter : Expr} {body : List Stmt} {Q : Flow → Shared → Prop} (hh : A.handled = none)
    (hE : PassesOwn (model prog w) A env E) (hs : ∀ x, foldedSetIterable iter env x = pure x)
    (h : wpAny (model prog w) A (eval iter env) (fun xv s₁ => wpAny (model prog w) A (pyIter xv) (fun it s₂ => ∃ (I : Addr) (a c : Int) (n : Nat) (J : Heap → Prop),
      it = .ref I ∧ IsRangeIter s₂.heap I (a + ((0 : Nat) : Int) * c) ((n : Int) - ((0 : Nat) : Int)) c ∧ J s₂.heap ∧
      (∀ h h', J h → (∀ b o, b ∉ [I] → h.get? b = some o → h'.get? b = some o) → J h') ∧
      (∀ (i : Int) (v : Tok) (h₁ : Heap) (tk : Nat) (x' left : Int), J h₁ → IsRangeIter h₁ I x' left c →
        wpAny (model prog w) A (assign (.Name x px) env (.int i v)) (fun _ s₃ => wpAny (model prog w) A (execs body env) (fun f s₄ => f = .next ∧ ∃ h' tk', s₄ = { s₂ with heap := h', toks := tk' } ∧ J h' ∧ IsRangeIter h' I x' left c) E s₃) E { s₂ with heap := h₁, toks := tk }) ∧
      (∀ h' tk, J h' → Q .next { s₂ with heap := h', toks := tk })) E s₁) E s) :
    wpAny (model prog w) A (exec (.For (.Name x px) iter body [] pos) env) Q E s := by
  refine wpAny_For (wpAny_mono h (fun xv s₁ h₁ => wpAny_mono h₁ (fun it s₂ h₂ => ?_) fun _ _ e => e) fun _ _ e => e) hs
  obtain ⟨I, a, c, n, J, rfl, hst, hJ, hturn, hstep, hQ⟩ := h₂
  have W := Walks.range (prog := prog) (w := w) (A := A) hh I a c n
  refine codeAny_forLoop (R := fun r s' => match r with | .ok f => Q f s' | .error e => cameBackBy (model prog w) A env E e s')
    (fun k s' => ∃ h' tk i, s' = { s₂ with heap := h', toks := tk } ∧ IsRangeIter h' I (a + ((i : Nat) : Int) * c) ((n : Int) - ((i : Nat) : Int)) c ∧ J h' ∧ i ≤ n ∧ k = n + 1 - i) ?_ (n + 1)
    ⟨s₂.heap, s₂.toks, 0, rfl, hst, hJ, Nat.zero_le _, rfl⟩
  rintro k s' ⟨h', tk, i, rfl, hst', hJ', hi, rfl⟩
  by_cases hlt : i < n
  · refine W.item i _ _ _ hlt hst' fun v h₁ tk₁ hP hst₁ hk₁ => ?_
    obtain ⟨t, rfl⟩ := hP
    dsimp only
    refine wpAny_mono (wpAny_passesOwn (M := model prog w) (A := A) (env := env) (E := E) hE (hstep _ t h₁ tk₁ _ _ (hturn _ _ hJ' hk₁) hst₁)) (fun _ s₃ h₃ => ?_) fun _ _ e => e
    refine wpAny_mono (wpAny_passesOwn (M := model prog w) (A := A) (env := env) (E := E) hE h₃) (fun f s₄ h₄ => ?_) fun _ _ e => e
    obtain ⟨rfl, h4, tk4, rfl, hJ4, hst4⟩ := h₄
    exact ⟨n + 1 - (i + 1), by omega, h4, tk4, i + 1, rfl, hst4, hJ4, hlt, rfl⟩
  · have hin : i = n := by omega
    subst hin
    refine W.done _ _ _ hst' fun h₁ tk₁ hk₁ => wpAny_execs_nil ?_
    exact hQ h₁ tk₁ (hturn _ _ hJ' hk₁)
end
end
/-! part LJ -/
section
abbrev itO (x left c : Int) : Obj := { cls := .type "range_iterator", dict := none, data := .fields #[rawInt x, rawInt left, rawInt c], slots := #[] }
/-- what holds between two turns of the law's loop -/
structure LawJ (w : World) (g : Heap) (L c cd mp q lk lkd dr dl I : Addr) (many : Int) (m : Str → Option Value) (t1 t2 t3 t4 t5 : Tok) (n : Nat) (om : Obj) (kvs : List (Int × Value)) (vs : List Value) (ks : List Int) (ep : Nat)
    (ro : Addr) (ys : List Value) (e0 : Nat) (r : List (Int × Int)) (tups : List (Addr × Obj)) (x : Int) (tx : Tok) (e1 : Nat) (xs : List Value) (ns : List Int) (e2 : Nat) (tm : Tok) (h : Heap) : Prop where
  F : Fr g L h m
  m1 : m (Str.ofString "draws") = some (.ref dr)
  m2 : m (Str.ofString "many") = some (.int many tm)
  m3 : m (Str.ofString "cache") = some (.ref c)
  m4 : m (Str.ofString "row") = some (.ref ro)
  N : News g L h ((dr, W.listOf #[.int x tx, .ref dl] e1) :: (dl, W.listOf xs.toArray e2) :: (c, instObj 169 cd) :: (cd, cDict w t1 t2 t3 t4 t5 many mp q lk n) :: (mp, om) :: (q, W.listOf vs.toArray ep) :: (lk, instObj 45 lkd) :: (lkd, dictOf [] 0) :: (ro, W.listOf ys.toArray e0) :: tups)
  hom : om.IsDictOf (intKind PySem.Challenge.rw_bb0044_01.row.prog w) kvs
  hvs : IntsAre vs ks
  R : Rel many kvs ks r
  hr : RowIn tups ys r
  htu : TupsOk tups
  hxs : IntsAre xs ns
  hns : ns.length ≤ 1000
  ro1 : ro ≠ mp ∧ ro ≠ q ∧ ro ≠ dr ∧ ro ≠ dl
  fI : ∀ p ∈ ((dr, W.listOf #[.int x tx, .ref dl] e1) :: (dl, W.listOf xs.toArray e2) :: (c, instObj 169 cd) :: (cd, cDict w t1 t2 t3 t4 t5 many mp q lk n) :: (mp, om) :: (q, W.listOf vs.toArray ep) :: (lk, instObj 45 lkd) :: (lkd, dictOf [] 0) :: (ro, W.listOf ys.toArray e0) :: tups), p.1 ≠ I
def LawX (w : World) (g : Heap) (L c cd mp q lk lkd dr dl I : Addr) (many : Int) (h : Heap) : Prop :=
  ∃ m t1 t2 t3 t4 t5 n om kvs vs ks ep ro ys e0 r tups x tx e1 xs ns e2 tm, LawJ w g L c cd mp q lk lkd dr dl I many m t1 t2 t3 t4 t5 n om kvs vs ks ep ro ys e0 r tups x tx e1 xs ns e2 tm h
/-- the addresses that stay: all apart -/
structure LawA (c cd mp q lk lkd dr dl : Nat) : Prop where
  ap : Apart c cd mp q lk lkd []
  d1 : dr ≠ c ∧ dr ≠ cd ∧ dr ≠ mp ∧ dr ≠ q ∧ dr ≠ lk ∧ dr ≠ lkd
  d2 : dl ≠ c ∧ dl ≠ cd ∧ dl ≠ mp ∧ dl ≠ q ∧ dl ≠ lk ∧ dl ≠ lkd
  d3 : dr ≠ dl
theorem m_shape {m : Str → Option Value} {A B C D : Str} {a b c d : Option Value} (h1 : m A = a) (h2 : m B = b) (h3 : m C = c) (h4 : m D = d) : m = fun y => if y = A then a else if y = B then b else if y = C then c else if y = D then d else m y := by
  funext y
  split
  · rename_i e; rw [e]; exact h1
  · split
    · rename_i e; rw [e]; exact h2
    · split
      · rename_i e; rw [e]; exact h3
      · split
        · rename_i e; rw [e]; exact h4
        · rfl
theorem lawX_turn {w : World} {g : Heap} {L c cd mp q lk lkd dr dl I : Addr} {many : Int} (hL : L ≠ I) (hg : g.get? I = none) {h h' : Heap} (J : LawX w g L c cd mp q lk lkd dr dl I many h) (k : ∀ b o, b ∉ [I] → h.get? b = some o → h'.get? b = some o) : LawX w g L c cd mp q lk lkd dr dl I many h' := by
  obtain ⟨m, t1, t2, t3, t4, t5, n, om, kvs, vs, ks, ep, ro, ys, e0, r, tups, x, tx, e1, xs, ns, e2, tm, J⟩ := J
  exact ⟨m, t1, t2, t3, t4, t5, n, om, kvs, vs, ks, ep, ro, ys, e0, r, tups, x, tx, e1, xs, ns, e2, tm,
    { J with F := fr_moved J.F k (by simpa using hL) (by simpa using hg), N := news_moved J.N k (fun p hp hm => J.fI p hp (List.mem_singleton.mp hm)) }⟩
theorem tup_ne_list {p : Addr × Obj} {l : List Value} (h : p.2 = tupO l 0) (xs : Array Value) (n : Nat) : p.2 ≠ W.listOf xs n := by
  rw [h]; intro e
  have := congrArg Obj.cls e
  simp at this
theorem tups_ne {g h : Heap} {L D : Addr} {news tups : List (Addr × Obj)} {xs : Array Value} {n : Nat} (N : News g L h news) (htu : TupsOk tups) (hs : ∀ p ∈ tups, p ∈ news) (hD : (D, W.listOf xs n) ∈ news) : ∀ p ∈ tups, p.1 ≠ D := fun p hp => by
  obtain ⟨l, hl⟩ := htu p hp
  exact News.twoPlaces N (hs p hp) hD (tup_ne_list hl xs n)
theorem tups_neD {prog : Program} {w : World} {g h : Heap} {L D : Addr} {news tups : List (Addr × Obj)} {om : Obj} {kvs : List (Int × Value)} (N : News g L h news) (htu : TupsOk tups) (hs : ∀ p ∈ tups, p ∈ news) (hD : (D, om) ∈ news) (hom : om.IsDictOf (intKind prog w) kvs) : ∀ p ∈ tups, p.1 ≠ D := fun p hp => by
  obtain ⟨l, hl⟩ := htu p hp
  refine News.twoPlaces N (hs p hp) hD ?_
  rw [hl]
  exact (dict_ne_seq hom).symm
theorem lawA_of {c cd mp q lk lkd dr dl : Nat} (h1 : dl < dr) (h2 : dr < cd) (h3 : cd < c) (h4 : c < mp) (h5 : mp < q) (h6 : q < lkd) (h7 : lkd < lk) (lo : (mp == sysModules) = false) : LawA c cd mp q lk lkd dr dl :=
  ⟨⟨by omega, by omega, by omega, by omega, by omega, by omega, by omega, by omega, by omega, by simp, by simp, lo⟩, ⟨by omega, by omega, by omega, by omega, by omega, by omega⟩, ⟨by omega, by omega, by omega, by omega, by omega, by omega⟩, by omega⟩
theorem small17 : ∀ k : Nat, k < 17 → Builtin.Range.small 0 ((k : Int) + 3) 1 = true := by decide +kernel
theorem size17 : ∀ k : Nat, k < 17 → Builtin.Range.rangeSize 0 ((k : Int) + 3) 1 = ((k + 3 : Nat) : Int) := by decide +kernel
theorem rel_empty {f : Int} (h0 : 0 ≤ f) (h5 : f < 5) : Rel (1 + f) [] [] [] where
  hks := rfl
  nd := by simp
  kn := by simp
  kp a := by simp
  val a b q := by simp at q
  pos := by omega
  le := by simp; omega
  small := by omega
theorem law_shape {g h : Heap} {L : Addr} {d0 ro0 lk0 lkd0 q0 mp0 c0 cd0 dr0 dl0 : Addr × Obj} {z : List (Addr × Obj)} (N : News g L h (d0 :: ro0 :: lk0 :: lkd0 :: q0 :: mp0 :: c0 :: cd0 :: dr0 :: dl0 :: z)) :
    News g L h (dr0 :: dl0 :: c0 :: cd0 :: mp0 :: q0 :: lk0 :: lkd0 :: ro0 :: []) := news_sub N (by intro p hp; simp only [List.mem_cons] at hp ⊢; grind)
theorem law_take {g h : Heap} {L : Addr} {i0 dr0 dl0 c0 cd0 mp0 q0 lk0 lkd0 ro0 : Addr × Obj} {z : List (Addr × Obj)} (N : News g L h (i0 :: dr0 :: dl0 :: c0 :: cd0 :: mp0 :: q0 :: lk0 :: lkd0 :: ro0 :: z)) :
    News g L h (dr0 :: dl0 :: c0 :: cd0 :: mp0 :: q0 :: lk0 :: lkd0 :: ro0 :: i0 :: z) := news_sub N (by intro p hp; simp only [List.mem_cons] at hp ⊢; grind)
theorem law_b1 {w : World} {g : Heap} {L c cd mp q lk lkd dr dl I : Addr} {many : Int} {m : Str → Option Value} {t1 t2 t3 t4 t5 : Tok} {n : Nat} {om : Obj} {kvs : List (Int × Value)} {vs : List Value} {ks : List Int} {ep : Nat}
    {ro : Addr} {ys : List Value} {e0 : Nat} {r : List (Int × Int)} {tups : List (Addr × Obj)} {x : Int} {tx : Tok} {e1 : Nat} {xs : List Value} {ns : List Int} {e2 : Nat} {tm : Tok} {h : Heap} {oI : Obj} (A0 : LawA c cd mp q lk lkd dr dl)
    (J : LawJ w g L c cd mp q lk lkd dr dl I many m t1 t2 t3 t4 t5 n om kvs vs ks ep ro ys e0 r tups x tx e1 xs ns e2 tm h) :
    ∀ p ∈ ((c, instObj 169 cd) :: (cd, cDict w t1 t2 t3 t4 t5 many mp q lk n) :: (mp, om) :: (q, W.listOf vs.toArray ep) :: (lk, instObj 45 lkd) :: (lkd, dictOf [] 0) :: (ro, W.listOf ys.toArray e0) :: (I, oI) :: tups), p.1 ≠ dr := by
  have ht := tups_ne J.N J.htu (fun p hp => by simp [hp]) (.head _)
  have hI := J.fI _ (.head _)
  obtain ⟨a1, a2, a3, a4, a5, a6⟩ := A0.d1
  intro p hp
  simp only [List.mem_cons] at hp
  rcases hp with rfl | rfl | rfl | rfl | rfl | rfl | rfl | rfl | hp
  · exact a1.symm
  · exact a2.symm
  · exact a3.symm
  · exact a4.symm
  · exact a5.symm
  · exact a6.symm
  · exact J.ro1.2.2.1
  · exact hI.symm
  · exact ht p hp
theorem law_b2 {w : World} {g : Heap} {L c cd mp q lk lkd dr dl I : Addr} {many : Int} {m : Str → Option Value} {t1 t2 t3 t4 t5 : Tok} {n : Nat} {om : Obj} {kvs : List (Int × Value)} {vs : List Value} {ks : List Int} {ep : Nat}
    {ro : Addr} {ys : List Value} {e0 : Nat} {r : List (Int × Int)} {tups : List (Addr × Obj)} {x : Int} {tx : Tok} {e1 : Nat} {xs : List Value} {ns : List Int} {e2 : Nat} {tm : Tok} {h : Heap} {oI : Obj} (A0 : LawA c cd mp q lk lkd dr dl)
    (J : LawJ w g L c cd mp q lk lkd dr dl I many m t1 t2 t3 t4 t5 n om kvs vs ks ep ro ys e0 r tups x tx e1 xs ns e2 tm h) :
    ∀ p ∈ ((c, instObj 169 cd) :: (cd, cDict w t1 t2 t3 t4 t5 many mp q lk n) :: (mp, om) :: (q, W.listOf vs.toArray ep) :: (lk, instObj 45 lkd) :: (lkd, dictOf [] 0) :: (ro, W.listOf ys.toArray e0) :: (I, oI) :: tups), p.1 ≠ dl := by
  have ht := tups_ne J.N J.htu (fun p hp => by simp [hp]) (.tail _ (.head _))
  have hI := J.fI _ (.tail _ (.head _))
  obtain ⟨a1, a2, a3, a4, a5, a6⟩ := A0.d2
  intro p hp
  simp only [List.mem_cons] at hp
  rcases hp with rfl | rfl | rfl | rfl | rfl | rfl | rfl | rfl | hp
  · exact a1.symm
  · exact a2.symm
  · exact a3.symm
  · exact a4.symm
  · exact a5.symm
  · exact a6.symm
  · exact J.ro1.2.2.2
  · exact hI.symm
  · exact ht p hp
theorem news_rot {g h : Heap} {L : Addr} {a b c : Addr × Obj} {z : List (Addr × Obj)} (N : News g L h (a :: b :: c :: z)) : News g L h (b :: c :: a :: z) := news_sub N (by intro p hp; simp only [List.mem_cons] at hp ⊢; grind)
theorem all_cons {D : Addr} {a : Addr × Obj} {z : List (Addr × Obj)} (h1 : a.1 ≠ D) (h2 : ∀ p ∈ z, p.1 ≠ D) : ∀ p ∈ a :: z, p.1 ≠ D := fun p hp => by
  rcases List.mem_cons.mp hp with rfl | hp
  · exact h1
  · exact h2 p hp
theorem how_pick (a0 a1 a2 a3 a4 a5 a6 a7 a8 a9 : Tok) {f1 : Int} (h0 : 0 ≤ f1) (h1 : f1 < 10) : ∃ j hw tw, seqIndex? f1 10 = some j ∧ [Value.int 0 a0, .int 1 a1, .int 0 a2, .int 2 a3, .int 3 a4, .int 4 a5, .int 5 a6, .int 0 a7, .int 1 a8, .int 6 a9][j]? = some (.int hw tw) ∧ 0 ≤ hw ∧ hw < 7 := by
  have : f1 = 0 ∨ f1 = 1 ∨ f1 = 2 ∨ f1 = 3 ∨ f1 = 4 ∨ f1 = 5 ∨ f1 = 6 ∨ f1 = 7 ∨ f1 = 8 ∨ f1 = 9 := by omega
  rcases this with rfl | rfl | rfl | rfl | rfl | rfl | rfl | rfl | rfl | rfl <;> exact ⟨_, _, _, rfl, rfl, by decide, by decide⟩
theorem pick_how {prog : Program} {w : World} {A : Around} {E : Value → Shared → Prop} {s : Shared} {value slice : PySem.Expr} {a : Addr} {n : Nat} {u : Tok} {a0 a1 a2 a3 a4 a5 a6 a7 a8 a9 : Tok} {f1 : Int} {Q : Value → Shared → Prop}
    (ho : s.heap.get? a = some (W.listOf #[Value.int 0 a0, .int 1 a1, .int 0 a2, .int 2 a3, .int 3 a4, .int 4 a5, .int 5 a6, .int 0 a7, .int 1 a8, .int 6 a9] n)) (h0 : 0 ≤ f1) (h1 : f1 < 10) (h : ∀ hw tw, 0 ≤ hw → hw < 7 → Q (.int hw tw) s)
    (hs : subscripted slice false (.ref a) (.int f1 u) = operate [.ref a, .int f1 u] (getItem (.ref a) (.int f1 u)) := by with_unfolding_all rfl) (hg : ∀ r, letTemporaryGo value (.ref a) r = pure () := by intro _; with_unfolding_all rfl) :
    wpAny (model prog w) A (subscriptTail value slice (.ref a) (.int f1 u)) Q E s := by
  have : ∃ hw tw, [Value.int 0 a0, .int 1 a1, .int 0 a2, .int 2 a3, .int 3 a4, .int 4 a5, .int 5 a6, .int 0 a7, .int 1 a8, .int 6 a9][f1.toNat]? = some (.int hw tw) ∧ 0 ≤ hw ∧ hw < 7 := by
    have : f1 = 0 ∨ f1 = 1 ∨ f1 = 2 ∨ f1 = 3 ∨ f1 = 4 ∨ f1 = 5 ∨ f1 = 6 ∨ f1 = 7 ∨ f1 = 8 ∨ f1 = 9 := by omega
    rcases this with rfl | rfl | rfl | rfl | rfl | rfl | rfl | rfl | rfl | rfl <;> exact ⟨_, _, rfl, by decide, by decide⟩
  obtain ⟨hw, tw, e, e1, e2⟩ := this
  exact item_listL (l := [Value.int 0 a0, .int 1 a1, .int 0 a2, .int 2 a3, .int 3 a4, .int 4 a5, .int 5 a6, .int 0 a7, .int 1 a8, .int 6 a9]) ⟨_, ho, rfl, _, rfl⟩ h0 (by omega) e (h hw tw e1 e2) hs hg
theorem law_drop3 {g h : Heap} {L : Addr} {a b l : Addr × Obj} {z : List (Addr × Obj)} (N : News g L h (a :: b :: l :: z)) : News g L h (a :: b :: z) := news_sub N (by intro p hp; simp only [List.mem_cons] at hp ⊢; grind)
theorem apart_sub {c cd mp q lk lkd : Addr} {l l' : List (Addr × Obj)} (h : Apart c cd mp q lk lkd l) (hs : ∀ p ∈ l', p ∈ l) : Apart c cd mp q lk lkd l' := by
  obtain ⟨a1, a2, a3, a4, a5, a6, a7, a8, a9, b1, b2, lo⟩ := h
  exact ⟨a1, a2, a3, a4, a5, a6, a7, a8, a9, fun p hp => b1 p (hs p hp), fun p hp => b2 p (hs p hp), lo⟩
theorem ansAt_two {v v2 : Value} {a : Ans} (h : AnsAt v a) (h2 : AnsAt v2 a) : (∃ x t t', v = .str x t ∧ v2 = .str x t') ∨ (∃ n t t', v = .int n t ∧ v2 = .int n t') ∨ (∃ b, v = .bool b ∧ v2 = .bool b) := by
  cases a with
  | txt x => cases v <;> cases v2 <;> simp_all [AnsAt]
  | num x => cases v <;> cases v2 <;> simp_all [AnsAt]
  | flag x => cases v <;> cases v2 <;> simp_all [AnsAt]
theorem law_apart {prog : Program} {w : World} {g h : Heap} {L c cd mp q lk lkd dr dl I P D : Addr} {lp zs vs : List Value} {ez ep : Nat} {oc ocd om olk olkd o1 o2 oI oro : Obj} {ro : Addr} {kvs : List (Int × Value)} {tups : List (Addr × Obj)} (A0 : LawA c cd mp q lk lkd dr dl)
    (N : News g L h ((P, tupO lp 0) :: (D, W.listOf zs.toArray ez) :: (dr, o1) :: (dl, o2) :: (c, oc) :: (cd, ocd) :: (mp, om) :: (q, W.listOf vs.toArray ep) :: (lk, olk) :: (lkd, olkd) :: (ro, oro) :: (I, oI) :: tups))
    (hom : om.IsDictOf (intKind prog w) kvs) (htu : TupsOk tups) (hD : D ≠ mp ∧ D ≠ q) (hI : I ≠ mp ∧ I ≠ q) :
    Apart c cd mp q lk lkd ((P, tupO lp 0) :: (D, W.listOf zs.toArray ez) :: (dr, o1) :: (dl, o2) :: (I, oI) :: tups) := by
  have t1 := tups_neD (D := mp) N (tups := (P, tupO lp 0) :: tups) (tupsOk_cons htu) (fun p hp => by simp only [List.mem_cons] at hp ⊢; grind) (by simp) hom
  have t2 := tups_ne (D := q) N (tups := (P, tupO lp 0) :: tups) (tupsOk_cons htu) (fun p hp => by simp only [List.mem_cons] at hp ⊢; grind) (xs := vs.toArray) (n := ep) (by simp)
  obtain ⟨a1, a2, a3, a4, a5, a6, a7, a8, a9, b1, b2, lo⟩ := A0.ap
  obtain ⟨d1, d2, d3, d4, d5, d6⟩ := A0.d1
  obtain ⟨e1, e2, e3, e4, e5, e6⟩ := A0.d2
  refine ⟨a1, a2, a3, a4, a5, a6, a7, a8, a9, ?_, ?_, lo⟩
  · intro p hp
    simp only [List.mem_cons] at hp
    rcases hp with rfl | rfl | rfl | rfl | rfl | hp
    · exact t1 _ (.head _)
    · exact hD.1
    · exact d3
    · exact e3
    · exact hI.1
    · exact t1 p (.tail _ hp)
  · intro p hp
    simp only [List.mem_cons] at hp
    rcases hp with rfl | rfl | rfl | rfl | rfl | hp
    · exact t2 _ (.head _)
    · exact hD.2
    · exact d4
    · exact e4
    · exact hI.2
    · exact t2 p (.tail _ hp)
theorem law_due {g h : Heap} {L : Addr} {P D a b c d e f k l o i : Addr × Obj} {t z : List (Addr × Obj)} (N : News g L h (P :: D :: (t ++ (a :: b :: c :: d :: e :: f :: k :: l :: o :: i :: z)))) :
    News g L h (P :: D :: a :: b :: c :: d :: e :: f :: k :: l :: o :: i :: t) := news_sub N (by intro p hp; simp only [List.mem_cons, List.mem_append] at hp ⊢; grind)
theorem law_done {g h : Heap} {L : Addr} {P D a b c d e f k l o i : Addr × Obj} {t : List (Addr × Obj)} (N : News g L h (P :: D :: a :: b :: c :: d :: e :: f :: k :: l :: o :: i :: t)) :
    News g L h (c :: d :: e :: f :: k :: l :: P :: D :: a :: b :: i :: t) := news_sub N (by intro p hp; simp only [List.mem_cons] at hp ⊢; grind)
theorem law_agree {g h : Heap} {L : Addr} {P D a b c d e f k l i : Addr × Obj} {t : List (Addr × Obj)} (N : News g L h (c :: d :: e :: f :: k :: l :: P :: D :: a :: b :: i :: t)) :
    News g L h (c :: d :: e :: f :: k :: l :: D :: a :: b :: i :: t) := news_sub N (by intro p hp; simp only [List.mem_cons] at hp ⊢; grind)
theorem law_end {g h : Heap} {L : Addr} {D a b c d e f k l i : Addr × Obj} {t : List (Addr × Obj)} (N : News g L h (c :: d :: e :: f :: k :: l :: D :: a :: b :: i :: t)) :
    News g L h (a :: b :: c :: d :: e :: f :: k :: l :: D :: t) := news_sub N (by intro p hp; simp only [List.mem_cons] at hp ⊢; grind)
theorem tupsOk_ne {tups : List (Addr × Obj)} (h : TupsOk tups) (x left c : Int) : ∀ p ∈ tups, p.2 ≠ itO x left c := fun p hp e => by
  obtain ⟨l, hl⟩ := h p hp
  rw [hl] at e
  have := congrArg Obj.cls e
  simp at this
theorem dict_ne_it {prog : Program} {w : World} {kvs : List (Int × Value)} {om : Obj} (hom : om.IsDictOf (intKind prog w) kvs) (x left c : Int) : om ≠ itO x left c := by
  rintro rfl
  obtain ⟨es, ep', _, hd, _⟩ := hom
  cases hd
theorem law_fI {w : World} {g h : Heap} {L c cd mp q lk lkd dr dl I ro : Addr} {many : Int} {t1 t2 t3 t4 t5 : Tok} {n : Nat} {om : Obj} {kvs : List (Int × Value)} {vs : List Value} {ep : Nat} {ys : List Value} {e0 : Nat} {tups : List (Addr × Obj)} {A1 A2 : Array Value} {e1 e2 : Nat} {x left cc : Int}
    (N : News g L h ((c, instObj 169 cd) :: (cd, cDict w t1 t2 t3 t4 t5 many mp q lk n) :: (mp, om) :: (q, W.listOf vs.toArray ep) :: (lk, instObj 45 lkd) :: (lkd, dictOf [] 0) :: (ro, W.listOf ys.toArray e0) :: (dr, W.listOf A1 e1) :: (dl, W.listOf A2 e2) :: (I, itO x left cc) :: tups))
    (hom : om.IsDictOf (intKind PySem.Challenge.rw_bb0044_01.row.prog w) kvs) (htu : TupsOk tups) :
    ∀ p ∈ ((dr, W.listOf A1 e1) :: (dl, W.listOf A2 e2) :: (c, instObj 169 cd) :: (cd, cDict w t1 t2 t3 t4 t5 many mp q lk n) :: (mp, om) :: (q, W.listOf vs.toArray ep) :: (lk, instObj 45 lkd) :: (lkd, dictOf [] 0) :: (ro, W.listOf ys.toArray e0) :: tups), p.1 ≠ I := by
  intro p hp
  refine News.twoPlaces N (p := p) (q := (I, itO x left cc)) (by simp only [List.mem_cons] at hp ⊢; grind) (by simp) ?_
  simp only [List.mem_cons] at hp
  rcases hp with rfl | rfl | rfl | rfl | rfl | rfl | rfl | rfl | rfl | hp
  · intro e; have := congrArg Obj.cls e; simp at this
  · intro e; have := congrArg Obj.cls e; simp at this
  · intro e; have := congrArg Obj.cls e; simp [instObj] at this
  · intro e; have := congrArg Obj.cls e; simp [dictOf] at this
  · exact dict_ne_it hom _ _ _
  · intro e; have := congrArg Obj.cls e; simp at this
  · intro e; have := congrArg Obj.cls e; simp [instObj] at this
  · intro e; have := congrArg Obj.cls e; simp [dictOf] at this
  · intro e; have := congrArg Obj.cls e; simp at this
  · exact tupsOk_ne htu _ _ _ p hp
end
/-! part LW -/
section
theorem walk_start_LW : True := by
  w_top off
  trivial
local macro_rules | `(tactic| k_room) => `(tactic| (dsimp only [Around.deeper, Around.mark, Around.in1, Around.under, kTop]; omega))
local macro_rules | `(tactic| k_units) => `(tactic| (have hcL9 := cLine_is; dsimp only [Around.deeper, Around.mark, Around.in1, Around.under, kTop]; omega))
local macro_rules | `(tactic| ktr_room) => `(tactic| (dsimp only [Around.deeper, Around.mark, Around.in1, Around.under, kTop]; omega))
local macro_rules | `(tactic| k_all) => `(tactic| assumption)
local macro_rules | `(tactic| k_ne) => `(tactic| first | assumption | (apply Ne.symm; assumption) | (refine neN ?_; (try dsimp only); omega))
local macro_rules | `(tactic| cell_enter) => `(tactic| (refine' code_def ?k1 ?k2 ?k3 ?k4 ?k5 ?kA ?kF ?kK ?k6 ?k7 ?k8 ?k9 ?kB ?_ ?c2 ?c3 ?c4 ?c5; (case kA => exact rfl); (case kF => assumption); (case kK => assumption); (case k1 => k_asm); (case k2 => k_asm); (case k3 => k_asm); (case k4 => k_asm); (case k5 => k_asm); (case k6 => k_is); (case k7 => k_is); (case k8 => ktr_room); (case k9 => exact BindsTo.of_eq rfl); (case c5 => decide); (case kB => exact locs rfl); (case c2 => exact rfl); (case c3 => exact rfl); (case c4 => exact rfl); k_whole; intro g' L' h' FG' F' N' B' X' T'; (try dsimp only); (try k_lift B'); (try k_fold)))
local macro_rules | `(tactic| walk_at "call ref") => `(tactic| (k_here; (first | (show wpAny _ _ (call (Value.ref 180) _) _ _ _) | (show wpAny _ _ (call (Value.ref 187) _) _ _ _) | (show wpAny _ _ (call (Value.ref 202) _) _ _ _) | (show wpAny _ _ (call (Value.ref 207) _) _ _ _)); refine stopG ?_))
local macro_rules | `(tactic| walk_at "exec For Name Call cons nil") => `(tactic| (k_here; refine stopG ?_))
local macro_rules | `(tactic| walk_at "subscriptTail List") => `(tactic| (k_here; refine stopG ?_))
set_option maxRecDepth 100000 in
set_option maxHeartbeats 16000000 in
theorem law_holds : PySem.Challenge.rw_bb0044_01.Holds := Mine.hd (by
  k_go0
  (all_goals try k_fold)
  k_steps
  rename_i dl hq0 tkq o1q dr hq1 l1d hq2 F1 N1
  (rename (IntsAre ys _) => hI1)
  (rename (ys.length = _) => hL8)
  unfold Stop
  have hl16 : ys.length ≤ 16 := by rw [hL8, List.length_map, List.length_take]; exact Nat.min_le_left _ _
  refine' take_pact ?B ?F ?X N1 ?T ?hf ?hk ?hroom ?hun ?hxs ?hns ?ap ?b1 ?b2 (by decide) (by decide) ?_
  (case F => exact F1); (case B => k_asm); (case X => k_asm); (case T => k_asm); (case hf => exact rfl); (case hk => exact rfl); (case hroom => decide +kernel); (case hun => decide +kernel); (case hxs => exact hI1)
  (case hns => rw [← hL8]; omega)
  (case ap => exact (Nat.ne_of_lt l1d.1).symm)
  (case b1 => intro p hp; rw [List.mem_singleton.mp hp]; exact Nat.ne_of_lt l1d.2)
  (case b2 => intro p hp; rw [List.mem_singleton.mp hp]; exact o1q)
  intro f tf h2 tk2 y ty e1' xs' ns' e2' hxs' hns' F2 N2 hf0 hf5
  (try dsimp only at N2)
  clear N1 F1
  k_steps
  rename_i c cd h13 F13 N13 l5 l2c g2 L2 h12 B2 X2 T2 lf2 lf1 lf0 tka h11 mp h10 om lo hs fs hi fi l4 h9 q h8 l3 h7 tkb lk lkd h6 l2 l2k h5 F5 N5 Gc kX ro h4 l1r Dt h3 l1t hA hB hC FL NL
  unfold Stop
  clear F13 N13 F5 N5
  have hxl : xs'.length ≤ 16 := by rw [hxs'.length, ]; rw [← hL8] at hns'; omega
  refine my_for_range rfl (by passes_own) (by intro _; with_unfolding_all rfl) ?_
  refine stop_out ?_
  k_steps
  unfold Stop
  rename_i hz tkz tz uz vz hrg FZ NZ kz
  (rename World => w); (rename Shared => s1)
  have hnl : ns'.length < 17 := by rw [← hL8] at hns'; omega
  refine wpAny_pyIter_range hrg (small17 _ hnl) ?_
  have F1z := FZ.push { cls := .type "range_iterator", data := .fields #[rawInt 0, rawInt (Builtin.Range.rangeSize 0 ((ns'.length : Int) + 3) 1), rawInt 1] }
  have N1z := News.push FZ NZ { cls := .type "range_iterator", data := .fields #[rawInt 0, rawInt (Builtin.Range.rangeSize 0 ((ns'.length : Int) + 3) 1), rawInt 1] }
  have A0 : LawA c cd mp q lk lkd dr dl := lawA_of l1d.1 l5.1 l2c l4.1 l3.1 l2.1 l2k lo
  have hIL := (N1z _ (.head _)).2.1
  have hIg := (N1z _ (.head _)).2.2
  have hIz := (N1z _ (.head _)).1
  dsimp only at hIL hIg hIz ⊢
  refine ⟨_, 0, 1, ns'.length + 3, fun h => LawX w s1.heap s1.heap.objs.size c cd mp q lk lkd dr dl _ (1 + f) h, rfl, ?_, ?_, fun h h' J k => lawX_turn (Ne.symm hIL) hIg J k, ?_, ?_⟩
  · refine hIz.trans ?_
    rw [size17 _ hnl]
    simp
  · refine ⟨_, _, _, _, _, _, _, om, [], [], [], _, ro, [], _, [], [], y, _, _, xs', ns', _, _, { F := F1z, m1 := rfl, m2 := rfl, m3 := rfl, m4 := rfl, N := law_shape (fun p hp => N1z p (.tail _ hp)), hom := hi, hvs := .nil, R := rel_empty hf0 hf5, hr := .nil, htu := (fun p hp => by cases hp), hxs := hxs', hns := by omega, ro1 := ?_, fI := fun p hp => Nat.ne_of_lt (Heap.lt_size (law_shape NZ p hp).1) }⟩
    exact ⟨(Nat.ne_of_lt l1r.2.2.2.1).symm, (Nat.ne_of_lt l1r.2.2.1).symm, (Nat.ne_of_lt l1r.2.2.2.2.2.2.1).symm, (Nat.ne_of_lt l1r.2.2.2.2.2.2.2.1).symm⟩
  · intro i0 v0 h₁ tk' x' left J hI
    obtain ⟨m, t1, t2, t3, t4, t5, n, om', kvs, vs, ks, ep, ro', ys', e0, r, tups, x, tx, e1, xs, ns, e2, tm, J⟩ := J
    have mS := m_shape J.m1 J.m2 J.m3 J.m4
    have FJ := J.F
    rw [mS] at FJ
    have NI : News s1.heap s1.heap.objs.size h₁ ((hz.objs.size, itO x' left 1) :: _) := fun p hp => by
      rcases List.mem_cons.mp hp with rfl | hp
      · exact ⟨hI, hIL, hIg⟩
      · exact J.N p hp
    (try clear N1z); (try clear F1z); (try clear NZ); (try clear FZ); (try clear FL); (try clear NL); (try clear F2); (try clear N2)
    (try clear hrg)
    have NT := law_take NI
    clear NI
    have B1 := law_b1 (oI := itO x' left 1) A0 J
    have B2 := law_b2 (oI := itO x' left 1) A0 J
    refine stop_out ?_
    k_steps
    unfold Stop
    refine stop_out ?_
    k_steps
    (rename News _ _ _ _ => NS); (rename Fr _ _ _ _ => FS); (rename (dr < _ ∧ dl < _ ∧ c < _ ∧ _) => lS)
    unfold Stop
    refine' take_pact ?B ?F ?X (news_rot NS) ?T ?hf ?hk ?hroom ?hun J.hxs J.hns A0.d3 (all_cons (Nat.ne_of_lt lS.1).symm B1) (all_cons (Nat.ne_of_lt lS.2.1).symm B2) ?hM ?hM2 ?_
    (case F => exact FS); (case B => k_asm); (case X => k_asm); (case T => k_asm); (case hf => exact rfl); (case hk => exact rfl); (case hroom => decide +kernel); (case hun => decide +kernel); (case hM => decide); (case hM2 => decide)
    intro f1 tf1 hh1 tkk1 y1 ty1 ee1 xs1 ns1 ee2 hx1 hn1 F3 N3 g0 g10
    clear NS FS
    (try clear NT); (try clear FJ)
    k_steps
    unfold Stop
    refine kba_turn (value' := PySem.Expr.Name (PySem.Str.ofString "_") ⟨0, 0, 0, 0⟩) (fun _ => rfl) ?_
    refine pick_how (N3 _ (.tail _ (.tail _ (.head _)))).1 g0 g10 ?_
    intro hw tw hw0 hw7
    have NU := law_drop3 N3
    clear N3
    k_steps
    (rename News _ _ _ _ => N4); (rename Fr _ _ _ _ => F4)
    unfold Stop
    refine' take_pact ?B ?F ?X N4 ?T ?hf ?hk ?hroom ?hun hx1 (Nat.le_trans hn1 J.hns) A0.d3 B1 B2 ?hM ?hM2 ?_
    (case F => exact F4); (case B => k_asm); (case X => k_asm); (case T => k_asm); (case hf => exact rfl); (case hk => exact rfl); (case hroom => decide +kernel); (case hun => decide +kernel); (case hM => decide); (case hM2 => decide)
    intro fk tfk h5 tk5 y2 ty2 ee3 xs2 ns2 ee4 hx2 hn2 F5 N5 k0 k7
    clear N4 F4
    k_steps
    (rename News _ _ _ _ => N6); (rename Fr _ _ _ _ => F6)
    unfold Stop
    refine' take_pact ?B ?F ?X N6 ?T ?hf ?hk ?hroom ?hun hx2 (Nat.le_trans hn2 (Nat.le_trans hn1 J.hns)) A0.d3 B1 B2 ?hM ?hM2 ?_
    (case F => exact F6); (case B => k_asm); (case X => k_asm); (case T => k_asm); (case hf => exact rfl); (case hk => exact rfl); (case hroom => decide +kernel); (case hun => decide +kernel); (case hM => decide); (case hM2 => decide)
    intro fv tfv h7 tk7 y3 ty3 ee5 xs3 ns3 ee6 hx3 hn3 F7 N7 v0z v5z
    clear N6 F6
    k_steps
    (rename News _ _ _ _ => N8); (rename Fr _ _ _ _ => F8)
    unfold Stop
    have hyl : ys'.length ≤ 100 := by
      have h1 := J.hr.length
      have h2 := J.R.le
      have h3 := J.R.small
      omega
    have N8' : News _ _ _ _ := fun p hp => N8 p (.tail _ hp)
    refine' due_pact (ys := ys') (e0 := e0) (r := r) (tups := tups) ?B ?F ?X (news_dup N8' ?mem) ?T ?hf ?hk ?hroom ?hun J.hr ?sub hyl ?r2 ?u2 rfl J.htu hw0 hw7 ?_
    (case F => exact F8); (case B => k_asm); (case X => k_asm); (case T => k_asm); (case hf => exact rfl); (case hk => exact rfl); (case hroom => decide +kernel); (case hun => decide +kernel); (case r2 => decide +kernel); (case u2 => decide +kernel)
    (case mem => simp)
    (case sub => intro p hp; simp [hp])
    intro P D h9 tk9 zs ez v tups' F9 N9 hr9 ht9 hv9 hD9
    have N10 := law_due N9
    clear N8 N8' F8 N9
    k_steps
    (rename News _ _ _ _ => N11); (rename Fr _ _ _ _ => F11)
    unfold Stop
    have hDm : D ≠ mp ∧ D ≠ q := by
      rcases hD9 with e | hf9
      · rw [e]; exact ⟨J.ro1.1, J.ro1.2.1⟩
      · exact ⟨(hf9 (mp, om') (by simp)).symm, (hf9 (q, W.listOf vs.toArray ep) (by simp)).symm⟩
    have hDd : D ≠ dr ∧ D ≠ dl := by
      rcases hD9 with e | hf9
      · rw [e]; exact ⟨J.ro1.2.2.1, J.ro1.2.2.2⟩
      · exact ⟨(hf9 (dr, W.listOf #[Value.int y3 ty3, Value.ref dl] ee5) (by simp)).symm, (hf9 (dl, W.listOf xs3.toArray ee6) (by simp)).symm⟩
    have hIm := And.intro (J.fI (mp, om') (by simp)).symm (J.fI (q, W.listOf vs.toArray ep) (by simp)).symm
    have hapD := law_apart A0 N11 J.hom ht9 hDm hIm
    refine' done_pact ?B ?F ?X (law_done N11) ?T ?XB ?TB ?hck ?hroom ?hun J.hom J.hvs hapD J.R rfl hw0 hw7 ?_
    (case F => exact F11); (case B => k_asm); (case X => k_asm); (case T => k_asm); (case XB => k_asm); (case TB => k_asm); (case hck => exact rfl); (case hroom => decide +kernel); (case hun => decide +kernel)
    intro v2 h11 tk11 om2 kvs2 vs2 ks2 ep2 F12 N12 ho12 hi12 R12 hv12
    clear N11 F11
    generalize step (1 + f) r hw fk fv = st at hr9 hv9 R12 hv12
    rcases ansAt_two hv9 hv12 with ⟨x9, ta, tb, rfl, rfl⟩ | ⟨x9, ta, tb, rfl, rfl⟩ | ⟨x9, rfl, rfl⟩
    all_goals clear hv9 hv12
    all_goals k_steps
    all_goals (try (have hq : (x9 != x9) = true := by assumption
                    rw [bne_self_eq_false] at hq; cases hq))
    all_goals (try (have hq : x9 ≠ x9 := by assumption
                    exact absurd rfl hq))
    all_goals (rename News _ _ _ _ => N13)
    all_goals (rename Fr _ _ _ _ => F13)
    all_goals unfold Stop
    all_goals (
      refine' agrees_pact (ys := zs) (e0 := ez) (tups := tups') ?B ?F ?X (law_agree N13) ?T ?hf ?hk ?hroom ?hun ho12 hi12 (apart_sub hapD ?sub) R12 hr9 ?sub2 rfl ?_
      (case F => exact F13); (case B => k_asm); (case X => k_asm); (case T => k_asm); (case hf => exact rfl); (case hk => exact rfl); (case hroom => decide +kernel); (case hun => decide +kernel)
      (case sub => intro p hp; simp only [List.mem_cons] at hp ⊢; grind)
      (case sub2 => intro p hp; simp [hp])
      intro h15 tk15 F15 N15
      clear N13 F13
      k_steps
      all_goals first
        | exact rfl
        | exact (N15 (hz.objs.size, itO x' left 1) (by simp)).1
        | exact ⟨_, t1, t2, t3, t4, t5, n, om2, kvs2, vs2, ks2, ep2, D, zs, ez, st.1, tups', y3, ty3, ee5, xs3, ns3, ee6, tm, { F := F15, m1 := rfl, m2 := rfl, m3 := rfl, m4 := rfl, N := law_end N15, hom := ho12, hvs := hi12, R := R12, hr := hr9, htu := ht9, hxs := hx3, hns := Nat.le_trans hn3 (Nat.le_trans hn2 (Nat.le_trans hn1 J.hns)), ro1 := ⟨hDm.1, hDm.2, hDd.1, hDd.2⟩, fI := law_fI N15 ho12 ht9 }⟩)
  · intro hq8 tk8 J
    obtain ⟨m, t1, t2, t3, t4, t5, n, om', kvs, vs, ks, ep, ro', ys', e0, r, tups, x, tx, e1, xs, ns, e2, tm, J⟩ := J
    have FJ := J.F
    have NJ := J.N
    (try clear N1z); (try clear F1z); (try clear NZ); (try clear FZ); (try clear FL); (try clear NL); (try clear F2); (try clear N2)
    k_steps)
end
end Mine
theorem PySem.Challenge.cw_bb0044_01_holds : PySem.Challenge.rw_bb0044_01.Holds :=
  Mine.law_holds
