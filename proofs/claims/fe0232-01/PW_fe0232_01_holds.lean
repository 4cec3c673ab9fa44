import PyProof.Rows.All
import Wide.All
import OpenK.AllK
import Wide.FinOn
import PySem.Challenge.RW_fe0232_01
set_option Elab.async false

section
open PySem PySem.W PySem.Calls PyProof.Rows Builtin Builtin.ObjectAttr
set_option maxRecDepth 100000
namespace Mine
def bnd (l : Addr) : Obj := { cls := .type "builtin_function_or_method", data := .fields #[.builtin "list.append", .ref l] }

theorem slot_md_get : Slot "method_descriptor" "__get__" "method_descriptor.__get__" :=
  .of (owner := "method_descriptor") (n := "__get__") (by rw [typeLookup_type, builtinLookup_eq_fast]; kernel_rfl) (by decide +kernel) (by decide +kernel) (by decide +kernel)
    (by first | exact .inl (by decide +kernel) | exact .inr (by decide +kernel)) (by rw [isSubtype_type]; kernel_rfl)
theorem entry_md_get : entryFor table "method_descriptor.__get__" = some Builtin.«method_descriptor.__get__» := entryFor_of_tree (by kernel_rfl)
theorem args_md_get (a b c : Value) : argsOk "method_descriptor.__get__" ⟨[a, b, c], []⟩ := by unfold argsOk; kernel_rfl
theorem md_no_set : typeLookup (.type "method_descriptor") "__set__" = pure none := by rw [typeLookup_type, builtinLookup_eq_fast]; kernel_rfl
theorem md_no_delete : typeLookup (.type "method_descriptor") "__delete__" = pure none := by rw [typeLookup_type, builtinLookup_eq_fast]; kernel_rfl
theorem type_la : typeOf (.builtin "list.append") = pure (.type "method_descriptor") := by show builtinType _ = _; rw [builtinType_eq_fast]; kernel_rfl
theorem lk_la : typeLookup (.type "list") "append" = pure (some (.builtin "list.append")) := by rw [typeLookup_type, builtinLookup_eq_fast]; kernel_rfl
theorem sub_list_list : isSubtype (.type "list") (.type "list") = pure true := by rw [isSubtype_type]; kernel_rfl
theorem told_la : (Manifest.toldItsClass.contains "list.append") = false := by decide +kernel

theorem owner_la : (".".intercalate ("list.append".cutAt '.').dropLast) = "list" := by
  have e0 : "list.append".cutAt '.' = ["list", "append"] := by first | rfl | decide +kernel
  rw [e0]; decide +kernel
theorem sub_owner_la : isSubtype (.type "list") (.type (".".intercalate ("list.append".cutAt '.').dropLast)) = pure true := by
  rw [owner_la, isSubtype_type]; kernel_rfl

section
variable {prog : Program} {w : World} {A : Around} {E : Value → Shared → Prop} {s : Shared} {h₀ : Heap} {L l : Addr} {m : PySem.Str → Option Value} {news : List (Addr × Obj)}

theorem md_run {P : Fin → Shared → Prop} {o : Obj} (ho : s.heap.get? l = some o) (hc : o.cls = .type "list") (h : P (.done (.ret (.ref s.heap.objs.size))) { s with heap := s.heap.push (bnd l) }) :
    wpAny (model prog w) A (Builtin.«method_descriptor.__get__» ⟨[.builtin "list.append", .ref l, .type "list"], []⟩) P E s := by
  have hT : s.TypeIs (.ref l) "list" := ⟨_, ho, hc⟩
  unfold Builtin.«method_descriptor.__get__»
  refine wpAny_bind (wpAny_of_eq (a := (.builtin "list.append", some (.ref l), some (.type "list"))) (by first | rfl | kernel_rfl) ?_)
  simp only [told_la, Bool.false_eq_true, if_false]
  have f8 := sub_owner_la
  repeat (any_goals (first | assumption | wp_step))

theorem md_code {R : Result → Shared → Prop} {o : Obj} (ho : s.heap.get? l = some o) (hc : o.cls = .type "list") (h : R (.ok (.ret (.ref s.heap.objs.size))) { s with heap := s.heap.push (bnd l) }) :
    codeAny (model prog w) A (.call (.builtin "method_descriptor.__get__") ⟨[.builtin "list.append", .ref l, .type "list"], []⟩) R s :=
  codeAny_call_builtin slot_md_get.plain entry_md_get (slot_md_get.check _ _ _ _ _ _ _ _ (show s.TypeIs (.builtin "list.append") "method_descriptor" from type_la) (args_md_get _ _ _) (md_run ho hc h))

theorem list_ga_run {P : Fin → Shared → Prop} {its : Array Value} {n : Nat} {tk : Tok} (ho : s.heap.get? l = some { cls := .type "list", data := .seq its n }) (h : P (.done (.ret (.ref s.heap.objs.size))) { s with heap := s.heap.push (bnd l) }) :
    wpAny (model prog w) A (Builtin.«object.__getattribute__» ⟨[.ref l, .str "append" tk], []⟩) P E s := by
  have hT : s.TypeIs (.ref l) "list" := ⟨_, ho, rfl⟩
  have f1 := type_la
  have f2 := lk_la
  have f3 := slot_md_get.lookup
  have f4 := md_no_set
  have f5 := md_no_delete
  repeat (any_goals (first | assumption | wp_step))
  refine md_code ho rfl ?_
  repeat (any_goals (first | assumption | wp_step))

theorem list_ga_code {R : Result → Shared → Prop} {its : Array Value} {n : Nat} {tk : Tok} (ho : s.heap.get? l = some { cls := .type "list", data := .seq its n }) (h : R (.ok (.ret (.ref s.heap.objs.size))) { s with heap := s.heap.push (bnd l) }) :
    codeAny (model prog w) A (.call (.builtin "list.__getattribute__") ⟨[.ref l, .str "append" tk], []⟩) R s :=
  codeAny_call_builtin F.slot_list_getattribute.plain F.entry_list_ga (F.slot_list_getattribute.check _ _ _ _ _ _ _ _ (show s.TypeIs (.ref l) "list" from ⟨_, ho, rfl⟩) (F.args_list_getattribute_2 _ _) (list_ga_run ho h))

theorem getAttr_la {Q : Value → Shared → Prop} {its : Array Value} {n : Nat} (ho : s.heap.get? l = some { cls := .type "list", data := .seq its n }) (h : Q (.ref s.heap.objs.size) { s with heap := s.heap.push (bnd l), toks := s.toks + 1 }) :
    wpAny (model prog w) A (getAttr (.ref l) "append" true) Q E s := by
  obtain ⟨hp, g, d, tk, os⟩ := s
  have hT : ∀ tk', (⟨hp, g, d, tk', os⟩ : Shared).TypeIs (.ref l) "list" := fun _ => ⟨_, ho, rfl⟩
  have f3 := F.slot_list_getattribute.lookup
  have f4 := F.slot_list_getattribute.bind (.ref l)
  have f5 := am_list_getattr_none
  unfold getAttr getAttrBy
  repeat (any_goals (first | assumption | exact hT _ | wp_step))
  refine list_ga_code ho ?_
  repeat (any_goals (first | assumption | exact hT _ | wp_step))

theorem append_bound {Q : Value → Shared → Prop} {its : Array Value} {n : Nat} (F : Fr h₀ L s.heap m) (N : News h₀ L s.heap news) (hm : (l, listOf its n) ∈ news)
    (h : ∀ q h', Fr h₀ L h' m → News h₀ L h' ((q, bnd l) :: news) → (∀ p ∈ news, p.1 < q) → Q (.ref q) { s with heap := h', toks := s.toks + 1 }) :
    wpAny (model prog w) A (getAttr (.ref l) "append" true) Q E s :=
  getAttr_la (N _ hm).1 (h _ _ (F.push _) (News.push F N _) fun p hp => Heap.lt_size (N p hp).1)
end
end Mine
end

section
open PySem PySem.W PySem.Calls PyProof.Rows Builtin Builtin.ObjectAttr LSm
set_option maxRecDepth 100000
namespace Mine
theorem bools_len {vs : List Value} {bs : List Bool} (h : BoolsAre vs bs) : vs = bs.map Value.bool := by
  induction h with
  | nil => rfl
  | cons b _ ih => rw [List.map_cons, ih]
theorem bools_map : ∀ bs : List Bool, BoolsAre (bs.map Value.bool) bs
  | [] => .nil
  | b :: r => .cons b (bools_map r)
theorem bools_snoc {vs : List Value} {bs : List Bool} (h : BoolsAre vs bs) (b : Bool) : BoolsAre (vs ++ [.bool b]) (bs ++ [b]) := kbo_app h (.cons b .nil)
theorem bools_drop {vs : List Value} {bs : List Bool} (h : BoolsAre vs bs) : BoolsAre vs.dropLast bs.dropLast := by
  have e := bools_len h
  subst e
  rw [← List.map_dropLast]
  exact bools_map _
theorem bools_last {vs : List Value} {bs : List Bool} (h : BoolsAre vs bs) (hp : 0 < bs.length) : vs = vs.dropLast ++ [.bool (bs.getLastD false)] := by
  have e := bools_len h
  subst e
  have hne : bs ≠ [] := by intro e; subst e; exact absurd hp (Nat.lt_irrefl 0)
  rw [← List.map_dropLast]
  have h1 : bs.getLastD false = bs.getLast hne := by
    cases bs with
    | nil => exact absurd rfl hne
    | cons a r => rfl
  rw [h1]
  have h2 : bs = bs.dropLast ++ [bs.getLast hne] := (List.dropLast_concat_getLast hne).symm
  have h3 := congrArg (List.map Value.bool) h2
  rw [List.map_append] at h3
  exact h3

section
variable {prog : Program} {w : World} {A : Around} {E : Value → Shared → Prop} {s : Shared} {h₀ : Heap} {L D l q : Addr} {m : PySem.Str → Option Value} {news news' : List (Addr × Obj)} {vs : List Value} {bs : List Bool} {n : Nat} {b : Bool}

/-- the list of truths, made once the bound method stands -/
theorem new_bools {Q : Value → Shared → Prop} (F : Fr h₀ L s.heap m) (N : News h₀ L s.heap news) (hm0 : (q, bnd l) ∈ news)
    (h : ∀ D h' vs bs, BoolsAre vs bs → bs = [] → Fr h₀ L h' m → News h₀ L h' ((D, listOf vs.toArray 0) :: news) → (∀ p ∈ news, p.1 < D) → Q (.ref D) { s with heap := h' }) :
    wpAny (model prog w) A (newList []) Q E s :=
  newList_K F N (fun D h' F' N' l1 => h D h' [] [] .nil rfl F' N' l1) (by exact Nat.zero_le _)

theorem append_bool {Q : Value → Shared → Prop} (F : Fr h₀ L s.heap m) (N : News h₀ L s.heap news) (hb : BoolsAre vs bs) (U : Upd D (listOf vs.toArray n) (listOf (vs ++ [Value.bool b]).toArray (n + 1)) news news')
    (hz : bs.length ≤ 1048576) (h : ∀ h', Fr h₀ L h' m → News h₀ L h' news' → BoolsAre (vs ++ [.bool b]) (bs ++ [b]) → Q .none { s with heap := h' }) :
    wpAny (model prog w) A (call (.builtin "list.append") [.ref D, .bool b]) Q E s := by
  refine append_K (its := vs.toArray) (n := n) F N (by rw [List.push_toArray]; exact U) (fun h' F' N' => h h' F' N' (bools_snoc hb b)) ?_
  rw [List.size_toArray, hb.length, sizeLine_eq]
  omega

theorem sub_last {value slice : PySem.Expr} {u : Tok} {Q : Value → Shared → Prop} (N : News h₀ L s.heap news) (hm : (D, listOf vs.toArray n) ∈ news) (hb : BoolsAre vs bs) (hp : 0 < bs.length) (h : Q (.bool (bs.getLastD false)) s)
    (hs : subscripted slice false (.ref D) (.int (-1) u) = operate [.ref D, .int (-1) u] (getItem (.ref D) (.int (-1) u)) := by with_unfolding_all rfl) :
    wpAny (model prog w) A (subscriptTail value slice (.ref D) (.int (-1) u)) Q E s := by
  have e := bools_last hb hp
  have hl : vs.length = bs.length := hb.length
  have hx : vs[vs.length - 1]? = some (.bool (bs.getLastD false)) := by
    conv => lhs; rw [e]
    have h1 : (vs.dropLast ++ [Value.bool (bs.getLastD false)]).length - 1 = vs.dropLast.length := by simp
    rw [h1]
    simp
  exact kde_neg (PySem.IsL.isList (n := n) (N _ hm).1) (by decide) (by decide) (j := vs.length - 1) (by
    have h9 := PySem.seqIndex_neg (k := -1) (n := vs.length) (by decide) (by omega)
    rw [h9]
    congr 1
    omega) hx h hs

theorem set_last {t : Tok} {Q : Unit → Shared → Prop} (F : Fr h₀ L s.heap m) (N : News h₀ L s.heap news) (hb : BoolsAre vs bs) (hp : 0 < bs.length) (U : Upd D (listOf vs.toArray n) (listOf (vs.dropLast ++ [Value.bool b]).toArray n) news news')
    (h : ∀ h', Fr h₀ L h' m → News h₀ L h' news' → BoolsAre (vs.dropLast ++ [.bool b]) (bs.dropLast ++ [b]) → Q () { s with heap := h' }) :
    wpAny (model prog w) A (setItem (.ref D) (.int (-1) t) (.bool b)) Q E s := by
  obtain ⟨pre, post, rfl, rfl, a, b'⟩ := U.split
  have z := N (D, listOf vs.toArray n) (List.mem_append.mpr (.inr (.head _)))
  have hl : vs.length = bs.length := hb.length
  have e := bools_last hb hp
  have hk : (-1 + (vs.toArray.size : Int)).toNat = vs.length - 1 := by rw [List.size_toArray]; omega
  have hset : vs.set (vs.length - 1) (.bool b) = vs.dropLast ++ [.bool b] := by
    conv => lhs; rw [e]
    have h1 : (vs.dropLast ++ [Value.bool (bs.getLastD false)]).length - 1 = vs.dropLast.length := by simp
    rw [h1, List.set_append_right _ _ (Nat.le_refl _), Nat.sub_self]
    rfl
  refine ki_setBack z.1 (by decide) (by rw [List.size_toArray]; omega) (by decide) (h _ (F.change (Heap.SameBut.update ..) z.2.1 z.2.2) (ki_turn _ N a b' ?_ ?_) (bools_snoc (bools_drop hb) b))
  · show vs.toArray.setIfInBounds (-1 + (vs.toArray.size : Int)).toNat (Value.bool b) = (vs.dropLast ++ [Value.bool b]).toArray
    rw [hk, ← hset]
    apply Array.toList_inj.mp
    simp
  · simp
    omega

theorem pop_last {Q : Value → Shared → Prop} (F : Fr h₀ L s.heap m) (N : News h₀ L s.heap news) (hb : BoolsAre vs bs) (hp : 0 < bs.length) (hz : bs.length ≤ 1048576) (U : Upd D (listOf vs.toArray n) (listOf vs.dropLast.toArray (n + 1)) news news')
    (h : ∀ h', Fr h₀ L h' m → News h₀ L h' news' → BoolsAre vs.dropLast bs.dropLast → Q (Value.bool (bs.getLastD false)) { s with heap := h' }) :
    wpAny (model prog w) A (call (.builtin "list.pop") [.ref D]) Q E s := by
  have e := bools_last hb hp
  refine kl_pop F N (p := vs.dropLast) (y := .bool (bs.getLastD false)) ?_ U ?_ fun h' F' N' => h h' F' N' (bools_drop hb)
  · have q := kpa_last (Value.bool (bs.getLastD false)) vs.dropLast
    rw [← e] at q
    simpa using q
  · show vs.toArray.toList.length ≤ _
    rw [List.toList_toArray, hb.length, sizeLine_eq]
    omega

/-! the bound method, called -/
def StandsB (x l : Addr) (h : Heap) : Prop := h.get? x = some (bnd l)
theorem at_ofB {x : Addr} {h : Heap} (N : News h₀ L h news) (hm : (x, bnd l) ∈ news) : StandsB x l h := (N _ hm).1

theorem keeps_B {M : Model} {u : Addr} (h : Heap) (X : StandsB u l h) : ∃ k, (k = Keeper.frame ∨ k = Keeper.machine ∨ k = Keeper.boundFrame) ∧ Looks M h (keeperOf (.ref u)) k :=
  ⟨.machine, .inr (.inl rfl), (Looks.ld (part := none) X).andThen .now⟩
/-- the bound method called with one written argument or more -/
theorem callWith_B {M : Model} {pos : Pos} {u : Addr} {first : List Value} {env : Env} {e : Expr} {rest : List Expr} {Q : Value → Shared → Prop} (hu : (u, bnd l) ∈ news)
    (h : wpAny M A (spliced (backTo pos (starEach (e :: rest) env))) (fun vs s₁ => StandsB u l s₁.heap ∧ wpAny M A (call (.ref u) (first ++ vs)) Q E s₁) E s)
    (hN : News h₀ L s.heap news) (he : starEach (e :: rest) env = (false, eval e env) :: starEach rest env := by rfl) (hp : (backTo pos (starEach rest env)).any (·.1) = false := by rfl) :
    wpAny M A (callWith pos (.ref u) first (backTo pos (starEach (e :: rest) env)) []) Q E s := by
  rw [he] at h ⊢
  have hpl : (((backTo pos ((false, eval e env) :: starEach rest env)).any (·.1)) || ([] : List (Option PySem.Str × Sem Value)).any (·.1.isNone)) = false := by
    show ((false || (backTo pos (starEach rest env)).any (·.1)) || false) = false
    rw [hp]; rfl
  exact callWith_of hpl keeps_B (evalArgs_plain h)

open PySem.Manifest in
def sigA : Signature := ⟨.oneArg, "list.append", "append", .self, [⟨"object", .posOnly, true⟩]⟩
theorem sig_la : Manifest.signature? "list.append" = some sigA := by
  rw [signature?_of (id := "list.append") (n := ['d', 'n', 'e', 'p', 'p', 'a']) (o := ['t', 's', 'i', 'l']) (by kernel_rfl) PySem.F.owner_list]; kernel_rfl
theorem kind_la : builtinKind "list.append" = some .method := by decide +kernel
theorem sub_list_module : isSubtype (.type "list") (.type "module") = pure false := by rw [isSubtype_type]; kernel_rfl
theorem varargs_la : Manifest.varargsMethods.contains "list.append" = false := by decide +kernel
theorem args_la (a v : Value) : Bind.checkArgs "list.append" { sigA with full := s!"{Bind.lastOf "list"}.{Bind.lastOf "list.append"}" } ⟨[a, v], []⟩ = pure () := by kernel_rfl
theorem quiet_la {as : Args} : (Code.builtin "list.append" as).quiet = true := Code.quiet_builtin _ (by decide +kernel)

theorem check_la {v : Value} {its : Array Value} {Q : Unit → Shared → Prop} (ho : s.heap.get? l = some (listOf its n)) (h : Q () s) :
    wpAny (model prog w) A (checkBoundCall "list.append" ⟨[.ref l, v], []⟩) Q E s := by
  have hT : s.TypeIs (.ref l) "list" := ⟨_, ho, rfl⟩
  unfold checkBoundCall
  rw [sig_la, kind_la]
  dsimp only
  refine wpAny_ite_false (by decide) ?_
  refine wpAny_bind (wpAny_isInstance hT sub_list_module ?_)
  simp only [varargs_la, Bool.false_or, Bool.false_eq_true, if_false]
  refine wpAny_bind ?_
  unfold isType loadHead
  refine wpAny_bind (wpAny_loadPart ho ?_)
  refine wpAny_pure ?_
  show wpAny _ _ (typeOf (.ref l) >>= _) _ _ _
  refine wpAny_bind (wpAny_typeOf hT ?_)
  exact wpAny_of_eq (args_la _ _) h

theorem call_B {u : Addr} {v : Value} {its : Array Value} {Q : Value → Shared → Prop} (ho : StandsB u l s.heap) (F : Fr h₀ L s.heap m) (N : News h₀ L s.heap news) (U : Upd l (listOf its n) (listOf (its.push v) (n + 1)) news news')
    (hz : its.size ≤ sizeLine) (h : ∀ h', Fr h₀ L h' m → News h₀ L h' news' → Q .none { s with heap := h' }) : wpAny (model prog w) A (call (.ref u) [v]) Q E s := by
  obtain ⟨pre, post, rfl, rfl, a, b⟩ := U.split
  have z := N (l, listOf its n) (List.mem_append.mpr (.inr (.head _)))
  refine wpAny_call (codeAny_of_tree ?_)
  show wpAny _ A.in1 (callAny (.ref u) ⟨[v], []⟩) _ _ s
  simp only [callAny]
  refine wpAny_bind (wpAny_load ho ?_)
  simp only [bnd, show (Value.type "builtin_function_or_method" == Value.type "method" || Value.type "builtin_function_or_method" == Value.type "builtin_function_or_method" || Value.type "builtin_function_or_method" == Value.type "method-wrapper") = true by decide, if_true]
  refine KFB.if_so (by decide) ?_
  refine wpAny_bind (check_la z.1 ?_)
  refine wpAny_pure ⟨quiet_la, codeAny_builtin PySem.F.entry_list_append ?_⟩
  show wpAny _ _ (updateSeq l (·.push v) >>= fun _ => ret .none) _ _ s
  refine wpAny_bind ?_
  refine wpAny_updateSeq z.1 rfl (wpAny_pure ?_)
  refine h _ (F.change (Heap.SameBut.update ..) z.2.1 z.2.2) (news_set N a b (Heap.SameBut.update ..) ?_)
  rw [Heap.get?_update_self _ z.1 (by rw [mapSeq_push]; rfl), mapSeq_push]
end
end Mine
end

section

set_option maxRecDepth 100000
namespace Mine
/-- tc truths that hold, then (where fc is not 0) one that does not, then fc - 1 of any kind -/
def Ok (tc fc : Int) (bs : List Bool) : Prop :=
  0 ≤ tc ∧ 0 ≤ fc ∧ ((fc = 0 ∧ bs = List.replicate tc.toNat true) ∨ ∃ r, bs = List.replicate tc.toNat true ++ false :: r ∧ fc = (r.length : Int) + 1)

theorem ok_nil : Ok 0 0 [] := ⟨Int.le_refl _, Int.le_refl _, .inl ⟨rfl, rfl⟩⟩
theorem ok_len {tc fc : Int} {bs : List Bool} (h : Ok tc fc bs) : (bs.length : Int) = tc + fc := by
  obtain ⟨h1, h2, ⟨h3, rfl⟩ | ⟨r, rfl, h3⟩⟩ := h
  · rw [List.length_replicate]; omega
  · rw [List.length_append, List.length_replicate, List.length_cons]; omega
theorem ok_all {tc fc : Int} {bs : List Bool} (h : Ok tc fc bs) : bs.all id = decide (fc = 0) := by
  obtain ⟨h1, h2, ⟨h3, rfl⟩ | ⟨r, rfl, h3⟩⟩ := h
  · rw [h3]; simp
  · have : ¬ fc = 0 := by omega
    simp [this]
theorem dl (l : List Bool) (x : Bool) : (l ++ [x]).dropLast = l := by simp
theorem split_last {r : List Bool} (h : r ≠ []) : ∃ q x, r = q ++ [x] := ⟨r.dropLast, r.getLast h, (List.dropLast_concat_getLast h).symm⟩

theorem ok_if_deep {tc fc : Int} {bs : List Bool} (b : Bool) (h : Ok tc fc bs) (hf : 0 < fc) : Ok tc (fc + 1) (bs ++ [b]) := by
  obtain ⟨h1, h2, ⟨h3, rfl⟩ | ⟨r, rfl, h3⟩⟩ := h
  · omega
  · refine ⟨h1, by omega, .inr ⟨r ++ [b], by simp, ?_⟩⟩
    rw [List.length_append, List.length_singleton]; omega
theorem ok_if_true {tc fc : Int} {bs : List Bool} {b : Bool} (h : Ok tc fc bs) (hf : ¬ 0 < fc) (hb : b = true) : Ok (tc + 1) fc (bs ++ [b]) := by
  obtain ⟨h1, h2, ⟨h3, rfl⟩ | ⟨r, rfl, h3⟩⟩ := h
  · refine ⟨by omega, h2, .inl ⟨h3, ?_⟩⟩
    have e : (tc + 1).toNat = tc.toNat + 1 := by omega
    rw [e, hb, List.replicate_succ']
  · omega
theorem ok_if_false {tc fc : Int} {bs : List Bool} {b : Bool} (h : Ok tc fc bs) (hf : ¬ 0 < fc) (hb : b = false) : Ok tc 1 (bs ++ [b]) := by
  obtain ⟨h1, h2, ⟨h3, rfl⟩ | ⟨r, rfl, h3⟩⟩ := h
  · exact ⟨h1, by omega, .inr ⟨[], by rw [hb], by simp⟩⟩
  · omega
theorem ok_else_deep {tc fc : Int} {bs : List Bool} (b : Bool) (h : Ok tc fc bs) (hf : 1 < fc) : Ok tc fc (bs.dropLast ++ [b]) := by
  obtain ⟨h1, h2, ⟨h3, rfl⟩ | ⟨r, rfl, h3⟩⟩ := h
  · omega
  · have hr : r ≠ [] := by intro e; subst e; simp at h3; omega
    obtain ⟨q, x, rfl⟩ := split_last hr
    refine ⟨h1, h2, .inr ⟨q ++ [b], ?_, ?_⟩⟩
    · have e : List.replicate tc.toNat true ++ false :: (q ++ [x]) = (List.replicate tc.toNat true ++ false :: q) ++ [x] := by simp
      rw [e, dl]; simp
    · rw [h3]; simp
theorem ok_else_one {tc fc : Int} {bs : List Bool} (h : Ok tc fc bs) (hf : fc = 1) : Ok (tc + 1) 0 (bs.dropLast ++ [!(bs.getLastD false)]) := by
  obtain ⟨h1, h2, ⟨h3, rfl⟩ | ⟨r, rfl, h3⟩⟩ := h
  · omega
  · have hr : r = [] := by
      cases r with
      | nil => rfl
      | cons a q => simp at h3; omega
    subst hr
    refine ⟨by omega, by omega, .inl ⟨rfl, ?_⟩⟩
    have e : (tc + 1).toNat = tc.toNat + 1 := by omega
    rw [dl, e, List.replicate_succ']
    simp
theorem ok_else_zero {tc fc : Int} {bs : List Bool} (h : Ok tc fc bs) (hf : fc = 0) (ht : tc ≠ 0) : Ok (tc - 1) (fc + 1) (bs.dropLast ++ [!(bs.getLastD false)]) := by
  obtain ⟨h1, h2, ⟨h3, rfl⟩ | ⟨r, rfl, h3⟩⟩ := h
  · refine ⟨by omega, by omega, .inr ⟨[], ?_, by simp; omega⟩⟩
    have e : tc.toNat = (tc - 1).toNat + 1 := by omega
    rw [e, List.replicate_succ', dl]
    simp
  · omega
theorem ok_end_false {tc fc : Int} {bs : List Bool} (h : Ok tc fc bs) (hf : 0 < fc) : Ok tc (fc - 1) bs.dropLast := by
  obtain ⟨h1, h2, ⟨h3, rfl⟩ | ⟨r, rfl, h3⟩⟩ := h
  · omega
  · by_cases hr : r = []
    · subst hr
      exact ⟨h1, by omega, .inl ⟨by simp at h3; omega, by rw [dl]⟩⟩
    · obtain ⟨q, x, rfl⟩ := split_last hr
      refine ⟨h1, by omega, .inr ⟨q, ?_, ?_⟩⟩
      · have e : List.replicate tc.toNat true ++ false :: (q ++ [x]) = (List.replicate tc.toNat true ++ false :: q) ++ [x] := by simp
        rw [e, dl]
      · simp at h3; omega
theorem ok_end_true {tc fc : Int} {bs : List Bool} (h : Ok tc fc bs) (hf : ¬ 0 < fc) (ht : tc ≠ 0) : Ok (tc - 1) fc bs.dropLast := by
  obtain ⟨h1, h2, ⟨h3, rfl⟩ | ⟨r, rfl, h3⟩⟩ := h
  · refine ⟨by omega, h2, .inl ⟨h3, ?_⟩⟩
    have e : tc.toNat = (tc - 1).toNat + 1 := by omega
    rw [e, List.replicate_succ', dl]
  · omega
end Mine
end

section
open PySem PySem.W PySem.Calls PyProof.Rows LSm
set_option maxRecDepth 100000
namespace Mine
section
variable {prog : Program} {w : World} {M : Model} {A : Around} {E : Value → Shared → Prop} {s : Shared} {h₀ : Heap} {L D : Addr} {m : PySem.Str → Option Value} {news : List (Addr × Obj)} {vs : List Value} {bs : List Bool} {n : Nat}
theorem bt1 {x y : Int} (h1 : x = 0) (h2 : ¬ 1 < y) : ((x == 0) != decide (1 < y)) = true := by simp [h1, h2]
theorem bt2 {x y : Int} (h1 : ¬ x = 0) (h2 : 1 < y) : ((x == 0) != decide (1 < y)) = true := by simp [h1, h2]
theorem bf1 {x y : Int} (h1 : x = 0) (h2 : 1 < y) : ((x == 0) != decide (1 < y)) = false := by simp [h1, h2]
theorem bf2 {x y : Int} (h1 : ¬ x = 0) (h2 : ¬ 1 < y) : ((x == 0) != decide (1 < y)) = false := by simp [h1, h2]
theorem ok_nil' {bs : List Bool} (h : bs = []) : Ok 0 0 bs := h ▸ ok_nil
theorem ok_all' {tc fc : Int} (h : Ok tc fc bs) : bs.all id = (fc == 0) := by
  rw [ok_all h]
  rfl
/-- all(truths), told by the counts -/
theorem all_ok {tc fc : Int} {Q : Value → Shared → Prop} (F : Fr h₀ L s.heap m) (N : News h₀ L s.heap news) (hh : A.handled = none) (hm : (D, listOf vs.toArray n) ∈ news) (hb : BoolsAre vs bs) (hO : Ok tc fc bs)
    (h : ∀ h' tk, Fr h₀ L h' m → News h₀ L h' news → Ok tc fc bs → Q (.bool (fc == 0)) { s with heap := h', toks := tk }) : wpAny (model prog w) A (call (.builtin "all") [.ref D]) Q E s :=
  LSm.all_bools F N hh ⟨_, (N _ hm).1, rfl, n, rfl⟩ hb fun h' tk F' N' => by
    rw [ok_all' hO]
    exact h h' tk F' N' hO
theorem neq_same {a b : Bool} {Q : Value → Shared → Prop} (e : a = b) (h : Q (.bool false) s) : wpAny (model prog w) A (compareOp .NotEq (.bool a) (.bool b)) Q E s := by
  subst e
  refine ne_bool ?_
  have e1 : (a != a) = false := by simp
  rw [e1]
  exact h
theorem neq_int_same {a b : Int} {t u : Tok} {Q : Value → Shared → Prop} (e : a = b) (h : Q (.bool false) s) : wpAny (model prog w) A (compareOp .NotEq (.int a t) (.int b u)) Q E s := by
  subst e
  refine PyProof.Rows.ne_int ?_
  have e1 : (a != a) = false := by simp
  rw [e1]
  exact h
theorem eq_int_same {a b : Int} {t u : Tok} {Q : Value → Shared → Prop} (e : a = b) (h : Q (.bool true) s) : wpAny (model prog w) A (compareOp .Eq (.int a t) (.int b u)) Q E s := by
  subst e
  refine PyProof.Rows.eq_int ?_
  have e1 : (a == a) = true := by simp
  rw [e1]
  exact h
theorem len_S {ss : List PySem.Str} {Q : Value → Shared → Prop} (N : News h₀ L s.heap news) (hm : (D, listOf vs.toArray n) ∈ news) (hs : StrsAre vs ss) (hz : ss.length ≤ 1048576) (h : Q (.int (ss.length : Nat) (s.toks + 1)) { s with toks := s.toks + 1 + 1 }) :
    wpAny (model prog w) A (call (.builtin "len") [.ref D]) Q E s := kst_len N hm hs.length (by omega) h
theorem len_B {Q : Value → Shared → Prop} (N : News h₀ L s.heap news) (hm : (D, listOf vs.toArray n) ∈ news) (hb : BoolsAre vs bs) (hz : bs.length ≤ 1048576) (h : Q (.int (bs.length : Nat) (s.toks + 1)) { s with toks := s.toks + 1 + 1 }) :
    wpAny (model prog w) A (call (.builtin "len") [.ref D]) Q E s := kst_len N hm hb.length (by omega) h
/-- the error's words told -/
theorem call_S {u l : Addr} {x : PySem.Str} {t : Tok} {ss : List PySem.Str} {news' : List (Addr × Obj)} {Q : Value → Shared → Prop} (hu : (u, bnd l) ∈ news) (F : Fr h₀ L s.heap m) (N : News h₀ L s.heap news) (hs : StrsAre vs ss)
    (U : Upd l (listOf vs.toArray n) (listOf (vs ++ [Value.str x t]).toArray (n + 1)) news news')
    (hz : ss.length ≤ 1048576) (h : ∀ h', Fr h₀ L h' m → News h₀ L h' news' → StrsAre (vs ++ [Value.str x t]) (ss ++ [x]) → Q .none { s with heap := h' }) : wpAny (model prog w) A (call (.ref u) [.str x t]) Q E s := by
  refine call_B (its := vs.toArray) (n := n) (at_ofB N hu) F N (by rw [List.push_toArray]; exact U) ?_ (fun h' F' N' => h h' F' N' (StrsAre.append' hs (.cons _ _ .nil)))
  rw [List.size_toArray, hs.length, sizeLine_eq]
  omega
end
theorem mine_state {tc fc : Int} {bs : List Bool} {told : List PySem.Str} {pre : List Int} (h : Ok tc fc bs) (h1 : told.length ≤ pre.length) (h2 : bs.length ≤ pre.length) :
    Ok tc fc bs ∧ 0 ≤ tc ∧ 0 ≤ fc ∧ (bs.length : Int) = tc + fc ∧ told.length ≤ pre.length ∧ bs.length ≤ pre.length := ⟨h, h.1, h.2.1, ok_len h, h1, h2⟩
theorem mine_start {bs : List Bool} (h : bs = []) : Ok 0 0 bs ∧ (0 : Int) ≤ 0 ∧ (0 : Int) ≤ 0 ∧ (bs.length : Int) = 0 + 0 ∧ ([] : List PySem.Str).length ≤ ([] : List Int).length ∧ bs.length ≤ ([] : List Int).length := by
  subst h
  exact mine_state ok_nil (Nat.le_refl _) (Nat.le_refl _)
end Mine
end

open PySem PySem.W PyProof.Rows Mine
local macro_rules | `(tactic| walk_at "getAttr ref") => `(tactic| (k_here; (with_reducible show wpAny _ _ (getAttr (Value.ref _) (PySem.Str.ofString "append") true) _ _ _); k_dflt (refine' append_bound ?k1 ?k2 ?k3 ?_; (case k1 => k_asm); (case k2 => k_asm); (case k3 => k_mem); k_whole); intro q' h' F' N' l1; (try k_lt l1); (try k_sweep)))
local macro_rules | `(tactic| walk_at "newList") => `(tactic| (k_here; (with_reducible show wpAny _ _ (newList []) _ _ _); k_dflt (refine' new_bools ?k1 ?k2 ?k3 ?_; (case k1 => k_asm); (case k2 => k_asm); (case k3 => k_mem)); intro l' h' vB bB hB hBn F' N' l1; (try k_lt l1); (try k_sweep)))
local macro_rules | `(tactic| walk_at "exec For Name Subscript cons nil") => `(tactic| (k_here; (rename Fr _ _ _ _ => lF'); (with_unfolding_all refine' For_invVF lF' ?k1 ?k2 ?_; (case k1 => exact rfl); (case k2 => exact rfl); k_whole)))
local macro_rules | `(tactic| walk_at "call builtin:list.append") => `(tactic| (k_here; (with_reducible show wpAny _ _ (call (Value.builtin _) [Value.ref _, Value.bool _]) _ _ _); k_dflt (refine' append_bool ?k1 ?k2 ?k3 ?k4 ?k5 ?_; (case k1 => k_asm); (case k2 => k_asm); (case k4 => k_upd); (case k3 => with_reducible assumption); (case k5 => omega); k_whole); intro h' F' N' hB; (try k_sweep)))
local macro_rules | `(tactic| walk_at "subscriptTail Name UnaryOp ref int") => `(tactic| (k_here; (with_reducible show wpAny _ _ (subscriptTail _ _ (Value.ref _) (Value.int _ _)) _ _ _); k_dflt (refine' sub_last ?k1 ?k2 ?k3 ?k4 ?_ ?k7; (case k1 => k_asm); (case k2 => k_mem); (case k3 => with_reducible assumption); (case k4 => omega); (case k7 => with_unfolding_all rfl); k_whole)))
local macro_rules | `(tactic| walk_at "setItem ref int") => `(tactic| (k_here; (with_reducible show wpAny _ _ (setItem (Value.ref _) (Value.int _ _) (Value.bool _)) _ _ _); k_dflt (refine' set_last ?k1 ?k2 ?k3 ?k4 ?k5 ?_; (case k1 => k_asm); (case k2 => k_asm); (case k5 => k_upd); (case k3 => with_reducible assumption); (case k4 => omega); k_whole); intro h' F' N' hB; (try k_sweep)))
local macro_rules | `(tactic| walk_at "call builtin:list.pop") => `(tactic| (k_here; (with_reducible show wpAny _ _ (call (Value.builtin _) [Value.ref _]) _ _ _); k_dflt (refine' pop_last ?k1 ?k2 ?k3 ?k4 ?k5 ?k6 ?_; (case k1 => k_asm); (case k2 => k_asm); (case k6 => k_upd); (case k3 => with_reducible assumption); (case k4 => omega); (case k5 => omega); k_whole); intro h' F' N' hB; (try k_sweep)))
local macro_rules | `(tactic| walk_at "And") => `(tactic| ((with_reducible show StandsB _ _ _ ∧ _); k_dflt (refine ⟨at_ofB (by k_asm) (by k_mem), ?_⟩); (try dsimp only [List.nil_append, List.cons_append])))
local macro_rules | `(tactic| walk_at "callWith ref cons nil") => `(tactic| (k_here; (with_reducible show wpAny _ _ (callWith _ (Value.ref _) [_] (backTo _ (starEach [] _)) []) _ _ _); k_dflt (refine' callWith_K0 ?k1 ?k2 ?_; (case k1 => walk_at "mine_in"); (case k2 => k_is); k_whole)))
local macro_rules | `(tactic| walk_at "callWith ref cons") => `(tactic| (k_here; (with_reducible show wpAny _ _ (callWith _ (Value.ref _) [_] (backTo _ (starEach (_ :: _) _)) (backToKw _ _)) _ _ _); k_dflt (refine' callWith_KW ?k1 ?k2 ?k3 ?_; (case k1 => k_asm); (case k2 => k_is); (case k3 => exact rfl); k_whole)))
local macro_rules | `(tactic| walk_at "callWith ref nil nil") => `(tactic| (k_here; (with_reducible show wpAny _ _ (callWith _ (Value.ref _) [] (backTo _ (starEach [Expr.Constant _ _ _] _)) []) _ _ _); k_dflt (refine' callWith_B ?k2 ?_ ?k1; (case k1 => k_asm); (case k2 => k_mem); k_whole)))
local macro_rules | `(tactic| walk_at "callWith builtin:list.append cons nil") => `(tactic| (k_here; (with_reducible show wpAny _ _ (callWith _ (Value.builtin _) [Value.ref _] (backTo _ (starEach (_ :: _) _)) []) _ _ _); k_dflt (refine callWith_method1 ?_)))
local macro_rules | `(tactic| walk_at "call ref cons") => `(tactic| (k_here; (with_reducible show wpAny _ _ (call (Value.ref _) _ _) _ _ _); k_dflt (refine wpAny_call ?_; (refine' code_def ?k1 ?k2 ?k3 ?k4 ?k5 ?kA ?kF ?kK ?k6 ?k7 ?k8 ?k9 ?kB ?_ ?c2 ?c3 ?c4 ?c5; (case kA => exact rfl); (case kF => exact rfl); (case kK => exact rfl); (case k1 => k_asm); (case k2 => k_asm); (case k3 => k_asm); (case k4 => k_asm); (case k5 => k_asm); (case k6 => k_is); (case k7 => k_is); (case k8 => k_room); (case k9 => exact binds_K (by walk_at "mine_in") rfl (by k_is) rfl rfl rfl); (case c5 => decide); (case kB => exact locs rfl); (case c2 => exact rfl); (case c3 => exact rfl); (case c4 => exact rfl); k_whole; intro g' L' h' FG' F' N' B' X' T'; (try dsimp only); (try k_lift B'); (try k_fold)))))
local macro_rules | `(tactic| walk_at "call ref") => `(tactic| (k_here; (with_reducible show wpAny _ _ (call (Value.ref _) [Value.str _ _]) _ _ _); k_dflt (refine' call_S ?k1 ?k2 ?k3 ?k4 ?k5 ?k6 ?_; (case k2 => k_asm); (case k3 => k_asm); (case k1 => k_mem); (case k5 => k_upd); (case k4 => with_reducible assumption); (case k6 => omega); k_whole); intro h' F' N' hS; (try k_sweep)))
local macro_rules | `(tactic| walk_at "mine_ok") => `(tactic| first
  | with_reducible assumption
  | exact ok_if_deep _ (by with_reducible assumption) (by with_reducible assumption)
  | exact ok_if_true (by with_reducible assumption) (by with_reducible assumption) (by first | exact bt1 (by with_reducible assumption) (by with_reducible assumption) | exact bt2 (by with_reducible assumption) (by with_reducible assumption))
  | exact ok_if_false (by with_reducible assumption) (by with_reducible assumption) (by first | exact bf1 (by with_reducible assumption) (by with_reducible assumption) | exact bf2 (by with_reducible assumption) (by with_reducible assumption))
  | exact ok_else_deep _ (by with_reducible assumption) (by with_reducible assumption)
  | exact ok_else_one (by with_reducible assumption) (by with_reducible assumption)
  | exact ok_else_zero (by with_reducible assumption) (by omega) (by with_reducible assumption)
  | exact ok_end_false (by with_reducible assumption) (by with_reducible assumption)
  | exact ok_end_true (by with_reducible assumption) (by with_reducible assumption) (by with_reducible assumption)
  | exact ok_nil' (by with_reducible assumption))
local macro_rules | `(tactic| walk_at "mine_in") => `(tactic| (refine' Frag.In.keeps ?mi1 (Fr.keep ?mi2); (case mi2 => with_reducible assumption); (case mi1 => with_reducible assumption)))
local macro_rules | `(tactic| walk_at "InvEndN") => `(tactic| k_dflt kst_close)
local macro_rules | `(tactic| walk_at "call builtin:all") => `(tactic| (k_here; (with_reducible show wpAny _ _ (call (Value.builtin "all") [Value.ref _]) _ _ _); k_dflt (refine' all_ok ?k1 ?k2 ?k3 ?k4 ?k5 ?k6 ?_; (case k1 => k_asm); (case k2 => k_asm); (case k3 => rfl); (case k4 => k_mem); (case k5 => with_reducible assumption); (case k6 => walk_at "mine_ok"); k_whole); intro h' tk' F' N' hO; (try k_sweep)))
local macro_rules | `(tactic| walk_at "compareOp NotEq bool bool") => `(tactic| with_reducible (refine neq_same rfl ?_))
local macro_rules | `(tactic| walk_at "compareOp NotEq int int") => `(tactic| (k_here; (with_reducible show wpAny _ _ (compareOp CmpOp.NotEq (Value.int (Nat.cast (List.length _)) _) (Value.int _ _)) _ _ _); refine neq_int_same (by first | with_reducible rfl | omega | (simp only [List.length_append, List.length_cons, List.length_nil]; omega)) ?_))
local macro_rules | `(tactic| walk_at "compareOp Eq int int") => `(tactic| (k_here; (with_reducible show wpAny _ _ (compareOp CmpOp.Eq (Value.int (Nat.cast (List.length _)) _) (Value.int _ _)) _ _ _); refine eq_int_same (by first | with_reducible rfl | omega | (simp only [List.length_append, List.length_cons, List.length_nil]; omega)) ?_))
local macro_rules | `(tactic| walk_at "getMethod ref") => `(tactic| (k_here; (with_reducible show wpAny _ _ (getMethod (Value.ref _) (PySem.Str.ofString "error_f") _) _ _ _); k_dflt (refine' kmu_own ?k1 ?k2 ?k3 ?k4 ?k5 ?_; (case k1 => k_asm); (case k2 => k_asm); (case k3 => k_inst); (case k4 => k_is); (case k5 => k_is); k_whole)))
local macro_rules | `(tactic| walk_at "call builtin:len") => `(tactic| (k_here; (with_reducible show wpAny _ _ (call (Value.builtin _) [Value.ref _]) _ _ _); k_dflt (refine' len_S ?k1 ?k2 ?k3 ?k4 ?_; (case k1 => k_asm); (case k2 => k_mem); (case k3 => with_reducible assumption); (case k4 => first | omega | (simp only [List.length_append, List.length_cons, List.length_nil]; omega)); k_whole)))
local macro_rules | `(tactic| walk_at "call builtin:len") => `(tactic| (k_here; (with_reducible show wpAny _ _ (call (Value.builtin _) [Value.ref _]) _ _ _); k_dflt (refine' len_B ?k1 ?k2 ?k3 ?k4 ?_; (case k1 => k_asm); (case k2 => k_mem); (case k3 => with_reducible assumption); (case k4 => omega); k_whole)))

set_option maxRecDepth 100000 in
set_option maxHeartbeats 80000000 in
theorem PySem.Challenge.cw_fe0232_01_holds : PySem.Challenge.rw_fe0232_01.Holds := by
  (k_with "state" => first
    | exact mine_start (by with_reducible assumption)
    | (refine mine_state (by walk_at "mine_ok") ?_ ?_ <;> (simp only [List.length_append, List.length_cons, List.length_nil, List.length_dropLast]; omega)))
  (k_with "pyIter ref" => k_state (fun pre told tc fc bs => Ok tc fc bs ∧ 0 ≤ tc ∧ 0 ≤ fc ∧ (bs.length : Int) = tc + fc ∧ told.length ≤ pre.length ∧ bs.length ≤ pre.length) "told$" "conditions.true_count" "conditions.false_count" "truths")
  open_k
