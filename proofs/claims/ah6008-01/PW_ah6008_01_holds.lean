import PyProof.Rows.All
import Wide.All
import OpenK.AllK
import Wide.FinOn
import PyProof.NeKinds
import PyProof.FactsAll.tuple_2
import PyProof.TupleOfSeq
import Lean
import PySem.Challenge.RW_ah6008_01
set_option Elab.async false
set_option maxRecDepth 100000
open PySem PySem.W PySem.Calls PyProof.Rows
namespace Mine
set_option maxHeartbeats 8000000 in
open_top hd for PySem.Challenge.rw_ah6008_01
theorem off_b01 : True := by
  w_top off
  exact True.intro

abbrev ptObj (dx : Addr) (x y : Int) (tx ty : Tok) : Obj := { cls := .ref 181, dict := some dx, data := .seq #[.int x tx, .int y ty] }
/-- what a call has made: all that stood stands, the list's objects are new -/
structure Made (h h' : Heap) (l : List (Addr × Obj)) : Prop where
  stay : ∀ b o, h.get? b = some o → h'.get? b = some o
  new : ∀ p ∈ l, h'.get? p.1 = some p.2 ∧ h.get? p.1 = none
theorem none_back {h h' : Heap} {a : Addr} (k : ∀ b o, h.get? b = some o → h'.get? b = some o) (hn : h'.get? a = none) : h.get? a = none := by
  cases q : h.get? a with
  | none => rfl
  | some o => rw [k _ _ q] at hn; cases hn
theorem none_of_size {h h' : Heap} (k : ∀ b o, h.get? b = some o → h'.get? b = some o) {a : Addr} (ha : h'.objs.size ≤ a) : h.get? a = none := by
  cases q : h.get? a with
  | none => rfl
  | some o => exact absurd (Heap.lt_size (k _ _ q)) (Nat.not_lt.mpr ha)
theorem Made.frame {h₀ h h' : Heap} {L : Addr} {m : Str → Option Value} {l : List (Addr × Obj)} (M : Made h h' l) (F : Fr h₀ L h m) : Fr h₀ L h' m := F.keeps M.stay
theorem Made.news {h₀ h h' : Heap} {L : Addr} {m : Str → Option Value} {l kn : List (Addr × Obj)} (M : Made h h' l) (F : Fr h₀ L h m) (N : News h₀ L h kn) : News h₀ L h' (l ++ kn) := fun p hp => by
  rcases List.mem_append.mp hp with hp | hp
  · refine ⟨(M.new p hp).1, fun e => ?_, none_back F.keep (M.new p hp).2⟩
    obtain ⟨oL, _, _, hL, _⟩ := F.ns
    have := (M.new p hp).2
    rw [e, hL] at this; cases this
  · exact ⟨M.stay _ _ (N p hp).1, (N p hp).2⟩
theorem Made.back {g h h' : Heap} {l : List (Addr × Obj)} (M : Made h h' l) (k : ∀ b o, g.get? b = some o → h.get? b = some o) : Made g h' l :=
  ⟨fun b o e => M.stay b o (k b o e), fun p hp => ⟨(M.new p hp).1, none_back k (M.new p hp).2⟩⟩
theorem Made.on {h h' h'' : Heap} {l : List (Addr × Obj)} (M : Made h h' l) (k : ∀ b o, h'.get? b = some o → h''.get? b = some o) : Made h h'' l :=
  ⟨fun b o e => k b o (M.stay b o e), fun p hp => ⟨k _ _ (M.new p hp).1, (M.new p hp).2⟩⟩

section
variable {prog : Program} {w : World} {A : Around} {E : Value → Shared → Prop} {s : Shared}

/-- a built-in of a base class, asked for by an operator on two instances of one class of the text -/
theorem rc_sub {op : CmpOp} {K : Frag} {C a b : Addr} {oa ob : Obj} {id : String} {Q : Value → Shared → Prop} (hu : A.units < cLine) (X : K.In s.heap)
    (ha : s.heap.get? a = some oa) (hca : oa.cls = .ref C) (hb : s.heap.get? b = some ob) (hcb : ob.cls = .ref C)
    (hs : findIn K (.ref C) (cmpInfo op).2.1 = some (some (.builtin id))) (hbind : ∀ self, bindSpecial (.builtin id) self = pure (.builtin id, [self]))
    (h : wpAny (model prog w) A (call (.builtin id) [.ref a, .ref b]) (fun v' s' => v' ≠ .notImplemented ∧ Q v' s') E s) : wpAny (model prog w) A (richCompare op (.ref a) (.ref b)) Q E s := by
  have La : Looks (model prog w) s.heap (typeOf (.ref a)) (.ref C) := hca ▸ (Looks.ld ha).andThen .now
  have Lb : Looks (model prog w) s.heap (typeOf (.ref b)) (.ref C) := hcb ▸ (Looks.ld hb).andThen .now
  have fin : wpAny (model prog w) A (call (.builtin id) ([.ref a] ++ [.ref b]) >>= fun v => pure (some v)) (fun r s' => ∃ v, r = some v ∧ v ≠ .notImplemented ∧ Q v s') E s :=
    wpAny_bind (wpAny_mono h (fun v s' h' => wpAny_pure ⟨v, rfl, h'⟩) fun _ _ h' => h')
  have one : wpAny (model prog w) A (tryCompare (.ref a) (cmpInfo op).2.1 (.ref b)) (fun r s' => ∃ v, r = some v ∧ Q v s') E s := by
    unfold tryCompare
    have spec : wpAny (model prog w) A (callSpecialIfBound? (.ref a) (cmpInfo op).2.1 [.ref b]) (fun r s' => ∃ v, r = some v ∧ v ≠ .notImplemented ∧ Q v s') E s := by
      simp only [callSpecialIfBound?, bindSpecialIfBound?]
      refine wpAny_holding (wpAny_bind (wpAny_bind (wpAny_bind (La.here ((looks_findIn X hs).here ?_)))))
      refine wpAny_bind (wpAny_askSetting (wpAny_ite ?_))
      simp only [hbind]
      split
      · exact wpAny_bind (wpAny_pure (wpAny_pure (by exact fin)))
      · exact wpAny_tryCatch (wpAny_bind (wpAny_pure (wpAny_pure (by exact fin))))
    refine wpAny_bind (wpAny_mono spec (fun r s' hr => ?_) fun _ _ e => e)
    obtain ⟨v, rfl, h1, h2⟩ := hr
    cases v <;> first | exact absurd rfl h1 | exact wpAny_pure ⟨_, rfl, h2⟩
  unfold richCompare
  simp only [oneThing_ref]
  refine wpAny_holding (wpAny_bind (wpAny_cRoomFor hu ?_))
  refine wpAny_bind (La.here (wpAny_bind (Lb.here ?_)))
  simp only [bne_self_eq_false, Bool.false_eq_true, if_false]
  refine wpAny_bind (wpAny_pure ?_)
  simp only [Bool.false_eq_true, if_false]
  refine wpAny_bind (wpAny_mono one (fun r s' z => ?_) fun _ _ e => e)
  obtain ⟨v, rfl, hq⟩ := z
  exact wpAny_pure hq
end


theorem sub_pt (w : World) {prog : Program} {h : Heap} (X : (Mine.hd.heap_39 w.params).In h) : Looks (model prog w) h (isSubtype (.ref 181) (.type "tuple")) true := by
  have e : mroIn (Mine.hd.heap_39 w.params) 181 (.type "tuple") = some true := by rfl
  exact looks_mroIn X e

section
variable {prog : Program} {w : World} {A : Around} {E : Value → Shared → Prop} {s : Shared}

theorem rc_lt_int {i j : Int} {t u : Tok} {Q : Value → Shared → Prop} (h : Q (.bool (decide (i < j))) s) : wpAny (model prog w) A (richCompare .Lt (.int i t) (.int j u)) Q E s :=
  (wpAny_lt_int h : wpAny (model prog w) A (compareOp .Lt (.int i t) (.int j u)) Q E s)
--{
local macro_rules | `(tactic| walk_at "LKQ") => `(tactic| (repeat (first | (with_reducible refine wpAny_bind (wpAny_eqBool_int ?_); dsimp only) | (with_reducible refine nd_bind (wpAny_eqBool_int ?_); dsimp only) | (with_reducible refine wpAny_eqBool_int ?_; dsimp only) | (with_reducible refine rc_lt_int ?_; try dsimp only) | lk)))
--}
set_option maxHeartbeats 1000000 in
theorem pt_call_eq {a b : Addr} {da db : Addr} {x y x' y' : Int} {tx ty tx' ty' : Tok} {Q : Value → Shared → Prop} (X : (Mine.hd.heap_39 w.params).In s.heap)
    (ha : s.heap.get? a = some (ptObj da x y tx ty)) (hb : s.heap.get? b = some (ptObj db x' y' tx' ty')) (h : Q (.bool (x == x' && y == y')) s) :
    wpAny (model prog w) A (call (.builtin "tuple.__eq__") [.ref a, .ref b]) Q E s := by
  obtain ⟨hp, g, d, tk, os⟩ := s
  have La : Looks (model prog w) hp (typeOf (.ref a)) (.ref 181) := (Looks.ld ha).andThen .now
  have Lb : Looks (model prog w) hp (typeOf (.ref b)) (.ref 181) := (Looks.ld hb).andThen .now
  have Ls := sub_pt w (prog := prog) X
  have Ia : Looks (model prog w) hp (isInstance (.ref a) (.type "tuple")) true := La.andThen Ls
  have Ib : Looks (model prog w) hp (isInstance (.ref b) (.type "tuple")) true := Lb.andThen Ls
  refine wpAny_call (codeAny_call_builtin F.slot_tuple_eq.plain F.entry_tuple_eq (check_slot (owner := "tuple") (n := "__eq__") (by decide +kernel) (by decide +kernel) Ia (F.args_tuple_eq_2 _ _) ?_))
  unfold Builtin.«tuple.__eq__»
  walk_at "LKQ"
  cases h1 : (x == x')
  · rw [h1] at h; walk_at "LKQ"; exact h
  · rw [h1] at h
    walk_at "LKQ"
    cases h2 : (y == y')
    · rw [h2] at h; walk_at "LKQ"; exact h
    · rw [h2] at h; walk_at "LKQ"; exact h
set_option maxHeartbeats 1000000 in
theorem pt_call_ne {a b : Addr} {da db : Addr} {x y x' y' : Int} {tx ty tx' ty' : Tok} {Q : Value → Shared → Prop} (X : (Mine.hd.heap_39 w.params).In s.heap)
    (ha : s.heap.get? a = some (ptObj da x y tx ty)) (hb : s.heap.get? b = some (ptObj db x' y' tx' ty')) (h : Q (.bool (!(x == x' && y == y'))) s) :
    wpAny (model prog w) A (call (.builtin "tuple.__ne__") [.ref a, .ref b]) Q E s := by
  obtain ⟨hp, g, d, tk, os⟩ := s
  have La : Looks (model prog w) hp (typeOf (.ref a)) (.ref 181) := (Looks.ld ha).andThen .now
  have Lb : Looks (model prog w) hp (typeOf (.ref b)) (.ref 181) := (Looks.ld hb).andThen .now
  have Ls := sub_pt w (prog := prog) X
  have Ia : Looks (model prog w) hp (isInstance (.ref a) (.type "tuple")) true := La.andThen Ls
  have Ib : Looks (model prog w) hp (isInstance (.ref b) (.type "tuple")) true := Lb.andThen Ls
  refine wpAny_call (codeAny_call_builtin F.slot_tuple_ne.plain F.entry_tuple_ne (check_slot (owner := "tuple") (n := "__ne__") (by decide +kernel) (by decide +kernel) Ia (F.args_tuple_ne_2 _ _) ?_))
  unfold Builtin.«tuple.__ne__»
  walk_at "LKQ"
  cases h1 : (x == x')
  · rw [h1] at h; walk_at "LKQ"; exact h
  · rw [h1] at h
    walk_at "LKQ"
    cases h2 : (y == y')
    · rw [h2] at h; walk_at "LKQ"; exact h
    · rw [h2] at h; walk_at "LKQ"; exact h
set_option maxHeartbeats 1000000 in
theorem pt_call_lt {a b : Addr} {da db : Addr} {x y x' y' : Int} {tx ty tx' ty' : Tok} {Q : Value → Shared → Prop} (X : (Mine.hd.heap_39 w.params).In s.heap)
    (ha : s.heap.get? a = some (ptObj da x y tx ty)) (hb : s.heap.get? b = some (ptObj db x' y' tx' ty')) (h : Q (.bool (if x == x' then decide (y < y') else decide (x < x'))) s) :
    wpAny (model prog w) A (call (.builtin "tuple.__lt__") [.ref a, .ref b]) Q E s := by
  obtain ⟨hp, g, d, tk, os⟩ := s
  have La : Looks (model prog w) hp (typeOf (.ref a)) (.ref 181) := (Looks.ld ha).andThen .now
  have Lb : Looks (model prog w) hp (typeOf (.ref b)) (.ref 181) := (Looks.ld hb).andThen .now
  have Ls := sub_pt w (prog := prog) X
  have Ia : Looks (model prog w) hp (isInstance (.ref a) (.type "tuple")) true := La.andThen Ls
  have Ib : Looks (model prog w) hp (isInstance (.ref b) (.type "tuple")) true := Lb.andThen Ls
  refine wpAny_call (codeAny_call_builtin F.slot_tuple_lt.plain F.entry_tuple_lt (check_slot (owner := "tuple") (n := "__lt__") (by decide +kernel) (by decide +kernel) Ia (F.args_tuple_lt_2 _ _) ?_))
  unfold Builtin.«tuple.__lt__»
  walk_at "LKQ"
  cases h1 : (x == x')
  · rw [h1] at h; walk_at "LKQ"
    exact h
  · rw [h1] at h
    walk_at "LKQ"
    cases h2 : (y == y')
    · walk_at "LKQ"
      exact h
    · walk_at "LKQ"
      have e : y = y' := by simpa using h2
      subst e
      simpa [Builtin.Tuple.tupleCompareSizes] using h
theorem pt_rc {op : CmpOp} {id : String} {a b : Addr} {da db : Addr} {x y x' y' : Int} {tx ty tx' ty' : Tok} {Q : Value → Shared → Prop} (hu : A.units < cLine) (X : (Mine.hd.heap_39 w.params).In s.heap)
    (ha : s.heap.get? a = some (ptObj da x y tx ty)) (hb : s.heap.get? b = some (ptObj db x' y' tx' ty'))
    (hs : findIn (Mine.hd.heap_39 w.params) (.ref 181) (cmpInfo op).2.1 = some (some (.builtin id))) (hbind : ∀ self, bindSpecial (.builtin id) self = pure (.builtin id, [self]))
    (h : wpAny (model prog w) A (call (.builtin id) [.ref a, .ref b]) (fun v' s' => v' ≠ .notImplemented ∧ Q v' s') E s) : wpAny (model prog w) A (richCompare op (.ref a) (.ref b)) Q E s :=
  rc_sub hu X ha rfl hb rfl hs hbind h
theorem pt_eq {a b : Addr} {da db : Addr} {x y x' y' : Int} {tx ty tx' ty' : Tok} {Q : Value → Shared → Prop} (hu : A.units < cLine) (X : (Mine.hd.heap_39 w.params).In s.heap)
    (ha : s.heap.get? a = some (ptObj da x y tx ty)) (hb : s.heap.get? b = some (ptObj db x' y' tx' ty')) (h : Q (.bool (x == x' && y == y')) s) : wpAny (model prog w) A (richCompare .Eq (.ref a) (.ref b)) Q E s :=
  pt_rc (id := "tuple.__eq__") hu X ha hb (by rfl) F.slot_tuple_eq.bind (pt_call_eq X ha hb ⟨(fun x => nomatch x), h⟩)
theorem pt_ne {a b : Addr} {da db : Addr} {x y x' y' : Int} {tx ty tx' ty' : Tok} {Q : Value → Shared → Prop} (hu : A.units < cLine) (X : (Mine.hd.heap_39 w.params).In s.heap)
    (ha : s.heap.get? a = some (ptObj da x y tx ty)) (hb : s.heap.get? b = some (ptObj db x' y' tx' ty')) (h : Q (.bool (!(x == x' && y == y'))) s) : wpAny (model prog w) A (richCompare .NotEq (.ref a) (.ref b)) Q E s :=
  pt_rc (id := "tuple.__ne__") hu X ha hb (by rfl) F.slot_tuple_ne.bind (pt_call_ne X ha hb ⟨(fun x => nomatch x), h⟩)
theorem pt_lt {a b : Addr} {da db : Addr} {x y x' y' : Int} {tx ty tx' ty' : Tok} {Q : Value → Shared → Prop} (hu : A.units < cLine) (X : (Mine.hd.heap_39 w.params).In s.heap)
    (ha : s.heap.get? a = some (ptObj da x y tx ty)) (hb : s.heap.get? b = some (ptObj db x' y' tx' ty')) (h : Q (.bool (if x == x' then decide (y < y') else decide (x < x'))) s) : wpAny (model prog w) A (richCompare .Lt (.ref a) (.ref b)) Q E s :=
  pt_rc (id := "tuple.__lt__") hu X ha hb (by rfl) F.slot_tuple_lt.bind (pt_call_lt X ha hb ⟨(fun x => nomatch x), h⟩)
end
theorem off_b02 : True := by
  w_top off
  exact True.intro
theorem sub_pt_self (w : World) {prog : Program} {h : Heap} (X : (Mine.hd.heap_39 w.params).In h) : Looks (model prog w) h (isSubtype (.ref 181) (.ref 181)) true := by
  have e : mroIn (Mine.hd.heap_39 w.params) 181 (.ref 181) = some true := by rfl
  exact looks_mroIn X e
section
variable {prog : Program} {w : World} {A : Around} {E : Value → Shared → Prop} {s : Shared}
theorem made_tuple : Bind.madeBy (.type "tuple") = pure (some "tuple.__new__") := by kernel_rfl
theorem best_tuple : Builtin.Slots.bestBase [.type "tuple"] = pure (.type "tuple") := by kernel_rfl
theorem mro_pt (w : World) {prog : Program} {h : Heap} (X : (Mine.hd.heap_39 w.params).In h) : Looks (model prog w) h (mroOf (.ref 181)) [.ref 181, .type "tuple", .type "object"] := by
  have hc : clsIn (Mine.hd.heap_39 w.params) 181 = some { name := "Point", bases := [.type "tuple"], mro := [.ref 181, .type "tuple", .type "object"], ns := 180, qualname := "Point", hasDict := false } := by rfl
  exact (looks_clsIn X hc).andThen .now
theorem made_pt (w : World) {prog : Program} {h : Heap} (X : (Mine.hd.heap_39 w.params).In h) : Looks (model prog w) h (Bind.madeBy (.ref 181)) none := by
  intro A Q E s k q
  obtain ⟨hp, g, d, tk, os⟩ := s
  have X' := X.keeps k
  have hC : hp.get? 181 = some _ := X' 181 _ (by rfl)
  have Lm := mro_pt w (prog := prog) X'
  unfold Bind.madeBy
  repeat lk
  exact q
theorem static_pt (w : World) {prog : Program} {h : Heap} (X : (Mine.hd.heap_39 w.params).In h) : Looks (model prog w) h (Bind.staticBase (.ref 181)) (.type "tuple") := by
  intro A Q E s k q
  obtain ⟨hp, g, d, tk, os⟩ := s
  have X' := X.keeps k
  have hC : hp.get? 181 = some _ := X' 181 _ (by rfl)
  have Lm := mro_pt w (prog := prog) X'
  have L1 := made_pt w (prog := prog) X'
  have L2 : Looks (model prog w) hp (Bind.madeBy (.type "tuple")) (some "tuple.__new__") := Looks.of_pure made_tuple
  have L3 : Looks (model prog w) hp (Builtin.Slots.bestBase [.type "tuple"]) (.type "tuple") := Looks.of_pure best_tuple
  unfold Bind.staticBase
  repeat lk
  exact q
theorem k_tn : builtinKind "tuple.__new__" = some .builtinFn := by decide +kernel
theorem s_tn : splitId "tuple.__new__" = some ("tuple", "__new__") := by decide +kernel
set_option maxHeartbeats 1000000 in
theorem pt_tuple_new {t : Addr} {o : Obj} {n : Nat} {x y : Int} {tx ty : Tok} {Q : Value → Shared → Prop} (X : (Mine.hd.heap_39 w.params).In s.heap)
    (ht : s.heap.get? t = some o) (hc : o.cls = .type "tuple") (hd : o.data = .seq #[.int x tx, .int y ty] n)
    (h : ∀ h' a dx, Made s.heap h' [(a, ptObj dx x y tx ty), (dx, emptyDict)] → Q (.ref a) { s with heap := h' }) :
    wpAny (model prog w) A (call (.builtin "tuple.__new__") [.ref 181, .ref t]) Q E s := by
  obtain ⟨hp, g, d, tk, os⟩ := s
  have hC : hp.get? 181 = some _ := X 181 _ (by rfl)
  have La : Looks (model prog w) hp (typeOf (.ref 181)) (.type "type") := looks_typeIn X (by rfl)
  have Ls := sub_pt w (prog := prog) X
  have Li : Looks (model prog w) hp (typeLookup (.ref 181) "__init__") (some (.builtin "object.__init__")) := looks_findIn X (by rfl)
  have L0 := static_pt w (prog := prog) X
  have L1 := made_pt w (prog := prog) X
  have L2 : Looks (model prog w) hp (Bind.madeBy (.type "tuple")) (some "tuple.__new__") := Looks.of_pure made_tuple
  have Lt : Looks (model prog w) hp (isInstance (.ref 181) (.type "type")) true := looks_instIn X (by rfl)
  refine wpAny_call (codeAny_call_builtin (by decide +kernel) F.entry_tuple_new ?_)
  simp only [checkBuiltinCall, k_tn, s_tn]
  repeat (first | ((with_reducible show wpAny _ _ (collect _) _ _ _); refine wpAny_collect_seq t (.inr rfl) ht hc hd ?_ (by show 2 ≤ sizeLine; rw [sizeLine_eq]; omega)) | lk)
  intro h' hk
  dsimp only
  have st : hp.StaysIn ((h'.push { cls := .type "dict", data := .dict #[] }).push { cls := .ref 181, dict := some h'.objs.size, data := .seq #[.int x tx, .int y ty] }) :=
    fun b o e => Heap.get?_push_of_some _ (Heap.get?_push_of_some _ (hk b o e))
  have hC' := st _ _ hC
  repeat lk
  refine h _ _ h'.objs.size ⟨st, fun p hp => ?_⟩
  rcases List.mem_cons.mp hp with rfl | hp
  · exact ⟨Heap.get?_push_size _ rfl, none_of_size hk (by rw [Heap.size_push]; exact Nat.le_succ _)⟩
  · rw [List.mem_singleton.mp hp]
    exact ⟨Heap.get?_push_of_some _ (Heap.get?_push_size _ rfl), none_of_size hk (Nat.le_refl _)⟩
end
theorem off_b03 : True := by
  w_top off
  exact True.intro
/-- the text's own part of a heap, and the top as its run left it -/
structure Wd (w : World) (h : Heap) : Prop where
  X : (Mine.hd.heap_39 w.params).In h
  T : ∃ loose mean mg mb, Top Mine.hd.view_39 loose mean mg mb h
theorem Wd.keeps {w : World} {h h' : Heap} (H : Wd w h) (k : h.StaysIn h') : Wd w h' := ⟨H.X.keeps k, let ⟨a, b, c, d, T⟩ := H.T; ⟨a, b, c, d, T.keeps k⟩⟩
section
variable {prog : Program} {w : World} {A : Around} {E : Value → Shared → Prop} {s : Shared}
theorem enter {K : Frag} {name qual : Str} {params : Arguments} {body : List Stmt} {scope : Scope} {dV kV doc pm cdv ct oc : Value} {an od : Option Addr} {osl : Array (Option Value)} {f : Addr} {pos : List Value} {binds : List (Str × Value)} {Q : Value → Shared → Prop}
    (X : K.In s.heap) (hlim : s.heap.NoLimit) (ho : K.lookup f = some ⟨oc, od, .func (fnOf name qual params body scope dV kV doc pm an cdv ct), osl⟩) (hcd : codeIn K cdv qual = true) (hroom : A.depth < recursionLimit)
    (hbind : BindsTo s (fnOf name qual params body scope dV kV doc pm an cdv ct) ⟨pos, []⟩ binds) (hloc : ∀ y ∈ binds, scope.names.lookup y.1 = some .local)
    (h : ∀ h₁, Fr s.heap s.heap.objs.size h₁ (fun x => binds.reverse.lookup x) → News s.heap s.heap.objs.size h₁ [] →
      wpAny (model prog w) (A.deeper (envOf qual scope s.heap.objs.size f cdv)) (execs body (envOf qual scope s.heap.objs.size f cdv))
        (fun fl s' => Q (match fl with | .ret v => v | _ => .none) s') (fun _ _ => False) { s with heap := h₁, toks := s.toks + binds.length })
    (hcell : ∀ x ∈ scope.names, x.2 ≠ .cell) (hco : scope.isCoroutine = false := by rfl) (hgen : scope.isGenerator = false := by rfl) (hk : scope.kind = .function := by rfl) :
    wpAny (model prog w) A (call (.ref f) pos) Q E s := by
  refine wpAny_call (codeAny_call_def (fd := fnOf name qual params body scope dV kV doc pm an cdv ct) (body := body) (binds := binds) hroom (X _ _ ho) rfl hlim (codeRec_of X hcd) rfl hbind hcell hloc (fun h₁ hns hk₁ => ?_) hco hgen hk)
  exact wpAny_mono (h h₁ ⟨hns, hk₁, Nat.le_refl _⟩ News.nil) (fun fl s' hl => hl) fun _ _ y => y.elim
end
--{
local macro_rules | `(tactic| walk_at "ENTER") => `(tactic| (refine' enter ?kX ?kT ?k6 ?k7 ?k8 ?k9 ?kB ?_ ?c1 ?c2 ?c3 ?c4; (case kX => k_in); (case kT => exact Top.nolimit (by assumption)); (case k6 => k_is); (case k7 => k_is); (case k8 => ((try simp only [depth_under_make, depth_in1, depth_deeper]); omega)); (case k9 => first | exact BindsTo.of_eq rfl | exact binds_K (by k_in) rfl (by k_is) rfl rfl rfl); (case kB => exact locs rfl); (case c1 => decide); (case c2 => exact rfl); (case c3 => exact rfl); (case c4 => exact rfl)))
--}
theorem even_is (n : Int) : (!(Builtin.bitAnd n 1 != 0)) = (n % 2 == 0) := by
  rw [bitAnd_m1]; cases h : (n % 2 == 0) <;> simp_all
section
variable {prog : Program} {w : World} {A : Around} {E : Value → Shared → Prop} {s : Shared} {n : Int} {t : Tok} {Q : Value → Shared → Prop}
set_option maxHeartbeats 1000000 in
theorem sp_is_even (hd : A.depth + 1 < recursionLimit) (H : Wd w s.heap) (h : ∀ h' tk, s.heap.StaysIn h' → Q (.bool (n % 2 == 0)) { s with heap := h', toks := tk }) :
    wpAny (model prog w) A (call (.ref 35) [.int n t]) Q E s := by
  obtain ⟨X, loose, mean, mg, mb, T⟩ := H
  walk_at "ENTER"
  intro h₁ F N
  dsimp only
  k_steps
  dsimp only
  rw [even_is]
  exact h _ _ F.keep
set_option maxHeartbeats 1000000 in
theorem sp_event {v : Value} (hd : A.depth + 1 < recursionLimit) (H : Wd w s.heap) (h : ∀ h' tk, s.heap.StaysIn h' → Q v { s with heap := h', toks := tk }) :
    wpAny (model prog w) A (call (.ref 49) [v]) Q E s := by
  obtain ⟨X, loose, mean, mg, mb, T⟩ := H
  walk_at "ENTER"
  intro h₁ F N
  dsimp only
  k_steps
  exact h _ _ F.keep
end
theorem off_b04 : True := by
  w_top off
  exact True.intro
theorem tuple_meta : typeOf (.type "tuple") = pure (.type "type") := by kernel_rfl
--{
local macro_rules | `(tactic| walk_at "getMethod type:tuple") => `(tactic| (k_here; refine' method_type ?F ?X ?m (by decide +kernel) ?e ?h ?_; (case F => k_asm); (case X => k_asm); (case m => exact tuple_meta); (case e => k_dflt k_is); (case h => k_handed)))
--}
section
variable {prog : Program} {w : World} {A : Around} {E : Value → Shared → Prop} {s : Shared} {n : Int} {t : Tok} {Q : Value → Shared → Prop}
set_option maxHeartbeats 1000000 in
theorem sp_pnew {x y : Int} {tx ty : Tok} (hd : A.depth + 1 < recursionLimit) (H : Wd w s.heap)
    (h : ∀ h' tk a dx, Made s.heap h' [(a, ptObj dx x y tx ty), (dx, emptyDict)] → Q (.ref a) { s with heap := h', toks := tk }) :
    wpAny (model prog w) A (call (.ref 131) [.ref 181, .int x tx, .int y ty]) Q E s := by
  obtain ⟨X, loose, mean, mg, mb, T⟩ := H
  walk_at "ENTER"
  intro h₁ F N
  dsimp only
  k_steps
  (rename Fr _ _ _ _ => F'); (rename News _ _ _ _ => N')
  refine pt_tuple_new (X.keeps F'.keep) (N' _ (.head _)).1 rfl rfl ?_
  intro h'' a dx M
  exact h _ _ a dx (M.back F'.keep)
theorem attr_new {expr : Bool} (X : (Mine.hd.heap_39 w.params).In s.heap) (h : Q (.ref 131) { s with toks := s.toks + 1 }) : wpAny (model prog w) A (getAttr (.ref 181) "__new__" expr) Q E s :=
  cls_bind (K := Mine.hd.heap_39 w.params) (mc := .type "type") (g := .builtin "staticmethod.__get__") (a := .ref 182) (obj := .none) (tp := .ref 181) X (by k_is) (by k_is) (wpAny_call (sm_get (s := { s with toks := s.toks + 1 }) X (f := .ref 131) (rest := []) (by k_is) (handed_on (by decide +kernel) h)))
set_option maxHeartbeats 2000000 in
/-- a call of the class: type's __call__, the text's __new__, object's __init__ -/
theorem mk_pt {x y : Int} {tx ty : Tok} (hd : A.depth + 3 < recursionLimit) (H : Wd w s.heap)
    (h : ∀ h' tk a dx, Made s.heap h' [(a, ptObj dx x y tx ty), (dx, emptyDict)] → Q (.ref a) { s with heap := h', toks := tk }) :
    wpAny (model prog w) A (call (.ref 181) [.int x tx, .int y ty]) Q E s := by
  obtain ⟨hp, g, d, tk, os⟩ := s
  have X := H.X
  have hC : hp.get? 181 = some _ := X 181 _ (by rfl)
  have call : Looks (model prog w) hp (specialOf (.ref 181) "__call__") (some (.builtin "type.__call__")) := looks_specialIn X (by rfl)
  have typ : Looks (model prog w) hp (isInstance (.ref 181) (.type "type")) true := looks_instIn X (by rfl)
  refine wpAny_call (codeAny_of_tree ?_)
  show wpAny _ _ (callAny (.ref 181) _) _ _ _
  refine nd_load hC ?_
  show wpAny _ _ (callAny.viaDunder (.ref 181) _) _ _ _
  unfold callAny.viaDunder
  refine wpAny_bind (call.at ?_)
  dsimp only
  rw [tc_bind]
  refine wpAny_bind (wpAny_pure (wpAny_bind (wpAny_pure ?_)))
  refine wpAny_pure (a := Fin.again (.call (.builtin "type.__call__") ⟨[.ref 181, .int x tx, .int y ty], []⟩)) (And.intro rfl ?_)
  refine codeAny_call_builtin_at (Code.quiet_builtin _ (by decide +kernel)) entry_typeCall (check_slot tc_kind tc_split typ (tc_args _ _ _) ?_)
  unfold Builtin.«type.__call__»
  have Lm := mro_pt w (prog := prog) X
  have L1 := made_pt w (prog := prog) X
  repeat (first | ((with_reducible show wpAny _ _ (getAttr (.ref 181) _ _) _ _ _); refine attr_new X ?_; dsimp only) | ((with_reducible show wpAny _ _ (PySem.call (.ref 131) _ _) _ _ _); refine sp_pnew (by rw [depth_under_make]; omega) ⟨X, H.T⟩ ?_) | lk)
  intro h' tk' a dx M
  have st := M.stay
  have ha := (M.new _ (.head _)).1
  have X' := X.keeps st
  have L3 : Looks (model prog w) h' (typeOf (.ref a)) (.ref 181) := (Looks.ld ha).andThen .now
  have L4 := sub_pt_self w (prog := prog) X'
  have L5 : Looks (model prog w) h' (typeLookup (.ref 181) "__init__") (some (.builtin "object.__init__")) := looks_findIn X' (by rfl)
  have L6 := made_pt w (prog := prog) X'
  have e1 : mroIn (Mine.hd.heap_39 w.params) 181 (.type "object") = some true := by rfl
  have L7 : Looks (model prog w) h' (isInstance (.ref a) (.type "object")) true := L3.andThen (looks_mroIn X' e1)
  have L8 : Looks (model prog w) h' (specialOf (.ref a) "__init__") (some (.builtin "object.__init__")) := L3.andThen L5
  have LB : Looks (model prog w) h' (bindSpecial (.builtin "object.__init__") (.ref a)) (.builtin "object.__init__", [.ref a]) := Looks.of_pure (oi_bind _)
  unfold callSpecial?
  repeat (first | with_reducible refine wpAny_call ?_ | lk)
  show codeAny _ _ (.call (.builtin "object.__init__") ⟨[.ref a, .int x tx, .int y ty], []⟩) _ _
  refine codeAny_call_builtin oi_plain entry_oi (check_slot (owner := "object") (n := "__init__") oi_kind oi_split L7 (F.args_object_init_3 _ _ _) ?_)
  unfold Builtin.«object.__init__»
  repeat lk
  exact h h' tk' a dx M
end
theorem off_b05 : True := by
  w_top off
  exact True.intro
section
variable {prog : Program} {w : World} {A : Around} {E : Value → Shared → Prop} {s : Shared} {n : Int} {t : Tok} {Q : Value → Shared → Prop} {h₀ : Heap} {L : Addr} {m : Str → Option Value}
theorem type_pt {x y : Int} {a dx : Addr} {tx ty : Tok} (FF : Fr h₀ L s.heap m) (ha : h₀.get? a = some (ptObj dx x y tx ty)) (hq : Q (.ref 181) s) : wpAny (model prog w) A (call (.type "type") [.ref a]) Q E s := by
  obtain ⟨hh, g, d, t, os⟩ := s
  exact call_type_obj (FF.keep _ _ ha) rfl hq
set_option maxHeartbeats 1000000 in
theorem issub_pt (FF : Fr h₀ L s.heap m) (X₀ : (Mine.hd.heap_39 w.params).In h₀) (hq : Q (.bool true) s) : wpAny (model prog w) A (call (.builtin "issubclass") [.ref 181, .type "tuple"]) Q E s := by
  have X := X₀.keeps FF.keep
  obtain ⟨hp, g, d, t, os⟩ := s
  have Ls := sub_pt w (prog := prog) X
  have Lt : Looks (model prog w) hp (isInstance (.ref 181) (.type "type")) true := looks_instIn X (by rfl)
  have La : Looks (model prog w) hp (typeOf (.ref 181)) (.type "type") := looks_typeIn X (by rfl)
  refine wpAny_call (codeAny_call_builtin F.plain_issubclass F.entry_issubclass ?_)
  have ck : checkBuiltinCall "issubclass" ⟨[.ref 181, .type "tuple"], []⟩ = pure () := by kernel_rfl
  rw [ck]
  refine wpAny_pure ?_
  refine issubclass_outer (R := wants Q E) ?_
  unfold Builtin.«issubclass.nested»
  have hC : hp.get? 181 = some _ := X 181 _ (by rfl)
  repeat lk
  exact hq
set_option maxHeartbeats 1000000 in
theorem item_pt {x y : Int} {a dx : Addr} {tx ty : Tok} {k : Int} {u : Tok} (FF : Fr h₀ L s.heap m) (X₀ : (Mine.hd.heap_39 w.params).In h₀) (ha : h₀.get? a = some (ptObj dx x y tx ty)) (hk : k = 0 ∨ k = 1) (hq : Q (if k = 0 then .int x tx else .int y ty) s) :
    wpAny (model prog w) A (call (.builtin "tuple.__getitem__") [.ref a, .int k u]) Q E s := by
  have X := X₀.keeps FF.keep
  have ha' := FF.keep _ _ ha
  obtain ⟨hp, g, d, t, os⟩ := s
  have La : Looks (model prog w) hp (typeOf (.ref a)) (.ref 181) := (Looks.ld ha').andThen .now
  have Ls := sub_pt w (prog := prog) X
  have Ia : Looks (model prog w) hp (isInstance (.ref a) (.type "tuple")) true := La.andThen Ls
  refine wpAny_call (codeAny_call_builtin F.slot_tuple_getitem.plain F.entry_tuple_getitem ?_)
  have hk1 : builtinKind "tuple.__getitem__" = some .slot := by decide +kernel
  have hk2 : splitId "tuple.__getitem__" = some ("tuple", "__getitem__") := by decide +kernel
  have ar := F.args_tuple_getitem_2 (.ref a) (.int k u)
  refine check_slot (i := "tuple.__getitem__") (owner := "tuple") (n := "__getitem__") (self := .ref a) (rest := [.int k u]) (kw := []) hk1 hk2 Ia ar ?_
  have f1 := AutoSeq1.idx_int
  have hf : ¬ (decide (k < -2 ^ 63) || decide (k ≥ 2 ^ 63)) = true := by simp; omega
  wp_walk using AutoSeq1.wpAny_loadPart' ha'
  refine wpAny_ite_false (by rcases hk with rfl | rfl <;> decide) ?_
  rcases hk with rfl | rfl
  · have e : ((seqIndex? (0 : Int) #[Value.int x tx, Value.int y ty].size).bind fun i => #[Value.int x tx, Value.int y ty][i]?) = some (.int x tx) := by rfl
    simp only [e]
    wp_walk
    exact hq
  · have e : ((seqIndex? (1 : Int) #[Value.int x tx, Value.int y ty].size).bind fun i => #[Value.int x tx, Value.int y ty][i]?) = some (.int y ty) := by rfl
    simp only [e]
    wp_walk
    exact hq
end
--{
local macro_rules | `(tactic| walk_at "call type:type") => `(tactic| (k_here; (with_reducible show wpAny _ _ (call (Value.type "type") [Value.ref _]) _ _ _); refine type_pt (by assumption) (by assumption) ?_))
local macro_rules | `(tactic| walk_at "call builtin:issubclass") => `(tactic| (k_here; refine issub_pt (by assumption) (by assumption) ?_))
local macro_rules | `(tactic| walk_at "call builtin:tuple.__getitem__") => `(tactic| (k_here; refine item_pt (by assumption) (by assumption) (by assumption) (by decide) ?_))
--}
section
variable {prog : Program} {w : World} {A : Around} {E : Value → Shared → Prop} {s : Shared} {n : Int} {t : Tok} {Q : Value → Shared → Prop}
set_option maxHeartbeats 1000000 in
theorem sp_getx {x y : Int} {a dx : Addr} {tx ty : Tok} (hd : A.depth + 1 < recursionLimit) (H : Wd w s.heap) (ha : s.heap.get? a = some (ptObj dx x y tx ty))
    (h : ∀ h' tk, Made s.heap h' [] → Q (.int x tx) { s with heap := h', toks := tk }) :
    wpAny (model prog w) A (call (.ref 92) [.ref 173, .ref a, .ref 181]) Q E s := by
  obtain ⟨X, loose, mean, mg, mb, T⟩ := H
  walk_at "ENTER"
  intro h₁ F N
  dsimp only
  k_steps
  rw [if_pos rfl]
  (rename Fr _ _ _ _ => F')
  exact h _ _ ⟨F'.keep, fun _ hp => (nomatch hp)⟩
set_option maxHeartbeats 1000000 in
theorem sp_gety {x y : Int} {a dx : Addr} {tx ty : Tok} (hd : A.depth + 1 < recursionLimit) (H : Wd w s.heap) (ha : s.heap.get? a = some (ptObj dx x y tx ty))
    (h : ∀ h' tk, Made s.heap h' [] → Q (.int y ty) { s with heap := h', toks := tk }) :
    wpAny (model prog w) A (call (.ref 92) [.ref 176, .ref a, .ref 181]) Q E s := by
  obtain ⟨X, loose, mean, mg, mb, T⟩ := H
  walk_at "ENTER"
  intro h₁ F N
  dsimp only
  k_steps
  rw [if_neg (by decide)]
  (rename Fr _ _ _ _ => F')
  exact h _ _ ⟨F'.keep, fun _ hp => (nomatch hp)⟩
theorem pt_inst {h : Heap} {a dx : Addr} {x y : Int} {tx ty : Tok} (ha : h.get? a = some (ptObj dx x y tx ty)) (hdx : h.get? dx = some emptyDict) : InstAt h a (ptObj dx x y tx ty) 181 (some emptyDict) := ⟨ha, rfl, rfl, hdx⟩
/-- an attribute of a point that the class has under a getter of the text -/
theorem attr_pt {name : Str} {p f : Addr} {x y : Int} {a dx : Addr} {tx ty : Tok} {r : Value} (X : (Mine.hd.heap_39 w.params).In s.heap) (ha : s.heap.get? a = some (ptObj dx x y tx ty)) (hdx : s.heap.get? dx = some emptyDict)
    (hf : findObj (Mine.hd.heap_39 w.params) 181 (some emptyDict) name = some (.bind (.ref f) (.ref p))) (hr : handedIn r = true)
    (hc : ∀ (A' : Around) (E' : Value → Shared → Prop) (Q' : Value → Shared → Prop), A'.depth = A.depth → (∀ h' tk, Made s.heap h' [] → Q' r { s with heap := h', toks := tk }) → wpAny (model prog w) A' (call (.ref f) [.ref p, .ref a, .ref 181]) Q' E' { s with toks := s.toks + 1 })
    (h : ∀ h' tk, Made s.heap h' [] → Q r { s with heap := h', toks := tk }) : wpAny (model prog w) A (getAttr (.ref a) name true) Q E s := by
  obtain ⟨hp, g, d, tk, os⟩ := s
  have I := pt_inst ha hdx
  have L0 := I.type (M := model prog w)
  have L1 := looks_find (M := model prog w) X I hf
  have L2 : Looks (model prog w) hp (typeLookup (.ref 181) "__getattribute__") (some (.builtin "tuple.__getattribute__")) := looks_findIn X (by k_is)
  have L3 : Looks (model prog w) hp (typeLookup (.ref 181) "__getattr__") none := looks_findIn X (by k_is)
  have L4 : Looks (model prog w) hp (bindSpecial (.builtin "tuple.__getattribute__") (.ref a)) (.builtin "tuple.__getattribute__", [.ref a]) := Looks.of_pure (F.slot_tuple_getattribute.bind _)
  unfold getAttr getAttrBy getAttrByItsOwn callGetattribute boundAndCalled hookBefore
  repeat (first | with_reducible refine wpAny_attempt ?_ | with_reducible refine wpAny_call ?_ | lk)
  show codeAny _ _ (.call (.builtin "tuple.__getattribute__") ⟨[.ref a, .str name tk], []⟩) _ _
  have L5 : Looks (model prog w) hp (isInstance (.ref a) (.type "tuple")) true := L0.andThen (sub_pt w (prog := prog) X)
  have hk1 : builtinKind "tuple.__getattribute__" = some .slot := by decide +kernel
  have hk2 : splitId "tuple.__getattribute__" = some ("tuple", "__getattribute__") := by decide +kernel
  have ar := F.args_tuple_getattribute_2 (.ref a) (.str name tk)
  refine codeAny_call_builtin F.slot_tuple_getattribute.plain F.entry_tuple_ga (check_slot (i := "tuple.__getattribute__") (owner := "tuple") (n := "__getattribute__") (self := .ref a) (rest := [.str name tk]) (kw := []) hk1 hk2 L5 ar ?_)
  unfold Builtin.«object.__getattribute__»
  repeat (first | ((with_reducible show wpAny _ _ (call (.ref f) _ _) _ _ _); refine hc _ _ _ rfl ?_) | lk)
  intro h' tk' M
  refine wpAny_pure ?_
  show wpAny _ _ (handedOut r) _ _ _
  rw [handedOut_of hr]
  exact wpAny_pure (h h' tk' M)
theorem attr_x {x y : Int} {a dx : Addr} {tx ty : Tok} (hd : A.depth + 1 < recursionLimit) (H : Wd w s.heap) (ha : s.heap.get? a = some (ptObj dx x y tx ty)) (hdx : s.heap.get? dx = some emptyDict)
    (h : ∀ h' tk, Made s.heap h' [] → Q (.int x tx) { s with heap := h', toks := tk }) : wpAny (model prog w) A (getAttr (.ref a) "x" true) Q E s :=
  attr_pt (f := 92) (p := 173) H.X ha hdx (findObj_data (by rfl) (by k_is) (by k_is) (by k_is)) rfl (fun A' E' Q' hA hq => sp_getx (by rw [hA]; exact hd) H ha hq) h
theorem attr_y {x y : Int} {a dx : Addr} {tx ty : Tok} (hd : A.depth + 1 < recursionLimit) (H : Wd w s.heap) (ha : s.heap.get? a = some (ptObj dx x y tx ty)) (hdx : s.heap.get? dx = some emptyDict)
    (h : ∀ h' tk, Made s.heap h' [] → Q (.int y ty) { s with heap := h', toks := tk }) : wpAny (model prog w) A (getAttr (.ref a) "y" true) Q E s :=
  attr_pt (f := 92) (p := 176) H.X ha hdx (findObj_data (by rfl) (by k_is) (by k_is) (by k_is)) rfl (fun A' E' Q' hA hq => sp_gety (by rw [hA]; exact hd) H ha hq) h
end
theorem off_b06 : True := by
  w_top off
  exact True.intro
/-- the data that the law compares -/
inductive Dt where
  | num (i : Int)
  | bl (b : Bool)
  | pt (x y : Int)
  | li (x y : Int)
def b2i (b : Bool) : Int := if b then 1 else 0
/-- Python's == of two data of one kind -/
def Dt.eqv : Dt → Dt → Bool
  | .num i, .num j => i == j
  | .num i, .bl b => i == b2i b
  | .bl b, .num i => b2i b == i
  | .bl b, .bl c => b == c
  | .pt x y, .pt x' y' => x == x' && y == y'
  | .li x y, .li x' y' => x == x' && y == y'
  | _, _ => false
def Dt.kind : Dt → Nat
  | .num _ => 0
  | .bl _ => 0
  | .pt .. => 1
  | .li .. => 2
theorem Dt.eqv_symm : ∀ d e : Dt, d.eqv e = e.eqv d
  | .num _, .num _ => by simp only [Dt.eqv]; exact Bool.beq_comm
  | .num _, .bl _ => by simp only [Dt.eqv]; exact Bool.beq_comm
  | .bl _, .num _ => by simp only [Dt.eqv]; exact Bool.beq_comm
  | .bl _, .bl _ => by simp only [Dt.eqv]; exact Bool.beq_comm
  | .pt x y, .pt x' y' => by show (x == x' && y == y') = (x' == x && y' == y); rw [Bool.beq_comm (a := x), Bool.beq_comm (a := y)]
  | .li x y, .li x' y' => by show (x == x' && y == y') = (x' == x && y' == y); rw [Bool.beq_comm (a := x), Bool.beq_comm (a := y)]
  | .num _, .pt .. => rfl
  | .num _, .li .. => rfl
  | .bl _, .pt .. => rfl
  | .bl _, .li .. => rfl
  | .pt .., .num _ => rfl
  | .li .., .num _ => rfl
  | .pt .., .bl _ => rfl
  | .li .., .bl _ => rfl
  | .pt .., .li .. => rfl
  | .li .., .pt .. => rfl
theorem Dt.eqv_refl : ∀ d : Dt, d.eqv d = true
  | .num _ => by simp [Dt.eqv]
  | .bl _ => by simp [Dt.eqv]
  | .pt .. => by simp [Dt.eqv]
  | .li .. => by simp [Dt.eqv]
def DtIn (h : Heap) (v : Value) : Dt → Prop
  | .num i => ∃ t, v = .int i t
  | .bl b => v = .bool b
  | .pt x y => ∃ a dx tx ty, v = .ref a ∧ h.get? a = some (ptObj dx x y tx ty) ∧ h.get? dx = some emptyDict
  | .li x y => ∃ a tx ty n, v = .ref a ∧ h.get? a = some (listOf #[.int x tx, .int y ty] n)
theorem DtIn.keeps {h h' : Heap} {v : Value} (k : ∀ b o, h.get? b = some o → h'.get? b = some o) : ∀ {d : Dt}, DtIn h v d → DtIn h' v d
  | .num _, x => x
  | .bl _, x => x
  | .pt .., ⟨a, dx, tx, ty, e, h1, h2⟩ => ⟨a, dx, tx, ty, e, k _ _ h1, k _ _ h2⟩
  | .li .., ⟨a, tx, ty, n, e, h1⟩ => ⟨a, tx, ty, n, e, k _ _ h1⟩
section
variable {prog : Program} {w : World} {A : Around} {E : Value → Shared → Prop} {s : Shared}
theorem truthDropped_bool {b : Bool} {Q : Bool → Shared → Prop} (h : Q b s) : wpAny (model prog w) A (truthOfDropped (.bool b)) Q E s := wpAny_truthy_bool h
theorem ref_eqBool {a b : Addr} {r : Bool} {Q : Bool → Shared → Prop} (same : a = b → r = true) (hc : ∀ Q' : Value → Shared → Prop, Q' (.bool r) s → wpAny (model prog w) A (richCompare .Eq (.ref a) (.ref b)) Q' E s) (h : Q r s) :
    wpAny (model prog w) A (eqBool (.ref a) (.ref b)) Q E s := by
  unfold eqBool
  refine wpAny_holding ?_
  refine wpAny_ite_split (fun hab => ?_) (fun _ => ?_)
  · have e : a = b := by have := eq_of_beq hab; injection this
    rw [same e] at h
    exact wpAny_bind (wpAny_rule (wpAny_pure h))
  · exact wpAny_bind (hc _ (truthDropped_bool h))
theorem dt_rc (hu : A.units < cLine) (H : Wd w s.heap) {v v' : Value} {Q : Value → Shared → Prop} : ∀ {d d' : Dt}, DtIn s.heap v d → DtIn s.heap v' d' → d.kind = d'.kind → Q (.bool (d.eqv d')) s → wpAny (model prog w) A (richCompare .Eq v v') Q E s
  | .num i, .num j, ⟨_, e⟩, ⟨_, e'⟩, _, h => by subst e e'; exact SeqAt.RcAt.int_int _ _ _ _ prog w E Q h
  | .num i, .bl b, ⟨_, e⟩, e', _, h => by cases e'; subst e; exact SeqAt.RcAt.int_bool _ _ _ prog w E Q h
  | .bl b, .num i, e, ⟨_, e'⟩, _, h => by cases e; subst e'; exact SeqAt.RcAt.bool_int _ _ _ prog w E Q h
  | .bl b, .bl c, e, e', _, h => by cases e; cases e'; exact SeqAt.RcAt.bool_bool _ _ prog w E Q h
  | .pt x y, .pt x' y', ⟨a, dx, tx, ty, e, h1, h2⟩, ⟨a', dx', tx', ty', e', h1', h2'⟩, _, h => by subst e e'; exact pt_eq hu H.X h1 h1' h
  | .li x y, .li x' y', ⟨a, tx, ty, n, e, h1⟩, ⟨a', tx', ty', n', e', h1'⟩, _, h => by
    subst e e'
    refine SeqAt.RcAt.lists (items := #[.int x tx, .int y ty]) (items2 := #[.int x' tx', .int y' ty']) (e := fun j => if j = 0 then x == x' else y == y') ⟨_, h1, rfl, n, rfl⟩ ⟨_, h1', rfl, n', rfl⟩ rfl hu (fun j p q => ?_) prog w E Q (by simpa [Dt.eqv, List.range_succ] using h)
    match j, p with
    | 0, _ => exact SeqAt.EqAt.int_int _ _ _ _
    | 1, _ => exact SeqAt.EqAt.int_int _ _ _ _
  | .num _, .pt .., _, _, k, _ => by cases k
  | .num _, .li .., _, _, k, _ => by cases k
  | .bl _, .pt .., _, _, k, _ => by cases k
  | .bl _, .li .., _, _, k, _ => by cases k
  | .pt .., .num _, _, _, k, _ => by cases k
  | .pt .., .bl _, _, _, k, _ => by cases k
  | .pt .., .li .., _, _, k, _ => by cases k
  | .li .., .num _, _, _, k, _ => by cases k
  | .li .., .bl _, _, _, k, _ => by cases k
  | .li .., .pt .., _, _, k, _ => by cases k
theorem dt_eqb (hu : A.units < cLine) (H : Wd w s.heap) {v v' : Value} {d d' : Dt} {Q : Bool → Shared → Prop} (hd : DtIn s.heap v d) (hd' : DtIn s.heap v' d') (hk : d.kind = d'.kind) (h : Q (d.eqv d') s) : wpAny (model prog w) A (eqBool v v') Q E s := by
  match d, d', hd, hd', hk, h with
  | .num i, .num j, ⟨_, e⟩, ⟨_, e'⟩, _, h => subst e e'; exact SeqAt.EqAt.int_int _ _ _ _ prog w E Q h
  | .num i, .bl b, ⟨_, e⟩, e', _, h => cases e'; subst e; exact SeqAt.EqAt.int_bool _ _ _ prog w E Q h
  | .bl b, .num i, e, ⟨_, e'⟩, _, h => cases e; subst e'; exact SeqAt.EqAt.bool_int _ _ _ prog w E Q h
  | .bl b, .bl c, e, e', _, h => cases e; cases e'; exact SeqAt.EqAt.bool_bool _ _ prog w E Q h
  | .pt x y, .pt x' y', ⟨a, dx, tx, ty, e, h1, h2⟩, ⟨a', dx', tx', ty', e', h1', h2'⟩, _, h =>
    subst e e'
    refine ref_eqBool (fun e => ?_) (fun Q' h' => dt_rc hu H (d := .pt x y) (d' := .pt x' y') ⟨a, dx, tx, ty, rfl, h1, h2⟩ ⟨a', dx', tx', ty', rfl, h1', h2'⟩ rfl h') h
    subst e
    rw [h1] at h1'
    injection h1' with h1'
    simp only [ptObj, Obj.mk.injEq, Data.seq.injEq, Array.mk.injEq, List.cons.injEq, Value.int.injEq] at h1'
    simp [Dt.eqv, h1'.2.2.1]
  | .li x y, .li x' y', ⟨a, tx, ty, n, e, h1⟩, ⟨a', tx', ty', n', e', h1'⟩, _, h =>
    subst e e'
    refine ref_eqBool (fun e => ?_) (fun Q' h' => dt_rc hu H (d := .li x y) (d' := .li x' y') ⟨a, tx, ty, n, rfl, h1⟩ ⟨a', tx', ty', n', rfl, h1'⟩ rfl h') h
    subst e
    rw [h1] at h1'
    injection h1' with h1'
    simp only [Obj.mk.injEq, Data.seq.injEq, Array.mk.injEq, List.cons.injEq, Value.int.injEq] at h1'
    simp [Dt.eqv, h1'.2.2.1]
end
/-- a value's == with each item of a list in turn, in the one model at hand -/
def EqW (prog : Program) (w : World) (A : Around) (s : Shared) (y x : Value) (b : Bool) : Prop := ∀ (E : Value → Shared → Prop) (Q : Bool → Shared → Prop), Q b s → wpAny (model prog w) A (eqBool y x) Q E s
section
variable {prog : Program} {w : World} {A : Around} {E : Value → Shared → Prop} {s : Shared}
theorem in_loop (l : Addr) (items : Array Value) (n : Nat) (x : Value) (e : Nat → Bool) (k : Nat) :
    ∀ i : Nat, items.size - i = k → MeetsIn prog w (Builtin.«list.__contains__.loop» ⟨[.ref l, x, rawInt i], []⟩)
      (fun A R s => s.heap.get? l = some (listOf items n) ∧ (∀ j (h : j < items.size), EqW prog w A.in1 s items[j] x (e j)) ∧ R (.ok (.ret (.bool (((List.range items.size).drop i).any e)))) s) := by
  induction k with
  | zero =>
    intro i hk A R s h
    obtain ⟨hp, g, d, tk, os⟩ := s; obtain ⟨hl, he, h⟩ := h
    wp_walk using AutoSeq1.wpAny_loadPart' hl
    have hi : items[((i : Nat) : Int).toNat]? = none := by simp; omega
    have hd : (List.range items.size).drop i = [] := by simp; omega
    rw [hd] at h
    rw [hi]
    wp_walk
    exact h
  | succ k ih =>
    intro i hk A R s h
    obtain ⟨hp, g, d, tk, os⟩ := s; obtain ⟨hl, he, h⟩ := h
    wp_walk using AutoSeq1.wpAny_loadPart' hl
    have hlt : i < items.size := by omega
    have hi : items[((i : Nat) : Int).toNat]? = some items[i] := by simp [hlt]
    have hd : (List.range items.size).drop i = i :: (List.range items.size).drop (i + 1) := by simp [List.drop_eq_getElem_cons, hlt]
    rw [hd, List.any_cons] at h
    rw [hi]
    refine wpAny_bind (he i hlt _ _ ?_)
    cases hb : e i with
    | true =>
      rw [hb] at h
      wp_walk
      exact h
    | false =>
      rw [hb] at h
      have hc : ((i : Int) + 1) = ((i + 1 : Nat) : Int) := by push_cast; rfl
      wp_walk
      rw [hc]
      exact ⟨plainId_quiet MeetsSeq.plain_contains_loop _, codeAny_builtin MeetsSeq.entry_contains_loop (by
        rw [Around.under_plainId MeetsSeq.plain_contains_loop _]
        exact ih (i + 1) (by omega) A R _ ⟨hl, he, by simpa using h⟩)⟩
theorem in_listW {l : Addr} {items : Array Value} {n : Nat} {x : Value} {Q : Value → Shared → Prop} (e : Nat → Bool) (hl : s.heap.get? l = some (listOf items n)) (he : ∀ j (h : j < items.size), EqW prog w A.in1 s items[j] x (e j))
    (h : Q (.bool ((List.range items.size).any e)) s) : wpAny (model prog w) A (compareOp .In x (.ref l)) Q E s := by
  have hT : s.TypeIs (.ref l) "list" := ⟨_, hl, rfl⟩
  have whole : MeetsIn prog w (Builtin.«list.__contains__» ⟨[.ref l, x], []⟩)
      (fun A R s => s.heap.get? l = some (listOf items n) ∧ (∀ j (h : j < items.size), EqW prog w A.in1 s items[j] x (e j)) ∧ R (.ok (.ret (.bool ((List.range items.size).any e)))) s) := by
    intro A R s h
    obtain ⟨hp, g, d, tk, os⟩ := s; obtain ⟨hl, he, h⟩ := h
    wp_walk using AutoSeq1.wpAny_loadPart' hl
    exact ⟨plainId_quiet MeetsSeq.plain_contains_loop _, codeAny_builtin MeetsSeq.entry_contains_loop (by
      rw [Around.under_plainId MeetsSeq.plain_contains_loop _]
      exact in_loop l items n x e _ 0 rfl A R _ ⟨hl, he, by simpa using h⟩)⟩
  show wpAny _ A (do return .bool (← contains (.ref l) x)) Q E s
  refine wpAny_bind (wpAny_contains_slot hT F.slot_list_contains (call_meetsIn F.slot_list_contains hT F.entry_list_contains (F.args_list_contains_2 _ _) whole ⟨hl, he, ?_⟩))
  exact wpAny_truthy_bool (wpAny_pure h)
end
theorem off_b07 : True := by
  w_top off
  exact True.intro
/-- how a turn of a loop ends: a return, a break, or the next turn's state; the iterator stands as it stood -/
def TurnEnd (h₀ : Heap) (L : Addr) (I : Addr) (oI : Obj) (J : (Str → Option Value) → List (Addr × Obj) → Prop) (Q : Flow → Shared → Prop) (s : Shared) (f : Flow) (s₂ : Shared) : Prop :=
  match f with
  | .ret v => Q (.ret v) s₂
  | .brk => Q .next s₂
  | _ => ∃ h' tk m' nx, s₂ = { s with heap := h', toks := tk } ∧ Fr h₀ L h' m' ∧ News h₀ L h' ((I, oI) :: nx) ∧ (∀ p ∈ nx, p.1 ≠ I) ∧ J m' nx
section
variable {prog : Program} {w : World} {A : Around} {E : Value → Shared → Prop} {s : Shared} {env : Env} {h₀ : Heap} {x : Str} {body : List Stmt} {Q : Flow → Shared → Prop}
theorem loop_W {n : Nat} {I : Addr} {fp : List Addr} {P : Nat → Value → Prop} {St : Nat → Heap → Prop} {m₀ : Str → Option Value} {nx₀ : List (Addr × Obj)} (J : Nat → (Str → Option Value) → List (Addr × Obj) → Prop)
    (W : Walks prog w A I fp [I] n P St) (hob : ∀ i h, St i h → ∃ o, h.get? I = some o) (hI0 : h₀.get? I = none) (hIL : I ≠ env.locals) (hInx : ∀ p ∈ nx₀, p.1 ≠ I)
    (hsrc : ∀ a ∈ fp, a = I ∨ (∃ o, h₀.get? a = some o) ∨ ∃ o, ∀ i m nx, J i m nx → (a, o) ∈ nx) (hst : St 0 s.heap) (F : Fr h₀ env.locals s.heap m₀) (N : News h₀ env.locals s.heap nx₀) (hj : J 0 m₀ nx₀)
    (turn : ∀ i v m₁ nx h tk oI, i < n → P i v → J i m₁ nx → (∀ p ∈ nx, p.1 ≠ I) → Fr h₀ env.locals h (fun y => if y = x then some v else m₁ y) → News h₀ env.locals h ((I, oI) :: nx) →
      wpAny (model prog w) A (execs body env) (TurnEnd h₀ env.locals I oI (J (i + 1)) Q s) E { s with heap := h, toks := tk })
    (done : ∀ m₁ nx h tk, J n m₁ nx → Fr h₀ env.locals h m₁ → News h₀ env.locals h nx → Q .next { s with heap := h, toks := tk }) :
    LoopAtV prog w A h₀ env x body Q E (.ref I) s := by
  have hL0 : h₀.get? env.locals = none := Heap.get?_none_of_le F.above
  refine ⟨I, fp, [I], n, P, St, m₀, nx₀, J, rfl, W, ?_, ?_, ?_, hst, F, N, hj, ?_, ?_⟩
  · intro hm
    rcases hsrc _ hm with e | ⟨o, e⟩ | ⟨o, e⟩
    · exact hIL e.symm
    · rw [hL0] at e; cases e
    · exact (N _ (e _ _ _ hj)).2.1 rfl
  · intro b hb
    rw [List.mem_singleton.mp hb]; exact hI0
  · intro p hp hb
    exact hInx p hp (List.mem_singleton.mp hb)
  · rintro i v m₁ news₁ s₁ own ⟨h, tk, rfl⟩ hin hP hJ hoff hown hget hfp hst' F₁ N₁
    obtain ⟨oI, hoI⟩ := hob _ _ hst'
    have hIfp : I ∈ fp := W.sub _ (List.mem_singleton.mpr rfl)
    have hIown := hfp I hIfp hI0 oI hoI
    have hoffI : ∀ p ∈ news₁, p.1 ≠ I := fun p hp e => hoff p hp (List.mem_singleton.mpr e)
    have N₂ : News h₀ env.locals h ((I, oI) :: news₁) := fun p hp => by
      rcases List.mem_cons.mp hp with rfl | hp
      · exact N₁ _ (List.mem_append.mpr (.inl hIown))
      · exact N₁ _ (List.mem_append.mpr (.inr hp))
    have fin : ∀ s₂, (∃ h' tk' m' nx, s₂ = { s with heap := h', toks := tk' } ∧ Fr h₀ env.locals h' m' ∧ News h₀ env.locals h' ((I, oI) :: nx) ∧ (∀ p ∈ nx, p.1 ≠ I) ∧ J (i + 1) m' nx) →
        LoopStepU h₀ env.locals [I] own (J (i + 1)) { s with heap := h, toks := tk } .next s₂ := by
      rintro s₂ ⟨h', tk', m', nx, rfl, F', N', ha, hJ'⟩
      refine ⟨rfl, h', tk', m', nx, rfl, F', fun p hp => ?_, fun p hp hq => ha p hp (List.mem_singleton.mp hq), hJ'⟩
      rcases List.mem_append.mp hp with hp | hp
      · have hpg := hget p hp
        have hn := (N₁ p (List.mem_append.mpr (.inl hp))).2
        rcases hsrc _ (hown p hp) with e | ⟨o, e⟩ | ⟨o, e⟩
        · have hpg' : h.get? p.1 = some p.2 := hpg
          rw [e] at hpg'
          have e2 : oI = p.2 := Option.some.inj (hoI.symm.trans hpg')
          have z := N' _ (.head _)
          rw [e2, ← e] at z
          exact z
        · rw [hn.2] at e; cases e
        · have z₁ := (N₁ _ (List.mem_append.mpr (.inr (e _ _ _ hJ)))).1
          have z₂ := N' _ (.tail _ (e _ _ _ hJ'))
          have e2 : o = p.2 := Option.some.inj (z₁.symm.trans hpg)
          rw [e2] at z₂
          exact z₂
      · exact N' p (.tail _ hp)
    refine wpAny_mono (turn i v m₁ news₁ h tk oI hin hP hJ hoffI F₁ N₂) (fun f s₂ p => ?_) fun _ _ e => e
    cases f with
    | ret v => exact .ret p
    | brk => exact .brk p
    | next => exact .next (fin _ p)
    | cont => exact .cont (fin _ p)
  · rintro h' tk m' news' F' N' _ hJ
    exact done m' news' h' tk hJ F' N'
/-- where a loop's items lie: a list or a tuple of the base, or one of the ledger -/
theorem loop_list {l : Addr} {vs : List Value} {nn : Nat} {m₀ : Str → Option Value} {nx₀ : List (Addr × Obj)} (J : Nat → (Str → Option Value) → List (Addr × Obj) → Prop) (hh : A.handled = none)
    (hl : h₀.get? l = some (listOf vs.toArray nn) ∨ ∀ i m nx, J i m nx → (l, listOf vs.toArray nn) ∈ nx) (F : Fr h₀ env.locals s.heap m₀) (N : News h₀ env.locals s.heap nx₀) (hj : J 0 m₀ nx₀)
    (turn : ∀ i v m₁ nx h tk I oI, vs[i]? = some v → J i m₁ nx → (∀ p ∈ nx, p.1 ≠ I) → Fr h₀ env.locals h (fun y => if y = x then some v else m₁ y) → News h₀ env.locals h ((I, oI) :: nx) →
      wpAny (model prog w) A (execs body env) (TurnEnd h₀ env.locals I oI (J (i + 1)) Q s) E { s with heap := h, toks := tk })
    (done : ∀ m₁ nx h tk, J vs.length m₁ nx → Fr h₀ env.locals h m₁ → News h₀ env.locals h nx → Q .next { s with heap := h, toks := tk }) :
    wpAny (model prog w) A (pyIter (.ref l)) (fun it s₂ => LoopAtV prog w A h₀ env x body Q E it s₂) E s := by
  have hol : s.heap.get? l = some (listOf vs.toArray nn) := hl.elim (fun e => F.keep _ _ e) fun e => (N _ (e _ _ _ hj)).1
  have hls : s.heap.IsList l vs.toArray := ⟨_, hol, rfl, nn, rfl⟩
  have hne : l ≠ s.heap.objs.size := Nat.ne_of_lt (Heap.lt_size hol)
  refine wpAny_pyIter_list hls ?_
  have W := Walks.list (prog := prog) (w := w) hh s.heap.objs.size l hne vs.toArray
  have hlen : vs.toArray.size = vs.length := by simp
  rw [hlen] at W
  refine loop_W J W (fun i h st => by obtain ⟨o, e, _⟩ := st.1; exact ⟨o, e⟩) (next_is_new F) (fun e => absurd F.ns.lt (e ▸ Nat.lt_irrefl _)) (fun p hp => Nat.ne_of_lt (Heap.lt_size (N p hp).1)) (fun a ha => ?_)
    ⟨⟨_, Heap.get?_push_size _ rfl, rfl, rfl⟩, hls.at fun o e => Heap.get?_push_of_some _ e⟩ (F.push _) (fun p hp => ⟨Heap.get?_push_of_some _ (N p hp).1, (N p hp).2⟩) hj ?_ ?_
  · rcases List.mem_cons.mp ha with e | e
    · exact .inl e
    · rw [List.mem_singleton.mp e]
      exact .inr (hl.imp (fun e => ⟨_, e⟩) fun e => ⟨_, e⟩)
  · intro i v m₁ nx h tk oI hi hP hJ ho F₁ N₁
    exact turn i v m₁ nx h tk _ oI (by simpa using hP) hJ ho F₁ N₁
  · intro m₁ nx h tk hJ F₁ N₁
    exact done m₁ nx h tk hJ F₁ N₁
theorem loop_tup {l : Addr} {vs : List Value} {nn : Nat} {m₀ : Str → Option Value} {nx₀ : List (Addr × Obj)} (J : Nat → (Str → Option Value) → List (Addr × Obj) → Prop) (hh : A.handled = none)
    (hl : h₀.get? l = some { cls := .type "tuple", data := .seq vs.toArray nn } ∨ ∀ i m nx, J i m nx → (l, { cls := .type "tuple", data := .seq vs.toArray nn }) ∈ nx) (F : Fr h₀ env.locals s.heap m₀) (N : News h₀ env.locals s.heap nx₀) (hj : J 0 m₀ nx₀)
    (turn : ∀ i v m₁ nx h tk I oI, vs[i]? = some v → J i m₁ nx → (∀ p ∈ nx, p.1 ≠ I) → Fr h₀ env.locals h (fun y => if y = x then some v else m₁ y) → News h₀ env.locals h ((I, oI) :: nx) →
      wpAny (model prog w) A (execs body env) (TurnEnd h₀ env.locals I oI (J (i + 1)) Q s) E { s with heap := h, toks := tk })
    (done : ∀ m₁ nx h tk, J vs.length m₁ nx → Fr h₀ env.locals h m₁ → News h₀ env.locals h nx → Q .next { s with heap := h, toks := tk }) :
    wpAny (model prog w) A (pyIter (.ref l)) (fun it s₂ => LoopAtV prog w A h₀ env x body Q E it s₂) E s := by
  have hol : s.heap.get? l = some { cls := .type "tuple", data := .seq vs.toArray nn } := hl.elim (fun e => F.keep _ _ e) fun e => (N _ (e _ _ _ hj)).1
  have hls : s.heap.IsTuple l vs.toArray := ⟨_, hol, rfl, nn, rfl⟩
  have hne : l ≠ s.heap.objs.size := Nat.ne_of_lt (Heap.lt_size hol)
  refine wpAny_pyIter_tuple hls ?_
  have W := Walks.tuple (prog := prog) (w := w) hh s.heap.objs.size l hne vs.toArray
  have hlen : vs.toArray.size = vs.length := by simp
  rw [hlen] at W
  refine loop_W J W (fun i h st => by obtain ⟨o, e, _⟩ := st.1; exact ⟨o, e⟩) (next_is_new F) (fun e => absurd F.ns.lt (e ▸ Nat.lt_irrefl _)) (fun p hp => Nat.ne_of_lt (Heap.lt_size (N p hp).1)) (fun a ha => ?_)
    ⟨⟨_, Heap.get?_push_size _ rfl, rfl, rfl⟩, ⟨_, Heap.get?_push_of_some _ hol, rfl, nn, rfl⟩⟩ (F.push _) (fun p hp => ⟨Heap.get?_push_of_some _ (N p hp).1, (N p hp).2⟩) hj ?_ ?_
  · rcases List.mem_cons.mp ha with e | e
    · exact .inl e
    · rw [List.mem_singleton.mp e]
      exact .inr (hl.imp (fun e => ⟨_, e⟩) fun e => ⟨_, e⟩)
  · intro i v m₁ nx h tk oI hi hP hJ ho F₁ N₁
    exact turn i v m₁ nx h tk _ oI (by simpa using hP) hJ ho F₁ N₁
  · intro m₁ nx h tk hJ F₁ N₁
    exact done m₁ nx h tk hJ F₁ N₁
theorem loop_range {r : Addr} {b₀ : Int} {t₀ u₀ v₀ : Tok} {n : Nat} {m₀ : Str → Option Value} {nx₀ : List (Addr × Obj)} (J : Nat → (Str → Option Value) → List (Addr × Obj) → Prop) (hh : A.handled = none)
    (hr : IsRange s.heap r 0 b₀ 1 t₀ u₀ v₀) (hsmall : Builtin.Range.small 0 b₀ 1 = true) (hsz : Builtin.Range.rangeSize 0 b₀ 1 = (n : Int)) (F : Fr h₀ env.locals s.heap m₀) (N : News h₀ env.locals s.heap nx₀) (hj : J 0 m₀ nx₀)
    (turn : ∀ i t m₁ nx h tk I oI, i < n → J i m₁ nx → (∀ p ∈ nx, p.1 ≠ I) → Fr h₀ env.locals h (fun y => if y = x then some (.int (i : Nat) t) else m₁ y) → News h₀ env.locals h ((I, oI) :: nx) →
      wpAny (model prog w) A (execs body env) (TurnEnd h₀ env.locals I oI (J (i + 1)) Q s) E { s with heap := h, toks := tk })
    (done : ∀ m₁ nx h tk, J n m₁ nx → Fr h₀ env.locals h m₁ → News h₀ env.locals h nx → Q .next { s with heap := h, toks := tk }) :
    wpAny (model prog w) A (pyIter (.ref r)) (fun it s₂ => LoopAtV prog w A h₀ env x body Q E it s₂) E s := by
  refine wpAny_pyIter_range hr hsmall ?_
  have W : Walks prog w A s.heap.objs.size [s.heap.objs.size] [s.heap.objs.size] n (fun i v => i < n ∧ ∃ t, v = .int (0 + i * 1) t)
      (fun i h => IsRangeIter h s.heap.objs.size (0 + (i : Nat) * 1) ((n : Int) - (i : Nat)) 1) := (Walks.range hh _ 0 1 n).bound
  refine loop_W J W (fun i h st => ⟨_, st⟩) (next_is_new F) (fun e => absurd F.ns.lt (e ▸ Nat.lt_irrefl _)) (fun p hp => Nat.ne_of_lt (Heap.lt_size (N p hp).1)) (fun a ha => .inl (List.mem_singleton.mp ha))
    (by show IsRangeIter _ _ _ _ _; rw [hsz]; simpa using Heap.get?_push_size _ rfl) (F.push _) (fun p hp => ⟨Heap.get?_push_of_some _ (N p hp).1, (N p hp).2⟩) hj ?_ ?_
  · rintro i v m₁ nx h tk oI hi ⟨_, t, rfl⟩ hJ ho F₁ N₁
    have e1 : (0 : Int) + (i : Int) * 1 = ((i : Nat) : Int) := by omega
    rw [e1] at F₁
    exact turn i t m₁ nx h tk _ oI hi hJ ho F₁ N₁
  · intro m₁ nx h tk hJ F₁ N₁
    exact done m₁ nx h tk hJ F₁ N₁
end
/-- the same with the frame's map told: what a turn stores is listed, all else stands -/
def TurnEndX (h₀ : Heap) (L : Addr) (I : Addr) (oI : Obj) (x : Str) (stored : List Str) (m₀ : Str → Option Value) (Jn : List (Addr × Obj) → Prop) (Q : Flow → Shared → Prop) (s : Shared) (f : Flow) (s₂ : Shared) : Prop :=
  match f with
  | .ret v => Q (.ret v) s₂
  | .brk => Q .next s₂
  | _ => ∃ h' tk m' nx, s₂ = { s with heap := h', toks := tk } ∧ Fr h₀ L h' m' ∧ News h₀ L h' ((I, oI) :: nx) ∧ (∀ p ∈ nx, p.1 ≠ I) ∧ (∀ z, z ≠ x → stored.contains z = false → m' z = m₀ z) ∧ Jn nx
def mapX (x : Str) (stored : List Str) (m₀ : Str → Option Value) (v : Option Value) (u : Str → Option Value) : Str → Option Value := fun y => if y = x then v else if stored.contains y then u y else m₀ y
theorem mapX_of {x : Str} {stored : List Str} {m₀ m₁ : Str → Option Value} (v : Option Value) (h : ∀ z, z ≠ x → stored.contains z = false → m₁ z = m₀ z) : (fun y => if y = x then v else m₁ y) = fun y => if y = x then v else if stored.contains y then m₁ y else m₀ y := by
  funext z
  by_cases h1 : z = x
  · rw [if_pos h1, if_pos h1]
  · rw [if_neg h1, if_neg h1]
    cases h2 : stored.contains z with
    | true => rfl
    | false => rw [h z h1 h2]; rfl
theorem mapX_self {x : Str} {stored : List Str} {m₀ m₁ : Str → Option Value} (h : ∀ z, z ≠ x → stored.contains z = false → m₁ z = m₀ z) : m₁ = fun y => if y = x then m₁ y else if stored.contains y then m₁ y else m₀ y := by
  funext z
  by_cases h1 : z = x
  · rw [if_pos h1]
  · rw [if_neg h1]
    cases h2 : stored.contains z with
    | true => rfl
    | false => rw [h z h1 h2]; rfl
section
variable {prog : Program} {w : World} {A : Around} {E : Value → Shared → Prop} {s : Shared} {env : Env} {h₀ : Heap} {x : Str} {body : List Stmt} {Q : Flow → Shared → Prop}
theorem TurnEndX.up {L I : Addr} {oI : Obj} {stored : List Str} {m₀ : Str → Option Value} {Jn : List (Addr × Obj) → Prop} {f : Flow} {s₂ : Shared} (h : TurnEndX h₀ L I oI x stored m₀ Jn Q s f s₂) :
    TurnEnd h₀ L I oI (fun m nx => (∀ z, z ≠ x → stored.contains z = false → m z = m₀ z) ∧ Jn nx) Q s f s₂ := by
  cases f <;> exact h
theorem loop_listX {l : Addr} {vs : List Value} {nn : Nat} {m₀ : Str → Option Value} {nx₀ : List (Addr × Obj)} (stored : List Str) (Jn : Nat → List (Addr × Obj) → Prop) (hh : A.handled = none)
    (hl : h₀.get? l = some (listOf vs.toArray nn) ∨ ∀ i nx, Jn i nx → (l, listOf vs.toArray nn) ∈ nx) (F : Fr h₀ env.locals s.heap m₀) (N : News h₀ env.locals s.heap nx₀) (hj : Jn 0 nx₀)
    (turn : ∀ i v nx h tk I oI (u : Str → Option Value), vs[i]? = some v → Jn i nx → (∀ p ∈ nx, p.1 ≠ I) → Fr h₀ env.locals h (fun y => if y = x then some v else if stored.contains y then u y else m₀ y) → News h₀ env.locals h ((I, oI) :: nx) →
      wpAny (model prog w) A (execs body env) (TurnEndX h₀ env.locals I oI x stored m₀ (Jn (i + 1)) Q s) E { s with heap := h, toks := tk })
    (done : ∀ nx h tk (u : Str → Option Value), Jn vs.length nx → Fr h₀ env.locals h (fun y => if y = x then u y else if stored.contains y then u y else m₀ y) → News h₀ env.locals h nx → Q .next { s with heap := h, toks := tk }) :
    wpAny (model prog w) A (pyIter (.ref l)) (fun it s₂ => LoopAtV prog w A h₀ env x body Q E it s₂) E s := by
  refine loop_list (fun i m nx => (∀ z, z ≠ x → stored.contains z = false → m z = m₀ z) ∧ Jn i nx) hh (hl.imp id fun e i m nx hJ => e i nx hJ.2) F N ⟨fun _ _ _ => rfl, hj⟩ ?_ ?_
  · rintro i v m₁ nx h tk I oI hi ⟨hm, hJ⟩ ho F₁ N₁
    rw [mapX_of _ hm] at F₁
    exact wpAny_mono (turn i v nx h tk I oI m₁ hi hJ ho F₁ N₁) (fun f s₂ p => p.up) fun _ _ e => e
  · rintro m₁ nx h tk ⟨hm, hJ⟩ F₁ N₁
    rw [mapX_self hm] at F₁
    exact done nx h tk m₁ hJ F₁ N₁
theorem loop_tupX {l : Addr} {vs : List Value} {nn : Nat} {m₀ : Str → Option Value} {nx₀ : List (Addr × Obj)} (stored : List Str) (Jn : Nat → List (Addr × Obj) → Prop) (hh : A.handled = none)
    (hl : h₀.get? l = some { cls := .type "tuple", data := .seq vs.toArray nn } ∨ ∀ i nx, Jn i nx → (l, { cls := .type "tuple", data := .seq vs.toArray nn }) ∈ nx) (F : Fr h₀ env.locals s.heap m₀) (N : News h₀ env.locals s.heap nx₀) (hj : Jn 0 nx₀)
    (turn : ∀ i v nx h tk I oI (u : Str → Option Value), vs[i]? = some v → Jn i nx → (∀ p ∈ nx, p.1 ≠ I) → Fr h₀ env.locals h (fun y => if y = x then some v else if stored.contains y then u y else m₀ y) → News h₀ env.locals h ((I, oI) :: nx) →
      wpAny (model prog w) A (execs body env) (TurnEndX h₀ env.locals I oI x stored m₀ (Jn (i + 1)) Q s) E { s with heap := h, toks := tk })
    (done : ∀ nx h tk (u : Str → Option Value), Jn vs.length nx → Fr h₀ env.locals h (fun y => if y = x then u y else if stored.contains y then u y else m₀ y) → News h₀ env.locals h nx → Q .next { s with heap := h, toks := tk }) :
    wpAny (model prog w) A (pyIter (.ref l)) (fun it s₂ => LoopAtV prog w A h₀ env x body Q E it s₂) E s := by
  refine loop_tup (fun i m nx => (∀ z, z ≠ x → stored.contains z = false → m z = m₀ z) ∧ Jn i nx) hh (hl.imp id fun e i m nx hJ => e i nx hJ.2) F N ⟨fun _ _ _ => rfl, hj⟩ ?_ ?_
  · rintro i v m₁ nx h tk I oI hi ⟨hm, hJ⟩ ho F₁ N₁
    rw [mapX_of _ hm] at F₁
    exact wpAny_mono (turn i v nx h tk I oI m₁ hi hJ ho F₁ N₁) (fun f s₂ p => p.up) fun _ _ e => e
  · rintro m₁ nx h tk ⟨hm, hJ⟩ F₁ N₁
    rw [mapX_self hm] at F₁
    exact done nx h tk m₁ hJ F₁ N₁
theorem loop_rangeX {r : Addr} {b₀ : Int} {t₀ u₀ v₀ : Tok} {n : Nat} {m₀ : Str → Option Value} {nx₀ : List (Addr × Obj)} (stored : List Str) (Jn : Nat → List (Addr × Obj) → Prop) (hh : A.handled = none)
    (hr : IsRange s.heap r 0 b₀ 1 t₀ u₀ v₀) (hsmall : Builtin.Range.small 0 b₀ 1 = true) (hsz : Builtin.Range.rangeSize 0 b₀ 1 = (n : Int)) (F : Fr h₀ env.locals s.heap m₀) (N : News h₀ env.locals s.heap nx₀) (hj : Jn 0 nx₀)
    (turn : ∀ i t nx h tk I oI (u : Str → Option Value), i < n → Jn i nx → (∀ p ∈ nx, p.1 ≠ I) → Fr h₀ env.locals h (fun y => if y = x then some (.int (i : Nat) t) else if stored.contains y then u y else m₀ y) → News h₀ env.locals h ((I, oI) :: nx) →
      wpAny (model prog w) A (execs body env) (TurnEndX h₀ env.locals I oI x stored m₀ (Jn (i + 1)) Q s) E { s with heap := h, toks := tk })
    (done : ∀ nx h tk (u : Str → Option Value), Jn n nx → Fr h₀ env.locals h (fun y => if y = x then u y else if stored.contains y then u y else m₀ y) → News h₀ env.locals h nx → Q .next { s with heap := h, toks := tk }) :
    wpAny (model prog w) A (pyIter (.ref r)) (fun it s₂ => LoopAtV prog w A h₀ env x body Q E it s₂) E s := by
  refine loop_range (fun i m nx => (∀ z, z ≠ x → stored.contains z = false → m z = m₀ z) ∧ Jn i nx) hh hr hsmall hsz F N ⟨fun _ _ _ => rfl, hj⟩ ?_ ?_
  · rintro i t m₁ nx h tk I oI hi ⟨hm, hJ⟩ ho F₁ N₁
    rw [mapX_of _ hm] at F₁
    exact wpAny_mono (turn i t nx h tk I oI m₁ hi hJ ho F₁ N₁) (fun f s₂ p => p.up) fun _ _ e => e
  · rintro m₁ nx h tk ⟨hm, hJ⟩ F₁ N₁
    rw [mapX_self hm] at F₁
    exact done nx h tk m₁ hJ F₁ N₁
end
/-- a list or a tuple with these items -/
def SeqAt (h : Heap) (l : Addr) (vs : List Value) : Prop := (∃ nn, h.get? l = some (listOf vs.toArray nn)) ∨ ∃ nn, h.get? l = some { cls := .type "tuple", data := .seq vs.toArray nn }
theorem SeqAt.keeps {h h' : Heap} {l : Addr} {vs : List Value} (x : SeqAt h l vs) (k : ∀ b o, h.get? b = some o → h'.get? b = some o) : SeqAt h' l vs := x.imp (fun ⟨n, e⟩ => ⟨n, k _ _ e⟩) fun ⟨n, e⟩ => ⟨n, k _ _ e⟩
section
variable {prog : Program} {w : World} {A : Around} {E : Value → Shared → Prop} {s : Shared} {env : Env} {h₀ : Heap} {x : Str} {body : List Stmt} {Q : Flow → Shared → Prop}
theorem loop_seqX {l : Addr} {vs : List Value} {m₀ : Str → Option Value} {nx₀ : List (Addr × Obj)} (stored : List Str) (Jn : Nat → List (Addr × Obj) → Prop) (hh : A.handled = none)
    (hl : SeqAt h₀ l vs) (F : Fr h₀ env.locals s.heap m₀) (N : News h₀ env.locals s.heap nx₀) (hj : Jn 0 nx₀)
    (turn : ∀ i v nx h tk I oI (u : Str → Option Value), vs[i]? = some v → Jn i nx → (∀ p ∈ nx, p.1 ≠ I) → Fr h₀ env.locals h (fun y => if y = x then some v else if stored.contains y then u y else m₀ y) → News h₀ env.locals h ((I, oI) :: nx) →
      wpAny (model prog w) A (execs body env) (TurnEndX h₀ env.locals I oI x stored m₀ (Jn (i + 1)) Q s) E { s with heap := h, toks := tk })
    (done : ∀ nx h tk (u : Str → Option Value), Jn vs.length nx → Fr h₀ env.locals h (fun y => if y = x then u y else if stored.contains y then u y else m₀ y) → News h₀ env.locals h nx → Q .next { s with heap := h, toks := tk }) :
    wpAny (model prog w) A (pyIter (.ref l)) (fun it s₂ => LoopAtV prog w A h₀ env x body Q E it s₂) E s := by
  rcases hl with ⟨nn, hl⟩ | ⟨nn, hl⟩
  · exact loop_listX stored Jn hh (.inl hl) F N hj turn done
  · exact loop_tupX stored Jn hh (.inl hl) F N hj turn done
end
theorem off_b08 : True := by
  w_top off
  exact True.intro
structure DRow (h : Heap) (vs : List Value) (ds : List Dt) : Prop where
  len : vs.length = ds.length
  at_ : ∀ (i : Nat) (v : Value) (d : Dt), vs[i]? = some v → ds[i]? = some d → DtIn h v d
  kind : ∀ d ∈ ds, ∀ d' ∈ ds, d.kind = d'.kind
theorem DRow.keeps {h h' : Heap} {vs : List Value} {ds : List Dt} (R : DRow h vs ds) (k : ∀ b o, h.get? b = some o → h'.get? b = some o) : DRow h' vs ds := ⟨R.len, fun i v d e e' => (R.at_ i v d e e').keeps k, R.kind⟩
theorem getD_some {ds : List Dt} {j : Nat} (h : j < ds.length) : ds[j]? = some (ds.getD j (.num 0)) := by simp [List.getD, h]
theorem DRow.at_j {h h' : Heap} {vs : List Value} {ds : List Dt} (R : DRow h vs ds) {j : Nat} {v : Value} {d : Dt} (e : vs[j]? = some v) (e' : ds[j]? = some d) (k : ∀ b o, h.get? b = some o → h'.get? b = some o) : DtIn h' v d := (R.at_ j v d e e').keeps k
def seenB (ds : List Dt) (i : Nat) : Bool := (List.range i).any fun j => (ds.getD j (.num 0)).eqv (ds.getD i (.num 0))
/-- no two of the first n are equal -/
def freshN (ds : List Dt) (n : Nat) : Bool := (List.range n).all fun i => !seenB ds i
theorem freshN_succ (ds : List Dt) (n : Nat) : freshN ds (n + 1) = (freshN ds n && !seenB ds n) := by
  simp [freshN, List.range_succ, List.all_append]
theorem freshN_false {ds : List Dt} {n k : Nat} (h : seenB ds n = true) (hk : n < k) : freshN ds k = false := by
  rw [freshN, List.all_eq_false]
  exact ⟨n, List.mem_range.mpr hk, by simp [h]⟩
--{
local macro_rules | `(tactic| walk_at "call builtin:list.append") => `(tactic| (k_here; (with_reducible show wpAny _ _ (call (Value.builtin _) [Value.ref _, _]) _ _ _); refine' append_K ?k1 ?k2 ?k3 ?_ ?z; (case k1 => k_asm); (case k2 => k_asm); (case k3 => k_upd); (case z => (rw [sizeLine_eq, List.size_toArray, List.length_take]; omega)); intro h' F' N'; (try k_sweep)))
--}
section
variable {prog : Program} {w : World} {A : Around} {E : Value → Shared → Prop} {s : Shared} {Q : Value → Shared → Prop}
set_option maxHeartbeats 4000000 in
theorem sp_all_unique {l : Addr} {vs : List Value} {ds : List Dt} (hd : A.depth + 1 < recursionLimit) (hu : A.units + 64 < cLine) (hh : A.handled = none) (hv : vs.length ≤ 1000) (H : Wd w s.heap)
    (hl : SeqAt s.heap l vs) (R : DRow s.heap vs ds)
    (h : ∀ h' tk, Made s.heap h' [] → Q (.bool (freshN ds ds.length)) { s with heap := h', toks := tk }) :
    wpAny (model prog w) A (call (.ref 28) [.ref l]) Q E s := by
  have H' := H
  obtain ⟨X, loose, mean, mg, mb, T⟩ := H
  walk_at "ENTER"
  intro h₁ F N
  replace F : Fr s.heap s.heap.objs.size h₁ (fun y => List.lookup y [("values", .ref l)]) := F
  dsimp only
  k_steps
  refine For_invV s.heap (by rfl) (by rfl) ?_
  walk1
  (rename Fr _ _ _ _ => F'); (rename News _ _ _ _ => N')
  rename_i S g1 l1 g2
  refine loop_seqX [] (fun i nx => freshN ds i = true ∧ ∃ n', nx = [(S, listOf (vs.take i).toArray n')]) hh hl F' N' ⟨rfl, 0, by simp⟩ ?_ ?_
  · rintro i v nx h' tk I oI u hi ⟨hf, n', rfl⟩ ho F₁ N₁
    have hSI : (@Ne Nat S I) := ho _ (.head _)
    have hlt : i < vs.length := (List.getElem?_eq_some_iff.mp hi).1
    have hz : (vs.take i).toArray.size = i := by simp; omega
    k_steps
    refine in_listW (fun j => (ds.getD j (.num 0)).eqv (ds.getD i (.num 0))) (N₁ _ (.tail _ (.head _))).1 (fun j hj => ?_) ?_
    · intro E' Q' hq
      have hj' : j < i := by rw [hz] at hj; exact hj
      have hjd : ds[j]? = some (ds.getD j (.num 0)) := getD_some (by rw [← R.len]; omega)
      have hid : ds[i]? = some (ds.getD i (.num 0)) := getD_some (by rw [← R.len]; omega)
      exact dt_eqb (by show A.units + 3 + 1 < cLine; omega) (show Wd w h' from H'.keeps F₁.keep) (R.at_j (by simp) hjd F₁.keep) (R.at_j hi hid F₁.keep) (R.kind _ (List.mem_of_getElem? hjd) _ (List.mem_of_getElem? hid)) hq
    have e : (List.range (vs.take i).toArray.size).any (fun j => (ds.getD j (.num 0)).eqv (ds.getD i (.num 0))) = seenB ds i := by rw [hz]; rfl
    rw [e]
    cases hb : seenB ds i
    · k_steps
      (rename Fr _ _ _ _ => F2); (rename News _ _ _ _ => N2)
      refine ⟨_, _, _, [(S, listOf ((vs.take i).toArray.push v) (n' + 1))], rfl, F2, N2, fun p hp => ?_, fun z h1 _ => ?_, ?_, n' + 1, ?_⟩
      · rw [List.mem_singleton.mp hp]; exact hSI
      · dsimp only; rw [if_neg h1]; rfl
      · rw [freshN_succ, hf, hb]; rfl
      · have e2 : vs.take (i + 1) = vs.take i ++ [v] := by rw [List.take_add_one, hi]; rfl
        rw [e2]; simp
    · k_steps
      dsimp only
      have e3 : freshN ds ds.length = false := freshN_false hb (by rw [← R.len]; exact hlt)
      rw [e3] at h
      exact h _ _ ⟨F₁.keep, fun _ hp => (nomatch hp)⟩
  · rintro nx h' tk u ⟨hf, n', rfl⟩ F₁ N₁
    k_steps
    dsimp only
    rw [R.len] at hf
    rw [← hf]
    exact h _ _ ⟨F₁.keep, fun _ hp => (nomatch hp)⟩
end
theorem off_b09 : True := by
  w_top off
  exact True.intro
/-- a place where the walk holds -/
def Hold (P : Prop) : Prop := P
section
variable {prog : Program} {w : World} {A : Around} {E : Value → Shared → Prop} {s : Shared} {env : Env} {h₀ : Heap} {x : Str} {body : List Stmt} {Q : Flow → Shared → Prop}
theorem For_hold {m : Str → Option Value} {px pos : Pos} {iter : Expr} (_F : Fr h₀ env.locals s.heap m) (hx : env.kindOf x = some .local)
    (hp : (env.scope.kind == .class || (env.scope.kind == .module && env.locals != env.globals)) = false)
    (h : wpAny (model prog w) A (eval iter env) (fun xv s₁ => Hold (wpAny (model prog w) A (pyIter xv) (fun it s₂ => LoopAtV prog w A h₀ env x body Q E it s₂) E s₁)) E s)
    (hs : ∀ x, foldedSetIterable iter env x = pure x := by intro _; rfl)
    (hE : PassesOwn (model prog w) A env E := by passes_own) :
    wpAny (model prog w) A (exec (.For (.Name x px) iter body [] pos) env) Q E s := For_invV h₀ hx hp h hs hE
end
section
variable {prog : Program} {w : World} {A : Around} {E : Value → Shared → Prop} {s : Shared} {env : Env} {h₀ : Heap} {x : Str} {body : List Stmt} {Q : Flow → Shared → Prop}
theorem loop_rangeN {r : Addr} {b₀ : Int} {t₀ u₀ v₀ : Tok} (n : Nat) {m₀ : Str → Option Value} {nx₀ : List (Addr × Obj)} (stored : List Str) (Jn : Nat → List (Addr × Obj) → Prop) (hh : A.handled = none)
    (hr : IsRange s.heap r 0 b₀ 1 t₀ u₀ v₀) (hb : b₀ = (n : Int)) (hn : n ≤ 1000000) (F : Fr h₀ env.locals s.heap m₀) (N : News h₀ env.locals s.heap nx₀) (hj : Jn 0 nx₀)
    (turn : ∀ i t nx h tk I oI (u : Str → Option Value), i < n → Jn i nx → (∀ p ∈ nx, p.1 ≠ I) → Fr h₀ env.locals h (fun y => if y = x then some (.int (i : Nat) t) else if stored.contains y then u y else m₀ y) → News h₀ env.locals h ((I, oI) :: nx) →
      wpAny (model prog w) A (execs body env) (TurnEndX h₀ env.locals I oI x stored m₀ (Jn (i + 1)) Q s) E { s with heap := h, toks := tk })
    (done : ∀ nx h tk (u : Str → Option Value), Jn n nx → Fr h₀ env.locals h (fun y => if y = x then u y else if stored.contains y then u y else m₀ y) → News h₀ env.locals h nx → Q .next { s with heap := h, toks := tk }) :
    Hold (wpAny (model prog w) A (pyIter (.ref r)) (fun it s₂ => LoopAtV prog w A h₀ env x body Q E it s₂) E s) := by
  subst hb
  exact loop_rangeX stored Jn hh hr (small_one (by omega) (by omega) (by omega) (by omega)) (by rw [rangeSize_one]; split <;> omega) F N hj turn done
end
theorem lst_base {h₀ h : Heap} {L l : Addr} {m : Str → Option Value} {vs : List Value} {nn : Nat} (F : Fr h₀ L h m) (hl : h₀.get? l = some (listOf vs.toArray nn)) : h.IsList l vs.toArray := ⟨_, F.keep _ _ hl, rfl, nn, rfl⟩
theorem lst_led {h₀ h : Heap} {L l : Addr} {vs : List Value} {nn : Nat} {kn : List (Addr × Obj)} (N : News h₀ L h kn) (hm : (l, listOf vs.toArray nn) ∈ kn) : h.IsList l vs.toArray := ⟨_, (N _ hm).1, rfl, nn, rfl⟩
--{
local macro_rules | `(tactic| walk_at "exec For Name Call cons nil") => `(tactic| (k_here; refine For_hold (by assumption) (by rfl) (by rfl) ?_))
local macro_rules | `(tactic| walk_at "exec For Name Name cons nil") => `(tactic| (k_here; refine For_hold (by assumption) (by rfl) (by rfl) ?_))
local macro_rules | `(tactic| walk_at "LST") => `(tactic| first | exact lst_base (by assumption) (by assumption) | exact lst_led (by assumption) (by k_mem) | exact lst_led (by assumption) (by assumption))
local macro_rules | `(tactic| walk_at "subscriptTail Name Name ref int") => `(tactic| (k_here; refine item_listL (by walk_at "LST") (by omega) (by omega) (by first | assumption | (simp only [Int.toNat_natCast]; assumption)) ?_))
local macro_rules | `(tactic| walk_at "call builtin:len") => `(tactic| (k_here; (with_reducible show wpAny _ _ (call (Value.builtin "len") [Value.ref _]) _ _ _); refine len_list (by walk_at "LST") (by simp; omega) ?_))
--}
section
variable {prog : Program} {w : World} {A : Around} {E : Value → Shared → Prop} {s : Shared} {Q : Value → Shared → Prop}
set_option maxHeartbeats 1000000 in
theorem sp_fresh {l : Addr} {vs : List Value} {nn : Nat} {ds : List Dt} (hd : A.depth + 1 < recursionLimit) (hu : A.units + 64 < cLine) (hh : A.handled = none) (hv : vs.length ≤ 1000) (H : Wd w s.heap)
    (hl : s.heap.get? l = some (listOf vs.toArray nn)) (R : DRow s.heap vs ds)
    (h : ∀ h' tk, Made s.heap h' [] → Q (.bool (freshN ds ds.length)) { s with heap := h', toks := tk }) :
    wpAny (model prog w) A (call (.ref 352) [.ref l]) Q E s := by
  have H' := H
  obtain ⟨X, loose, mean, mg, mb, T⟩ := H
  have hL : s.heap.IsList l vs.toArray := ⟨_, hl, rfl, nn, rfl⟩
  walk_at "ENTER"
  intro h₁ F N
  replace F : Fr s.heap s.heap.objs.size h₁ (fun y => List.lookup y [("row", .ref l)]) := F
  dsimp only
  k_steps
  (rename IsRange _ _ _ _ _ _ _ _ => hR); (rename Fr _ _ _ _ => F'); (rename News _ _ _ _ => N')
  refine loop_rangeN vs.length ["j"] (fun i nx => freshN ds i = true ∧ nx = []) hh hR (by simp) (by omega) F' N' ⟨rfl, rfl⟩ ?_ ?_
  · rintro i t nx h' tk I oI u hi ⟨hf, rfl⟩ ho F₁ N₁
    clear hR F' N'
    have hvi : vs[i]? = some vs[i] := List.getElem?_eq_getElem hi
    have hid : ds[i]? = some (ds.getD i (.num 0)) := getD_some (by rw [← R.len]; omega)
    k_steps
    (rename IsRange _ _ _ _ _ _ _ _ => hR); (rename Fr _ _ _ _ => F'); (rename News _ _ _ _ => N')
    refine loop_rangeN i [] (fun j nx => (List.range j).any (fun j' => (ds.getD j' (.num 0)).eqv (ds.getD i (.num 0))) = false ∧ nx = [(I, oI)]) hh hR rfl (by omega) F' N' ⟨rfl, rfl⟩ ?_ ?_
    · rintro j t2 nx h2 tk2 I2 oI2 u2 hj ⟨hs, rfl⟩ ho2 F₁ N₁
      clear hR F' N'
      have hvj : vs[j]? = some vs[j] := List.getElem?_eq_getElem (by omega)
      have hjd : ds[j]? = some (ds.getD j (.num 0)) := getD_some (by rw [← R.len]; omega)
      k_steps
      refine cmp_ofEq (dt_rc (by show A.units + 3 < cLine; omega) (show Wd w h2 from H'.keeps F₁.keep) (R.at_j hvi hid F₁.keep) (R.at_j hvj hjd F₁.keep) (R.kind _ (List.mem_of_getElem? hid) _ (List.mem_of_getElem? hjd)) ?_)
      rw [Dt.eqv_symm]
      cases hb : (ds.getD j (.num 0)).eqv (ds.getD i (.num 0))
      · k_steps
        (rename Fr _ _ _ _ => F2); (rename News _ _ _ _ => N2)
        refine ⟨_, _, _, [(I, oI)], rfl, F2, N2, ho2, fun z h1 _ => ?_, ?_, rfl⟩
        · dsimp only; rw [if_neg h1]; rfl
        · rw [List.range_succ, List.any_append, hs]; simp only [List.any_cons, List.any_nil]; rw [hb]; rfl
      · k_steps
        dsimp only
        have e3 : freshN ds ds.length = false := by
          refine freshN_false (n := i) ?_ (by rw [← R.len]; exact hi)
          exact List.any_eq_true.mpr ⟨j, List.mem_range.mpr hj, hb⟩
        rw [e3] at h
        exact h _ _ ⟨F₁.keep, fun _ hp => (nomatch hp)⟩
    · rintro nx h2 tk2 u2 ⟨hs, rfl⟩ F₁ N₁
      clear hR F' N'
      k_steps
      refine ⟨_, _, _, [], rfl, F₁, N₁, fun _ hp => (nomatch hp), fun z h1 h2 => ?_, ?_, rfl⟩
      · dsimp only
        have h3 : z ≠ "j" := fun e => by rw [e] at h2; cases h2
        rw [if_neg h3]
        simp only [List.contains_nil, Bool.false_eq_true, if_false]
        rw [if_neg h1, h2]; rfl
      · rw [freshN_succ, hf]; show (true && !seenB ds i) = true; rw [show seenB ds i = false from hs]; rfl
  · rintro nx h' tk u ⟨hf, rfl⟩ F₁ N₁
    clear hR F' N'
    k_steps
    dsimp only
    rw [R.len] at hf
    rw [← hf]
    exact h _ _ ⟨F₁.keep, fun _ hp => (nomatch hp)⟩
end
theorem off_b10 : True := by
  w_top off
  exact True.intro
def Dt.ltD : Dt → Dt → Bool
  | .num i, .num j => decide (i < j)
  | .pt x y, .pt x' y' => if x == x' then decide (y < y') else decide (x < x')
  | _, _ => false
/-- numbers or points -/
def Dt.Ord : Dt → Dt → Prop
  | .num _, .num _ => True
  | .pt .., .pt .. => True
  | _, _ => False
theorem Dt.Ord.kinds : ∀ {d e : Dt}, d.Ord e → d.kind = e.kind
  | .num _, .num _, _ => rfl
  | .pt .., .pt .., _ => rfl
theorem made_of {h₀ h : Heap} {L : Addr} {m : Str → Option Value} {kn : List (Addr × Obj)} (F : Fr h₀ L h m) (N : News h₀ L h kn) : Made h₀ h kn := ⟨F.keep, fun p hp => ⟨(N p hp).1, (N p hp).2.2⟩⟩
abbrev tupOf (vs : List Value) : Obj := { cls := .type "tuple", data := .seq vs.toArray }
section
variable {prog : Program} {w : World} {A : Around} {E : Value → Shared → Prop} {s : Shared} {Q : Value → Shared → Prop}
theorem dt_lt (hu : A.units < cLine) (H : Wd w s.heap) {v v' : Value} : ∀ {d d' : Dt}, DtIn s.heap v d → DtIn s.heap v' d' → d.Ord d' → Q (.bool (d.ltD d')) s → wpAny (model prog w) A (compareOp .Lt v v') Q E s
  | .num i, .num j, ⟨_, e⟩, ⟨_, e'⟩, _, h => by subst e e'; exact wpAny_lt_int h
  | .pt x y, .pt x' y', ⟨a, dx, tx, ty, e, h1, h2⟩, ⟨a', dx', tx', ty', e', h1', h2'⟩, _, h => by subst e e'; exact cmp_ofLt (pt_lt hu H.X h1 h1' h)
theorem dt_eq (hu : A.units < cLine) (H : Wd w s.heap) {v v' : Value} {d d' : Dt} (hd : DtIn s.heap v d) (hd' : DtIn s.heap v' d') (hk : d.kind = d'.kind) (h : Q (.bool (d.eqv d')) s) : wpAny (model prog w) A (compareOp .Eq v v') Q E s :=
  cmp_ofEq (dt_rc hu H hd hd' hk h)
set_option maxHeartbeats 1000000 in
theorem sp_sorted {v v' : Value} {d d' : Dt} (hd : A.depth + 1 < recursionLimit) (hu : A.units + 32 < cLine) (H : Wd w s.heap) (h1 : DtIn s.heap v d) (h2 : DtIn s.heap v' d') (ho : d.Ord d')
    (h : ∀ h' tk a, Made s.heap h' [(a, tupOf (if d.ltD d' then [v, v'] else [v', v]))] → Q (.ref a) { s with heap := h', toks := tk }) :
    wpAny (model prog w) A (call (.ref 42) [v, v']) Q E s := by
  have H' := H
  obtain ⟨X, loose, mean, mg, mb, T⟩ := H
  walk_at "ENTER"
  intro h₁ F N
  replace F : Fr s.heap s.heap.objs.size h₁ (fun y => List.lookup y [("second", v'), ("first", v)]) := F
  dsimp only
  k_steps
  refine dt_lt (by show A.units + 3 < cLine; omega) (show Wd w h₁ from H'.keeps F.keep) (h1.keeps F.keep) (h2.keeps F.keep) ho ?_
  cases hb : d.ltD d'
  · k_steps
    (rename Fr _ _ _ _ => F'); (rename News _ _ _ _ => N')
    rw [hb] at h
    exact h _ _ _ (made_of F' N')
  · k_steps
    (rename Fr _ _ _ _ => F'); (rename News _ _ _ _ => N')
    rw [hb] at h
    exact h _ _ _ (made_of F' N')
set_option maxHeartbeats 1000000 in
theorem sp_pair {v v' : Value} {d d' : Dt} (hd : A.depth + 2 < recursionLimit) (hu : A.units + 64 < cLine) (hh : A.handled = none) (H : Wd w s.heap) (h1 : DtIn s.heap v d) (h2 : DtIn s.heap v' d') (ho : d.Ord d')
    (h : ∀ h' tk, Made s.heap h' [] → Q (.bool true) { s with heap := h', toks := tk }) :
    wpAny (model prog w) A (call (.ref 359) [v, v']) Q E s := by
  have H' := H
  obtain ⟨X, loose, mean, mg, mb, T⟩ := H
  walk_at "ENTER"
  intro h₁ F N
  replace F : Fr s.heap s.heap.objs.size h₁ (fun y => List.lookup y [("second", v'), ("first", v)]) := F
  dsimp only
  k_steps
  refine sp_sorted (by show A.depth + 1 + 1 < _; omega) (by show A.units + 3 + 32 < _; omega) (show Wd w h₁ from H'.keeps F.keep) (h1.keeps F.keep) (h2.keeps F.keep) ho ?_
  intro h₂ tk₂ a M
  cases hb : d.ltD d'
  · rw [hb] at M
    have F₂ := M.frame F
    have N₂ := M.news F N
    replace N₂ : News s.heap s.heap.objs.size h₂ [(a, tupOf [v', v])] := N₂
    clear N F M
    k_steps
    (rename Fr _ _ _ _ => F2)
    have HW := H'.keeps F2.keep
    refine dt_lt (by show A.units + 3 < cLine; omega) HW (h1.keeps F2.keep) (h2.keeps F2.keep) ho ?_
    rw [hb]
    k_steps
    refine dt_eq (by show A.units + 3 < cLine; omega) HW (h2.keeps F2.keep) (h2.keeps F2.keep) rfl ?_
    rw [Dt.eqv_refl]
    k_steps
    refine dt_eq (by show A.units + 3 < cLine; omega) HW (h1.keeps F2.keep) (h1.keeps F2.keep) rfl ?_
    rw [Dt.eqv_refl]
    k_steps
    dsimp only
    exact h _ _ ⟨F2.keep, fun _ hp => (nomatch hp)⟩
  · rw [hb] at M
    have F₂ := M.frame F
    have N₂ := M.news F N
    replace N₂ : News s.heap s.heap.objs.size h₂ [(a, tupOf [v, v'])] := N₂
    clear N F M
    k_steps
    (rename Fr _ _ _ _ => F2)
    have HW := H'.keeps F2.keep
    refine dt_lt (by show A.units + 3 < cLine; omega) HW (h1.keeps F2.keep) (h2.keeps F2.keep) ho ?_
    rw [hb]
    k_steps
    refine dt_eq (by show A.units + 3 < cLine; omega) HW (h1.keeps F2.keep) (h1.keeps F2.keep) rfl ?_
    rw [Dt.eqv_refl]
    k_steps
    refine dt_eq (by show A.units + 3 < cLine; omega) HW (h2.keeps F2.keep) (h2.keeps F2.keep) rfl ?_
    rw [Dt.eqv_refl]
    k_steps
    dsimp only
    exact h _ _ ⟨F2.keep, fun _ hp => (nomatch hp)⟩
end
theorem off_b11 : True := by
  w_top off
  exact True.intro
section
variable {prog : Program} {w : World} {A : Around} {E : Value → Shared → Prop} {s : Shared}
/-- a def entered from a state that a base and a few new objects make up -/
theorem enterN {K : Frag} {name qual : Str} {params : Arguments} {body : List Stmt} {scope : Scope} {dV kV doc pm cdv ct oc : Value} {an od : Option Addr} {osl : Array (Option Value)} {f : Addr} {pos : List Value} {binds : List (Str × Value)} {R : Result → Shared → Prop}
    {g : Heap} {news : List (Addr × Obj)} (M : Made g s.heap news) (hsz : g.objs.size ≤ s.heap.objs.size)
    (X : K.In g) (hlim : g.NoLimit) (ho : K.lookup f = some ⟨oc, od, .func (fnOf name qual params body scope dV kV doc pm an cdv ct), osl⟩) (hcd : codeIn K cdv qual = true) (hroom : A.depth < recursionLimit)
    (hbind : BindsTo s (fnOf name qual params body scope dV kV doc pm an cdv ct) ⟨pos, []⟩ binds) (hloc : ∀ y ∈ binds, scope.names.lookup y.1 = some .local)
    (h : ∀ h₁, Fr g s.heap.objs.size h₁ (fun x => binds.reverse.lookup x) → News g s.heap.objs.size h₁ news →
      wpAny (model prog w) (A.deeper (envOf qual scope s.heap.objs.size f cdv)) (execs body (envOf qual scope s.heap.objs.size f cdv))
        (fun fl s' => R (.ok (.ret (match fl with | .ret v => v | _ => .none))) s') (fun _ _ => False) { s with heap := h₁, toks := s.toks + binds.length })
    (hcell : ∀ x ∈ scope.names, x.2 ≠ .cell) (hco : scope.isCoroutine = false := by rfl) (hgen : scope.isGenerator = false := by rfl) (hk : scope.kind = .function := by rfl) :
    codeAny (model prog w) A (.call (.ref f) ⟨pos, []⟩) R s := by
  refine codeAny_call_def (fd := fnOf name qual params body scope dV kV doc pm an cdv ct) (body := body) (binds := binds) hroom (M.stay _ _ (X _ _ ho)) rfl (hlim.keeps M.stay) (codeRec_of (X.keeps M.stay) hcd) rfl hbind hcell hloc (fun h₁ hns hk₁ => ?_) hco hgen hk
  exact wpAny_mono (h h₁ ⟨hns, fun b o e => hk₁ b o (M.stay b o e), hsz⟩ (fun p hp => ⟨hk₁ _ _ (M.new p hp).1, Nat.ne_of_lt (Heap.lt_size (M.new p hp).1), (M.new p hp).2⟩)) (fun fl s' hl => hl) fun _ _ y => y.elim
end
--{
local macro_rules | `(tactic| walk_at "ENTERN") => `(tactic| (refine' enterN ?kM ?kz ?kX ?kT ?k6 ?k7 ?k8 ?k9 ?kB ?_ ?c1 ?c2 ?c3 ?c4; (case kM => assumption); (case kz => assumption); (case kX => assumption); (case kT => exact Top.nolimit (by assumption)); (case k6 => k_is); (case k7 => k_is); (case k8 => ((try simp only [depth_under_make, depth_in1, depth_deeper]); omega)); (case k9 => first | exact BindsTo.of_eq rfl | exact binds_K (by k_in) rfl (by k_is) rfl rfl rfl); (case kB => exact locs rfl); (case c1 => decide); (case c2 => exact rfl); (case c3 => exact rfl); (case c4 => exact rfl)))
local macro_rules | `(tactic| walk_at "assign Tuple") => `(tactic| (k_here; (with_reducible show wpAny _ _ (assign (Expr.Tuple _ _ _) _ (Value.ref _)) _ _ _); k_dflt (refine' unpackN_ ?k1 ?k2 ?k3 ?k4 ?k5 ?k6 ?_; (case k1 => k_asm); (case k2 => k_asm); (case k3 => exact News.isTup (by k_asm) (by k_mem)); (case k4 => first | exact rfl | assumption); (case k5 => exact rfl); (case k6 => exact rfl); k_whole); intro h' F' N'; (try k_sweep)))
--}
section
variable {prog : Program} {w : World} {A : Around} {E : Value → Shared → Prop} {s : Shared} {Q : Value → Shared → Prop}
theorem made_push2 {h : Heap} {o₁ : Obj} (o₂ : Addr → Obj) (f₁ : o₁.isFreed = false := by rfl) (f₂ : ∀ a, (o₂ a).isFreed = false := by intro _; rfl) : Made h ((h.push o₁).push (o₂ h.objs.size)) [(h.objs.size + 1, o₂ h.objs.size), (h.objs.size, o₁)] := by
  refine ⟨fun b o e => Heap.get?_push_of_some _ (Heap.get?_push_of_some _ e), fun p hp => ?_⟩
  rcases List.mem_cons.mp hp with rfl | hp
  · refine ⟨?_, none_of_size (fun b o e => e) (Nat.le_succ _)⟩
    have := Heap.get?_push_size (h := h.push o₁) (o := o₂ h.objs.size) (f₂ _)
    rwa [Heap.size_push] at this
  · rw [List.mem_singleton.mp hp]
    exact ⟨Heap.get?_push_of_some _ (Heap.get?_push_size _ f₁), none_of_size (fun b o e => e) (Nat.le_refl _)⟩
abbrev segDict (w : World) (t₁ t₂ : Tok) (v v' : Value) : Obj := dictOf [⟨PyData.keyHash w.params "start", .str "start" t₁, v⟩, ⟨PyData.keyHash w.params "end", .str "end" t₂, v'⟩] 2
set_option maxHeartbeats 1000000 in
theorem sp_segment {v v' : Value} (hd : A.depth + 3 < recursionLimit) (hh : A.handled = none) (H : Wd w s.heap)
    (h : ∀ h' tk x dx t₁ t₂, Made s.heap h' [(x, instObj 280 dx), (dx, segDict w t₁ t₂ v v')] → Q (.ref x) { s with heap := h', toks := tk }) :
    wpAny (model prog w) A (call (.ref 280) [v, v']) Q E s := by
  obtain ⟨X, loose, mean, mg, mb, T⟩ := H
  obtain ⟨hp, g, d, tk, os⟩ := s
  have M₀ := made_push2 (h := hp) (o₁ := dictOf [] 0) (fun a => instObj 280 a)
  refine wpAny_call (make_core (makes_of X (by k_is)) (looks_findIn X (name := "__init__") (r := some (.ref 277)) (by k_is)) (fun self => bind_fn X self (by k_is)) (.inl rfl) ?_)
  have hz : hp.objs.size ≤ ((hp.push (dictOf [] 0)).push (instObj 280 hp.objs.size)).objs.size := by rw [Heap.size_push, Heap.size_push]; omega
  walk_at "ENTERN"
  intro h₁ F N
  dsimp only
  k_steps
  (rename Fr _ _ _ _ => F2); (rename News _ _ _ _ => N2)
  dsimp only [InitBack]
  exact ⟨rfl, h _ _ _ _ _ _ ⟨F2.keep, fun p hp => ⟨(N2 p (.tail _ hp)).1, (N2 p (.tail _ hp)).2.2⟩⟩⟩
end
theorem off_b12 : True := by
  w_top off
  exact True.intro
abbrev contDict (w : World) (t₁ : Tok) (v : Value) : Obj := dictOf [⟨PyData.keyHash w.params "vertices", .str "vertices" t₁, v⟩] 1
section
variable {prog : Program} {w : World} {A : Around} {E : Value → Shared → Prop} {s : Shared} {Q : Value → Shared → Prop}
set_option maxHeartbeats 1000000 in
theorem sp_contour {v : Value} (hd : A.depth + 3 < recursionLimit) (hh : A.handled = none) (H : Wd w s.heap)
    (h : ∀ h' tk x dx t₁, Made s.heap h' [(x, instObj 301 dx), (dx, contDict w t₁ v)] → Q (.ref x) { s with heap := h', toks := tk }) :
    wpAny (model prog w) A (call (.ref 301) [v]) Q E s := by
  obtain ⟨X, loose, mean, mg, mb, T⟩ := H
  obtain ⟨hp, g, d, tk, os⟩ := s
  have M₀ := made_push2 (h := hp) (o₁ := dictOf [] 0) (fun a => instObj 301 a)
  refine wpAny_call (make_core (makes_of X (by k_is)) (looks_findIn X (name := "__init__") (r := some (.ref 298)) (by k_is)) (fun self => bind_fn X self (by k_is)) (.inl rfl) ?_)
  have hz : hp.objs.size ≤ ((hp.push (dictOf [] 0)).push (instObj 301 hp.objs.size)).objs.size := by rw [Heap.size_push, Heap.size_push]; omega
  walk_at "ENTERN"
  intro h₁ F N
  dsimp only
  k_steps
  (rename Fr _ _ _ _ => F2); (rename News _ _ _ _ => N2)
  dsimp only [InitBack]
  exact ⟨rfl, h _ _ _ _ _ ⟨F2.keep, fun p hp => ⟨(N2 p hp).1, (N2 p hp).2.2⟩⟩⟩
set_option maxHeartbeats 1000000 in
theorem sp_segcls {c v v' : Value} (hd : A.depth + 4 < recursionLimit) (hh : A.handled = none) (H : Wd w s.heap)
    (h : ∀ h' tk x dx t₁ t₂, Made s.heap h' [(x, instObj 280 dx), (dx, segDict w t₁ t₂ v v')] → Q (.ref x) { s with heap := h', toks := tk }) :
    wpAny (model prog w) A (call (.ref 319) [c, v, v']) Q E s := by
  have H' := H
  obtain ⟨X, loose, mean, mg, mb, T⟩ := H
  walk_at "ENTER"
  intro h₁ F N
  replace F : Fr s.heap s.heap.objs.size h₁ (fun y => List.lookup y [("end", v'), ("start", v), ("self", c)]) := F
  dsimp only
  k_steps
  refine sp_segment (by show A.depth + 1 + 3 < _; omega) hh (show Wd w h₁ from H'.keeps F.keep) ?_
  intro h₂ tk₂ x dx t₁ t₂ M
  dsimp only
  exact h _ _ _ _ _ _ (M.back F.keep)
theorem enterC {K : Frag} {name qual : Str} {params : Arguments} {body : List Stmt} {scope : Scope} {dV kV doc pm cdv ct oc : Value} {an od : Option Addr} {osl : Array (Option Value)} {f : Addr} {pos : List Value} {binds : List (Str × Value)}
    (X : K.In s.heap) (hlim : s.heap.NoLimit) (ho : K.lookup f = some ⟨oc, od, .func (fnOf name qual params body scope dV kV doc pm an cdv ct), osl⟩) (hcd : codeIn K cdv qual = true) (hroom : A.depth < recursionLimit)
    (hbind : BindsTo s (fnOf name qual params body scope dV kV doc pm an cdv ct) ⟨pos, []⟩ binds) (hkind : (binds.all fun y => scope.names.lookup y.1 == some .local || scope.names.lookup y.1 == some .cell) = true)
    (hnd : ((cellsFrom 0 scope.names []).map (·.1)).Nodup)
    (h : ∀ h₁ tk cells, Fr s.heap s.heap.objs.size h₁ (bindL (envOfC qual scope s.heap.objs.size f cdv).kindOf binds fun _ => none) → News s.heap s.heap.objs.size h₁ cells →
      CellsAre (bindC (envOfC qual scope s.heap.objs.size f cdv).kindOf binds fun _ => none) (cellsFrom (s.heap.objs.size + 1) scope.names []) cells →
      wpAny (model prog w) (A.deeper (envOfC qual scope s.heap.objs.size f cdv)) (execs body (envOfC qual scope s.heap.objs.size f cdv))
        (fun fl s' => Q (match fl with | .ret v => v | _ => .none) s') (fun _ _ => False) { s with heap := h₁, toks := tk })
    (hco : scope.isCoroutine = false := by rfl) (hgen : scope.isGenerator = false := by rfl) (hk : scope.kind = .function := by rfl) :
    wpAny (model prog w) A (call (.ref f) pos) Q E s := by
  refine wpAny_call (codeAny_call_function (fd := fnOf name qual params body scope dV kV doc pm an cdv ct) hroom (X _ _ ho) rfl hco hgen rfl (codeRec_of X hcd) (hbind _ _ _ _ ?_))
  refine wpAny_newFunctionEnv_cells hk (kindsX hkind _) fun env' he s' x => ?_
  subst he
  refine ⟨hlim.keeps x.toInCall.keep, codeAny_func ?_⟩
  obtain ⟨h₁, tk, rfl, _⟩ := x.done
  have hk₁ := x.toInCall.keep
  obtain ⟨cells, NC, Y⟩ := Cl.news (h₀ := s.heap) (Nat.le_refl _) fun n c hm => ⟨x.cell n c (lookup_of_mem_nodup (cellsFrom_names scope.names 0 (s.heap.objs.size + 1) [] [] rfl ▸ hnd) hm), x.above n c hm⟩
  exact wpAny_mono (h h₁ tk cells ⟨x.toInCall.ns, hk₁, Nat.le_refl _⟩ NC Y) (fun fl s' hl => hl) fun _ _ y => y.elim
end
theorem off_b13 : True := by
  w_top off
  exact True.intro
--{
local macro_rules | `(tactic| walk_at "ENTERC") => `(tactic| (refine' enterC ?kX ?kT ?k6 ?k7 ?k8 ?k9 ?kB ?kD ?_ ?c2 ?c3 ?c4; (case kX => k_in); (case kT => exact Top.nolimit (by assumption)); (case k6 => k_is); (case k7 => k_is); (case k8 => ((try simp only [depth_under_make, depth_in1, depth_deeper]); omega)); (case k9 => first | exact BindsTo.of_eq rfl | exact binds_K (by k_in) rfl (by k_is) rfl rfl rfl); (case kB => exact rfl); (case kD => decide +kernel); (case c2 => exact rfl); (case c3 => exact rfl); (case c4 => exact rfl)))
--}
theorem inst_base {h₀ h : Heap} {L x C dx : Addr} {m : Str → Option Value} {od : Obj} (FF : Fr h₀ L h m) (hc : h₀.get? x = some (instObj C dx)) (hd : h₀.get? dx = some od) : InstAt h x (instObj C dx) C (some od) := ⟨FF.keep _ _ hc, rfl, rfl, FF.keep _ _ hd⟩
--{
local macro_rules | `(tactic| k_inst) => `(tactic| exact inst_base (by assumption) (by assumption) (by assumption))
--}
section
variable {prog : Program} {w : World} {A : Around} {E : Value → Shared → Prop} {s : Shared} {Q : Value → Shared → Prop}
theorem getD_at {vs : List Value} {i : Nat} (h : i < vs.length) : vs[i]? = some (vs.getD i .none) := by simp [List.getD, h]
theorem item_at {value slice : Expr} {l : Addr} {vs : List Value} {i : Nat} {u : Tok} (hl : s.heap.IsList l vs.toArray) (hi : i < vs.length) (hv : vs.length ≤ 1000) (h : Q (vs.getD i .none) s)
    (hs : subscripted slice false (.ref l) (.int (i : Int) u) = operate [.ref l, .int (i : Int) u] (getItem (.ref l) (.int (i : Int) u)) := by with_unfolding_all rfl) :
    wpAny (model prog w) A (subscriptTail value slice (.ref l) (.int (i : Int) u)) Q E s :=
  tail_any hl.typeIs slot_list_getitem.lookup (wpAny_getItem_list hl (by omega) (by omega) (by rw [Int.toNat_natCast, List.getElem?_toArray]; exact getD_at hi) h) hs
/-- the place before the i-th, the last one before the first -/
def pl (n i : Nat) : Nat := if i = 0 then n - 1 else i - 1
theorem pl_lt {n i : Nat} (h : i < n) : pl n i < n := by unfold pl; split <;> omega
theorem item_prev {value slice : Expr} {l : Addr} {vs : List Value} {i : Nat} {u : Tok} (hl : s.heap.IsList l vs.toArray) (hi : i < vs.length) (hv : vs.length ≤ 1000) (h : Q (vs.getD (pl vs.length i) .none) s)
    (hs : subscripted slice false (.ref l) (.int ((i : Int) - 1) u) = operate [.ref l, .int ((i : Int) - 1) u] (getItem (.ref l) (.int ((i : Int) - 1) u)) := by with_unfolding_all rfl) :
    wpAny (model prog w) A (subscriptTail value slice (.ref l) (.int ((i : Int) - 1) u)) Q E s := by
  refine tail_any hl.typeIs slot_list_getitem.lookup ?_ hs
  by_cases h0 : i = 0
  · subst h0
    refine wpAny_getItem_list_neg hl (by omega) (by rw [List.size_toArray]; omega) (by omega) (x := vs.getD (pl vs.length 0) .none) ?_ h
    rw [List.size_toArray, List.getElem?_toArray]
    have e : ((((0 : Nat) : Int) - 1) + (vs.length : Int)).toNat = pl vs.length 0 := by unfold pl; rw [if_pos rfl]; omega
    rw [e]
    exact getD_at (pl_lt hi)
  · refine wpAny_getItem_list hl (by omega) (by omega) (x := vs.getD (pl vs.length i) .none) ?_ h
    rw [List.getElem?_toArray]
    have e : ((i : Int) - 1).toNat = pl vs.length i := by unfold pl; rw [if_neg h0]; omega
    rw [e]
    exact getD_at (pl_lt hi)
end
section
variable {prog : Program} {w : World} {A : Around} {s : Shared} {h₀ : Heap} {L : Addr} {m : Str → Option Value} {env : Env}
open LCg
/-- a comprehension's turns by what holds between them -/
theorem comp_ind {elt : Expr} {x : Str} {scope : Scope} {cl : List (Str × Addr)} {S : List (Addr × Obj) → Prop} {P : Nat → Value → Prop} {Fin : List Value → List (Addr × Obj) → Prop} {n : Nat} {news₀ : List (Addr × Obj)}
    (J : Nat → List Value → List (Addr × Obj) → Prop) (hj : J 0 [] news₀)
    (step : ∀ i ys news v I oI C oC D m₂ h tk (E' : Value → Shared → Prop), i < n → P i v → J i ys news → NsObj oC m₂ → m₂ x = some v → Fr h₀ L h m → News h₀ L h ((I, oI) :: (C, oC) :: (D, lst ys) :: news) → Off3 I C D news → ((@Ne Nat I C) ∧ (@Ne Nat I D) ∧ (@Ne Nat C D)) →
      wpAny (model prog w) A (eval elt (compEnvC scope cl C env)) (CompEnd h₀ L m { s with heap := h, toks := tk } I oI C oC D (lst ys) S (fun y news' => J (i + 1) (ys ++ [y]) news')) E' { s with heap := h, toks := tk })
    (fin : ∀ ys news, J n ys news → Fin ys news) : CompRest prog w A h₀ L m env elt x scope cl s S P Fin n 0 [] news₀ := by
  have go : ∀ k i ys news, i + k = n → J i ys news → CompRest prog w A h₀ L m env elt x scope cl s S P Fin k i ys news := by
    intro k
    induction k with
    | zero =>
      intro i ys news e hJ
      have e' : i = n := by omega
      subst e'
      exact .zero (fin ys news hJ)
    | succ k ih =>
      intro i ys news e hJ
      refine .succ fun v I oI C oC D m₂ h tk E' hP hC hx F N off ne => ?_
      refine wpAny_mono (step i ys news v I oI C oC D m₂ h tk E' (by omega) hP hJ hC hx F N off ne) (fun y s₂ z => ?_) fun _ _ z => z
      obtain ⟨h', tk', news', e1, F', N', off', hS, hJ'⟩ := z
      exact ⟨h', tk', news', e1, F', N', off', hS, ih (i + 1) _ _ (by omega) hJ'⟩
  exact go n 0 [] news₀ (by omega) hj
theorem comp_made {S : List (Addr × Obj) → Prop} {rest : Value → List (Addr × Obj) → Prop} {s₁ : Shared} {I C D : Addr} {oI oC oD : Obj} {h h' : Heap} {tk : Nat} {news l : List (Addr × Obj)} {y : Value} (news' : List (Addr × Obj)) (FF : Fr h₀ L h m) (N : News h₀ L h ((I, oI) :: (C, oC) :: (D, oD) :: news)) (off : Off3 I C D news)
    (M : Made h h' l) (sub : ∀ p ∈ news', p ∈ l ∨ p ∈ news) (hS : S news') (r : rest y news') : CompEnd h₀ L m s₁ I oI C oC D oD S rest y { s₁ with heap := h', toks := tk } := by
  refine ⟨h', tk, news', rfl, M.frame FF, fun p hp => ?_, Off3.of fun p hp => ?_, hS, r⟩
  · have N' := M.news FF N
    rcases List.mem_cons.mp hp with rfl | hp
    · exact N' _ (List.mem_append.mpr (.inr (.head _)))
    · rcases List.mem_cons.mp hp with rfl | hp
      · exact N' _ (List.mem_append.mpr (.inr (.tail _ (.head _))))
      · rcases List.mem_cons.mp hp with rfl | hp
        · exact N' _ (List.mem_append.mpr (.inr (.tail _ (.tail _ (.head _)))))
        · rcases sub p hp with hp | hp
          · exact N' _ (List.mem_append.mpr (.inl hp))
          · exact N' _ (List.mem_append.mpr (.inr (.tail _ (.tail _ (.tail _ hp)))))
  · rcases sub p hp with hp | hp
    · have hn := (M.new p hp).2
      refine ⟨fun e => ?_, fun e => ?_, fun e => ?_⟩
      · have := (N _ (.head _)).1; rw [← e, hn] at this; cases this
      · have := (N _ (.tail _ (.head _))).1; rw [← e, hn] at this; cases this
      · have := (N _ (.tail _ (.tail _ (.head _)))).1; rw [← e, hn] at this; cases this
    · exact off.mem p hp
end
theorem off_b14 : True := by
  w_top off
  exact True.intro
section
variable {prog : Program} {w : World} {A : Around} {E : Value → Shared → Prop} {s : Shared} {Q : Value → Shared → Prop}
/-- the first n sides: the k-th goes from the vertex before the k-th to the k-th -/
def segsN (w : World) (kn : List (Addr × Obj)) (vs ys : List Value) (n : Nat) : Prop := ∀ k, k < n → ∃ x dx t₁ t₂, ys[k]? = some (.ref x) ∧ (x, instObj 280 dx) ∈ kn ∧ (dx, segDict w t₁ t₂ (vs.getD (pl vs.length k) .none) (vs.getD k .none)) ∈ kn
theorem segsN.snoc {w : World} {kn l : List (Addr × Obj)} {vs ys : List Value} {n : Nat} {x dx : Addr} {t₁ t₂ : Tok} (h : segsN w kn vs ys n) (hy : ys.length = n) (h1 : (x, instObj 280 dx) ∈ l) (h2 : (dx, segDict w t₁ t₂ (vs.getD (pl vs.length n) .none) (vs.getD n .none)) ∈ l) :
    segsN w (l ++ kn) vs (ys ++ [.ref x]) (n + 1) := by
  intro k hk
  by_cases e : k = n
  · subst e
    exact ⟨x, dx, t₁, t₂, by rw [List.getElem?_append_right (by omega), hy]; simp, List.mem_append.mpr (.inl h1), List.mem_append.mpr (.inl h2)⟩
  · obtain ⟨x', dx', t₁', t₂', a, b, c⟩ := h k (by omega)
    exact ⟨x', dx', t₁', t₂', by rw [List.getElem?_append_left (by omega)]; exact a, List.mem_append.mpr (.inr b), List.mem_append.mpr (.inr c)⟩
set_option maxHeartbeats 1000000 in
theorem sp_csegs {c : Value} {ct dct l : Addr} {t₀ : Tok} {vs : List Value} {nn : Nat} (hd : A.depth + 8 < recursionLimit) (hh : A.handled = none) (H : Wd w s.heap) (hv : vs.length ≤ 1000)
    (hc : s.heap.get? ct = some (instObj 301 dct)) (hdc : s.heap.get? dct = some (contDict w t₀ (.ref l))) (hl : s.heap.get? l = some (listOf vs.toArray nn))
    (h : ∀ h' tk D ys kn, ys.length = vs.length → segsN w kn vs ys vs.length → Made s.heap h' ((D, listOf ys.toArray ys.length) :: kn) → Q (.ref D) { s with heap := h', toks := tk }) :
    wpAny (model prog w) A (call (.ref 324) [c, .ref ct]) Q E s := by
  have H' := H
  obtain ⟨X, loose, mean, mg, mb, T⟩ := H
  walk_at "ENTERC"
  intro h₁ tk cells F N Y
  k_cells Y
  k_steps
  (rename IsRange _ _ _ _ _ _ _ _ => hR); (rename Fr _ _ _ _ => F')
  obtain ⟨oc, N', hoc⟩ : ∃ oc, News s.heap s.heap.objs.size _ [(s.heap.objs.size + 1, oc)] ∧ oc.data = .cell (some (.ref l)) := ⟨_, by assumption, by assumption⟩
  refine LCg.CompSrc.range (n := vs.length) hh F' N' hR (small_one (by omega) (by omega) (by rw [List.size_toArray]; omega) (by rw [List.size_toArray]; omega)) (by rw [rangeSize_one, List.size_toArray]; split <;> omega) (by rw [sizeLine_eq]; omega) (fun g => ?_)
  dsimp only
  refine comp_ind (fun i ys news => ys.length = i ∧ ∃ kn, news = (s.heap.objs.size + 1, oc) :: kn ∧ segsN w kn vs ys i) ⟨rfl, [], rfl, fun k hk => absurd hk (Nat.not_lt_zero _)⟩ ?_ ?_
  · clear hR F' N'
    rintro i ys news v I oI C oC D m₂ h₂ tk₂ E' hi ⟨t, rfl⟩ ⟨hy, kn, rfl, hsg⟩ hC hx F₂ N₂ off ne
    rw [Int.zero_add] at hx
    dsimp only
    k_steps
    refine item_prev (lst_base F₂ hl) hi hv ?_
    k_steps
    refine item_at (lst_base F₂ hl) hi hv ?_
    k_steps
    refine sp_segment (by show A.depth + 1 + 3 < _; omega) hh (show Wd w h₂ from H'.keeps F₂.keep) ?_
    intro h₃ tk₃ x dx t₁ t₂ M
    dsimp only
    refine comp_made ((s.heap.objs.size + 1, oc) :: ([(x, instObj 280 dx), (dx, segDict w t₁ t₂ _ _)] ++ kn)) F₂ N₂ off M (fun p hp => ?_) trivial ⟨?_, _, rfl, hsg.snoc hy (.head _) (.tail _ (.head _))⟩
    · rcases List.mem_cons.mp hp with rfl | hp
      · exact .inr (.head _)
      · exact (List.mem_append.mp hp).imp id fun hp => .tail _ hp
    · rw [List.length_append, hy]; rfl
  · rintro ys news ⟨hy, kn, rfl, hsg⟩
    clear hR F' N'
    k_steps
    (rename Fr _ _ _ _ => F3); (rename News _ _ _ _ => N3)
    exact h _ _ _ ys kn hy hsg ⟨F3.keep, fun p hp => by
      have hp' : p ∈ (_, LCg.lst ys) :: (s.heap.objs.size + 1, oc) :: kn := (List.mem_cons.mp hp).elim (fun e => List.mem_cons.mpr (.inl e)) fun hp => .tail _ (.tail _ hp)
      exact ⟨(N3 p hp').1, (N3 p hp').2.2⟩⟩
end
theorem off_b15 : True := by
  w_top off
  exact True.intro
/-- rows of two ints in a base -/
def TupN (h : Heap) (ws : List Value) (X Y : Nat → Int) (n : Nat) : Prop := ∀ k, k < n → ∃ a ta tb nn, ws[k]? = some (.ref a) ∧ h.get? a = some { cls := .type "tuple", data := .seq #[.int (X k) ta, .int (Y k) tb] nn }
/-- points of a ledger -/
def PtN (kn : List (Addr × Obj)) (ys : List Value) (X Y : Nat → Int) (n : Nat) : Prop := ∀ k, k < n → ∃ a dx tx ty, ys[k]? = some (.ref a) ∧ (a, ptObj dx (X k) (Y k) tx ty) ∈ kn ∧ (dx, emptyDict) ∈ kn
theorem PtN.mono {kn kn' : List (Addr × Obj)} {ys : List Value} {X Y : Nat → Int} {n : Nat} (h : PtN kn ys X Y n) (s : ∀ p ∈ kn, p ∈ kn') : PtN kn' ys X Y n := fun k hk => let ⟨a, dx, tx, ty, e, m1, m2⟩ := h k hk; ⟨a, dx, tx, ty, e, s _ m1, s _ m2⟩
theorem segsN.mono {w : World} {kn kn' : List (Addr × Obj)} {vs ys : List Value} {n : Nat} (h : segsN w kn vs ys n) (s : ∀ p ∈ kn, p ∈ kn') : segsN w kn' vs ys n := fun k hk => let ⟨a, dx, tx, ty, e, m1, m2⟩ := h k hk; ⟨a, dx, tx, ty, e, s _ m1, s _ m2⟩
theorem PtN.snoc {kn l : List (Addr × Obj)} {ys : List Value} {X Y : Nat → Int} {n : Nat} {a dx : Addr} {tx ty : Tok} (h : PtN kn ys X Y n) (hy : ys.length = n) (h1 : (a, ptObj dx (X n) (Y n) tx ty) ∈ l) (h2 : (dx, emptyDict) ∈ l) : PtN (l ++ kn) (ys ++ [.ref a]) X Y (n + 1) := by
  intro k hk
  by_cases e : k = n
  · subst e
    exact ⟨a, dx, tx, ty, by rw [List.getElem?_append_right (by omega), hy]; simp, List.mem_append.mpr (.inl h1), List.mem_append.mpr (.inl h2)⟩
  · obtain ⟨x', dx', t₁', t₂', a, b, c⟩ := h k (by omega)
    exact ⟨x', dx', t₁', t₂', by rw [List.getElem?_append_left (by omega)]; exact a, List.mem_append.mpr (.inr b), List.mem_append.mpr (.inr c)⟩
section
variable {prog : Program} {w : World} {A : Around} {E : Value → Shared → Prop} {s : Shared} {Q : Value → Shared → Prop} {h₀ : Heap} {L : Addr} {m : Str → Option Value} {kn : List (Addr × Obj)}
theorem attr_xK {x y : Int} {a dx : Addr} {tx ty : Tok} (FF : Fr h₀ L s.heap m) (N : News h₀ L s.heap kn) (H : Wd w h₀) (hd : A.depth + 1 < recursionLimit) (m1 : (a, ptObj dx x y tx ty) ∈ kn) (m2 : (dx, emptyDict) ∈ kn)
    (h : ∀ h' tk, Fr h₀ L h' m → News h₀ L h' kn → Q (.int x tx) { s with heap := h', toks := tk }) : wpAny (model prog w) A (getAttr (.ref a) "x" true) Q E s :=
  attr_x hd (H.keeps FF.keep) (N _ m1).1 (N _ m2).1 fun h' tk M => h h' tk (M.frame FF) (M.news FF N)
theorem attr_yK {x y : Int} {a dx : Addr} {tx ty : Tok} (FF : Fr h₀ L s.heap m) (N : News h₀ L s.heap kn) (H : Wd w h₀) (hd : A.depth + 1 < recursionLimit) (m1 : (a, ptObj dx x y tx ty) ∈ kn) (m2 : (dx, emptyDict) ∈ kn)
    (h : ∀ h' tk, Fr h₀ L h' m → News h₀ L h' kn → Q (.int y ty) { s with heap := h', toks := tk }) : wpAny (model prog w) A (getAttr (.ref a) "y" true) Q E s :=
  attr_y hd (H.keeps FF.keep) (N _ m1).1 (N _ m2).1 fun h' tk M => h h' tk (M.frame FF) (M.news FF N)
theorem tup2_ne {a b : Addr} {x y x' y' : Int} {tx ty tx' ty' : Tok} {n n' : Nat} (hu : A.units < cLine) (ha : s.heap.get? a = some { cls := .type "tuple", data := .seq #[.int x tx, .int y ty] n })
    (hb : s.heap.get? b = some { cls := .type "tuple", data := .seq #[.int x' tx', .int y' ty'] n' }) (h : Q (.bool (!(x == x' && y == y'))) s) : wpAny (model prog w) A (compareOp .NotEq (.ref a) (.ref b)) Q E s := by
  refine cmp_ofNotEq (SeqAt.RcNeAt.tuples (items := #[.int x tx, .int y ty]) (items2 := #[.int x' tx', .int y' ty']) (e := fun j => if j = 0 then x == x' else y == y') ⟨_, ha, rfl, n, rfl⟩ ⟨_, hb, rfl, n', rfl⟩ hu (fun j p q => ?_) prog w E Q (by simpa [List.range_succ] using h))
  match j, p with
  | 0, _ => exact SeqAt.EqAt.int_int _ _ _ _
  | 1, _ => exact SeqAt.EqAt.int_int _ _ _ _
theorem tup2_item0 {value slice : Expr} {a : Addr} {x y : Int} {tx ty u : Tok} {n : Nat} (ha : s.heap.get? a = some { cls := .type "tuple", data := .seq #[.int x tx, .int y ty] n }) (h : Q (.int x tx) s)
    (hs : subscripted slice false (.ref a) (.int 0 u) = operate [.ref a, .int 0 u] (getItem (.ref a) (.int 0 u)) := by with_unfolding_all rfl) : wpAny (model prog w) A (subscriptTail value slice (.ref a) (.int 0 u)) Q E s :=
  item_tupleT (l := [.int x tx, .int y ty]) ⟨_, ha, rfl, n, rfl⟩ (by decide) (by decide) (by rfl) (by rfl) h hs
theorem tup2_item1 {value slice : Expr} {a : Addr} {x y : Int} {tx ty u : Tok} {n : Nat} (ha : s.heap.get? a = some { cls := .type "tuple", data := .seq #[.int x tx, .int y ty] n }) (h : Q (.int y ty) s)
    (hs : subscripted slice false (.ref a) (.int 1 u) = operate [.ref a, .int 1 u] (getItem (.ref a) (.int 1 u)) := by with_unfolding_all rfl) : wpAny (model prog w) A (subscriptTail value slice (.ref a) (.int 1 u)) Q E s :=
  item_tupleT (l := [.int x tx, .int y ty]) ⟨_, ha, rfl, n, rfl⟩ (by decide) (by decide) (by rfl) (by rfl) h hs
end
theorem off_b16 : True := by
  w_top off
  exact True.intro
--{
local macro_rules | `(tactic| k_mem) => `(tactic| assumption)
local macro_rules | `(tactic| walk_at "getAttr ref") => `(tactic| (k_here; (with_reducible show wpAny _ _ (getAttr (Value.ref _) (PySem.Str.ofString "x") true) _ _ _); refine attr_xK (by assumption) (by assumption) (by assumption) (by walk_at "ROOM") (by k_mem) (by k_mem) ?_; intro h' tk' F' N'; (try k_sweep)))
local macro_rules | `(tactic| walk_at "getAttr ref") => `(tactic| (k_here; (with_reducible show wpAny _ _ (getAttr (Value.ref _) (PySem.Str.ofString "y") true) _ _ _); refine attr_yK (by assumption) (by assumption) (by assumption) (by walk_at "ROOM") (by k_mem) (by k_mem) ?_; intro h' tk' F' N'; (try k_sweep)))
local macro_rules | `(tactic| walk_at "ROOM") => `(tactic| ((try simp only [depth_under_make, depth_in1, depth_deeper]); omega))
local macro_rules | `(tactic| walk_at "exec Assign cons ListComp") => `(tactic| (k_here; k_dflt (refine LCg.Assign_ListComp_U (F₀ := by k_asm) (by rfl) (by with_unfolding_all rfl) (by rfl) (by decide) (by rfl) (by decide) (by rfl) (by rfl) (by rfl) ?_)))
local macro_rules | `(tactic| walk_at "unpackItems ref") => `(tactic| (k_here; k_dflt (refine' unpackItemsN_ ?k1 ?k2 ?k3 ?k4 ?k5 ?_; (case k1 => k_asm); (case k2 => k_asm); (case k3 => exact News.isTup (by k_asm) (by k_mem)); (case k4 => first | exact rfl | assumption); (case k5 => exact rfl); k_whole); intro h' F' N'; (try k_sweep)))
--}
section
variable {prog : Program} {w : World} {A : Around} {E : Value → Shared → Prop} {s : Shared} {Q : Value → Shared → Prop}
set_option maxHeartbeats 2000000 in
theorem sp_sides {ctx dctx l : Addr} {ws : List Value} {nn : Nat} {Xf Yf : Nat → Int} (hd : A.depth + 16 < recursionLimit) (hu : A.units + 64 < cLine) (hh : A.handled = none) (H : Wd w s.heap) (hv : ws.length ≤ 1000)
    (hc : s.heap.get? ctx = some (instObj 341 dctx)) (hdc : s.heap.get? dctx = some (dictOf [] 0)) (hl : s.heap.get? l = some (listOf ws.toArray nn)) (hw : TupN s.heap ws Xf Yf ws.length)
    (h : ∀ h' tk, Made s.heap h' [] → Q (.bool true) { s with heap := h', toks := tk }) :
    wpAny (model prog w) A (call (.ref 364) [.ref ctx, .ref l]) Q E s := by
  have H' := H
  obtain ⟨X, loose, mean, mg, mb, T⟩ := H
  walk_at "ENTER"
  intro h₁ F N
  replace F : Fr s.heap s.heap.objs.size h₁ (fun y => List.lookup y [("rows", .ref l), ("context", .ref ctx)]) := F
  dsimp only
  k_steps
  refine LCg.CompSrc.base (its := ws.toArray) hh F N ⟨_, hl, rfl, nn, rfl⟩ (by rw [List.size_toArray, sizeLine_eq]; omega) (fun g => ?_)
  have hz : ws.toArray.size = ws.length := by simp
  rw [hz]
  dsimp only
  refine comp_ind (fun i ys news => ys.length = i ∧ PtN news ys Xf Yf i) ⟨rfl, fun k hk => absurd hk (Nat.not_lt_zero _)⟩ ?_ ?_
  · clear F N
    rintro i ys news v I oI C oC D m₂ h₂ tk₂ E' hi hP ⟨hy, hpt⟩ hC hx F₂ N₂ off ne
    obtain ⟨a, ta, tb, n2, hwa, hga⟩ := hw i hi
    have hva : v = .ref a := by
      have hP' : ws[i]? = some v := by simpa using hP
      rw [hwa] at hP'; exact (Option.some.inj hP').symm
    subst hva
    have hga' := F₂.keep _ _ hga
    dsimp only
    k_steps
    refine tup2_item0 hga' ?_
    k_steps
    refine tup2_item1 hga' ?_
    k_steps
    refine mk_pt (by show A.depth + 1 + 3 < _; omega) (show Wd w h₂ from H'.keeps F₂.keep) ?_
    intro h₃ tk₃ p dp M
    dsimp only
    exact comp_made ([(p, ptObj dp (Xf i) (Yf i) ta tb), (dp, emptyDict)] ++ news) F₂ N₂ off M (fun p hp => List.mem_append.mp hp) (.inl ⟨_, hl, rfl, nn, rfl⟩) ⟨by rw [List.length_append, hy]; rfl, hpt.snoc hy (.head _) (.tail _ (.head _))⟩
  · rintro ys kn ⟨hy, hpt⟩
    clear F N
    k_steps
    (rename Fr _ _ _ _ => F2); (rename News _ _ _ _ => N2)
    rename_i Dh g2 tk2 o1
    clear o1
    have hyz : ys.length ≤ 1000 := by omega
    refine sp_contour (by show A.depth + 1 + 3 < _; omega) hh (show Wd w g2 from H'.keeps F2.keep) ?_
    intro g3 tk3 ct dct t₁ M
    have F3 := M.frame F2
    have N3 := M.news F2 N2
    clear F2 N2 M
    dsimp only
    k_steps
    refine sp_csegs (l := Dh) (vs := ys) (nn := ys.length) (by show A.depth + 1 + 8 < _; omega) hh (show Wd w g3 from H'.keeps F3.keep) hyz (N3 (ct, instObj 301 dct) (by simp)).1 (N3 (dct, contDict w t₁ (.ref Dh)) (by simp)).1 (N3 (Dh, listOf ys.toArray ys.length) (by simp)).1 ?_
    intro g4 tk4 Ds zs kn2 hzl hsg M
    have F4 := M.frame F3
    have N4 := M.news F3 N3
    clear F3 N3 M
    dsimp only
    have m1 : (Ds, listOf zs.toArray zs.length) ∈ ((Ds, listOf zs.toArray zs.length) :: kn2) ++ ([(ct, instObj 301 dct), (dct, contDict w t₁ (.ref Dh))] ++ (Dh, LCg.lst ys) :: kn) := by simp
    have m2 : (Dh, listOf ys.toArray ys.length) ∈ ((Ds, listOf zs.toArray zs.length) :: kn2) ++ ([(ct, instObj 301 dct), (dct, contDict w t₁ (.ref Dh))] ++ (Dh, LCg.lst ys) :: kn) := by simp
    replace hpt := hpt.mono (kn' := ((Ds, listOf zs.toArray zs.length) :: kn2) ++ ([(ct, instObj 301 dct), (dct, contDict w t₁ (.ref Dh))] ++ (Dh, LCg.lst ys) :: kn)) (fun p hp => by simp [hp])
    replace hsg := hsg.mono (kn' := ((Ds, listOf zs.toArray zs.length) :: kn2) ++ ([(ct, instObj 301 dct), (dct, contDict w t₁ (.ref Dh))] ++ (Dh, LCg.lst ys) :: kn)) (fun p hp => by simp [hp])
    generalize ((Ds, listOf zs.toArray zs.length) :: kn2) ++ ([(ct, instObj 301 dct), (dct, contDict w t₁ (.ref Dh))] ++ (Dh, LCg.lst ys) :: kn) = kq at N4 m1 m2 hpt hsg
    have e1 : zs.toArray.size = ws.length := by rw [List.size_toArray]; omega
    have e2 : ys.toArray.size = ws.length := by rw [List.size_toArray]; omega
    k_steps
    · exfalso; omega
    · exfalso; omega
    (rename IsRange _ _ _ _ _ _ _ _ => hR); (rename Fr _ _ _ _ => F5); (rename News _ _ _ _ => N5)
    refine loop_rangeN ws.length ["start", "end", "one"] (fun _ nx => nx = kq) hh hR (by rw [hz]) (by omega) F5 N5 rfl ?_ ?_
    · rintro k t nx h6 tk6 I oI u hk rfl ho F6 N6
      clear hR F5 N5
      obtain ⟨ra, ta, tb, n1, hr1, hg1⟩ := hw k hk
      obtain ⟨rb, tc, td, n2, hr2, hg2⟩ := hw (pl ws.length k) (pl_lt hk)
      obtain ⟨sx, sdx, t3, t4, hs, ms1, ms2⟩ := hsg k (by omega)
      obtain ⟨pa, pdx, t5, t6, hp1, mp1, mp2⟩ := hpt k hk
      obtain ⟨pb, qdx, t7, t8, hp2, mq1, mq2⟩ := hpt (pl ws.length k) (pl_lt hk)
      have d1 : ws.getD k .none = .ref ra := by simp [List.getD, hr1]
      have d2 : ws.getD (pl ws.length k) .none = .ref rb := by simp [List.getD, hr2]
      have d3 : zs.getD k .none = .ref sx := by simp [List.getD, hs]
      have d4 : ys.getD k .none = .ref pa := by simp [List.getD, hp1]
      have d5 : ys.getD (pl ys.length k) .none = .ref pb := by rw [hy]; simp [List.getD, hp2]
      rw [d4, d5] at ms2
      k_steps
      refine item_prev (lst_base F6 hl) hk hv ?_
      rw [d2]
      k_steps
      (rename Fr _ _ _ _ => F7); (rename News _ _ _ _ => N7)
      refine tup2_ne (by show A.units + 3 < cLine; omega) (N7 _ (.head _)).1 (F7.keep _ _ hg2) ?_
      simp only [beq_self_eq_true, Bool.and_self, Bool.not_true]
      k_steps
      (rename Fr _ _ _ _ => F7); (rename News _ _ _ _ => N7)
      refine tup2_ne (by show A.units + 3 < cLine; omega) (N7 _ (.head _)).1 (F7.keep _ _ hg1) ?_
      simp only [beq_self_eq_true, Bool.and_self, Bool.not_true]
      k_steps
      (rename Fr _ _ _ _ => F7); (rename News _ _ _ _ => N7)
      refine tup2_ne (by show A.units + 3 < cLine; omega) (N7 _ (.head _)).1 (F7.keep _ _ hg1) ?_
      simp only [beq_self_eq_true, Bool.and_self, Bool.not_true]
      k_steps
      (rename Fr _ _ _ _ => F8); (rename News _ _ _ _ => N8)
      refine ⟨_, _, _, nx, rfl, F8, fun p hp => N8 p (by repeat (first | exact hp | refine List.Mem.tail _ ?_)), ho, fun z z1 z2 => ?_, rfl⟩
      have z3 := z2
      simp only [List.contains_cons, List.contains_nil, Bool.or_false, Bool.or_eq_false_iff, beq_eq_false_iff_ne] at z3
      obtain ⟨a1, a2, a3⟩ := z3
      simp only [if_neg a3, if_neg a1, if_neg a2, if_neg z1, z2, Bool.false_eq_true, if_false]
    · rintro nx h6 tk6 u rfl F6 N6
      clear hR F5 N5
      k_steps
      dsimp only
      exact h _ _ ⟨F6.keep, fun _ hp => (nomatch hp)⟩
end
theorem off_b17 : True := by
  w_top off
  exact True.intro
section
variable {prog : Program} {w : World} {A : Around} {E : Value → Shared → Prop} {s : Shared} {Q : Value → Shared → Prop}
set_option maxHeartbeats 1000000 in
theorem sp_left {n : Int} {t : Tok} (hd : A.depth + 2 < recursionLimit) (H : Wd w s.heap) (h : ∀ h' tk t', Made s.heap h' [] → Q (.int (2 * n) t') { s with heap := h', toks := tk }) :
    wpAny (model prog w) A (call (.ref 63) [.int n t]) Q E s := by
  have H' := H
  obtain ⟨X, loose, mean, mg, mb, T⟩ := H
  walk_at "ENTER"
  intro h₁ F N
  dsimp only
  k_steps
  refine sp_event (by show A.depth + 1 + 1 < _; omega) (show Wd w h₁ from H'.keeps F.keep) ?_
  intro h₂ tk₂ M
  exact h _ _ _ ⟨fun b o e => M b o (F.keep b o e), fun _ hp => (nomatch hp)⟩
set_option maxHeartbeats 1000000 in
theorem sp_right {n : Int} {t : Tok} (hd : A.depth + 2 < recursionLimit) (H : Wd w s.heap) (h : ∀ h' tk t', Made s.heap h' [] → Q (.int (2 * n + 1) t') { s with heap := h', toks := tk }) :
    wpAny (model prog w) A (call (.ref 70) [.int n t]) Q E s := by
  have H' := H
  obtain ⟨X, loose, mean, mg, mb, T⟩ := H
  walk_at "ENTER"
  intro h₁ F N
  dsimp only
  k_steps
  refine sp_event (by show A.depth + 1 + 1 < _; omega) (show Wd w h₁ from H'.keeps F.keep) ?_
  intro h₂ tk₂ M
  exact h _ _ _ ⟨fun b o e => M b o (F.keep b o e), fun _ hp => (nomatch hp)⟩
set_option maxHeartbeats 1000000 in
theorem sp_isleft {n : Int} {t : Tok} (hd : A.depth + 2 < recursionLimit) (H : Wd w s.heap) (h : ∀ h' tk, Made s.heap h' [] → Q (.bool (n % 2 == 0)) { s with heap := h', toks := tk }) :
    wpAny (model prog w) A (call (.ref 56) [.int n t]) Q E s := by
  have H' := H
  obtain ⟨X, loose, mean, mg, mb, T⟩ := H
  walk_at "ENTER"
  intro h₁ F N
  dsimp only
  k_steps
  refine sp_is_even (by show A.depth + 1 + 1 < _; omega) (show Wd w h₁ from H'.keeps F.keep) ?_
  intro h₂ tk₂ M
  exact h _ _ ⟨fun b o e => M b o (F.keep b o e), fun _ hp => (nomatch hp)⟩
/-- a row's statement apart from the rest -/
theorem cut {M : Model} {A : Around} {E : Value → Shared → Prop} {s : Shared} {env : Env} {st : Stmt} {rest : List Stmt} {Q : Flow → Shared → Prop} (P : Shared → Prop)
    (h : wpAny M A (exec st env) (fun f s' => match f with | .next => P s' | _ => False) (fun _ _ => False) s) (h2 : ∀ s', P s' → wpAny M A (execs rest env) Q E s') : wpAny M A (execs (st :: rest) env) Q E s :=
  wpAny_execs_cons (wpAny_mono h (fun f s' x => by cases f <;> first | exact h2 s' x | exact x.elim) fun _ _ x => x.elim)
end
/-- n ints in a row -/
structure NumN (vs : List Value) (f : Nat → Int) (n : Nat) : Prop where
  len : vs.length = n
  at_ : ∀ k, k < n → ∃ t, vs[k]? = some (.int (f k) t)
theorem NumN.snoc {ys : List Value} {f : Nat → Int} {n : Nat} {z : Int} {t : Tok} (h : NumN ys f n) (e : z = f n) : NumN (ys ++ [.int z t]) f (n + 1) := by
  refine ⟨by simp [h.len], fun k hk => ?_⟩
  by_cases e' : k = n
  · subst e' e
    exact ⟨t, by rw [List.getElem?_append_right (by rw [h.len]; omega), h.len]; simp⟩
  · obtain ⟨t', a⟩ := h.at_ k (by omega)
    exact ⟨t', by rw [List.getElem?_append_left (by rw [h.len]; omega)]; exact a⟩
theorem NumN.of_ints : ∀ {vs : List Value} {ns : List Int}, IntsAre vs ns → NumN vs (fun k => ns.getD k 0) ns.length := by
  intro vs ns h
  refine ⟨IntsAre.length h, fun k hk => ?_⟩
  exact IntsAre.get h k (ns.getD k 0) (by simp [List.getD, hk])
theorem map_if (x : Str) (v : Value) (rest : List (Str × Value)) : (fun y : Str => if y = x then some v else List.lookup y rest) = fun y => List.lookup y ((x, v) :: rest) := by
  funext y
  by_cases hy : y = x
  · subst hy; rw [if_pos rfl, List.lookup_cons_self]
  · rw [if_neg hy]
    show _ = (match y == x with | true => _ | false => _)
    rw [beq_false_of_ne hy]
/-- behind the first row: numbers are a row of one to twenty ints -/
def LawA (s₁ : Shared) (l : Value) (s' : Shared) : Prop :=
  ∃ h tk a vs nn f n, s' = { s₁ with heap := h, toks := tk } ∧ Fr s₁.heap s₁.heap.objs.size h (fun y => List.lookup y [("numbers", .ref a), ("script", l)]) ∧ News s₁.heap s₁.heap.objs.size h [(a, listOf vs.toArray nn)] ∧ NumN vs f n ∧ 1 ≤ n ∧ n ≤ 20
theorem LawA.mk {s₁ : Shared} {l : Value} {h : Heap} {tk : Nat} {a : Addr} {vs : List Value} {nn : Nat} {ns : List Int} {kn : List (Addr × Obj)} (F : Fr s₁.heap s₁.heap.objs.size h (fun y => if y = "numbers" then some (.ref a) else List.lookup y [("script", l)])) (N : News s₁.heap s₁.heap.objs.size h kn)
    (hk : (a, listOf vs.toArray nn) ∈ kn) (hI : IntsAre vs ns) (h1 : ns ≠ []) (h2 : ns.length ≤ 20) : LawA s₁ l { s₁ with heap := h, toks := tk } := by
  refine ⟨h, tk, a, vs, nn, _, _, rfl, ?_, fun p hp => ?_, NumN.of_ints hI, List.length_pos_iff.mpr h1, h2⟩
  · rw [← map_if]; exact F
  · rw [List.mem_singleton.mp hp]; exact N _ hk
/-- rows of two ints of a ledger -/
def LiN (kn : List (Addr × Obj)) (ys : List Value) (X Y : Nat → Int) (n : Nat) : Prop := ∀ k, k < n → ∃ a tx ty nn, ys[k]? = some (.ref a) ∧ (a, listOf #[.int (X k) tx, .int (Y k) ty] nn) ∈ kn
theorem LiN.mono {kn kn' : List (Addr × Obj)} {ys : List Value} {X Y : Nat → Int} {n : Nat} (h : LiN kn ys X Y n) (s : ∀ p ∈ kn, p ∈ kn') : LiN kn' ys X Y n := fun k hk => let ⟨a, tx, ty, nn, e, m1⟩ := h k hk; ⟨a, tx, ty, nn, e, s _ m1⟩
theorem LiN.snoc {kn : List (Addr × Obj)} {ys : List Value} {X Y : Nat → Int} {n : Nat} {a : Addr} {tx ty : Tok} {nn : Nat} (h : LiN kn ys X Y n) (hy : ys.length = n) : LiN ((a, listOf #[.int (X n) tx, .int (Y n) ty] nn) :: kn) (ys ++ [.ref a]) X Y (n + 1) := by
  intro k hk
  by_cases e : k = n
  · subst e
    exact ⟨a, tx, ty, nn, by rw [List.getElem?_append_right (by omega), hy]; simp, .head _⟩
  · obtain ⟨a', tx', ty', nn', e1, e2⟩ := h k (by omega)
    exact ⟨a', tx', ty', nn', by rw [List.getElem?_append_left (by omega)]; exact e1, .tail _ e2⟩
section
variable {M : Model} {A : Around} {E : Value → Shared → Prop} {s : Shared} {env : Env} {st st2 st3 : Stmt} {rest : List Stmt} {Q : Flow → Shared → Prop}
theorem cut3 (P : Shared → Prop)
    (h : wpAny M A (exec st env) (fun f s' => match f with | .next => wpAny M A (exec st2 env) (fun f s' => match f with | .next => wpAny M A (exec st3 env) (fun f s' => match f with | .next => P s' | _ => False) (fun _ _ => False) s' | _ => False) (fun _ _ => False) s' | _ => False) (fun _ _ => False) s)
    (h2 : ∀ s', P s' → wpAny M A (execs rest env) Q E s') : wpAny M A (execs (st :: st2 :: st3 :: rest) env) Q E s :=
  cut _ h fun _ x => cut _ x fun _ y => cut _ y h2
end
/-- the four rows that the law has made -/
structure Rows (kn : List (Addr × Obj)) (a b c d : Addr) (us ys ps ls : List Value) (nn : Nat) (f : Nat → Int) (n : Nat) : Prop where
  ma : (a, listOf us.toArray nn) ∈ kn
  mb : (b, listOf ys.toArray ys.length) ∈ kn
  mc : (c, listOf ps.toArray ps.length) ∈ kn
  md : (d, listOf ls.toArray ls.length) ∈ kn
  us : NumN us f n
  ys : NumN ys (fun k => (f k).fmod 5) n
  pl : ps.length = n
  ps : PtN kn ps (fun k => (f k).fmod 3) (fun k => ((f k).fdiv 3).fmod 2) n
  ll : ls.length = n
  ls : LiN kn ls (fun k => (f k).fmod 2) (fun k => (f k).fmod 3) n
  h1 : 1 ≤ n
  h2 : n ≤ 20
def LawB (s₁ : Shared) (l : Value) (s' : Shared) : Prop :=
  ∃ h tk kn a b c d us ys ps ls nn f n, s' = { s₁ with heap := h, toks := tk } ∧ Fr s₁.heap s₁.heap.objs.size h (fun y => List.lookup y [("lists", .ref d), ("points", .ref c), ("few", .ref b), ("numbers", .ref a), ("script", l)]) ∧ News s₁.heap s₁.heap.objs.size h kn ∧ Rows kn a b c d us ys ps ls nn f n
theorem pick_len {α : Type} {l : List α} {n i : Nat} {v : α} (e : l.length = n) (h : l[i]? = some v) : i < n := e ▸ (List.getElem?_eq_some_iff.mp h).1
theorem range_at {g : Nat → Dt} {n i : Nat} {d : Dt} (h : ((List.range n).map g)[i]? = some d) : i < n ∧ d = g i := by
  have hi : i < n := by simpa using (List.getElem?_eq_some_iff.mp h).1
  refine ⟨hi, ?_⟩
  rw [List.getElem?_map, List.getElem?_range hi] at h
  exact (Option.some.inj h).symm
theorem DRow.num {h : Heap} {us : List Value} {f : Nat → Int} {n : Nat} (x : NumN us f n) : DRow h us ((List.range n).map fun k => .num (f k)) := by
  refine ⟨by rw [x.len]; simp, fun i v d e e' => ?_, fun d hd d' hd' => ?_⟩
  · obtain ⟨hi, rfl⟩ := range_at e'
    obtain ⟨t, a⟩ := x.at_ i hi
    exact ⟨t, Option.some.inj (e.symm.trans a)⟩
  · obtain ⟨_, _, rfl⟩ := List.mem_map.mp hd
    obtain ⟨_, _, rfl⟩ := List.mem_map.mp hd'
    rfl
theorem DRow.pts {h h₀ : Heap} {L : Addr} {kn : List (Addr × Obj)} {us : List Value} {X Y : Nat → Int} {n : Nat} (hl : us.length = n) (x : PtN kn us X Y n) (N : News h₀ L h kn) : DRow h us ((List.range n).map fun k => .pt (X k) (Y k)) := by
  refine ⟨by rw [hl]; simp, fun i v d e e' => ?_, fun d hd d' hd' => ?_⟩
  · obtain ⟨hi, rfl⟩ := range_at e'
    obtain ⟨a, dx, tx, ty, e1, m1, m2⟩ := x i hi
    exact ⟨a, dx, tx, ty, Option.some.inj (e.symm.trans e1), (N _ m1).1, (N _ m2).1⟩
  · obtain ⟨_, _, rfl⟩ := List.mem_map.mp hd
    obtain ⟨_, _, rfl⟩ := List.mem_map.mp hd'
    rfl
theorem DRow.lis {h h₀ : Heap} {L : Addr} {kn : List (Addr × Obj)} {us : List Value} {X Y : Nat → Int} {n : Nat} (hl : us.length = n) (x : LiN kn us X Y n) (N : News h₀ L h kn) : DRow h us ((List.range n).map fun k => .li (X k) (Y k)) := by
  refine ⟨by rw [hl]; simp, fun i v d e e' => ?_, fun d hd d' hd' => ?_⟩
  · obtain ⟨hi, rfl⟩ := range_at e'
    obtain ⟨a, tx, ty, n', e1, m1⟩ := x i hi
    exact ⟨a, tx, ty, n', Option.some.inj (e.symm.trans e1), (N _ m1).1⟩
  · obtain ⟨_, _, rfl⟩ := List.mem_map.mp hd
    obtain ⟨_, _, rfl⟩ := List.mem_map.mp hd'
    rfl
/-- each of the four rows is a list of the ledger that the law may compare -/
theorem Rows.pick {kn : List (Addr × Obj)} {a b c d : Addr} {us ys ps ls : List Value} {nn : Nat} {f : Nat → Int} {n : Nat} (R : Rows kn a b c d us ys ps ls nn f n) {i : Nat} {v : Value} (h : [Value.ref a, .ref b, .ref c, .ref d][i]? = some v) :
    ∃ r vs n' ds, v = .ref r ∧ (r, listOf vs.toArray n') ∈ kn ∧ vs.length ≤ 20 ∧ ∀ (h₀ : Heap) (L : Addr) (g : Heap), News h₀ L g kn → DRow g vs ds := by
  match i, h with
  | 0, h => exact ⟨a, us, nn, _, (Option.some.inj h).symm, R.ma, by rw [R.us.len]; exact R.h2, fun _ _ _ _ => .num R.us⟩
  | 1, h => exact ⟨b, ys, _, _, (Option.some.inj h).symm, R.mb, by rw [R.ys.len]; exact R.h2, fun _ _ _ _ => .num R.ys⟩
  | 2, h => exact ⟨c, ps, _, _, (Option.some.inj h).symm, R.mc, by rw [R.pl]; exact R.h2, fun _ _ _ N => .pts R.pl R.ps N⟩
  | 3, h => exact ⟨d, ls, _, _, (Option.some.inj h).symm, R.md, by rw [R.ll]; exact R.h2, fun _ _ _ N => .lis R.ll R.ls N⟩
  | _ + 4, h => simp at h
--{
local macro_rules | `(tactic| walk_at "exec For Name Tuple cons nil") => `(tactic| (k_here; refine For_hold (by assumption) (by rfl) (by rfl) ?_ (by intro _; with_unfolding_all rfl)))
--}
theorem mem_rot {α : Type} {x1 x2 x3 q p : α} {l : List α} (hp : p ∈ x1 :: x2 :: x3 :: q :: l) : p ∈ q :: x1 :: x2 :: x3 :: l := by
  simp only [List.mem_cons] at hp ⊢
  rcases hp with h | h | h | h | h <;> simp [h]
theorem map_ifm {x : Str} {v : Value} {rest : List (Str × Value)} {m : Str → Option Value} (h : m = fun y => List.lookup y rest) : (fun y : Str => if y = x then some v else m y) = fun y => List.lookup y ((x, v) :: rest) := by
  subst h; exact map_if x v rest
theorem fr_map {h₀ h : Heap} {L : Addr} {m m' : Str → Option Value} (F : Fr h₀ L h m) (e : m = m') : Fr h₀ L h m' := e ▸ F
def LawS (s₁ : Shared) (kn : List (Addr × Obj)) (m : (Str → Option Value) → Str → Option Value) (s' : Shared) : Prop :=
  ∃ h tk u, s' = { s₁ with heap := h, toks := tk } ∧ Fr s₁.heap s₁.heap.objs.size h (m u) ∧ News s₁.heap s₁.heap.objs.size h kn
section
variable {prog : Program} {w : World} {A : Around} {E : Value → Shared → Prop} {s : Shared} {Q : Value → Shared → Prop}
theorem isNot_bool {b : Bool} (h : Q (.bool false) s) : wpAny (model prog w) A (compareOp .IsNot (.bool b) (.bool b)) Q E s := wpAny_isNot_self (by cases b <;> rfl) h
theorem list_ne_same {l b : Addr} {items : Array Value} (hl : s.heap.IsList l items) (hb : s.heap.IsList b items) (hu : A.units < cLine) (h : Q (.bool false) s) : wpAny (model prog w) A (compareOp .NotEq (.ref l) (.ref b)) Q E s :=
  cmp_ofNotEq (SeqAt.RcNeAt.lists (e := fun _ => true) hl hb rfl hu (fun _ _ _ => SeqAt.EqAt.same _) prog w E Q (by
    have e : (!(List.range items.size).all fun _ => true) = false := by simp
    rw [e]; exact h))
end
theorem DRow.ex1 {h : Heap} {t : Tok} : DRow h [.int 1 t, .bool true] [.num 1, .bl true] := by
  refine ⟨rfl, fun i v d e e' => ?_, fun d hd d' hd' => ?_⟩
  · match i, e, e' with
    | 0, e, e' => cases e; cases e'; exact ⟨_, rfl⟩
    | 1, e, e' => cases e; cases e'; rfl
    | i + 2, e, e' => simp at e
  · simp only [List.mem_cons, List.not_mem_nil, or_false] at hd hd'
    rcases hd with rfl | rfl <;> rcases hd' with rfl | rfl <;> rfl
theorem DRow.ex0 {h : Heap} : DRow h [] [] := ⟨rfl, fun i v d e _ => by simp at e, fun d hd => by simp at hd⟩
theorem fresh1 : freshN [.num 1, .bl true] (List.length [Dt.num 1, .bl true]) = false := by decide +kernel
theorem fresh0 : freshN [] (List.length ([] : List Dt)) = true := by decide +kernel
section
variable {prog : Program} {w : World} {A : Around} {E : Value → Shared → Prop} {s : Shared} {Q : Value → Shared → Prop}
theorem ne_self {n : Int} {t u : Tok} (h : Q (.bool false) s) : wpAny (model prog w) A (compareOp .NotEq (.int n t) (.int n u)) Q E s := ne_int (by rw [bne_self_eq_false]; exact h)
theorem isNot_boolE {b c : Bool} (e : b = c) (h : Q (.bool false) s) : wpAny (model prog w) A (compareOp .IsNot (.bool b) (.bool c)) Q E s := e ▸ isNot_bool h
end
theorem even_f (n : Int) : (n % 2 == 0) = (n.fmod 2 == 0) := by rw [Int.fmod_eq_emod_of_nonneg _ (by decide)]
theorem even_2 (n : Int) : ((2 * n) % 2 == 0) = true := by simp
theorem odd_2 (n : Int) : ((2 * n + 1) % 2 == 0) = false := by
  have e : (2 * n + 1) % 2 = 1 := by omega
  rw [e]; rfl
--{
local macro_rules | `(tactic| walk_at "compareOp NotEq int int") => `(tactic| (k_here; with_reducible refine ne_self ?_))
--}
section
variable {prog : Program} {w : World} {A : Around} {E : Value → Shared → Prop} {s : Shared} {Q : Value → Shared → Prop}
theorem item_next {value slice : Expr} {l : Addr} {vs : List Value} {i : Nat} {u : Tok} {v : Value} (hl : s.heap.IsList l vs.toArray) (hx : vs[i + 1]? = some v) (hv : vs.length ≤ 1000) (h : Q v s)
    (hs : subscripted slice false (.ref l) (.int ((i : Int) + 1) u) = operate [.ref l, .int ((i : Int) + 1) u] (getItem (.ref l) (.int ((i : Int) + 1) u)) := by with_unfolding_all rfl) :
    wpAny (model prog w) A (subscriptTail value slice (.ref l) (.int ((i : Int) + 1) u)) Q E s := by
  have hi : i + 1 < vs.length := (List.getElem?_eq_some_iff.mp hx).1
  refine tail_any hl.typeIs slot_list_getitem.lookup (wpAny_getItem_list hl (by omega) (by omega) (x := v) ?_ h) hs
  rw [List.getElem?_toArray]
  have e : ((i : Int) + 1).toNat = i + 1 := by omega
  rw [e]
  exact hx
theorem ne_ptK {h₀ : Heap} {L : Addr} {m : Str → Option Value} {kn : List (Addr × Obj)} {x y : Int} {a dx : Addr} {tx ty : Tok} (FF : Fr h₀ L s.heap m) (N : News h₀ L s.heap kn) (H : Wd w h₀) (hu : A.units < cLine) (m1 : (a, ptObj dx x y tx ty) ∈ kn)
    (h : Q (.bool false) s) : wpAny (model prog w) A (compareOp .NotEq (.ref a) (.ref a)) Q E s :=
  cmp_ofNotEq (pt_ne hu (H.keeps FF.keep).X (N _ m1).1 (N _ m1).1 (by simpa using h))
end
--{
local macro_rules | `(tactic| walk_at "subscriptTail Name BinOp ref int") => `(tactic| (k_here; refine item_next (by walk_at "LST") (by assumption) (by omega) ?_))
local macro_rules | `(tactic| walk_at "GO") => `(tactic| (repeat ((fail_if_success (with_reducible show wpAny _ _ (subscriptTail _ _ (Value.ref _) (Value.int _ _)) _ _ _)); (fail_if_success (with_reducible show wpAny _ _ (compareOp CmpOp.NotEq (Value.ref _) (Value.ref _)) _ _ _)); (fail_if_success (with_reducible show wpAny _ _ (call (Value.ref _) _) _ _ _)); (fail_if_success (with_reducible show wpAny _ _ (getAttr (Value.ref _) _ _) _ _ _)); walk1)))
--}
--{
local macro_rules | `(tactic| walk_at "TL") => `(tactic| first | assumption | exact List.Mem.tail _ (by assumption) | exact List.Mem.tail _ (List.Mem.tail _ (by assumption)) | exact List.Mem.tail _ (List.Mem.tail _ (List.Mem.tail _ (by assumption))) | exact List.Mem.tail _ (List.Mem.tail _ (List.Mem.tail _ (List.Mem.tail _ (by assumption)))) | exact List.Mem.tail _ (List.Mem.tail _ (List.Mem.tail _ (List.Mem.tail _ (List.Mem.tail _ (by assumption))))))
local macro_rules | `(tactic| walk_at "LST") => `(tactic| exact lst_led (by assumption) (by walk_at "TL"))
--}
theorem Made.news0 {h₀ h h' : Heap} {L : Addr} {m : Str → Option Value} {kn : List (Addr × Obj)} (M : Made h h' []) (F : Fr h₀ L h m) (N : News h₀ L h kn) : News h₀ L h' kn := M.news F N
theorem Made.news2 {h₀ h h' : Heap} {L : Addr} {m : Str → Option Value} {kn : List (Addr × Obj)} {p q : Addr × Obj} (M : Made h h' [p, q]) (F : Fr h₀ L h m) (N : News h₀ L h kn) : News h₀ L h' (p :: q :: kn) := M.news F N
--{
local macro_rules | `(tactic| walk_at "compareOp NotEq ref ref") => `(tactic| (k_here; refine ne_ptK (by assumption) (by assumption) (by assumption) (Nat.lt_of_le_of_lt (Nat.le_add_right _ _) (‹∀ env : Env, (callerA.deeper env).units + 250 < cLine› _)) (by walk_at "TL") ?_))
--}
theorem off_b18 : True := by
  w_top off
  exact True.intro
/-- rows of two ints, tuples of a ledger -/
def TuL (kn : List (Addr × Obj)) (ys : List Value) (X Y : Nat → Int) (n : Nat) : Prop := ∀ k, k < n → ∃ a tx ty, ys[k]? = some (.ref a) ∧ (a, tupOf [.int (X k) tx, .int (Y k) ty]) ∈ kn
theorem TuL.snoc {kn : List (Addr × Obj)} {ys : List Value} {X Y : Nat → Int} {n : Nat} {a : Addr} {tx ty : Tok} (h : TuL kn ys X Y n) (hy : ys.length = n) : TuL ((a, tupOf [.int (X n) tx, .int (Y n) ty]) :: kn) (ys ++ [.ref a]) X Y (n + 1) := by
  intro k hk
  by_cases e : k = n
  · subst e
    exact ⟨a, tx, ty, by rw [List.getElem?_append_right (by omega), hy]; simp, .head _⟩
  · obtain ⟨a', tx', ty', e1, e2⟩ := h k (by omega)
    exact ⟨a', tx', ty', by rw [List.getElem?_append_left (by omega)]; exact e1, .tail _ e2⟩
theorem TuL.base {h : Heap} {kn : List (Addr × Obj)} {ys : List Value} {X Y : Nat → Int} {n : Nat} (x : TuL kn ys X Y n) (N : ∀ p ∈ kn, h.get? p.1 = some p.2) : TupN h ys X Y n := fun k hk => by
  obtain ⟨a, tx, ty, e, m1⟩ := x k hk
  exact ⟨a, tx, ty, 0, e, N _ m1⟩
section
variable {prog : Program} {w : World} {A : Around} {E : Value → Shared → Prop} {s : Shared} {Q : Value → Shared → Prop}
/-- two lists that hold the same ints -/
theorem ints_ne_same {l b : Addr} {vs vs' : List Value} {ns : List Int} (hl : s.heap.IsList l vs.toArray) (hb : s.heap.IsList b vs'.toArray) (h1 : IntsAre vs ns) (h2 : IntsAre vs' ns) (hu : A.units < cLine) (h : Q (.bool false) s) :
    wpAny (model prog w) A (compareOp .NotEq (.ref l) (.ref b)) Q E s := by
  have z1 := h1.length
  have z2 := h2.length
  refine cmp_ofNotEq (SeqAt.RcNeAt.lists (e := fun _ => true) hl hb (by simp [z1, z2]) hu (fun j p q => ?_) prog w E Q (by
    have e : (!(List.range vs.toArray.size).all fun _ => true) = false := by simp
    rw [e]; exact h))
  have hj : j < ns.length := by rw [← z1]; simpa using p
  obtain ⟨t, e1⟩ := h1.get j ns[j] (List.getElem?_eq_getElem hj)
  obtain ⟨t', e2⟩ := h2.get j ns[j] (List.getElem?_eq_getElem hj)
  have a1 : vs.toArray[j] = .int ns[j] t := by
    rw [List.getElem_toArray]; exact Option.some.inj ((List.getElem?_eq_getElem (by rw [z1]; exact hj)).symm.trans e1)
  have a2 : vs'.toArray[j] = .int ns[j] t' := by
    rw [List.getElem_toArray]; exact Option.some.inj ((List.getElem?_eq_getElem (by rw [z2]; exact hj)).symm.trans e2)
  rw [a1, a2]
  have e3 : (ns[j] == ns[j]) = true := by simp
  rw [← e3]
  exact SeqAt.EqAt.int_int _ _ _ _
end
--{
local macro_rules | `(tactic| walk_at "eval ListComp") => `(tactic| (k_here; k_dflt (refine LCg.ListComp_U (F₀ := by k_asm) (by rfl) (by decide) (by rfl) (by decide) (by rfl) ?_)))
--}
section
variable {prog : Program} {w : World} {A : Around} {E : Value → Shared → Prop} {s : Shared} {h₀ : Heap} {m : Str → Option Value} {env : Env}
open LCg
/-- the tuple that a comprehension walks, laid as the ledger's first -/
def TupSrc (prog : Program) (w : World) (A : Around) (h₀ : Heap) (m : Str → Option Value) (env : Env) (elt : Expr) (x : Str) (scope : Scope) (cl : List (Str × Addr)) (y : Str) (Q : Flow → Shared → Prop) (xv : Value) (s₁ : Shared) : Prop :=
  ∃ ax its news, xv = .ref ax ∧ A.handled = none ∧ Fr h₀ env.locals s₁.heap m ∧ News h₀ env.locals s₁.heap ((ax, tupOf its) :: news) ∧ its.length ≤ sizeLine ∧
    ∀ g, CompRest prog w A h₀ env.locals m env elt x scope cl { s₁ with heap := g } (fun nw => (ax, tupOf its) ∈ nw) (fun i v => its[i]? = some v) (FinA h₀ env.locals m { s₁ with heap := g } y Q) its.length 0 [] ((ax, tupOf its) :: news)
theorem assign_comp_tup {elt iter : Expr} {x y : Str} {px py : Pos} {scope : Scope} {cl : List (Str × Addr)} {pos spos : Pos} {Q : Flow → Shared → Prop} (_F : Fr h₀ env.locals s.heap m)
    (hsw : swapsWith (.ListComp elt [⟨.Name x px, iter, [], 0⟩] scope pos) (some (.Name y py)) spos.line env = pure true)
    (hclos : closureFor scope env = pure cl) (hcell : ∀ z ∈ scope.names, z.2 ≠ .cell) (hkind : scope.kind = .function)
    (hnames : ∀ z ∈ scope.names, z.2 = .local → scope.names.lookup z.1 = some .local) (hx : scope.names.lookup x = some .local)
    (hy : env.kindOf y = some .local) (hp : (env.scope.kind == .class || (env.scope.kind == .module && env.locals != env.globals)) = false)
    (h : wpAny (model prog w) A (eval iter env) (TupSrc prog w A h₀ m env elt x scope cl y Q) E s)
    (hs : ∀ x, foldedSetIterable iter env x = pure x := by intro _; with_unfolding_all rfl) :
    wpAny (model prog w) A (exec (.Assign [.Name y py] (.ListComp elt [⟨.Name x px, iter, [], 0⟩] scope pos) spos) env) Q E s := by
  rw [exec_Assign_Name_used _ _ _ _ hsw]
  refine wpAny_bind (wpAny_standAt (wpAny_bind ?_))
  show wpAny _ A (do let _ ← comprehension (.ListComp elt [⟨.Name x px, iter, [], 0⟩] scope pos) scope env _ (newList []) false (eval iter env) (some (assign (.Name y py) env))) _ _ s
  refine wpAny_bind (wpAny_mono (wpAny_comprehension_free (use := some (assign (.Name y py) env)) (Q := fun _ s' => Q .next s') rfl hs hclos hkind hnames (wpAny_mono h (fun xv s₁ src => ?_) fun _ _ e => e)) (fun _ s' hq => wpAny_pure (wpAny_pure hq)) fun _ _ e => e)
  obtain ⟨ax, its, news, rfl, hh, F, N, hsz, R⟩ := src
  have hg := (N _ (.head _)).1
  have hl : s₁.heap.IsTuple ax its.toArray := ⟨_, hg, rfl, 0, rfl⟩
  have hlt : ax < s₁.heap.objs.size := Heap.lt_size hg
  have hz : its.toArray.size = its.length := List.size_toArray ..
  refine wpAny_pyIter_tuple hl ?_
  have W := Walks.tuple (prog := prog) (w := w) hh s₁.heap.objs.size ax (Nat.ne_of_lt hlt) its.toArray
  rw [hz] at W
  refine block_U (S := fun nw => (ax, tupOf its) ∈ nw) W hsz (fun i h st => by obtain ⟨o, e, _⟩ := st.1; exact ⟨o, e⟩)
    (fun i g g' o nw st e e' _ N' S' => ⟨by obtain ⟨o', q, r⟩ := st.1; rw [e] at q; cases q; exact ⟨o, e', r⟩, ⟨_, (N' _ S').1, rfl, 0, rfl⟩⟩) hcell hkind hx
    ⟨⟨_, Heap.get?_push_size _ rfl, rfl, rfl⟩, ⟨_, Heap.get?_push_of_some _ hg, rfl, 0, rfl⟩⟩ (fun b hb => ?_)
    (F.push _) (fun p hp => ⟨Heap.get?_push_of_some _ (N p hp).1, (N p hp).2⟩) (Nat.ne_of_lt F.ns.lt) (next_is_new F) (fun p hp => Nat.ne_of_lt (Heap.lt_size (N p hp).1)) (.head _) (by simpa using R _) ?_
  · show b < (s₁.heap.push _).objs.size
    rw [Heap.size_push]
    simp only [List.mem_cons, List.not_mem_nil, or_false] at hb
    rcases hb with rfl | rfl
    · exact Nat.lt_succ_self _
    · exact Nat.lt_succ_of_lt hlt
  · intro D C h' tk m' ys news' F' N' o1 hn hC₀ hD₀ hCL hDL hCD offC fin
    show wpAny _ A (assign (.Name y py) env (.ref D)) _ _ _
    refine wpAny_assign_Name (wpAny_storeName_local hy F'.ns (fun h₂ hn₂ hs₂ => ?_) hp)
    have none_L : h₀.get? env.locals = none := Heap.get?_none_of_le F'.above
    have keep₂ : ∀ b o, h₀.get? b = some o → h₂.get? b = some o := fun b o e => hs₂.extBut b o (fun q => by rw [q, none_L] at e; cases e) (F'.keep b o e)
    refine ⟨m', hn.sameBut hs₂ hCL, fun h'' hs'' => fin D h'' _ (Fr.change ⟨hn₂, keep₂, F'.above⟩ hs'' hCL hC₀) (fun p hp => ⟨hs''.extBut _ _ ?_ (hs₂.extBut _ _ (N' p hp).2.1 (N' p hp).1), (N' p hp).2⟩) o1⟩
    rcases List.mem_cons.mp hp with rfl | hp
    · exact Ne.symm hCD
    · exact offC p hp
end
def LawF (s₁ : Shared) (s' : Shared) : Prop := ∃ (h : Heap) (tk : Nat) (kn : List (Addr × Obj)) (m : Str → Option Value), s' = { s₁ with heap := h, toks := tk } ∧ Fr s₁.heap s₁.heap.objs.size h m ∧ News s₁.heap s₁.heap.objs.size h kn
def LawV (s₁ : Shared) (s' : Shared) : Prop := ∃ (h : Heap) (tk : Nat) (kn : List (Addr × Obj)) (m : Str → Option Value) (D : Addr) (ys : List Value), s' = { s₁ with heap := h, toks := tk } ∧ Fr s₁.heap s₁.heap.objs.size h (fun z => if z = "values" then some (.ref D) else m z) ∧
  News s₁.heap s₁.heap.objs.size h ((D, LCg.lst ys) :: kn) ∧ IntsAre ys [0, 1, 2, 3, 4, 5, 6]
def LawW (s₁ : Shared) (s' : Shared) : Prop := ∃ (h : Heap) (tk : Nat) (kn : List (Addr × Obj)) (m : Str → Option Value) (D D2 : Addr) (ys zs : List Value), s' = { s₁ with heap := h, toks := tk } ∧ Fr s₁.heap s₁.heap.objs.size h (fun z => if z = "turns" then some (.ref D2) else if z = "values" then some (.ref D) else m z) ∧
  News s₁.heap s₁.heap.objs.size h ((D2, LCg.lst zs) :: (D, LCg.lst ys) :: kn) ∧ IntsAre ys [0, 1, 2, 3, 4, 5, 6] ∧ IntsAre zs [-1, 0, 1]
theorem off_b19 : True := by
  w_top off
  exact True.intro
set_option maxHeartbeats 8000000 in
theorem law_holds : PySem.Challenge.rw_ah6008_01.Holds := Mine.hd (by
  k_go0
  dsimp only
  rename_i w s₀ s₁ mg mb G Y fa o pm doc kV ho hg KX X' V GL T B TE TW w1a w1b MM w2a w2b hcd ns hs hlay0 hLl hr0 hl2 as0 as1 l vs as2 hL ra w1 r0 hI hr hc hc2 K0 hD h₁ F N
  have Hw : Wd w s₁.heap := ⟨KX, _, _, _, _, T⟩
  have rd : callerA.depth + 60 < recursionLimit := by decide +kernel
  have ru : callerA.units + 300 < cLine := by decide +kernel
  have rdd : ∀ env : Env, (callerA.deeper env).depth + 50 < recursionLimit := fun env => by show callerA.depth + 1 + 50 < recursionLimit; omega
  have ruu : ∀ env : Env, (callerA.deeper env).units + 250 < cLine := fun env => by show callerA.units + 3 + 250 < cLine; omega
  have rhh : ∀ env : Env, (callerA.deeper env).handled = none := fun _ => rfl
  clear hc2 hr r0 w1 hl2 hr0 hLl hs hlay0
  replace F : Fr s₁.heap s₁.heap.objs.size h₁ (fun y => List.lookup y [("script", .ref l)]) := F
  refine cut (fun s' => LawA s₁ (.ref l) s') ?_ ?_
  · k_steps
    · (rename Fr _ _ _ _ => F2); (rename News _ _ _ _ => N2)
      exact LawA.mk F2 N2 (.head _) (ns := [0, 1, 0]) (.cons _ _ (.cons _ _ (.cons _ _ .nil))) (by simp) (by simp)
    · (rename Fr _ _ _ _ => F2); (rename News _ _ _ _ => N2)
      (rename decide _ = false => hn)
      refine LawA.mk F2 N2 (.head _) (by assumption) (fun e => ?_) ?_
      · have e3 : ns = [] := (List.take_eq_nil_iff.mp e).resolve_left (by decide)
        rw [decide_eq_true e3] at hn; cases hn
      · rw [List.length_take]; omega
  · rintro s' ⟨h, tk, a, us, nn, f, n, rfl, F, N, hn, h1, h2⟩
    have hz : us.toArray.size = n := by rw [List.size_toArray]; exact hn.len
    refine cut3 (fun s' => LawB s₁ (.ref l) s') ?_ ?_
    · k_steps
      refine LCg.CompSrc.ledger (its := us.toArray) rfl F N (.head _) (by rw [hz, sizeLine_eq]; omega) (fun g => ?_)
      rw [hz]
      dsimp only
      refine comp_ind (fun i ys news => news = [(a, listOf us.toArray nn)] ∧ NumN ys (fun k => (f k).fmod 5) i) ⟨rfl, rfl, fun k hk => absurd hk (Nat.not_lt_zero _)⟩ ?_ ?_
      · clear F N
        rintro i ys news v I oI C oC D m₂ h₂ tk₂ E' hi hP ⟨rfl, hy⟩ hC hx F₂ N₂ off ne
        obtain ⟨t, hv⟩ := hn.at_ i hi
        have hP' : us[i]? = some v := by simpa using hP
        obtain rfl : v = .int (f i) t := Option.some.inj (hP'.symm.trans hv)
        dsimp only
        k_steps
        exact comp_made [(a, listOf us.toArray nn)] F₂ N₂ off (l := []) ⟨fun _ _ e => e, fun _ hp => nomatch hp⟩ (fun p hp => .inr hp) (.inr ⟨_, .head _, rfl, _, rfl⟩) ⟨rfl, hy.snoc rfl⟩
      · rintro ys kn ⟨rfl, hy⟩
        clear F N
        k_steps
        (rename Fr _ _ _ _ => F); (rename News _ _ _ _ => N)
        rename_i b h3 tk3 o1
        clear o1
        refine LCg.CompSrc.ledger (its := us.toArray) rfl F N (.tail _ (.head _)) (by rw [hz, sizeLine_eq]; omega) (fun g => ?_)
        rw [hz]
        dsimp only
        refine comp_ind (fun i ps news => ∃ kn, news = kn ++ [(b, LCg.lst ys), (a, listOf us.toArray nn)] ∧ ps.length = i ∧ PtN kn ps (fun k => (f k).fmod 3) (fun k => ((f k).fdiv 3).fmod 2) i) ⟨[], rfl, rfl, fun k hk => absurd hk (Nat.not_lt_zero _)⟩ ?_ ?_
        · clear F N
          rintro i ps news v I oI C oC D m₂ h₂ tk₂ E' hi hP ⟨kn, rfl, hpl, hpt⟩ hC hx F₂ N₂ off ne
          obtain ⟨t, hv⟩ := hn.at_ i hi
          have hP' : us[i]? = some v := by simpa using hP
          obtain rfl : v = .int (f i) t := Option.some.inj (hP'.symm.trans hv)
          dsimp only
          k_steps
          refine mk_pt (Nat.lt_of_le_of_lt (Nat.add_le_add_left (by decide) _) (rdd _)) (show Wd w h₂ from Hw.keeps F₂.keep) ?_
          intro h₃ tk₃ p dp M
          dsimp only
          exact comp_made (([(p, ptObj dp ((f i).fmod 3) (((f i).fdiv 3).fmod 2) _ _), (dp, emptyDict)] ++ kn) ++ [(b, LCg.lst ys), (a, listOf us.toArray nn)]) F₂ N₂ off M (fun p hp => (List.mem_append.mp (List.append_assoc _ _ _ ▸ hp))) (.inr ⟨listOf us.toArray nn, by simp, rfl, nn, rfl⟩) ⟨_, rfl, by rw [List.length_append, hpl]; rfl, hpt.snoc hpl (.head _) (.tail _ (.head _))⟩
        · rintro ps knn ⟨kn, rfl, hpl, hpt⟩
          clear F N
          k_steps
          (rename Fr _ _ _ _ => F); (rename News _ _ _ _ => N)
          rename_i c h4 tk4 o1
          clear o1
          refine LCg.CompSrc.ledger (its := us.toArray) (ax := a) (k := nn) rfl F N (by simp) (by rw [hz, sizeLine_eq]; omega) (fun g => ?_)
          rw [hz]
          dsimp only
          refine comp_ind (fun i ls news => ∃ kn2, news = kn2 ++ ((c, LCg.lst ps) :: (kn ++ [(b, LCg.lst ys), (a, listOf us.toArray nn)])) ∧ ls.length = i ∧ LiN kn2 ls (fun k => (f k).fmod 2) (fun k => (f k).fmod 3) i) ⟨[], rfl, rfl, fun k hk => absurd hk (Nat.not_lt_zero _)⟩ ?_ ?_
          · clear F N
            rintro i ls news v I oI C oC D m₂ h₂ tk₂ E' hi hP ⟨kn2, rfl, hll, hli⟩ hC hx F₂ N₂ off ne
            obtain ⟨t, hv⟩ := hn.at_ i hi
            have hP' : us[i]? = some v := by simpa using hP
            obtain rfl : v = .int (f i) t := Option.some.inj (hP'.symm.trans hv)
            dsimp only
            k_steps
            (rename Fr _ _ _ _ => F3); (rename News _ _ _ _ => N3)
            rename_i q h3 q1
            obtain ⟨tx, ty, N4⟩ : ∃ tx ty, News s₁.heap s₁.heap.objs.size h3 ((q, listOf #[.int ((f i).fmod 2) tx, .int ((f i).fmod 3) ty] 0) :: (I, oI) :: (C, oC) :: (D, LCg.lst ls) :: (kn2 ++ ((c, LCg.lst ps) :: (kn ++ [(b, LCg.lst ys), (a, listOf us.toArray nn)])))) := ⟨_, _, N3⟩
            refine ⟨_, _, (q, listOf #[.int ((f i).fmod 2) tx, .int ((f i).fmod 3) ty] 0) :: (kn2 ++ ((c, LCg.lst ps) :: (kn ++ [(b, LCg.lst ys), (a, listOf us.toArray nn)]))), rfl, F3, fun p hp => N4 p (mem_rot hp), LCg.Off3.of fun p hp => ?_, .inr ⟨listOf us.toArray nn, by simp, rfl, nn, rfl⟩, ⟨(q, listOf #[.int ((f i).fmod 2) tx, .int ((f i).fmod 3) ty] 0) :: kn2, rfl, by rw [List.length_append, hll]; rfl, hli.snoc hll⟩⟩
            · rcases List.mem_cons.mp hp with rfl | hp
              · exact ⟨Nat.ne_of_gt q1.1, Nat.ne_of_gt q1.2.1, Nat.ne_of_gt q1.2.2.1⟩
              · exact off.mem p hp
          · rintro ls knn ⟨kn2, rfl, hll, hli⟩
            clear F N
            k_steps
            (rename Fr _ _ _ _ => F); (rename News _ _ _ _ => N)
            rename_i d h5 tk5 o1
            clear o1
            refine ⟨h5, tk5, _, a, b, c, d, us, ys, ps, ls, nn, f, n, rfl, ?_, N, by simp, by simp, by simp, by simp, hn, hy, hpl, hpt.mono fun p hp => ?_, hll, hli.mono fun p hp => ?_, h1, h2⟩
            · exact fr_map F (map_ifm (map_ifm (map_ifm rfl)))
            · simp [hp]
            · simp [hp]
    · clear F N hn h1 h2 hz
      rintro s' ⟨h, tk, kn, a, b, c, d, us, ys, ps, ls, nn, f, n, rfl, F, N, R⟩
      refine cut (fun s' => LawS s₁ kn (fun u y => if y = "row" then u y else if (["copied"] : List Str).contains y then u y else List.lookup y [("lists", .ref d), ("points", .ref c), ("few", .ref b), ("numbers", .ref a), ("script", .ref l)]) s') ?_ ?_
      · clear K0 G Y X' V GL B TE TW MM hcd hD ra hL hI ho hg
        refine For_hold F (by rfl) (by rfl) ?_ (by intro _; with_unfolding_all rfl)
        k_steps
        (rename Fr _ _ _ _ => F2); (rename News _ _ _ _ => N2)
        rename_i t g2 l1
        clear l1
        unfold Hold
        refine loop_tupX (l := t) (vs := [.ref a, .ref b, .ref c, .ref d]) ["copied"] (fun i nx => nx = (t, tupOf [.ref a, .ref b, .ref c, .ref d]) :: kn) rfl (.inr (fun i nx e => by rw [e]; exact List.Mem.head _)) F2 N2 rfl ?_ ?_
        · clear F2 N2
          rintro i v nx h3 tk3 I oI u hi rfl ho F3 N3
          obtain ⟨r, rs, rn, ds, rfl, hm, hl20, hD⟩ := R.pick hi
          k_steps
          refine kup_listOf F3 N3 (.tail _ (.tail _ hm)) (zs := rs) (by simp) ?_ (by rw [sizeLine_eq]; simp; omega)
          intro D nc h4 F4 N4 l1
          clear F3 N3 l1
          dsimp only
          k_steps
          (rename Fr _ _ _ _ => F5); (rename News _ _ _ _ => N5)
          rename_i h5
          clear F4 N4
          refine sp_all_unique (vs := rs) (ds := ds) (Nat.lt_of_le_of_lt (Nat.add_le_add_left (by decide) _) (rdd _)) (Nat.lt_of_le_of_lt (Nat.add_le_add_left (by decide) _) (ruu _)) (rhh _) (by omega) (show Wd w h5 from Hw.keeps F5.keep) (.inl ⟨nc, (N5 _ (.head _)).1⟩) (hD s₁.heap s₁.heap.objs.size h5 fun p hp => N5 p (.tail _ (.tail _ (.tail _ hp)))) ?_
          intro h6 tk6 M
          have F6 := M.frame F5
          have N6 : News s₁.heap s₁.heap.objs.size h6 ((D, listOf rs.toArray nc) :: (I, oI) :: (t, tupOf [.ref a, .ref b, .ref c, .ref d]) :: kn) := M.news F5 N5
          clear F5 N5 M
          dsimp only
          k_steps
          refine sp_fresh (vs := rs) (nn := rn) (ds := ds) (Nat.lt_of_le_of_lt (Nat.add_le_add_left (by decide) _) (rdd _)) (Nat.lt_of_le_of_lt (Nat.add_le_add_left (by decide) _) (ruu _)) (rhh _) (by omega) (show Wd w h6 from Hw.keeps F6.keep) (N6 _ (.tail _ (.tail _ (.tail _ hm)))).1 (hD s₁.heap s₁.heap.objs.size h6 fun p hp => N6 p (.tail _ (.tail _ (.tail _ hp)))) ?_
          intro h7 tk7 M
          have F7 := M.frame F6
          have N7 : News s₁.heap s₁.heap.objs.size h7 ((D, listOf rs.toArray nc) :: (I, oI) :: (t, tupOf [.ref a, .ref b, .ref c, .ref d]) :: kn) := M.news F6 N6
          clear F6 N6 M
          dsimp only
          generalize freshN ds ds.length = bb
          walk1
          rw [show (bb != bb) = false by cases bb <;> rfl]
          repeat ((fail_if_success (with_reducible show wpAny _ _ (compareOp CmpOp.NotEq (Value.ref _) (Value.ref _)) _ _ _)); walk1)
          refine list_ne_same (items := rs.toArray) ⟨_, (N7 _ (.head _)).1, rfl, _, rfl⟩ ⟨_, (N7 _ (.tail _ (.tail _ (.tail _ hm)))).1, rfl, _, rfl⟩ (Nat.lt_of_le_of_lt (Nat.le_add_right _ _) (ruu _)) ?_
          repeat ((fail_if_success (with_reducible show wpAny _ _ (call (Value.type "tuple") [Value.ref _]) _ _ _)); walk1)
          refine kde_tupleOf F7 N7 (items := rs.toArray) (zs := rs) ⟨_, (N7 _ (.tail _ (.tail _ (.tail _ hm)))).1, rfl, _, rfl⟩ (by simp; omega) (by simp) ?_
          intro D2 h8 F8 N8 l1
          clear F7 N7 l1
          dsimp only
          k_steps
          refine sp_all_unique (vs := rs) (ds := ds) (Nat.lt_of_le_of_lt (Nat.add_le_add_left (by decide) _) (rdd _)) (Nat.lt_of_le_of_lt (Nat.add_le_add_left (by decide) _) (ruu _)) (rhh _) (by omega) (show Wd w h8 from Hw.keeps F8.keep) (.inr ⟨_, (N8 _ (.head _)).1⟩) (hD s₁.heap s₁.heap.objs.size h8 fun p hp => N8 p (.tail _ (.tail _ (.tail _ (.tail _ hp))))) ?_
          intro h9 tk9 M
          have F9 := M.frame F8
          have N9 : News s₁.heap s₁.heap.objs.size h9 ((D2, tupOf rs) :: (D, listOf rs.toArray nc) :: (I, oI) :: (t, tupOf [.ref a, .ref b, .ref c, .ref d]) :: kn) := M.news F8 N8
          clear F8 N8 M
          dsimp only
          k_steps
          refine sp_fresh (vs := rs) (nn := rn) (ds := ds) (Nat.lt_of_le_of_lt (Nat.add_le_add_left (by decide) _) (rdd _)) (Nat.lt_of_le_of_lt (Nat.add_le_add_left (by decide) _) (ruu _)) (rhh _) (by omega) (show Wd w h9 from Hw.keeps F9.keep) (N9 _ (.tail _ (.tail _ (.tail _ (.tail _ hm))))).1 (hD s₁.heap s₁.heap.objs.size h9 fun p hp => N9 p (.tail _ (.tail _ (.tail _ (.tail _ hp))))) ?_
          intro h10 tk10 M
          have F10 := M.frame F9
          have N10 : News s₁.heap s₁.heap.objs.size h10 ((D2, tupOf rs) :: (D, listOf rs.toArray nc) :: (I, oI) :: (t, tupOf [.ref a, .ref b, .ref c, .ref d]) :: kn) := M.news F9 N9
          clear F9 N9 M
          dsimp only
          generalize freshN ds ds.length = b2
          walk1
          rw [show (b2 != b2) = false by cases b2 <;> rfl]
          k_steps
          refine ⟨h10, tk10, _, (t, tupOf [.ref a, .ref b, .ref c, .ref d]) :: kn, rfl, F10, fun p hp => N10 p (.tail _ (.tail _ hp)), ho, fun z z1 z2 => ?_, rfl⟩
          have a1 : z ≠ "copied" := by simpa using z2
          simp only [if_neg a1, if_neg z1, z2, Bool.false_eq_true, if_false]
        · clear F2 N2
          rintro nx h3 tk3 u rfl F3 N3
          exact ⟨h3, tk3, u, rfl, F3, fun p hp => N3 p (.tail _ hp)⟩
      · clear F N
        rintro s' ⟨h2, tk2, u, rfl, F, N⟩
        dsimp only at F
        refine cut (fun s' => LawS s₁ kn (fun u y => if y = "row" then u y else if (["copied"] : List Str).contains y then u y else List.lookup y [("lists", .ref d), ("points", .ref c), ("few", .ref b), ("numbers", .ref a), ("script", .ref l)]) s') ?_ ?_
        · clear K0 G Y X' V GL B TE TW MM hcd hD ra hL hI ho hg
          k_steps
          (rename Fr _ _ _ _ => F5); (rename News _ _ _ _ => N5)
          rename_i q1 h5 _
          refine sp_all_unique (vs := [.int 1 tk2, .bool true]) (ds := [.num 1, .bl true]) (Nat.lt_of_le_of_lt (Nat.add_le_add_left (by decide) _) (rdd _)) (Nat.lt_of_le_of_lt (Nat.add_le_add_left (by decide) _) (ruu _)) (rhh _) (by simp) (show Wd w h5 from Hw.keeps F5.keep) (.inl ⟨0, (N5 _ (.head _)).1⟩) DRow.ex1 ?_
          rw [fresh1]
          intro h6 tk6 M
          have F6 := M.frame F5
          have N6 : News s₁.heap s₁.heap.objs.size h6 ((q1, listOf #[.int 1 tk2, .bool true] 0) :: kn) := M.news F5 N5
          clear F5 N5 M
          dsimp only
          k_steps
          (rename Fr _ _ _ _ => F7); (rename News _ _ _ _ => N7)
          rename_i q2 h7 _
          refine sp_all_unique (vs := []) (ds := []) (Nat.lt_of_le_of_lt (Nat.add_le_add_left (by decide) _) (rdd _)) (Nat.lt_of_le_of_lt (Nat.add_le_add_left (by decide) _) (ruu _)) (rhh _) (by simp) (show Wd w h7 from Hw.keeps F7.keep) (.inl ⟨0, (N7 _ (.head _)).1⟩) DRow.ex0 ?_
          rw [fresh0]
          intro h8 tk8 M
          have F8 := M.frame F7
          have N8 : News s₁.heap s₁.heap.objs.size h8 ((q2, listOf #[] 0) :: (q1, listOf #[.int 1 tk2, .bool true] 0) :: kn) := M.news F7 N7
          clear F7 N7 M
          dsimp only
          k_steps
          exact ⟨_, _, u, rfl, F8, fun p hp => N8 p (.tail _ (.tail _ hp))⟩
        clear F N
        rintro s' ⟨h3, tk3, u3, rfl, F, N⟩
        dsimp only at F
        refine cut (fun s' => Hold (∃ cx dcx, LawS s₁ ((cx, instObj 341 dcx) :: (dcx, dictOf [] 0) :: kn) (fun u y => if y = "context" then some (.ref cx) else if y = "row" then u y else if (["copied"] : List Str).contains y then u y else List.lookup y [("lists", .ref d), ("points", .ref c), ("few", .ref b), ("numbers", .ref a), ("script", .ref l)]) s')) ?_ ?_
        · clear K0 G Y X' V GL B TE TW MM hcd hD ra hL hI ho hg
          k_steps
          (rename Fr _ _ _ _ => F5); (rename News _ _ _ _ => N5)
          exact ⟨_, _, _, _, u3, rfl, F5, N5⟩
        clear F N
        rintro s' ⟨cx, dcx, h4, tk4, u4, rfl, F, N⟩
        dsimp only at F
        generalize hkn : (cx, instObj 341 dcx) :: (dcx, dictOf [] 0) :: kn = kq at N
        have m1 : (cx, instObj 341 dcx) ∈ kq := by rw [← hkn]; exact .head _
        have m2 : (dcx, dictOf [] 0) ∈ kq := by rw [← hkn]; exact .tail _ (.head _)
        have mm : ∀ p ∈ kn, p ∈ kq := fun p hp => by rw [← hkn]; exact .tail _ (.tail _ hp)
        clear hkn
        refine cut (fun s' => LawS s₁ kq (fun u y => if y = "number" then u y else if y = "context" then some (.ref cx) else if y = "row" then u4 y else if (["copied"] : List Str).contains y then u4 y else List.lookup y [("lists", .ref d), ("points", .ref c), ("few", .ref b), ("numbers", .ref a), ("script", .ref l)]) s') ?_ ?_
        · clear K0 G Y X' V GL B TE TW MM hcd hD ra hL hI ho hg
          k_steps
          refine loop_listX (l := a) (vs := us) (nn := nn) [] (fun i nx => nx = kq) rfl (.inr (fun i nx e => by rw [e]; exact mm _ R.ma)) F N rfl ?_ ?_
          · clear F N
            rintro i v nx h5 tk5 I oI u hi rfl ho F N
            obtain ⟨t, hv⟩ := R.us.at_ i (pick_len R.us.len hi)
            obtain rfl : v = .int (f i) t := Option.some.inj (hi.symm.trans hv)
            k_steps
            refine sp_is_even (Nat.lt_of_le_of_lt (Nat.add_le_add_left (by decide) _) (rdd _)) (show Wd w h5 from Hw.keeps F.keep) ?_
            intro h6 tk6 M
            have F6 := F.keeps M
            have N6 : News s₁.heap s₁.heap.objs.size h6 ((I, oI) :: nx) := fun p hp => ⟨M _ _ (N p hp).1, (N p hp).2⟩
            clear F N M
            dsimp only
            repeat ((fail_if_success (with_reducible show wpAny _ _ (compareOp CmpOp.IsNot _ _) _ _ _)); walk1)
            refine isNot_boolE (even_f _) ?_
            k_steps
            refine sp_event (Nat.lt_of_le_of_lt (Nat.add_le_add_left (by decide) _) (rdd _)) (show Wd w h6 from Hw.keeps F6.keep) ?_
            intro h7 tk7 M
            have F7 := F6.keeps M
            have N7 : News s₁.heap s₁.heap.objs.size h7 ((I, oI) :: nx) := fun p hp => ⟨M _ _ (N6 p hp).1, (N6 p hp).2⟩
            clear F6 N6 M
            dsimp only
            k_steps
            refine sp_left (Nat.lt_of_le_of_lt (Nat.add_le_add_left (by decide) _) (rdd _)) (show Wd w h7 from Hw.keeps F7.keep) ?_
            intro h8 tk8 tt1 M
            have F8 := F7.keeps M.stay
            have N8 : News s₁.heap s₁.heap.objs.size h8 ((I, oI) :: nx) := fun p hp => ⟨M.stay _ _ (N7 p hp).1, (N7 p hp).2⟩
            clear F7 N7 M
            dsimp only
            k_steps
            refine sp_right (Nat.lt_of_le_of_lt (Nat.add_le_add_left (by decide) _) (rdd _)) (show Wd w h8 from Hw.keeps F8.keep) ?_
            intro h9 tk9 tt2 M
            have F9 := F8.keeps M.stay
            have N9 : News s₁.heap s₁.heap.objs.size h9 ((I, oI) :: nx) := fun p hp => ⟨M.stay _ _ (N8 p hp).1, (N8 p hp).2⟩
            clear F8 N8 M
            dsimp only
            k_steps
            refine sp_isleft (Nat.lt_of_le_of_lt (Nat.add_le_add_left (by decide) _) (rdd _)) (show Wd w h9 from Hw.keeps F9.keep) ?_
            intro h10 tk10 M
            have F10 := F9.keeps M.stay
            have N10 : News s₁.heap s₁.heap.objs.size h10 ((I, oI) :: nx) := fun p hp => ⟨M.stay _ _ (N9 p hp).1, (N9 p hp).2⟩
            clear F9 N9 M
            dsimp only
            rw [even_2]
            k_steps
            refine sp_isleft (Nat.lt_of_le_of_lt (Nat.add_le_add_left (by decide) _) (rdd _)) (show Wd w h10 from Hw.keeps F10.keep) ?_
            intro h11 tk11 M
            have F11 := F10.keeps M.stay
            have N11 : News s₁.heap s₁.heap.objs.size h11 ((I, oI) :: nx) := fun p hp => ⟨M.stay _ _ (N10 p hp).1, (N10 p hp).2⟩
            clear F10 N10 M
            dsimp only
            rw [odd_2]
            k_steps
            refine ⟨h11, tk11, _, nx, rfl, F11, N11, ho, fun z z1 z2 => ?_, rfl⟩
            dsimp only
            rw [if_neg z1]
            rfl
          · clear F N
            rintro nx h5 tk5 u rfl F N
            exact ⟨h5, tk5, u, rfl, F, N⟩
        clear F N
        rintro s' ⟨h5, tk5, u5, rfl, F, N⟩
        dsimp only at F
        have ma := mm _ R.ma
        have mb := mm _ R.mb
        have mc := mm _ R.mc
        have hpn := R.ps.mono mm
        have lu := R.us.len
        have ly := R.ys.len
        have lp := R.pl
        have l1 := R.h1
        have l2 := R.h2
        refine cut (fun s' => LawS s₁ kq (fun u y => if y = "k" then u y else if (["one", "two", "made", "plain"] : List Str).contains y then u y else if y = "number" then u5 y else if y = "context" then some (.ref cx) else if y = "row" then u4 y else if (["copied"] : List Str).contains y then u4 y else List.lookup y [("lists", .ref d), ("points", .ref c), ("few", .ref b), ("numbers", .ref a), ("script", .ref l)]) s') ?_ ?_
        · clear K0 G Y X' V GL B TE TW MM hcd hD ra hL hI ho hg
          refine For_hold F (by rfl) (by rfl) ?_
          repeat ((fail_if_success (with_reducible show wpAny _ _ (call (Value.builtin "len") [Value.ref _]) _ _ _)); walk1)
          refine len_list (lst_led N ma) (by simp; omega) ?_
          k_steps
          (rename IsRange _ _ _ _ _ _ _ _ => hR); (rename Fr _ _ _ _ => F6); (rename News _ _ _ _ => N6)
          refine loop_rangeN (n - 1) ["one", "two", "made", "plain"] (fun _ nx => nx = kq) rfl hR (by simp; omega) (by omega) F6 N6 rfl ?_ ?_
          · clear F N F6 N6 hR
            rintro k t nx h6 tk6 I oI u hk rfl ho F N
            obtain ⟨t1, v1⟩ := R.us.at_ k (by omega)
            obtain ⟨t2, v2⟩ := R.us.at_ (k + 1) (by omega)
            obtain ⟨t3, v3⟩ := R.ys.at_ k (by omega)
            obtain ⟨t4, v4⟩ := R.ys.at_ (k + 1) (by omega)
            obtain ⟨p1, d1, t5, t6, v5, mp1, md1⟩ := hpn k (by omega)
            obtain ⟨p2, d2, t7, t8, v6, mp2, md2⟩ := hpn (k + 1) (by omega)
            walk_at "GO"
            k_steps
            (rename Fr _ _ _ _ => F7); (rename News _ _ _ _ => N7)
            dsimp only at mp1 mp2
            refine sp_pair (Nat.lt_of_le_of_lt (Nat.add_le_add_left (by decide) _) (rdd _)) (Nat.lt_of_le_of_lt (Nat.add_le_add_left (by decide) _) (ruu _)) (rhh _) (Hw.keeps F7.keep) (d := .num (f k)) (d' := .num (f (k + 1))) ⟨_, rfl⟩ ⟨_, rfl⟩ trivial ?_
            intro h8 tk8 M
            have F8 := M.frame F7
            have N8 := M.news0 F7 N7
            clear F7 N7 M
            dsimp only
            k_steps
            refine sp_pair (Nat.lt_of_le_of_lt (Nat.add_le_add_left (by decide) _) (rdd _)) (Nat.lt_of_le_of_lt (Nat.add_le_add_left (by decide) _) (ruu _)) (rhh _) (Hw.keeps F8.keep) (d := .num ((f k).fmod 5)) (d' := .num ((f (k + 1)).fmod 5)) ⟨_, rfl⟩ ⟨_, rfl⟩ trivial ?_
            intro h9 tk9 M
            have F9 := M.frame F8
            have N9 := M.news0 F8 N8
            clear F8 N8 M
            dsimp only
            k_steps
            refine sp_pair (Nat.lt_of_le_of_lt (Nat.add_le_add_left (by decide) _) (rdd _)) (Nat.lt_of_le_of_lt (Nat.add_le_add_left (by decide) _) (ruu _)) (rhh _) (Hw.keeps F9.keep) (d := .pt ((f k).fmod 3) (((f k).fdiv 3).fmod 2)) (d' := .pt ((f (k + 1)).fmod 3) (((f (k + 1)).fdiv 3).fmod 2)) ⟨p1, d1, t5, t6, rfl, (N9 _ (.tail _ (.tail _ mp1))).1, (N9 _ (.tail _ (.tail _ md1))).1⟩ ⟨p2, d2, t7, t8, rfl, (N9 _ (.tail _ (.tail _ mp2))).1, (N9 _ (.tail _ (.tail _ md2))).1⟩ trivial ?_
            intro h10 tk10 M
            have F10 := M.frame F9
            have N10 := M.news0 F9 N9
            clear F9 N9 M
            dsimp only
            k_steps
            refine sp_segcls (Nat.lt_of_le_of_lt (Nat.add_le_add_left (by decide) _) (rdd _)) (rhh _) (Hw.keeps F10.keep) ?_
            intro h11 tk11 x1 dx1 ta1 tb1 M
            have F11 := M.frame F10
            have N11 := M.news2 F10 N10
            clear F10 N10 M
            dsimp only
            k_steps
            (rename Fr _ _ _ _ => F12); (rename News _ _ _ _ => N12)
            refine sp_segment (Nat.lt_of_le_of_lt (Nat.add_le_add_left (by decide) _) (rdd _)) (rhh _) (Hw.keeps F12.keep) ?_
            intro h13 tk13 x2 dx2 ta2 tb2 M
            have F13 := M.frame F12
            have N13 := M.news2 F12 N12
            clear F12 N12 M
            dsimp only
            k_steps
            (rename Fr _ _ _ _ => F14); (rename News _ _ _ _ => N14)
            refine ne_ptK F14 N14 Hw (Nat.lt_of_le_of_lt (Nat.le_add_right _ _) (ruu _)) (.tail _ (.tail _ (.tail _ (.tail _ (.tail _ (.tail _ mp1)))))) ?_
            k_steps
            refine ne_ptK F14 N14 Hw (Nat.lt_of_le_of_lt (Nat.le_add_right _ _) (ruu _)) (.tail _ (.tail _ (.tail _ (.tail _ (.tail _ (.tail _ mp2)))))) ?_
            k_steps
            refine ne_ptK F14 N14 Hw (Nat.lt_of_le_of_lt (Nat.le_add_right _ _) (ruu _)) (.tail _ (.tail _ (.tail _ (.tail _ (.tail _ (.tail _ mp2)))))) ?_
            k_steps
            refine ne_ptK F14 N14 Hw (Nat.lt_of_le_of_lt (Nat.le_add_right _ _) (ruu _)) (.tail _ (.tail _ (.tail _ (.tail _ (.tail _ (.tail _ mp1)))))) ?_
            k_steps
            refine ⟨_, _, _, nx, rfl, F14, fun p hp => N14 p (.tail _ (.tail _ (.tail _ (.tail _ (.tail _ hp))))), ho, fun z z1 z2 => ?_, rfl⟩
            have z3 := z2
            simp only [List.contains_cons, List.contains_nil, Bool.or_false, Bool.or_eq_false_iff, beq_eq_false_iff_ne] at z3
            obtain ⟨a1, a2, a3, a4⟩ := z3
            simp only [if_neg a4, if_neg a3, if_neg a1, if_neg a2, if_neg z1, z2, Bool.false_eq_true, if_false]
          · clear F N F6 N6 hR
            rintro nx h6 tk6 u rfl F N
            exact ⟨h6, tk6, u, rfl, F, N⟩
        clear F N
        rintro s' ⟨h6, tk6, u6, rfl, F, N⟩
        dsimp only at F
        refine cut (fun s' => LawF s₁ s') ?_ ?_
        · clear K0 G Y X' V GL B TE TW MM hcd hD ra hL hI ho hg
          have hz : us.toArray.size = n := by rw [List.size_toArray]; exact lu
          k_steps
          refine LCg.CompSrc.ledger (its := us.toArray) (ax := a) (k := nn) rfl F N ma (by rw [hz, sizeLine_eq]; omega) (fun g => ?_)
          rw [hz]
          dsimp only
          refine comp_ind (fun i ls news => ∃ kn2, news = kn2 ++ kq ∧ ls.length = i ∧ TuL kn2 ls f (fun k => (f k).fdiv 2) i) ⟨[], rfl, rfl, fun k hk => absurd hk (Nat.not_lt_zero _)⟩ ?_ ?_
          · clear F N
            rintro i ls news v I oI C oC D m₂ h₂ tk₂ E' hi hP ⟨kn2, rfl, hll, hli⟩ hC hx F₂ N₂ off ne
            obtain ⟨t, hv⟩ := R.us.at_ i hi
            have hP' : us[i]? = some v := by simpa using hP
            obtain rfl : v = .int (f i) t := Option.some.inj (hP'.symm.trans hv)
            dsimp only
            k_steps
            (rename Fr _ _ _ _ => F3); (rename News _ _ _ _ => N3)
            rename_i q h3 q1
            obtain ⟨tx, ty, N4⟩ : ∃ tx ty, News s₁.heap s₁.heap.objs.size h3 ((q, tupOf [.int (f i) tx, .int ((f i).fdiv 2) ty]) :: (I, oI) :: (C, oC) :: (D, LCg.lst ls) :: (kn2 ++ kq)) := ⟨_, _, N3⟩
            refine ⟨_, _, (q, tupOf [.int (f i) tx, .int ((f i).fdiv 2) ty]) :: (kn2 ++ kq), rfl, F3, fun p hp => N4 p (mem_rot hp), LCg.Off3.of fun p hp => ?_, .inr ⟨listOf us.toArray nn, by simp [ma], rfl, nn, rfl⟩, ⟨(q, tupOf [.int (f i) tx, .int ((f i).fdiv 2) ty]) :: kn2, rfl, by rw [List.length_append, hll]; rfl, hli.snoc hll⟩⟩
            rcases List.mem_cons.mp hp with rfl | hp
            · exact ⟨Nat.ne_of_gt q1.1, Nat.ne_of_gt q1.2.1, Nat.ne_of_gt q1.2.2.1⟩
            · exact off.mem p hp
          · rintro ls knn ⟨kn2, rfl, hll, hli⟩
            clear F N
            k_steps
            (rename Fr _ _ _ _ => F); (rename News _ _ _ _ => N)
            rename_i q h5 tk5 o1
            clear o1
            refine sp_sides (nn := ls.length) (Nat.lt_of_le_of_lt (Nat.add_le_add_left (by decide) _) (rdd _)) (Nat.lt_of_le_of_lt (Nat.add_le_add_left (by decide) _) (ruu _)) (rhh _) (Hw.keeps F.keep) (by omega) (N _ (.tail _ (List.mem_append.mpr (.inr m1)))).1 (N _ (.tail _ (List.mem_append.mpr (.inr m2)))).1 (N _ (.head _)).1 (hll ▸ hli.base fun p hp => (N p (.tail _ (List.mem_append.mpr (.inl hp)))).1) ?_
            intro h6 tk6 M
            have F6 := M.frame F
            have N6 := M.news0 F N
            clear F N M
            dsimp only
            k_steps
            exact ⟨_, _, _, _, rfl, F6, N6⟩
        clear F N
        rintro s' ⟨h7, tk7, kn7, m0, rfl, F, N⟩
        refine cut (fun s' => LawV s₁ s') ?_ ?_
        · clear K0 G Y X' V GL B TE TW MM hcd hD ra hL hI ho hg
          refine assign_comp_tup F (by with_unfolding_all rfl) (by rfl) (by decide) (by rfl) (by decide) (by rfl) (by rfl) (by rfl) ?_
          k_steps
          (rename Fr _ _ _ _ => F5); (rename News _ _ _ _ => N5)
          rename_i t h9 _
          refine ⟨t, [.ref 237, .ref 240, .ref 243, .ref 246, .ref 249, .ref 252, .ref 255], kn7, rfl, rhh _, F5, N5, by rw [sizeLine_eq]; simp, fun g => ?_⟩
          clear F5 N5
          refine LCg.CompRest.succ (k := 6) (fun v I oI C oC D m₂ h₂ tk₂ E' hP hC hx F₂ N₂ off ne => ?_)
          obtain rfl : Value.ref 237 = v := Option.some.inj hP
          dsimp only
          k_steps
          refine comp_made ((t, tupOf [.ref 237, .ref 240, .ref 243, .ref 246, .ref 249, .ref 252, .ref 255]) :: kn7) F₂ N₂ off (l := []) ⟨fun _ _ e => e, fun _ hp => nomatch hp⟩ (fun p hp => .inr hp) (.head _) ?_
          clear F₂ N₂ off ne hx hC hP
          refine LCg.CompRest.succ (k := 5) (fun v I oI C oC D m₂ h₂ tk₂ E' hP hC hx F₂ N₂ off ne => ?_)
          obtain rfl : Value.ref 240 = v := Option.some.inj hP
          dsimp only
          k_steps
          refine comp_made ((t, tupOf [.ref 237, .ref 240, .ref 243, .ref 246, .ref 249, .ref 252, .ref 255]) :: kn7) F₂ N₂ off (l := []) ⟨fun _ _ e => e, fun _ hp => nomatch hp⟩ (fun p hp => .inr hp) (.head _) ?_
          clear F₂ N₂ off ne hx hC hP
          refine LCg.CompRest.succ (k := 4) (fun v I oI C oC D m₂ h₂ tk₂ E' hP hC hx F₂ N₂ off ne => ?_)
          obtain rfl : Value.ref 243 = v := Option.some.inj hP
          dsimp only
          k_steps
          refine comp_made ((t, tupOf [.ref 237, .ref 240, .ref 243, .ref 246, .ref 249, .ref 252, .ref 255]) :: kn7) F₂ N₂ off (l := []) ⟨fun _ _ e => e, fun _ hp => nomatch hp⟩ (fun p hp => .inr hp) (.head _) ?_
          clear F₂ N₂ off ne hx hC hP
          refine LCg.CompRest.succ (k := 3) (fun v I oI C oC D m₂ h₂ tk₂ E' hP hC hx F₂ N₂ off ne => ?_)
          obtain rfl : Value.ref 246 = v := Option.some.inj hP
          dsimp only
          k_steps
          refine comp_made ((t, tupOf [.ref 237, .ref 240, .ref 243, .ref 246, .ref 249, .ref 252, .ref 255]) :: kn7) F₂ N₂ off (l := []) ⟨fun _ _ e => e, fun _ hp => nomatch hp⟩ (fun p hp => .inr hp) (.head _) ?_
          clear F₂ N₂ off ne hx hC hP
          refine LCg.CompRest.succ (k := 2) (fun v I oI C oC D m₂ h₂ tk₂ E' hP hC hx F₂ N₂ off ne => ?_)
          obtain rfl : Value.ref 249 = v := Option.some.inj hP
          dsimp only
          k_steps
          refine comp_made ((t, tupOf [.ref 237, .ref 240, .ref 243, .ref 246, .ref 249, .ref 252, .ref 255]) :: kn7) F₂ N₂ off (l := []) ⟨fun _ _ e => e, fun _ hp => nomatch hp⟩ (fun p hp => .inr hp) (.head _) ?_
          clear F₂ N₂ off ne hx hC hP
          refine LCg.CompRest.succ (k := 1) (fun v I oI C oC D m₂ h₂ tk₂ E' hP hC hx F₂ N₂ off ne => ?_)
          obtain rfl : Value.ref 252 = v := Option.some.inj hP
          dsimp only
          k_steps
          refine comp_made ((t, tupOf [.ref 237, .ref 240, .ref 243, .ref 246, .ref 249, .ref 252, .ref 255]) :: kn7) F₂ N₂ off (l := []) ⟨fun _ _ e => e, fun _ hp => nomatch hp⟩ (fun p hp => .inr hp) (.head _) ?_
          clear F₂ N₂ off ne hx hC hP
          refine LCg.CompRest.succ (k := 0) (fun v I oI C oC D m₂ h₂ tk₂ E' hP hC hx F₂ N₂ off ne => ?_)
          obtain rfl : Value.ref 255 = v := Option.some.inj hP
          dsimp only
          k_steps
          refine comp_made ((t, tupOf [.ref 237, .ref 240, .ref 243, .ref 246, .ref 249, .ref 252, .ref 255]) :: kn7) F₂ N₂ off (l := []) ⟨fun _ _ e => e, fun _ hp => nomatch hp⟩ (fun p hp => .inr hp) (.head _) ?_
          clear F₂ N₂ off ne hx hC hP
          refine LCg.CompRest.zero ?_
          intro D h10 tk10 F10 N10 _
          exact ⟨h10, tk10, _, m0, D, _, rfl, F10, N10, (.cons _ _ (.cons _ _ (.cons _ _ (.cons _ _ (.cons _ _ (.cons _ _ (.cons _ _ .nil)))))))⟩
        clear F N
        rintro s' ⟨h8, tk8, kn8, m1, D1, ys1, rfl, F, N, hv1⟩
        refine cut (fun s' => LawW s₁ s') ?_ ?_
        · clear K0 G Y X' V GL B TE TW MM hcd hD ra hL hI ho hg
          refine assign_comp_tup F (by with_unfolding_all rfl) (by rfl) (by decide) (by rfl) (by decide) (by rfl) (by rfl) (by rfl) ?_
          k_steps
          (rename Fr _ _ _ _ => F5); (rename News _ _ _ _ => N5)
          rename_i t h9 _
          refine ⟨t, [.ref 214, .ref 217, .ref 220], (D1, LCg.lst ys1) :: kn8, rfl, rhh _, F5, N5, by rw [sizeLine_eq]; simp, fun g => ?_⟩
          clear F5 N5
          refine LCg.CompRest.succ (k := 2) (fun v I oI C oC D m₂ h₂ tk₂ E' hP hC hx F₂ N₂ off ne => ?_)
          obtain rfl : Value.ref 214 = v := Option.some.inj hP
          dsimp only
          k_steps
          refine comp_made ((t, tupOf [.ref 214, .ref 217, .ref 220]) :: ((D1, LCg.lst ys1) :: kn8)) F₂ N₂ off (l := []) ⟨fun _ _ e => e, fun _ hp => nomatch hp⟩ (fun p hp => .inr hp) (.head _) ?_
          clear F₂ N₂ off ne hx hC hP
          refine LCg.CompRest.succ (k := 1) (fun v I oI C oC D m₂ h₂ tk₂ E' hP hC hx F₂ N₂ off ne => ?_)
          obtain rfl : Value.ref 217 = v := Option.some.inj hP
          dsimp only
          k_steps
          refine comp_made ((t, tupOf [.ref 214, .ref 217, .ref 220]) :: ((D1, LCg.lst ys1) :: kn8)) F₂ N₂ off (l := []) ⟨fun _ _ e => e, fun _ hp => nomatch hp⟩ (fun p hp => .inr hp) (.head _) ?_
          clear F₂ N₂ off ne hx hC hP
          refine LCg.CompRest.succ (k := 0) (fun v I oI C oC D m₂ h₂ tk₂ E' hP hC hx F₂ N₂ off ne => ?_)
          obtain rfl : Value.ref 220 = v := Option.some.inj hP
          dsimp only
          k_steps
          refine comp_made ((t, tupOf [.ref 214, .ref 217, .ref 220]) :: ((D1, LCg.lst ys1) :: kn8)) F₂ N₂ off (l := []) ⟨fun _ _ e => e, fun _ hp => nomatch hp⟩ (fun p hp => .inr hp) (.head _) ?_
          clear F₂ N₂ off ne hx hC hP
          refine LCg.CompRest.zero ?_
          intro D h10 tk10 F10 N10 _
          exact ⟨h10, tk10, _, m1, D1, D, ys1, _, rfl, F10, fun p hp => N10 p (by rcases List.mem_cons.mp hp with rfl | hp; exact .head _; exact .tail _ (.tail _ hp)), hv1, (.cons _ _ (.cons _ _ (.cons _ _ .nil)))⟩
        clear F N
        rintro s' ⟨h9, tk9, kn9, m2, D1, D2, ys1, ys2, rfl, F, N, hv1, hv2⟩
        repeat ((fail_if_success (with_reducible show wpAny _ _ (compareOp CmpOp.NotEq (Value.ref _) (Value.ref _)) _ _ _)); walk1)
        (rename Fr _ _ _ _ => F2); (rename News _ _ _ _ => N2)
        refine ints_ne_same (vs := ys1) (vs' := [.int 0 _, .int 1 _, .int 2 _, .int 3 _, .int 4 _, .int 5 _, .int 6 _]) ⟨_, (N2 _ (.tail _ (.tail _ (.head _)))).1, rfl, _, rfl⟩ ⟨_, (N2 _ (.head _)).1, rfl, _, rfl⟩ hv1 (.cons _ _ (.cons _ _ (.cons _ _ (.cons _ _ (.cons _ _ (.cons _ _ (.cons _ _ .nil))))))) (Nat.lt_of_le_of_lt (Nat.le_add_right _ _) (ruu _)) ?_
        repeat ((fail_if_success (with_reducible show wpAny _ _ (compareOp CmpOp.NotEq (Value.ref _) (Value.ref _)) _ _ _)); walk1)
        (rename Fr _ _ _ _ => F3); (rename News _ _ _ _ => N3)
        refine ints_ne_same (vs := ys2) (vs' := [.int (-1) _, .int 0 _, .int 1 _]) ⟨_, (N3 _ (.tail _ (.tail _ (.head _)))).1, rfl, _, rfl⟩ ⟨_, (N3 _ (.head _)).1, rfl, _, rfl⟩ hv2 (.cons _ _ (.cons _ _ (.cons _ _ .nil))) (Nat.lt_of_le_of_lt (Nat.le_add_right _ _) (ruu _)) ?_
        k_steps)
end Mine
theorem PySem.Challenge.cw_ah6008_01_holds : PySem.Challenge.rw_ah6008_01.Holds := by
  exact Mine.law_holds
