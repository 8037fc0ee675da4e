import PyProof.Rows.All
import Wide.All
import OpenK.AllK
import Wide.FinOn
import PySem.Challenge.RW_rk0001_01
set_option Elab.async false
set_option maxRecDepth 100000

/-! ## B0 -/
open PySem PySem.W PyProof.Rows
namespace Lw
set_option maxRecDepth 100000 in
set_option maxHeartbeats 8000000 in
open_top hd for PySem.Challenge.rw_rk0001_01
end Lw

/-! ## B1 -/
open PySem PySem.W PyProof.Rows PySem.Calls
namespace Lw

/-- the ground: what the top left, in a heap -/
structure Gd (w : World) (mg mb : Str → Option Value) (h : Heap) : Prop where
  X : (Lw.hd.heap_39 w.params).In h
  T : TopRead Lw.hd.view_39 [Str.ofString "SourceLocation"] mg mb h

theorem Gd.keeps {w : World} {mg mb : Str → Option Value} {h h' : Heap} (G : Gd w mg mb h) (k : ∀ b o, h.get? b = some o → h'.get? b = some o) : Gd w mg mb h' := ⟨G.X.keeps k, G.T.keeps k⟩

/-- room: depth and units -/
structure Rm (A : Around) (n : Nat) : Prop where
  h : A.handled = none
  d : A.depth + n ≤ 900
  u : A.units + 10 * n ≤ 9000

theorem Rm.mono {A : Around} {n k : Nat} (R : Rm A n) (h : k ≤ n) : Rm A k := ⟨R.h, by have := R.d; omega, by have := R.u; omega⟩
theorem Rm.in1 {A : Around} {n : Nat} (R : Rm A (n + 1)) : Rm A.in1 n := ⟨R.h, by have := R.d; show A.depth + n ≤ 900; omega, by have := R.u; show A.units + 1 + 10 * n ≤ 9000; omega⟩
theorem Rm.deeper {A : Around} {n : Nat} {env : Env} (R : Rm A (n + 1)) : Rm (A.deeper env) n := ⟨R.h, by have := R.d; show A.depth + 1 + n ≤ 900; omega, by have := R.u; show A.units + 3 + 10 * n ≤ 9000; omega⟩
theorem Rm.room {A : Around} {n : Nat} (R : Rm A n) : A.depth < recursionLimit := by have := R.d; show A.depth < 1000; omega

section
variable {prog : Program} {w : World} {A : Around} {E : Value → Shared → Prop} {s : Shared} {mg mb : Str → Option Value} {env : Env} {x : Str} {pos : Pos} {v : Value} {Q : Value → Shared → Prop}

/-- a global of the text's -/
theorem nmG {M : Model} (G : Gd w mg mb s.heap) (e : nsIn (Lw.hd.heap_39 w.params) mainGlobals x = some (some v)) (h : Q v s)
    (hg : env.globals = mainGlobals) (hk : env.scope.kind = .function) (hx : env.kindOf x = some .globalImplicit) (hd : (x == ("__debug__" : Str)) = false) :
    wpAny M A (eval (.Name x pos) env) Q E s :=
  Name_function_global hk hx (loadGlobal_global (env := env) (by rw [hg]; exact G.T.g) (mg_of G.X G.T.g e) h) hd

/-- a name of the built-ins -/
theorem nmB {M : Model} (G : Gd w mg mb s.heap) (e : nsIn (Lw.hd.heap_39 w.params) mainGlobals x = some none) (hv : bootBuiltins x = some v) (hn : x ≠ "__name__") (h : Q v s)
    (hg : env.globals = mainGlobals) (hb : env.builtins = builtinsNs) (hk : env.scope.kind = .function) (hx : env.kindOf x = some .globalImplicit) (hd : (x == ("__debug__" : Str)) = false) :
    wpAny M A (eval (.Name x pos) env) Q E s :=
  Name_function_global hk hx (loadGlobal_builtin (env := env) (by rw [hg]; exact G.T.g) (mg_none_of G.X G.T.g e) (by rw [hb]; exact G.T.b) ((G.T.builtins x hn).trans hv) h) hd

theorem nmL {M : Model} {m : Str → Option Value} (hn : s.heap.Ns env.locals m) (hv : m x = some v) (h : Q v s) (hk : env.scope.kind = .function) (hx : env.kindOf x = some .local) (hd : (x == ("__debug__" : Str)) = false) :
    wpAny M A (eval (.Name x pos) env) Q E s := wpAny_Name (wpAny_loadName_local hk hx hn hv h) hd
theorem nmC {M : Model} {c : Addr} (hc : env.cells.lookup x = some c) (hi : s.heap.IsCell c (some v)) (h : Q v s) (hk : env.scope.kind = .function) (hx : env.kindOf x = some .cell) (hd : (x == ("__debug__" : Str)) = false) :
    wpAny M A (eval (.Name x pos) env) Q E s := wpAny_Name (wpAny_loadName_cell hk hx hc hi h) hd
end

/-- all that stood stays, nothing but heap and tokens turns -/
abbrev Kp (s s' : Shared) : Prop := Keeps s s'
theorem Keeps.refl (s : Shared) : Keeps s s := ⟨s.heap, s.toks, rfl, fun _ _ e => e⟩
theorem Keeps.trans {a b c : Shared} (x : Keeps a b) (y : Keeps b c) : Keeps a c := by
  obtain ⟨h, t, rfl, k⟩ := x
  obtain ⟨h', t', rfl, k'⟩ := y
  exact ⟨h', t', rfl, fun b o e => k' b o (k b o e)⟩

theorem lk_SL (P : Params) : nsIn (Lw.hd.heap_39 P) mainGlobals (Str.ofString "SourceLocation") = some (some (.ref 48)) := by kernel_rfl
theorem lk_len (P : Params) : nsIn (Lw.hd.heap_39 P) mainGlobals (Str.ofString "len") = some none := by kernel_rfl
theorem mk48 (P : Params) : makesIn (Lw.hd.heap_39 P) 48 = true := by kernel_rfl
theorem mk79 (P : Params) : makesIn (Lw.hd.heap_39 P) 79 = true := by kernel_rfl

theorem bt_len : bootBuiltins "len" = some (.builtin "len") := by decide +kernel
theorem bt_list : bootBuiltins "list" = some (.type "list") := by decide +kernel
theorem bt_iter : bootBuiltins "iter" = some (.builtin "iter") := by decide +kernel
theorem bt_zip : bootBuiltins "zip" = some (.type "zip") := by decide +kernel
theorem bt_range : bootBuiltins "range" = some (.type "range") := by decide +kernel
theorem bt_enum : bootBuiltins "enumerate" = some (.type "enumerate") := by decide +kernel
end Lw

/-! ## B2 -/
namespace Lw

abbrev locObj (dl : Addr) (fn row col ln : Value) : Obj := ⟨.ref 48, some dl, .plain, #[some col, some fn, some ln, some row, some .none]⟩
abbrev loc0 (dl : Addr) (sl : Array (Option Value)) : Obj := ⟨.ref 48, some dl, .plain, sl⟩

section
variable {prog : Program} {w : World} {A : Around} {E : Value → Shared → Prop} {s : Shared} {mg mb : Str → Option Value} {env : Env}

theorem slotStep {x attr : Str} {p1 p2 p3 p4 : Pos} {i p : Nat} {y dl : Addr} {sl : Array (Option Value)} (sl' : Array (Option Value)) {v : Value} {h₀ : Heap} {m : Str → Option Value} {Q : Flow → Shared → Prop}
    (G : Gd w mg mb h₀) (F : Fr h₀ env.locals s.heap m) (N : News h₀ env.locals s.heap [(y, loc0 dl sl), (dl, dictOf [] 0)]) (hne : dl ≠ y)
    (e : (sl ++ Array.replicate (i + 1 - sl.size) none).setIfInBounds i (some v) = sl')
    (hv : m x = some v) (hself : m (Str.ofString "self") = some (.ref y))
    (ht : takerIn (Lw.hd.heap_39 w.params) 48 attr = some (some (.ref p))) (hT : typeIn (Lw.hd.heap_39 w.params) (.ref p) = some (.type "member_descriptor")) (hi : slotIn (Lw.hd.heap_39 w.params) p 48 = some i) (hz : i < 1000)
    (hk : env.scope.kind = .function) (hx : env.kindOf x = some .local) (hs : env.kindOf (Str.ofString "self") = some .local) (hd : (x == ("__debug__" : Str)) = false)
    (h : ∀ h' tk, Fr h₀ env.locals h' m → News h₀ env.locals h' [(y, loc0 dl sl'), (dl, dictOf [] 0)] → Q .next { s with heap := h', toks := tk }) :
    wpAny (model prog w) A (exec (.Assign [.Attribute (.Name (Str.ofString "self") p1) attr p2] (.Name x p3) p4) env) Q E s := by
  refine plainObj_wpAny_Assign_Attribute (nmL F.ns hv (nmL F.ns hself ?_ hk hs (by decide)) hk hx hd)
  exact set_slot (od := dictOf [] 0) F G.X N (InstAt.of_news N (.head _) (.tail _ (.head _))) (by kernel_rfl) (by kernel_rfl) ht hT hi hz (by rw [e]) rfl
    (.head fun p hp => by rw [List.mem_singleton.mp hp]; exact hne) fun h' F' N' => h h' _ F' N'

set_option maxHeartbeats 1000000 in
theorem mkLoc {fn row col ln : Value} {Q : Value → Shared → Prop} (G : Gd w mg mb s.heap) (R : Rm A 3)
    (h : ∀ h' tk y dl, (∀ b o, s.heap.get? b = some o → h'.get? b = some o) → s.heap.objs.size ≤ y → s.heap.objs.size ≤ dl → h'.get? dl = some (dictOf [] 0) →
      h'.get? y = some (locObj dl fn row col ln) → Q (.ref y) { s with heap := h', toks := tk }) :
    wpAny (model prog w) A (call (.ref 48) [fn, row, col, ln] []) Q E s := by
  obtain ⟨hh, g, d, t, os⟩ := s
  refine wpAny_call (make_core (init := .ref 37) (makes_of G.X (mk48 _)) (looks_findIn G.X (by kernel_rfl)) (fun self => bind_fn G.X self (by kernel_rfl)) (.inl rfl) ?_)
  have k0 : ∀ b o, hh.get? b = some o → ((hh.push emptyDict).push (instObj 48 hh.objs.size)).get? b = some o := fun b o e => Heap.get?_push_of_some _ (Heap.get?_push_of_some _ e)
  have G' := G.keeps k0
  have ho := G'.X 37 _ rfl
  refine codeAny_call_def (binds := [(Str.ofString "self", .ref (hh.objs.size + 1)), (Str.ofString "filename", fn), (Str.ofString "row", row), (Str.ofString "col", col), (Str.ofString "ln", ln), (Str.ofString "source", .none)])
    (by show A.depth + 1 < 1000; have := R.d; omega) ho rfl G'.T.nolimit (codeRec_of G'.X (by kernel_rfl)) rfl (binds_K (o := _) G'.X rfl rfl rfl rfl rfl) (by decide) (locs rfl) (fun h₀ hn hk => ?_)
  have hy : h₀.get? (hh.objs.size + 1) = some (loc0 hh.objs.size #[]) := hk _ _ (by have := Heap.get?_push_size (hh.push emptyDict) (show (instObj 48 hh.objs.size).isFreed = false from rfl); rwa [Heap.size_push] at this)
  have hdl : h₀.get? hh.objs.size = some (dictOf [] 0) := hk _ _ (Heap.get?_push_of_some _ (Heap.get?_push_size _ rfl))
  have hL : ((hh.push emptyDict).push (instObj 48 hh.objs.size)).objs.size = hh.objs.size + 2 := by rw [Heap.size_push, Heap.size_push]
  dsimp only at hn hk ⊢
  have fr : ∀ a, hh.objs.size ≤ a → hh.get? a = none := fun a ha => Heap.get?_none_of_le ha
  have F : Fr hh ((hh.push emptyDict).push (instObj 48 hh.objs.size)).objs.size h₀ _ := ⟨hn, fun b o e => hk b o (k0 b o e), by rw [hL]; omega⟩
  have N : News hh ((hh.push emptyDict).push (instObj 48 hh.objs.size)).objs.size h₀ [(hh.objs.size + 1, loc0 hh.objs.size #[]), (hh.objs.size, dictOf [] 0)] := by
    intro p hp
    rcases List.mem_cons.mp hp with rfl | hp
    · exact ⟨hy, by rw [hL]; show hh.objs.size + 1 ≠ _; omega, fr _ (Nat.le_succ _)⟩
    · rw [List.mem_singleton.mp hp]
      exact ⟨hdl, by rw [hL]; show hh.objs.size ≠ _; omega, fr _ (Nat.le_refl _)⟩
  have hne : hh.objs.size ≠ hh.objs.size + 1 := by omega
  refine wpAny_execs_cons (slotStep (p := 50) (i := 1) (#[none, some fn]) G F N hne (by kernel_rfl) rfl rfl (by kernel_rfl) (by kernel_rfl) (by kernel_rfl) (by decide) rfl rfl rfl (by decide) fun h1 t1 F N => ?_)
  refine wpAny_execs_cons (slotStep (p := 52) (i := 3) (#[none, some fn, none, some row]) G F N hne (by kernel_rfl) rfl rfl (by kernel_rfl) (by kernel_rfl) (by kernel_rfl) (by decide) rfl rfl rfl (by decide) fun h1 t1 F N => ?_)
  refine wpAny_execs_cons (slotStep (p := 49) (i := 0) (#[some col, some fn, none, some row]) G F N hne (by kernel_rfl) rfl rfl (by kernel_rfl) (by kernel_rfl) (by kernel_rfl) (by decide) rfl rfl rfl (by decide) fun h1 t1 F N => ?_)
  refine wpAny_execs_cons (slotStep (p := 51) (i := 2) (#[some col, some fn, some ln, some row]) G F N hne (by kernel_rfl) rfl rfl (by kernel_rfl) (by kernel_rfl) (by kernel_rfl) (by decide) rfl rfl rfl (by decide) fun h1 t1 F N => ?_)
  refine wpAny_execs_cons (slotStep (p := 53) (i := 4) (#[some col, some fn, some ln, some row, some .none]) G F N hne (by kernel_rfl) rfl rfl (by kernel_rfl) (by kernel_rfl) (by kernel_rfl) (by decide) rfl rfl rfl (by decide) fun h1 t1 F N => ?_)
  refine wpAny_execs_nil ⟨rfl, ?_⟩
  exact h h1 _ (hh.objs.size + 1) hh.objs.size F.keep (by show hh.objs.size ≤ _; omega) (Nat.le_refl _) (N _ (.tail _ (.head _))).1 (N _ (.head _)).1
end
end Lw

/-! ## B3 -/
namespace Lw

abbrev chDict (P : Params) (k1 k2 : Tok) (sg loc : Value) : List DictEntry := [⟨PyData.keyHash P (Str.ofString "char"), .str (Str.ofString "char") k1, sg⟩, ⟨PyData.keyHash P (Str.ofString "loc"), .str (Str.ofString "loc") k2, loc⟩]

section
variable {prog : Program} {w : World} {A : Around} {E : Value → Shared → Prop} {s : Shared} {mg mb : Str → Option Value} {env : Env}

theorem dictStep {x attr : Str} {p1 p2 p3 p4 : Pos} {y dx : Addr} {v : Value} {es : List DictEntry} {n : Nat} {h₀ : Heap} {m : Str → Option Value} {Q : Flow → Shared → Prop}
    (G : Gd w mg mb h₀) (F : Fr h₀ env.locals s.heap m) (N : News h₀ env.locals s.heap [(y, instObj 79 dx), (dx, dictOf es n)]) (hne : y ≠ dx)
    (hv : m x = some v) (hself : m (Str.ofString "self") = some (.ref y))
    (ht : takerIn (Lw.hd.heap_39 w.params) 79 attr = some none) (hl : (getL attr es).isSome = true)
    (hp : ∀ k, (putL attr (PyData.keyHash w.params attr) (.str attr k) v es, putN attr es n) = (es ++ [⟨PyData.keyHash w.params attr, .str attr k, v⟩], n + 1)) (hz : es.length < 1000)
    (hk : env.scope.kind = .function) (hx : env.kindOf x = some .local) (hs : env.kindOf (Str.ofString "self") = some .local) (hd : (x == ("__debug__" : Str)) = false)
    (h : ∀ h' tk k, Fr h₀ env.locals h' m → News h₀ env.locals h' [(y, instObj 79 dx), (dx, dictOf (es ++ [⟨PyData.keyHash w.params attr, .str attr k, v⟩]) (n + 1))] → Q .next { s with heap := h', toks := tk }) :
    wpAny (model prog w) A (exec (.Assign [.Attribute (.Name (Str.ofString "self") p1) attr p2] (.Name x p3) p4) env) Q E s := by
  refine plainObj_wpAny_Assign_Attribute (nmL F.ns hv (nmL F.ns hself ?_ hk hs (by decide)) hk hx hd)
  exact set_dict F G.X N (InstAt.of_news N (.head _) (.tail _ (.head _))) rfl (by kernel_rfl) (by kernel_rfl) ht (by kernel_rfl) hl (hp _)
    (.tail hne (.head fun p hp => nomatch hp)) (by rw [List.length_append]; exact hz) fun h' F' N' => h h' _ _ F' N'

set_option maxHeartbeats 1000000 in
theorem mkChar {sg loc : Value} {Q : Value → Shared → Prop} (G : Gd w mg mb s.heap) (R : Rm A 3)
    (h : ∀ h' tk x dx k1 k2, (∀ b o, s.heap.get? b = some o → h'.get? b = some o) → s.heap.objs.size ≤ x → s.heap.objs.size ≤ dx → h'.get? x = some (instObj 79 dx) →
      h'.get? dx = some (dictOf (chDict w.params k1 k2 sg loc) 2) → Q (.ref x) { s with heap := h', toks := tk }) :
    wpAny (model prog w) A (call (.ref 79) [sg, loc] []) Q E s := by
  obtain ⟨hh, g, d, t, os⟩ := s
  refine wpAny_call (make_core (init := .ref 69) (makes_of G.X (mk79 _)) (looks_findIn G.X (by kernel_rfl)) (fun self => bind_fn G.X self (by kernel_rfl)) (.inl rfl) ?_)
  have k0 : ∀ b o, hh.get? b = some o → ((hh.push emptyDict).push (instObj 79 hh.objs.size)).get? b = some o := fun b o e => Heap.get?_push_of_some _ (Heap.get?_push_of_some _ e)
  have G' := G.keeps k0
  have ho := G'.X 69 _ rfl
  refine codeAny_call_def (binds := [(Str.ofString "self", .ref (hh.objs.size + 1)), (Str.ofString "char", sg), (Str.ofString "loc", loc)])
    (by show A.depth + 1 < 1000; have := R.d; omega) ho rfl G'.T.nolimit (codeRec_of G'.X (by kernel_rfl)) rfl (BindsTo.of_eq rfl) (by decide) (locs rfl) (fun h₀ hn hk => ?_)
  have hy : h₀.get? (hh.objs.size + 1) = some (instObj 79 hh.objs.size) := hk _ _ (by have := Heap.get?_push_size (hh.push emptyDict) (show (instObj 79 hh.objs.size).isFreed = false from rfl); rwa [Heap.size_push] at this)
  have hdl : h₀.get? hh.objs.size = some (dictOf [] 0) := hk _ _ (Heap.get?_push_of_some _ (Heap.get?_push_size _ rfl))
  have hL : ((hh.push emptyDict).push (instObj 79 hh.objs.size)).objs.size = hh.objs.size + 2 := by rw [Heap.size_push, Heap.size_push]
  dsimp only at hn hk ⊢
  have fr : ∀ a, hh.objs.size ≤ a → hh.get? a = none := fun a ha => Heap.get?_none_of_le ha
  have F : Fr hh ((hh.push emptyDict).push (instObj 79 hh.objs.size)).objs.size h₀ _ := ⟨hn, fun b o e => hk b o (k0 b o e), by rw [hL]; omega⟩
  have N : News hh ((hh.push emptyDict).push (instObj 79 hh.objs.size)).objs.size h₀ [(hh.objs.size + 1, instObj 79 hh.objs.size), (hh.objs.size, dictOf [] 0)] := by
    intro p hp
    rcases List.mem_cons.mp hp with rfl | hp
    · exact ⟨hy, by rw [hL]; show hh.objs.size + 1 ≠ _; omega, fr _ (Nat.le_succ _)⟩
    · rw [List.mem_singleton.mp hp]
      exact ⟨hdl, by rw [hL]; show hh.objs.size ≠ _; omega, fr _ (Nat.le_refl _)⟩
  have hne : hh.objs.size + 1 ≠ hh.objs.size := by omega
  refine wpAny_execs_cons (dictStep G F N hne rfl rfl (by kernel_rfl) (by kernel_rfl) (fun k => by kernel_rfl) (by decide) rfl rfl rfl (by decide) fun h1 t1 k1 F N => ?_)
  refine wpAny_execs_cons (dictStep G F N hne rfl rfl (by kernel_rfl) (by kernel_rfl) (fun k => by kernel_rfl) (by show 1 < 1000; decide) rfl rfl rfl (by decide) fun h1 t1 k2 F N => ?_)
  refine wpAny_execs_nil ⟨rfl, ?_⟩
  exact h h1 _ (hh.objs.size + 1) hh.objs.size k1 k2 F.keep (by show hh.objs.size ≤ _; omega) (Nat.le_refl _) (N _ (.head _)).1 (N _ (.tail _ (.head _))).1

/-- char.char and char.loc, read -/
theorem getChar {x dx : Addr} {k1 k2 : Tok} {sg loc : Value} {n : Nat} {Q : Value → Shared → Prop} {ex : Bool} (G : Gd w mg mb s.heap) (hx : s.heap.get? x = some (instObj 79 dx)) (hd : s.heap.get? dx = some (dictOf (chDict w.params k1 k2 sg loc) n))
    (hh : handedIn sg = true) (h : Q sg { s with toks := s.toks + 1 }) : wpAny (model prog w) A (getAttr (.ref x) (Str.ofString "char") ex) Q E s :=
  get_value (C := 79) (od := some (dictOf (chDict w.params k1 k2 sg loc) n)) G.X ⟨hx, rfl, rfl, hd⟩ (by kernel_rfl) (findObj_own (by kernel_rfl) (attr := none) (by kernel_rfl) (by kernel_rfl) (by kernel_rfl)) hh h
theorem getLoc {x dx : Addr} {k1 k2 : Tok} {sg : Value} {y : Addr} {n : Nat} {Q : Value → Shared → Prop} {ex : Bool} (G : Gd w mg mb s.heap) (hx : s.heap.get? x = some (instObj 79 dx)) (hd : s.heap.get? dx = some (dictOf (chDict w.params k1 k2 sg (.ref y)) n))
    (h : Q (.ref y) { s with toks := s.toks + 1 }) : wpAny (model prog w) A (getAttr (.ref x) (Str.ofString "loc") ex) Q E s :=
  get_value (C := 79) (od := some (dictOf (chDict w.params k1 k2 sg (.ref y)) n)) G.X ⟨hx, rfl, rfl, hd⟩ (by kernel_rfl) (findObj_own (by kernel_rfl) (attr := none) (by kernel_rfl) (by kernel_rfl) (by kernel_rfl)) rfl h

theorem getSlot {y dl : Addr} {od : Obj} {sl : Array (Option Value)} {attr : Str} {p i : Nat} {v : Value} {Q : Value → Shared → Prop} {ex : Bool} (G : Gd w mg mb s.heap) (hy : s.heap.get? y = some (loc0 dl sl)) (hd : s.heap.get? dl = some od)
    (ha : findIn (Lw.hd.heap_39 w.params) (.ref 48) attr = some (some (.ref p))) (hg : plainGet (Lw.hd.heap_39 w.params) 48 attr = true) (hn : specialIn (Lw.hd.heap_39 w.params) (.ref p) "__get__" = some (some (.builtin "member_descriptor.__get__")))
    (ht : takesIn (Lw.hd.heap_39 w.params) (.ref p) = some true) (hp : slotIn (Lw.hd.heap_39 w.params) p 48 = some i) (hv : (sl[i]?).join = some v) (hh : handedIn v = true)
    (h : Q v { s with toks := s.toks + 1 }) : wpAny (model prog w) A (getAttr (.ref y) attr ex) Q E s :=
  get_bind (C := 48) (od := some od) G.X ⟨hy, rfl, rfl, hd⟩ (plainGet_of hg).1 (findObj_data (by kernel_rfl) ha hn ht) (plainGet_of hg).2
    (wpAny_call (slot_get (s := { s with toks := s.toks + 1 }) (od := some od) G.X ⟨hy, rfl, rfl, hd⟩ hp hv (handed_on hh h)))
end
end Lw

/-! ## B4 -/
namespace Lw

/-- an iterator whose turn binds a target: n turns, what is bound, its state -/
structure Bd (prog : Program) (w : World) (A : Around) (target : Expr) (env : Env) (I : Addr) (fp wr : List Addr) (n : Nat) (Bo : Nat → (Str → Option Value) → Prop) (St : Nat → Heap → Prop) (tn : List Str) : Prop where
  sub : ∀ b ∈ wr, b ∈ fp
  frame : ∀ i h h', St i h → (∀ b ∈ fp, ∀ o, h.get? b = some o → h'.get? b = some o) → St i h'
  turn : ∀ i (s : Shared) (m : Str → Option Value) (Q : Shared → Prop) (E : Value → Shared → Prop), i < n → St i s.heap → s.heap.Ns env.locals m → env.locals ∉ fp →
    (∀ h' tk m', St (i + 1) h' → h'.Ns env.locals m' → Bo i m' → (∀ y, y ∉ tn → m' y = m y) → (∀ b o, b ∉ wr → b ≠ env.locals → s.heap.get? b = some o → h'.get? b = some o) → Q { s with heap := h', toks := tk }) →
    wpAny (model prog w) A (pyNext (.ref I)) (fun r s₁ => match r with
      | none => False
      | some v => wpAny (model prog w) A (letOwnedTupleGo target (.ref I) v) (fun _ s₂ => wpAny (model prog w) A (assign target env v) (fun _ s₃ => Q s₃) E s₂) E s₁) E s
  done : ∀ (s : Shared) (Q : Option Value → Shared → Prop) (E : Value → Shared → Prop), St n s.heap →
    (∀ h' tk, (∀ b o, b ∉ wr → s.heap.get? b = some o → h'.get? b = some o) → Q none { s with heap := h', toks := tk }) → wpAny (model prog w) A (pyNext (.ref I)) Q E s
  self : ∀ i (s : Shared) (Q : Value → Shared → Prop) (E : Value → Shared → Prop), St i s.heap → Q (.ref I) s → wpAny (model prog w) A (pyIter (.ref I)) Q E s

/-- a name bound by what an iterator hands on -/
theorem Bd.ofWalks {prog : Program} {w : World} {A : Around} {env : Env} {I : Addr} {fp wr : List Addr} {n : Nat} {P : Nat → Value → Prop} {St : Nat → Heap → Prop} (W : Walks prog w A I fp wr n P St) {x : Str} {px : Pos}
    (hx : env.kindOf x = some .local) (hp : (env.scope.kind == .class || (env.scope.kind == .module && env.locals != env.globals)) = false) :
    Bd prog w A (.Name x px) env I fp wr n (fun i m => ∃ v, m x = some v ∧ P i v) St [x] where
  sub := W.sub
  frame := W.frame
  turn := fun i s m Q E hi hst hn hLf hQ => by
    refine W.item i s _ _ hi hst fun v h₁ tk₁ hP hst₁ hk₁ => ?_
    have hLw : env.locals ∉ wr := fun h => hLf (W.sub _ h)
    refine wpAny_of_eq (a := ()) rfl ?_
    refine wpAny_assign_Name (wpAny_storeName_local hx (hn.at' fun o e => hk₁ _ o hLw e) (fun h₂ hn₂ hs₂ => ?_) hp)
    refine hQ h₂ _ _ (W.frame _ _ _ hst₁ fun b hb o e => hs₂.extBut b o (fun h => hLf (h ▸ hb)) e) hn₂ ⟨v, by simp, hP⟩ (fun y hy => by simp at hy; simp [hy]) fun b o hb hL e => hs₂.extBut b o hL (hk₁ b o hb e)
  done := W.done
  self := W.self

theorem Bd.bind {prog : Program} {w : World} {A : Around} {target : Expr} {env : Env} {I : Addr} {fp wr : List Addr} {n : Nat} {Bo : Nat → (Str → Option Value) → Prop} {St : Nat → Heap → Prop} {tn : List Str} (B : Bd prog w A target env I fp wr n Bo St tn)
    {β : Type} {fin k : Sem β} {Q : β → Shared → Prop} {E : Value → Shared → Prop} {s : Shared} {i : Nat} {m : Str → Option Value} (hlt : i < n) (hst : St i s.heap) (hn : s.heap.Ns env.locals m) (hf : env.locals ∉ fp)
    (h : ∀ h' tk m', St (i + 1) h' → h'.Ns env.locals m' → Bo i m' → (∀ y, y ∉ tn → m' y = m y) → (∀ b o, b ∉ wr → b ≠ env.locals → s.heap.get? b = some o → h'.get? b = some o) → wpAny (model prog w) A k Q E { s with heap := h', toks := tk }) :
    wpAny (model prog w) A (pyNext (.ref I) >>= fun r => match r with | none => fin | some v => letOwnedTupleGo target (.ref I) v >>= fun _ => assign target env v >>= fun _ => k) Q E s := by
  refine wpAny_bind (wpAny_mono (B.turn i s m (fun s₃ => wpAny (model prog w) A k Q E s₃) E hlt hst hn hf h) (fun r s₁ h₁ => ?_) fun _ _ e => e)
  cases r with
  | none => exact h₁.elim
  | some v => exact wpAny_bind (wpAny_mono h₁ (fun _ s₂ h₂ => wpAny_bind h₂) fun _ _ e => e)

section
variable {prog : Program} {w : World} {A : Around} {R : Result → Shared → Prop} {s : Shared}

theorem compLoopB {elt target iter : Expr} {scope : Scope} {pos : Pos} {I D : Addr} {fp wr : List Addr} {n : Nat} {Bo : Nat → (Str → Option Value) → Prop} {St : Nat → Heap → Prop} {tn : List Str}
    {cenv : Env} {m : Str → Option Value} (B : Bd prog w A target cenv I fp wr n Bo St tn) (F : Nat → Heap → List Value → Prop)
    (hF : ∀ i h h' ys, F i h ys → (∀ b o, cenv.locals < b → h.get? b = some o → h'.get? b = some o) → F i h' ys) (hlen : ∀ i h ys, F i h ys → ys.length = i)
    (hst : St 0 s.heap) (hacc : s.heap.IsList D #[]) (hn : s.heap.Ns cenv.locals m) (h0 : F 0 s.heap [])
    (hDf : D ∉ fp) (hCf : cenv.locals ∉ fp) (hDC : D < cenv.locals) (hwC : ∀ b ∈ wr, b < cenv.locals)
    (helt : ∀ i s₃ m₃ ys, i < n → F i s₃.heap ys → Bo i m₃ → s₃.heap.Ns cenv.locals m₃ → (∀ b o, b ∉ wr → b ≠ D → b ≠ cenv.locals → s.heap.get? b = some o → s₃.heap.get? b = some o) →
      wpAny (model prog w) A (eval elt cenv) (fun y s₄ => F (i + 1) s₄.heap (ys ++ [y]) ∧ Keeps s₃ s₄) (fun _ _ => False) s₃)
    (hR : ∀ h' tk m' ys, h'.Ns cenv.locals m' → h'.IsList D ys.toArray → F n h' ys → (∀ b o, b ∉ wr → b ≠ D → b ≠ cenv.locals → s.heap.get? b = some o → h'.get? b = some o) → R (.ok .next) { s with heap := h', toks := tk })
    (hsz : n ≤ sizeLine) :
    codeAny (model prog w) A (.compLoop (.ListComp elt [⟨target, iter, [], 0⟩] scope pos) 0 (.ref I) (.ref D) cenv) R s := by
  refine codeAny_loop rfl
    (fun k s' => ∃ i h' tk m' ys, s' = { s with heap := h', toks := tk } ∧ St i h' ∧ h'.IsList D ys.toArray ∧ h'.Ns cenv.locals m' ∧ F i h' ys ∧ i ≤ n ∧ k = n + 1 - i ∧
      (∀ b o, b ∉ wr → b ≠ D → b ≠ cenv.locals → s.heap.get? b = some o → h'.get? b = some o)) ?_ (n + 1)
    ⟨0, s.heap, s.toks, m, [], rfl, hst, hacc, hn, h0, Nat.zero_le _, rfl, fun _ _ _ _ _ e => e⟩
  rintro k s' ⟨i, H, tk, m', ys, rfl, hst', hacc', hn', hF', hi, rfl, hk⟩
  show wpAny _ A ((compTurn (.ListComp elt [⟨target, iter, [], 0⟩] scope pos) 0 (.ref I) (.ref D) cenv).onRaise (fun x => do noteFrame x cenv; theTreesLotGoes x)) _ _ _
  refine wpAny_onRaise ?_
  rw [compTurn_list1]
  refine wpAny_bind (wpAny_standAt ?_)
  have hDw : D ∉ wr := fun h => hDf (B.sub _ h)
  by_cases hlt : i < n
  · refine B.bind hlt hst' hn' hCf ?_
    intro h₂ tk₂ m₂ hst₂ hn₂ hBo _ hk₂
    have hacc₂ : h₂.IsList D ys.toArray := hacc'.at fun o e => hk₂ D o hDw (Nat.ne_of_lt hDC) e
    have hF₂ : F i h₂ ys := hF i H h₂ ys hF' fun b o hb e => hk₂ b o (fun hw => Nat.lt_asymm hb (hwC b hw)) (Nat.ne_of_gt hb) e
    refine wpAny_bind (wpAny_bind (wpAny_mono (helt i _ m₂ ys hlt hF₂ hBo hn₂ fun b o hb hD hC e => hk₂ b o hb hC (hk b o hb hD hC e)) (fun y s₄ h₄ => ?_) fun _ _ f => f.elim))
    obtain ⟨hF₄, h₄, tk₄, rfl, hk₄⟩ := h₄
    have hys : ys.toArray.size ≤ sizeLine := by rw [List.size_toArray, hlen i _ _ hF']; omega
    refine wpAny_bind (wpAny_list_append (hsz := hys) (hacc₂.at fun o e => hk₄ _ o e) fun h₅ hl₅ hs₅ => wpAny_pure (wpAny_pure ⟨rfl, n + 1 - (i + 1), by omega, ?_⟩))
    refine ⟨i + 1, h₅, tk₄, m₂, ys ++ [y], rfl, ?_, by simpa using hl₅, (hn₂.keeps hk₄).sameBut hs₅ (Ne.symm (Nat.ne_of_lt hDC)), ?_, hlt, rfl, fun b o hb hD hC e => hs₅.extBut b o hD (hk₄ b o (hk₂ b o hb hC (hk b o hb hD hC e)))⟩
    · exact B.frame _ _ _ hst₂ fun b hb o e => hs₅.extBut b o (fun h => hDf (h ▸ hb)) (hk₄ b o e)
    · exact hF _ _ _ _ hF₄ fun b o hb e => hs₅.extBut b o (Nat.ne_of_gt (Nat.lt_trans hDC hb)) e
  · have hin : i = n := by omega
    subst hin
    refine wpAny_bind (B.done _ _ _ hst' fun h₁ tk₁ hk₁ => wpAny_pure ?_)
    have hCw : cenv.locals ∉ wr := fun h => hCf (B.sub _ h)
    exact hR h₁ tk₁ m' ys (hn'.at' fun o e => hk₁ _ o hCw e) (hacc'.at fun o e => hk₁ _ o hDw e) (hF _ _ _ _ hF' fun b o hb e => hk₁ b o (fun hw => Nat.lt_asymm hb (hwC b hw)) e) fun b o hb hD hC e => hk₁ b o hb (hk b o hb hD hC e)

/-- the block of a comprehension over any iterator: the made list at D, the block's names at D + 1 -/
theorem compBlockB {E : Value → Shared → Prop} {env : Env} {elt target iter : Expr} {scope : Scope} {cl : List (Str × Addr)} {pos : Pos} {s₂ : Shared} {I : Addr} {fp wr : List Addr} {n : Nat} {Bo : Nat → (Str → Option Value) → Prop} {St : Nat → Heap → Prop} {tn : List Str}
    (B : Bd prog w A target (compEnvC scope cl (s₂.heap.objs.size + 1) env) I fp wr n Bo St tn) (hsz : n ≤ sizeLine) (F : Nat → Heap → List Value → Prop) {RR : Value → Addr → Result → Shared → Prop}
    (hcell : ∀ y ∈ scope.names, y.2 ≠ .cell) (hkind : scope.kind = .function) (hst : St 0 s₂.heap) (hfp : ∀ b ∈ fp, b < s₂.heap.objs.size)
    (hF : ∀ i h h' ys, F i h ys → (∀ b o, s₂.heap.objs.size + 1 < b → h.get? b = some o → h'.get? b = some o) → F i h' ys) (hlen : ∀ i h ys, F i h ys → ys.length = i) (h0 : ∀ h, F 0 h [])
    (helt : ∀ i s₃ m₃ ys, i < n → F i s₃.heap ys → Bo i m₃ → s₃.heap.Ns (s₂.heap.objs.size + 1) m₃ → (∀ b o, b ∉ wr → s₂.heap.get? b = some o → s₃.heap.get? b = some o) →
      wpAny (model prog w) A (eval elt (compEnvC scope cl (s₂.heap.objs.size + 1) env)) (fun y s₄ => F (i + 1) s₄.heap (ys ++ [y]) ∧ Keeps s₃ s₄) (fun _ _ => False) s₃)
    (hRR : ∀ h' tk m' ys, h'.Ns (s₂.heap.objs.size + 1) m' → h'.IsList s₂.heap.objs.size ys.toArray → F n h' ys → (∀ b o, b ∉ wr → s₂.heap.get? b = some o → h'.get? b = some o) →
      RR (.ref s₂.heap.objs.size) (s₂.heap.objs.size + 1) (.ok .next) { s₂ with heap := h', toks := tk }) :
    wpAny (model prog w) A (newList []) (fun acc s₃ => wpAny (model prog w) A (newFunctionEnv scope env.globals cl [] env.qual none .none (some env)) (fun cenv s₄ =>
      codeAny (model prog w) A (.compStart (.ListComp elt [⟨target, iter, [], 0⟩] scope pos) 0 (.ref I) acc { cenv with scope := relabel scope env }) (RR acc cenv.locals) s₄) E s₃) E s₂ := by
  refine wpAny_newObj_type (wpAny_newFunctionEnv hcell (by intro y hy; simp at hy) (fun h₁ hns₁ hsb₁ => ?_) hkind)
  dsimp only at hns₁ hsb₁ ⊢
  have hC : (s₂.heap.push { cls := .type "list", dict := none, data := .seq ([] : List Value).toArray }).objs.size = s₂.heap.objs.size + 1 := Heap.size_push ..
  rw [hC] at hns₁ hsb₁ ⊢
  have old : ∀ b o, s₂.heap.get? b = some o → h₁.get? b = some o := fun b o e => hsb₁.extBut b o (Nat.ne_of_lt (Nat.lt_succ_of_lt (Heap.lt_size e))) (Heap.get?_push_of_some _ (Heap.get?_push_of_some _ e))
  have hacc : h₁.IsList s₂.heap.objs.size #[] := ⟨_, hsb₁.extBut _ _ (Nat.ne_of_lt (Nat.lt_succ_self _)) (Heap.get?_push_of_some _ (Heap.get?_push_size _ rfl)), rfl, _, rfl⟩
  have hst₁ : St 0 h₁ := B.frame _ _ _ hst fun b _ o e => old b o e
  have loop : ∀ s₃ : Shared, s₃ = { s₂ with heap := h₁, toks := s₂.toks + ([] : List (Str × Value)).length } →
      codeAny (model prog w) A (.compLoop (.ListComp elt [⟨target, iter, [], 0⟩] scope pos) 0 (.ref I) (.ref s₂.heap.objs.size) (compEnvC scope cl (s₂.heap.objs.size + 1) env))
        (RR (.ref s₂.heap.objs.size) (s₂.heap.objs.size + 1)) s₃ := by
    rintro s₃ rfl
    refine compLoopB (cenv := compEnvC scope cl (s₂.heap.objs.size + 1) env) B F hF hlen hst₁ hacc hns₁ (h0 _) (fun h => Nat.lt_irrefl _ (hfp _ h)) (fun h => absurd (hfp _ h) (Nat.not_lt.mpr (Nat.le_succ _))) (Nat.lt_succ_self _)
      (fun b hb => Nat.lt_succ_of_lt (hfp b (B.sub b hb))) (fun i s₃ m₃ ys hi hF3 hBo hn3 hk3 => helt i s₃ m₃ ys hi hF3 hBo hn3 fun b o hb e => hk3 b o hb (Nat.ne_of_lt (Heap.lt_size e)) (Nat.ne_of_lt (Nat.lt_succ_of_lt (Heap.lt_size e))) (old b o e)) (fun h' tk m' ys a b c d => ?_) hsz
    exact hRR h' tk m' ys a b c fun b o hb e => d b o hb (Nat.ne_of_lt (Heap.lt_size e)) (Nat.ne_of_lt (Nat.lt_succ_of_lt (Heap.lt_size e))) (old b o e)
  exact codeAny_compStart_list (loop _ rfl) (B.self 0 _ _ _ hst₁ (loop _ rfl))

/-- what a comprehension over an iterator wants -/
inductive CompOk (prog : Program) (w : World) (A : Around) (target elt : Expr) (env : Env) (scope : Scope) (cl : List (Str × Addr)) (RR : Addr → List Value → Shared → Prop) (it : Value) (s₂ : Shared) : Prop
  | mk (I : Addr) (fp wr : List Addr) (n : Nat) (Bo : Nat → (Str → Option Value) → Prop) (St : Nat → Heap → Prop) (tn : List Str) (F : Nat → Heap → List Value → Prop) (hit : it = .ref I)
    (B : Bd prog w A target (compEnvC scope cl (s₂.heap.objs.size + 1) env) I fp wr n Bo St tn) (hsz : n ≤ sizeLine) (hst : St 0 s₂.heap) (hfp : ∀ b ∈ fp, b < s₂.heap.objs.size)
    (hF : ∀ i h h' ys, F i h ys → (∀ b o, s₂.heap.objs.size + 1 < b → h.get? b = some o → h'.get? b = some o) → F i h' ys) (hlen : ∀ i h ys, F i h ys → ys.length = i) (h0 : ∀ h, F 0 h [])
    (helt : ∀ i s₃ m₃ ys, i < n → F i s₃.heap ys → Bo i m₃ → s₃.heap.Ns (s₂.heap.objs.size + 1) m₃ → (∀ b o, b ∉ wr → s₂.heap.get? b = some o → s₃.heap.get? b = some o) →
        wpAny (model prog w) A (eval elt (compEnvC scope cl (s₂.heap.objs.size + 1) env)) (fun y s₄ => F (i + 1) s₄.heap (ys ++ [y]) ∧ Keeps s₃ s₄) (fun _ _ => False) s₃)
    (hQ : ∀ h' tk ys, h'.IsList s₂.heap.objs.size ys.toArray → F n h' ys → (∀ b o, b ∉ wr → s₂.heap.get? b = some o → h'.get? b = some o) → RR s₂.heap.objs.size ys { s₂ with heap := h', toks := tk })

/-- a comprehension over any iterator, its value handed on -/
theorem ListCompB {E : Value → Shared → Prop} {env : Env} {elt target iter : Expr} {scope : Scope} {cl : List (Str × Addr)} {pos : Pos} {Q : Value → Shared → Prop}
    (hclos : closureFor scope env = pure cl) (hcell : ∀ y ∈ scope.names, y.2 ≠ .cell) (hkind : scope.kind = .function) (hnames : ∀ x ∈ scope.names, x.2 = .local → scope.names.lookup x.1 = some .local)
    (h : wpAny (model prog w) A (eval iter env) (fun xv s₁ => wpAny (model prog w) A (pyIter xv) (fun it s₂ => CompOk prog w A target elt env scope cl (fun D _ s' => Q (.ref D) s') it s₂) E s₁) E s)
    (hs : ∀ x, foldedSetIterable iter env x = pure x) :
    wpAny (model prog w) A (eval (.ListComp elt [⟨target, iter, [], 0⟩] scope pos) env) Q E s := by
  rw [eval_ListComp]
  refine wpAny_comprehension_free rfl hs hclos hkind hnames (wpAny_mono h (fun xv s₁ h₁ => wpAny_mono h₁ (fun it s₂ h₂ => ?_) fun _ _ e => e) fun _ _ e => e)
  obtain ⟨I, fp, wr, n, Bo, St, tn, F, rfl, B, hsz, hst, hfp, hF, hlen, h0, helt, hQ⟩ := h₂
  refine compBlockB B hsz F hcell hkind hst hfp hF hlen h0 helt fun h' tk m' ys hn hl hFn hk => ?_
  refine ⟨m', hn, fun h'' hs'' => ?_⟩
  exact hQ h'' tk ys (hl.extBut hs''.extBut (Nat.ne_of_lt (Nat.lt_succ_self _))) (hF _ _ _ _ hFn fun b o hb e => hs''.extBut b o (Nat.ne_of_gt hb) e) fun b o hb e => hs''.extBut b o (Nat.ne_of_lt (Nat.lt_succ_of_lt (Heap.lt_size e))) (hk b o hb e)

/-- a comprehension stored into a local name of the frame (the interpreter stores before it lets the block's names go) -/
theorem AssignCompB {E : Value → Shared → Prop} {env : Env} {elt target iter : Expr} {scope : Scope} {cl : List (Str × Addr)} {pos spos py : Pos} {y : Str} {Q : Flow → Shared → Prop}
    (hsw : swapsWith (.ListComp elt [⟨target, iter, [], 0⟩] scope pos) (some (.Name y py)) spos.line env = pure true)
    (hclos : closureFor scope env = pure cl) (hcell : ∀ y ∈ scope.names, y.2 ≠ .cell) (hkind : scope.kind = .function) (hnames : ∀ x ∈ scope.names, x.2 = .local → scope.names.lookup x.1 = some .local)
    (hy : env.kindOf y = some .local) (hp : (env.scope.kind == .class || (env.scope.kind == .module && env.locals != env.globals)) = false)
    (h : wpAny (model prog w) A (eval iter env) (fun xv s₁ => wpAny (model prog w) A (pyIter xv) (fun it s₂ => env.locals < s₂.heap.objs.size ∧ ∃ m,
      CompOk prog w A target elt env scope cl (fun D ys s' => s'.heap.Ns env.locals m ∧ ∀ h₃ tk, h₃.Ns env.locals (fun z => if z = y then some (.ref D) else m z) →
        (∀ b o, b ≠ env.locals → b ≠ D + 1 → s'.heap.get? b = some o → h₃.get? b = some o) → Q .next { s' with heap := h₃, toks := tk }) it s₂) E s₁) E s)
    (hs : ∀ x, foldedSetIterable iter env x = pure x) :
    wpAny (model prog w) A (exec (.Assign [.Name y py] (.ListComp elt [⟨target, iter, [], 0⟩] scope pos) spos) env) Q E s := by
  rw [exec_Assign_Name_used _ _ _ _ hsw]
  refine wpAny_bind (wpAny_standAt (wpAny_bind ?_))
  show wpAny _ A (do let _ ← comprehension (.ListComp elt [⟨target, iter, [], 0⟩] scope pos) scope env _ (newList []) false (eval iter env) (some (assign (.Name y py) env))) _ _ s
  refine wpAny_bind (wpAny_mono (wpAny_comprehension_free (use := some (assign (.Name y py) env)) (Q := fun _ s' => Q .next s') rfl hs hclos hkind hnames (wpAny_mono h (fun xv s₁ h₁ => wpAny_mono h₁ (fun it s₂ h₂ => ?_) fun _ _ e => e) fun _ _ e => e))
    (fun _ s' hq => wpAny_pure (wpAny_pure hq)) fun _ _ e => e)
  obtain ⟨hLlt, m, I, fp, wr, n, Bo, St, tn, F, rfl, B, hsz, hst, hfp, hF, hlen, h0, helt, hQ⟩ := h₂
  refine compBlockB B hsz F hcell hkind hst hfp hF hlen h0 helt fun h' tk m' ys hn hl hFn hk => ?_
  have hLC : env.locals ≠ s₂.heap.objs.size + 1 := Nat.ne_of_lt (Nat.lt_succ_of_lt hLlt)
  obtain ⟨hnL, hQ'⟩ := hQ h' tk ys hl hFn hk
  refine wpAny_assign_Name (wpAny_storeName_local hy hnL (fun h₂ hn₂ hs₂ => ?_) hp)
  refine ⟨m', hn.sameBut hs₂ (Ne.symm hLC), fun h₃ hs₃ => ?_⟩
  exact hQ' h₃ _ (hn₂.sameBut hs₃ hLC) fun b o hbL hbC e => hs₃.extBut b o hbC (hs₂.extBut b o hbL e)
end
end Lw

/-! ## B5 -/
namespace Lw

/-- two names bound by pairs -/
theorem Bd.ofPairs {prog : Program} {w : World} {A : Around} {env : Env} {I : Addr} {fp wr : List Addr} {n : Nat} {Pt : Nat → Array Value → Prop} {St : Nat → Heap → Prop} {Mid : Nat → Addr → Heap → Prop}
    (hh : A.handled = none) (W : WalksU prog w A I fp wr n Pt St Mid) (Pv : Nat → Value → Value → Prop) (two : ∀ i vals, Pt i vals → ∃ va vb, vals = #[va, vb] ∧ Pv i va vb) {xa xb : Str} {pa pb pt : Pos} {kt : Nat} (hab : xa ≠ xb)
    (hxa : env.kindOf xa = some .local) (hxb : env.kindOf xb = some .local) (hp : (env.scope.kind == .class || (env.scope.kind == .module && env.locals != env.globals)) = false) :
    Bd prog w A (.Tuple [.Name xa pa, .Name xb pb] kt pt) env I fp wr n (fun i m => ∃ va vb, Pv i va vb ∧ m xa = some va ∧ m xb = some vb) St [xa, xb] where
  sub := W.sub
  frame := W.frame
  turn := fun i s m Q E hi hst hn hLf hQ => by
    have hLw : env.locals ∉ wr := fun h => hLf (W.sub _ h)
    refine W.item i s _ _ hi hst fun T vals h₁ tk₁ hPv hT₁ hmid hk₁ => ?_
    obtain ⟨va, vb, rfl, hP⟩ := two i vals hPv
    refine W.go _ _ _ i T _ _ _ hmid fun h₁' hst₁ hk₁' => ?_
    have hT₁' : h₁'.IsTuple T #[va, vb] := let ⟨o, e, r⟩ := hT₁; ⟨o, hk₁' _ o (W.apart i T _ hmid) e, r⟩
    refine wpAny_assign_Tuple hh hT₁' rfl rfl fun h₁'' hx₁ => ?_
    replace hx₁ : Heap.ExtBut h₁'.objs.size h₁' h₁'' := hx₁
    have old₁ : ∀ b o, h₁'.get? b = some o → h₁''.get? b = some o := fun b o e => hx₁ b o (Nat.ne_of_lt (Heap.lt_size e)) e
    show wpAny _ _ (do holding [vb] (assign (.Name xa pa) env va); do holding [] (assign (.Name xb pb) env vb); pure ()) _ _ _
    refine wpAny_bind (wpAny_holding (wpAny_assign_Name (wpAny_storeName_local hxa (hn.at' fun o e => old₁ _ o (hk₁' _ o hLw (hk₁ _ o hLw e))) (fun h₂a hn₂a hs₂a => ?_) hp)))
    replace hs₂a : Heap.SameBut env.locals h₁'' h₂a := hs₂a
    refine wpAny_bind (wpAny_holding (wpAny_assign_Name (wpAny_storeName_local hxb hn₂a (fun h₂ hn₂ hs₂ => wpAny_pure ?_) hp)))
    replace hs₂ : Heap.SameBut env.locals h₂a h₂ := hs₂
    refine hQ h₂ _ _ (W.frame _ _ _ hst₁ fun b hb o e => hs₂.extBut b o (fun h => hLf (h ▸ hb)) (hs₂a.extBut b o (fun h => hLf (h ▸ hb)) (old₁ b o e))) hn₂ ⟨va, vb, hP, by simp [hab], by simp⟩ (fun y hy => by simp at hy; simp [hy.1, hy.2]) fun b o hb hL e =>
      hs₂.extBut b o hL (hs₂a.extBut b o hL (old₁ b o (hk₁' b o hb (hk₁ b o hb e))))
  done := W.done
  self := W.self

theorem enumW {prog : Program} {w : World} {A : Around} (hh : A.handled = none) {h : Heap} {e it : Addr} {x : Str} {t : Tok} (he : IsEnum h e it 0 .none) (hit : h.IsStrIter it (strIterType x) x t 0) (hei : e ≠ it) :
    ∃ (Pt : Nat → Array Value → Prop) (St : Nat → Heap → Prop) (Mid : Nat → Addr → Heap → Prop), WalksU prog w A e [e, it] [e, it] x.cps.size Pt St Mid ∧ St 0 h ∧
      ∀ i vals, Pt i vals → ∃ va vb, vals = #[va, vb] ∧ ∃ (tk : Tok) (c : Nat) (u : Tok), x.cps[i]? = some c ∧ va = .int i tk ∧ vb = .str ⟨#[c]⟩ u := by
  unfold strIterType at hit
  have two : ∀ (i : Nat) (vals : Array Value), (∃ (t : Tok) (x' : Value), (∃ (c : Nat) (u : Tok), x.cps[i]? = some c ∧ x' = Value.str ⟨#[c]⟩ u) ∧ vals = #[.int i t, x']) →
      ∃ va vb, vals = #[va, vb] ∧ ∃ (tk : Tok) (c : Nat) (u : Tok), x.cps[i]? = some c ∧ va = .int i tk ∧ vb = .str ⟨#[c]⟩ u := by
    rintro i vals ⟨t, x', ⟨c, u, hc, rfl⟩, rfl⟩
    exact ⟨_, _, rfl, t, c, u, hc, rfl, rfl⟩
  split at hit
  · exact ⟨_, _, _, (WalksT.enumerateD (Draws.strAscii (A := A.in1) hh it x t) e hei (by simpa using hei) (by simp)).toU, ⟨⟨_, he⟩, hit⟩, two⟩
  · exact ⟨_, _, _, (WalksT.enumerateD (Draws.strWide (A := A.in1) hh it x t) e hei (by simpa using hei) (by simp)).toU, ⟨⟨_, he⟩, hit⟩, two⟩

/-- a list, its items above a bound -/
def LstA (n : Nat) (h : Heap) (l : Addr) (vs : List Value) : Prop := n ≤ l ∧ h.IsList l vs.toArray

abbrev Tri := Nat × Nat × Int

/-- a Char object, its place with it, above a bound -/
def CharAt (w : World) (n : Nat) (h : Heap) (v : Value) (p : Tri) : Prop :=
  ∃ x dx y dl t k1 k2 t1 t2 t3 t4, v = .ref x ∧ n ≤ x ∧ n ≤ dx ∧ n ≤ y ∧ n ≤ dl ∧ h.get? x = some (instObj 79 dx) ∧
    h.get? dx = some (dictOf (chDict w.params k1 k2 (.str ⟨#[p.1]⟩ t) (.ref y)) 2) ∧ h.get? dl = some (dictOf [] 0) ∧
    h.get? y = some (locObj dl (.str (Str.ofString "w.c") t1) (.int p.2.1 t2) (.int p.2.2 t3) (.int 1 t4))
theorem CharAt.keep {w : World} {n : Nat} {h h' : Heap} {v : Value} {p : Tri} (x : CharAt w n h v p) (k : ∀ b o, n ≤ b → h.get? b = some o → h'.get? b = some o) : CharAt w n h' v p := by
  obtain ⟨x, dx, y, dl, t, k1, k2, t1, t2, t3, t4, rfl, a1, a2, a3, a4, b1, b2, b3, b4⟩ := x
  exact ⟨x, dx, y, dl, t, k1, k2, t1, t2, t3, t4, rfl, a1, a2, a3, a4, k _ _ a1 b1, k _ _ a2 b2, k _ _ a4 b3, k _ _ a3 b4⟩
theorem CharAt.low {w : World} {n n' : Nat} {h : Heap} {v : Value} {p : Tri} (x : CharAt w n h v p) (hn : n' ≤ n) : CharAt w n' h v p := by
  obtain ⟨x, dx, y, dl, t, k1, k2, t1, t2, t3, t4, rfl, a1, a2, a3, a4, b⟩ := x
  exact ⟨x, dx, y, dl, t, k1, k2, t1, t2, t3, t4, rfl, Nat.le_trans hn a1, Nat.le_trans hn a2, Nat.le_trans hn a3, Nat.le_trans hn a4, b⟩

/-- a told tuple -/
def TupAt (n : Nat) (h : Heap) (v : Value) (p : Tri) : Prop :=
  ∃ a t t1 t2 t3 t4, v = .ref a ∧ n ≤ a ∧ h.get? a = some { cls := .type "tuple", data := .seq #[.str ⟨#[p.1]⟩ t, .str (Str.ofString "w.c") t1, .int p.2.1 t2, .int p.2.2 t3, .int 1 t4] }
theorem TupAt.keep {n : Nat} {h h' : Heap} {v : Value} {p : Tri} (x : TupAt n h v p) (k : ∀ b o, n ≤ b → h.get? b = some o → h'.get? b = some o) : TupAt n h' v p := by
  obtain ⟨a, t, t1, t2, t3, t4, rfl, a1, b1⟩ := x
  exact ⟨a, t, t1, t2, t3, t4, rfl, a1, k _ _ a1 b1⟩
theorem TupAt.low {n n' : Nat} {h : Heap} {v : Value} {p : Tri} (x : TupAt n h v p) (hn : n' ≤ n) : TupAt n' h v p := by
  obtain ⟨a, t, t1, t2, t3, t4, rfl, a1, b⟩ := x
  exact ⟨a, t, t1, t2, t3, t4, rfl, Nat.le_trans hn a1, b⟩

/-- item by item -/
inductive All2 {α β : Type} (F : α → β → Prop) : List α → List β → Prop
  | nil : All2 F [] []
  | cons {a b l l'} : F a b → All2 F l l' → All2 F (a :: l) (b :: l')
theorem All2.snoc {α β : Type} {F : α → β → Prop} {a : α} {b : β} : ∀ {l : List α} {l' : List β}, All2 F l l' → F a b → All2 F (l ++ [a]) (l' ++ [b])
  | _, _, .nil, h => .cons h .nil
  | _, _, .cons h t, h' => .cons h (t.snoc h')
theorem All2.imp {α β : Type} {F F' : α → β → Prop} (h : ∀ a b, F a b → F' a b) : ∀ {l : List α} {l' : List β}, All2 F l l' → All2 F' l l'
  | _, _, .nil => .nil
  | _, _, .cons x t => .cons (h _ _ x) (t.imp h)
theorem All2.length {α β : Type} {F : α → β → Prop} : ∀ {l : List α} {l' : List β}, All2 F l l' → l.length = l'.length
  | _, _, .nil => rfl
  | _, _, .cons _ t => by simp [t.length]
theorem All2.get {α β : Type} {F : α → β → Prop} : ∀ {l : List α} {l' : List β}, All2 F l l' → ∀ {i : Nat} {b : β}, l'[i]? = some b → ∃ a, l[i]? = some a ∧ F a b
  | _, _, .nil, i, b, e => by simp at e
  | _, _, .cons x t, 0, b, e => by simp at e; subst e; exact ⟨_, rfl, x⟩
  | _, _, .cons x t, i + 1, b, e => by simpa using t.get (by simpa using e)

def Chars (w : World) (n : Nat) (h : Heap) (l : Addr) (ps : List Tri) : Prop := ∃ vs, LstA n h l vs ∧ All2 (CharAt w n h) vs ps
def Tups (n : Nat) (h : Heap) (l : Addr) (ps : List Tri) : Prop := ∃ vs, LstA n h l vs ∧ All2 (TupAt n h) vs ps

theorem LstA.keep {n : Nat} {h h' : Heap} {l : Addr} {vs : List Value} (x : LstA n h l vs) (k : ∀ b o, n ≤ b → h.get? b = some o → h'.get? b = some o) : LstA n h' l vs := ⟨x.1, x.2.at fun o e => k _ _ x.1 e⟩
theorem Chars.keep {w : World} {n : Nat} {h h' : Heap} {l : Addr} {ps : List Tri} (x : Chars w n h l ps) (k : ∀ b o, n ≤ b → h.get? b = some o → h'.get? b = some o) : Chars w n h' l ps :=
  let ⟨vs, a, b⟩ := x; ⟨vs, a.keep k, b.imp fun _ _ q => q.keep k⟩
theorem Tups.keep {n : Nat} {h h' : Heap} {l : Addr} {ps : List Tri} (x : Tups n h l ps) (k : ∀ b o, n ≤ b → h.get? b = some o → h'.get? b = some o) : Tups n h' l ps :=
  let ⟨vs, a, b⟩ := x; ⟨vs, a.keep k, b.imp fun _ _ q => q.keep k⟩
theorem Chars.low {w : World} {n n' : Nat} {h : Heap} {l : Addr} {ps : List Tri} (x : Chars w n h l ps) (hn : n' ≤ n) : Chars w n' h l ps :=
  let ⟨vs, a, b⟩ := x; ⟨vs, ⟨Nat.le_trans hn a.1, a.2⟩, b.imp fun _ _ q => q.low hn⟩
theorem Tups.low {n n' : Nat} {h : Heap} {l : Addr} {ps : List Tri} (x : Tups n h l ps) (hn : n' ≤ n) : Tups n' h l ps :=
  let ⟨vs, a, b⟩ := x; ⟨vs, ⟨Nat.le_trans hn a.1, a.2⟩, b.imp fun _ _ q => q.low hn⟩
end Lw

/-! ## B6 -/
namespace Lw
section
variable {prog : Program} {w : World} {A : Around} {E : Value → Shared → Prop} {s : Shared} {mg mb : Str → Option Value}

theorem att2 {x b : Str} {p1 p2 p3 : Pos} {env : Env} {m : Str → Option Value} {xa dx y : Addr} {k1 k2 : Tok} {sg : Value} {n : Nat} {Q : Value → Shared → Prop} {v : Value} {dl : Addr} {od : Obj} {sl : Array (Option Value)} {p i : Nat}
    (G : Gd w mg mb s.heap) (hn : s.heap.Ns env.locals m) (hm : m x = some (.ref xa)) (hx : s.heap.get? xa = some (instObj 79 dx)) (hd : s.heap.get? dx = some (dictOf (chDict w.params k1 k2 sg (.ref y)) n))
    (hy : s.heap.get? y = some (loc0 dl sl)) (hdl : s.heap.get? dl = some od)
    (ha : findIn (Lw.hd.heap_39 w.params) (.ref 48) b = some (some (.ref p))) (hg : plainGet (Lw.hd.heap_39 w.params) 48 b = true) (hnn : specialIn (Lw.hd.heap_39 w.params) (.ref p) "__get__" = some (some (.builtin "member_descriptor.__get__")))
    (ht : takesIn (Lw.hd.heap_39 w.params) (.ref p) = some true) (hp : slotIn (Lw.hd.heap_39 w.params) p 48 = some i) (hv : (sl[i]?).join = some v) (hh : handedIn v = true)
    (hk : env.scope.kind = .function) (hxk : env.kindOf x = some .local) (hdb : (x == ("__debug__" : Str)) = false)
    (h : Q v { s with toks := s.toks + 2 }) :
    wpAny (model prog w) A (eval (.Attribute (.Attribute (.Name x p1) (Str.ofString "loc") p2) b p3) env) Q E s :=
  Attribute_any_ (Attribute_name (nmL hn hm (getLoc G hx hd (getSlot (s := { s with toks := s.toks + 1 }) G hy hdl ha hg hnn ht hp hv hh h)) hk hxk hdb))

set_option maxHeartbeats 1000000 in
theorem toldCall {l : Nat} {ps : List Tri} {n : Nat} {Q : Value → Shared → Prop} (G : Gd w mg mb s.heap) (R : Rm A 4) (hc : Chars w n s.heap l ps) (hlen : ps.length ≤ 1000)
    (hQ : ∀ h' tk D, (∀ b o, s.heap.get? b = some o → h'.get? b = some o) → Tups s.heap.objs.size h' D ps → Q (.ref D) { s with heap := h', toks := tk }) :
    wpAny (model prog w) A (call (.ref 93) [.ref l] []) Q E s := by
  obtain ⟨vs, ⟨hnl, hl⟩, hch⟩ := hc
  have ho := G.X 93 _ rfl
  refine wpAny_call (codeAny_call_def (binds := [(Str.ofString "chars", .ref l)]) R.room ho rfl G.T.nolimit (codeRec_of G.X (by kernel_rfl)) rfl (BindsTo.of_eq rfl) (by decide) (locs rfl) (fun h₀ hn hk => ?_))
  have hl₀ : h₀.IsList l vs.toArray := hl.at fun o e => hk _ _ e
  have hll : @LT.lt Nat _ l h₀.objs.size := let ⟨_, e, _⟩ := hl₀; Heap.lt_size e
  have hvl : vs.length = ps.length := hch.length
  refine wpAny_execs_cons (wpAny_Return_some (ListCompB (cl := []) (closureFor_none (by decide)) (by decide) rfl (by decide) ?_ (fun _ => rfl)))
  refine nmL hn rfl ?_ rfl rfl (by decide)
  refine wpAny_pyIter_list hl₀ ?_
  have hsz : (h₀.push { cls := .type "list_iterator", data := .fields #[.ref l, .int 0 0] }).objs.size = h₀.objs.size + 1 := Heap.size_push ..
  refine .mk h₀.objs.size [h₀.objs.size, l] [h₀.objs.size] vs.toArray.size _ _ [Str.ofString "char"] (fun i h ys => i ≤ ps.length ∧ All2 (TupAt (h₀.objs.size + 3) h) ys (ps.take i)) rfl
    (Bd.ofWalks (Walks.list (by exact R.h) h₀.objs.size l (Nat.ne_of_lt hll) vs.toArray) rfl rfl) (by rw [List.size_toArray, hvl, sizeLine_eq]; omega)
    ⟨⟨_, Heap.get?_push_size _ rfl, rfl, rfl⟩, hl₀.push _⟩ (by intro b hb; rw [hsz]; simp at hb; rcases hb with rfl | rfl; exact Nat.lt_succ_self _; exact Nat.lt_succ_of_lt hll) ?_ ?_ ?_ ?_ ?_
  · rintro i h h' ys ⟨hi, hF⟩ hk'
    exact ⟨hi, hF.imp fun _ _ q => q.keep fun b o hb e => hk' b o (by dsimp only; rw [hsz]; exact hb) e⟩
  · rintro i h ys ⟨hi, hF⟩
    rw [hF.length, List.length_take]; omega
  · intro h
    exact ⟨Nat.zero_le _, .nil⟩
  · rintro i s₃ m₃ ys hi ⟨hi', hF⟩ ⟨v, hm₃, hv⟩ hn₃ hk₃
    have hi2 : i < ps.length := by rw [List.size_toArray] at hi; omega
    have k3 : ∀ b o, s.heap.get? b = some o → s₃.heap.get? b = some o := fun b o e => by
      have e0 := hk b o e
      exact hk₃ b o (by simp; exact Nat.ne_of_lt (Heap.lt_size e0)) (Heap.get?_push_of_some _ e0)
    have G3 := G.keeps k3
    obtain ⟨v', hv', hC⟩ := hch.get (List.getElem?_eq_getElem hi2)
    have hvv : v' = v := by
      rw [List.getElem?_toArray] at hv; rw [hv'] at hv; exact Option.some.inj hv
    subst hvv
    obtain ⟨x, dx, y, dl, t, k1, k2, t1, t2, t3, t4, rfl, a1, a2, a3, a4, b1, b2, b3, b4⟩ := hC.keep (h' := s₃.heap) fun b o _ e => k3 b o e
    have hm3 : m₃ (Str.ofString "char") = some (.ref x) := hm₃
    refine wpAny_Tuple ?_
    refine wpAny_items_cons (Attribute_name (nmL hn₃ hm3 (getChar G3 b1 b2 rfl ?_) rfl rfl (by decide)))
    refine wpAny_items_cons (att2 (s := { s₃ with toks := s₃.toks + 1 }) (p := 50) (i := 1) G3 hn₃ hm3 b1 b2 b4 b3 (by kernel_rfl) (by kernel_rfl) (by kernel_rfl) (by kernel_rfl) (by kernel_rfl) rfl rfl rfl rfl (by decide) ?_)
    refine wpAny_items_cons (att2 (s := { s₃ with toks := s₃.toks + 1 + 2 }) (p := 52) (i := 3) G3 hn₃ hm3 b1 b2 b4 b3 (by kernel_rfl) (by kernel_rfl) (by kernel_rfl) (by kernel_rfl) (by kernel_rfl) rfl rfl rfl rfl (by decide) ?_)
    refine wpAny_items_cons (att2 (s := { s₃ with toks := s₃.toks + 1 + 2 + 2 }) (p := 49) (i := 0) G3 hn₃ hm3 b1 b2 b4 b3 (by kernel_rfl) (by kernel_rfl) (by kernel_rfl) (by kernel_rfl) (by kernel_rfl) rfl rfl rfl rfl (by decide) ?_)
    refine wpAny_items_cons (att2 (s := { s₃ with toks := s₃.toks + 1 + 2 + 2 + 2 }) (p := 51) (i := 2) G3 hn₃ hm3 b1 b2 b4 b3 (by kernel_rfl) (by kernel_rfl) (by kernel_rfl) (by kernel_rfl) (by kernel_rfl) rfl rfl rfl rfl (by decide) ?_)
    refine wpAny_items_nil ⟨by rw [sizeLine_eq]; simp, ⟨Nat.succ_le_of_lt hi2, ?_⟩, _, _, rfl, fun b o e => Heap.get?_push_of_some _ e⟩
    have hlo : @LE.le Nat _ (h₀.objs.size + 3) s₃.heap.objs.size := by have := hn₃.lt; dsimp only at this; rw [hsz] at this; exact this
    rw [List.take_add_one, List.getElem?_eq_getElem hi2]
    refine (hF.imp fun _ _ q => q.keep fun b o _ e => Heap.get?_push_of_some _ e).snoc ?_
    exact ⟨_, t, t1, t2, t3, t4, rfl, hlo, Heap.get?_push_size _ rfl⟩
  · rintro h' tk ys hD ⟨hi, hF⟩ hk'
    have hin : vs.toArray.size = ps.length := by rw [List.size_toArray, hvl]
    rw [hin, List.take_length] at hF
    have k' : ∀ b o, s.heap.get? b = some o → h'.get? b = some o := fun b o e => by
      have e0 := hk b o e
      exact hk' b o (by simp; exact Nat.ne_of_lt (Heap.lt_size e0)) (Heap.get?_push_of_some _ e0)
    have hs0 : @LT.lt Nat _ s.heap.objs.size h₀.objs.size := hn.lt
    dsimp only at hD ⊢
    rw [hsz] at hD ⊢
    exact hQ h' _ _ k' ⟨ys, ⟨Nat.le_succ_of_le (Nat.le_of_lt hs0), hD⟩, hF.imp fun _ _ q => q.low (Nat.le_trans (Nat.le_of_lt hs0) (Nat.le_add_right _ _))⟩
end
end Lw

/-! ## B7 -/
namespace Lw
section
variable {prog : Program} {w : World} {A : Around} {E : Value → Shared → Prop} {s : Shared} {mg mb : Str → Option Value} {env : Env}

theorem callWithB {M : Model} {pos : Pos} {id : String} {e : Expr} {rest : List Expr} {Q : Value → Shared → Prop}
    (h : wpAny M A (spliced (backTo pos (starEach (e :: rest) env))) (fun vs s₁ => wpAny M A (call (.builtin id) vs) Q E s₁) E s)
    (he : starEach (e :: rest) env = (false, eval e env) :: starEach rest env)
    (hplain : (backTo pos (starEach rest env)).any (·.1) = false) :
    wpAny M A (callWith pos (.builtin id) [] (backTo pos (starEach (e :: rest) env)) []) Q E s := by
  rw [he] at h ⊢
  exact callWith_builtin (by show (false || (backTo pos (starEach rest env)).any (·.1)) = false; rw [hplain]; rfl) (evalArgs_plain h)

/-- a def's call: its body in a frame of its own -/
theorem rcall {n : Nat} {f : Nat} {o : Obj} {fd : FuncData} {body : List Stmt} {vals : List Value} (binds : List (Str × Value)) {Q : Value → Shared → Prop} (R : Rm A (n + 1))
    (ho : s.heap.get? f = some o) (hdata : o.data = .func fd) (hlim : s.heap.NoLimit) (hcd : s.heap.CodeRec fd.code fd.qualname)
    (hbody : fd.body = .stmts body) (hbind : bindArgs fd ⟨vals, []⟩ = pure binds) (hclo : fd.closure = [])
    (hkind : ∀ L, ∀ x ∈ binds, fd.scope.names.lookup x.1 = some .local ∨ (fd.scope.names.lookup x.1 = some .cell ∧ ((cellsFrom (L + 1) fd.scope.names []).lookup x.1).isSome = true))
    (h : ∀ h₀ tk A', Rm A' n → (∀ b o, s.heap.get? b = some o → h₀.get? b = some o) → h₀.Ns s.heap.objs.size (bindL (callEnvC fd s.heap.objs.size f).kindOf binds fun _ => none) →
      (∀ x c, (cellsFrom (s.heap.objs.size + 1) fd.scope.names []).lookup x = some c → h₀.IsCell c (bindC (callEnvC fd s.heap.objs.size f).kindOf binds (fun _ => none) x)) →
      wpAny (model prog w) A' (execs body (callEnvC fd s.heap.objs.size f)) (fun fl s' => Q (match fl with | .ret v => v | _ => .none) s') (fun _ _ => False) { s with heap := h₀, toks := tk })
    (hco : fd.scope.isCoroutine = false) (hgen : fd.scope.isGenerator = false) (hk : fd.scope.kind = .function) :
    wpAny (model prog w) A (call (.ref f) vals []) Q E s := by
  refine wpAny_call (codeAny_call_cells (binds := binds) R.room ho hdata hlim hcd hbody hbind hclo (hkind _) (fun s₁ I => ?_) hco hgen hk)
  obtain ⟨h₀, tk₀, rfl, hk⟩ := I.done
  exact wpAny_mono (h h₀ tk₀ _ R.deeper hk I.toInCall.ns I.cell) (fun _ _ q => q) fun _ _ f => f.elim

def colAt (ns : List Int) (i : Nat) : Int := ns.getD (i % ns.length) 0
def charsOf (col : Nat → Int) (t : List Nat) : List Tri := t.zipIdx.map fun p => (p.1, p.2, col p.2)

theorem charsOf_length (col : Nat → Int) (t : List Nat) : (charsOf col t).length = t.length := by simp [charsOf]
theorem charsOf_get (col : Nat → Int) (t : List Nat) (i c : Nat) (h : t[i]? = some c) : (charsOf col t)[i]? = some (c, i, col i) := by
  simp [charsOf, List.getElem?_map, List.getElem?_zipIdx, h]

/-- cols[at % len(cols)] -/
theorem colItem {c : Nat} {cv : List Value} {ns : List Int} {i : Nat} {ti : Tok} {value slice : Expr} {Q : Value → Shared → Prop} (hl : s.heap.IsList c cv.toArray) (hi : IntsAre cv ns) (hne : ns ≠ []) (hlen : ns.length < 2 ^ 62)
    (h : ∀ u, Q (.int (colAt ns i) u) s)
    (hs : ∀ k u, subscripted slice false (.ref c) (.int k u) = operate [.ref c, .int k u] (getItem (.ref c) (.int k u))) :
    wpAny (model prog w) A (subscriptTail value slice (.ref c) (.int (Int.fmod (i : Int) (ns.length : Int)) ti)) Q E s := by
  have hpos : 0 < ns.length := List.length_pos_iff.mpr hne
  have e : Int.fmod (i : Int) (ns.length : Int) = ((i % ns.length : Nat) : Int) := by
    rw [Int.fmod_eq_emod_of_nonneg _ (by omega)]; exact (Int.natCast_emod i ns.length).symm
  have hlt : i % ns.length < ns.length := Nat.mod_lt _ hpos
  obtain ⟨u, hu⟩ := hi.get (i % ns.length) (colAt ns i) (by simp [colAt, List.getElem?_eq_getElem hlt])
  rw [e]
  exact tail_any hl.typeIs slot_list_getitem.lookup (wpAny_getItem_list hl (by omega) (by omega) (by rw [List.getElem?_toArray, Int.toNat_natCast]; exact hu) (h u)) (hs _ _)

set_option maxHeartbeats 2000000 in
theorem charsCall {x : Str} {tx : Tok} {c : Nat} {cv : List Value} {ns : List Int} {Q : Value → Shared → Prop} (G : Gd w mg mb s.heap) (R : Rm A 5) (hl : s.heap.IsList c cv.toArray) (hia : IntsAre cv ns) (hne : ns ≠ []) (hns : ns.length < 2 ^ 62)
    (hlen : x.cps.size ≤ 1000)
    (hQ : ∀ h' tk D, (∀ b o, s.heap.get? b = some o → h'.get? b = some o) → Chars w s.heap.objs.size h' D (charsOf (colAt ns) x.cps.toList) → Q (.ref D) { s with heap := h', toks := tk }) :
    wpAny (model prog w) A (call (.ref 88) [.str x tx, .ref c] []) Q E s := by
  have ho := G.X 88 _ rfl
  have hsl : cv.toArray.size = ns.length := by simp [hia.length]
  have hnp : 0 < ns.length := List.length_pos_iff.mpr hne
  refine rcall [(Str.ofString "text", .str x tx), (Str.ofString "cols", .ref c)] R ho rfl G.T.nolimit (codeRec_of G.X (by kernel_rfl)) rfl rfl rfl ?_ (fun h₀ tk₀ A' R' hk hn hcells => ?_) rfl rfl rfl
  · intro L y hy
    rcases List.mem_cons.mp hy with rfl | hy
    · exact .inl rfl
    · rw [List.mem_singleton.mp hy]; exact .inr ⟨rfl, rfl⟩
  have hcell : h₀.IsCell (s.heap.objs.size + 1) (some (.ref c)) := hcells (Str.ofString "cols") (s.heap.objs.size + 1) rfl
  clear hcells
  have hl₀ : h₀.IsList c cv.toArray := hl.at fun o e => hk _ _ e
  have G₀ : Gd w mg mb h₀ := G.keeps hk
  refine wpAny_execs_cons (wpAny_Return_some (ListCompB (cl := [(Str.ofString "cols", s.heap.objs.size + 1)]) rfl (by decide) rfl (by decide) ?_ (fun _ => rfl)))
  refine wpAny_Call_Name_kw (nmB G₀ (by kernel_rfl) bt_enum (by decide) ?_ rfl rfl rfl rfl (by decide))
  refine Pv.callWith_type1 (wpAny_items_cons (nmL hn rfl (wpAny_items_nil ?_) rfl rfl (by decide)) rfl) rfl rfl
  refine call_enumerate_str fun h₁ he hit hsz hk₁ => ?_
  refine wpAny_pyIter_enum he ?_
  dsimp only at he hit hsz hk₁ ⊢
  obtain ⟨Pt, St, Mid, W, hst, two⟩ := enumW (prog := prog) (w := w) R'.h he hit (Nat.succ_ne_self _)
  have hC0 : @LT.lt Nat _ s.heap.objs.size h₀.objs.size := hn.lt
  refine .mk (h₀.objs.size + 1) [h₀.objs.size + 1, h₀.objs.size] [h₀.objs.size + 1, h₀.objs.size] x.cps.size _ _ [Str.ofString "at", Str.ofString "sign"]
    (fun i h ys => i ≤ x.cps.size ∧ All2 (CharAt w (h₀.objs.size + 4) h) ys ((charsOf (colAt ns) x.cps.toList).take i)) rfl
    (Bd.ofPairs R'.h W _ two (by decide) rfl rfl rfl) (by rw [sizeLine_eq]; omega) hst (by intro b hb; rw [hsz]; simp at hb; rcases hb with rfl | rfl; exact Nat.lt_succ_self _; exact Nat.lt_succ_of_lt (Nat.lt_succ_self _)) ?_ ?_ ?_ ?_ ?_
  · rintro i h h' ys ⟨hi, hF⟩ hk'
    exact ⟨hi, hF.imp fun _ _ q => q.keep fun b o hb e => hk' b o (by dsimp only; rw [hsz]; exact hb) e⟩
  · rintro i h ys ⟨hi, hF⟩
    rw [hF.length, List.length_take, charsOf_length]; simp; omega
  · intro h
    exact ⟨Nat.zero_le _, .nil⟩
  · rintro i s₃ m₃ ys hi ⟨hi', hF⟩ ⟨va, vb, ⟨tk, cc, u, hcc, rfl, rfl⟩, hma, hms⟩ hn₃ hk₃
    have k3 : ∀ b o, h₀.get? b = some o → s₃.heap.get? b = some o := fun b o e =>
      hk₃ b o (by have := Heap.lt_size e; simp; exact ⟨Nat.ne_of_lt (Nat.lt_succ_of_lt this), Nat.ne_of_lt this⟩) (hk₁ b o e)
    have G3 := G₀.keeps k3
    have hl3 : s₃.heap.IsList c cv.toArray := hl₀.at fun o e => k3 _ _ e
    have hc3 : s₃.heap.IsCell (s.heap.objs.size + 1) (some (.ref c)) := hcell.keeps k3
    have hlo : @LE.le Nat _ (h₀.objs.size + 4) s₃.heap.objs.size := by have := hn₃.lt; dsimp only at this; rw [hsz] at this; exact this
    refine wpAny_Call_Name_kw (nmG (v := .ref 79) G3 (by kernel_rfl) ?_ rfl rfl rfl (by decide))
    refine callWith_K G3.X (by kernel_rfl) (wpAny_items_cons (nmL hn₃ hms ?_ rfl rfl (by decide)) rfl) rfl rfl
    refine wpAny_items_cons ?_ rfl
    refine wpAny_Call_Name_kw (nmG (v := .ref 48) G3 (by kernel_rfl) ?_ rfl rfl rfl (by decide))
    refine callWith_K G3.X (by kernel_rfl) (wpAny_items_cons (wpAny_Constant_str ?_) rfl) rfl rfl
    refine wpAny_items_cons (nmL hn₃ hma ?_ rfl rfl (by decide)) rfl
    refine wpAny_items_cons (Subscript_ (nmC rfl hc3 (wpAny_BinOp (nmL hn₃ hma (wpAny_Call_Name_kw (nmB G3 (by kernel_rfl) bt_len (by decide) ?_ rfl rfl rfl rfl (by decide))) rfl rfl (by decide))) rfl rfl (by decide))) rfl
    refine callWithB (wpAny_items_cons (nmC rfl hc3 (wpAny_items_nil ?_) rfl rfl (by decide))) rfl rfl
    refine call_len_list (s := { s₃ with toks := _ }) hl3 (by rw [hsl]; omega) ?_
    refine mod_int' (by rw [hsl]; omega) ?_
    rw [hsl]
    refine colItem (s := { s₃ with toks := _ }) hl3 hia hne hns (fun u2 => ?_) (fun _ _ => rfl)
    refine wpAny_items_cons (wpAny_Constant_int ?_) rfl
    refine wpAny_items_nil ⟨G3.X, ?_⟩
    refine mkLoc (s := { s₃ with toks := _ }) G3 (R'.mono (by decide)) fun h4 tk4 y dl k4 hy hdl4 e1 e2 => ?_
    have G4 := G3.keeps k4
    refine wpAny_items_nil ⟨G4.X, ?_⟩
    refine mkChar (s := { heap := h4, gens := _, drawn := _, toks := tk4, os := _ }) G4 (R'.mono (by decide)) fun h5 tk5 x5 dx5 q1 q2 k5 hx5 hdx5 f1 f2 => ?_
    refine ⟨⟨Nat.succ_le_of_lt hi, ?_⟩, _, _, rfl, fun b o e => k5 _ _ (k4 _ _ e)⟩
    have k35 : ∀ b o, s₃.heap.get? b = some o → h5.get? b = some o := fun b o e => k5 _ _ (k4 _ _ e)
    have h4lo : @LE.le Nat _ s₃.heap.objs.size h4.objs.size := Nat.le_trans hdl4 (Nat.le_of_lt (Heap.lt_size e1))
    rw [List.take_add_one, charsOf_get (colAt ns) x.cps.toList i cc (by rw [← hcc]; simp)]
    refine (hF.imp fun _ _ q => q.keep fun b o _ e => k35 b o e).snoc ?_
    have l1 : @LE.le Nat _ (h₀.objs.size + 4) x5 := Nat.le_trans hlo (Nat.le_trans h4lo hx5)
    have l2 : @LE.le Nat _ (h₀.objs.size + 4) dx5 := Nat.le_trans hlo (Nat.le_trans h4lo hdx5)
    exact ⟨x5, dx5, y, dl, u, q1, q2, _, tk, u2, _, rfl, l1, l2, Nat.le_trans hlo hy, Nat.le_trans hlo hdl4, f1, f2, k5 _ _ e1, k5 _ _ e2⟩
  · rintro h' tk ys hD ⟨hi, hF⟩ hk'
    have et : (charsOf (colAt ns) x.cps.toList).take x.cps.size = charsOf (colAt ns) x.cps.toList := List.take_of_length_le (by rw [charsOf_length]; simp)
    rw [et] at hF
    have k' : ∀ b o, s.heap.get? b = some o → h'.get? b = some o := fun b o e => by
      have e0 := hk b o e
      have := Heap.lt_size e0
      exact hk' b o (by simp; exact ⟨Nat.ne_of_lt (Nat.lt_succ_of_lt this), Nat.ne_of_lt this⟩) (hk₁ b o e0)
    dsimp only at hD ⊢
    rw [hsz] at hD ⊢
    exact hQ h' _ _ k' ⟨ys, ⟨Nat.le_succ_of_le (Nat.le_succ_of_le (Nat.le_of_lt hC0)), hD⟩, hF.imp fun _ _ q => q.low (Nat.le_trans (Nat.le_of_lt hC0) (Nat.le_add_right _ _))⟩
end
end Lw

/-! ## B8 -/
namespace Lw

section
variable {prog : Program} {w : World} {A : Around} {E : Value → Shared → Prop} {s : Shared}

/-- a generator function's next -/
theorem nextGen {a : Addr} {g n : Nat} {gs : GenState} {P : Nat → Shared → Shared → Prop} {Y : Protocol} {Q : Option Value → Shared → Prop} (hh : A.handled = none)
    (hl : s.heap.NoLimit) (hroom : A.depth < recursionLimit)
    (hg : s.heap.IsGen a g) (hgs : s.gens[g]? = some gs)
    (hgo : gs.Goes (model prog w) A.in1 (fun n s₀ r s₁ => r = .ok (.ret .none) ∧ P n s₀ s₁) Y n (.send .none) (s.setGen g .running))
    (hY : ∀ v s₁ gs', gs'.bare = true → Y (n - 1) (s.setGen g .running) v s₁ (fun r' s'' => match n with
        | 0 => False
        | m + 1 => gs'.Goes (model prog w) A.in1 (fun n s₀ r s₁ => r = .ok (.ret .none) ∧ P n s₀ s₁) Y m r' s'') → Q (some v) (s₁.setGen g gs'))
    (hP : ∀ s₁, P n (s.setGen g .running) s₁ → ∀ h', (∀ b o, s₁.heap.get? b = some o → h'.get? b = some o) → Q none { s₁.setGen g .finished with heap := h' }) :
    wpAny (model prog w) A (pyNext (.ref a)) Q E s := by
  unfold pyNext
  refine wpAny_bind (wpAny_attempt (wpAny_callSpecial?_slot (name := Str.ofString "__next__") hg.typeIs slot_gen_next
    (wpAny_call_entry slot_gen_next hg.typeIs entry_gen_next ?_ (args_gen_next _))))
  show wpAny _ A.in1 (Builtin.Generator.genWake (.ref a) (.send .none)) _ _ s
  unfold Builtin.Generator.genWake
  refine wpAny_bind (wpAny_holding (wpAny_genNumber hg (wpAny_bind (wpAny_genState hgs ?_))))
  cases gs with
  | running => exact hgo.elim
  | finished => exact hgo.elim
  | _ =>
    refine wpAny_bind (wpAny_roomToWake hl hroom ?_)
    show wpAny _ A.in1 (.resume g (.send .none) [] _) _ _ s
    refine wpAny_resumeQ hgs hgo (fun x s₁ hx => ?_) (fun v s₁ gs' hb hv => ?_)
    · obtain ⟨rfl, hp⟩ := hx
      show wpAny _ A.in1 (newExc (.type "StopIteration") [] >>= _) _ _ _
      refine wpAny_bind ?_
      simp only [newExc, newTuple]
      refine wpAny_bind (wpAny_newObj_type ?_ (by size_fits))
      refine wpAny_bind (m := firstArgMember _ _) (wpAny_of_eq (a := Value.none) (by first | rfl | (simp only [firstArgMember]; rfl)) ?_)
      refine wpAny_newObj_type ?_ (by size_fits)
      simp only [raiseNew]
      refine wpAny_bind (wpAny_bind (wpAny_handled ?_))
      first | rw [show A.in1.handled = none from hh] | rw [hh]
      refine wpAny_throw ?_
      refine wpAny_bind (wpAny_isInstance (T := "StopIteration") (b := true) ⟨_, Heap.get?_push_size _ rfl, rfl⟩ isSubtype_stop ?_)
      exact wpAny_pure (hP s₁ hp _ fun b o hb => Heap.get?_push_of_some _ (Heap.get?_push_of_some _ hb))
    · exact wpAny_pure ⟨v, rfl, wpAny_pure (hY v s₁ gs' hb hv)⟩

/-- what a generator hands on: the k-th value is F k -/
def genP (C : Addr) (fp wr : List Addr) (N : Nat) (F : Nat → Value → Prop) : Protocol := fun m s₀ v s kap =>
  F (N - 1 - m) v ∧ GenSince C wr s₀ s ∧ ∀ s'' : Shared, (∀ b ∈ C :: fp, ∀ o, s.heap.get? b = some o → s''.heap.get? b = some o) → kap (.send .none) s''

def GenF (prog : Program) (w : World) (A : Around) (a : Addr) (g : Nat) (C : Addr) (fp wr : List Addr) (N : Nat) (F : Nat → Value → Prop) (j : Nat) (s : Shared) : Prop :=
  s.heap.IsGen a g ∧ s.heap.NoLimit ∧ ∃ gs, s.gens[g]? = some gs ∧ ∀ s'' : Shared, (∀ b ∈ C :: fp, ∀ o, s.heap.get? b = some o → s''.heap.get? b = some o) →
    gs.Goes (model prog w) A.in1 (fun n s₀ r s₁ => r = .ok (.ret .none) ∧ (n = 0 ∧ GenSince C wr s₀ s₁)) (genP C fp wr N F) (N - j) (.send .none) s''

theorem walksGen (hh : A.handled = none) (a : Addr) (g : Nat) (C : Addr) (fp wr : List Addr) (N : Nat) (F : Nat → Value → Prop) (haC : a ≠ C) (haf : a ∉ fp) (hsub : ∀ b ∈ wr, b ∈ fp)
    (hroom : A.depth < recursionLimit) (hcs : cStatics ∈ fp) (hcC : cStatics ≠ C) (hcw : cStatics ∉ wr) :
    WalksS prog w A a (a :: C :: fp) (C :: wr) (GenOnlyQ g) N F (GenF prog w A a g C fp wr N F) where
  sub := fun b hb => by
    rcases List.mem_cons.mp hb with rfl | hb
    · simp
    · exact List.mem_cons_of_mem _ (List.mem_cons_of_mem _ (hsub b hb))
  grefl := fun _ => .inl rfl
  gtrans := fun _ _ _ x y => x.trans y
  frame := fun j s h' tk st _ hk =>
    ⟨let ⟨o, nm, qn, ho, r⟩ := st.1; ⟨o, nm, qn, hk a (List.mem_cons_self ..) o ho, r⟩,
     (let ⟨mc, hns, hnn⟩ := st.2.1; ⟨mc, hns.at' fun o e => hk cStatics (List.mem_cons_of_mem _ (List.mem_cons_of_mem _ hcs)) o e, hnn⟩),
     let ⟨gs, hgs, hgo⟩ := st.2.2; ⟨gs, hgs, fun s'' hal => hgo s'' fun b hb o e => hal b hb o (hk b (List.mem_cons_of_mem _ hb) o e)⟩⟩
  item := fun j s Q E hj st hQ => by
    obtain ⟨hg, hl, gs, hgs, hgo⟩ := st
    obtain ⟨m, hm⟩ : ∃ m, N - j = m + 1 := ⟨N - j - 1, by omega⟩
    rw [hm] at hgo
    refine wpAny_with_toks (Nat.le_refl s.toks) ?_
    refine nextGen (P := fun n s₀ s₁ => n = 0 ∧ GenSince C wr s₀ s₁) hh hl hroom hg hgs (hgo _ fun _ _ _ e => e) (fun v s₁ gs' hb hv => ?_) (fun s₁ hp h' hk => ?_)
    · obtain ⟨hF, ⟨h₁, tk₁, rfl, hk₁⟩, hkap⟩ := hv
      have hidx : N - 1 - (m + 1 - 1) = j := by omega
      rw [hidx] at hF
      have haw : a ∉ wr := fun h => haf (hsub a h)
      intro htk
      refine hQ v _ hF ⟨let ⟨o, nm, qn, ho, r⟩ := hg; ⟨o, nm, qn, hk₁ a o haC haw ho, r⟩, (let ⟨mc, hns, hnn⟩ := hl; ⟨mc, hns.at' fun o e => hk₁ cStatics o hcC hcw e, hnn⟩), gs', setGen_self (gs := .running) (setGen_self hgs), fun s'' hal => ?_⟩
        ⟨fun b o hb e => hk₁ b o (fun h => hb (h ▸ List.mem_cons_self ..)) (fun h => hb (List.mem_cons_of_mem _ h)) e, GenOnlyQ.of ((GenOnly.setGen s g .running).trans (GenOnly.setGen _ g gs')) (setGen_self (gs := .running) (setGen_self hgs)) hb, rfl, rfl, htk⟩
      have e : N - (j + 1) = m := by omega
      rw [e]
      exact hkap s'' hal
    · exact absurd hp.1 (Nat.succ_ne_zero m)
  done := fun s Q E st hQ => by
    obtain ⟨hg, hl, gs, hgs, hgo⟩ := st
    rw [Nat.sub_self] at hgo
    refine wpAny_with_toks (Nat.le_refl s.toks) ?_
    refine nextGen (P := fun n s₀ s₁ => n = 0 ∧ GenSince C wr s₀ s₁) hh hl hroom hg hgs (hgo _ fun _ _ _ e => e) (fun v s₁ gs' hb hv => ?_) (fun s₁ hp h' hk => ?_)
    · obtain ⟨_, _, hkap⟩ := hv
      exact False.elim (hkap s₁ fun _ _ _ e => e)
    · obtain ⟨_, h₁, tk₁, rfl, hk₁⟩ := hp
      intro htk
      exact hQ _ ⟨fun b o hb e => hk b o (hk₁ b o (fun h => hb (h ▸ List.mem_cons_self ..)) (fun h => hb (List.mem_cons_of_mem _ h)) e), GenOnlyQ.of ((GenOnly.setGen s g .running).trans (GenOnly.setGen _ g .finished)) (setGen_self (gs := .running) (setGen_self hgs)) rfl, rfl, rfl, htk⟩
  self := fun _ _ _ _ st hQ => wpAny_pyIter_gen st.1 hQ


end

section
variable {M : Model} {A : Around} {R : GenEnd} {Y : Protocol} {n : Nat} {s₀ : Shared} {c : Code} {fs : List Frame} {s : Shared} {env : Env}
  {K : Flow → Sem Fin} {H : Value → Sem Fin} {gd : Bool → Bool} {lv : List Value → List Value}

/-- a statement without a yield -/
theorem seg_plain {st : Stmt} (h : wpAny M (A.over c fs) (exec st env) (fun f s' => Seg M A R Y n s₀ c (K f) fs s') (fun _ _ => False) s) :
    Seg M A R Y n s₀ c ((exec st env).wrap K H gd lv) fs s := seg_wrap (wpAny_mono h (fun _ _ x => x) fun _ _ x => x.elim)

theorem seg_If {test : Expr} {body orelse : List Stmt} {pos : Pos}
    (h : wpAny M (A.over c fs) (isTrue test env (eval test env)) (fun b s' => Seg M A R Y n s₀ c ((execs (if b then body else orelse) env).wrap K H gd lv) fs s') (fun _ _ => False) s) :
    Seg M A R Y n s₀ c ((exec (.If test body orelse pos) env).wrap K H gd lv) fs s := by
  rw [exec_If]
  refine seg_bind_wrap (wpAny_standAt ?_)
  refine seg_bind_wrap (wpAny_mono h (fun b s' hb => ?_) fun _ _ x => x.elim)
  cases b <;> exact hb

theorem seg_For {target iter : Expr} {body orelse : List Stmt} {pos : Pos}
    (h : wpAny M (A.over c fs) (eval iter env) (fun x s₁ => wpAny M (A.over c fs) (pyIter x) (fun it s₂ => ∀ k g l p, (∀ f, k (.ok f) = K f) → g = gd false →
      Seg M A R Y n s₀ (.forLoop target it body orelse env) (M.den (.forLoop target it body orelse env)) (.ret k none g l c p [] :: fs) s₂) (fun _ _ => False) s₁) (fun _ _ => False) s)
    (hs : ∀ x, foldedSetIterable iter env x = pure x := by intro _; rfl) :
    Seg M A R Y n s₀ c ((exec (.For target iter body orelse pos) env).wrap K H gd lv) fs s := by
  rw [exec_For]
  refine seg_bind_wrap (wpAny_standAt ?_)
  refine seg_bind_wrap (wpAny_mono h (fun x s₁ h₁ => ?_) fun _ _ x => x.elim)
  refine seg_bind_wrap (wpAny_of_eq (hs x) ?_)
  refine seg_bind_wrap (wpAny_standAt ?_)
  refine seg_bind_wrap (wpAny_holding (wpAny_mono h₁ (fun it s₂ h₂ => ?_) fun _ _ x => x.elim))
  exact seg_call fun p => h₂ _ _ _ p (fun f => rfl) rfl
end

section
variable {prog : Program} {w : World} {A : Around} {R : GenEnd} {Y : Protocol} {fs : List Frame}

theorem seg_blockNil {env : Env} {n : Nat} {s₀ s : Shared} {c c₁ : Code} {k g l p kp} (h : Seg (model prog w) A R Y n s₀ c₁ (k (.ok .next)) fs s) :
    Seg (model prog w) A R Y n s₀ c (.pure (.again (.block [] env))) (.ret k none g l c₁ p kp :: fs) s :=
  seg_again rfl (seg_leaf (.ok .next) h)

theorem seg_forLoop {target : Expr} {it : Value} {body orelse : List Stmt} {env : Env} (Inv : Nat → Nat → Shared → Shared → Prop)
    (turn : ∀ i, (∀ j n s₀ s, j < i → Inv j n s₀ s → Seg (model prog w) A R Y n s₀ (.forLoop target it body orelse env) (.pure (.again (.forLoop target it body orelse env))) fs s) → ∀ n s₀ s, Inv i n s₀ s →
      wpAny (model prog w) (A.over (.forLoop target it body orelse env) fs) (pyNext it) (fun r s₁ => match r with
        | none => Seg (model prog w) A R Y n s₀ (.forLoop target it body orelse env) (.pure (.again (.block orelse env))) fs s₁
        | some v => wpAny (model prog w) (A.over (.forLoop target it body orelse env) fs) (letOwnedTupleGo target it v) (fun _ s₂ =>
            wpAny (model prog w) (A.over (.forLoop target it body orelse env) fs) (assign target env v) (fun _ s₃ => ∀ (K : Flow → Sem Fin) H, K .next = .pure (.again (.forLoop target it body orelse env)) →
              Seg (model prog w) A R Y n s₀ (.forLoop target it body orelse env) ((execs body env).wrap K H id id) fs s₃) (fun _ _ => False) s₂) (fun _ _ => False) s₁) (fun _ _ => False) s) :
    ∀ i n s₀ s, Inv i n s₀ s → Seg (model prog w) A R Y n s₀ (.forLoop target it body orelse env) ((model prog w).den (.forLoop target it body orelse env)) fs s := by
  intro i
  induction i using Nat.strongRecOn with
  | ind i ih =>
    intro n s₀ s hI
    show Seg _ A R Y n s₀ _ ((forTurn target it body orelse env).onRaise (fun x => do noteFrame x env; theTreesLotGoes x)) fs s
    rw [Sem.onRaise_eq_wrap]
    unfold forTurn
    refine seg_bind_wrap (wpAny_standAt ?_)
    refine seg_bind_wrap (wpAny_onRaise (wpAny_mono (turn i (fun j n s₀ s hj hJ => seg_again rfl (ih j hj n s₀ s hJ)) n s₀ s hI) (fun r s₁ h₁ => ?_) fun _ _ x => x.elim))
    cases r with
    | none => exact h₁
    | some v =>
      refine seg_bind_wrap (wpAny_mono h₁ (fun _ s₂ h₂ => ?_) fun _ _ x => x.elim)
      refine seg_bind_wrap (wpAny_mono h₂ (fun _ s₃ h₃ => ?_) fun _ _ x => x.elim)
      rw [Sem.bind_eq_wrap', Sem.wrap_wrap]
      exact h₃ _ _ rfl
end
end Lw

/-! ## B9 -/
namespace Lw

/-- the filter, over any signs -/
def filtG {α : Type} (sg : α → Nat) : Option α → List α → List α
  | _, [] => []
  | none, z :: r => if sg z = 92 then filtG sg (some z) r else z :: filtG sg none r
  | some b, z :: r => if sg z = 13 ∨ sg z = 10 then filtG sg none r else b :: z :: filtG sg none r

theorem filtG_mem {α : Type} {sg : α → Nat} : ∀ (l : List α) (st : Option α) (z : α), z ∈ filtG sg st l → z ∈ l ∨ st = some z
  | [], st, z, h => by cases st <;> simp [filtG] at h
  | y :: r, none, z, h => by
    simp only [filtG] at h
    split at h
    · rcases filtG_mem r _ z h with h | h
      · exact .inl (.tail _ h)
      · cases h; exact .inl (.head _)
    · rcases List.mem_cons.mp h with rfl | h
      · exact .inl (.head _)
      · rcases filtG_mem r _ z h with h | h
        · exact .inl (.tail _ h)
        · cases h
  | y :: r, some b, z, h => by
    simp only [filtG] at h
    split at h
    · rcases filtG_mem r _ z h with h | h
      · exact .inl (.tail _ h)
      · cases h
    · rcases List.mem_cons.mp h with rfl | h
      · exact .inr rfl
      · rcases List.mem_cons.mp h with rfl | h
        · exact .inl (.head _)
        · rcases filtG_mem r _ z h with h | h
          · exact .inl (.tail _ h)
          · cases h

theorem filtG_map {α β : Type} {sa : α → Nat} {sb : β → Nat} (f : α → β) (hf : ∀ a, sb (f a) = sa a) : ∀ (l : List α) (st : Option α), (filtG sa st l).map f = filtG sb (st.map f) (l.map f)
  | [], st => by cases st <;> rfl
  | y :: r, none => by
    simp only [filtG, List.map_cons, Option.map_none, hf]
    split
    · exact filtG_map f hf r (some y)
    · rw [List.map_cons, filtG_map f hf r none]; rfl
  | y :: r, some b => by
    simp only [filtG, List.map_cons, Option.map_some, hf]
    split
    · exact filtG_map f hf r none
    · rw [List.map_cons, List.map_cons, filtG_map f hf r none]; rfl

theorem outsAt {α : Type} (pre rest : List α) (z : α) : (pre ++ z :: rest)[(pre ++ z :: rest).length - 1 - rest.length]? = some z := by simp

abbrev Zs := List (Value × Tri)
def sgZ (z : Value × Tri) : Nat := z.2.1

def BsAt (zs : Zs) (m : Str → Option Value) : Option (Value × Tri) → Prop
  | none => m (Str.ofString "backslash") = some .none ∨ m (Str.ofString "backslash") = some (.bool false)
  | some b => b ∈ zs ∧ m (Str.ofString "backslash") = some b.1

/-- the generator's state ahead of a turn -/
def GInv (zs outs : Zs) (href : Heap) (C it l : Addr) : Nat → Nat → Shared → Shared → Prop := fun k n s₀ s =>
  ∃ i st m pre, k = zs.length - i ∧ i ≤ zs.length ∧ outs = pre ++ filtG sgZ st (zs.drop i) ∧ n = (filtG sgZ st (zs.drop i)).length ∧ (s.heap.IsListIter it l i ∧ s.heap.IsList l (zs.map (·.1)).toArray) ∧ s.heap.Ns C m ∧ BsAt zs m st ∧
    GenSince C [it] s₀ s ∧ ∀ b o, href.get? b = some o → s.heap.get? b = some o

theorem has2 (a b c : Nat) : Txt.contains ⟨#[a, b]⟩ ⟨#[c]⟩ = decide (c = a ∨ c = b) := by
  unfold Txt.contains Builtin.Str.occurrences
  by_cases h1 : c = a
  · subst h1
    simp [Str.length, Builtin.Str.subAt, List.range', Id.run]
  · by_cases h2 : c = b
    · subst h2
      have h3 : ¬ a = c := fun h => h1 h.symm
      simp [Str.length, Builtin.Str.subAt, List.range', Id.run, h1, h3]
    · have h3 : ¬ a = c := fun h => h1 h.symm
      have h4 : ¬ b = c := fun h => h2 h.symm
      simp [Str.length, Builtin.Str.subAt, List.range', Id.run, h1, h2, h3, h4]
      rfl
theorem has_crlf (c : Nat) : Txt.contains (Str.ofString "\r\n") ⟨#[c]⟩ = decide (c = 13 ∨ c = 10) := by
  have e : Str.ofString "\r\n" = ⟨#[13, 10]⟩ := by decide +kernel
  rw [e]; exact has2 _ _ _
theorem has_lfcr (c : Nat) : Txt.contains (Str.ofString "\n\r") ⟨#[c]⟩ = decide (c = 10 ∨ c = 13) := by
  have e : Str.ofString "\n\r" = ⟨#[10, 13]⟩ := by decide +kernel
  rw [e]; exact has2 _ _ _
theorem eq_bsl (c : Nat) : ((⟨#[c]⟩ : Str).cps.toList == (Str.ofString "\\").cps.toList) = decide (c = 92) := by
  show ([c] == [92]) = _
  by_cases h : c = 92 <;> simp [h]

theorem Bd.turnM {prog : Program} {w : World} {A : Around} {target : Expr} {env : Env} {I : Addr} {fp wr : List Addr} {n : Nat} {Bo : Nat → (Str → Option Value) → Prop} {St : Nat → Heap → Prop} {tn : List Str} (B : Bd prog w A target env I fp wr n Bo St tn)
    {D : Shared → Prop} {i : Nat} {s : Shared} {m : Str → Option Value} {Q : Shared → Prop} {E : Value → Shared → Prop} (hi : i < n) (hst : St i s.heap) (hn : s.heap.Ns env.locals m) (hL : env.locals ∉ fp)
    (hQ : ∀ h' tk m', St (i + 1) h' → h'.Ns env.locals m' → Bo i m' → (∀ y, y ∉ tn → m' y = m y) → (∀ b o, b ∉ wr → b ≠ env.locals → s.heap.get? b = some o → h'.get? b = some o) → Q { s with heap := h', toks := tk }) :
    wpAny (model prog w) A (pyNext (.ref I)) (fun r s₁ => match r with
      | none => D s₁
      | some v => wpAny (model prog w) A (letOwnedTupleGo target (.ref I) v) (fun _ s₂ => wpAny (model prog w) A (assign target env v) (fun _ s₃ => Q s₃) E s₂) E s₁) E s :=
  wpAny_mono (B.turn i s m Q E hi hst hn hL hQ) (fun r s₁ h => by cases r with | none => exact h.elim | some v => exact h) fun _ _ x => x

theorem falsy {M : Model} {A : Around} {E : Value → Shared → Prop} {s : Shared} {v : Value} {Q : Bool → Shared → Prop} (hv : v = .none ∨ v = .bool false) (h : Q false s) : wpAny M A (truthy v) Q E s := by
  rcases hv with rfl | rfl
  · exact PyProof.Rows.truthy_none h
  · exact wpAny_truthy_bool h

/-- an object of the text's class is true -/
theorem truthyChar {M : Model} {A : Around} {w : World} {mg mb : Str → Option Value} {E : Value → Shared → Prop} {s : Shared} {x dx : Addr} {od : Obj} {Q : Bool → Shared → Prop} (G : Gd w mg mb s.heap) (hx : s.heap.get? x = some (instObj 79 dx)) (hd : s.heap.get? dx = some od) (h : Q true s) :
    wpAny M A (truthy (.ref x)) Q E s := by
  have I : InstAt s.heap x (instObj 79 dx) 79 (some od) := ⟨hx, rfl, rfl, hd⟩
  have hs : findIn (Lw.hd.heap_39 w.params) (.ref 79) "__bool__" = some none := by kernel_rfl
  have hl : findIn (Lw.hd.heap_39 w.params) (.ref 79) "__len__" = some none := by kernel_rfl
  unfold truthy
  refine wpAny_bind (m := callSpecial? (.ref x) (Str.ofString "__bool__")) (wpAny_bind (wpAny_bind (I.type.here ((looks_findIn G.X hs).here (wpAny_pure ?_)))))
  refine wpAny_bind (wpAny_bind (I.type.here ((looks_findIn G.X hl).here ?_)))
  exact wpAny_pure h

section
variable {prog : Program} {w : World} {A : Around} {E : Value → Shared → Prop} {s : Shared} {mg mb : Str → Option Value}

theorem eqBsl {c : Nat} {t u : Tok} {Q : Value → Shared → Prop} (h : Q (.bool (decide (c = 92))) s) : wpAny (model prog w) A (compareOp .Eq (.str ⟨#[c]⟩ t) (.str (Str.ofString "\\") u)) Q E s :=
  P.eq_str (by rw [eq_bsl]; exact h)
theorem hasCrlf {c : Nat} {t u : Tok} {Q : Value → Shared → Prop} (h : Q (.bool (decide (c = 13 ∨ c = 10))) s) : wpAny (model prog w) A (compareOp .In (.str ⟨#[c]⟩ t) (.str (Str.ofString "\r\n") u)) Q E s :=
  SB.contains (by rw [has_crlf]; exact h)

set_option maxHeartbeats 4000000 in
theorem genCall {zs : Zs} {n0 : Nat} {href : Heap} {it l : Nat} {Q : Value → Shared → Prop} (G : Gd w mg mb href) (R : Rm A 5) (hk0 : ∀ b o, href.get? b = some o → s.heap.get? b = some o) (hz : ∀ z ∈ zs, CharAt w n0 href z.1 z.2)
    (hitn : @LE.le Nat _ href.objs.size it) (hit : s.heap.IsListIter it l 0) (hl : s.heap.IsList l (zs.map (·.1)).toArray) (hli : l ≠ it)
    (hQ : ∀ h' tk a c, (∀ b o, s.heap.get? b = some o → h'.get? b = some o) → @LT.lt Nat _ s.heap.objs.size a → h'.objs.size = a + 1 →
      (∀ A' : Around, A'.handled = none → GenF prog w A' a s.gens.size s.heap.objs.size (List.range s.heap.objs.size) [it] (filtG sgZ none zs).length (fun k v => ∃ z, (filtG sgZ none zs)[k]? = some z ∧ v = z.1) 0 { s with heap := h', toks := tk, gens := s.gens.push (.fresh c) }) →
      Q (.ref a) { s with heap := h', toks := tk, gens := s.gens.push (.fresh c) }) :
    wpAny (model prog w) A (call (.ref 21) [.ref it] []) Q E s := by
  have Gs : Gd w mg mb s.heap := G.keeps hk0
  have ho := Gs.X 21 _ rfl
  refine wpAny_call (codeAny_call_generator R.room ho rfl rfl rfl rfl (codeRec_of Gs.X (by kernel_rfl)) (BindsTo.of_eq (binds := [(Str.ofString "characters", .ref it)]) rfl _ _ _ _ ?_))
  refine wpAny_newFunctionEnv (by decide) (locs rfl) (fun h₀ hns hsb => ⟨Gs.T.nolimit.fresh _ hsb, ?_⟩) rfl
  have hk1 : ∀ b o, s.heap.get? b = some o → h₀.get? b = some o := fun b o e => hsb.extBut b o (Nat.ne_of_lt (Heap.lt_size e)) (Heap.get?_push_of_some _ e)
  have hsz : h₀.objs.size = s.heap.objs.size + 1 := by rw [hsb.1, Heap.size_push]
  have hitlt : @LT.lt Nat _ it s.heap.objs.size := let ⟨_, e, _⟩ := hit; Heap.lt_size e
  have hllt : @LT.lt Nat _ l s.heap.objs.size := let ⟨_, e, _⟩ := hl; Heap.lt_size e
  refine hQ _ _ _ _ (fun b o e => Heap.get?_push_of_some _ (hk1 b o e)) (by dsimp only; rw [hsz]; exact Nat.lt_succ_self _) (by rw [Heap.size_push]) fun A' hA' => ?_
  refine ⟨⟨_, _, _, Heap.get?_push_size _ rfl, rfl, rfl, rfl⟩, (Gs.T.nolimit.keeps hk1).keeps fun b o e => Heap.get?_push_of_some _ e, _, Array.getElem?_push_size .., fun s1 hal => ⟨rfl, ?_⟩⟩
  have hal' : ∀ b o, s.heap.get? b = some o → s1.heap.get? b = some o := fun b o e =>
    hal b (List.mem_cons_of_mem _ (List.mem_range.mpr (Heap.lt_size e))) o (Heap.get?_push_of_some _ (hk1 b o e))
  have hns1 : s1.heap.Ns s.heap.objs.size _ := hns.at' fun o e => hal _ (List.mem_cons_self ..) o (Heap.get?_push_of_some _ e)
  have hit1 := hit.at (h' := s1.heap) fun o e => hal' _ o e
  have hl1 := hl.at (h' := s1.heap) fun o e => hal' _ o e
  have hkr1 : ∀ b o, href.get? b = some o → s1.heap.get? b = some o := fun b o e => hal' b o (hk0 b o e)
  clear hQ
  refine seg_func (seg_execs_cons (seg_plain (wpAny_Assign_Name (wpAny_Constant_none (wpAny_storeName_local rfl hns1 (fun h2 hns2 hs2 => ?_) rfl)) rfl)))
  refine seg_execs_cons (seg_For (wpAny_Name (wpAny_loadName_local rfl rfl hns2 rfl ?_) (by decide)) (fun _ => rfl))
  have f2 : ∀ b o, b ≠ s.heap.objs.size → s1.heap.get? b = some o → h2.get? b = some o := fun b o hb e => hs2.extBut b o hb e
  refine wpAny_pyIter_listiter (s := { s1 with heap := h2, toks := _ }) (hit1.at fun o e => f2 _ o (Nat.ne_of_lt hitlt) e) fun k g l' p hk hg => ?_
  have hg' : g = false := hg
  subst hg'
  have hsub : ∀ b : Addr, b ∈ [it, l] → b ∈ s.heap.objs.size :: List.range s.heap.objs.size := fun b hb => by
    simp at hb
    rcases hb with rfl | rfl
    · exact List.mem_cons_of_mem _ (List.mem_range.mpr hitlt)
    · exact List.mem_cons_of_mem _ (List.mem_range.mpr hllt)
  have hCf : s.heap.objs.size ∉ [it, l] := fun h => by
    simp at h
    rcases h with h | h
    · exact Nat.ne_of_lt hitlt h.symm
    · exact Nat.ne_of_lt hllt h.symm
  have hCnr : ∀ b o, href.get? b = some o → b ≠ s.heap.objs.size ∧ b ≠ it := fun b o e =>
    ⟨Nat.ne_of_lt (Heap.lt_size (hk0 b o e)), Nat.ne_of_lt (Nat.lt_of_lt_of_le (Heap.lt_size e) hitn)⟩
  have hmemr : ∀ b o, href.get? b = some o → b ∈ s.heap.objs.size :: List.range s.heap.objs.size := fun b o e => List.mem_cons_of_mem _ (List.mem_range.mpr (Heap.lt_size (hk0 b o e)))
  refine seg_forLoop (GInv zs (filtG sgZ none zs) href s.heap.objs.size it l) (fun i IH n s₀ s3 hI => ?_) zs.length _ _ _ ?_
  case refine_2 =>
    exact ⟨0, none, _, [], rfl, Nat.zero_le _, rfl, rfl, ⟨hit1.at fun o e => f2 _ o (Nat.ne_of_lt hitlt) e, hl1.at fun o e => f2 _ o (Nat.ne_of_lt hllt) e⟩, hns2, .inl (by simp), ⟨h2, _, rfl, fun b o hC _ e => f2 b o hC e⟩,
      fun b o e => f2 b o (hCnr b o e).1 (hkr1 b o e)⟩
  obtain ⟨i', st, m, pre, rfl, hile, hout, rfl, hSt, hn, hB, hsince, hkr⟩ := hI
  have hAh : ∀ c c' : Code, (A'.in1.over c [Frame.ret k none false l' c' p []]).handled = none := fun _ _ => hA'
  rcases Nat.lt_or_ge i' zs.length with hlt | hge
  case inr =>
    have e : i' = zs.length := Nat.le_antisymm hile hge
    subst e
    refine (Walks.list (prog := prog) (w := w) (hAh _ _) it l hli (zs.map (·.1)).toArray).done s3 _ _ (by rw [List.size_toArray, List.length_map]; exact hSt) fun h4 tk4 hk4 => ?_
    refine seg_blockNil ?_
    rw [hk]
    refine seg_execs_nil ?_
    refine seg_end (.ok (.ret .none)) ⟨rfl, ?_, hsince.step fun b o _ hw e => hk4 b o hw e⟩
    rw [List.drop_length]; cases st <;> rfl
  have hzi : zs[i']? = some zs[i'] := List.getElem?_eq_getElem hlt
  generalize zs[i'] = z at hzi
  have hdrop : zs.drop i' = z :: zs.drop (i' + 1) := by
    rw [List.drop_eq_getElem_cons hlt]; rw [List.getElem?_eq_getElem hlt] at hzi; rw [Option.some.inj hzi]
  have hzm : z ∈ zs := List.mem_of_getElem? hzi
  rw [hdrop] at hout ⊢
  refine (Bd.ofWalks (x := Str.ofString "char") (Walks.list (prog := prog) (w := w) (hAh _ _) it l hli (zs.map (·.1)).toArray) ?hx ?hp).turnM (i := i') (s := s3) (m := m) (by rw [List.size_toArray, List.length_map]; exact hlt) hSt ?hn ?hC ?_
  case hx => rfl
  case hp => rfl
  case hn => exact hn
  case hC => exact hCf
  intro h4 tk4 m4 hSt4 hn4 hBo hm4 hk4
  intro K H hK
  obtain ⟨vz, hmz, hvz⟩ := hBo
  have hvz' : vz = z.1 := by
    rw [List.getElem?_toArray, List.getElem?_map, hzi] at hvz; exact (Option.some.inj hvz).symm
  subst hvz'
  have hkr4 : ∀ b o, href.get? b = some o → h4.get? b = some o := fun b o e => hk4 b o (fun h => by simp at h; exact (hCnr b o e).2 h) (hCnr b o e).1 (hkr b o e)
  have hB4 : BsAt zs m4 st := by
    have e := hm4 (Str.ofString "backslash") (by simp; decide)
    cases st with
    | none => exact hB.imp (fun h => e.trans h) fun h => e.trans h
    | some b => exact ⟨hB.1, e.trans hB.2⟩
  have hsince4 : GenSince s.heap.objs.size [it] s₀ { s3 with heap := h4, toks := tk4 } := hsince.step fun b o hC hw e => hk4 b o hw hC e
  have G4 : Gd w mg mb h4 := G.keeps hkr4
  obtain ⟨x, dx, y, dl, t, k1, k2, t1, t2, t3, t4, hzx, a1, a2, a3, a4, b1, b2, b3, b4⟩ := (hz z hzm).keep (h' := h4) fun b o _ e => hkr4 b o e
  have hmx : m4 (Str.ofString "char") = some (.ref x) := by rw [hmz, hzx]
  refine seg_execs_cons (seg_If ?_)
  cases st with
  | none =>
    obtain ⟨vb, hvb, hf⟩ : ∃ v, m4 (Str.ofString "backslash") = some v ∧ (v = .none ∨ v = .bool false) := hB4.elim (fun h => ⟨_, h, .inl rfl⟩) fun h => ⟨_, h, .inr rfl⟩
    refine wpAny_isTrue_value (nmL hn4 hvb (falsy hf ?_) rfl rfl (by decide)) rfl
    refine seg_execs_cons (seg_If ?_)
    refine wpAny_isTrue_Compare1 (Attribute_name (nmL hn4 hmx (getChar (s := { s3 with heap := h4, toks := tk4 }) G4 b1 b2 rfl (wpAny_Constant_str (eqBsl ?_))) rfl rfl (by decide)))
    refine wpAny_truthy_bool ?_
    by_cases hc : z.2.1 = 92
    · rw [decide_eq_true hc]
      have e : filtG sgZ none (z :: zs.drop (i' + 1)) = filtG sgZ (some z) (zs.drop (i' + 1)) := by simp [filtG, sgZ, hc]
      rw [e] at hout ⊢
      refine seg_execs_cons (seg_plain (wpAny_Assign_Name (nmL (s := { s3 with heap := h4, toks := _ }) hn4 hmx (wpAny_storeName_local rfl hn4 (fun h5 hn5 hs5 => ?_) rfl) rfl rfl (by decide)) rfl))
      refine seg_execs_nil (seg_execs_nil (seg_execs_nil ?_))
      rw [hK]
      have k5 : ∀ b o, b ≠ s.heap.objs.size → h4.get? b = some o → h5.get? b = some o := fun b o hb e => hs5.extBut b o hb e
      exact IH (zs.length - (i' + 1)) _ _ _ (by omega) ⟨i' + 1, some z, _, pre, rfl, hlt, hout, rfl, ⟨hSt4.1.at fun o e => k5 _ o (Nat.ne_of_lt hitlt) e, hSt4.2.at fun o e => k5 _ o (Nat.ne_of_lt hllt) e⟩, hn5, ⟨hzm, by rw [hzx]; simp⟩,
        hsince4.step fun b o hC _ e => k5 b o hC e, fun b o e => k5 b o (hCnr b o e).1 (hkr4 b o e)⟩
    · rw [decide_eq_false hc]
      have e : filtG sgZ none (z :: zs.drop (i' + 1)) = z :: filtG sgZ none (zs.drop (i' + 1)) := by simp [filtG, sgZ, hc]
      rw [e] at hout ⊢
      rw [List.length_cons]
      refine seg_execs_cons (seg_Expr_Yield rfl rfl rfl (nmL (s := { s3 with heap := h4, toks := _ }) hn4 hmx ?_ rfl rfl (by decide)) rfl rfl)
      intro kap hkap
      refine ⟨⟨z, by rw [hout]; exact outsAt _ _ _, hzx.symm⟩, hsince4.step fun b o _ _ e => e, fun s5 hal5 => hkap .none s5 ?_⟩
      refine seg_execs_nil (seg_execs_nil (seg_execs_nil ?_))
      rw [hK]
      exact IH (zs.length - (i' + 1)) _ _ _ (by omega) ⟨i' + 1, none, m4, pre ++ [z], rfl, hlt, by rw [hout]; simp, rfl, ⟨hSt4.1.at fun o e => hal5 _ (hsub _ (by simp)) o e, hSt4.2.at fun o e => hal5 _ (hsub _ (by simp)) o e⟩, hn4.at' fun o e => hal5 _ (List.mem_cons_self ..) o e, hB4,
        GenSince.refl _ _ _, fun b o e => hal5 b (hmemr b o e) o (hkr4 b o e)⟩
  | some b =>
    obtain ⟨hbm, hmb⟩ := hB4
    obtain ⟨x', dx', y', dl', t', k1', k2', t1', t2', t3', t4', hzx', a1', a2', a3', a4', b1', b2', b3', b4'⟩ := (hz b hbm).keep (h' := h4) fun b o _ e => hkr4 b o e
    refine wpAny_isTrue_value (nmL hn4 hmb ?_ rfl rfl (by decide)) rfl
    rw [hzx']
    refine truthyChar (s := { s3 with heap := h4, toks := tk4 }) G4 b1' b2' ?_
    refine seg_execs_cons (seg_If ?_)
    refine wpAny_isTrue_Compare1 (Attribute_name (nmL hn4 hmx (getChar (s := { s3 with heap := h4, toks := tk4 }) G4 b1 b2 rfl (wpAny_Constant_str (hasCrlf ?_))) rfl rfl (by decide)))
    refine wpAny_truthy_bool ?_
    by_cases hc : z.2.1 = 13 ∨ z.2.1 = 10
    · rw [decide_eq_true hc]
      have e : filtG sgZ (some b) (z :: zs.drop (i' + 1)) = filtG sgZ none (zs.drop (i' + 1)) := by simp [filtG, sgZ, hc]
      rw [e] at hout ⊢
      refine seg_execs_cons (seg_plain (wpAny_Pass ?_))
      refine seg_execs_nil ?_
      refine seg_execs_cons (seg_plain (wpAny_Assign_Name (wpAny_Constant_bool (wpAny_storeName_local rfl hn4 (fun h5 hn5 hs5 => ?_) rfl)) rfl))
      refine seg_execs_nil (seg_execs_nil ?_)
      rw [hK]
      have k5 : ∀ b o, b ≠ s.heap.objs.size → h4.get? b = some o → h5.get? b = some o := fun b o hb e => hs5.extBut b o hb e
      exact IH (zs.length - (i' + 1)) _ _ _ (by omega) ⟨i' + 1, none, _, pre, rfl, hlt, hout, rfl, ⟨hSt4.1.at fun o e => k5 _ o (Nat.ne_of_lt hitlt) e, hSt4.2.at fun o e => k5 _ o (Nat.ne_of_lt hllt) e⟩, hn5, .inr (by simp),
        hsince4.step fun b o hC _ e => k5 b o hC e, fun b o e => k5 b o (hCnr b o e).1 (hkr4 b o e)⟩
    · rw [decide_eq_false hc]
      have e : filtG sgZ (some b) (z :: zs.drop (i' + 1)) = b :: z :: filtG sgZ none (zs.drop (i' + 1)) := by simp [filtG, sgZ, hc]
      rw [e] at hout ⊢
      rw [List.length_cons, List.length_cons]
      refine seg_execs_cons (seg_Expr_Yield rfl rfl rfl (nmL (s := { s3 with heap := h4, toks := _ }) hn4 hmb ?_ rfl rfl (by decide)) rfl rfl)
      intro kap hkap
      refine ⟨⟨b, by rw [hout]; exact outsAt _ _ _, rfl⟩, hsince4.step fun b o _ _ e => e, fun s5 hal5 => hkap .none s5 ?_⟩
      have hn5 := hn4.at' (h' := s5.heap) fun o e => hal5 _ (List.mem_cons_self ..) o e
      refine seg_execs_cons (seg_Expr_Yield rfl rfl rfl (nmL hn5 hmx ?_ rfl rfl (by decide)) rfl rfl)
      intro kap hkap
      refine ⟨⟨z, by rw [hout]; have := outsAt (pre ++ [b]) (filtG sgZ none (zs.drop (i' + 1))) z; simpa using this, hzx.symm⟩, GenSince.refl _ _ _, fun s6 hal6 => hkap .none s6 ?_⟩
      have hn6 := hn5.at' (h' := s6.heap) fun o e => hal6 _ (List.mem_cons_self ..) o e
      refine seg_execs_nil ?_
      refine seg_execs_cons (seg_plain (wpAny_Assign_Name (wpAny_Constant_bool (wpAny_storeName_local rfl hn6 (fun h7 hn7 hs7 => ?_) rfl)) rfl))
      refine seg_execs_nil (seg_execs_nil ?_)
      rw [hK]
      have k7 : ∀ b o, b ≠ s.heap.objs.size → s6.heap.get? b = some o → h7.get? b = some o := fun b o hb e => hs7.extBut b o hb e
      exact IH (zs.length - (i' + 1)) _ _ _ (by omega) ⟨i' + 1, none, _, pre ++ [b, z], rfl, hlt, by rw [hout]; simp, rfl, ⟨hSt4.1.at fun o e => k7 _ o (Nat.ne_of_lt hitlt) (hal6 _ (hsub _ (by simp)) o (hal5 _ (hsub _ (by simp)) o e)), hSt4.2.at fun o e => k7 _ o (Nat.ne_of_lt hllt) (hal6 _ (hsub _ (by simp)) o (hal5 _ (hsub _ (by simp)) o e))⟩, hn7, .inr (by simp),
        (GenSince.refl _ _ _).step fun b o hC _ e => k7 b o hC e, fun b o e => k7 b o (hCnr b o e).1 (hal6 b (hmemr b o e) o (hal5 b (hmemr b o e) o (hkr4 b o e)))⟩
end
end Lw

/-! ## B10 -/
namespace Lw

theorem All2.zip {α β : Type} {F : α → β → Prop} : ∀ {l : List α} {l' : List β}, All2 F l l' → ∃ zs : List (α × β), zs.map (·.1) = l ∧ zs.map (·.2) = l' ∧ ∀ z ∈ zs, F z.1 z.2
  | _, _, .nil => ⟨[], rfl, rfl, fun _ h => nomatch h⟩
  | _, _, .cons (a := a) (b := b) x t => by
    obtain ⟨zs, h1, h2, h3⟩ := t.zip
    refine ⟨(a, b) :: zs, by simp [h1], by simp [h2], fun z hz => ?_⟩
    rcases List.mem_cons.mp hz with rfl | hz
    · exact x
    · exact h3 z hz
theorem All2.of {α β : Type} {F : α → β → Prop} : ∀ {zs : List (α × β)}, (∀ z ∈ zs, F z.1 z.2) → All2 F (zs.map (·.1)) (zs.map (·.2))
  | [], _ => .nil
  | _ :: _, h => .cons (h _ (.head _)) (All2.of fun z hz => h z (.tail _ hz))

def filtT : Option Tri → List Tri → List Tri := filtG fun p => p.1

def Bare (g : Array GenState) : Prop := ∀ y ∈ g, y.bare = true

theorem args_iter1 (a : Value) : argsOk "iter" ⟨[a], []⟩ := by unfold argsOk; kernel_rfl
theorem entry_iter' : entryFor table "iter" = some Builtin.«iter» := entryFor_of_fast (by kernel_rfl)

section
variable {prog : Program} {w : World} {A : Around} {E : Value → Shared → Prop} {s : Shared} {mg mb : Str → Option Value}

theorem iterCall {l : Nat} {items : Array Value} {Q : Value → Shared → Prop} (hl : s.heap.IsList l items)
    (h : Q (.ref s.heap.objs.size) { s with heap := s.heap.push { cls := .type "list_iterator", data := .fields #[.ref l, .int 0 0] } }) :
    wpAny (model prog w) A (call (.builtin "iter") [.ref l] []) Q E s := by
  refine call_function_entry (by decide +kernel) (by decide +kernel) entry_iter' (args_iter1 _) ?_
  unfold Builtin.«iter»
  refine wpAny_bind (m := someArgs "iter" 1 2 _) (wpAny_of_eq (a := [Value.ref l]) (by first | rfl | kernel_rfl!) ?_)
  show wpAny _ _ (pyIter (.ref l) >>= _) _ _ _
  refine wpAny_bind (wpAny_pyIter_list hl ?_)
  exact wpAny_pure ⟨_, rfl, h⟩

/-- what iter(chars) leaves: a fresh list_iterator over the list -/
structure Itd (w : World) (n : Nat) (href : Heap) (it l : Nat) (ps : List Tri) (s : Shared) : Prop where
  ch : Chars w n href l ps
  lo : @LE.le Nat _ href.objs.size it
  it : s.heap.IsListIter it l 0
  keep : ∀ b o, href.get? b = some o → s.heap.get? b = some o

/-- what the generator call leaves -/
def Gen1 (prog : Program) (w : World) (n : Nat) (href : Heap) (a : Nat) (ps : List Tri) (s : Shared) : Prop :=
  ∃ (zs : Zs) (C it g : Nat), zs.map (·.2) = ps ∧ (∀ z ∈ zs, CharAt w n href z.1 z.2) ∧ n ≤ href.objs.size ∧ href.objs.size ≤ it ∧ it < C ∧ C < a ∧ s.heap.objs.size = a + 1 ∧ href.NoLimit ∧ (∀ b o, href.get? b = some o → s.heap.get? b = some o) ∧
    ∀ A' : Around, A'.handled = none → GenF prog w A' a g C (List.range C) [it] (filtG sgZ none zs).length (fun k v => ∃ z, (filtG sgZ none zs)[k]? = some z ∧ v = z.1) 0 s

theorem genCall1 {n0 : Nat} {href : Heap} {it l : Nat} {ps : List Tri} {Q : Value → Shared → Prop} (G : Gd w mg mb href) (R : Rm A 5) (I : Itd w n0 href it l ps s)
    (hQ : ∀ h' tk a c, (∀ b o, s.heap.get? b = some o → h'.get? b = some o) → Gen1 prog w n0 href a ps { s with heap := h', toks := tk, gens := s.gens.push (.fresh c) } → Q (.ref a) { s with heap := h', toks := tk, gens := s.gens.push (.fresh c) }) :
    wpAny (model prog w) A (call (.ref 21) [.ref it] []) Q E s := by
  obtain ⟨vs, hl, hch⟩ := I.ch
  obtain ⟨zs, rfl, rfl, hz⟩ := hch.zip
  have hls : s.heap.IsList l (zs.map (·.1)).toArray := hl.2.at fun o e => I.keep _ _ e
  have hll : @LT.lt Nat _ l href.objs.size := let ⟨_, e, _⟩ := hl.2; Heap.lt_size e
  have hitlt : @LT.lt Nat _ it s.heap.objs.size := let ⟨_, e, _⟩ := I.it; Heap.lt_size e
  have hnl : n0 ≤ href.objs.size := Nat.le_trans hl.1 (Nat.le_of_lt hll)
  refine genCall G R I.keep hz I.lo I.it hls (Nat.ne_of_lt (Nat.lt_of_lt_of_le hll I.lo)) fun h' tk a c hk' ha hsz hG => ?_
  exact hQ h' tk a c hk' ⟨zs, s.heap.objs.size, it, s.gens.size, rfl, hz, hnl, I.lo, hitlt, ha, hsz, G.T.nolimit, fun b o e => hk' b o (I.keep b o e), hG⟩

theorem drain {n0 : Nat} {href : Heap} {a : Nat} {ps : List Tri} {Q : Value → Shared → Prop} (R : Rm A 5) (D : Gen1 prog w n0 href a ps s) (hlen : (filtT none ps).length ≤ 1000)
    (hQ : ∀ s' D', (∀ b o, href.get? b = some o → s'.heap.get? b = some o) → (Bare s.gens → Bare s'.gens) → s'.drawn = s.drawn → s'.os = s.os → Chars w n0 s'.heap D' (filtT none ps) → Q (.ref D') s') :
    wpAny (model prog w) A (call (.type "list") [.ref a] []) Q E s := by
  obtain ⟨zs, C, it, g, rfl, hz, hn, h1, h2, h3, h4, hnl, hk, hG⟩ := D
  have hfm : (filtG sgZ none zs).map (·.2) = filtT none (zs.map (·.2)) := filtG_map (·.2) (fun _ => rfl) zs none
  have hcs : @LT.lt Nat _ cStatics href.objs.size := let ⟨_, hn, _⟩ := hnl; hn.lt
  have W := walksGen (prog := prog) (w := w) (A := A.in1.in1) R.h a g C (List.range C) [it] (filtG sgZ none zs).length (fun k v => ∃ z, (filtG sgZ none zs)[k]? = some z ∧ v = z.1)
    (Nat.ne_of_gt h3) (fun h => Nat.lt_asymm h3 (List.mem_range.mp h)) (fun b hb => by rw [List.mem_singleton.mp hb]; exact List.mem_range.mpr h2) (R.room) (List.mem_range.mpr (Nat.lt_trans (Nat.lt_of_lt_of_le hcs h1) h2))
    (Nat.ne_of_lt (Nat.lt_trans (Nat.lt_of_lt_of_le hcs h1) h2)) (fun h => Nat.ne_of_lt (Nat.lt_of_lt_of_le hcs h1) (List.mem_singleton.mp h))
  have hlt : a < s.heap.objs.size := by rw [h4]; exact Nat.lt_succ_self _
  refine call_list_gen W (fun i s st => st.1.typeIs) (hG _ R.h) ?_ (List.mem_cons_self ..) (fun s' acc' c' hm hS hacc => ?_) (by rw [sizeLine_eq]; rw [← hfm, List.length_map] at hlen; exact Nat.le_trans hlen (by decide))
  · intro b hb
    rcases List.mem_cons.mp hb with rfl | hb
    · exact hlt
    · rcases List.mem_cons.mp hb with rfl | hb
      · exact Nat.lt_trans h3 hlt
      · exact Nat.lt_trans (List.mem_range.mp hb) (Nat.lt_trans h3 hlt)
  · have hkr : ∀ b o, href.get? b = some o → s'.heap.get? b = some o := fun b o e => by
      have hb : b < href.objs.size := Heap.lt_size e
      refine hm.heap b o (fun hin => ?_) (Heap.get?_push_of_some _ (hk b o e))
      have : b < it := Nat.lt_of_lt_of_le hb h1
      simp at hin
      rcases hin with rfl | rfl | rfl
      · exact Nat.lt_irrefl _ (Nat.lt_trans (Nat.lt_trans this h2) (Nat.lt_trans h3 hlt))
      · exact Nat.lt_irrefl _ (Nat.lt_trans this h2)
      · exact Nat.lt_irrefl _ this
    refine hQ s' _ hkr (fun hb => hm.gens.bare hb) hm.drawn hm.os ⟨acc'.toList, ⟨?_, ⟨_, hS, rfl, _, by rw [Array.toArray_toList]⟩⟩, ?_⟩
    · exact Nat.le_trans hn (Nat.le_of_lt (Nat.lt_of_le_of_lt h1 (Nat.lt_trans h2 (Nat.lt_trans h3 hlt))))
    · have e : acc'.toList = (filtG sgZ none zs).map (·.1) := by
        apply List.ext_getElem?
        intro i
        rcases Nat.lt_or_ge i (filtG sgZ none zs).length with hi | hi
        · have hi' : i < acc'.size := by rw [hacc.1]; exact hi
          obtain ⟨z, hz1, hz2⟩ := hacc.2 i acc'[i] (Array.getElem?_eq_getElem hi')
          rw [List.getElem?_map, hz1, Array.getElem?_toList, Array.getElem?_eq_getElem hi', hz2]; rfl
        · rw [List.getElem?_eq_none (by rw [Array.length_toList, hacc.1]; exact hi), List.getElem?_eq_none (by rw [List.length_map]; exact hi)]
      rw [e, ← hfm]
      exact (All2.of fun z hz' => (hz z ((filtG_mem zs none z hz').elim id fun h => nomatch h))).imp fun v p q => q.keep fun b o _ e => hkr b o e
end
end Lw

/-! ## B11 -/
namespace Lw
section
variable {prog : Program} {w : World} {A : Around} {E : Value → Shared → Prop} {s : Shared} {mg mb : Str → Option Value} {env : Env}

theorem codeAny_forB {R : Result → Shared → Prop} {target : Expr} {body : List Stmt} {I : Addr} {fp wr : List Addr} {n : Nat} {Bo : Nat → (Str → Option Value) → Prop} {St : Nat → Heap → Prop} {tn : List Str}
    (B : Bd prog w A target env I fp wr n Bo St tn) (Inv : Nat → Shared → (Str → Option Value) → Prop) (hLf : env.locals ∉ fp)
    (turn : ∀ i s m h' tk m', i < n → Inv i s m → s.heap.Ns env.locals m → St (i + 1) h' → h'.Ns env.locals m' → Bo i m' → (∀ y, y ∉ tn → m' y = m y) → (∀ b o, b ∉ wr → b ≠ env.locals → s.heap.get? b = some o → h'.get? b = some o) →
      wpAny (model prog w) A (execs body env) (fun f s₃ => f = .next ∧ ∃ m₃, St (i + 1) s₃.heap ∧ s₃.heap.Ns env.locals m₃ ∧ Inv (i + 1) s₃ m₃) (fun _ _ => False) { s with heap := h', toks := tk })
    (done : ∀ s m h' tk, Inv n s m → s.heap.Ns env.locals m → (∀ b o, b ∉ wr → s.heap.get? b = some o → h'.get? b = some o) → R (.ok .next) { s with heap := h', toks := tk })
    {i : Nat} {s : Shared} {m : Str → Option Value} (hi : i ≤ n) (hst : St i s.heap) (hn : s.heap.Ns env.locals m) (h : Inv i s m) : codeAny (model prog w) A (.forLoop target (.ref I) body [] env) R s := by
  refine codeAny_loop' rfl (fun k s => ∃ i m, k = n - i ∧ i ≤ n ∧ St i s.heap ∧ s.heap.Ns env.locals m ∧ Inv i s m) (fun k s hI => ?_) (n - i) ⟨i, m, rfl, hi, hst, hn, h⟩
  obtain ⟨i, m, rfl, hi, hst, hn, hI⟩ := hI
  show wpAny _ _ ((forTurn target (.ref I) body [] env).onRaise (fun x => do noteFrame x env; theTreesLotGoes x)) _ _ s
  refine wpAny_noted ?_
  simp only [forTurn]
  rcases Nat.lt_or_ge i n with hlt | hge
  · refine wpAny_bind (wpAny_standAt (wpAny_bind (wpAny_onRaise (wpAny_mono (B.turnM (D := fun _ => False) (Q := fun s₃ => wpAny (model prog w) A (execs body env) (fun f s₃ => f = .next ∧ ∃ m₃, St (i + 1) s₃.heap ∧ s₃.heap.Ns env.locals m₃ ∧ Inv (i + 1) s₃ m₃) (fun _ _ => False) s₃) (E := fun _ _ => False) hlt hst hn hLf
      (fun h' tk m' => turn i s m h' tk m' hlt hI hn)) (fun r s₁ h₁ => ?_) fun _ _ x => x.elim))))
    cases r with
    | none => exact h₁.elim
    | some v =>
      refine wpAny_bind (wpAny_mono h₁ (fun _ s₂ h₂ => wpAny_bind (wpAny_mono h₂ (fun _ s₃ h₃ => wpAny_bind (wpAny_mono h₃ (fun f s₄ h₄ => ?_) fun _ _ x => x.elim)) fun _ _ x => x.elim)) fun _ _ x => x.elim)
      obtain ⟨rfl, m₃, a, b, c⟩ := h₄
      exact wpAny_pure (.inl ⟨rfl, n - (i + 1), by omega, i + 1, m₃, rfl, hlt, a, b, c⟩)
  · have e : i = n := Nat.le_antisymm hi hge
    subst e
    refine wpAny_bind (wpAny_standAt (wpAny_bind (wpAny_onRaise (B.done s _ _ hst fun h' tk hk => ?_))))
    exact wpAny_pure (.inr ⟨rfl, codeAny_block (wpAny_execs_nil (done s m h' tk hI hn hk))⟩)

/-- a while loop -/
theorem whileB {test : Expr} {body : List Stmt} {pos : Pos} {Q : Flow → Shared → Prop} (Inv : Nat → Shared → Prop)
    (turn : ∀ k s, Inv k s → wpAny (model prog w) A (isTrue test env (eval test env)) (fun b s₁ => if b = true then wpAny (model prog w) A (execs body env) (fun f s₂ => f = .next ∧ ∃ j, j < k ∧ Inv j s₂) (fun _ _ => False) s₁ else Q .next s₁) (fun _ _ => False) s)
    (k : Nat) (h : Inv k s) : wpAny (model prog w) A (exec (.While test body [] pos) env) Q E s := by
  refine wpAny_While (codeAny_whileLoop Inv (fun k s hI => wpAny_mono (turn k s hI) (fun b s₁ h₁ => ?_) fun _ _ x => x.elim) k h)
  cases b with
  | true =>
    rw [if_pos rfl] at h₁ ⊢
    refine wpAny_mono h₁ (fun f s₂ h₂ => ?_) fun _ _ x => x.elim
    obtain ⟨rfl, h₂⟩ := h₂
    exact h₂
  | false =>
    rw [if_neg Bool.false_ne_true] at h₁ ⊢
    exact wpAny_execs_nil h₁

theorem whileC {test : Expr} {body : List Stmt} {pos : Pos} {Q : Flow → Shared → Prop} (Inv : Nat → Shared → Prop) (Fin : Shared → Prop)
    (turn : ∀ k s, Inv k s → wpAny (model prog w) A (isTrue test env (eval test env)) (fun b s₁ => if b = true then wpAny (model prog w) A (execs body env) (fun f s₂ => f = .next ∧ ∃ j, j < k ∧ Inv j s₂) (fun _ _ => False) s₁ else Fin s₁) (fun _ _ => False) s)
    (k : Nat) (h : Inv k s) (fin : ∀ s₁, Fin s₁ → Q .next s₁) : wpAny (model prog w) A (exec (.While test body [] pos) env) Q E s := by
  refine whileB Inv (fun k s hI => wpAny_mono (turn k s hI) (fun b s₁ h₁ => ?_) fun _ _ x => x) k h
  cases b with
  | true => rw [if_pos rfl] at h₁ ⊢; exact h₁
  | false => rw [if_neg Bool.false_ne_true] at h₁ ⊢; exact fin _ h₁

theorem forB {target iter : Expr} {body : List Stmt} {pos : Pos} {Q : Flow → Shared → Prop}
    (h : wpAny (model prog w) A (eval iter env) (fun x s₁ => wpAny (model prog w) A (pyIter x) (fun it s₂ =>
      codeAny (model prog w) A (.forLoop target it body [] env) (fun r s' => match r with | .ok f => Q f s' | .error _ => False) s₂) E s₁) E s)
    (hs : ∀ x, foldedSetIterable iter env x = pure x := by intro _; rfl) :
    wpAny (model prog w) A (exec (.For target iter body [] pos) env) Q E s := by
  refine wpAny_For (wpAny_mono h (fun x s₁ h₁ => wpAny_mono h₁ (fun it s₂ h₂ => codeAny_mono h₂ fun r s' hr => ?_) fun _ _ x => x) fun _ _ x => x) hs
  cases r with
  | ok f => exact hr
  | error e => exact hr.elim
end
end Lw

/-! ## P2 -/
namespace Lw

/-- how many backslashes stand right ahead of a place -/
def runL (t : List Nat) (i : Nat) : Nat := ((t.take i).reverse.takeWhile (· == 92)).length
def runS (t : List Nat) (i c : Nat) : Nat := if c = 10 ∨ c = 13 then runL t i else 0
def goneAt (t : List Nat) (i : Nat) : List Nat := match t[i]? with
  | some c => if runS t i c % 2 = 1 then [i - 1, i] else []
  | none => []
def goneUp (t : List Nat) (i : Nat) : List Nat := (List.range i).flatMap (goneAt t)
def keptOf (t : List Nat) : List Nat := (List.range t.length).filter fun i => !(goneUp t t.length).contains i

theorem runL_le (t : List Nat) (i : Nat) : runL t i ≤ i := by
  unfold runL
  have h := (List.takeWhile_sublist (fun x => x == 92) (l := (t.take i).reverse)).length_le
  have h2 : (t.take i).reverse.length ≤ i := by simp; omega
  exact Nat.le_trans h h2

theorem takeWhile_step {α : Type} (p : α → Bool) : ∀ (l : List α) (r : Nat), r ≤ (l.takeWhile p).length → ((∃ x, l[r]? = some x ∧ p x = true) ↔ r < (l.takeWhile p).length)
  | [], r, h => by simp at h; subst h; simp
  | a :: l, r, h => by
    by_cases ha : p a = true
    · rw [List.takeWhile_cons_of_pos ha] at h ⊢
      cases r with
      | zero => simp [ha]
      | succ r => 
        have := takeWhile_step p l r (by simpa using h)
        simpa using this
    · rw [List.takeWhile_cons_of_neg ha] at h ⊢
      simp at h; subst h; simp [ha]

theorem run_step (t : List Nat) {i r : Nat} (hi : i ≤ t.length) (h : r ≤ runL t i) : (r < i ∧ t[i - r - 1]? = some 92) ↔ r < runL t i := by
  rw [show (r < runL t i) ↔ _ from (takeWhile_step (fun x => x == 92) (t.take i).reverse r h).symm]
  constructor
  · rintro ⟨h1, h2⟩
    refine ⟨92, ?_, rfl⟩
    rw [List.getElem?_reverse (by simp; omega), List.length_take, List.getElem?_take, if_pos (by omega), Nat.min_eq_left hi]
    rw [show i - 1 - r = i - r - 1 from by omega]; exact h2
  · rintro ⟨x, h1, h2⟩
    have hl : r < (t.take i).reverse.length := by
      rcases Nat.lt_or_ge r (t.take i).reverse.length with h | h
      · exact h
      · rw [List.getElem?_eq_none h] at h1; cases h1
    have hri : r < i := by simp at hl; omega
    refine ⟨hri, ?_⟩
    rw [List.getElem?_reverse (by simpa using hl), List.length_take, List.getElem?_take, if_pos (by omega), Nat.min_eq_left hi] at h1
    rw [show i - r - 1 = i - 1 - r from by omega, h1]
    simp at h2; rw [h2]

theorem goneUp_succ (t : List Nat) (i : Nat) : goneUp t (i + 1) = goneUp t i ++ goneAt t i := by
  simp [goneUp, List.range_succ]
theorem goneAt_len (t : List Nat) (i : Nat) : (goneAt t i).length ≤ 2 := by
  unfold goneAt; split
  · split <;> simp
  · simp
theorem goneUp_len (t : List Nat) (i : Nat) : (goneUp t i).length ≤ 2 * i := by
  induction i with
  | zero => simp [goneUp]
  | succ i ih => rw [goneUp_succ, List.length_append]; have := goneAt_len t i; omega
theorem goneAt_eq {t : List Nat} {i c : Nat} (h : t[i]? = some c) : goneAt t i = if runS t i c % 2 = 1 then [i - 1, i] else [] := by simp [goneAt, h]
theorem runS_le (t : List Nat) (i c : Nat) : runS t i c ≤ i := by
  unfold runS; split
  · exact runL_le t i
  · omega
end Lw

/-! ## B12 -/
namespace Lw

def LstX (h : Heap) (l : Addr) (items : Array Value) : Prop := ∃ n, h.get? l = some { cls := .type "list", data := .seq items n }
theorem LstX.isList {h : Heap} {l : Addr} {items : Array Value} (x : LstX h l items) : h.IsList l items := let ⟨n, e⟩ := x; ⟨_, e, rfl, n, rfl⟩
theorem LstX.at {h h' : Heap} {l : Addr} {items : Array Value} (x : LstX h l items) (k : ∀ o, h.get? l = some o → h'.get? l = some o) : LstX h' l items := let ⟨n, e⟩ := x; ⟨n, k _ e⟩

theorem seqSlot_list_iadd : seqSlot? (.type "list") (dunderI "add") = pure (some (.builtin "list.__iadd__")) := PySem.seqSlot_of F.slot_list_iadd.lookup (by decide +kernel)

section
variable {prog : Program} {w : World} {A : Around} {E : Value → Shared → Prop} {s : Shared} {mg mb : Str → Option Value} {env : Env}

theorem iaddList {l b : Addr} {items items2 : Array Value} {Q : Value → Shared → Prop} (hl : LstX s.heap l items) (hb : LstX s.heap b items2) (hsz : items.size + items2.size ≤ 100000)
    (h : ∀ h', LstX h' l (items ++ items2) → Heap.SameBut l s.heap h' → Q (.ref l) { s with heap := h' }) : wpAny (model prog w) A (inplaceOp .Add (.ref l) (.ref b)) Q E s := by
  have tl : s.TypeIs (.ref l) "list" := hl.isList.typeIs
  have tb : s.TypeIs (.ref b) "list" := hb.isList.typeIs
  obtain ⟨n, hl⟩ := hl
  obtain ⟨n2, hb⟩ := hb
  unfold inplaceOp
  refine wpAny_holding ?_
  have hfi : fillsInplaceSlot (.type "list") "add" (Operator.Add == .Add) = pure false := by
    unfold fillsInplaceSlot
    show (typeLookup (.type "list") (dunderI "add") >>= fun fi => pure (fi.isSome && !isSeqSlot fi)) = pure false
    rw [F.slot_list_iadd.lookup]; rfl
  refine wpAny_bind (wpAny_typeOf tl (wpAny_bind (wpAny_of_eq hfi ?_)))
  show wpAny _ A (if false = true then _ else _) Q E s
  rw [if_neg Bool.false_ne_true]
  refine wpAny_bind (wpAny_binaryOp1_none (nm := "add") tl tb noFill_list_add ?_)
  refine wpAny_bind (wpAny_of_eq seqSlot_list_iadd ?_)
  refine wpAny_bind (wpAny_rule ?_)
  have hsl : items.size + items2.size ≤ sizeLine := by rw [sizeLine_eq]; omega
  refine call_meets F.slot_list_iadd tl F.entry_list_iadd (F.args_list_iadd_2 _ _) (AutoSeq1.list___iadd___list_list_0 l items n b items2 n2 ?_ (Nat.le_trans (Nat.le_add_right _ _) hsl) (Nat.le_succ_of_le hsl)) ⟨hl, hb, ?_⟩
  · exact extend_door hsl
  · exact h _ ⟨_, get?_update_seq hl _⟩ (Heap.SameBut.update ..)

theorem iaddListL {l b : Addr} {gvs ws : List Value} {Q : Value → Shared → Prop} (hl : LstX s.heap l gvs.toArray) (hb : LstX s.heap b ws.toArray) (hsz : gvs.length + ws.length ≤ 100000)
    (h : ∀ h', LstX h' l (gvs ++ ws).toArray → Heap.SameBut l s.heap h' → Q (.ref l) { s with heap := h' }) : wpAny (model prog w) A (inplaceOp .Add (.ref l) (.ref b)) Q E s :=
  iaddList hl hb (by simpa using hsz) fun h' hl' hs' => h h' (by simpa using hl') hs'

theorem hasLfcr {c : Nat} {t u : Tok} {Q : Value → Shared → Prop} (h : Q (.bool (decide (c = 10 ∨ c = 13))) s) : wpAny (model prog w) A (compareOp .In (.str ⟨#[c]⟩ t) (.str (Str.ofString "\n\r") u)) Q E s :=
  SB.contains (by rw [has_lfcr]; exact h)

theorem itemAt {x : Str} {j c : Nat} (h : x.cps[j]? = some c) : Txt.item x (j : Int) = ⟨#[c]⟩ := by
  unfold Txt.item Txt.charAt
  have hj : j < x.length := by
    rcases Nat.lt_or_ge j x.cps.size with h' | h'
    · exact h'
    · rw [Array.getElem?_eq_none h'] at h; cases h
  have e : seqIndex? (j : Int) x.length = some j := by
    unfold seqIndex?
    have h0 : ¬ ((j : Int) < 0) := by omega
    simp [h0, hj]
  rw [e]
  show (⟨#[(x.cps[j]?).getD 0]⟩ : Str) = _
  rw [h]; rfl

theorem cellAt {h h' : Heap} {c : Addr} {v : Option Value} (x : h.IsCell c v) (k : ∀ o, h.get? c = some o → h'.get? c = some o) : h'.IsCell c v := let ⟨o, ho, hd⟩ := x; ⟨o, k o ho, hd⟩

theorem ints_two {gvs : List Value} {g : List Nat} {i : Nat} {t1 t2 : Tok} (h : IntsAre gvs (g.map Int.ofNat)) (hi : 1 ≤ i) : IntsAre (gvs ++ [.int ((i : Int) - 1) t1, .int (i : Int) t2]) ((g ++ [i - 1, i]).map Int.ofNat) := by
  rw [List.map_append]
  refine h.append ?_
  have e : ((i : Int) - 1) = Int.ofNat (i - 1) := by show (i : Int) - 1 = ((i - 1 : Nat) : Int); omega
  rw [e]
  exact .cons _ _ (.cons _ _ .nil)

theorem odd_fmod (n : Nat) : (((n : Int).fmod 2) == 1) = decide (n % 2 = 1) := by
  rw [Int.fmod_eq_emod_of_nonneg _ (by decide)]
  by_cases h : n % 2 = 1
  · rw [decide_eq_true h]; have : (n : Int) % 2 = 1 := by omega
    rw [this]; rfl
  · rw [decide_eq_false h]; have : (n : Int) % 2 = 0 := by omega
    rw [this]; rfl

theorem fits_small {n : Nat} (h : n ≤ 1000) : fitsSsize (n : Int) = true := by
  unfold fitsSsize
  rw [Bool.not_eq_true']
  simp
  omega

theorem ints_filter (p : Value → Bool) (q : Nat → Bool) (hpq : ∀ j t, p (.int ((j : Nat) : Int) t) = q j) : ∀ (vs : List Value) (off : Nat), (∀ (j : Nat) v, vs[j]? = some v → ∃ t, v = .int ((off + j : Nat) : Int) t) → IntsAre (vs.filter p) (((List.range' off vs.length).filter q).map Int.ofNat)
  | [], off, h => .nil
  | v :: vs, off, h => by
    obtain ⟨t, rfl⟩ := h 0 v rfl
    have ih := ints_filter p q hpq vs (off + 1) fun j v hv => by
      obtain ⟨t, rfl⟩ := h (j + 1) v (by simpa using hv)
      exact ⟨t, by congr 2; omega⟩
    have e : p (.int ((off + 0 : Nat) : Int) t) = q off := hpq off t
    rw [List.length_cons, List.range'_succ]
    by_cases hq : q off = true
    · rw [List.filter_cons_of_pos (by rw [e]; exact hq), List.filter_cons_of_pos hq, List.map_cons]
      exact .cons _ _ ih
    · rw [List.filter_cons_of_neg (by rw [e]; exact hq), List.filter_cons_of_neg hq]
      exact ih
theorem any_ofNat (j : Nat) : ∀ l : List Nat, l.any ((· == ((j : Nat) : Int)) ∘ Int.ofNat) = l.contains j
  | [] => rfl
  | a :: l => by
    rw [List.any_cons, any_ofNat j l, List.contains_cons]
    congr 1
    show (Int.ofNat a == Int.ofNat j) = (j == a)
    by_cases h : j = a
    · subst h; simp
    · have h2 : ¬ (Int.ofNat a = Int.ofNat j) := fun e => h (Int.ofNat.inj e).symm
      rw [beq_eq_false_iff_ne.mpr h, beq_eq_false_iff_ne.mpr h2]
theorem paired_eq : ∀ {l l' : List Value}, Paired (fun v y => y = v) l l' → l' = l
  | _, _, .nil => rfl
  | _, _, .cons h t => by rw [h, paired_eq t]

set_option maxHeartbeats 4000000 in
theorem keptCall {x : Str} {tx : Tok} {Q : Value → Shared → Prop} (G : Gd w mg mb s.heap) (R : Rm A 5) (hlen : x.cps.size ≤ 1000)
    (hQ : ∀ h' tk D cv, (∀ b o, s.heap.get? b = some o → h'.get? b = some o) → h'.IsList D (List.toArray cv) → IntsAre cv ((keptOf x.cps.toList).map Int.ofNat) → Q (.ref D) { s with heap := h', toks := tk }) :
    wpAny (model prog w) A (call (.ref 98) [.str x tx] []) Q E s := by
  have ho := G.X 98 _ rfl
  refine rcall [(Str.ofString "text", .str x tx)] R ho rfl G.T.nolimit (codeRec_of G.X (by kernel_rfl)) rfl rfl rfl ?_ (fun h₀ tk₀ A' R' hk hn hcells => ?_) rfl rfl rfl
  · intro L y hy
    rw [List.mem_singleton.mp hy]; exact .inl rfl
  have hcell : h₀.IsCell (s.heap.objs.size + 1) none := hcells (Str.ofString "gone") (s.heap.objs.size + 1) rfl
  clear hcells
  have hcl : @LT.lt Nat _ (s.heap.objs.size + 1) h₀.objs.size := let ⟨_, e, _⟩ := hcell; Heap.lt_size e
  refine wpAny_execs_cons (wpAny_Assign_Name (wpAny_List (wpAny_items_nil ⟨by simp, ?_⟩)) rfl)
  have kp0 : ∀ b o, h₀.get? b = some o → (h₀.push { cls := .type "list", data := .seq ([] : List Value).toArray }).get? b = some o := fun b o e => Heap.get?_push_of_some _ e
  refine wpAny_storeName_cell rfl rfl rfl (hcell.keeps kp0) fun h1 hc1 hs1 => ?_
  have k1 : ∀ b o, b ≠ s.heap.objs.size + 1 → h₀.get? b = some o → h1.get? b = some o := fun b o hb e => hs1.extBut b o hb (kp0 b o e)
  have kb1 : ∀ b o, s.heap.get? b = some o → h1.get? b = some o := fun b o e => k1 b o (Nat.ne_of_lt (Nat.lt_succ_of_lt (Heap.lt_size e))) (hk b o e)
  have hsz1 : h1.objs.size = h₀.objs.size + 1 := by rw [hs1.1, Heap.size_push]
  have hl1 : LstX h1 h₀.objs.size #[] := ⟨0, hs1.extBut _ _ (Nat.ne_of_gt hcl) (Heap.get?_push_size _ rfl)⟩
  have hn1 : h1.Ns s.heap.objs.size _ := hn.at' fun o e => k1 _ o (Nat.ne_of_lt (Nat.lt_succ_self _)) e
  refine wpAny_execs_cons (forB ?_ (fun _ => rfl))
  refine wpAny_Call_Name_kw (nmB (s := { s with heap := h1, toks := _ }) (G.keeps kb1) (by kernel_rfl) bt_enum (by decide) ?_ rfl rfl rfl rfl (by decide))
  refine Pv.callWith_type1 (wpAny_items_cons (nmL hn1 rfl (wpAny_items_nil ?_) rfl rfl (by decide)) rfl) rfl rfl
  refine call_enumerate_str fun h2 he hit hsz hk2 => ?_
  refine wpAny_pyIter_enum he ?_
  dsimp only at he hit hsz hk2 ⊢
  obtain ⟨Pt, St, Mid, W, hst, two⟩ := enumW (prog := prog) (w := w) R'.h he hit (Nat.succ_ne_self _)
  have he1 : h1.objs.size + 1 ≠ s.heap.objs.size ∧ h1.objs.size ≠ s.heap.objs.size := by rw [hsz1]; have : s.heap.objs.size + 1 < h₀.objs.size := hcl; exact ⟨by omega, by omega⟩
  have hLf : s.heap.objs.size ∉ [h1.objs.size + 1, h1.objs.size] := fun h => by
    simp at h
    rcases h with h | h
    · exact he1.1 h.symm
    · exact he1.2 h.symm
  have f2 : ∀ b o, h1.get? b = some o → h2.get? b = some o := hk2
  have hcl' : s.heap.objs.size + 1 < h₀.objs.size := hcl
  refine codeAny_forB (Bd.ofPairs R'.h W _ two (by decide) rfl rfl rfl)
    (fun i s' m => (∃ h tk, s' = { s with heap := h, toks := tk }) ∧ m (Str.ofString "text") = some (.str x tx) ∧ s'.heap.IsCell (s.heap.objs.size + 1) (some (.ref h₀.objs.size)) ∧
      (∃ gvs : List Value, LstX s'.heap h₀.objs.size gvs.toArray ∧ IntsAre gvs ((goneUp x.cps.toList i).map Int.ofNat)) ∧ ∀ b o, s.heap.get? b = some o → s'.heap.get? b = some o)
    hLf ?turn ?done (i := 0) (Nat.zero_le _) hst (hn1.at' fun o e => f2 _ o e) ⟨⟨_, _, rfl⟩, rfl, cellAt hc1 fun o e => f2 _ o e, ⟨[], hl1.at fun o e => f2 _ o e, .nil⟩, fun b o e => f2 _ o (kb1 b o e)⟩
  case turn =>
    rintro i s3 m3 h4 tk4 m4 hi ⟨⟨h3, tk3, rfl⟩, hmt, hc3, ⟨gvs, hl3, hg3⟩, hkb3⟩ hn3 hSt4 hn4 ⟨va, vb, ⟨tk, c, u, hcc, rfl, rfl⟩, hma, hms⟩ hm4 hk4
    have hmt4 : m4 (Str.ofString "text") = some (.str x tx) := (hm4 _ (by decide)).trans hmt
    have hil : i < x.cps.toList.length := by simpa using hi
    have hct : x.cps.toList[i]? = some c := by rw [← hcc]; simp
    have k4 : ∀ (b : Nat) o, b < h1.objs.size → b ≠ s.heap.objs.size → h3.get? b = some o → h4.get? b = some o := fun b o hb hL e => hk4 b o (by simp; exact ⟨Nat.ne_of_lt (Nat.lt_succ_of_lt hb), Nat.ne_of_lt hb⟩) hL e
    have hgl : h₀.objs.size < h1.objs.size := by rw [hsz1]; exact Nat.lt_succ_self _
    have hc4 : h4.IsCell (s.heap.objs.size + 1) (some (.ref h₀.objs.size)) := cellAt hc3 fun o e => k4 _ o (Nat.lt_trans hcl' hgl) (Nat.ne_of_gt (Nat.lt_succ_self _)) e
    have hl4 : LstX h4 h₀.objs.size gvs.toArray := hl3.at fun o e => k4 _ o hgl (by omega) e
    have hkb4 : ∀ b o, s.heap.get? b = some o → h4.get? b = some o := fun b o e => by
      have hb : @LT.lt Nat _ b s.heap.objs.size := Heap.lt_size e
      exact k4 b o (Nat.lt_trans hb (Nat.lt_trans (Nat.lt_succ_self _) (Nat.lt_trans hcl' hgl))) (Nat.ne_of_lt hb) (hkb3 b o e)
    refine wpAny_execs_cons (wpAny_Assign_Name (wpAny_Constant_int (wpAny_storeName_local rfl hn4 (fun h5 hn5 hs5 => ?_) rfl)) rfl)
    refine wpAny_execs_cons (whileC (fun k s' => ∃ r h tk m u, s' = { s with heap := h, toks := tk } ∧ k = i - r ∧ r ≤ runS x.cps.toList i c ∧ h.Ns s.heap.objs.size m ∧ m (Str.ofString "run") = some (.int ((r : Nat) : Int) u) ∧
      (∀ y, y ≠ Str.ofString "run" → m y = m4 y) ∧ ∀ b o, b ≠ s.heap.objs.size → h4.get? b = some o → h.get? b = some o) (fun s' => ∃ h tk m u, s' = { s with heap := h, toks := tk } ∧ h.Ns s.heap.objs.size m ∧ m (Str.ofString "run") = some (.int ((runS x.cps.toList i c : Nat) : Int) u) ∧
      (∀ y, y ≠ Str.ofString "run" → m y = m4 y) ∧ ∀ b o, b ≠ s.heap.objs.size → h4.get? b = some o → h.get? b = some o) ?wturn i ⟨0, h5, _, _, _, rfl, rfl, Nat.zero_le _, hn5, by simp; rfl, fun y hy => by simp [hy], fun b o hb e => hs5.extBut b o hb e⟩ ?wfin)
    case wturn =>
      rintro k s6 ⟨r, h6, tk6, m6, u6, rfl, rfl, hr, hn6, hmr6, hm6, hk6⟩
      have hma6 : m6 (Str.ofString "at") = some (.int i tk) := (hm6 _ (by decide)).trans hma
      have hms6 : m6 (Str.ofString "sign") = some (.str ⟨#[c]⟩ u) := (hm6 _ (by decide)).trans hms
      have hmt6 : m6 (Str.ofString "text") = some (.str x tx) := (hm6 _ (by decide)).trans hmt4
      have hkb6 : ∀ b o, s.heap.get? b = some o → h6.get? b = some o := fun b o e => hk6 b o (Nat.ne_of_lt (Heap.lt_size e)) (hkb4 b o e)
      refine wpAny_isTrue_BoolOp (wpAny_allTrue_And_cons (wpAny_isTrue_Compare1 (nmL (s := { s with heap := h6, toks := tk6 }) hn6 hms6 (wpAny_Constant_str (hasLfcr (wpAny_truthy_bool ?_))) rfl rfl (by decide))))
      by_cases hnl : c = 10 ∨ c = 13
      case neg =>
        rw [decide_eq_false hnl, if_neg Bool.false_ne_true, if_neg Bool.false_ne_true]
        have e0 : r = runS x.cps.toList i c := by
          have : runS x.cps.toList i c = 0 := by simp [runS, hnl]
          omega
        exact ⟨h6, _, m6, u6, rfl, hn6, by rw [← e0]; exact hmr6, hm6, hk6⟩
      rw [decide_eq_true hnl, if_pos rfl]
      have hrS : runS x.cps.toList i c = runL x.cps.toList i := by simp [runS, hnl]
      refine wpAny_allTrue_And_cons (wpAny_isTrue_Compare1 (nmL (s := { s with heap := h6, toks := _ }) hn6 hmr6 (nmL (s := { s with heap := h6, toks := _ }) hn6 hma6 (P.lt_int (wpAny_truthy_bool ?_)) rfl rfl (by decide)) rfl rfl (by decide)))
      by_cases hri : r < i
      case neg =>
        rw [decide_eq_false (by omega), if_neg Bool.false_ne_true, if_neg Bool.false_ne_true]
        have e0 : r = runS x.cps.toList i c := by have := runL_le x.cps.toList i; omega
        exact ⟨h6, _, m6, u6, rfl, hn6, by rw [← e0]; exact hmr6, hm6, hk6⟩
      rw [decide_eq_true (by omega), if_pos rfl]
      have hstep := run_step x.cps.toList (r := r) (Nat.le_of_lt hil) (by omega)
      obtain ⟨d, hd⟩ : ∃ d, x.cps[i - r - 1]? = some d := ⟨_, Array.getElem?_eq_getElem (by omega)⟩
      refine wpAny_allTrue_And_cons (wpAny_isTrue_Compare1 (Subscript_ (nmL (s := { s with heap := h6, toks := _ }) hn6 hmt6 (wpAny_BinOp (wpAny_BinOp (nmL (s := { s with heap := h6, toks := _ }) hn6 hma6 (nmL (s := { s with heap := h6, toks := _ }) hn6 hmr6 (P.sub_int (wpAny_Constant_int (P.sub_int ?_))) rfl rfl (by decide)) rfl rfl (by decide)))) rfl rfl (by decide))))
      rw [show ((i : Int) - (r : Int) - 1) = ((i - r - 1 : Nat) : Int) from by omega]
      refine item_str (s := { s with heap := h6, toks := _ }) (fits_small (by omega)) (by omega) (by show ((i - r - 1 : Nat) : Int) < ((x.cps.size : Nat) : Int); omega) (fun _ => ?_) rfl (fun _ => rfl)
      rw [itemAt hd]
      refine wpAny_Constant_str (eqBsl (wpAny_truthy_bool ?_))
      by_cases hd92 : d = 92
      case neg =>
        rw [decide_eq_false hd92, if_neg Bool.false_ne_true, if_neg Bool.false_ne_true]
        have e0 : r = runS x.cps.toList i c := by
          have : ¬ r < runL x.cps.toList i := fun h => hd92 (by
            have h2 := (hstep.mpr h).2
            rw [Array.getElem?_toList, hd] at h2; exact Option.some.inj h2)
          omega
        exact ⟨h6, _, m6, u6, rfl, hn6, by rw [← e0]; exact hmr6, hm6, hk6⟩
      rw [decide_eq_true hd92, if_pos rfl]
      refine wpAny_allTrue_And_nil ?_
      rw [if_pos rfl]
      have hrl : r < runL x.cps.toList i := hstep.mp ⟨hri, by rw [Array.getElem?_toList, hd, hd92]⟩
      refine wpAny_execs_cons (wpAny_AugAssign_Name (wpAny_loadName_local rfl rfl (s := { s with heap := h6, toks := _ }) hn6 hmr6 (wpAny_Constant_int (P.iadd_int (wpAny_storeName_local rfl (s := { s with heap := h6, toks := _ }) hn6 (fun h7 hn7 hs7 => ?_) rfl)))))
      refine wpAny_execs_nil ⟨rfl, i - (r + 1), by omega, r + 1, h7, _, _, _, rfl, rfl, by omega, hn7, by simp; rfl, fun y hy => by simp [hy]; exact hm6 y hy, fun b o hb e => hs7.extBut b o hb (hk6 b o hb e)⟩
    case wfin =>
      rintro s6 ⟨h6, tk6, m6, u6, rfl, hn6, hmr6, hm6, hk6⟩
      have hma6 : m6 (Str.ofString "at") = some (.int i tk) := (hm6 _ (by decide)).trans hma
      have hmt6 : m6 (Str.ofString "text") = some (.str x tx) := (hm6 _ (by decide)).trans hmt4
      have hkb6 : ∀ b o, s.heap.get? b = some o → h6.get? b = some o := fun b o e => hk6 b o (Nat.ne_of_lt (Heap.lt_size e)) (hkb4 b o e)
      refine wpAny_execs_cons (wpAny_If (wpAny_isTrue_Compare1 (wpAny_BinOp (nmL (s := { s with heap := h6, toks := tk6 }) hn6 hmr6 (wpAny_Constant_int (mod_int' (by decide) (wpAny_Constant_int (P.eq_int (wpAny_truthy_bool ?_))))) rfl rfl (by decide)))))
      rw [odd_fmod]
      have hc6 : h6.IsCell (s.heap.objs.size + 1) (some (.ref h₀.objs.size)) := cellAt hc4 fun o e => hk6 _ o (Nat.ne_of_gt (Nat.lt_succ_self _)) e
      have hl6 : LstX h6 h₀.objs.size gvs.toArray := hl4.at fun o e => hk6 _ o (Nat.ne_of_gt (Nat.lt_trans (Nat.lt_succ_self _) hcl')) e
      have hSt6 : St (i + 1) h6 := W.frame _ _ _ hSt4 fun b hb o e => hk6 b o (fun h => hLf (h ▸ hb)) e
      have hgs := goneUp_succ x.cps.toList i
      rw [goneAt_eq hct] at hgs
      by_cases hodd : runS x.cps.toList i c % 2 = 1
      case neg =>
        rw [decide_eq_false hodd, if_neg Bool.false_ne_true]
        rw [if_neg hodd, List.append_nil] at hgs
        refine wpAny_execs_nil (wpAny_execs_nil ⟨rfl, m6, hSt6, hn6, ⟨_, _, rfl⟩, hmt6, hc6, ⟨gvs, hl6, by rw [hgs]; exact hg3⟩, hkb6⟩)
      case pos =>
        rw [decide_eq_true hodd, if_pos rfl]
        rw [if_pos hodd] at hgs
        have hi1 : 1 ≤ i := by have := runS_le x.cps.toList i c; omega
        have hgl6 : @LT.lt Nat _ h₀.objs.size h6.objs.size := let ⟨_, e⟩ := hl6; Heap.lt_size e
        have hgn : gvs.length ≤ 2000 := by
          have e1 := hg3.length
          have e2 := goneUp_len x.cps.toList i
          rw [List.length_map] at e1
          omega
        refine wpAny_execs_cons (wpAny_AugAssign_Name (wpAny_loadName_cell (s := { s with heap := h6, toks := _ }) rfl rfl rfl hc6 (wpAny_List (wpAny_items_cons (wpAny_BinOp (nmL (s := { s with heap := h6, toks := _ }) hn6 hma6 (wpAny_Constant_int (P.sub_int ?_)) rfl rfl (by decide))) rfl))))
        refine wpAny_items_cons (nmL (s := { s with heap := h6, toks := _ }) hn6 hma6 (wpAny_items_nil ⟨by simp; decide, ?_⟩) rfl rfl (by decide)) rfl
        refine iaddListL (l := h₀.objs.size) (b := h6.objs.size) (hl6.at fun o e => Heap.get?_push_of_some _ e) ⟨0, Heap.get?_push_size _ rfl⟩ (by simp; omega) fun h7 hl7 hs7 => ?_
        have k7 : ∀ (b : Nat) o, b ≠ h₀.objs.size → h6.get? b = some o → h7.get? b = some o := fun b o hb e => hs7.extBut b o hb (Heap.get?_push_of_some _ e)
        refine wpAny_storeName_cell rfl rfl rfl (cellAt hc6 fun o e => k7 _ o (Nat.ne_of_lt hcl') e) fun h8 hc8 hs8 => ?_
        have k8 : ∀ (b : Nat) o, b ≠ h₀.objs.size → b ≠ s.heap.objs.size + 1 → h6.get? b = some o → h8.get? b = some o := fun b o hb hb2 e => hs8.extBut b o hb2 (k7 b o hb e)
        refine wpAny_execs_nil (wpAny_execs_nil ⟨rfl, m6, ?_, ?_, ⟨_, _, rfl⟩, hmt6, hc8, ⟨_, hl7.at fun o e => hs8.extBut _ o (Nat.ne_of_gt hcl') e, ?_⟩, ?_⟩)
        · refine W.frame _ _ _ hSt6 fun b hb o e => k8 b o (fun h => ?_) (fun h => ?_) e
          · subst h; simp at hb; rcases hb with hb | hb
            · exact Nat.ne_of_lt (Nat.lt_succ_of_lt hgl) hb
            · exact Nat.ne_of_lt hgl hb
          · subst h; simp at hb; rcases hb with hb | hb
            · exact Nat.ne_of_lt (Nat.lt_trans (Nat.lt_succ_self _) (Nat.lt_trans hcl' hgl)) hb
            · exact Nat.ne_of_lt (Nat.lt_trans hcl' hgl) hb
        · exact hn6.at' fun o e => k8 _ o (Nat.ne_of_lt (Nat.lt_trans (Nat.lt_succ_self _) hcl')) (Nat.ne_of_lt (Nat.lt_succ_self _)) e
        · rw [hgs]; exact ints_two hg3 hi1
        · intro b o e
          have hb : @LT.lt Nat _ b s.heap.objs.size := Heap.lt_size e
          exact k8 b o (Nat.ne_of_lt (Nat.lt_trans hb (Nat.lt_trans (Nat.lt_succ_self _) hcl'))) (Nat.ne_of_lt (Nat.lt_succ_of_lt hb)) (hkb6 b o e)
  case done =>
    rintro s3 m3 h4 tk4 ⟨⟨h3, tk3, rfl⟩, hmt, hc3, ⟨gvs, hl3, hg3⟩, hkb3⟩ hn3 hk4
    dsimp only
    have hgl : h₀.objs.size < h1.objs.size := by rw [hsz1]; exact Nat.lt_succ_self _
    have k4 : ∀ (b : Nat) o, b < h1.objs.size → h3.get? b = some o → h4.get? b = some o := fun b o hb e => hk4 b o (by simp; exact ⟨Nat.ne_of_lt (Nat.lt_succ_of_lt hb), Nat.ne_of_lt hb⟩) e
    have hc4 : h4.IsCell (s.heap.objs.size + 1) (some (.ref h₀.objs.size)) := cellAt hc3 fun o e => k4 _ o (Nat.lt_trans hcl' hgl) e
    have hl4 : LstX h4 h₀.objs.size gvs.toArray := hl3.at fun o e => k4 _ o hgl e
    have hn4 : h4.Ns s.heap.objs.size m3 := hn3.at' fun o e => k4 _ o (Nat.lt_trans (Nat.lt_succ_self _) (Nat.lt_trans hcl' hgl)) e
    have hkb4 : ∀ b o, s.heap.get? b = some o → h4.get? b = some o := fun b o e => by
      have hb : @LT.lt Nat _ b s.heap.objs.size := Heap.lt_size e
      exact k4 b o (Nat.lt_trans hb (Nat.lt_trans (Nat.lt_succ_self _) (Nat.lt_trans hcl' hgl))) (hkb3 b o e)
    let q : Nat → Bool := fun j => !(goneUp x.cps.toList x.cps.size).contains j
    let p : Value → Bool := fun v => match v with | .int k _ => !(((goneUp x.cps.toList x.cps.size).map Int.ofNat).any (· == k)) | _ => false
    have hpq : ∀ (j : Nat) t, p (.int (j : Int) t) = q j := fun j t => by
      show (!_) = (!_)
      congr 1
      rw [List.any_map]
      exact any_ofNat _ _
    refine wpAny_execs_cons (wpAny_Return_some (wpAny_ListComp_free p (fun v y => y = v) (cl := [(Str.ofString "gone", s.heap.objs.size + 1)]) rfl (by decide) rfl (by decide) rfl ?_ (fun _ => rfl)))
    refine wpAny_Call_Name_kw (nmB (s := { s with heap := h4, toks := tk4 }) (G.keeps hkb4) (by kernel_rfl) bt_range (by decide) ?_ rfl rfl rfl rfl (by decide))
    refine Pv.callWith_type1 (wpAny_items_cons (wpAny_Call_Name_kw (nmB (s := { s with heap := h4, toks := _ }) (G.keeps hkb4) (by kernel_rfl) bt_len (by decide) ?_ rfl rfl rfl rfl (by decide))) rfl) rfl rfl
    refine callWithB (wpAny_items_cons (nmL (s := { s with heap := h4, toks := _ }) hn4 hmt (wpAny_items_nil ?_) rfl rfl (by decide)) rfl) rfl rfl
    have hxl : x.length = x.cps.size := rfl
    refine P.len_str (by omega) ?_
    refine wpAny_items_nil ?_
    refine call_range_1 ?_
    refine wpAny_pyIter_range (IsRange.new ..) (small_one (by decide) (by decide) (by omega) (by omega)) ?_
    have hsz4 : ∀ (b : Addr) o, h4.get? b = some o → b < h4.objs.size := fun b o e => Heap.lt_size e
    have kp : ∀ b o, h4.get? b = some o → ((h4.push { cls := .type "range", data := .fields #[.int 0 (tk4 + 2), .int x.length (tk4 + 1), .int 1 (tk4 + 2 + 1)] }).push { cls := .type "range_iterator", data := .fields #[rawInt 0, rawInt (Builtin.Range.rangeSize 0 x.length 1), rawInt 1] }).get? b = some o := fun b o e => Heap.get?_push_of_some _ (Heap.get?_push_of_some _ e)
    refine ⟨_, _, _, _, _, _, rfl, Walks.range R'.h _ 0 1 x.cps.size, by rw [sizeLine_eq]; omega, ?_, ?_, ⟨?_, ?_⟩, ?_⟩
    · have e2 : (x.cps.size : Int) = Builtin.Range.rangeSize 0 x.length 1 := by rw [rangeSize_one]; show (x.cps.size : Int) = if (0 : Int) < ((x.cps.size : Nat) : Int) then _ else _; split <;> omega
      have e3 : ((x.cps.size : Int) - ((0 : Nat) : Int)) = Builtin.Range.rangeSize 0 x.length 1 := by rw [← e2]; simp
      show IsRangeIter _ _ (0 + ((0 : Nat) : Int) * 1) ((x.cps.size : Int) - ((0 : Nat) : Int)) 1
      rw [e3]
      exact Heap.get?_push_size _ rfl
    · intro b hb
      rw [List.mem_singleton.mp hb]
      dsimp only
      rw [Heap.size_push (h4.push _)]; exact Nat.lt_succ_self _
    · intro C i v s5 m5 E' hC hP hn5 hm5 hk5 htk
      obtain ⟨t, rfl⟩ := hP
      have k5 : ∀ b o, h4.get? b = some o → s5.heap.get? b = some o := fun b o e => hk5 b o (fun h => by
        have h1 := List.mem_singleton.mp h
        have h2 : @LT.lt Nat _ b h4.objs.size := hsz4 b o e
        rw [h1] at h2
        dsimp only at h2
        rw [Heap.size_push] at h2
        exact Nat.lt_irrefl _ (Nat.lt_trans (Nat.lt_succ_self _) h2)) (kp b o e)
      refine wpAny_tests_one (wpAny_isTrue_Compare1 (nmL hn5 hm5 (nmC rfl (cellAt hc4 fun o e => k5 _ o e) (notin_list_ints (hl4.isList.at fun o e => k5 _ o e) hg3 (wpAny_truthy_bool ⟨rfl, Keeps.refl _⟩)) rfl rfl (by decide)) rfl rfl (by decide)))
    · intro C i v s5 m5 E' hC hP hpv hn5 hm5 hk5 htk
      exact nmL hn5 hm5 ⟨rfl, Keeps.refl _⟩ rfl rfl (by decide)
    · intro D h' tk ys vs hD hl hpl hlv hPv hF hk
      dsimp only
      have ey := paired_eq hF
      refine hQ h' tk D ys.toList (fun b o e => ?_) (by rw [Array.toArray_toList]; exact hl) ?_
      · have e4 := hkb4 b o e
        refine hk b o (fun h => ?_) (kp b o e4)
        have h1 := List.mem_singleton.mp h
        have h2 : @LT.lt Nat _ b h4.objs.size := hsz4 b o e4
        rw [h1] at h2
        dsimp only at h2
        rw [Heap.size_push] at h2
        exact Nat.lt_irrefl _ (Nat.lt_trans (Nat.lt_succ_self _) h2)
      · rw [ey]
        have := ints_filter p q hpq vs 0 fun j v hv => by
          obtain ⟨t, rfl⟩ := hPv j v hv
          exact ⟨t, by congr 1; omega⟩
        rw [hlv] at this
        rw [keptOf, List.range_eq_range', Array.length_toList]
        exact this
end
end Lw

/-! ## B13 -/
namespace Lw
section
variable {prog : Program} {w : World} {A : Around} {E : Value → Shared → Prop} {s : Shared} {mg mb : Str → Option Value} {env : Env}
open SeqAt

theorem eqRefl_int (a : Int) (t u : Tok) : EqAt A s (.int a t) (.int a u) true := by have := EqAt.int_int (A := A) (s := s) a t a u; rwa [beq_self_eq_true] at this
theorem eqRefl_str (a : Str) (t u : Tok) : EqAt A s (.str a t) (.str a u) true := by
  have := EqAt.str_str (A := A) (s := s) a t a u
  rwa [show (a == a) = true from beq_self_eq_true a] at this

theorem tupEq {n n' : Nat} {v v' : Value} {p : Tri} (x : TupAt n s.heap v p) (y : TupAt n' s.heap v' p) (hu : A.units < cLine) : EqAt A s v v' true := by
  obtain ⟨a, t, t1, t2, t3, t4, rfl, _, ha⟩ := x
  obtain ⟨b, u, u1, u2, u3, u4, rfl, _, hb⟩ := y
  by_cases hab : a = b
  · subst hab; exact EqAt.same _
  · refine EqAt.of_refs hab ?_
    have := RcAt.tuples (A := A) (s := s) (l := a) (b := b) (e := fun _ => true) ⟨_, ha, rfl, _, rfl⟩ ⟨_, hb, rfl, _, rfl⟩ hu (fun j h1 h2 => ?_)
    · exact this
    · have h1' : j < 5 := h1
      match j, h1' with
      | 0, _ => exact eqRefl_str _ _ _
      | 1, _ => exact eqRefl_str _ _ _
      | 2, _ => exact eqRefl_int _ _ _
      | 3, _ => exact eqRefl_int _ _ _
      | 4, _ => exact eqRefl_int _ _ _

theorem tupsEqAt {n n' : Nat} : ∀ {vs vs' : List Value} {ps : List Tri}, All2 (TupAt n s.heap) vs ps → All2 (TupAt n' s.heap) vs' ps → A.units < cLine → ∀ j (h1 : j < vs.length) (h2 : j < vs'.length), EqAt A s vs[j] vs'[j] true
  | _, _, _, .nil, .nil, _, j, h1, _ => absurd h1 (Nat.not_lt_zero _)
  | _, _, _, .cons x xs, .cons y ys, hu, 0, _, _ => tupEq x y hu
  | _, _, _, .cons x xs, .cons y ys, hu, j + 1, h1, h2 => tupsEqAt xs ys hu j (Nat.lt_of_succ_lt_succ h1) (Nat.lt_of_succ_lt_succ h2)

theorem all_true (n : Nat) : ((List.range n).all fun _ => true) = true := by simp

theorem eqTups {n n' : Nat} {a b : Addr} {ps : List Tri} {Q : Value → Shared → Prop} (x : Tups n s.heap a ps) (y : Tups n' s.heap b ps) (R : Rm A 2) (h : Q (.bool true) s) : wpAny (model prog w) A (compareOp .Eq (.ref a) (.ref b)) Q E s := by
  obtain ⟨vs, hl, hv⟩ := x
  obtain ⟨vs', hl', hv'⟩ := y
  have hu : A.in1.units < cLine := by have := R.u; show A.units + 1 < 9900; omega
  have hu0 : A.units < cLine := by have := R.u; show A.units < 9900; omega
  refine RcAt.lists hl.2 hl'.2 (by simp [hv.length, hv'.length]) hu0 (e := fun _ => true) (fun j h1 h2 => ?_) prog w E Q (by rw [all_true]; exact h)
  have := tupsEqAt hv hv' hu j (by simpa using h1) (by simpa using h2)
  simpa using this
theorem neTups {n n' : Nat} {a b : Addr} {ps : List Tri} {Q : Value → Shared → Prop} (x : Tups n s.heap a ps) (y : Tups n' s.heap b ps) (R : Rm A 2) (h : Q (.bool false) s) : wpAny (model prog w) A (compareOp .NotEq (.ref a) (.ref b)) Q E s := by
  obtain ⟨vs, hl, hv⟩ := x
  obtain ⟨vs', hl', hv'⟩ := y
  have hu : A.in1.units < cLine := by have := R.u; show A.units + 1 < 9900; omega
  have hu0 : A.units < cLine := by have := R.u; show A.units < 9900; omega
  refine RcNeAt.lists hl.2 hl'.2 (by simp [hv.length, hv'.length]) hu0 (e := fun _ => true) (fun j h1 h2 => ?_) prog w E Q (by rw [all_true]; exact h)
  have := tupsEqAt hv hv' hu j (by simpa using h1) (by simpa using h2)
  simpa using this
end
end Lw

/-! ## B14 -/
namespace Lw

structure ZAp (z TI TO i1 i2 : Addr) (f1 f2 : List Addr) : Prop where
  TIz : TI ≠ z
  TOz : TO ≠ z
  i1z : i1 ≠ z
  i2z : i2 ≠ z
  TITO : TI ≠ TO
  TIi1 : TI ≠ i1
  TIi2 : TI ≠ i2
  TOi1 : TO ≠ i1
  TOi2 : TO ≠ i2
  i12 : i1 ≠ i2
  z1 : z ∉ f1
  z2 : z ∉ f2
  t1 : TO ∉ f1
  t2 : TO ∉ f2
  a1 : i1 ∉ f2
  a2 : i2 ∉ f1

section
variable {prog : Program} {w : World} {A : Around} {E : Value → Shared → Prop} {s : Shared} {mg mb : Str → Option Value} {env : Env}
variable {z TI TO i1 i2 : Addr} {f1 f2 : List Addr} {n : Nat} {P1 P2 : Nat → Value → Prop} {S1 S2 : Nat → Heap → Prop}

theorem zipNextItem {i : Nat} {a b : Value} {Q : Value → Shared → Prop} (D1 : Draws prog w A i1 f1 n P1 S1) (D2 : Draws prog w A i2 f2 n P2 S2) (D : ZAp z TI TO i1 i2 f1 f2)
    (hz : IsZip s.heap z TI TO .none) (hTI : IsPair s.heap TI (.ref i1) (.ref i2)) (hTO : IsPair s.heap TO a b) (hi : i < n) (h1 : S1 i s.heap) (h2 : S2 i s.heap)
    (hQ : ∀ h' tk x y (T : Nat), P1 i x → P2 i y → IsZip h' z TI TO (rawInt (T : Int)) → IsPair h' TO x y → S1 (i + 1) h' → S2 (i + 1) h' → IsPair h' T x y → T = s.heap.objs.size →
      (∀ c o, c ≠ z → c ≠ TO → c ≠ i1 → c ≠ i2 → s.heap.get? c = some o → h'.get? c = some o) → Q (.ref T) { s with heap := h', toks := tk }) :
    wpAny (model prog w) A (Builtin.«zip.__next__» ⟨[.ref z], []⟩) (fun fin s' => ∃ v, fin = .done (.ret v) ∧ Q v s') E s := by
  show wpAny _ _ (field (.ref z) 2 >>= _) _ _ _
  refine wpAny_bind (wpAny_field hz rfl (x := .bool false) rfl ?_)
  show wpAny _ _ (field (.ref z) 3 >>= _) _ _ _
  refine wpAny_bind (wpAny_field hz rfl (x := .ref TI) rfl ?_)
  refine wpAny_bind (wpAny_seqItems hTI rfl ?_)
  show wpAny _ _ (Builtin.SmallTypes.ownedTupleIsFree (.ref z) >>= _) _ _ _
  refine wpAny_bind ?_
  unfold Builtin.SmallTypes.ownedTupleIsFree
  refine wpAny_bind (wpAny_field hz rfl (x := .none) rfl (wpAny_pure ?_))
  simp only [if_true]
  refine wpAny_bind (wpAny_rule ?_)
  refine wpAny_bind (wpAny_field hz rfl (x := .ref TO) rfl ?_)
  refine wpAny_bind (wpAny_setField_rec hz (by simp) fun h₁ hz₁ hs₁ => ?_)
  replace hz₁ : IsZip h₁ z TI TO .ellipsis := hz₁
  refine wpAny_bind ?_
  simp only [List.zipIdx_cons, List.zipIdx_nil, List.forIn_cons, List.forIn_nil]
  refine wpAny_bind (wpAny_bind (wpAny_onRaise ?_))
  show wpAny _ _ (Builtin.SmallTypes.nextOf (.ref i1) >>= _) _ _ _
  refine wpAny_bind (D1.item i _ _ _ hi (D1.frame _ _ _ h1 fun b hb o e => hs₁.extBut b o (fun h => D.z1 (h ▸ hb)) e) fun x h₂ tk₂ hx h1₂ hs₂ => wpAny_pure ?_)
  replace hs₂ : Heap.SameBut i1 h₁ h₂ := hs₂
  have hTO₂ : IsPair h₂ TO a b := hs₂.extBut _ _ D.TOi1 (hs₁.extBut _ _ D.TOz hTO)
  refine wpAny_bind (wpAny_seqItems hTO₂ rfl ?_)
  refine wpAny_bind (wpAny_updateSeq_pair hTO₂ fun h₃ hTO₃ hs₃ => ?_)
  replace hTO₃ : IsPair h₃ TO x b := hTO₃
  replace hs₃ : Heap.SameBut TO h₂ h₃ := hs₃
  refine wpAny_bind (wpAny_letGo (wpAny_pure ?_))
  refine wpAny_bind (wpAny_bind (wpAny_onRaise ?_))
  show wpAny _ _ (Builtin.SmallTypes.nextOf (.ref i2) >>= _) _ _ _
  refine wpAny_bind (D2.item i _ _ _ hi (D2.frame _ _ _ h2 fun b hb o e => hs₃.extBut b o (fun h => D.t2 (h ▸ hb)) (hs₂.extBut b o (fun h => D.a1 (h ▸ hb)) (hs₁.extBut b o (fun h => D.z2 (h ▸ hb)) e))) fun y h₄ tk₄ hy h2₄ hs₄ => wpAny_pure ?_)
  replace hs₄ : Heap.SameBut i2 h₃ h₄ := hs₄
  have hTO₄ : IsPair h₄ TO x b := hs₄.extBut _ _ D.TOi2 hTO₃
  refine wpAny_bind (wpAny_seqItems hTO₄ rfl ?_)
  refine wpAny_bind (wpAny_updateSeq_pair hTO₄ fun h₅ hTO₅ hs₅ => ?_)
  replace hTO₅ : IsPair h₅ TO x y := hTO₅
  replace hs₅ : Heap.SameBut TO h₄ h₅ := hs₅
  refine wpAny_bind (wpAny_letGo (wpAny_pure (wpAny_pure ?_)))
  refine wpAny_bind (wpAny_seqItems hTO₅ rfl ?_)
  refine wpAny_bind (wpAny_newTuple ?_)
  have hsz : h₅.objs.size = s.heap.objs.size := by rw [hs₅.1, hs₄.1, hs₃.1, hs₂.1, hs₁.1]
  have hz₅ : IsZip h₅ z TI TO .ellipsis := hs₅.extBut _ _ D.TOz.symm (hs₄.extBut _ _ D.i2z.symm (hs₃.extBut _ _ D.TOz.symm (hs₂.extBut _ _ D.i1z.symm hz₁)))
  have hk₅ : ∀ c o, c ≠ z → c ≠ TO → c ≠ i1 → c ≠ i2 → s.heap.get? c = some o → h₅.get? c = some o := fun c o c1 c2 c3 c4 e =>
    hs₅.extBut _ _ c2 (hs₄.extBut _ _ c4 (hs₃.extBut _ _ c2 (hs₂.extBut _ _ c3 (hs₁.extBut _ _ c1 e))))
  have h1₅ : S1 (i + 1) h₅ := D1.frame _ _ _ h1₂ fun b hb o e => hs₅.extBut b o (fun h => D.t1 (h ▸ hb)) (hs₄.extBut b o (fun h => D.a2 (h ▸ hb)) (hs₃.extBut b o (fun h => D.t1 (h ▸ hb)) e))
  have h2₅ : S2 (i + 1) h₅ := D2.frame _ _ _ h2₄ fun b hb o e => hs₅.extBut b o (fun h => D.t2 (h ▸ hb)) e
  have hzlt : z < h₅.objs.size := Heap.lt_size hz₅
  show wpAny _ _ (Builtin.SmallTypes.ownedTupleHandOut (.ref z) (.ref h₅.objs.size) >>= _) _ _ _
  refine wpAny_bind ?_
  unfold Builtin.SmallTypes.ownedTupleHandOut
  have hz₆ : IsZip (h₅.push { cls := .type "tuple", data := .seq #[x, y] }) z TI TO .ellipsis := Heap.get?_push_of_some _ hz₅
  refine wpAny_bind (wpAny_setField_rec hz₆ (by simp) fun h₇ hz₇ hs₇ => ?_)
  replace hz₇ : IsZip h₇ z TI TO (rawInt h₅.objs.size) := hz₇
  refine wpAny_setField_rec hz₇ (by simp) fun h₈ hz₈ hs₈ => ?_
  replace hz₈ : IsZip h₈ z TI TO (rawInt h₅.objs.size) := hz₈
  have up : ∀ c o, c ≠ z → h₅.get? c = some o → h₈.get? c = some o := fun c o c1 e => hs₈.extBut _ _ c1 (hs₇.extBut _ _ c1 (Heap.get?_push_of_some _ e))
  have hT₈ : IsPair h₈ h₅.objs.size x y := hs₈.extBut _ _ (Nat.ne_of_gt hzlt) (hs₇.extBut _ _ (Nat.ne_of_gt hzlt) (Heap.get?_push_size _ rfl))
  refine wpAny_pure ⟨_, rfl, ?_⟩
  exact hQ h₈ _ x y h₅.objs.size hx hy hz₈ (up _ _ D.TOz hTO₅) (D1.frame _ _ _ h1₅ fun b hb o e => up b o (fun h => D.z1 (h ▸ hb)) e) (D2.frame _ _ _ h2₅ fun b hb o e => up b o (fun h => D.z2 (h ▸ hb)) e) hT₈ hsz
    fun c o c1 c2 c3 c4 e => up c o c1 (hk₅ c o c1 c2 c3 c4 e)

theorem zipNextEnd {a b : Value} {Q : Fin → Shared → Prop} (D1 : Draws prog w A i1 f1 n P1 S1) (D : ZAp z TI TO i1 i2 f1 f2)
    (hz : IsZip s.heap z TI TO .none) (hTI : IsPair s.heap TI (.ref i1) (.ref i2)) (hTO : IsPair s.heap TO a b) (h1 : S1 n s.heap)
    (hE : ∀ h' e, (∀ c o, c ≠ z → c ≠ i1 → s.heap.get? c = some o → h'.get? c = some o) → (∃ o, h'.get? e = some o ∧ o.cls = .type "StopIteration") → E (.ref e) { s with heap := h' }) :
    wpAny (model prog w) A (Builtin.«zip.__next__» ⟨[.ref z], []⟩) Q E s := by
  show wpAny _ _ (field (.ref z) 2 >>= _) _ _ _
  refine wpAny_bind (wpAny_field hz rfl (x := .bool false) rfl ?_)
  show wpAny _ _ (field (.ref z) 3 >>= _) _ _ _
  refine wpAny_bind (wpAny_field hz rfl (x := .ref TI) rfl ?_)
  refine wpAny_bind (wpAny_seqItems hTI rfl ?_)
  show wpAny _ _ (Builtin.SmallTypes.ownedTupleIsFree (.ref z) >>= _) _ _ _
  refine wpAny_bind ?_
  unfold Builtin.SmallTypes.ownedTupleIsFree
  refine wpAny_bind (wpAny_field hz rfl (x := .none) rfl (wpAny_pure ?_))
  simp only [if_true]
  refine wpAny_bind (wpAny_rule ?_)
  refine wpAny_bind (wpAny_field hz rfl (x := .ref TO) rfl ?_)
  refine wpAny_bind (wpAny_setField_rec hz (by simp) fun h₁ hz₁ hs₁ => ?_)
  replace hz₁ : IsZip h₁ z TI TO .ellipsis := hz₁
  refine wpAny_bind ?_
  simp only [List.zipIdx_cons, List.zipIdx_nil, List.forIn_cons, List.forIn_nil]
  refine wpAny_bind (wpAny_bind (wpAny_onRaise ?_))
  show wpAny _ _ (Builtin.SmallTypes.nextOf (.ref i1) >>= _) _ _ _
  refine wpAny_bind (D1.done _ _ _ (D1.frame _ _ _ h1 fun b hb o e => hs₁.extBut b o (fun h => D.z1 (h ▸ hb)) e) fun h₂ e hs₂ he => ?_)
  replace hs₂ : Heap.ExtBut i1 h₁ h₂ := hs₂
  obtain ⟨oe, hoe, hce⟩ := he
  have hz₂ : IsZip h₂ z TI TO .ellipsis := hs₂ _ _ D.i1z.symm hz₁
  have hez : e ≠ z := fun x => by subst x; rw [hz₂] at hoe; cases hoe; simp at hce
  refine wpAny_setField_rec hz₂ (by simp) fun h₃ _ hs₃ => hE h₃ e (fun c o c1 c3 x => hs₃.extBut _ _ c1 (hs₂ _ _ c3 (hs₁.extBut _ _ c1 x))) ⟨oe, hs₃.extBut _ _ hez hoe, hce⟩

theorem zipD (D1 : Draws prog w A.in1 i1 f1 n P1 S1) (D2 : Draws prog w A.in1 i2 f2 n P2 S2) (D : ZAp z TI TO i1 i2 f1 f2) (m1 : i1 ∈ f1) (m2 : i2 ∈ f2) :
    WalksT prog w A z (z :: TI :: TO :: (f1 ++ f2)) [z, TO, i1, i2] n (fun i vals => ∃ x y, P1 i x ∧ P2 i y ∧ vals = #[x, y])
      (fun i h => IsZip h z TI TO .none ∧ IsPair h TI (.ref i1) (.ref i2) ∧ (∃ a b, IsPair h TO a b) ∧ S1 i h ∧ S2 i h)
      (fun i T h => IsZip h z TI TO (rawInt T) ∧ IsPair h TI (.ref i1) (.ref i2) ∧ (∃ a b, IsPair h TO a b) ∧ S1 (i + 1) h ∧ S2 (i + 1) h ∧ T ≠ z ∧ T ≠ TO ∧ T ≠ i1 ∧ T ≠ i2) where
  sub := fun c hc => by
    simp at hc
    rcases hc with rfl | rfl | rfl | rfl
    · simp
    · simp
    · simp [m1]
    · simp [m2]
  frame := fun i h h' hst hk => by
    obtain ⟨hz, hTI, ⟨a, b, hTO⟩, h1, h2⟩ := hst
    exact ⟨hk z (by simp) _ hz, hk TI (by simp) _ hTI, ⟨a, b, hk TO (by simp) _ hTO⟩, D1.frame _ _ _ h1 fun b hb o e => hk b (by simp [hb]) o e, D2.frame _ _ _ h2 fun b hb o e => hk b (by simp [hb]) o e⟩
  item := fun i s Q E hi hst hQ => by
    obtain ⟨hz, hTI, ⟨a, b, hTO⟩, h1, h2⟩ := hst
    have hT : s.TypeIs (.ref z) "zip" := ⟨_, hz, rfl⟩
    have lt : ∀ {c o}, s.heap.get? c = some o → s.heap.objs.size ≠ c := fun e => Nat.ne_of_gt (Heap.lt_size e)
    unfold pyNext
    refine wpAny_bind (wpAny_attempt (wpAny_callSpecial?_slot (name := Str.ofString "__next__") hT F.slot_zip_next
      (wpAny_call_entry F.slot_zip_next hT F.entry_zip_next (zipNextItem D1 D2 D hz hTI hTO hi h1 h2 fun h' tk x y T hx hy a1 a2 a3 a4 a5 hTe hk => wpAny_pure ?_) (F.args_zip_next_1 _))))
    subst hTe
    exact hQ s.heap.objs.size #[x, y] h' tk ⟨_, _, hx, hy, rfl⟩ (Nat.le_refl _) ⟨_, a5, rfl, _, rfl⟩
      ⟨a1, hk _ _ D.TIz D.TITO D.TIi1 D.TIi2 hTI, ⟨_, _, a2⟩, a3, a4, lt hz, lt hTO, (let ⟨_, e⟩ := D1.live _ _ h1; lt e), (let ⟨_, e⟩ := D2.live _ _ h2; lt e)⟩
      fun c o hc e => hk c o (fun x => hc (by simp [x])) (fun x => hc (by simp [x])) (fun x => hc (by simp [x])) (fun x => hc (by simp [x])) e
  go := fun elts k pos i T s Q E hm hQ => by
    obtain ⟨hz, hTI, ⟨a, b, hTO⟩, h1, h2, _⟩ := hm
    refine wpAny_letOwnedTupleGo_zip hz fun h' hz' hs' => hQ h' ⟨hz', hs'.extBut _ _ D.TIz hTI, ⟨a, b, hs'.extBut _ _ D.TOz hTO⟩, D1.frame _ _ _ h1 fun b hb o e => hs'.extBut b o (fun h => D.z1 (h ▸ hb)) e,
      D2.frame _ _ _ h2 fun b hb o e => hs'.extBut b o (fun h => D.z2 (h ▸ hb)) e⟩ fun c o hc e => hs'.extBut _ _ (fun x => hc (by simp [x])) e
  apart := fun i T h hm hT => by
    obtain ⟨_, _, _, _, _, t1, t2, t3, t4⟩ := hm
    simp at hT
    rcases hT with rfl | rfl | rfl | rfl
    · exact t1 rfl
    · exact t2 rfl
    · exact t3 rfl
    · exact t4 rfl
  done := fun s Q E hst hQ => by
    obtain ⟨hz, hTI, ⟨a, b, hTO⟩, h1, h2⟩ := hst
    have hT : s.TypeIs (.ref z) "zip" := ⟨_, hz, rfl⟩
    unfold pyNext
    refine wpAny_bind (wpAny_attempt (wpAny_callSpecial?_slot (name := Str.ofString "__next__") hT F.slot_zip_next
      (wpAny_call_entry F.slot_zip_next hT F.entry_zip_next (zipNextEnd D1 D hz hTI hTO h1 fun h' e hk he => ?_) (F.args_zip_next_1 _))))
    obtain ⟨o, ho, hc⟩ := he
    refine wpAny_bind (wpAny_isInstance (T := "StopIteration") (b := true) ⟨o, ho, hc⟩ isSubtype_stop ?_)
    exact wpAny_pure (hQ h' s.toks fun c o hc e => hk c o (fun x => hc (by simp [x])) (fun x => hc (by simp [x])) e)
  self := fun i s Q E hst hQ => wpAny_pyIter_zip hst.1 hQ
end
end Lw

/-! ## B15a -/
namespace Lw

abbrev zs1 (h : Heap) (x : Str) (t : Tok) : Heap := h.push { cls := .type (strIterType x), data := .fields #[.str x t, .int 0 0] }
abbrev zs2 (h : Heap) (x : Str) (t : Tok) (l : Addr) : Heap := (zs1 h x t).push { cls := .type "list_iterator", data := .fields #[.ref l, .int 0 0] }
abbrev zs3 (h : Heap) (x : Str) (t : Tok) (l : Addr) : Heap := (zs2 h x t l).push { cls := .type "tuple", data := .seq #[.ref h.objs.size, .ref (zs1 h x t).objs.size] }
abbrev zs4 (h : Heap) (x : Str) (t : Tok) (l : Addr) : Heap := (zs3 h x t l).push { cls := .type "tuple", data := .seq #[.none, .none] }
abbrev zs5 (h : Heap) (x : Str) (t : Tok) (l : Addr) : Heap := (zs4 h x t l).push { cls := .type "zip", data := .fields #[.none, .bool false, .bool false, .ref (zs2 h x t l).objs.size, .ref (zs3 h x t l).objs.size] }

set_option maxHeartbeats 2000000 in
theorem meetsZipS (x : Str) (t : Tok) (l : Addr) (ys : Array Value) :
    Meets (Builtin.«zip.__new__» ⟨[.type "zip", .str x t, .ref l], []⟩) (fun _ R s => s.heap.IsList l ys ∧
      R (.ok (.ret (.ref (zs4 s.heap x t l).objs.size))) { s with heap := zs5 s.heap x t l }) :=
  .of_wp fun prog w A R s h => by
    obtain ⟨hp, g, d, tk, os⟩ := s; obtain ⟨hl2, h⟩ := h
    have hsub := sub_zip
    have hL2 : Heap.IsList (Shared.heap ⟨hp.push { cls := .type (strIterType x), data := .fields #[.str x t, .int 0 0] }, g, d, tk, os⟩) l ys := Heap.IsList.push hl2 _
    wp_walk using wpAny_pyIter_strU, wpAny_pyIter_list hL2
    exact ⟨_, rfl, h⟩

end Lw

/-! ## B15 -/
namespace Lw

section
variable {prog : Program} {w : World} {A : Around} {E : Value → Shared → Prop} {s : Shared} {mg mb : Str → Option Value} {env : Env}

theorem zipCall {x : Str} {t : Tok} {l : Nat} {ys : Array Value} {Q : Value → Shared → Prop} (hl : s.heap.IsList l ys) (hlen : x.cps.size = ys.size)
    (h : ∀ h', h'.objs.size = s.heap.objs.size + 5 → (∀ c o, s.heap.get? c = some o → h'.get? c = some o) →
      IsZip h' (s.heap.objs.size + 4) (s.heap.objs.size + 2) (s.heap.objs.size + 3) .none →
      (∀ A' : Around, A'.handled = none → ∃ Pt St Mid, WalksU prog w A' (s.heap.objs.size + 4) [s.heap.objs.size + 4, s.heap.objs.size + 2, s.heap.objs.size + 3, s.heap.objs.size, s.heap.objs.size + 1, l] [s.heap.objs.size + 4, s.heap.objs.size + 3, s.heap.objs.size, s.heap.objs.size + 1] x.cps.size Pt St Mid ∧ St 0 h' ∧
        ∀ i vals, Pt i vals → ∃ va vb, vals = #[va, vb] ∧ ∃ (c : Nat) (u : Tok), x.cps[i]? = some c ∧ va = .str ⟨#[c]⟩ u ∧ ys[i]? = some vb) → Q (.ref (s.heap.objs.size + 4)) { s with heap := h' }) :
    wpAny (model prog w) A (call (.type "zip") [.str x t, .ref l]) Q E s := by
  refine callType_new F.called_zip (by decide) (F.typeCall_zip_2 _ _) (F.newCall_zip_2 _ _) (fun obj => F.args_object_init_3 obj _ _) F.entry_zip_new (meetsZipS x t l ys) ⟨hl, ?_⟩
  have hll : @LT.lt Nat _ l s.heap.objs.size := let ⟨_, e, _⟩ := hl; Heap.lt_size e
  have z1 : (zs1 s.heap x t).objs.size = s.heap.objs.size + 1 := Heap.size_push ..
  have z2 : (zs2 s.heap x t l).objs.size = s.heap.objs.size + 2 := by rw [Heap.size_push, z1]
  have z3 : (zs3 s.heap x t l).objs.size = s.heap.objs.size + 3 := by rw [Heap.size_push, z2]
  have z4 : (zs4 s.heap x t l).objs.size = s.heap.objs.size + 4 := by rw [Heap.size_push, z3]
  have z5 : (zs5 s.heap x t l).objs.size = s.heap.objs.size + 5 := by rw [Heap.size_push, z4]
  have g5 : (zs5 s.heap x t l).get? (zs4 s.heap x t l).objs.size = some _ := Heap.get?_push_size _ rfl
  have g4 : (zs5 s.heap x t l).get? (zs3 s.heap x t l).objs.size = some _ := Heap.get?_push_of_some _ (Heap.get?_push_size _ rfl)
  have g3 : (zs5 s.heap x t l).get? (zs2 s.heap x t l).objs.size = some _ := Heap.get?_push_of_some _ (Heap.get?_push_of_some _ (Heap.get?_push_size _ rfl))
  have g2 : (zs5 s.heap x t l).get? (zs1 s.heap x t).objs.size = some _ := Heap.get?_push_of_some _ (Heap.get?_push_of_some _ (Heap.get?_push_of_some _ (Heap.get?_push_size _ rfl)))
  have g1 : (zs5 s.heap x t l).get? s.heap.objs.size = some _ := Heap.get?_push_of_some _ (Heap.get?_push_of_some _ (Heap.get?_push_of_some _ (Heap.get?_push_of_some _ (Heap.get?_push_size _ rfl))))
  have kp : ∀ c o, s.heap.get? c = some o → (zs5 s.heap x t l).get? c = some o := fun c o e =>
    Heap.get?_push_of_some _ (Heap.get?_push_of_some _ (Heap.get?_push_of_some _ (Heap.get?_push_of_some _ (Heap.get?_push_of_some _ e))))
  show _ ∧ _
  rw [z2, z3, z4] at g5
  rw [z1, z2] at g3
  rw [z3] at g4
  rw [z1] at g2
  rw [z4]
  refine ⟨⟨_, g5, rfl⟩, h _ z5 kp g5 fun A' hA => ?_⟩
  have hl' := hl.at (h' := zs5 s.heap x t l) fun o e => kp _ o e
  have D : ∀ L : Nat, l < L → ZAp (L + 4) (L + 2) (L + 3) L (L + 1) [L] [L + 1, l] := fun L hL =>
    ⟨by simp, by simp, by simp, by simp, by simp, by simp, by simp, by simp, by simp, by simp, by simp, by simp; exact Nat.ne_of_gt (Nat.lt_of_lt_of_le hL (Nat.le_add_right L 4)), by simp, by simp; exact Nat.ne_of_gt (Nat.lt_of_lt_of_le hL (Nat.le_add_right L 3)), by simp; exact Nat.ne_of_gt hL, by simp⟩
  have D2 := Draws.list (prog := prog) (w := w) (A := A'.in1) hA (s.heap.objs.size + 1) l (Nat.ne_of_lt (Nat.lt_succ_of_lt hll)) ys
  rw [← hlen] at D2
  have two : ∀ (i : Nat) (vals : Array Value), (∃ x' y', (∃ (c : Nat) (u : Tok), x.cps[i]? = some c ∧ x' = Value.str ⟨#[c]⟩ u) ∧ ys[i]? = some y' ∧ vals = #[x', y']) →
      ∃ va vb, vals = #[va, vb] ∧ ∃ (c : Nat) (u : Tok), x.cps[i]? = some c ∧ va = .str ⟨#[c]⟩ u ∧ ys[i]? = some vb := by
    rintro i vals ⟨x', y', ⟨c, u, hc, rfl⟩, hy, rfl⟩
    exact ⟨_, _, rfl, c, u, hc, rfl, hy⟩
  have st2 : (zs5 s.heap x t l).IsListIter (s.heap.objs.size + 1) l 0 ∧ (zs5 s.heap x t l).IsList l ys := ⟨⟨_, g2, rfl, rfl⟩, hl'⟩
  have st1 : (zs5 s.heap x t l).IsStrIter s.heap.objs.size (strIterType x) x t 0 := ⟨_, g1, rfl, rfl⟩
  unfold strIterType at st1
  split at st1
  · exact ⟨_, _, _, (zipD (Draws.strAscii (prog := prog) (w := w) (A := A'.in1) hA s.heap.objs.size x t) D2 (D _ hll) (by simp) (by simp)).toU, ⟨g5, g3, ⟨_, _, g4⟩, st1, st2⟩, two⟩
  · exact ⟨_, _, _, (zipD (Draws.strWide (prog := prog) (w := w) (A := A'.in1) hA s.heap.objs.size x t) D2 (D _ hll) (by simp) (by simp)).toU, ⟨g5, g3, ⟨_, _, g4⟩, st1, st2⟩, two⟩
end
end Lw

/-! ## P3 -/
namespace Lw

/-- a drawn piece: a run of backslashes and a sign -/
structure Piece (r c : Nat) : Prop where
  nb : c ≠ 92
  odd : c = 10 ∨ c = 13 → r = 0 ∨ r % 2 = 1

def pieceT (p : Nat × Nat) : List Nat := List.replicate p.1 92 ++ [p.2]
def cont (k : Nat) : List Nat := (List.replicate k [92, 10]).flatten
def pieceM (p : Nat × Nat) : List Nat := cont (p.1 % 3) ++ [p.2]
def textOf (ps : List (Nat × Nat)) : List Nat := ps.flatMap pieceT
def mixedOf (ps : List (Nat × Nat)) : List Nat := ps.flatMap pieceM
def bareOf (ps : List (Nat × Nat)) : List Nat := ps.map (·.2)

def charsFrom (col : Nat → Int) (o : Nat) (t : List Nat) : List Tri := (t.zipIdx o).map fun p => (p.1, p.2, col p.2)
theorem charsFrom_zero (col : Nat → Int) (t : List Nat) : charsFrom col 0 t = charsOf col t := rfl
theorem charsFrom_append (col : Nat → Int) : ∀ (a b : List Nat) (o : Nat), charsFrom col o (a ++ b) = charsFrom col o a ++ charsFrom col (o + a.length) b
  | a, b, o => by simp [charsFrom, List.zipIdx_append]
theorem charsFrom_cons (col : Nat → Int) (c : Nat) (t : List Nat) (o : Nat) : charsFrom col o (c :: t) = (c, o, col o) :: charsFrom col (o + 1) t := rfl
theorem charsFrom_length (col : Nat → Int) (t : List Nat) (o : Nat) : (charsFrom col o t).length = t.length := by simp [charsFrom]

theorem filt_cont (col : Nat → Int) (rest : List Tri) : ∀ (k o : Nat), filtT none (charsFrom col o (cont k) ++ rest) = filtT none rest
  | 0, o => rfl
  | k + 1, o => by
    show filtT none (charsFrom col o ([92, 10] ++ cont k) ++ rest) = _
    have ih := filt_cont col rest k (o + 1 + 1)
    rw [← ih]
    show filtT none ((92, o, col o) :: (10, o + 1, col (o + 1)) :: (charsFrom col (o + 1 + 1) (cont k) ++ rest)) = _
    simp [filtT, filtG]

theorem cont_length (k : Nat) : (cont k).length = 2 * k := by
  induction k with
  | zero => rfl
  | succ k ih => show ([92, 10] ++ cont k).length = _; simp [ih]; omega

def keptMix : Nat → List (Nat × Nat) → List Nat
  | _, [] => []
  | o, p :: ps => (o + 2 * (p.1 % 3)) :: keptMix (o + 2 * (p.1 % 3) + 1) ps
theorem pieceM_length (p : Nat × Nat) : (pieceM p).length = 2 * (p.1 % 3) + 1 := by simp [pieceM, cont_length]
theorem keptMix_snoc (p : Nat × Nat) : ∀ (ps : List (Nat × Nat)) (o : Nat), keptMix o (ps ++ [p]) = keptMix o ps ++ [o + (mixedOf ps).length + 2 * (p.1 % 3)]
  | [], o => by simp [keptMix, mixedOf]
  | q :: ps, o => by
    show _ :: keptMix _ (ps ++ [p]) = _
    rw [keptMix_snoc p ps]
    simp only [keptMix, List.cons_append, mixedOf, List.flatMap_cons, List.length_append, pieceM_length]
    congr 3
    omega
theorem keptMix_length : ∀ (ps : List (Nat × Nat)) (o : Nat), (keptMix o ps).length = ps.length
  | [], _ => rfl
  | _ :: ps, _ => by simp [keptMix, keptMix_length ps]

def dueM (col : Nat → Int) (ps : List (Nat × Nat)) : List Tri := List.zipWith (fun c i => (c, i, col i)) (bareOf ps) (keptMix 0 ps)

theorem filt_mixed (col : Nat → Int) (rest : List Tri) : ∀ (ps : List (Nat × Nat)) (o : Nat), (∀ p ∈ ps, Piece p.1 p.2) → filtT none (charsFrom col o (mixedOf ps) ++ rest) = List.zipWith (fun c i => (c, i, col i)) (bareOf ps) (keptMix o ps) ++ filtT none rest
  | [], o, _ => rfl
  | p :: ps, o, h => by
    have hp := h p (.head _)
    have ih := filt_mixed col rest ps (o + 2 * (p.1 % 3) + 1) fun q hq => h q (.tail _ hq)
    show filtT none (charsFrom col o ((cont (p.1 % 3) ++ [p.2]) ++ mixedOf ps) ++ rest) = _
    rw [List.append_assoc, charsFrom_append, List.append_assoc, filt_cont, cont_length]
    show filtT none ((p.2, o + 2 * (p.1 % 3), col (o + 2 * (p.1 % 3))) :: (charsFrom col (o + 2 * (p.1 % 3) + 1) (mixedOf ps) ++ rest)) = _
    simp only [filtT, filtG, if_neg hp.nb]
    show _ :: filtT none _ = _
    rw [ih]
    rfl

theorem law_mixed (col : Nat → Int) (ps : List (Nat × Nat)) (k : Nat) (h : ∀ p ∈ ps, Piece p.1 p.2) : filtT none (charsOf col (mixedOf ps ++ cont k)) = dueM col ps := by
  rw [← charsFrom_zero, charsFrom_append, filt_mixed col _ ps 0 h]
  have := filt_cont col [] k (0 + (mixedOf ps).length)
  rw [List.append_nil] at this
  rw [this]
  show dueM col ps ++ [] = _
  rw [List.append_nil]

def nlOdd (p : Nat × Nat) : Bool := (p.2 == 10 || p.2 == 13) && p.1 % 2 == 1
def keptN (p : Nat × Nat) : Nat := if nlOdd p then p.1 - 1 else p.1 + 1
def keptP : Nat → List (Nat × Nat) → List Nat
  | _, [] => []
  | o, p :: ps => List.range' o (keptN p) ++ keptP (o + (p.1 + 1)) ps

theorem filt_piece (col : Nat → Int) (c : Nat) (rest : List Tri) : ∀ (r o : Nat), Piece r c → filtT none (charsFrom col o (pieceT (r, c)) ++ rest) = (charsFrom col o (pieceT (r, c))).take (keptN (r, c)) ++ filtT none rest
  | 0, o, h => by
    have e : nlOdd (0, c) = false := by simp [nlOdd]
    simp only [pieceT, List.replicate_zero, List.nil_append, keptN, e]
    show filtT none ((c, o, col o) :: rest) = [(c, o, col o)] ++ _
    simp only [filtT, filtG, if_neg h.nb]; rfl
  | 1, o, h => by
    show filtT none ((92, o, col o) :: (c, o + 1, col (o + 1)) :: rest) = _
    by_cases hn : c = 10 ∨ c = 13
    · have e : nlOdd (1, c) = true := by simp [nlOdd]; exact hn
      have h13 : c = 13 ∨ c = 10 := hn.symm
      simp [keptN, e, filtT, filtG, h13]
    · have e : nlOdd (1, c) = false := by simp [nlOdd]; exact ⟨fun x => hn (.inl x), fun x => hn (.inr x)⟩
      have h13 : ¬ (c = 13 ∨ c = 10) := fun x => hn x.symm
      simp [keptN, e, filtT, filtG, h13, pieceT, charsFrom]
  | r + 2, o, h => by
    have h' : Piece r c ∨ (r = 0 ∧ (c = 10 ∨ c = 13)) := by
      by_cases hn : c = 10 ∨ c = 13
      · rcases h.odd hn with h1 | h1
        · omega
        · exact .inl ⟨h.nb, fun _ => .inr (by omega)⟩
      · exact .inl ⟨h.nb, fun x => absurd x hn⟩
    rcases h' with h' | ⟨rfl, hn⟩
    · have ih := filt_piece col c rest r (o + 1 + 1) h'
      show filtT none ((92, o, col o) :: (92, o + 1, col (o + 1)) :: (charsFrom col (o + 1 + 1) (pieceT (r, c)) ++ rest)) = _
      have e1 : ∀ X, filtT none ((92, o, col o) :: (92, o + 1, col (o + 1)) :: X) = (92, o, col o) :: (92, o + 1, col (o + 1)) :: filtT none X := fun X => by simp [filtT, filtG]
      rw [e1, ih]
      have e2 : keptN (r + 2, c) = keptN (r, c) + 2 := by
        have e3 : nlOdd (r + 2, c) = nlOdd (r, c) := by simp [nlOdd]
        unfold keptN; rw [e3]; split
        · rename_i hh; simp [nlOdd] at hh; omega
        · rfl
      rw [e2]
      rfl
    · rcases h.odd hn with h1 | h1 <;> omega

theorem take_range' {α : Type} (L : List α) (d : α) (o m : Nat) (h : o + m ≤ L.length) : (List.range' o m).map (fun i => L.getD i d) = (L.drop o).take m := by
  apply List.ext_getElem?
  intro i
  rw [List.getElem?_map, List.getElem?_take]
  by_cases hi : i < m
  · rw [List.getElem?_range' hi, if_pos hi, List.getElem?_drop]
    simp [List.getD, List.getElem?_eq_getElem (show o + i < L.length by omega)]
  · rw [if_neg hi, List.getElem?_eq_none (by simpa using hi)]; rfl

theorem keptN_le (p : Nat × Nat) : keptN p ≤ p.1 + 1 := by unfold keptN; split <;> omega
theorem pieceT_length (p : Nat × Nat) : (pieceT p).length = p.1 + 1 := by simp [pieceT]

theorem filt_text (col : Nat → Int) (d : Tri) (L : List Tri) : ∀ (ps : List (Nat × Nat)) (o : Nat), (∀ p ∈ ps, Piece p.1 p.2) → L.drop o = charsFrom col o (textOf ps) → filtT none (L.drop o) = (keptP o ps).map (fun i => L.getD i d)
  | [], o, _, h => by rw [h]; rfl
  | p :: ps, o, hp, h => by
    have e : L.drop o = charsFrom col o (pieceT p) ++ charsFrom col (o + (p.1 + 1)) (textOf ps) := by
      rw [h, ← pieceT_length p, ← charsFrom_append]; rfl
    have e2 : L.drop (o + (p.1 + 1)) = charsFrom col (o + (p.1 + 1)) (textOf ps) := by
      rw [← List.drop_drop, e, List.drop_left' (by rw [charsFrom_length, pieceT_length])]
    have ih := filt_text col d L ps (o + (p.1 + 1)) (fun q hq => hp q (.tail _ hq)) e2
    have hlen : o + (p.1 + 1) ≤ L.length ∨ L.length < o + (p.1 + 1) := by omega
    have hl : o + keptN p ≤ L.length := by
      have h1 : (L.drop o).length = L.length - o := List.length_drop
      rw [e, List.length_append, charsFrom_length, pieceT_length] at h1
      have := keptN_le p
      omega
    rw [keptP, List.map_append, take_range' L d o _ hl, ← ih, e2, e, filt_piece col p.2 _ p.1 o (hp p (.head _)),
      List.take_append_of_le_length (by rw [charsFrom_length, pieceT_length]; exact keptN_le p)]
end Lw

/-! ## P4 -/
namespace Lw

theorem runL_app {T B : List Nat} {i : Nat} (h : i ≤ T.length) : runL (T ++ B) i = runL T i := by
  unfold runL; rw [List.take_append_of_le_length h]
theorem goneAt_app {T B : List Nat} {i : Nat} (h : i < T.length) : goneAt (T ++ B) i = goneAt T i := by
  unfold goneAt runS
  rw [List.getElem?_append_left h, runL_app (Nat.le_of_lt h)]
theorem goneUp_app (T B : List Nat) : ∀ i, i ≤ T.length → goneUp (T ++ B) i = goneUp T i
  | 0, _ => rfl
  | i + 1, h => by rw [goneUp_succ, goneUp_succ, goneUp_app T B i (by omega), goneAt_app (by omega)]

theorem goneAt_lt {t : List Nat} {i x : Nat} (h : x ∈ goneAt t i) : x ≤ i := by
  unfold goneAt at h
  split at h
  · split at h
    · simp at h; omega
    · cases h
  · cases h
theorem goneUp_lt {t : List Nat} : ∀ {i x : Nat}, x ∈ goneUp t i → x < i
  | 0, x, h => by cases h
  | i + 1, x, h => by
    rw [goneUp_succ] at h
    rcases List.mem_append.mp h with h | h
    · have := goneUp_lt h; omega
    · have := goneAt_lt h; omega

def NoBs (T : List Nat) : Prop := T.reverse.takeWhile (· == 92) = []

theorem goneUp_run (T : List Nat) (r c : Nat) : ∀ j, j ≤ r → goneUp (T ++ (List.replicate r 92 ++ [c])) (T.length + j) = goneUp T T.length
  | 0, _ => goneUp_app T _ _ (Nat.le_refl _)
  | j + 1, h => by
    show goneUp _ ((T.length + j) + 1) = _
    rw [goneUp_succ, goneUp_run T r c j (by omega)]
    have e : (T ++ (List.replicate r 92 ++ [c]))[T.length + j]? = some 92 := by
      rw [List.getElem?_append_right (by omega), List.getElem?_append_left (by simp; omega)]
      rw [List.getElem?_replicate, if_pos (by omega)]
    rw [goneAt_eq e]
    simp [runS]

theorem runL_run (T : List Nat) (r c : Nat) (h : NoBs T) : runL (T ++ (List.replicate r 92 ++ [c])) (T.length + r) = r := by
  unfold runL
  have e : (T ++ (List.replicate r 92 ++ [c])).take (T.length + r) = T ++ List.replicate r 92 := by
    rw [← List.append_assoc, List.take_left' (by simp)]
  rw [e, List.reverse_append, List.reverse_replicate]
  have e2 : (List.replicate r 92 ++ T.reverse).takeWhile (· == 92) = List.replicate r 92 := by
    rw [List.takeWhile_append_of_pos (by intro a ha; rw [List.eq_of_mem_replicate ha]; rfl), h, List.append_nil]
  rw [e2, List.length_replicate]

theorem goneUp_piece (T : List Nat) (r c : Nat) (h : NoBs T) : goneUp (T ++ (List.replicate r 92 ++ [c])) (T.length + (r + 1)) = goneUp T T.length ++ if nlOdd (r, c) then [T.length + r - 1, T.length + r] else [] := by
  rw [← Nat.add_assoc, goneUp_succ, goneUp_run T r c r (Nat.le_refl _)]
  have e : (T ++ (List.replicate r 92 ++ [c]))[T.length + r]? = some c := by
    rw [List.getElem?_append_right (by omega), List.getElem?_append_right (by simp)]
    simp
  rw [goneAt_eq e]
  congr 1
  unfold runS nlOdd
  rw [runL_run T r c h]
  by_cases hn : c = 10 ∨ c = 13
  · rw [if_pos hn]
    have : (c == 10 || c == 13) = true := by simpa using hn
    simp [this]
  · rw [if_neg hn]
    have : (c == 10 || c == 13) = false := by simpa using hn
    simp [this]

theorem filter_range' (p : Nat → Bool) (o m k : Nat) (hk : k ≤ m) (h1 : ∀ i, o ≤ i → i < o + k → p i = true) (h2 : ∀ i, o + k ≤ i → i < o + m → p i = false) : (List.range' o m).filter p = List.range' o k := by
  obtain ⟨d, rfl⟩ : ∃ d, m = k + d := ⟨m - k, by omega⟩
  rw [← List.range'_append_1, List.filter_append]
  have e1 : (List.range' o k).filter p = List.range' o k := List.filter_eq_self.mpr fun i hi => by
    rw [List.mem_range'_1] at hi
    exact h1 i hi.1 hi.2
  have e2 : (List.range' (o + k) d).filter p = [] := List.filter_eq_nil_iff.mpr fun i hi => by
    rw [List.mem_range'_1] at hi
    rw [h2 i hi.1 (by omega)]; simp
  rw [e1, e2, List.append_nil]

theorem kept_piece (T : List Nat) (r c : Nat) (h : NoBs T) : keptOf (T ++ (List.replicate r 92 ++ [c])) = keptOf T ++ List.range' T.length (keptN (r, c)) := by
  have hl : (T ++ (List.replicate r 92 ++ [c])).length = T.length + (r + 1) := by simp
  unfold keptOf
  rw [hl, goneUp_piece T r c h, List.range_eq_range', ← List.range'_append_1, List.filter_append, ← List.range_eq_range', Nat.zero_add]
  congr 1
  · refine List.filter_congr fun i hi => ?_
    rw [List.mem_range] at hi
    congr 1
    rw [List.contains_append]
    split
    · rename_i ho
      have hr : 1 ≤ r := by simp [nlOdd] at ho; omega
      have : [T.length + r - 1, T.length + r].contains i = false := by
        simp; omega
      rw [this, Bool.or_false]
    · simp
  · refine filter_range' _ _ _ _ (keptN_le (r, c)) (fun i h1 h2 => ?_) (fun i h1 h2 => ?_)
    · have hg : (goneUp T T.length).contains i = false := by
        rw [List.contains_eq_mem]
        exact decide_eq_false fun hm => by have := goneUp_lt hm; omega
      rw [List.contains_append, hg, Bool.false_or]
      unfold keptN at h2
      split
      · rename_i ho
        rw [if_pos ho] at h2
        simp; omega
      · rfl
    · unfold keptN at h1
      split at h1
      · rename_i ho
        have hr : 1 ≤ r := by simp [nlOdd] at ho; omega
        rw [if_pos ho, List.contains_append]
        have : [T.length + r - 1, T.length + r].contains i = true := by
          simp; omega
        rw [this]; simp
      · simp at h1; omega

theorem keptP_append : ∀ (ps qs : List (Nat × Nat)) (o : Nat), keptP o (ps ++ qs) = keptP o ps ++ keptP (o + (textOf ps).length) qs
  | [], qs, o => rfl
  | p :: ps, qs, o => by
    show List.range' o (keptN p) ++ keptP (o + (p.1 + 1)) (ps ++ qs) = _
    rw [keptP_append ps qs, keptP, List.append_assoc]
    have e : (textOf (p :: ps)).length = p.1 + 1 + (textOf ps).length := by
      show (pieceT p ++ textOf ps).length = _
      rw [List.length_append, pieceT_length]
    rw [e, Nat.add_assoc o]

theorem textOf_append (ps qs : List (Nat × Nat)) : textOf (ps ++ qs) = textOf ps ++ textOf qs := by simp [textOf]
theorem textOf_one (p : Nat × Nat) : textOf [p] = pieceT p := by simp [textOf]
theorem mixedOf_append (ps qs : List (Nat × Nat)) : mixedOf (ps ++ qs) = mixedOf ps ++ mixedOf qs := by simp [mixedOf]
theorem mixedOf_one (p : Nat × Nat) : mixedOf [p] = pieceM p := by simp [mixedOf]

theorem noBs_text (ps : List (Nat × Nat)) (h : ∀ p ∈ ps, Piece p.1 p.2) : NoBs (textOf ps) := by
  rcases List.eq_nil_or_concat ps with rfl | ⟨qs, p, rfl⟩
  · rfl
  · have hp := (h p (by simp)).nb
    rw [List.concat_eq_append, textOf_append, textOf_one]
    unfold NoBs pieceT
    simp [hp]

theorem kept_text : ∀ (n : Nat) (ps : List (Nat × Nat)), ps.length = n → (∀ p ∈ ps, Piece p.1 p.2) → keptOf (textOf ps) = keptP 0 ps
  | 0, ps, hn, _ => by rw [List.length_eq_zero_iff.mp hn]; rfl
  | n + 1, ps, hn, h => by
    rcases List.eq_nil_or_concat ps with rfl | ⟨qs, p, rfl⟩
    · rfl
    · rw [List.concat_eq_append] at hn h ⊢
      have hq : ∀ q ∈ qs, Piece q.1 q.2 := fun q hq => h q (List.mem_append_left _ hq)
      have ih := kept_text n qs (by simpa using hn) hq
      rw [textOf_append, textOf_one]
      show keptOf (textOf qs ++ (List.replicate p.1 92 ++ [p.2])) = _
      rw [kept_piece _ _ _ (noBs_text qs hq), ih, keptP_append, Nat.zero_add]
      show _ = _ ++ (List.range' _ _ ++ [])
      rw [List.append_nil]

def sel (L : List Tri) (is : List Nat) : List Tri := is.map fun i => L.getD i (0, 0, 0)
theorem law_text (col : Nat → Int) (ps : List (Nat × Nat)) (h : ∀ p ∈ ps, Piece p.1 p.2) : filtT none (charsOf col (textOf ps)) = sel (charsOf col (textOf ps)) (keptOf (textOf ps)) := by
  rw [kept_text _ ps rfl h]
  exact filt_text col (0, 0, 0) (charsOf col (textOf ps)) ps 0 h rfl
theorem kept_lt {t : List Nat} {i : Nat} (h : i ∈ keptOf t) : i < t.length := List.mem_range.mp (List.mem_filter.mp h).1

theorem textOf_len (ps : List (Nat × Nat)) (h : ∀ p ∈ ps, p.1 ≤ 5) : (textOf ps).length ≤ 6 * ps.length := by
  induction ps with
  | nil => simp [textOf]
  | cons p ps ih =>
    have h1 := h p (.head _)
    have h2 := ih fun q hq => h q (.tail _ hq)
    show (pieceT p ++ textOf ps).length ≤ _
    rw [List.length_append, pieceT_length, List.length_cons]; omega
theorem mixedOf_len (ps : List (Nat × Nat)) : (mixedOf ps).length ≤ 5 * ps.length := by
  induction ps with
  | nil => simp [mixedOf]
  | cons p ps ih =>
    show (pieceM p ++ mixedOf ps).length ≤ _
    rw [List.length_append, pieceM_length, List.length_cons]; omega
end Lw

/-! ## B16a -/
namespace Lw
variable {prog : Program} {w : World} {A : Around} {E : Value → Shared → Prop} {s : Shared} {mg mb : Str → Option Value} {env : Env}

theorem div_small {a : Int} : Builtin.divisionGoesByPylong a 6 = false := by first | exact PyProof.noPylong_of_log2 (by decide +kernel) | exact PyProof.noPylong_small (by omega)
theorem div_small36 {a : Int} : Builtin.divisionGoesByPylong a 36 = false := by first | exact PyProof.noPylong_of_log2 (by decide +kernel) | exact PyProof.noPylong_small (by omega)

def sgTab : List Nat := [97, 39, 63, 32, 10, 13]
theorem signs_eq : Str.ofString "a'? \n\r" = ⟨sgTab.toArray⟩ := by decide +kernel
theorem lk_signs (P : Params) : nsIn (Lw.hd.heap_39 P) mainGlobals (Str.ofString "_law_SIGNS") = some (some (.str (Str.ofString "a'? \n\r") 298)) := by kernel_rfl

theorem foldl_app : ∀ (l : List (Array Nat)) (a : Array Nat), (l.foldl (· ++ ·) a).toList = a.toList ++ (l.map (·.toList)).flatten
  | [], a => by simp
  | x :: l, a => by rw [List.foldl_cons, foldl_app l]; simp
theorem mul_list (x : Str) (n : Int) : (Txt.mul x n).cps.toList = (List.replicate n.toNat x.cps.toList).flatten := by
  unfold Txt.mul
  split
  · rename_i h
    have : n.toNat = 0 := by omega
    rw [this]; rfl
  · rename_i h
    split
    · rename_i h2
      simp only [Bool.or_eq_true, beq_iff_eq] at h2
      rcases h2 with h2 | h2
      · subst h2; simp
      · have : x.cps.toList = [] := by
          have : x.cps.size = 0 := h2
          simpa using this
        rw [this]
        induction n.toNat with
        | zero => rfl
        | succ k ih => rw [List.replicate_succ, List.flatten_cons, ← ih]; rfl
    · show ((List.replicate n.toNat x.cps).foldl (· ++ ·) #[]).toList = _
      rw [foldl_app]; simp
theorem str_ext {x y : Str} (h : x.cps.toList = y.cps.toList) : x = y := by
  cases x; cases y
  congr 1
  exact Array.toList_inj.mp h

/-- one statement, then what it left -/
theorem step {M : Model} {st : Stmt} {rest : List Stmt} {Q : Flow → Shared → Prop} (P : Shared → Prop) (h1 : wpAny M A (exec st env) (fun f s' => f = .next ∧ P s') (fun _ _ => False) s)
    (h2 : ∀ s', P s' → wpAny M A (execs rest env) Q E s') : wpAny M A (execs (st :: rest) env) Q E s :=
  wpAny_execs_cons (wpAny_mono h1 (fun f s' h => by obtain ⟨rfl, h⟩ := h; exact h2 s' h) fun _ _ x => x.elim)

/-- the state of the law's loop -/
structure LInv (base h4 : Heap) (L D kl I : Nat) (k : Int) (t0 : Tok) (i : Nat) (ps : List (Nat × Nat)) (h : Heap) (m : Str → Option Value) : Prop where
  len : ps.length = i
  good : ∀ p ∈ ps, Piece p.1 p.2 ∧ p.1 ≤ 5
  text : ∃ t, m (Str.ofString "text") = some (.str ⟨(textOf ps).toArray⟩ t)
  bare : ∃ t, m (Str.ofString "bare") = some (.str ⟨(bareOf ps).toArray⟩ t)
  mixed : ∃ t, m (Str.ofString "mixed") = some (.str ⟨(mixedOf ps).toArray⟩ t)
  kept : m (Str.ofString "kept") = some (.ref kl)
  ks : ∃ kvs : List Value, LstX h kl kvs.toArray ∧ IntsAre kvs ((keptMix 0 ps).map Int.ofNat)
  lead : m (Str.ofString "lead") = some (.int k t0)
  drawn : m (Str.ofString "drawn") = some (.ref D)
  keep : ∀ b o, b ≠ L → b ≠ kl → b ≠ I → h4.get? b = some o → h.get? b = some o

/-- appending to a list by its method -/
theorem bareOf_append (ps qs : List (Nat × Nat)) : bareOf (ps ++ qs) = bareOf ps ++ bareOf qs := by simp [bareOf]

theorem mul_bsl (r : Nat) : (Txt.mul (Str.ofString "\\") (r : Int)).cps.toList = List.replicate r 92 := by
  rw [mul_list]
  have e : (Str.ofString "\\").cps.toList = [92] := by decide +kernel
  rw [e, Int.toNat_natCast]
  induction r with
  | zero => rfl
  | succ r ih => rw [List.replicate_succ, List.flatten_cons, ih]; rfl
theorem mul_cont (r : Nat) : (Txt.mul (Str.ofString "\\\n") (r : Int)).cps.toList = cont r := by
  rw [mul_list]
  have e : (Str.ofString "\\\n").cps.toList = [92, 10] := by decide +kernel
  rw [e, Int.toNat_natCast]; rfl
theorem app_list (x y : Str) : (x ++ y).cps.toList = x.cps.toList ++ y.cps.toList := by
  show (x.cps ++ y.cps).toList = _
  simp
theorem str_of_list (x : Str) (l : List Nat) (h : x.cps.toList = l) : x = ⟨l.toArray⟩ := str_ext (by rw [h])

theorem appendX {l : Addr} {items : Array Value} {x : Value} {Q : Value → Shared → Prop} (hl : LstX s.heap l items) (hsz : items.size ≤ sizeLine)
    (hQ : ∀ h', LstX h' l (items.push x) → Heap.SameBut l s.heap h' → Q .none { s with heap := h' }) : wpAny (model prog w) A (call (.builtin "list.append") [.ref l, x]) Q E s := by
  obtain ⟨n, ho⟩ := hl
  refine wpAny_call_entry PySem.slot_list_append ⟨_, ho, rfl⟩ entry_list_append ?_ (args_list_append _ _)
  show wpAny _ _ (updateSeq l (·.push x) >>= fun _ => ret .none) _ _ s
  refine wpAny_bind ?_
  exact wpAny_updateSeq ho rfl (wpAny_pure ⟨.none, rfl, hQ _ ⟨_, get?_update_seq ho _⟩ (Heap.SameBut.update ..)⟩) hsz (by rw [Array.size_push]; omega)

theorem appendL {l : Addr} {items : List Value} {x : Value} {Q : Value → Shared → Prop} (hl : LstX s.heap l items.toArray) (hsz : items.length ≤ sizeLine)
    (hQ : ∀ h', LstX h' l (items ++ [x]).toArray → Heap.SameBut l s.heap h' → Q .none { s with heap := h' }) : wpAny (model prog w) A (call (.builtin "list.append") [.ref l, x]) Q E s :=
  appendX hl (by simpa using hsz) fun h' hl' hs' => hQ h' (by simpa using hl') hs'

theorem tups_sel {n : Nat} {h : Heap} {tvs : List Value} {ps : List Tri} (x : All2 (TupAt n h) tvs ps) : ∀ ks : List Nat, (∀ j ∈ ks, j < ps.length) → All2 (TupAt n h) (ks.map fun j => tvs.getD j .none) (sel ps ks)
  | [], _ => .nil
  | j :: ks, hk => by
    obtain ⟨v, hv, hF⟩ := x.get (List.getElem?_eq_getElem (hk j (.head _)))
    refine .cons ?_ (tups_sel x ks fun i hi => hk i (.tail _ hi))
    have e1 : tvs.getD j .none = v := by simp [List.getD, hv]
    have e2 : ps.getD j (0, 0, 0) = ps[j]'(hk j (.head _)) := by simp [List.getD, List.getElem?_eq_getElem (hk j (.head _))]
    show TupAt n h (tvs.getD j .none) (ps.getD j (0, 0, 0))
    rw [e1, e2]; exact hF

theorem bare_push {g : Array GenState} {c : Code} (h : Bare g) : Bare (g.push (.fresh c)) := by
  intro y hy
  rcases Array.mem_push.mp hy with hy | rfl
  · exact h y hy
  · rfl
theorem dueM_get {col : Nat → Int} {ps : List (Nat × Nat)} {i c j : Nat} (h1 : (bareOf ps)[i]? = some c) (h2 : (keptMix 0 ps)[i]? = some j) : (dueM col ps)[i]? = some (c, j, col j) := by
  simp [dueM, List.getElem?_zipWith, h1, h2]
theorem dueM_length (col : Nat → Int) (ps : List (Nat × Nat)) : (dueM col ps).length = ps.length := by
  simp [dueM, keptMix_length, bareOf]

theorem callWithM1 {M : Model} {pos : Pos} {id : String} {e : Expr} {ov : Value} {Q : Value → Shared → Prop}
    (h : wpAny M A (spliced (backTo pos (starEach [e] env))) (fun vs s₁ => wpAny M A (call (.builtin id) (ov :: vs)) Q E s₁) E s)
    (he : starEach [e] env = [(false, eval e env)]) :
    wpAny M A (callWith pos (.builtin id) [ov] (backTo pos (starEach [e] env)) []) Q E s := by
  rw [he] at h ⊢
  exact callWith_builtin rfl (evalArgs_plain h)

def StS (s : Shared) (L : Nat) (h6 : Heap) (m6 : Str → Option Value) (r c : Nat) (s' : Shared) : Prop :=
  ∃ h tk m t1 t2, s' = { s with heap := h, toks := tk } ∧ h.Ns L m ∧ m (Str.ofString "run") = some (.int (r : Int) t1) ∧ m (Str.ofString "sign") = some (.str ⟨#[c]⟩ t2) ∧
    (∀ y, y ≠ Str.ofString "run" → y ≠ Str.ofString "sign" → m y = m6 y) ∧ ∀ b o, b ≠ L → h6.get? b = some o → h.get? b = some o

def upd (m : Str → Option Value) (x : Str) (v : Value) : Str → Option Value := fun z => if z = x then some v else m z
theorem upd_eq (m : Str → Option Value) (x : Str) (v : Value) : upd m x v x = some v := by simp [upd]
theorem upd_ne {m : Str → Option Value} {x y : Str} {v : Value} (h : y ≠ x) : upd m x v y = m y := by simp [upd, h]

theorem sgn_ne : Str.ofString "sign" ≠ Str.ofString "run" := by decide
theorem run_ne : Str.ofString "run" ≠ Str.ofString "sign" := by decide
theorem in24 {s : Shared} {A : Around} {r : Nat} {t t1 t2 : Tok} {T : Addr} {prog : Program} {w : World} {E : Value → Shared → Prop} {Q : Value → Shared → Prop} (hT : s.heap.IsTuple T #[.int 2 t1, .int 4 t2])
    (h : Q (.bool (decide (r = 2 ∨ r = 4))) s) : wpAny (model prog w) A (compareOp .In (.int (r : Int) t) (.ref T)) Q E s := by
  refine SeqAt.in_tupleAt (isInt (r : Int)) hT (fun y hy => ?_) ?_
  · simp at hy
    rcases hy with rfl | rfl
    · exact SeqAt.EqAt.int_int _ _ _ _
    · exact SeqAt.EqAt.int_int _ _ _ _
  · have e : (#[.int 2 t1, .int 4 t2] : Array Value).any (isInt (r : Int)) = decide (r = 2 ∨ r = 4) := by
      rw [← Array.any_toList]
      show ((2 : Int) == (r : Int) || ((4 : Int) == (r : Int) || false)) = _
      by_cases h2 : r = 2
      · subst h2; rfl
      · by_cases h4 : r = 4
        · subst h4; rfl
        · have e1 : ((2 : Int) == (r : Int)) = false := by simp; omega
          have e2 : ((4 : Int) == (r : Int)) = false := by simp; omega
          rw [e1, e2]; simp [h2, h4]
    rw [e]; exact h

theorem sg_get (n : Int) : ∃ c, sgTab[((n.fdiv 6).fmod 6).toNat]? = some c ∧ c ≠ 92 := by
  have h1 : 0 ≤ (n.fdiv 6).fmod 6 := Int.fmod_nonneg_of_pos _ (by decide)
  have h2 : (n.fdiv 6).fmod 6 < 6 := Int.fmod_lt_of_pos _ (by decide)
  generalize (n.fdiv 6).fmod 6 = j at h1 h2
  obtain ⟨k, rfl⟩ := Int.eq_ofNat_of_zero_le h1
  have hk : k < 6 := by omega
  show ∃ c, sgTab[k]? = some c ∧ c ≠ 92
  match k, hk with
  | 0, _ => exact ⟨97, rfl, by decide⟩
  | 1, _ => exact ⟨39, rfl, by decide⟩
  | 2, _ => exact ⟨63, rfl, by decide⟩
  | 3, _ => exact ⟨32, rfl, by decide⟩
  | 4, _ => exact ⟨10, rfl, by decide⟩
  | 5, _ => exact ⟨13, rfl, by decide⟩

/-- how the drawn run and sign are mended: what they are at last -/
theorem piece_of (r c : Nat) (hc : c ≠ 92) (hr : r ≤ 5) (h : ¬ ((c = 10 ∨ c = 13) ∧ (r = 2 ∨ r = 4))) : Piece r c ∧ r ≤ 5 :=
  ⟨⟨hc, fun hn => by
    have : ¬ (r = 2 ∨ r = 4) := fun x => h ⟨hn, x⟩
    omega⟩, hr⟩
theorem piece_of' (r c : Nat) (hc : c ≠ 92) (h : r = 2 ∨ r = 4) : Piece (r + 1) c ∧ r + 1 ≤ 5 := ⟨⟨hc, fun _ => by omega⟩, by omega⟩
end Lw

/-! ## B16 -/
namespace Lw

abbrev KeepsH (h h' : Heap) : Prop := ∀ b o, h.get? b = some o → h'.get? b = some o

section
variable {prog : Program} {w : World} {A : Around} {E : Value → Shared → Prop} {s : Shared} {mg mb : Str → Option Value} {env : Env}

/-- assigning a tuple's four items to four names -/
theorem assign4 {x1 x2 x3 x4 : Str} {p1 p2 p3 p4 pt : Pos} {kt : Nat} {T : Addr} {v1 v2 v3 v4 : Value} {m : Str → Option Value} {Q : Unit → Shared → Prop} (hh : A.handled = none) (hT : s.heap.IsTuple T #[v1, v2, v3, v4]) (hn : s.heap.Ns env.locals m)
    (h1 : env.kindOf x1 = some .local) (h2 : env.kindOf x2 = some .local) (h3 : env.kindOf x3 = some .local) (h4 : env.kindOf x4 = some .local)
    (hp : (env.scope.kind == .class || (env.scope.kind == .module && env.locals != env.globals)) = false)
    (hQ : ∀ h', h'.Ns env.locals (fun z => if z = x4 then some v4 else if z = x3 then some v3 else if z = x2 then some v2 else if z = x1 then some v1 else m z) → (∀ b o, b ≠ env.locals → s.heap.get? b = some o → h'.get? b = some o) → ∀ tk, Q () { s with heap := h', toks := tk }) :
    wpAny (model prog w) A (assign (.Tuple [.Name x1 p1, .Name x2 p2, .Name x3 p3, .Name x4 p4] kt pt) env (.ref T)) Q E s := by
  refine wpAny_assign_Tuple hh hT rfl rfl fun h₁ hx₁ => ?_
  have old₁ : ∀ b o, s.heap.get? b = some o → h₁.get? b = some o := fun b o e => hx₁ b o (Nat.ne_of_lt (Heap.lt_size e)) e
  show wpAny _ _ (do holding [v2, v3, v4] (assign (.Name x1 p1) env v1); do holding [v3, v4] (assign (.Name x2 p2) env v2); do holding [v4] (assign (.Name x3 p3) env v3); do holding [] (assign (.Name x4 p4) env v4); pure ()) _ _ _
  refine wpAny_bind (wpAny_holding (wpAny_assign_Name (wpAny_storeName_local h1 (hn.at' fun o e => old₁ _ o e) (fun ha hna hsa => ?_) hp)))
  refine wpAny_bind (wpAny_holding (wpAny_assign_Name (wpAny_storeName_local h2 hna (fun hb hnb hsb => ?_) hp)))
  refine wpAny_bind (wpAny_holding (wpAny_assign_Name (wpAny_storeName_local h3 hnb (fun hc hnc hsc => ?_) hp)))
  refine wpAny_bind (wpAny_holding (wpAny_assign_Name (wpAny_storeName_local h4 hnc (fun hd hnd hsd => wpAny_pure ?_) hp)))
  exact hQ hd hnd (fun b o hb' e => hsd.extBut b o hb' (hsc.extBut b o hb' (hsb.extBut b o hb' (hsa.extBut b o hb' (old₁ b o e))))) _

set_option maxHeartbeats 4000000 in
theorem lawCall {a : Nat} {vs : List Value} {ns : List Int} {Q : Value → Shared → Prop} (G : Gd w mg mb s.heap) (R : Rm A 9) (hl : s.heap.IsList a vs.toArray) (hi : IntsAre vs ns) (hlen : ns.length ≤ 63)
    (hQ : ∀ s', KeepsH s.heap s'.heap → (Bare s.gens → Bare s'.gens) → s'.drawn = s.drawn → s'.os = s.os → Q (.bool true) s') :
    wpAny (model prog w) A (call (.ref 103) [.ref a] []) Q E s := by
  have ho := G.X 103 _ rfl
  refine rcall [(Str.ofString "script", .ref a)] R ho rfl G.T.nolimit (codeRec_of G.X (by kernel_rfl)) rfl rfl rfl ?_ (fun h₀ tk₀ A' R' hk hn hcells => ?_) rfl rfl rfl
  · intro L y hy
    rw [List.mem_singleton.mp hy]; exact .inl rfl
  have hcC : h₀.IsCell (s.heap.objs.size + 1) none := hcells (Str.ofString "cols") (s.heap.objs.size + 1) rfl
  have hcT : h₀.IsCell (s.heap.objs.size + 2) none := hcells (Str.ofString "told") (s.heap.objs.size + 2) rfl
  clear hcells
  have hl0 : h₀.IsList a vs.toArray := hl.at fun o e => hk _ o e
  have hvl := hi.length
  -- lead
  refine wpAny_execs_cons (wpAny_Assign_Name (wpAny_mono (Q := fun v s1 => (∃ k t, v = .int k t) ∧ ∃ tk, s1 = { s with heap := h₀, toks := tk }) (E := fun _ _ => False) ?lead (fun v s1 h1 => ?_) fun _ _ x => x.elim) rfl)
  case lead =>
    refine wpAny_IfExp (wpAny_isTrue_value (nmL hn rfl (wpAny_truthy_list hl0 (by rw [List.size_toArray, hvl]; omega) ?_) rfl rfl (by decide)) rfl)
    cases hns : ns with
    | nil =>
      subst hns
      have hv0 : vs = [] := List.length_eq_zero_iff.mp hvl
      subst hv0
      rw [if_neg (by simp)]
      exact wpAny_Constant_int ⟨⟨_, _, rfl⟩, _, rfl⟩
    | cons n0 nr =>
      have hv1 : vs.toArray.size ≠ 0 := by rw [List.size_toArray, hvl, hns]; simp
      rw [if_pos (by simpa using hv1)]
      refine Subscript_ (nmL (s := { s with heap := h₀, toks := _ }) hn rfl (wpAny_Constant_int ?_) rfl rfl (by decide))
      exact item_list_ints (s := { s with heap := h₀, toks := _ }) hl0 hi (by decide) (by rw [hns]; simp) (by omega) (fun t => ⟨⟨_, _, rfl⟩, _, rfl⟩) rfl (fun _ => rfl)
  obtain ⟨⟨k, t, rfl⟩, tk1, rfl⟩ := h1
  refine wpAny_storeName_local rfl hn (fun h1 hn1 hs1 => ?_) rfl
  have k1 : ∀ b o, b ≠ s.heap.objs.size → h₀.get? b = some o → h1.get? b = some o := fun b o hb e => hs1.extBut b o hb e
  have hl1 : h1.IsList a vs.toArray := hl0.at fun o e => k1 _ o (by
    obtain ⟨o', e', _⟩ := hl
    exact Nat.ne_of_lt (Heap.lt_size e')) e
  have kb1 : KeepsH s.heap h1 := fun b o e => k1 b o (Nat.ne_of_lt (Heap.lt_size e)) (hk b o e)
  have hLs1 : @LT.lt Nat _ s.heap.objs.size h1.objs.size := hn1.lt
  -- drawn
  refine wpAny_execs_cons (wpAny_Assign_Name (wpAny_mono (Q := fun v s2 => ∃ D dvs ds h tk, v = .ref D ∧ s2 = { s with heap := h, toks := tk } ∧ h.IsList D (List.toArray dvs) ∧ IntsAre dvs ds ∧ ds ≠ [] ∧ ds.length ≤ 12 ∧ KeepsH h1 h ∧ @LE.le Nat _ h1.objs.size D) (E := fun _ _ => False) ?drawn (fun v s2 h2 => ?_) fun _ _ x => x.elim) rfl)
  case drawn =>
    refine wpAny_Or2 ?_
    refine wpAny_Call_Name_kw (nmB (s := { s with heap := h1, toks := _ }) (G.keeps kb1) (by kernel_rfl) bt_list (by decide) ?_ rfl rfl rfl rfl (by decide))
    refine Pv.callWith_type1 (wpAny_items_cons (Subscript_ (nmL (s := { s with heap := h1, toks := _ }) hn1 rfl (wpAny_Slice ?_) rfl rfl (by decide))) rfl) rfl rfl
    rw [evalPart_some]
    refine wpAny_Constant_int ?_
    rw [evalPart_some]
    refine wpAny_Constant_int ?_
    rw [evalPart_none]
    refine wpAny_pure ?_
    have hsp : slicePick vs.toArray (some 1) (some 13) none = ((vs.drop (min 1 vs.length)).take (min 13 vs.length - min 1 vs.length)).toArray := by
      rw [slicePick_plain]
      show ((vs.drop (clipAt vs.toArray.size ((1 : Nat) : Int))).take (clipAt vs.toArray.size ((13 : Nat) : Int) - clipAt vs.toArray.size ((1 : Nat) : Int))).toArray = _
      rw [clipAt_nat, clipAt_nat, List.size_toArray]
    refine slice_listK (s := { s with heap := h1, toks := _ }) hl1 (.int 1 _) (.int 13 _) ?_ rfl (fun _ => rfl) (by rw [List.size_toArray, sizeLine_eq]; omega)
    rw [hsp]
    generalize hdv : (vs.drop (min 1 vs.length)).take (min 13 vs.length - min 1 vs.length) = dvs
    have hdi : IntsAre dvs ((ns.drop (min 1 vs.length)).take (min 13 vs.length - min 1 vs.length)) := by rw [← hdv]; exact (IntsAre.drop hi _).take _
    generalize hdn : (ns.drop (min 1 vs.length)).take (min 13 vs.length - min 1 vs.length) = dns at hdi
    have hdl : dns.length ≤ 12 := by
      rw [← hdn, List.length_take]
      omega
    refine wpAny_items_nil ?_
    have hsz1 : ∀ o : Obj, (h1.push o).objs.size = h1.objs.size + 1 := fun o => Heap.size_push ..
    have hg : ∀ o : Obj, ((h1.push o).push { cls := .type "list", data := .seq dvs.toArray }).get? (h1.objs.size + 1) = some { cls := .type "list", data := .seq dvs.toArray } := fun o => by
      rw [← hsz1 o]; exact Heap.get?_push_size _ rfl
    refine call_list_seq (hsz := by rw [List.size_toArray, sizeLine_eq, hdi.length]; omega) _ (.inl rfl) (hg _) rfl rfl fun h3 c3 hk3 hD3 => ?_
    have kp3 : KeepsH h1 h3 := fun b o e => hk3 b o (Heap.get?_push_of_some _ (Heap.get?_push_of_some _ e))
    have hs3 : @LE.le Nat _ h1.objs.size h3.objs.size := by
      have e1 : h3.get? _ = _ := hD3
      have := Heap.lt_size e1
      dsimp only at this
      rw [Heap.size_push, Heap.size_push] at this
      exact Nat.le_of_lt (Nat.lt_of_le_of_lt (Nat.le_add_right _ 2) this)
    refine wpAny_truthy_list ⟨_, hD3, rfl, _, rfl⟩ (by rw [List.size_toArray, hdi.length]; omega) ?_
    by_cases hd0 : dns = []
    · have hv0 : dvs = [] := by
        have := hdi.length
        rw [hd0] at this
        exact List.length_eq_zero_iff.mp this
      rw [if_neg (by rw [hv0]; simp)]
      refine wpAny_List (wpAny_items_cons (wpAny_Constant_int (wpAny_items_cons (wpAny_Constant_int (wpAny_items_nil ⟨by rw [sizeLine_eq]; simp, ?_⟩)))))
      exact ⟨_, [_, _], [27, 24], _, _, rfl, rfl, ⟨_, Heap.get?_push_size _ rfl, rfl, _, rfl⟩, .cons _ _ (.cons _ _ .nil), by simp, by simp, fun b o e => Heap.get?_push_of_some _ (kp3 b o e), hs3⟩
    · have hv1 : dvs.toArray.size ≠ 0 := by
        rw [List.size_toArray, hdi.length]
        exact fun h => hd0 (List.length_eq_zero_iff.mp h)
      rw [if_pos (by simpa using hv1)]
      refine ⟨_, dvs, dns, h3, _, rfl, rfl, ⟨_, hD3, rfl, _, rfl⟩, hdi, hd0, hdl, kp3, ?_⟩
      dsimp only
      rw [Heap.size_push, Heap.size_push]
      exact Nat.le_add_right _ 2
  obtain ⟨D, dvs, ds, h2, tk2, rfl, rfl, hlD, hiD, hdne, hd12, k2, hDge⟩ := h2
  have kb2 : KeepsH s.heap h2 := fun b o e => k2 b o (kb1 b o e)
  refine wpAny_storeName_local rfl (hn1.at' fun o e => k2 _ o e) (fun h3 hn3 hs3 => ?_) rfl
  have hDL : D ≠ s.heap.objs.size := Nat.ne_of_gt (Nat.lt_of_lt_of_le hLs1 hDge)
  have hlD3 : h3.IsList D dvs.toArray := hlD.at fun o e => hs3.extBut _ o hDL e
  have k3 : ∀ b o, b ≠ s.heap.objs.size → h1.get? b = some o → h3.get? b = some o := fun b o hb e => hs3.extBut b o hb (k2 b o e)
  have kb3 : KeepsH s.heap h3 := fun b o e => k3 b o (Nat.ne_of_lt (Heap.lt_size e)) (kb1 b o e)
  have hcC3 : h3.IsCell (s.heap.objs.size + 1) none := cellAt hcC fun o e => k3 _ o (Nat.ne_of_gt (Nat.lt_succ_self _)) (k1 _ o (Nat.ne_of_gt (Nat.lt_succ_self _)) e)
  have hcT3 : h3.IsCell (s.heap.objs.size + 2) none := cellAt hcT fun o e => k3 _ o (Nat.ne_of_gt (Nat.lt_succ_of_lt (Nat.lt_succ_self _))) (k1 _ o (Nat.ne_of_gt (Nat.lt_succ_of_lt (Nat.lt_succ_self _))) e)
  -- text, bare, mixed, kept
  refine wpAny_execs_cons (Assign_Tuple (wpAny_Tuple ?_) rfl rfl)
  refine wpAny_items_cons (wpAny_Constant_str ?_)
  refine wpAny_items_cons (wpAny_Constant_str ?_)
  refine wpAny_items_cons (wpAny_Constant_str ?_)
  refine wpAny_items_cons (wpAny_List (wpAny_items_nil ⟨by simp, ?_⟩))
  refine wpAny_items_nil ⟨by rw [sizeLine_eq]; simp, ?_⟩
  have hz3 : (h3.push { cls := .type "list", data := .seq ([] : List Value).toArray }).objs.size = h3.objs.size + 1 := Heap.size_push ..
  have kp3 : KeepsH h3 ((h3.push { cls := .type "list", data := .seq ([] : List Value).toArray }).push { cls := .type "tuple", data := .seq ([.str (Str.ofString "") (tk2 + 1), .str (Str.ofString "") (tk2 + 1 + 1), .str (Str.ofString "") (tk2 + 1 + 1 + 1), .ref h3.objs.size] : List Value).toArray }) := fun b o e => Heap.get?_push_of_some _ (Heap.get?_push_of_some _ e)
  refine assign4 R'.h ⟨_, Heap.get?_push_size _ rfl, rfl, _, rfl⟩ (hn3.at' fun o e => kp3 _ o e) rfl rfl rfl rfl rfl fun h4 hn4 hk4 tk4 => ?_
  have hLs3 : @LT.lt Nat _ s.heap.objs.size h3.objs.size := hn3.lt
  have hkl4 : LstX h4 h3.objs.size (List.toArray []) := ⟨_, hk4 _ _ (Nat.ne_of_gt hLs3) (Heap.get?_push_of_some _ (Heap.get?_push_size _ rfl))⟩
  have k4 : ∀ b o, b ≠ s.heap.objs.size → h3.get? b = some o → h4.get? b = some o := fun b o hb e => hk4 b o hb (kp3 b o e)
  have hD3lt : @LT.lt Nat _ D h3.objs.size := let ⟨_, e, _⟩ := hlD3; Heap.lt_size e
  have hkl4lt : @LT.lt Nat _ h3.objs.size h4.objs.size := let ⟨_, e⟩ := hkl4; Heap.lt_size e
  have hlD4 : h4.IsList D dvs.toArray := hlD3.at fun o e => k4 _ o hDL e
  have kb4 : KeepsH s.heap h4 := fun b o e => k4 b o (Nat.ne_of_lt (Heap.lt_size e)) (kb3 b o e)
  have hcC4 : h4.IsCell (s.heap.objs.size + 1) none := cellAt hcC3 fun o e => k4 _ o (Nat.ne_of_gt (Nat.lt_succ_self _)) e
  have hcT4 : h4.IsCell (s.heap.objs.size + 2) none := cellAt hcT3 fun o e => k4 _ o (Nat.ne_of_gt (Nat.lt_succ_of_lt (Nat.lt_succ_self _))) e
  -- the loop
  refine wpAny_execs_cons (forB (nmL (s := { s with heap := h4, toks := _ }) hn4 rfl (wpAny_pyIter_list hlD4 ?_) rfl rfl (by decide)) (fun _ => rfl))
  have hDI : D ≠ h4.objs.size := Nat.ne_of_lt (Nat.lt_trans hD3lt hkl4lt)
  have hLI : s.heap.objs.size ≠ h4.objs.size := Nat.ne_of_lt (Nat.lt_trans hLs3 hkl4lt)
  have kp4 : KeepsH h4 (h4.push { cls := .type "list_iterator", data := .fields #[.ref D, .int 0 0] }) := fun b o e => Heap.get?_push_of_some _ e
  have hdvl := hiD.length
  have hLf : s.heap.objs.size ∉ [h4.objs.size, D] := fun h => by
    simp at h
    rcases h with h | h
    · exact hLI h
    · exact hDL h.symm
  refine codeAny_forB (Bd.ofWalks (Walks.list R'.h h4.objs.size D hDI dvs.toArray) rfl rfl)
    (fun i s' m => ∃ h tk ps, s' = { s with heap := h, toks := tk } ∧ LInv s.heap h4 s.heap.objs.size D h3.objs.size h4.objs.size k t i ps h m) hLf ?turn ?done (i := 0) (Nat.zero_le _)
    ⟨⟨_, Heap.get?_push_size _ rfl, rfl, rfl⟩, hlD4.at fun o e => kp4 _ o e⟩ (hn4.at' fun o e => kp4 _ o e)
    ⟨_, _, [], rfl, rfl, (fun _ h => nomatch h), ⟨_, rfl⟩, ⟨_, rfl⟩, ⟨_, rfl⟩, rfl, ⟨[], hkl4.at fun o e => kp4 _ o e, .nil⟩, rfl, rfl, fun b o _ _ _ e => kp4 b o e⟩
  case turn =>
    rintro i s5 m5 h6 tk6 m6 hi ⟨h5, tk5, ps, rfl, LI⟩ hn5 hSt6 hn6 ⟨nvv, hmn, hnv⟩ hm6 hk6
    have hids : i < ds.length := by rw [List.size_toArray, hdvl] at hi; exact hi
    obtain ⟨nt, hnt⟩ := hiD.get i ds[i] (List.getElem?_eq_getElem hids)
    have hnvv : nvv = .int ds[i] nt := by
      rw [List.getElem?_toArray, hnt] at hnv; exact (Option.some.inj hnv).symm
    subst hnvv
    generalize ds[i] = nv at hmn hnt
    have hkb5 : KeepsH s.heap h5 := fun b o e => by
      have hb : @LT.lt Nat _ b s.heap.objs.size := Heap.lt_size e
      exact LI.keep b o (Nat.ne_of_lt hb) (Nat.ne_of_lt (Nat.lt_trans hb hLs3)) (Nat.ne_of_lt (Nat.lt_trans hb (Nat.lt_trans hLs3 hkl4lt))) (kb4 b o e)
    have hkb6 : KeepsH s.heap h6 := fun b o e => by
      have hb : @LT.lt Nat _ b s.heap.objs.size := Heap.lt_size e
      exact hk6 b o (by simp; exact Nat.ne_of_lt (Nat.lt_trans hb (Nat.lt_trans hLs3 hkl4lt))) (Nat.ne_of_lt hb) (hkb5 b o e)
    have hps12 : ps.length ≤ 12 := by have := LI.len; omega
    have htl := textOf_len ps fun p hp => (LI.good p hp).2
    have hml := mixedOf_len ps
    refine step (fun s' => ∃ r c, r ≤ 5 ∧ c ≠ 92 ∧ StS s s.heap.objs.size h6 m6 r c s') ?stA fun s7 hA => ?_
    case stA =>
      refine Assign_Tuple_swapped (names := [Str.ofString "run", Str.ofString "sign"]) (wpAny_Tuple ?_) rfl rfl
      have r1 : 0 ≤ nv.fmod 6 := Int.fmod_nonneg_of_pos _ (by decide)
      have r2 : nv.fmod 6 < 6 := Int.fmod_lt_of_pos _ (by decide)
      obtain ⟨r, hr⟩ := Int.eq_ofNat_of_zero_le r1
      have hr5 : r ≤ 5 := by omega
      obtain ⟨c, hc, hc92⟩ := sg_get nv
      have j1 : 0 ≤ (nv.fdiv 6).fmod 6 := Int.fmod_nonneg_of_pos _ (by decide)
      have j2 : (nv.fdiv 6).fmod 6 < 6 := Int.fmod_lt_of_pos _ (by decide)
      have jf : fitsSsize ((nv.fdiv 6).fmod 6) = true := by
        obtain ⟨j, hj⟩ := Int.eq_ofNat_of_zero_le j1
        rw [hj]; exact fits_small (by omega)
      have jl : (Str.ofString "a'? \n\r").length = 6 := by decide +kernel
      have ja : -((Str.ofString "a'? \n\r").length : Int) ≤ (nv.fdiv 6).fmod 6 := by rw [jl]; omega
      have jb : (nv.fdiv 6).fmod 6 < ((Str.ofString "a'? \n\r").length : Int) := by rw [jl]; omega
      have hitem : Txt.item (Str.ofString "a'? \n\r") ((nv.fdiv 6).fmod 6) = ⟨#[c]⟩ := by
        rw [← Int.toNat_of_nonneg j1]
        refine itemAt ?_
        rw [signs_eq, List.getElem?_toArray]; exact hc
      refine wpAny_items_cons (wpAny_BinOp (nmL (s := { s with heap := h6, toks := _ }) hn6 hmn (wpAny_Constant_int (mod_int' (by decide) ?_)) rfl rfl (by decide)))
      rw [hr]
      refine wpAny_items_cons (Subscript_ (nmG (s := { s with heap := h6, toks := _ }) (v := .str (Str.ofString "a'? \n\r") 298) (G.keeps hkb6) (lk_signs _) (wpAny_BinOp (wpAny_BinOp (nmL (s := { s with heap := h6, toks := _ }) hn6 hmn (wpAny_Constant_int (floordiv_int (by decide) ?_ (hp := .inl div_small))) rfl rfl (by decide)))) rfl rfl rfl (by decide)))
      refine wpAny_Constant_int (mod_int' (by decide) ?_)
      refine item_str (s := { s with heap := h6, toks := _ }) jf ja jb (fun _ => ?_) rfl (fun _ => rfl)
      rw [hitem]
      refine wpAny_items_nil ⟨by rw [sizeLine_eq]; simp, ?_⟩
      refine wpAny_unpackItems_tuple (items := #[.int r _, .str ⟨#[c]⟩ _]) R'.h ⟨_, Heap.get?_push_size _ rfl, rfl, _, rfl⟩ fun h7 hx7 => ?_
      have k7 : KeepsH h6 h7 := fun b o e => hx7 b o (Nat.ne_of_lt (by dsimp only; rw [Heap.size_push]; exact Nat.lt_succ_of_lt (Heap.lt_size e))) (Heap.get?_push_of_some _ e)
      refine wpAny_assignInOrder_more (wpAny_bindName (wpAny_storeName_local rfl (hn6.at' fun o e => k7 _ o e) (fun h8 hn8 hs8 => ?_) rfl))
      refine wpAny_assignInOrder_more (wpAny_bindName (wpAny_storeName_local rfl hn8 (fun h9 hn9 hs9 => ?_) rfl))
      refine wpAny_assignInOrder_none ⟨rfl, r, c, hr5, hc92, h9, _, _, _, _, rfl, hn9, by simp; rfl, by simp [sgn_ne]; rfl, fun y hy1 hy2 => by simp [hy1, hy2], fun b o hb e => hs9.extBut b o hb (hs8.extBut b o hb (k7 b o e))⟩
    -- a line feed behind a carriage return taken away
    refine step (fun s' => ∃ r c, r ≤ 5 ∧ c ≠ 92 ∧ StS s s.heap.objs.size h6 m6 r c s') ?stB fun s8 hB => ?_
    case stB =>
      obtain ⟨r, c, hr5, hc92, h7, tk7, m7, t71, t72, rfl, hn7, hmr7, hms7, hm7, hk7⟩ := hA
      have fin : ∀ tk, ∃ r c, r ≤ 5 ∧ c ≠ 92 ∧ StS s s.heap.objs.size h6 m6 r c { s with heap := h7, toks := tk } := fun tk => ⟨r, c, hr5, hc92, h7, tk, m7, t71, t72, rfl, hn7, hmr7, hms7, hm7, hk7⟩
      obtain ⟨tt, hmt⟩ := LI.text
      have hmt7 : m7 (Str.ofString "text") = some (.str ⟨(textOf ps).toArray⟩ tt) := (hm7 _ (by decide) (by decide)).trans ((hm6 _ (by decide)).trans hmt)
      refine wpAny_If (wpAny_isTrue_BoolOp (wpAny_allTrue_And_cons (wpAny_isTrue_Compare1 (nmL (s := { s with heap := h7, toks := tk7 }) hn7 hms7 (wpAny_Constant_str (P.eq_str (wpAny_truthy_bool ?_))) rfl rfl (by decide)))))
      refine split_bool (fun _ => ?_) (fun _ => ?_)
      case refine_2 => rw [if_neg Bool.false_ne_true]; exact wpAny_execs_nil ⟨rfl, fin _⟩
      refine wpAny_allTrue_And_cons (wpAny_isTrue_Compare1 (nmL (s := { s with heap := h7, toks := _ }) hn7 hmr7 (wpAny_Constant_int (P.eq_int (wpAny_truthy_bool ?_))) rfl rfl (by decide)))
      refine split_bool (fun _ => ?_) (fun _ => ?_)
      case refine_2 => rw [if_neg Bool.false_ne_true]; exact wpAny_execs_nil ⟨rfl, fin _⟩
      refine wpAny_allTrue_And_cons (wpAny_isTrue_Compare1 (Subscript_ (nmL (s := { s with heap := h7, toks := _ }) hn7 hmt7 (wpAny_Slice ?_) rfl rfl (by decide))))
      rw [evalPart_some]
      refine wpAny_UnaryOp (wpAny_Constant_int (P.neg_int ?_))
      rw [evalPart_none]
      refine wpAny_pure ?_
      refine wpAny_pure ?_
      refine tail_of_ItemOn (SBH.sliceItem_sn (P := KeepsH h7) (fun h ob hh b o e => Heap.get?_push_of_some _ (hh b o e)) (fun _ _ e => e) (fun h8 t8 k8 hk8 => ?_) ?hsz) rfl (fun _ => rfl)
      case hsz => rw [sizeLine_eq]; show (textOf ps).toArray.size ≤ _; rw [List.size_toArray]; omega
      refine wpAny_Constant_str (P.eq_str (wpAny_truthy_bool ?_))
      refine split_bool (fun _ => ?_) (fun _ => ?_)
      case refine_2 =>
        rw [if_neg Bool.false_ne_true]
        exact wpAny_execs_nil ⟨rfl, r, c, hr5, hc92, h8, _, m7, t71, t72, rfl, hn7.at' fun o e => hk8 _ o e, hmr7, hms7, hm7, fun b o hb e => hk8 b o (hk7 b o hb e)⟩
      refine wpAny_allTrue_And_nil ?_
      rw [if_pos rfl]
      refine wpAny_execs_cons (wpAny_Assign_Name (wpAny_Constant_str (wpAny_storeName_local rfl (s := { s with heap := h8, toks := _ }) (hn7.at' fun o e => hk8 _ o e) (fun h9 hn9 hs9 => ?_) rfl)) rfl)
      refine wpAny_execs_nil ⟨rfl, r, 97, hr5, by decide, h9, _, _, t71, _, rfl, hn9, by simp [run_ne]; exact hmr7, by simp; exact ⟨by decide +kernel, rfl⟩, fun y hy1 hy2 => by simp [hy2]; exact hm7 y hy1 hy2, fun b o hb e => hs9.extBut b o hb (hk8 b o (hk7 b o hb e))⟩
    -- an even run ahead of a line's end
    refine step (fun s' => ∃ r c, (Piece r c ∧ r ≤ 5) ∧ StS s s.heap.objs.size h6 m6 r c s') ?stC fun s9 hC => ?_
    case stC =>
      obtain ⟨r, c, hr5, hc92, h7, tk7, m7, t71, t72, rfl, hn7, hmr7, hms7, hm7, hk7⟩ := hB
      refine wpAny_If (wpAny_isTrue_BoolOp (wpAny_allTrue_And_cons (wpAny_isTrue_Compare1 (nmL (s := { s with heap := h7, toks := tk7 }) hn7 hms7 (wpAny_Constant_str (hasLfcr (wpAny_truthy_bool ?_))) rfl rfl (by decide)))))
      refine split_dec (fun hnl => ?_) (fun hnl => ?_)
      case refine_2 =>
        rw [if_neg Bool.false_ne_true]
        exact wpAny_execs_nil ⟨rfl, r, c, piece_of r c hc92 hr5 fun x => hnl x.1, h7, _, m7, t71, t72, rfl, hn7, hmr7, hms7, hm7, hk7⟩
      refine wpAny_allTrue_And_cons (wpAny_isTrue_Compare1 (nmL (s := { s with heap := h7, toks := _ }) hn7 hmr7 (wpAny_Tuple (wpAny_items_cons (wpAny_Constant_int (wpAny_items_cons (wpAny_Constant_int (wpAny_items_nil ⟨by rw [sizeLine_eq]; simp, ?_⟩)))))) rfl rfl (by decide)))
      refine in24 ⟨_, Heap.get?_push_size _ rfl, rfl, _, rfl⟩ (wpAny_truthy_bool ?_)
      refine split_dec (fun h24 => ?_) (fun h24 => ?_)
      case refine_2 =>
        rw [if_neg Bool.false_ne_true]
        exact wpAny_execs_nil ⟨rfl, r, c, piece_of r c hc92 hr5 fun x => h24 x.2, _, _, m7, t71, t72, rfl, hn7.push _, hmr7, hms7, hm7, fun b o hb e => Heap.get?_push_of_some _ (hk7 b o hb e)⟩
      refine wpAny_allTrue_And_nil ?_
      rw [if_pos rfl]
      refine wpAny_execs_cons (wpAny_AugAssign_Name (wpAny_loadName_local rfl rfl (hn7.push _) hmr7 (wpAny_Constant_int (P.iadd_int (wpAny_storeName_local rfl (hn7.push _) (fun h9 hn9 hs9 => ?_) rfl)))))
      refine wpAny_execs_nil ⟨rfl, r + 1, c, piece_of' r c hc92 h24, h9, _, _, _, t72, rfl, hn9, by simp; rfl, by simp [sgn_ne]; exact hms7, fun y hy1 hy2 => by simp [hy1]; exact hm7 y hy1 hy2, fun b o hb e => hs9.extBut b o hb (Heap.get?_push_of_some _ (hk7 b o hb e))⟩
    obtain ⟨r, c, hp, h7, tk7, m7, t71, t72, rfl, hn7, hmr7, hms7, hm7, hk7⟩ := hC
    have hm7' : ∀ y, y ≠ Str.ofString "run" → y ≠ Str.ofString "sign" → y ≠ Str.ofString "n" → m7 y = m5 y := fun y h1 h2 h3 => (hm7 y h1 h2).trans (hm6 y (by simpa using h3))
    obtain ⟨tt, hmt⟩ := LI.text
    obtain ⟨tb, hmb⟩ := LI.bare
    obtain ⟨tm, hmm⟩ := LI.mixed
    obtain ⟨kvs, hkl5, hki⟩ := LI.ks
    have hmt7 : m7 (Str.ofString "text") = some (.str ⟨(textOf ps).toArray⟩ tt) := (hm7' _ (by decide) (by decide) (by decide)).trans hmt
    have hmb7 : m7 (Str.ofString "bare") = some (.str ⟨(bareOf ps).toArray⟩ tb) := (hm7' _ (by decide) (by decide) (by decide)).trans hmb
    have hmm7 : m7 (Str.ofString "mixed") = some (.str ⟨(mixedOf ps).toArray⟩ tm) := (hm7' _ (by decide) (by decide) (by decide)).trans hmm
    have hmk7 : m7 (Str.ofString "kept") = some (.ref h3.objs.size) := (hm7' _ (by decide) (by decide) (by decide)).trans LI.kept
    have hr5 := hp.2
    -- text
    have et : ((⟨(textOf ps).toArray⟩ : Str) ++ (Txt.mul (Str.ofString "\\") (r : Int) ++ (⟨#[c]⟩ : Str))) = ⟨(textOf (ps ++ [(r, c)])).toArray⟩ := by
      refine str_of_list _ _ ?_
      rw [app_list, app_list, mul_bsl, textOf_append, textOf_one]; rfl
    have lx1 : (Txt.mul (Str.ofString "\\") (r : Int)).length = r := by
      show (Txt.mul (Str.ofString "\\") (r : Int)).cps.size = r
      rw [← Array.length_toList, mul_bsl, List.length_replicate]
    have lx2 : (Txt.mul (Str.ofString "\\") (r : Int) ++ (⟨#[c]⟩ : Str)).length = r + 1 := by
      show (Txt.mul (Str.ofString "\\") (r : Int) ++ (⟨#[c]⟩ : Str)).cps.size = r + 1
      rw [← Array.length_toList, app_list, mul_bsl]; simp
    have lx3 : (⟨(textOf ps).toArray⟩ : Str).length = (textOf ps).length := List.size_toArray
    have lb1 : (Str.ofString "\\").length = 1 := by decide +kernel
    have lb2 : (Str.ofString "\\\n").length = 2 := by decide +kernel
    have lc1 : (⟨#[c]⟩ : Str).length = 1 := rfl
    refine wpAny_execs_cons (wpAny_AugAssign_Name (wpAny_loadName_local (s := { s with heap := h7, toks := tk7 }) rfl rfl hn7 hmt7 (wpAny_BinOp (wpAny_BinOp (wpAny_Constant_str (nmL (s := { s with heap := h7, toks := _ }) hn7 hmr7 ?_ rfl rfl (by decide)))))))
    refine SB.mul (mulOk_of 1 5 (by omega) (by omega) (by omega) (by decide) (by decide)) fun t1 k1 => ?_
    refine nmL (s := { s with heap := h7, toks := k1 }) hn7 hms7 (SB.add (fun t2 k2 => SB.iadd (fun t3 k3 => ?_) ?sz2) ?sz1) rfl rfl (by decide)
    case sz1 => rw [lx1, lc1, sizeLine_eq]; omega
    case sz2 => rw [lx2, lx3, sizeLine_eq]; omega
    rw [et]
    refine wpAny_storeName_local rfl (s := { s with heap := h7, toks := k3 }) hn7 (fun h8 hn8 hs8 => ?_) rfl
    -- mixed
    have er3 : ((r : Int)).fmod 3 = ((r % 3 : Nat) : Int) := by
      rw [Int.fmod_eq_emod_of_nonneg _ (by decide)]; omega
    have em : ((⟨(mixedOf ps).toArray⟩ : Str) ++ (Txt.mul (Str.ofString "\\\n") ((r % 3 : Nat) : Int) ++ (⟨#[c]⟩ : Str))) = ⟨(mixedOf (ps ++ [(r, c)])).toArray⟩ := by
      refine str_of_list _ _ ?_
      rw [app_list, app_list, mul_cont, mixedOf_append, mixedOf_one]; rfl
    have ly1 : (Txt.mul (Str.ofString "\\\n") ((r % 3 : Nat) : Int)).length = 2 * (r % 3) := by
      show (Txt.mul (Str.ofString "\\\n") ((r % 3 : Nat) : Int)).cps.size = _
      rw [← Array.length_toList, mul_cont, cont_length]
    have ly2 : (Txt.mul (Str.ofString "\\\n") ((r % 3 : Nat) : Int) ++ (⟨#[c]⟩ : Str)).length = 2 * (r % 3) + 1 := by
      show (Txt.mul (Str.ofString "\\\n") ((r % 3 : Nat) : Int) ++ (⟨#[c]⟩ : Str)).cps.size = _
      rw [← Array.length_toList, app_list, mul_cont, List.length_append, cont_length]; simp
    have ly3 : (⟨(mixedOf ps).toArray⟩ : Str).length = (mixedOf ps).length := List.size_toArray
    have ly4 : (⟨(mixedOf (ps ++ [(r, c)])).toArray⟩ : Str).length = (mixedOf ps).length + 2 * (r % 3) + 1 := by
      show (mixedOf (ps ++ [(r, c)])).toArray.size = _
      rw [List.size_toArray, mixedOf_append, mixedOf_one, List.length_append, pieceM_length]; omega
    replace hn8 : h8.Ns s.heap.objs.size (upd m7 (Str.ofString "text") (.str ⟨(textOf (ps ++ [(r, c)])).toArray⟩ t3)) := hn8
    refine wpAny_execs_cons (wpAny_AugAssign_Name (wpAny_loadName_local (s := { s with heap := h8, toks := _ }) rfl rfl hn8 ((upd_ne (by decide)).trans hmm7) (wpAny_BinOp (wpAny_BinOp (wpAny_Constant_str (wpAny_BinOp (nmL (s := { s with heap := h8, toks := _ }) hn8 ((upd_ne (by decide)).trans hmr7) (wpAny_Constant_int (mod_int' (by decide) ?_)) rfl rfl (by decide))))))))
    rw [er3]
    refine SB.mul (mulOk_of 2 5 (by omega) (by omega) (by omega) (by decide) (by decide)) fun t4 k4' => ?_
    refine nmL (s := { s with heap := h8, toks := k4' }) hn8 ((upd_ne (by decide)).trans hms7) (SB.add (fun t5 k5 => SB.iadd (fun t6 k6 => ?_) ?sz4) ?sz3) rfl rfl (by decide)
    case sz3 => rw [ly1, lc1, sizeLine_eq]; omega
    case sz4 => rw [ly2, ly3, sizeLine_eq]; omega
    rw [em]
    refine wpAny_storeName_local rfl (s := { s with heap := h8, toks := k6 }) hn8 (fun h9 hn9 hs9 => ?_) rfl
    -- kept.append
    have k9 : ∀ b o, b ≠ s.heap.objs.size → h5.get? b = some o → b ≠ h4.objs.size → h9.get? b = some o := fun b o hb e hI => hs9.extBut b o hb (hs8.extBut b o hb (hk7 b o hb (hk6 b o (by simp; exact hI) hb e)))
    have hkl9 : LstX h9 h3.objs.size kvs.toArray := hkl5.at fun o e => k9 _ o (Nat.ne_of_gt hLs3) e (Nat.ne_of_lt hkl4lt)
    have hkb9 : KeepsH s.heap h9 := fun b o e => by
      have hb : @LT.lt Nat _ b s.heap.objs.size := Heap.lt_size e
      exact k9 b o (Nat.ne_of_lt hb) (hkb5 b o e) (Nat.ne_of_lt (Nat.lt_trans hb (Nat.lt_trans hLs3 hkl4lt)))
    replace hn9 : h9.Ns s.heap.objs.size (upd (upd m7 (Str.ofString "text") (.str ⟨(textOf (ps ++ [(r, c)])).toArray⟩ t3)) (Str.ofString "mixed") (.str ⟨(mixedOf (ps ++ [(r, c)])).toArray⟩ t6)) := hn9
    have hkvl : kvs.length = ps.length := by rw [hki.length, List.length_map, keptMix_length]
    refine wpAny_execs_cons (wpAny_Expr (wpAny_Call_method rfl rfl rfl F.plainAttrs_list F.slot_list_append F.type_list_append (nmL (s := { s with heap := h9, toks := _ }) hn9 ((upd_ne (by decide)).trans ((upd_ne (by decide)).trans hmk7)) ⟨hkl9.isList.typeIs, ?dict, ?call⟩ rfl rfl (by decide))) rfl rfl)
    case dict =>
      intro a e
      obtain ⟨n9, e9⟩ := hkl9
      cases e
      exact ⟨_, e9, rfl⟩
    case call =>
      refine callWithM1 (wpAny_items_cons (wpAny_BinOp (wpAny_Call_Name_kw (nmB (s := { s with heap := h9, toks := _ }) (G.keeps hkb9) (by kernel_rfl) bt_len (by decide) ?_ rfl rfl rfl rfl (by decide))))) rfl
      refine callWithB (wpAny_items_cons (nmL (s := { s with heap := h9, toks := _ }) hn9 (upd_eq _ _ _) (wpAny_items_nil ?_) rfl rfl (by decide)) rfl) rfl rfl
      refine P.len_str (by rw [ly4]; omega) ?_
      refine wpAny_Constant_int (P.sub_int ?_)
      refine wpAny_items_nil ?_
      refine appendL hkl9 (by rw [sizeLine_eq]; omega) fun h10 hl10 hs10 => ?_
      dsimp only
      have k10 : ∀ b o, b ≠ h3.objs.size → h9.get? b = some o → h10.get? b = some o := fun b o hb e => hs10.extBut b o hb e
      have hn10 := hn9.at' (h' := h10) fun o e => k10 _ o (Nat.ne_of_lt hLs3) e
      -- bare
      have eb : ((⟨(bareOf ps).toArray⟩ : Str) ++ (⟨#[c]⟩ : Str)) = ⟨(bareOf (ps ++ [(r, c)])).toArray⟩ := by
        refine str_of_list _ _ ?_
        rw [app_list, bareOf_append]; rfl
      have lz3 : (⟨(bareOf ps).toArray⟩ : Str).length = ps.length := by
        show (bareOf ps).toArray.size = _
        rw [List.size_toArray, bareOf, List.length_map]
      refine wpAny_execs_cons (wpAny_AugAssign_Name (wpAny_loadName_local (s := { s with heap := h10, toks := _ }) rfl rfl hn10 ((upd_ne (by decide)).trans ((upd_ne (by decide)).trans hmb7)) (nmL (s := { s with heap := h10, toks := _ }) hn10 ((upd_ne (by decide)).trans ((upd_ne (by decide)).trans hms7)) (SB.iadd (fun t7 k7' => ?_) ?sz5) rfl rfl (by decide))))
      case sz5 => rw [lz3, lc1, sizeLine_eq]; omega
      rw [eb]
      refine wpAny_storeName_local rfl (s := { s with heap := h10, toks := k7' }) hn10 (fun h11 hn11 hs11 => ?_) rfl
      replace hn11 : h11.Ns s.heap.objs.size (upd (upd (upd m7 (Str.ofString "text") (.str ⟨(textOf (ps ++ [(r, c)])).toArray⟩ t3)) (Str.ofString "mixed") (.str ⟨(mixedOf (ps ++ [(r, c)])).toArray⟩ t6)) (Str.ofString "bare") (.str ⟨(bareOf (ps ++ [(r, c)])).toArray⟩ t7)) := hn11
      have k11 : ∀ b o, b ≠ s.heap.objs.size → b ≠ h3.objs.size → h6.get? b = some o → h11.get? b = some o := fun b o hb hb2 e => hs11.extBut b o hb (k10 b o hb2 (hs9.extBut b o hb (hs8.extBut b o hb (hk7 b o hb e))))
      refine wpAny_execs_nil ⟨rfl, _, ?_, hn11, h11, _, ps ++ [(r, c)], rfl, ?_⟩
      · exact ⟨hSt6.1.at fun o e => k11 _ o (Ne.symm hLI) (Nat.ne_of_gt hkl4lt) e, hSt6.2.at fun o e => k11 _ o hDL (Nat.ne_of_lt hD3lt) e⟩
      · refine ⟨by rw [List.length_append, LI.len]; rfl, fun p hp' => ?_, ⟨t3, (upd_ne (by decide)).trans ((upd_ne (by decide)).trans (upd_eq _ _ _))⟩, ⟨t7, upd_eq _ _ _⟩, ⟨t6, (upd_ne (by decide)).trans (upd_eq _ _ _)⟩, (upd_ne (by decide)).trans ((upd_ne (by decide)).trans ((upd_ne (by decide)).trans hmk7)), ⟨_, hl10.at (h' := h11) fun o e => hs11.extBut _ o (Nat.ne_of_gt hLs3) e, ?_⟩, ?_, ?_, fun b o hb1 hb2 hb3 e => k11 b o hb1 hb2 (hk6 b o (by simp; exact hb3) hb1 (LI.keep b o hb1 hb2 hb3 e))⟩
        · rcases List.mem_append.mp hp' with hp' | hp'
          · exact LI.good p hp'
          · rw [List.mem_singleton.mp hp']; exact hp
        · rw [keptMix_snoc, List.map_append]
          refine IntsAre.append hki ?_
          rw [ly4]
          have e : (((mixedOf ps).length + 2 * (r % 3) + 1 : Nat) : Int) - 1 = Int.ofNat (0 + (mixedOf ps).length + 2 * (r % 3)) := by
            show _ = ((0 + (mixedOf ps).length + 2 * (r % 3) : Nat) : Int)
            omega
          rw [e]
          exact .cons _ _ .nil
        · exact (upd_ne (by decide)).trans ((upd_ne (by decide)).trans ((upd_ne (by decide)).trans ((hm7' _ (by decide) (by decide) (by decide)).trans LI.lead)))
        · exact (upd_ne (by decide)).trans ((upd_ne (by decide)).trans ((upd_ne (by decide)).trans ((hm7' _ (by decide) (by decide) (by decide)).trans LI.drawn)))
  case done =>
    rintro s5 m5 h6 tk6 ⟨h5, tk5, ps, rfl, LI⟩ hn5 hk6
    dsimp only at hn5 hk6
    have hpsl : ps.length = ds.length := by rw [LI.len, List.size_toArray, hdvl]
    have hps12 : ps.length ≤ 12 := by omega
    have htl := textOf_len ps fun p hp => (LI.good p hp).2
    have hml := mixedOf_len ps
    have hgood : ∀ p ∈ ps, Piece p.1 p.2 := fun p hp => (LI.good p hp).1
    obtain ⟨tt, hmt⟩ := LI.text
    obtain ⟨tb, hmb⟩ := LI.bare
    obtain ⟨tm, hmm⟩ := LI.mixed
    obtain ⟨kvs, hkl5, hki⟩ := LI.ks
    have k6 : ∀ b o, b ≠ h4.objs.size → h5.get? b = some o → h6.get? b = some o := fun b o hb e => hk6 b o (by simpa using hb) e
    have hn6 : h6.Ns s.heap.objs.size m5 := hn5.at' fun o e => k6 _ o hLI e
    have k46 : ∀ b o, b ≠ s.heap.objs.size → b ≠ h3.objs.size → b ≠ h4.objs.size → h4.get? b = some o → h6.get? b = some o := fun b o h1 h2 h3' e => k6 b o h3' (LI.keep b o h1 h2 h3' e)
    have hkb6 : KeepsH s.heap h6 := fun b o e => by
      have hb : @LT.lt Nat _ b s.heap.objs.size := Heap.lt_size e
      exact k46 b o (Nat.ne_of_lt hb) (Nat.ne_of_lt (Nat.lt_trans hb hLs3)) (Nat.ne_of_lt (Nat.lt_trans hb (Nat.lt_trans hLs3 hkl4lt))) (kb4 b o e)
    have hkl6 : LstX h6 h3.objs.size kvs.toArray := hkl5.at fun o e => k6 _ o (Nat.ne_of_lt hkl4lt) e
    have hlD6 : h6.IsList D dvs.toArray := hlD4.at fun o e => k46 _ o hDL (Nat.ne_of_lt hD3lt) hDI e
    have hcC4lt : @LT.lt Nat _ (s.heap.objs.size + 1) h1.objs.size := (cellAt hcC fun o e => k1 _ o (Nat.ne_of_gt (Nat.lt_succ_self _)) e).lt
    have hcT4lt : @LT.lt Nat _ (s.heap.objs.size + 2) h1.objs.size := (cellAt hcT fun o e => k1 _ o (Nat.ne_of_gt (Nat.lt_succ_of_lt (Nat.lt_succ_self _))) e).lt
    have h13 : @LE.le Nat _ h1.objs.size h3.objs.size := Nat.le_trans hDge (Nat.le_of_lt hD3lt)
    have hc1 : @LT.lt Nat _ (s.heap.objs.size + 1) h3.objs.size := Nat.lt_of_lt_of_le hcC4lt h13
    have hc2 : @LT.lt Nat _ (s.heap.objs.size + 2) h3.objs.size := Nat.lt_of_lt_of_le hcT4lt h13
    have hcC6 : h6.IsCell (s.heap.objs.size + 1) none := cellAt hcC4 fun o e => k46 _ o (Nat.ne_of_gt (Nat.lt_succ_self _)) (Nat.ne_of_lt hc1) (Nat.ne_of_lt (Nat.lt_trans hc1 hkl4lt)) e
    have hcT6 : h6.IsCell (s.heap.objs.size + 2) none := cellAt hcT4 fun o e => k46 _ o (Nat.ne_of_gt (Nat.lt_succ_of_lt (Nat.lt_succ_self _))) (Nat.ne_of_lt hc2) (Nat.ne_of_lt (Nat.lt_trans hc2 hkl4lt)) e
    -- mixed, its end
    have q1 : 0 ≤ k.fmod 3 := Int.fmod_nonneg_of_pos _ (by decide)
    have q2 : k.fmod 3 < 3 := Int.fmod_lt_of_pos _ (by decide)
    obtain ⟨kk, hkk⟩ := Int.eq_ofNat_of_zero_le q1
    have hkk2 : kk ≤ 2 := by omega
    have em : ((⟨(mixedOf ps).toArray⟩ : Str) ++ Txt.mul (Str.ofString "\\\n") (kk : Int)) = ⟨(mixedOf ps ++ cont kk).toArray⟩ := by
      refine str_of_list _ _ ?_
      rw [app_list, mul_cont]
    have ly1 : (Txt.mul (Str.ofString "\\\n") (kk : Int)).length = 2 * kk := by
      show (Txt.mul (Str.ofString "\\\n") (kk : Int)).cps.size = _
      rw [← Array.length_toList, mul_cont, cont_length]
    have ly3 : (⟨(mixedOf ps).toArray⟩ : Str).length = (mixedOf ps).length := List.size_toArray
    have lb2 : (Str.ofString "\\\n").length = 2 := by decide +kernel
    refine wpAny_execs_cons (wpAny_AugAssign_Name (wpAny_loadName_local (s := { s with heap := h6, toks := tk6 }) rfl rfl hn6 hmm (wpAny_BinOp (wpAny_Constant_str (wpAny_BinOp (nmL (s := { s with heap := h6, toks := _ }) hn6 LI.lead (wpAny_Constant_int (mod_int' (by decide) ?_)) rfl rfl (by decide)))))))
    rw [hkk]
    refine SB.mul (mulOk_of 2 5 (by omega) (by omega) (by omega) (by decide) (by decide)) fun t4 k4' => SB.iadd (fun t6 k6' => ?_) ?sz4
    case sz4 => rw [ly1, ly3, sizeLine_eq]; omega
    rw [em]
    refine wpAny_storeName_local rfl (s := { s with heap := h6, toks := k6' }) hn6 (fun h7 hn7 hs7 => ?_) rfl
    replace hn7 : h7.Ns s.heap.objs.size (upd m5 (Str.ofString "mixed") (.str ⟨(mixedOf ps ++ cont kk).toArray⟩ t6)) := hn7
    generalize hm7 : upd m5 (Str.ofString "mixed") (.str ⟨(mixedOf ps ++ cont kk).toArray⟩ t6) = m7 at hn7
    have e7 : ∀ y, y ≠ Str.ofString "mixed" → m7 y = m5 y := fun y hy => by rw [← hm7]; exact upd_ne hy
    have hmm7 : m7 (Str.ofString "mixed") = some (.str ⟨(mixedOf ps ++ cont kk).toArray⟩ t6) := by rw [← hm7]; exact upd_eq _ _ _
    have hmt7 : m7 (Str.ofString "text") = some (.str ⟨(textOf ps).toArray⟩ tt) := (e7 _ (by decide)).trans hmt
    have hmb7 : m7 (Str.ofString "bare") = some (.str ⟨(bareOf ps).toArray⟩ tb) := (e7 _ (by decide)).trans hmb
    have hmk7 : m7 (Str.ofString "kept") = some (.ref h3.objs.size) := (e7 _ (by decide)).trans LI.kept
    have hmd7 : m7 (Str.ofString "drawn") = some (.ref D) := (e7 _ (by decide)).trans LI.drawn
    clear hm7 e7
    have k7 : ∀ b o, b ≠ s.heap.objs.size → h6.get? b = some o → h7.get? b = some o := fun b o hb e => hs7.extBut b o hb e
    have hkb7 : KeepsH s.heap h7 := fun b o e => k7 b o (Nat.ne_of_lt (Heap.lt_size e)) (hkb6 b o e)
    have hkl7 : LstX h7 h3.objs.size kvs.toArray := hkl6.at fun o e => k7 _ o (Nat.ne_of_gt hLs3) e
    have hlD7 : h7.IsList D dvs.toArray := hlD6.at fun o e => k7 _ o hDL e
    have hcC7 : h7.IsCell (s.heap.objs.size + 1) none := cellAt hcC6 fun o e => k7 _ o (Nat.ne_of_gt (Nat.lt_succ_self _)) e
    have hcT7 : h7.IsCell (s.heap.objs.size + 2) none := cellAt hcT6 fun o e => k7 _ o (Nat.ne_of_gt (Nat.lt_succ_of_lt (Nat.lt_succ_self _))) e
    clear hcC6 hcT6 hlD6 hkl6 k46 hkl5 hn5 hn6 hk6
    -- cols
    refine wpAny_execs_cons (wpAny_Assign_Name (ListCompB (cl := []) (closureFor_none (by decide)) (by decide) rfl (by decide) ?_ (fun _ => rfl)) rfl)
    refine nmL (s := { s with heap := h7, toks := _ }) hn7 hmd7 (wpAny_pyIter_list hlD7 ?_) rfl rfl (by decide)
    have hD7lt : @LT.lt Nat _ D h7.objs.size := let ⟨_, e, _⟩ := hlD7; Heap.lt_size e
    have hsz8 : (h7.push { cls := .type "list_iterator", data := .fields #[.ref D, .int 0 0] }).objs.size = h7.objs.size + 1 := Heap.size_push ..
    refine .mk h7.objs.size [h7.objs.size, D] [h7.objs.size] dvs.toArray.size _ _ [Str.ofString "n"] (fun i _ ys => i ≤ ds.length ∧ IntsAre ys ((ds.map (·.fdiv 36)).take i)) rfl
      (Bd.ofWalks (Walks.list R'.h h7.objs.size D (Nat.ne_of_lt hD7lt) dvs.toArray) rfl rfl) (by rw [List.size_toArray, hdvl, sizeLine_eq]; omega) ⟨⟨_, Heap.get?_push_size _ rfl, rfl, rfl⟩, hlD7.at fun o e => Heap.get?_push_of_some _ e⟩
      (by intro b hb; rw [hsz8]; simp at hb; rcases hb with rfl | rfl; exact Nat.lt_succ_self _; exact Nat.lt_succ_of_lt hD7lt) ?_ ?_ ?_ ?_ ?_
    · exact fun i h h' ys x _ => x
    · rintro i h ys ⟨x, y⟩
      rw [y.length, List.length_take, List.length_map]; omega
    · exact fun h => ⟨Nat.zero_le _, .nil⟩
    · rintro i s8 m8 ys hi8 ⟨hi8', hI8⟩ ⟨nvv, hmn8, hnv8⟩ hn8 hk8
      have hids : i < ds.length := by rw [List.size_toArray, hdvl] at hi8; exact hi8
      obtain ⟨nt, hnt⟩ := hiD.get i ds[i] (List.getElem?_eq_getElem hids)
      have hnvv : nvv = .int ds[i] nt := by
        rw [List.getElem?_toArray, hnt] at hnv8; exact (Option.some.inj hnv8).symm
      subst hnvv
      refine wpAny_BinOp (nmL hn8 hmn8 (wpAny_Constant_int (floordiv_int (by decide) ?_ (hp := .inl div_small36))) rfl rfl (by decide))
      refine ⟨⟨hids, ?_⟩, _, _, rfl, fun _ _ e => e⟩
      rw [List.take_add_one, List.getElem?_map, List.getElem?_eq_getElem hids]
      exact IntsAre.append hI8 (.cons _ _ .nil)
    rintro h8 tk8 cvs hlC ⟨_, hiC⟩ hk8
    rw [List.size_toArray, hdvl, ← List.length_map (f := (·.fdiv 36)), List.take_length] at hiC
    generalize hcns : ds.map (·.fdiv 36) = cns at hiC
    have hcl : cns.length = ds.length := by rw [← hcns, List.length_map]
    have hcne : cns ≠ [] := fun h => hdne (by rw [h] at hcl; exact List.length_eq_zero_iff.mp hcl.symm)
    dsimp only at hlC hk8 ⊢
    rw [hsz8] at hlC ⊢
    have k8 : KeepsH h7 h8 := fun b o e => hk8 b o (by simp; exact Nat.ne_of_lt (Heap.lt_size e)) (Heap.get?_push_of_some _ e)
    have hC2 : @LT.lt Nat _ (h7.objs.size + 1) h8.objs.size := let ⟨_, e, _⟩ := hlC; Heap.lt_size e
    have hL7 : @LT.lt Nat _ s.heap.objs.size h7.objs.size := hn7.lt
    have hcC7lt := hcC7.lt
    have hcT7lt := hcT7.lt
    refine wpAny_storeName_cell (s := { s with heap := h8, toks := tk8 }) rfl rfl rfl (cellAt hcC7 fun o e => k8 _ o e) fun h9 hc9 hs9 => ?_
    replace hs9 : Heap.SameBut (s.heap.objs.size + 1) h8 h9 := hs9
    have k9 : ∀ b o, b ≠ s.heap.objs.size + 1 → h7.get? b = some o → h9.get? b = some o := fun b o hb e => hs9.extBut b o hb (k8 b o e)
    have hn9 : h9.Ns s.heap.objs.size m7 := hn7.at' fun o e => k9 _ o (Nat.ne_of_lt (Nat.lt_succ_self _)) e
    have hkb9 : KeepsH s.heap h9 := fun b o e => k9 b o (Nat.ne_of_lt (Nat.lt_succ_of_lt (Heap.lt_size e))) (hkb7 b o e)
    have hlC9 : h9.IsList (h7.objs.size + 1) cvs.toArray := hlC.at fun o e => hs9.extBut _ o (Nat.ne_of_gt (Nat.lt_succ_of_lt hcC7lt)) e
    have hkl9 : LstX h9 h3.objs.size kvs.toArray := hkl7.at fun o e => k9 _ o (Nat.ne_of_gt hc1) e
    have hcT9 : h9.IsCell (s.heap.objs.size + 2) none := cellAt hcT7 fun o e => k9 _ o (Nat.ne_of_gt (Nat.lt_succ_self _)) e
    have G9 : Gd w mg mb h9 := G.keeps hkb9
    -- chars
    have lx3 : (⟨(textOf ps).toArray⟩ : Str).cps.size = (textOf ps).length := List.size_toArray
    refine wpAny_execs_cons (wpAny_Assign_Name (wpAny_Call_Name_kw (nmG (v := .ref 88) (s := { s with heap := h9, toks := tk8 }) G9 (by kernel_rfl) ?_ rfl rfl rfl (by decide))) rfl)
    refine callWith_K G9.X (by kernel_rfl) (wpAny_items_cons (nmL (s := { s with heap := h9, toks := tk8 }) hn9 hmt7 ?_ rfl rfl (by decide)) rfl) rfl rfl
    refine wpAny_items_cons (nmC (s := { s with heap := h9, toks := tk8 }) rfl hc9 (wpAny_items_nil ⟨G9.X, ?_⟩) rfl rfl (by decide)) rfl
    refine charsCall (s := { s with heap := h9, toks := tk8 }) G9 (R'.mono (by decide)) hlC9 hiC hcne (by omega) (by rw [lx3]; omega) fun h10 tk10 ch k10 hch => ?_
    dsimp only at k10 hch ⊢
    refine wpAny_storeName_local (s := { s with heap := h10, toks := tk10 }) rfl (hn9.at' fun o e => k10 _ o e) (fun h11 hn11 hs11 => ?_) rfl
    replace hn11 : h11.Ns s.heap.objs.size (upd m7 (Str.ofString "chars") (.ref ch)) := hn11
    have k11 : ∀ b o, b ≠ s.heap.objs.size → h9.get? b = some o → h11.get? b = some o := fun b o hb e => hs11.extBut b o hb (k10 b o e)
    have hL9 : @LT.lt Nat _ s.heap.objs.size h9.objs.size := hn9.lt
    have hch11 : Chars w h9.objs.size h11 ch (charsOf (colAt cns) (textOf ps)) := hch.keep fun b o hb e => hs11.extBut b o (Nat.ne_of_gt (Nat.lt_of_lt_of_le hL9 hb)) e
    have hkb11 : KeepsH s.heap h11 := fun b o e => k11 b o (Nat.ne_of_lt (Heap.lt_size e)) (hkb9 b o e)
    have G11 : Gd w mg mb h11 := G.keeps hkb11
    have hc11 : h11.IsCell (s.heap.objs.size + 1) (some (.ref (h7.objs.size + 1))) := cellAt hc9 fun o e => k11 _ o (Nat.ne_of_gt (Nat.lt_succ_self _)) e
    have hcT11 : h11.IsCell (s.heap.objs.size + 2) none := cellAt hcT9 fun o e => k11 _ o (Nat.ne_of_gt (Nat.lt_succ_of_lt (Nat.lt_succ_self _))) e
    have hlC11 : h11.IsList (h7.objs.size + 1) cvs.toArray := hlC9.at fun o e => k11 _ o (Nat.ne_of_gt (Nat.lt_succ_of_lt hL7)) e
    have hkl11 : LstX h11 h3.objs.size kvs.toArray := hkl9.at fun o e => k11 _ o (Nat.ne_of_gt hLs3) e
    have htcl : (charsOf (colAt cns) (textOf ps)).length ≤ 72 := by rw [charsOf_length]; omega
    -- told
    refine wpAny_execs_cons (wpAny_Assign_Name (wpAny_Call_Name_kw (nmG (v := .ref 93) (s := { s with heap := h11, toks := _ }) G11 (by kernel_rfl) ?_ rfl rfl rfl (by decide))) rfl)
    refine callWith_K G11.X (by kernel_rfl) (wpAny_items_cons (nmL (s := { s with heap := h11, toks := _ }) hn11 (upd_eq _ _ _) (wpAny_items_nil ⟨G11.X, ?_⟩) rfl rfl (by decide)) rfl) rfl rfl
    refine toldCall (s := { s with heap := h11, toks := _ }) G11 (R'.mono (by decide)) hch11 (by omega) fun h12 tk12 td k12 htd => ?_
    dsimp only at k12 htd ⊢
    refine wpAny_storeName_cell (s := { s with heap := h12, toks := tk12 }) rfl rfl rfl (cellAt hcT11 fun o e => k12 _ o e) fun h13 hc13 hs13 => ?_
    replace hs13 : Heap.SameBut (s.heap.objs.size + 2) h12 h13 := hs13
    have hcT11lt := hcT11.lt
    have k13 : ∀ b o, b ≠ s.heap.objs.size + 2 → h11.get? b = some o → h13.get? b = some o := fun b o hb e => hs13.extBut b o hb (k12 b o e)
    have hn13 : h13.Ns s.heap.objs.size (upd m7 (Str.ofString "chars") (.ref ch)) := hn11.at' fun o e => k13 _ o (Nat.ne_of_lt (Nat.lt_succ_of_lt (Nat.lt_succ_self _))) e
    have htd13 : Tups h11.objs.size h13 td (charsOf (colAt cns) (textOf ps)) := htd.keep fun b o hb e => hs13.extBut b o (Nat.ne_of_gt (Nat.lt_of_lt_of_le hcT11lt hb)) e
    have hT9lt := hcT9.lt
    have hch13 : Chars w h9.objs.size h13 ch (charsOf (colAt cns) (textOf ps)) := hch11.keep fun b o hb e => k13 b o (Nat.ne_of_gt (Nat.lt_of_lt_of_le hT9lt hb)) e
    have hkb13 : KeepsH s.heap h13 := fun b o e => k13 b o (Nat.ne_of_lt (Nat.lt_succ_of_lt (Nat.lt_succ_of_lt (Heap.lt_size e)))) (hkb11 b o e)
    have G13 : Gd w mg mb h13 := G.keeps hkb13
    have hcC13 : h13.IsCell (s.heap.objs.size + 1) (some (.ref (h7.objs.size + 1))) := cellAt hc11 fun o e => k13 _ o (Nat.ne_of_lt (Nat.lt_succ_self _)) e
    have hlC13 : h13.IsList (h7.objs.size + 1) cvs.toArray := hlC11.at fun o e => k13 _ o (Nat.ne_of_gt (Nat.lt_succ_of_lt hcT7lt)) e
    have hkl13 : LstX h13 h3.objs.size kvs.toArray := hkl11.at fun o e => k13 _ o (Nat.ne_of_gt hc2) e
    have hm13 : ∀ y, y ≠ Str.ofString "chars" → upd m7 (Str.ofString "chars") (.ref ch) y = m7 y := fun y hy => upd_ne hy
    have hmc13 : upd m7 (Str.ofString "chars") (.ref ch) (Str.ofString "chars") = some (.ref ch) := upd_eq _ _ _
    generalize upd m7 (Str.ofString "chars") (.ref ch) = m13 at hn13 hm13 hmc13
    -- due, from the text
    obtain ⟨tvs, htl13, hta13⟩ := htd13
    have htvl := hta13.length
    have hL13 : @LT.lt Nat _ s.heap.objs.size h13.objs.size := hn13.lt
    refine wpAny_execs_cons (AssignCompB (cl := [(Str.ofString "told", s.heap.objs.size + 2)]) rfl rfl (by decide) rfl (by decide) rfl rfl ?_ (fun _ => rfl))
    refine wpAny_Call_Name_kw (nmG (v := .ref 98) (s := { s with heap := h13, toks := _ }) G13 (by kernel_rfl) ?_ rfl rfl rfl (by decide))
    refine callWith_K G13.X (by kernel_rfl) (wpAny_items_cons (nmL (s := { s with heap := h13, toks := _ }) hn13 ((hm13 _ (by decide)).trans hmt7) (wpAny_items_nil ⟨G13.X, ?_⟩) rfl rfl (by decide)) rfl) rfl rfl
    refine keptCall (s := { s with heap := h13, toks := _ }) G13 (R'.mono (by decide)) (by rw [lx3]; omega) fun h14 tk14 kl' kv k14 hlK hiK => ?_
    dsimp only at k14 ⊢
    have etx : (⟨(textOf ps).toArray⟩ : Str).cps.toList = textOf ps := by simp
    rw [etx] at hiK
    refine wpAny_pyIter_list (s := { s with heap := h14, toks := tk14 }) hlK ?_
    have hK14 : @LT.lt Nat _ kl' h14.objs.size := let ⟨_, e, _⟩ := hlK; Heap.lt_size e
    have hn14 : h14.Ns s.heap.objs.size m13 := hn13.at' fun o e => k14 _ o e
    have hL14 : @LT.lt Nat _ s.heap.objs.size h14.objs.size := hn14.lt
    have hsz14 : (h14.push { cls := .type "list_iterator", data := .fields #[.ref kl', .int 0 0] }).objs.size = h14.objs.size + 1 := Heap.size_push ..
    have hkvl : kv.length = (keptOf (textOf ps)).length := by rw [hiK.length, List.length_map]
    have hkl72 : (keptOf (textOf ps)).length ≤ 72 := by
      have := List.length_filter_le (fun i => !(goneUp (textOf ps) (textOf ps).length).contains i) (List.range (textOf ps).length)
      rw [List.length_range] at this
      exact Nat.le_trans this (by omega)
    refine ⟨by dsimp only; rw [hsz14]; exact Nat.lt_succ_of_lt hL14, m13, .mk h14.objs.size [h14.objs.size, kl'] [h14.objs.size] kv.toArray.size _ _ [Str.ofString "at"]
      (fun i _ ys => i ≤ (keptOf (textOf ps)).length ∧ ys = ((keptOf (textOf ps)).take i).map fun j => tvs.getD j .none) rfl
      (Bd.ofWalks (Walks.list R'.h h14.objs.size kl' (Nat.ne_of_lt hK14) kv.toArray) rfl rfl) (by rw [List.size_toArray, hkvl, sizeLine_eq]; omega) ⟨⟨_, Heap.get?_push_size _ rfl, rfl, rfl⟩, hlK.at fun o e => Heap.get?_push_of_some _ e⟩
      (by intro b hb; rw [hsz14]; simp at hb; rcases hb with rfl | rfl; exact Nat.lt_succ_self _; exact Nat.lt_succ_of_lt hK14) ?_ ?_ ?_ ?_ ?_⟩
    · exact fun i h h' ys x _ => x
    · rintro i h ys ⟨x, rfl⟩
      rw [List.length_map, List.length_take]; omega
    · exact fun h => ⟨Nat.zero_le _, rfl⟩
    · rintro i s8 m8 ys hi8 ⟨hi8', hI8⟩ ⟨nvv, hmn8, hnv8⟩ hn8 hk8
      have hids : i < (keptOf (textOf ps)).length := by rw [List.size_toArray, hkvl] at hi8; exact hi8
      obtain ⟨nt, hnt⟩ := hiK.get i (Int.ofNat (keptOf (textOf ps))[i]) (by rw [List.getElem?_map, List.getElem?_eq_getElem hids]; rfl)
      have hnvv : nvv = .int (Int.ofNat (keptOf (textOf ps))[i]) nt := by
        rw [List.getElem?_toArray, hnt] at hnv8; exact (Option.some.inj hnv8).symm
      subst hnvv
      have hjl : (keptOf (textOf ps))[i] < (textOf ps).length := kept_lt (List.getElem_mem hids)
      have k8' : ∀ b o, h13.get? b = some o → s8.heap.get? b = some o := fun b o e => by
        have e14 := k14 b o e
        exact hk8 b o (by simp; exact Nat.ne_of_lt (Heap.lt_size e14)) (Heap.get?_push_of_some _ e14)
      have hj2 : (keptOf (textOf ps))[i] < tvs.length := by rw [htvl, charsOf_length]; exact hjl
      refine Subscript_ (nmC rfl (cellAt hc13 fun o e => k8' _ o e) (nmL hn8 hmn8 ?_ rfl rfl (by decide)) rfl rfl (by decide))
      have htl8 := htl13.2.at fun o e => k8' _ o e
      refine tail_any htl8.typeIs slot_list_getitem.lookup (wpAny_getItem_list htl8 (x := tvs.getD (keptOf (textOf ps))[i] .none) (by show (0 : Int) ≤ ((keptOf (textOf ps))[i] : Int); omega) (by show ((keptOf (textOf ps))[i] : Int) < _; omega) ?_ ⟨⟨hids, ?_⟩, Keeps.refl _⟩) rfl
      · rw [List.getElem?_toArray]
        show tvs[((keptOf (textOf ps))[i] : Int).toNat]? = _
        rw [Int.toNat_natCast, List.getElem?_eq_getElem hj2]
        simp [List.getD, List.getElem?_eq_getElem hj2]
      · rw [List.take_add_one, List.getElem?_eq_getElem hids, List.map_append, ← hI8]; rfl
    rintro h15 tk15 ys hlD15 ⟨_, hys⟩ hk15
    rw [List.size_toArray, hkvl, List.take_length] at hys
    dsimp only at hlD15 hk15 ⊢
    rw [hsz14] at hlD15 ⊢
    have k15 : ∀ b o, h13.get? b = some o → h15.get? b = some o := fun b o e => by
      have e14 := k14 b o e
      exact hk15 b o (by simp; exact Nat.ne_of_lt (Heap.lt_size e14)) (Heap.get?_push_of_some _ e14)
    refine ⟨hn13.at' fun o e => k15 _ o e, fun h16 tk16 hn16 hk16 => ?_⟩
    replace hn16 : h16.Ns s.heap.objs.size (upd m13 (Str.ofString "due") (.ref (h14.objs.size + 1))) := hn16
    have hk14lt : ∀ b o, h13.get? b = some o → @LT.lt Nat _ b h14.objs.size := fun b o e => Heap.lt_size (k14 b o e)
    have k16 : ∀ b o, b ≠ s.heap.objs.size → h13.get? b = some o → h16.get? b = some o := fun b o hb e => hk16 b o hb (Nat.ne_of_lt (Nat.lt_succ_of_lt (Nat.lt_succ_of_lt (hk14lt b o e)))) (k15 b o e)
    have hkb16 : KeepsH s.heap h16 := fun b o e => k16 b o (Nat.ne_of_lt (Heap.lt_size e)) (hkb13 b o e)
    have G16 : Gd w mg mb h16 := G.keeps hkb16
    have hlD16 : h16.IsList (h14.objs.size + 1) ys.toArray := hlD15.at fun o e => hk16 _ o (Nat.ne_of_gt (Nat.lt_succ_of_lt hL14)) (Nat.ne_of_lt (Nat.lt_succ_self _)) e
    have hcC16 : h16.IsCell (s.heap.objs.size + 1) (some (.ref (h7.objs.size + 1))) := cellAt hcC13 fun o e => k16 _ o (Nat.ne_of_gt (Nat.lt_succ_self _)) e
    have hlC16 : h16.IsList (h7.objs.size + 1) cvs.toArray := hlC13.at fun o e => k16 _ o (Nat.ne_of_gt (Nat.lt_succ_of_lt hL7)) e
    have hkl16 : LstX h16 h3.objs.size kvs.toArray := hkl13.at fun o e => k16 _ o (Nat.ne_of_gt hLs3) e
    have hch16 : Chars w h9.objs.size h16 ch (charsOf (colAt cns) (textOf ps)) := hch13.keep fun b o hb e => k16 b o (Nat.ne_of_gt (Nat.lt_of_lt_of_le hL9 hb)) e
    have hL11 : @LT.lt Nat _ s.heap.objs.size h11.objs.size := hn11.lt
    have htdlt : @LT.lt Nat _ td h14.objs.size := let ⟨_, e, _⟩ := htl13.2; hk14lt _ _ e
    have hdue16 : Tups h11.objs.size h16 (h14.objs.size + 1) (sel (charsOf (colAt cns) (textOf ps)) (keptOf (textOf ps))) := by
      refine ⟨ys, ⟨Nat.le_trans htl13.1 (Nat.le_of_lt (Nat.lt_succ_of_lt htdlt)), hlD16⟩, ?_⟩
      rw [hys]
      exact (tups_sel hta13 _ fun j hj => by rw [charsOf_length]; exact kept_lt hj).imp fun _ _ q => q.keep fun b o hb e => k16 b o (Nat.ne_of_gt (Nat.lt_of_lt_of_le hL11 hb)) e
    have hmdue : upd m13 (Str.ofString "due") (.ref (h14.objs.size + 1)) (Str.ofString "due") = some (.ref (h14.objs.size + 1)) := upd_eq _ _ _
    have hm16 : ∀ y, y ≠ Str.ofString "due" → upd m13 (Str.ofString "due") (.ref (h14.objs.size + 1)) y = m13 y := fun y hy => upd_ne hy
    generalize upd m13 (Str.ofString "due") (.ref (h14.objs.size + 1)) = m16 at hn16 hmdue hm16
    clear hk16 hk15 hlD15 hn14 hlK hiK
    -- the first comparison
    have hlaw1 := law_text (colAt cns) ps hgood
    have hflen : (filtT none (charsOf (colAt cns) (textOf ps))).length ≤ 1000 := by rw [hlaw1, sel, List.length_map]; omega
    refine wpAny_execs_cons (wpAny_If (wpAny_isTrue_Compare1 (wpAny_Call_Name_kw (nmG (v := .ref 93) (s := { s with heap := h16, toks := _ }) G16 (by kernel_rfl) ?_ rfl rfl rfl (by decide)))))
    refine callWith_K G16.X (by kernel_rfl) (wpAny_items_cons (wpAny_Call_Name_kw (nmB (s := { s with heap := h16, toks := _ }) G16 (by kernel_rfl) bt_list (by decide) ?_ rfl rfl rfl rfl (by decide))) rfl) rfl rfl
    refine Pv.callWith_type1 (wpAny_items_cons (wpAny_Call_Name_kw (nmG (v := .ref 21) (s := { s with heap := h16, toks := _ }) G16 (by kernel_rfl) ?_ rfl rfl rfl (by decide))) rfl) rfl rfl
    refine callWith_K G16.X (by kernel_rfl) (wpAny_items_cons (wpAny_Call_Name_kw (nmB (s := { s with heap := h16, toks := _ }) G16 (by kernel_rfl) bt_iter (by decide) ?_ rfl rfl rfl rfl (by decide))) rfl) rfl rfl
    refine callWithB (wpAny_items_cons (nmL (s := { s with heap := h16, toks := _ }) hn16 ((hm16 _ (by decide)).trans hmc13) (wpAny_items_nil ?_) rfl rfl (by decide)) rfl) rfl rfl
    obtain ⟨chv, hchl, hcha⟩ := id hch16
    have kp16 : KeepsH h16 (h16.push { cls := .type "list_iterator", data := .fields #[.ref ch, .int 0 0] }) := fun b o e => Heap.get?_push_of_some _ e
    refine iterCall (s := { s with heap := h16, toks := _ }) hchl.2 ?_
    refine wpAny_items_nil ⟨(G16.keeps kp16).X, ?_⟩
    refine genCall1 (href := h16) G16 (R'.mono (by decide)) ⟨hch16, Nat.le_refl _, ⟨_, Heap.get?_push_size _ rfl, rfl, rfl⟩, kp16⟩ fun h17 tk17 a17 c17 k17 hGen => ?_
    refine wpAny_items_nil ?_
    refine drain (R'.mono (by decide)) hGen hflen fun s18 D18 hk18 hbare18 hdr18 hos18 hch18 => ?_
    have G18 : Gd w mg mb s18.heap := G16.keeps hk18
    refine wpAny_items_nil ⟨G18.X, ?_⟩
    refine toldCall G18 (R'.mono (by decide)) hch18 hflen fun h19 tk19 td19 k19 htd19 => ?_
    have k169 : KeepsH h16 h19 := fun b o e => k19 b o (hk18 b o e)
    refine nmL (s := { s18 with heap := h19, toks := tk19 }) (hn16.at' fun o e => k169 _ o e) hmdue ?_ rfl rfl (by decide)
    rw [hlaw1] at htd19
    refine neTups (s := { s18 with heap := h19, toks := tk19 }) htd19 (hdue16.keep fun b o _ e => k169 b o e) (R'.mono (by decide)) (wpAny_truthy_bool ?_)
    rw [if_neg Bool.false_ne_true]
    refine wpAny_execs_nil ?_
    dsimp only
    have hn19 : h19.Ns s.heap.objs.size m16 := hn16.at' fun o e => k169 _ o e
    have hkb19 : KeepsH s.heap h19 := fun b o e => k169 b o (hkb16 b o e)
    have G19 : Gd w mg mb h19 := G.keeps hkb19
    have hcC19 := cellAt hcC16 fun o e => k169 _ o e
    have hlC19 := hlC16.at fun o e => k169 _ o e
    have hkl19 := hkl16.at fun o e => k169 _ o e
    have hL19 : @LT.lt Nat _ s.heap.objs.size h19.objs.size := hn19.lt
    have hbare19 : Bare s.gens → Bare s18.gens := fun hb => hbare18 (bare_push hb)
    clear htd19 hch18 hGen
    -- due, from the bare signs
    have hkvl2 : kvs.length = ps.length := by rw [hki.length, List.length_map, keptMix_length]
    have hbl : (⟨(bareOf ps).toArray⟩ : Str).cps.size = ps.length := by
      show (bareOf ps).toArray.size = _
      rw [List.size_toArray, bareOf, List.length_map]
    have hklt19 : @LT.lt Nat _ h3.objs.size h19.objs.size := let ⟨_, e⟩ := hkl19; Heap.lt_size e
    refine wpAny_execs_cons (AssignCompB (cl := [(Str.ofString "cols", s.heap.objs.size + 1)]) rfl rfl (by decide) rfl (by decide) rfl rfl ?_ (fun _ => rfl))
    refine wpAny_Call_Name_kw (nmB (s := { s18 with heap := h19, toks := _ }) G19 (by kernel_rfl) bt_zip (by decide) ?_ rfl rfl rfl rfl (by decide))
    refine Pv.callWith_type1 (wpAny_items_cons (nmL (s := { s18 with heap := h19, toks := _ }) hn19 ((hm16 _ (by decide)).trans ((hm13 _ (by decide)).trans hmb7)) ?_ rfl rfl (by decide)) rfl) rfl rfl
    refine wpAny_items_cons (nmL (s := { s18 with heap := h19, toks := _ }) hn19 ((hm16 _ (by decide)).trans ((hm13 _ (by decide)).trans hmk7)) (wpAny_items_nil ?_) rfl rfl (by decide)) rfl
    refine zipCall (s := { s18 with heap := h19, toks := _ }) hkl19.isList (by rw [hbl, List.size_toArray, hkvl2]) fun h20 hsz20 k20 hz20 hW => ?_
    dsimp only at hsz20 k20 hz20 hW ⊢
    refine wpAny_pyIter_zip (s := { s18 with heap := h20, toks := _ }) hz20 ?_
    obtain ⟨Pt, St, Mid, W, hst20, two⟩ := hW A' R'.h
    rw [hbl] at W
    have hn20 : h20.Ns s.heap.objs.size m16 := hn19.at' fun o e => k20 _ o e
    have hL20 : @LT.lt Nat _ s.heap.objs.size h20.objs.size := hn20.lt
    refine ⟨hL20, m16, .mk (h19.objs.size + 4) _ _ ps.length _ St [Str.ofString "sign", Str.ofString "at"]
      (fun i h ys => i ≤ ps.length ∧ All2 (TupAt (h20.objs.size + 2) h) ys ((dueM (colAt cns) ps).take i)) rfl
      (Bd.ofPairs R'.h W _ two (by decide) rfl rfl rfl) (by rw [sizeLine_eq]; omega) hst20 ?_ ?_ ?_ ?_ ?_ ?_⟩
    · intro b hb
      simp at hb
      rw [hsz20]
      rcases hb with rfl | rfl | rfl | rfl | rfl | rfl
      · exact Nat.lt_succ_self _
      · exact Nat.add_lt_add_left (show 2 < 5 by decide) _
      · exact Nat.add_lt_add_left (show 3 < 5 by decide) _
      · exact Nat.lt_add_of_pos_right (show 0 < 5 by decide)
      · exact Nat.add_lt_add_left (show 1 < 5 by decide) _
      · exact Nat.lt_of_lt_of_le hklt19 (Nat.le_add_right _ 5)
    · rintro i h h' ys ⟨x, hF⟩ hk'
      exact ⟨x, hF.imp fun _ _ q => q.keep fun b o hb e => hk' b o hb e⟩
    · rintro i h ys ⟨x, hF⟩
      rw [hF.length, List.length_take, dueM_length]; omega
    · exact fun h => ⟨Nat.zero_le _, .nil⟩
    · rintro i s8 m8 ys hi8 ⟨hi8', hF8⟩ ⟨va, vb, ⟨c, u, hcc, rfl, hkb⟩, hms8, hma8⟩ hn8 hk8
      have hck : (keptMix 0 ps)[i]? = some ((keptMix 0 ps)[i]'(by rw [keptMix_length]; exact hi8)) := List.getElem?_eq_getElem _
      generalize (keptMix 0 ps)[i]'(by rw [keptMix_length]; exact hi8) = j at hck
      obtain ⟨nt, hnt⟩ := hki.get i (Int.ofNat j) (by rw [List.getElem?_map, hck]; rfl)
      have hvb : vb = .int (Int.ofNat j) nt := by
        rw [List.getElem?_toArray, hnt] at hkb; exact (Option.some.inj hkb).symm
      subst hvb
      have hcb : (bareOf ps)[i]? = some c := by rw [← hcc]; simp
      have k8' : KeepsH h19 s8.heap := fun b o e => by
        have hb : @LT.lt Nat _ b h19.objs.size := Heap.lt_size e
        refine hk8 b o (fun h => ?_) (k20 b o e)
        simp at h
        rcases h with rfl | rfl | rfl | rfl
        · exact Nat.not_lt.mpr (Nat.le_add_right _ 4) hb
        · exact Nat.not_lt.mpr (Nat.le_add_right _ 3) hb
        · exact Nat.lt_irrefl _ hb
        · exact Nat.not_lt.mpr (Nat.le_add_right _ 1) hb
      have G8 : Gd w mg mb s8.heap := G19.keeps k8'
      have hcC8 := cellAt hcC19 fun o e => k8' _ o e
      have hlC8 := hlC19.at fun o e => k8' _ o e
      have hsl : cvs.toArray.size = cns.length := by rw [List.size_toArray, hiC.length]
      refine wpAny_Tuple ?_
      refine wpAny_items_cons (nmL hn8 hms8 ?_ rfl rfl (by decide))
      refine wpAny_items_cons (wpAny_Constant_str ?_)
      refine wpAny_items_cons (nmL (s := { s8 with toks := _ }) hn8 hma8 ?_ rfl rfl (by decide))
      refine wpAny_items_cons (Subscript_ (nmC (s := { s8 with toks := _ }) rfl hcC8 (wpAny_BinOp (nmL (s := { s8 with toks := _ }) hn8 hma8 (wpAny_Call_Name_kw (nmB (s := { s8 with toks := _ }) G8 (by kernel_rfl) bt_len (by decide) ?_ rfl rfl rfl rfl (by decide))) rfl rfl (by decide))) rfl rfl (by decide)))
      refine callWithB (wpAny_items_cons (nmC (s := { s8 with toks := _ }) rfl hcC8 (wpAny_items_nil ?_) rfl rfl (by decide)) rfl) rfl rfl
      refine call_len_list (s := { s8 with toks := _ }) hlC8 (by rw [hsl]; omega) ?_
      refine mod_int' (by rw [hsl]; omega) ?_
      rw [hsl]
      refine colItem (s := { s8 with toks := _ }) (i := j) hlC8 hiC hcne (by omega) (fun u2 => ?_) (fun _ _ => rfl)
      refine wpAny_items_cons (wpAny_Constant_int ?_)
      refine wpAny_items_nil ⟨by rw [sizeLine_eq]; simp, ⟨hi8, ?_⟩, _, _, rfl, fun b o e => Heap.get?_push_of_some _ e⟩
      have hlo8 : @LE.le Nat _ (h20.objs.size + 2) s8.heap.objs.size := hn8.lt
      rw [List.take_add_one, dueM_get hcb hck]
      refine (hF8.imp fun _ _ q => q.keep fun b o _ e => Heap.get?_push_of_some _ e).snoc ?_
      exact ⟨_, u, _, nt, u2, _, rfl, hlo8, Heap.get?_push_size _ rfl⟩
    rintro h21 tk21 ys2 hlD21 ⟨_, hF21⟩ hk21
    dsimp only at hlD21 hk21 ⊢
    rw [← dueM_length (colAt cns) ps, List.take_length] at hF21
    have k21 : KeepsH h19 h21 := fun b o e => by
      have hb : @LT.lt Nat _ b h19.objs.size := Heap.lt_size e
      refine hk21 b o (fun h => ?_) (k20 b o e)
      simp at h
      rcases h with rfl | rfl | rfl | rfl
      · exact Nat.not_lt.mpr (Nat.le_add_right _ 4) hb
      · exact Nat.not_lt.mpr (Nat.le_add_right _ 3) hb
      · exact Nat.lt_irrefl _ hb
      · exact Nat.not_lt.mpr (Nat.le_add_right _ 1) hb
    refine ⟨hn19.at' fun o e => k21 _ o e, fun h22 tk22 hn22 hk22 => ?_⟩
    replace hn22 : h22.Ns s.heap.objs.size (upd m16 (Str.ofString "due") (.ref h20.objs.size)) := hn22
    have k22 : ∀ b o, b ≠ s.heap.objs.size → h19.get? b = some o → h22.get? b = some o := fun b o hb e => hk22 b o hb (Nat.ne_of_lt (Nat.lt_succ_of_lt (Heap.lt_size (k20 b o e)))) (k21 b o e)
    have hkb22 : KeepsH s.heap h22 := fun b o e => k22 b o (Nat.ne_of_lt (Heap.lt_size e)) (hkb19 b o e)
    have G22 : Gd w mg mb h22 := G.keeps hkb22
    have hdue22 : Tups h20.objs.size h22 h20.objs.size (dueM (colAt cns) ps) := by
      refine ⟨ys2, ⟨Nat.le_refl _, hlD21.at fun o e => hk22 _ o (Nat.ne_of_gt hL20) (Nat.ne_of_lt (Nat.lt_succ_self _)) e⟩, hF21.imp fun _ _ q => ?_⟩
      refine (q.keep fun b o hb e => hk22 b o (Nat.ne_of_gt (Nat.lt_of_lt_of_le hL20 (Nat.le_trans (Nat.le_add_right _ 2) hb))) (Nat.ne_of_gt (Nat.lt_of_succ_le hb)) e).low (Nat.le_add_right _ 2)
    have hcC22 := cellAt hcC19 fun o e => k22 _ o (Nat.ne_of_gt (Nat.lt_succ_self _)) e
    have hlC22 := hlC19.at fun o e => k22 _ o (Nat.ne_of_gt (Nat.lt_succ_of_lt hL7)) e
    have hmdue22 : upd m16 (Str.ofString "due") (.ref h20.objs.size) (Str.ofString "due") = some (.ref h20.objs.size) := upd_eq _ _ _
    have hmm22 : upd m16 (Str.ofString "due") (.ref h20.objs.size) (Str.ofString "mixed") = some (.str ⟨(mixedOf ps ++ cont kk).toArray⟩ t6) := (upd_ne (by decide)).trans ((hm16 _ (by decide)).trans ((hm13 _ (by decide)).trans hmm7))
    generalize upd m16 (Str.ofString "due") (.ref h20.objs.size) = m22 at hn22 hmdue22 hmm22
    -- the second comparison
    have hlaw2 := law_mixed (colAt cns) ps kk hgood
    have hflen2 : (filtT none (charsOf (colAt cns) (mixedOf ps ++ cont kk))).length ≤ 1000 := by rw [hlaw2, dueM_length]; omega
    have lm3 : (⟨(mixedOf ps ++ cont kk).toArray⟩ : Str).cps.size ≤ 1000 := by
      show (mixedOf ps ++ cont kk).toArray.size ≤ _
      rw [List.size_toArray, List.length_append, cont_length]; omega
    refine wpAny_execs_cons (wpAny_Return_some (wpAny_Compare1 (wpAny_Call_Name_kw (nmG (v := .ref 93) (s := { s18 with heap := h22, toks := _ }) G22 (by kernel_rfl) ?_ rfl rfl rfl (by decide)))))
    refine callWith_K G22.X (by kernel_rfl) (wpAny_items_cons (wpAny_Call_Name_kw (nmB (s := { s18 with heap := h22, toks := _ }) G22 (by kernel_rfl) bt_list (by decide) ?_ rfl rfl rfl rfl (by decide))) rfl) rfl rfl
    refine Pv.callWith_type1 (wpAny_items_cons (wpAny_Call_Name_kw (nmG (v := .ref 21) (s := { s18 with heap := h22, toks := _ }) G22 (by kernel_rfl) ?_ rfl rfl rfl (by decide))) rfl) rfl rfl
    refine callWith_K G22.X (by kernel_rfl) (wpAny_items_cons (wpAny_Call_Name_kw (nmB (s := { s18 with heap := h22, toks := _ }) G22 (by kernel_rfl) bt_iter (by decide) ?_ rfl rfl rfl rfl (by decide))) rfl) rfl rfl
    refine callWithB (wpAny_items_cons (wpAny_Call_Name_kw (nmG (v := .ref 88) (s := { s18 with heap := h22, toks := _ }) G22 (by kernel_rfl) ?_ rfl rfl rfl (by decide))) rfl) rfl rfl
    refine callWith_K G22.X (by kernel_rfl) (wpAny_items_cons (nmL (s := { s18 with heap := h22, toks := _ }) hn22 hmm22 ?_ rfl rfl (by decide)) rfl) rfl rfl
    refine wpAny_items_cons (nmC (s := { s18 with heap := h22, toks := _ }) rfl hcC22 (wpAny_items_nil ⟨G22.X, ?_⟩) rfl rfl (by decide)) rfl
    refine charsCall (s := { s18 with heap := h22, toks := _ }) G22 (R'.mono (by decide)) hlC22 hiC hcne (by omega) lm3 fun h23 tk23 ch2 k23 hch23 => ?_
    dsimp only at k23 hch23 ⊢
    have G23 : Gd w mg mb h23 := G22.keeps k23
    obtain ⟨chv2, hchl2, hcha2⟩ := id hch23
    refine wpAny_items_nil ?_
    have kp23 : KeepsH h23 (h23.push { cls := .type "list_iterator", data := .fields #[.ref ch2, .int 0 0] }) := fun b o e => Heap.get?_push_of_some _ e
    refine iterCall (s := { s18 with heap := h23, toks := _ }) hchl2.2 ?_
    refine wpAny_items_nil ⟨(G23.keeps kp23).X, ?_⟩
    refine genCall1 (href := h23) G23 (R'.mono (by decide)) ⟨hch23, Nat.le_refl _, ⟨_, Heap.get?_push_size _ rfl, rfl, rfl⟩, kp23⟩ fun h24 tk24 a24 c24 k24 hGen2 => ?_
    refine wpAny_items_nil ?_
    refine drain (R'.mono (by decide)) hGen2 hflen2 fun s25 D25 hk25 hbare25 hdr25 hos25 hch25 => ?_
    have G25 : Gd w mg mb s25.heap := G23.keeps hk25
    refine wpAny_items_nil ⟨G25.X, ?_⟩
    refine toldCall G25 (R'.mono (by decide)) hch25 hflen2 fun h26 tk26 td26 k26 htd26 => ?_
    have k226 : KeepsH h22 h26 := fun b o e => k26 b o (hk25 b o (k23 b o e))
    refine nmL (s := { s25 with heap := h26, toks := tk26 }) (hn22.at' fun o e => k226 _ o e) hmdue22 ?_ rfl rfl (by decide)
    rw [hlaw2] at htd26
    refine eqTups (s := { s25 with heap := h26, toks := tk26 }) htd26 (hdue22.keep fun b o _ e => k226 b o e) (R'.mono (by decide)) ?_
    exact hQ { s25 with heap := h26, toks := tk26 } (fun b o e => k226 b o (hkb22 b o e)) (fun hb => hbare25 (bare_push (hbare19 hb))) (hdr25.trans hdr18) (hos25.trans hos18)
end
end Lw

/-! ## B17 -/
namespace Lw
theorem roomC : Rm callerA 9 := ⟨rfl, by decide, by decide⟩
theorem lk_law (P : Params) : nsIn (Lw.hd.heap_39 P) mainGlobals (Str.ofString "law") = some (some (.ref 103)) := by kernel_rfl

set_option maxHeartbeats 2000000 in
theorem fin : PySem.Challenge.rw_rk0001_01.Holds := Lw.hd (by
  intro w s₀ s₁ mg mb G Y fa o pm cd doc dV kV ho hd hcd hD hmg hg args vals as hpre hlay hrd hwl hlo
  have KX := kIn_of Y
  refine Ground.open G ?_
  intro T B D TE TW
  have TR := topRead_of T
  have hf : mg (Str.ofString "law") = some (.ref 103) := mg_of KX TR.g (lk_law _)
  have hfa : fa = 103 := by
    have e : some (Value.ref fa) = some (Value.ref 103) := hmg.symm.trans hf
    injection e with e; injection e
  subst hfa
  clear ho hd hcd hD hmg D B TE TW
  wrow_args hpre hlay hrd hwl hlo
  rename IntsAre _ _ => hI
  rename Heap.IsList _ _ _ => hL
  rename (¬ _ < _) => hn
  show wpAny _ callerA (call (.ref 103) [.ref _] []) _ _ _
  refine lawCall ⟨KX, TR⟩ roomC hL hI (by omega) fun s' hk hb hdr hos => ?_
  refine ⟨.inl ⟨.bool true, .bool true, [], rfl, raisesW_false (by wrow_none_raised), .bool true, by wrow_post, unshared_nil⟩, .of_keep hk, hos, ?_⟩
  have h0 : Bare s₁.gens := by rw [hg]; intro y hy; simp at hy
  exact hb h0)
end Lw

theorem PySem.Challenge.cw_rk0001_01_holds : PySem.Challenge.rw_rk0001_01.Holds :=
  Lw.fin
