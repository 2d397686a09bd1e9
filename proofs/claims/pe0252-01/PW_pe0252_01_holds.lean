import PyProof.Rows.All
import Wide.All
import OpenK.AllK
import Wide.FinOn
import PySem.Challenge.RW_pe0252_01
open PySem PySem.W PyProof.Rows
set_option Elab.async false
set_option maxRecDepth 100000
set_option linter.unusedVariables false
set_option linter.unusedSimpArgs false
/-! # H1 -/
namespace Mine
/-- this makes the library's converted form of the program -/
theorem warm : PySem.Challenge.pw_pe0252_01.modules.isEmpty = true := by k_qdec
noncomputable def topRunG (ok : Thread → Bool) (st : SharedT → Thread → Option (SharedT × Thread)) : Nat → SharedT → Thread → Option SharedT
  | 0, _, _ => none
  | n + 1, s, t => match through t with
    | true => some s
    | false => match ok t with
      | false => none
      | true => match st s t with
        | some x => topRunG ok st n x.1 x.2
        | none => none
theorem topRunG_of {tb : String → Option Builtin} {p : Program} {w : World} {n₀ : Nat} {ann : Option Value} : ∀ {n : Nat} {s r : SharedT} {t : Thread}, topRunG (stepOk n₀ ann) (stepT (denote tb) p w) n s t = some r → topRun tb p w n₀ ann n s.abs t = some r.abs
  | 0, _, _, _, h => nomatch h
  | n + 1, s, r, t, h => by
    unfold topRunG at h
    unfold topRun
    cases hx : through t with
    | true => rw [hx] at h; cases h; rfl
    | false =>
      rw [hx] at h
      simp only at h ⊢
      cases ho : stepOk n₀ ann t with
      | false => rw [ho] at h; cases h
      | true =>
        rw [ho] at h
        simp only at h ⊢
        cases hs : stepT (denote tb) p w s t with
        | none => rw [hs] at h; cases h
        | some x =>
          rw [hs] at h
          obtain ⟨s', t'⟩ := x
          rw [stepT_spec hs]
          exact topRunG_of h
noncomputable def insAll : List Obj → Nat → BT → BT
  | [], _, t => t
  | o :: l, i, t => insAll l (i + 1) (t.ins i o)
noncomputable def S0 (P : Params) (os : OsState) : SharedT := ⟨insAll (boot_heap P).objs.toList 0 .nil, (boot_heap P).objs.size, (boot_heap P).life, Array.mk [], boot_drawn, boot_toks, os⟩
theorem s0_abs (P : Params) (os : OsState) : (S0 P os).abs = ⟨boot_heap P, Array.mk [], boot_drawn, boot_toks, os⟩ := by kernel_rfl
theorem boot_ns (P : Params) : ((boot_heap P).isNs mainGlobals && (Array.mk ([] : List GenState)).size == 0) = true := by kernel_rfl
/-- the head by a run over tree heaps; the five equations turn each constant into its converted form -/
theorem left_tree {q : Program} {loose : List Str} {Xt : Shared → Bool} {α : Type} {Yf : Shared → α} {Ya : World → α} {N : Nat} {g0 : Bool} 
    {okT : Nat → Option Value → Thread → Bool} (e1 : stepOk = okT)
    {stT : (Code → Sem Fin) → Program → World → SharedT → Thread → Option (SharedT × Thread)} (e2 : stepT = stT)
    {dnT : (String → Option Builtin) → Code → Sem Fin} (e3 : denote = dnT)
    {tbT : String → Option Builtin} (e4 : treeTable = tbT)
    {pT : Program} (e5 : PySem.Challenge.pw_pe0252_01 = pT) (row : String)
    (op : ∀ w : World, (fencedOpening treeTable PySem.Challenge.pw_pe0252_01 w N).map (fun s => (s.heap, s.gens, s.drawn, s.toks)) = some (boot_heap w.params, Array.mk [], boot_drawn, boot_toks))
    (hb : ∀ (b : Bool) (w : World) (os : OsState), (topRunG (okT (boot_heap w.params).objs.size ((boot_heap w.params).nsMap mainGlobals "__annotations__")) (stT (dnT tbT) pT (w.withFollow row b)) N (S0 w.params os) (topStub PySem.Challenge.pw_pe0252_01)).map
      (fun s => (staticsOk (importedModules PySem.Challenge.pw_pe0252_01.main.body) (boot_heap w.params) s.abs.heap && namesBound PySem.Challenge.pw_pe0252_01 s.abs.heap && gensDone s.abs && laidKept (boot_heap w.params) s.abs.heap, openSeen q loose (importedModules PySem.Challenge.pw_pe0252_01.main.body) Xt g0 s.abs, Yf s.abs)) = some (true, openGood q loose, Ya (w.withFollow row b))) :
    LeftO PySem.Challenge.pw_pe0252_01 q loose Xt Yf Ya N g0 := fun w => by
  subst e1 e2 e3 e4
  obtain ⟨⟨h, gs, d, k, os⟩, e, e'⟩ := Option.map_eq_some_iff.mp (op w)
  obtain ⟨rfl, rfl, rfl, rfl⟩ : h = boot_heap w.params ∧ gs = Array.mk [] ∧ d = boot_drawn ∧ k = boot_toks := by simpa using e'
  have z := World.withFollow_self w row
  have x := hb (w.params.followText row) w os
  rw [z, ← e5] at x
  obtain ⟨r, hr, hx⟩ := Option.map_eq_some_iff.mp x
  obtain ⟨l1, l2⟩ := Prod.mk.inj hx
  obtain ⟨l2, l3⟩ := Prod.mk.inj l2
  have hr := topRunG_of hr
  rw [s0_abs] at hr
  have t : topFrom treeTable PySem.Challenge.pw_pe0252_01 w N ⟨boot_heap w.params, Array.mk [], boot_drawn, boot_toks, os⟩ = some r.abs := by
    unfold topFrom
    dsimp only
    rw [boot_ns, hr]
    show (match staticsOk (importedModules PySem.Challenge.pw_pe0252_01.main.body) (boot_heap w.params) r.abs.heap && namesBound PySem.Challenge.pw_pe0252_01 r.abs.heap && gensDone r.abs && laidKept (boot_heap w.params) r.abs.heap with | true => _ | false => _) = _
    rw [l1]
  unfold openEnds
  rw [e]
  show (topFrom treeTable PySem.Challenge.pw_pe0252_01 w N _).map _ = _
  rw [t]
  exact congrArg some (Prod.ext l2 l3)
section
local macro_rules | `(tactic| refine $t) => `(tactic| (refine' $t; first | (case hl => exact left_tree PySem.W.Fast.te6613529449190102663 PySem.W.Fast.te10156331382660048174 PySem.W.Fast.te11892475500146522536 PySem.W.Fast.te14364793385576792824 PySem.W.Fast.te12496186953597669935 "special-get-raises" (boot_open (by kernel_rfl) (by kernel_rfl) (fun s => by kernel_rfl)) (fun b w os => by cases b <;> kernel_rfl)) | (case hl => exact LeftO.of_split "special-get-raises" (fun w => by kernel_rfl)) | skip))
set_option maxRecDepth 100000 in
set_option maxHeartbeats 8000000 in
open_top hd for PySem.Challenge.rw_pe0252_01
end
end Mine

/-! # L1 -/
namespace Mine

/-! ## the ground -/
/-- heaps in part -/
abbrev PH := Addr → Option Obj
def Keep (g g' : PH) : Prop := ∀ b o, g b = some o → g' b = some o
theorem Keep.refl (g : PH) : Keep g g := fun _ _ e => e
theorem Keep.trans {a b c : PH} (x : Keep a b) (y : Keep b c) : Keep a c := fun _ _ e => y _ _ (x _ _ e)

/-- what is fixed for the whole run -/
structure Wd where
  prog : Program
  w : World
  mg : Str → Option Value
  mb : Str → Option Value
  os : OsState
  bt : ∀ x : Str, x ≠ "__name__" → mb x = bootBuiltins x
abbrev Wd.M (c : Wd) : Model := model c.prog c.w
noncomputable abbrev Wd.K (c : Wd) : Frag := hd.heap_39 c.w.params

/-- the code tables that a run may let grow: of format_witnesses, _law_listed, law -/
def tabA : List Addr := [160, 198, 205]
/-- the heap without these tables -/
def hp (h : Heap) : PH := fun b => if b ∈ tabA then none else h.get? b
theorem hp_get {h : Heap} {b : Addr} {o : Obj} (e : hp h b = some o) : h.get? b = some o := by
  unfold hp at e; split at e
  · cases e
  · exact e
theorem hp_of {h : Heap} {b : Addr} {o : Obj} (e : h.get? b = some o) (hb : b ∉ tabA) : hp h b = some o := by
  unfold hp; rw [if_neg hb]; exact e
theorem hp_off {h : Heap} {b : Addr} {o : Obj} (e : hp h b = some o) : b ∉ tabA := by
  intro q; unfold hp at e; rw [if_pos q] at e; cases e
theorem not_tab {b : Nat} (h : 208 < b) : b ∉ tabA := by unfold tabA; simp; omega

/-- a table of code: at this place nothing yet, or the code that was made for it -/
def TabSt (h : Heap) (P : Addr) (pos : Pos) (q : Str) : Prop :=
  ∃ ps, h.get? P = some (tabObj ps) ∧ TriplesOk ps.toList ∧
    (codeAmong pos ps.toList = none ∨ ∃ c o vs t, codeAmong pos ps.toList = some (.ref c) ∧ 208 < c ∧ h.get? c = some o ∧ o.cls = .type "code" ∧ o.data = .fields vs ∧ vs[1]? = some (.str q t))

def posG : Pos := ⟨155, 13, 155, 39⟩
def posL : Pos := ⟨186, 37, 186, 76⟩
def posS : Pos := ⟨226, 51, 226, 89⟩
def qualG : Str := "format_witnesses.<locals>.<genexpr>"
def qualL : Str := "_law_listed.<locals>.<lambda>"
def qualS : Str := "law.<locals>.<lambda>"

structure Inv (c : Wd) (h : Heap) : Prop where
  k : c.K.In h
  g : h.Ns mainGlobals c.mg
  b : h.Ns builtinsNs c.mb
  lim : h.NoLimit
  dig : ∃ mc, h.Ns cStatics mc ∧ mc "sys.int_max_str_digits" = none
  bm : ∃ bm ob, c.mg "__builtins__" = some (.ref bm) ∧ bm ≠ builtinsNs ∧ bm ≤ 208 ∧ bm ∉ tabA ∧ h.get? bm = some ob ∧ ob.cls = .type "module" ∧ ob.dict = some builtinsNs ∧ ob.data = .plain
  big : 208 < h.objs.size
  t1 : TabSt h 160 posG qualG
  t2 : TabSt h 198 posL qualL
  t3 : TabSt h 205 posS qualS

/-- a state of the run -/
structure Ok (c : Wd) (s : Shared) : Prop where
  inv : Inv c s.heap
  gens : AllBare s.gens
  os : s.os = c.os

/-- every object but an own one stays -/
theorem ns_low {h h' : Heap} {a : Addr} {m : Str → Option Value} (x : h.Ns a m) (hk : ∀ b o, b ≤ 208 → b ∉ tabA → h.get? b = some o → h'.get? b = some o) (ha : a ≤ 208) (ht : a ∉ tabA) : h'.Ns a m :=
  let ⟨o, es, ep, e, r⟩ := x; ⟨o, es, ep, hk _ _ ha ht e, r⟩

theorem k_low {c : Wd} {a : Addr} {o : Obj} (e : c.K.lookup a = some o) : a ≤ 208 ∧ a ∉ tabA := by
  have h : (c.K.all fun p => decide (p.1 ≤ 208) && !(tabA.contains p.1)) = true := by kernel_rfl
  have hm := mem_of_lookupK e
  have := List.all_eq_true.mp h _ hm
  simp only [Bool.and_eq_true, decide_eq_true_eq, Bool.not_eq_true', List.contains_eq_mem] at this
  exact ⟨this.1, by simpa using this.2⟩

theorem TabSt.step {h h' : Heap} {P : Addr} {pos : Pos} {q : Str} (x : TabSt h P pos q) (e : h'.get? P = h.get? P) (hk : ∀ b o, 208 < b → o.cls = .type "code" → h.get? b = some o → h'.get? b = some o) : TabSt h' P pos q := by
  obtain ⟨ps, h1, h2, h3⟩ := x
  refine ⟨ps, e.trans h1, h2, ?_⟩
  rcases h3 with h3 | ⟨c, o, vs, t, a1, a0, a2, a3, r⟩
  · exact .inl h3
  · exact .inr ⟨c, o, vs, t, a1, a0, hk _ _ a0 a3 a2, a3, r⟩

/-- the ground's facts stay where low objects, code and tables stay -/
theorem Inv.step {c : Wd} {h h' : Heap} (x : Inv c h) (lo : ∀ b o, b ≤ 208 → b ∉ tabA → h.get? b = some o → h'.get? b = some o) (ht : ∀ P ∈ tabA, h'.get? P = h.get? P)
    (hk : ∀ b o, 208 < b → o.cls = .type "code" → h.get? b = some o → h'.get? b = some o) (hs : 208 < h'.objs.size) : Inv c h' where
  k := fun a o e => lo a o (k_low e).1 (k_low e).2 (x.k a o e)
  g := ns_low x.g lo (by decide) (by decide)
  b := ns_low x.b lo (by decide) (by decide)
  lim := let ⟨mc, a, r⟩ := x.lim; ⟨mc, ns_low a lo (by decide) (by decide), r⟩
  dig := let ⟨mc, a, r⟩ := x.dig; ⟨mc, ns_low a lo (by decide) (by decide), r⟩
  bm := let ⟨bm, ob, a1, a2, a3, a4, a5, r⟩ := x.bm; ⟨bm, ob, a1, a2, a3, a4, lo _ _ a3 a4 a5, r⟩
  big := hs
  t1 := x.t1.step (ht _ (by decide)) hk
  t2 := x.t2.step (ht _ (by decide)) hk
  t3 := x.t3.step (ht _ (by decide)) hk

theorem Inv.tab {c : Wd} {h : Heap} (x : Inv c h) : ∀ P ∈ tabA, ∃ ps, h.get? P = some (tabObj ps) := by
  intro P hP
  unfold tabA at hP
  simp only [List.mem_cons, List.not_mem_nil, or_false] at hP
  rcases hP with rfl | rfl | rfl
  · exact let ⟨ps, e, _⟩ := x.t1; ⟨ps, e⟩
  · exact let ⟨ps, e, _⟩ := x.t2; ⟨ps, e⟩
  · exact let ⟨ps, e, _⟩ := x.t3; ⟨ps, e⟩

/-- all stays -/
theorem Inv.all {c : Wd} {h h' : Heap} (x : Inv c h) (hk : ∀ b o, h.get? b = some o → h'.get? b = some o) (hs : h.objs.size ≤ h'.objs.size) : Inv c h' :=
  x.step (fun b o _ _ e => hk b o e) (fun P hP => by obtain ⟨ps, e⟩ := x.tab P hP; rw [e, hk _ _ e]) (fun b o _ _ e => hk b o e) (Nat.lt_of_lt_of_le x.big hs)
theorem Inv.push {c : Wd} {h : Heap} (x : Inv c h) (o : Obj) : Inv c (h.push o) := x.all (fun _ _ e => Heap.get?_push_of_some o e) (by simp)
theorem Inv.sameBut {c : Wd} {h h' : Heap} {a : Nat} {o : Obj} (x : Inv c h) (hs : Heap.SameBut a h h') (ha : 208 < a) (ho : h.get? a = some o) (hc : o.cls ≠ .type "code") : Inv c h' :=
  x.step (fun b o' hb _ e => (hs.2 b (Nat.ne_of_lt (Nat.lt_of_le_of_lt hb ha))).trans e) (fun P hP => hs.2 P (fun q => not_tab ha (q ▸ hP)))
    (fun b o' _ hc' e => (hs.2 b (fun q => by subst q; rw [ho] at e; cases e; exact hc hc')).trans e) (by rw [hs.1]; exact x.big)

theorem keep_all {h h' : Heap} (hk : ∀ b o, h.get? b = some o → h'.get? b = some o) : Keep (hp h) (hp h') := fun b o e => hp_of (hk b o (hp_get e)) (hp_off e)
theorem keep_push (h : Heap) (o : Obj) : Keep (hp h) (hp (h.push o)) := keep_all fun _ _ e => Heap.get?_push_of_some o e

theorem Ok.push {c : Wd} {s : Shared} (x : Ok c s) (o : Obj) : Ok c { s with heap := s.heap.push o } := ⟨x.inv.push o, x.gens, x.os⟩
theorem Ok.tok {c : Wd} {s : Shared} (x : Ok c s) (t : Nat) : Ok c { s with toks := t } := ⟨x.inv, x.gens, x.os⟩
theorem Ok.new {c : Wd} {s : Shared} (x : Ok c s) {o : Obj} (hf : o.isFreed = false := by rfl) : hp (s.heap.push o) s.heap.objs.size = some o := hp_of (Heap.get?_push_size _ hf) (not_tab x.inv.big)

/-! ## data -/
inductive D where
  | none
  | bool (b : Bool)
  | int (i : Int)
  | str (x : Str)
  | list (xs : List D)
  | tup (xs : List D)
  | dict (kvs : List (Int × Int))
  | range (a b st : Int)
  | lead (norm : D) (n nt : Int) (simple : Bool)
  | comp (cs : D)
  | ref (a : Addr)
abbrev D.ints (ns : List Int) : D := .list (ns.map .int)
abbrev cWs : Addr := 154
abbrev cTC : Addr := 74
abbrev lsO (vs : Array Value) (n : Nat) : Obj := { cls := .type "list", dict := none, data := .seq vs n, slots := #[] }
abbrev rgO (x y z : Int) (t1 t2 t3 : Tok) : Obj := { cls := .type "range", dict := none, data := .fields #[.int x t1, .int y t2, .int z t3], slots := #[] }
abbrev tpO (vs : Array Value) (n : Nat) : Obj := { cls := .type "tuple", dict := none, data := .seq vs n, slots := #[] }
/-- the fields of a Whitespace -/
def leadEs (h1 h2 h3 h4 h5 : Int) (t1 t2 t3 t4 t5 : Tok) (v1 v2 v3 v4 v5 : Value) : List DictEntry :=
  [⟨h1, .str "raw" t1, v1⟩, ⟨h2, .str "n" t2, v2⟩, ⟨h3, .str "nt" t3, v3⟩, ⟨h4, .str "norm" t4, v4⟩, ⟨h5, .str "is_simple" t5, v5⟩]

/-- pairs of ints, the seconds as values -/
def IVals : List (Int × Int) → List (Int × Value) → Prop
  | [], [] => True
  | (k, n) :: r, (k', v) :: r' => k = k' ∧ (∃ t, v = Value.int n t) ∧ IVals r r'
  | _, _ => False

mutual
/-- the value bears the data -/
def At (c : Wd) (g : PH) : D → Value → Prop
  | .none, v => v = .none
  | .bool b, v => v = .bool b
  | .int i, v => ∃ t, v = .int i t
  | .str x, v => ∃ t, v = .str x t
  | .list xs, v => ∃ a vs n, v = .ref a ∧ g a = some (lsO vs n) ∧ AtAll c g xs vs.toList
  | .tup xs, v => ∃ a vs n, v = .ref a ∧ g a = some (tpO vs n) ∧ AtAll c g xs vs.toList
  | .dict kvs, v => ∃ a o vs, v = .ref a ∧ g a = some o ∧ 208 < a ∧ o.IsDictOf (intKind c.prog c.w) vs ∧ IVals kvs vs
  | .range x y z, v => ∃ a t1 t2 t3, v = .ref a ∧ g a = some (rgO x y z t1 t2 t3)
  | .lead norm n nt simple, v => ∃ x dx h1 h2 h3 h4 h5 t1 t2 t3 t4 t5 v1 n' nt' v4 k, v = .ref x ∧ 208 < x ∧ g x = some (instObj cWs dx) ∧
      g dx = some (dictOf (leadEs h1 h2 h3 h4 h5 t1 t2 t3 t4 t5 v1 (.int n n') (.int nt nt') v4 (.bool simple)) k) ∧ At c g norm v4
  | .comp cs, v => ∃ x dx h1 t1 v1 k, v = .ref x ∧ 208 < x ∧ g x = some (instObj cTC dx) ∧ g dx = some (dictOf [⟨h1, .str "comp_select_list" t1, v1⟩] k) ∧ At c g cs v1
  | .ref a, v => v = .ref a
def AtAll (c : Wd) (g : PH) : List D → List Value → Prop
  | [], vs => vs = []
  | d :: ds, vs => ∃ v r, vs = v :: r ∧ At c g d v ∧ AtAll c g ds r
end

mutual
theorem At.mono {c : Wd} {g g' : PH} (k : Keep g g') : ∀ {d : D} {v : Value}, At c g d v → At c g' d v
  | .none, _, h => by unfold At at h ⊢; exact h
  | .bool _, _, h => by unfold At at h ⊢; exact h
  | .int _, _, h => by unfold At at h ⊢; exact h
  | .str _, _, h => by unfold At at h ⊢; exact h
  | .list xs, _, h => by
    unfold At at h ⊢
    obtain ⟨a, vs, n, e1, e2, r⟩ := h
    exact ⟨a, vs, n, e1, k _ _ e2, AtAll.mono k r⟩
  | .tup xs, _, h => by
    unfold At at h ⊢
    obtain ⟨a, vs, n, e1, e2, r⟩ := h
    exact ⟨a, vs, n, e1, k _ _ e2, AtAll.mono k r⟩
  | .dict _, _, h => by
    unfold At at h ⊢
    obtain ⟨a, o, vs, e1, e2, r⟩ := h
    exact ⟨a, o, vs, e1, k _ _ e2, r⟩
  | .range _ _ _, _, h => by
    unfold At at h ⊢
    obtain ⟨a, t1, t2, t3, e1, e2⟩ := h
    exact ⟨a, t1, t2, t3, e1, k _ _ e2⟩
  | .lead norm _ _ _, _, h => by
    unfold At at h ⊢
    obtain ⟨x, dx, h1, h2, h3, h4, h5, t1, t2, t3, t4, t5, v1, n', nt', v4, kk, e1, e0, e2, e3, r⟩ := h
    exact ⟨x, dx, h1, h2, h3, h4, h5, t1, t2, t3, t4, t5, v1, n', nt', v4, kk, e1, e0, k _ _ e2, k _ _ e3, At.mono k r⟩
  | .comp cs, _, h => by
    unfold At at h ⊢
    obtain ⟨x, dx, h1, t1, v1, kk, e1, e0, e2, e3, r⟩ := h
    exact ⟨x, dx, h1, t1, v1, kk, e1, e0, k _ _ e2, k _ _ e3, At.mono k r⟩
  | .ref _, _, h => by unfold At at h ⊢; exact h
theorem AtAll.mono {c : Wd} {g g' : PH} (k : Keep g g') : ∀ {ds : List D} {vs : List Value}, AtAll c g ds vs → AtAll c g' ds vs
  | [], _, h => by unfold AtAll at h ⊢; exact h
  | d :: ds, _, h => by
    unfold AtAll at h ⊢
    obtain ⟨v, r, e, h1, h2⟩ := h
    exact ⟨v, r, e, At.mono k h1, AtAll.mono k h2⟩
end

section
variable {c : Wd} {g : PH}
theorem at_none {v : Value} : At c g .none v ↔ v = .none := by unfold At; rfl
theorem at_bool {b : Bool} {v : Value} : At c g (.bool b) v ↔ v = .bool b := by unfold At; rfl
theorem at_int {i : Int} {v : Value} : At c g (.int i) v ↔ ∃ t, v = .int i t := by unfold At; rfl
theorem at_str {x : Str} {v : Value} : At c g (.str x) v ↔ ∃ t, v = .str x t := by unfold At; rfl
theorem at_list {xs : List D} {v : Value} : At c g (.list xs) v ↔ ∃ a vs n, v = .ref a ∧ g a = some (lsO vs n) ∧ AtAll c g xs vs.toList := by rw [At.eq_def]
theorem at_tup {xs : List D} {v : Value} : At c g (.tup xs) v ↔ ∃ a vs n, v = .ref a ∧ g a = some (tpO vs n) ∧ AtAll c g xs vs.toList := by rw [At.eq_def]
theorem at_dict {kvs : List (Int × Int)} {v : Value} : At c g (.dict kvs) v ↔ ∃ a o vs, v = .ref a ∧ g a = some o ∧ 208 < a ∧ o.IsDictOf (intKind c.prog c.w) vs ∧ IVals kvs vs := by rw [At.eq_def]
theorem at_range {x y z : Int} {v : Value} : At c g (.range x y z) v ↔ ∃ a t1 t2 t3, v = .ref a ∧ g a = some (rgO x y z t1 t2 t3) := by rw [At.eq_def]
theorem at_ref {a : Addr} {v : Value} : At c g (.ref a) v ↔ v = .ref a := by unfold At; rfl
theorem atAll_nil {vs : List Value} : AtAll c g [] vs ↔ vs = [] := by unfold AtAll; rfl
theorem atAll_cons {d : D} {ds : List D} {vs : List Value} : AtAll c g (d :: ds) vs ↔ ∃ v r, vs = v :: r ∧ At c g d v ∧ AtAll c g ds r := by rw [AtAll.eq_def]
theorem mk_int (i : Int) (t : Tok) : At c g (.int i) (.int i t) := at_int.mpr ⟨t, rfl⟩
theorem mk_str (x : Str) (t : Tok) : At c g (.str x) (.str x t) := at_str.mpr ⟨t, rfl⟩
theorem mk_bool (b : Bool) : At c g (.bool b) (.bool b) := at_bool.mpr rfl
theorem AtAll.length : ∀ {ds : List D} {vs : List Value}, AtAll c g ds vs → vs.length = ds.length
  | [], _, h => by rw [atAll_nil.mp h]; rfl
  | d :: ds, _, h => by obtain ⟨v, r, rfl, _, h2⟩ := atAll_cons.mp h; simp [AtAll.length h2]
theorem AtAll.get : ∀ {ds : List D} {vs : List Value}, AtAll c g ds vs → ∀ {i : Nat} {d : D}, ds[i]? = some d → ∃ v, vs[i]? = some v ∧ At c g d v
  | [], _, _, i, d, e => by simp at e
  | d' :: ds, _, h, i, d, e => by
    obtain ⟨v, r, rfl, h1, h2⟩ := atAll_cons.mp h
    cases i with
    | zero => simp at e; subst e; exact ⟨v, by simp, h1⟩
    | succ i => simp at e; obtain ⟨w, e1, e2⟩ := AtAll.get h2 e; exact ⟨w, by simpa using e1, e2⟩
theorem AtAll.get' {ds : List D} {vs : List Value} (h : AtAll c g ds vs) {i : Nat} {v : Value} (e : vs[i]? = some v) : ∃ d, ds[i]? = some d ∧ At c g d v := by
  have hl := h.length
  have hi : i < ds.length := by
    have := (List.getElem?_eq_some_iff.mp e).1; omega
  obtain ⟨w, e1, e2⟩ := h.get (List.getElem?_eq_getElem hi)
  rw [e] at e1; cases e1
  exact ⟨_, List.getElem?_eq_getElem hi, e2⟩
theorem AtAll.append : ∀ {ds es : List D} {vs ws : List Value}, AtAll c g ds vs → AtAll c g es ws → AtAll c g (ds ++ es) (vs ++ ws)
  | [], _, _, _, h, h' => by rw [atAll_nil.mp h]; exact h'
  | d :: ds, _, _, _, h, h' => by
    obtain ⟨v, r, rfl, h1, h2⟩ := atAll_cons.mp h
    exact atAll_cons.mpr ⟨v, _, rfl, h1, AtAll.append h2 h'⟩
theorem AtAll.ints : ∀ {ns : List Int} {vs : List Value}, AtAll c g (ns.map .int) vs → IntsAre vs ns
  | [], _, h => by rw [atAll_nil.mp h]; exact .nil
  | n :: ns, _, h => by
    obtain ⟨v, r, rfl, h1, h2⟩ := atAll_cons.mp h
    obtain ⟨t, rfl⟩ := at_int.mp h1
    exact .cons n t (AtAll.ints h2)
end

end Mine

/-! # L2 -/
namespace Mine

/-! ## runs, names, expressions -/
abbrev Rn (c : Wd) (A : Around) {α : Type} (t : Sem α) (Q : α → Shared → Prop) (s : Shared) : Prop := wpAny c.M A t Q (fun _ _ => False) s

/-- how much room is left: frames and C units -/
structure Rm (A : Around) (n : Nat) : Prop where
  hh : A.handled = none
  hd : A.depth + n < recursionLimit
  hu : A.units + 20 * n + 200 < cLine
theorem Rm.le {A : Around} {n m : Nat} (r : Rm A n) (h : m ≤ n) : Rm A m := ⟨r.hh, by have := r.hd; omega, by have := r.hu; omega⟩
theorem Rm.deeper {A : Around} {n : Nat} (r : Rm A (n + 1)) (env : Env) : Rm (A.deeper env) n :=
  ⟨r.hh, by have := r.hd; show A.depth + 1 + n < _; omega, by have := r.hu; show A.units + 3 + 20 * n + 200 < _; omega⟩
theorem Rm.room {A : Around} {n : Nat} (r : Rm A (n + 1)) : A.depth < recursionLimit := by have := r.hd; omega

structure EnvOk (env : Env) : Prop where
  kind : env.scope.kind = .function
  gl : env.globals = mainGlobals
  bl : env.builtins = builtinsNs

def Loc (env : Env) (g : PH) (x : Str) (v : Value) : Prop :=
  (env.kindOf x = some .local ∧ ∃ o es ep, g env.locals = some o ∧ o.data = .dict es ep ∧ StrKeys es ∧ nsFind es x = some v) ∨
  ((env.kindOf x = some .cell ∨ (env.kindOf x = some .free ∧ (x == ("__classdict__" : Str)) = false)) ∧ ∃ c o, env.cells.lookup x = some c ∧ g c = some o ∧ o.data = .cell (some v))
theorem Loc.mono {env : Env} {g g' : PH} {x : Str} {v : Value} (k : Keep g g') (h : Loc env g x v) : Loc env g' x v := by
  rcases h with ⟨h1, o, es, ep, e, r⟩ | ⟨h1, cl, o, e1, e2, r⟩
  · exact .inl ⟨h1, o, es, ep, k _ _ e, r⟩
  · exact .inr ⟨h1, cl, o, e1, k _ _ e2, r⟩

section
variable {c : Wd} {A : Around} {env : Env} {g g' : PH} {pos : Pos}

theorem Loc.load {x : Str} {v : Value} {s : Shared} {Q : Value → Shared → Prop} {E : Value → Shared → Prop} (he : EnvOk env) (l : Loc env (hp s.heap) x v) (q : Q v s) : wpAny c.M A (loadName env x) Q E s := by
  rcases l with ⟨h1, o, es, ep, e, e2, e3, e4⟩ | ⟨h1, cl, o, e1, e2, e3⟩
  · exact wpAny_loadName_local he.kind h1 ⟨o, es, ep, hp_get e, e2, e3, fun _ => rfl⟩ e4 q
  · rcases h1 with h1 | ⟨h1, h2⟩
    · exact wpAny_loadName_cell he.kind h1 e1 ⟨o, hp_get e2, e3⟩ q
    · exact wpAny_loadName_free he.kind h1 e1 ⟨o, hp_get e2, e3⟩ q h2

/-- what an expression's value bears; every object stays -/
def Ev (c : Wd) (A : Around) (env : Env) (g : PH) (e : Expr) (d : D) : Prop :=
  ∀ s Q, Ok c s → Keep g (hp s.heap) → (∀ v s', Ok c s' → Keep (hp s.heap) (hp s'.heap) → At c (hp s'.heap) d v → Q v s') → Rn c A (eval e env) Q s
/-- a test's answer -/
def Te (c : Wd) (A : Around) (env : Env) (g : PH) (e : Expr) (b : Bool) : Prop :=
  ∀ s Q, Ok c s → Keep g (hp s.heap) → (∀ s', Ok c s' → Keep (hp s.heap) (hp s'.heap) → Q b s') → Rn c A (isTrue e env (eval e env)) Q s
/-- an operation on two values -/
def F2 (c : Wd) (A : Around) (f : Value → Value → Sem Value) (d1 d2 d : D) : Prop :=
  ∀ s v1 v2 Q, Ok c s → At c (hp s.heap) d1 v1 → At c (hp s.heap) d2 v2 → (∀ v s', Ok c s' → Keep (hp s.heap) (hp s'.heap) → At c (hp s'.heap) d v → Q v s') → Rn c A (f v1 v2) Q s
def F1 (c : Wd) (A : Around) (f : Value → Sem Value) (d1 d : D) : Prop :=
  ∀ s v1 Q, Ok c s → At c (hp s.heap) d1 v1 → (∀ v s', Ok c s' → Keep (hp s.heap) (hp s'.heap) → At c (hp s'.heap) d v → Q v s') → Rn c A (f v1) Q s

theorem Ev.mono {e : Expr} {d : D} (h : Ev c A env g e d) (k : Keep g g') : Ev c A env g' e d := fun s Q ok kk q => h s Q ok (k.trans kk) q
theorem Te.mono {e : Expr} {b : Bool} (h : Te c A env g e b) (k : Keep g g') : Te c A env g' e b := fun s Q ok kk q => h s Q ok (k.trans kk) q

theorem Ev.name {x : Str} {v : Value} {d : D} (he : EnvOk env) (l : Loc env g x v) (a : At c g d v) (hd : (x == ("__debug__" : Str)) = false := by decide) : Ev c A env g (.Name x pos) d :=
  fun s _ ok k q => wpAny_Name (Loc.load he (l.mono k) (q v s ok (Keep.refl _) (a.mono k))) hd
theorem Ev.cint {i : Int} {k : Nat} : Ev c A env g (.Constant (.int i) k pos) (.int i) := fun _ _ ok _ q => wpAny_Constant_int (q _ _ (ok.tok _) (Keep.refl _) (mk_int _ _))
theorem Ev.cstr {x : Str} {k : Nat} : Ev c A env g (.Constant (.str x) k pos) (.str x) := fun _ _ ok _ q => wpAny_Constant_str (q _ _ (ok.tok _) (Keep.refl _) (mk_str _ _))
theorem Ev.cnone {k : Nat} : Ev c A env g (.Constant .none k pos) .none := fun _ _ ok _ q => wpAny_Constant_none (q _ _ ok (Keep.refl _) (at_none.mpr rfl))
theorem Ev.cbool {b : Bool} {k : Nat} : Ev c A env g (.Constant (.bool b) k pos) (.bool b) := fun _ _ ok _ q => wpAny_Constant_bool (q _ _ ok (Keep.refl _) (mk_bool b))

theorem Ev.bin {l r : Expr} {op : Operator} {d1 d2 d : D} (h1 : Ev c A env g l d1) (h2 : Ev c A env g r d2) (f : F2 c A (binaryOp op) d1 d2 d) : Ev c A env g (.BinOp l op r pos) d :=
  fun s _ ok k q => wpAny_BinOp (h1 s _ ok k fun v1 s1 ok1 k1 a1 => h2 s1 _ ok1 (k.trans k1) fun v2 s2 ok2 k2 a2 => f s2 v1 v2 _ ok2 (a1.mono k2) a2 fun v s3 ok3 k3 a3 => q v s3 ok3 (k1.trans (k2.trans k3)) a3)
theorem Ev.cmp {l r : Expr} {op : CmpOp} {d1 d2 d : D} (h1 : Ev c A env g l d1) (h2 : Ev c A env g r d2) (f : F2 c A (compareOp op) d1 d2 d) (hm : behindInMarks op r = false := by with_unfolding_all rfl) : Ev c A env g (.Compare l [op] [r] pos) d :=
  fun s _ ok k q => wpAny_Compare1 (h1 s _ ok k fun v1 s1 ok1 k1 a1 => h2 s1 _ ok1 (k.trans k1) fun v2 s2 ok2 k2 a2 => f s2 v1 v2 _ ok2 (a1.mono k2) a2 fun v s3 ok3 k3 a3 => q v s3 ok3 (k1.trans (k2.trans k3)) a3) hm
theorem Te.cmp {l r : Expr} {op : CmpOp} {d1 d2 : D} {b : Bool} (h1 : Ev c A env g l d1) (h2 : Ev c A env g r d2) (f : F2 c A (compareOp op) d1 d2 (.bool b)) (hm : behindInMarks op r = false := by with_unfolding_all rfl) : Te c A env g (.Compare l [op] [r] pos) b :=
  fun s _ ok k q => wpAny_isTrue_Compare1 (h1 s _ ok k fun v1 s1 ok1 k1 a1 => h2 s1 _ ok1 (k.trans k1) fun v2 s2 ok2 k2 a2 => f s2 v1 v2 _ ok2 (a1.mono k2) a2 fun v s3 ok3 k3 a3 => by
    rw [at_bool.mp a3]; exact wpAny_truthy_bool (q s3 ok3 (k1.trans (k2.trans k3)))) hm
theorem Te.bool {e : Expr} {b : Bool} (h : Ev c A env g e (.bool b)) (he : isTrue e env (eval e env) = (do let v ← eval e env; standAt e.pos; holding [v] (truthy v)) := by rfl) : Te c A env g e b :=
  fun s _ ok k q => wpAny_isTrue_value (h s _ ok k fun v s1 ok1 k1 a1 => by rw [at_bool.mp a1]; exact wpAny_truthy_bool (q s1 ok1 k1)) he
def TeAll (c : Wd) (A : Around) (env : Env) (g : PH) (op : BoolOp) (es : List Expr) (b : Bool) : Prop :=
  ∀ s Q, Ok c s → Keep g (hp s.heap) → (∀ s', Ok c s' → Keep (hp s.heap) (hp s'.heap) → Q b s') → Rn c A (allTrue op es env) Q s
theorem Te.boolop {op : BoolOp} {es : List Expr} {b : Bool} (h : TeAll c A env g op es b) : Te c A env g (.BoolOp op es pos) b := fun s _ ok k q => wpAny_isTrue_BoolOp (h s _ ok k q)
theorem TeAll.or_nil : TeAll c A env g .Or [] false := fun s _ ok _ q => wpAny_allTrue_Or_nil (q s ok (Keep.refl _))
theorem TeAll.and_nil : TeAll c A env g .And [] true := fun s _ ok _ q => wpAny_allTrue_And_nil (q s ok (Keep.refl _))
theorem TeAll.or_cons {e : Expr} {es : List Expr} {b b' : Bool} (h : Te c A env g e b) (h' : b = false → TeAll c A env g .Or es b') : TeAll c A env g .Or (e :: es) (b || b') :=
  fun s _ ok k q => wpAny_allTrue_Or_cons (h s _ ok k fun s1 ok1 k1 => by
    cases b with
    | true => exact q s1 ok1 k1
    | false => exact h' rfl s1 _ ok1 (k.trans k1) fun s2 ok2 k2 => q s2 ok2 (k1.trans k2))
theorem TeAll.and_cons {e : Expr} {es : List Expr} {b b' : Bool} (h : Te c A env g e b) (h' : b = true → TeAll c A env g .And es b') : TeAll c A env g .And (e :: es) (b && b') :=
  fun s _ ok k q => wpAny_allTrue_And_cons (h s _ ok k fun s1 ok1 k1 => by
    cases b with
    | false => exact q s1 ok1 k1
    | true => exact h' rfl s1 _ ok1 (k.trans k1) fun s2 ok2 k2 => q s2 ok2 (k1.trans k2))

/-! ints -/
theorem F2.of_int {f : Value → Value → Sem Value} {a b : Int} {d : D} (h : ∀ s t u Q, Ok c s → (∀ v s', Ok c s' → Keep (hp s.heap) (hp s'.heap) → At c (hp s'.heap) d v → Q v s') → Rn c A (f (.int a t) (.int b u)) Q s) : F2 c A f (.int a) (.int b) d :=
  fun s v1 v2 Q ok a1 a2 q => by
    obtain ⟨t, rfl⟩ := at_int.mp a1
    obtain ⟨u, rfl⟩ := at_int.mp a2
    exact h s t u Q ok q
theorem add_i (a b : Int) : F2 c A (binaryOp .Add) (.int a) (.int b) (.int (a + b)) := .of_int fun _ _ _ _ ok q => PyProof.Rows.add_int (q _ _ (ok.tok _) (Keep.refl _) (mk_int _ _))
theorem iadd_i (a b : Int) : F2 c A (inplaceOp .Add) (.int a) (.int b) (.int (a + b)) := .of_int fun _ _ _ _ ok q => PyProof.Rows.iadd_int (q _ _ (ok.tok _) (Keep.refl _) (mk_int _ _))
theorem sub_i (a b : Int) : F2 c A (binaryOp .Sub) (.int a) (.int b) (.int (a - b)) := .of_int fun _ _ _ _ ok q => PyProof.Rows.sub_int (q _ _ (ok.tok _) (Keep.refl _) (mk_int _ _))
theorem mul_i (a b : Int) (hm : IntMulOk a b) : F2 c A (binaryOp .Mult) (.int a) (.int b) (.int (a * b)) := .of_int fun _ _ _ _ ok q => PyProof.Rows.mul_int (q _ _ (ok.tok _) (Keep.refl _) (mk_int _ _)) hm
theorem fmod_i (a b : Int) (hb : b ≠ 0) : F2 c A (binaryOp .Mod) (.int a) (.int b) (.int (a.fmod b)) := .of_int fun _ _ _ _ ok q => PyProof.Rows.mod_int hb (q _ _ (ok.tok _) (Keep.refl _) (mk_int _ _))
theorem fdiv_i (a b : Int) (hb : b ≠ 0) (hs : Builtin.divisionGoesByPylong a b = false) : F2 c A (binaryOp .FloorDiv) (.int a) (.int b) (.int (a.fdiv b)) := .of_int fun _ _ _ _ ok q => PyProof.Rows.floordiv_int hb (q _ _ (ok.tok _) (Keep.refl _) (mk_int _ _)) (.inl hs)
theorem pow_i (a n : Int) (hn : 0 ≤ n) (hs : (Builtin.Int.intBits a : Int) * n ≤ 2 ^ 27) : F2 c A (binaryOp .Pow) (.int a) (.int n) (.int (a ^ n.toNat)) := .of_int fun _ _ _ _ ok q => PyProof.Rows.pow_int hn hs (q _ _ (ok.tok _) (Keep.refl _) (mk_int _ _))
theorem lt_i (a b : Int) : F2 c A (compareOp .Lt) (.int a) (.int b) (.bool (decide (a < b))) := .of_int fun _ _ _ _ ok q => PyProof.Rows.lt_int (q _ _ ok (Keep.refl _) (mk_bool _))
theorem gt_i (a b : Int) : F2 c A (compareOp .Gt) (.int a) (.int b) (.bool (decide (b < a))) := .of_int fun _ _ _ _ ok q => PyProof.Rows.gt_int (q _ _ ok (Keep.refl _) (mk_bool _))
theorem le_i (a b : Int) : F2 c A (compareOp .LtE) (.int a) (.int b) (.bool (decide (a ≤ b))) := .of_int fun _ _ _ _ ok q => PyProof.Rows.le_int (q _ _ ok (Keep.refl _) (mk_bool _))
theorem ge_i (a b : Int) : F2 c A (compareOp .GtE) (.int a) (.int b) (.bool (decide (b ≤ a))) := .of_int fun _ _ _ _ ok q => PyProof.Rows.ge_int (q _ _ ok (Keep.refl _) (mk_bool _))
theorem eq_i (a b : Int) : F2 c A (compareOp .Eq) (.int a) (.int b) (.bool (a == b)) := .of_int fun _ _ _ _ ok q => PyProof.Rows.eq_int (q _ _ ok (Keep.refl _) (mk_bool _))
theorem ne_i (a b : Int) : F2 c A (compareOp .NotEq) (.int a) (.int b) (.bool (a != b)) := .of_int fun _ _ _ _ ok q => PyProof.Rows.ne_int (q _ _ ok (Keep.refl _) (mk_bool _))

/-! several expressions; displays -/
def EvAll (c : Wd) (A : Around) (env : Env) (g : PH) (es : List Expr) (ds : List D) : Prop :=
  ∀ pos s Q, Ok c s → Keep g (hp s.heap) → (∀ vs s', Ok c s' → Keep (hp s.heap) (hp s'.heap) → AtAll c (hp s'.heap) ds vs → Q vs s') → Rn c A (spliced (backTo pos (starEach es env))) Q s
theorem EvAll.nil : EvAll c A env g [] [] := fun _ s _ ok _ q => wpAny_items_nil (q _ s ok (Keep.refl _) (atAll_nil.mpr rfl))
theorem EvAll.cons {e : Expr} {es : List Expr} {d : D} {ds : List D} (h : Ev c A env g e d) (h' : EvAll c A env g es ds) (he : starEach (e :: es) env = (false, eval e env) :: starEach es env := by rfl) : EvAll c A env g (e :: es) (d :: ds) :=
  fun pos s _ ok k q => wpAny_items_cons (h s _ ok k fun v s1 ok1 k1 a1 => h' pos s1 _ ok1 (k.trans k1) fun vs s2 ok2 k2 a2 => q _ s2 ok2 (k1.trans k2) (atAll_cons.mpr ⟨v, vs, rfl, a1.mono k2, a2⟩)) he
theorem Ev.tuple {es : List Expr} {ds : List D} {n : Nat} (h : EvAll c A env g es ds) (hs : ds.length ≤ sizeLine := by simp [sizeLine]) : Ev c A env g (.Tuple es n pos) (.tup ds) :=
  fun s _ ok k q => wpAny_Tuple (h pos s _ ok k fun vs s1 ok1 k1 a1 => ⟨by rw [a1.length]; exact hs, q _ _ (ok1.push _) (k1.trans (keep_push _ _)) (at_tup.mpr ⟨_, _, _, rfl, ok1.new, by simpa using a1.mono (keep_push _ _)⟩)⟩)
theorem Ev.list {es : List Expr} {ds : List D} (h : EvAll c A env g es ds) (hs : ds.length ≤ sizeLine := by simp [sizeLine]) : Ev c A env g (.List es pos) (.list ds) :=
  fun s _ ok k q => wpAny_List (h pos s _ ok k fun vs s1 ok1 k1 a1 => ⟨by rw [a1.length]; exact hs, q _ _ (ok1.push _) (k1.trans (keep_push _ _)) (at_list.mpr ⟨_, _, _, rfl, ok1.new, by simpa using a1.mono (keep_push _ _)⟩)⟩)
end
end Mine

/-! # L3 -/
namespace Mine
section
variable {c : Wd} {A : Around} {env : Env} {g g' : PH} {pos p : Pos}

theorem glob_load {x : Str} {f : Value} {s : Shared} {Q : Value → Shared → Prop} (he : EnvOk env) (ok : Ok c s) (hf : nsIn c.K mainGlobals x = some (some f)) (q : Q f s) (hx : env.kindOf x = some .globalImplicit := by rfl) (hd : (x == ("__debug__" : Str)) = false := by decide) :
    Rn c A (eval (.Name x p) env) Q s :=
  Calls.Name_function_global he.kind hx (Calls.loadGlobal_global (by rw [he.gl]; exact ok.inv.g) (mg_of ok.inv.k ok.inv.g hf) q) hd
theorem blt_load {x : Str} {f : Value} {s : Shared} {Q : Value → Shared → Prop} (he : EnvOk env) (ok : Ok c s) (hf : nsIn c.K mainGlobals x = some none) (hb : bootBuiltins x = some f) (hn : x ≠ "__name__") (q : Q f s) (hx : env.kindOf x = some .globalImplicit := by rfl) (hd : (x == ("__debug__" : Str)) = false := by decide) :
    Rn c A (eval (.Name x p) env) Q s :=
  Calls.Name_function_global he.kind hx (Calls.loadGlobal_builtin (by rw [he.gl]; exact ok.inv.g) (mg_none_of ok.inv.k ok.inv.g hf) (by rw [he.bl]; exact ok.inv.b) ((c.bt x hn).trans hb) q) hd

/-- what a call gives -/
def Spec (c : Wd) (A : Around) (f : Value) (ds : List D) (d : D) : Prop :=
  ∀ s vs Q, Ok c s → AtAll c (hp s.heap) ds vs → (∀ v s', Ok c s' → Keep (hp s.heap) (hp s'.heap) → At c (hp s'.heap) d v → Q v s') → Rn c A (call f vs) Q s
def Kept (c : Wd) (f : Value) : Prop := ∀ h, Inv c h → ∃ k, (k = Keeper.frame ∨ k = Keeper.machine ∨ k = Keeper.boundFrame) ∧ Looks c.M h (keeperOf f) k
theorem kept_K {f : Value} (hk : keepIn c.K f = true) : Kept c f := fun h x => keeps_K hk h x.k
theorem kept_blt (i : String) : Kept c (.builtin i) := fun _ _ => ⟨.machine, .inr (.inl rfl), Looks.of_pure rfl⟩
theorem kept_type (i : String) : Kept c (.type i) := fun _ _ => ⟨.machine, .inr (.inl rfl), Looks.of_pure rfl⟩

theorem evalArgs_flat {M : Model} {E : Value → Shared → Prop} {s : Shared} {f : Value} {args : List (Bool × Sem Value)} {Q : Args → Shared → Prop} (hp : args.any (·.1) = false) (h : wpAny M A (spliced args) (fun vs s' => Q ⟨vs, []⟩ s') E s) : wpAny M A (evalArgs f true args []) Q E s := by
  match args, hp, h with
  | [], _, h =>
    unfold evalArgs
    show wpAny M A (spliced [] >>= _) Q E s
    refine wpAny_bind (wpAny_mono h (fun vs s' h' => ?_) fun _ _ x => x)
    refine wpAny_bind (wpAny_pure ?_)
    refine wpAny_holding ?_
    exact wpAny_bind (wpAny_pure (wpAny_bind (wpAny_pure (wpAny_pure h'))))
  | (false, x) :: rest, _, h => exact Calls.evalArgs_plain h
  | (true, x) :: rest, hp, _ => simp at hp

theorem call_with {f : Value} {first : List Value} {es : List Expr} {ds : List D} {s : Shared} {Q : Value → Shared → Prop} (hk : Kept c f) (ha : EvAll c A env g es ds) (ok : Ok c s) (k : Keep g (hp s.heap)) (hpl : (backTo pos (starEach es env)).any (·.1) = false)
    (q : ∀ vs s', Ok c s' → Keep (hp s.heap) (hp s'.heap) → AtAll c (hp s'.heap) ds vs → Rn c A (call f (first ++ vs)) Q s') : Rn c A (callWith pos f first (backTo pos (starEach es env)) []) Q s := by
  refine callWith_of (P := Inv c) (by simpa using hpl) hk (evalArgs_flat hpl ?_)
  exact ha pos s _ ok k fun vs s' ok' k' a' => ⟨ok'.inv, q vs s' ok' k' a'⟩

/-- a call of a name of the text -/
theorem Ev.call {x : Str} {f : Value} {es : List Expr} {ds : List D} {d : D} (he : EnvOk env) (hf : nsIn c.K mainGlobals x = some (some f)) (hk : Kept c f) (ha : EvAll c A env g es ds) (sp : Spec c A f ds d)
    (hx : env.kindOf x = some .globalImplicit := by rfl) (hpl : (backTo pos (starEach es env)).any (·.1) = false := by rfl) (hd : (x == ("__debug__" : Str)) = false := by decide) : Ev c A env g (.Call (.Name x p) es [] pos) d :=
  fun s _ ok k q => Call_ (glob_load he ok hf (call_with hk ha ok k hpl fun vs s1 ok1 k1 a1 => sp s1 vs _ ok1 a1 fun v s2 ok2 k2 a2 => q v s2 ok2 (k1.trans k2) a2) hx hd)
/-- a call of a built-in name -/
theorem Ev.blt {x : Str} {f : Value} {es : List Expr} {ds : List D} {d : D} (he : EnvOk env) (hf : nsIn c.K mainGlobals x = some none) (hb : bootBuiltins x = some f) (hk : Kept c f) (ha : EvAll c A env g es ds) (sp : Spec c A f ds d) (hn : x ≠ "__name__" := by decide)
    (hx : env.kindOf x = some .globalImplicit := by rfl) (hpl : (backTo pos (starEach es env)).any (·.1) = false := by rfl) (hd : (x == ("__debug__" : Str)) = false := by decide) : Ev c A env g (.Call (.Name x p) es [] pos) d :=
  fun s _ ok k q => Call_ (blt_load he ok hf hb hn (call_with hk ha ok k hpl fun vs s1 ok1 k1 a1 => sp s1 vs _ ok1 a1 fun v s2 ok2 k2 a2 => q v s2 ok2 (k1.trans k2) a2) hx hd)

/-- a method is found -/
def Meth (c : Wd) (d0 : D) (name : Str) (f : Value) : Prop := ∀ A s ov pl (Q : Value × List Value → Shared → Prop), Ok c s → At c (hp s.heap) d0 ov → Q (f, [ov]) s → Rn c A (getMethod ov name pl) Q s
theorem Ev.meth {o : Expr} {name : Str} {apos : Pos} {f : Value} {es : List Expr} {d0 : D} {ds : List D} {d : D} {pl : Sem Bool} (ho : Ev c A env g o d0) (hm : Meth c d0 name f) (hk : Kept c f) (ha : EvAll c A env g es ds) (sp : Spec c A f (d0 :: ds) d)
    (he : eval (.Call (.Attribute o name apos) es [] pos) env = (do
      let ov ← eval o env
      standAt apos.atName
      let (f, first) ← holding [ov] (getMethod ov name pl)
      callWith pos f first (backTo pos (starEach es env)) (backToKw pos (keywordEach [] env))) := by rfl)
    (hpl : (backTo pos (starEach es env)).any (·.1) = false := by rfl) : Ev c A env g (.Call (.Attribute o name apos) es [] pos) d :=
  fun s _ ok k q => methodCall_KW (ho s _ ok k fun ov s1 ok1 k1 a1 => hm A s1 ov pl _ ok1 a1 (call_with hk ha ok1 (k.trans k1) hpl fun vs s2 ok2 k2 a2 =>
    sp s2 (ov :: vs) _ ok2 (atAll_cons.mpr ⟨ov, vs, rfl, a1.mono k2, a2⟩) fun v s3 ok3 k3 a3 => q v s3 ok3 (k1.trans (k2.trans k3)) a3)) he

/-! attributes and methods of a Whitespace -/
theorem lead_inst {norm : D} {n nt : Int} {simple : Bool} {h : Heap} {v : Value} (a : At c (hp h) (.lead norm n nt simple) v) :
    ∃ x dx es k, v = .ref x ∧ InstAt h x (instObj cWs dx) cWs (some (dictOf es k)) ∧ (∃ h1 h2 h3 h4 h5 t1 t2 t3 t4 t5 v1 n' nt' v4, es = leadEs h1 h2 h3 h4 h5 t1 t2 t3 t4 t5 v1 (.int n n') (.int nt nt') v4 (.bool simple) ∧ At c (hp h) norm v4) := by
  unfold At at a
  obtain ⟨x, dx, h1, h2, h3, h4, h5, t1, t2, t3, t4, t5, v1, n', nt', v4, k, rfl, _, e1, e2, r⟩ := a
  exact ⟨x, dx, _, k, rfl, ⟨hp_get e1, rfl, rfl, hp_get e2⟩, h1, h2, h3, h4, h5, t1, t2, t3, t4, t5, v1, n', nt', v4, rfl, r⟩
end
end Mine

/-! # L4 -/
namespace Mine
section
variable {c : Wd} {A : Around} {env : Env} {g g' : PH} {pos p : Pos}

theorem ws_ga : findIn c.K (.ref cWs) "__getattribute__" = some (some (.builtin "object.__getattribute__")) := by kernel_rfl
theorem ws_gt : findIn c.K (.ref cWs) "__getattr__" = some none := by kernel_rfl

theorem lead_nt {h1 h2 h3 h4 h5 : Int} {t1 t2 t3 t4 t5 : Tok} {v1 v2 v3 v4 v5 : Value} {k : Nat} : findObj c.K cWs (some (dictOf (leadEs h1 h2 h3 h4 h5 t1 t2 t3 t4 t5 v1 v2 v3 v4 v5) k)) "nt" = some (.value v3) := by kernel_rfl
theorem lead_n {h1 h2 h3 h4 h5 : Int} {t1 t2 t3 t4 t5 : Tok} {v1 v2 v3 v4 v5 : Value} {k : Nat} : findObj c.K cWs (some (dictOf (leadEs h1 h2 h3 h4 h5 t1 t2 t3 t4 t5 v1 v2 v3 v4 v5) k)) "n" = some (.value v2) := by kernel_rfl
theorem lead_norm {h1 h2 h3 h4 h5 : Int} {t1 t2 t3 t4 t5 : Tok} {v1 v2 v3 v4 v5 : Value} {k : Nat} : findObj c.K cWs (some (dictOf (leadEs h1 h2 h3 h4 h5 t1 t2 t3 t4 t5 v1 v2 v3 v4 v5) k)) "norm" = some (.value v4) := by kernel_rfl
theorem lead_simple {h1 h2 h3 h4 h5 : Int} {t1 t2 t3 t4 t5 : Tok} {v1 v2 v3 v4 v5 : Value} {k : Nat} : findObj c.K cWs (some (dictOf (leadEs h1 h2 h3 h4 h5 t1 t2 t3 t4 t5 v1 v2 v3 v4 v5) k)) "is_simple" = some (.value v5) := by kernel_rfl

theorem Ev.attr {e : Expr} {name : Str} {d0 d : D} (h : Ev c A env g e d0)
    (hg : ∀ s v Q, Ok c s → At c (hp s.heap) d0 v → (∀ v' s', Ok c s' → Keep (hp s.heap) (hp s'.heap) → At c (hp s'.heap) d v' → Q v' s') → Rn c A (getAttr v name true) Q s)
    (he : eval (.Attribute e name pos) env = (do
      let o ← eval e env
      standAt pos.atName
      let r ← holding [o] (getAttr o name true)
      letTemporaryGo e o r
      pure r) := by with_unfolding_all rfl) : Ev c A env g (.Attribute e name pos) d :=
  fun s _ ok k q => Attribute_any_ (h s _ ok k fun v s1 ok1 k1 a1 => hg s1 v _ ok1 a1 fun v' s2 ok2 k2 a2 => q v' s2 ok2 (k1.trans k2) a2) he

theorem get_n {norm : D} {n nt : Int} {simple : Bool} (s : Shared) (v : Value) (Q : Value → Shared → Prop) (ok : Ok c s) (a : At c (hp s.heap) (.lead norm n nt simple) v) (q : ∀ v' s', Ok c s' → Keep (hp s.heap) (hp s'.heap) → At c (hp s'.heap) (.int n) v' → Q v' s') : Rn c A (getAttr v "n" true) Q s := by
  obtain ⟨x, dx, es, k, rfl, I, h1, h2, h3, h4, h5, t1, t2, t3, t4, t5, v1, n', nt', v4, rfl, r⟩ := lead_inst a
  exact get_value ok.inv.k I ws_ga lead_n rfl (q _ _ (ok.tok _) (Keep.refl _) (mk_int _ _))
theorem get_nt {norm : D} {n nt : Int} {simple : Bool} (s : Shared) (v : Value) (Q : Value → Shared → Prop) (ok : Ok c s) (a : At c (hp s.heap) (.lead norm n nt simple) v) (q : ∀ v' s', Ok c s' → Keep (hp s.heap) (hp s'.heap) → At c (hp s'.heap) (.int nt) v' → Q v' s') : Rn c A (getAttr v "nt" true) Q s := by
  obtain ⟨x, dx, es, k, rfl, I, h1, h2, h3, h4, h5, t1, t2, t3, t4, t5, v1, n', nt', v4, rfl, r⟩ := lead_inst a
  exact get_value ok.inv.k I ws_ga lead_nt rfl (q _ _ (ok.tok _) (Keep.refl _) (mk_int _ _))
theorem get_simple {norm : D} {n nt : Int} {simple : Bool} (s : Shared) (v : Value) (Q : Value → Shared → Prop) (ok : Ok c s) (a : At c (hp s.heap) (.lead norm n nt simple) v) (q : ∀ v' s', Ok c s' → Keep (hp s.heap) (hp s'.heap) → At c (hp s'.heap) (.bool simple) v' → Q v' s') : Rn c A (getAttr v "is_simple" true) Q s := by
  obtain ⟨x, dx, es, k, rfl, I, h1, h2, h3, h4, h5, t1, t2, t3, t4, t5, v1, n', nt', v4, rfl, r⟩ := lead_inst a
  exact get_value ok.inv.k I ws_ga lead_simple rfl (q _ _ (ok.tok _) (Keep.refl _) (mk_bool _))
theorem get_norm {norm : D} {n nt : Int} {simple : Bool} (hn : ∃ xs, norm = .tup xs) (s : Shared) (v : Value) (Q : Value → Shared → Prop) (ok : Ok c s) (a : At c (hp s.heap) (.lead norm n nt simple) v) (q : ∀ v' s', Ok c s' → Keep (hp s.heap) (hp s'.heap) → At c (hp s'.heap) norm v' → Q v' s') : Rn c A (getAttr v "norm" true) Q s := by
  obtain ⟨x, dx, es, k, rfl, I, h1, h2, h3, h4, h5, t1, t2, t3, t4, t5, v1, n', nt', v4, rfl, r⟩ := lead_inst a
  obtain ⟨xs, rfl⟩ := hn
  refine get_value ok.inv.k I ws_ga lead_norm ?_ (q _ _ (ok.tok _) (Keep.refl _) r)
  obtain ⟨_, _, _, rfl, _⟩ := at_tup.mp r
  rfl

theorem ws_meth {norm : D} {n nt : Int} {simple : Bool} {name : Str} {f : Addr} (hf : findIn c.K (.ref cWs) name = some (some (.ref f))) (ht : typeIn c.K (.ref f) = some (.type "function"))
    (hs : ∀ h1 h2 h3 h4 h5 t1 t2 t3 t4 t5 v1 v2 v3 v4 v5 k, shadowIn (some (dictOf (leadEs h1 h2 h3 h4 h5 t1 t2 t3 t4 t5 v1 v2 v3 v4 v5) k)) name = some false) : Meth c (.lead norm n nt simple) name (.ref f) := fun A s ov pl Q ok a q => by
  obtain ⟨x, dx, es, k, rfl, I, h1, h2, h3, h4, h5, t1, t2, t3, t4, t5, v1, n', nt', v4, rfl, r⟩ := lead_inst a
  exact method_fn ok.inv.k I ws_ga ws_gt hf ht (hs ..) q
theorem m_level {norm : D} {n nt : Int} {simple : Bool} : Meth c (.lead norm n nt simple) "indent_level" (.ref 123) := ws_meth (by kernel_rfl) (by kernel_rfl) (by intros; kernel_rfl)
theorem m_longest {norm : D} {n nt : Int} {simple : Bool} : Meth c (.lead norm n nt simple) "longest_run_of_spaces" (.ref 116) := ws_meth (by kernel_rfl) (by kernel_rfl) (by intros; kernel_rfl)
theorem m_equal {norm : D} {n nt : Int} {simple : Bool} : Meth c (.lead norm n nt simple) "equal" (.ref 130) := ws_meth (by kernel_rfl) (by kernel_rfl) (by intros; kernel_rfl)
theorem m_new {norm : D} {n nt : Int} {simple : Bool} : Meth c (.lead norm n nt simple) "not_equal_witness" (.ref 137) := ws_meth (by kernel_rfl) (by kernel_rfl) (by intros; kernel_rfl)
theorem m_less {norm : D} {n nt : Int} {simple : Bool} : Meth c (.lead norm n nt simple) "less" (.ref 144) := ws_meth (by kernel_rfl) (by kernel_rfl) (by intros; kernel_rfl)
theorem m_nlw {norm : D} {n nt : Int} {simple : Bool} : Meth c (.lead norm n nt simple) "not_less_witness" (.ref 151) := ws_meth (by kernel_rfl) (by kernel_rfl) (by intros; kernel_rfl)
end
end Mine

/-! # L5 -/
namespace Mine
section
variable {c : Wd} {A : Around} {env : Env} {g g' : PH} {pos p : Pos}

/-! items -/
theorem Ev.item {value slice : Expr} {d1 d2 d : D} (h1 : Ev c A env g value d1) (h2 : Ev c A env g slice d2)
    (f : ∀ s v1 v2 Q, Ok c s → At c (hp s.heap) d1 v1 → At c (hp s.heap) d2 v2 → (∀ v s', Ok c s' → Keep (hp s.heap) (hp s'.heap) → At c (hp s'.heap) d v → Q v s') → Rn c A (subscriptTail value slice v1 v2) Q s) : Ev c A env g (.Subscript value slice pos) d :=
  fun s _ ok k q => Subscript_ (h1 s _ ok k fun v1 s1 ok1 k1 a1 => h2 s1 _ ok1 (k.trans k1) fun v2 s2 ok2 k2 a2 => f s2 v1 v2 _ ok2 (a1.mono k2) a2 fun v s3 ok3 k3 a3 => q v s3 ok3 (k1.trans (k2.trans k3)) a3)

theorem Ev.item_list {value slice : Expr} {ds : List D} {k : Int} {d : D} (h1 : Ev c A env g value (.list ds)) (h2 : Ev c A env g slice (.int k)) (h0 : 0 ≤ k) (hx : ds[k.toNat]? = some d) (hf : k < 2 ^ 63 := by decide)
    (hs : ∀ o i, subscripted slice false o i = operate [o, i] (getItem o i) := by intros; rfl) : Ev c A env g (.Subscript value slice pos) d :=
  .item h1 h2 fun s v1 v2 Q ok a1 a2 q => by
    obtain ⟨a, vs, n, rfl, e, r⟩ := at_list.mp a1
    obtain ⟨t, rfl⟩ := at_int.mp a2
    obtain ⟨v, hv, av⟩ := r.get hx
    exact tail_any ⟨_, hp_get e, rfl⟩ F.slot_list_getitem.lookup (wpAny_getItem_list ⟨_, hp_get e, rfl, n, rfl⟩ h0 hf (by simpa using hv) (q v s ok (Keep.refl _) av)) (hs _ _)
theorem Ev.item_last {value slice : Expr} {ds : List D} {d : D} (h1 : Ev c A env g value (.list ds)) (h2 : Ev c A env g slice (.int (-1))) (hx : ds[ds.length - 1]? = some d)
    (hs : ∀ o i, subscripted slice false o i = operate [o, i] (getItem o i) := by intros; rfl) : Ev c A env g (.Subscript value slice pos) d :=
  .item h1 h2 fun s v1 v2 Q ok a1 a2 q => by
    obtain ⟨a, vs, n, rfl, e, r⟩ := at_list.mp a1
    obtain ⟨t, rfl⟩ := at_int.mp a2
    obtain ⟨v, hv, av⟩ := r.get hx
    have hl : vs.size = ds.length := by have := r.length; simpa using this
    have hp : 0 < ds.length := by have := (List.getElem?_eq_some_iff.mp hx).1; omega
    refine tail_any ⟨_, hp_get e, rfl⟩ F.slot_list_getitem.lookup (wpAny_getItem_list_neg ⟨_, hp_get e, rfl, n, rfl⟩ (by decide) (by omega) (by decide) ?_ (q v s ok (Keep.refl _) av)) (hs _ _)
    have : ((-1 : Int) + vs.size).toNat = ds.length - 1 := by omega
    rw [this]; simpa using hv
theorem Ev.item_tup {value slice : Expr} {ds : List D} {k : Int} {d : D} (h1 : Ev c A env g value (.tup ds)) (h2 : Ev c A env g slice (.int k)) (h0 : 0 ≤ k) (hx : ds[k.toNat]? = some d) (hf : k < 2 ^ 63 := by decide)
    (hs : ∀ o i, subscripted slice false o i = operate [o, i] (getItem o i) := by intros; rfl) : Ev c A env g (.Subscript value slice pos) d :=
  .item h1 h2 fun s v1 v2 Q ok a1 a2 q => by
    obtain ⟨a, vs, n, rfl, e, r⟩ := at_tup.mp a1
    obtain ⟨t, rfl⟩ := at_int.mp a2
    obtain ⟨v, hv, av⟩ := r.get hx
    have hl : vs.size = ds.length := by have := r.length; simpa using this
    have hk : k.toNat < vs.size := by have := (List.getElem?_eq_some_iff.mp hx).1; omega
    refine tail_any ⟨_, hp_get e, rfl⟩ F.slot_tuple_getitem.lookup (PySem.P.getItem_tuple (n := n) (hp_get e) (by omega) hf (k := k.toNat) ?_ (by simpa using hv) (q v s ok (Keep.refl _) av)) (hs _ _)
    unfold seqIndex?
    split <;> simp_all <;> omega
/-- value[:k] -/
theorem Ev.upto {value : Expr} {ds : List D} {k : Int} {n : Nat} {p1 p2 : Pos} (h1 : Ev c A env g value (.list ds)) (hk : 0 ≤ k) (hsz : ds.length ≤ sizeLine) :
    Ev c A env g (.Subscript value (.Slice none (some (.Constant (.int k) n p1)) none p2) pos) (.list (ds.take k.toNat)) :=
  fun s _ ok kk q => Subscript_ (h1 s _ ok kk fun v1 s1 ok1 k1 a1 => by
    obtain ⟨a, vs, m, rfl, e, r⟩ := at_list.mp a1
    have hl : vs.size = ds.length := by have := r.length; simpa using this
    refine wpAny_Slice (wpAny_pure ?_)
    refine wpAny_Constant_int (k := n) (pos := p1) ?_
    refine wpAny_pure ?_
    have e2 := Heap.get?_push_of_some ({ cls := .type "slice", data := .fields #[Value.none, Value.int k s1.toks, Value.none] } : Obj) (hp_get e)
    refine tail_any ⟨_, e2, rfl⟩ F.slot_list_getitem.lookup (wpAny_getItem_list_slice (st := none) (lo := none) (hi := some k) ⟨_, e2, rfl, m, rfl⟩ (Heap.IsSliceOf.new ..) .none (.int _ _) .none (by simp) ?_ (by rw [hl]; exact hsz)) rfl
    refine q _ _ (((ok1.tok _).push _).push _) (k1.trans ((keep_push _ _).trans (keep_push _ _))) (at_list.mpr ⟨_, _, _, rfl, (((ok1.tok _).push _).new), ?_⟩)
    rw [slicePick_plain]
    simp only [Option.elim, List.drop_zero, Nat.sub_zero]
    have ht : ∀ (ds : List D) (vs : List Value) (n : Nat), AtAll c (hp s1.heap) ds vs → AtAll c (hp s1.heap) (ds.take n) (vs.take n) := by
      intro ds
      induction ds with
      | nil => intro vs n h; rw [atAll_nil.mp h, List.take_nil, List.take_nil]; exact atAll_nil.mpr rfl
      | cons d ds ih =>
        intro vs n h
        obtain ⟨v, r, rfl, h1, h2⟩ := atAll_cons.mp h
        cases n with
        | zero => simpa using atAll_nil.mpr rfl
        | succ n => exact atAll_cons.mpr ⟨v, _, rfl, h1, ih _ _ h2⟩
    have hclip : vs.toList.take (clipAt vs.size k) = vs.toList.take k.toNat := by
      unfold clipAt
      rcases Nat.lt_or_ge k.toNat vs.size with h | h
      · rw [List.take_eq_take_iff]; simp; omega
      · rw [List.take_eq_take_iff]; simp; omega
    rw [hclip]
    exact (ht _ _ _ r).mono ((keep_push _ _).trans (keep_push _ _)))

/-! texts -/
abbrev S (l : List Nat) : Str := ⟨l.toArray⟩
theorem S_len (l : List Nat) : (S l).length = l.length := by simp [Str.length]
theorem S_append (a b : List Nat) : S a ++ S b = S (a ++ b) := by
  apply Str.ext'; simp [Str.cps_append]
theorem add_s (a b : List Nat) (h : a.length + b.length ≤ sizeLine) : F2 c A (binaryOp .Add) (.str (S a)) (.str (S b)) (.str (S (a ++ b))) := fun s v1 v2 Q ok a1 a2 q => by
  obtain ⟨t, rfl⟩ := at_str.mp a1
  obtain ⟨u, rfl⟩ := at_str.mp a2
  exact PyProof.Rows.add_str (fun t' tk => q _ _ (ok.tok _) (Keep.refl _) (by rw [S_append]; exact mk_str _ _)) (by rw [S_len, S_len]; exact h)
theorem mul_s (x : Nat) (n : Int) (h0 : 0 ≤ n) (h1 : n < 1000) : F2 c A (binaryOp .Mult) (.str (S [x])) (.int n) (.str (S (List.replicate n.toNat x))) := fun s v1 v2 Q ok a1 a2 q => by
  obtain ⟨t, rfl⟩ := at_str.mp a1
  obtain ⟨u, rfl⟩ := at_int.mp a2
  have hm : Txt.mul (S [x]) n = S (List.replicate n.toNat x) := by
    have fl : ∀ (k : Nat) (acc : Array Nat), (List.replicate k #[x]).foldl (· ++ ·) acc = acc ++ (List.replicate k x).toArray := by
      intro k
      induction k with
      | zero => intro acc; simp
      | succ k ih => intro acc; rw [List.replicate_succ, List.foldl_cons, ih, List.replicate_succ]; apply Array.ext'; simp
    unfold Txt.mul
    split
    · rename_i hn
      have : n.toNat = 0 := by omega
      rw [this]; rfl
    · split
      · rename_i hn hq
        have : n = 1 := by simpa [Str.length] using hq
        subst this; rfl
      · have := fl n.toNat #[]
        simp only [Array.empty_append] at this
        show (⟨(List.replicate n.toNat #[x]).foldl (· ++ ·) #[]⟩ : Str) = _
        rw [this]
  refine SB.mul ?_ fun t' k => q _ _ (ok.tok _) (Keep.refl _) (by rw [hm]; exact mk_str _ _)
  refine ⟨by simp; omega, fun hn _ => ?_, fun hn _ => ?_⟩
  · have : ((S [x]).length : Int) = 1 := by simp [Str.length]
    rw [this]
    have h2 : (1 : Int) ≤ (2 ^ 63 - 1) / n := by
      apply Int.le_ediv_of_mul_le (by omega); omega
    omega
  · have : (S [x]).length = 1 := by simp [Str.length]
    rw [this]; unfold Builtin.Str.tooLong; simp [sizeLine]; omega
theorem eq_s (a b : List Nat) : F2 c A (compareOp .Eq) (.str (S a)) (.str (S b)) (.bool (decide (a = b))) := fun s v1 v2 Q ok a1 a2 q => by
  obtain ⟨t, rfl⟩ := at_str.mp a1
  obtain ⟨u, rfl⟩ := at_str.mp a2
  refine PyProof.Rows.eq_str ?_
  have : (S a == S b) = decide (a = b) := by
    by_cases h : a = b
    · subst h; simp
    · rw [decide_eq_false h]
      apply beq_eq_false_iff_ne.mpr
      intro e
      apply h
      have := congrArg Str.cps e
      simpa using this
  rw [this]
  exact q _ _ ok (Keep.refl _) (mk_bool _)

/-! lists -/
theorem add_l (ds es : List D) (h : ds.length + es.length ≤ sizeLine) : F2 c A (binaryOp .Add) (.list ds) (.list es) (.list (ds ++ es)) := fun s v1 v2 Q ok a1 a2 q => by
  obtain ⟨a, vs, n, rfl, e, r⟩ := at_list.mp a1
  obtain ⟨b, ws, m, rfl, e', r'⟩ := at_list.mp a2
  have hl : vs.size = ds.length := by have := r.length; simpa using this
  have hl' : ws.size = es.length := by have := r'.length; simpa using this
  exact PySem.P.add_list (hp_get e) (hp_get e') (q _ _ (ok.push _) (keep_push _ _) (at_list.mpr ⟨_, _, _, rfl, ok.new, by
    rw [Array.toList_append]; exact (r.append r').mono (keep_push _ _)⟩)) (by omega)
end
end Mine

/-! # L6 -/
namespace Mine

/-! ## frames -/
abbrev cellO (v : Option Value) : Obj := { cls := .type "cell", data := .cell v }
def hide (g : PH) (H : List Addr) : PH := fun b => if b ∈ H then none else g b
theorem hide_keep (g : PH) (H : List Addr) : Keep (hide g H) g := fun b o e => by unfold hide at e; split at e; cases e; exact e
theorem hide_of {g : PH} {H : List Addr} {b : Addr} {o : Obj} (e : g b = some o) (h : b ∉ H) : hide g H b = some o := by unfold hide; rw [if_neg h]; exact e
theorem hide_get {g : PH} {H : List Addr} {b : Addr} {o : Obj} (e : hide g H b = some o) : g b = some o := hide_keep g H _ _ e
theorem hide_off {g : PH} {H : List Addr} {b : Addr} {o : Obj} (e : hide g H b = some o) : b ∉ H := by unfold hide at e; split at e; cases e; assumption
theorem hide_nil (g : PH) : hide g [] = g := by funext b; simp [hide]
theorem Keep.hide {g g' : PH} (k : Keep g g') (H : List Addr) : Keep (Mine.hide g H) (Mine.hide g' H) := fun _ _ e => hide_of (k _ _ (hide_get e)) (hide_off e)

abbrev DataCls (v : Value) : Prop := v ∈ ([.type "list", .type "tuple", .type "dict", .type "range", .ref cWs, .ref cTC] : List Value)
theorem DataCls.list : DataCls (.type "list") := by decide
theorem DataCls.tup : DataCls (.type "tuple") := by decide
theorem DataCls.dict : DataCls (.type "dict") := by decide
theorem DataCls.range : DataCls (.type "range") := by decide
theorem DataCls.ws : DataCls (.ref cWs) := by decide
theorem DataCls.tc : DataCls (.ref cTC) := by decide
theorem DataCls.frame {v : Value} (h : DataCls v) : v ≠ .type "frame" ∧ v ≠ .type "cell" ∧ v ≠ .type "code" := by
  simp only [List.mem_cons, List.not_mem_nil, or_false] at h
  rcases h with rfl | rfl | rfl | rfl | rfl | rfl <;> decide
/-- every object of data stays -/
def KeepD (g g' : PH) : Prop := ∀ b o, g b = some o → DataCls o.cls → g' b = some o
theorem Keep.toD {g g' : PH} (k : Keep g g') : KeepD g g' := fun _ _ e _ => k _ _ e

mutual
theorem At.monoD {c : Wd} {g g' : PH} (k : KeepD g g') : ∀ {d : D} {v : Value}, At c g d v → At c g' d v
  | .none, _, h => by unfold At at h ⊢; exact h
  | .bool _, _, h => by unfold At at h ⊢; exact h
  | .int _, _, h => by unfold At at h ⊢; exact h
  | .str _, _, h => by unfold At at h ⊢; exact h
  | .list xs, _, h => by
    unfold At at h ⊢
    obtain ⟨a, vs, n, e1, e2, r⟩ := h
    exact ⟨a, vs, n, e1, k _ _ e2 .list, AtAll.monoD k r⟩
  | .tup xs, _, h => by
    unfold At at h ⊢
    obtain ⟨a, vs, n, e1, e2, r⟩ := h
    exact ⟨a, vs, n, e1, k _ _ e2 .tup, AtAll.monoD k r⟩
  | .dict _, _, h => by
    unfold At at h ⊢
    obtain ⟨a, o, vs, e1, e2, e3, e4, r⟩ := h
    exact ⟨a, o, vs, e1, k _ _ e2 (by obtain ⟨es, ep, hx, _⟩ := e4; rw [hx.1]; exact .dict), e3, e4, r⟩
  | .range _ _ _, _, h => by
    unfold At at h ⊢
    obtain ⟨a, t1, t2, t3, e1, e2⟩ := h
    exact ⟨a, t1, t2, t3, e1, k _ _ e2 .range⟩
  | .lead norm _ _ _, _, h => by
    unfold At at h ⊢
    obtain ⟨x, dx, h1, h2, h3, h4, h5, t1, t2, t3, t4, t5, v1, n', nt', v4, kk, e1, e0, e2, e3, r⟩ := h
    exact ⟨x, dx, h1, h2, h3, h4, h5, t1, t2, t3, t4, t5, v1, n', nt', v4, kk, e1, e0, k _ _ e2 .ws, k _ _ e3 .dict, At.monoD k r⟩
  | .comp cs, _, h => by
    unfold At at h ⊢
    obtain ⟨x, dx, h1, t1, v1, kk, e1, e0, e2, e3, r⟩ := h
    exact ⟨x, dx, h1, t1, v1, kk, e1, e0, k _ _ e2 .tc, k _ _ e3 .dict, At.monoD k r⟩
  | .ref _, _, h => by unfold At at h ⊢; exact h
theorem AtAll.monoD {c : Wd} {g g' : PH} (k : KeepD g g') : ∀ {ds : List D} {vs : List Value}, AtAll c g ds vs → AtAll c g' ds vs
  | [], _, h => by unfold AtAll at h ⊢; exact h
  | d :: ds, _, h => by
    unfold AtAll at h ⊢
    obtain ⟨v, r, e, h1, h2⟩ := h
    exact ⟨v, r, e, At.monoD k h1, AtAll.monoD k h2⟩
end

/-- data that is no object -/
def D.atom : D → Bool
  | .none | .bool _ | .int _ | .str _ | .ref _ => true
  | _ => false
theorem At.atom {c : Wd} {g : PH} (g' : PH) {d : D} {v : Value} (h : At c g d v) (ha : d.atom = true) : At c g' d v := by
  cases d <;> first | (unfold At at h ⊢; exact h) | simp [D.atom] at ha

/-- a store into a name space: what it leaves -/
theorem nsSet_k {M : Model} {A : Around} {E : Value → Shared → Prop} {s : Shared} {a : Addr} {o : Obj} {es : Array DictEntry} {ep : Nat} {name : Str} {v : Value} {Q : Unit → Shared → Prop} (ho : s.heap.get? a = some o) (hd : o.data = .dict es ep) (hk : StrKeys es)
    (hQ : ∀ h' o' es' ep', h'.get? a = some o' → o'.cls = o.cls → o'.data = .dict es' ep' → StrKeys es' → (∀ x, nsFind es' x = if x = name then some v else nsFind es x) → Heap.SameBut a s.heap h' → Q () { s with heap := h', toks := s.toks + 1 }) :
    wpAny M A (nsSet a name v) Q E s := by
  intro Γ p _
  simp only [nsSet, strHash, Sem.wp_bind', Sem.wp_cmd_ask, Sem.wp_pure', Sem.wp_cmd_mkText]
  rw [Sem.wp_loadPart_of M Γ _ p { s with toks := s.toks + 1 } (o := o) _ ho]
  have hany : es.any (·.refKey) = false := by
    rw [Array.any_eq_false']; intro e he; obtain ⟨n, t, h⟩ := hk e he; simp [DictEntry.refKey, h]
  simp only [hd, aRefKeyMayBeTheName_eq, aRefKeyMayBeTheNameByArray, hany, Bool.and_false, Bool.false_eq_true, if_false, Sem.wp_cmd_updatePart]
  refine ⟨by rw [ho]; rfl, ?_⟩
  obtain ⟨cl, d, dt, sl⟩ := o
  subst hd
  cases hi : es.findIdx? (·.key.isStr name) with
  | some i =>
    refine hQ _ _ _ ep (Heap.get?_update_self _ ho (by simp only [Obj.putName_eq, Obj.putNameByArray, hi]; rfl)) (by simp only [Obj.putName_eq, Obj.putNameByArray, hi]) (by simp only [Obj.putName_eq, Obj.putNameByArray, hi]; rfl) (hk.modify _ _) (fun x => ?_) (Heap.SameBut.update ..)
    exact findBy_modify (fun n v => v.isStr n) Value.isStr_inj es name x v i hi
  | none =>
    refine hQ _ _ _ (ep + 1) (Heap.get?_update_self _ ho (by simp only [Obj.putName_eq, Obj.putNameByArray, hi]; rfl)) (by simp only [Obj.putName_eq, Obj.putNameByArray, hi]) (by simp only [Obj.putName_eq, Obj.putNameByArray, hi]; rfl) (hk.push _ _ _ _) (fun x => ?_) (Heap.SameBut.update ..)
    exact findBy_push (fun n v => v.isStr n) es name x _ _ v (fun y => by
      show (name == y) = decide (y = name)
      by_cases h : y = name
      · subst h; simp
      · have : ¬ name = y := fun e => h e.symm
        simp [h, this]) hi
theorem cellSet_k {M : Model} {A : Around} {E : Value → Shared → Prop} {s : Shared} {a : Addr} {o : Obj} {w : Option Value} {v : Option Value} {Q : Unit → Shared → Prop} (ho : s.heap.get? a = some o) (hd : o.data = .cell w)
    (hQ : ∀ h', h'.get? a = some { o with data := .cell v } → Heap.SameBut a s.heap h' → Q () { s with heap := h' }) : wpAny M A (cellSet a v) Q E s := by
  unfold cellSet
  refine wpAny_bind (wpAny_load ho ?_)
  rw [hd]
  exact wpAny_update ho (hQ _ (Heap.get?_update_self _ ho rfl) (Heap.SameBut.update ..))

/-- the frame of a def that runs -/
structure Fra (env : Env) (g₁ : PH) (h : Heap) : Prop where
  ok : EnvOk env
  loc : ∃ o es ep, h.get? env.locals = some o ∧ o.cls = .type "frame" ∧ o.data = .dict es ep ∧ StrKeys es
  nloc : g₁ env.locals = none
  hi : 208 < env.locals
  cell : ∀ x a, env.kindOf x = some .cell → env.cells.lookup x = some a → (∃ o w, h.get? a = some o ∧ o.cls = .type "cell" ∧ o.data = .cell w) ∧ g₁ a = none ∧ 208 < a
  inj : ∀ x y a, env.kindOf x = some .cell → env.cells.lookup x = some a → env.cells.lookup y = some a → y = x
  all : ∀ x a, env.cells.lookup x = some a → 208 < a ∧ ∃ o, h.get? a = some o
theorem Fra.step {env : Env} {g₁ : PH} {h h' : Heap} (x : Fra env g₁ h) (k : Keep (hp h) (hp h')) : Fra env g₁ h' where
  ok := x.ok
  loc := let ⟨o, es, ep, e, r⟩ := x.loc; ⟨o, es, ep, hp_get (k _ _ (hp_of e (not_tab x.hi))), r⟩
  nloc := x.nloc
  hi := x.hi
  cell := fun y a h1 h2 => let ⟨⟨o, w, e, r⟩, h3, h4⟩ := x.cell y a h1 h2; ⟨⟨o, w, hp_get (k _ _ (hp_of e (not_tab h4))), r⟩, h3, h4⟩
  inj := x.inj
  all := fun y a h1 => let ⟨h2, o, e⟩ := x.all y a h1; ⟨h2, o, hp_get (k _ _ (hp_of e (not_tab h2)))⟩

def Frm (c : Wd) (env : Env) (g : PH) (ρ : List (Str × D)) : Prop := ∀ x d, ρ.lookup x = some d → ∃ v, Loc env g x v ∧ At c g d v
theorem Frm.mono {c : Wd} {env : Env} {g g' : PH} {ρ : List (Str × D)} (f : Frm c env g ρ) (k : Keep g g') : Frm c env g' ρ := fun x d e => let ⟨v, l, a⟩ := f x d e; ⟨v, l.mono k, a.mono k⟩

/-- a def's body at work: the base stays, the names bear data, some objects are its own -/
structure Bd (c : Wd) (g₁ : PH) (env : Env) (ρ : List (Str × D)) (ow : List (Addr × Obj)) (s : Shared) : Prop where
  ok : Ok c s
  keep : Keep g₁ (hp s.heap)
  fra : Fra env g₁ s.heap
  own : ∀ p ∈ ow, hp s.heap p.1 = some p.2 ∧ g₁ p.1 = none ∧ 208 < p.1 ∧ DataCls p.2.cls
  frm : Frm c env (hide (hp s.heap) (ow.map (·.1))) ρ

section
variable {c : Wd} {A : Around} {env : Env} {g₁ : PH} {ρ ρ' : List (Str × D)} {ow : List (Addr × Obj)} {s s' : Shared}
theorem Bd.step (B : Bd c g₁ env ρ ow s) (ok : Ok c s') (k : Keep (hp s.heap) (hp s'.heap)) : Bd c g₁ env ρ ow s' where
  ok := ok
  keep := B.keep.trans k
  fra := B.fra.step k
  own := fun p hp' => let ⟨a, r⟩ := B.own p hp'; ⟨k _ _ a, r⟩
  frm := B.frm.mono (k.hide _)
theorem Bd.sub (B : Bd c g₁ env ρ ow s) (h : ∀ x d, ρ'.lookup x = some d → ρ.lookup x = some d) : Bd c g₁ env ρ' ow s := ⟨B.ok, B.keep, B.fra, B.own, fun x d e => B.frm x d (h x d e)⟩

theorem Bd.name {x : Str} {d : D} {pos : Pos} (B : Bd c g₁ env ρ ow s) (e : ρ.lookup x = some d) (hd : (x == ("__debug__" : Str)) = false := by decide) : Ev c A env (hp s.heap) (.Name x pos) d :=
  let ⟨_, l, a⟩ := B.frm x d e
  .name B.fra.ok (l.mono (hide_keep _ _)) (a.mono (hide_keep _ _)) hd

theorem Bd.own_loc (B : Bd c g₁ env ρ ow s) : env.locals ∉ ow.map (·.1) := fun hm => by
  obtain ⟨q, hq, e⟩ := List.mem_map.mp hm
  obtain ⟨h1, _, _, h4⟩ := B.own q hq
  obtain ⟨o, es, ep, e1, e2, _⟩ := B.fra.loc
  have := hp_get h1
  rw [e, e1] at this
  cases this
  exact h4.frame.1 e2
theorem Bd.own_cell (B : Bd c g₁ env ρ ow s) {a : Addr} {o : Obj} (e1 : s.heap.get? a = some o) (e2 : o.cls = .type "cell") : a ∉ ow.map (·.1) := fun hm => by
  obtain ⟨q, hq, e⟩ := List.mem_map.mp hm
  obtain ⟨h1, _, _, h4⟩ := B.own q hq
  have := hp_get h1
  rw [e, e1] at this
  cases this
  exact h4.frame.2.1 e2

/-- an own object or a frame's is turned: what stays -/
theorem sameBut_hp {h h' : Heap} {a : Addr} (hs : Heap.SameBut a h h') {b : Addr} {o : Obj} (e : hp h b = some o) (hb : b ≠ a) : hp h' b = some o := hp_of ((hs.2 b hb).trans (hp_get e)) (hp_off e)

theorem Bd.storeD {x : Str} {v : Value} {d : D} {E : Value → Shared → Prop} {Q : Unit → Shared → Prop} (B : Bd c g₁ env ρ ow s) (a : At c (hide (hp s.heap) (ow.map (·.1))) d v) (hx : env.kindOf x = some .local ∨ (env.kindOf x = some .cell ∧ (env.cells.lookup x).isSome = true))
    (q : ∀ s', Bd c g₁ env ((x, d) :: ρ) ow s' → KeepD (hp s.heap) (hp s'.heap) → Q () s') : wpAny c.M A (storeName env x v) Q E s := by
  rcases hx with hx | ⟨hx, hc⟩
  · obtain ⟨o, es, ep, e1, e2, e3, e4⟩ := B.fra.loc
    have hp' : (env.scope.kind == .class || (env.scope.kind == .module && env.locals != env.globals)) = false := by rw [B.fra.ok.kind]; rfl
    rw [storeName_local hx hp']
    refine nsSet_k e1 e3 e4 fun h' o' es' ep' f1 f2 f3 f4 f5 hs => ?_
    have hL : ∀ b o, hp s.heap b = some o → DataCls o.cls → hp h' b = some o := fun b ob eb hb => sameBut_hp hs eb fun q => by
      subst q; have := hp_get eb; rw [e1] at this; cases this; exact hb.frame.1 e2
    have nL := B.own_loc
    refine q _ ?_ hL
    refine ⟨⟨B.ok.inv.sameBut hs B.fra.hi e1 (by rw [e2]; decide), B.ok.gens, B.ok.os⟩, fun b o e => sameBut_hp hs (B.keep b o e) (fun q => by subst q; rw [B.fra.nloc] at e; cases e), ⟨B.fra.ok, ⟨o', es', ep', f1, f2.trans e2, f3, f4⟩, B.fra.nloc, B.fra.hi, fun y ad h1 h2 => ?_, B.fra.inj, fun y ad h1 => ?_⟩, fun p hp' => ?_, fun y d' hy => ?_⟩
    · obtain ⟨⟨oc, w, g1, g2, g3⟩, g4⟩ := B.fra.cell y ad h1 h2
      refine ⟨⟨oc, w, (hs.2 ad fun q => ?_).trans g1, g2, g3⟩, g4⟩
      subst q; rw [e1] at g1; cases g1; rw [e3] at g3; cases g3
    · obtain ⟨h2, oc, g1⟩ := B.fra.all y ad h1
      refine ⟨h2, ?_⟩
      by_cases hq : ad = env.locals
      · exact ⟨o', by rw [hq]; exact f1⟩
      · exact ⟨oc, (hs.2 ad hq).trans g1⟩
    · obtain ⟨g1, g2, g3, g4⟩ := B.own p hp'
      exact ⟨hL _ _ g1 g4, g2, g3, g4⟩
    · rw [List.lookup_cons] at hy
      have kd : KeepD (hide (hp s.heap) (ow.map (·.1))) (hide (hp h') (ow.map (·.1))) := fun b o e hd => hide_of (hL _ _ (hide_get e) hd) (hide_off e)
      by_cases hyx : y = x
      · subst hyx
        simp at hy
        subst hy
        exact ⟨v, .inl ⟨hx, o', es', ep', hide_of (hp_of f1 (not_tab B.fra.hi)) nL, f3, f4, by rw [f5]; simp⟩, a.monoD kd⟩
      · have : (y == x) = false := by simpa using hyx
        rw [this] at hy
        obtain ⟨w, l, aw⟩ := B.frm y d' hy
        refine ⟨w, ?_, aw.monoD kd⟩
        rcases l with ⟨h1, o2, es2, ep2, g1, g2, g3, g4⟩ | ⟨h1, ca, oc, g1, g2, g3⟩
        · have := hp_get (hide_get g1)
          rw [e1] at this; cases this
          rw [e3] at g2; cases g2
          exact .inl ⟨h1, o', es', ep', hide_of (hp_of f1 (not_tab B.fra.hi)) nL, f3, f4, by rw [f5, if_neg hyx]; exact g4⟩
        · refine .inr ⟨h1, ca, oc, g1, hide_of (sameBut_hp hs (hide_get g2) fun q => ?_) (hide_off g2), g3⟩
          subst q
          have := hp_get (hide_get g2)
          rw [e1] at this; cases this; rw [e3] at g3; cases g3
  · obtain ⟨ca, hca⟩ := Option.isSome_iff_exists.mp hc
    obtain ⟨⟨o, w, e1, e2, e3⟩, e4, e5⟩ := B.fra.cell x ca hx hca
    unfold storeName
    simp only [hx, B.fra.ok.kind]
    refine wpAny_bind (wpAny_cellOf hca (cellSet_k e1 e3 fun h' f1 hs => ?_))
    have hL : ∀ b ob, hp s.heap b = some ob → DataCls ob.cls → hp h' b = some ob := fun b ob eb hb => sameBut_hp hs eb fun q => by
      subst q; have := hp_get eb; rw [e1] at this; cases this; exact hb.frame.2.1 e2
    obtain ⟨oL, esL, epL, l1, l2, l3, l4⟩ := B.fra.loc
    have hLa : env.locals ≠ ca := fun q => by rw [q, e1] at l1; cases l1; rw [e3] at l3; cases l3
    have nC := B.own_cell e1 e2
    refine q _ ?_ hL
    refine ⟨⟨B.ok.inv.sameBut hs e5 e1 (by rw [e2]; decide), B.ok.gens, B.ok.os⟩, fun b o e => sameBut_hp hs (B.keep b o e) (fun q => by subst q; rw [e4] at e; cases e), ⟨B.fra.ok, ⟨oL, esL, epL, (hs.2 _ hLa).trans l1, l2, l3, l4⟩, B.fra.nloc, B.fra.hi, fun y ad h1 h2 => ?_, B.fra.inj, fun y ad h1 => ?_⟩, fun p hp' => ?_, fun y d' hy => ?_⟩
    · obtain ⟨⟨oc, w', g1, g2, g3⟩, g4⟩ := B.fra.cell y ad h1 h2
      by_cases hq : ad = ca
      · subst hq; exact ⟨⟨_, _, f1, e2, rfl⟩, g4⟩
      · exact ⟨⟨oc, w', (hs.2 ad hq).trans g1, g2, g3⟩, g4⟩
    · obtain ⟨h2, oc, g1⟩ := B.fra.all y ad h1
      refine ⟨h2, ?_⟩
      by_cases hq : ad = ca
      · exact ⟨_, by rw [hq]; exact f1⟩
      · exact ⟨oc, (hs.2 ad hq).trans g1⟩
    · obtain ⟨g1, g2, g3, g4⟩ := B.own p hp'
      exact ⟨hL _ _ g1 g4, g2, g3, g4⟩
    · rw [List.lookup_cons] at hy
      have kd : KeepD (hide (hp s.heap) (ow.map (·.1))) (hide (hp h') (ow.map (·.1))) := fun b o e hd => hide_of (hL _ _ (hide_get e) hd) (hide_off e)
      by_cases hyx : y = x
      · subst hyx
        simp at hy
        subst hy
        exact ⟨v, .inr ⟨.inl hx, ca, _, hca, hide_of (hp_of f1 (not_tab e5)) nC, rfl⟩, a.monoD kd⟩
      · have : (y == x) = false := by simpa using hyx
        rw [this] at hy
        obtain ⟨w', l, aw⟩ := B.frm y d' hy
        refine ⟨w', ?_, aw.monoD kd⟩
        rcases l with ⟨h1, o2, es2, ep2, g1, g2, g3, g4⟩ | ⟨h1, cb, oc, g1, g2, g3⟩
        · exact .inl ⟨h1, o2, es2, ep2, hide_of (sameBut_hp hs (hide_get g1) hLa) (hide_off g1), g2, g3, g4⟩
        · refine .inr ⟨h1, cb, oc, g1, hide_of (sameBut_hp hs (hide_get g2) fun q => ?_) (hide_off g2), g3⟩
          subst q
          exact hyx (B.fra.inj x y cb hx hca g1)
theorem Bd.store {x : Str} {v : Value} {d : D} {E : Value → Shared → Prop} {Q : Unit → Shared → Prop} (B : Bd c g₁ env ρ ow s) (a : At c (hide (hp s.heap) (ow.map (·.1))) d v) (hx : env.kindOf x = some .local ∨ (env.kindOf x = some .cell ∧ (env.cells.lookup x).isSome = true))
    (q : ∀ s', Bd c g₁ env ((x, d) :: ρ) ow s' → Q () s') : wpAny c.M A (storeName env x v) Q E s := B.storeD a hx fun s' B' _ => q s' B'
end
end Mine

/-! # L7 -/
namespace Mine
open Classical in
/-- what a body must leave as it is: all but its frame, its cells, its own objects -/
noncomputable def base (env : Env) (ow : List (Addr × Obj)) (h : Heap) : PH := fun b => if b = env.locals ∨ (∃ x, env.kindOf x = some .cell ∧ env.cells.lookup x = some b) ∨ b ∈ ow.map (·.1) then none else hp h b
theorem base_get {env : Env} {ow : List (Addr × Obj)} {h : Heap} {b : Addr} {o : Obj} (e : base env ow h b = some o) : hp h b = some o := by
  unfold base at e; split at e
  · cases e
  · exact e
theorem base_of {env : Env} {ow : List (Addr × Obj)} {h : Heap} {b : Addr} {o : Obj} (e : hp h b = some o) (h1 : b ≠ env.locals) (h2 : ∀ x, env.kindOf x = some .cell → env.cells.lookup x ≠ some b) (h3 : b ∉ ow.map (·.1)) : base env ow h b = some o := by
  unfold base; rw [if_neg]; exact e
  rintro (q | ⟨x, q1, q2⟩ | q)
  · exact h1 q
  · exact h2 x q1 q2
  · exact h3 q
theorem base_none {env : Env} {ow : List (Addr × Obj)} {h : Heap} {b : Addr} (h' : b = env.locals ∨ (∃ x, env.kindOf x = some .cell ∧ env.cells.lookup x = some b) ∨ b ∈ ow.map (·.1)) : base env ow h b = none := by
  unfold base; rw [if_pos h']

/-- what a def hands back -/
structure Rt (c : Wd) (g₁ : PH) (d : D) (v : Value) (s : Shared) : Prop where
  ok : Ok c s
  keep : Keep g₁ (hp s.heap)
  at_ : At c (hp s.heap) d v

section
variable {c : Wd} {A : Around} {env : Env} {g g₁ g₂ : PH} {ρ ρ' : List (Str × D)} {ow : List (Addr × Obj)} {s s' : Shared} {pos : Pos} {rest : List Stmt} {Q : Flow → Shared → Prop}

theorem Bd.rebase (B : Bd c g₁ env ρ ow s) : Bd c (base env ow s.heap) env ρ ow s where
  ok := B.ok
  keep := fun _ _ e => base_get e
  fra := ⟨B.fra.ok, B.fra.loc, base_none (.inl rfl), B.fra.hi, fun x a h1 h2 => let ⟨h3, _, h4⟩ := B.fra.cell x a h1 h2; ⟨h3, base_none (.inr (.inl ⟨x, h1, h2⟩)), h4⟩, B.fra.inj, B.fra.all⟩
  own := fun p hp' => let ⟨h1, _, h3⟩ := B.own p hp'; ⟨h1, base_none (.inr (.inr (List.mem_map_of_mem hp'))), h3⟩
  frm := B.frm
theorem Bd.into (B : Bd c g₁ env ρ ow s) : Keep g₁ (base env ow s.heap) := fun b o e => base_of (B.keep b o e) (fun q => by subst q; rw [B.fra.nloc] at e; cases e)
  (fun x h1 h2 => by rw [(B.fra.cell x b h1 h2).2.1] at e; cases e) (fun hm => by
    obtain ⟨q, hq, rfl⟩ := List.mem_map.mp hm
    rw [(B.own q hq).2.1] at e; cases e)
theorem Keep.none {b : Addr} (k : Keep g₁ g₂) (h : g₂ b = Option.none) : g₁ b = Option.none := by
  cases e : g₁ b with
  | none => rfl
  | some o => have := k _ _ e; rw [h] at this; cases this
theorem Bd.weak (B : Bd c g₂ env ρ ow s) (k : Keep g₁ g₂) : Bd c g₁ env ρ ow s where
  ok := B.ok
  keep := k.trans B.keep
  fra := ⟨B.fra.ok, B.fra.loc, k.none B.fra.nloc, B.fra.hi, fun x a h1 h2 => let ⟨h3, h4, h5⟩ := B.fra.cell x a h1 h2; ⟨h3, k.none h4, h5⟩, B.fra.inj, B.fra.all⟩
  own := fun p hp' => let ⟨h1, h2, h3⟩ := B.own p hp'; ⟨h1, k.none h2, h3⟩
  frm := B.frm
theorem Rt.weak {d : D} {v : Value} (r : Rt c g₂ d v s) (k : Keep g₁ g₂) : Rt c g₁ d v s := ⟨r.ok, k.trans r.keep, r.at_⟩

def Stored (env : Env) (x : Str) : Prop := env.kindOf x = some .local ∨ (env.kindOf x = some .cell ∧ (env.cells.lookup x).isSome = true)

theorem ex_nil (q : Q .next s) : Rn c A (execs [] env) Q s := wpAny_execs_nil q
theorem at_hidden {d : D} {v : Value} (a : At c (hp s.heap) d v) (h : ow = [] ∨ d.atom = true) : At c (hide (hp s.heap) (ow.map (·.1))) d v := by
  rcases h with rfl | h
  · rw [List.map_nil, hide_nil]; exact a
  · exact a.atom _ h
theorem ex_assign {x : Str} {px : Pos} {e : Expr} {d : D} (B : Bd c g₁ env ρ ow s) (ev : Ev c A env (hp s.heap) e d) (hx : Stored env x) (q : ∀ s', Bd c g₁ env ((x, d) :: ρ) ow s' → Rn c A (execs rest env) Q s') (hat : ow = [] ∨ d.atom = true := by first | exact .inl rfl | exact .inr rfl)
    (hs : swapsWith e (some (.Name x px)) pos.line env = pure false := by rfl) : Rn c A (execs (.Assign [.Name x px] e pos :: rest) env) Q s :=
  wpAny_execs_cons (wpAny_Assign_Name (ev s _ B.ok (Keep.refl _) fun _ _ ok1 k1 a1 => (B.step ok1 k1).store (at_hidden a1 hat) hx fun s2 B2 => q s2 B2) hs)
theorem ex_return {e : Expr} {d : D} (B : Bd c g₁ env ρ ow s) (ev : Ev c A env (hp s.heap) e d) (q : ∀ v s', Rt c g₁ d v s' → Q (.ret v) s') : Rn c A (execs (.Return (some e) pos :: rest) env) Q s :=
  wpAny_execs_cons (wpAny_Return_some (ev s _ B.ok (Keep.refl _) fun v s1 ok1 k1 a1 => q v s1 ⟨ok1, B.keep.trans k1, a1⟩))
theorem ex_if {test : Expr} {body orelse : List Stmt} {b : Bool} (B : Bd c g₁ env ρ ow s) (t : Te c A env (hp s.heap) test b)
    (q : ∀ s', Bd c g₁ env ρ ow s' → Rn c A (execs (if b then body else orelse) env) (fun f s' => match f with | .next => wpAny c.M A (execs rest env) Q (fun _ _ => False) s' | f => Q f s') s') : Rn c A (execs (.If test body orelse pos :: rest) env) Q s :=
  wpAny_execs_cons (wpAny_If (t s _ B.ok (Keep.refl _) fun s1 ok1 k1 => by have := q s1 (B.step ok1 k1); cases b <;> exact this))
theorem ex_aug {x : Str} {px : Pos} {op : Operator} {e : Expr} {d0 d1 d : D} (B : Bd c g₁ env ρ ow s) (e0 : ρ.lookup x = some d0) (ev : Ev c A env (hp s.heap) e d1) (f : F2 c A (inplaceOp op) d0 d1 d) (hx : Stored env x) (q : ∀ s', Bd c g₁ env ((x, d) :: ρ) ow s' → Rn c A (execs rest env) Q s') (hat : ow = [] ∨ d.atom = true := by first | exact .inl rfl | exact .inr rfl) :
    Rn c A (execs (.AugAssign (.Name x px) op e pos :: rest) env) Q s := by
  obtain ⟨v, l, a⟩ := B.frm x d0 e0
  refine wpAny_execs_cons (wpAny_AugAssign_Name (Loc.load B.fra.ok (l.mono (hide_keep _ _)) ?_))
  refine ev s _ B.ok (Keep.refl _) fun v1 s1 ok1 k1 a1 => f s1 v v1 _ ok1 ((a.mono (hide_keep _ _)).mono k1) a1 fun v2 s2 ok2 k2 a2 => ?_
  exact (B.step ok2 (k1.trans k2)).store (at_hidden a2 hat) hx fun s3 B3 => q s3 B3

/-- while -/
theorem ex_while {σ : Type} (P : σ → Prop) (ρf : σ → List (Str × D)) (μ : σ → Nat) (b : σ → Bool) {test : Expr} {body : List Stmt} (st₀ : σ) (h₀ : P st₀) (B : Bd c g₁ env (ρf st₀) ow s)
    (ht : ∀ st s, P st → Bd c g₁ env (ρf st) ow s → Te c A env (hp s.heap) test (b st))
    (turn : ∀ st s, P st → b st = true → Bd c g₁ env (ρf st) ow s → Rn c A (execs body env) (fun f s' => f = .next ∧ ∃ st', P st' ∧ μ st' < μ st ∧ Bd c g₁ env (ρf st') ow s') s)
    (done : ∀ st s, P st → b st = false → Bd c g₁ env (ρf st) ow s → Rn c A (execs rest env) Q s) : Rn c A (execs (.While test body [] pos :: rest) env) Q s := by
  refine wpAny_execs_cons (wpAny_While (codeAny_whileLoop (fun n s => ∃ st, μ st = n ∧ P st ∧ Bd c g₁ env (ρf st) ow s) ?_ (μ st₀) ⟨st₀, rfl, h₀, B⟩))
  rintro n s ⟨st, rfl, hP, B⟩
  refine wpAny_mono (ht st s hP B s (fun b' s' => b' = b st ∧ Bd c g₁ env (ρf st) ow s') B.ok (Keep.refl _) fun s1 ok1 k1 => ⟨rfl, B.step ok1 k1⟩) ?_ fun _ _ x => x.elim
  rintro b' s1 ⟨rfl, B1⟩
  cases hb : b st with
  | true =>
    simp only [if_true]
    refine wpAny_mono (turn st s1 hP hb B1) ?_ fun _ _ x => x.elim
    rintro f s2 ⟨rfl, st', hP', hμ, B2⟩
    exact ⟨_, hμ, st', rfl, hP', B2⟩
  | false =>
    simp only [Bool.false_eq_true, if_false]
    exact wpAny_execs_nil (done st s1 hP hb B1)
end
end Mine

/-! # L8 -/
namespace Mine

/-! ## iteration -/
/-- what an iterator over the value walks -/
def Iter (c : Wd) (A : Around) (g : PH) (v : Value) (ds : List D) : Prop :=
  ∀ s Q, Ok c s → Keep g (hp s.heap) →
    (∀ I fp wr P St h', Walks c.prog c.w A I fp wr ds.length P St → St 0 h' → Ok c { s with heap := h' } → Keep (hp s.heap) (hp h') → (∀ b ∈ wr, s.heap.objs.size ≤ b) →
      (∀ b ∈ fp, b ∈ wr ∨ ∃ o, g b = some o ∧ DataCls o.cls) → (∀ i h, St i h → ∀ b ∈ wr, ∃ o, h.get? b = some o ∧ ¬ DataCls o.cls ∧ o.cls ≠ .type "code") → (∀ i v, P i v → ∃ d, ds[i]? = some d ∧ At c g d v) → Q (.ref I) { s with heap := h' }) → Rn c A (pyIter v) Q s

section
variable {c : Wd} {A : Around} {env : Env} {g g₁ g₂ : PH} {ρ ρ' : List (Str × D)} {ow : List (Addr × Obj)} {s s' : Shared} {pos : Pos} {rest : List Stmt} {Q : Flow → Shared → Prop}

theorem iter_list {ds : List D} {v : Value} (hh : A.handled = none) (a : At c g (.list ds) v) : Iter c A g v ds := fun s Q ok k q => by
  obtain ⟨l, vs, n, rfl, e, r⟩ := at_list.mp a
  have hl : vs.size = ds.length := by have := r.length; simpa using this
  have e1 := hp_get (k _ _ e)
  have hL : s.heap.IsList l vs := ⟨_, e1, rfl, n, rfl⟩
  have hlt : l < s.heap.objs.size := Heap.lt_size e1
  refine wpAny_pyIter_list hL ?_
  have W := Walks.list (prog := c.prog) (w := c.w) hh s.heap.objs.size l (Nat.ne_of_lt hlt) vs
  rw [hl] at W
  refine q _ _ _ _ _ _ W ⟨⟨_, Heap.get?_push_size _ rfl, rfl, rfl⟩, hL.at fun o e => Heap.get?_push_of_some _ e⟩ (ok.push _) (keep_push _ _) (fun b hb => by rw [List.mem_singleton.mp hb]; exact Nat.le_refl _) (fun b hb => ?_) (fun i h hst b hb => ?_) fun i v hv => ?_
  · rcases List.mem_cons.mp hb with rfl | hb
    · exact .inl (List.mem_singleton.mpr rfl)
    · rw [List.mem_singleton.mp hb]
      exact .inr ⟨_, e, .list⟩
  · rw [List.mem_singleton.mp hb]; obtain ⟨⟨o, ho, hc, _⟩, _⟩ := hst; exact ⟨o, ho, by rw [hc]; decide, by rw [hc]; decide⟩
  · exact r.get' (by simpa using hv)
theorem iter_tup {ds : List D} {v : Value} (hh : A.handled = none) (a : At c g (.tup ds) v) : Iter c A g v ds := fun s Q ok k q => by
  obtain ⟨l, vs, n, rfl, e, r⟩ := at_tup.mp a
  have hl : vs.size = ds.length := by have := r.length; simpa using this
  have e1 := hp_get (k _ _ e)
  have hL : s.heap.IsTuple l vs := ⟨_, e1, rfl, n, rfl⟩
  have hlt : l < s.heap.objs.size := Heap.lt_size e1
  refine wpAny_pyIter_tuple hL ?_
  have W := Walks.tuple (prog := c.prog) (w := c.w) hh s.heap.objs.size l (Nat.ne_of_lt hlt) vs
  rw [hl] at W
  refine q _ _ _ _ _ _ W ⟨⟨_, Heap.get?_push_size _ rfl, rfl, rfl⟩, hL.at fun o e => Heap.get?_push_of_some _ e⟩ (ok.push _) (keep_push _ _) (fun b hb => by rw [List.mem_singleton.mp hb]; exact Nat.le_refl _) (fun b hb => ?_) (fun i h hst b hb => ?_) fun i v hv => ?_
  · rcases List.mem_cons.mp hb with rfl | hb
    · exact .inl (List.mem_singleton.mpr rfl)
    · rw [List.mem_singleton.mp hb]
      exact .inr ⟨_, e, .tup⟩
  · rw [List.mem_singleton.mp hb]; obtain ⟨⟨o, ho, hc, _⟩, _⟩ := hst; exact ⟨o, ho, by rw [hc]; decide, by rw [hc]; decide⟩
  · exact r.get' (by simpa using hv)
theorem iter_str {l : List Nat} {v : Value} (hh : A.handled = none) (a : At c g (.str (S l)) v) : Iter c A g v (l.map fun x => .str (S [x])) := fun s Q ok k q => by
  obtain ⟨t, rfl⟩ := at_str.mp a
  have hsz : (S l).cps.size = (l.map fun x => D.str (S [x])).length := by simp
  have fin : ∀ T : String, T ≠ "code" → (¬ DataCls (.type T)) → Walks c.prog c.w A s.heap.objs.size [s.heap.objs.size] [s.heap.objs.size] (S l).cps.size (SignAt (S l)) (fun i h => h.IsStrIter s.heap.objs.size T (S l) t i) →
      ∀ o : Obj, (s.heap.push o).IsStrIter s.heap.objs.size T (S l) t 0 → Q (.ref s.heap.objs.size) { s with heap := s.heap.push o } := fun T hT1 hT2 W o hst => by
    have W' := W
    rw [hsz] at W'
    refine q _ _ _ _ _ _ W' hst (ok.push _) (keep_push _ _) (fun b hb => by rw [List.mem_singleton.mp hb]; exact Nat.le_refl _) (fun b hb => .inl hb) (fun i h hst b hb => ?_) fun i v hv => ?_
    · rw [List.mem_singleton.mp hb]
      obtain ⟨o, ho, hc, _⟩ := hst
      exact ⟨o, ho, by rw [hc]; exact hT2, by rw [hc]; intro e; injection e with e; exact hT1 e⟩
    · obtain ⟨x, u, hx, rfl⟩ := hv
      refine ⟨.str (S [x]), ?_, mk_str _ _⟩
      simp at hx
      simp [hx]
  cases ha : (S l).cps.all (· < 128)
  · exact wpAny_pyIter_wide ha (fin _ (by decide) (by decide) (Walks.strWide hh _ _ t) _ ⟨_, Heap.get?_push_size _ rfl, rfl, rfl⟩)
  · exact wpAny_pyIter_ascii ha (fin _ (by decide) (by decide) (Walks.strAscii hh _ _ t) _ ⟨_, Heap.get?_push_size _ rfl, rfl, rfl⟩)
/-- the ints of a range -/
def rng (a b z : Int) : List Int := (List.range (Builtin.Range.rangeSize a b z).toNat).map fun (i : Nat) => a + (i : Int) * z
theorem iter_range {a b z : Int} {v : Value} (hh : A.handled = none) (at_ : At c g (.range a b z) v) (hs : Builtin.Range.small a b z = true) (h0 : 0 ≤ Builtin.Range.rangeSize a b z) : Iter c A g v ((rng a b z).map .int) := fun s Q ok k q => by
  obtain ⟨r, t1, t2, t3, rfl, e⟩ := at_range.mp at_
  refine wpAny_pyIter_range (hp_get (k _ _ e)) hs ?_
  have W := (Walks.range (prog := c.prog) (w := c.w) hh s.heap.objs.size a z (Builtin.Range.rangeSize a b z).toNat).bound
  have hl : ((rng a b z).map D.int).length = (Builtin.Range.rangeSize a b z).toNat := by simp [rng]
  rw [← hl] at W
  refine q _ _ _ _ _ _ W ?_ (ok.push _) (keep_push _ _) (fun b hb => by rw [List.mem_singleton.mp hb]; exact Nat.le_refl _) (fun b hb => .inl hb) (fun i h hst b hb => by rw [List.mem_singleton.mp hb]; exact ⟨_, hst, (by decide : ¬ DataCls (.type "range_iterator")), (by decide : (Value.type "range_iterator") ≠ .type "code")⟩) fun i v hv => ?_
  · show IsRangeIter _ _ _ _ _
    have e1 : a + ((0 : Nat) : Int) * z = a := by simp
    have e2 : ((((rng a b z).map D.int).length : Nat) : Int) - ((0 : Nat) : Int) = Builtin.Range.rangeSize a b z := by rw [hl]; simp; omega
    rw [e1, e2]
    exact Heap.get?_push_size _ rfl
  · obtain ⟨hi, t, rfl⟩ := hv
    refine ⟨.int (a + i * z), ?_, mk_int _ _⟩
    have : i < (Builtin.Range.rangeSize a b z).toNat := by omega
    simp [rng, this]

/-- an expression's value, seen without the own objects -/
def EvH (c : Wd) (A : Around) (env : Env) (ow : List Addr) (s : Shared) (e : Expr) (d : D) : Prop := ∀ Q, (∀ v s', Ok c s' → Keep (hp s.heap) (hp s'.heap) → At c (hide (hp s'.heap) ow) d v → Q v s') → Rn c A (eval e env) Q s
theorem Bd.evh {e : Expr} {d : D} (B : Bd c g₁ env ρ ow s) (ev : Ev c A env (hp s.heap) e d) (h : ow = [] ∨ d.atom = true := by first | exact .inl rfl | exact .inr rfl) : EvH c A env (ow.map (·.1)) s e d := fun _ q => ev s _ B.ok (Keep.refl _) fun v s' ok k a => q v s' ok k (at_hidden a h)
theorem Bd.evh_name {x : Str} {d : D} {p : Pos} (B : Bd c g₁ env ρ ow s) (e : ρ.lookup x = some d) (hd : (x == ("__debug__" : Str)) = false := by decide) : EvH c A env (ow.map (·.1)) s (.Name x p) d := fun _ q =>
  let ⟨v, l, a⟩ := B.frm x d e
  wpAny_Name (Loc.load B.fra.ok (l.mono (hide_keep _ _)) (q v s B.ok (Keep.refl _) a)) hd
theorem Bd.evh_range {e : Expr} {x y z : Int} (B : Bd c g₁ env ρ ow s) (ev : Ev c A env (hp s.heap) e (.range x y z)) (h : ∀ p ∈ ow, p.2.cls ≠ .type "range") : EvH c A env (ow.map (·.1)) s e (.range x y z) := fun _ q => ev s _ B.ok (Keep.refl _) fun v s' ok k a => q v s' ok k (by
  obtain ⟨r, t1, t2, t3, rfl, e⟩ := at_range.mp a
  refine at_range.mpr ⟨r, t1, t2, t3, rfl, hide_of e fun hm => ?_⟩
  obtain ⟨p, hp', rfl⟩ := List.mem_map.mp hm
  have h1 := k _ _ (B.own p hp').1
  rw [e] at h1
  exact h p hp' (by rw [← Option.some.inj h1]))

/-- the iterator moves on: what it turns is its own -/
theorem Bd.next {wr : List Addr} {h' : Heap} {tk : Nat} {n : Nat} (B : Bd c g₁ env ρ ow s) (hk : ∀ b o, b ∉ wr → s.heap.get? b = some o → h'.get? b = some o) (hwr : ∀ b ∈ wr, n ≤ b) (hn : 208 < n) (hloc : env.locals < n) (hcell : ∀ x a, env.cells.lookup x = some a → a < n)
    (hg₁ : ∀ b o, g₁ b = some o → b ∉ wr) (hc : ∀ b ∈ wr, ∃ o, s.heap.get? b = some o ∧ ¬ DataCls o.cls ∧ o.cls ≠ .type "code") :
    Bd c g₁ env ρ ow { s with heap := h', toks := tk } := by
  have low : ∀ b : Nat, b < n → b ∉ wr := fun b hb hm => absurd (hwr b hm) (Nat.not_le_of_lt hb)
  have data : ∀ b o, hp s.heap b = some o → DataCls o.cls → hp h' b = some o := fun b o e hd => hp_of (hk b o (fun hm => by
    obtain ⟨o', e', h1, _⟩ := hc b hm
    rw [hp_get e] at e'; cases e'; exact h1 hd) (hp_get e)) (hp_off e)
  obtain ⟨o, es, ep, e1, r1⟩ := B.fra.loc
  have e1' := hk _ _ (low _ hloc) e1
  refine ⟨⟨B.ok.inv.step (fun b o hb _ e => hk b o (low b (Nat.lt_of_le_of_lt hb hn)) e) (fun P hP => ?_) (fun b o hb hcl e => hk b o (fun hm => ?_) e) (Nat.lt_trans B.fra.hi (Heap.lt_size e1')), B.ok.gens, B.ok.os⟩, fun b o e => hp_of (hk b o (hg₁ b o e) (hp_get (B.keep b o e))) (hp_off (B.keep b o e)),
    ⟨B.fra.ok, ⟨o, es, ep, e1', r1⟩, B.fra.nloc, B.fra.hi, fun x a h1 h2 => ?_, B.fra.inj, fun x a h1 => ?_⟩, fun p hp' => ?_, fun x d e => ?_⟩
  · obtain ⟨ps, e⟩ := B.ok.inv.tab P hP
    rw [e, hk P _ (low P (by unfold tabA at hP; simp only [List.mem_cons, List.not_mem_nil, or_false] at hP; rcases hP with rfl | rfl | rfl <;> omega)) e]
  · obtain ⟨o', e', _, h2⟩ := hc b hm
    rw [e] at e'; cases e'; exact h2 hcl
  · obtain ⟨⟨oc, w, f1, r⟩, r'⟩ := B.fra.cell x a h1 h2
    exact ⟨⟨oc, w, hk _ _ (low _ (hcell x a h2)) f1, r⟩, r'⟩
  · obtain ⟨h2, oc, f1⟩ := B.fra.all x a h1
    exact ⟨h2, oc, hk _ _ (low _ (hcell x a h1)) f1⟩
  · obtain ⟨f1, f2, f3, f4⟩ := B.own p hp'
    exact ⟨data _ _ f1 f4, f2, f3, f4⟩
  · obtain ⟨v, l, a⟩ := B.frm x d e
    refine ⟨v, ?_, a.monoD fun b o e hd => hide_of (data b o (hide_get e) hd) (hide_off e)⟩
    rcases l with ⟨h1, o2, es2, ep2, g1, g2⟩ | ⟨h1, ca, oc, g1, g2, g3⟩
    · exact .inl ⟨h1, o2, es2, ep2, hide_of (hp_of (hk _ _ (low _ hloc) (hp_get (hide_get g1))) (hp_off (hide_get g1))) (hide_off g1), g2⟩
    · exact .inr ⟨h1, ca, oc, g1, hide_of (hp_of (hk _ _ (low _ (hcell x ca g1)) (hp_get (hide_get g2))) (hp_off (hide_get g2))) (hide_off g2), g3⟩

/-- a loop over items -/
theorem ex_forH {σ : Type} (P : Nat → σ → PH → Prop) (hPm : ∀ i st g g', KeepD g g' → P i st g → P i st g') (ρf : σ → List (Str × D)) (wf : σ → List (Addr × Obj)) (Br : σ → PH → Prop) (Re : D → Prop) {x : Str} {px : Pos} {iter : Expr} {body : List Stmt} {dit : D} {ds : List D} (st₀ : σ) (h₀ : P 0 st₀ (hide (hp s.heap) ((wf st₀).map (·.1)))) (B : Bd c g₁ env (ρf st₀) (wf st₀) s) (hx : Stored env x)
    (ev : EvH c A env ((wf st₀).map (·.1)) s iter dit)
    (hit : ∀ g v, At c g dit v → Iter c A g v ds)
    (turn : ∀ i st d g' s, P i st (hide (hp s.heap) ((wf st).map (·.1))) → ds[i]? = some d → Bd c g' env ((x, d) :: ρf st) (wf st) s → Rn c A (execs body env) (fun f s' => match f with
      | .next => ∃ st', P (i + 1) st' (hide (hp s'.heap) ((wf st').map (·.1))) ∧ Bd c g' env (ρf st') (wf st') s'
      | .cont => False
      | .brk => ∃ st', Br st' (hide (hp s'.heap) ((wf st').map (·.1))) ∧ Bd c g' env (ρf st') (wf st') s'
      | .ret v => ∃ d, Re d ∧ Rt c g' d v s') s)
    (done : ∀ st s, P ds.length st (hide (hp s.heap) ((wf st).map (·.1))) ∨ Br st (hide (hp s.heap) ((wf st).map (·.1))) → Bd c g₁ env (ρf st) (wf st) s → Rn c A (execs rest env) Q s)
    (ret : ∀ d v s, Re d → Rt c g₁ d v s → Q (.ret v) s)
    (hs : ∀ x, foldedSetIterable iter env x = pure x := by intro _; rfl) : Rn c A (execs (.For (.Name x px) iter body [] pos :: rest) env) Q s := by
  refine wpAny_execs_cons (wpAny_For ?_ hs)
  refine ev _ fun v s1 ok1 k1 a1 => ?_
  have B1 := B.step ok1 k1
  generalize hG : hide (hp s1.heap) ((wf st₀).map (·.1)) = G at a1
  have hGk : Keep G (hp s1.heap) := by rw [← hG]; exact hide_keep _ _
  have hGlt : ∀ b o, G b = some o → b < s1.heap.objs.size := fun b o e => Heap.lt_size (hp_get (hGk b o e))
  refine hit G v a1 s1 _ ok1 hGk fun I fp wr P' St h' W st0 ok2 k2 hwr hfp hcl hP => ?_
  have hbig : 208 < s1.heap.objs.size := ok1.inv.big
  have hloc : env.locals < s1.heap.objs.size := let ⟨_, _, _, e, _⟩ := B1.fra.loc; Heap.lt_size e
  have hcell : ∀ x a, env.cells.lookup x = some a → a < s1.heap.objs.size := fun x a h1 => let ⟨_, _, e⟩ := B1.fra.all x a h1; Heap.lt_size e
  have hg₁ : ∀ b o, g₁ b = some o → b ∉ wr := fun b o e hm => absurd (hwr b hm) (Nat.not_le_of_lt (Heap.lt_size (hp_get (B1.keep b o e))))
  refine codeAny_forLoop_any (fun n s => ∃ i st, n = ds.length - i ∧ i ≤ ds.length ∧ P i st (hide (hp s.heap) ((wf st).map (·.1))) ∧ Bd c g₁ env (ρf st) (wf st) s ∧ St i s.heap ∧ KeepD G (hide (hp s.heap) ((wf st).map (·.1)))) ?_ ds.length
    ⟨0, st₀, by omega, by omega, hPm _ _ _ _ ((k1.trans k2).hide _).toD h₀, B1.step ok2 k2, st0, by rw [← hG]; exact (k2.hide _).toD⟩
  rintro n s ⟨i, st, rfl, hi, hPi, Bi, hst, hKD⟩
  have hcs := hcl i _ hst
  rcases Nat.lt_or_ge i ds.length with hlt | hge
  · refine W.item i s _ _ hlt hst fun v h2 tk hv hst2 hk2 => ?_
    obtain ⟨d, hd, ad⟩ := hP i v hv
    have B2 := Bi.next (tk := tk) hk2 hwr hbig hloc hcell hg₁ hcs
    have hKD2 : KeepD G (hide (hp h2) ((wf st).map (·.1))) := fun b o e hdc => by
      have e2 := hKD b o e hdc
      refine hide_of (hp_of (hk2 b o (fun hm => absurd (hwr b hm) (Nat.not_le_of_lt (hGlt b o e))) (hp_get (hide_get e2))) (hp_off (hide_get e2))) (hide_off e2)
    have hKD3 : KeepD (hide (hp s.heap) ((wf st).map (·.1))) (hide (hp h2) ((wf st).map (·.1))) := fun b o e hdc => by
      refine hide_of (hp_of (hk2 b o (fun hm => ?_) (hp_get (hide_get e))) (hp_off (hide_get e))) (hide_off e)
      obtain ⟨o', e', h1, _⟩ := hcs b hm
      rw [hp_get (hide_get e)] at e'; cases e'; exact h1 hdc
    show wpAny c.M A (letOwnedTupleGo (.Name x px) (.ref I) v) _ _ _
    refine wpAny_pure (wpAny_assign_Name (B2.rebase.storeD (ad.monoD hKD2) hx fun s3 B3 kd3 => ?_))
    have kd3' : KeepD (hide (hp h2) ((wf st).map (·.1))) (hide (hp s3.heap) ((wf st).map (·.1))) := fun b o e hdc => hide_of (kd3 b o (hide_get e) hdc) (hide_off e)
    refine wpAny_mono (turn i st d _ s3 (hPm _ _ _ _ kd3' (hPm _ _ _ _ hKD3 hPi)) hd B3) (fun f s4 hf => ?_) fun _ _ x => x.elim
    cases f with
    | next =>
      obtain ⟨st', hP', B4⟩ := hf
      refine ⟨ds.length - (i + 1), by omega, i + 1, st', rfl, hlt, hP', B4.weak B2.into, ?_, fun b o e hdc => ?_⟩
      · refine W.frame _ _ _ hst2 fun b hb o e => ?_
        have hbo : b ∉ tabA ∧ b ≠ env.locals ∧ (∀ x, env.kindOf x = some .cell → env.cells.lookup x ≠ some b) ∧ b ∉ (wf st).map (·.1) := by
          rcases hfp b hb with hw | ⟨o', e', hdc⟩
          · have h := hwr b hw
            refine ⟨not_tab (Nat.lt_of_lt_of_le hbig h), Nat.ne_of_gt (Nat.lt_of_lt_of_le hloc h), fun x _ h2 => absurd (hcell x b h2) (Nat.not_lt_of_le h), fun hm => ?_⟩
            obtain ⟨p, hp', rfl⟩ := List.mem_map.mp hm
            obtain ⟨f1, _, _, f4⟩ := B2.own p hp'
            obtain ⟨o', e', h1, _⟩ := hcl _ _ hst2 _ hw
            have := hp_get f1
            rw [e'] at this; cases this; exact h1 f4
          · have e3 := hKD2 b o' e' hdc
            have e4 := hp_get (hide_get e3)
            refine ⟨hp_off (hide_get e3), fun q => ?_, fun x h1 h2 => ?_, hide_off e3⟩
            · obtain ⟨ol, _, _, f1, f2, _⟩ := B2.fra.loc
              rw [q] at e4; rw [f1] at e4; cases e4; exact hdc.frame.1 f2
            · obtain ⟨⟨ol, _, f1, f2, _⟩, _⟩ := B2.fra.cell x b h1 h2
              rw [f1] at e4; cases e4; exact hdc.frame.2.1 f2
        exact hp_get (B4.keep _ _ (base_of (hp_of e hbo.1) hbo.2.1 hbo.2.2.1 hbo.2.2.2))
      · have e2 := hKD2 b o e hdc
        have e3 : base env (wf st) h2 b = some o := base_of (hide_get e2) (fun q => by
            obtain ⟨ol, _, _, f1, f2, _⟩ := B2.fra.loc
            have e4 := hp_get (hide_get e2)
            rw [q] at e4; rw [f1] at e4; cases e4; exact hdc.frame.1 f2) (fun x h1 h2' => by
            obtain ⟨⟨ol, _, f1, f2, _⟩, _⟩ := B2.fra.cell x b h1 h2'
            have e4 := hp_get (hide_get e2)
            rw [f1] at e4; cases e4; exact hdc.frame.2.1 f2) (hide_off e2)
        refine hide_of (B4.keep _ _ e3) fun hm => ?_
        obtain ⟨p, hp', rfl⟩ := List.mem_map.mp hm
        rw [(B4.own p hp').2.1] at e3; cases e3
    | cont => exact hf.elim
    | brk => 
      obtain ⟨st', hB', B4⟩ := hf
      exact done st' s4 (.inr hB') (B4.weak B2.into)
    | ret v => 
      obtain ⟨d, hd, r⟩ := hf
      exact ret d v s4 hd (r.weak B2.into)
  · have : i = ds.length := by omega
    subst this
    refine W.done s _ _ hst fun h2 tk hk2 => ?_
    have hKD3 : KeepD (hide (hp s.heap) ((wf st).map (·.1))) (hide (hp h2) ((wf st).map (·.1))) := fun b o e hdc => by
      refine hide_of (hp_of (hk2 b o (fun hm => ?_) (hp_get (hide_get e))) (hp_off (hide_get e))) (hide_off e)
      obtain ⟨o', e', h1, _⟩ := hcs b hm
      rw [hp_get (hide_get e)] at e'; cases e'; exact h1 hdc
    exact wpAny_execs_nil (done st _ (.inl (hPm _ _ _ _ hKD3 hPi)) (Bi.next (tk := tk) hk2 hwr hbig hloc hcell hg₁ hcs))
/-- a loop over items, its word free of the heap -/
theorem ex_for {σ : Type} (P : Nat → σ → Prop) (ρf : σ → List (Str × D)) (wf : σ → List (Addr × Obj)) (Br : σ → Prop) (Re : D → Prop) {x : Str} {px : Pos} {iter : Expr} {body : List Stmt} {dit : D} {ds : List D} (st₀ : σ) (h₀ : P 0 st₀) (B : Bd c g₁ env (ρf st₀) (wf st₀) s) (hx : Stored env x)
    (ev : EvH c A env ((wf st₀).map (·.1)) s iter dit)
    (hit : ∀ g v, At c g dit v → Iter c A g v ds)
    (turn : ∀ i st d g' s, P i st → ds[i]? = some d → Bd c g' env ((x, d) :: ρf st) (wf st) s → Rn c A (execs body env) (fun f s' => match f with
      | .next => ∃ st', P (i + 1) st' ∧ Bd c g' env (ρf st') (wf st') s'
      | .cont => False
      | .brk => ∃ st', Br st' ∧ Bd c g' env (ρf st') (wf st') s'
      | .ret v => ∃ d, Re d ∧ Rt c g' d v s') s)
    (done : ∀ st s, P ds.length st ∨ Br st → Bd c g₁ env (ρf st) (wf st) s → Rn c A (execs rest env) Q s)
    (ret : ∀ d v s, Re d → Rt c g₁ d v s → Q (.ret v) s)
    (hs : ∀ x, foldedSetIterable iter env x = pure x := by intro _; rfl) : Rn c A (execs (.For (.Name x px) iter body [] pos :: rest) env) Q s :=
  ex_forH (fun i st _ => P i st) (fun _ _ _ _ _ h => h) ρf wf (fun st _ => Br st) Re st₀ h₀ B hx ev hit (fun i st d g' s h1 h2 h3 => wpAny_mono (turn i st d g' s h1 h2 h3) (fun f s' h => by cases f <;> exact h) fun _ _ h => h) done ret hs
end
end Mine

/-! # L9 -/
namespace Mine

/-! ## a def is called -/
theorem cells_get : ∀ (names : List (Str × NameKind)) (h : Heap) (acc : List (Str × Addr)), (∀ p ∈ acc, ∃ v, h.get? p.2 = some (cellO v)) → ∀ p ∈ cellsFrom h.objs.size names acc, ∃ v, (pushCells h names).get? p.2 = some (cellO v)
  | [], _, _, ha, p, hp' => ha p hp'
  | (n, k) :: r, h, acc, ha, p, hp' => by
    unfold cellsFrom at hp'
    unfold pushCells
    by_cases hk : (k == .cell) = true
    · rw [if_pos hk] at hp' ⊢
      refine cells_get r (h.push (cellO none)) ((n, h.objs.size) :: acc) (fun q hq => ?_) p (by simpa using hp')
      rcases List.mem_cons.mp hq with rfl | hq
      · exact ⟨none, Heap.get?_push_size _ rfl⟩
      · obtain ⟨v, e⟩ := ha q hq
        exact ⟨v, Heap.get?_push_of_some _ e⟩
    · rw [if_neg hk] at hp' ⊢
      exact cells_get r h acc ha p hp'
theorem cells_ge : ∀ (names : List (Str × NameKind)) (n : Nat) (acc : List (Str × Addr)), ∀ p ∈ cellsFrom n names acc, p ∈ acc ∨ n ≤ p.2
  | [], _, _, p, hp' => .inl hp'
  | (x, k) :: r, n, acc, p, hp' => by
    unfold cellsFrom at hp'
    by_cases hk : (k == .cell) = true
    · rw [if_pos hk] at hp'
      rcases cells_ge r (n + 1) _ p hp' with h | h
      · rcases List.mem_cons.mp h with rfl | h
        · exact .inr (Nat.le_refl _)
        · exact .inl h
      · exact .inr (Nat.le_of_succ_le h)
    · rw [if_neg hk] at hp'
      exact cells_ge r n acc p hp'
theorem pushCells_size : ∀ (names : List (Str × NameKind)) (h : Heap), h.objs.size ≤ (pushCells h names).objs.size
  | [], _ => Nat.le_refl _
  | (x, k) :: r, h => by
    unfold pushCells
    split
    · exact Nat.le_trans (by simp) (pushCells_size r _)
    · exact pushCells_size r h
theorem hp_ge {h : Heap} {b : Nat} (hb : h.objs.size ≤ b) : hp h b = none := by
  cases e : hp h b with
  | none => rfl
  | some o => exact absurd (Heap.lt_size (hp_get e)) (Nat.not_lt_of_le hb)

abbrev frameO : Obj := { cls := .type "frame", data := .dict #[] }

section
variable {c : Wd} {A : Around} {s : Shared}

theorem new_env {scope : Scope} {closure : List (Str × Addr)} {binds : List (Str × Value)} {ds : List D} {qual : Str} {func : Option Addr} {code : Value} {E : Value → Shared → Prop} {Q : Env → Shared → Prop} (ok : Ok c s) (hk : scope.kind = .function)
    (hb : AtAll c (hp s.heap) ds (binds.map (·.2))) (hcc : closure = [] ∨ ∀ x ∈ scope.names, x.2 ≠ .cell) (hclo : ∀ p ∈ closure, 208 < p.2 ∧ ∃ v, s.heap.get? p.2 = some (cellO v))
    (hloc : ∀ x ∈ binds, scope.names.lookup x.1 = some .local ∨ (scope.names.lookup x.1 = some .cell ∧ ((cellsFrom (s.heap.objs.size + 1) scope.names closure).lookup x.1).isSome = true))
    (q : ∀ s', Bd c (hp s.heap) (newEnv scope s.heap.objs.size mainGlobals (cellsFrom (s.heap.objs.size + 1) scope.names closure) qual func code none builtinsNs) (((binds.map (·.1)).zip ds).reverse) [] s' →
      Q (newEnv scope s.heap.objs.size mainGlobals (cellsFrom (s.heap.objs.size + 1) scope.names closure) qual func code none builtinsNs) s') :
    wpAny c.M A (newFunctionEnv scope mainGlobals closure binds qual func code none builtinsNs) Q E s := by
  simp only [newFunctionEnv, Option.isSome_none, Bool.false_eq_true, if_false]
  refine wpAny_bind (wpAny_alloc ?_)
  refine wpAny_bind (wpAny_layCells _ (fun name kind cells => ?_) _ _ _ _ ?_)
  · cases kind <;> rfl
  have hsz : (s.heap.push frameO).objs.size = s.heap.objs.size + 1 := by simp
  simp only [Heap.size_push]
  generalize henv : newEnv scope s.heap.objs.size mainGlobals (cellsFrom (s.heap.objs.size + 1) scope.names closure) qual func code none builtinsNs = env at q
  have ek : ∀ x, env.kindOf x = scope.names.lookup x := fun x => by rw [← henv]; rfl
  have el : env.locals = s.heap.objs.size := by rw [← henv]; rfl
  have ec : env.cells = cellsFrom (s.heap.objs.size + 1) scope.names closure := by rw [← henv]; rfl
  have eo : EnvOk env := by rw [← henv]; exact ⟨hk, rfl, rfl⟩
  have kp : ∀ b o, s.heap.get? b = some o → (pushCells (s.heap.push frameO) scope.names).get? b = some o := fun b o e => pushCells_keeps _ _ _ _ (Heap.get?_push_of_some _ e)
  have hcs : ∀ p ∈ cellsFrom (s.heap.objs.size + 1) scope.names closure, ∃ v, (pushCells (s.heap.push frameO) scope.names).get? p.2 = some (cellO v) := by
    have := cells_get scope.names (s.heap.push frameO) closure (fun p hp' => let ⟨_, v, e⟩ := hclo p hp'; ⟨v, Heap.get?_push_of_some _ e⟩)
    rwa [hsz] at this
  have big := ok.inv.big
  have hge : ∀ p ∈ cellsFrom (s.heap.objs.size + 1) scope.names closure, 208 < p.2 := fun p hp' => by
    rcases cells_ge _ _ _ p hp' with h | h
    · exact (hclo p h).1
    · exact Nat.lt_of_lt_of_le big (Nat.le_trans (Nat.le_succ _) h)
  have B0 : Bd c (hp s.heap) env [] [] { s with heap := pushCells (s.heap.push frameO) scope.names } := by
    refine ⟨⟨ok.inv.all kp (Nat.le_trans (by simp) (pushCells_size _ _)), ok.gens, ok.os⟩, keep_all kp, ⟨eo, ⟨frameO, #[], 0, ?_, rfl, rfl, fun e he => by simp at he⟩, ?_, ?_, fun x a h1 h2 => ?_, fun x y a h1 h2 h3 => ?_, fun x a h1 => ?_⟩, fun p hp' => (nomatch hp'), fun x d e => (nomatch e)⟩
    · rw [el]; exact pushCells_keeps _ _ _ _ (Heap.get?_push_size _ rfl)
    · rw [el]; exact hp_ge (Nat.le_refl _)
    · rw [el]; exact big
    · rw [ec] at h2
      have hm := mem_of_lookup h2
      obtain ⟨v, e⟩ := hcs _ hm
      refine ⟨⟨_, v, e, rfl, rfl⟩, ?_, hge _ hm⟩
      rcases cells_ge _ _ _ _ hm with h | h
      · rcases hcc with rfl | hcc
        · cases h
        · rw [ek] at h1
          exact absurd rfl (hcc _ (mem_of_lookup h1))
      · exact hp_ge (Nat.le_trans (Nat.le_succ _) h)
    · rw [ec] at h2 h3
      rcases hcc with rfl | hcc
      · have ap := (cellsFrom_ok scope.names (s.heap.push frameO) 0 [] ⟨fun _ _ h => (nomatch h), .nil⟩ (Nat.zero_le _)).apart
        rw [hsz] at ap
        exact (name_of_addr ap (mem_of_lookup h3) (mem_of_lookup h2))
      · rw [ek] at h1
        exact absurd rfl (hcc _ (mem_of_lookup h1))
    · rw [ec] at h1
      have hm := mem_of_lookup h1
      obtain ⟨v, e⟩ := hcs _ hm
      exact ⟨hge _ hm, _, e⟩
  refine wpAny_bind ?_
  refine wpAny_forIn_list _ (fun rest _ s' => ∃ done dd dr, binds = done ++ rest ∧ ds = dd ++ dr ∧ done.length = dd.length ∧ Bd c (hp s.heap) env ((done.map (·.1)).zip dd).reverse [] s') _ ?_ ?_ binds _ ⟨[], [], ds, rfl, rfl, rfl, B0⟩
  · rintro ⟨x, v⟩ rest _ s' ⟨done, dd, dr, e1, e2, e3, B⟩
    have hlen := hb.length
    rw [e1, e2] at hlen
    simp at hlen
    obtain ⟨d, dr', rfl⟩ : ∃ d dr', dr = d :: dr' := by
      cases dr with
      | nil => simp at hlen; omega
      | cons d dr' => exact ⟨d, dr', rfl⟩
    have hv : (binds.map (·.2))[done.length]? = some v := by rw [e1]; simp
    obtain ⟨d', hd', av⟩ := hb.get' hv
    have : d' = d := by
      rw [e2, e3] at hd'; simp at hd'; exact hd'.symm
    subst this
    have hx := hloc (x, v) (by rw [e1]; simp)
    have hst : wpAny c.M A (storeName env x v) (fun _ s'' => ∃ done dd dr, binds = done ++ rest ∧ ds = dd ++ dr ∧ done.length = dd.length ∧ Bd c (hp s.heap) env ((done.map (·.1)).zip dd).reverse [] s'') E s' := by
      refine B.store (d := d') (by rw [List.map_nil, hide_nil]; exact av.mono B.keep) (by rw [ek, ec]; exact hx) fun s'' B' => ⟨done ++ [(x, v)], dd ++ [d'], dr', by rw [e1]; simp, by rw [e2]; simp, by simp [e3], ?_⟩
      have : ((done ++ [(x, v)]).map (·.1)).zip (dd ++ [d']) = (done.map (·.1)).zip dd ++ [(x, d')] := by
        rw [List.map_append, List.zip_append (by simp [e3])]; rfl
      rw [this, List.reverse_append]
      exact B'
    subst henv
    exact wpAny_bind (wpAny_mono hst (fun _ s'' h => wpAny_pure h) fun _ _ h => h)
  · rintro _ s' ⟨done, dd, dr, e1, e2, e3, B⟩
    simp at e1
    subst e1
    have : dr = [] := by
      have := hb.length; rw [e2] at this; simp at this
      exact List.eq_nil_of_length_eq_zero (by omega)
    subst this
    simp at e2
    subst e2
    subst henv
    exact wpAny_pure (q s' B)

/-- a def of the text, its names no cells -/
theorem fn_call {f : Addr} {vs : List Value} {kws : List (Str × Value)} {name qual : Str} {params : Arguments} {body : List Stmt} {scope : Scope} {dV kV doc pm cdv ct oc : Value} {an od : Option Addr} {osl : Array (Option Value)} {binds : List (Str × Value)} {bds : List D} {R : Result → Shared → Prop} {n : Nat}
    (ho : c.K.lookup f = some ⟨oc, od, .func (fnOf name qual params body scope dV kV doc pm an cdv ct), osl⟩) (hcd : codeIn c.K cdv qual = true) (rm : Rm A (n + 1)) (ok : Ok c s)
    (hb : peek c.K ⟨c.prog, c.w.params⟩ (bindArgs (fnOf name qual params body scope dV kV doc pm an cdv ct) ⟨vs, kws⟩) = some binds) (ha : AtAll c (hp s.heap) bds (binds.map (·.2)))
    (hloc : (binds.all fun y => scope.names.lookup y.1 == some .local) = true)
    (q : ∀ L s', Bd c (hp s.heap) (envX qual scope L f cdv []) (((binds.map (·.1)).zip bds).reverse) [] s' → Rn c (A.deeper (envX qual scope L f cdv [])) (execs body (envX qual scope L f cdv [])) (fun fl s' => R (.ok (.ret (match fl with | .ret v => v | _ => .none))) s') s')
    (hcell : (scope.names.all fun x => x.2 != .cell) = true := by kernel_rfl) (hco : scope.isCoroutine = false := by rfl) (hgen : scope.isGenerator = false := by rfl) (hk : scope.kind = .function := by rfl) :
    codeAny c.M A (.call (.ref f) ⟨vs, kws⟩) R s := by
  have hnc : ∀ x ∈ scope.names, x.2 ≠ .cell := fun x hx => by simpa using List.all_eq_true.mp hcell x hx
  refine codeAny_call_function rm.room (ok.inv.k _ _ ho) rfl hco hgen rfl (codeRec_of ok.inv.k hcd) ?_
  refine (Looks.of_peek ok.inv.k hb) _ _ _ s (fun _ _ e => e) ?_
  have hcl : cellsFrom (s.heap.objs.size + 1) scope.names [] = [] := by
    have : ∀ (names : List (Str × NameKind)) (n : Nat), (∀ x ∈ names, x.2 ≠ .cell) → cellsFrom n names [] = [] := by
      intro names
      induction names with
      | nil => intros; rfl
      | cons p r ih =>
        intro n h
        obtain ⟨x, k⟩ := p
        unfold cellsFrom
        have : (k == .cell) = false := by simpa using h (x, k) (.head _)
        rw [this]
        exact ih n fun y hy => h y (.tail _ hy)
    exact this _ _ hnc
  refine new_env ok hk ha (.inl rfl) (fun _ h => (nomatch h)) (fun x hx => .inl (by simpa using List.all_eq_true.mp hloc x hx)) fun s' B => ?_
  rw [hcl] at B ⊢
  exact ⟨B.ok.inv.lim, codeAny_func (wpAny_mono (q s.heap.objs.size s' B) (fun _ _ h => h) fun _ _ h => h.elim)⟩
end
end Mine

/-! # F1 -/
namespace Mine
section
variable {c : Wd} {A : Around} {env : Env} {g g₁ : PH} {pos p : Pos} {ρ ρ' : List (Str × D)} {ow : List (Addr × Obj)} {s : Shared}

/-! small helps -/
theorem all1 {d : D} {v : Value} (h : At c g d v) : AtAll c g [d] [v] := atAll_cons.mpr ⟨v, [], rfl, h, atAll_nil.mpr rfl⟩
theorem all_cons {d : D} {ds : List D} {v : Value} {vs : List Value} (h : At c g d v) (h' : AtAll c g ds vs) : AtAll c g (d :: ds) (v :: vs) := atAll_cons.mpr ⟨v, vs, rfl, h, h'⟩
theorem all_nil : AtAll c g [] [] := atAll_nil.mpr rfl
theorem all_inv1 {d : D} {vs : List Value} (h : AtAll c g [d] vs) : ∃ v, vs = [v] ∧ At c g d v := by
  obtain ⟨v, r, rfl, h1, h2⟩ := atAll_cons.mp h
  rw [atAll_nil.mp h2]; exact ⟨v, rfl, h1⟩
theorem all_inv2 {d e : D} {vs : List Value} (h : AtAll c g [d, e] vs) : ∃ v w, vs = [v, w] ∧ At c g d v ∧ At c g e w := by
  obtain ⟨v, r, rfl, h1, h2⟩ := atAll_cons.mp h
  obtain ⟨w, rfl, h3⟩ := all_inv1 h2
  exact ⟨v, w, rfl, h1, h3⟩
theorem all_inv3 {d e f : D} {vs : List Value} (h : AtAll c g [d, e, f] vs) : ∃ v w x, vs = [v, w, x] ∧ At c g d v ∧ At c g e w ∧ At c g f x := by
  obtain ⟨v, r, rfl, h1, h2⟩ := atAll_cons.mp h
  obtain ⟨w, x, rfl, h3, h4⟩ := all_inv2 h2
  exact ⟨v, w, x, rfl, h1, h3, h4⟩
theorem isN_none : F2 c A (compareOp .Is) .none .none (.bool true) := fun s v1 v2 Q ok a1 a2 q => by
  rw [at_none.mp a1, at_none.mp a2]
  exact is_none (q _ _ ok (Keep.refl _) (mk_bool _))
theorem isN_int (i : Int) : F2 c A (compareOp .Is) (.int i) .none (.bool false) := fun s v1 v2 Q ok a1 a2 q => by
  obtain ⟨t, rfl⟩ := at_int.mp a1
  rw [at_none.mp a2]
  exact is_none (q _ _ ok (Keep.refl _) (mk_bool _))
theorem isN_ref (a : Addr) : F2 c A (compareOp .Is) (.ref a) .none (.bool false) := fun s v1 v2 Q ok a1 a2 q => by
  rw [at_ref.mp a1, at_none.mp a2]
  exact is_none (q _ _ ok (Keep.refl _) (mk_bool _))
theorem len_l (ds : List D) (h : ds.length < 2 ^ 40) : Spec c A (.builtin "len") [.list ds] (.int ds.length) := fun s vs Q ok a q => by
  obtain ⟨v, rfl, h1⟩ := all_inv1 a
  obtain ⟨l, ws, n, rfl, e, r⟩ := at_list.mp h1
  have hl : ws.size = ds.length := by have := r.length; simpa using this
  refine PyProof.Rows.len_list ⟨_, hp_get e, rfl, n, rfl⟩ (by rw [hl]; omega) ?_
  rw [hl]
  exact q _ _ (ok.tok _) (Keep.refl _) (mk_int _ _)
theorem len_t (ds : List D) (h : ds.length < 2 ^ 40) : Spec c A (.builtin "len") [.tup ds] (.int ds.length) := fun s vs Q ok a q => by
  obtain ⟨v, rfl, h1⟩ := all_inv1 a
  obtain ⟨l, ws, n, rfl, e, r⟩ := at_tup.mp h1
  have hl : ws.size = ds.length := by have := r.length; simpa using this
  refine PyProof.Rows.len_tuple ⟨_, hp_get e, rfl, n, rfl⟩ (by rw [hl]; omega) ?_
  rw [hl]
  exact q _ _ (ok.tok _) (Keep.refl _) (mk_int _ _)
theorem nb_len : nsIn c.K mainGlobals "len" = some none := by kernel_rfl
theorem Ev.len {e : Expr} {ds : List D} (he : EnvOk env) (h : Ev c A env g e (.list ds)) (hl : ds.length < 2 ^ 40) (hx : env.kindOf "len" = some .globalImplicit := by rfl) (hst : starEach [e] env = (false, eval e env) :: starEach [] env := by rfl) : Ev c A env g (.Call (.Name "len" p) [e] [] pos) (.int ds.length) :=
  .blt he nb_len rfl (kept_blt _) (.cons h .nil hst) (len_l ds hl) (by decide) hx (by rw [hst]; rfl) (by decide)

/-! ## bisect_left, bisect_right without a key -/
structure Half (ns : List Int) (p : Int → Prop) (st : Int × Int) : Prop where
  lo : 0 ≤ st.1
  le : st.1 ≤ st.2
  hi : st.2 ≤ ns.length
  below : ∀ i : Nat, (i : Int) < st.1 → ∀ n, ns[i]? = some n → p n
  above : ∀ i : Nat, st.2 ≤ (i : Int) → ∀ n, ns[i]? = some n → ¬ p n

def Subs (ρ : List (Str × D)) : List (Str × D) → Prop
  | [] => True
  | (x, d) :: r => ρ.lookup x = some d ∧ Subs ρ r
theorem Subs.look {ρ : List (Str × D)} : ∀ {ρ' : List (Str × D)}, Subs ρ ρ' → ∀ x d, ρ'.lookup x = some d → ρ.lookup x = some d
  | [], _, _, _, e => (nomatch e)
  | (y, d') :: r, h, x, d, e => by
    rw [List.lookup_cons] at e
    by_cases hq : (x == y) = true
    · rw [hq] at e; cases e; rw [eq_of_beq hq]; exact h.1
    · rw [Bool.not_eq_true] at hq; rw [hq] at e; exact Subs.look h.2 x d e
theorem Bd.to {ρ' : List (Str × D)} (B : Bd c g₁ env ρ ow s) (h : Subs ρ ρ') : Bd c g₁ env ρ' ow s := B.sub h.look

theorem half_end {ns : List Int} {st : Int × Int} {p : Int → Bool} (h : Half ns (fun n => p n = true) st) (e : ¬ st.1 < st.2) : ((ns.countP p : Nat) : Int) = st.1 := by
  obtain ⟨h1, h2, h3, h4, h5⟩ := h
  obtain ⟨lo, hi⟩ := st
  simp only at *
  have : lo = hi := by omega
  subst this
  have e1 : ns.countP p = lo.toNat := by
    have hsplit : ns = ns.take lo.toNat ++ ns.drop lo.toNat := (List.take_append_drop _ _).symm
    rw [hsplit, List.countP_append]
    have a1 : (ns.take lo.toNat).countP p = (ns.take lo.toNat).length := by
      rw [List.countP_eq_length]
      intro n hn
      obtain ⟨i, hi, rfl⟩ := List.getElem_of_mem hn
      have hi' : i < lo.toNat := by simp at hi; omega
      exact h4 i (by omega) _ (by rw [List.getElem_take]; simp)
    have a2 : (ns.drop lo.toNat).countP p = 0 := by
      rw [List.countP_eq_zero]
      intro n hn
      obtain ⟨i, hi, rfl⟩ := List.getElem_of_mem hn
      exact h5 (lo.toNat + i) (by omega) _ (by rw [List.getElem_drop]; simp)
    rw [a1, a2]; simp; omega
  omega

set_option maxHeartbeats 2000000 in
theorem bisect_left_spec {n : Nat} (rm : Rm A (n + 1)) {ns : List Int} {x : Int} (hs : ns.Pairwise (· ≤ ·)) (hl : ns.length < 1000) : Spec c A (.ref 50) [.ints ns, .int x] (.int (ns.countP (· < x))) := fun s vs Q ok ha q => by
  obtain ⟨v1, v2, rfl, a1, a2⟩ := all_inv2 ha
  refine wpAny_call (fn_call (binds := [("a", v1), ("x", v2), ("lo", .int 0 229), ("hi", .none), ("key", .none)]) (bds := [.ints ns, .int x, .int 0, .none, .none]) rfl (by kernel_rfl) rm ok (by kernel_rfl)
    (all_cons a1 (all_cons a2 (all_cons (mk_int _ _) (all_cons (at_none.mpr rfl) (all1 (at_none.mpr rfl)))))) (by kernel_rfl) fun L s1 B => ?_)
  refine ex_if B (.cmp (B.name rfl) .cint (lt_i 0 0)) fun s2 B => ?_
  refine ex_nil ?_
  refine ex_if B (.cmp (B.name rfl) .cnone isN_none) fun s3 B => ?_
  refine ex_assign B (.len B.fra.ok (B.name rfl) (by simp; omega)) (.inl rfl) fun s4 B => ?_
  refine ex_nil ?_
  refine ex_if B (.cmp (B.name rfl) .cnone isN_none) fun s5 B => ?_
  have B' := B.to (ρ' := [("lo", .int 0), ("hi", .int (ns.map D.int).length), ("a", .ints ns), ("x", .int x)]) ⟨rfl, rfl, rfl, rfl, trivial⟩
  refine ex_while (fun st : Int × Int => Half ns (fun n => decide (n < x) = true) st) (fun st => [("lo", .int st.1), ("hi", .int st.2), ("a", .ints ns), ("x", .int x)]) (fun st => (st.2 - st.1).toNat) (fun st => decide (st.1 < st.2)) (0, ((ns.map D.int).length : Int))
    ⟨by simp, by simp, by simp, fun i hi => by simp at hi; omega, fun i hi n hn => by
      have := (List.getElem?_eq_some_iff.mp hn).1; simp at hi; omega⟩ B' (fun st s hP B => .cmp (B.name rfl) (B.name rfl) (lt_i _ _)) (fun st s hP hb B => ?_) fun st s hP hb B => ?_
  · have hb := of_decide_eq_true hb
    have hm : 0 ≤ (st.1 + st.2).fdiv 2 ∧ st.1 ≤ (st.1 + st.2).fdiv 2 ∧ (st.1 + st.2).fdiv 2 < st.2 := by
      have := hP.lo
      rw [Int.fdiv_eq_ediv_of_nonneg _ (by decide)]
      omega
    generalize hmid : (st.1 + st.2).fdiv 2 = mid at hm
    have hlt : mid.toNat < ns.length := by have := hP.hi; omega
    refine ex_assign B (d := .int mid) (by rw [← hmid]; exact .bin (.bin (B.name rfl) (B.name rfl) (add_i _ _)) .cint (fdiv_i _ _ (by decide) (PyProof.noPylong_small (by decide)))) (.inl rfl) fun s6 B => ?_
    refine ex_if B (.cmp (.item_list (B.name rfl) (B.name rfl) hm.1 (d := .int ns[mid.toNat]) (by simp [hlt]) (by have := hP.hi; omega)) (B.name rfl) (lt_i _ _)) fun s7 B => ?_
    by_cases hc : ns[mid.toNat] < x
    · rw [decide_eq_true hc]
      refine ex_assign B (.bin (B.name rfl) .cint (add_i _ _)) (.inl rfl) fun s8 B => ?_
      refine ex_nil (ex_nil ⟨rfl, (mid + 1, st.2), ⟨by simp; omega, by simp; omega, hP.hi, fun i hi n hn => ?_, hP.above⟩, by simp; omega, B.to ⟨rfl, rfl, rfl, rfl, trivial⟩⟩)
      simp only at hi
      obtain ⟨hi', rfl⟩ := List.getElem?_eq_some_iff.mp hn
      rw [decide_eq_true_eq]
      rcases Nat.lt_or_ge i mid.toNat with h | h
      · have := List.pairwise_iff_getElem.mp hs i mid.toNat hi' hlt h; omega
      · have : i = mid.toNat := by omega
        subst this; exact hc
    · rw [decide_eq_false hc]
      refine ex_assign B (B.name rfl) (.inl rfl) fun s8 B => ?_
      refine ex_nil (ex_nil ⟨rfl, (st.1, mid), ⟨hP.lo, by simp; omega, by have := hP.hi; simp; omega, hP.below, fun i hi n hn => ?_⟩, by simp; omega, B.to ⟨rfl, rfl, rfl, rfl, trivial⟩⟩)
      simp only at hi
      obtain ⟨hi', rfl⟩ := List.getElem?_eq_some_iff.mp hn
      rw [decide_eq_true_eq]
      rcases Nat.lt_or_ge mid.toNat i with h | h
      · have := List.pairwise_iff_getElem.mp hs mid.toNat i hlt hi' h; omega
      · have : i = mid.toNat := by omega
        subst this; exact hc
  · refine ex_nil (ex_return B (B.name rfl) fun v s' r => ?_)
    have := half_end hP (of_decide_eq_false hb)
    exact q v s' r.ok r.keep (by have h := r.at_; rw [← this] at h; exact h)
end
end Mine

/-! # F2 -/
namespace Mine
section
variable {c : Wd} {A : Around} {env : Env} {g g₁ : PH} {pos p : Pos} {ρ ρ' : List (Str × D)} {ow : List (Addr × Obj)} {s s' : Shared} {rest : List Stmt}

/-- the one own object is turned -/
theorem Bd.turn {l : Addr} {o o' : Obj} (B : Bd c g₁ env ρ [(l, o)] s) (ok : Ok c s') (k : Keep (hide (hp s.heap) [l]) (hp s'.heap)) (e : hp s'.heap l = some o') (hd : DataCls o'.cls) : Bd c g₁ env ρ [(l, o')] s' := by
  obtain ⟨h1, h2, h3, h4⟩ := B.own (l, o) (.head _)
  have kk : ∀ b ob, hp s.heap b = some ob → b ≠ l → hp s'.heap b = some ob := fun b ob eb hb => k b ob (hide_of eb (by simpa using hb))
  have nL : env.locals ≠ l := fun q => B.own_loc (by rw [q]; simp)
  refine ⟨ok, fun b ob eb => kk b ob (B.keep b ob eb) (fun q => by subst q; rw [h2] at eb; cases eb), ⟨B.fra.ok, ?_, B.fra.nloc, B.fra.hi, fun x a q1 q2 => ?_, B.fra.inj, fun x a q1 => ?_⟩, fun p hp' => ?_, fun x d ex => ?_⟩
  · obtain ⟨ol, es, ep, e1, r⟩ := B.fra.loc
    exact ⟨ol, es, ep, hp_get (kk _ _ (hp_of e1 (not_tab B.fra.hi)) nL), r⟩
  · obtain ⟨⟨oc, w, e1, e2, e3⟩, q3, q4⟩ := B.fra.cell x a q1 q2
    exact ⟨⟨oc, w, hp_get (kk _ _ (hp_of e1 (not_tab q4)) (fun q => B.own_cell e1 e2 (by rw [q]; simp))), e2, e3⟩, q3, q4⟩
  · obtain ⟨q2, oc, e1⟩ := B.fra.all x a q1
    refine ⟨q2, ?_⟩
    by_cases q : a = l
    · exact ⟨o', by rw [q]; exact hp_get e⟩
    · exact ⟨oc, hp_get (kk _ _ (hp_of e1 (not_tab q2)) q)⟩
  · rw [List.mem_singleton.mp hp']
    exact ⟨e, h2, h3, hd⟩
  · have km : Keep (hide (hp s.heap) [l]) (hide (hp s'.heap) [l]) := fun b ob eb => hide_of (k b ob eb) (hide_off eb)
    obtain ⟨v, lo, a⟩ := B.frm x d ex
    exact ⟨v, lo.mono km, a.mono km⟩
/-- an object of the def's own making becomes its own -/
theorem Bd.takes {l : Addr} {o : Obj} (B : Bd c g₁ env ρ [] s) (e : hp s.heap l = some o) (hg : g₁ l = none) (hl : 208 < l) (hd : DataCls o.cls) (hf : Frm c env (hide (hp s.heap) [l]) ρ') : Bd c g₁ env ρ' [(l, o)] s :=
  ⟨B.ok, B.keep, B.fra, fun p hp' => by rw [List.mem_singleton.mp hp']; exact ⟨e, hg, hl, hd⟩, hf⟩

theorem ex_expr {e : Expr} {Q : Flow → Shared → Prop} (h : Rn c A (eval e env) (fun v s' => v = .none ∧ Rn c A (execs rest env) Q s') s) (hi : interactive env = false := by rfl) (hs : swapsWith e none pos.line env = pure false := by rfl) : Rn c A (execs (.Expr e pos :: rest) env) Q s :=
  wpAny_execs_cons (wpAny_Expr (wpAny_mono h (fun v s' hv => by rw [hv.1]; exact hv.2) fun _ _ x => x) hi hs)

/-! bisect_right -/
set_option maxHeartbeats 2000000 in
theorem bisect_right_body {n : Nat} {ns : List Int} {x : Int} (hs : ns.Pairwise (· ≤ ·)) (hl : ns.length < 1000) {vs : List Value} {kws : List (Str × Value)} {t : Tok} (rm : Rm A (n + 1)) (ok : Ok c s) {v1 v2 : Value} {Q : Value → Shared → Prop}
    (hb : peek c.K ⟨c.prog, c.w.params⟩ (bindArgs (match c.K.lookup 32 with | some ⟨_, _, .func fd, _⟩ => fd | _ => default) ⟨vs, kws⟩) = some ([("a", v1), ("x", v2), ("lo", .int 0 t), ("hi", .none), ("key", .none)] : List (Str × Value))) (a1 : At c (hp s.heap) (.ints ns) v1) (a2 : At c (hp s.heap) (.int x) v2)
    (q : ∀ v s', Ok c s' → Keep (hp s.heap) (hp s'.heap) → At c (hp s'.heap) (.int (ns.countP (· ≤ x))) v → Q v s') : Rn c A (call (.ref 32) vs kws) Q s := by
  refine wpAny_call (fn_call (bds := [.ints ns, .int x, .int 0, .none, .none]) rfl (by kernel_rfl) rm ok hb
    (all_cons a1 (all_cons a2 (all_cons (mk_int _ _) (all_cons (at_none.mpr rfl) (all1 (at_none.mpr rfl)))))) (by kernel_rfl) fun L s1 B => ?_)
  refine ex_if B (.cmp (B.name rfl) .cint (lt_i 0 0)) fun s2 B => ?_
  refine ex_nil ?_
  refine ex_if B (.cmp (B.name rfl) .cnone isN_none) fun s3 B => ?_
  refine ex_assign B (.len B.fra.ok (B.name rfl) (by simp; omega)) (.inl rfl) fun s4 B => ?_
  refine ex_nil ?_
  refine ex_if B (.cmp (B.name rfl) .cnone isN_none) fun s5 B => ?_
  have B' := B.to (ρ' := [("lo", .int 0), ("hi", .int (ns.map D.int).length), ("a", .ints ns), ("x", .int x)]) ⟨rfl, rfl, rfl, rfl, trivial⟩
  refine ex_while (fun st : Int × Int => Half ns (fun n => decide (n ≤ x) = true) st) (fun st => [("lo", .int st.1), ("hi", .int st.2), ("a", .ints ns), ("x", .int x)]) (fun st => (st.2 - st.1).toNat) (fun st => decide (st.1 < st.2)) (0, ((ns.map D.int).length : Int))
    ⟨by simp, by simp, by simp, fun i hi => by simp at hi; omega, fun i hi n hn => by
      have := (List.getElem?_eq_some_iff.mp hn).1; simp at hi; omega⟩ B' (fun st s hP B => .cmp (B.name rfl) (B.name rfl) (lt_i _ _)) (fun st s hP hb B => ?_) fun st s hP hb B => ?_
  · have hb := of_decide_eq_true hb
    have hm : 0 ≤ (st.1 + st.2).fdiv 2 ∧ st.1 ≤ (st.1 + st.2).fdiv 2 ∧ (st.1 + st.2).fdiv 2 < st.2 := by
      have := hP.lo
      rw [Int.fdiv_eq_ediv_of_nonneg _ (by decide)]
      omega
    generalize hmid : (st.1 + st.2).fdiv 2 = mid at hm
    have hlt : mid.toNat < ns.length := by have := hP.hi; omega
    refine ex_assign B (d := .int mid) (by rw [← hmid]; exact .bin (.bin (B.name rfl) (B.name rfl) (add_i _ _)) .cint (fdiv_i _ _ (by decide) (PyProof.noPylong_small (by decide)))) (.inl rfl) fun s6 B => ?_
    refine ex_if B (.cmp (B.name rfl) (.item_list (B.name rfl) (B.name rfl) hm.1 (d := .int ns[mid.toNat]) (by simp [hlt]) (by have := hP.hi; omega)) (lt_i _ _)) fun s7 B => ?_
    by_cases hc : x < ns[mid.toNat]
    · rw [decide_eq_true hc]
      refine ex_assign B (B.name rfl) (.inl rfl) fun s8 B => ?_
      refine ex_nil (ex_nil ⟨rfl, (st.1, mid), ⟨hP.lo, by simp; omega, by have := hP.hi; simp; omega, hP.below, fun i hi n hn => ?_⟩, by simp; omega, B.to ⟨rfl, rfl, rfl, rfl, trivial⟩⟩)
      simp only at hi
      obtain ⟨hi', rfl⟩ := List.getElem?_eq_some_iff.mp hn
      rw [decide_eq_true_eq]
      rcases Nat.lt_or_ge mid.toNat i with h | h
      · have := List.pairwise_iff_getElem.mp hs mid.toNat i hlt hi' h; omega
      · have : i = mid.toNat := by omega
        subst this; omega
    · rw [decide_eq_false hc]
      refine ex_assign B (.bin (B.name rfl) .cint (add_i _ _)) (.inl rfl) fun s8 B => ?_
      refine ex_nil (ex_nil ⟨rfl, (mid + 1, st.2), ⟨by simp; omega, by simp; omega, hP.hi, fun i hi n hn => ?_, hP.above⟩, by simp; omega, B.to ⟨rfl, rfl, rfl, rfl, trivial⟩⟩)
      simp only at hi
      obtain ⟨hi', rfl⟩ := List.getElem?_eq_some_iff.mp hn
      rw [decide_eq_true_eq]
      rcases Nat.lt_or_ge i mid.toNat with h | h
      · have := List.pairwise_iff_getElem.mp hs i mid.toNat hi' hlt h; omega
      · have : i = mid.toNat := by omega
        subst this; omega
  · refine ex_nil (ex_return B (B.name rfl) fun v s' r => ?_)
    have := half_end hP (of_decide_eq_false hb)
    exact q v s' r.ok r.keep (by have h := r.at_; rw [← this] at h; exact h)
theorem bisect_right_spec {n : Nat} (rm : Rm A (n + 1)) {ns : List Int} {x : Int} (hs : ns.Pairwise (· ≤ ·)) (hl : ns.length < 1000) : Spec c A (.ref 32) [.ints ns, .int x] (.int (ns.countP (· ≤ x))) := fun s vs Q ok ha q => by
  obtain ⟨v1, v2, rfl, a1, a2⟩ := all_inv2 ha
  exact bisect_right_body (t := 202) hs hl rm ok (by kernel_rfl) a1 a2 q
theorem bisect_right_spec4 {n : Nat} (rm : Rm A (n + 1)) {ns : List Int} {x : Int} (hs : ns.Pairwise (· ≤ ·)) (hl : ns.length < 1000) : Spec c A (.ref 32) [.ints ns, .int x, .int 0, .none] (.int (ns.countP (· ≤ x))) := fun s vs Q ok ha q => by
  obtain ⟨v1, r, rfl, a1, ha⟩ := atAll_cons.mp ha
  obtain ⟨v2, v3, v4, rfl, a2, a3, a4⟩ := all_inv3 ha
  obtain ⟨t, rfl⟩ := at_int.mp a3
  rw [at_none.mp a4]
  exact bisect_right_body (t := t) hs hl rm ok (by kernel_rfl) a1 a2 q
end
end Mine

/-! # F3 -/
namespace Mine
section
variable {c : Wd} {A : Around} {env : Env} {g g₁ : PH} {pos p : Pos} {ρ ρ' : List (Str × D)} {ow : List (Addr × Obj)} {s s' : Shared} {rest : List Stmt}

theorem AtAll.take (n : Nat) : ∀ {ds : List D} {vs : List Value}, AtAll c g ds vs → AtAll c g (ds.take n) (vs.take n) := by
  intro ds
  induction ds generalizing n with
  | nil => intro vs h; rw [atAll_nil.mp h, List.take_nil, List.take_nil]; exact all_nil
  | cons d ds ih =>
    intro vs h
    obtain ⟨v, r, rfl, h1, h2⟩ := atAll_cons.mp h
    cases n with
    | zero => simpa using all_nil
    | succ n => exact all_cons h1 (ih n h2)
theorem AtAll.drop (n : Nat) : ∀ {ds : List D} {vs : List Value}, AtAll c g ds vs → AtAll c g (ds.drop n) (vs.drop n) := by
  intro ds
  induction ds generalizing n with
  | nil => intro vs h; rw [atAll_nil.mp h, List.drop_nil, List.drop_nil]; exact all_nil
  | cons d ds ih =>
    intro vs h
    obtain ⟨v, r, rfl, h1, h2⟩ := atAll_cons.mp h
    cases n with
    | zero => exact h
    | succ n => exact ih n h2
theorem Ev.view {e : Expr} {l : Addr} {d : D} (h : Ev c A env g e (.ref l)) (hd : At c g d (.ref l)) : Ev c A env g e d := fun s _ ok k q => h s _ ok k fun v s' ok' k' a' => q v s' ok' k' (by rw [at_ref.mp a']; exact (hd.mono k).mono k')

theorem list_meth {l : Addr} {vs : Array Value} {n : Nat} {name : Str} {id : String} {pl : Sem Bool} {Q : Value × List Value → Shared → Prop} {E : Value → Shared → Prop} (ho : s.heap.get? l = some (lsO vs n)) (slot : Slot "list" name id) (hty : typeOf (.builtin id) = pure (.type "method_descriptor")) (h : Q (.builtin id, [.ref l]) s) : wpAny c.M A (getMethod (.ref l) name pl) Q E s :=
  getMethod_builtin ⟨_, ho, rfl⟩ F.plainAttrs_list slot hty (fun a e => by cases e; exact ⟨_, ho, rfl⟩) h

/-- l.insert(k, x) -/
theorem list_insert {l : Addr} {vs : Array Value} {n : Nat} {k : Int} {u : Tok} {y : Value} {Q : Value → Shared → Prop} (ok : Ok c s) (ho : hp s.heap l = some (lsO vs n)) (hl : 208 < l) (h0 : 0 ≤ k) (hk : k ≤ vs.size) (hsz : vs.size ≤ 10000)
    (q : ∀ s' ws m, Ok c s' → Keep (hide (hp s.heap) [l]) (hp s'.heap) → hp s'.heap l = some (lsO ws m) → ws.toList = vs.toList.take k.toNat ++ y :: vs.toList.drop k.toNat → Q .none s') : Rn c A (call (.builtin "list.insert") [.ref l, .int k u, y]) Q s := by
  have e := hp_get ho
  refine call_meets F.slot_list_insert ⟨_, e, rfl⟩ F.entry_list_insert (F.args_list_insert_3 _ _ _) (AutoSeq1.list_insert_list_int_val_1 l vs n k u y (by simp [Builtin.List.listFitsIndex]; omega) (by simp [sizeLine]; omega)) ⟨e, ?_⟩
  refine q _ _ _ ⟨ok.inv.sameBut (Heap.SameBut.update ..) hl e (by show Value.type "list" ≠ _; decide), ok.gens, ok.os⟩ (fun b o eb => sameBut_hp (Heap.SameBut.update ..) (hide_get eb) (by simpa using hide_off eb)) (hp_of (IsL.update e _) (not_tab hl)) ?_
  rw [if_neg (by omega)]
  have : min k.toNat vs.size = k.toNat := by omega
  rw [this]
  simp
  exact List.take_of_length_le (by simp)
/-- insertion behind the like ones -/
def insR (x : Int) (ns : List Int) : List Int := ns.take (ns.countP (· ≤ x)) ++ x :: ns.drop (ns.countP (· ≤ x))

theorem ng (x : Str) (f : Value) (h : nsIn c.K mainGlobals x = some (some f)) : nsIn c.K mainGlobals x = some (some f) := h

set_option maxHeartbeats 2000000 in
theorem insort_right_call {n : Nat} (rm : Rm A (n + 2)) {ns : List Int} {x : Int} {t : Tok} {l : Addr} {vs : Array Value} {m : Nat} {Q : Value → Shared → Prop} (ok : Ok c s) (ho : hp s.heap l = some (lsO vs m)) (hl : 208 < l) (ha : AtAll c (hp s.heap) (ns.map .int) vs.toList)
    (hs : ns.Pairwise (· ≤ ·)) (hlen : ns.length < 1000)
    (q : ∀ s' ws m', Ok c s' → Keep (hide (hp s.heap) [l]) (hp s'.heap) → hp s'.heap l = some (lsO ws m') → AtAll c (hp s'.heap) ((insR x ns).map .int) ws.toList → Q .none s') : Rn c A (call (.ref 23) [.ref l, .int x t]) Q s := by
  have hsz : vs.size = ns.length := by have := ha.length; simpa using this
  refine wpAny_call (fn_call (binds := [("a", .ref l), ("x", .int x t), ("lo", .int 0 189), ("hi", .none), ("key", .none)]) (bds := [.ref l, .int x, .int 0, .none, .none]) rfl (by kernel_rfl) rm ok (by kernel_rfl)
    (all_cons (at_ref.mpr rfl) (all_cons (mk_int _ _) (all_cons (mk_int _ _) (all_cons (at_none.mpr rfl) (all1 (at_none.mpr rfl)))))) (by kernel_rfl) fun L s1 B => ?_)
  have al : At c (hp s1.heap) (.ints ns) (.ref l) := (at_list.mpr ⟨l, vs, m, rfl, ho, ha⟩ : At c (hp s.heap) (.ints ns) (.ref l)).mono B.keep
  refine ex_if B (.cmp (B.name rfl) .cnone isN_none) fun s2 B => ?_
  have al : At c (hp s2.heap) (.ints ns) (.ref l) := (at_list.mpr ⟨l, vs, m, rfl, ho, ha⟩ : At c (hp s.heap) (.ints ns) (.ref l)).mono B.keep
  refine ex_assign B (.call B.fra.ok (by kernel_rfl) (kept_K (by kernel_rfl)) (.cons (.view (B.name rfl) al) (.cons (B.name rfl) (.cons (B.name rfl) (.cons (B.name rfl) .nil)))) (bisect_right_spec4 (rm.deeper _) hs hlen)) (.inl rfl) fun s3 B => ?_
  refine ex_nil (ex_expr ?_)
  have k3 := B.keep
  have hc : ns.countP (fun n => decide (n ≤ x)) ≤ ns.length := List.countP_le_length
  obtain ⟨_, lo, ao⟩ := B.frm "a" (.ref l) rfl
  have elo := hp_get (k3 _ _ ho)
  refine methodCall_KW ((B.name (A := A.deeper _) (x := "a") (d := .ref l) rfl) s3 _ B.ok (Keep.refl _) fun v s4 ok4 k4 a4 => ?_)
  rw [at_ref.mp a4]
  have e4 := k4 _ _ (k3 _ _ ho)
  refine list_meth (hp_get e4) F.slot_list_insert (by show builtinType _ = _; rw [builtinType_eq_fast]; kernel_rfl) ?_
  have B4 := B.step ok4 k4
  refine call_with (kept_blt _) (.cons (B4.name rfl) (.cons (B4.name rfl) .nil)) ok4 (Keep.refl _) rfl fun ws s5 ok5 k5 a5 => ?_
  obtain ⟨w1, w2, rfl, b1, b2⟩ := all_inv2 a5
  obtain ⟨u1, rfl⟩ := at_int.mp b1
  have e5 := k5 _ _ e4
  refine list_insert ok5 e5 hl (by omega) (by rw [hsz]; omega) (by omega) fun s6 xs m6 ok6 k6 e6 hx => ⟨rfl, ex_nil ?_⟩
  have kk : Keep (hp s.heap) (hp s5.heap) := k3.trans (k4.trans k5)
  refine q s6 xs m6 ok6 (fun b o eb => k6 b o ((kk.hide _) b o eb)) e6 ?_
  rw [hx]
  have kD : KeepD (hide (hp s5.heap) [l]) (hp s6.heap) := k6.toD
  have hat : ∀ {ms : List Int} {ws : List Value}, AtAll c (hp s5.heap) (ms.map .int) ws → AtAll c (hp s6.heap) (ms.map .int) ws := by
    intro ms
    induction ms with
    | nil => intro ws h; rw [atAll_nil.mp h]; exact all_nil
    | cons m ms ih =>
      intro ws h
      obtain ⟨v, r, rfl, h1, h2⟩ := atAll_cons.mp h
      exact all_cons (h1.atom _ rfl) (ih h2)
  have ha5 := ha.mono kk
  show AtAll c (hp s6.heap) ((ns.take _ ++ x :: ns.drop _).map .int) _
  rw [List.map_append, List.map_cons, List.map_take, List.map_drop]
  rw [← List.map_take, ← List.map_drop]
  have e7 : ((ns.countP fun n => decide (n ≤ x) : Nat) : Int).toNat = ns.countP fun n => decide (n ≤ x) := by simp
  rw [e7]
  exact (hat (by rw [List.map_take]; exact ha5.take _)).append (all_cons (b2.atom _ rfl) (hat (by rw [List.map_drop]; exact ha5.drop _)))
end
end Mine

/-! # F4 -/
namespace Mine
section
variable {c : Wd} {A : Around} {env : Env} {g g₁ : PH} {pos p : Pos} {ρ ρ' : List (Str × D)} {ow : List (Addr × Obj)} {s s' : Shared} {rest : List Stmt}

/-- an expression makes an object -/
def EvNew (c : Wd) (A : Around) (env : Env) (s : Shared) (e : Expr) (R : Obj → PH → Prop) : Prop :=
  ∀ Q, (∀ l o s', Ok c s' → Keep (hp s.heap) (hp s'.heap) → hp s.heap l = none → 208 < l → hp s'.heap l = some o → DataCls o.cls → R o (hide (hp s'.heap) [l]) → Q (.ref l) s') → Rn c A (eval e env) Q s
theorem ex_own {x : Str} {px : Pos} {e : Expr} {R : Obj → PH → Prop} {Q : Flow → Shared → Prop} (B : Bd c g₁ env ρ [] s) (ev : EvNew c A env s e R) (hx : Stored env x) (q : ∀ l o s' g', hp s.heap l = none → Bd c g₁ env ((x, .ref l) :: ρ) [(l, o)] s' → R o g' → KeepD g' (hide (hp s'.heap) [l]) → Rn c A (execs rest env) Q s')
    (hs : swapsWith e (some (.Name x px)) pos.line env = pure false := by rfl) : Rn c A (execs (.Assign [.Name x px] e pos :: rest) env) Q s := by
  refine wpAny_execs_cons (wpAny_Assign_Name (ev _ fun l o s1 ok1 k1 hl hbig e1 hd hR => ?_) hs)
  have B1 := B.step ok1 k1
  have hg : g₁ l = none := B.keep.none hl
  have hf : Frm c env (hide (hp s1.heap) [l]) ρ := by
    have hk : Keep (hp s.heap) (hide (hp s1.heap) [l]) := fun b ob eb => hide_of (k1 b ob eb) (by
      intro hm; rw [List.mem_singleton.mp hm] at eb; rw [hl] at eb; cases eb)
    have := B.frm
    rw [List.map_nil, hide_nil] at this
    exact this.mono hk
  have B2 := B1.takes e1 hg hbig hd hf
  refine B2.storeD (d := .ref l) (at_ref.mpr rfl) hx fun s2 B3 kd => q l o s2 _ hl B3 hR ?_
  exact fun b ob eb hd => hide_of (kd b ob (hide_get eb) hd) (hide_off eb)

/-- a list of ints, whatever the heap -/
def IsInts (o : Obj) (ns : List Int) : Prop := ∃ vs n, o = lsO vs n ∧ IntsAre vs.toList ns
theorem IntsAre.atAll : ∀ {ns : List Int} {vs : List Value}, IntsAre vs ns → AtAll c g (ns.map .int) vs
  | _, _, .nil => all_nil
  | _, _, .cons n t h => all_cons (mk_int n t) (IntsAre.atAll h)
theorem evNew_copy {e : Expr} {ns : List Int} (he : EnvOk env) (ok : Ok c s) (h : Ev c A env (hp s.heap) e (.ints ns)) (hl : ns.length < 1000) (hx : env.kindOf "list" = some .globalImplicit := by rfl) (hst : starEach [e] env = (false, eval e env) :: starEach [] env := by rfl) :
    EvNew c A env s (.Call (.Name "list" p) [e] [] pos) (fun o _ => IsInts o ns) := fun Q q => by
  refine Call_ (blt_load he ok (by kernel_rfl) rfl (by decide) (call_with (kept_type _) (.cons h .nil hst) ok (Keep.refl _) (by rw [hst]; rfl) fun vs s1 ok1 k1 a1 => ?_) hx)
  obtain ⟨v, rfl, h1⟩ := all_inv1 a1
  obtain ⟨l, ws, n, rfl, e1, r⟩ := at_list.mp h1
  have hsz : ws.size = ns.length := by have := r.length; simpa using this
  refine call_list_seq (T := "list") l (.inl rfl) (hp_get e1) rfl rfl (fun h' c' hk e2 => ?_) (by rw [hsz]; simp [sizeLine]; omega)
  refine q _ _ _ ⟨ok1.inv.all hk (Nat.le_of_lt (Heap.lt_size e2)), ok1.gens, ok1.os⟩ (k1.trans (keep_all hk)) (k1.none (hp_ge (Nat.le_refl _))) ok1.inv.big (hp_of e2 (not_tab ok1.inv.big)) DataCls.list ⟨ws, c', rfl, r.ints⟩

/-! _law_row -/
theorem insR_length (x : Int) (ns : List Int) : (insR x ns).length = ns.length + 1 := by
  have : ns.countP (fun n => decide (n ≤ x)) ≤ ns.length := List.countP_le_length
  simp [insR]; omega
/-- in a sorted list the ones not above x stand first -/
theorem sorted_split {x : Int} : ∀ {ns : List Int}, ns.Pairwise (· ≤ ·) → (∀ n ∈ ns.take (ns.countP (· ≤ x)), n ≤ x) ∧ ∀ n ∈ ns.drop (ns.countP (· ≤ x)), x < n
  | [], _ => by simp
  | a :: r, h => by
    obtain ⟨h1, h2⟩ := List.pairwise_cons.mp h
    by_cases ha : a ≤ x
    · have e : (a :: r).countP (fun n => decide (n ≤ x)) = r.countP (fun n => decide (n ≤ x)) + 1 := by rw [List.countP_cons]; simp [ha]
      rw [e, List.take_succ_cons, List.drop_succ_cons]
      obtain ⟨i1, i2⟩ := sorted_split (x := x) h2
      exact ⟨fun n hn => by rcases List.mem_cons.mp hn with rfl | hn; exact ha; exact i1 n hn, i2⟩
    · have e : (a :: r).countP (fun n => decide (n ≤ x)) = 0 := by
        rw [List.countP_eq_zero]
        intro n hn
        rcases List.mem_cons.mp hn with rfl | hn
        · simpa using ha
        · have := h1 n hn; simp; omega
      rw [e]
      refine ⟨by simp, fun n hn => ?_⟩
      simp at hn
      rcases hn with rfl | hn
      · omega
      · have := h1 n hn; omega
theorem insR_sorted {x : Int} {ns : List Int} (h : ns.Pairwise (· ≤ ·)) : (insR x ns).Pairwise (· ≤ ·) := by
  obtain ⟨h1, h2⟩ := sorted_split (x := x) h
  unfold insR
  rw [List.pairwise_append]
  refine ⟨h.sublist (List.take_sublist _ _), List.pairwise_cons.mpr ⟨fun n hn => Int.le_of_lt (h2 n hn), h.sublist (List.drop_sublist _ _)⟩, fun a ha b hb => ?_⟩
  have := h1 a ha
  rcases List.mem_cons.mp hb with rfl | hb
  · exact this
  · have := h2 b hb; omega
def rowOf (row runs : List Int) : List Int := runs.foldl (fun k r => insR r k) row
theorem rowOf_sorted (runs : List Int) : ∀ {row : List Int}, row.Pairwise (· ≤ ·) → (rowOf row runs).Pairwise (· ≤ ·) := by
  induction runs with
  | nil => intro row h; exact h
  | cons r runs ih => intro row h; exact ih (insR_sorted h)
theorem rowOf_length (runs : List Int) : ∀ row : List Int, (rowOf row runs).length = row.length + runs.length := by
  induction runs with
  | nil => intro row; rfl
  | cons r runs ih => intro row; show (rowOf (insR r row) runs).length = _; rw [ih, insR_length]; simp; omega
theorem rowOf_snoc (row runs : List Int) (r : Int) : rowOf row (runs ++ [r]) = insR r (rowOf row runs) := by simp [rowOf]

theorem ng_insort_right : nsIn c.K mainGlobals "insort_right" = some (some (.ref 23)) := by kernel_rfl

set_option maxHeartbeats 2000000 in
theorem law_row_spec {n : Nat} (rm : Rm A (n + 3)) {row runs : List Int} (hs : row.Pairwise (· ≤ ·)) (hl : row.length < 100) (hl' : runs.length < 100) : Spec c A (.ref 172) [.ints row, .ints runs] (.ints (rowOf row runs)) := fun s vs Q ok ha q => by
  obtain ⟨v1, v2, rfl, a1, a2⟩ := all_inv2 ha
  refine wpAny_call (fn_call (binds := [("row", v1), ("runs", v2)]) (bds := [.ints row, .ints runs]) rfl (by kernel_rfl) rm ok (by kernel_rfl) (all_cons a1 (all1 a2)) (by kernel_rfl) fun L s1 B => ?_)
  refine ex_own B (evNew_copy B.fra.ok B.ok (B.name rfl) (by omega)) (.inl rfl) fun l o s2 g' hn B hR _ => ?_
  have rm2 : ∀ e, Rm (A.deeper e) (n + 2) := rm.deeper
  have B := B.to (ρ' := [("kept", .ref l), ("runs", .ints runs)]) ⟨rfl, rfl, trivial⟩
  refine ex_for (fun i (st : Obj × List Int) => IsInts st.1 st.2 ∧ st.2 = rowOf row (runs.take i)) (fun _ => [("kept", .ref l), ("runs", .ints runs)]) (fun st => [(l, st.1)]) (fun _ => False) (fun _ => False) (o, row) ⟨hR, by simp [rowOf]⟩ B (.inl rfl)
    (B.evh_name rfl) (fun g v a => iter_list (ds := runs.map .int) (rm2 _).hh a) ?_ ?_ (fun _ _ _ h => h.elim)
  · rintro i ⟨o, ks⟩ d g' s3 ⟨hI, hks⟩ hd B
    simp only at hI hks
    obtain ⟨r, hr, rfl⟩ : ∃ r, runs[i]? = some r ∧ d = .int r := by
      rw [List.getElem?_map] at hd
      cases hq : runs[i]? with
      | none => rw [hq] at hd; cases hd
      | some r => rw [hq] at hd; cases hd; exact ⟨r, rfl, rfl⟩
    have hi : i < runs.length := (List.getElem?_eq_some_iff.mp hr).1
    obtain ⟨ws, m, rfl, hI⟩ := hI
    refine ex_expr (Call_ (glob_load B.fra.ok B.ok ng_insort_right (call_with (kept_K (by kernel_rfl)) (.cons (B.name rfl) (.cons (B.name rfl) .nil)) B.ok (Keep.refl _) rfl fun us s4 ok4 k4 a4 => ?_)))
    obtain ⟨u1, u2, rfl, b1, b2⟩ := all_inv2 a4
    obtain ⟨t, rfl⟩ := at_int.mp b2
    rw [at_ref.mp b1]
    have B := B.step ok4 k4
    obtain ⟨e1, e2, e3, _⟩ := B.own (l, lsO ws m) (.head _)
    refine insort_right_call (rm2 _) ok4 e1 e3 (IntsAre.atAll hI) (by rw [hks]; exact rowOf_sorted _ hs) (by rw [hks, rowOf_length]; simp; omega) fun s5 xs m5 ok5 k5 e5 a5 => ⟨rfl, ex_nil ?_⟩
    refine ⟨(lsO xs m5, insR r ks), ⟨⟨xs, m5, rfl, a5.ints⟩, ?_⟩, (B.turn ok5 k5 e5 DataCls.list).to ⟨rfl, rfl, trivial⟩⟩
    simp only
    rw [hks, List.take_add_one, hr, ← rowOf_snoc]
    rfl
  · rintro ⟨o, ks⟩ s3 (⟨hI, hks⟩ | h) B
    · simp only at hI hks
      obtain ⟨ws, m, rfl, hI⟩ := hI
      obtain ⟨e1, e2, e3, _⟩ := B.own (l, lsO ws m) (.head _)
      have av : At c (hp s3.heap) (.ints ks) (.ref l) := at_list.mpr ⟨l, ws, m, rfl, e1, IntsAre.atAll hI⟩
      refine ex_return B (.view (B.name rfl) av) fun v s' r => q v s' r.ok r.keep ?_
      have h := r.at_
      rw [hks] at h
      simpa using h
    · exact h.elim
end
end Mine

/-! # F5 -/
namespace Mine
section
variable {c : Wd} {A : Around} {env : Env} {g g₁ : PH} {pos p : Pos} {ρ ρ' : List (Str × D)} {ow : List (Addr × Obj)} {s s' : Shared} {rest : List Stmt}

theorem Ok.all {h' : Heap} {tk : Nat} (ok : Ok c s) (hk : ∀ b o, s.heap.get? b = some o → h'.get? b = some o) : Ok c { s with heap := h', toks := tk } := by
  have e : ∃ o, c.K.lookup 208 = some o := ⟨_, rfl⟩
  obtain ⟨o, e⟩ := e
  have h1 := hk _ _ (ok.inv.k _ _ e)
  refine ⟨ok.inv.step (fun b o _ _ e => hk b o e) (fun P hP => by obtain ⟨ps, e⟩ := ok.inv.tab P hP; rw [e, hk _ _ e]) (fun b o _ _ e => hk b o e) (Heap.lt_size h1), ok.gens, ok.os⟩

theorem Ev.ifexp {test body orelse : Expr} {b : Bool} {d : D} (t : Te c A env g test b) (h1 : b = true → Ev c A env g body d) (h2 : b = false → Ev c A env g orelse d) : Ev c A env g (.IfExp test body orelse pos) d :=
  fun s _ ok k q => wpAny_IfExp (t s _ ok k fun s1 ok1 k1 => by
    cases b with
    | true => exact h1 rfl s1 _ ok1 (k.trans k1) fun v s2 ok2 k2 a2 => q v s2 ok2 (k1.trans k2) a2
    | false => exact h2 rfl s1 _ ok1 (k.trans k1) fun v s2 ok2 k2 a2 => q v s2 ok2 (k1.trans k2) a2)
theorem Ev.neg {e : Expr} {i : Int} (h : Ev c A env g e (.int i)) : Ev c A env g (.UnaryOp .USub e pos) (.int (-i)) := fun s _ ok k q => wpAny_UnaryOp (h s _ ok k fun v s1 ok1 k1 a1 => by
  obtain ⟨t, rfl⟩ := at_int.mp a1
  exact PyProof.Rows.neg_int (q _ _ (ok1.tok _) k1 (mk_int _ _)))
theorem Ev.eqd {e : Expr} {d d' : D} (h : Ev c A env g e d) (e' : d = d') : Ev c A env g e d' := e' ▸ h
theorem Te.eqd {e : Expr} {d d' : Bool} (h : Te c A env g e d) (e' : d = d') : Te c A env g e d' := e' ▸ h

/-- x, y = e -/
theorem ex_unpack2 {x y : Str} {px py tp : Pos} {kk : Nat} {e : Expr} {d1 d2 : D} {Q : Flow → Shared → Prop} (hh : A.handled = none) (B : Bd c g₁ env ρ [] s) (ev : Ev c A env (hp s.heap) e (.tup [d1, d2])) (hx : Stored env x) (hy : Stored env y)
    (q : ∀ s', Bd c g₁ env ((y, d2) :: (x, d1) :: ρ) [] s' → Rn c A (execs rest env) Q s')
    (hs : swapsWithSole [.Tuple [.Name x px, .Name y py] kk tp] e pos.line env = pure false := by rfl) (hw : swappedStores [.Tuple [.Name x px, .Name y py] kk tp] e env = pure none := by rfl) :
    Rn c A (execs (.Assign [.Tuple [.Name x px, .Name y py] kk tp] e pos :: rest) env) Q s := by
  refine wpAny_execs_cons (Assign_Tuple (ev s _ B.ok (Keep.refl _) fun v s1 ok1 k1 a1 => ?_) hs hw)
  obtain ⟨a, vs, n, rfl, e1, r⟩ := at_tup.mp a1
  obtain ⟨v1, v2, hv, b1, b2⟩ := all_inv2 r
  have hsz : vs.size = 2 := by rw [← Array.length_toList, hv]; rfl
  refine assign_Tuple_tuple hh ⟨_, hp_get e1, rfl, n, rfl⟩ (by rw [hsz]; rfl) rfl fun h' hx' => ?_
  have hk : ∀ b o, s1.heap.get? b = some o → h'.get? b = some o := fun b o eb => hx' b o (Nat.ne_of_lt (Heap.lt_size eb)) eb
  have ok2 : Ok c { s1 with heap := h' } := ok1.all (tk := s1.toks) hk
  have B2 := (B.step ok1 k1).step ok2 (keep_all hk)
  rw [hv]
  show wpAny c.M A (do holding [v2] (assign (.Name x px) env v1); holding [] (assign (.Name y py) env v2); pure ()) _ _ _
  refine wpAny_bind (wpAny_holding (wpAny_assign_Name (B2.storeD (d := d1) (by rw [List.map_nil, hide_nil]; exact b1.mono (keep_all hk)) hx fun s3 B3 kd3 => ?_)))
  refine wpAny_bind (wpAny_holding (wpAny_assign_Name (B3.store (d := d2) (by rw [List.map_nil, hide_nil]; exact (b2.mono (keep_all hk)).monoD kd3) hy fun s4 B4 => ?_)))
  exact wpAny_pure (q s4 B4)

/-! max, range -/
theorem cmpOf_ints {P : Nat → Value → Prop} {val : Nat → Int} (h : ∀ i v, P i v → ∃ t, v = .int (val i) t) : CmpOf c.prog c.w A .Gt P (fun i j => decide (val j < val i)) := fun i j vi vj s Q E hi hj q => by
  obtain ⟨t, rfl⟩ := h i vi hi
  obtain ⟨u, rfl⟩ := h j vj hj
  exact PyProof.Rows.gt_int q
theorem max2 (hh : A.handled = none) (a b : Int) : Spec c A (.builtin "max") [.int a, .int b] (.int (max a b)) := fun s vs Q ok ha q => by
  obtain ⟨v1, v2, rfl, a1, a2⟩ := all_inv2 ha
  obtain ⟨t, rfl⟩ := at_int.mp a1
  obtain ⟨u, rfl⟩ := at_int.mp a2
  have e0 : (s.heap.push { cls := .type "tuple", data := .seq #[.int a t, .int b u] }).IsTuple s.heap.objs.size #[.int a t, .int b u] := ⟨_, Heap.get?_push_size _ rfl, rfl, 0, rfl⟩
  refine call_max_two (wpAny_pyIter_tuple e0 ⟨_, _, _, _, _, _, fun i j => decide ((if j = 0 then a else b) < (if i = 0 then a else b)), rfl, Walks.tuple (A := A.in1) hh _ _ (by simp) #[.int a t, .int b u], ⟨⟨_, Heap.get?_push_size _ rfl, rfl, rfl⟩, e0.at fun o e => Heap.get?_push_of_some _ e⟩, fun b hb => ?_, by simp, cmpOf_ints (val := fun i => if i = 0 then a else b) (fun i v hv => ?_), fun v h' tk hv hk => ?_⟩)
  · simp only [Heap.size_push, List.mem_cons, List.not_mem_nil, or_false] at hb ⊢
    rcases hb with rfl | rfl
    · exact Nat.lt_succ_self _
    · exact Nat.lt_succ_of_lt (Nat.lt_succ_self _)
  · match i, hv with
    | 0, hv => simp at hv; exact ⟨t, hv.symm⟩
    | 1, hv => simp at hv; exact ⟨u, hv.symm⟩
    | (i + 2), hv => simp at hv
  · have hk2 : ∀ b o, s.heap.get? b = some o → h'.get? b = some o := fun b o e => hk b o (by
      have := Heap.lt_size e
      simp only [List.mem_singleton, Heap.size_push]
      exact fun q => by rw [q] at this; exact absurd this (by simp)) (Heap.get?_push_of_some _ (Heap.get?_push_of_some _ e))
    refine q v _ (ok.all hk2) (keep_all hk2) ?_
    by_cases hc : a < b
    · simp [argBest, hc] at hv
      rw [← hv, Int.max_eq_right (by omega)]; exact mk_int _ _
    · simp [argBest, hc] at hv
      rw [← hv, Int.max_eq_left (by omega)]; exact mk_int _ _
theorem range3 (a b z : Int) (hz : z ≠ 0) (hs : z.natAbs < 1000) : Spec c A (.type "range") [.int a, .int b, .int z] (.range a b z) := fun s vs Q ok ha q => by
  obtain ⟨v1, v2, v3, rfl, a1, a2, a3⟩ := all_inv3 ha
  obtain ⟨t, rfl⟩ := at_int.mp a1
  obtain ⟨u, rfl⟩ := at_int.mp a2
  obtain ⟨w, rfl⟩ := at_int.mp a3
  exact call_range_3 hz (q _ _ (ok.push _) (keep_push _ _) (at_range.mpr ⟨_, _, _, _, rfl, ok.new⟩)) (.inl (PyProof.noPylong_small (by omega)))
theorem range2 (a b : Int) : Spec c A (.type "range") [.int a, .int b] (.range a b 1) := fun s vs Q ok ha q => by
  obtain ⟨v1, v2, rfl, a1, a2⟩ := all_inv2 ha
  obtain ⟨t, rfl⟩ := at_int.mp a1
  obtain ⟨u, rfl⟩ := at_int.mp a2
  exact call_range_2 (q _ _ ((ok.push _).tok _) (keep_push _ _) (at_range.mpr ⟨_, _, _, _, rfl, ok.new⟩))
theorem range1 (b : Int) : Spec c A (.type "range") [.int b] (.range 0 b 1) := fun s vs Q ok ha q => by
  obtain ⟨v1, rfl, a1⟩ := all_inv1 ha
  obtain ⟨t, rfl⟩ := at_int.mp a1
  exact call_range_1 (q _ _ ((ok.push _).tok _) (keep_push _ _) (at_range.mpr ⟨_, _, _, _, rfl, ok.new⟩))
theorem nb_range : nsIn c.K mainGlobals "range" = some none := by kernel_rfl
theorem nb_max : nsIn c.K mainGlobals "max" = some none := by kernel_rfl
end
end Mine

/-! # F6 -/
namespace Mine
section
variable {c : Wd} {A : Around} {env : Env} {g g₁ : PH} {pos p : Pos} {ρ ρ' : List (Str × D)} {ow : List (Addr × Obj)} {s s' : Shared} {rest : List Stmt}

theorem rangeSize_up {a b z : Int} (hz : 0 < z) : Builtin.Range.rangeSize a b z = if a < b then (b - a - 1) / z + 1 else 0 := by
  unfold Builtin.Range.rangeSize; rw [if_pos hz]
theorem rangeSize_nn {a b z : Int} (hz : 0 < z) : 0 ≤ Builtin.Range.rangeSize a b z := by
  rw [rangeSize_up hz]; split
  · have := Int.ediv_nonneg (show 0 ≤ b - a - 1 by omega) (Int.le_of_lt hz); omega
  · exact Int.le_refl _
theorem rangeSize_le {a b z : Int} (hz : 0 < z) (hab : a ≤ b) : Builtin.Range.rangeSize a b z ≤ b - a := by
  rw [rangeSize_up hz]; split
  · have := Int.ediv_le_self z (show 0 ≤ b - a - 1 by omega); omega
  · omega
theorem small_up {a b z : Int} (ha : 0 ≤ a) (hb : 0 ≤ b) (hb' : b < 10 ^ 6) (ha' : a < 10 ^ 6) (hz : 0 < z) (hz' : z < 10 ^ 6) : Builtin.Range.small a b z = true := by
  have h1 := rangeSize_nn (a := a) (b := b) hz
  have h2 : Builtin.Range.rangeSize a b z ≤ 10 ^ 6 := by
    rcases Int.lt_or_le b a with h | h
    · rw [rangeSize_up hz, if_neg (by omega)]; decide
    · have := rangeSize_le (z := z) hz h; omega
  unfold Builtin.Range.small Builtin.Range.rangeFitsLong
  simp only [Bool.and_eq_true, Bool.or_eq_true, decide_eq_true_eq, beq_iff_eq, if_pos hz]
  refine ⟨⟨⟨⟨⟨?_, ?_⟩, ?_, ?_⟩, ?_, ?_⟩, ?_, ?_⟩, .inr ⟨?_, ?_⟩⟩ <;> omega
theorem iter_up {a b z : Int} {v : Value} (hh : A.handled = none) (at_ : At c g (.range a b z) v) (ha : 0 ≤ a) (hb : 0 ≤ b) (hb' : b < 10 ^ 6) (ha' : a < 10 ^ 6) (hz : 0 < z) (hz' : z < 10 ^ 6) : Iter c A g v ((rng a b z).map .int) :=
  iter_range hh at_ (small_up ha hb hb' ha' hz hz') (rangeSize_nn hz)
theorem mulOk {a b : Int} (h1 : -1000000 < a) (h2 : a < 1000000) : IntMulOk a b := .of_left (intBits_le_64 (by omega) (by omega))
theorem map_int_get {ns : List Int} {i : Nat} {d : D} (h : (ns.map D.int)[i]? = some d) : ∃ r, ns[i]? = some r ∧ d = .int r := by
  rw [List.getElem?_map] at h
  cases hq : ns[i]? with
  | none => rw [hq] at h; cases h
  | some r => rw [hq] at h; cases h; exact ⟨r, rfl, rfl⟩

/-! _law_level -/
def levelOf (row : List Int) (blanks size : Int) : Int := blanks + size * ((rng 0 (row.getLastD 0 + 1) size).map fun least => (row.length : Int) - (row.countP (· < least) : Nat)).sum
theorem ng_bisect_left : nsIn c.K mainGlobals "bisect_left" = some (some (.ref 50)) := by kernel_rfl

set_option maxHeartbeats 2000000 in
theorem law_level_spec {n : Nat} (rm : Rm A (n + 2)) {row : List Int} {blanks size : Int} (hs : row.Pairwise (· ≤ ·)) (hl : row.length < 100) (hne : row ≠ []) (h0 : 0 ≤ row.getLastD 0) (h1 : row.getLastD 0 < 1000) (hz : 0 < size) (hz' : size < 1000) :
    Spec c A (.ref 179) [.ints row, .int blanks, .int size] (.int (levelOf row blanks size)) := fun s vs Q ok ha q => by
  obtain ⟨v1, v2, v3, rfl, a1, a2, a3⟩ := all_inv3 ha
  refine wpAny_call (fn_call (binds := [("row", v1), ("blanks", v2), ("size", v3)]) (bds := [.ints row, .int blanks, .int size]) rfl (by kernel_rfl) rm ok (by kernel_rfl) (all_cons a1 (all_cons a2 (all1 a3))) (by kernel_rfl) fun L s1 B => ?_)
  have rm2 : ∀ e, Rm (A.deeper e) (n + 1) := rm.deeper
  refine ex_assign B .cint (.inl rfl) fun s2 B => ?_
  have hlast : (row.map D.int)[(row.map D.int).length - 1]? = some (.int (row.getLastD 0)) := by
    rw [List.getLastD_eq_getLast?, List.getLast?_eq_getElem?, List.getElem?_map, List.length_map]
    have : row.length - 1 < row.length := by have := List.length_pos_iff.mpr hne; omega
    rw [List.getElem?_eq_getElem this]; rfl
  generalize hlst : row.getLastD 0 = last at *
  have B := B.to (ρ' := [("stops", .int 0), ("row", .ints row), ("blanks", .int blanks), ("size", .int size)]) ⟨rfl, rfl, rfl, rfl, trivial⟩
  refine ex_for (fun i (st : Int) => st = (((rng 0 (last + 1) size).take i).map fun least => (row.length : Int) - (row.countP (· < least) : Nat)).sum) (fun st => [("stops", .int st), ("row", .ints row), ("blanks", .int blanks), ("size", .int size)]) (fun _ => []) (fun _ => False) (fun _ => False) 0 (by simp) B (.inl rfl)
    (B.evh (.blt B.fra.ok nb_range rfl (kept_type _) (.cons .cint (.cons (.bin (.item_last (B.name rfl) (.neg .cint) hlast) .cint (add_i _ _)) (.cons (B.name rfl) .nil))) (range3 0 (last + 1) size (by omega) (by omega)))) (fun g v a => iter_up (rm2 _).hh a (by decide) (by omega) (by omega) (by decide) hz (by omega)) ?_ ?_ (fun _ _ _ h => h.elim)
  · rintro i st d g' s3 hst hd B
    obtain ⟨r, hr, rfl⟩ := map_int_get hd
    refine ex_aug B rfl (.bin (.len B.fra.ok (B.name rfl) (by simp; omega)) (.call B.fra.ok ng_bisect_left (kept_K (by kernel_rfl)) (.cons (B.name rfl) (.cons (B.name rfl) .nil)) (bisect_left_spec (rm2 _) hs (by omega))) (sub_i _ _)) (iadd_i _ _) (.inl rfl) fun s4 B => ?_
    refine ex_nil ⟨_, ?_, B.to ⟨rfl, rfl, rfl, rfl, trivial⟩⟩
    rw [hst, List.take_add_one, hr]
    simp
  · rintro st s3 (hst | h) B
    · refine ex_return B (.bin (B.name rfl) (.bin (B.name rfl) (B.name rfl) (mul_i _ _ (mulOk (by omega) (by omega)))) (add_i _ _)) fun v s' r => q v s' r.ok r.keep ?_
      have h := r.at_
      rw [hst, List.length_map, List.take_length] at h
      unfold levelOf
      rw [hlst]; exact h
    · exact h.elim
end
end Mine

/-! # F7 -/
namespace Mine
section
variable {c : Wd} {A : Around} {env : Env} {g g₁ : PH} {pos p : Pos} {ρ ρ' : List (Str × D)} {ow : List (Addr × Obj)} {s s' : Shared} {rest : List Stmt}

theorem hhd {A : Around} {env : Env} (h : A.handled = none) : (A.deeper env).handled = none := h
theorem S_tab : Str.ofString "\t" = S [9] := by decide +kernel
theorem S_sp : Str.ofString " " = S [32] := by decide +kernel
theorem mulOkR {a b : Int} (h1 : -1000000 < b) (h2 : b < 1000000) : IntMulOk a b := .of_right (intBits_le_64 (by omega) (by omega))

/-! _law_walk -/
def stepOf (size : Int) (col : Int) (ch : Nat) : Int := if ch = 9 then (col.fdiv size + 1) * size else col + 1
def walkOf (text : List Nat) (size : Int) : Int := text.foldl (stepOf size) 0

set_option maxHeartbeats 2000000 in
theorem law_walk_spec {n : Nat} (rm : Rm A (n + 1)) {text : List Nat} {size : Int} (hz : 0 < size) (hz' : size < 1000) : Spec c A (.ref 186) [.str (S text), .int size] (.int (walkOf text size)) := fun s vs Q ok ha q => by
  obtain ⟨v1, v2, rfl, a1, a2⟩ := all_inv2 ha
  refine wpAny_call (fn_call (binds := [("text", v1), ("size", v2)]) (bds := [.str (S text), .int size]) rfl (by kernel_rfl) rm ok (by kernel_rfl) (all_cons a1 (all1 a2)) (by kernel_rfl) fun L s1 B => ?_)
  refine ex_assign B .cint (.inl rfl) fun s2 B => ?_
  have B := B.to (ρ' := [("column", .int 0), ("text", .str (S text)), ("size", .int size)]) ⟨rfl, rfl, rfl, trivial⟩
  refine ex_for (fun i (st : Int) => st = (text.take i).foldl (stepOf size) 0) (fun st => [("column", .int st), ("text", .str (S text)), ("size", .int size)]) (fun _ => []) (fun _ => False) (fun _ => False) 0 (by simp) B (.inl rfl)
    (B.evh (B.name rfl)) (fun g v a => iter_str rm.hh a) ?_ ?_ (fun _ _ _ h => h.elim)
  · rintro i st d g' s3 hst hd B
    obtain ⟨ch, hch, rfl⟩ : ∃ ch, text[i]? = some ch ∧ d = .str (S [ch]) := by
      rw [List.getElem?_map] at hd
      cases hq : text[i]? with
      | none => rw [hq] at hd; cases hd
      | some r => rw [hq] at hd; cases hd; exact ⟨r, rfl, rfl⟩
    refine ex_assign B (d := .int (stepOf size st ch)) (.ifexp (.cmp (B.name rfl) (.eqd .cstr (by rw [S_tab])) (eq_s [ch] [9])) (fun h => ?_) fun h => ?_) (.inl rfl) fun s4 B => ?_
    · have : ch = 9 := by simpa using h
      refine .eqd (.bin (.bin (.bin (B.name rfl) (B.name rfl) (fdiv_i _ _ (by omega) (PyProof.noPylong_small (by omega)))) .cint (add_i _ _)) (B.name rfl) (mul_i _ _ (mulOkR (by omega) (by omega)))) ?_
      simp [stepOf, this]
    · have : ¬ ch = 9 := by simpa using h
      refine .eqd (.bin (B.name rfl) .cint (add_i _ _)) ?_
      simp [stepOf, this]
    · refine ex_nil ⟨_, ?_, B.to ⟨rfl, rfl, rfl, trivial⟩⟩
      rw [hst, List.take_add_one, hch]
      simp
  · rintro st s3 (hst | h) B
    · refine ex_return B (B.name rfl) fun v s' r => q v s' r.ok r.keep ?_
      have h := r.at_
      rw [hst, List.length_map, List.take_length] at h
      exact h
    · exact h.elim

/-! the Whitespace's methods -/
abbrev leadD (cnt : List Int) (b n nt : Int) (simple : Bool) : D := .lead (.tup [.tup (cnt.map .int), .int b]) n nt simple
theorem Ev.norm {e : Expr} {cnt : List Int} {b n nt : Int} {simple : Bool} (h : Ev c A env g e (leadD cnt b n nt simple)) (he : eval (.Attribute e "norm" pos) env = (do
      let o ← eval e env
      standAt pos.atName
      let r ← holding [o] (getAttr o "norm" true)
      letTemporaryGo e o r
      pure r) := by with_unfolding_all rfl) : Ev c A env g (.Attribute e "norm" pos) (.tup [.tup (cnt.map .int), .int b]) := .attr h (get_norm ⟨_, rfl⟩) he
theorem Ev.lenT {e : Expr} {ds : List D} (he : EnvOk env) (h : Ev c A env g e (.tup ds)) (hl : ds.length < 2 ^ 40) (hx : env.kindOf "len" = some .globalImplicit := by rfl) (hst : starEach [e] env = (false, eval e env) :: starEach [] env := by rfl) : Ev c A env g (.Call (.Name "len" p) [e] [] pos) (.int ds.length) :=
  .blt he nb_len rfl (kept_blt _) (.cons h .nil hst) (len_t ds hl) (by decide) hx (by rw [hst]; rfl) (by decide)

set_option maxHeartbeats 2000000 in
theorem longest_spec {m : Nat} (rm : Rm A (m + 1)) {cnt : List Int} {b n nt : Int} {simple : Bool} (hl : cnt.length < 1000) : Spec c A (.ref 116) [leadD cnt b n nt simple] (.int (max ((cnt.length : Int) - 1) b)) := fun s vs Q ok ha q => by
  obtain ⟨v1, rfl, a1⟩ := all_inv1 ha
  refine wpAny_call (fn_call (binds := [("self", v1)]) (bds := [leadD cnt b n nt simple]) rfl (by kernel_rfl) rm ok (by kernel_rfl) (all1 a1) (by kernel_rfl) fun L s1 B => ?_)
  refine ex_unpack2 rm.hh B (.norm (B.name rfl)) (.inl rfl) (.inl rfl) fun s2 B => ?_
  refine ex_return B (.blt B.fra.ok nb_max rfl (kept_blt _) (.cons (.bin (.lenT B.fra.ok (B.name rfl) (by simp; omega)) .cint (sub_i _ _)) (.cons (B.name rfl) .nil)) (max2 (hhd rm.hh) _ _)) fun v s' r => q v s' r.ok r.keep ?_
  have h := r.at_
  rw [List.length_map] at h
  exact h

def ilOf (cnt : List Int) (b nt ts : Int) : Int := b + ts * (((rng ts cnt.length 1).map fun i => i.fdiv ts * cnt.getD i.toNat 0).sum + nt)
theorem mem_rng {a b z i : Int} (hz : 0 < z) (h : i ∈ rng a b z) : a ≤ i ∧ i < b := by
  unfold rng at h
  obtain ⟨k, hk, rfl⟩ := List.mem_map.mp h
  have hk := List.mem_range.mp hk
  rw [rangeSize_up hz] at hk
  split at hk
  · have h1 : 0 ≤ (b - a - 1) / z := Int.ediv_nonneg (by omega) (by omega)
    have h2 : (k : Int) ≤ (b - a - 1) / z := by omega
    have h3 : (k : Int) * z ≤ (b - a - 1) / z * z := Int.mul_le_mul_of_nonneg_right h2 (by omega)
    have h4 := Int.ediv_mul_le (b - a - 1) (show z ≠ 0 by omega)
    have h5 : 0 ≤ (k : Int) * z := Int.mul_nonneg (by omega) (by omega)
    omega
  · simp at hk

set_option maxHeartbeats 2000000 in
theorem level_spec {m : Nat} (rm : Rm A (m + 1)) {cnt : List Int} {b n nt ts : Int} {simple : Bool} (hl : cnt.length < 1000) (hz : 0 < ts) (hz' : ts < 1000) : Spec c A (.ref 123) [leadD cnt b n nt simple, .int ts] (.int (ilOf cnt b nt ts)) := fun s vs Q ok ha q => by
  obtain ⟨v1, v2, rfl, a1, a2⟩ := all_inv2 ha
  refine wpAny_call (fn_call (binds := [("self", v1), ("tabsize", v2)]) (bds := [leadD cnt b n nt simple, .int ts]) rfl (by kernel_rfl) rm ok (by kernel_rfl) (all_cons a1 (all1 a2)) (by kernel_rfl) fun L s1 B => ?_)
  refine ex_unpack2 rm.hh B (.norm (B.name rfl)) (.inl rfl) (.inl rfl) fun s2 B => ?_
  refine ex_assign B .cint (.inl rfl) fun s3 B => ?_
  have B := B.to (ρ' := [("il", .int 0), ("self", leadD cnt b n nt simple), ("tabsize", .int ts), ("count", .tup (cnt.map .int)), ("trailing", .int b)]) ⟨rfl, rfl, rfl, rfl, rfl, trivial⟩
  refine ex_for (fun i (st : Int) => st = (((rng ts cnt.length 1).take i).map fun i => i.fdiv ts * cnt.getD i.toNat 0).sum) (fun st => [("il", .int st), ("self", leadD cnt b n nt simple), ("tabsize", .int ts), ("count", .tup (cnt.map .int)), ("trailing", .int b)]) (fun _ => []) (fun _ => False) (fun _ => False) 0 (by simp) B (.inl rfl)
    (B.evh (.blt B.fra.ok nb_range rfl (kept_type _) (.cons (B.name rfl) (.cons (.eqd (.lenT B.fra.ok (B.name rfl) (by simp; omega)) (by rw [List.length_map])) .nil)) (range2 ts cnt.length))) (fun g v a => iter_up rm.hh a (by omega) (by omega) (by omega) (by omega) (by decide) (by decide)) ?_ ?_ (fun _ _ _ h => h.elim)
  · rintro i st d g' s3 hst hd B
    obtain ⟨r, hr, rfl⟩ := map_int_get hd
    obtain ⟨hr1, hr2⟩ := mem_rng (by decide) (List.mem_of_getElem? hr)
    have hlt : r.toNat < cnt.length := by omega
    have hf : 0 ≤ r.fdiv ts ∧ r.fdiv ts < 1000 := by
      rw [Int.fdiv_eq_ediv_of_nonneg _ (by omega)]
      exact ⟨Int.ediv_nonneg (by omega) (by omega), Int.lt_of_le_of_lt (Int.ediv_le_self _ (by omega)) (by omega)⟩
    refine ex_assign B (.bin (B.name rfl) (.bin (.bin (B.name rfl) (B.name rfl) (fdiv_i _ _ (by omega) (PyProof.noPylong_small (by omega)))) (.item_tup (B.name rfl) (B.name rfl) (by omega) (d := .int (cnt.getD r.toNat 0)) (by rw [List.getElem?_map, List.getD_eq_getElem?_getD, List.getElem?_eq_getElem hlt]; rfl) (by omega)) (mul_i _ _ (mulOk (by omega) (by omega)))) (add_i _ _)) (.inl rfl) fun s4 B => ?_
    refine ex_nil ⟨_, ?_, B.to ⟨rfl, rfl, rfl, rfl, rfl, trivial⟩⟩
    rw [hst, List.take_add_one, hr]
    simp
  · rintro st s3 (hst | h) B
    · refine ex_return B (.bin (B.name rfl) (.bin (B.name rfl) (.bin (B.name rfl) (.attr (B.name rfl) get_nt) (add_i _ _)) (mul_i _ _ (mulOk (by omega) (by omega)))) (add_i _ _)) fun v s' r => q v s' r.ok r.keep ?_
      have h := r.at_
      rw [hst, List.length_map, List.take_length] at h
      exact h
    · exact h.elim
end
end Mine

/-! # F8 -/
namespace Mine
section
variable {c : Wd} {A : Around} {env : Env} {g g₁ : PH} {pos p : Pos} {ρ ρ' : List (Str × D)} {ow : List (Addr × Obj)} {s s' : Shared} {rest : List Stmt}

/-! equality of data -/
mutual
def D.py : D → PyData
  | .bool b => .bool b
  | .int i => .int i
  | .str x => .str x
  | .list xs => .list (D.pys xs)
  | .tup xs => .tuple (D.pys xs)
  | _ => .none
def D.pys : List D → List PyData
  | [] => []
  | d :: ds => D.py d :: D.pys ds
end
mutual
def D.plain : D → Bool
  | .none | .bool _ | .int _ | .str _ => true
  | .list xs => D.plains xs
  | .tup xs => D.plains xs
  | _ => false
def D.plains : List D → Bool
  | [] => true
  | d :: ds => D.plain d && D.plains ds
end
mutual
theorem At.reads {h : Heap} : ∀ {d : D} {v : Value}, At c (hp h) d v → d.plain = true → ∃ as, Reads h v d.py as
  | .none, _, a, _ => by rw [at_none.mp a]; unfold D.py; exact ⟨_, .none⟩
  | .bool _, _, a, _ => by rw [at_bool.mp a]; unfold D.py; exact ⟨_, .bool _⟩
  | .int _, _, a, _ => by obtain ⟨t, rfl⟩ := at_int.mp a; unfold D.py; exact ⟨_, .int _ _⟩
  | .str _, _, a, _ => by obtain ⟨t, rfl⟩ := at_str.mp a; unfold D.py; exact ⟨_, .str _ _⟩
  | .list xs, _, a, hp' => by
    obtain ⟨l, vs, n, rfl, e, r⟩ := at_list.mp a
    unfold D.plain at hp'
    obtain ⟨as, q⟩ := AtAll.reads r hp'
    unfold D.py
    exact ⟨_, .list (hp_get e) rfl rfl q⟩
  | .tup xs, _, a, hp' => by
    obtain ⟨l, vs, n, rfl, e, r⟩ := at_tup.mp a
    unfold D.plain at hp'
    obtain ⟨as, q⟩ := AtAll.reads r hp'
    unfold D.py
    exact ⟨_, .tuple (hp_get e) rfl rfl q⟩
  | .dict _, _, _, hp' => by simp [D.plain] at hp'
  | .range _ _ _, _, _, hp' => by simp [D.plain] at hp'
  | .lead _ _ _ _, _, _, hp' => by simp [D.plain] at hp'
  | .comp _, _, _, hp' => by simp [D.plain] at hp'
  | .ref _, _, _, hp' => by simp [D.plain] at hp'
theorem AtAll.reads {h : Heap} : ∀ {ds : List D} {vs : List Value}, AtAll c (hp h) ds vs → D.plains ds = true → ∃ as, ReadsAll h vs (D.pys ds) as
  | [], _, a, _ => by rw [atAll_nil.mp a]; unfold D.pys; exact ⟨_, .nil⟩
  | d :: ds, _, a, hp' => by
    obtain ⟨v, r, rfl, h1, h2⟩ := atAll_cons.mp a
    unfold D.plains at hp'
    simp only [Bool.and_eq_true] at hp'
    obtain ⟨as, q⟩ := At.reads h1 hp'.1
    obtain ⟨bs, q'⟩ := AtAll.reads h2 hp'.2
    unfold D.pys
    exact ⟨_, .cons q q'⟩
end
theorem eq_d {d1 d2 : D} (hu : A.units + 64 < cLine) (p1 : d1.plain = true) (p2 : d2.plain = true) (s1 : SeqAt.shaped d1.py = true) (s2 : SeqAt.shaped d2.py = true) : F2 c A (compareOp .Eq) d1 d2 (.bool (PyData.eqv d1.py d2.py)) := fun s v1 v2 Q ok a1 a2 q => by
  obtain ⟨as, r1⟩ := a1.reads p1
  obtain ⟨bs, r2⟩ := a2.reads p2
  exact eq_dataH r1 r2 s1 s2 hu (q _ _ ok (Keep.refl _) (mk_bool _))
theorem ne_d {d1 d2 : D} (hu : A.units + 64 < cLine) (p1 : d1.plain = true) (p2 : d2.plain = true) (s1 : SeqAt.shaped d1.py = true) (s2 : SeqAt.shaped d2.py = true) : F2 c A (compareOp .NotEq) d1 d2 (.bool (!PyData.eqv d1.py d2.py)) := fun s v1 v2 Q ok a1 a2 q => by
  obtain ⟨as, r1⟩ := a1.reads p1
  obtain ⟨bs, r2⟩ := a2.reads p2
  exact ne_dataH r1 r2 s1 s2 hu (q _ _ ok (Keep.refl _) (mk_bool _))
theorem pys_ints : ∀ ns : List Int, D.pys (ns.map .int) = ns.map PyData.int
  | [] => by simp [D.pys]
  | n :: ns => by simp [D.pys, D.py, pys_ints ns]
theorem plains_ints : ∀ ns : List Int, D.plains (ns.map .int) = true
  | [] => by simp [D.plains]
  | n :: ns => by simp [D.plains, D.plain, plains_ints ns]
theorem lay_ints : ∀ ns : List Int, PyData.canLayAll0 (ns.map PyData.int) = true ∧ PyData.depthAll (ns.map PyData.int) = 0
  | [] => by simp [PyData.canLayAll0, PyData.depthAll]
  | n :: ns => by simp [PyData.canLayAll0, PyData.depthAll, PyData.canLay0, PyData.depth, lay_ints ns]
theorem eq_ints (hu : A.units + 64 < cLine) (ns ms : List Int) : F2 c A (compareOp .Eq) (.ints ns) (.ints ms) (.bool (decide (ns = ms))) := by
  have := eq_d (c := c) (A := A) (d1 := .ints ns) (d2 := .ints ms) hu (by simp [D.plain, plains_ints]) (by simp [D.plain, plains_ints]) (by simp [SeqAt.shaped, D.py, pys_ints, PyData.canLay0, PyData.depth, lay_ints]) (by simp [SeqAt.shaped, D.py, pys_ints, PyData.canLay0, PyData.depth, lay_ints])
  simpa [D.py, pys_ints, PyData.eqv, ked_eqvAll] using this
theorem ne_ints (hu : A.units + 64 < cLine) (ns ms : List Int) : F2 c A (compareOp .NotEq) (.ints ns) (.ints ms) (.bool (!decide (ns = ms))) := by
  have := ne_d (c := c) (A := A) (d1 := .ints ns) (d2 := .ints ms) hu (by simp [D.plain, plains_ints]) (by simp [D.plain, plains_ints]) (by simp [SeqAt.shaped, D.py, pys_ints, PyData.canLay0, PyData.depth, lay_ints]) (by simp [SeqAt.shaped, D.py, pys_ints, PyData.canLay0, PyData.depth, lay_ints])
  simpa [D.py, pys_ints, PyData.eqv, ked_eqvAll] using this
theorem eq_norm (hu : A.units + 64 < cLine) (ns ms : List Int) (b b' : Int) : F2 c A (compareOp .Eq) (.tup [.tup (ns.map .int), .int b]) (.tup [.tup (ms.map .int), .int b']) (.bool (decide (ns = ms) && b == b')) := by
  have := eq_d (c := c) (A := A) (d1 := .tup [.tup (ns.map .int), .int b]) (d2 := .tup [.tup (ms.map .int), .int b']) hu (by simp [D.plain, D.plains, plains_ints]) (by simp [D.plain, D.plains, plains_ints]) (by simp [SeqAt.shaped, D.py, D.pys, pys_ints, PyData.canLay0, PyData.canLayAll0, PyData.depth, PyData.depthAll, lay_ints]) (by simp [SeqAt.shaped, D.py, D.pys, pys_ints, PyData.canLay0, PyData.canLayAll0, PyData.depth, PyData.depthAll, lay_ints])
  simpa [D.py, D.pys, pys_ints, PyData.eqv, PyData.eqvAll, ked_eqvAll] using this
/-- rows of three ints -/
abbrev D.row (r : Int × Int × Int) : D := .tup [.int r.1, .int r.2.1, .int r.2.2]
abbrev D.rows (rs : List (Int × Int × Int)) : D := .list (rs.map .row)
theorem pys_rows : ∀ rs : List (Int × Int × Int), D.pys (rs.map .row) = rs.map fun r => PyData.tuple [.int r.1, .int r.2.1, .int r.2.2]
  | [] => by simp [D.pys]
  | n :: ns => by simp [D.pys, D.py, D.row, pys_rows ns]
theorem plains_rows : ∀ rs : List (Int × Int × Int), D.plains (rs.map .row) = true
  | [] => by simp [D.plains]
  | n :: ns => by simp [D.plains, D.plain, D.row, plains_rows ns]
theorem lay_rows : ∀ rs : List (Int × Int × Int), PyData.canLayAll0 (rs.map fun r => PyData.tuple [.int r.1, .int r.2.1, .int r.2.2]) = true ∧ PyData.depthAll (rs.map fun r => PyData.tuple [.int r.1, .int r.2.1, .int r.2.2]) ≤ 1
  | [] => by simp [PyData.canLayAll0, PyData.depthAll]
  | n :: ns => by
    have := lay_rows ns
    simp [PyData.canLayAll0, PyData.depthAll, PyData.canLay0, PyData.depth, this]
theorem eqv_rows : ∀ rs ts : List (Int × Int × Int), PyData.eqvAll (rs.map fun r => PyData.tuple [.int r.1, .int r.2.1, .int r.2.2]) (ts.map fun r => PyData.tuple [.int r.1, .int r.2.1, .int r.2.2]) = decide (rs = ts)
  | [], [] => by simp [PyData.eqvAll]
  | [], _ :: _ => by simp [PyData.eqvAll]
  | _ :: _, [] => by simp [PyData.eqvAll]
  | (a, b, d) :: r, (a', b', d') :: t => by
    simp only [List.map_cons, PyData.eqvAll, PyData.eqv, eqv_rows r t, Bool.and_true]
    by_cases h1 : a = a' <;> by_cases h2 : b = b' <;> by_cases h3 : d = d' <;> by_cases h4 : r = t <;> simp [h1, h2, h3, h4]
theorem shaped_rows (rs : List (Int × Int × Int)) : SeqAt.shaped (D.rows rs).py = true := by
  have := lay_rows rs
  simp [SeqAt.shaped, D.py, pys_rows, PyData.canLay0, PyData.depth, this.1]
  omega
theorem ne_rows (hu : A.units + 64 < cLine) (rs ts : List (Int × Int × Int)) : F2 c A (compareOp .NotEq) (.rows rs) (.rows ts) (.bool (!decide (rs = ts))) := by
  have := ne_d (c := c) (A := A) (d1 := .rows rs) (d2 := .rows ts) hu (by simp [D.plain, plains_rows]) (by simp [D.plain, plains_rows]) (shaped_rows _) (shaped_rows _)
  simpa [D.py, pys_rows, PyData.eqv, eqv_rows] using this
theorem eq_rows (hu : A.units + 64 < cLine) (rs ts : List (Int × Int × Int)) : F2 c A (compareOp .Eq) (.rows rs) (.rows ts) (.bool (decide (rs = ts))) := by
  have := eq_d (c := c) (A := A) (d1 := .rows rs) (d2 := .rows ts) hu (by simp [D.plain, plains_rows]) (by simp [D.plain, plains_rows]) (shaped_rows _) (shaped_rows _)
  simpa [D.py, pys_rows, PyData.eqv, eqv_rows] using this

theorem Rm.un {n : Nat} (rm : Rm A n) : A.units + 64 < cLine := by have := rm.hu; omega

set_option maxHeartbeats 2000000 in
theorem equal_spec {m : Nat} (rm : Rm A (m + 1)) {cnt cnt' : List Int} {b n nt b' n' nt' : Int} {simple simple' : Bool} : Spec c A (.ref 130) [leadD cnt b n nt simple, leadD cnt' b' n' nt' simple'] (.bool (decide (cnt = cnt') && b == b')) := fun s vs Q ok ha q => by
  obtain ⟨v1, v2, rfl, a1, a2⟩ := all_inv2 ha
  refine wpAny_call (fn_call (binds := [("self", v1), ("other", v2)]) (bds := [leadD cnt b n nt simple, leadD cnt' b' n' nt' simple']) rfl (by kernel_rfl) rm ok (by kernel_rfl) (all_cons a1 (all1 a2)) (by kernel_rfl) fun L s1 B => ?_)
  exact ex_return B (.cmp (.norm (B.name rfl)) (.norm (B.name rfl)) (eq_norm (rm.deeper _).un _ _ _ _)) fun v s' r => q v s' r.ok r.keep r.at_
end
end Mine

/-! # F9 -/
namespace Mine
section
variable {c : Wd} {A : Around} {env : Env} {g g₁ : PH} {pos p : Pos} {ρ ρ' : List (Str × D)} {ow : List (Addr × Obj)} {s s' : Shared} {rest : List Stmt}

/-- x.indent_level(e) -/
theorem Ev.level {o e : Expr} {apos : Pos} {cnt : List Int} {b n nt ts : Int} {simple : Bool} {m : Nat} {pl : Sem Bool} (rm : Rm A (m + 1)) (ho : Ev c A env g o (leadD cnt b n nt simple)) (h : Ev c A env g e (.int ts)) (hl : cnt.length < 1000) (hz : 0 < ts) (hz' : ts < 1000)
    (he : eval (.Call (.Attribute o "indent_level" apos) [e] [] pos) env = (do
      let ov ← eval o env
      standAt apos.atName
      let (f, first) ← holding [ov] (getMethod ov "indent_level" pl)
      callWith pos f first (backTo pos (starEach [e] env)) (backToKw pos (keywordEach [] env))) := by rfl)
    (hst : starEach [e] env = (false, eval e env) :: starEach [] env := by rfl) : Ev c A env g (.Call (.Attribute o "indent_level" apos) [e] [] pos) (.int (ilOf cnt b nt ts)) :=
  .meth ho m_level (kept_K (by kernel_rfl)) (.cons h .nil hst) (level_spec rm hl hz hz') he (by rw [hst]; rfl)
theorem Ev.longest {o : Expr} {apos : Pos} {cnt : List Int} {b n nt : Int} {simple : Bool} {m : Nat} {pl : Sem Bool} (rm : Rm A (m + 1)) (ho : Ev c A env g o (leadD cnt b n nt simple)) (hl : cnt.length < 1000)
    (he : eval (.Call (.Attribute o "longest_run_of_spaces" apos) [] [] pos) env = (do
      let ov ← eval o env
      standAt apos.atName
      let (f, first) ← holding [ov] (getMethod ov "longest_run_of_spaces" pl)
      callWith pos f first (backTo pos (starEach [] env)) (backToKw pos (keywordEach [] env))) := by rfl) : Ev c A env g (.Call (.Attribute o "longest_run_of_spaces" apos) [] [] pos) (.int (max ((cnt.length : Int) - 1) b)) :=
  .meth ho m_longest (kept_K (by kernel_rfl)) .nil (longest_spec rm hl) he rfl

/-- the greatest tab size that is asked -/
def topOf (cnt : List Int) (b : Int) (cnt' : List Int) (b' : Int) : Int := max (max ((cnt.length : Int) - 1) b) (max ((cnt'.length : Int) - 1) b') + 1
def lessOf (cnt : List Int) (b n nt : Int) (cnt' : List Int) (b' n' nt' : Int) : Bool := decide (n < n') && (rng 2 (topOf cnt b cnt' b' + 1) 1).all fun ts => decide (ilOf cnt b nt ts < ilOf cnt' b' nt' ts)

set_option maxHeartbeats 4000000 in
theorem less_spec {m : Nat} (rm : Rm A (m + 2)) {cnt cnt' : List Int} {b n nt b' n' nt' : Int} (hl : cnt.length < 500) (hl' : cnt'.length < 500) (hb : 0 ≤ b ∧ b < 500) (hb' : 0 ≤ b' ∧ b' < 500) :
    Spec c A (.ref 144) [leadD cnt b n nt false, leadD cnt' b' n' nt' false] (.bool (lessOf cnt b n nt cnt' b' n' nt')) := fun s vs Q ok ha q => by
  obtain ⟨v1, v2, rfl, a1, a2⟩ := all_inv2 ha
  refine wpAny_call (fn_call (binds := [("self", v1), ("other", v2)]) (bds := [leadD cnt b n nt false, leadD cnt' b' n' nt' false]) rfl (by kernel_rfl) rm ok (by kernel_rfl) (all_cons a1 (all1 a2)) (by kernel_rfl) fun L s1 B => ?_)
  have rm2 : ∀ e, Rm (A.deeper e) (m + 1) := rm.deeper
  refine ex_if B (.cmp (.attr (B.name rfl) get_n) (.attr (B.name rfl) get_n) (ge_i _ _)) fun s2 B => ?_
  by_cases hn : n' ≤ n
  · rw [decide_eq_true hn]
    refine ex_return B .cbool fun v s' r => q v s' r.ok r.keep ?_
    have : lessOf cnt b n nt cnt' b' n' nt' = false := by unfold lessOf; rw [decide_eq_false (by omega)]; rfl
    rw [this]; exact r.at_
  rw [decide_eq_false hn]
  refine ex_nil (ex_if B (.boolop (.and_cons (.bool (.attr (B.name rfl) get_simple)) fun h => (nomatch h))) (b := false && false) fun s3 B => ?_)
  refine ex_nil (ex_assign B (d := .int (topOf cnt b cnt' b')) (.bin (.blt B.fra.ok nb_max rfl (kept_blt _) (.cons (.longest (rm2 _) (B.name rfl) (by omega)) (.cons (.longest (rm2 _) (B.name rfl) (by omega)) .nil)) (max2 (rm2 _).hh _ _)) .cint (add_i _ _)) (.inl rfl) fun s4 B => ?_)
  have B := B.to (ρ' := [("n", .int (topOf cnt b cnt' b')), ("self", leadD cnt b n nt false), ("other", leadD cnt' b' n' nt' false)]) ⟨rfl, rfl, rfl, trivial⟩
  have htop : 0 ≤ topOf cnt b cnt' b' ∧ topOf cnt b cnt' b' < 600 := by unfold topOf; omega
  generalize hN : topOf cnt b cnt' b' = N at *
  refine ex_for (fun i (_ : Unit) => ∀ ts ∈ (rng 2 (N + 1) 1).take i, ilOf cnt b nt ts < ilOf cnt' b' nt' ts) (fun _ => [("n", .int N), ("self", leadD cnt b n nt false), ("other", leadD cnt' b' n' nt' false)]) (fun _ => []) (fun _ => False) (fun d => d = .bool false ∧ ∃ ts ∈ rng 2 (N + 1) 1, ilOf cnt' b' nt' ts ≤ ilOf cnt b nt ts) () (by simp) B (.inl rfl)
    (B.evh (.blt B.fra.ok nb_range rfl (kept_type _) (.cons .cint (.cons (.bin (B.name rfl) .cint (add_i _ _)) .nil)) (range2 2 (N + 1)))) (fun g v a => iter_up (rm2 _).hh a (by decide) (by omega) (by omega) (by decide) (by decide) (by decide)) ?_ ?_ ?_
  · rintro i _ d g' s5 hst hd B
    obtain ⟨ts, hr, rfl⟩ := map_int_get hd
    have hmem := List.mem_of_getElem? hr
    obtain ⟨hr1, hr2⟩ := mem_rng (by decide) hmem
    refine ex_if B (.cmp (.level (rm2 _) (B.name rfl) (B.name rfl) (by omega) (by omega) (by omega)) (.level (rm2 _) (B.name rfl) (B.name rfl) (by omega) (by omega) (by omega)) (ge_i _ _)) fun s6 B => ?_
    by_cases hc : ilOf cnt' b' nt' ts ≤ ilOf cnt b nt ts
    · rw [decide_eq_true hc]
      exact ex_return B .cbool fun v s' r => ⟨_, ⟨rfl, ts, hmem, hc⟩, r⟩
    · rw [decide_eq_false hc]
      refine ex_nil (ex_nil ⟨(), fun x hx => ?_, B.to ⟨rfl, rfl, rfl, trivial⟩⟩)
      rw [List.take_add_one, hr] at hx
      rcases List.mem_append.mp hx with h | h
      · exact hst x h
      · simp at h; subst h; omega
  · rintro _ s5 (hst | h) B
    · refine ex_return B .cbool fun v s' r => q v s' r.ok r.keep ?_
      rw [List.length_map, List.take_length] at hst
      have : lessOf cnt b n nt cnt' b' n' nt' = true := by
        unfold lessOf; rw [hN, decide_eq_true (by omega), Bool.true_and, List.all_eq_true]
        intro x hx; exact decide_eq_true (hst x hx)
      rw [this]; exact r.at_
    · exact h.elim
  · rintro d v s' ⟨rfl, ts, hm, hle⟩ r
    refine q v s' r.ok r.keep ?_
    have : lessOf cnt b n nt cnt' b' n' nt' = false := by
      unfold lessOf; rw [hN, Bool.and_eq_false_iff]
      right
      rw [List.all_eq_false]
      exact ⟨ts, hm, by simp; omega⟩
    rw [this]; exact r.at_

/-! the witnesses -/
theorem evNew_nil (ok : Ok c s) : EvNew c A env s (.List [] pos) (fun o _ => o = lsO #[] 0) := fun Q q => by
  refine wpAny_List (wpAny_items_nil ⟨by decide, ?_⟩)
  exact q _ _ _ (ok.push _) (keep_push _ _) (hp_ge (Nat.le_refl _)) ok.inv.big ok.new DataCls.list rfl
/-- l.append(x) -/
theorem list_append' {l : Addr} {vs : Array Value} {n : Nat} {y : Value} {Q : Value → Shared → Prop} (ok : Ok c s) (ho : hp s.heap l = some (lsO vs n)) (hl : 208 < l) (hsz : vs.size ≤ 10000)
    (q : ∀ s' m, Ok c s' → Keep (hide (hp s.heap) [l]) (hp s'.heap) → hp s'.heap l = some (lsO (vs.push y) m) → Q .none s') : Rn c A (call (.builtin "list.append") [.ref l, y]) Q s := by
  have e := hp_get ho
  refine call_meets F.slot_list_append ⟨_, e, rfl⟩ F.entry_list_append (F.args_list_append_2 _ _) (PySem.list_append l vs n y (by simp [sizeLine]; omega)) ⟨e, ?_⟩
  exact q _ _ ⟨ok.inv.sameBut (Heap.SameBut.update ..) hl e (by show Value.type "list" ≠ _; decide), ok.gens, ok.os⟩ (fun b o eb => sameBut_hp (Heap.SameBut.update ..) (hide_get eb) (by simpa using hide_off eb)) (hp_of (IsL.update e _) (not_tab hl))

/-- the rows of the tab sizes at which the two levels stand so -/
def rowsOf (p : Int → Int → Bool) (cnt : List Int) (b nt : Int) (cnt' : List Int) (b' nt' : Int) (sizes : List Int) : List (Int × Int × Int) :=
  (sizes.filter fun ts => p (ilOf cnt b nt ts) (ilOf cnt' b' nt' ts)).map fun ts => (ts, ilOf cnt b nt ts, ilOf cnt' b' nt' ts)
def witOf (p : Int → Int → Bool) (cnt : List Int) (b nt : Int) (cnt' : List Int) (b' nt' : Int) : List (Int × Int × Int) := rowsOf p cnt b nt cnt' b' nt' (rng 1 (topOf cnt b cnt' b' + 1) 1)
theorem rowsOf_snoc (p : Int → Int → Bool) (cnt : List Int) (b nt : Int) (cnt' : List Int) (b' nt' : Int) (sizes : List Int) (ts : Int) :
    rowsOf p cnt b nt cnt' b' nt' (sizes ++ (some ts).toList) = rowsOf p cnt b nt cnt' b' nt' sizes ++ if p (ilOf cnt b nt ts) (ilOf cnt' b' nt' ts) then [(ts, ilOf cnt b nt ts, ilOf cnt' b' nt' ts)] else [] := by
  unfold rowsOf
  simp only [Option.toList_some, List.filter_append, List.map_append, List.filter_cons, List.filter_nil]
  split <;> simp
theorem row_hide {r : Int × Int × Int} {v : Value} {l : Addr} {vs : Array Value} {n : Nat} (a : At c g (.row r) v) (e : g l = some (lsO vs n)) : At c (hide g [l]) (.row r) v := by
  obtain ⟨t, ws, m, rfl, e1, r1⟩ := at_tup.mp a
  refine at_tup.mpr ⟨t, ws, m, rfl, hide_of e1 (fun hm => ?_), ?_⟩
  · rw [List.mem_singleton.mp hm, e] at e1; have := congrArg Obj.cls (Option.some.inj e1); exact absurd this (by show Value.type "list" ≠ Value.type "tuple"; decide)
  · obtain ⟨w1, w2, w3, hw, b1, b2, b3⟩ := all_inv3 r1
    rw [hw]
    exact all_cons (b1.atom _ rfl) (all_cons (b2.atom _ rfl) (all1 (b3.atom _ rfl)))
abbrev pNe : Int → Int → Bool := fun x y => x != y
abbrev pGe : Int → Int → Bool := fun x y => decide (y ≤ x)

set_option maxHeartbeats 4000000 in
theorem not_equal_witness_spec {m : Nat} (rm : Rm A (m + 2)) {cnt cnt' : List Int} {b n nt b' n' nt' : Int} {simple simple' : Bool} (hl : cnt.length < 500) (hl' : cnt'.length < 500) (hb : 0 ≤ b ∧ b < 500) (hb' : 0 ≤ b' ∧ b' < 500) :
    Spec c A (.ref 137) [leadD cnt b n nt simple, leadD cnt' b' n' nt' simple'] (.rows (witOf pNe cnt b nt cnt' b' nt')) := fun s vs Q ok ha q => by
  obtain ⟨v1, v2, rfl, a1, a2⟩ := all_inv2 ha
  refine wpAny_call (fn_call (binds := [("self", v1), ("other", v2)]) (bds := [leadD cnt b n nt simple, leadD cnt' b' n' nt' simple']) rfl (by kernel_rfl) rm ok (by kernel_rfl) (all_cons a1 (all1 a2)) (by kernel_rfl) fun L s1 B => ?_)
  have rm2 : ∀ e, Rm (A.deeper e) (m + 1) := rm.deeper
  refine ex_assign B (d := .int (topOf cnt b cnt' b')) (.bin (.blt B.fra.ok nb_max rfl (kept_blt _) (.cons (.longest (rm2 _) (B.name rfl) (by omega)) (.cons (.longest (rm2 _) (B.name rfl) (by omega)) .nil)) (max2 (rm2 _).hh _ _)) .cint (add_i _ _)) (.inl rfl) fun s2 B => ?_
  have htop : 0 ≤ topOf cnt b cnt' b' ∧ topOf cnt b cnt' b' < 600 := by unfold topOf; omega
  generalize hN : topOf cnt b cnt' b' = N at *
  refine ex_own B (evNew_nil B.ok) (.inl rfl) fun l o s3 g' hn B hR hkd => ?_
  subst hR
  have B := B.to (ρ' := [("n", .int N), ("a", .ref l), ("self", leadD cnt b n nt simple), ("other", leadD cnt' b' n' nt' simple')]) ⟨rfl, rfl, rfl, rfl, trivial⟩
  refine ex_forH (fun i (st : Obj × List (Int × Int × Int)) g => ∃ vs n, st.1 = lsO vs n ∧ st.2 = rowsOf pNe cnt b nt cnt' b' nt' ((rng 1 (N + 1) 1).take i) ∧ AtAll c g (st.2.map .row) vs.toList ∧ st.2.length ≤ i ∧ i ≤ (rng 1 (N + 1) 1).length) (fun i st g g' k ⟨vs, n, h1, h2, h3, h4⟩ => ⟨vs, n, h1, h2, h3.monoD k, h4⟩)
    (fun _ => [("n", .int N), ("a", .ref l), ("self", leadD cnt b n nt simple), ("other", leadD cnt' b' n' nt' simple')]) (fun st => [(l, st.1)]) (fun _ _ => False) (fun _ => False) (lsO #[] 0, []) ⟨#[], 0, rfl, by simp [rowsOf], all_nil, by simp, by simp⟩ B (.inl rfl)
    (B.evh_range (.blt B.fra.ok nb_range rfl (kept_type _) (.cons .cint (.cons (.bin (B.name rfl) .cint (add_i _ _)) .nil)) (range2 1 (N + 1))) (fun p hp' => by rw [List.mem_singleton.mp hp']; show Value.type "list" ≠ _; decide)) (fun g v a => iter_up (rm2 _).hh a (by decide) (by omega) (by omega) (by decide) (by decide) (by decide)) ?_ ?_ (fun _ _ _ h => h.elim)
  · rintro i ⟨o, rs⟩ d g' s4 ⟨vs, m4, h1, h2, h3, h4, h5⟩ hd B
    simp only at h1 h2 h3 h4
    subst h1
    obtain ⟨ts, hr, rfl⟩ := map_int_get hd
    have hmem := List.mem_of_getElem? hr
    have hi := (List.getElem?_eq_some_iff.mp hr).1
    obtain ⟨hr1, hr2⟩ := mem_rng (by decide) hmem
    have hcnt : (rng 1 (N + 1) 1).length ≤ 600 := by
      have := rangeSize_le (a := 1) (b := N + 1) (z := 1) (by decide) (by omega)
      simp [rng]; omega
    have k0 : Keep (hp s4.heap) (hp s4.heap) := Keep.refl _
    refine wpAny_execs_cons (wpAny_If ((Te.cmp (.level (rm2 _) (B.name rfl) (B.name rfl) (by omega) (by omega) (by omega)) (.level (rm2 _) (B.name rfl) (B.name rfl) (by omega) (by omega) (by omega)) (ne_i _ _)) s4 _ B.ok (Keep.refl _) fun s5 ok5 k5 => ?_))
    have B := B.step ok5 k5
    have h3 := h3.mono (k5.hide _)
    have hsz : vs.size = rs.length := by have := h3.length; simpa using this
    have hsnoc : rowsOf pNe cnt b nt cnt' b' nt' ((rng 1 (N + 1) 1).take (i + 1)) = rs ++ if pNe (ilOf cnt b nt ts) (ilOf cnt' b' nt' ts) then [(ts, ilOf cnt b nt ts, ilOf cnt' b' nt' ts)] else [] := by
      rw [List.take_add_one, hr, h2]
      exact rowsOf_snoc _ _ _ _ _ _ _ _ _
    by_cases hc : pNe (ilOf cnt b nt ts) (ilOf cnt' b' nt' ts) = true
    · rw [if_pos (by simpa using hc)]
      refine ex_expr (methodCall_KW ((B.name (x := "a") (d := .ref l) rfl) s5 _ B.ok (Keep.refl _) fun v s6 ok6 k6 a6 => ?_))
      rw [at_ref.mp a6]
      have B := B.step ok6 k6
      obtain ⟨e1, e2, e3, _⟩ := B.own (l, lsO vs m4) (.head _)
      refine list_meth (hp_get e1) F.slot_list_append (by show builtinType _ = _; rw [builtinType_eq_fast]; kernel_rfl) ?_
      refine call_with (kept_blt _) (.cons (.tuple (.cons (B.name rfl) (.cons (.level (rm2 _) (B.name rfl) (B.name rfl) (by omega) (by omega) (by omega)) (.cons (.level (rm2 _) (B.name rfl) (B.name rfl) (by omega) (by omega) (by omega)) .nil)))) .nil) B.ok (Keep.refl _) rfl fun us s7 ok7 k7 a7 => ?_
      obtain ⟨u, rfl, b7⟩ := all_inv1 a7
      have B := B.step ok7 k7
      obtain ⟨e1, e2, e3, _⟩ := B.own (l, lsO vs m4) (.head _)
      refine list_append' ok7 e1 e3 (by omega) fun s8 m8 ok8 k8 e8 => ⟨rfl, ex_nil (ex_nil ?_)⟩
      have kh : Keep (hide (hp s7.heap) [l]) (hide (hp s8.heap) [l]) := fun bb oo ee => hide_of (k8 bb oo ee) (hide_off ee)
      refine ⟨(lsO (vs.push u) m8, rs ++ [(ts, ilOf cnt b nt ts, ilOf cnt' b' nt' ts)]), ⟨vs.push u, m8, rfl, by rw [hsnoc, if_pos hc], ?_, by simp; omega, hi⟩, (B.turn ok8 k8 e8 DataCls.list).to ⟨rfl, rfl, rfl, rfl, trivial⟩⟩
      rw [List.map_append, Array.toList_push]
      exact AtAll.append ((h3.mono ((k6.trans k7).hide _)).mono kh) (all1 ((row_hide (r := (ts, ilOf cnt b nt ts, ilOf cnt' b' nt' ts)) b7 e1).mono kh))
    · rw [if_neg (by simpa using hc)]
      refine ex_nil (ex_nil ⟨(lsO vs m4, rs), ⟨vs, m4, rfl, by rw [hsnoc, if_neg hc, List.append_nil], h3, Nat.le_succ_of_le h4, hi⟩, B.to ⟨rfl, rfl, rfl, rfl, trivial⟩⟩)
  · rintro ⟨o, rs⟩ s4 (⟨vs, m4, h1, h2, h3, _⟩ | h) B
    · simp only at h1 h2 h3
      subst h1
      obtain ⟨e1, e2, e3, _⟩ := B.own (l, lsO vs m4) (.head _)
      have av : At c (hp s4.heap) (.rows rs) (.ref l) := at_list.mpr ⟨l, vs, m4, rfl, e1, h3.mono (hide_keep _ _)⟩
      refine ex_return B (.view (B.name rfl) av) fun v s' r => q v s' r.ok r.keep ?_
      have h := r.at_
      rw [h2, List.length_map, List.take_length] at h
      unfold witOf
      rw [hN]; exact h
    · exact h.elim

set_option maxHeartbeats 4000000 in
theorem not_less_witness_spec {m : Nat} (rm : Rm A (m + 2)) {cnt cnt' : List Int} {b n nt b' n' nt' : Int} {simple simple' : Bool} (hl : cnt.length < 500) (hl' : cnt'.length < 500) (hb : 0 ≤ b ∧ b < 500) (hb' : 0 ≤ b' ∧ b' < 500) :
    Spec c A (.ref 151) [leadD cnt b n nt simple, leadD cnt' b' n' nt' simple'] (.rows (witOf pGe cnt b nt cnt' b' nt')) := fun s vs Q ok ha q => by
  obtain ⟨v1, v2, rfl, a1, a2⟩ := all_inv2 ha
  refine wpAny_call (fn_call (binds := [("self", v1), ("other", v2)]) (bds := [leadD cnt b n nt simple, leadD cnt' b' n' nt' simple']) rfl (by kernel_rfl) rm ok (by kernel_rfl) (all_cons a1 (all1 a2)) (by kernel_rfl) fun L s1 B => ?_)
  have rm2 : ∀ e, Rm (A.deeper e) (m + 1) := rm.deeper
  refine ex_assign B (d := .int (topOf cnt b cnt' b')) (.bin (.blt B.fra.ok nb_max rfl (kept_blt _) (.cons (.longest (rm2 _) (B.name rfl) (by omega)) (.cons (.longest (rm2 _) (B.name rfl) (by omega)) .nil)) (max2 (rm2 _).hh _ _)) .cint (add_i _ _)) (.inl rfl) fun s2 B => ?_
  have htop : 0 ≤ topOf cnt b cnt' b' ∧ topOf cnt b cnt' b' < 600 := by unfold topOf; omega
  generalize hN : topOf cnt b cnt' b' = N at *
  refine ex_own B (evNew_nil B.ok) (.inl rfl) fun l o s3 g' hn B hR hkd => ?_
  subst hR
  have B := B.to (ρ' := [("n", .int N), ("a", .ref l), ("self", leadD cnt b n nt simple), ("other", leadD cnt' b' n' nt' simple')]) ⟨rfl, rfl, rfl, rfl, trivial⟩
  refine ex_forH (fun i (st : Obj × List (Int × Int × Int)) g => ∃ vs n, st.1 = lsO vs n ∧ st.2 = rowsOf pGe cnt b nt cnt' b' nt' ((rng 1 (N + 1) 1).take i) ∧ AtAll c g (st.2.map .row) vs.toList ∧ st.2.length ≤ i ∧ i ≤ (rng 1 (N + 1) 1).length) (fun i st g g' k ⟨vs, n, h1, h2, h3, h4⟩ => ⟨vs, n, h1, h2, h3.monoD k, h4⟩)
    (fun _ => [("n", .int N), ("a", .ref l), ("self", leadD cnt b n nt simple), ("other", leadD cnt' b' n' nt' simple')]) (fun st => [(l, st.1)]) (fun _ _ => False) (fun _ => False) (lsO #[] 0, []) ⟨#[], 0, rfl, by simp [rowsOf], all_nil, by simp, by simp⟩ B (.inl rfl)
    (B.evh_range (.blt B.fra.ok nb_range rfl (kept_type _) (.cons .cint (.cons (.bin (B.name rfl) .cint (add_i _ _)) .nil)) (range2 1 (N + 1))) (fun p hp' => by rw [List.mem_singleton.mp hp']; show Value.type "list" ≠ _; decide)) (fun g v a => iter_up (rm2 _).hh a (by decide) (by omega) (by omega) (by decide) (by decide) (by decide)) ?_ ?_ (fun _ _ _ h => h.elim)
  · rintro i ⟨o, rs⟩ d g' s4 ⟨vs, m4, h1, h2, h3, h4, h5⟩ hd B
    simp only at h1 h2 h3 h4
    subst h1
    obtain ⟨ts, hr, rfl⟩ := map_int_get hd
    have hmem := List.mem_of_getElem? hr
    have hi := (List.getElem?_eq_some_iff.mp hr).1
    obtain ⟨hr1, hr2⟩ := mem_rng (by decide) hmem
    have hcnt : (rng 1 (N + 1) 1).length ≤ 600 := by
      have := rangeSize_le (a := 1) (b := N + 1) (z := 1) (by decide) (by omega)
      simp [rng]; omega
    have k0 : Keep (hp s4.heap) (hp s4.heap) := Keep.refl _
    refine wpAny_execs_cons (wpAny_If ((Te.cmp (.level (rm2 _) (B.name rfl) (B.name rfl) (by omega) (by omega) (by omega)) (.level (rm2 _) (B.name rfl) (B.name rfl) (by omega) (by omega) (by omega)) (ge_i _ _)) s4 _ B.ok (Keep.refl _) fun s5 ok5 k5 => ?_))
    have B := B.step ok5 k5
    have h3 := h3.mono (k5.hide _)
    have hsz : vs.size = rs.length := by have := h3.length; simpa using this
    have hsnoc : rowsOf pGe cnt b nt cnt' b' nt' ((rng 1 (N + 1) 1).take (i + 1)) = rs ++ if pGe (ilOf cnt b nt ts) (ilOf cnt' b' nt' ts) then [(ts, ilOf cnt b nt ts, ilOf cnt' b' nt' ts)] else [] := by
      rw [List.take_add_one, hr, h2]
      exact rowsOf_snoc _ _ _ _ _ _ _ _ _
    by_cases hc : pGe (ilOf cnt b nt ts) (ilOf cnt' b' nt' ts) = true
    · rw [if_pos (by simpa using hc)]
      refine ex_expr (methodCall_KW ((B.name (x := "a") (d := .ref l) rfl) s5 _ B.ok (Keep.refl _) fun v s6 ok6 k6 a6 => ?_))
      rw [at_ref.mp a6]
      have B := B.step ok6 k6
      obtain ⟨e1, e2, e3, _⟩ := B.own (l, lsO vs m4) (.head _)
      refine list_meth (hp_get e1) F.slot_list_append (by show builtinType _ = _; rw [builtinType_eq_fast]; kernel_rfl) ?_
      refine call_with (kept_blt _) (.cons (.tuple (.cons (B.name rfl) (.cons (.level (rm2 _) (B.name rfl) (B.name rfl) (by omega) (by omega) (by omega)) (.cons (.level (rm2 _) (B.name rfl) (B.name rfl) (by omega) (by omega) (by omega)) .nil)))) .nil) B.ok (Keep.refl _) rfl fun us s7 ok7 k7 a7 => ?_
      obtain ⟨u, rfl, b7⟩ := all_inv1 a7
      have B := B.step ok7 k7
      obtain ⟨e1, e2, e3, _⟩ := B.own (l, lsO vs m4) (.head _)
      refine list_append' ok7 e1 e3 (by omega) fun s8 m8 ok8 k8 e8 => ⟨rfl, ex_nil (ex_nil ?_)⟩
      have kh : Keep (hide (hp s7.heap) [l]) (hide (hp s8.heap) [l]) := fun bb oo ee => hide_of (k8 bb oo ee) (hide_off ee)
      refine ⟨(lsO (vs.push u) m8, rs ++ [(ts, ilOf cnt b nt ts, ilOf cnt' b' nt' ts)]), ⟨vs.push u, m8, rfl, by rw [hsnoc, if_pos hc], ?_, by simp; omega, hi⟩, (B.turn ok8 k8 e8 DataCls.list).to ⟨rfl, rfl, rfl, rfl, trivial⟩⟩
      rw [List.map_append, Array.toList_push]
      exact AtAll.append ((h3.mono ((k6.trans k7).hide _)).mono kh) (all1 ((row_hide (r := (ts, ilOf cnt b nt ts, ilOf cnt' b' nt' ts)) b7 e1).mono kh))
    · rw [if_neg (by simpa using hc)]
      refine ex_nil (ex_nil ⟨(lsO vs m4, rs), ⟨vs, m4, rfl, by rw [hsnoc, if_neg hc, List.append_nil], h3, Nat.le_succ_of_le h4, hi⟩, B.to ⟨rfl, rfl, rfl, rfl, trivial⟩⟩)
  · rintro ⟨o, rs⟩ s4 (⟨vs, m4, h1, h2, h3, _⟩ | h) B
    · simp only at h1 h2 h3
      subst h1
      obtain ⟨e1, e2, e3, _⟩ := B.own (l, lsO vs m4) (.head _)
      have av : At c (hp s4.heap) (.rows rs) (.ref l) := at_list.mpr ⟨l, vs, m4, rfl, e1, h3.mono (hide_keep _ _)⟩
      refine ex_return B (.view (B.name rfl) av) fun v s' r => q v s' r.ok r.keep ?_
      have h := r.at_
      rw [h2, List.length_map, List.take_length] at h
      unfold witOf
      rw [hN]; exact h
    · exact h.elim
end
end Mine

/-! # G1 -/
namespace Mine
section
variable {c : Wd} {A : Around} {env : Env} {g g₁ : PH} {pos p : Pos} {ρ ρ' : List (Str × D)} {ow : List (Addr × Obj)} {s s' : Shared} {rest : List Stmt}

/-- a new name into a name space -/
theorem nsSet_new {M : Model} {E : Value → Shared → Prop} {a : Addr} {es : List DictEntry} {ep : Nat} {name : Str} {v : Value} {Q : Unit → Shared → Prop} (ho : s.heap.get? a = some (dictOf es ep)) (hr : es.any (·.refKey) = false)
    (hQ : Q () { s with heap := s.heap.update a (Obj.putName name (PyData.keyHash M.w.params name) (.str name s.toks) v), toks := s.toks + 1 }) : wpAny M A (nsSet a name v) Q E s := by
  intro Γ p _
  simp only [nsSet, strHash, Sem.wp_bind', Sem.wp_cmd_ask, Sem.wp_pure', Sem.wp_cmd_mkText]
  rw [Sem.wp_loadPart_of M Γ _ p { s with toks := s.toks + 1 } (o := dictOf es ep) _ ho]
  have hany : es.toArray.any (·.refKey) = false := by rw [← Array.any_toList]; exact hr
  simp only [aRefKeyMayBeTheName_eq, aRefKeyMayBeTheNameByArray, hany, Bool.and_false, Bool.false_eq_true, if_false, Sem.wp_cmd_updatePart]
  exact ⟨by rw [ho]; rfl, hQ⟩
theorem putName_new {es : List DictEntry} {ep : Nat} {name : Str} {h : Int} {key v : Value} (hf : es.find? (·.key.isStr name) = none) : Obj.putName name h key v (dictOf es ep) = dictOf (es ++ [⟨h, key, v⟩]) (ep + 1) := by
  have : es.toArray.findIdx? (·.key.isStr name) = none := by
    rw [Array.findIdx?_eq_none_iff]
    intro x hx
    have := List.find?_eq_none.mp hf x (by simpa using hx)
    simpa using this
  rw [Obj.putName_eq]
  unfold Obj.putNameByArray
  dsimp only
  rw [this]
  simp

theorem attr_new {C x dx : Addr} {es : List DictEntry} {n : Nat} {name : Str} {v : Value} {Q : Unit → Shared → Prop} (ok : Ok c s) (hx : hp s.heap x = some (instObj C dx)) (hdx : hp s.heap dx = some (dictOf es n)) (hl : 208 < dx)
    (hs : findIn c.K (.ref C) "__setattr__" = some (some (.builtin "object.__setattr__"))) (hpl : plainOver c.K C = true) (ht : takerIn c.K C name = some none) (hh : (clsIn c.K C).any (·.hasDict) = true)
    (hf : es.find? (·.key.isStr name) = none) (hr : es.any (·.refKey) = false) (hlen : es.length ≤ 900)
    (q : ∀ s' h1 t1, Ok c s' → Keep (hide (hp s.heap) [dx]) (hp s'.heap) → hp s'.heap dx = some (dictOf (es ++ [⟨h1, .str name t1, v⟩]) (n + 1)) → Q () s') : Rn c A (setAttr (.ref x) name v) Q s := by
  have I : InstAt s.heap x (instObj C dx) C (some (dictOf es n)) := ⟨hp_get hx, rfl, rfl, hp_get hdx⟩
  refine set_plain ok.inv.k I hs (osa_open (s := { s with toks := s.toks + 1 }) ok.inv.k I hpl ht fun b => ?_)
  obtain ⟨cd, hc, hd'⟩ := any_some hh
  refine wpAny_bind (wpAny_pure (wpAny_bind (wpAny_bind (wpAny_loadPart (hp_get hx) (wpAny_bind ((looks_clsIn ok.inv.k hc) _ _ _ _ (fun _ _ e => e) ?_))))))
  rw [hd']
  refine wpAny_pure (a := some dx) (wpAny_bind (wpAny_pure (wpAny_bind ?_)))
  refine nsSet_new (s := { s with toks := s.toks + 1 }) (hp_get hdx) hr ?_
  have e1 := Heap.get?_update_self (h := s.heap) (a := dx) (Obj.putName name (PyData.keyHash c.w.params name) (.str name (s.toks + 1)) v) (hp_get hdx) (by rw [putName_new hf]; rfl)
  rw [putName_new hf] at e1
  have hsb := Heap.SameBut.update s.heap dx (Obj.putName name (PyData.keyHash c.w.params name) (.str name (s.toks + 1)) v)
  refine wpAny_bind (wpAny_lookBehind e1 (pastItsLine_dict (by simp [sizeLine]; omega)) ?_)
  refine wpAny_pure (q _ _ _ ⟨ok.inv.sameBut hsb hl (hp_get hdx) (by show Value.type "dict" ≠ _; decide), ok.gens, ok.os⟩ (fun b o eb => sameBut_hp hsb (hide_get eb) (by simpa using hide_off eb)) (hp_of e1 (not_tab hl)))
end
end Mine

/-! # G2 -/
namespace Mine
section
variable {c : Wd} {A : Around} {env : Env} {g g₁ : PH} {pos p : Pos} {ρ ρ' : List (Str × D)} {ow : List (Addr × Obj)} {s s' : Shared} {rest : List Stmt}

/-- l[k] = v -/
theorem list_set {l : Addr} {vs : Array Value} {n : Nat} {k : Int} {t : Tok} {y : Value} {Q : Unit → Shared → Prop} (ok : Ok c s) (ho : hp s.heap l = some (lsO vs n)) (hl : 208 < l) (h0 : 0 ≤ k) (hk : k < vs.size) (hsz : vs.size ≤ 10000)
    (q : ∀ s', Ok c s' → Keep (hide (hp s.heap) [l]) (hp s'.heap) → hp s'.heap l = some (lsO (vs.setIfInBounds k.toNat y) n) → Q () s') : Rn c A (setItem (.ref l) (.int k t) y) Q s := by
  have e := hp_get ho
  have hT : s.TypeIs (.ref l) "list" := ⟨_, e, rfl⟩
  unfold setItem
  try with_reducible refine wpAny_holding ?_
  refine wpAny_bind (wpAny_sequenceKey hT (by decide) ?_)
  refine wpAny_bind (wpAny_callSpecial?_slot (name := Str.ofString "__setitem__") hT F.slot_list_setitem (wpAny_call_entry F.slot_list_setitem hT F.entry_list_setitem ?_ (F.args_list_setitem_3 _ _ _)))
  show wpAny _ _ (Builtin.List.listSubscript? (.int k t) >>= _) _ _ s
  refine wpAny_bind (wpAny_listSubscript_int (fitsIndex_of h0 (by omega)) ?_)
  obtain ⟨k, rfl⟩ := Int.eq_ofNat_of_zero_le h0
  have hk : k < vs.size := by omega
  show wpAny _ _ ((seqItemAt l k >>= fun r => pure (r.map (k, ·))) >>= _) _ _ s
  refine wpAny_bind (wpAny_bind (wpAny_seqItemAt e rfl (wpAny_pure ?_)))
  rw [Array.getElem?_eq_getElem hk]
  show wpAny _ _ (setSeqItemAt l k y >>= _) _ _ s
  refine wpAny_bind (wpAny_setSeqItemAt e rfl ?_)
  have e1 := IsL.update e (·.setIfInBounds k y)
  rw [if_pos (by simp)] at e1
  have fin := q { s with heap := s.heap.update l (Obj.mapSeq (·.setIfInBounds k y)) } ⟨ok.inv.sameBut (Heap.SameBut.update ..) hl e (by show Value.type "list" ≠ _; decide), ok.gens, ok.os⟩ (fun b o eb => sameBut_hp (Heap.SameBut.update ..) (hide_get eb) (by simpa using hide_off eb)) (hp_of e1 (not_tab hl))
  first
    | exact wpAny_bind (wpAny_pure (wpAny_pure ⟨.none, rfl, wpAny_pure fin⟩))
    | exact wpAny_pure ⟨.none, rfl, wpAny_pure fin⟩

/-- [0] * k -/
theorem zeros {k : Int} (h0 : 0 ≤ k) (hk : k < 10000) : F2 c A (binaryOp .Mult) (.ints [0]) (.int k) (.ints (List.replicate k.toNat 0)) := fun s v1 v2 Q ok a1 a2 q => by
  obtain ⟨l, vs, n, rfl, e, r⟩ := at_list.mp a1
  obtain ⟨v, hv, b1⟩ := all_inv1 r
  obtain ⟨t, rfl⟩ := at_int.mp b1
  obtain ⟨u, rfl⟩ := at_int.mp a2
  have hvs : vs = #[.int 0 t] := by apply Array.ext'; rw [hv]
  subst hvs
  have el := hp_get e
  refine wpAny_binaryOp_repeat_ref (T := "list") (U := "int") (by decide) ⟨_, el, rfl⟩ (fun s' => typeIs_int s' k u) noFill_list_mul F.fills_int_mul F.slot_int_rmul repeat_list F.slot_int_index.lookup
    (call_meets F.slot_int_rmul (typeIs_int s k u) F.entry_int_rmul (F.args_int_rmul_2 _ _) (int___rmul___int_list k u l _ n)
      ⟨el, rfl, ⟨_, el, rfl⟩, call_meets F.slot_list_mul ⟨_, el, rfl⟩ F.entry_list_mul (F.args_list_mul_2 _ _)
        (AutoListH.list___mul___list_int_3 l _ n k u (by simp [Builtin.List.listFitsIndex]; omega) (by simp; omega) (by simp [Builtin.List.listTooLong, sizeLine]; omega)) ⟨el, ?_⟩⟩)
  refine q _ _ (ok.push _) (keep_push _ _) (at_list.mpr ⟨_, _, _, rfl, ok.new, ?_⟩)
  have fl : ∀ (m : Nat) (acc : Array Value), ((List.replicate m #[Value.int 0 t]).foldl (fun x1 x2 => x1 ++ x2) acc).toList = acc.toList ++ List.replicate m (.int 0 t) := by
    intro m
    induction m with
    | zero => intro acc; simp
    | succ m ih => intro acc; rw [List.replicate_succ, List.foldl_cons, ih, List.replicate_succ]; simp
  have : (#[Value.int 0 t].isEmpty = true) = False := by simp
  simp only [this, if_false]
  rw [fl]
  simp only [List.nil_append]
  have : ∀ (G : PH) (m : Nat), AtAll c G ((List.replicate m (0 : Int)).map .int) (List.replicate m (.int 0 t)) := by
    intro G m
    induction m with
    | zero => exact all_nil
    | succ m ih => exact all_cons (mk_int _ _) ih
  exact this _ _
end
end Mine

/-! # G3 -/
namespace Mine
section
variable {c : Wd} {A : Around} {env : Env} {g g₁ g₂ : PH} {pos p : Pos} {ρ ρ' : List (Str × D)} {ow : List (Addr × Obj)} {s s' : Shared} {rest : List Stmt}

def Atoms (ρ : List (Str × D)) : Prop := ∀ x d, ρ.lookup x = some d → d.atom = true
theorem Atoms.nil : Atoms [] := fun _ _ e => (nomatch e)
theorem Atoms.cons {x : Str} {d : D} (h : d.atom = true) (r : Atoms ρ) : Atoms ((x, d) :: ρ) := fun y d' e => by
  rw [List.lookup_cons] at e
  split at e
  · cases e; exact h
  · exact r y d' e
theorem loc_hide {l : Addr} {o : Obj} {x : Str} {v : Value} (F : Fra env g₁ s.heap) (e : hp s.heap l = some o) (hd : DataCls o.cls) (hc : ∀ w, o.data ≠ .cell w) (h : Loc env (hp s.heap) x v) : Loc env (hide (hp s.heap) [l]) x v := by
  rcases h with ⟨h1, o2, es, ep, g1, g2⟩ | ⟨h1, ca, oc, g1, g2, g3⟩
  · refine .inl ⟨h1, o2, es, ep, hide_of g1 (fun hm => ?_), g2⟩
    obtain ⟨ol, _, _, f1, f2, _⟩ := F.loc
    rw [List.mem_singleton.mp hm] at f1
    rw [hp_get e] at f1; cases f1; exact hd.frame.1 f2
  · refine .inr ⟨h1, ca, oc, g1, hide_of g2 (fun hm => ?_), g3⟩
    rw [List.mem_singleton.mp hm, e] at g2; cases g2; exact hc _ g3
/-- another object is the own one now -/
theorem Bd.swap {l : Addr} {o : Obj} (B : Bd c g₁ env ρ ow s) (hat : Atoms ρ) (e : hp s.heap l = some o) (hg : g₁ l = none) (hl : 208 < l) (hd : DataCls o.cls) (hc : ∀ w, o.data ≠ .cell w) : Bd c g₁ env ρ [(l, o)] s :=
  ⟨B.ok, B.keep, B.fra, fun p hp' => by rw [List.mem_singleton.mp hp']; exact ⟨e, hg, hl, hd⟩, fun x d ex => by
    obtain ⟨v, lo, a⟩ := B.frm x d ex
    exact ⟨v, loc_hide B.fra e hd hc (lo.mono (hide_keep _ _)), a.atom _ (hat x d ex)⟩⟩
theorem Bd.drop (B : Bd c g₁ env ρ ow s) : Bd c g₁ env ρ [] s := ⟨B.ok, B.keep, B.fra, fun _ h => (nomatch h), by rw [List.map_nil, hide_nil]; exact B.frm.mono (hide_keep _ _)⟩

theorem ex_own' {x : Str} {px : Pos} {e : Expr} {ns : List Int} {Q : Flow → Shared → Prop} (B : Bd c g₁ env ρ ow s) (hat : Atoms ρ) (ev : EvNew c A env s e (fun o _ => IsInts o ns)) (hx : Stored env x) (q : ∀ l o s', Bd c g₁ env ((x, .ref l) :: ρ) [(l, o)] s' → IsInts o ns → Rn c A (execs rest env) Q s')
    (hs : swapsWith e (some (.Name x px)) pos.line env = pure false := by rfl) : Rn c A (execs (.Assign [.Name x px] e pos :: rest) env) Q s := by
  refine wpAny_execs_cons (wpAny_Assign_Name (ev _ fun l o s1 ok1 k1 hl hbig e1 hd hR => ?_) hs)
  obtain ⟨vs, n, rfl, hI⟩ := hR
  have B2 := (B.step ok1 k1).swap hat e1 (B.keep.none hl) hbig hd (fun w h => nomatch h)
  exact B2.store (d := .ref l) (at_ref.mpr rfl) hx fun s2 B3 => q l _ s2 B3 ⟨vs, n, rfl, hI⟩
theorem evNew_add {e1 e2 : Expr} {ns ms : List Int} (ok : Ok c s) (h1 : Ev c A env (hp s.heap) e1 (.ints ns)) (h2 : Ev c A env (hp s.heap) e2 (.ints ms)) (hl : ns.length + ms.length < 10000) : EvNew c A env s (.BinOp e1 .Add e2 pos) (fun o _ => IsInts o (ns ++ ms)) := fun Q q => by
  refine wpAny_BinOp (h1 s _ ok (Keep.refl _) fun v1 s1 ok1 k1 a1 => h2 s1 _ ok1 k1 fun v2 s2 ok2 k2 a2 => ?_)
  obtain ⟨a, vs, n, rfl, e, r⟩ := at_list.mp (a1.mono k2)
  obtain ⟨b, ws, m, rfl, e', r'⟩ := at_list.mp a2
  have hl1 : vs.size = ns.length := by have := r.length; simpa using this
  have hl2 : ws.size = ms.length := by have := r'.length; simpa using this
  refine PySem.P.add_list (hp_get e) (hp_get e') (q _ _ _ (ok2.push _) ((k1.trans k2).trans (keep_push _ _)) ((k1.trans k2).none (hp_ge (Nat.le_refl _))) ok2.inv.big ok2.new DataCls.list ⟨_, _, rfl, ?_⟩) (by simp [sizeLine]; omega)
  rw [Array.toList_append]
  have := r.append r'
  rw [← List.map_append] at this
  exact this.ints

/-! class attributes -/
theorem ws_get {name : Str} {v : Value} {Q : Value → Shared → Prop} (ok : Ok c s) (e : findCls c.K (.ref cWs) (.type "type") name = some (.val v)) (hh : handedIn v = true) (q : Q v { s with toks := s.toks + 1 }) : Rn c A (getAttr (.ref cWs) name true) Q s :=
  cls_value ok.inv.k (mc := .type "type") (by kernel_rfl) e hh q

/-! ## what Whitespace reckons -/
structure WS where
  cnt : List Int
  b : Int
  n : Int
  nt : Int
def bump (cnt : List Int) (b : Int) : List Int :=
  let cnt' := if (cnt.length : Int) ≤ b then cnt ++ List.replicate (b - cnt.length + 1).toNat 0 else cnt
  cnt'.set b.toNat (cnt'.getD b.toNat 0 + 1)
def ini : List Nat → WS → WS
  | [], st => st
  | ch :: r, st => if ch = 32 then ini r { st with b := st.b + 1, n := st.n + 1 } else if ch = 9 then ini r ⟨bump st.cnt st.b, 0, st.n + 1, st.nt + 1⟩ else st
theorem bump_length {cnt : List Int} {b : Int} (h : 0 ≤ b) : ((bump cnt b).length : Int) = max (cnt.length : Int) (b + 1) := by
  unfold bump
  simp only [List.length_set]
  split
  · simp; omega
  · omega
end
end Mine

/-! # G4 -/
namespace Mine
section
variable {c : Wd} {A : Around} {env : Env} {g g₁ g₂ : PH} {pos p : Pos} {ρ ρ' : List (Str × D)} {ow : List (Addr × Obj)} {s s' : Shared} {rest : List Stmt}

/-- self.name = e, a new name -/
theorem ex_setattr {C x dx : Addr} {es : List DictEntry} {n : Nat} {y name : Str} {py pa : Pos} {e : Expr} {d : D} {Q : Flow → Shared → Prop} (B : Bd c g₁ env ρ [(dx, dictOf es n)] s) (hy : ρ.lookup y = some (.ref x)) (hgx : g₁ x = some (instObj C dx)) (ev : EvH c A env [dx] s e d)
    (hs : findIn c.K (.ref C) "__setattr__" = some (some (.builtin "object.__setattr__"))) (hpl : plainOver c.K C = true) (ht : takerIn c.K C name = some none) (hh : (clsIn c.K C).any (·.hasDict) = true)
    (hf : es.find? (·.key.isStr name) = none) (hr : es.any (·.refKey) = false) (hlen : es.length ≤ 900)
    (q : ∀ s' v h1 t1, Bd c g₁ env ρ [(dx, dictOf (es ++ [⟨h1, .str name t1, v⟩]) (n + 1))] s' → At c (hide (hp s'.heap) [dx]) d v → Keep (hide (hp s.heap) [dx]) (hide (hp s'.heap) [dx]) → Rn c A (execs rest env) Q s')
    (hsw : swapsWith e (some (.Attribute (.Name y py) name pa)) pos.line env = pure false := by rfl) (hd : (y == ("__debug__" : Str)) = false := by decide) :
    Rn c A (execs (.Assign [.Attribute (.Name y py) name pa] e pos :: rest) env) Q s := by
  refine wpAny_execs_cons (plainObj_wpAny_Assign_Attribute (ev _ fun v s1 ok1 k1 a1 => ?_) hsw)
  have B1 := B.step ok1 k1
  refine (B1.name (d := .ref x) hy hd) s1 _ ok1 (Keep.refl _) fun v2 s2 ok2 k2 a2 => ?_
  rw [at_ref.mp a2]
  have B2 := B1.step ok2 k2
  obtain ⟨e1, e2, e3, _⟩ := B2.own (dx, dictOf es n) (.head _)
  refine attr_new ok2 (B2.keep _ _ hgx) e1 e3 hs hpl ht hh hf hr hlen fun s3 h1 t1 ok3 k3 e4 => ?_
  have kh : Keep (hide (hp s2.heap) [dx]) (hide (hp s3.heap) [dx]) := fun b o eb => hide_of (k3 b o eb) (hide_off eb)
  exact q s3 v h1 t1 (B2.turn ok3 k3 e4 DataCls.dict) ((a1.mono (k2.hide _)).mono kh) (((k1.trans k2).hide _).trans kh)

/-- x, y = (e1, e2), the stores exchanged -/
theorem ex_swap2 {x y : Str} {px py tp : Pos} {kk : Nat} {e : Expr} {d1 d2 : D} {Q : Flow → Shared → Prop} (hh : A.handled = none) (B : Bd c g₁ env ρ ow s) (ev : Ev c A env (hp s.heap) e (.tup [d1, d2])) (h1 : d1.atom = true) (h2 : d2.atom = true) (hx : Stored env x) (hy : Stored env y)
    (q : ∀ s', Bd c g₁ env ((x, d1) :: (y, d2) :: ρ) ow s' → Rn c A (execs rest env) Q s')
    (hs : swapsWithSole [.Tuple [.Name x px, .Name y py] kk tp] e pos.line env = pure false := by rfl) (hw : swappedStores [.Tuple [.Name x px, .Name y py] kk tp] e env = pure (some [x, y]) := by rfl) :
    Rn c A (execs (.Assign [.Tuple [.Name x px, .Name y py] kk tp] e pos :: rest) env) Q s := by
  refine wpAny_execs_cons (Assign_Tuple_swapped (ev s _ B.ok (Keep.refl _) fun v s1 ok1 k1 a1 => ?_) hs hw)
  obtain ⟨a, vs, n, rfl, e1, r⟩ := at_tup.mp a1
  obtain ⟨v1, v2, hv, b1, b2⟩ := all_inv2 r
  have hsz : vs.size = 2 := by rw [← Array.length_toList, hv]; rfl
  have hu : ∀ {Q' : List Value → Shared → Prop}, (∀ h', Heap.ExtBut s1.heap.objs.size s1.heap h' → Q' vs.toList { s1 with heap := h' }) → wpAny c.M A (unpackItems (.ref a) [x, y].length none) Q' (fun _ _ => False) s1 := by
    intro Q' hq
    have := unpackItems_tuple (prog := c.prog) (w := c.w) (A := A) (E := fun _ _ => False) (s := s1) (t := a) (items := vs) (Q := Q') hh ⟨_, hp_get e1, rfl, n, rfl⟩ hq
    rw [hsz] at this
    exact this
  refine hu fun h' hx' => ?_
  have hk : ∀ b o, s1.heap.get? b = some o → h'.get? b = some o := fun b o eb => hx' b o (Nat.ne_of_lt (Heap.lt_size eb)) eb
  have ok2 : Ok c { s1 with heap := h' } := ok1.all (tk := s1.toks) hk
  have B2 := (B.step ok1 k1).step ok2 (keep_all hk)
  rw [hv]
  show wpAny c.M A (do holding [v1] (bindName env y v2); holding [] (bindName env x v1); pure ()) _ _ _
  refine wpAny_bind (wpAny_holding (wpAny_bindName (B2.store (d := d2) (b2.atom _ h2) hy fun s3 B3 => ?_)))
  refine wpAny_bind (wpAny_holding (wpAny_bindName (B3.store (d := d1) (b1.atom _ h1) hx fun s4 B4 => ?_)))
  exact wpAny_pure (q s4 B4)
/-- x = y = z = e -/
theorem ex_three {x y z : Str} {px py pz : Pos} {e : Expr} {d : D} {Q : Flow → Shared → Prop} (B : Bd c g₁ env ρ ow s) (ev : Ev c A env (hp s.heap) e d) (hd : d.atom = true) (hx : Stored env x) (hy : Stored env y) (hz : Stored env z)
    (q : ∀ s', Bd c g₁ env ((z, d) :: (y, d) :: (x, d) :: ρ) ow s' → Rn c A (execs rest env) Q s')
    (he : (assignEach [.Name x px, .Name y py, .Name z pz] env).map (·.2) = [assign (.Name x px) env, assign (.Name y py) env, assign (.Name z pz) env] := by rfl) (hw : swappedStores [.Name x px, .Name y py, .Name z pz] e env = pure none := by rfl) :
    Rn c A (execs (.Assign [.Name x px, .Name y py, .Name z pz] e pos :: rest) env) Q s :=
  wpAny_execs_cons (wpAny_Assign_three (ev s _ B.ok (Keep.refl _) fun v s1 ok1 k1 a1 => wpAny_assign_Name ((B.step ok1 k1).store (a1.atom _ hd) hx fun s2 B2 => wpAny_assign_Name (B2.store (a1.atom _ hd) hy fun s3 B3 => wpAny_assign_Name (B3.store (a1.atom _ hd) hz fun s4 B4 => q s4 B4)))) he hw)

theorem Ev.wsattr {name : Str} {v : Value} {d : D} {pa pb : Pos} (he : EnvOk env) (e : findCls c.K (.ref cWs) (.type "type") name = some (.val v)) (hh : handedIn v = true) (hv : ∀ g, At c g d v) (hx : env.kindOf "Whitespace" = some .globalImplicit := by rfl)
    (hev : eval (.Attribute (.Name "Whitespace" pa) name pb) env = (do
      let o ← eval (.Name "Whitespace" pa) env
      standAt pb.atName
      let r ← holding [o] (getAttr o name true)
      letTemporaryGo (.Name "Whitespace" pa) o r
      pure r) := by with_unfolding_all rfl) : Ev c A env g (.Attribute (.Name "Whitespace" pa) name pb) d := fun s _ ok _ q =>
  Attribute_any_ (glob_load he ok (f := .ref cWs) (by kernel_rfl) (ws_get ok e hh (q _ _ (ok.tok _) (Keep.refl _) (hv _))) hx) hev
end
end Mine

/-! # G5 -/
namespace Mine
section
variable {c : Wd} {A : Around} {env : Env} {g g₁ g₂ : PH} {pos p : Pos} {ρ ρ' : List (Str × D)} {ow : List (Addr × Obj)} {s s' : Shared} {rest : List Stmt}

theorem norm_hide {ns : List Int} {b : Int} {v : Value} {l : Addr} {o : Obj} (a : At c g (.tup [.tup (ns.map .int), .int b]) v) (e : g l = some o) (ho : o.cls ≠ .type "tuple") : At c (hide g [l]) (.tup [.tup (ns.map .int), .int b]) v := by
  have nt : ∀ t ws m, g t = some (tpO ws m) → t ∉ [l] := fun t ws m e1 hm => by
    rw [List.mem_singleton.mp hm, e] at e1
    exact ho (by rw [Option.some.inj e1])
  obtain ⟨t, ws, m, rfl, e1, r1⟩ := at_tup.mp a
  refine at_tup.mpr ⟨t, ws, m, rfl, hide_of e1 (nt _ _ _ e1), ?_⟩
  obtain ⟨w1, w2, hw, b1, b2⟩ := all_inv2 r1
  rw [hw]
  obtain ⟨t', ws', m', rfl, e2, r2⟩ := at_tup.mp b1
  refine all_cons (at_tup.mpr ⟨t', ws', m', rfl, hide_of e2 (nt _ _ _ e2), ?_⟩) (all1 (b2.atom _ rfl))
  exact IntsAre.atAll r2.ints
theorem evh_norm {e : Expr} {ns : List Int} {b : Int} {l : Addr} {o : Obj} (B : Bd c g₁ env ρ ow s) (hl : hp s.heap l = some o) (ho : o.cls ≠ .type "tuple") (ev : Ev c A env (hp s.heap) e (.tup [.tup (ns.map .int), .int b])) : EvH c A env [l] s e (.tup [.tup (ns.map .int), .int b]) := fun _ q => ev s _ B.ok (Keep.refl _) fun v s1 ok1 k1 a1 => q v s1 ok1 k1 (norm_hide a1 (k1 _ _ hl) ho)
theorem ws_set : findIn c.K (.ref cWs) "__setattr__" = some (some (.builtin "object.__setattr__")) := by kernel_rfl
theorem ws_over : plainOver c.K cWs = true := by kernel_rfl
theorem ws_dict : (clsIn c.K cWs).any (·.hasDict) = true := by kernel_rfl
theorem raw_find {h : Int} {t : Tok} {v : Value} {k : Nat} : findObj c.K cWs (some (dictOf [⟨h, .str "raw" t, v⟩] k)) "raw" = some (.value v) := by kernel_rfl
theorem tuple_l (ns : List Int) (h : ns.length < 1000) : Spec c A (.type "tuple") [.ints ns] (.tup (ns.map .int)) := fun s vs Q ok ha q => by
  obtain ⟨v, rfl, a⟩ := all_inv1 ha
  obtain ⟨l, ws, n, rfl, e, r⟩ := at_list.mp a
  have hsz : ws.size = ns.length := by have := r.length; simpa using this
  refine call_tuple_list ⟨_, hp_get e, rfl, n, rfl⟩ (fun h' hk => ?_) (by rw [hsz]; simp [sizeLine]; omega)
  have ok2 : Ok c { s with heap := h' } := ok.all (tk := s.toks) hk
  exact q _ _ (ok2.push _) ((keep_all hk).trans (keep_push _ _)) (at_tup.mpr ⟨_, _, _, rfl, ok2.new, r.mono ((keep_all hk).trans (keep_push _ _))⟩)
theorem nb_tuple : nsIn c.K mainGlobals "tuple" = some none := by kernel_rfl

theorem evh_raw {x dx : Addr} {h1 : Int} {t1 tr : Tok} {text : List Nat} {pa pb : Pos} (B : Bd c g₁ env ρ ow s) (hself : ρ.lookup ("self" : Str) = some (D.ref x)) (hx : hp s.heap x = some (instObj cWs dx)) (hdx : hp s.heap dx = some (dictOf [⟨h1, .str "raw" t1, .str (S text) tr⟩] 1))
    (he : eval (.Attribute (.Name "self" pa) "raw" pb) env = (do
      let o ← eval (.Name "self" pa) env
      standAt pb.atName
      let r ← holding [o] (getAttr o "raw" true)
      letTemporaryGo (.Name "self" pa) o r
      pure r) := by with_unfolding_all rfl) : EvH c A env (ow.map (·.1)) s (.Attribute (.Name "self" pa) "raw" pb) (.str (S text)) := fun Q q =>
  Attribute_any_ ((B.name (d := .ref x) hself) s _ B.ok (Keep.refl _) fun v s1 ok1 k1 a1 => by
    rw [at_ref.mp a1]
    exact get_value ok1.inv.k ⟨hp_get (k1 _ _ hx), rfl, rfl, hp_get (k1 _ _ hdx)⟩ ws_ga raw_find rfl (q _ _ (ok1.tok _) k1 (mk_str _ _))) he
/-- count[k] = z -/
theorem ex_setitem {l : Addr} {vs : Array Value} {n : Nat} {y : Str} {py pa : Pos} {e i : Expr} {k z : Int} {Q : Flow → Shared → Prop} (B : Bd c g₁ env ρ [(l, lsO vs n)] s) (hy : ρ.lookup y = some (.ref l)) (ev : Ev c A env (hp s.heap) e (.int z)) (hi : Ev c A env (hp s.heap) i (.int k)) (h0 : 0 ≤ k) (hk : k < vs.size) (hsz : vs.size ≤ 10000)
    (q : ∀ s' t, Bd c g₁ env ρ [(l, lsO (vs.setIfInBounds k.toNat (.int z t)) n)] s' → Rn c A (execs rest env) Q s')
    (hsw : swapsWith e (some (.Subscript (.Name y py) i pa)) pos.line env = pure false := by rfl) (hd : (y == ("__debug__" : Str)) = false := by decide) :
    Rn c A (execs (.Assign [.Subscript (.Name y py) i pa] e pos :: rest) env) Q s := by
  refine wpAny_execs_cons (wpAny_Assign_Subscript (ev s _ B.ok (Keep.refl _) fun v s1 ok1 k1 a1 => ?_) hsw)
  obtain ⟨t, rfl⟩ := at_int.mp a1
  have B1 := B.step ok1 k1
  refine (B1.name (d := .ref l) hy hd) s1 _ ok1 (Keep.refl _) fun v2 s2 ok2 k2 a2 => ?_
  rw [at_ref.mp a2]
  refine hi s2 _ ok2 (k1.trans k2) fun v3 s3 ok3 k3 a3 => ?_
  obtain ⟨u, rfl⟩ := at_int.mp a3
  have B3 := B1.step ok3 (k2.trans k3)
  obtain ⟨e1, e2, e3, _⟩ := B3.own (l, lsO vs n) (.head _)
  exact list_set ok3 e1 e3 h0 hk hsz fun s4 ok4 k4 e4 => q s4 t (B3.turn ok4 k4 e4 DataCls.list)
theorem ints_set : ∀ {ns : List Int} {vs : List Value} {k : Nat} {z : Int} {t : Tok}, IntsAre vs ns → IntsAre (vs.set k (.int z t)) (ns.set k z)
  | _, _, _, _, _, .nil => by simp; exact .nil
  | _, _, 0, _, _, .cons n t h => by simp; exact .cons _ _ h
  | _, _, k + 1, _, _, .cons n t h => by simp; exact .cons _ _ (ints_set h)

theorem ex_ifj (P : Env → Shared → Prop) {test : Expr} {body orelse : List Stmt} {b : Bool} {Q : Flow → Shared → Prop} (B : Bd c g₁ env ρ ow s) (t : Te c A env (hp s.heap) test b)
    (q : ∀ s', Bd c g₁ env ρ ow s' → Rn c A (execs (if b then body else orelse) env) (fun f s' => f = .next ∧ P env s') s') (r : ∀ s', P env s' → Rn c A (execs rest env) Q s') : Rn c A (execs (.If test body orelse pos :: rest) env) Q s :=
  ex_if B t fun s1 B1 => wpAny_mono (q s1 B1) (fun f s2 h => by obtain ⟨rfl, h⟩ := h; exact r s2 h) fun _ _ x => x.elim
structure InSt where
  l : Addr
  o : Obj
  w : WS
structure InOk (text : List Nat) (i : Nat) (st : InSt) : Prop where
  isI : IsInts st.o st.w.cnt
  b0 : 0 ≤ st.w.b
  bi : st.w.b ≤ i
  ci : st.w.cnt.length ≤ i
def w0 : WS := ⟨[], 0, 0, 0⟩

set_option maxHeartbeats 8000000 in
theorem init_code {m : Nat} (rm : Rm A (m + 1)) {text : List Nat} {x dx : Addr} {t : Tok} {R : Result → Shared → Prop} (ok : Ok c s) (hx : hp s.heap x = some (instObj cWs dx)) (hdx : hp s.heap dx = some (dictOf [] 0)) (hbx : 208 < x) (hbd : 208 < dx) (hlen : text.length < 500)
    (q : ∀ s', Ok c s' → Keep (hide (hp s.heap) [dx]) (hp s'.heap) → At c (hp s'.heap) (leadD (ini text w0).cnt (ini text w0).b (ini text w0).n (ini text w0).nt (decide ((ini text w0).cnt.length ≤ 1))) (.ref x) → R (.ok (.ret .none)) s') :
    codeAny c.M A (.call (.ref 109) ⟨[.ref x, .str (S text) t], []⟩) R s := by
  have hne : x ≠ dx := fun q => by
    rw [q, hdx] at hx
    have := congrArg (fun o : Option Obj => o.map Obj.cls) hx
    simp at this
  refine fn_call (binds := [("self", .ref x), ("ws", .str (S text) t)]) (bds := [.ref x, .str (S text)]) rfl (by kernel_rfl) rm ok (by kernel_rfl) (all_cons (at_ref.mpr rfl) (all1 (mk_str _ _))) (by kernel_rfl) fun L s1 B => ?_
  have hgx : hide (hp s.heap) [dx] x = some (instObj cWs dx) := hide_of hx (by simpa using hne)
  have B := (B.weak (hide_keep _ [dx])).swap (ρ := [("ws", .str (S text)), ("self", .ref x)]) (.cons rfl (.cons rfl .nil)) (B.keep _ _ hdx) (by simp [hide]) hbd DataCls.dict (fun w h => nomatch h)
  refine ex_setattr B rfl hgx (B.evh (B.name rfl)) ws_set ws_over (by kernel_rfl) ws_dict rfl rfl (by decide) fun s2 v1 h1 t1 B a1 _ => ?_
  obtain ⟨tr, rfl⟩ := at_str.mp a1
  refine ex_swap2 (hhd rm.hh) B (.tuple (.cons (.wsattr (v := .str " " 322) (d := .str (S [32])) B.fra.ok (by kernel_rfl) rfl (fun g => by rw [← S_sp]; exact mk_str _ _)) (.cons (.wsattr (v := .str "\t" 323) (d := .str (S [9])) B.fra.ok (by kernel_rfl) rfl (fun g => by rw [← S_tab]; exact mk_str _ _)) .nil))) rfl rfl (.inl rfl) (.inl rfl) fun s3 B => ?_
  obtain ⟨ed, _, _, _⟩ := B.own _ (.head _)
  -- the fields' dict lies in the base while the signs are read
  have hG : base _ [] s3.heap dx = some (dictOf [⟨h1, .str "raw" t1, .str (S text) tr⟩] 1) := base_of ed (fun q => by
    obtain ⟨ol, _, _, f1, f2, _⟩ := B.fra.loc
    rw [← q, hp_get ed] at f1; cases f1; exact absurd f2 (by show ¬ (Value.type "dict" = Value.type "frame"); decide)) (fun y h2 h3 => by simp at h3) (by simp)
  have kG := B.drop.into
  have B' := B.drop.rebase
  generalize base _ [] s3.heap = G at hG kG B'
  have hGx := kG _ _ hgx
  clear B
  refine ex_own B' (evNew_nil B'.ok) (.inl rfl) fun l o s4 g' hn B hR _ => ?_
  subst hR
  refine ex_three B .cint rfl (.inl rfl) (.inl rfl) (.inl rfl) fun s5 B => ?_
  have B := B.to (ρ' := [("count", .ref l), ("b", .int 0), ("n", .int 0), ("nt", .int 0), ("S", .str (S [32])), ("T", .str (S [9])), ("self", .ref x)]) ⟨rfl, rfl, rfl, rfl, rfl, rfl, rfl, trivial⟩
  refine ex_for (fun i (st : InSt) => InOk text i st ∧ ini (text.drop i) st.w = ini text w0) (fun st => [("count", .ref st.l), ("b", .int st.w.b), ("n", .int st.w.n), ("nt", .int st.w.nt), ("S", .str (S [32])), ("T", .str (S [9])), ("self", .ref x)]) (fun st => [(st.l, st.o)])
    (fun st => InOk text text.length st ∧ st.w = ini text w0) (fun _ => False) ⟨l, lsO #[] 0, w0⟩ ⟨⟨⟨#[], 0, rfl, .nil⟩, Int.le_refl _, Int.le_refl _, Nat.le_refl _⟩, rfl⟩ B (.inl rfl) (evh_raw B rfl (B.keep _ _ hGx) (B.keep _ _ hG)) (fun g v a => iter_str (hhd rm.hh) a) ?_ ?_ (fun _ _ _ h => h.elim)
  · rintro i ⟨l, o, ⟨cnt, b, n, nt⟩⟩ d g' s6 ⟨⟨hI, hb0, hbi, hci⟩, hini⟩ hd B
    simp only at hI hb0 hbi hci hini
    obtain ⟨ch, hch, rfl⟩ : ∃ ch, text[i]? = some ch ∧ d = .str (S [ch]) := by
      rw [List.getElem?_map] at hd
      cases hq : text[i]? with
      | none => rw [hq] at hd; cases hd
      | some r => rw [hq] at hd; cases hd; exact ⟨r, rfl, rfl⟩
    obtain ⟨hi, hce⟩ := List.getElem?_eq_some_iff.mp hch
    have hdrop : text.drop i = ch :: text.drop (i + 1) := by rw [← hce]; exact List.drop_eq_getElem_cons hi
    rw [hdrop] at hini
    refine ex_if B (.cmp (B.name rfl) (B.name rfl) (eq_s [ch] [32])) fun s7 B => ?_
    by_cases h32 : ch = 32
    · rw [decide_eq_true (by rw [h32])]
      refine ex_assign B (.bin (B.name rfl) .cint (add_i _ _)) (.inl rfl) fun s8 B => ?_
      refine ex_assign B (.bin (B.name rfl) .cint (add_i _ _)) (.inl rfl) fun s9 B => ?_
      refine ex_nil (ex_nil ⟨⟨l, o, ⟨cnt, b + 1, n + 1, nt⟩⟩, ⟨⟨hI, by simp; omega, by simp; omega, by simp; omega⟩, ?_⟩, B.to ⟨rfl, rfl, rfl, rfl, rfl, rfl, rfl, trivial⟩⟩)
      rw [← hini]; simp only [ini, if_pos h32]
    rw [decide_eq_false (by simpa using h32)]
    refine ex_if B (.cmp (B.name rfl) (B.name rfl) (eq_s [ch] [9])) fun s8 B => ?_
    by_cases h9 : ch = 9
    · rw [decide_eq_true (by rw [h9])]
      refine ex_assign B (.bin (B.name rfl) .cint (add_i _ _)) (.inl rfl) fun s9 B => ?_
      refine ex_assign B (.bin (B.name rfl) .cint (add_i _ _)) (.inl rfl) fun s10 B => ?_
      obtain ⟨vs, m9, rfl, hI'⟩ := hI
      have hsz : vs.size = cnt.length := by have := hI'.length; simpa using this
      obtain ⟨e1, e2, e3, _⟩ := B.own (l, lsO vs m9) (.head _)
      have av : At c (hp s10.heap) (.ints cnt) (.ref l) := at_list.mpr ⟨l, vs, m9, rfl, e1, IntsAre.atAll hI'⟩
      refine ex_ifj (fun env s => ∃ l o cnt', Bd c g' env [("count", .ref l), ("b", .int b), ("n", .int (n + 1)), ("nt", .int (nt + 1)), ("S", .str (S [32])), ("T", .str (S [9])), ("self", .ref x)] [(l, o)] s ∧ IsInts o cnt' ∧ b < cnt'.length ∧ cnt'.length ≤ i + 1 ∧ cnt'.set b.toNat (cnt'.getD b.toNat 0 + 1) = bump cnt b) B (.cmp (B.name rfl) (.len B.fra.ok (.view (B.name rfl) av) (by simp; omega)) (ge_i _ _)) (fun s11 B => ?_) ?_
      · rw [List.length_map]
        obtain ⟨e1, e2, e3, _⟩ := B.own (l, lsO vs m9) (.head _)
        have av : At c (hp s11.heap) (.ints cnt) (.ref l) := at_list.mpr ⟨l, vs, m9, rfl, e1, IntsAre.atAll hI'⟩
        by_cases hge : (cnt.length : Int) ≤ b
        · rw [decide_eq_true hge]
          have B := B.to (ρ' := [("count", .ref l), ("b", .int b), ("n", .int (n + 1)), ("nt", .int (nt + 1)), ("S", .str (S [32])), ("T", .str (S [9])), ("self", .ref x)]) ⟨rfl, rfl, rfl, rfl, rfl, rfl, rfl, trivial⟩
          refine ex_own' B (.cons rfl (.cons rfl (.cons rfl (.cons rfl (.cons rfl (.cons rfl (.cons rfl .nil))))))) (evNew_add B.ok (.view (B.name rfl) av) (.bin (.list (.cons .cint .nil)) (.bin (.bin (B.name rfl) (.eqd (.len B.fra.ok (.view (B.name rfl) av) (by simp; omega)) (by rw [List.length_map])) (sub_i _ _)) .cint (add_i _ _)) (zeros (by omega) (by omega))) (by simp; omega)) (.inl rfl) fun l' o' s12 B hI' => ?_
          refine ex_nil ⟨rfl, l', o', _, B.to ⟨rfl, rfl, rfl, rfl, rfl, rfl, rfl, trivial⟩, hI', by simp; omega, by simp; omega, ?_⟩
          unfold bump; simp only [if_pos hge]
        · rw [decide_eq_false hge]
          refine ex_nil ⟨rfl, l, _, cnt, B.to ⟨rfl, rfl, rfl, rfl, rfl, rfl, rfl, trivial⟩, ⟨vs, m9, rfl, hI'⟩, by omega, by omega, ?_⟩
          unfold bump; simp only [if_neg hge]
      · rintro s ⟨l, o, cnt', B, hI, hb', hc', hbump⟩
        obtain ⟨vs, m9, rfl, hI⟩ := hI
        have hsz : vs.size = cnt'.length := by have := hI.length; simpa using this
        obtain ⟨e1, e2, e3, _⟩ := B.own (l, lsO vs m9) (.head _)
        have av : At c (hp s.heap) (.ints cnt') (.ref l) := at_list.mpr ⟨l, vs, m9, rfl, e1, IntsAre.atAll hI⟩
        have hbt : b.toNat < cnt'.length := by omega
        refine ex_setitem B rfl (.bin (.item_list (.view (B.name rfl) av) (B.name rfl) hb0 (d := .int (cnt'.getD b.toNat 0)) (by rw [List.getElem?_map, List.getD_eq_getElem?_getD, List.getElem?_eq_getElem hbt]; rfl) (by omega)) .cint (add_i _ _)) (B.name rfl) hb0 (by omega) (by omega) fun s11 t11 B => ?_
        refine ex_assign B .cint (.inl rfl) fun s12 B => ?_
        refine ex_nil (ex_nil (ex_nil ⟨⟨l, _, ⟨bump cnt b, 0, n + 1, nt + 1⟩⟩, ⟨⟨⟨_, _, rfl, ?_⟩, by simp, by simp; omega, ?_⟩, ?_⟩, B.to ⟨rfl, rfl, rfl, rfl, rfl, rfl, rfl, trivial⟩⟩))
        · simp only
          rw [← hbump, Array.toList_setIfInBounds]
          exact ints_set hI
        · simp only
          rw [← hbump, List.length_set]; exact hc'
        · rw [← hini]; simp only [ini, if_neg h32, if_pos h9]
    · rw [decide_eq_false (by simpa using h9)]
      refine wpAny_execs_cons (wpAny_Break ?_)
      refine ⟨⟨l, o, ⟨cnt, b, n, nt⟩⟩, ⟨⟨hI, hb0, by simp only; omega, by simp only; omega⟩, ?_⟩, B.to ⟨rfl, rfl, rfl, rfl, rfl, rfl, rfl, trivial⟩⟩
      rw [← hini]; simp only [ini, if_neg h32, if_neg h9]
  · rintro ⟨l, o, w⟩ s6 h6 B
    have h6 : InOk text text.length ⟨l, o, w⟩ ∧ w = ini text w0 := by
      rcases h6 with ⟨h, e⟩ | h
      · rw [List.length_map] at h e
        rw [List.drop_length] at e
        exact ⟨h, e⟩
      · exact h
    obtain ⟨⟨hI, hb0, hbi, hci⟩, rfl⟩ := h6
    generalize hw : ini text w0 = w at hI hb0 hbi hci B q
    obtain ⟨cnt, b, n, nt⟩ := w
    simp only at hI hb0 hbi hci B q
    obtain ⟨vs, m9, rfl, hI⟩ := hI
    have hsz : vs.size = cnt.length := by have := hI.length; simpa using this
    obtain ⟨el, _, hl, _⟩ := B.own (l, lsO vs m9) (.head _)
    have edx := B.keep _ _ hG
    have hlx : l ≠ dx := fun q => by
      simp only at el
      rw [q, edx] at el
      have := congrArg (fun o : Option Obj => o.map Obj.cls) el
      simp at this
    have B := (B.drop.weak kG).swap (.cons rfl (.cons rfl (.cons rfl (.cons rfl (.cons rfl (.cons rfl (.cons rfl .nil))))))) edx (by simp [hide]) hbd DataCls.dict (fun w h => nomatch h)
    have hG2 : base _ [(dx, dictOf [⟨h1, .str "raw" t1, .str (S text) tr⟩] 1)] s6.heap l = some (lsO vs m9) := base_of el (fun q => by
      obtain ⟨ol, _, _, f1, f2, _⟩ := B.fra.loc
      rw [← q, hp_get el] at f1; cases f1; exact absurd f2 (by show ¬ (Value.type "list" = Value.type "frame"); decide)) (fun y h2 h3 => by simp at h3) (by simpa using hlx)
    have kG2 := B.into
    have B := B.rebase
    generalize base _ [(dx, dictOf [⟨h1, .str "raw" t1, .str (S text) tr⟩] 1)] s6.heap = G2 at hG2 kG2 B
    have hG2x := kG2 _ _ hgx
    refine ex_setattr B rfl hG2x (B.evh (B.name rfl)) ws_set ws_over (by kernel_rfl) ws_dict rfl rfl (by simp) fun s7 v2 h2 t2 B a2 k2 => ?_
    obtain ⟨tn, rfl⟩ := at_int.mp a2
    refine ex_setattr B rfl hG2x (B.evh (B.name rfl)) ws_set ws_over (by kernel_rfl) ws_dict rfl rfl (by simp) fun s8 v3 h3 t3 B a3 k3 => ?_
    obtain ⟨tnt, rfl⟩ := at_int.mp a3
    have av : At c (hp s8.heap) (.ints cnt) (.ref l) := at_list.mpr ⟨l, vs, m9, rfl, B.keep _ _ hG2, IntsAre.atAll hI⟩
    obtain ⟨ed8, _, _, _⟩ := B.own _ (.head _)
    refine ex_setattr (d := .tup [.tup (cnt.map .int), .int b]) B rfl hG2x (evh_norm B ed8 (by show ¬ (Value.type "dict" = Value.type "tuple"); decide) (.tuple (.cons (.blt B.fra.ok nb_tuple rfl (kept_type _) (.cons (.view (B.name rfl) av) .nil) (tuple_l cnt (by omega))) (.cons (B.name rfl) .nil)))) ws_set ws_over (by kernel_rfl) ws_dict rfl rfl (by simp) fun s9 v4 h4 t4 B a4 k4 => ?_
    have av : At c (hp s9.heap) (.ints cnt) (.ref l) := at_list.mpr ⟨l, vs, m9, rfl, B.keep _ _ hG2, IntsAre.atAll hI⟩
    refine ex_setattr B rfl hG2x (B.evh (.cmp (.len B.fra.ok (.view (B.name rfl) av) (by simp; omega)) .cint (le_i _ _))) ws_set ws_over (by kernel_rfl) ws_dict rfl rfl (by simp) fun s10 v5 h5 t5 B a5 k5 => ?_
    cases at_bool.mp a5
    obtain ⟨ed, _, _, _⟩ := B.own _ (.head _)
    refine ex_nil (q _ B.ok (kG2.trans B.keep) ?_)
    unfold leadD
    rw [At.eq_def]
    refine ⟨x, dx, h1, h2, h3, h4, h5, t1, t2, t3, t4, t5, .str (S text) tr, tn, tnt, v4, 5, rfl, hbx, B.keep _ _ hG2x, ?_, (a4.mono k5).mono (hide_keep _ _)⟩
    rw [ed]
    simp [leadEs]
    omega
end
end Mine

/-! # G6 -/
namespace Mine
section
variable {c : Wd} {A : Around} {env : Env} {g g₁ g₂ : PH} {pos p : Pos} {ρ ρ' : List (Str × D)} {ow : List (Addr × Obj)} {s s' : Shared} {rest : List Stmt}

theorem Rm.made {n : Nat} (rm : Rm A (n + 1)) {v : Addr} {vs : List Value} {kw : List (Str × Value)} : Rm (A.under (.builtin "type.__call__" ⟨.ref v :: vs, kw⟩)) n := by
  have hw : (Code.builtin "type.__call__" ⟨.ref v :: vs, kw⟩).weight = 1 := by kernel_rfl
  have h1 := rm.hd
  have h2 := rm.hu
  refine ⟨?_, ?_, ?_⟩
  · have := rm.hh; simpa [Around.under] using this
  · simp [Around.under, hw]; omega
  · simp [Around.under, Code.cUnits, Code.frames, Code.isFrame]; omega

def wsOf (text : List Nat) : D := leadD (ini text w0).cnt (ini text w0).b (ini text w0).n (ini text w0).nt (decide ((ini text w0).cnt.length ≤ 1))
theorem ws_make {m : Nat} (rm : Rm A (m + 2)) {text : List Nat} (hlen : text.length < 500) : Spec c A (.ref cWs) [.str (S text)] (wsOf text) := fun s vs Q ok ha q => by
  obtain ⟨v, rfl, a⟩ := all_inv1 ha
  obtain ⟨t, rfl⟩ := at_str.mp a
  obtain ⟨h, gn, dd, tk, os⟩ := s
  refine wpAny_call (make_core (C := cWs) (makes_of ok.inv.k (by kernel_rfl)) (looks_findIn ok.inv.k (r := some (.ref 109)) (by kernel_rfl)) (fun self => bind_fn ok.inv.k self (by kernel_rfl)) (.inl rfl) ?_)
  have ok1 := (ok.push emptyDict).push (instObj cWs h.objs.size)
  have kk : Keep (hp h) (hp ((h.push emptyDict).push (instObj cWs h.objs.size))) := (keep_push _ _).trans (keep_push _ _)
  have hb : 208 < h.objs.size := ok.inv.big
  have hbx : 208 < h.objs.size + 1 := Nat.lt_succ_of_lt hb
  have hx : hp ((h.push emptyDict).push (instObj cWs h.objs.size)) (h.objs.size + 1) = some (instObj cWs h.objs.size) := hp_of (by heap_get) (not_tab hbx)
  have hdx : hp ((h.push emptyDict).push (instObj cWs h.objs.size)) h.objs.size = some (dictOf [] 0) := hp_of (by heap_get) (not_tab hb)
  refine init_code rm.made ok1 hx hdx hbx hb hlen fun s' ok' k' a' => ⟨rfl, q _ s' ok' (Keep.trans (fun b o e => hide_of (kk b o e) fun hm => ?_) k') a'⟩
  rw [List.mem_singleton.mp hm, hp_ge (Nat.le_refl _)] at e
  cases e
end
end Mine

/-! # G7 -/
namespace Mine
/-- a walk, with what lets an owned tuple go -/
structure WkT (c : Wd) (A : Around) (g : PH) (tgt : Expr) (I : Addr) (fp wr : List Addr) (ds : List D) (St : Nat → Heap → Prop) : Prop where
  frame : ∀ i h h', St i h → (∀ b ∈ fp, ∀ o, h.get? b = some o → h'.get? b = some o) → St i h'
  item : ∀ i (s : Shared) d {Q : Value → Shared → Prop} {E : Value → Shared → Prop}, ds[i]? = some d → St i s.heap →
    (∀ v h' tk, St (i + 1) h' → (∀ b o, b ∉ wr → s.heap.get? b = some o → h'.get? b = some o) → (∀ H : List Addr, 208 < s.heap.objs.size → (∀ b ∈ H, b < s.heap.objs.size) → KeepD g (hide (hp h') H) → At c (hide (hp h') H) d v) → Q v { s with heap := h', toks := tk }) →
    wpAny c.M A (pyNext (.ref I)) (fun r s₁ => ∃ v, r = some v ∧ wpAny c.M A (letOwnedTupleGo tgt (.ref I) v) (fun _ s₂ => Q v s₂) E s₁) E s
  done : ∀ (s : Shared) (Q : Option Value → Shared → Prop) (E : Value → Shared → Prop), St ds.length s.heap →
    (∀ h' tk, (∀ b o, b ∉ wr → s.heap.get? b = some o → h'.get? b = some o) → Q none { s with heap := h', toks := tk }) → wpAny c.M A (pyNext (.ref I)) Q E s
def IterT (c : Wd) (A : Around) (g : PH) (tgt : Expr) (v : Value) (ds : List D) : Prop :=
  ∀ s Q, Ok c s → Keep g (hp s.heap) →
    (∀ I fp wr St h', WkT c A g tgt I fp wr ds St → St 0 h' → Ok c { s with heap := h' } → Keep (hp s.heap) (hp h') → (∀ b ∈ wr, s.heap.objs.size ≤ b) →
      (∀ b ∈ fp, b ∈ wr ∨ ∃ o, g b = some o ∧ DataCls o.cls) → (∀ i h, St i h → ∀ b ∈ wr, ∃ o, h.get? b = some o ∧ ¬ DataCls o.cls ∧ o.cls ≠ .type "code") → Q (.ref I) { s with heap := h' }) → Rn c A (pyIter v) Q s
def EvI (c : Wd) (A : Around) (env : Env) (ow : List Addr) (s : Shared) (e tgt : Expr) (ds : List D) : Prop :=
  ∀ Q, (∀ v s', Ok c s' → Keep (hp s.heap) (hp s'.heap) → IterT c A (hide (hp s'.heap) ow) tgt v ds → Q v s') → Rn c A (eval e env) Q s
/-- the items are stored into names -/
def Tg (c : Wd) (A : Around) (env : Env) (tgt : Expr) (d : D) (δ : List (Str × D)) : Prop :=
  ∀ g₁ ρ ow s v Q, Bd c g₁ env ρ ow s → At c (hide (hp s.heap) (ow.map (·.1))) d v → (∀ s', Bd c g₁ env (δ ++ ρ) ow s' → KeepD (hp s.heap) (hp s'.heap) → Q () s') → Rn c A (assign tgt env v) Q s
section
variable {c : Wd} {A : Around} {env : Env} {g g₁ g₂ : PH} {pos p : Pos} {ρ ρ' : List (Str × D)} {ow : List (Addr × Obj)} {s s' : Shared} {rest : List Stmt}
theorem Iter.toT {tgt : Expr} {v : Value} {ds : List D} (it : Iter c A g v ds) (hgo : ∀ I v, letOwnedTupleGo tgt (.ref I) v = pure () := by intro _ _; rfl) : IterT c A g tgt v ds := fun s Q ok k q =>
  it s Q ok k fun I fp wr P St h' W st0 ok1 k1 hwr hfp hcl hP => q I fp wr St h' ⟨W.frame, fun i s d Q E hd hst hq => W.item i s _ _ (List.getElem?_eq_some_iff.mp hd).1 hst fun v h' tk hv hst' hk => ⟨v, rfl, by
    rw [hgo]
    refine wpAny_pure (hq v h' tk hst' hk fun H _ _ kd => ?_)
    obtain ⟨d', hd', ad⟩ := hP i v hv
    rw [hd] at hd'; cases hd'
    exact ad.monoD kd⟩, W.done⟩ st0 ok1 k1 hwr hfp hcl
theorem EvH.evI {e tgt : Expr} {d : D} {ds : List D} {H : List Addr} (ev : EvH c A env H s e d) (hit : ∀ g v, At c g d v → IterT c A g tgt v ds) : EvI c A env H s e tgt ds := fun Q q => ev _ fun v s' ok k a => q v s' ok k (hit _ _ a)
theorem tg_name {x : Str} {px : Pos} {d : D} (hx : Stored env x) : Tg c A env (.Name x px) d [(x, d)] := fun _ _ _ _ _ _ B a q => wpAny_assign_Name (B.storeD a hx fun s' B' kd => q s' B' kd)
theorem tg_pair {x y : Str} {px py pt : Pos} {n : Nat} {d0 d1 : D} (hh : A.handled = none) (hx : Stored env x) (hy : Stored env y) (he : (assignEach [.Name x px, .Name y py] env).map (·.2) = [assign (.Name x px) env, assign (.Name y py) env] := by rfl)
    (hl : (assignEach [.Name x px, .Name y py] env).length = 2 := by rfl) (hst : (assignEach [.Name x px, .Name y py] env).findIdx? (·.1) = none := by rfl) : Tg c A env (.Tuple [.Name x px, .Name y py] n pt) (.tup [d0, d1]) [(y, d1), (x, d0)] := fun g₁ ρ ow s v Q B a q => by
  obtain ⟨t, vs, m, rfl, e, r⟩ := at_tup.mp a
  obtain ⟨v0, v1, hv, a0, a1⟩ := all_inv2 r
  have hvs : vs = #[v0, v1] := by apply Array.ext'; rw [hv]
  subst hvs
  refine wpAny_assign_Tuple hh ⟨_, hp_get (hide_get e), rfl, m, rfl⟩ hl hst fun h' hx' => ?_
  have hk : ∀ b o, s.heap.get? b = some o → h'.get? b = some o := fun b o eb => hx' b o (Nat.ne_of_lt (Heap.lt_size eb)) eb
  have ok2 : Ok c { s with heap := h' } := B.ok.all (tk := s.toks) hk
  have k2 : Keep (hp s.heap) (hp h') := keep_all hk
  have B2 := B.step ok2 k2
  rw [he]
  show wpAny c.M A (do holding [v1] (assign (.Name x px) env v0); do holding [] (assign (.Name y py) env v1); pure ()) _ _ _
  refine wpAny_bind (wpAny_holding (wpAny_assign_Name (B2.storeD (d := d0) (a0.mono (k2.hide _)) hx fun s3 B3 kd3 => ?_)))
  have kd3' : KeepD (hide (hp h') (ow.map (·.1))) (hide (hp s3.heap) (ow.map (·.1))) := fun b o e hdc => hide_of (kd3 b o (hide_get e) hdc) (hide_off e)
  refine wpAny_bind (wpAny_holding (wpAny_assign_Name (B3.storeD (d := d1) ((a1.mono (k2.hide _)).monoD kd3') hy fun s4 B4 kd4 => wpAny_pure (q s4 B4 fun b o eb hdc => kd4 b o (kd3 b o (k2 b o eb) hdc) hdc))))

theorem ex_forT {σ : Type} {Q : Flow → Shared → Prop} (P : Nat → σ → PH → Prop) (hPm : ∀ i st g g', KeepD g g' → P i st g → P i st g') (ρf : σ → List (Str × D)) (wf : σ → List (Addr × Obj)) (Br : σ → PH → Prop) (Re : D → Prop) {tgt : Expr} {δ : D → List (Str × D)} {iter : Expr} {body : List Stmt} {ds : List D} (st₀ : σ) (h₀ : P 0 st₀ (hide (hp s.heap) ((wf st₀).map (·.1)))) (B : Bd c g₁ env (ρf st₀) (wf st₀) s)
    (htg : ∀ d ∈ ds, Tg c A env tgt d (δ d))
    (ev : EvI c A env ((wf st₀).map (·.1)) s iter tgt ds)
    (turn : ∀ i st d g' s, P i st (hide (hp s.heap) ((wf st).map (·.1))) → ds[i]? = some d → Bd c g' env (δ d ++ ρf st) (wf st) s → Rn c A (execs body env) (fun f s' => match f with
      | .next => ∃ st', P (i + 1) st' (hide (hp s'.heap) ((wf st').map (·.1))) ∧ Bd c g' env (ρf st') (wf st') s'
      | .cont => False
      | .brk => ∃ st', Br st' (hide (hp s'.heap) ((wf st').map (·.1))) ∧ Bd c g' env (ρf st') (wf st') s'
      | .ret v => ∃ d, Re d ∧ Rt c g' d v s') s)
    (done : ∀ st s, P ds.length st (hide (hp s.heap) ((wf st).map (·.1))) ∨ Br st (hide (hp s.heap) ((wf st).map (·.1))) → Bd c g₁ env (ρf st) (wf st) s → Rn c A (execs rest env) Q s)
    (ret : ∀ d v s, Re d → Rt c g₁ d v s → Q (.ret v) s)
    (hs : ∀ x, foldedSetIterable iter env x = pure x := by intro _; rfl) : Rn c A (execs (.For tgt iter body [] pos :: rest) env) Q s := by
  refine wpAny_execs_cons (wpAny_For ?_ hs)
  refine ev _ fun v s1 ok1 k1 a1 => ?_
  have B1 := B.step ok1 k1
  generalize hG : hide (hp s1.heap) ((wf st₀).map (·.1)) = G at a1
  have hGk : Keep G (hp s1.heap) := by rw [← hG]; exact hide_keep _ _
  have hGlt : ∀ b o, G b = some o → b < s1.heap.objs.size := fun b o e => Heap.lt_size (hp_get (hGk b o e))
  refine a1 s1 _ ok1 hGk fun I fp wr St h' W st0 ok2 k2 hwr hfp hcl => ?_
  have hbig : 208 < s1.heap.objs.size := ok1.inv.big
  have hloc : env.locals < s1.heap.objs.size := let ⟨_, _, _, e, _⟩ := B1.fra.loc; Heap.lt_size e
  have hcell : ∀ x a, env.cells.lookup x = some a → a < s1.heap.objs.size := fun x a h1 => let ⟨_, _, e⟩ := B1.fra.all x a h1; Heap.lt_size e
  have hg₁ : ∀ b o, g₁ b = some o → b ∉ wr := fun b o e hm => absurd (hwr b hm) (Nat.not_le_of_lt (Heap.lt_size (hp_get (B1.keep b o e))))
  refine codeAny_forLoop_any (fun n s => ∃ i st, n = ds.length - i ∧ i ≤ ds.length ∧ P i st (hide (hp s.heap) ((wf st).map (·.1))) ∧ Bd c g₁ env (ρf st) (wf st) s ∧ St i s.heap ∧ KeepD G (hide (hp s.heap) ((wf st).map (·.1)))) ?_ ds.length
    ⟨0, st₀, by omega, by omega, hPm _ _ _ _ ((k1.trans k2).hide _).toD h₀, B1.step ok2 k2, st0, by rw [← hG]; exact (k2.hide _).toD⟩
  rintro n s ⟨i, st, rfl, hi, hPi, Bi, hst, hKD⟩
  have hcs := hcl i _ hst
  rcases Nat.lt_or_ge i ds.length with hlt | hge
  · have hd : ds[i]? = some ds[i] := List.getElem?_eq_getElem hlt
    have hmem : ds[i] ∈ ds := List.getElem_mem hlt
    generalize ds[i] = d at hd hmem
    refine wpAny_mono (W.item i s d (Q := fun v s₁ => wpAny c.M A (assign tgt env v) (fun _ s₂ => wpAny c.M A (execs body env) (fun f s₃ => match f with
            | .next | .cont => ∃ m, m < ds.length - i ∧ (∃ i st, m = ds.length - i ∧ i ≤ ds.length ∧ P i st (hide (hp s₃.heap) ((wf st).map (·.1))) ∧ Bd c g₁ env (ρf st) (wf st) s₃ ∧ St i s₃.heap ∧ KeepD G (hide (hp s₃.heap) ((wf st).map (·.1))))
            | .brk => wpAny c.M A (execs rest env) Q (fun _ _ => False) s₃
            | .ret v => Q (.ret v) s₃) (fun _ _ => False) s₂) (fun _ _ => False) s₁) (E := fun _ _ => False) hd hst fun v h2 tk hst2 hk2 had => ?_) (fun r s₁ hr => ?_) (fun _ _ x => x.elim)
    rotate_left
    · obtain ⟨v, rfl, hv⟩ := hr
      exact wpAny_mono hv (fun _ s₂ h2 => wpAny_mono h2 (fun _ s₃ h3 => wpAny_mono h3 (fun f s₄ h4 => by cases f <;> exact h4) fun _ _ x => x.elim) fun _ _ x => x.elim) fun _ _ x => x.elim
    have B2 := Bi.next (tk := tk) hk2 hwr hbig hloc hcell hg₁ hcs
    have hKD2 : KeepD G (hide (hp h2) ((wf st).map (·.1))) := fun b o e hdc => by
      have e2 := hKD b o e hdc
      refine hide_of (hp_of (hk2 b o (fun hm => absurd (hwr b hm) (Nat.not_le_of_lt (hGlt b o e))) (hp_get (hide_get e2))) (hp_off (hide_get e2))) (hide_off e2)
    have hKD3 : KeepD (hide (hp s.heap) ((wf st).map (·.1))) (hide (hp h2) ((wf st).map (·.1))) := fun b o e hdc => by
      refine hide_of (hp_of (hk2 b o (fun hm => ?_) (hp_get (hide_get e))) (hp_off (hide_get e))) (hide_off e)
      obtain ⟨o', e', h1, _⟩ := hcs b hm
      rw [hp_get (hide_get e)] at e'; cases e'; exact h1 hdc
    have ad := had ((wf st).map (·.1)) Bi.ok.inv.big (fun b hb => by
      obtain ⟨q, hq, rfl⟩ := List.mem_map.mp hb
      exact Heap.lt_size (hp_get (Bi.own q hq).1)) hKD2
    refine wpAny_mono (htg d hmem _ _ _ _ v (fun _ s3 => wpAny c.M A (execs body env) _ (fun _ _ => False) s3) B2.rebase ad fun s3 B3 kd3 => ?_) (fun _ _ x => x) fun _ _ x => x.elim
    have kd3' : KeepD (hide (hp h2) ((wf st).map (·.1))) (hide (hp s3.heap) ((wf st).map (·.1))) := fun b o e hdc => hide_of (kd3 b o (hide_get e) hdc) (hide_off e)
    refine wpAny_mono (turn i st d _ s3 (hPm _ _ _ _ kd3' (hPm _ _ _ _ hKD3 hPi)) hd B3) (fun f s4 hf => ?_) fun _ _ x => x.elim
    cases f with
    | next =>
      obtain ⟨st', hP', B4⟩ := hf
      refine ⟨ds.length - (i + 1), by omega, i + 1, st', rfl, hlt, hP', B4.weak B2.into, ?_, fun b o e hdc => ?_⟩
      · refine W.frame _ _ _ hst2 fun b hb o e => ?_
        have hbo : b ∉ tabA ∧ b ≠ env.locals ∧ (∀ x, env.kindOf x = some .cell → env.cells.lookup x ≠ some b) ∧ b ∉ (wf st).map (·.1) := by
          rcases hfp b hb with hw | ⟨o', e', hdc⟩
          · have h := hwr b hw
            refine ⟨not_tab (Nat.lt_of_lt_of_le hbig h), Nat.ne_of_gt (Nat.lt_of_lt_of_le hloc h), fun x _ h2 => absurd (hcell x b h2) (Nat.not_lt_of_le h), fun hm => ?_⟩
            obtain ⟨p, hp', rfl⟩ := List.mem_map.mp hm
            obtain ⟨f1, _, _, f4⟩ := B2.own p hp'
            obtain ⟨o', e', h1, _⟩ := hcl _ _ hst2 _ hw
            have := hp_get f1
            rw [e'] at this; cases this; exact h1 f4
          · have e3 := hKD2 b o' e' hdc
            have e4 := hp_get (hide_get e3)
            refine ⟨hp_off (hide_get e3), fun q => ?_, fun x h1 h2 => ?_, hide_off e3⟩
            · obtain ⟨ol, _, _, f1, f2, _⟩ := B2.fra.loc
              rw [q] at e4; rw [f1] at e4; cases e4; exact hdc.frame.1 f2
            · obtain ⟨⟨ol, _, f1, f2, _⟩, _⟩ := B2.fra.cell x b h1 h2
              rw [f1] at e4; cases e4; exact hdc.frame.2.1 f2
        exact hp_get (B4.keep _ _ (base_of (hp_of e hbo.1) hbo.2.1 hbo.2.2.1 hbo.2.2.2))
      · have e2 := hKD2 b o e hdc
        have e3 : base env (wf st) h2 b = some o := base_of (hide_get e2) (fun q => by
            obtain ⟨ol, _, _, f1, f2, _⟩ := B2.fra.loc
            have e4 := hp_get (hide_get e2)
            rw [q] at e4; rw [f1] at e4; cases e4; exact hdc.frame.1 f2) (fun x h1 h2' => by
            obtain ⟨⟨ol, _, f1, f2, _⟩, _⟩ := B2.fra.cell x b h1 h2'
            have e4 := hp_get (hide_get e2)
            rw [f1] at e4; cases e4; exact hdc.frame.2.1 f2) (hide_off e2)
        refine hide_of (B4.keep _ _ e3) fun hm => ?_
        obtain ⟨p, hp', rfl⟩ := List.mem_map.mp hm
        rw [(B4.own p hp').2.1] at e3; cases e3
    | cont => exact hf.elim
    | brk => 
      obtain ⟨st', hB', B4⟩ := hf
      exact done st' s4 (.inr hB') (B4.weak B2.into)
    | ret v => 
      obtain ⟨d, hd, r⟩ := hf
      exact ret d v s4 hd (r.weak B2.into)
  · have : i = ds.length := by omega
    subst this
    refine W.done s _ _ hst fun h2 tk hk2 => ?_
    have hKD3 : KeepD (hide (hp s.heap) ((wf st).map (·.1))) (hide (hp h2) ((wf st).map (·.1))) := fun b o e hdc => by
      refine hide_of (hp_of (hk2 b o (fun hm => ?_) (hp_get (hide_get e))) (hp_off (hide_get e))) (hide_off e)
      obtain ⟨o', e', h1, _⟩ := hcs b hm
      rw [hp_get (hide_get e)] at e'; cases e'; exact h1 hdc
    exact wpAny_execs_nil (done st _ (.inl (hPm _ _ _ _ hKD3 hPi)) (Bi.next (tk := tk) hk2 hwr hbig hloc hcell hg₁ hcs))
end
end Mine

/-! # G8 -/
namespace Mine
/-! ## dicts of ints -/
theorem IVals.length : ∀ {kvs : List (Int × Int)} {vs : List (Int × Value)}, IVals kvs vs → vs.length = kvs.length
  | [], [], _ => rfl
  | (k, n) :: r, (k', v) :: r', h => by simp [IVals.length (show IVals r r' from h.2.2)]
  | [], _ :: _, h => h.elim
  | _ :: _, [], h => h.elim
theorem IVals.get : ∀ {kvs : List (Int × Int)} {vs : List (Int × Value)}, IVals kvs vs → ∀ {i : Nat} {k n : Int}, kvs[i]? = some (k, n) → ∃ t, vs[i]? = some (k, .int n t)
  | [], [], _, i, k, n, e => by simp at e
  | (k, n) :: r, (k', v) :: r', h, i, k2, n2, e => by
    obtain ⟨rfl, ⟨t, rfl⟩, h2⟩ := h
    cases i with
    | zero => simp at e; obtain ⟨rfl, rfl⟩ := e; exact ⟨t, by simp⟩
    | succ i => simp at e; obtain ⟨t', e'⟩ := IVals.get h2 e; exact ⟨t', by simpa using e'⟩
  | [], _ :: _, h, _, _, _, _ => h.elim
  | _ :: _, [], h, _, _, _, _ => h.elim
/-- a key's value is put -/
def putI (kvs : List (Int × Int)) (k n : Int) : List (Int × Int) := if kvs.any (fun kv => kv.1 = k) then kvs.map (fun kv => if kv.1 = k then (kv.1, n) else kv) else kvs ++ [(k, n)]
def getI (kvs : List (Int × Int)) (k : Int) : Option Int := (kvs.find? fun kv => kv.1 = k).map (·.2)
theorem IVals.any : ∀ {kvs : List (Int × Int)} {vs : List (Int × Value)} (k : Int), IVals kvs vs → vs.any (fun kv => kv.1 = k) = kvs.any (fun kv => kv.1 = k)
  | [], [], _, _ => rfl
  | (k, n) :: r, (k', v) :: r', k2, h => by obtain ⟨rfl, _, h2⟩ := h; simp only [List.any_cons, IVals.any k2 h2]
  | [], _ :: _, _, h => h.elim
  | _ :: _, [], _, h => h.elim
theorem IVals.map : ∀ {kvs : List (Int × Int)} {vs : List (Int × Value)} (k n : Int) (t : Tok), IVals kvs vs → IVals (kvs.map (fun kv => if kv.1 = k then (kv.1, n) else kv)) (vs.map (fun kv => if kv.1 = k then (kv.1, .int n t) else kv))
  | [], [], _, _, _, _ => trivial
  | (k, n) :: r, (k', v) :: r', k2, n2, t, h => by
    obtain ⟨rfl, hv, h2⟩ := h
    by_cases e : k = k2
    · simp only [List.map_cons, e, if_true]; exact ⟨rfl, ⟨t, rfl⟩, IVals.map k2 n2 t h2⟩
    · simp only [List.map_cons, e, if_false]; exact ⟨rfl, hv, IVals.map k2 n2 t h2⟩
  | [], _ :: _, _, _, _, h => h.elim
  | _ :: _, [], _, _, _, h => h.elim
theorem IVals.snoc : ∀ {kvs : List (Int × Int)} {vs : List (Int × Value)} (k n : Int) (t : Tok), IVals kvs vs → IVals (kvs ++ [(k, n)]) (vs ++ [(k, .int n t)])
  | [], [], _, _, t, _ => ⟨rfl, ⟨t, rfl⟩, trivial⟩
  | (k, n) :: r, (k', v) :: r', k2, n2, t, h => ⟨h.1, h.2.1, IVals.snoc k2 n2 t h.2.2⟩
  | [], _ :: _, _, _, _, h => h.elim
  | _ :: _, [], _, _, _, h => h.elim
theorem IVals.put {kvs : List (Int × Int)} {vs : List (Int × Value)} (k n : Int) (t : Tok) (h : IVals kvs vs) : IVals (putI kvs k n) (stored vs k (.int n t)) := by
  unfold putI stored
  rw [h.any k]
  split
  · exact h.map k n t
  · exact h.snoc k n t
theorem IVals.at : ∀ {kvs : List (Int × Int)} {vs : List (Int × Value)} (k : Int), IVals kvs vs → (getI kvs k = none ∧ valueAt vs k = none) ∨ ∃ n t, getI kvs k = some n ∧ valueAt vs k = some (.int n t)
  | [], [], _, _ => .inl ⟨rfl, rfl⟩
  | (k, n) :: r, (k', v) :: r', k2, h => by
    obtain ⟨rfl, ⟨t, rfl⟩, h2⟩ := h
    by_cases e : k = k2
    · exact .inr ⟨n, t, by simp [getI, e], by simp [valueAt, e]⟩
    · have := IVals.at k2 h2
      simpa [getI, valueAt, e] using this
  | [], _ :: _, _, h => h.elim
  | _ :: _, [], _, h => h.elim

section
variable {c : Wd} {A : Around} {env : Env} {g g₁ g₂ : PH} {pos p : Pos} {ρ ρ' : List (Str × D)} {ow : List (Addr × Obj)} {s s' : Shared} {rest : List Stmt}

theorem not_sys {d : Addr} (h : 208 < d) : (d == sysModules) = false := by
  have : sysModules ≤ 208 := by decide
  simp only [beq_eq_false_iff_ne]
  intro e; rw [e] at h; exact absurd h (Nat.not_lt_of_le this)
theorem dictAt_of {h : Heap} {a : Addr} {o : Obj} {vs : List (Int × Value)} (e : h.get? a = some o) (x : o.IsDictOf (intKind c.prog c.w) vs) : ∃ ep, h.DictAt (intKind c.prog c.w) a vs ep := let ⟨es, ep, r⟩ := x; ⟨ep, o, es, e, r⟩
theorem IsDictOf.cls {o : Obj} {vs : List (Int × Value)} (x : o.IsDictOf (intKind c.prog c.w) vs) : o.cls = .type "dict" := let ⟨es, ep, r, _⟩ := x; r.1
theorem Bd.own_lt (B : Bd c g₁ env ρ ow s) : ∀ b ∈ ow.map (·.1), b < s.heap.objs.size := fun b hb => by
  obtain ⟨q, hq, rfl⟩ := List.mem_map.mp hb
  exact Heap.lt_size (hp_get (B.own q hq).1)

theorem evI_values {x : Str} {kvs : List (Int × Int)} {px pn apos : Pos} {y : Str} (hh : A.handled = none) (B : Bd c g₁ env ρ ow s) (hx : ρ.lookup x = some (.dict kvs)) (hd : (x == ("__debug__" : Str)) = false := by decide)
    (hbase : attributeBase (.Name x px) "values" env (eval (.Name x px) env) = eval (.Name x px) env := by rfl) (hline : (apos.endLine == pos.line) = true := by rfl) :
    EvI c A env (ow.map (·.1)) s (.Call (.Attribute (.Name x px) "values" apos) [] [] pos) (.Name y pn) ((kvs.map (·.2)).map .int) := fun Q q => by
  obtain ⟨v, l, a⟩ := B.frm x _ hx
  obtain ⟨d, o, vs, rfl, e, hb, hD, hI⟩ := at_dict.mp a
  have e1 := hp_get (hide_get e)
  have hm : s.heap.DictOf (intKind c.prog c.w) d vs := Heap.dictOf_iff.mpr ⟨o, e1, hD⟩
  refine wpAny_Call_method (T := "dict") (id := "dict.values") hbase rfl hline F.plainAttrs_dict F.slot_dict_values F.type_dict_values (wpAny_Name (Loc.load B.fra.ok (l.mono (hide_keep _ _)) ⟨hm.typeIs, hm.mapOf.noDict, ?_⟩) hd)
  show wpAny _ _ (callWith pos (.builtin "dict.values") [.ref d] [] []) _ _ s
  refine method_meetsIn F.slot_dict_values F.entry_dict_values rfl (PySem.evalArgs_none ⟨rfl, hm.typeIs, F.args_dict_values_1 _, _, meets_dict_values _ d (not_sys hb), ⟨vs, hm⟩, ?_⟩)
  refine q _ _ (B.ok.push _) (keep_push _ _) fun s2 Q2 ok2 k2 q2 => ?_
  have nH : s.heap.objs.size ∉ ow.map (·.1) := fun hm => absurd (B.own_lt _ hm) (Nat.lt_irrefl _)
  have ev := hp_get (k2 _ _ (hide_of B.ok.new nH))
  have ed' : hide (hp (s.heap.push { cls := .type "dict_values", data := .fields #[.ref d] })) (ow.map (·.1)) d = some o := (keep_push _ _).hide _ _ _ e
  have ed := hp_get (k2 _ _ ed')
  obtain ⟨ep, hA⟩ := dictAt_of ed hD
  refine wpAny_pyIter_values ⟨_, ev, rfl, rfl⟩ hA ?_
  have hlt : d < s2.heap.objs.size := Heap.lt_size ed
  have W := Walks.dictValues (knd := intKind c.prog c.w) (A := A) hh s2.heap.objs.size d (Nat.ne_of_lt hlt) vs ep
  have hlen : vs.length = ((kvs.map (·.2)).map D.int).length := by simp [hI.length]
  have W' := W
  refine q2 _ [s2.heap.objs.size, d] [s2.heap.objs.size] (fun i h => h.IsValIter s2.heap.objs.size d i vs.length ep ∧ h.DictAt (intKind c.prog c.w) d vs ep) _ ⟨W.frame, fun i s d' Q E hd hst hq => W.item i s _ _ (by rw [hlen]; exact (List.getElem?_eq_some_iff.mp hd).1) hst fun v h' tk hv hst' hk => ⟨v, rfl, wpAny_pure (hq v h' tk hst' hk fun H _ _ kd => ?_)⟩, fun s Q E hst hq => W.done s Q E (by rw [hlen]; exact (by simpa [hI.length] using hst)) hq⟩
    ⟨⟨_, Heap.get?_push_size _ rfl, rfl, rfl⟩, hA.push _⟩ (ok2.push _) (keep_push _ _) (fun b hb => by rw [List.mem_singleton.mp hb]; exact Nat.le_refl _) (fun b hb => ?_) (fun i h hst b hb => ?_)
  · obtain ⟨k, hv⟩ := hv
    obtain ⟨⟨k', n'⟩, hi⟩ : ∃ p, kvs[i]? = some p := by
      rw [List.getElem?_map, List.getElem?_map] at hd
      cases e : kvs[i]? with
      | none => rw [e] at hd; cases hd
      | some p => exact ⟨p, rfl⟩
    obtain ⟨t, e⟩ := hI.get hi
    rw [hv] at e; cases e
    rw [List.getElem?_map, List.getElem?_map, hi] at hd
    cases hd
    exact mk_int _ _
  · rcases List.mem_cons.mp hb with rfl | hb
    · exact .inl (List.mem_singleton.mpr rfl)
    · rw [List.mem_singleton.mp hb]
      exact .inr ⟨o, ed', by rw [IsDictOf.cls hD]; exact DataCls.dict⟩
  · rw [List.mem_singleton.mp hb]; obtain ⟨⟨o, ho, hc, _⟩, _⟩ := hst; exact ⟨o, ho, by rw [hc]; decide, by rw [hc]; decide⟩

set_option maxHeartbeats 2000000 in
theorem count_calls_spec {m : Nat} (rm : Rm A (m + 1)) {kvs : List (Int × Int)} : Spec c A (.ref 92) [.dict kvs] (.int (kvs.map (·.2)).sum) := fun s vs Q ok ha q => by
  obtain ⟨v1, rfl, a1⟩ := all_inv1 ha
  refine wpAny_call (fn_call (binds := [("callers", v1)]) (bds := [.dict kvs]) rfl (by kernel_rfl) rm ok (by kernel_rfl) (all1 a1) (by kernel_rfl) fun L s1 B => ?_)
  refine ex_assign B .cint (.inl rfl) fun s2 B => ?_
  have B := B.to (ρ' := [("nc", .int 0), ("callers", .dict kvs)]) ⟨rfl, rfl, trivial⟩
  refine ex_forT (fun i (nc : Int) _ => nc = ((kvs.map (·.2)).take i).sum) (fun _ _ _ _ _ h => h) (fun nc => [("nc", .int nc), ("callers", .dict kvs)]) (fun _ => []) (fun _ _ => False) (fun _ => False) (δ := fun d => [("calls", d)]) 0 rfl B (fun d _ => tg_name (.inl rfl)) (evI_values (hhd rm.hh) B rfl) ?_ ?_ (fun _ _ _ h => h.elim)
  · rintro i nc d g' s3 rfl hd B
    rw [List.getElem?_map] at hd
    cases hq : (kvs.map (·.2))[i]? with
    | none => rw [hq] at hd; cases hd
    | some n =>
      rw [hq] at hd; cases hd
      refine ex_aug B rfl (B.name rfl) (iadd_i _ _) (.inl rfl) fun s4 B => ?_
      refine ex_nil ⟨_, ?_, B.to ⟨rfl, rfl, trivial⟩⟩
      obtain ⟨hi, he⟩ := List.getElem?_eq_some_iff.mp hq
      rw [List.take_succ_eq_append_getElem hi, List.sum_append, he]
      simp
  · rintro nc s3 (rfl | h) B
    · refine ex_return B (B.name rfl) fun v s' r => q v s' r.ok r.keep ?_
      have := r.at_
      rw [List.length_map, List.take_length] at this
      exact this
    · exact h.elim
end
end Mine

/-! # G9 -/
namespace Mine
section
variable {c : Wd} {A : Around} {env : Env} {g g₁ g₂ : PH} {pos p : Pos} {ρ ρ' : List (Str × D)} {ow : List (Addr × Obj)} {s s' : Shared} {rest : List Stmt}

abbrev pairD (kv : Int × Int) : D := .tup [.int kv.1, .int kv.2]
theorem evI_items {x : Str} {kvs : List (Int × Int)} {px apos pt : Pos} {elts : List Expr} {n1 : Nat} (hh : A.handled = none) (B : Bd c g₁ env ρ ow s) (hx : ρ.lookup x = some (.dict kvs)) (hd : (x == ("__debug__" : Str)) = false := by decide)
    (hbase : attributeBase (.Name x px) "items" env (eval (.Name x px) env) = eval (.Name x px) env := by rfl) (hline : (apos.endLine == pos.line) = true := by rfl) :
    EvI c A env (ow.map (·.1)) s (.Call (.Attribute (.Name x px) "items" apos) [] [] pos) (.Tuple elts n1 pt) (kvs.map pairD) := fun Q q => by
  obtain ⟨v, l, a⟩ := B.frm x _ hx
  obtain ⟨d, o, vs, rfl, e, hb, hD, hI⟩ := at_dict.mp a
  have e1 := hp_get (hide_get e)
  have hm : s.heap.DictOf (intKind c.prog c.w) d vs := Heap.dictOf_iff.mpr ⟨o, e1, hD⟩
  refine wpAny_Call_method (T := "dict") (id := "dict.items") hbase rfl hline F.plainAttrs_dict F.slot_dict_items F.type_dict_items (wpAny_Name (Loc.load B.fra.ok (l.mono (hide_keep _ _)) ⟨hm.typeIs, hm.mapOf.noDict, ?_⟩) hd)
  show wpAny _ _ (callWith pos (.builtin "dict.items") [.ref d] [] []) _ _ s
  refine method_meetsIn F.slot_dict_items F.entry_dict_items rfl (PySem.evalArgs_none ⟨rfl, hm.typeIs, F.args_dict_items_1 _, _, meets_dict_items _ d (not_sys hb), ⟨vs, hm⟩, ?_⟩)
  refine q _ _ (B.ok.push _) (keep_push _ _) fun s2 Q2 ok2 k2 q2 => ?_
  have nH : s.heap.objs.size ∉ ow.map (·.1) := fun hm => absurd (B.own_lt _ hm) (Nat.lt_irrefl _)
  have ev := hp_get (k2 _ _ (hide_of B.ok.new nH))
  have ed' : hide (hp (s.heap.push { cls := .type "dict_items", data := .fields #[.ref d] })) (ow.map (·.1)) d = some o := (keep_push _ _).hide _ _ _ e
  have ed := hp_get (k2 _ _ ed')
  obtain ⟨ep, hA⟩ := dictAt_of ed hD
  refine wpAny_pyIter_items ⟨_, ev, rfl, rfl⟩ hA ?_
  have hlt : d < s2.heap.objs.size := Heap.lt_size ed
  have hne : d ≠ s2.heap.objs.size := Nat.ne_of_lt hlt
  generalize hI' : s2.heap.objs.size = I at hne
  refine q2 _ [I, d] [I] (fun i h => ∃ ok ov, IsItemIter h I d i vs.length ep ok ov ∧ h.DictAt (intKind c.prog c.w) d vs ep) _ ⟨fun i h h' hst hk => ?_, fun i s d' Q E hd' hst hq => ?_, fun s Q E hst hq => ?_⟩
    ⟨_, _, by rw [← hI']; exact Heap.get?_push_size _ rfl, hA.push _⟩ (ok2.push _) (keep_push _ _) (fun b hb => by rw [List.mem_singleton.mp hb, hI']; exact Nat.le_refl _) (fun b hb => ?_) (fun i h hst b hb => ?_)
  · obtain ⟨ok, ov, h1, h2⟩ := hst
    exact ⟨ok, ov, hk I (by simp) _ h1, h2.at' fun o e => hk d (by simp) o e⟩
  · obtain ⟨ok, ov, h1, h2⟩ := hst
    obtain ⟨⟨k, n⟩, hi⟩ : ∃ p, kvs[i]? = some p := by
      rw [List.getElem?_map] at hd'
      cases e : kvs[i]? with
      | none => rw [e] at hd'; cases hd'
      | some p => exact ⟨p, rfl⟩
    obtain ⟨t, hv⟩ := hI.get hi
    rw [List.getElem?_map, hi] at hd'
    cases hd'
    have hIl : I < s.heap.objs.size := Heap.lt_size h1
    refine wpAny_pyNext_items_item h1 h2 hv fun key h' hkey he ht hz hk => ⟨_, rfl, ?_⟩
    refine wpAny_letOwnedTupleGo_items he fun h'' he2 hs2 => ?_
    replace hs2 : Heap.SameBut I h' h'' := hs2
    have ht2 := (hs2.2 _ (Nat.ne_of_gt hIl)).trans ht
    obtain ⟨u, rfl⟩ := Value.isInt_shape hkey
    refine hq _ h'' s.toks ⟨_, _, he2, ?_⟩ (fun b o hb eb => (hs2.2 b (by simpa using hb)).trans (hk b o (by simpa using hb) eb)) fun H hbig hH kd => ?_
    · exact (h2.at' fun o e => hk d o hne e).extBut hs2.extBut hne
    · exact at_tup.mpr ⟨_, _, _, rfl, hide_of (hp_of ht2 (not_tab hbig)) (fun hm => absurd (hH _ hm) (Nat.lt_irrefl _)), all_cons (mk_int _ _) (all1 (mk_int _ _))⟩
  · obtain ⟨ok, ov, h1, h2⟩ := hst
    rw [List.length_map, ← hI.length] at h1
    exact wpAny_pyNext_items_end hh h1 h2 (by simp) fun h' hx => hq h' s.toks fun b o hb eb => hx b o (by simpa using hb) eb
  · rcases List.mem_cons.mp hb with rfl | hb
    · exact .inl (List.mem_singleton.mpr rfl)
    · rw [List.mem_singleton.mp hb]
      exact .inr ⟨o, ed', by rw [IsDictOf.cls hD]; exact DataCls.dict⟩
  · rw [List.mem_singleton.mp hb]; obtain ⟨_, _, ho, _⟩ := hst; exact ⟨_, ho, (by decide : ¬ DataCls (.type "dict_itemiterator")), (by decide : (Value.type "dict_itemiterator") ≠ .type "code")⟩

def IsDI (c : Wd) (o : Obj) (kvs : List (Int × Int)) : Prop := ∃ vs, o.IsDictOf (intKind c.prog c.w) vs ∧ IVals kvs vs
theorem IsDI.cls {o : Obj} {kvs : List (Int × Int)} (x : IsDI c o kvs) : o.cls = .type "dict" := let ⟨_, h, _⟩ := x; IsDictOf.cls h
theorem IsDI.at {l : Addr} {o : Obj} {kvs : List (Int × Int)} (x : IsDI c o kvs) (e : g l = some o) (hl : 208 < l) : At c g (.dict kvs) (.ref l) := let ⟨vs, h1, h2⟩ := x; at_dict.mpr ⟨l, o, vs, rfl, e, hl, h1, h2⟩
theorem isDI_nil : IsDI c emptyDict [] := ⟨[], ⟨#[], 0, ⟨rfl, rfl, rfl⟩, rfl, by intro e he; simp at he, .nil, by simp⟩, trivial⟩
theorem evNew_dict (ok : Ok c s) : EvNew c A env s (.Dict [] [] pos) (fun o _ => IsDI c o []) := fun Q q =>
  wpAny_Dict_empty (q _ _ _ (ok.push _) (keep_push _ _) (hp_ge (Nat.le_refl _)) ok.inv.big ok.new DataCls.dict isDI_nil)
theorem dict_set {l : Addr} {o : Obj} {kvs : List (Int × Int)} {k n : Int} {t u : Tok} {Q : Unit → Shared → Prop} (ok : Ok c s) (ho : hp s.heap l = some o) (hl : 208 < l) (x : IsDI c o kvs) (hsz : kvs.length ≤ 10000)
    (q : ∀ s' o', Ok c s' → Keep (hide (hp s.heap) [l]) (hp s'.heap) → hp s'.heap l = some o' → IsDI c o' (putI kvs k n) → Q () s') : Rn c A (setItem (.ref l) (.int k t) (.int n u)) Q s := by
  obtain ⟨vs, hD, hI⟩ := x
  refine wpAny_setItem_pairs (knd := intKind c.prog c.w) (k := k) (intKind_is _ _ _ _) (Heap.dictOf_iff.mpr ⟨o, hp_get ho, hD⟩) (fun h' hm hs => ?_) (by rw [hI.length]; simp [sizeLine]; omega)
  replace hs : Heap.SameBut l s.heap h' := hs
  obtain ⟨o', e', hD'⟩ := Heap.dictOf_iff.mp hm
  exact q _ o' ⟨ok.inv.sameBut hs hl (hp_get ho) (by rw [IsDictOf.cls hD]; decide), ok.gens, ok.os⟩ (fun b ob eb => sameBut_hp hs (hide_get eb) (by simpa using hide_off eb)) (hp_of e' (not_tab hl)) ⟨_, hD', hI.put k n u⟩
theorem in_d (k : Int) (kvs : List (Int × Int)) : F2 c A (compareOp .In) (.int k) (.dict kvs) (.bool (getI kvs k).isSome) := fun s v1 v2 Q ok a1 a2 q => by
  obtain ⟨t, rfl⟩ := at_int.mp a1
  obtain ⟨d, o, vs, rfl, e, hb, hD, hI⟩ := at_dict.mp a2
  refine wpAny_in_of (knd := intKind c.prog c.w) (k := k) (intKind_is _ _ _ _) (not_sys hb) (Heap.dictOf_iff.mpr ⟨o, hp_get e, hD⟩).mapOf (q _ _ (ok.tok _) (Keep.refl _) ?_)
  rcases hI.at k with ⟨h1, h2⟩ | ⟨n, t, h1, h2⟩ <;> rw [h1, h2] <;> exact mk_bool _
theorem Ev.isTup {e : Expr} {n : Int} {p2 : Pos} (he : EnvOk env) (h : Ev c A env g e (.int n)) (hx : env.kindOf "isinstance" = some .globalImplicit := by rfl) (hy : env.kindOf "tuple" = some .globalImplicit := by rfl)
    (h1 : starEach [e, .Name "tuple" p2] env = (false, eval e env) :: starEach [.Name "tuple" p2] env := by rfl) (hpl : (backTo pos (starEach [e, .Name "tuple" p2] env)).any (·.1) = false := by rfl) :
    Ev c A env g (.Call (.Name "isinstance" p) [e, .Name "tuple" p2] [] pos) (.bool false) := fun s Q ok k q => by
  refine Call_ (blt_load he ok (by kernel_rfl) rfl (by decide) (callWith_of (P := Inv c) (by simpa using hpl) (kept_blt "isinstance") (evalArgs_flat hpl (args_cons (h s _ ok k fun v s1 ok1 k1 a1 => args_cons (blt_load he ok1 nb_tuple rfl (by decide) (args_nil ?_) hy)) h1))) hx)
  obtain ⟨t, rfl⟩ := at_int.mp a1
  exact ⟨ok1.inv, IsiPair.int_tuple (q _ _ (ok1.tok _) k1 (mk_bool _))⟩

/-- x[i] = e, x an own dict -/
theorem ex_setD {l : Addr} {o : Obj} {kvs : List (Int × Int)} {y : Str} {py pa : Pos} {e i : Expr} {k z : Int} {Q : Flow → Shared → Prop} (B : Bd c g₁ env ρ [(l, o)] s) (x : IsDI c o kvs) (hy : ρ.lookup y = some (.ref l)) (ev : Ev c A env (hp s.heap) e (.int z)) (hi : Ev c A env (hp s.heap) i (.int k)) (hsz : kvs.length ≤ 10000)
    (q : ∀ s' o', Bd c g₁ env ρ [(l, o')] s' → IsDI c o' (putI kvs k z) → Rn c A (execs rest env) Q s')
    (hsw : swapsWith e (some (.Subscript (.Name y py) i pa)) pos.line env = pure false := by rfl) (hd : (y == ("__debug__" : Str)) = false := by decide) :
    Rn c A (execs (.Assign [.Subscript (.Name y py) i pa] e pos :: rest) env) Q s := by
  refine wpAny_execs_cons (wpAny_Assign_Subscript (ev s _ B.ok (Keep.refl _) fun v s1 ok1 k1 a1 => ?_) hsw)
  obtain ⟨t, rfl⟩ := at_int.mp a1
  have B1 := B.step ok1 k1
  refine (B1.name (d := .ref l) hy hd) s1 _ ok1 (Keep.refl _) fun v2 s2 ok2 k2 a2 => ?_
  rw [at_ref.mp a2]
  refine hi s2 _ ok2 (k1.trans k2) fun v3 s3 ok3 k3 a3 => ?_
  obtain ⟨u, rfl⟩ := at_int.mp a3
  have B3 := B1.step ok3 (k2.trans k3)
  obtain ⟨e1, e2, e3, _⟩ := B3.own (l, o) (.head _)
  exact dict_set ok3 e1 e3 x hsz fun s4 o' ok4 k4 e4 x4 => q s4 o' (B3.turn ok4 k4 e4 (by rw [x4.cls]; exact DataCls.dict)) x4
/-- x[i] += e, x an own dict -/
theorem ex_augD {l : Addr} {o : Obj} {kvs : List (Int × Int)} {y i : Str} {py pa pi : Pos} {e : Expr} {k n z : Int} {Q : Flow → Shared → Prop} (B : Bd c g₁ env ρ [(l, o)] s) (x : IsDI c o kvs) (hy : ρ.lookup y = some (.ref l)) (hi : ρ.lookup i = some (.int k)) (hg : getI kvs k = some n) (ev : Ev c A env (hp s.heap) e (.int z)) (hsz : kvs.length ≤ 10000)
    (q : ∀ s' o', Bd c g₁ env ρ [(l, o')] s' → IsDI c o' (putI kvs k (n + z)) → Rn c A (execs rest env) Q s')
    (hd : (y == ("__debug__" : Str)) = false := by decide) (hdi : (i == ("__debug__" : Str)) = false := by decide) :
    Rn c A (execs (.AugAssign (.Subscript (.Name y py) (.Name i pi) pa) .Add e pos :: rest) env) Q s := by
  refine wpAny_execs_cons (wpAny_AugAssign_Subscript ((B.name (d := .ref l) hy hd) s _ B.ok (Keep.refl _) fun v1 s1 ok1 k1 a1 => ?_))
  rw [at_ref.mp a1]
  have B1 := B.step ok1 k1
  refine (B1.name (d := .int k) hi hdi) s1 _ ok1 (Keep.refl _) fun v2 s2 ok2 k2 a2 => ?_
  obtain ⟨u, rfl⟩ := at_int.mp a2
  have B2 := B1.step ok2 k2
  obtain ⟨e1, e2, e3, _⟩ := B2.own (l, o) (.head _)
  obtain ⟨vs, hD, hI⟩ := id x
  rcases hI.at k with ⟨h1, h2⟩ | ⟨n', t', h1, h2⟩
  · rw [hg] at h1; cases h1
  rw [hg] at h1; cases h1
  refine wpAny_getItem_of (knd := intKind c.prog c.w) (k := k) (intKind_is _ _ _ _) (Heap.dictOf_iff.mpr ⟨o, hp_get e1, hD⟩).mapOf h2 ?_
  have B3 := B2.step (ok2.tok (s2.toks + 1)) (Keep.refl _)
  refine ev _ _ B3.ok (k1.trans k2) fun v4 s4 ok4 k4 a4 => ?_
  obtain ⟨u4, rfl⟩ := at_int.mp a4
  refine iadd_i n z s4 _ _ _ ok4 (mk_int n t') (mk_int z u4) fun v5 s5 ok5 k5 a5 => ?_
  obtain ⟨u5, rfl⟩ := at_int.mp a5
  have B5 := B3.step ok5 (k4.trans k5)
  obtain ⟨e1, e2, e3, _⟩ := B5.own (l, o) (.head _)
  exact dict_set ok5 e1 e3 x hsz fun s4 o' ok4 k4 e4 x4 => q s4 o' (B5.turn ok4 k4 e4 (by rw [x4.cls]; exact DataCls.dict)) x4
end
end Mine

/-! # I1 -/
namespace Mine
section
variable {c : Wd} {A : Around} {env : Env} {g g₁ g₂ : PH} {pos p : Pos} {ρ ρ' : List (Str × D)} {ow : List (Addr × Obj)} {s s' : Shared} {rest : List Stmt}

def copyI (t : List (Int × Int)) : List (Int × Int) := t.foldl (fun a kv => putI a kv.1 kv.2) []
def addI (a : List (Int × Int)) (kv : Int × Int) : List (Int × Int) := match getI a kv.1 with
  | some m => putI a kv.1 (m + kv.2)
  | none => putI a kv.1 kv.2
def mergeI (t u : List (Int × Int)) : List (Int × Int) := u.foldl addI (copyI t)
theorem putI_length (a : List (Int × Int)) (k n : Int) : (putI a k n).length ≤ a.length + 1 := by
  unfold putI; split
  · simp
  · simp
theorem addI_length (a : List (Int × Int)) (kv : Int × Int) : (addI a kv).length ≤ a.length + 1 := by
  unfold addI; split <;> exact putI_length _ _ _
theorem map_pair_get {ns : List (Int × Int)} {i : Nat} {d : D} (h : (ns.map pairD)[i]? = some d) : ∃ r, ns[i]? = some r ∧ d = pairD r := by
  rw [List.getElem?_map] at h
  cases hq : ns[i]? with
  | none => rw [hq] at h; cases h
  | some r => rw [hq] at h; cases h; exact ⟨r, rfl, rfl⟩
theorem foldl_take_len {f : List (Int × Int) → (Int × Int) → List (Int × Int)} (hf : ∀ a kv, (f a kv).length ≤ a.length + 1) (l : List (Int × Int)) : ∀ a, (l.foldl f a).length ≤ a.length + l.length := by
  induction l with
  | nil => intro a; simp
  | cons x r ih => intro a; have := ih (f a x); have := hf a x; simp only [List.foldl_cons, List.length_cons]; omega
theorem foldl_take {α β : Type} (f : β → α → β) (b : β) (l : List α) (i : Nat) (x : α) (h : l[i]? = some x) : (l.take (i + 1)).foldl f b = f ((l.take i).foldl f b) x := by
  rw [List.take_add_one, h]; simp

set_option maxHeartbeats 2000000 in
theorem add_callers_spec {m : Nat} (rm : Rm A (m + 1)) {t u : List (Int × Int)} (ht : t.length < 1000) (hu : u.length < 1000) : Spec c A (.ref 85) [.dict t, .dict u] (.dict (mergeI t u)) := fun s vs Q ok ha q => by
  obtain ⟨v1, v2, rfl, a1, a2⟩ := all_inv2 ha
  refine wpAny_call (fn_call (binds := [("target", v1), ("source", v2)]) (bds := [.dict t, .dict u]) rfl (by kernel_rfl) rm ok (by kernel_rfl) (all_cons a1 (all1 a2)) (by kernel_rfl) fun L s1 B => ?_)
  refine ex_own B (evNew_dict B.ok) (.inl rfl) fun l o s2 g' hn B hR _ => ?_
  have B := B.to (ρ' := [("new_callers", .ref l), ("target", .dict t), ("source", .dict u)]) ⟨rfl, rfl, rfl, trivial⟩
  refine ex_forT (fun i (st : Obj × List (Int × Int)) _ => IsDI c st.1 st.2 ∧ st.2 = (t.take i).foldl (fun a kv => putI a kv.1 kv.2) []) (fun _ _ _ _ _ h => h) (fun _ => [("new_callers", .ref l), ("target", .dict t), ("source", .dict u)]) (fun st => [(l, st.1)]) (fun _ _ => False) (fun _ => False)
    (δ := fun d => match d with | .tup [d0, d1] => [("caller", d1), ("func", d0)] | _ => []) (o, []) ⟨hR, rfl⟩ B (fun d hd => ?_) (evI_items (hhd rm.hh) B rfl) ?_ ?_ (fun _ _ _ h => h.elim)
  · obtain ⟨kv, _, rfl⟩ := List.mem_map.mp hd
    exact tg_pair (hhd rm.hh) (.inl rfl) (.inl rfl)
  · rintro i ⟨o, ks⟩ d g' s3 ⟨hI, hks⟩ hd B
    obtain ⟨r, hr, rfl⟩ := map_pair_get hd
    simp only at hI hks
    have hlen : ks.length ≤ 1000 := by
      have := foldl_take_len (fun a kv => putI_length a kv.1 kv.2) (t.take i) []
      rw [← hks] at this
      simp at this; omega
    refine ex_setD B hI rfl (B.name rfl) (B.name rfl) (by omega) fun s4 o' B hI' => ?_
    refine ex_nil ⟨(o', putI ks r.1 r.2), ⟨hI', ?_⟩, B.to ⟨rfl, rfl, rfl, trivial⟩⟩
    simp only
    rw [foldl_take _ _ _ _ _ hr, hks]
  · rintro ⟨o, ks⟩ s3 (⟨hI, hks⟩ | h) B
    rotate_left
    · exact h.elim
    simp only at hI hks
    rw [List.length_map, List.take_length] at hks
    refine ex_forT (fun i (st : Obj × List (Int × Int)) _ => IsDI c st.1 st.2 ∧ st.2 = (u.take i).foldl addI (copyI t)) (fun _ _ _ _ _ h => h) (fun _ => [("new_callers", .ref l), ("target", .dict t), ("source", .dict u)]) (fun st => [(l, st.1)]) (fun _ _ => False) (fun _ => False)
      (δ := fun d => match d with | .tup [d0, d1] => [("caller", d1), ("func", d0)] | _ => []) (o, ks) ⟨hI, hks⟩ B (fun d hd => ?_) (evI_items (hhd rm.hh) B rfl) ?_ ?_ (fun _ _ _ h => h.elim)
    · obtain ⟨kv, _, rfl⟩ := List.mem_map.mp hd
      exact tg_pair (hhd rm.hh) (.inl rfl) (.inl rfl)
    · rintro i ⟨o, ks⟩ d g' s3 ⟨hI, hks⟩ hd B
      obtain ⟨r, hr, rfl⟩ := map_pair_get hd
      simp only at hI hks
      have hlen : ks.length ≤ 3000 := by
        have h1 := foldl_take_len addI_length (u.take i) (copyI t)
        have h2 := foldl_take_len (fun a kv => putI_length a kv.1 kv.2) t []
        rw [← hks] at h1
        have : (u.take i).length ≤ u.length := by simp; omega
        unfold copyI at h1
        simp only [List.length_nil] at h2; omega
      obtain ⟨e1, e2, e3, _⟩ := B.own (l, o) (.head _)
      refine ex_if B (.cmp (B.name rfl) (.view (B.name rfl) (hI.at e1 e3)) (in_d _ _)) fun s4 B => ?_
      cases hg : getI ks r.1 with
      | none =>
        refine ex_setD B hI rfl (B.name rfl) (B.name rfl) (by omega) fun s4 o' B hI' => ?_
        refine ex_nil (ex_nil ⟨(o', putI ks r.1 r.2), ⟨hI', ?_⟩, B.to ⟨rfl, rfl, rfl, trivial⟩⟩)
        simp only
        rw [foldl_take _ _ _ _ _ hr, ← hks, addI, hg]
      | some n =>
        refine ex_if B (.bool (.isTup B.fra.ok (B.name rfl))) fun s5 B => ?_
        refine ex_augD B hI rfl rfl hg (B.name rfl) (by omega) fun s4 o' B hI' => ?_
        refine ex_nil (ex_nil (ex_nil ⟨(o', putI ks r.1 (n + r.2)), ⟨hI', ?_⟩, B.to ⟨rfl, rfl, rfl, trivial⟩⟩))
        simp only
        rw [foldl_take _ _ _ _ _ hr, ← hks, addI, hg]
    · rintro ⟨o, ks⟩ s3 (⟨hI, hks⟩ | h) B
      · simp only at hI hks
        obtain ⟨e1, e2, e3, _⟩ := B.own (l, o) (.head _)
        refine ex_return B (.view (B.name rfl) (hI.at e1 e3)) fun v s' r => q v s' r.ok r.keep ?_
        have h := r.at_
        rw [hks, List.length_map, List.take_length] at h
        exact h
      · exact h.elim
end
end Mine

/-! # I2 -/
namespace Mine
/-! ## comprehensions: cells -/
def closOf (env : Env) : List (Str × NameKind) → List (Str × Addr) → List (Str × Addr)
  | [], acc => acc
  | (n, k) :: r, acc => if k == .free then closOf env r ((n, (env.cells.lookup n).getD 0) :: acc) else closOf env r acc
theorem closureFor_eq {scope : Scope} {env : Env} (h : (scope.names.all fun p => p.2 != .free || (env.cells.lookup p.1).isSome) = true) : closureFor scope env = pure (closOf env scope.names []) := by
  have key : ∀ (f : Str × NameKind → List (Str × Addr) → Sem (ForInStep (List (Str × Addr)))), (∀ name kind cs, f (name, kind) cs = if kind == .free then (do let a ← cellOf env name; pure (.yield ((name, a) :: cs))) else pure (.yield cs)) →
      ∀ (names : List (Str × NameKind)) (acc : List (Str × Addr)), (names.all fun p => p.2 != .free || (env.cells.lookup p.1).isSome) = true → forIn names acc f = pure (closOf env names acc) := by
    intro f hf names
    induction names with
    | nil => intro acc _; rfl
    | cons p r ih =>
      obtain ⟨n, k⟩ := p
      intro acc h
      rw [List.all_cons, Bool.and_eq_true] at h
      rw [List.forIn_cons, hf]
      unfold closOf
      by_cases hk : (k == .free) = true
      · rw [if_pos hk, if_pos hk]
        have h1 := h.1
        simp only [bne, hk, Bool.not_true, Bool.false_or] at h1
        obtain ⟨a, ha⟩ := Option.isSome_iff_exists.mp h1
        unfold cellOf
        rw [ha]
        exact ih _ h.2
      · rw [if_neg hk, if_neg hk]
        exact ih _ h.2
  simp only [closureFor]
  rw [key _ (fun name kind cs => by cases hk : kind == NameKind.free <;> simp) _ _ h]
  rfl
theorem closOf_look {env : Env} {y : Str} {a : Addr} (ha : env.cells.lookup y = some a) : ∀ (names : List (Str × NameKind)) (acc : List (Str × Addr)), ((y, NameKind.free) ∈ names ∧ acc.lookup y = none) ∨ acc.lookup y = some a → (closOf env names acc).lookup y = some a
  | [], acc, h => by
    rcases h with ⟨h, _⟩ | h
    · cases h
    · exact h
  | (n, k) :: r, acc, h => by
    unfold closOf
    by_cases hk : (k == .free) = true
    · rw [if_pos hk]
      refine closOf_look ha r _ ?_
      by_cases hn : y = n
      · subst hn
        exact .inr (by rw [ha]; simp)
      · have hb : (y == n) = false := by simpa using hn
        rw [List.lookup_cons, hb]
        rcases h with ⟨h, h'⟩ | h
        · rcases List.mem_cons.mp h with h | h
          · cases h; exact absurd rfl hn
          · exact .inl ⟨h, h'⟩
        · exact .inr h
    · rw [if_neg hk]
      refine closOf_look ha r _ ?_
      rcases h with ⟨h, h'⟩ | h
      · rcases List.mem_cons.mp h with h | h
        · cases h; simp at hk
        · exact .inl ⟨h, h'⟩
      · exact .inr h
theorem cellsFrom_skip {y : Str} : ∀ (names : List (Str × NameKind)) (n : Nat) (acc : List (Str × Addr)), (∀ p ∈ names, p.2 = .cell → p.1 ≠ y) → (cellsFrom n names acc).lookup y = acc.lookup y
  | [], _, _, _ => rfl
  | (m, k) :: r, n, acc, h => by
    unfold cellsFrom
    by_cases hk : (k == .cell) = true
    · rw [if_pos hk, cellsFrom_skip r _ _ fun p hp' => h p (.tail _ hp'), List.lookup_cons]
      have : (y == m) = false := by
        have := h (m, k) (.head _) (eq_of_beq hk)
        simpa using fun e => this e.symm
      rw [this]
    · rw [if_neg hk]; exact cellsFrom_skip r _ _ fun p hp' => h p (.tail _ hp')
theorem cellsFrom_own {x : Str} : ∀ (names : List (Str × NameKind)) (h : Heap) (acc : List (Str × Addr)), (x, NameKind.cell) ∈ names → ∃ a, (cellsFrom h.objs.size names acc).lookup x = some a ∧ h.objs.size ≤ a ∧ (pushCells h names).get? a = some (cellO none)
  | [], _, _, hm => by cases hm
  | (m, k) :: r, h, acc, hm => by
    unfold cellsFrom pushCells
    by_cases hk : (k == .cell) = true
    · rw [if_pos hk, if_pos hk]
      have hsz : (h.push (cellO none)).objs.size = h.objs.size + 1 := by simp
      by_cases hr : (x, NameKind.cell) ∈ r
      · have := cellsFrom_own r (h.push (cellO none)) ((m, h.objs.size) :: acc) hr
        rw [hsz] at this
        obtain ⟨a, h1, h2, h3⟩ := this
        exact ⟨a, h1, Nat.le_of_succ_le h2, h3⟩
      · rcases List.mem_cons.mp hm with e | e
        · cases e
          refine ⟨h.objs.size, ?_, Nat.le_refl _, pushCells_keeps _ _ _ _ (Heap.get?_push_size _ rfl)⟩
          rw [cellsFrom_skip r _ _ fun p hp' hc he => hr (by obtain ⟨p1, p2⟩ := p; simp only at hc he; subst hc; subst he; exact hp')]
          simp
        · exact absurd e hr
    · rw [if_neg hk, if_neg hk]
      rcases List.mem_cons.mp hm with e | e
      · cases e; simp at hk
      · exact cellsFrom_own r h acc e

/-- the environment of a comprehension -/
abbrev cEnv (scope : Scope) (C : Addr) (env : Env) : Env := compEnvC scope (cellsFrom (C + 1) scope.names (closOf env scope.names [])) C env
/-- names that a comprehension takes from around it -/
def Cap (env : Env) (scope : Scope) (ys : List Str) : Bool :=
  ys.all fun y => scope.names.lookup y == some .free && (env.kindOf y == some .cell || env.kindOf y == some .free) && y != ("__classdict__" : Str) && scope.names.all (fun p => p.2 != .cell || p.1 != y)
theorem relabel_free {env : Env} {y : Str} : ∀ {names : List (Str × NameKind)}, names.lookup y = some .free →
    (names.map fun (n, k) => if (k == NameKind.free && env.scope.kind == .function && env.kindOf n == some .cell) then (n, NameKind.cell) else (n, k)).lookup y =
      (if (env.scope.kind == .function && env.kindOf y == some .cell) then some .cell else some .free)
  | [], h => by simp at h
  | (n, k) :: r, h => by
    have ih := @relabel_free env y r
    show List.lookup y ((if (k == NameKind.free && env.scope.kind == .function && env.kindOf n == some .cell) = true then (n, NameKind.cell) else (n, k)) :: _) = _
    cases hx : y == n with
    | true =>
      simp only [List.lookup_cons, hx] at h
      cases h
      rw [← eq_of_beq hx]
      cases h1 : (env.scope.kind == .function && env.kindOf y == some .cell) <;> simp [h1, List.lookup_cons]
    | false =>
      simp only [List.lookup_cons, hx] at h
      by_cases hc : (k == NameKind.free && env.scope.kind == .function && env.kindOf n == some .cell) = true
      · rw [if_pos hc]; simp only [List.lookup_cons, hx]; exact ih h
      · rw [if_neg hc]; simp only [List.lookup_cons, hx]; exact ih h
theorem relabel_cell {env : Env} {y : Str} : ∀ {names : List (Str × NameKind)}, names.lookup y = some .cell →
    (names.map fun (n, k) => if (k == NameKind.free && env.scope.kind == .function && env.kindOf n == some .cell) then (n, NameKind.cell) else (n, k)).lookup y = some .cell
  | [], h => by simp at h
  | (n, k) :: r, h => by
    have ih := @relabel_cell env y r
    show List.lookup y ((if (k == NameKind.free && env.scope.kind == .function && env.kindOf n == some .cell) = true then (n, NameKind.cell) else (n, k)) :: _) = _
    cases hx : y == n with
    | true =>
      simp only [List.lookup_cons, hx] at h
      cases h
      simp [List.lookup_cons, hx]
    | false =>
      simp only [List.lookup_cons, hx] at h
      by_cases hc : (k == NameKind.free && env.scope.kind == .function && env.kindOf n == some .cell) = true
      · rw [if_pos hc]; simp only [List.lookup_cons, hx]; exact ih h
      · rw [if_neg hc]; simp only [List.lookup_cons, hx]; exact ih h
theorem lookup_mem {ρ : List (Str × D)} {y : Str} {d : D} (h : ρ.lookup y = some d) : y ∈ ρ.map (·.1) := List.mem_map.mpr ⟨(y, d), mem_of_lookup h, rfl⟩
theorem frm_cap {c : Wd} {env : Env} {g : PH} {ρ : List (Str × D)} {scope : Scope} {C : Addr} (he : EnvOk env) (f : Frm c env g ρ) (hc : Cap env scope (ρ.map (·.1)) = true) : Frm c (cEnv scope C env) g ρ := fun y d e => by
  obtain ⟨v, l, a⟩ := f y d e
  refine ⟨v, ?_, a⟩
  have h := List.all_eq_true.mp hc y (lookup_mem e)
  simp only [Bool.and_eq_true, beq_iff_eq, Bool.or_eq_true, bne_iff_ne, ne_eq] at h
  obtain ⟨⟨⟨h1, h2⟩, h3⟩, h4⟩ := h
  have hcells : (cellsFrom (C + 1) scope.names (closOf env scope.names [])).lookup y = (closOf env scope.names []).lookup y := cellsFrom_skip _ _ _ fun p hp' hc he => by
    have := List.all_eq_true.mp h4 p hp'
    rw [hc] at this
    simp at this
    exact this he
  have hk : (cEnv scope C env).kindOf y = if (env.scope.kind == .function && env.kindOf y == some .cell) then some .cell else some .free := relabel_free h1
  have hfn : env.scope.kind = .function := he.kind
  rcases l with ⟨l1, _⟩ | ⟨l1, ca, o, l2, l3, l4⟩
  · rw [l1] at h2; simp at h2
  · have hlook : (cEnv scope C env).cells.lookup y = some ca := by
      show (cellsFrom (C + 1) scope.names (closOf env scope.names [])).lookup y = _
      rw [hcells]
      exact closOf_look l2 _ _ (.inl ⟨mem_of_lookup h1, rfl⟩)
    refine .inr ⟨?_, ca, o, hlook, l3, l4⟩
    rw [hk, hfn]
    rcases h2 with h2 | h2
    · rw [h2]; exact .inl rfl
    · rw [h2]; exact .inr ⟨rfl, by simpa using h3⟩
theorem cEnv_ok {env : Env} {scope : Scope} {C : Addr} (he : EnvOk env) (hk : scope.kind = .function) : EnvOk (cEnv scope C env) := ⟨hk, he.gl, he.bl⟩
theorem frm_cons {c : Wd} {env : Env} {g : PH} {ρ : List (Str × D)} {x : Str} {v : Value} {d : D} (l : Loc env g x v) (a : At c g d v) (f : Frm c env g ρ) : Frm c env g ((x, d) :: ρ) := fun y d' e => by
  rw [List.lookup_cons] at e
  by_cases hy : (y == x) = true
  · rw [hy] at e; cases e; rw [eq_of_beq hy]; exact ⟨v, l, a⟩
  · rw [Bool.not_eq_true] at hy; rw [hy] at e; exact f y d' e
theorem Ev.frm {c : Wd} {A : Around} {env : Env} {g : PH} {ρ : List (Str × D)} {x : Str} {d : D} {pos : Pos} (f : Frm c env g ρ) (he : EnvOk env) (e : ρ.lookup x = some d) (hd : (x == ("__debug__" : Str)) = false := by decide) : Ev c A env g (.Name x pos) d :=
  let ⟨_, l, a⟩ := f x d e
  .name he l a hd
end Mine

/-! # I3 -/
namespace Mine
/-! ## comprehensions: the loop's state -/
/-- a comprehension's name space -/
def FrO (o : Obj) : Prop := o.cls = .type "dict" ∧ ∃ es ep, o.data = .dict es ep ∧ StrKeys es ∧ nsFind es "raw" = none
structure CS (c : Wd) (A : Around) (cenv : Env) (x : Str) (n0 : Nat) (I : Addr) (fp wr : List Addr) (n : Nat) (P : Nat → Value → Prop) (St : Nat → Heap → Prop) : Prop where
  W : Walks c.prog c.w A I fp wr n P St
  big : 208 < n0
  loc : cenv.locals = n0 + 1
  kind : cenv.scope.kind = .function
  tg : cenv.kindOf x = some .local ∨ (cenv.kindOf x = some .cell ∧ ∃ a, cenv.cells.lookup x = some a ∧ n0 + 1 < a)
  fpo : ∀ b ∈ fp, b ∉ tabA ∧ b < n0
  wro : ∀ b ∈ wr, 208 < b
  cls : ∀ i h, St i h → ∀ b ∈ wr, ∃ o, h.get? b = some o ∧ ¬ DataCls o.cls ∧ o.cls ≠ .type "code"
  xr : x ≠ "raw"
structure CI (c : Wd) (cenv : Env) (x : Str) (n0 : Nat) (wr : List Addr) (g2 : PH) (St : Nat → Heap → Prop) (i : Nat) (oD : Obj) (s : Shared) : Prop where
  ok : Ok c s
  keep : ∀ b o, b ∉ wr → b < n0 → g2 b = some o → hp s.heap b = some o
  st : St i s.heap
  acc : hp s.heap n0 = some oD
  dcl : DataCls oD.cls
  fr : ∃ o, hp s.heap (n0 + 1) = some o ∧ FrO o
  cel : ∀ a, cenv.kindOf x = some .cell → cenv.cells.lookup x = some a → ∃ w, hp s.heap a = some (cellO w)

section
variable {c : Wd} {A : Around} {cenv : Env} {x : Str} {n0 : Nat} {g2 : PH} {I : Addr} {fp wr : List Addr} {n : Nat} {P : Nat → Value → Prop} {St : Nat → Heap → Prop} {i : Nat} {oD : Obj} {s s' : Shared}

theorem CI.step (S : CS c A cenv x n0 I fp wr n P St) (T : CI c cenv x n0 wr g2 St i oD s) (ok : Ok c s') (k : Keep (hp s.heap) (hp s'.heap)) : CI c cenv x n0 wr g2 St i oD s' where
  ok := ok
  keep := fun b o h1 h2 e => k _ _ (T.keep b o h1 h2 e)
  st := S.W.frame _ _ _ T.st fun b hb o e => hp_get (k _ _ (hp_of e (S.fpo b hb).1))
  acc := k _ _ T.acc
  dcl := T.dcl
  fr := let ⟨o, e, r⟩ := T.fr; ⟨o, k _ _ e, r⟩
  cel := fun a h1 h2 => let ⟨w, e⟩ := T.cel a h1 h2; ⟨w, k _ _ e⟩

theorem CI.put (S : CS c A cenv x n0 I fp wr n P St) (T : CI c cenv x n0 wr g2 St i oD s) {oD' : Obj} (ok : Ok c s') (k : Keep (hide (hp s.heap) [n0]) (hp s'.heap)) (e : hp s'.heap n0 = some oD') (hd : DataCls oD'.cls) : CI c cenv x n0 wr g2 St i oD' s' where
  ok := ok
  keep := fun b o h1 h2 e => k _ _ (hide_of (T.keep b o h1 h2 e) (by simp; exact fun q => Nat.ne_of_lt h2 q))
  st := S.W.frame _ _ _ T.st fun b hb o e => hp_get (k _ _ (hide_of (hp_of e (S.fpo b hb).1) (by simp; exact fun q => Nat.ne_of_lt (S.fpo b hb).2 q)))
  acc := e
  dcl := hd
  fr := let ⟨o, e, r⟩ := T.fr; ⟨o, k _ _ (hide_of e (by simp)), r⟩
  cel := fun a h1 h2 => let ⟨w, e0⟩ := T.cel a h1 h2; ⟨w, k _ _ (hide_of e0 (by
    simp
    intro q
    rw [q, T.acc] at e0; cases e0
    have := T.dcl
    exact (DataCls.frame this).2.1 rfl))⟩

/-- the iterator moves on -/
theorem CI.move (S : CS c A cenv x n0 I fp wr n P St) (T : CI c cenv x n0 wr g2 St i oD s) {h' : Heap} {tk : Nat} {j : Nat} {St' : Nat → Heap → Prop} (hst : St' j h') (hk : ∀ b o, b ∉ wr → s.heap.get? b = some o → h'.get? b = some o) :
    CI c cenv x n0 wr g2 St' j oD { s with heap := h', toks := tk } ∧ KeepD (hp s.heap) (hp h') := by
  have hcs := S.cls i _ T.st
  have low : ∀ b : Nat, b ≤ 208 → b ∉ wr := fun b hb hm => absurd (S.wro b hm) (Nat.not_lt_of_le hb)
  have data : KeepD (hp s.heap) (hp h') := fun b o e hd => hp_of (hk b o (fun hm => by
    obtain ⟨o', e', h1, _⟩ := hcs b hm
    rw [hp_get e] at e'; cases e'; exact h1 hd) (hp_get e)) (hp_off e)
  have hnw : n0 ∉ wr := fun hm => absurd (S.fpo _ (S.W.sub _ hm)).2 (Nat.lt_irrefl _)
  have up : ∀ b, n0 ≤ b → b ∉ wr := fun b hb hm => absurd (S.fpo _ (S.W.sub _ hm)).2 (Nat.not_lt_of_le hb)
  have mv : ∀ b o, b ∉ wr → hp s.heap b = some o → hp h' b = some o := fun b o hb e => hp_of (hk b o hb (hp_get e)) (hp_off e)
  refine ⟨⟨⟨T.ok.inv.step (fun b o hb _ e => hk b o (low b hb) e) (fun P hP => ?_) (fun b o hb hcl e => hk b o (fun hm => ?_) e) ?_, T.ok.gens, T.ok.os⟩, fun b o h1 h2 e => mv b o h1 (T.keep b o h1 h2 e), hst, mv _ _ hnw T.acc, T.dcl, ?_, fun a h1 h2 => ?_⟩, data⟩
  · obtain ⟨ps, e⟩ := T.ok.inv.tab P hP
    rw [e, hk P _ (low P (by unfold tabA at hP; simp only [List.mem_cons, List.not_mem_nil, or_false] at hP; rcases hP with rfl | rfl | rfl <;> omega)) e]
  · obtain ⟨o', e', _, h2⟩ := hcs b hm
    rw [e] at e'; cases e'; exact h2 hcl
  · exact Nat.lt_trans S.big (Heap.lt_size (hk _ _ hnw (hp_get T.acc)))
  · obtain ⟨o, e, r⟩ := T.fr
    exact ⟨o, mv _ _ (up _ (Nat.le_succ _)) e, r⟩
  · obtain ⟨w, e⟩ := T.cel a h1 h2
    rcases S.tg with h | ⟨h, a', h3, h4⟩
    · rw [h] at h1; cases h1
    · rw [h2] at h3; cases h3
      exact ⟨w, mv _ _ (up _ (Nat.le_of_lt (Nat.lt_trans (Nat.lt_succ_self _) h4))) e⟩

/-- the item is stored -/
theorem CI.store (S : CS c A cenv x n0 I fp wr n P St) (T : CI c cenv x n0 wr g2 St i oD s) {v : Value} {E : Value → Shared → Prop} {Q : Unit → Shared → Prop}
    (q : ∀ s', CI c cenv x n0 wr g2 St i oD s' → Loc cenv (hp s'.heap) x v → KeepD (hide (hp s.heap) [n0 + 1]) (hide (hp s'.heap) [n0 + 1]) → Q () s') : wpAny c.M A (storeName cenv x v) Q E s := by
  rcases S.tg with hx | ⟨hx, a, ha, hlt⟩
  · obtain ⟨o, e1, e2, es, ep, e3, e4, e5⟩ := T.fr
    have hp' : (cenv.scope.kind == .class || (cenv.scope.kind == .module && cenv.locals != cenv.globals)) = false := by rw [S.kind]; rfl
    rw [storeName_local hx hp', S.loc]
    refine nsSet_k (hp_get e1) e3 e4 fun h' o' es' ep' f1 f2 f3 f4 f5 hs => ?_
    have hb : 208 < n0 + 1 := Nat.lt_succ_of_lt S.big
    have f1' : hp h' (n0 + 1) = some o' := hp_of f1 (not_tab hb)
    refine q _ ⟨⟨T.ok.inv.sameBut hs hb (hp_get e1) (by rw [e2]; decide), T.ok.gens, T.ok.os⟩, fun b o h1 h2 e => sameBut_hp hs (T.keep b o h1 h2 e) (Nat.ne_of_lt (Nat.lt_succ_of_lt h2)), S.W.frame _ _ _ T.st fun b hb o e => (hs.2 b (Nat.ne_of_lt (Nat.lt_succ_of_lt (S.fpo b hb).2))).trans e,
      sameBut_hp hs T.acc (Nat.ne_of_lt (Nat.lt_succ_self _)), T.dcl, ⟨o', f1', f2.trans e2, es', ep', f3, f4, by rw [f5, if_neg fun q => S.xr q.symm]; exact e5⟩, fun a h1 h2 => by rw [hx] at h1; cases h1⟩ (.inl ⟨hx, o', es', ep', by rw [S.loc]; exact f1', f3, f4, by rw [f5, if_pos rfl]⟩) fun b ob eb _ => hide_of (sameBut_hp hs (hide_get eb) (by simpa using hide_off eb)) (hide_off eb)
  · obtain ⟨w, e⟩ := T.cel a hx ha
    unfold storeName
    simp only [hx, S.kind]
    refine wpAny_bind (wpAny_cellOf ha (cellSet_k (hp_get e) rfl fun h' f1 hs => ?_))
    have hb : 208 < a := Nat.lt_trans S.big (Nat.lt_trans (Nat.lt_succ_self _) hlt)
    have f1' : hp h' a = some (cellO (some v)) := hp_of f1 (not_tab hb)
    obtain ⟨o, e1, r⟩ := T.fr
    refine q _ ⟨⟨T.ok.inv.sameBut hs hb (hp_get e) (show Value.type "cell" ≠ _ by decide), T.ok.gens, T.ok.os⟩, fun b o h1 h2 e => sameBut_hp hs (T.keep b o h1 h2 e) (Nat.ne_of_lt (Nat.lt_trans (Nat.lt_succ_of_lt h2) hlt)), S.W.frame _ _ _ T.st fun b hb o e => (hs.2 b (Nat.ne_of_lt (Nat.lt_trans (Nat.lt_succ_of_lt (S.fpo b hb).2) hlt))).trans e,
      sameBut_hp hs T.acc (Nat.ne_of_lt (Nat.lt_trans (Nat.lt_succ_self _) hlt)), T.dcl, ⟨o, sameBut_hp hs e1 (Nat.ne_of_lt hlt), r⟩, fun a' h1 h2 => by rw [ha] at h2; cases h2; exact ⟨_, f1'⟩⟩ (.inr ⟨.inl hx, a, _, ha, f1', rfl⟩) fun b ob eb hd => hide_of (sameBut_hp hs (hide_get eb) fun q => by
        subst q
        rw [hide_get eb] at e; cases e
        exact (DataCls.frame hd).2.1 rfl) (hide_off eb)
end

/-! ## what a comprehension may gather -/
inductive Elt : D → Prop
  | atom (d : D) (h : d.atom = true) : Elt d
  | nums (ns : List Int) (h : ns ≠ []) : Elt (.ints ns)
  | lead (cnt : List Int) (b n nt : Int) (simple : Bool) : Elt (leadD cnt b n nt simple)
  | dict (kvs : List (Int × Int)) (h : kvs ≠ []) : Elt (.dict kvs)
  | row (r : Int × Int × Int) : Elt (.row r)
theorem atAll_ints_any {c : Wd} {g g' : PH} {ns : List Int} {vs : List Value} (h : AtAll c g (ns.map .int) vs) : AtAll c g' (ns.map .int) vs := IntsAre.atAll h.ints
theorem strKeys_int {c : Wd} {o : Obj} {es : Array DictEntry} {ep : Nat} {kvs : List (Int × Int)} {vs : List (Int × Value)} (hd : o.data = .dict es ep) (hs : StrKeys es) (hD : o.IsDictOf (intKind c.prog c.w) vs) (hI : IVals kvs vs) (hne : kvs ≠ []) : False := by
  obtain ⟨es', ep', h1, h2, h3, h4, _⟩ := hD
  rw [hd] at h2
  cases h2
  cases kvs with
  | nil => exact hne rfl
  | cons kv r =>
    cases vs with
    | nil => exact hI.elim
    | cons v r' =>
      cases he : es.toList with
      | nil => rw [he] at h4; cases h4
      | cons e l =>
        have hm : e ∈ es := by rw [← Array.mem_toList_iff, he]; exact .head _
        obtain ⟨n, t, hk⟩ := hs e hm
        obtain ⟨k, hk', _⟩ := h3 e hm
        rw [hk] at hk'
        cases hk'
theorem lead_raw {h1 h2 h3 h4 h5 : Int} {t1 t2 t3 t4 t5 : Tok} {v1 v2 v3 v4 v5 : Value} : nsFind (leadEs h1 h2 h3 h4 h5 t1 t2 t3 t4 t5 v1 v2 v3 v4 v5).toArray "raw" = some v1 := by
  unfold leadEs nsFind findBy
  simp [Value.isStr]
theorem Elt.hide {c : Wd} {g : PH} {d : D} {v : Value} {D' C : Addr} {ys : Array Value} {m : Nat} {oC : Obj} (e : Elt d) (a : At c g d v) (hD : g D' = some (lsO ys m)) (hC : g C = some oC) (hF : FrO oC) (hni : (∃ ns, d = .ints ns) → ∀ y ∈ ys.toList, ∀ i t, y ≠ Value.int i t) : At c (hide g [D', C]) d v := by
  obtain ⟨hc, es, ep, hd, hs, hr⟩ := hF
  have off : ∀ (b : Addr) (o : Obj), g b = some o → o.cls ≠ .type "list" → o.cls ≠ .type "dict" → b ∉ [D', C] := fun b o eb n1 n2 hm => by
    simp only [List.mem_cons, List.not_mem_nil, or_false] at hm
    rcases hm with rfl | rfl
    · rw [hD] at eb; cases eb; exact n1 rfl
    · rw [hC] at eb; cases eb; exact n2 hc
  have offC : ∀ (b : Addr) (o : Obj), g b = some o → o.cls ≠ .type "list" → b ≠ C → b ∉ [D', C] := fun b o eb n1 n2 hm => by
    simp only [List.mem_cons, List.not_mem_nil, or_false] at hm
    rcases hm with rfl | rfl
    · rw [hD] at eb; cases eb; exact n1 rfl
    · exact n2 rfl
  cases e with
  | atom _ h => exact a.atom _ h
  | nums ns hne =>
    obtain ⟨b, vs, n, rfl, eb, r⟩ := at_list.mp a
    refine at_list.mpr ⟨b, vs, n, rfl, hide_of eb fun hm => ?_, atAll_ints_any r⟩
    simp only [List.mem_cons, List.not_mem_nil, or_false] at hm
    rcases hm with rfl | rfl
    · rw [hD] at eb; cases eb
      cases ns with
      | nil => exact hne rfl
      | cons i ns =>
        obtain ⟨v, r', hv, h1, _⟩ := atAll_cons.mp r
        obtain ⟨t, rfl⟩ := at_int.mp h1
        exact hni ⟨_, rfl⟩ _ (by rw [hv]; exact .head _) i t rfl
    · rw [hC] at eb; cases eb
      exact absurd (show Value.type "list" = .type "dict" from hc) (by decide)
  | lead cnt b n nt simple =>
    unfold At at a ⊢
    obtain ⟨x, dx, h1, h2, h3, h4, h5, t1, t2, t3, t4, t5, v1, n', nt', v4, kk, e1, e0, e2, e3, r⟩ := a
    refine ⟨x, dx, h1, h2, h3, h4, h5, t1, t2, t3, t4, t5, v1, n', nt', v4, kk, e1, e0, hide_of e2 (off _ _ e2 (by show Value.ref cWs ≠ _; decide) (by show Value.ref cWs ≠ _; decide)), hide_of e3 (offC _ _ e3 (by show Value.type "dict" ≠ _; decide) fun q => ?_), ?_⟩
    · rw [q, hC] at e3; cases e3
      cases hd
      rw [lead_raw] at hr; cases hr
    · obtain ⟨b, vs, n, rfl, eb, r⟩ := at_tup.mp r
      obtain ⟨w1, w2, hv, b1, b2⟩ := all_inv2 r
      obtain ⟨b', vs', n', rfl, eb', r'⟩ := at_tup.mp b1
      refine at_tup.mpr ⟨b, vs, n, rfl, hide_of eb (off _ _ eb (by show Value.type "tuple" ≠ _; decide) (by show Value.type "tuple" ≠ _; decide)), ?_⟩
      rw [hv]
      exact all_cons (at_tup.mpr ⟨b', vs', n', rfl, hide_of eb' (off _ _ eb' (by show Value.type "tuple" ≠ _; decide) (by show Value.type "tuple" ≠ _; decide)), atAll_ints_any r'⟩) (all1 (b2.atom _ rfl))
  | dict kvs hne =>
    obtain ⟨b, o, vs, rfl, eb, hb, hO, hI⟩ := at_dict.mp a
    refine at_dict.mpr ⟨b, o, vs, rfl, hide_of eb (offC _ _ eb (by rw [IsDictOf.cls hO]; decide) fun q => ?_), hb, hO, hI⟩
    rw [q, hC] at eb; cases eb
    exact strKeys_int hd hs hO hI hne
  | row r =>
    obtain ⟨b, vs, n, rfl, eb, r'⟩ := at_tup.mp a
    obtain ⟨w1, w2, w3, hv, b1, b2, b3⟩ := all_inv3 r'
    refine at_tup.mpr ⟨b, vs, n, rfl, hide_of eb (off _ _ eb (by show Value.type "tuple" ≠ _; decide) (by show Value.type "tuple" ≠ _; decide)), ?_⟩
    rw [hv]
    exact all_cons (b1.atom _ rfl) (all_cons (b2.atom _ rfl) (all1 (b3.atom _ rfl)))
end Mine

/-! # I4 -/
namespace Mine
/-- a comprehension's tests -/
def TIf (c : Wd) (A : Around) (env : Env) (g : PH) (ifs : List Expr) (b : Bool) : Prop :=
  ∀ s Q E, Ok c s → Keep g (hp s.heap) → (∀ s', Ok c s' → Keep (hp s.heap) (hp s'.heap) → Q b s') →
    wpAny c.M A (forIn ifs true fun c r => if r = true then do let ok ← isTrue c env (eval c env); pure (ForInStep.yield ok) else pure (ForInStep.yield r)) Q E s
theorem TIf.nil {c : Wd} {A : Around} {env : Env} {g : PH} : TIf c A env g [] true := fun s Q E ok k q => wpAny_tests_nil (q s ok (Keep.refl _))
theorem TIf.one {c : Wd} {A : Around} {env : Env} {g : PH} {t : Expr} {b : Bool} (h : Te c A env g t b) : TIf c A env g [t] b := fun s Q E ok k q => wpAny_tests_one (wpAny_mono (h s _ ok k q) (fun _ _ x => x) fun _ _ x => x.elim)

/-- the heap behind a new comprehension's environment -/
theorem comp_env {c : Wd} {A : Around} {env : Env} {scope : Scope} {s : Shared} {E : Value → Shared → Prop} {Q : Env → Shared → Prop} {cl : List (Str × Addr)}
    (q : Q { newEnv scope s.heap.objs.size env.globals (cellsFrom (s.heap.objs.size + 1) scope.names cl) env.qual none .none (some env) builtinsNs with scope := scope } { s with heap := pushCells (s.heap.push emptyDict) scope.names }) :
    wpAny c.M A (newFunctionEnv scope env.globals cl [] env.qual none .none (some env)) Q E s := by
  simp only [newFunctionEnv, Option.isSome_some, if_true]
  refine wpAny_bind (wpAny_alloc ?_)
  refine wpAny_bind (wpAny_layCells _ (fun name kind cells => ?_) _ _ _ _ ?_)
  · cases kind <;> rfl
  simp only [Heap.size_push]
  simp only [List.forIn_nil]
  exact wpAny_bind (wpAny_pure (wpAny_pure q))

section
variable {c : Wd} {A : Around} {env : Env} {g g₁ : PH} {pos : Pos} {s : Shared}

/-- what stands when a comprehension begins -/
def CB (c : Wd) (A : Around) (env : Env) (scope : Scope) (x : Str) (ds : List D) (s0 s2 : Shared) (oD : Obj) (I : Addr) : Prop :=
  ∃ fp wr P St, CS c A (cEnv scope (s2.heap.objs.size + 1) env) x s2.heap.objs.size I fp wr ds.length P St ∧
    CI c (cEnv scope (s2.heap.objs.size + 1) env) x s2.heap.objs.size wr (hp s2.heap) St 0 oD { s2 with heap := pushCells ((s2.heap.push oD).push emptyDict) scope.names } ∧
    (∀ b o, hp s0.heap b = some o → b ∉ wr ∧ hp s2.heap b = some o ∧ b < s2.heap.objs.size) ∧
    (∀ i v, P i v → ∃ d, ds[i]? = some d ∧ ∀ s : Shared, (∀ b o, b ∉ wr → b < s2.heap.objs.size → hp s2.heap b = some o → hp s.heap b = some o) → At c (hp s.heap) d v)

theorem comp_begin {scope : Scope} {x : Str} {iter : Expr} {dit : D} {ds : List D} {oD : Obj} (ok : Ok c s) (k : Keep g (hp s.heap)) (he : EnvOk env) (ev : Ev c A env g iter dit) (hit : ∀ g v, At c g dit v → Iter c A g v ds)
    (hk : scope.kind = .function) (hx : scope.names.lookup x = some .local ∨ scope.names.lookup x = some .cell) (xr : x ≠ "raw") (hdc : DataCls oD.cls) (hfr : oD.isFreed = false) {Q : Value → Shared → Prop}
    (q : ∀ I s2, CB c A env scope x ds s s2 oD I → Ok c s2 → Keep (hp s.heap) (hp s2.heap) → Q (.ref I) s2) : Rn c A (eval iter env) (fun xv s₁ => wpAny c.M A (pyIter xv) Q (fun _ _ => False) s₁) s := by
  refine ev s _ ok k fun v s1 ok1 k1 a1 => ?_
  refine hit _ v a1 s1 _ ok1 (Keep.refl _) fun I fp wr P St h' W st0 ok2 k2 hwr hfp hcl hP => ?_
  refine q I _ ?_ ok2 (k1.trans k2)
  have hbig : 208 < h'.objs.size := ok2.inv.big
  have hb1 : 208 < s1.heap.objs.size := ok1.inv.big
  have nwr : ∀ b o, hp s1.heap b = some o → b ∉ wr := fun b o e hm => absurd (hwr b hm) (Nat.not_le_of_lt (Heap.lt_size (hp_get e)))
  have kp : ∀ b o, h'.get? b = some o → (pushCells ((h'.push oD).push emptyDict) scope.names).get? b = some o := fun b o e => pushCells_keeps _ _ _ _ (Heap.get?_push_of_some _ (Heap.get?_push_of_some _ e))
  have hszz : ((h'.push oD).push emptyDict).objs.size = h'.objs.size + 2 := by simp
  have hsz1 : (h'.push oD).objs.size = h'.objs.size + 1 := by simp
  have tg : (cEnv scope (h'.objs.size + 1) env).kindOf x = some .local ∨ ((cEnv scope (h'.objs.size + 1) env).kindOf x = some .cell ∧ ∃ a, (cEnv scope (h'.objs.size + 1) env).cells.lookup x = some a ∧ h'.objs.size + 1 < a ∧ (pushCells ((h'.push oD).push emptyDict) scope.names).get? a = some (cellO none)) := by
    rcases hx with hx | hx
    · exact .inl (lookup_relabel_local hx)
    · have := cellsFrom_own scope.names ((h'.push oD).push emptyDict) (closOf env scope.names []) (mem_of_lookup hx)
      rw [hszz] at this
      obtain ⟨a, h1, h2, h3⟩ := this
      exact .inr ⟨relabel_cell hx, a, h1, h2, h3⟩
  refine ⟨fp, wr, P, St, ⟨W, hbig, rfl, hk, ?_, fun b hb => ?_, fun b hb => Nat.lt_of_lt_of_le hb1 (hwr b hb), hcl, xr⟩, ⟨(ok2.all (tk := s1.toks) kp), fun b o _ _ e => keep_all kp _ _ e, W.frame _ _ _ st0 fun b _ o e => kp b o e, ?_, hdc, ?_, fun a h1 h2 => ?_⟩, fun b o e => ?_, fun i v hv => ?_⟩
  · rcases tg with h | ⟨h, a, h1, h2, _⟩
    · exact .inl h
    · exact .inr ⟨h, a, h1, h2⟩
  · rcases hfp b hb with hw | ⟨o, e, _⟩
    · obtain ⟨o, e, _⟩ := hcl 0 _ st0 b hw
      exact ⟨not_tab (Nat.lt_of_lt_of_le hb1 (hwr b hw)), Heap.lt_size e⟩
    · exact ⟨hp_off e, Heap.lt_size (hp_get (k2 _ _ e))⟩
  · exact hp_of (pushCells_keeps _ _ _ _ (Heap.get?_push_of_some _ (Heap.get?_push_size _ hfr))) (not_tab hbig)
  · refine ⟨emptyDict, hp_of (pushCells_keeps _ _ _ _ ?_) (not_tab (Nat.lt_succ_of_lt hbig)), rfl, #[], 0, rfl, fun e he => by simp at he, rfl⟩
    rw [← hsz1]
    exact Heap.get?_push_size _ rfl
  · rcases tg with h | ⟨h, a', h3, h4, h5⟩
    · rw [h] at h1; cases h1
    · rw [h2] at h3; cases h3
      exact ⟨none, hp_of h5 (not_tab (Nat.lt_trans (Nat.lt_succ_of_lt hbig) h4))⟩
  · have e1 := k1 _ _ e
    exact ⟨nwr _ _ e1, k2 _ _ e1, Heap.lt_size (hp_get (k2 _ _ e1))⟩
  · obtain ⟨d, hd, ad⟩ := hP i v hv
    exact ⟨d, hd, fun s hs => ad.mono fun b o e => hs b o (nwr b o e) (Heap.lt_size (hp_get (k2 _ _ e))) (k2 _ _ e)⟩

/-- a comprehension's items: what it keeps, what it makes of each -/
structure Items (c : Wd) (A : Around) (env : Env) (scope : Scope) (x : Str) (ρ : List (Str × D)) (ifs : List Expr) (elt : Expr) (ds : List D) (p : D → Bool) (f : D → D) : Prop where
  run : ∀ C g d, d ∈ ds → EnvOk (cEnv scope C env) → Frm c (cEnv scope C env) g ((x, d) :: ρ) → TIf c A (cEnv scope C env) g ifs (p d) ∧ (p d = true → Ev c A (cEnv scope C env) g elt (f d))
  elt : ∀ d ∈ ds, p d = true → Elt (f d)
  sep : (∀ d ∈ ds, p d = true → ∀ ns, f d ≠ .ints ns) ∨ (∀ d ∈ ds, p d = true → ∃ ns, f d = .ints ns)
  sz : ds.length ≤ 1000

theorem At.noInt {c : Wd} {g : PH} {ns : List Int} {v : Value} (h : At c g (.ints ns) v) : ∀ i t, v ≠ Value.int i t := by
  obtain ⟨a, vs, n, rfl, _⟩ := at_list.mp h
  intro i t h; cases h
theorem AtAll.mem {c : Wd} {g : PH} : ∀ {ds : List D} {vs : List Value} {v : Value}, AtAll c g ds vs → v ∈ vs → ∃ d ∈ ds, At c g d v
  | [], _, _, h, hm => by rw [atAll_nil.mp h] at hm; cases hm
  | d :: ds, _, _, h, hm => by
    obtain ⟨v, r, rfl, h1, h2⟩ := atAll_cons.mp h
    rcases List.mem_cons.mp hm with rfl | hm
    · exact ⟨d, .head _, h1⟩
    · obtain ⟨d', m, a⟩ := AtAll.mem h2 hm
      exact ⟨d', .tail _ m, a⟩

theorem comp_list {scope : Scope} {x : Str} {px ip : Pos} {iter elt : Expr} {ifs : List Expr} {dit : D} {ds : List D} {ρ : List (Str × D)} {p : D → Bool} {f : D → D} {use : Option (Value → Sem Unit)} {Q : Value → Shared → Prop}
    (ok : Ok c s) (k : Keep g (hp s.heap)) (he : EnvOk env) (fr : Frm c env g ρ) (ev : Ev c A env g iter dit) (hit : ∀ g v, At c g dit v → Iter c A g v ds) (hI : Items c A env scope x ρ ifs elt ds p f)
    (q : ∀ D' C s4, Ok c s4 → Keep (hp s.heap) (hp s4.heap) → (∀ b o, hp s.heap b = some o → b ≠ C ∧ b ≠ D') → 208 < C → (∃ o, hp s4.heap C = some o ∧ FrO o) → At c (hide (hp s4.heap) [C]) (.list ((ds.filter p).map f)) (.ref D') → compPost c.M A (fun _ _ => False) use Q (.ref D') C (.ok .next) s4)
    (hcap : Cap env scope (ρ.map (·.1)) = true) (hx : scope.names.lookup x = some .local ∨ scope.names.lookup x = some .cell) (xr : x ≠ "raw")
    (hfree : (scope.names.all fun p => p.2 != .free || (env.cells.lookup p.1).isSome) = true) (hk : scope.kind = .function)
    (hnames : (scope.names.all fun y => y.2 != .local || scope.names.lookup y.1 == some .local) = true)
    (hs : ∀ x, foldedSetIterable iter env x = pure x) :
    Rn c A (comprehension (.ListComp elt [⟨.Name x px, iter, ifs, 0⟩] scope pos) scope env ip (newList []) false (eval iter env) use) Q s := by
  refine wpAny_comprehension_free (cl := closOf env scope.names []) rfl hs (closureFor_eq hfree) hk (fun y hy hl => ?_) ?_
  · have := List.all_eq_true.mp hnames y hy
    rw [hl] at this
    simpa using this
  refine wpAny_mono (comp_begin (x := x) (oD := lsO #[] 0) ok k he ev hit hk hx xr DataCls.list rfl (Q := fun it s2 => ∃ I, it = .ref I ∧ CB c A env scope x ds s s2 (lsO #[] 0) I ∧ Ok c s2 ∧ Keep (hp s.heap) (hp s2.heap)) fun I s2 cb ok2 k2 => ⟨I, rfl, cb, ok2, k2⟩) (fun xv s1 h1 => wpAny_mono h1 (fun it s2 h2 => ?_) fun _ _ e => e.elim) fun _ _ e => e.elim
  obtain ⟨I, rfl, ⟨fp, wr, P, St, S, T0, hold, hP⟩, ok2, k2⟩ := h2
  refine wpAny_newObj_type (comp_env ?_)
  have hsz1 : (s2.heap.push (lsO #[] 0)).objs.size = s2.heap.objs.size + 1 := by simp
  show codeAny c.M A (.compStart (.ListComp elt [⟨.Name x px, iter, ifs, 0⟩] scope pos) 0 (.ref I) (.ref s2.heap.objs.size) _) _ _
  simp only [Heap.size_push]
  have loop : codeAny c.M A (.compLoop (.ListComp elt [⟨.Name x px, iter, ifs, 0⟩] scope pos) 0 (.ref I) (.ref s2.heap.objs.size) (cEnv scope (s2.heap.objs.size + 1) env))
      (compPost c.M A (fun _ _ => False) use Q (.ref s2.heap.objs.size) (s2.heap.objs.size + 1)) { s2 with heap := pushCells ((s2.heap.push (lsO #[] 0)).push emptyDict) scope.names } := by
    generalize hn0 : s2.heap.objs.size = n0 at S T0 hold hP ⊢
    generalize hcenv : cEnv scope (n0 + 1) env = cenv at S T0 ⊢
    have keepg : ∀ i oD s', CI c cenv x n0 wr (hp s2.heap) St i oD s' → Keep (hp s.heap) (hp s'.heap) := fun i oD s' T b o e => by
      obtain ⟨h1, h2, h3⟩ := hold b o e
      exact T.keep b o h1 h3 h2
    refine codeAny_compLoop_tests (fun j s' => ∃ i ys m, j = ds.length - i ∧ i ≤ ds.length ∧ CI c cenv x n0 wr (hp s2.heap) St i (lsO ys m) s' ∧ AtAll c (hide (hp s'.heap) [n0, n0 + 1]) (((ds.take i).filter p).map f) ys.toList) ?_ ds.length ⟨0, #[], 0, by omega, by omega, T0, by simpa using all_nil⟩
    rintro j s3 ⟨i, ys, m, rfl, hi, T, ha⟩
    rcases Nat.lt_or_ge i ds.length with hlt | hge
    · refine S.W.item i s3 _ _ hlt T.st fun v h1 tk hv hst hk1 => ?_
      obtain ⟨d, hd, ad⟩ := hP i v hv
      obtain ⟨T1, kd1⟩ := T.move S (tk := tk) hst hk1
      refine wpAny_assign_Name (T1.store S fun s4 T4 l4 kd4 => ?_)
      have hmem : d ∈ ds := List.mem_of_getElem? hd
      have ad4 : At c (hp s4.heap) d v := ad s4 T4.keep
      have he4 : EnvOk cenv := by rw [← hcenv]; exact cEnv_ok he hk
      have fr4 : Frm c cenv (hp s4.heap) ((x, d) :: ρ) := frm_cons l4 ad4 (by
        rw [← hcenv]
        exact frm_cap he (fr.mono (k.trans (keepg _ _ _ T4))) hcap)
      have ha4 : AtAll c (hide (hp s4.heap) [n0, n0 + 1]) (((ds.take i).filter p).map f) ys.toList := by
        refine ha.monoD fun b o e hdc => ?_
        have hb := hide_off e
        simp only [List.mem_cons, List.not_mem_nil, or_false, not_or] at hb
        have e1 := kd1 _ _ (hide_get e) hdc
        exact hide_of (hide_get (kd4 b o (hide_of e1 (by simpa using hb.2)) hdc)) (hide_off e)
      obtain ⟨ht, hel⟩ := by rw [← hcenv] at he4 fr4; exact hI.run _ _ d hmem he4 fr4
      rw [hcenv] at ht hel
      refine ht s4 _ _ T4.ok (Keep.refl _) fun s5 ok5 k5 => ?_
      have T5 := T4.step S ok5 k5
      have ha5 := ha4.mono (k5.hide _)
      have htake : (ds.take (i + 1)).filter p = (ds.take i).filter p ++ (if p d then [d] else []) := take_succ_filter p ds i d hd
      cases hpd : p d with
      | false =>
        rw [hpd] at htake
        simp only [Bool.false_eq_true, if_false]
        refine ⟨ds.length - (i + 1), by omega, i + 1, ys, m, rfl, hlt, T5, ?_⟩
        rw [htake]; simpa using ha5
      | true =>
        rw [hpd] at htake
        simp only [if_true]
        refine wpAny_mono (hel hpd s5 (fun v s6 => Ok c s6 ∧ Keep (hp s5.heap) (hp s6.heap) ∧ At c (hp s6.heap) (f d) v) ok5 k5 fun v s6 ok6 k6 a6 => ⟨ok6, k6, a6⟩) (fun y s6 h6 => ?_) fun _ _ e => e.elim
        obtain ⟨ok6, k6, a6⟩ := h6
        have T6 := T5.step S ok6 k6
        have ha6 := ha5.mono (k6.hide _)
        obtain ⟨oC, eC, hF⟩ := T6.fr
        have a6' : At c (hide (hp s6.heap) [n0, n0 + 1]) (f d) y := (hI.elt d hmem hpd).hide a6 T6.acc eC hF fun ⟨ns, hns⟩ z hz => by
          obtain ⟨d', hd', az⟩ := ha6.mem hz
          rcases hI.sep with h | h
          · exact absurd hns (h d hmem hpd ns)
          · obtain ⟨d0, hd0, rfl⟩ := List.mem_map.mp hd'
            obtain ⟨hd1, hd2⟩ := List.mem_filter.mp hd0
            obtain ⟨ns', e'⟩ := h d0 (List.mem_of_mem_take hd1) hd2
            rw [e'] at az
            exact az.noInt
        have hlen : ys.size ≤ 1000 := by
          have h1 := ha6.length
          have h2 : ((ds.take i).filter p).length ≤ (ds.take i).length := List.length_filter_le _ _
          have h3 := hI.sz
          simp at h1 h2; omega
        refine wpAny_mono (list_append' (y := y) (Q := fun _ s7 => ∃ m', CI c cenv x n0 wr (hp s2.heap) St (i + 1) (lsO (ys.push y) m') s7 ∧ Keep (hide (hp s6.heap) [n0]) (hp s7.heap)) ok6 T6.acc S.big (by omega) fun s7 m' ok7 k7 e7 => ⟨m', T6.put S ok7 k7 e7 DataCls.list, k7⟩) (fun _ s7 h7 => ?_) fun _ _ e => e.elim
        obtain ⟨m', T7, k7⟩ := h7
        refine ⟨ds.length - (i + 1), by omega, i + 1, ys.push y, m', rfl, hlt, T7, ?_⟩
        have kk : Keep (hide (hp s6.heap) [n0, n0 + 1]) (hide (hp s7.heap) [n0, n0 + 1]) := fun b o e => hide_of (k7 _ _ (hide_of (hide_get e) (by
          have := hide_off e
          simp only [List.mem_cons, List.not_mem_nil, or_false, not_or] at this
          simpa using this.1))) (hide_off e)
        rw [htake, List.map_append, Array.toList_push]
        exact (ha6.mono kk).append (all1 (a6'.mono kk))
    · have : i = ds.length := by omega
      subst this
      refine S.W.done s3 _ _ T.st fun h1 tk hk1 => ?_
      obtain ⟨T1, kd1⟩ := T.move S (tk := tk) (St' := fun _ _ => True) (j := 0) trivial hk1
      obtain ⟨oC, eC, hF⟩ := T1.fr
      rw [List.take_length] at ha
      have keep1 : Keep (hp s.heap) (hp h1) := fun b o e => by
        obtain ⟨h1, h2, h3⟩ := hold b o e
        exact T1.keep b o h1 h3 h2
      refine q n0 (n0 + 1) _ T1.ok keep1 (fun b o e => ?_) (Nat.lt_succ_of_lt S.big) ⟨oC, eC, hF⟩ (at_list.mpr ⟨n0, ys, m, rfl, hide_of T1.acc (by simp), ha.monoD fun b o e hdc => ?_⟩)
      · obtain ⟨_, _, h3⟩ := hold b o e
        exact ⟨Nat.ne_of_lt (Nat.lt_succ_of_lt h3), Nat.ne_of_lt h3⟩
      · have hb := hide_off e
        simp only [List.mem_cons, List.not_mem_nil, or_false, not_or] at hb
        exact hide_of (kd1 _ _ (hide_get e) hdc) (by simpa using hb.2)
  exact codeAny_compStart_list loop (S.W.self 0 _ _ _ T0.st loop)

theorem sameBut_keep {h h' : Heap} {C : Addr} (hs : Heap.SameBut C h h') : Keep (hide (hp h) [C]) (hp h') := fun b o e => sameBut_hp hs (hide_get e) (by simpa using hide_off e)
/-- [elt for x in iter if ..] -/
theorem Ev.lc {scope : Scope} {x : Str} {px : Pos} {iter elt : Expr} {ifs : List Expr} {dit : D} {ds : List D} {ρ : List (Str × D)} {p : D → Bool} {f : D → D}
    (he : EnvOk env) (fr : Frm c env g ρ) (ev : Ev c A env g iter dit) (hit : ∀ g v, At c g dit v → Iter c A g v ds) (hI : Items c A env scope x ρ ifs elt ds p f)
    (hx : scope.names.lookup x = some .local ∨ scope.names.lookup x = some .cell) (hcap : Cap env scope (ρ.map (·.1)) = true := by rfl) (xr : x ≠ "raw" := by decide)
    (hfree : (scope.names.all fun p => p.2 != .free || (env.cells.lookup p.1).isSome) = true := by rfl) (hk : scope.kind = .function := by rfl)
    (hnames : (scope.names.all fun y => y.2 != .local || scope.names.lookup y.1 == some .local) = true := by rfl)
    (hs : ∀ x, foldedSetIterable iter env x = pure x := by intro _; rfl) : Ev c A env g (.ListComp elt [⟨.Name x px, iter, ifs, 0⟩] scope pos) (.list ((ds.filter p).map f)) := fun s Q ok k q => by
  rw [eval_ListComp]
  refine comp_list (use := none) ok k he fr ev hit hI (fun D' C s4 ok4 k4 hn hC hF a4 => ?_) hcap hx xr hfree hk hnames hs
  obtain ⟨oC, eC, hcl, es, ep, hd, hsk, _⟩ := hF
  refine ⟨_, ⟨oC, es, ep, hp_get eC, hd, hsk, fun _ => rfl⟩, fun h' hs' => ?_⟩
  replace hs' : Heap.SameBut C s4.heap h' := hs'
  refine q _ _ ⟨ok4.inv.sameBut hs' hC (hp_get eC) (by rw [hcl]; decide), ok4.gens, ok4.os⟩ (fun b o e => sameBut_hp hs' (k4 _ _ e) (hn b o e).1) (a4.mono (sameBut_keep hs'))
end
end Mine

/-! # I5 -/
namespace Mine
section
variable {c : Wd} {A : Around} {env : Env} {g g₁ : PH} {pos p : Pos} {ρ ρ' : List (Str × D)} {ow : List (Addr × Obj)} {s s' : Shared} {rest : List Stmt}

theorem Bd.dropC {C : Addr} {oC : Obj} {h' : Heap} (B : Bd c g₁ env ρ [(C, oC)] s) (hs : Heap.SameBut C s.heap h') (hcl : oC.cls ≠ .type "code") (hall : ∀ x a, env.cells.lookup x = some a → a ≠ C) : Bd c g₁ env ρ [] { s with heap := h' } := by
  obtain ⟨h1, h2, h3, h4⟩ := B.own (C, oC) (.head _)
  have nL : env.locals ≠ C := fun q => B.own_loc (by rw [q]; simp)
  refine ⟨⟨B.ok.inv.sameBut hs h3 (hp_get h1) hcl, B.ok.gens, B.ok.os⟩, fun b ob eb => sameBut_hp hs (B.keep b ob eb) (fun q => by subst q; rw [h2] at eb; cases eb), ⟨B.fra.ok, ?_, B.fra.nloc, B.fra.hi, fun x a q1 q2 => ?_, B.fra.inj, fun x a q1 => ?_⟩, fun p hp' => (nomatch hp'), ?_⟩
  · obtain ⟨ol, es, ep, e1, r⟩ := B.fra.loc
    exact ⟨ol, es, ep, (hs.2 _ nL).trans e1, r⟩
  · obtain ⟨⟨oc, w, e1, e2, e3⟩, q3, q4⟩ := B.fra.cell x a q1 q2
    exact ⟨⟨oc, w, (hs.2 _ (hall x a q2)).trans e1, e2, e3⟩, q3, q4⟩
  · obtain ⟨q2, oc, e1⟩ := B.fra.all x a q1
    exact ⟨q2, oc, (hs.2 _ (hall x a q1)).trans e1⟩
  · rw [List.map_nil, hide_nil]
    exact B.frm.mono (sameBut_keep hs)

/-- y = [elt for x in iter if ..], the stores exchanged -/
theorem ex_lc {scope : Scope} {x y : Str} {px py : Pos} {sp : Pos} {iter elt : Expr} {ifs : List Expr} {dit : D} {ds : List D} {p : D → Bool} {f : D → D} {Q : Flow → Shared → Prop}
    (B : Bd c g₁ env ρ [] s) (fr : Frm c env (hp s.heap) ρ') (ev : Ev c A env (hp s.heap) iter dit) (hit : ∀ g v, At c g dit v → Iter c A g v ds) (hI : Items c A env scope x ρ' ifs elt ds p f)
    (hx : scope.names.lookup x = some .local ∨ scope.names.lookup x = some .cell) (hy : Stored env y)
    (q : ∀ s', Bd c g₁ env ((y, .list ((ds.filter p).map f)) :: ρ) [] s' → Rn c A (execs rest env) Q s')
    (hsw : swapsWith (.ListComp elt [⟨.Name x px, iter, ifs, 0⟩] scope pos) (some (.Name y py)) sp.line env = pure true := by rfl)
    (hcap : Cap env scope (ρ'.map (·.1)) = true := by rfl) (xr : x ≠ "raw" := by decide)
    (hfree : (scope.names.all fun p => p.2 != .free || (env.cells.lookup p.1).isSome) = true := by rfl) (hk : scope.kind = .function := by rfl)
    (hnames : (scope.names.all fun y => y.2 != .local || scope.names.lookup y.1 == some .local) = true := by rfl)
    (hs : ∀ x, foldedSetIterable iter env x = pure x := by intro _; rfl) : Rn c A (execs (.Assign [.Name y py] (.ListComp elt [⟨.Name x px, iter, ifs, 0⟩] scope pos) sp :: rest) env) Q s := by
  refine wpAny_execs_cons ?_
  rw [exec_Assign_Name_used _ _ _ _ hsw]
  refine wpAny_bind (wpAny_standAt (wpAny_bind ?_))
  show wpAny _ A (do let _ ← comprehension (.ListComp elt [⟨.Name x px, iter, ifs, 0⟩] scope pos) scope env _ (newList []) false (eval iter env) (some (assign (.Name y py) env))) _ _ s
  refine wpAny_bind (wpAny_mono (comp_list (use := some (assign (.Name y py) env)) (Q := fun _ s' => Rn c A (execs rest env) Q s') B.ok (Keep.refl _) B.fra.ok fr ev hit hI (fun D' C s4 ok4 k4 hn hC hF a4 => ?_) hcap hx xr hfree hk hnames hs) (fun _ s' hq => wpAny_pure (wpAny_pure hq)) fun _ _ e => e.elim)
  obtain ⟨oC, eC, hcl, es, ep, hd, hsk, hr⟩ := hF
  have hgC : hp s.heap C = none := by
    cases e : hp s.heap C with
    | none => rfl
    | some o => exact absurd rfl (hn C o e).1
  have B4 := (B.step ok4 k4).takes (ρ' := ρ) eC (B.keep.none hgC) hC (by rw [hcl]; exact DataCls.dict) (by
    have := B.frm
    rw [List.map_nil, hide_nil] at this
    exact this.mono fun b o e => hide_of (k4 _ _ e) (by simpa using (hn b o e).1))
  refine wpAny_mono (wpAny_assign_Name (B4.store (E := fun _ _ => False) (Q := fun _ s5 => Bd c g₁ env ((y, .list ((ds.filter p).map f)) :: ρ) [(C, oC)] s5) a4 hy fun s5 B5 => B5)) (fun _ s5 B5 => ?_) fun _ _ e => e.elim
  obtain ⟨h1, h2, h3, h4⟩ := B5.own (C, oC) (.head _)
  refine ⟨_, ⟨oC, es, ep, hp_get h1, hd, hsk, fun _ => rfl⟩, fun h' hs' => q _ (B5.dropC hs' (by rw [hcl]; decide) fun z a hz => ?_)⟩
  obtain ⟨h5, o5, h6⟩ := B.fra.all z a hz
  exact (hn a o5 (hp_of h6 (not_tab h5))).1

/-! {k: v for x in iter if ..} -/
structure ItemsD (c : Wd) (A : Around) (env : Env) (scope : Scope) (x : Str) (ρ : List (Str × D)) (ifs : List Expr) (kx vx : Expr) (ds : List D) (p : D → Bool) (fk fv : D → Int) : Prop where
  run : ∀ C g d, d ∈ ds → EnvOk (cEnv scope C env) → Frm c (cEnv scope C env) g ((x, d) :: ρ) → TIf c A (cEnv scope C env) g ifs (p d) ∧ (p d = true → Ev c A (cEnv scope C env) g kx (.int (fk d)) ∧ Ev c A (cEnv scope C env) g vx (.int (fv d)))
  sz : ds.length ≤ 1000
theorem dict_put {l : Addr} {o : Obj} {kvs : List (Int × Int)} {k n : Int} {t u : Tok} {Q : Unit → Shared → Prop} (ok : Ok c s) (ho : hp s.heap l = some o) (hl : 208 < l) (x : IsDI c o kvs) (hsz : kvs.length ≤ 10000)
    (q : ∀ s' o', Ok c s' → Keep (hide (hp s.heap) [l]) (hp s'.heap) → hp s'.heap l = some o' → IsDI c o' (putI kvs k n) → Q () s') : Rn c A (dictSet l (.int k t) (.int n u)) Q s := by
  obtain ⟨vs, hD, hI⟩ := x
  refine wpAny_dictSet_pairs (knd := intKind c.prog c.w) (k := k) (intKind_is _ _ _ _) (Heap.dictOf_iff.mpr ⟨o, hp_get ho, hD⟩) (fun h' hm hs => ?_) (by rw [hI.length]; simp [sizeLine]; omega)
  replace hs : Heap.SameBut l s.heap h' := hs
  obtain ⟨o', e', hD'⟩ := Heap.dictOf_iff.mp hm
  exact q _ o' ⟨ok.inv.sameBut hs hl (hp_get ho) (by rw [IsDictOf.cls hD]; decide), ok.gens, ok.os⟩ (fun b ob eb => sameBut_hp hs (hide_get eb) (by simpa using hide_off eb)) (hp_of e' (not_tab hl)) ⟨_, hD', hI.put k n u⟩
theorem fold_len (fk fv : D → Int) (l : List D) : ∀ a : List (Int × Int), (l.foldl (fun a d => putI a (fk d) (fv d)) a).length ≤ a.length + l.length := by
  induction l with
  | nil => intro a; simp
  | cons x r ih => intro a; have := ih (putI a (fk x) (fv x)); have := putI_length a (fk x) (fv x); simp only [List.foldl_cons, List.length_cons]; omega

theorem Ev.dc {scope : Scope} {x : Str} {px : Pos} {iter kx vx : Expr} {ifs : List Expr} {dit : D} {ds : List D} {p : D → Bool} {fk fv : D → Int}
    (he : EnvOk env) (fr : Frm c env g ρ) (ev : Ev c A env g iter dit) (hit : ∀ g v, At c g dit v → Iter c A g v ds) (hI : ItemsD c A env scope x ρ ifs kx vx ds p fk fv)
    (hx : scope.names.lookup x = some .local ∨ scope.names.lookup x = some .cell) (hcap : Cap env scope (ρ.map (·.1)) = true := by rfl) (xr : x ≠ "raw" := by decide)
    (hfree : (scope.names.all fun p => p.2 != .free || (env.cells.lookup p.1).isSome) = true := by rfl) (hk : scope.kind = .function := by rfl)
    (hnames : (scope.names.all fun y => y.2 != .local || scope.names.lookup y.1 == some .local) = true := by rfl)
    (hs : ∀ x, foldedSetIterable iter env x = pure x := by intro _; rfl) : Ev c A env g (.DictComp kx vx [⟨.Name x px, iter, ifs, 0⟩] scope pos) (.dict ((ds.filter p).foldl (fun a d => putI a (fk d) (fv d)) [])) := fun s Q ok k q => by
  rw [arm_eval_DictComp]
  refine wpAny_comprehension_free (use := none) (cl := closOf env scope.names []) rfl hs (closureFor_eq hfree) hk (fun y hy hl => ?_) ?_
  · have := List.all_eq_true.mp hnames y hy
    rw [hl] at this
    simpa using this
  refine wpAny_mono (comp_begin (x := x) (oD := emptyDict) ok k he ev hit hk hx xr DataCls.dict rfl (Q := fun it s2 => ∃ I, it = .ref I ∧ CB c A env scope x ds s s2 emptyDict I ∧ Ok c s2 ∧ Keep (hp s.heap) (hp s2.heap)) fun I s2 cb ok2 k2 => ⟨I, rfl, cb, ok2, k2⟩) (fun xv s1 h1 => wpAny_mono h1 (fun it s2 h2 => ?_) fun _ _ e => e.elim) fun _ _ e => e.elim
  obtain ⟨I, rfl, ⟨fp, wr, P, St, S, T0, hold, hP⟩, ok2, k2⟩ := h2
  refine wpAny_newObj_type (comp_env ?_)
  show codeAny c.M A (.compStart (.DictComp kx vx [⟨.Name x px, iter, ifs, 0⟩] scope pos) 0 (.ref I) (.ref s2.heap.objs.size) _) _ _
  simp only [Heap.size_push]
  have loop : codeAny c.M A (.compLoop (.DictComp kx vx [⟨.Name x px, iter, ifs, 0⟩] scope pos) 0 (.ref I) (.ref s2.heap.objs.size) (cEnv scope (s2.heap.objs.size + 1) env))
      (compPost c.M A (fun _ _ => False) none Q (.ref s2.heap.objs.size) (s2.heap.objs.size + 1)) { s2 with heap := pushCells ((s2.heap.push emptyDict).push emptyDict) scope.names } := by
    generalize hn0 : s2.heap.objs.size = n0 at S T0 hold hP ⊢
    generalize hcenv : cEnv scope (n0 + 1) env = cenv at S T0 ⊢
    have keepg : ∀ i oD s', CI c cenv x n0 wr (hp s2.heap) St i oD s' → Keep (hp s.heap) (hp s'.heap) := fun i oD s' T b o e => by
      obtain ⟨h1, h2, h3⟩ := hold b o e
      exact T.keep b o h1 h3 h2
    refine codeAny_compLoop_testsD (fun j s' => ∃ i oD, j = ds.length - i ∧ i ≤ ds.length ∧ CI c cenv x n0 wr (hp s2.heap) St i oD s' ∧ IsDI c oD (((ds.take i).filter p).foldl (fun a d => putI a (fk d) (fv d)) [])) ?_ ds.length ⟨0, emptyDict, by omega, by omega, T0, by simpa using isDI_nil⟩
    rintro j s3 ⟨i, oD, rfl, hi, T, ha⟩
    rcases Nat.lt_or_ge i ds.length with hlt | hge
    · refine S.W.item i s3 _ _ hlt T.st fun v h1 tk hv hst hk1 => ?_
      obtain ⟨d, hd, ad⟩ := hP i v hv
      obtain ⟨T1, kd1⟩ := T.move S (tk := tk) hst hk1
      refine wpAny_assign_Name (T1.store S fun s4 T4 l4 kd4 => ?_)
      have hmem : d ∈ ds := List.mem_of_getElem? hd
      have ad4 : At c (hp s4.heap) d v := ad s4 T4.keep
      have he4 : EnvOk cenv := by rw [← hcenv]; exact cEnv_ok he hk
      have fr4 : Frm c cenv (hp s4.heap) ((x, d) :: ρ) := frm_cons l4 ad4 (by
        rw [← hcenv]
        exact frm_cap he (fr.mono (k.trans (keepg _ _ _ T4))) hcap)
      obtain ⟨ht, hel⟩ := by rw [← hcenv] at he4 fr4; exact hI.run _ _ d hmem he4 fr4
      rw [hcenv] at ht hel
      refine ht s4 _ _ T4.ok (Keep.refl _) fun s5 ok5 k5 => ?_
      have T5 := T4.step S ok5 k5
      have htake : (ds.take (i + 1)).filter p = (ds.take i).filter p ++ (if p d then [d] else []) := take_succ_filter p ds i d hd
      cases hpd : p d with
      | false =>
        rw [hpd] at htake
        simp only [Bool.false_eq_true, if_false]
        refine ⟨ds.length - (i + 1), by omega, i + 1, oD, rfl, hlt, T5, ?_⟩
        rw [htake]; simpa using ha
      | true =>
        rw [hpd] at htake
        simp only [if_true]
        obtain ⟨hel1, hel2⟩ := hel hpd
        refine wpAny_mono (hel1 s5 (fun v s6 => Ok c s6 ∧ Keep (hp s5.heap) (hp s6.heap) ∧ At c (hp s6.heap) (.int (fk d)) v) ok5 k5 fun v s6 ok6 k6 a6 => ⟨ok6, k6, a6⟩) (fun y s6 h6 => ?_) fun _ _ e => e.elim
        obtain ⟨ok6, k6, a6⟩ := h6
        obtain ⟨t6, rfl⟩ := at_int.mp a6
        refine wpAny_mono (hel2 s6 (fun v s7 => Ok c s7 ∧ Keep (hp s6.heap) (hp s7.heap) ∧ At c (hp s7.heap) (.int (fv d)) v) ok6 (k5.trans k6) fun v s6 ok6 k6 a6 => ⟨ok6, k6, a6⟩) (fun y s7 h7 => ?_) fun _ _ e => e.elim
        obtain ⟨ok7, k7, a7⟩ := h7
        obtain ⟨t7, rfl⟩ := at_int.mp a7
        have T7 := T5.step S ok7 (k6.trans k7)
        have hlen : (((ds.take i).filter p).foldl (fun a d => putI a (fk d) (fv d)) []).length ≤ 1000 := by
          have h1 := fold_len fk fv ((ds.take i).filter p) []
          have h2 : ((ds.take i).filter p).length ≤ (ds.take i).length := List.length_filter_le _ _
          have h3 := hI.sz
          simp at h1 h2; omega
        refine wpAny_mono (dict_put (Q := fun _ s8 => ∃ o', CI c cenv x n0 wr (hp s2.heap) St (i + 1) o' s8 ∧ IsDI c o' (putI (((ds.take i).filter p).foldl (fun a d => putI a (fk d) (fv d)) []) (fk d) (fv d))) ok7 T7.acc S.big ha (by omega) fun s8 o' ok8 k8 e8 x8 => ⟨o', T7.put S ok8 k8 e8 (by rw [x8.cls]; exact DataCls.dict), x8⟩) (fun _ s8 h8 => ?_) fun _ _ e => e.elim
        obtain ⟨o', T8, x8⟩ := h8
        refine ⟨ds.length - (i + 1), by omega, i + 1, o', rfl, hlt, T8, ?_⟩
        rw [htake, List.foldl_append]
        exact x8
    · have : i = ds.length := by omega
      subst this
      refine S.W.done s3 _ _ T.st fun h1 tk hk1 => ?_
      obtain ⟨T1, kd1⟩ := T.move S (tk := tk) (St' := fun _ _ => True) (j := 0) trivial hk1
      obtain ⟨oC, eC, hcl, es, ep, hd, hsk, hr⟩ := T1.fr
      rw [List.take_length] at ha
      refine ⟨_, ⟨oC, es, ep, hp_get eC, hd, hsk, fun _ => rfl⟩, fun h' hs' => ?_⟩
      replace hs' : Heap.SameBut (n0 + 1) h1 h' := hs'
      refine q _ _ ⟨T1.ok.inv.sameBut hs' (Nat.lt_succ_of_lt S.big) (hp_get eC) (by rw [hcl]; decide), T1.ok.gens, T1.ok.os⟩ (fun b o e => ?_) (ha.at (sameBut_hp hs' T1.acc (Nat.ne_of_lt (Nat.lt_succ_self _))) S.big)
      obtain ⟨h1, h2, h3⟩ := hold b o e
      exact sameBut_hp hs' (T1.keep b o h1 h3 h2) (Nat.ne_of_lt (Nat.lt_succ_of_lt h3))
  exact codeAny_compStart_dict loop (S.W.self 0 _ _ _ T0.st loop)
end
end Mine

/-! # I6 -/
namespace Mine
section
variable {c : Wd} {A : Around} {env : Env} {g g₁ : PH} {pos p : Pos} {ρ ρ' : List (Str × D)} {ow : List (Addr × Obj)} {s s' : Shared} {rest : List Stmt}
abbrev envC (qual : Str) (scope : Scope) (L f : Addr) (cdv : Value) : Env := envX qual scope L f cdv (cellsFrom (L + 1) scope.names [])
/-- a def of the text, its names cells or not -/
theorem fn_callC {f : Addr} {vs : List Value} {kws : List (Str × Value)} {name qual : Str} {params : Arguments} {body : List Stmt} {scope : Scope} {dV kV doc pm cdv ct oc : Value} {an od : Option Addr} {osl : Array (Option Value)} {binds : List (Str × Value)} {bds : List D} {R : Result → Shared → Prop} {n : Nat}
    (ho : c.K.lookup f = some ⟨oc, od, .func (fnOf name qual params body scope dV kV doc pm an cdv ct), osl⟩) (hcd : codeIn c.K cdv qual = true) (rm : Rm A (n + 1)) (ok : Ok c s)
    (hb : peek c.K ⟨c.prog, c.w.params⟩ (bindArgs (fnOf name qual params body scope dV kV doc pm an cdv ct) ⟨vs, kws⟩) = some binds) (ha : AtAll c (hp s.heap) bds (binds.map (·.2)))
    (hloc : (binds.all fun y => scope.names.lookup y.1 == some .local) = true)
    (q : ∀ L s', Bd c (hp s.heap) (envC qual scope L f cdv) (((binds.map (·.1)).zip bds).reverse) [] s' → Rn c (A.deeper (envC qual scope L f cdv)) (execs body (envC qual scope L f cdv)) (fun fl s' => R (.ok (.ret (match fl with | .ret v => v | _ => .none))) s') s')
    (hco : scope.isCoroutine = false := by rfl) (hgen : scope.isGenerator = false := by rfl) (hk : scope.kind = .function := by rfl) :
    codeAny c.M A (.call (.ref f) ⟨vs, kws⟩) R s := by
  refine codeAny_call_function rm.room (ok.inv.k _ _ ho) rfl hco hgen rfl (codeRec_of ok.inv.k hcd) ?_
  refine (Looks.of_peek ok.inv.k hb) _ _ _ s (fun _ _ e => e) ?_
  refine new_env ok hk ha (.inl rfl) (fun _ h => (nomatch h)) (fun x hx => .inl (by simpa using List.all_eq_true.mp hloc x hx)) fun s' B => ?_
  exact ⟨B.ok.inv.lim, codeAny_func (wpAny_mono (q s.heap.objs.size s' B) (fun _ _ h => h) fun _ _ h => h.elim)⟩

theorem Bd.fr (B : Bd c g₁ env ρ [] s) (h : Subs ρ ρ') : Frm c env (hp s.heap) ρ' := by
  have := (B.to h).frm
  rw [List.map_nil, hide_nil] at this
  exact this
theorem rng_len {a b z : Int} (hz : 0 < z) (hab : a ≤ b) : (rng a b z).length ≤ (b - a).toNat := by
  have := rangeSize_le hz hab
  simp [rng]; omega
/-! _law_table -/
def tableOf (cnt : List Int) : List (Int × Int) := ((rng 0 cnt.length 1).filter fun i => cnt.getD i.toNat 0 != 0).foldl (fun a i => putI a i (cnt.getD i.toNat 0)) []
def D.i : D → Int
  | .int i => i
  | _ => 0
theorem map_int_mem {ns : List Int} {d : D} (h : d ∈ ns.map D.int) : ∃ i ∈ ns, d = .int i := by obtain ⟨i, hi, rfl⟩ := List.mem_map.mp h; exact ⟨i, hi, rfl⟩
theorem filter_map_i (ns : List Int) (p : Int → Bool) : (ns.map D.int).filter (fun d => p d.i) = (ns.filter p).map D.int := by
  induction ns with
  | nil => rfl
  | cons n r ih =>
    rw [List.map_cons, List.filter_cons, List.filter_cons, ih]
    show (if p n = true then _ else _) = _
    split <;> rfl
theorem foldl_map_i {β : Type} (f : β → Int → β) (b : β) (ns : List Int) : (ns.map D.int).foldl (fun a d => f a d.i) b = ns.foldl f b := by rw [List.foldl_map]; rfl
set_option maxHeartbeats 2000000 in
theorem law_table_spec {m : Nat} (rm : Rm A (m + 1)) {cnt : List Int} {b n nt : Int} {simple : Bool} (hl : cnt.length < 1000) : Spec c A (.ref 191) [leadD cnt b n nt simple] (.dict (tableOf cnt)) := fun s vs Q ok ha q => by
  obtain ⟨v1, rfl, a1⟩ := all_inv1 ha
  refine wpAny_call (fn_callC (binds := [("lead", v1)]) (bds := [leadD cnt b n nt simple]) rfl (by kernel_rfl) rm ok (by kernel_rfl) (all1 a1) (by kernel_rfl) fun L s1 B => ?_)
  refine ex_assign B (.item_tup (.norm (B.name rfl)) .cint (by decide) rfl) (.inr ⟨rfl, rfl⟩) fun s2 B => ?_
  refine ex_return B (.dc (ds := (rng 0 cnt.length 1).map .int) (p := fun d => cnt.getD d.i.toNat 0 != 0) (fk := fun d => d.i) (fv := fun d => cnt.getD d.i.toNat 0) B.fra.ok (B.fr (ρ' := [("counts", .tup (cnt.map .int))]) ⟨rfl, trivial⟩) (.blt B.fra.ok nb_range rfl (kept_type _) (.cons (.eqd (.lenT B.fra.ok (B.name rfl) (by simp; omega)) (by rw [List.length_map])) .nil) (range1 _)) (fun g v a => iter_up (hhd rm.hh) a (by decide) (by omega) (by omega) (by decide) (by decide) (by decide)) ⟨fun C g d hd he fr => ?_, by rw [List.length_map]; have := rng_len (a := 0) (b := cnt.length) (z := 1) (by decide) (by omega); omega⟩ (.inl rfl)) fun v s' r => q v s' r.ok r.keep ?_
  · obtain ⟨i, hi, rfl⟩ := map_int_mem hd
    obtain ⟨h1, h2⟩ := mem_rng (by decide) hi
    have hg : (cnt.map D.int)[i.toNat]? = some (D.int (cnt.getD i.toNat 0)) := by
      have hlt : i.toNat < cnt.length := by omega
      rw [List.getElem?_map, List.getD_eq_getElem?_getD, List.getElem?_eq_getElem hlt]; rfl
    refine ⟨.one (.cmp (.item_tup (.frm fr he rfl) (.frm fr he rfl) h1 hg (by omega)) .cint (ne_i _ _)), fun _ => ⟨.frm fr he rfl, .item_tup (.frm fr he rfl) (.frm fr he rfl) h1 hg (by omega)⟩⟩
  · have h := r.at_
    rw [filter_map_i _ (fun i => cnt.getD i.toNat 0 != 0)] at h
    rw [List.foldl_map] at h
    exact h
end
end Mine

/-! # I7 -/
namespace Mine
section
variable {c : Wd} {A : Around} {env : Env} {g g₁ : PH} {pos p : Pos} {ρ ρ' : List (Str × D)} {ow : List (Addr × Obj)} {s s' : Shared} {rest : List Stmt}

theorem add_x (x y : Str) (h : x.length + y.length ≤ 100000) : F2 c A (binaryOp .Add) (.str x) (.str y) (.str (x ++ y)) := fun s v1 v2 Q ok a1 a2 q => by
  obtain ⟨t, rfl⟩ := at_str.mp a1
  obtain ⟨u, rfl⟩ := at_str.mp a2
  exact PyProof.Rows.add_str (fun t' tk => q _ _ (ok.tok _) (Keep.refl _) (mk_str _ _)) (by simp [sizeLine]; omega)
theorem ne_x (x y : Str) : F2 c A (compareOp .NotEq) (.str x) (.str y) (.bool (!(x == y))) := fun s v1 v2 Q ok a1 a2 q => by
  obtain ⟨t, rfl⟩ := at_str.mp a1
  obtain ⟨u, rfl⟩ := at_str.mp a2
  exact PyProof.Rows.ne_str (q _ _ ok (Keep.refl _) (mk_bool _))
theorem str_i (i : Int) (h : i.natAbs < 1000) : Spec c A (.type "str") [.int i] (.str (toString i)) := fun s vs Q ok a q => by
  obtain ⟨v, rfl, h1⟩ := all_inv1 a
  obtain ⟨t, rfl⟩ := at_int.mp h1
  refine PySem.P.str_of_int ?_ (q _ _ (ok.tok _) (Keep.refl _) (mk_str _ _))
  have : i.natAbs < 2 ^ 10 := by omega
  rcases Nat.eq_zero_or_pos i.natAbs with h0 | h0
  · rw [h0]; decide
  · have := (Nat.log2_lt (by omega)).mpr this; omega
theorem m_join {x : Str} : Meth c (.str x) "join" (.builtin "str.join") := fun A s ov pl Q ok a q => by
  obtain ⟨t, rfl⟩ := at_str.mp a
  exact GM.join q
theorem AtAll.strs : ∀ {ys : List Str} {vs : List Value}, AtAll c g (ys.map .str) vs → StrsAre vs ys
  | [], _, h => by rw [atAll_nil.mp h]; exact .nil
  | n :: ns, _, h => by
    obtain ⟨v, r, rfl, h1, h2⟩ := atAll_cons.mp h
    obtain ⟨t, rfl⟩ := at_str.mp h1
    exact .cons n t (AtAll.strs h2)
theorem join_l {x : Str} {ys : List Str} (hx : x.length ≤ 16) (hw : (ys.map (·.length)).sum + ys.length ≤ 1048576) : Spec c A (.builtin "str.join") [.str x, .list (ys.map .str)] (.str (Txt.join x ys)) := fun s vs Q ok a q => by
  obtain ⟨v1, v2, rfl, a1, a2⟩ := all_inv2 a
  obtain ⟨t, rfl⟩ := at_str.mp a1
  obtain ⟨l, ws, n, rfl, e, r⟩ := at_list.mp a2
  exact join_listW ⟨_, hp_get e, rfl, n, rfl⟩ r.strs hx hw fun t' k => q _ _ (ok.tok _) (Keep.refl _) (mk_str _ _)

/-! _law_words -/
abbrev Ts (i : Int) : Prop := i ∈ ([1, 2, 3, 4, 5] : List Int)
def strOf (i : Int) : Str := toString i
theorem strOf_len {i : Int} (h : Ts i) : (strOf i).length = 1 := by
  simp only [List.mem_cons, List.not_mem_nil, or_false] at h
  rcases h with rfl | rfl | rfl | rfl | rfl <;> decide +kernel
def D.r0 : D → Int
  | .tup (.int i :: _) => i
  | _ => 0
def joinOf (rs : List (Int × Int × Int)) : Str := Txt.join ", " (rs.map fun r => strOf r.1)
def wordsOf (rs : List (Int × Int × Int)) : Str := (if 1 < rs.length then ("at tab sizes " : Str) else "at tab size ") ++ joinOf rs
theorem joinOf_w {rs : List (Int × Int × Int)} (h : ∀ r ∈ rs, Ts r.1) (hl : rs.length ≤ 100) : ((rs.map fun r => strOf r.1).map (·.length)).sum + (rs.map fun r => strOf r.1).length ≤ 1000 := by
  have : ((rs.map fun r => strOf r.1).map (·.length)).sum = rs.length := by
    clear hl
    induction rs with
    | nil => rfl
    | cons r rs ih =>
      simp only [List.map_cons, List.sum_cons, List.length_cons]
      rw [ih fun r' h' => h r' (.tail _ h'), strOf_len (h r (.head _))]; omega
  rw [this]; simp; omega
theorem joinOf_len {rs : List (Int × Int × Int)} (h : ∀ r ∈ rs, Ts r.1) (hl : rs.length ≤ 100) : (joinOf rs).length ≤ 2000 := by
  have h1 := joinOf_w h hl
  unfold joinOf Txt.join
  rw [StrLaws.glued_eq_join]
  have h2 := StrLaws.join_length_le ", " (rs.map fun r => strOf r.1)
  have h3 : (", " : Str).length = 2 := by decide +kernel
  rw [h3] at h2
  have : (rs.map fun r => strOf r.1).length = rs.length := by simp
  omega
theorem map_row_mem {rs : List (Int × Int × Int)} {d : D} (h : d ∈ rs.map D.row) : ∃ r ∈ rs, d = .row r := by obtain ⟨i, hi, rfl⟩ := List.mem_map.mp h; exact ⟨i, hi, rfl⟩
theorem filter_true {α : Type} (l : List α) : l.filter (fun _ => true) = l := by simp
theorem nb_str : nsIn c.K mainGlobals "str" = some none := by kernel_rfl
set_option maxHeartbeats 2000000 in
theorem law_words_spec {m : Nat} (rm : Rm A (m + 1)) {rs : List (Int × Int × Int)} (hr : ∀ r ∈ rs, Ts r.1) (hl : rs.length ≤ 100) : Spec c A (.ref 196) [.rows rs] (.str (wordsOf rs)) := fun s vs Q ok ha q => by
  obtain ⟨v1, rfl, a1⟩ := all_inv1 ha
  refine wpAny_call (fn_call (binds := [("rows", v1)]) (bds := [.rows rs]) rfl (by kernel_rfl) rm ok (by kernel_rfl) (all1 a1) (by kernel_rfl) fun L s1 B => ?_)
  refine ex_assign B (d := .str (if 1 < rs.length then ("at tab sizes " : Str) else "at tab size ")) (.ifexp (.cmp (.len B.fra.ok (B.name rfl) (by simp; omega)) .cint (gt_i _ _)) (fun h => .eqd .cstr ?_) fun h => .eqd .cstr ?_) (.inl rfl) fun s2 B => ?_
  · rw [if_pos (by simp at h; omega)]
  · rw [if_neg (by simp at h; omega)]
  have hlen : (if 1 < rs.length then ("at tab sizes " : Str) else "at tab size ").length ≤ 20 := by split <;> decide +kernel
  refine ex_return B (.bin (B.name rfl) (.meth .cstr m_join (kept_blt _) (.cons (.eqd (.lc (ds := rs.map .row) (p := fun _ => true) (f := fun d => .str (strOf d.r0)) (ρ := []) B.fra.ok (fun _ _ e => nomatch e) (B.name rfl) (fun g v a => iter_list (hhd rm.hh) a) ⟨fun C g d hd he fr => ?_, fun d _ _ => .atom _ rfl, .inl fun d _ _ ns => nofun, by simp; omega⟩ (.inl rfl)) (d' := .list ((rs.map fun r => strOf r.1).map .str)) ?_) .nil) (join_l (by decide +kernel) (by have := joinOf_w hr hl; omega))) (add_x _ _ (by have := joinOf_len hr hl; unfold joinOf at this; omega))) fun v s' r => q v s' r.ok r.keep r.at_
  · obtain ⟨r, hr', rfl⟩ := map_row_mem hd
    have ht := hr r hr'
    refine ⟨.nil, fun _ => .blt he nb_str rfl (kept_type _) (.cons (.item_tup (.frm fr he rfl) .cint (by decide) rfl) .nil) (str_i r.1 ?_)⟩
    simp only [List.mem_cons, List.not_mem_nil, or_false] at ht
    omega
  · rw [filter_true, List.map_map, List.map_map]; rfl
end
end Mine

/-! # I8 -/
namespace Mine
section
variable {c : Wd} {A : Around} {env : Env} {g g₁ : PH} {pos p : Pos} {ρ ρ' : List (Str × D)} {ow : List (Addr × Obj)} {s s' : Shared} {rest : List Stmt}
theorem big_of {h : Heap} (x : Inv c h) {h' : Heap} (hk : ∀ b o, b ∉ tabA → h.get? b = some o → h'.get? b = some o) : 208 < h'.objs.size := by
  have e : ∃ o, c.K.lookup 208 = some o := ⟨_, rfl⟩
  obtain ⟨o, e⟩ := e
  exact Heap.lt_size (hk _ _ (by decide) (x.k _ _ e))
/-- a table of code grows -/
theorem Inv.grow {h h' : Heap} {P : Addr} (x : Inv c h) (hP : P ∈ tabA) (hx : Heap.ExtBut P h h') (n1 : P = 160 → TabSt h' 160 posG qualG) (n2 : P = 198 → TabSt h' 198 posL qualL) (n3 : P = 205 → TabSt h' 205 posS qualS) : Inv c h' := by
  have nt : ∀ b, b ∉ tabA → b ≠ P := fun b hb q => hb (q ▸ hP)
  have lo : ∀ b o, b ≤ 208 → b ∉ tabA → h.get? b = some o → h'.get? b = some o := fun b o _ hb e => hx b o (nt b hb) e
  have hk : ∀ b o, 208 < b → o.cls = .type "code" → h.get? b = some o → h'.get? b = some o := fun b o hb _ e => hx b o (nt b (not_tab hb)) e
  have st : ∀ P' pos q, P' ∈ tabA → P' ≠ P → TabSt h P' pos q → TabSt h' P' pos q := fun P' pos q _ hne t => t.step (by obtain ⟨ps, e, _⟩ := t; rw [e]; exact hx _ _ hne e) hk
  refine ⟨fun a o e => lo a o (k_low e).1 (k_low e).2 (x.k a o e), ns_low x.g lo (by decide) (by decide), ns_low x.b lo (by decide) (by decide), ?_, ?_, ?_, big_of x fun b o hb e => hx b o (nt b hb) e, ?_, ?_, ?_⟩
  · exact let ⟨mc, a, r⟩ := x.lim; ⟨mc, ns_low a lo (by decide) (by decide), r⟩
  · exact let ⟨mc, a, r⟩ := x.dig; ⟨mc, ns_low a lo (by decide) (by decide), r⟩
  · exact let ⟨bm, ob, a1, a2, a3, a4, a5, r⟩ := x.bm; ⟨bm, ob, a1, a2, a3, a4, lo _ _ a3 a4 a5, r⟩
  · by_cases h : P = 160
    · exact n1 h
    · exact st 160 _ _ (by decide) (Ne.symm h) x.t1
  · by_cases h : P = 198
    · exact n2 h
    · exact st 198 _ _ (by decide) (Ne.symm h) x.t2
  · by_cases h : P = 205
    · exact n3 h
    · exact st 205 _ _ (by decide) (Ne.symm h) x.t3
theorem keep_grow {h h' : Heap} {P : Addr} (hP : P ∈ tabA) (hx : Heap.ExtBut P h h') : Keep (hp h) (hp h') := fun b o e => hp_of (hx b o (fun q => hp_off e (q ▸ hP)) (hp_get e)) (hp_off e)

/-- a code object of the text, with its table -/
def CodeK (c : Wd) (cd P : Addr) : Prop := ∃ o vs file tf flags tg inF text tt, c.K.lookup cd = some o ∧ o.cls = .type "code" ∧ o.data = .fields vs ∧ vs[11]? = some (.ref P) ∧ vs.getD 11 .none = .ref P ∧ vs.getD 18 .none = .str file tf ∧
    vs.getD 7 .none = .int flags tg ∧ vs.getD 9 .none = .bool inF ∧ vs.getD 10 .none = .int text tt ∧ cd ≠ P
theorem CodeK.hd {cd P : Addr} {h : Heap} (x : CodeK c cd P) (i : Inv c h) : CodeHd h cd P := let ⟨o, vs, file, tf, flags, tg, inF, text, tt, e, r⟩ := x; ⟨o, vs, file, tf, flags, tg, inF, text, tt, i.k _ _ e, r⟩
theorem code_fw : CodeK c 164 160 := ⟨_, _, _, _, _, _, _, _, _, rfl, rfl, rfl, rfl, rfl, rfl, rfl, rfl, rfl, by decide⟩
theorem code_listed : CodeK c 202 198 := ⟨_, _, _, _, _, _, _, _, _, rfl, rfl, rfl, rfl, rfl, rfl, rfl, rfl, rfl, by decide⟩
theorem code_law : CodeK c 207 205 := ⟨_, _, _, _, _, _, _, _, _, rfl, rfl, rfl, rfl, rfl, rfl, rfl, rfl, rfl, by decide⟩
/-- the new state of a table -/
theorem tab_new {h' : Heap} {P : Addr} {ps : Array Value} {pos : Pos} {q : Str} {c' : Addr} (ht : TriplesOk ps.toList) (hn : codeAmong pos ps.toList = none) (hc : 208 < c') (hP : h'.get? P = some (tabObj (ps ++ #[rawInt pos.line, rawInt pos.col, .ref c'])))
    (hr : h'.CodeRec (.ref c') q) (hcl : ∀ o, h'.get? c' = some o → o.cls = .type "code") : TabSt h' P pos q := by
  have hl : (ps ++ #[rawInt pos.line, rawInt pos.col, Value.ref c']).toList = ps.toList ++ [rawInt pos.line, rawInt pos.col, .ref c'] := by simp
  obtain ⟨c2, o, vs, t, e2, ho, hd, hv⟩ := hr
  cases e2
  exact ⟨_, hP, by rw [hl]; exact TriplesOk_snoc _ _ _ _ ht, .inr ⟨c', o, vs, t, by rw [hl]; exact codeAmong_snoc _ ht hn, hc, ho, hcl o ho, hd, hv⟩⟩
theorem gen_code {scope : Scope} {Q : Value → Shared → Prop} (ok : Ok c s) (hc : env.code = .ref 164)
    (q : ∀ code h' tk, Heap.ExtBut 160 s.heap h' → Ok c { s with heap := h', toks := tk } → Q code { s with heap := h', toks := tk }) : Rn c A (genexprCode env posG qualG scope) Q s := by
  obtain ⟨ps, hP, ht, hcs⟩ := ok.inv.t1
  have C := (code_fw (c := c)).hd ok.inv
  rcases hcs with hn | ⟨c', o, vs, t, hf, _⟩
  · refine wpAny_genexprCodeX hc (C.code hP ht) (C.tab hP) hn fun c' h' tk hx hge hlt _ hrec htb hown => ?_
    obtain ⟨P', _, _, ⟨⟨o, vs, ho, hcl, _⟩, _⟩⟩ := hown
    refine q _ _ _ hx ⟨ok.inv.grow (by decide) hx (fun _ => tab_new ht hn (Nat.lt_of_lt_of_le ok.inv.big hge) htb.2 hrec fun o' ho' => by rw [ho] at ho'; cases ho'; exact hcl) (fun h => absurd h (by decide)) (fun h => absurd h (by decide)), ok.gens, ok.os⟩
  · exact wpAny_genexprCode_hit hc (C.code hP ht) hf (q _ s.heap s.toks (fun _ _ _ e => e) ok)
end
end Mine

/-! # I9 -/
namespace Mine
section
variable {c : Wd} {A : Around} {env : Env} {g g₁ : PH} {pos p : Pos} {ρ ρ' : List (Str × D)} {ow : List (Addr × Obj)} {s s' : Shared} {rest : List Stmt}
def fwScope : Scope := { kind := .function, names := [(Str.ofString ".0", .local), (Str.ofString "tup", .local), (Str.ofString "str", .globalImplicit)], isGenerator := true, isCoroutine := false, more := [] }
def fwElt : Expr := .Call (.Name "str" ⟨155, 14, 155, 17⟩) [.Subscript (.Name "tup" ⟨155, 18, 155, 21⟩) (.Constant (.int 0) 0 ⟨155, 22, 155, 23⟩) ⟨155, 18, 155, 24⟩] [] ⟨155, 14, 155, 25⟩

/-- the generator's element: str(tup[0]) -/
theorem fw_elt {A' : Around} {E : Value → Shared → Prop} {cenv : Env} {v : Value} {m : Str → Option Value} {r : Int × Int × Int} {s₂ : Shared} (hk : cenv.scope.kind = .function) (hg : cenv.globals = mainGlobals) (hb : cenv.builtins = builtinsNs) (hx1 : cenv.kindOf "tup" = some .local) (hx2 : cenv.kindOf "str" = some .globalImplicit)
    (i1 : s₂.heap.Ns mainGlobals c.mg) (i2 : s₂.heap.Ns builtinsNs c.mb) (i3 : c.mg "str" = none) (hn : s₂.heap.Ns cenv.locals m) (hm : m "tup" = some v) {a : Addr} {vs : Array Value} {n : Nat} (hv : v = .ref a) (ho : s₂.heap.get? a = some (tpO vs n)) {t : Tok} (h0 : vs[0]? = some (.int r.1 t)) (hr : Ts r.1) :
    wpAny c.M A' (eval fwElt cenv) (fun y s₃ => (∃ t, y = .str (strOf r.1) t) ∧ Keeps s₂ s₃) E s₂ := by
  unfold fwElt
  refine Call_ (Calls.Name_function_global hk hx2 (Calls.loadGlobal_builtin (by rw [hg]; exact i1) i3 (by rw [hb]; exact i2) ((c.bt "str" (by decide)).trans rfl) ?_) (by decide))
  refine callWith_of (P := fun _ => True) (by rfl) (fun _ _ => ⟨.machine, .inr (.inl rfl), Looks.of_pure rfl⟩) (evalArgs_flat (by rfl) (args_cons (Subscript_ (wpAny_Name (wpAny_loadName_local hk hx1 hn hm (wpAny_Constant_int ?_)) (by decide))) (by rfl)))
  subst hv
  have h0' : 0 < vs.size := by
    rcases Nat.eq_zero_or_pos vs.size with h | h
    · have : vs = #[] := Array.eq_empty_of_size_eq_zero h
      rw [this] at h0; simp at h0
    · exact h
  refine tail_any ⟨_, ho, rfl⟩ F.slot_tuple_getitem.lookup (PySem.P.getItem_tuple (n := n) ho (by decide) (by decide) (k := 0) ?_ h0 (args_nil ⟨trivial, ?_⟩)) rfl
  · unfold seqIndex?; split <;> simp_all <;> omega
  · refine PySem.P.str_of_int ?_ ⟨⟨_, rfl⟩, s₂.heap, _, rfl, fun _ _ e => e⟩
    simp only [List.mem_cons, List.not_mem_nil, or_false] at hr
    rcases hr with h | h | h | h | h <;> rw [h] <;> decide

theorem TabSt.stepF {h h' : Heap} {P : Addr} {pos : Pos} {q : Str} (x : TabSt h P pos q) (e : h'.get? P = h.get? P) (hk : ∀ b o vs, 208 < b → o.cls = .type "code" → o.data = .fields vs → h.get? b = some o → h'.get? b = some o) : TabSt h' P pos q := by
  obtain ⟨ps, h1, h2, h3⟩ := x
  refine ⟨ps, e.trans h1, h2, ?_⟩
  rcases h3 with h3 | ⟨c, o, vs, t, a1, a0, a2, a3, a4, r⟩
  · exact .inl h3
  · exact .inr ⟨c, o, vs, t, a1, a0, hk _ _ _ a0 a3 a4 a2, a3, a4, r⟩
theorem Inv.stepF {h h' : Heap} (x : Inv c h) (lo : ∀ b o, b ≤ 208 → b ∉ tabA → h.get? b = some o → h'.get? b = some o) (ht : ∀ P ∈ tabA, h'.get? P = h.get? P)
    (hk : ∀ b o vs, 208 < b → o.cls = .type "code" → o.data = .fields vs → h.get? b = some o → h'.get? b = some o) (hs : 208 < h'.objs.size) : Inv c h' where
  k := fun a o e => lo a o (k_low e).1 (k_low e).2 (x.k a o e)
  g := ns_low x.g lo (by decide) (by decide)
  b := ns_low x.b lo (by decide) (by decide)
  lim := let ⟨mc, a, r⟩ := x.lim; ⟨mc, ns_low a lo (by decide) (by decide), r⟩
  dig := let ⟨mc, a, r⟩ := x.dig; ⟨mc, ns_low a lo (by decide) (by decide), r⟩
  bm := let ⟨bm, ob, a1, a2, a3, a4, a5, r⟩ := x.bm; ⟨bm, ob, a1, a2, a3, a4, lo _ _ a3 a4 a5, r⟩
  big := hs
  t1 := x.t1.stepF (ht _ (by decide)) hk
  t2 := x.t2.stepF (ht _ (by decide)) hk
  t3 := x.t3.stepF (ht _ (by decide)) hk
/-- an object that may be turned -/
def Loose (h : Heap) (b : Addr) : Prop := 208 < b ∧ ∃ o, h.get? b = some o ∧ (o.cls ≠ .type "code" ∨ ∃ es ep, o.data = .dict es ep)
/-- between the generator's making and its use -/
structure GB (c : Wd) (g₁ : PH) (env : Env) (wr : List Addr) (St : Nat → Shared → Prop) (m : Str → Option Value) (s : Shared) : Prop where
  ok : Ok c s
  keep : Keep g₁ (hp s.heap)
  st : St 0 s
  ns : s.heap.Ns env.locals m
  frc : ∃ o, s.heap.get? env.locals = some o ∧ o.cls = .type "frame"
  lo : ∀ b ∈ wr, Loose s.heap b
  no : ∀ b ∈ wr, g₁ b = none
theorem GB.tok {St : Nat → Shared → Prop} {m : Str → Option Value} {prog : Program} {w : World} {A' : Around} {I : Addr} {fp wr : List Addr} {G : Array GenState → Array GenState → Prop} {n : Nat} {P : Nat → Value → Prop} (B : GB c g₁ env wr St m s) (W : WalksS prog w A' I fp wr G n P St) {tk : Nat} (h : s.toks ≤ tk) : GB c g₁ env wr St m { s with toks := tk } :=
  ⟨B.ok.tok tk, B.keep, W.frame 0 s s.heap tk B.st h fun _ _ _ e => e, B.ns, B.frc, B.lo, B.no⟩
theorem GB.store {St : Nat → Shared → Prop} {m : Str → Option Value} {prog : Program} {w : World} {A' : Around} {I : Addr} {fp wr : List Addr} {G : Array GenState → Array GenState → Prop} {n : Nat} {P : Nat → Value → Prop} (B : GB c g₁ env wr St m s) (W : WalksS prog w A' I fp wr G n P St) (he : EnvOk env) (hl : env.locals ∉ fp) (hg : g₁ env.locals = none) (hb : 208 < env.locals) {x : Str} {v : Value} {E : Value → Shared → Prop} {Q : Unit → Shared → Prop} (hx : env.kindOf x = some .local)
    (q : ∀ h' tk, s.toks ≤ tk → Heap.SameBut env.locals s.heap h' → GB c g₁ env wr St (fun y => if y = x then some v else m y) { s with heap := h', toks := tk } → Q () { s with heap := h', toks := tk }) : wpAny c.M A (storeName env x v) Q E s := by
  obtain ⟨o, ho, hc⟩ := B.frc
  obtain ⟨o1, es, ep, e1, e2, e3, e4⟩ := B.ns
  rw [ho] at e1; cases e1
  have hp' : (env.scope.kind == .class || (env.scope.kind == .module && env.locals != env.globals)) = false := by rw [he.kind]; rfl
  rw [storeName_local hx hp']
  refine nsSet_k ho e2 e3 fun h' o' es' ep' f1 f2 f3 f4 f5 hs => ?_
  refine q h' (s.toks + 1) (Nat.le_succ _) hs ⟨⟨B.ok.inv.sameBut hs hb ho (by rw [hc]; decide), B.ok.gens, B.ok.os⟩, fun b o e => sameBut_hp hs (B.keep b o e) (fun q => by subst q; rw [hg] at e; cases e), ?_, ⟨o', es', ep', f1, f3, f4, fun y => by rw [f5, e4]⟩, ⟨o', f1, f2.trans hc⟩, fun b hb => ?_, B.no⟩
  rotate_left
  · obtain ⟨l1, o, l2, l3⟩ := B.lo b hb
    exact ⟨l1, o, (hs.2 b (fun q => hl (q ▸ W.sub _ hb))).trans l2, l3⟩
  exact W.frame 0 s h' _ B.st (Nat.le_succ _) fun b hb o e => (hs.2 b (fun q => hl (q ▸ hb))).trans e

def fmtOf (rs : List (Int × Int × Int)) : Str := (if 1 < rs.length then ("at tab size" : Str) ++ ("s" : Str) else "at tab size") ++ (" " : Str) ++ joinOf rs
theorem k_str : c.mg "str" = none ∨ True := .inr trivial
theorem rows_first {rs : List (Int × Int × Int)} {vs : List Value} (h : AtAll c g (rs.map .row) vs) {i : Nat} {v : Value} (hv : vs[i]? = some v) : ∃ r a ws n t, rs[i]? = some r ∧ v = .ref a ∧ g a = some (tpO ws n) ∧ ws[0]? = some (.int r.1 t) := by
  obtain ⟨d, hd, ad⟩ := h.get' hv
  rw [List.getElem?_map] at hd
  cases hq : rs[i]? with
  | none => rw [hq] at hd; cases hd
  | some r =>
    rw [hq] at hd; cases hd
    obtain ⟨a, ws, n, rfl, e, r'⟩ := at_tup.mp ad
    obtain ⟨w1, w2, w3, hw, b1, _⟩ := all_inv3 r'
    obtain ⟨t, rfl⟩ := at_int.mp b1
    exact ⟨r, a, ws, n, t, rfl, rfl, e, by rw [← Array.getElem?_toList, hw]; rfl⟩

/-- firsts = (str(tup[0]) for tup in w) -/
theorem fw_gen {n : Nat} {rs : List (Int × Int × Int)} {Q : Value → Shared → Prop} (rm : Rm A n) (he : EnvOk env) (hq : env.qual = "format_witnesses.<locals>.") (hcd : env.code = .ref 164) (B : Bd c g₁ env [("w", .rows rs)] [] s) (hw : env.kindOf "w" = some .local) (hr : ∀ r ∈ rs, Ts r.1) {pw : Pos} {px : Pos}
    (q : ∀ (a : Addr) (fp wr : List Addr) (G : Array GenState → Array GenState → Prop) (P : Nat → Value → Prop) (St : Nat → Shared → Prop) (m : Str → Option Value) (v1 : Value) (s' : Shared), WalksS c.prog c.w A.in1.in1 a fp wr G rs.length P St → (∀ i s, St i s → s.TypeIs (.ref a) "generator") → (∀ b ∈ fp, b < s'.heap.objs.size) → a ∈ fp → env.locals ∉ fp →
      (∀ x y, AllBare x → G x y → AllBare y) → (∀ i v, P i v → ∃ r t, rs[i]? = some r ∧ v = Value.str (strOf r.1) t) → 
      GB c g₁ env wr St m s' → m "w" = some v1 → At c (hp s'.heap) (.rows rs) v1 → Q (.ref a) s') :
    Rn c A (eval (.GeneratorExp fwElt [⟨.Name "tup" px, .Name "w" pw, [], 0⟩] fwScope posG) env) Q s := by
  obtain ⟨v1, l, a1⟩ := B.frm "w" (.rows rs) rfl
  rw [List.map_nil, hide_nil] at l a1
  rcases l with ⟨_, o1, es, ep, l1, l2, l3, l4⟩ | ⟨h1, _⟩
  rotate_left
  · rw [hw] at h1; rcases h1 with h1 | ⟨h1, _⟩ <;> cases h1
  have ns0 : s.heap.Ns env.locals (nsFind es) := ⟨o1, es, ep, hp_get l1, l2, l3, fun _ => rfl⟩
  obtain ⟨lw, vs, nn, rfl, e1, r1⟩ := at_list.mp a1
  have hsz : vs.size = rs.length := by have := r1.length; simpa using this
  have hlt : lw < s.heap.objs.size := Heap.lt_size (hp_get e1)
  have hL : s.heap.IsList lw vs := ⟨_, hp_get e1, rfl, nn, rfl⟩
  have hLoc : env.locals < s.heap.objs.size := Heap.lt_size (hp_get l1)
  obtain ⟨of, esf, epf, f1, f2, _⟩ := B.fra.loc
  refine wpAny_GeneratorExp_make (cl := []) rfl (closureFor_none (by intro x hx; simp [fwScope] at hx; rcases hx with rfl | rfl | rfl <;> decide)) (by intro x hx; simp [fwScope] at hx; rcases hx with rfl | rfl | rfl <;> decide) rfl rfl (by have := rm.hd; omega) (wpAny_Name (wpAny_loadName_local he.kind hw ns0 l4 (wpAny_pyIter_list hL ⟨?_, ?_⟩)) (by decide)) (fun _ => rfl)
  · exact (B.ok.push _).inv.lim
  have hqual : env.qual ++ "<genexpr>" = qualG := by rw [hq]; decide +kernel
  rw [hqual]
  refine gen_code (B.ok.push _) hcd fun code h3 tk hx3 ok3 => ?_
  obtain ⟨bm, ob, b1, b2, b3, b4, b5, b6, b7, b8⟩ := ok3.inv.bm
  refine wpAny_builtinsFor (m := c.mg) (by rw [he.gl]; exact ok3.inv.g) b1 b2 b5 b6 b7 b8 ?_
  intro h' hn' hs'
  dsimp only at hn' hs' ⊢
  have big1 : 208 < s.heap.objs.size := B.ok.inv.big
  have hbig3 : 208 < h3.objs.size := ok3.inv.big
  have n160 : ∀ b, b ∉ tabA → b ≠ 160 := fun b hb q => hb (by rw [q]; decide)
  have kp3 : ∀ b o, b ∉ tabA → s.heap.get? b = some o → h3.get? b = some o := fun b o hb e => hx3 b o (n160 b hb) (Heap.get?_push_of_some _ e)
  have hI3 : h3.IsListIter s.heap.objs.size lw 0 := ⟨_, hx3 _ _ (n160 _ (not_tab big1)) (Heap.get?_push_size _ rfl), rfl, rfl⟩
  have hIlt : s.heap.objs.size < h3.objs.size := by obtain ⟨o, e, _⟩ := hI3; exact Heap.lt_size e
  have hlw3 : h3.get? lw = some (lsO vs nn) := kp3 _ _ (hp_off e1) (hp_get e1)
  have hsz5 : h'.objs.size = h3.objs.size + 1 := by rw [hs'.1, Heap.size_push]
  have kp' : ∀ b o, h3.get? b = some o → h'.get? b = some o := fun b o e => hs'.extBut b o (Nat.ne_of_lt (Heap.lt_size e)) (Heap.get?_push_of_some _ e)
  generalize hgo : ({ cls := .type "generator", data := .fields #[.int s.gens.size 0, .str "<genexpr>" (tk + 1), .str qualG (tk + 1 + 1)] } : Obj) = go
  have kp5 : ∀ b o, h3.get? b = some o → (h'.push go).get? b = some o := fun b o e => Heap.get?_push_of_some _ (kp' b o e)
  have hh : A.handled = none := rm.hh
  have hlocT : env.locals ∉ tabA := not_tab B.fra.hi
  have hne : ∀ b o, hp s.heap b = some o → o.cls ≠ .type "frame" → b ≠ env.locals := fun b o e hc q => by
    rw [q] at e
    have := hp_get e
    rw [f1] at this; cases this; exact hc f2
  have fpm : ∀ b, b < h3.objs.size → b ≠ env.locals → b ∈ (List.range h3.objs.size).filter (fun b => b ≠ env.locals) := fun b h1 h2 => List.mem_filter.mpr ⟨List.mem_range.mpr h1, by simpa using h2⟩
  have low : ∀ b, b ≤ 208 → b ∈ (List.range h3.objs.size).filter (fun b => b ≠ env.locals) := fun b hb => fpm b (Nat.lt_of_le_of_lt hb hbig3) (Nat.ne_of_lt (Nat.lt_of_le_of_lt hb B.fra.hi))
  have W0 : ∀ A' : Around, A'.handled = none → Walks c.prog c.w A' s.heap.objs.size ((List.range h3.objs.size).filter (fun b => b ≠ env.locals)) [s.heap.objs.size] vs.size (fun i v => vs[i]? = some v) (fun i h => h.IsListIter s.heap.objs.size lw i ∧ h.IsList lw vs) := fun A' hA => (Walks.list hA _ _ (Nat.ne_of_lt hlt) vs).mono_fp fun b hb => by
    rcases List.mem_cons.mp hb with rfl | hb
    · exact fpm _ hIlt (Nat.ne_of_gt hLoc)
    · rw [List.mem_singleton.mp hb]
      exact fpm _ (Heap.lt_size hlw3) (hne _ _ e1 (by show Value.type "list" ≠ _; decide))
  generalize hfp : (List.range h3.objs.size).filter (fun b => b ≠ env.locals) = fp' at fpm low W0
  have hfpl : ∀ b ∈ fp', b < h3.objs.size ∧ b ≠ env.locals := fun b hb => by
    rw [← hfp] at hb
    have := List.mem_filter.mp hb
    exact ⟨List.mem_range.mp this.1, by simpa using this.2⟩
  have hpass : passing (fun _ => true) vs.size 0 = List.range vs.size := by simp [passing]
  let F : Nat → Value → Prop := fun i y => ∃ r t, rs[i]? = some r ∧ y = Value.str (strOf r.1) t
  have W := WalksS.genexpQ (prog := c.prog) (w := c.w) (A := A.in1.in1) hh h'.objs.size s.gens.size h3.objs.size fp' [s.heap.objs.size] (fun _ => true) vs.size F (by rw [hsz5]; exact Nat.succ_ne_self _) (fun hm => absurd (hfpl _ hm).1 (Nat.not_lt_of_le (by rw [hsz5]; exact Nat.le_succ _))) (fun b hb => by
      rw [List.mem_singleton.mp hb]; exact fpm _ hIlt (Nat.ne_of_gt hLoc)) (by have := rm.hd; show A.depth < _; omega) (low _ (by decide)) (Nat.ne_of_lt (Nat.lt_trans (by decide) hbig3)) (by simp; exact Nat.ne_of_lt (Nat.lt_trans (by decide) big1))
  have hmgs : c.mg "str" = none := mg_none_of ok3.inv.k ok3.inv.g nb_str
  have hgen : (h'.push go).IsGen h'.objs.size s.gens.size := ⟨go, .str "<genexpr>" (tk + 1), .str qualG (tk + 1 + 1), Heap.get?_push_size _ (by rw [← hgo]; rfl), by rw [← hgo], by rw [← hgo], by rw [← hgo]⟩
  have hst : GenAt c.prog c.w A.in1.in1 h'.objs.size s.gens.size h3.objs.size fp' [s.heap.objs.size] (fun _ => true) vs.size F 0 { s with gens := s.gens.push (.fresh (.compStart (.GeneratorExp fwElt [⟨.Name "tup" px, .Name "w" pw, [], 0⟩] fwScope posG) 0 (.ref s.heap.objs.size) .none (genEnv fwScope [] h3.objs.size code builtinsNs env))), toks := tk + 1 + 1 + 1, heap := h'.push go } := by
    refine GenAt.fresh (A := A.in1.in1) (cenv := genEnv fwScope [] h3.objs.size code builtinsNs env) (m := fun y => if y = ".0" then some (.ref s.heap.objs.size) else none) hh W0 (fun _ => true) F rfl rfl rfl (fun hm => absurd (hfpl _ hm).1 (Nat.lt_irrefl _)) ⟨fun A' E' i v s₂ m₂ hA hv hn hm hk => wpAny_tests_nil ⟨rfl, s₂.heap, s₂.toks, rfl, fun _ _ e => e⟩, fun A' E' i v s₂ m₂ hA hv _ hn hm hk => ?_⟩ hgen (Array.getElem?_push_size ..) ⟨?_, ?_⟩ (hn'.push _) (ok3.inv.lim.keeps kp5)
    · obtain ⟨r, a', ws, n', t, h1, rfl, h2, h3'⟩ := rows_first r1 (by simpa using hv)
      have hk' : ∀ b o, b ∈ fp' → b ≠ s.heap.objs.size → h3.get? b = some o → s₂.heap.get? b = some o := fun b o hb hne e => hk b hb (by simpa using hne) o (kp5 b o e)
      have lowk : ∀ b o, b ≤ 208 → h3.get? b = some o → s₂.heap.get? b = some o := fun b o hb e => hk' b o (low b hb) (Nat.ne_of_lt (Nat.lt_of_le_of_lt hb big1)) e
      refine wpAny_mono (fw_elt (c := c) (r := r) (m := m₂) rfl he.gl rfl rfl rfl (ok3.inv.g.at' fun o e => lowk _ _ (by decide) e) (ok3.inv.b.at' fun o e => lowk _ _ (by decide) e) hmgs hn hm rfl (hk' a' _ (fpm _ (Heap.lt_size (kp3 _ _ (hp_off h2) (hp_get h2))) (hne _ _ h2 (by show Value.type "tuple" ≠ _; decide))) (Nat.ne_of_lt (Heap.lt_size (hp_get h2))) (kp3 _ _ (hp_off h2) (hp_get h2))) h3' (hr r (List.mem_of_getElem? h1))) (fun y s₃ h => ⟨?_, h.2⟩) fun _ _ e => e
      obtain ⟨⟨t, rfl⟩, _⟩ := h
      exact ⟨r, t, h1, rfl⟩
    · exact hI3.at fun o e => kp5 _ _ e
    · exact ⟨_, kp5 _ _ hlw3, rfl, nn, rfl⟩
  rw [hpass, List.length_range, hsz] at W
  have kpp : ∀ b o, hp s.heap b = some o → hp (h'.push go) b = some o := fun b o e => hp_of (kp5 _ _ (kp3 b o (hp_off e) (hp_get e))) (hp_off e)
  have ok5 : Ok c { s with gens := s.gens.push (.fresh (.compStart (.GeneratorExp fwElt [⟨.Name "tup" px, .Name "w" pw, [], 0⟩] fwScope posG) 0 (.ref s.heap.objs.size) .none (genEnv fwScope [] h3.objs.size code builtinsNs env))), toks := tk + 1 + 1 + 1, heap := h'.push go } :=
    ⟨ok3.inv.all kp5 (by show h3.objs.size ≤ (h'.push go).objs.size; rw [Heap.size_push, hsz5]; exact Nat.le_trans (Nat.le_succ _) (Nat.le_succ _)), B.ok.gens.push rfl, B.ok.os⟩
  rw [hsz] at hst
  obtain ⟨oC, esC, epC, eC, dC, _⟩ := hn'
  refine q h'.objs.size _ _ _ _ _ (nsFind es) (.ref lw) _ W (fun i s h => h.1.typeIs) (fun b hb => ?_) (.head _) (fun hm => ?_) (fun x y hx hxy => hxy.bare hx) (fun j v hv => ?_) ⟨ok5, fun b o e => kpp b o (B.keep b o e), hst, ns0.at' fun o e => ?_, ⟨of, ?_, f2⟩, fun b hb => ?_, fun b hb => ?_⟩ l4 (a1.mono kpp)
  · show b < (h'.push go).objs.size
    rw [Heap.size_push, hsz5]
    rcases List.mem_cons.mp hb with rfl | hb
    · rw [hsz5]; exact Nat.lt_succ_self _
    · rcases List.mem_cons.mp hb with rfl | hb
      · exact Nat.lt_succ_of_lt (Nat.lt_succ_self _)
      · exact Nat.lt_succ_of_lt (Nat.lt_succ_of_lt (hfpl b hb).1)
  · have h3lt : env.locals < h3.objs.size := Nat.lt_trans hLoc hIlt
    rcases List.mem_cons.mp hm with e | hm
    · rw [e, hsz5] at h3lt; exact absurd h3lt (Nat.not_lt_of_le (Nat.le_succ _))
    · rcases List.mem_cons.mp hm with e | hm
      · rw [e] at h3lt; exact absurd h3lt (Nat.lt_irrefl _)
      · exact (hfpl _ hm).2 rfl
  · obtain ⟨i, hi, r, t, h1, h2⟩ := hv
    obtain ⟨hj, e⟩ := List.getElem?_eq_some_iff.mp hi
    rw [List.getElem_range] at e
    subst e
    exact ⟨r, t, h1, h2⟩
  · exact hp_get (kpp _ _ (hp_of e hlocT))
  · exact hp_get (kpp _ _ (hp_of f1 hlocT))
  · rcases List.mem_cons.mp hb with rfl | hb
    · exact ⟨hbig3, oC, Heap.get?_push_of_some _ eC, .inr ⟨_, _, dC⟩⟩
    · rw [List.mem_singleton.mp hb]
      obtain ⟨o, e, hc, _⟩ := hI3
      exact ⟨big1, o, kp5 _ _ e, .inl (by rw [hc]; decide)⟩
  · cases e : g₁ b with
    | none => rfl
    | some o =>
      have := Heap.lt_size (hp_get (B.keep b o e))
      rcases List.mem_cons.mp hb with rfl | hb
      · exact absurd this (Nat.not_lt_of_le (Nat.le_of_lt hIlt))
      · rw [List.mem_singleton.mp hb] at this; exact absurd this (Nat.lt_irrefl _)
end
end Mine

/-! # J1 -/
namespace Mine
/-- the frame of format_witnesses while the generator stands -/
structure FW (c : Wd) (g₁ : PH) (env : Env) (fp wr : List Addr) (St : Nat → Shared → Prop) (rs : List (Int × Int × Int)) (s : Shared) (δ : Str → Option Value) : Prop where
  gb : GB c g₁ env wr St δ s
  sz : ∀ b ∈ fp, b < s.heap.objs.size
  w : ∃ v1, δ "w" = some v1 ∧ At c (hp s.heap) (.rows rs) v1
section
variable {c : Wd} {A : Around} {env : Env} {g g₁ : PH} {fp wr : List Addr} {St : Nat → Shared → Prop} {rs : List (Int × Int × Int)} {s : Shared} {δ : Str → Option Value} {prog : Program} {w : World} {A' : Around} {I : Addr} {G : Array GenState → Array GenState → Prop} {n : Nat} {P : Nat → Value → Prop}
theorem FW.tok (F : FW c g₁ env fp wr St rs s δ) (W : WalksS prog w A' I fp wr G n P St) {tk : Nat} (h : s.toks ≤ tk) : FW c g₁ env fp wr St rs { s with toks := tk } δ := ⟨F.gb.tok W h, F.sz, F.w⟩
theorem FW.store (F : FW c g₁ env fp wr St rs s δ) (W : WalksS prog w A' I fp wr G n P St) (he : EnvOk env) (hl : env.locals ∉ fp) (hg : g₁ env.locals = none) (hb : 208 < env.locals) {x : Str} {v : Value} {E : Value → Shared → Prop} {Q : Unit → Shared → Prop} (hx : env.kindOf x = some .local) (hxw : ("w" : Str) ≠ x)
    (q : ∀ s', FW c g₁ env fp wr St rs s' (fun y => if y = x then some v else δ y) → Q () s') : wpAny c.M A (storeName env x v) Q E s :=
  F.gb.store W he hl hg hb hx fun h' tk htk hs B => q _ ⟨B, fun b hb => by
    have := F.sz b hb
    show b < h'.objs.size
    rw [hs.1]; exact this, by
    obtain ⟨v1, h1, h2⟩ := F.w
    refine ⟨v1, by rw [if_neg hxw]; exact h1, h2.monoD fun b o e hd => sameBut_hp hs e fun q => ?_⟩
    obtain ⟨o1, e1, e2⟩ := F.gb.frc
    rw [q] at e
    have := hp_get e
    rw [e1] at this; cases this; exact hd.frame.1 e2⟩
theorem moved_ok {s' : Shared} (B : GB c g₁ env wr St δ s) (hG : ∀ x y, AllBare x → G x y → AllBare y) (hm : Moved wr G s s') : Ok c s' ∧ Keep g₁ (hp s'.heap) := by
  have low : ∀ b : Nat, b ≤ 208 → b ∉ wr := fun b hb hq => absurd (B.lo b hq).1 (Nat.not_lt_of_le hb)
  refine ⟨⟨B.ok.inv.stepF (fun b o hb _ e => hm.heap b o (low b hb) e) (fun P hP => ?_) (fun b o vs hb hc hd e => hm.heap b o (fun hq => ?_) e) ?_, hG _ _ B.ok.gens hm.gens, hm.os.trans B.ok.os⟩, fun b o e => hp_of (hm.heap b o (fun hq => by rw [B.no b hq] at e; cases e) (hp_get (B.keep b o e))) (hp_off (B.keep b o e))⟩
  · obtain ⟨ps, e⟩ := B.ok.inv.tab P hP
    rw [e, hm.heap P _ (low P (by unfold tabA at hP; simp only [List.mem_cons, List.not_mem_nil, or_false] at hP; rcases hP with rfl | rfl | rfl <;> omega)) e]
  · obtain ⟨_, o', e', h⟩ := B.lo b hq
    rw [e] at e'; cases e'
    rcases h with h | ⟨es, ep, h⟩
    · exact h hc
    · rw [hd] at h; cases h
  · have e : ∃ o, c.K.lookup 208 = some o := ⟨_, rfl⟩
    obtain ⟨o, e⟩ := e
    exact Heap.lt_size (hm.heap _ _ (low 208 (Nat.le_refl _)) (B.ok.inv.k _ _ e))
theorem strs_of_items {rs : List (Int × Int × Int)} {P : Nat → Value → Prop} (hP : ∀ i v, P i v → ∃ r t, rs[i]? = some r ∧ v = Value.str (strOf r.1) t) {l : List (Str × Tok)} (h : ItemsOf P (strValues l).toArray rs.length) : l.map (·.1) = rs.map fun r => strOf r.1 := by
  have hlen : l.length = rs.length := by have := h.1; simpa [strValues] using this
  apply List.ext_getElem?
  intro i
  rcases Nat.lt_or_ge i l.length with hi | hi
  · have hv : (strValues l).toArray[i]? = some (Value.str l[i].1 l[i].2) := by
      simp [strValues, List.getElem?_map, List.getElem?_eq_getElem hi]
    obtain ⟨r, t, h1, h2⟩ := hP i _ (h.2 i _ hv)
    injection h2 with h2 _
    rw [List.getElem?_map, List.getElem?_map, List.getElem?_eq_getElem hi, h1]
    simp [h2]
  · rw [List.getElem?_eq_none (by simpa using hi), List.getElem?_eq_none (by simp; omega)]

/-- concatenation, the tokens seen -/
theorem add_str_m {x y : Str} {t u : Tok} {E : Value → Shared → Prop} {Q : Value → Shared → Prop} (hx : 0 < x.length) (hy : 0 < y.length) (hsz : x.length + y.length ≤ 100000) (q : ∀ t', Q (.str (x ++ y) t') { s with toks := s.toks + 1 }) : wpAny c.M A (binaryOp .Add (.str x t) (.str y u)) Q E s := by
  refine PySem.P.add_str ?_
  rw [if_neg (by simp; omega), if_neg (by simp; omega)]
  refine ⟨?_, q _⟩
  rw [Str.length_append]; simp [sizeLine]; omega
theorem fw_join {a : Addr} {tj : Tok} {Q : Value → Shared → Prop} (F : FW c g₁ env fp wr St rs s δ) (W : WalksS c.prog c.w A.in1.in1 a fp wr G rs.length P St) (hT : ∀ i s, St i s → s.TypeIs (.ref a) "generator") (hI : a ∈ fp) (hG : ∀ x y, AllBare x → G x y → AllBare y)
    (hP : ∀ i v, P i v → ∃ r t, rs[i]? = some r ∧ v = Value.str (strOf r.1) t) (hr : ∀ r ∈ rs, Ts r.1) (hl : rs.length ≤ 100)
    (q : ∀ t' s', Ok c s' → Keep g₁ (hp s'.heap) → Q (.str (joinOf rs) t') s') : Rn c A (call (.builtin "str.join") [.str ", " tj, .ref a]) Q s := by
  have hjw := joinOf_w hr hl
  have hsep : (", " : Str).length = 2 := by decide +kernel
  refine SC.joinGen W hT F.gb.st F.sz hI (fun i v h => by obtain ⟨r, t, _, e⟩ := hP i v h; exact ⟨_, _, e⟩) (fun s' l hm hit => ?_) (Nat.le_trans hl (by simp [sizeLine]))
  rw [strs_of_items hP hit]
  refine ⟨joinOk_of_weight (Nat.le_trans hjw (by decide)) (by rw [hsep]; decide), fun t' k => ?_⟩
  obtain ⟨ok', k'⟩ := moved_ok F.gb hG hm
  exact q _ _ (ok'.tok _) k'
theorem fw_ret {a : Addr} {pre : Str} {t : Tok} {p1 p2 p3 p4 p5 p6 p7 p8 p9 : Pos} {Q : Flow → Shared → Prop} (W : WalksS c.prog c.w A.in1.in1 a fp wr G rs.length P St) (he : EnvOk env) (hT : ∀ i s, St i s → s.TypeIs (.ref a) "generator") (hI : a ∈ fp) (hG : ∀ x y, AllBare x → G x y → AllBare y)
    (hP : ∀ i v, P i v → ∃ r t, rs[i]? = some r ∧ v = Value.str (strOf r.1) t) (F : FW c g₁ env fp wr St rs s δ) (k1 : env.kindOf "firsts" = some .local) (k2 : env.kindOf "prefix" = some .local) (hf : δ "firsts" = some (.ref a)) (hpre : δ "prefix" = some (.str pre t)) (h0 : 0 < pre.length) (hlen : pre.length ≤ 20) (hr : ∀ r ∈ rs, Ts r.1) (hl : rs.length ≤ 100)
    (q : ∀ v s', Ok c s' → Keep g₁ (hp s'.heap) → At c (hp s'.heap) (.str (pre ++ (" " : Str) ++ joinOf rs)) v → Q (.ret v) s') {pl : Sem Bool}
    (hev : eval (.Call (.Attribute (.Constant (.str ", ") 0 p4) "join" p5) [.Name "firsts" p6] [] p7) env = (do
      let ov ← eval (.Constant (.str ", ") 0 p4) env
      standAt p5.atName
      let (f, first) ← holding [ov] (getMethod ov "join" pl)
      callWith p7 f first (backTo p7 (starEach [.Name "firsts" p6] env)) (backToKw p7 (keywordEach [] env))) := by rfl) :
    Rn c A (execs [.Return (some (.BinOp (.BinOp (.Name "prefix" p1) .Add (.Constant (.str " ") 0 p2) p3) .Add (.Call (.Attribute (.Constant (.str ", ") 0 p4) "join" p5) [.Name "firsts" p6] [] p7) p8)) p9] env) Q s := by
  have hsp : (" " : Str).length = 1 := by decide +kernel
  have hsp0 : 0 < (" " : Str).length := by rw [hsp]; exact Nat.one_pos
  have hsp1 : pre.length + (" " : Str).length ≤ 100000 := by rw [hsp]; exact Nat.le_trans (Nat.add_le_add_right hlen 1) (by decide)
  have hjl := joinOf_len hr hl
  refine wpAny_execs_cons (wpAny_Return_some (wpAny_BinOp (wpAny_BinOp (wpAny_Name (wpAny_loadName_local he.kind k2 F.gb.ns hpre (wpAny_Constant_str (add_str_m h0 hsp0 hsp1 fun t1 => ?_))) (by decide)))))
  refine methodCall_KW (wpAny_Constant_str (GM.join ?_)) hev
  refine callWith_of (P := fun _ => True) (by rfl) (fun _ _ => ⟨.machine, .inr (.inl rfl), Looks.of_pure rfl⟩) (evalArgs_flat (by rfl) (args_cons (wpAny_Name (wpAny_loadName_local he.kind k1 F.gb.ns hf (args_nil ⟨trivial, ?_⟩)) (by decide)) (by rfl)))
  refine fw_join (F.tok W (tk := _) ?htk) W hT hI hG hP hr hl fun t' s' ok' k' => ?_
  case htk => exact Nat.le_trans (Nat.le_succ _) (Nat.le_trans (Nat.le_succ _) (Nat.le_succ _))
  refine PyProof.Rows.add_str (fun t3 tk3 => q _ _ (ok'.tok _) k' (mk_str _ _)) ?_
  rw [Str.length_append, hsp]
  exact Nat.le_trans (Nat.add_le_add (Nat.add_le_add_right hlen 1) hjl) (by simp [sizeLine])
set_option maxHeartbeats 2000000 in
theorem format_witnesses_spec {m : Nat} (rm : Rm A (m + 1)) {rs : List (Int × Int × Int)} (hr : ∀ r ∈ rs, Ts r.1) (hl : rs.length ≤ 100) : Spec c A (.ref 165) [.rows rs] (.str (fmtOf rs)) := fun s vs Q ok ha q => by
  obtain ⟨v1, rfl, a1⟩ := all_inv1 ha
  refine wpAny_call (fn_call (binds := [("w", v1)]) (bds := [.rows rs]) rfl (by kernel_rfl) rm ok (by kernel_rfl) (all1 a1) (by kernel_rfl) fun L s1 B => ?_)
  have he := B.fra.ok
  have hnl := B.fra.nloc
  have hil := B.fra.hi
  refine wpAny_execs_cons (wpAny_Assign_Name (fw_gen (rm.deeper _) he (by kernel_rfl) rfl B rfl hr fun a fp wr G P St δ w1 s2 W hT hsz hI hl2 hG hP B2 hw2 aw2 => ?_))
  have F2 : FW c (hp s.heap) _ fp wr St rs s2 δ := ⟨B2, hsz, w1, hw2, aw2⟩
  refine F2.store W he hl2 hnl hil (x := "firsts") rfl (by decide) fun s3 F3 => ?_
  refine wpAny_execs_cons (wpAny_Assign_Name (wpAny_Constant_str ?_))
  refine (F3.tok W (Nat.le_succ _)).store W he hl2 hnl hil (x := "prefix") rfl (by decide) fun s4 F4 => ?_
  refine wpAny_execs_cons (wpAny_If (wpAny_isTrue_Compare1 ?_ (by with_unfolding_all rfl)))
  obtain ⟨w4, hw4, aw4⟩ := F4.w
  obtain ⟨lw, ws, nn, rfl, ew, rw⟩ := at_list.mp aw4
  have hwl : ws.size = rs.length := by have := rw.length; simpa using this
  refine Call_ (blt_load he F4.gb.ok nb_len rfl (by decide) (callWith_of (P := fun _ => True) (by rfl) (fun _ _ => ⟨.machine, .inr (.inl rfl), Looks.of_pure rfl⟩) (evalArgs_flat (by rfl) (args_cons (wpAny_Name (wpAny_loadName_local he.kind rfl F4.gb.ns hw4 (args_nil ⟨trivial, ?_⟩)) (by decide)) (by rfl)))))
  refine PyProof.Rows.len_list ⟨_, hp_get ew, rfl, nn, rfl⟩ (by rw [hwl]; omega) ?_
  refine wpAny_Constant_int (PyProof.Rows.gt_int (wpAny_truthy_bool ?_))
  rw [hwl]
  have hcond : decide ((1 : Int) < (rs.length : Int)) = decide (1 < rs.length) := by
    by_cases h : 1 < rs.length
    · rw [decide_eq_true h, decide_eq_true (by omega)]
    · rw [decide_eq_false h, decide_eq_false (by omega)]
  rw [hcond]
  by_cases hc : 1 < rs.length
  · rw [decide_eq_true hc, if_pos rfl]
    refine wpAny_execs_cons (wpAny_Assign_Name (wpAny_BinOp (wpAny_Name (wpAny_loadName_local he.kind rfl F4.gb.ns (v := .str "at tab size" s3.toks) rfl (wpAny_Constant_str (add_str_m (by decide +kernel) (by decide +kernel) (by decide +kernel) fun t6 => ?_))) (by decide))))
    refine (F4.tok W (tk := _) ?htk).store W he hl2 hnl hil (x := "prefix") rfl (by decide) fun s6 F6 => ?_
    case htk => dsimp only; omega
    refine ex_nil (fw_ret (pre := ("at tab size" : Str) ++ ("s" : Str)) W he hT hI hG hP F6 rfl rfl rfl rfl (by decide +kernel) (by decide +kernel) hr hl fun v s' ok' k' a' => q v s' ok' k' ?_)
    unfold fmtOf; rw [if_pos hc]; exact a'
  · rw [decide_eq_false hc, if_neg (by decide)]
    refine ex_nil (fw_ret (pre := "at tab size") W he hT hI hG hP (F4.tok W (tk := _) ?htk) rfl rfl rfl rfl (by decide +kernel) (by decide +kernel) hr hl fun v s' ok' k' a' => q v s' ok' k' ?_)
    case htk => dsimp only; omega
    unfold fmtOf; rw [if_neg hc]; exact a'
end
end Mine

/-! # J2 -/
namespace Mine
section
variable {c : Wd} {A : Around} {env : Env} {g g₁ : PH} {pos p : Pos} {s s' : Shared}
/-- two dicts of ints hold the same -/
def eqI (t u : List (Int × Int)) : Bool := t.length == u.length && t.all fun kv => getI u kv.1 == some kv.2
theorem hits_of {A : Around} {s : Shared} {u : List (Int × Int)} {us : List (Int × Value)} (hU : IVals u us) : ∀ {t : List (Int × Int)} {ts : List (Int × Value)}, IVals t ts → KeqHits A s us ts (t.all fun kv => getI u kv.1 == some kv.2)
  | [], [], _ => .nil
  | (k, n) :: r, (k', v) :: r', h => by
    obtain ⟨rfl, ⟨t, rfl⟩, h⟩ := h
    have ih := hits_of (A := A) (s := s) hU h
    rcases hU.at k with ⟨h1, h2⟩ | ⟨m, t', h1, h2⟩
    · have e : ((k, n) :: r).all (fun kv => getI u kv.1 == some kv.2) = false := by
        rw [List.all_cons]; simp only [h1]; rfl
      rw [e]; exact .miss h2
    · have e : ((k, n) :: r).all (fun kv => getI u kv.1 == some kv.2) = ((n == m) && r.all (fun kv => getI u kv.1 == some kv.2)) := by
        rw [List.all_cons]; simp only [h1]
        congr 1
        by_cases h : n = m
        · subst h; simp
        · have h' : ¬ m = n := fun q => h q.symm
          have x1 : (n == m) = false := by simpa using h
          have x2 : (some m == some n) = false := by simpa using h'
          rw [x1]; exact x2
      rw [e]; exact .hit h2 (SeqAt.EqAt.int_int _ _ _ _) ih
theorem eqI_pairs {t u : List (Int × Int)} {ts us : List (Int × Value)} (hT : IVals t ts) (hU : IVals u us) : (ts.length == us.length && t.all fun kv => getI u kv.1 == some kv.2) = eqI t u := by
  unfold eqI; rw [hT.length, hU.length]
theorem ne_dict (hu : A.units < cLine) (t u : List (Int × Int)) : F2 c A (compareOp .NotEq) (.dict t) (.dict u) (.bool (!eqI t u)) := fun s v1 v2 Q ok a1 a2 q => by
  obtain ⟨a, o, ts, rfl, e, hb, hD, hT⟩ := at_dict.mp a1
  obtain ⟨b, o', us, rfl, e', hb', hD', hU⟩ := at_dict.mp a2
  refine keq_ne (not_sys hb) (not_sys hb') (Heap.dictOf_iff.mpr ⟨o, hp_get e, hD⟩) (Heap.dictOf_iff.mpr ⟨o', hp_get e', hD'⟩) hu (fun _ => hits_of hU hT) ?_
  rw [eqI_pairs hT hU]
  exact q _ _ ok (Keep.refl _) (mk_bool _)
theorem pairs_any {p1 p2 : Program} {w1 w2 : World} : ∀ {es : List DictEntry} {ts : List (Int × Value)}, Pairs (intKind p1 w1) es ts → Pairs (intKind p2 w2) es ts
  | _, _, .nil => .nil
  | _, _, .cons h1 h2 h3 => .cons h1 h2 (pairs_any h3)
theorem isDict_any {p1 p2 : Program} {w1 w2 : World} {o : Obj} {ts : List (Int × Value)} (h : o.IsDictOf (intKind p1 w1) ts) : o.IsDictOf (intKind p2 w2) ts :=
  let ⟨es, ep, h1, h2, h3, h4, h5⟩ := h
  ⟨es, ep, h1, h2, h3, pairs_any h4, h5⟩
theorem eqAt_dict (hu : A.units < cLine) {t u : List (Int × Int)} {v1 v2 : Value} (a1 : At c (hp s.heap) (.dict t) v1) (a2 : At c (hp s.heap) (.dict u) v2) (h : eqI t u = true) : SeqAt.EqAt A s v1 v2 true := by
  obtain ⟨a, o, ts, rfl, e, hb, hD, hT⟩ := at_dict.mp a1
  obtain ⟨b, o', us, rfl, e', hb', hD', hU⟩ := at_dict.mp a2
  by_cases hab : a = b
  · subst hab; exact .same _
  · refine .of_refs hab fun prog w E Q hq => ?_
    have D1 : o.IsDictOf (intKind prog w) ts := isDict_any hD
    have D2 : o'.IsDictOf (intKind prog w) us := isDict_any hD'
    refine keq_eq (not_sys hb) (not_sys hb') (Heap.dictOf_iff.mpr ⟨o, hp_get e, D1⟩) (Heap.dictOf_iff.mpr ⟨o', hp_get e', D2⟩) hu (fun _ => hits_of hU hT) ?_
    rw [eqI_pairs hT hU, h]
    exact hq
theorem ne_dicts_same (hu : A.units < cLine) (hu1 : A.in1.units < cLine) {ts us : List (List (Int × Int))} (hl : ts.length = us.length) (h : ∀ (i : Nat) t u, ts[i]? = some t → us[i]? = some u → eqI t u = true) : F2 c A (compareOp .NotEq) (.list (ts.map .dict)) (.list (us.map .dict)) (.bool false) := fun s v1 v2 Q ok a1 a2 q => by
  obtain ⟨a, vs, n, rfl, e, r⟩ := at_list.mp a1
  obtain ⟨b, ws, m, rfl, e', r'⟩ := at_list.mp a2
  have l1 : vs.size = ts.length := by have := r.length; simpa using this
  have l2 : ws.size = us.length := by have := r'.length; simpa using this
  have hsz : vs.size = ws.size := by omega
  have he : ∀ j (h1 : j < vs.size) (h2 : j < ws.size), SeqAt.EqAt A.in1 s vs[j] ws[j] true := fun j h1 h2 => by
    obtain ⟨d, hd, ad⟩ := r.get' (i := j) (v := vs[j]) (by simp [h1])
    obtain ⟨d', hd', ad'⟩ := r'.get' (i := j) (v := ws[j]) (by simp [h2])
    rw [List.getElem?_map] at hd hd'
    rw [List.getElem?_eq_getElem (by omega)] at hd hd'
    cases hd; cases hd'
    exact eqAt_dict hu1 ad ad' (h j _ _ (List.getElem?_eq_getElem (by omega)) (List.getElem?_eq_getElem (by omega)))
  refine PySem.richCompare_meets_room (op := .NotEq) ⟨_, hp_get e, rfl⟩ ⟨_, hp_get e', rfl⟩ F.slot_list_ne F.entry_list_ne (F.args_list_ne_2 _ _) (SeqAt.list_neAt a b vs ws n m none none #[] #[] hsz fun _ => true)
    ⟨hp_get e, hp_get e', he, ?_⟩ hu
  have : (!(List.range vs.size).all fun _ => true) = false := by simp
  rw [this]
  exact ⟨(fun x => nomatch x), q _ _ ok (Keep.refl _) (mk_bool _)⟩
end
end Mine

/-! # K1 -/
namespace Mine
section
variable {c : Wd} {A : Around} {env : Env} {g g₁ : PH} {pos p : Pos} {ρ ρ' : List (Str × D)} {ow : List (Addr × Obj)} {s s' : Shared} {rest : List Stmt}

/-! ## TupleComp -/
abbrev csL : D := .tup [.tup [.int 1, .int 1], .tup [.int 2, .int (-1)]]
def cmpOf (r t : Int × Int × Int) : Int := if r.2.1 < t.2.1 then -1 else if t.2.1 < r.2.1 then 1 else if r.2.2 < t.2.2 then 1 else if t.2.2 < r.2.2 then -1 else 0
theorem tc_ga : findIn c.K (.ref cTC) "__getattribute__" = some (some (.builtin "object.__getattribute__")) := by kernel_rfl
theorem tc_gt : findIn c.K (.ref cTC) "__getattr__" = some none := by kernel_rfl
theorem tc_set : findIn c.K (.ref cTC) "__setattr__" = some (some (.builtin "object.__setattr__")) := by kernel_rfl
theorem tc_over : plainOver c.K cTC = true := by kernel_rfl
theorem tc_dict : (clsIn c.K cTC).any (·.hasDict) = true := by kernel_rfl
theorem at_comp {cs : D} {v : Value} : At c g (.comp cs) v ↔ ∃ x dx h1 t1 v1 k, v = .ref x ∧ 208 < x ∧ g x = some (instObj cTC dx) ∧ g dx = some (dictOf [⟨h1, .str "comp_select_list" t1, v1⟩] k) ∧ At c g cs v1 := by rw [At.eq_def]
theorem comp_inst {cs : D} {h : Heap} {v : Value} (a : At c (hp h) (.comp cs) v) :
    ∃ x dx h1 t1 v1 k, v = .ref x ∧ InstAt h x (instObj cTC dx) cTC (some (dictOf [⟨h1, .str "comp_select_list" t1, v1⟩] k)) ∧ At c (hp h) cs v1 := by
  obtain ⟨x, dx, h1, t1, v1, k, rfl, _, e1, e2, r⟩ := at_comp.mp a
  exact ⟨x, dx, h1, t1, v1, k, rfl, ⟨hp_get e1, rfl, rfl, hp_get e2⟩, r⟩
theorem comp_cs {h1 : Int} {t1 : Tok} {v1 : Value} {k : Nat} : findObj c.K cTC (some (dictOf [⟨h1, .str "comp_select_list" t1, v1⟩] k)) "comp_select_list" = some (.value v1) := by kernel_rfl
theorem get_cs {cs : D} (hn : ∃ xs, cs = .tup xs) (s : Shared) (v : Value) (Q : Value → Shared → Prop) (ok : Ok c s) (a : At c (hp s.heap) (.comp cs) v) (q : ∀ v' s', Ok c s' → Keep (hp s.heap) (hp s'.heap) → At c (hp s'.heap) cs v' → Q v' s') : Rn c A (getAttr v "comp_select_list" true) Q s := by
  obtain ⟨x, dx, h1, t1, v1, k, rfl, I, r⟩ := comp_inst a
  obtain ⟨xs, rfl⟩ := hn
  refine get_value ok.inv.k I tc_ga comp_cs ?_ (q _ _ (ok.tok _) (Keep.refl _) r)
  obtain ⟨_, _, _, rfl, _⟩ := at_tup.mp r
  rfl
theorem m_compare {cs : D} : Meth c (.comp cs) "compare" (.ref 71) := fun A s ov pl Q ok a q => by
  obtain ⟨x, dx, h1, t1, v1, k, rfl, I, r⟩ := comp_inst a
  exact method_fn ok.inv.k I tc_ga tc_gt (by kernel_rfl) (by kernel_rfl) (by kernel_rfl) q
theorem Ev.cs {e : Expr} {cs : D} (h : Ev c A env g e (.comp cs)) (hn : ∃ xs, cs = .tup xs) (he : eval (.Attribute e "comp_select_list" pos) env = (do
      let o ← eval e env
      standAt pos.atName
      let r ← holding [o] (getAttr o "comp_select_list" true)
      letTemporaryGo e o r
      pure r) := by with_unfolding_all rfl) : Ev c A env g (.Attribute e "comp_select_list" pos) cs := .attr h (get_cs hn) he

/-- a tuple's iterator owns no tuple -/
theorem go_tupit {elts : List Expr} {n1 : Nat} {pt : Pos} {I l : Addr} {i : Nat} {v : Value} {E : Value → Shared → Prop} {Q : Unit → Shared → Prop} (hit : s.heap.IsTupleIter I l i) (hQ : Q () s) :
    wpAny c.M A (letOwnedTupleGo (.Tuple elts n1 pt) (.ref I) v) Q E s := by
  obtain ⟨o, ho, hc, hd⟩ := hit
  unfold letOwnedTupleGo
  cases v with
  | ref T =>
    refine wpAny_bind (wpAny_load ho ?_)
    rw [hc, hd]
    dsimp only
    rw [if_neg (by
      intro h
      rw [Bool.and_eq_true] at h
      exact absurd h.1 (by decide))]
    exact wpAny_pure hQ
  | _ => exact wpAny_pure hQ
theorem iterT_tup {elts : List Expr} {n1 : Nat} {pt : Pos} {ds : List D} {v : Value} (hh : A.handled = none) (a : At c g (.tup ds) v) : IterT c A g (.Tuple elts n1 pt) v ds := fun s Q ok k q => by
  obtain ⟨l, vs, n, rfl, e, r⟩ := at_tup.mp a
  have hl : vs.size = ds.length := by have := r.length; simpa using this
  have e1 := hp_get (k _ _ e)
  have hL : s.heap.IsTuple l vs := ⟨_, e1, rfl, n, rfl⟩
  have hlt : l < s.heap.objs.size := Heap.lt_size e1
  refine wpAny_pyIter_tuple hL ?_
  have W := Walks.tuple (prog := c.prog) (w := c.w) hh s.heap.objs.size l (Nat.ne_of_lt hlt) vs
  rw [hl] at W
  refine q _ [s.heap.objs.size, l] [s.heap.objs.size] (fun i h => h.IsTupleIter s.heap.objs.size l i ∧ h.IsTuple l vs) _ ⟨W.frame, fun i s2 d Q E hd hst hq => ?_, W.done⟩ ⟨⟨_, Heap.get?_push_size _ rfl, rfl, rfl⟩, hL.at fun o e => Heap.get?_push_of_some _ e⟩ (ok.push _) (keep_push _ _) (fun b hb => by rw [List.mem_singleton.mp hb]; exact Nat.le_refl _) (fun b hb => ?_) (fun i h hst b hb => ?_)
  · refine W.item i s2 _ _ (List.getElem?_eq_some_iff.mp hd).1 hst fun v h' tk hv hst' hk => ⟨v, rfl, go_tupit hst'.1 (hq v h' tk hst' hk fun H _ _ kd => ?_)⟩
    obtain ⟨d', hd', ad⟩ := r.get' (by simpa using hv)
    rw [hd] at hd'; cases hd'
    exact ad.monoD kd
  · rcases List.mem_cons.mp hb with rfl | hb
    · exact .inl (List.mem_singleton.mpr rfl)
    · rw [List.mem_singleton.mp hb]
      exact .inr ⟨_, e, .tup⟩
  · rw [List.mem_singleton.mp hb]; obtain ⟨⟨o, ho, hc, _⟩, _⟩ := hst; exact ⟨o, ho, by rw [hc]; decide, by rw [hc]; decide⟩

set_option maxHeartbeats 2000000 in
theorem compare_spec {m : Nat} (rm : Rm A (m + 1)) {r t : Int × Int × Int} : Spec c A (.ref 71) [.comp csL, .row r, .row t] (.int (cmpOf r t)) := fun s vs Q ok ha q => by
  obtain ⟨v1, v2, v3, rfl, a1, a2, a3⟩ := all_inv3 ha
  refine wpAny_call (fn_call (binds := [("self", v1), ("left", v2), ("right", v3)]) (bds := [.comp csL, .row r, .row t]) rfl (by kernel_rfl) rm ok (by kernel_rfl) (all_cons a1 (all_cons a2 (all1 a3))) (by kernel_rfl) fun L s1 B => ?_)
  have B := B.to (ρ' := [("left", .row r), ("right", .row t), ("self", .comp csL)]) ⟨rfl, rfl, rfl, trivial⟩
  refine ex_forT (ds := [.tup [.int 1, .int 1], .tup [.int 2, .int (-1)]]) (fun i (_ : Unit) _ => (1 ≤ i → r.2.1 = t.2.1) ∧ (2 ≤ i → r.2.2 = t.2.2)) (fun _ _ _ _ _ h => h) (fun _ => [("left", .row r), ("right", .row t), ("self", .comp csL)]) (fun _ => []) (fun _ _ => False) (fun d => d = .int (cmpOf r t))
    (δ := fun d => match d with | .tup [d0, d1] => [("direction", d1), ("index", d0)] | _ => []) () ⟨fun h => absurd h (by decide), fun h => absurd h (by decide)⟩ B (fun d hd => ?_) (EvH.evI (B.evh (.cs (B.name rfl) ⟨_, rfl⟩)) fun g v a => iterT_tup (hhd rm.hh) a) ?_ ?_ ?_
  · simp only [List.mem_cons, List.not_mem_nil, or_false] at hd
    rcases hd with rfl | rfl
    · exact tg_pair (hhd rm.hh) (.inl rfl) (.inl rfl)
    · exact tg_pair (hhd rm.hh) (.inl rfl) (.inl rfl)
  · rintro i ⟨⟩ d g' s3 hP hd B
    match i, hd with
    | 0, hd =>
      simp at hd; subst hd
      refine ex_assign B (.item_tup (B.name rfl) (B.name rfl) (by decide) rfl) (.inl rfl) fun s4 B => ?_
      refine ex_assign B (.item_tup (B.name rfl) (B.name rfl) (by decide) rfl) (.inl rfl) fun s5 B => ?_
      refine ex_if B (.cmp (B.name rfl) (B.name rfl) (lt_i _ _)) fun s6 B => ?_
      by_cases h1 : r.2.1 < t.2.1
      · rw [decide_eq_true h1]
        refine ex_return B (.neg (B.name rfl)) fun v s' r' => ⟨_, ?_, r'⟩
        unfold cmpOf; rw [if_pos h1]
      · rw [decide_eq_false h1]
        refine ex_nil (ex_if B (.cmp (B.name rfl) (B.name rfl) (gt_i _ _)) fun s7 B => ?_)
        by_cases h2 : t.2.1 < r.2.1
        · rw [decide_eq_true h2]
          refine ex_return B (B.name rfl) fun v s' r' => ⟨_, ?_, r'⟩
          unfold cmpOf; rw [if_neg h1, if_pos h2]
        · rw [decide_eq_false h2]
          exact ex_nil (ex_nil ⟨(), ⟨fun _ => by omega, fun h => absurd h (by decide)⟩, B.to ⟨rfl, rfl, rfl, trivial⟩⟩)
    | 1, hd =>
      simp at hd; subst hd
      have h0 := hP.1 (by decide)
      refine ex_assign B (.item_tup (B.name rfl) (B.name rfl) (by decide) rfl) (.inl rfl) fun s4 B => ?_
      refine ex_assign B (.item_tup (B.name rfl) (B.name rfl) (by decide) rfl) (.inl rfl) fun s5 B => ?_
      refine ex_if B (.cmp (B.name rfl) (B.name rfl) (lt_i _ _)) fun s6 B => ?_
      by_cases h1 : r.2.2 < t.2.2
      · rw [decide_eq_true h1]
        refine ex_return B (.neg (B.name rfl)) fun v s' r' => ⟨_, ?_, r'⟩
        unfold cmpOf; rw [if_neg (by omega), if_neg (by omega), if_pos h1]; rfl
      · rw [decide_eq_false h1]
        refine ex_nil (ex_if B (.cmp (B.name rfl) (B.name rfl) (gt_i _ _)) fun s7 B => ?_)
        by_cases h2 : t.2.2 < r.2.2
        · rw [decide_eq_true h2]
          refine ex_return B (B.name rfl) fun v s' r' => ⟨_, ?_, r'⟩
          unfold cmpOf; rw [if_neg (by omega), if_neg (by omega), if_neg h1, if_pos h2]
        · rw [decide_eq_false h2]
          exact ex_nil (ex_nil ⟨(), ⟨fun _ => h0, fun _ => by omega⟩, B.to ⟨rfl, rfl, rfl, trivial⟩⟩)
    | i + 2, hd => simp at hd
  · rintro ⟨⟩ s3 (hP | h) B
    rotate_left
    · exact h.elim
    have h0 := hP.1 (by simp)
    have h1 := hP.2 (by simp)
    refine ex_return B .cint fun v s' r' => q v s' r'.ok r'.keep ?_
    have : cmpOf r t = 0 := by unfold cmpOf; rw [if_neg (by omega), if_neg (by omega), if_neg (by omega), if_neg (by omega)]
    rw [this]; exact r'.at_
  · rintro d v s3 rfl r'
    exact q v s3 r'.ok r'.keep r'.at_

/-! the class is called -/
theorem cs_hide {v : Value} {l : Addr} {o : Obj} (a : At c g csL v) (e : g l = some o) (ho : o.cls ≠ .type "tuple") : At c (hide g [l]) csL v := by
  have off : ∀ (b : Addr) (ob : Obj), g b = some ob → ob.cls = .type "tuple" → b ∉ [l] := fun b ob eb hc hm => by
    rw [List.mem_singleton.mp hm, e] at eb; cases eb; exact ho hc
  obtain ⟨b, vs, n, rfl, eb, r⟩ := at_tup.mp a
  obtain ⟨w1, w2, hv, b1, b2⟩ := all_inv2 r
  obtain ⟨b1', vs1, n1, rfl, eb1, r1⟩ := at_tup.mp b1
  obtain ⟨b2', vs2, n2, rfl, eb2, r2⟩ := at_tup.mp b2
  obtain ⟨x1, x2, hx, y1, y2⟩ := all_inv2 r1
  obtain ⟨z1, z2, hz, u1, u2⟩ := all_inv2 r2
  refine at_tup.mpr ⟨b, vs, n, rfl, hide_of eb (off _ _ eb rfl), ?_⟩
  rw [hv]
  refine all_cons (at_tup.mpr ⟨b1', vs1, n1, rfl, hide_of eb1 (off _ _ eb1 rfl), ?_⟩) (all1 (at_tup.mpr ⟨b2', vs2, n2, rfl, hide_of eb2 (off _ _ eb2 rfl), ?_⟩))
  · rw [hx]; exact all_cons (y1.atom _ rfl) (all1 (y2.atom _ rfl))
  · rw [hz]; exact all_cons (u1.atom _ rfl) (all1 (u2.atom _ rfl))
set_option maxHeartbeats 2000000 in
theorem tc_init {m : Nat} (rm : Rm A (m + 1)) {x dx : Addr} {v : Value} {R : Result → Shared → Prop} (ok : Ok c s) (hx : hp s.heap x = some (instObj cTC dx)) (hdx : hp s.heap dx = some (dictOf [] 0)) (hbx : 208 < x) (hbd : 208 < dx) (av : At c (hide (hp s.heap) [dx]) csL v)
    (q : ∀ s', Ok c s' → Keep (hide (hp s.heap) [dx]) (hp s'.heap) → At c (hp s'.heap) (.comp csL) (.ref x) → R (.ok (.ret .none)) s') :
    codeAny c.M A (.call (.ref 64) ⟨[.ref x, v], []⟩) R s := by
  have hne : x ≠ dx := fun q => by
    rw [q, hdx] at hx
    have := congrArg (fun o : Option Obj => o.map Obj.cls) hx
    simp at this
  refine fn_call (binds := [("self", .ref x), ("comp_select_list", v)]) (bds := [.ref x, csL]) rfl (by kernel_rfl) rm ok (by kernel_rfl) (all_cons (at_ref.mpr rfl) (all1 (av.mono (hide_keep _ _)))) (by kernel_rfl) fun L s1 B => ?_
  have hgx : hide (hp s.heap) [dx] x = some (instObj cTC dx) := hide_of hx (by simpa using hne)
  have B0 := B.weak (hide_keep _ [dx])
  have e1 := B.keep _ _ hdx
  generalize henv : envX "TupleComp.__init__" _ L 64 _ [] = env at B B0
  have B : Bd c (hide (hp s.heap) [dx]) env [("comp_select_list", csL), ("self", .ref x)] [(dx, dictOf [] 0)] s1 := by
    refine ⟨B0.ok, B0.keep, B0.fra, fun p hp' => by rw [List.mem_singleton.mp hp']; exact ⟨e1, by simp [hide], hbd, DataCls.dict⟩, fun y d ey => ?_⟩
    obtain ⟨w, lo, a⟩ := B0.frm y d ey
    refine ⟨w, loc_hide B0.fra e1 DataCls.dict (fun w h => nomatch h) (lo.mono (hide_keep _ _)), ?_⟩
    have a' : At c (hp s1.heap) d w := a.mono (hide_keep _ _)
    have hd : d = csL ∨ d = .ref x := by
      have := mem_of_lookup ey
      simp only [List.mem_cons, List.not_mem_nil, or_false, Prod.mk.injEq] at this
      rcases this with ⟨_, h⟩ | ⟨_, h⟩
      · exact .inl h
      · exact .inr h
    rcases hd with rfl | rfl
    · exact cs_hide a' e1 (by show Value.type "dict" ≠ _; decide)
    · exact a'.atom _ rfl
  refine ex_setattr B rfl hgx (B.evh_name rfl) tc_set tc_over (by kernel_rfl) tc_dict rfl rfl (by decide) fun s2 v1 h1 t1 B a1 _ => ?_
  refine ex_nil (q s2 B.ok B.keep ?_)
  obtain ⟨f1, _, _, _⟩ := B.own _ (.head _)
  exact at_comp.mpr ⟨x, dx, h1, t1, v1, _, rfl, hbx, B.keep _ _ hgx, f1, a1.mono (hide_keep _ _)⟩
theorem tc_make {m : Nat} (rm : Rm A (m + 2)) : Spec c A (.ref cTC) [csL] (.comp csL) := fun s vs Q ok ha q => by
  obtain ⟨v, rfl, a⟩ := all_inv1 ha
  obtain ⟨h, gn, dd, tk, os⟩ := s
  refine wpAny_call (make_core (C := cTC) (makes_of ok.inv.k (by kernel_rfl)) (looks_findIn ok.inv.k (r := some (.ref 64)) (by kernel_rfl)) (fun self => bind_fn ok.inv.k self (by kernel_rfl)) (.inl rfl) ?_)
  have ok1 := (ok.push emptyDict).push (instObj cTC h.objs.size)
  have kk : Keep (hp h) (hp ((h.push emptyDict).push (instObj cTC h.objs.size))) := (keep_push _ _).trans (keep_push _ _)
  have hb : 208 < h.objs.size := ok.inv.big
  have hbx : 208 < h.objs.size + 1 := Nat.lt_succ_of_lt hb
  have hx : hp ((h.push emptyDict).push (instObj cTC h.objs.size)) (h.objs.size + 1) = some (instObj cTC h.objs.size) := hp_of (by heap_get) (not_tab hbx)
  have hdx : hp ((h.push emptyDict).push (instObj cTC h.objs.size)) h.objs.size = some (dictOf [] 0) := hp_of (by heap_get) (not_tab hb)
  have kh : Keep (hp h) (hide (hp ((h.push emptyDict).push (instObj cTC h.objs.size))) [h.objs.size]) := fun b o e => hide_of (kk b o e) fun hm => by
    rw [List.mem_singleton.mp hm, hp_ge (Nat.le_refl _)] at e
    cases e
  exact tc_init rm.made ok1 hx hdx hbx hb (a.mono kh) fun s' ok' k' a' => ⟨rfl, q _ s' ok' (kh.trans k') a'⟩
end
end Mine

/-! # K2 -/
namespace Mine
section
variable {c : Wd} {A : Around} {env : Env} {g g₁ : PH} {pos p : Pos} {ρ ρ' : List (Str × D)} {ow : List (Addr × Obj)} {s s' : Shared} {rest : List Stmt}

/-! ## lambdas: their code, their making, their call -/
theorem fun_code {P cd : Addr} {qual name : Str} {fl : Nat} {params : Arguments} {scope : Scope} {body : FuncBody} {Q : Value → Shared → Prop} (ok : Ok c s) (hc : env.code = .ref cd) (CK : CodeK c cd P) (hP : P ∈ tabA) (hT : TabSt s.heap P pos qual)
    (grow : ∀ h', TabSt h' P pos qual → Heap.ExtBut P s.heap h' → Inv c h')
    (q : ∀ c' oc vs t h' tk, Heap.ExtBut P s.heap h' → Ok c { s with heap := h', toks := tk } → h'.get? c' = some oc → 208 < c' → oc.cls = .type "code" → oc.data = .fields vs → vs[1]? = some (.str qual t) → Q (.ref c') { s with heap := h', toks := tk }) :
    Rn c A (functionCode env pos fl name qual params scope body) Q s := by
  obtain ⟨ps, hPs, ht, hcs⟩ := hT
  have C := CK.hd ok.inv
  rcases hcs with hn | ⟨c', oc, vs, t, hf, hb, ho, hcl, hd, hv⟩
  · refine wpAny_functionCodeX hc (C.code hPs ht) (C.tab hPs) hn fun c' h' tk hx hge hlt _ hrec htb hown => ?_
    obtain ⟨P', _, _, ⟨⟨o, vs', ho', hcl, _⟩, _⟩⟩ := hown
    have hb : 208 < c' := Nat.lt_of_lt_of_le ok.inv.big hge
    have T := tab_new ht hn hb htb.2 hrec fun o2 h2 => by rw [ho'] at h2; cases h2; exact hcl
    obtain ⟨c2, oc, vs, t, e2, hoc, hd, hv⟩ := hrec
    cases e2
    rw [ho'] at hoc; cases hoc
    exact q c' o vs t h' tk hx ⟨grow h' T hx, ok.gens, ok.os⟩ ho' hb hcl hd hv
  · exact wpAny_functionCode_hit hc (C.code hPs ht) hf (q c' oc vs t s.heap s.toks (fun _ _ _ e => e) ok ho hb hcl hd hv)

abbrev lamObj (qual : Str) (params : Arguments) (body : Expr) (scope : Scope) (clos : List (Str × Addr)) (pm cdv ctv : Value) : Obj := { cls := .type "function", data := .func (kla_fn "<lambda>" qual params body scope clos pm cdv ctv) }
theorem mk_fun {P cd : Addr} {qual : Str} {fl : Nat} {params : Arguments} {scope : Scope} {body : Expr} {clos : List (Str × Addr)} {Q : Value → Shared → Prop} (ok : Ok c s) (he : EnvOk env) (hc : env.code = .ref cd) (CK : CodeK c cd P) (hP : P ∈ tabA) (hT : ∀ h, Inv c h → TabSt h P pos qual)
    (grow : ∀ h h', Inv c h → TabSt h' P pos qual → Heap.ExtBut P h h' → Inv c h') (hcl : closureFor scope env = pure clos)
    (q : ∀ f c' oc vs t pm ctv s', Ok c s' → Keep (hp s.heap) (hp s'.heap) → hp s'.heap f = some (lamObj qual params body scope clos pm (.ref c') ctv) → hp s'.heap c' = some oc → oc.cls = .type "code" → oc.data = .fields vs → vs[1]? = some (.str qual t) → Q (.ref f) s') :
    Rn c A (makeFunction "<lambda>" qual params (.expr body) scope env [] [] [] pos fl) Q s := by
  have tail : ∀ (s1 : Shared) (ct : Value), Ok c s1 → Keep (hp s.heap) (hp s1.heap) → Rn c A (do
      let code ← functionCode env pos fl "<lambda>" qual params scope (.expr body)
      let b ← builtinsFor mainGlobals env.builtins
      let m ← nsGet mainGlobals "__name__"
      let doc ← (pure .none : Sem Value)
      newObj (.type "function") (.func { name := "<lambda>", qualname := qual, params, body := .expr body, scope, globals := mainGlobals, closure := clos, closureTuple := ct, code, builtins := b, defaults := .none, kwdefaults := .none, annotations := none, pyModule := m.getD .none, doc })) Q s1 := fun s1 ct ok1 k1 => by
    refine wpAny_bind (fun_code ok1 hc CK hP (hT _ ok1.inv) (fun h' => grow _ h' ok1.inv) fun c' oc vs t h' tk hx ok2 hoc hb hcd hd hv => ?_)
    obtain ⟨bm, ob, b1, b2, b3, b4, b5, b6, b7, b8⟩ := ok2.inv.bm
    refine wpAny_bind (wpAny_builtinsFor ok2.inv.g b1 b2 b5 b6 b7 b8 ?_)
    refine wpAny_bind (wpAny_nsGet ok2.inv.g ?_)
    refine wpAny_bind (wpAny_pure ?_)
    refine wpAny_newObj_type (q _ c' oc vs t _ ct _ (ok2.push _) (k1.trans ((keep_grow hP hx).trans (keep_push _ _))) ok2.new ?_ hcd hd hv) (by size_fits)
    exact keep_push _ _ _ _ (hp_of hoc (not_tab hb))
  rw [makeFunction_eq]
  simp only [List.zip_nil_right, List.filterMap_nil, List.isEmpty_nil, if_true, pure_bind]
  unfold makeTail
  rw [hcl, he.gl]
  refine wpAny_bind (wpAny_pure ?_)
  cases clos with
  | nil =>
    simp only [List.isEmpty_nil, if_true]
    exact wpAny_bind (wpAny_pure (tail s _ ok (Keep.refl _)))
  | cons q r =>
    simp only [List.isEmpty_cons, Bool.false_eq_true, if_false]
    exact wpAny_bind (wpAny_newTextTuple (tail _ _ (ok.push _) (keep_push _ _)))

/-- a lambda of one parameter is called -/
theorem lam_call {f c' : Addr} {qual : Str} {params : Arguments} {body : Expr} {scope : Scope} {clos : List (Str × Addr)} {pm ctv : Value} {x : Str} {v : Value} {oc : Obj} {vs : Array Value} {t : Tok} {n : Nat} {Q : Value → Shared → Prop} (rm : Rm A (n + 1)) (ok : Ok c s)
    (hf : hp s.heap f = some (lamObj qual params body scope clos pm (.ref c') ctv)) (hc : hp s.heap c' = some oc) (hd : oc.data = .fields vs) (hv : vs[1]? = some (.str qual t))
    (hb : bindArgs (kla_fn "<lambda>" qual params body scope clos pm (.ref c') ctv) ⟨[v], []⟩ = pure [(x, v)]) (hx : scope.names.lookup x = some .local) (hcell : (scope.names.all fun x => x.2 != .cell) = true)
    (q : ∀ L s1, Ok c s1 → Keep (hp s.heap) (hp s1.heap) → EnvOk (envX qual scope L f (.ref c') clos) → Loc (envX qual scope L f (.ref c') clos) (hp s1.heap) x v → Rn c (A.deeper (envX qual scope L f (.ref c') clos)) (eval body (envX qual scope L f (.ref c') clos)) Q s1)
    (hco : scope.isCoroutine = false := by rfl) (hgen : scope.isGenerator = false := by rfl) (hk : scope.kind = .function := by rfl) : Rn c A (call (.ref f) [v]) Q s := by
  refine wpAny_call (kla_callFunE rm.room (hp_get hf) rfl hco hgen rfl ⟨c', oc, vs, t, rfl, hp_get hc, hd, hv⟩ ?_)
  rw [hb]
  refine wpAny_pure (wpAny_newFunctionEnv (fun x hx => by simpa using List.all_eq_true.mp hcell x hx) (fun y hy => by rw [List.mem_singleton.mp hy]; exact hx) (fun h₁ hns hsb => ?_) hk)
  have kp : ∀ b o, s.heap.get? b = some o → h₁.get? b = some o := fun b o e => hsb.extBut b o (Nat.ne_of_lt (Heap.lt_size e)) (Heap.get?_push_of_some _ e)
  have ok1 : Ok c { s with heap := h₁, toks := s.toks + 1 } := ok.all kp
  refine ⟨ok1.inv.lim, ?_⟩
  show codeAny _ _ (.expr body (envX qual scope s.heap.objs.size f (.ref c') clos)) _ _
  refine kla_codeExpr (wpAny_mono (q s.heap.objs.size _ ok1 (keep_all kp) ⟨hk, rfl, rfl⟩ ?_) (fun _ _ h => h) fun _ _ h => h.elim)
  obtain ⟨o, es, ep, e1, e2, e3, e4⟩ := hns
  refine .inl ⟨hx, o, es, ep, hp_of e1 (not_tab ok.inv.big), e2, e3, by rw [e4]; simp⟩
end
end Mine

/-! # K3 -/
namespace Mine
section
variable {c : Wd} {A : Around} {env : Env} {g g' g₁ : PH} {pos p : Pos} {ρ ρ' : List (Str × D)} {ow : List (Addr × Obj)} {s s' : Shared} {rest : List Stmt}

/-! ## the key of _law_listed -/
abbrev lamS : Scope := { kind := .function, names := [(Str.ofString "other", .local), (Str.ofString "order", .free), (Str.ofString "row", .free)], isGenerator := false, isCoroutine := false, more := [] }
abbrev lamP : Arguments := { posonlyargs := [], args := [{ arg := "other", annotation := none, pos := ⟨186, 44, 186, 49⟩ : Arg }], vararg := none, kwonlyargs := [], kw_defaults := [], kwarg := none, defaults := [] }
abbrev lamB : Expr := .Call (.Attribute (.Name "order" ⟨186, 51, 186, 56⟩) "compare" ⟨186, 51, 186, 64⟩) [.Name "other" ⟨186, 65, 186, 70⟩, .Name "row" ⟨186, 72, 186, 75⟩] [] ⟨186, 51, 186, 76⟩
/-- the lambda and what it captures lie here -/
def LamOk (c : Wd) (g : PH) (f : Addr) (row : Int × Int × Int) : Prop :=
  ∃ c' ctv pm oc vs t co cr o1 o2 vo vr, g f = some (lamObj qualL lamP lamB lamS [("row", cr), ("order", co)] pm (.ref c') ctv) ∧ g c' = some oc ∧ oc.data = .fields vs ∧ vs[1]? = some (.str qualL t) ∧
    g co = some o1 ∧ o1.data = .cell (some vo) ∧ At c g (.comp csL) vo ∧ g cr = some o2 ∧ o2.data = .cell (some vr) ∧ At c g (.row row) vr
theorem LamOk.mono {f : Addr} {row : Int × Int × Int} (K : LamOk c g f row) (k : Keep g g') : LamOk c g' f row :=
  let ⟨c', ctv, pm, oc, vs, t, co, cr, o1, o2, vo, vr, h1, h2, h3, h4, h5, h6, h7, h8, h9, h10⟩ := K
  ⟨c', ctv, pm, oc, vs, t, co, cr, o1, o2, vo, vr, k _ _ h1, k _ _ h2, h3, h4, k _ _ h5, h6, h7.mono k, k _ _ h8, h9, h10.mono k⟩
theorem LamOk.fn {f : Addr} {row : Int × Int × Int} {h : Heap} (K : LamOk c (hp h) f row) : FnAt f h :=
  let ⟨_, _, _, _, _, _, _, _, _, _, _, _, h1, _⟩ := K
  ⟨_, _, _, _, hp_get h1⟩
set_option maxHeartbeats 1000000 in
theorem key_spec {m : Nat} (rm : Rm A (m + 2)) {f : Addr} {row r : Int × Int × Int} (K : LamOk c (hp s.heap) f row) {v : Value} {Q : Value → Shared → Prop} (ok : Ok c s) (a : At c (hp s.heap) (.row r) v)
    (q : ∀ v' s', Ok c s' → Keep (hp s.heap) (hp s'.heap) → At c (hp s'.heap) (.int (cmpOf r row)) v' → Q v' s') : Rn c A (call (.ref f) [v]) Q s := by
  obtain ⟨c', ctv, pm, oc, vs, t, co, cr, o1, o2, vo, vr, h1, h2, h3, h4, h5, h6, h7, h8, h9, h10⟩ := K
  refine lam_call rm ok h1 h2 h3 h4 rfl rfl rfl fun L s1 ok1 k1 he lo => ?_
  have e1 : Ev c _ _ (hp s1.heap) (.Name "order" ⟨186, 51, 186, 56⟩) (.comp csL) := .name (A := A.deeper (envX qualL lamS L f (.ref c') [("row", cr), ("order", co)])) he (.inr ⟨.inr ⟨rfl, by decide⟩, co, o1, rfl, k1 _ _ h5, h6⟩) (h7.mono k1)
  have e2 : Ev c _ _ (hp s1.heap) (.Name "row" ⟨186, 72, 186, 75⟩) (.row row) := .name (A := A.deeper (envX qualL lamS L f (.ref c') [("row", cr), ("order", co)])) he (.inr ⟨.inr ⟨rfl, by decide⟩, cr, o2, rfl, k1 _ _ h8, h9⟩) (h10.mono k1)
  have e3 : Ev c _ _ (hp s1.heap) (.Name "other" ⟨186, 65, 186, 70⟩) (.row r) := .name (A := A.deeper (envX qualL lamS L f (.ref c') [("row", cr), ("order", co)])) he lo (a.mono k1)
  exact (Ev.meth e1 m_compare (kept_K (by kernel_rfl)) (.cons e3 (.cons e2 .nil)) (compare_spec (rm.deeper _))) s1 Q ok1 (Keep.refl _) fun v s2 ok2 k2 a2 => q v s2 ok2 (k1.trans k2) a2

/-- the lambda is made -/
theorem mk_lam {row : Int × Int × Int} {Q : Value → Shared → Prop} (B : Bd c g₁ env ρ ow s) (ho : ρ.lookup (Str.ofString "order") = some (D.comp csL)) (hr : ρ.lookup (Str.ofString "row") = some (D.row row)) (ko : env.kindOf "order" = some .cell) (kr : env.kindOf "row" = some .cell) (hc : env.code = .ref 202) (hq : env.qual ++ "<lambda>" = qualL)
    (q : ∀ f s', Ok c s' → Keep (hp s.heap) (hp s'.heap) → LamOk c (hide (hp s'.heap) (ow.map (·.1))) f row → Q (.ref f) s') : Rn c A (eval (.Lambda lamP lamB lamS posL) env) Q s := by
  obtain ⟨vo, lo, ao⟩ := B.frm _ _ ho
  obtain ⟨vr, lr, ar⟩ := B.frm _ _ hr
  rcases lo with ⟨q1, _⟩ | ⟨_, co, o1, x1, x2, x3⟩
  · rw [ko] at q1; cases q1
  rcases lr with ⟨q1, _⟩ | ⟨_, cr, o2, y1, y2, y3⟩
  · rw [kr] at q1; cases q1
  have hcl : closureFor lamS env = pure ([(Str.ofString "row", cr), (Str.ofString "order", co)] : List (Str × Addr)) := by
    rw [closureFor_eq (by simp [lamS]; exact ⟨⟨_, mem_of_lookup x1⟩, ⟨_, mem_of_lookup y1⟩⟩)]
    have e : closOf env lamS.names [] = [(Str.ofString "row", (env.cells.lookup (Str.ofString "row")).getD 0), (Str.ofString "order", (env.cells.lookup (Str.ofString "order")).getD 0)] := rfl
    rw [e, x1, y1]; rfl
  refine kla_eval rfl ?_
  rw [hq]
  refine mk_fun B.ok B.fra.ok hc code_listed (by decide) (fun h x => x.t2) (fun h h' x T hx => x.grow (by decide) hx (fun e => absurd e (by decide)) (fun _ => T) (fun e => absurd e (by decide))) hcl fun f c' oc vs t pm ctv s' ok' k' hf hcd hcls hd hv => ?_
  have B' := B.step ok' k'
  have off : ∀ b o, hp s'.heap b = some o → ¬ DataCls o.cls → b ∉ ow.map (·.1) := fun b o e hn hm => by
    obtain ⟨p, hp', rfl⟩ := List.mem_map.mp hm
    obtain ⟨h1, _, _, h4⟩ := B'.own p hp'
    rw [e] at h1; cases h1; exact hn h4
  have kh := k'.hide (ow.map (·.1))
  exact q f s' ok' k' ⟨c', ctv, pm, oc, vs, t, co, cr, o1, o2, vo, vr, hide_of hf (off _ _ hf (by show ¬ DataCls (Value.type "function"); decide)), hide_of hcd (off _ _ hcd (by rw [hcls]; decide)), hd, hv, kh _ _ x2, x3, ao.mono kh, kh _ _ y2, y3, ar.mono kh⟩
end
end Mine

/-! # K4 -/
namespace Mine
section
variable {c : Wd} {A : Around} {env : Env} {g g' g₁ : PH} {pos p : Pos} {ρ ρ' : List (Str × D)} {ow : List (Addr × Obj)} {s s' : Shared} {rest : List Stmt}

theorem CallK_ {func : Expr} {args : List Expr} {kws : List Keyword} {E : Value → Shared → Prop} {Q : Value → Shared → Prop}
    (h : wpAny c.M A (eval func env) (fun f s₁ => wpAny c.M A (callWith pos f [] (backTo pos (starEach args env)) (backToKw pos (keywordEach kws env))) Q E s₁) E s)
    (he : eval (.Call func args kws pos) env = (do callWith pos (← eval func env) [] (backTo pos (starEach args env)) (backToKw pos (keywordEach kws env))) := by rfl) : wpAny c.M A (eval (.Call func args kws pos) env) Q E s := by
  rw [he]; exact wpAny_bind h
/-- a name that bears a def is called -/
theorem Ev.fcall {x : Str} {f : Addr} {es : List Expr} {ds : List D} {d : D} (h : Ev c A env g (.Name x p) (.ref f)) (hf : ∀ s : Shared, Keep g (hp s.heap) → FnAt f s.heap) (ha : EvAll c A env g es ds)
    (sp : ∀ (s : Shared) vs Q, Ok c s → Keep g (hp s.heap) → AtAll c (hp s.heap) ds vs → (∀ v s', Ok c s' → Keep (hp s.heap) (hp s'.heap) → At c (hp s'.heap) d v → Q v s') → Rn c A (PySem.call (.ref f) vs) Q s)
    (hpl : (backTo pos (starEach es env)).any (·.1) = false := by rfl) (he : eval (.Call (.Name x p) es [] pos) env = (do callWith pos (← eval (.Name x p) env) [] (backTo pos (starEach es env)) (backToKw pos (keywordEach [] env))) := by rfl) : Ev c A env g (.Call (.Name x p) es [] pos) d :=
  fun s _ ok k q => Call_ (h s _ ok k fun v s1 ok1 k1 a1 => by
    rw [at_ref.mp a1]
    refine callWith_of (P := FnAt f) (by simpa using hpl) keeps_F (evalArgs_flat hpl ?_)
    exact ha pos s1 _ ok1 (k.trans k1) fun vs s2 ok2 k2 a2 => ⟨hf s2 (k.trans (k1.trans k2)), sp s2 vs _ ok2 (k.trans (k1.trans k2)) a2 fun v s3 ok3 k3 a3 => q v s3 ok3 (k1.trans (k2.trans k3)) a3⟩) he
/-- a def of the text is called with one keyword -/
theorem Ev.callkw {x kn : Str} {f : Value} {e kx : Expr} {es : List Expr} {ds : List D} {dk d : D} {kp : Pos} (he : EnvOk env) (hf : nsIn c.K mainGlobals x = some (some f)) (hk : keepIn c.K f = true) (ha : EvAll c A env g (e :: es) ds) (hkx : Ev c A env g kx dk)
    (sp : ∀ (s : Shared) vs v Q, Ok c s → Keep g (hp s.heap) → AtAll c (hp s.heap) ds vs → At c (hp s.heap) dk v → (∀ v s', Ok c s' → Keep (hp s.heap) (hp s'.heap) → At c (hp s'.heap) d v → Q v s') → Rn c A (PySem.call f vs [(kn, v)]) Q s)
    (hall : (backToKw pos (keywordEach [⟨some kn, kx, kp⟩] env)).all (·.1.isSome) = true := by rfl) (hx : env.kindOf x = some .globalImplicit := by rfl) (hd : (x == ("__debug__" : Str)) = false := by decide)
    (hplain : ((backTo pos (starEach (e :: es) env)).any (·.1) || (backToKw pos (keywordEach [⟨some kn, kx, kp⟩] env)).any (·.1.isNone)) = false := by rfl) (hst : starEach (e :: es) env = (false, eval e env) :: starEach es env := by rfl)
    (hnames : (backToKw pos (keywordEach [⟨some kn, kx, kp⟩] env)).filterMap (·.1) = [kn] := by rfl)
    (hev : eval (.Call (.Name x p) (e :: es) [⟨some kn, kx, kp⟩] pos) env = (do callWith pos (← eval (.Name x p) env) [] (backTo pos (starEach (e :: es) env)) (backToKw pos (keywordEach [⟨some kn, kx, kp⟩] env))) := by rfl) :
    Ev c A env g (.Call (.Name x p) (e :: es) [⟨some kn, kx, kp⟩] pos) d :=
  fun s _ ok k q => CallK_ (glob_load he ok hf (callWith_KW ok.inv.k hk hall (ha pos s _ ok k fun vs s1 ok1 k1 a1 => kwAll_cons (hkx s1 _ ok1 (k.trans k1) fun v s2 ok2 k2 a2 => kwAll_nil ⟨ok2.inv.k, by
    rw [hnames]
    exact sp s2 vs v _ ok2 (k.trans (k1.trans k2)) (a1.mono k2) a2 fun v s3 ok3 k3 a3 => q v s3 ok3 (k1.trans (k2.trans k3)) a3⟩)) hplain hst) hx hd) hev

/-! ## bisect_left by a key -/
structure HalfG {α : Type} (ns : List α) (p : α → Prop) (st : Int × Int) : Prop where
  lo : 0 ≤ st.1
  le : st.1 ≤ st.2
  hi : st.2 ≤ ns.length
  below : ∀ i : Nat, (i : Int) < st.1 → ∀ n, ns[i]? = some n → p n
  above : ∀ i : Nat, st.2 ≤ (i : Int) → ∀ n, ns[i]? = some n → ¬ p n
theorem halfG_end {α : Type} {ns : List α} {st : Int × Int} {p : α → Bool} (h : HalfG ns (fun n => p n = true) st) (e : ¬ st.1 < st.2) : ((ns.countP p : Nat) : Int) = st.1 := by
  obtain ⟨h1, h2, h3, h4, h5⟩ := h
  obtain ⟨lo, hi⟩ := st
  simp only at *
  have : lo = hi := by omega
  subst this
  have e1 : ns.countP p = lo.toNat := by
    have hsplit : ns = ns.take lo.toNat ++ ns.drop lo.toNat := (List.take_append_drop _ _).symm
    rw [hsplit, List.countP_append]
    have a1 : (ns.take lo.toNat).countP p = (ns.take lo.toNat).length := by
      rw [List.countP_eq_length]
      intro n hn
      obtain ⟨i, hi, rfl⟩ := List.getElem_of_mem hn
      have hi' : i < lo.toNat := by simp at hi; omega
      exact h4 i (by omega) _ (by rw [List.getElem_take]; simp)
    have a2 : (ns.drop lo.toNat).countP p = 0 := by
      rw [List.countP_eq_zero]
      intro n hn
      obtain ⟨i, hi, rfl⟩ := List.getElem_of_mem hn
      exact h5 (lo.toNat + i) (by omega) _ (by rw [List.getElem_drop]; simp)
    rw [a1, a2]; simp; omega
  omega
abbrev before (row r : Int × Int × Int) : Bool := decide (cmpOf r row < 0)
set_option maxHeartbeats 4000000 in
theorem bisect_left_key {m : Nat} (rm : Rm A (m + 3)) {rs : List (Int × Int × Int)} {row : Int × Int × Int} {f : Addr} (hs : rs.Pairwise fun a b => before row b = true → before row a = true) (hl : rs.length < 1000) {vs : List Value} {v : Value} {Q : Value → Shared → Prop} (ok : Ok c s) (K : LamOk c (hp s.heap) f row)
    (ha : AtAll c (hp s.heap) [.rows rs, .int 0, .int 0, .none] vs) (av : At c (hp s.heap) (.ref f) v)
    (q : ∀ v s', Ok c s' → Keep (hp s.heap) (hp s'.heap) → At c (hp s'.heap) (.int (rs.countP (before row))) v → Q v s') : Rn c A (call (.ref 50) vs [("key", v)]) Q s := by
  obtain ⟨v1, r1, rfl, a1, ha⟩ := atAll_cons.mp ha
  obtain ⟨v2, v3, v4, rfl, a2, a3, a4⟩ := all_inv3 ha
  refine wpAny_call (fn_call (binds := [("a", v1), ("x", v2), ("lo", v3), ("hi", v4), ("key", v)]) (bds := [.rows rs, .int 0, .int 0, .none, .ref f]) rfl (by kernel_rfl) rm ok (by kernel_rfl)
    (all_cons a1 (all_cons a2 (all_cons a3 (all_cons a4 (all1 av))))) (by kernel_rfl) fun L s1 B => ?_)
  refine ex_if B (.cmp (B.name rfl) .cint (lt_i 0 0)) fun s2 B => ?_
  refine ex_nil ?_
  refine ex_if B (.cmp (B.name rfl) .cnone isN_none) fun s3 B => ?_
  refine ex_assign B (.len B.fra.ok (B.name rfl) (by simp; omega)) (.inl rfl) fun s4 B => ?_
  refine ex_nil ?_
  refine ex_if B (.cmp (B.name rfl) .cnone (isN_ref f)) fun s5 B => ?_
  have B' := B.to (ρ' := [("lo", .int 0), ("hi", .int (rs.map D.row).length), ("a", .rows rs), ("x", .int 0), ("key", .ref f)]) ⟨rfl, rfl, rfl, rfl, rfl, trivial⟩
  refine ex_while (fun st : Int × Int => HalfG rs (fun n => before row n = true) st) (fun st => [("lo", .int st.1), ("hi", .int st.2), ("a", .rows rs), ("x", .int 0), ("key", .ref f)]) (fun st => (st.2 - st.1).toNat) (fun st => decide (st.1 < st.2)) (0, ((rs.map D.row).length : Int))
    ⟨by simp, by simp, by simp, fun i hi => by simp at hi; omega, fun i hi n hn => by
      have := (List.getElem?_eq_some_iff.mp hn).1; simp at hi; omega⟩ B' (fun st s hP B => .cmp (B.name rfl) (B.name rfl) (lt_i _ _)) (fun st s6 hP hb B => ?_) fun st s6 hP hb B => ?_
  · have hb := of_decide_eq_true hb
    have hm : 0 ≤ (st.1 + st.2).fdiv 2 ∧ st.1 ≤ (st.1 + st.2).fdiv 2 ∧ (st.1 + st.2).fdiv 2 < st.2 := by
      have := hP.lo
      rw [Int.fdiv_eq_ediv_of_nonneg _ (by decide)]
      omega
    generalize hmid : (st.1 + st.2).fdiv 2 = mid at hm
    have hlt : mid.toNat < rs.length := by have := hP.hi; omega
    refine ex_assign B (d := .int mid) (by rw [← hmid]; exact .bin (.bin (B.name rfl) (B.name rfl) (add_i _ _)) .cint (fdiv_i _ _ (by decide) (PyProof.noPylong_small (by decide)))) (.inl rfl) fun s7 B => ?_
    have K7 : LamOk c (hp s7.heap) f row := K.mono B.keep
    refine ex_if B (.cmp (.fcall (B.name rfl) (fun s k => (K7.mono k).fn) (.cons (.item_list (B.name rfl) (B.name rfl) hm.1 (d := .row rs[mid.toNat]) (by simp [hlt]) (by have := hP.hi; omega)) .nil) (fun s vs Q ok k ha q => by
      obtain ⟨v, rfl, a⟩ := all_inv1 ha
      exact key_spec (rm.deeper _) (K7.mono k) ok a q)) (B.name rfl) (lt_i _ _)) fun s8 B => ?_
    by_cases hc : cmpOf rs[mid.toNat] row < 0
    · rw [decide_eq_true hc]
      refine ex_assign B (.bin (B.name rfl) .cint (add_i _ _)) (.inl rfl) fun s9 B => ?_
      refine ex_nil (ex_nil ⟨rfl, (mid + 1, st.2), ⟨by simp; omega, by simp; omega, hP.hi, fun i hi n hn => ?_, hP.above⟩, by simp; omega, B.to ⟨rfl, rfl, rfl, rfl, rfl, trivial⟩⟩)
      simp only at hi
      obtain ⟨hi', rfl⟩ := List.getElem?_eq_some_iff.mp hn
      rcases Nat.lt_or_ge i mid.toNat with h | h
      · exact List.pairwise_iff_getElem.mp hs i mid.toNat hi' hlt h (decide_eq_true hc)
      · have : i = mid.toNat := by omega
        subst this; exact decide_eq_true hc
    · rw [decide_eq_false hc]
      refine ex_assign B (B.name rfl) (.inl rfl) fun s9 B => ?_
      refine ex_nil (ex_nil ⟨rfl, (st.1, mid), ⟨hP.lo, by simp; omega, by have := hP.hi; simp; omega, hP.below, fun i hi n hn => ?_⟩, by simp; omega, B.to ⟨rfl, rfl, rfl, rfl, rfl, trivial⟩⟩)
      simp only at hi
      obtain ⟨hi', rfl⟩ := List.getElem?_eq_some_iff.mp hn
      intro hh
      rcases Nat.lt_or_ge mid.toNat i with h | h
      · exact hc (of_decide_eq_true (List.pairwise_iff_getElem.mp hs mid.toNat i hlt hi' h hh))
      · have : i = mid.toNat := by omega
        subst this; exact hc (of_decide_eq_true hh)
  · refine ex_nil (ex_return B (B.name rfl) fun v s' r => ?_)
    have := halfG_end hP (of_decide_eq_false hb)
    exact q v s' r.ok r.keep (by have h := r.at_; rw [← this] at h; exact h)
end
end Mine

/-! # K5 -/
namespace Mine
section
variable {c : Wd} {A : Around} {env : Env} {g g' g₁ : PH} {pos p : Pos} {ρ ρ' : List (Str × D)} {ow : List (Addr × Obj)} {s s' : Shared} {rest : List Stmt}

/-! ## insort_left by a key, _law_listed -/
def insL (row : Int × Int × Int) (rs : List (Int × Int × Int)) : List (Int × Int × Int) := rs.take (rs.countP (before row)) ++ row :: rs.drop (rs.countP (before row))
abbrev InOrder (rs : List (Int × Int × Int)) : Prop := rs.Pairwise fun a b => cmpOf a b ≤ 0
theorem cmp_trans {a b t : Int × Int × Int} (h : cmpOf a b ≤ 0) (h' : cmpOf b t < 0) : cmpOf a t < 0 := by
  unfold cmpOf at *
  split at h <;> split at h' <;> split <;> (try split at h) <;> (try split at h') <;> (try split) <;> (try split at h) <;> (try split at h') <;> (try split) <;> (try split at h) <;> (try split at h') <;> (try split) <;> omega
theorem cmp_flip {a b : Int × Int × Int} : cmpOf a b = -cmpOf b a := by
  unfold cmpOf
  split <;> split <;> (try split) <;> (try split) <;> (try split) <;> (try split) <;> (try split) <;> omega
theorem InOrder.before {rs : List (Int × Int × Int)} (h : InOrder rs) (row : Int × Int × Int) : rs.Pairwise fun a b => before row b = true → before row a = true :=
  h.imp fun {a b} hab hb => decide_eq_true (cmp_trans hab (of_decide_eq_true hb))
theorem split_at {row : Int × Int × Int} : ∀ {rs : List (Int × Int × Int)}, (rs.Pairwise fun a b => before row b = true → before row a = true) → (∀ r ∈ rs.take (rs.countP (Mine.before row)), Mine.before row r = true) ∧ ∀ r ∈ rs.drop (rs.countP (Mine.before row)), Mine.before row r = false
  | [], _ => ⟨fun _ h => (by simp at h), fun _ h => (by simp at h)⟩
  | r :: rs, h => by
    obtain ⟨h1, h2⟩ := List.pairwise_cons.mp h
    obtain ⟨i1, i2⟩ := split_at h2
    cases hr : Mine.before row r with
    | true =>
      rw [List.countP_cons, hr]
      simp only [if_true]
      refine ⟨fun x hx => ?_, fun x hx => i2 x (by simpa using hx)⟩
      rw [List.take_succ_cons] at hx
      rcases List.mem_cons.mp hx with rfl | hx
      · exact hr
      · exact i1 x hx
    | false =>
      have hz : (r :: rs).countP (Mine.before row) = 0 := by
        rw [List.countP_eq_zero]
        intro x hx hb
        rcases List.mem_cons.mp hx with rfl | hx
        · rw [hr] at hb; cases hb
        · have := h1 x hx hb; rw [hr] at this; cases this
      rw [hz]
      refine ⟨fun x hx => by simp at hx, fun x hx => ?_⟩
      rw [List.drop_zero] at hx
      rcases List.mem_cons.mp hx with rfl | hx
      · exact hr
      · cases hb : Mine.before row x with
        | false => rfl
        | true => have := h1 x hx hb; rw [hr] at this; cases this
theorem insL_order {row : Int × Int × Int} {rs : List (Int × Int × Int)} (h : InOrder rs) : InOrder (insL row rs) := by
  obtain ⟨h1, h2⟩ := split_at (h.before row)
  have hs := h
  rw [← List.take_append_drop (rs.countP (Mine.before row)) rs] at hs
  obtain ⟨p1, p2, p3⟩ := List.pairwise_append.mp hs
  refine List.pairwise_append.mpr ⟨p1, List.pairwise_cons.mpr ⟨fun b hb => ?_, p2⟩, fun a ha b hb => ?_⟩
  · have := of_decide_eq_false (h2 b hb)
    rw [cmp_flip] at this; omega
  · rcases List.mem_cons.mp hb with rfl | hb
    · have := of_decide_eq_true (h1 a ha); omega
    · exact p3 a ha b hb
theorem insL_perm (row : Int × Int × Int) (rs : List (Int × Int × Int)) : (insL row rs).Perm (row :: rs) := by
  unfold insL
  refine List.perm_middle.trans ?_
  rw [List.take_append_drop]
theorem insL_length (row : Int × Int × Int) (rs : List (Int × Int × Int)) : (insL row rs).length = rs.length + 1 := by rw [(insL_perm row rs).length_eq]; rfl
def listedOf (rows : List (Int × Int × Int)) : List (Int × Int × Int) := rows.foldl (fun l r => insL r l) []
theorem listed_snoc (rows : List (Int × Int × Int)) (r : Int × Int × Int) : listedOf (rows ++ [r]) = insL r (listedOf rows) := by simp [listedOf]
theorem foldl_insL (rows : List (Int × Int × Int)) : ∀ l, InOrder l → InOrder (rows.foldl (fun l r => insL r l) l) ∧ (rows.foldl (fun l r => insL r l) l).length = l.length + rows.length := by
  induction rows with
  | nil => intro l h; exact ⟨h, rfl⟩
  | cons r rows ih => intro l h; obtain ⟨a, b⟩ := ih _ (insL_order (row := r) h); rw [List.foldl_cons]; refine ⟨a, b.trans ?_⟩; rw [insL_length]; simp; omega
theorem listed_order (rows : List (Int × Int × Int)) : InOrder (listedOf rows) := (foldl_insL rows [] .nil).1
theorem listed_length (rows : List (Int × Int × Int)) : (listedOf rows).length = rows.length := by have := (foldl_insL rows [] .nil).2; unfold listedOf; simpa using this
theorem cmp_self (r : Int × Int × Int) : cmpOf r r = 0 := by have := cmp_flip (a := r) (b := r); omega

theorem rows_hide {l : Addr} {vs : Array Value} {n : Nat} (e : g l = some (lsO vs n)) : ∀ {rs : List (Int × Int × Int)} {ws : List Value}, AtAll c g (rs.map .row) ws → AtAll c (hide g [l]) (rs.map .row) ws
  | [], _, h => by rw [atAll_nil.mp h]; exact all_nil
  | r :: rs, _, h => by
    obtain ⟨v, w, rfl, h1, h2⟩ := atAll_cons.mp h
    exact all_cons (row_hide h1 e) (rows_hide e h2)

set_option maxHeartbeats 4000000 in
theorem insort_left_call {n : Nat} (rm : Rm A (n + 4)) {rs : List (Int × Int × Int)} {row : Int × Int × Int} {vr : Value} {f l : Addr} {vs : Array Value} {m : Nat} {Q : Value → Shared → Prop} (ok : Ok c s) (ho : hp s.heap l = some (lsO vs m)) (hl : 208 < l) (ha : AtAll c (hp s.heap) (rs.map .row) vs.toList)
    (ar : At c (hp s.heap) (.row row) vr) (K : LamOk c (hp s.heap) f row) (hs : InOrder rs) (hlen : rs.length < 1000)
    (q : ∀ s' ws m', Ok c s' → Keep (hide (hp s.heap) [l]) (hp s'.heap) → hp s'.heap l = some (lsO ws m') → AtAll c (hide (hp s'.heap) [l]) ((insL row rs).map .row) ws.toList → Q .none s') : Rn c A (call (.ref 41) [.ref l, vr] [("key", .ref f)]) Q s := by
  have hsz : vs.size = rs.length := by have := ha.length; simpa using this
  have al0 : At c (hp s.heap) (.rows rs) (.ref l) := at_list.mpr ⟨l, vs, m, rfl, ho, ha⟩
  refine wpAny_call (fn_call (binds := [("a", .ref l), ("x", vr), ("lo", .int 0 216), ("hi", .none), ("key", .ref f)]) (bds := [.ref l, .row row, .int 0, .none, .ref f]) rfl (by kernel_rfl) rm ok (by kernel_rfl)
    (all_cons (at_ref.mpr rfl) (all_cons ar (all_cons (mk_int _ _) (all_cons (at_none.mpr rfl) (all1 (at_ref.mpr rfl)))))) (by kernel_rfl) fun L s1 B => ?_)
  refine ex_if B (.cmp (B.name rfl) .cnone (isN_ref f)) fun s2 B => ?_
  have al : At c (hp s2.heap) (.rows rs) (.ref l) := al0.mono B.keep
  have K2 : LamOk c (hp s2.heap) f row := K.mono B.keep
  refine ex_assign B (d := .int (rs.countP (Mine.before row))) (.callkw (dk := .ref f) B.fra.ok (by kernel_rfl) (by kernel_rfl) (.cons (.view (B.name rfl) al) (.cons (.eqd (.fcall (B.name rfl) (fun s k => (K2.mono k).fn) (.cons (B.name rfl) .nil) (fun s vs Q ok k ha q => by
      obtain ⟨v, rfl, a⟩ := all_inv1 ha
      exact key_spec (m := n + 1) (rm.deeper _) (K2.mono k) ok a q)) (by rw [cmp_self] : D.int (cmpOf row row) = .int 0)) (.cons (B.name rfl) (.cons (B.name rfl) .nil)))) (B.name rfl)
      (fun s vs v Q ok k ha av q => bisect_left_key (rm.deeper _) (hs.before row) hlen ok (K2.mono k) ha av q)) (.inl rfl) fun s3 B => ?_
  refine ex_nil (ex_expr ?_)
  have k3 := B.keep
  have hc : rs.countP (Mine.before row) ≤ rs.length := List.countP_le_length
  refine methodCall_KW ((B.name (A := A.deeper _) (x := "a") (d := .ref l) rfl) s3 _ B.ok (Keep.refl _) fun v s4 ok4 k4 a4 => ?_)
  rw [at_ref.mp a4]
  have e4 := k4 _ _ (k3 _ _ ho)
  refine list_meth (hp_get e4) F.slot_list_insert (by show builtinType _ = _; rw [builtinType_eq_fast]; kernel_rfl) ?_
  have B4 := B.step ok4 k4
  refine call_with (kept_blt _) (.cons (B4.name rfl) (.cons (B4.name rfl) .nil)) ok4 (Keep.refl _) rfl fun ws s5 ok5 k5 a5 => ?_
  obtain ⟨w1, w2, rfl, b1, b2⟩ := all_inv2 a5
  obtain ⟨u1, rfl⟩ := at_int.mp b1
  have e5 := k5 _ _ e4
  refine list_insert ok5 e5 hl (by omega) (by rw [hsz]; omega) (by omega) fun s6 xs m6 ok6 k6 e6 hx => ⟨rfl, ex_nil ?_⟩
  have kk : Keep (hp s.heap) (hp s5.heap) := k3.trans (k4.trans k5)
  refine q s6 xs m6 ok6 (fun b o eb => k6 b o ((kk.hide _) b o eb)) e6 ?_
  rw [hx]
  have kh : Keep (hide (hp s5.heap) [l]) (hide (hp s6.heap) [l]) := fun bb oo ee => hide_of (k6 bb oo ee) (hide_off ee)
  have ha5 := (rows_hide e5 (ha.mono kk)).mono kh
  have e7 : ((rs.countP (Mine.before row) : Nat) : Int).toNat = rs.countP (Mine.before row) := by simp
  rw [e7]
  unfold insL
  rw [List.map_append, List.map_cons, List.map_take, List.map_drop]
  exact (ha5.take _).append (all_cons ((row_hide b2 e5).mono kh) (ha5.drop _))

theorem ng_insort_left : nsIn c.K mainGlobals "insort_left" = some (some (.ref 41)) := by kernel_rfl
set_option maxHeartbeats 4000000 in
theorem law_listed_spec {n : Nat} (rm : Rm A (n + 5)) {rows : List (Int × Int × Int)} (hl : rows.length < 500) : Spec c A (.ref 203) [.rows rows] (.rows (listedOf rows)) := fun s vs Q ok ha q => by
  obtain ⟨v1, rfl, a1⟩ := all_inv1 ha
  refine wpAny_call (fn_callC (binds := [("rows", v1)]) (bds := [.rows rows]) rfl (by kernel_rfl) rm ok (by kernel_rfl) (all1 a1) (by kernel_rfl) fun L s1 B => ?_)
  have rm2 : ∀ e, Rm (A.deeper e) (n + 4) := rm.deeper
  refine ex_assign B (.call B.fra.ok (by kernel_rfl) (kept_K (by kernel_rfl)) (.cons (.tuple (.cons (.tuple (.cons .cint (.cons .cint .nil))) (.cons (.tuple (.cons .cint (.cons (.neg .cint) .nil))) .nil))) .nil) (tc_make (m := n + 2) (rm2 _))) (.inr ⟨rfl, rfl⟩) fun s2 B => ?_
  refine ex_own B (evNew_nil B.ok) (.inl rfl) fun l o s3 g' hn B hR hkd => ?_
  subst hR
  have B := B.to (ρ' := [("listed", .ref l), ("order", .comp csL), ("rows", .rows rows)]) ⟨rfl, rfl, rfl, trivial⟩
  refine ex_forH (fun i (st : Obj × List (Int × Int × Int)) g => ∃ vs n, st.1 = lsO vs n ∧ st.2 = listedOf (rows.take i) ∧ AtAll c g (st.2.map .row) vs.toList) (fun i st g g' k ⟨vs, n, h1, h2, h3⟩ => ⟨vs, n, h1, h2, h3.monoD k⟩)
    (fun _ => [("listed", .ref l), ("order", .comp csL), ("rows", .rows rows)]) (fun st => [(l, st.1)]) (fun _ _ => False) (fun _ => False) (lsO #[] 0, []) ⟨#[], 0, rfl, rfl, all_nil⟩ B (.inr ⟨rfl, rfl⟩)
    (B.evh_name rfl) (fun g v a => iter_list (hhd rm.hh) a) ?_ ?_ (fun _ _ _ h => h.elim)
  · rintro i ⟨o, rs⟩ d g' s4 ⟨vs, m4, h1, h2, h3⟩ hd B
    simp only at h1 h2 h3
    subst h1
    obtain ⟨r, hr, rfl⟩ : ∃ r, rows[i]? = some r ∧ d = .row r := by
      rw [List.getElem?_map] at hd
      cases hq : rows[i]? with
      | none => rw [hq] at hd; cases hd
      | some r => rw [hq] at hd; cases hd; exact ⟨r, rfl, rfl⟩
    have hi : i < rows.length := (List.getElem?_eq_some_iff.mp hr).1
    have hlen : rs.length < 1000 := by rw [h2, listed_length]; simp; omega
    refine ex_expr (CallK_ (glob_load B.fra.ok B.ok ng_insort_left (callWith_KW B.ok.inv.k (by kernel_rfl) rfl ((EvAll.cons (B.name rfl) (.cons (B.name rfl) .nil)) _ s4 _ B.ok (Keep.refl _) fun us s5 ok5 k5 a5 => kwAll_cons ?_))))
    obtain ⟨u1, u2, rfl, b1, b2⟩ := all_inv2 a5
    rw [at_ref.mp b1]
    have B := B.step ok5 k5
    refine mk_lam B rfl rfl rfl rfl rfl (by kernel_rfl) fun f s6 ok6 k6 K6 => kwAll_nil ⟨ok6.inv.k, ?_⟩
    have B := B.step ok6 k6
    obtain ⟨e1, e2, e3, _⟩ := B.own (l, lsO vs m4) (.head _)
    have h3' := (h3.mono ((k5.trans k6).hide _)).mono (hide_keep _ _)
    refine insort_left_call (rm2 _) ok6 e1 e3 h3' (b2.mono k6) (K6.mono (hide_keep _ _)) (by rw [h2]; exact listed_order _) hlen fun s7 xs m7 ok7 k7 e7 a7 => ⟨rfl, ex_nil ?_⟩
    refine ⟨(lsO xs m7, insL r rs), ⟨xs, m7, rfl, ?_, a7⟩, (B.turn ok7 k7 e7 DataCls.list).to ⟨rfl, rfl, rfl, trivial⟩⟩
    simp only
    rw [h2, List.take_add_one, hr, ← listed_snoc]
    rfl
  · rintro ⟨o, rs⟩ s4 (⟨vs, m4, h1, h2, h3⟩ | h) B
    · simp only at h1 h2 h3
      subst h1
      obtain ⟨e1, e2, e3, _⟩ := B.own (l, lsO vs m4) (.head _)
      have av : At c (hp s4.heap) (.rows rs) (.ref l) := at_list.mpr ⟨l, vs, m4, rfl, e1, h3.mono (hide_keep _ _)⟩
      refine ex_return B (.view (B.name rfl) av) fun v s' r => q v s' r.ok r.keep ?_
      have h := r.at_
      rw [h2, List.length_map, List.take_length] at h
      exact h
    · exact h.elim
end
end Mine

/-! # Q2 -/
namespace Mine
/-! ## the sort of five, its questions answered -/
def kasRun {α : Type} (lt : Nat → Nat → Bool) : KasT α → α
  | .ret a => a
  | .ask i j k => kasRun lt (k (lt i j))
def kasOk {α : Type} (n : Nat) : KasT α → Bool
  | .ret _ => true
  | .ask i j k => decide (i < n) && decide (j < n) && kasOk n (k true) && kasOk n (k false)
theorem kas_pure {α : Type} {n : Nat} {lt : Nat → Nat → Bool} {ask : Nat → Nat → (Bool → Shared → Prop) → Shared → Prop} {G : α → Shared → Prop} {s : Shared} (hask : ∀ i j C, i < n → j < n → C (lt i j) s → ask i j C s) : ∀ (t : KasT α), kasOk n t = true → G (kasRun lt t) s → t.kasWp ask G s
  | .ret a, _, h => h
  | .ask i j k, ho, h => by
    unfold kasOk at ho
    simp only [Bool.and_eq_true, decide_eq_true_eq] at ho
    obtain ⟨⟨⟨h1, h2⟩, h3⟩, h4⟩ := ho
    refine hask i j _ h1 h2 ?_
    have h5 : kasOk n (k (lt i j)) = true := by cases lt i j <;> assumption
    exact kas_pure hask (k (lt i j)) h5 h
set_option maxHeartbeats 4000000 in
theorem sort5_ok : kasOk 5 (kas_sort 5) = true := by decide +kernel
def rk (r0 r1 r2 r3 r4 : Nat) (i : Nat) : Nat := match i with | 0 => r0 | 1 => r1 | 2 => r2 | 3 => r3 | _ => r4
def good5 (r0 r1 r2 r3 r4 : Nat) : Bool :=
  let p := (kasRun (fun i j => decide (rk r0 r1 r2 r3 r4 i < rk r0 r1 r2 r3 r4 j)) (kas_sort 5)).toList
  p.isPerm [0, 1, 2, 3, 4] && decide (p.map (rk r0 r1 r2 r3 r4) = [0, 1, 2, 3, 4])
def apart5 (a b d e f : Nat) : Bool := a != b && a != d && a != e && a != f && b != d && b != e && b != f && d != e && d != f && e != f
def all5 : Bool := (List.range 5).all fun a => (List.range 5).all fun b => (List.range 5).all fun d => (List.range 5).all fun e => (List.range 5).all fun f => !apart5 a b d e f || good5 a b d e f
set_option maxHeartbeats 4000000 in
theorem sort5_all : all5 = true := by decide +kernel
theorem sort5_good {a b d e f : Nat} (ha : a < 5) (hb : b < 5) (hd : d < 5) (he : e < 5) (hf : f < 5) (h : apart5 a b d e f = true) : good5 a b d e f = true := by
  have h1 := sort5_all
  unfold all5 at h1
  have h2 := List.all_eq_true.mp (List.all_eq_true.mp (List.all_eq_true.mp (List.all_eq_true.mp (List.all_eq_true.mp h1 a (List.mem_range.mpr ha)) b (List.mem_range.mpr hb)) d (List.mem_range.mpr hd)) e (List.mem_range.mpr he)) f (List.mem_range.mpr hf)
  rw [h] at h2
  simpa using h2
end Mine

/-! # K6 -/
namespace Mine
section
variable {c : Wd} {A : Around} {env : Env} {g g' g₁ : PH} {pos p : Pos} {ρ ρ' : List (Str × D)} {ow : List (Addr × Obj)} {s s' : Shared} {rest : List Stmt}

/-! ## sorted by a key -/
def keyOf (r : Int × Int × Int) : Int × Int × Int := (r.2.1, -r.2.2, -r.1)
def klex (k t : Int × Int × Int) : Bool := if k.1 == t.1 then (if k.2.1 == t.2.1 then (if k.2.2 == t.2.2 then false else decide (k.2.2 < t.2.2)) else decide (k.2.1 < t.2.1)) else decide (k.1 < t.1)
abbrev r0D : Int × Int × Int := (0, 0, 0)
def sort5 (rs : List (Int × Int × Int)) : List (Int × Int × Int) := (kasRun (fun i j => klex (keyOf (rs.getD i r0D)) (keyOf (rs.getD j r0D))) (kas_sort 5)).toList.map fun i => rs.getD i r0D

theorem list_upd {a : Addr} {vs : Array Value} {n : Nat} {f : Array Value → Array Value} {Q : Unit → Shared → Prop} {E : Value → Shared → Prop} (ok : Ok c s) (ho : hp s.heap a = some (lsO vs n)) (ha : 208 < a) (h1 : vs.size ≤ 1000) (h2 : (f vs).size ≤ 1000)
    (q : ∀ s' n', Ok c s' → Keep (hide (hp s.heap) [a]) (hp s'.heap) → hp s'.heap a = some (lsO (f vs) n') → Q () s') : wpAny c.M A (Builtin.List.listUpdate (.ref a) f) Q E s := by
  refine listUpdate_at (hp_get ho) rfl ?_ (Nat.le_trans h1 (by simp [sizeLine])) (Nat.le_trans h2 (by simp [sizeLine]))
  have hs := Heap.SameBut.update s.heap a (Obj.mapSeq f)
  exact q _ _ ⟨ok.inv.sameBut hs ha (hp_get ho) (by show Value.type "list" ≠ _; decide), ok.gens, ok.os⟩ (fun b ob eb => sameBut_hp hs (hide_get eb) (by simpa using hide_off eb)) (hp_of (get?_update_seq (hp_get ho) f) (not_tab ha))

theorem tri (r : Int × Int × Int) {v : Value} {h : Heap} (a : At c (hp h) (.row r) v) : ∃ b xs n t1 t2 t3, v = .ref b ∧ h.get? b = some (tpO xs n) ∧ xs = #[.int r.1 t1, .int r.2.1 t2, .int r.2.2 t3] := by
  obtain ⟨b, xs, n, rfl, e, r'⟩ := at_tup.mp a
  obtain ⟨w1, w2, w3, hw, b1, b2, b3⟩ := all_inv3 r'
  obtain ⟨t1, rfl⟩ := at_int.mp b1
  obtain ⟨t2, rfl⟩ := at_int.mp b2
  obtain ⟨t3, rfl⟩ := at_int.mp b3
  exact ⟨b, xs, n, t1, t2, t3, rfl, hp_get e, by apply Array.ext'; rw [hw]⟩
theorem keyLt_rows {k t : Int × Int × Int} {v u : Value} {Q : Bool → Shared → Prop} {E : Value → Shared → Prop} (av : At c (hp s.heap) (.row k) v) (au : At c (hp s.heap) (.row t) u) (h : Q (klex k t) s) : wpAny c.M A (keyLt' (tuples' true) v u) Q E s := by
  obtain ⟨b, xs, n, t1, t2, t3, rfl, e, rfl⟩ := tri k av
  obtain ⟨b', xs', n', u1, u2, u3, rfl, e', rfl⟩ := tri t au
  refine kat_lt e rfl e' rfl ?_
  unfold klex at h
  refine kat_cons (wpAny_eqBool_int (kat_go (fun h1 => ?_) fun h1 => ?_))
  · rw [if_pos h1] at h
    refine kat_yes (kat_cons (wpAny_eqBool_int (kat_go (fun h2 => ?_) fun h2 => ?_)))
    · rw [if_pos h2] at h
      refine kat_yes (kat_cons (wpAny_eqBool_int (kat_go (fun h3 => ?_) fun h3 => ?_)))
      · rw [if_pos h3] at h
        exact kat_yes (kat_nil h)
      · rw [if_neg (by rw [h3]; decide)] at h
        exact kat_no (kat_one _ _ (PyProof.Rows.lt_int h))
    · rw [if_neg (by rw [h2]; decide)] at h
      exact kat_no (kat_one _ _ (PyProof.Rows.lt_int h))
  · rw [if_neg (by rw [h1]; decide)] at h
    exact kat_no (oneLt_int h)

theorem tups_of {h : Heap} : ∀ {ks : List (Int × Int × Int)} {vs : List Value}, AtAll c (hp h) (ks.map .row) vs → ∃ fs, KatTups h vs fs ∧ fs.length = ks.length ∧ ∀ v ∈ fs, ∃ i t, v = Value.int i t
  | [], _, a => by rw [atAll_nil.mp a]; exact ⟨[], trivial, rfl, fun _ h => (nomatch h)⟩
  | k :: ks, _, a => by
    obtain ⟨v, r, rfl, h1, h2⟩ := atAll_cons.mp a
    obtain ⟨fs, t, hl, hf⟩ := tups_of h2
    obtain ⟨b, xs, n, t1, t2, t3, rfl, e, rfl⟩ := tri k h1
    refine ⟨.int k.1 t1 :: fs, KatTups.cons e rfl rfl rfl t, by simp [hl], fun v hv => ?_⟩
    rcases List.mem_cons.mp hv with rfl | hv
    · exact ⟨_, _, rfl⟩
    · exact hf v hv
theorem rows_upd {l : Addr} {vs : Array Value} {n : Nat} {rs : List (Int × Int × Int)} {ws : List Value} (e : hp s.heap l = some (lsO vs n)) (k : Keep (hide (hp s.heap) [l]) (hp s'.heap)) (h : AtAll c (hp s.heap) (rs.map .row) ws) : AtAll c (hp s'.heap) (rs.map .row) ws := (rows_hide e h).mono k
theorem rows_at {rs : List (Int × Int × Int)} {ws : List Value} (h : AtAll c g (rs.map .row) ws) {i : Nat} (hi : i < rs.length) : At c g (.row (rs.getD i r0D)) (ws.getD i .none) := by
  obtain ⟨v, e, a⟩ := h.get (i := i) (d := .row rs[i]) (by rw [List.getElem?_map, List.getElem?_eq_getElem hi]; rfl)
  rw [List.getD_eq_getElem?_getD, List.getD_eq_getElem?_getD, e, List.getElem?_eq_getElem hi]
  exact a
theorem rows_pick {rs : List (Int × Int × Int)} {ws : List Value} (h : AtAll c g (rs.map .row) ws) : ∀ {is : List Nat}, (∀ i ∈ is, i < rs.length) → AtAll c g ((is.map fun i => rs.getD i r0D).map .row) (is.map fun i => ws.getD i .none)
  | [], _ => all_nil
  | i :: is, hi => all_cons (rows_at h (hi i (.head _))) (rows_pick h fun j hj => hi j (.tail _ hj))

set_option maxHeartbeats 4000000 in
theorem sort_tree {f a : Addr} {vs : List Value} {n : Nat} {rs : List (Int × Int × Int)} {P : PySem.Fin → Shared → Prop} (hrs : rs.length = 5) (hidx : ∀ i ∈ (kasRun (fun i j => klex (keyOf (rs.getD i r0D)) (keyOf (rs.getD j r0D))) (kas_sort 5)).toList, i < 5) (hsz : (kasRun (fun i j => klex (keyOf (rs.getD i r0D)) (keyOf (rs.getD j r0D))) (kas_sort 5)).toList.length ≤ 1000) (ok : Ok c s) (ho : hp s.heap a = some (lsO vs.toArray n)) (ha : 208 < a) (hv : AtAll c (hp s.heap) (rs.map .row) vs)
    (key : ∀ (s' : Shared) v r Q, Ok c s' → Keep (hide (hp s.heap) [a]) (hp s'.heap) → At c (hp s'.heap) (.row r) v → (∀ v' s'', Ok c s'' → Keep (hp s'.heap) (hp s''.heap) → At c (hp s''.heap) (.row (keyOf r)) v' → Q v' s'') → Rn c A (call (.ref f) [v]) Q s')
    (q : ∀ s' out n', Ok c s' → Keep (hide (hp s.heap) [a]) (hp s'.heap) → hp s'.heap a = some (lsO out n') → AtAll c (hp s'.heap) ((sort5 rs).map .row) out.toList → P (.done (.ret .none)) s') : Rn c A (ksk_tree a (.ref f) false) P s := by
  have hlen : vs.length = 5 := by have := hv.length; simpa [hrs] using this
  unfold ksk_tree
  refine wpAny_bind (listItems_at (hp_get ho) rfl ?_)
  refine wpAny_bind (list_upd ok ho ha (by simp; omega) (by simp) fun s1 n1 ok1 k1 e1 => ?_)
  refine wpAny_bind (seqEpoch_at (hp_get e1) rfl ?_)
  refine wpAny_bind (wpAny_newTuple ?_ (by show vs.length ≤ _; rw [hlen]; simp [sizeLine]))
  refine wpAny_bind (wpAny_newList ?_ (Nat.zero_le _))
  refine wpAny_holding ?_
  have hv1 : AtAll c (hp s1.heap) (rs.map .row) vs := rows_upd ho k1 hv
  generalize hO : ({ cls := .type "tuple", data := .seq vs.toArray } : Obj) = oT
  have ok2 : Ok c { s1 with heap := s1.heap.push oT } := ok1.push oT
  have ok3 : Ok c { s1 with heap := (s1.heap.push oT).push (lsO #[] 0) } := ok2.push (lsO #[] 0)
  have k3 : Keep (hp s1.heap) (hp ((s1.heap.push oT).push (lsO #[] 0))) := (keep_push _ _).trans (keep_push _ _)
  have eK : hp ((s1.heap.push oT).push (lsO #[] 0)) (s1.heap.push oT).objs.size = some (lsO #[] 0) := ok2.new
  have hKb : 208 < (s1.heap.push oT).objs.size := ok2.inv.big
  have hKn : hp s1.heap (s1.heap.push oT).objs.size = none := hp_ge (by simp)
  have hKa : a ≠ (s1.heap.push oT).objs.size := fun e => by rw [← e, e1] at hKn; cases hKn
  show wpAny c.M A (ksk_rest a (.ref f) false vs.toArray n1 (.ref (s1.heap.push oT).objs.size)) P _ { s1 with heap := (s1.heap.push oT).push (lsO #[] 0) }
  generalize hS : ({ s1 with heap := (s1.heap.push oT).push (lsO #[] 0) } : Shared) = s3 at ok3
  have e3h : s3.heap = (s1.heap.push oT).push (lsO #[] 0) := by rw [← hS]
  rw [← e3h] at k3 eK
  generalize (s1.heap.push oT).objs.size = kS at eK hKb hKn hKa
  have g3 : Keep (hide (hp s.heap) [a]) (hide (hp s3.heap) [kS]) := fun b o e => hide_of (k3 _ _ (k1 _ _ e)) fun hm => by
    rw [List.mem_singleton.mp hm] at e
    have := k1 _ _ e
    rw [hKn] at this; cases this
  unfold ksk_rest
  refine wpAny_bind (wpAny_rule ?_)
  rw [← Array.forIn_toList]
  refine wpAny_bind (ksk_fold (fun i s' => Ok c s' ∧ Keep (hide (hp s.heap) [a]) (hide (hp s'.heap) [kS]) ∧ hp s'.heap a = some (lsO #[] n1) ∧ AtAll c (hp s'.heap) (rs.map .row) vs ∧ ∃ ks e, hp s'.heap kS = some (lsO ks e) ∧ AtAll c (hp s'.heap) (((rs.take i).map keyOf).map .row) ks.toList) vs 0 s3
    ⟨ok3, g3, k3 _ _ e1, hv1.mono k3, #[], 0, eK, by simpa using all_nil⟩ (fun j x s4 hx hI => ?_) fun s4 hI => ?_)
  · obtain ⟨ok4, k4, ea, hv4, ks, e, ek, hk⟩ := hI
    rw [Nat.zero_add] at hk ⊢
    have hj : j < 5 := by rw [← hlen]; exact (List.getElem?_eq_some_iff.mp hx).1
    obtain ⟨d, hd, ad⟩ := hv4.get' hx
    have hrj : rs[j]? = some rs[j] := List.getElem?_eq_getElem (by omega)
    rw [List.getElem?_map, hrj] at hd
    cases hd
    have hks : ks.size = j := by have := hk.length; simp [hrs] at this; omega
    refine wpAny_bind (wpAny_attempt (wpAny_mono (key s4 x _ (fun v' s'' => Ok c s'' ∧ Keep (hp s4.heap) (hp s''.heap) ∧ At c (hp s''.heap) (.row (keyOf rs[j])) v') ok4 (k4.trans (hide_keep _ _)) ad fun v' s5 ok5 k5 a5 => ⟨ok5, k5, a5⟩) (fun v' s5 h5 => ?_) fun _ _ hF => hF.elim))
    obtain ⟨ok5, k5, a5⟩ := h5
    refine wpAny_bind (list_upd ok5 (k5 _ _ ek) hKb (by omega) (by simp; omega) fun s6 n6 ok6 k6 e6 => wpAny_pure ⟨rfl, ok6, ?_, ?_, ?_, _, _, e6, ?_⟩)
    · exact fun b o eb => hide_of (k6 _ _ ((k5.hide _) _ _ (k4 _ _ eb))) (hide_off (k4 _ _ eb))
    · exact k6 _ _ (hide_of (k5 _ _ ea) (by simpa using hKa))
    · exact rows_upd (k5 _ _ ek) k6 (hv4.mono k5)
    · have e7 : (rs.take (j + 1)).map keyOf = (rs.take j).map keyOf ++ [keyOf rs[j]] := by rw [List.take_add_one, hrj, List.map_append]; rfl
      rw [e7, List.map_append, Array.toList_push]
      exact (rows_upd (k5 _ _ ek) k6 (hk.mono k5)).append (rows_upd (rs := [keyOf rs[j]]) (k5 _ _ ek) k6 (all1 a5))
  · obtain ⟨ok4, k4, ea, hv4, ks, e, ek, hk⟩ := hI
    rw [Nat.zero_add, List.take_of_length_le (by omega)] at hk
    have hks : ks.toList.length = 5 := by have := hk.length; simpa [hrs] using this
    refine wpAny_bind (listItems_at (hp_get ek) rfl ?_)
    unfold ksk_end
    dsimp only
    have hn2 : ¬ vs.toArray.size < 2 := by rw [List.size_toArray]; omega
    simp only [Bool.false_eq_true, if_false]
    rw [if_neg hn2, if_neg hn2]
    obtain ⟨fs, ht, hfl, hfi⟩ := tups_of hk
    have hkz : (ks.toList).toArray = ks := by simp
    refine wpAny_bind ?_
    rw [← hkz]
    refine kat_kind ht (by rw [hfl]; simp [hrs]) (T := .type "int") (fun v hv => ?_) rfl ?_
    · obtain ⟨i, t, rfl⟩ := hfi v hv; exact Looks.of_pure rfl
    have hb : (Value.type "int" != Value.type "tuple") = true := rfl
    rw [hb]
    have run : wpAny c.M A ((sortRuns').run (SortSt.mk' (tuples' true) (ks.toList.toArray.zip vs.toArray) #[] 7 none)) (fun r s' => s' = s4 ∧ ∃ p : Array Nat, p = kasRun (fun i j => klex (keyOf (rs.getD i r0D)) (keyOf (rs.getD j r0D))) (kas_sort 5) ∧ (arrOf r.2).map (·.2) = List.toArray (p.toList.map fun i => vs.getD i Value.none) ∧ failedOf r.2 = none) (fun _ _ => False) s4 := by
      refine kat_run (G := fun p s' => s' = s4 ∧ p = kasRun (fun i j => klex (keyOf (rs.getD i r0D)) (keyOf (rs.getD j r0D))) (kas_sort 5)) (Q := fun st s' => s' = s4 ∧ ∃ p : Array Nat, p = kasRun (fun i j => klex (keyOf (rs.getD i r0D)) (keyOf (rs.getD j r0D))) (kas_sort 5) ∧ (arrOf st).map (·.2) = List.toArray (p.toList.map fun i => vs.getD i Value.none) ∧ failedOf st = none)
        (hks.trans hlen.symm) (by omega) (by omega) (fun p st' s' h1 h2 h3 h4 => ⟨h4.1, p, h4.2, kat_snds (hks.trans hlen.symm) h2, h3⟩) ?_
      rw [hlen]
      refine kas_pure (n := 5) (lt := fun i j => klex (keyOf (rs.getD i r0D)) (keyOf (rs.getD j r0D))) (fun i j C hi hj hC => ?_) (kas_sort 5) sort5_ok ⟨rfl, rfl⟩
      unfold kas_ask
      have hkr : (rs.map keyOf).length = 5 := by simp [hrs]
      have x1 := rows_at hk (i := i) (by omega)
      have x2 := rows_at hk (i := j) (by omega)
      have y : ∀ i, i < 5 → (rs.map keyOf).getD i r0D = keyOf (rs.getD i r0D) := fun i hi => by
        rw [List.getD_eq_getElem?_getD, List.getD_eq_getElem?_getD, List.getElem?_map, List.getElem?_eq_getElem (by omega)]; rfl
      rw [y i hi] at x1
      rw [y j hj] at x2
      exact keyLt_rows x1 x2 hC
    refine wpAny_bind (wpAny_mono run ?_ fun _ _ e => e)
    rintro ⟨⟨⟩, st⟩ s5 ⟨rfl, p, hp', hout, hf⟩
    dsimp only at hout hf ⊢
    unfold ksk_tail
    dsimp only
    rw [hout]
    have hpl : (p.toList.map fun i => vs.getD i Value.none).length ≤ 1000 := by rw [List.length_map, hp']; exact hsz
    refine wpAny_bind (list_upd ok4 ek hKb (by have h5 : ks.size = 5 := (by simpa using hks); omega) (by simp) fun s6 n6 ok6 k6 e6 => ?_)
    refine wpAny_bind (wpAny_letGo ?_)
    have ea6 := k6 _ _ (hide_of ea (by simpa using hKa))
    refine wpAny_bind (seqEpoch_at (hp_get ea6) rfl ?_)
    refine wpAny_bind (list_upd ok6 ea6 ha (by simp) (by simpa using hpl) fun s7 n7 ok7 k7 e7 => ?_)
    rw [hf]
    simp only [bne_self_eq_false, Bool.false_eq_true, if_false]
    refine wpAny_pure (q s7 _ n7 ok7 ?_ e7 ?_)
    · exact fun b o eb => k7 _ _ (hide_of (k6 _ _ (k4 _ _ eb)) (hide_off eb))
    · have hv6 := rows_upd ea6 k7 (rows_upd ek k6 hv4)
      have := rows_pick hv6 (is := p.toList) (fun i hi => by rw [hrs]; rw [hp'] at hi; exact hidx i hi)
      unfold sort5
      rw [← hp']
      simpa using this

/-- sorted(e, key=..) -/
theorem sorted_call {f : Addr} {v : Value} {rs : List (Int × Int × Int)} {Q : Value → Shared → Prop} (hrs : rs.length = 5) (hidx : ∀ i ∈ (kasRun (fun i j => klex (keyOf (rs.getD i r0D)) (keyOf (rs.getD j r0D))) (kas_sort 5)).toList, i < 5) (hsz : (kasRun (fun i j => klex (keyOf (rs.getD i r0D)) (keyOf (rs.getD j r0D))) (kas_sort 5)).toList.length ≤ 1000) (ok : Ok c s) (hv : At c (hp s.heap) (.rows rs) v)
    (key : ∀ (s' : Shared) v r Q, Ok c s' → Keep (hp s.heap) (hp s'.heap) → At c (hp s'.heap) (.row r) v → (∀ v' s'', Ok c s'' → Keep (hp s'.heap) (hp s''.heap) → At c (hp s''.heap) (.row (keyOf r)) v' → Q v' s'') → Rn c A.in1.in1 (call (.ref f) [v]) Q s')
    (q : ∀ v' s', Ok c s' → Keep (hp s.heap) (hp s'.heap) → At c (hp s'.heap) (.rows (sort5 rs)) v' → Q v' s') : Rn c A (call (.builtin "sorted") [v] [(Str.ofString "key", .ref f)]) Q s := by
  obtain ⟨l, vs, n, rfl, e, r⟩ := at_list.mp hv
  have hlen : vs.toList.length = 5 := by have := r.length; rw [List.length_map, hrs] at this; exact this
  have hL : s.heap.IsList l vs.toList.toArray := ⟨_, hp_get e, rfl, n, by simp⟩
  refine call_function_entry_kw kind_sorted plain_sorted entry_sorted (ksk_s1 _ _) ?_
  unfold Builtin.«sorted»
  refine wpAny_bind (m := checkCount "sorted" 1 1 _) (wpAny_pure ?_)
  refine wpAny_bind (collect_list hL ?_ (by rw [hlen]; simp [sizeLine]))
  refine wpAny_bind (wpAny_newList ?_ (by rw [hlen]; simp [sizeLine]))
  have ok1 := ok.push (lsO #[] 0)
  have hs1 := Heap.SameBut.update (s.heap.push (lsO #[] 0)) s.heap.objs.size (Obj.mapSeq (· ++ vs.toList.toArray))
  have ok2 : Ok c { s with heap := (s.heap.push (lsO #[] 0)).update s.heap.objs.size (Obj.mapSeq (· ++ vs.toList.toArray)) } := ⟨ok1.inv.sameBut hs1 ok.inv.big (hp_get ok.new) (by show Value.type "list" ≠ _; decide), ok.gens, ok.os⟩
  have k2 : Keep (hp s.heap) (hp ((s.heap.push (lsO #[] 0)).update s.heap.objs.size (Obj.mapSeq (· ++ vs.toList.toArray)))) := fun b o eb => sameBut_hp hs1 (keep_push _ _ _ _ eb) (Nat.ne_of_lt (Heap.lt_size (hp_get eb)))
  have ok3 := ok2.push (lsO vs.toList.toArray 0)
  have k3 := k2.trans (keep_push ((s.heap.push (lsO #[] 0)).update s.heap.objs.size (Obj.mapSeq (· ++ vs.toList.toArray))) (lsO vs.toList.toArray 0))
  have eD := ok2.new (o := lsO vs.toList.toArray 0)
  have bD := ok2.inv.big
  show wpAny c.M _ _ _ _ { s with heap := ((s.heap.push (lsO #[] 0)).update s.heap.objs.size (Obj.mapSeq (· ++ vs.toList.toArray))).push (lsO vs.toList.toArray 0) }
  have hnD : hp s.heap ((s.heap.push (lsO #[] 0)).update s.heap.objs.size (Obj.mapSeq (· ++ vs.toList.toArray))).objs.size = none := hp_ge (by rw [Heap.size_update, Heap.size_push]; exact Nat.le_succ _)
  generalize ((s.heap.push (lsO #[] 0)).update s.heap.objs.size (Obj.mapSeq (· ++ vs.toList.toArray))).push (lsO vs.toList.toArray 0) = h3 at ok3 k3 eD ⊢
  generalize ((s.heap.push (lsO #[] 0)).update s.heap.objs.size (Obj.mapSeq (· ++ vs.toList.toArray))).objs.size = D at eD bD hnD ⊢
  have kD : Keep (hp s.heap) (hide (hp h3) [D]) := fun b o eb => hide_of (k3 _ _ eb) fun hm => by
    rw [List.mem_singleton.mp hm, hnD] at eb; cases eb
  refine wpAny_bind (wpAny_holding (wpAny_call_entry_kw slot_list_sort ⟨_, hp_get eD, rfl⟩ entry_list_sort ?_ (ksk_l1 _ _)))
  show wpAny c.M A.in1.in1 (Builtin.«list.sort» ⟨[.ref D], [(Str.ofString "key", .ref f)]⟩) _ _ _
  rw [ksk_t1]
  refine sort_tree (s := { s with heap := h3 }) hrs hidx hsz ok3 eD bD (r.mono k3) (fun s' v r Q ok' k' a' q' => key s' v r Q ok' (kD.trans k') a' q') fun s' out n' ok' k' e' a' => ⟨_, rfl, wpAny_pure ⟨_, rfl, ?_⟩⟩
  exact q _ s' ok' (kD.trans k') (at_list.mpr ⟨D, out, n', rfl, e', a'⟩)
end
end Mine

/-! # K7 -/
namespace Mine
section
variable {c : Wd} {A : Around} {env : Env} {g g' g₁ : PH} {pos p : Pos} {ρ ρ' : List (Str × D)} {ow : List (Addr × Obj)} {s s' : Shared} {rest : List Stmt}

/-! ## sorted in law -/
theorem Rm.in1 {n : Nat} (rm : Rm A (n + 1)) : Rm A.in1.in1 n := ⟨rm.hh, by have := rm.hd; show A.depth + n < _; omega, by have := rm.hu; show A.units + 1 + 1 + 20 * n + 200 < _; omega⟩
abbrev srtS : Scope := { kind := .function, names := [(Str.ofString "row", .local)], isGenerator := false, isCoroutine := false, more := [] }
abbrev srtP : Arguments := { posonlyargs := [], args := [{ arg := "row", annotation := none, pos := ⟨226, 58, 226, 61⟩ : Arg }], vararg := none, kwonlyargs := [], kw_defaults := [], kwarg := none, defaults := [] }
abbrev srtB : Expr := .Tuple [.Subscript (.Name "row" ⟨226, 64, 226, 67⟩) (.Constant (.int 1) 0 ⟨226, 68, 226, 69⟩) ⟨226, 64, 226, 70⟩,
  .UnaryOp .USub (.Subscript (.Name "row" ⟨226, 73, 226, 76⟩) (.Constant (.int 2) 0 ⟨226, 77, 226, 78⟩) ⟨226, 73, 226, 79⟩) ⟨226, 72, 226, 79⟩,
  .UnaryOp .USub (.Subscript (.Name "row" ⟨226, 82, 226, 85⟩) (.Constant (.int 0) 0 ⟨226, 86, 226, 87⟩) ⟨226, 82, 226, 88⟩) ⟨226, 81, 226, 88⟩] 0 ⟨226, 63, 226, 89⟩
theorem nb_sorted : nsIn c.K mainGlobals "sorted" = some none := by kernel_rfl
set_option maxHeartbeats 1000000 in
theorem Ev.sorted {n : Nat} (rm : Rm A (n + 2)) {e : Expr} {kp : Pos} {rs : List (Int × Int × Int)} (he : EnvOk env) (hc : env.code = .ref 207) (hq : env.qual ++ "<lambda>" = qualS) (h : Ev c A env g e (.rows rs)) (hrs : rs.length = 5)
    (hidx : ∀ i ∈ (kasRun (fun i j => klex (keyOf (rs.getD i r0D)) (keyOf (rs.getD j r0D))) (kas_sort 5)).toList, i < 5) (hsz : (kasRun (fun i j => klex (keyOf (rs.getD i r0D)) (keyOf (rs.getD j r0D))) (kas_sort 5)).toList.length ≤ 1000)
    (hx : env.kindOf "sorted" = some .globalImplicit := by rfl) (hst : starEach [e] env = (false, eval e env) :: starEach [] env := by rfl)
    (hplain : ((backTo pos (starEach [e] env)).any (·.1) || (backToKw pos (keywordEach [⟨some "key", .Lambda srtP srtB srtS posS, kp⟩] env)).any (·.1.isNone)) = false := by rfl)
    (hall : (backToKw pos (keywordEach [⟨some "key", .Lambda srtP srtB srtS posS, kp⟩] env)).all (·.1.isSome) = true := by rfl)
    (hnames : (backToKw pos (keywordEach [⟨some "key", .Lambda srtP srtB srtS posS, kp⟩] env)).filterMap (·.1) = [Str.ofString "key"] := by rfl)
    (hev : eval (.Call (.Name "sorted" p) [e] [⟨some "key", .Lambda srtP srtB srtS posS, kp⟩] pos) env = (do callWith pos (← eval (.Name "sorted" p) env) [] (backTo pos (starEach [e] env)) (backToKw pos (keywordEach [⟨some "key", .Lambda srtP srtB srtS posS, kp⟩] env))) := by rfl) :
    Ev c A env g (.Call (.Name "sorted" p) [e] [⟨some "key", .Lambda srtP srtB srtS posS, kp⟩] pos) (.rows (sort5 rs)) := fun s Q ok k q => by
  refine CallK_ (blt_load he ok nb_sorted rfl (by decide) (callWith_of (P := fun _ => True) hplain (fun _ _ => ⟨.machine, .inr (.inl rfl), Looks.of_pure rfl⟩) (evalArgs_kw2 hall ((EvAll.cons h .nil hst) pos s _ ok k fun vs s1 ok1 k1 a1 => kwAll_cons (kla_eval rfl ?_)) hst)) hx (by decide)) hev
  obtain ⟨v, rfl, av⟩ := all_inv1 a1
  rw [hq]
  refine mk_fun (clos := []) ok1 he hc code_law (by decide) (fun h x => x.t3) (fun h h' x T hx => x.grow (by decide) hx (fun e => absurd e (by decide)) (fun e => absurd e (by decide)) fun _ => T) (closureFor_none (by intro x hx; simp at hx; rw [hx]; decide)) fun f c' oc vs t pm ctv s2 ok2 k2 hf hcd hcls hd hv => kwAll_nil ⟨trivial, ?_⟩
  rw [hnames]
  refine sorted_call hrs hidx hsz ok2 (av.mono k2) (fun s' v r Q ok' k' a' q' => ?_) fun v' s3 ok3 k3 a3 => q v' s3 ok3 (k1.trans (k2.trans k3)) a3
  refine lam_call rm.in1 ok' (k' _ _ hf) (k' _ _ hcd) hd hv rfl rfl rfl fun L s4 ok4 k4 he4 lo => ?_
  have e1 : Ev c _ _ (hp s4.heap) srtB (.row (keyOf r)) := Ev.tuple (A := A.in1.in1.deeper (envX qualS srtS L f (.ref c') [])) (env := envX qualS srtS L f (.ref c') []) (.cons (.item_tup (.name he4 lo (a'.mono k4)) .cint (by decide) rfl) (.cons (.neg (.item_tup (.name he4 lo (a'.mono k4)) .cint (by decide) rfl)) (.cons (.neg (.item_tup (.name he4 lo (a'.mono k4)) .cint (by decide) rfl)) .nil)))
  exact e1 s4 Q ok4 (Keep.refl _) fun v s5 ok5 k5 a5 => q' v s5 ok5 (k4.trans k5) a5

/-! ## small rules for law -/
theorem isNot_b (a b : Bool) : F2 c A (compareOp .IsNot) (.bool a) (.bool b) (.bool (a != b)) := fun s v1 v2 Q ok a1 a2 q => by
  rw [at_bool.mp a1, at_bool.mp a2]
  refine wpAny_isNot_plain rfl (q _ _ ok (Keep.refl _) ?_)
  cases a <;> cases b <;> exact mk_bool _
theorem ne_b (a b : Bool) : F2 c A (compareOp .NotEq) (.bool a) (.bool b) (.bool (a != b)) := fun s v1 v2 Q ok a1 a2 q => by
  rw [at_bool.mp a1, at_bool.mp a2]
  exact PyProof.Rows.ne_bool (q _ _ ok (Keep.refl _) (mk_bool _))
theorem Ev.and2 {e1 e2 : Expr} {a b : Bool} (h1 : Ev c A env g e1 (.bool a)) (h2 : Ev c A env g e2 (.bool b)) : Ev c A env g (.BoolOp .And [e1, e2] pos) (.bool (a && b)) := fun s _ ok k q =>
  BoolOp_and (h1 s _ ok k fun v s1 ok1 k1 a1 => by
    rw [at_bool.mp a1]
    refine wpAny_truthy_bool ?_
    cases a with
    | false => exact q _ s1 ok1 k1 (mk_bool _)
    | true => exact BoolOp_one (h2 s1 _ ok1 (k.trans k1) fun v2 s2 ok2 k2 a2 => q v2 s2 ok2 (k1.trans k2) a2))
theorem pre_sum : ∀ (n : Nat) (ns : List Int), n ≤ ns.length → preSum (fun i => ns.getD i 0) n = (ns.take n).sum
  | 0, ns, _ => by simp [preSum]
  | n + 1, ns, h => by
    have ih := pre_sum n ns (by omega)
    have hg : ns[n]? = some ns[n] := List.getElem?_eq_getElem (by omega)
    have e1 : ns.getD n 0 = ns[n] := by rw [List.getD_eq_getElem?_getD, hg]; rfl
    have e2 : ns.take (n + 1) = ns.take n ++ [ns[n]] := by rw [List.take_add_one, hg]; rfl
    rw [preSum, ih, e2, List.sum_append, e1]
    simp
theorem sum_l (hh : A.handled = none) (ns : List Int) : Spec c A (.builtin "sum") [.ints ns] (.int ns.sum) := fun s vs Q ok ha q => by
  obtain ⟨v, rfl, a⟩ := all_inv1 ha
  obtain ⟨l, ws, n, rfl, e, r⟩ := at_list.mp a
  have hl : ws.size = ns.length := by have := r.length; simpa using this
  have e1 := hp_get e
  have hL : s.heap.IsList l ws := ⟨_, e1, rfl, n, rfl⟩
  have hlt : l < s.heap.objs.size := Heap.lt_size e1
  have W := (Walks.list (prog := c.prog) (w := c.w) (A := A.in1) hh s.heap.objs.size l (Nat.ne_of_lt hlt) ws).toS
  refine call_sum_walkAnyS (wpAny_pyIter_list hL ⟨s.heap.objs.size, _, _, _, _, _, _, fun i => ns.getD i 0, rfl, W, ⟨⟨_, Heap.get?_push_size _ rfl, rfl, rfl⟩, hL.at fun o e => Heap.get?_push_of_some _ e⟩, fun b hb => ?_, fun i v hv => ?_, fun s' t' hm => ?_⟩)
  · rcases List.mem_cons.mp hb with rfl | hb
    · exact Heap.lt_size (Heap.get?_push_size _ rfl)
    · obtain rfl := List.mem_singleton.mp hb
      exact Heap.lt_size (Heap.get?_push_of_some _ e1)
  · obtain ⟨d, hd, ad⟩ := r.get' (by simpa using hv)
    obtain ⟨k, hk, rfl⟩ := map_int_get hd
    obtain ⟨t, rfl⟩ := at_int.mp ad
    exact ⟨t, by show Value.int k t = Value.int (ns.getD i 0) t; rw [List.getD_eq_getElem?_getD, hk]; rfl⟩
  · obtain ⟨h', g', d', tk', os'⟩ := s'
    have e1 : g' = s.gens := hm.gens
    have e2 : d' = s.drawn := hm.drawn
    have e3 : os' = s.os := hm.os
    subst e1 e2 e3
    have hk : ∀ b o, s.heap.get? b = some o → h'.get? b = some o := fun b o e => hm.heap b o (fun hb => absurd (Heap.lt_size e) ((List.mem_singleton.mp hb) ▸ Nat.lt_irrefl _)) (Heap.get?_push_of_some _ e)
    refine q _ _ (ok.all hk) (keep_all hk) ?_
    rw [hl, pre_sum _ _ (Nat.le_refl _), List.take_length]
    exact mk_int _ _
theorem max_l (hh : A.handled = none) (a b : Int) : Spec c A (.builtin "max") [.ints [a, b]] (.int (max a b)) := fun s vs Q ok ha q => by
  obtain ⟨v, rfl, a1⟩ := all_inv1 ha
  obtain ⟨l, ws, n, rfl, e, r⟩ := at_list.mp a1
  obtain ⟨w1, w2, hw, b1, b2⟩ := all_inv2 r
  obtain ⟨t, rfl⟩ := at_int.mp b1
  obtain ⟨u, rfl⟩ := at_int.mp b2
  have hws : ws = intItems #[(a, t), (b, u)] := by apply Array.ext'; rw [hw]; simp [intItems]
  refine max_intList (xs := #[(a, t), (b, u)]) hh ⟨_, hp_get e, rfl, n, by rw [hws]⟩ (by simp) fun v h' tk hv hk => q v _ (ok.all hk) (keep_all hk) ?_
  by_cases hc : a < b
  · simp [argBest, numAt, hc, intItems] at hv
    rw [← hv, Int.max_eq_right (by omega)]; exact mk_int _ _
  · simp [argBest, numAt, hc, intItems] at hv
    rw [← hv, Int.max_eq_left (by omega)]; exact mk_int _ _
theorem nb_sum : nsIn c.K mainGlobals "sum" = some none := by kernel_rfl
/-- the empty text joins -/
theorem join_S (ls : List (List Nat)) : Txt.join "" (ls.map S) = S ls.flatten := by
  have key : ∀ ls : List (List Nat), Str.join "" (ls.map S) = S ls.flatten := by
    intro ls
    induction ls with
    | nil => rfl
    | cons l r ih =>
      cases r with
      | nil => simp [Str.join]
      | cons l' r' =>
        have h : Str.join "" ((l :: l' :: r').map S) = S l ++ "" ++ Str.join "" ((l' :: r').map S) := rfl
        rw [h, ih]
        have he : (Str.ofString "").cps = #[] := by rfl
        apply Str.ext'
        simp [Str.cps_append, he]
  unfold Txt.join
  cases ls with
  | nil => rfl
  | cons l r =>
    first
      | (rw [StrLaws.glued_eq_join]; exact key _)
      | (simp only []; rw [StrLaws.glued_eq_join]; exact key _)
end
end Mine

/-! # Q1 -/
namespace Mine
/-! ## the plain law: counts -/
def In5 (R : List Int) : Prop := ∀ r ∈ R, r ∈ ([0, 1, 2, 3, 4] : List Int)
theorem In5.cons {r : Int} {R : List Int} (h : In5 (r :: R)) : r ∈ ([0, 1, 2, 3, 4] : List Int) ∧ In5 R := ⟨h r (.head _), fun x hx => h x (.tail _ hx)⟩
theorem In5.append {R R' : List Int} (h : In5 R) (h' : In5 R') : In5 (R ++ R') := fun r hr => by
  rcases List.mem_append.mp hr with hr | hr
  · exact h r hr
  · exact h' r hr
/-- what the counts say -/
structure Cn (R : List Int) (k0 k1 k2 k3 k4 : Nat) : Prop where
  len : R.length = k0 + k1 + k2 + k3 + k4
  c0 : R.count 0 = k0
  c1 : R.count 1 = k1
  c2 : R.count 2 = k2
  c3 : R.count 3 = k3
  c4 : R.count 4 = k4
  l0 : R.countP (· < 0) = 0
  l1 : R.countP (· < 1) = k0
  l2 : R.countP (· < 2) = k0 + k1
  l3 : R.countP (· < 3) = k0 + k1 + k2
  l4 : R.countP (· < 4) = k0 + k1 + k2 + k3
  l5 : R.countP (· < 5) = k0 + k1 + k2 + k3 + k4
  e0 : R.countP (· ≤ 0) = k0
  e1 : R.countP (· ≤ 1) = k0 + k1
  e2 : R.countP (· ≤ 2) = k0 + k1 + k2
  e3 : R.countP (· ≤ 3) = k0 + k1 + k2 + k3
  e4 : R.countP (· ≤ 4) = k0 + k1 + k2 + k3 + k4
  sum : R.sum = k1 + 2 * k2 + 3 * k3 + 4 * k4
theorem Cn.of : ∀ {R : List Int}, In5 R → Cn R (R.count 0) (R.count 1) (R.count 2) (R.count 3) (R.count 4)
  | [], _ => by constructor <;> simp
  | r :: R, h => by
    obtain ⟨hr, h'⟩ := h.cons
    obtain ⟨len, c0, c1, c2, c3, c4, l0, l1, l2, l3, l4, l5, e0, e1, e2, e3, e4, sum⟩ := Cn.of h'
    simp only [List.mem_cons, List.not_mem_nil, or_false] at hr
    rcases hr with rfl | rfl | rfl | rfl | rfl <;> constructor <;> simp only [List.count_cons, List.countP_cons, List.length_cons, List.sum_cons, len, l0, l1, l2, l3, l4, l5, e0, e1, e2, e3, e4, sum] <;> simp <;> omega
theorem perm_cn {R R' : List Int} {k0 k1 k2 k3 k4 : Nat} (hp : R.Perm R') (h : Cn R k0 k1 k2 k3 k4) : Cn R' k0 k1 k2 k3 k4 where
  len := hp.length_eq ▸ h.len
  c0 := (hp.count_eq _) ▸ h.c0
  c1 := (hp.count_eq _) ▸ h.c1
  c2 := (hp.count_eq _) ▸ h.c2
  c3 := (hp.count_eq _) ▸ h.c3
  c4 := (hp.count_eq _) ▸ h.c4
  l0 := (hp.countP_eq _) ▸ h.l0
  l1 := (hp.countP_eq _) ▸ h.l1
  l2 := (hp.countP_eq _) ▸ h.l2
  l3 := (hp.countP_eq _) ▸ h.l3
  l4 := (hp.countP_eq _) ▸ h.l4
  l5 := (hp.countP_eq _) ▸ h.l5
  e0 := (hp.countP_eq _) ▸ h.e0
  e1 := (hp.countP_eq _) ▸ h.e1
  e2 := (hp.countP_eq _) ▸ h.e2
  e3 := (hp.countP_eq _) ▸ h.e3
  e4 := (hp.countP_eq _) ▸ h.e4
  sum := by
    have : R.sum = R'.sum := hp.foldr_eq' (fun a _ b _ z => by omega) 0
    rw [← this]; exact h.sum

/-! the norm's counts -/
theorem bump_getD {cnt : List Int} {b : Int} (h : 0 ≤ b) (j : Nat) : (bump cnt b).getD j 0 = cnt.getD j 0 + if (j : Int) = b then 1 else 0 := by
  unfold bump
  have key : ∀ l : List Int, b < l.length → (∀ i, l.getD i 0 = cnt.getD i 0) → (l.set b.toNat (l.getD b.toNat 0 + 1)).getD j 0 = cnt.getD j 0 + if (j : Int) = b then 1 else 0 := by
    intro l hl hi
    rw [List.getD_eq_getElem?_getD, List.getElem?_set]
    by_cases hj : (j : Int) = b
    · have hb : b.toNat = j := by omega
      have hlt : j < l.length := by omega
      rw [if_pos hb, if_pos (by omega), if_pos hj, hb, hi]; simp
    · have hb : ¬ b.toNat = j := by omega
      rw [if_neg hb, if_neg hj, ← List.getD_eq_getElem?_getD, hi]; simp
  simp only
  split
  · rename_i hle
    refine key _ (by simp; omega) fun i => ?_
    rw [List.getD_eq_getElem?_getD, List.getD_eq_getElem?_getD, List.getElem?_append]
    split
    · rfl
    · rename_i hi
      rw [List.getElem?_eq_none (by omega : cnt.length ≤ i), List.getElem?_replicate]
      split <;> rfl
  · exact key _ (by omega) fun i => rfl
def cntOf (R : List Int) : List Int := R.foldl bump []
theorem foldl_bump_getD : ∀ (R : List Int) (cnt : List Int) (j : Nat), (∀ r ∈ R, 0 ≤ r) → (R.foldl bump cnt).getD j 0 = cnt.getD j 0 + (R.count (j : Int) : Nat)
  | [], cnt, j, _ => by simp
  | r :: R, cnt, j, h => by
    rw [List.foldl_cons, foldl_bump_getD R _ j fun x hx => h x (.tail _ hx), bump_getD (h r (.head _)), List.count_cons]
    by_cases e : (j : Int) = r
    · subst e; simp; omega
    · have : ¬ r = (j : Int) := fun q => e q.symm
      simp [e, this]
theorem foldl_bump_len : ∀ (R : List Int) (cnt : List Int), (∀ r ∈ R, 0 ≤ r) → cnt.length ≤ (R.foldl bump cnt).length ∧ (∀ r ∈ R, r < (R.foldl bump cnt).length) ∧ ((R.foldl bump cnt).length = cnt.length ∨ (((R.foldl bump cnt).length : Int) - 1) ∈ R)
  | [], cnt, _ => ⟨Nat.le_refl _, fun _ h => (nomatch h), .inl rfl⟩
  | r :: R, cnt, h => by
    have hr := h r (.head _)
    have hb := bump_length (cnt := cnt) hr
    obtain ⟨h1, h2, h3⟩ := foldl_bump_len R (bump cnt r) fun x hx => h x (.tail _ hx)
    rw [List.foldl_cons]
    refine ⟨by omega, fun x hx => ?_, ?_⟩
    · rcases List.mem_cons.mp hx with rfl | hx
      · omega
      · exact h2 x hx
    · rcases h3 with h3 | h3
      · rcases Int.le_total (cnt.length : Int) (r + 1) with q | q
        · right
          have : ((List.foldl bump (bump cnt r) R).length : Int) - 1 = r := by omega
          rw [this]; exact .head _
        · left; omega
      · right; exact .tail _ h3
end Mine

/-! # Q3 -/
namespace Mine
/-! ## law: what it reckons -/
def numsOfS (ns : List Int) : List Int := [2, 9, 5] ++ (ns.take 4).map fun x => x.fmod (10 ^ 6)
def runsOf (N : List Int) (side : Int) : List Int := (N.filter fun y => y.fmod 2 == side).map fun y => (y.fdiv 2).fmod 5
def txt (R : List Int) : List Nat := (R.map fun r => List.replicate r.toNat 32 ++ [9]).flatten
def leadT (R : List Int) (b : Int) : List Nat := txt R ++ List.replicate b.toNat 32 ++ [120, 9]
def D.cnt : D → List Int
  | .lead (.tup [.tup xs, _]) _ _ _ => xs.map D.i
  | _ => []
theorem D.cnt_lead (cnt : List Int) (b n nt : Int) (simple : Bool) : (leadD cnt b n nt simple).cnt = cnt := by
  simp only [leadD, D.cnt, List.map_map]
  induction cnt with
  | nil => rfl
  | cons x r ih => simp only [List.map_cons, ih]; rfl
section
variable {c : Wd} {A : Around} {env : Env} {g g' g₁ : PH} {pos p : Pos} {ρ ρ' : List (Str × D)} {ow : List (Addr × Obj)} {s s' : Shared} {rest : List Stmt}
theorem map_i (ns : List Int) : (ns.map D.int).map D.i = ns := by induction ns with | nil => rfl | cons n r ih => simp only [List.map_cons, ih]; rfl
theorem two_mem {d : D} (h : d ∈ [D.int 0, D.int 1]) : d = .int 0 ∨ d = .int 1 := by simpa using h
theorem Frm.to (f : Frm c env g ρ) (h : Subs ρ ρ') : Frm c env g ρ' := fun x d e => f x d (h.look x d e)
theorem side_pick {d : D} (h : d ∈ [D.int 0, D.int 1]) (R0 R1 : List Int) (P : List Int → Prop) (h0 : P R0) (h1 : P R1) :
    ∃ sd R, d = .int sd ∧ 0 ≤ sd ∧ sd ≤ 1 ∧ ([D.ints R0, D.ints R1] : List D)[sd.toNat]? = some (.ints R) ∧ P R ∧ (if d.i = 0 then R0 else R1) = R := by
  rcases two_mem h with rfl | rfl
  · exact ⟨0, R0, rfl, by decide, by decide, rfl, h0, rfl⟩
  · exact ⟨1, R1, rfl, by decide, by decide, rfl, h1, rfl⟩
theorem side_pick2 {d : D} (h : d ∈ [D.int 0, D.int 1]) (R0 R1 : List Int) (b0 b1 : Int) (P : List Int → Int → Prop) (h0 : P R0 b0) (h1 : P R1 b1) :
    ∃ sd R b, d = .int sd ∧ 0 ≤ sd ∧ sd ≤ 1 ∧ ([D.str (S (txt R0)), D.str (S (txt R1))] : List D)[sd.toNat]? = some (.str (S (txt R))) ∧ ([D.int b0, D.int b1] : List D)[sd.toNat]? = some (.int b) ∧ P R b ∧ (if d.i = 0 then wsOf (leadT R0 b0) else wsOf (leadT R1 b1)) = wsOf (leadT R b) := by
  rcases two_mem h with rfl | rfl
  · exact ⟨0, R0, b0, rfl, by decide, by decide, rfl, rfl, h0, rfl⟩
  · exact ⟨1, R1, b1, rfl, by decide, by decide, rfl, rfl, h1, rfl⟩
theorem S_x : Str.ofString "x\t" = S [120, 9] := by decide +kernel
theorem side_pick3 {d : D} (h : d ∈ [D.int 0, D.int 1]) (R0 R1 : List Int) (b0 b1 : Int) (P : List Int → Int → Prop) (h0 : P R0 b0) (h1 : P R1 b1) :
    ∃ sd R b, d = .int sd ∧ 0 ≤ sd ∧ sd ≤ 1 ∧ ([D.ints (rowOf [] R0), D.ints (rowOf [] R1)] : List D)[sd.toNat]? = some (.ints (rowOf [] R)) ∧ ([D.int b0, D.int b1] : List D)[sd.toNat]? = some (.int b) ∧ P R b ∧ (if d.i = 0 then max ((rowOf [] R0).getLastD 0) b0 else max ((rowOf [] R1).getLastD 0) b1) = max ((rowOf [] R).getLastD 0) b := by
  rcases two_mem h with rfl | rfl
  · exact ⟨0, R0, b0, rfl, by decide, by decide, rfl, rfl, h0, rfl⟩
  · exact ⟨1, R1, b1, rfl, by decide, by decide, rfl, rfl, h1, rfl⟩
theorem last_get {ns : List Int} (h : ns ≠ []) : (ns.map D.int)[(ns.map D.int).length - 1]? = some (.int (ns.getLastD 0)) := by
  rw [List.length_map, List.getElem?_map, ← List.getLast?_eq_getElem?, List.getLast?_eq_some_getLast h]
  simp [List.getLastD_eq_getLast?, List.getLast?_eq_some_getLast h]
theorem pow106 : F2 c A (binaryOp .Pow) (.int 10) (.int 6) (.int (10 ^ 6)) := pow_i 10 6 (by decide) (by decide)

end
/-! ## the plain law: texts and rows -/
theorem ini_spaces : ∀ (k : Nat) (rest : List Nat) (st : WS), ini (List.replicate k 32 ++ rest) st = ini rest { st with b := st.b + k, n := st.n + k }
  | 0, rest, st => by simp
  | k + 1, rest, ⟨cn, b, n, nt⟩ => by
    rw [List.replicate_succ, List.cons_append]
    conv => lhs; unfold ini
    rw [if_pos rfl, ini_spaces k]
    have e1 : b + 1 + (k : Int) = b + ((k + 1 : Nat) : Int) := by omega
    have e2 : n + 1 + (k : Int) = n + ((k + 1 : Nat) : Int) := by omega
    simp only [e1, e2]
theorem ini_txt : ∀ (R : List Int) (rest : List Nat) (cnt : List Int) (n nt : Int), (∀ r ∈ R, 0 ≤ r) → ini (txt R ++ rest) ⟨cnt, 0, n, nt⟩ = ini rest ⟨R.foldl bump cnt, 0, n + R.sum + R.length, nt + R.length⟩
  | [], rest, cnt, n, nt, _ => by simp [txt]
  | r :: R, rest, cnt, n, nt, h => by
    have hr := h r (.head _)
    have e : txt (r :: R) ++ rest = List.replicate r.toNat 32 ++ (9 :: (txt R ++ rest)) := by simp [txt]
    rw [e, ini_spaces]
    conv => lhs; unfold ini
    rw [if_neg (by decide), if_pos rfl, ini_txt R rest _ _ _ fun x hx => h x (.tail _ hx)]
    have e1 : (0 : Int) + (r.toNat : Int) = r := by omega
    simp only [e1, List.foldl_cons, List.sum_cons, List.length_cons]
    congr 1
    simp only [WS.mk.injEq, true_and]
    omega
theorem In5.nn {R : List Int} (h : In5 R) : ∀ r ∈ R, 0 ≤ r ∧ r ≤ 4 := fun r hr => by
  have := h r hr
  simp only [List.mem_cons, List.not_mem_nil, or_false] at this
  omega
abbrev leadW (R : List Int) (b : Int) : D := leadD (cntOf R) b (R.sum + R.length + b) R.length false
theorem cnt_len {R : List Int} (h : In5 R) : (cntOf R).length ≤ 5 ∧ (∀ r ∈ R, r < (cntOf R).length) ∧ (R ≠ [] → (((cntOf R).length : Int) - 1) ∈ R) := by
  obtain ⟨h1, h2, h3⟩ := foldl_bump_len R [] fun r hr => (h.nn r hr).1
  refine ⟨?_, h2, fun hne => ?_⟩
  · rcases h3 with h3 | h3
    · unfold cntOf; rw [h3]; decide
    · have := (h.nn _ h3).2; unfold cntOf; omega
  · rcases h3 with h3 | h3
    · obtain ⟨r, hr⟩ := List.exists_mem_of_ne_nil R hne
      have := h2 r hr
      have h5 := (h.nn r hr).1
      rw [h3] at this; simp at this; omega
    · exact h3
theorem lead_ws {R : List Int} {b : Int} (h : In5 R) (hb : 0 ≤ b ∧ b ≤ 3) (hm : (1 : Int) ∈ R ∨ (2 : Int) ∈ R ∨ (3 : Int) ∈ R ∨ (4 : Int) ∈ R) : wsOf (leadT R b) = leadW R b := by
  have e : ini (leadT R b) w0 = ⟨cntOf R, b, R.sum + R.length + b, R.length⟩ := by
    unfold leadT w0
    rw [List.append_assoc, ini_txt R _ _ _ _ fun r hr => (h.nn r hr).1, ini_spaces]
    conv => lhs; unfold ini
    rw [if_neg (by decide), if_neg (by decide)]
    simp only [WS.mk.injEq, cntOf, true_and]
    omega
  have hs : decide ((cntOf R).length ≤ 1) = false := by
    have h2 := (cnt_len h).2.1
    apply decide_eq_false
    rcases hm with hm | hm | hm | hm <;> (have := h2 _ hm; omega)
  unfold wsOf
  rw [e]
  simp only [hs]
theorem whole_ws {R0 R1 : List Int} {b1 : Int} (h0 : In5 R0) (h1 : In5 R1) (hb : 0 ≤ b1 ∧ b1 ≤ 3) (h4 : (4 : Int) ∈ R1) : wsOf (txt R0 ++ txt R1 ++ List.replicate b1.toNat 32) = leadW (R0 ++ R1) b1 := by
  have h := h0.append h1
  have et : txt R0 ++ txt R1 = txt (R0 ++ R1) := by simp [txt]
  have e : ini (txt R0 ++ txt R1 ++ List.replicate b1.toNat 32) w0 = ⟨cntOf (R0 ++ R1), b1, (R0 ++ R1).sum + (R0 ++ R1).length + b1, (R0 ++ R1).length⟩ := by
    unfold w0
    rw [et, ini_txt _ _ _ _ _ fun r hr => (h.nn r hr).1]
    have := ini_spaces b1.toNat [] ⟨(R0 ++ R1).foldl bump [], 0, 0 + (R0 ++ R1).sum + (R0 ++ R1).length, 0 + (R0 ++ R1).length⟩
    rw [List.append_nil] at this
    rw [this]
    unfold ini
    simp only [WS.mk.injEq, cntOf, true_and]
    omega
  have hs : decide ((cntOf (R0 ++ R1)).length ≤ 1) = false := by
    have h2 := (cnt_len h).2.1 4 (List.mem_append_right _ h4)
    apply decide_eq_false; omega
  unfold wsOf
  rw [e]
  simp only [hs]
theorem txt_len {R : List Int} (h : In5 R) (hl : R.length ≤ 14) : (txt R).length ≤ 100 := by
  have : ∀ R : List Int, In5 R → (txt R).length ≤ 5 * R.length := by
    intro R
    induction R with
    | nil => intro _; simp [txt]
    | cons r R ih =>
      intro h
      have := ih h.cons.2
      have h5 := h.nn r (.head _)
      have e : (txt (r :: R)).length = r.toNat + 1 + (txt R).length := by simp [txt]; omega
      rw [e, List.length_cons]; omega
  have := this R h
  omega

/-! rows -/
theorem insR_perm (x : Int) (ns : List Int) : (insR x ns).Perm (x :: ns) := by
  unfold insR
  refine List.perm_middle.trans ?_
  rw [List.take_append_drop]
theorem rowOf_perm : ∀ (R row : List Int), (rowOf row R).Perm (row ++ R)
  | [], row => by simp [rowOf]
  | r :: R, row => by
    have e : rowOf row (r :: R) = rowOf (insR r row) R := rfl
    rw [e]
    refine (rowOf_perm R _).trans ?_
    refine ((insR_perm r row).append_right R).trans ?_
    exact List.perm_middle.symm
theorem last_mem {ns : List Int} (h : ns ≠ []) : ns.getLastD 0 ∈ ns := by
  rw [List.getLastD_eq_getLast?, List.getLast?_eq_some_getLast h]
  exact List.getLast_mem h
theorem last_max : ∀ {ns : List Int}, ns.Pairwise (· ≤ ·) → ∀ x ∈ ns, x ≤ ns.getLastD 0
  | [], _, _, h => (nomatch h)
  | [a], _, x, h => by simp at h; subst h; simp
  | a :: b :: r, hp, x, h => by
    obtain ⟨h1, h2⟩ := List.pairwise_cons.mp hp
    have e : (a :: b :: r).getLastD 0 = (b :: r).getLastD 0 := by simp [List.getLastD_eq_getLast?]
    rw [e]
    rcases List.mem_cons.mp h with rfl | h
    · exact Int.le_trans (h1 b (.head _)) (last_max h2 b (.head _))
    · exact last_max h2 x h
structure RowF (R : List Int) : Prop where
  perm : (rowOf [] R).Perm R
  sorted : (rowOf [] R).Pairwise (· ≤ ·)
  ne : rowOf [] R ≠ []
  len : (rowOf [] R).length ≤ 14
  last : (rowOf [] R).getLastD 0 = ((cntOf R).length : Int) - 1
  lo : 0 ≤ (rowOf [] R).getLastD 0
  hi : (rowOf [] R).getLastD 0 ≤ 4
theorem row_facts {R : List Int} (h : In5 R) (hne : R ≠ []) (hl : R.length ≤ 14) : RowF R := by
  have hp := rowOf_perm R []
  rw [List.nil_append] at hp
  have hs := rowOf_sorted R (row := []) .nil
  have hn : rowOf [] R ≠ [] := fun e => hne (by have := hp.length_eq; rw [e] at this; exact List.eq_nil_of_length_eq_zero (by simpa using this.symm))
  have hm := hp.mem_iff.mp (last_mem hn)
  obtain ⟨c1, c2, c3⟩ := cnt_len h
  have h1 := last_max hs _ (hp.mem_iff.mpr (c3 hne))
  have h2 := c2 _ hm
  have h3 := h.nn _ hm
  exact ⟨hp, hs, hn, by rw [hp.length_eq]; exact hl, by omega, h3.1, h3.2⟩
theorem cnt_five {R : List Int} (h : In5 R) (h4 : (4 : Int) ∈ R) : (cntOf R).length = 5 := by
  have h1 := (cnt_len h).1
  have h2 := (cnt_len h).2.1 4 h4
  omega
theorem long_four {R0 R1 : List Int} {b0 b1 : Int} (q0 : RowF R0) (q1 : RowF R1) (h1 : In5 R1) (h4 : (4 : Int) ∈ R1) (hb0 : 0 ≤ b0 ∧ b0 ≤ 3) (hb1 : 0 ≤ b1 ∧ b1 ≤ 3) : max (max ((rowOf [] R0).getLastD 0) b0) (max ((rowOf [] R1).getLastD 0) b1) = 4 := by
  have e1 := q1.last
  rw [cnt_five h1 h4] at e1
  have := q0.hi
  omega

/-! levels, tables: names -/
def levs (R : List Int) (b : Int) : List Int := (rng 1 6 1).map fun sz => levelOf (rowOf [] R) b sz
theorem rng16 : rng 1 6 1 = [1, 2, 3, 4, 5] := by decide +kernel
theorem levs_ne (R : List Int) (b : Int) : levs R b ≠ [] := by unfold levs; rw [rng16]; simp
theorem side_pick4 {d : D} (h : d ∈ [D.int 0, D.int 1]) (R0 R1 : List Int) (b0 b1 : Int) (P : List Int → Int → Prop) (h0 : P R0 b0) (h1 : P R1 b1) :
    ∃ sd R b, d = .int sd ∧ 0 ≤ sd ∧ sd ≤ 1 ∧ ([D.ints (rowOf [] R0), D.ints (rowOf [] R1)] : List D)[sd.toNat]? = some (.ints (rowOf [] R)) ∧ ([D.int b0, D.int b1] : List D)[sd.toNat]? = some (.int b) ∧ P R b ∧ (if d.i = 0 then levs R0 b0 else levs R1 b1) = levs R b := by
  rcases two_mem h with rfl | rfl
  · exact ⟨0, R0, b0, rfl, by decide, by decide, rfl, rfl, h0, rfl⟩
  · exact ⟨1, R1, b1, rfl, by decide, by decide, rfl, rfl, h1, rfl⟩
theorem lead_pick {d : D} {R0 R1 : List Int} {b0 b1 : Int} (h : d ∈ [leadW R0 b0, leadW R1 b1, leadW (R0 ++ R1) b1]) (P : List Int → Prop) (h0 : P R0) (h1 : P R1) (h2 : P (R0 ++ R1)) : ∃ R b, d = leadW R b ∧ P R := by
  simp only [List.mem_cons, List.not_mem_nil, or_false] at h
  rcases h with rfl | rfl | rfl
  · exact ⟨_, _, rfl, h0⟩
  · exact ⟨_, _, rfl, h1⟩
  · exact ⟨_, _, rfl, h2⟩

def D.il : D → List Int
  | .list xs => xs.map D.i
  | _ => []
theorem D.il_ints (ns : List Int) : (D.ints ns).il = ns := map_i ns
def bisT (row : List Int) : List (Int × Int) := row.foldl (fun a x => putI a x ((row.countP (· ≤ x) : Nat) - (row.countP (· < x) : Nat))) []
theorem row_pick {d : D} {R0 R1 : List Int} (h : d ∈ [D.ints (rowOf [] R0), D.ints (rowOf [] R1), D.ints (rowOf [] (R0 ++ R1))]) (P : List Int → Prop) (h0 : P R0) (h1 : P R1) (h2 : P (R0 ++ R1)) : ∃ R, d = .ints (rowOf [] R) ∧ P R := by
  simp only [List.mem_cons, List.not_mem_nil, or_false] at h
  rcases h with rfl | rfl | rfl
  · exact ⟨_, rfl, h0⟩
  · exact ⟨_, rfl, h1⟩
  · exact ⟨_, rfl, h2⟩
def ils (R : List Int) (b : Int) : List Int := (rng 1 6 1).map fun sz => ilOf (cntOf R) b R.length sz

/-- what a side and the other one bear -/
structure TurnF (R R' : List Int) (b b' : Int) : Prop where
  h : In5 R
  h' : In5 R'
  q : RowF R
  q' : RowF R'
  hb : 0 ≤ b ∧ b ≤ 3
  hb' : 0 ≤ b' ∧ b' ≤ 3
  four : (((1 : Int) ∈ R ∨ (2 : Int) ∈ R ∨ (3 : Int) ∈ R ∨ (4 : Int) ∈ R) ∧ (4 : Int) ∈ R') ∨ (((1 : Int) ∈ R' ∨ (2 : Int) ∈ R' ∨ (3 : Int) ∈ R' ∨ (4 : Int) ∈ R') ∧ (4 : Int) ∈ R)
theorem side_pick6 {d : D} (h : d ∈ [D.int 0, D.int 1]) {R0 R1 : List Int} {b0 b1 : Int} (T0 : TurnF R0 R1 b0 b1) (T1 : TurnF R1 R0 b1 b0) :
    ∃ sd R R' b b', d = .int sd ∧ 0 ≤ sd ∧ sd ≤ 1 ∧ ([leadW R0 b0, leadW R1 b1] : List D)[sd.toNat]? = some (leadW R b) ∧ ([leadW R0 b0, leadW R1 b1] : List D)[(1 - sd).toNat]? = some (leadW R' b') ∧ ([D.str (S (txt R0)), D.str (S (txt R1))] : List D)[sd.toNat]? = some (.str (S (txt R))) ∧ ([D.int b0, D.int b1] : List D)[sd.toNat]? = some (.int b)
      ∧ ([D.ints (levs R0 b0), D.ints (levs R1 b1)] : List D)[sd.toNat]? = some (.ints (levs R b)) ∧ ([D.ints (levs R0 b0), D.ints (levs R1 b1)] : List D)[(1 - sd).toNat]? = some (.ints (levs R' b')) ∧ (([max ((rowOf [] R0).getLastD 0) b0, max ((rowOf [] R1).getLastD 0) b1] : List Int).map D.int)[sd.toNat]? = some (.int (max ((rowOf [] R).getLastD 0) b))
      ∧ ((R = R0 ∧ R' = R1 ∧ b = b0 ∧ b' = b1) ∨ (R = R1 ∧ R' = R0 ∧ b = b1 ∧ b' = b0)) ∧ TurnF R R' b b' := by
  rcases two_mem h with rfl | rfl
  · exact ⟨0, R0, R1, b0, b1, rfl, by decide, by decide, rfl, rfl, rfl, rfl, rfl, rfl, rfl, .inl ⟨rfl, rfl, rfl, rfl⟩, T0⟩
  · exact ⟨1, R1, R0, b1, b0, rfl, by decide, by decide, rfl, rfl, rfl, rfl, rfl, rfl, rfl, .inr ⟨rfl, rfl, rfl, rfl⟩, T1⟩
def walks (R : List Int) (b : Int) : List Int := (rng 1 6 1).map fun z => walkOf (txt R ++ List.replicate b.toNat 32) z
def pairsOf (R R' : List Int) (b b' : Int) : List (Int × Int × Int) := (rng 1 6 1).map fun z => (z, (levs R b).getD (z - 1).toNat 0, (levs R' b').getD (z - 1).toNat 0)
def D.rr : D → Int × Int × Int
  | .tup [.int a, .int b, .int d] => (a, b, d)
  | _ => (0, 0, 0)
theorem rr_filter (P : List (Int × Int × Int)) (p : Int × Int × Int → Bool) : ((P.map D.row).filter fun d => p d.rr).map (fun d => D.row d.rr) = (P.filter p).map .row := by
  induction P with
  | nil => rfl
  | cons r P ih =>
    rw [List.map_cons, List.filter_cons, List.filter_cons]
    have e : (D.row r).rr = r := rfl
    rw [e]
    split
    · rw [List.map_cons, List.map_cons, ih, e]
    · exact ih
theorem levs_get (R : List Int) (b : Int) {z : Int} (h1 : 1 ≤ z) (h2 : z < 6) : ((levs R b).map D.int)[(z - 1).toNat]? = some (.int ((levs R b).getD (z - 1).toNat 0)) := by
  have hl : (levs R b).length = 5 := by unfold levs; rw [rng16]; rfl
  rw [List.getElem?_map, List.getD_eq_getElem?_getD, List.getElem?_eq_getElem (by omega)]; rfl
theorem turn_ts (R R' : List Int) (b b' : Int) : ∀ p : Int × Int × Int → Bool, (∀ r ∈ (pairsOf R R' b b').filter p, Ts r.1) ∧ ((pairsOf R R' b b').filter p).length ≤ 100 := fun p => by
  constructor
  · intro r hr
    have := (List.mem_filter.mp hr).1
    unfold pairsOf at this
    rw [rng16] at this
    obtain ⟨z, hz, rfl⟩ := List.mem_map.mp this
    exact hz
  · refine Nat.le_trans (List.length_filter_le _ _) ?_
    unfold pairsOf; rw [rng16]; simp
end Mine

/-! # P1 -/
namespace Mine
/-! ## the plain law: tables -/
abbrev keys (t : List (Int × Int)) : List Int := t.map (·.1)
theorem getI_nil (j : Int) : getI [] j = none := rfl
theorem getI_cons (k n : Int) (t : List (Int × Int)) (j : Int) : getI ((k, n) :: t) j = if k = j then some n else getI t j := by
  unfold getI
  rw [List.find?_cons]
  by_cases h : k = j
  · simp [h]
  · simp [h]
theorem getI_append (t u : List (Int × Int)) (j : Int) : getI (t ++ u) j = match getI t j with | some n => some n | none => getI u j := by
  induction t with
  | nil => rfl
  | cons kv t ih =>
    obtain ⟨k, n⟩ := kv
    rw [List.cons_append, getI_cons, getI_cons, ih]
    by_cases h : k = j
    · simp [h]
    · simp [h]
theorem getI_none {t : List (Int × Int)} {j : Int} : getI t j = none ↔ j ∉ keys t := by
  induction t with
  | nil => simp [getI_nil]
  | cons kv t ih =>
    obtain ⟨k, n⟩ := kv
    rw [getI_cons]
    by_cases h : k = j
    · simp [h]
    · have h' : ¬ j = k := fun e => h e.symm
      simp only [h, if_false, keys, List.map_cons, List.mem_cons, h', false_or]
      exact ih
theorem any_keys (t : List (Int × Int)) (k : Int) : t.any (fun kv => kv.1 = k) = decide (k ∈ keys t) := by
  induction t with
  | nil => rfl
  | cons kv t ih =>
    rw [List.any_cons, ih]
    by_cases h : kv.1 = k
    · simp [h]
    · have h' : ¬ k = kv.1 := fun e => h e.symm
      simp [h, h']
theorem keys_map (t : List (Int × Int)) (k n : Int) : keys (t.map fun kv => if kv.1 = k then (kv.1, n) else kv) = keys t := by
  induction t with
  | nil => rfl
  | cons kv t ih =>
    simp only [keys, List.map_cons] at ih ⊢
    rw [ih]
    split <;> rfl
theorem getI_map (t : List (Int × Int)) (k n j : Int) (hk : k ∈ keys t) : getI (t.map fun kv => if kv.1 = k then (kv.1, n) else kv) j = if j = k then some n else getI t j := by
  have gen : ∀ t : List (Int × Int), getI (t.map fun kv => if kv.1 = k then (kv.1, n) else kv) j = if j = k then (if k ∈ keys t then some n else none) else getI t j := by
    intro t
    induction t with
    | nil => simp [getI_nil]
    | cons kv t ih =>
      obtain ⟨k', n'⟩ := kv
      rw [List.map_cons]
      by_cases h : k' = k
      · subst h
        rw [if_pos rfl, getI_cons, getI_cons, ih]
        by_cases hj : k' = j
        · subst hj; simp
        · have hj' : ¬ j = k' := fun e => hj e.symm
          simp [hj, hj']
      · rw [if_neg h, getI_cons, getI_cons, ih]
        by_cases hj : k' = j
        · subst hj; simp [h]
        · rw [if_neg hj, if_neg hj]
          by_cases hm : k ∈ keys t
          · have hm2 : k ∈ keys ((k', n') :: t) := .tail _ hm
            rw [if_pos hm, if_pos hm2]
          · have hm2 : k ∉ keys ((k', n') :: t) := fun x => by
              rcases List.mem_cons.mp x with x | x
              · exact h x.symm
              · exact hm x
            rw [if_neg hm, if_neg hm2]
  rw [gen, if_pos hk]
theorem getI_put (t : List (Int × Int)) (k n j : Int) : getI (putI t k n) j = if j = k then some n else getI t j := by
  unfold putI
  rw [any_keys]
  by_cases hk : k ∈ keys t
  · rw [if_pos (decide_eq_true hk)]; exact getI_map t k n j hk
  · rw [if_neg (by simpa using hk), getI_append, getI_cons, getI_nil]
    by_cases hj : j = k
    · subst hj
      rw [getI_none.mpr hk]
    · have hj' : ¬ k = j := fun e => hj e.symm
      rw [if_neg hj, if_neg hj']
      cases getI t j <;> rfl
theorem keys_put (t : List (Int × Int)) (k n : Int) : keys (putI t k n) = if k ∈ keys t then keys t else keys t ++ [k] := by
  unfold putI
  rw [any_keys]
  by_cases hk : k ∈ keys t
  · rw [if_pos (decide_eq_true hk), if_pos hk]; exact keys_map t k n
  · rw [if_neg (by simpa using hk), if_neg hk]; simp [keys]
theorem nodup_put {t : List (Int × Int)} (h : (keys t).Nodup) (k n : Int) : (keys (putI t k n)).Nodup := by
  rw [keys_put]
  split
  · exact h
  · rename_i hk
    rw [List.nodup_append]
    exact ⟨h, by simp, fun a ha b hb e => by rw [List.mem_singleton.mp hb] at e; exact hk (e ▸ ha)⟩
theorem getI_mem {t : List (Int × Int)} (h : (keys t).Nodup) {kv : Int × Int} (hm : kv ∈ t) : getI t kv.1 = some kv.2 := by
  induction t with
  | nil => cases hm
  | cons x t ih =>
    obtain ⟨k, n⟩ := x
    simp only [keys, List.map_cons, List.nodup_cons] at h
    rw [getI_cons]
    rcases List.mem_cons.mp hm with rfl | hm
    · simp
    · have : ¬ k = kv.1 := fun e => h.1 (by rw [e]; exact List.mem_map.mpr ⟨kv, hm, rfl⟩)
      rw [if_neg this]; exact ih h.2 hm
theorem eqI_of {t u : List (Int × Int)} (ht : (keys t).Nodup) (hu : (keys u).Nodup) (h : ∀ j, getI t j = getI u j) : eqI t u = true := by
  unfold eqI
  rw [Bool.and_eq_true]
  constructor
  · have hp : (keys t).Perm (keys u) := (List.perm_ext_iff_of_nodup ht hu).mpr fun a => by
      have h1 := @getI_none t a
      have h2 := @getI_none u a
      rw [h a] at h1
      have : (a ∉ keys t) ↔ (a ∉ keys u) := h1.symm.trans h2
      exact ⟨fun x => Classical.byContradiction fun y => (this.mpr y) x, fun x => Classical.byContradiction fun y => (this.mp y) x⟩
    have := hp.length_eq
    simp [keys] at this
    simpa using this
  · rw [List.all_eq_true]
    intro kv hkv
    rw [← h, getI_mem ht hkv]; simp
/-- a table filled key by key -/
def tab (l : List Int) (f : Int → Int) (a : List (Int × Int)) : List (Int × Int) := l.foldl (fun a x => putI a x (f x)) a
theorem tab_get (f : Int → Int) : ∀ (l : List Int) (a : List (Int × Int)) (j : Int), getI (tab l f a) j = if j ∈ l then some (f j) else getI a j
  | [], a, j => by simp [tab]
  | x :: l, a, j => by
    have e : tab (x :: l) f a = tab l f (putI a x (f x)) := rfl
    rw [e, tab_get f l, getI_put]
    by_cases h : j ∈ l
    · simp [h]
    · by_cases hx : j = x
      · subst hx; simp [h]
      · simp [h, hx]
theorem tab_nodup (f : Int → Int) : ∀ (l : List Int) (a : List (Int × Int)), (keys a).Nodup → (keys (tab l f a)).Nodup
  | [], a, h => h
  | x :: l, a, h => tab_nodup f l _ (nodup_put h _ _)
theorem tab_fresh (f : Int → Int) : ∀ (l : List Int) (a : List (Int × Int)), l.Nodup → (∀ x ∈ l, x ∉ keys a) → tab l f a = a ++ l.map fun x => (x, f x)
  | [], a, _, _ => by simp [tab]
  | x :: l, a, h, hf => by
    have e : tab (x :: l) f a = tab l f (putI a x (f x)) := rfl
    obtain ⟨h1, h2⟩ := List.nodup_cons.mp h
    have hx := hf x (.head _)
    have ep : putI a x (f x) = a ++ [(x, f x)] := by unfold putI; rw [any_keys, if_neg (by simpa using hx)]
    rw [e, ep, tab_fresh f l _ h2 fun y hy hm => ?_]
    · simp
    · simp only [keys, List.map_append, List.map_cons, List.map_nil, List.mem_append, List.mem_singleton] at hm
      rcases hm with hm | rfl
      · exact hf y (.tail _ hy) hm
      · exact h1 hy
theorem tab_ne (f : Int → Int) {l : List Int} (h : l ≠ []) : tab l f [] ≠ [] := fun e => by
  obtain ⟨x, hx⟩ := List.exists_mem_of_ne_nil l h
  have := tab_get f l [] x
  rw [e, if_pos hx, getI_nil] at this
  cases this

/-! the merged table -/
theorem copy_get : ∀ (t a : List (Int × Int)) (j : Int), (keys t).Nodup → getI (t.foldl (fun a kv => putI a kv.1 kv.2) a) j = match getI t j with | some n => some n | none => getI a j
  | [], a, j, _ => rfl
  | (k, n) :: t, a, j, h => by
    simp only [keys, List.map_cons, List.nodup_cons] at h
    rw [List.foldl_cons, copy_get t _ j h.2, getI_cons, getI_put]
    by_cases hk : k = j
    · subst hk
      rw [getI_none.mpr h.1]; simp
    · have hk' : ¬ j = k := fun e => hk e.symm
      rw [if_neg hk, if_neg hk']
theorem copy_nodup : ∀ (t a : List (Int × Int)), (keys a).Nodup → (keys (t.foldl (fun a kv => putI a kv.1 kv.2) a)).Nodup
  | [], a, h => h
  | _ :: t, a, h => copy_nodup t _ (nodup_put h _ _)
theorem add_get (a : List (Int × Int)) (k n j : Int) : getI (addI a (k, n)) j = if j = k then some ((match getI a k with | some m => m | none => 0) + n) else getI a j := by
  unfold addI
  cases hg : getI a k with
  | some m => simp only [getI_put]
  | none => simp only [getI_put]; simp
theorem add_nodup {a : List (Int × Int)} (h : (keys a).Nodup) (kv : Int × Int) : (keys (addI a kv)).Nodup := by
  unfold addI; split <;> exact nodup_put h _ _
theorem adds_get : ∀ (u a : List (Int × Int)) (j : Int), (keys u).Nodup → getI (u.foldl addI a) j = match getI u j with | none => getI a j | some n => some ((match getI a j with | some m => m | none => 0) + n)
  | [], a, j, _ => rfl
  | (k, n) :: u, a, j, h => by
    simp only [keys, List.map_cons, List.nodup_cons] at h
    rw [List.foldl_cons, adds_get u _ j h.2, getI_cons, add_get]
    by_cases hk : k = j
    · subst hk
      rw [getI_none.mpr h.1]; simp
    · have hk' : ¬ j = k := fun e => hk e.symm
      rw [if_neg hk, if_neg hk']
theorem adds_nodup : ∀ (u a : List (Int × Int)), (keys a).Nodup → (keys (u.foldl addI a)).Nodup
  | [], a, h => h
  | kv :: u, a, h => adds_nodup u _ (add_nodup h kv)
theorem merge_get {t u : List (Int × Int)} (ht : (keys t).Nodup) (hu : (keys u).Nodup) (j : Int) : getI (mergeI t u) j = match getI u j with | none => getI t j | some n => some ((match getI t j with | some m => m | none => 0) + n) := by
  have e : getI (copyI t) j = getI t j := by
    unfold copyI
    rw [copy_get t [] j ht, getI_nil]
    cases getI t j <;> rfl
  unfold mergeI
  rw [adds_get u _ j hu, e]
theorem merge_nodup (t u : List (Int × Int)) : (keys (mergeI t u)).Nodup := adds_nodup u _ (copy_nodup t [] (by simp [keys]))

/-! the law's tables -/
theorem rng_mem {L : Nat} {j : Int} : j ∈ rng 0 L 1 ↔ 0 ≤ j ∧ j < L := by
  constructor
  · intro h; exact mem_rng (by decide) h
  · rintro ⟨h1, h2⟩
    unfold rng
    rw [rangeSize_up (by decide)]
    refine List.mem_map.mpr ⟨j.toNat, List.mem_range.mpr ?_, by omega⟩
    rw [if_pos (by omega)]
    omega
theorem rng_nodup (L : Nat) : (rng 0 L 1).Nodup := by
  unfold rng
  rw [List.nodup_iff_pairwise_ne, List.pairwise_map]
  refine List.Pairwise.imp ?_ (List.pairwise_lt_range)
  intro a b h e
  omega
theorem cnt_get {R : List Int} (h : In5 R) (i : Nat) : (cntOf R).getD i 0 = (R.count (i : Int) : Nat) := by
  unfold cntOf
  rw [foldl_bump_getD R [] i fun r hr => (h.nn r hr).1]
  simp
theorem table_tab (R : List Int) : tableOf (cntOf R) = tab ((rng 0 (cntOf R).length 1).filter fun i => (cntOf R).getD i.toNat 0 != 0) (fun i => (cntOf R).getD i.toNat 0) [] := rfl
theorem table_get {R : List Int} (h : In5 R) (j : Int) : getI (tableOf (cntOf R)) j = if R.count j = 0 then none else some ((R.count j : Nat) : Int) := by
  rw [table_tab, tab_get, getI_nil]
  have hj : 0 ≤ j → (cntOf R).getD j.toNat 0 = (R.count j : Nat) := fun h0 => by
    rw [cnt_get h]
    have : ((j.toNat : Nat) : Int) = j := by omega
    rw [this]
  by_cases hc : R.count j = 0
  · rw [if_pos hc, if_neg]
    intro hm
    obtain ⟨h1, h2⟩ := List.mem_filter.mp hm
    obtain ⟨h3, h4⟩ := rng_mem.mp h1
    rw [hj h3, hc] at h2
    simp at h2
  · have hm : j ∈ R := List.count_pos_iff.mp (Nat.pos_of_ne_zero hc)
    have h0 := (h.nn j hm).1
    rw [if_neg hc, if_pos, hj h0]
    refine List.mem_filter.mpr ⟨rng_mem.mpr ⟨h0, (cnt_len h).2.1 j hm⟩, ?_⟩
    rw [hj h0]
    simpa using hc
theorem table_nodup (R : List Int) : (keys (tableOf (cntOf R))).Nodup := by
  rw [table_tab]; exact tab_nodup _ _ _ (by simp [keys])
theorem table_ne' {R : List Int} (h : In5 R) (hne : R ≠ []) : tableOf (cntOf R) ≠ [] := fun e => by
  obtain ⟨x, hx⟩ := List.exists_mem_of_ne_nil R hne
  have := table_get h x
  rw [e, getI_nil, if_neg (Nat.pos_iff_ne_zero.mp (List.count_pos_iff.mpr hx))] at this
  cases this
theorem table_len' {R : List Int} (h : In5 R) : (tableOf (cntOf R)).length < 1000 := by
  rw [table_tab, tab_fresh _ _ _ ((rng_nodup _).filter _) (by simp [keys])]
  rw [List.nil_append, List.length_map]
  refine Nat.lt_of_le_of_lt (List.length_filter_le _ _) ?_
  have := rng_len (a := 0) (b := ((cntOf R).length : Int)) (z := 1) (by decide) (by omega)
  have := (cnt_len h).1
  omega
theorem sum_nz (f : Int → Int) : ∀ l : List Int, (((l.filter fun i => f i != 0).map fun x => (x, f x)).map (·.2)).sum = (l.map f).sum
  | [] => rfl
  | x :: l => by
    rw [List.filter_cons]
    by_cases h : f x = 0
    · rw [if_neg (by simp [h]), sum_nz f l]; simp [h]
    · rw [if_pos (by simpa using h)]
      simp only [List.map_cons, List.sum_cons]
      rw [sum_nz f l]
theorem table_sum {R : List Int} (h : In5 R) : ((tableOf (cntOf R)).map (·.2)).sum = (R.length : Int) := by
  rw [table_tab, tab_fresh _ _ _ ((rng_nodup _).filter _) (by simp [keys]), List.nil_append, sum_nz]
  have C := Cn.of h
  obtain ⟨c1, c2, _⟩ := cnt_len h
  have z : ∀ i : Nat, (cntOf R).length ≤ i → R.count (i : Int) = 0 := fun i hi => by
    rw [List.count_eq_zero]
    intro hm
    have := c2 _ hm
    omega
  have z0 : (cntOf R).length ≤ 0 → R.count (0 : Int) = 0 := z 0
  have z1 : (cntOf R).length ≤ 1 → R.count (1 : Int) = 0 := z 1
  have z2 : (cntOf R).length ≤ 2 → R.count (2 : Int) = 0 := z 2
  have z3 : (cntOf R).length ≤ 3 → R.count (3 : Int) = 0 := z 3
  have z4 : (cntOf R).length ≤ 4 → R.count (4 : Int) = 0 := z 4
  have g := cnt_get h
  have hlen := C.len
  generalize hL : (cntOf R).length = L at *
  have r : rng 0 (L : Int) 1 = (List.range L).map fun i => ((i : Nat) : Int) := by
    unfold rng
    rw [rangeSize_up (by decide)]
    have : (if (0 : Int) < L then ((L : Int) - 0 - 1) / 1 + 1 else 0).toNat = L := by split <;> omega
    rw [this]
    apply List.map_congr_left
    intro i _; omega
  rw [r, List.map_map]
  have g' : ((fun i => (cntOf R).getD i.toNat 0) ∘ fun i : Nat => (i : Int)) = fun i : Nat => ((R.count (i : Int) : Nat) : Int) := by
    funext i; exact g i
  rw [g']
  clear C g g' z c2 r
  match L, c1 with
  | 0, _ => simp; have := z0 (by omega); have := z1 (by omega); have := z2 (by omega); have := z3 (by omega); have := z4 (by omega); omega
  | 1, _ => simp [List.range_succ]; have := z1 (by omega); have := z2 (by omega); have := z3 (by omega); have := z4 (by omega); omega
  | 2, _ => simp [List.range_succ]; have := z2 (by omega); have := z3 (by omega); have := z4 (by omega); omega
  | 3, _ => simp [List.range_succ]; have := z3 (by omega); have := z4 (by omega); omega
  | 4, _ => simp [List.range_succ]; have := z4 (by omega); omega
  | 5, _ => simp [List.range_succ]; omega
theorem test_one' {R0 R1 : List Int} (h0 : In5 R0) (h1 : In5 R1) : (!eqI (mergeI (tableOf (cntOf R0)) (tableOf (cntOf R1))) (tableOf (cntOf (R0 ++ R1))) || ((((tableOf (cntOf (R0 ++ R1))).map (·.2)).sum != ((R0 ++ R1).length : Int)) || ((((R0 ++ R1).length : Int) != (((rowOf [] (R0 ++ R1)).map D.int).length : Int)) || false))) = false := by
  have e1 : eqI (mergeI (tableOf (cntOf R0)) (tableOf (cntOf R1))) (tableOf (cntOf (R0 ++ R1))) = true := by
    refine eqI_of (merge_nodup _ _) (table_nodup _) fun j => ?_
    rw [merge_get (table_nodup _) (table_nodup _), table_get h0, table_get h1, table_get (h0.append h1), List.count_append]
    by_cases a : R0.count j = 0 <;> by_cases b : R1.count j = 0 <;> simp [a, b]
  have e2 := table_sum (h0.append h1)
  have e3 := (rowOf_perm (R0 ++ R1) []).length_eq
  rw [e1, e2, List.length_map, e3]
  simp
theorem bisT_ne' {row : List Int} (h : row ≠ []) : bisT row ≠ [] := tab_ne (fun x => ((row.countP (· ≤ x) : Nat) - (row.countP (· < x) : Nat))) h
theorem count_diff (x : Int) : ∀ row : List Int, ((row.countP (· ≤ x) : Nat) : Int) - (row.countP (· < x) : Nat) = (row.count x : Nat)
  | [] => rfl
  | y :: row => by
    have ih := count_diff x row
    rw [List.countP_cons, List.countP_cons, List.count_cons]
    by_cases h1 : y < x
    · have : ¬ y = x := by omega
      simp [h1, this, show y ≤ x by omega]; omega
    · by_cases h2 : y = x
      · subst h2; simp; omega
      · simp [h1, h2, show ¬ y ≤ x by omega]; omega
theorem bis_get {R : List Int} (h : In5 R) (j : Int) : getI (bisT (rowOf [] R)) j = if R.count j = 0 then none else some ((R.count j : Nat) : Int) := by
  have hp := rowOf_perm R []
  rw [List.nil_append] at hp
  have e : bisT (rowOf [] R) = tab (rowOf [] R) (fun x => (((rowOf [] R).countP (· ≤ x) : Nat) - ((rowOf [] R).countP (· < x) : Nat))) [] := rfl
  rw [e, tab_get, getI_nil, count_diff, hp.count_eq]
  by_cases hc : R.count j = 0
  · rw [if_pos hc, if_neg]
    intro hm
    exact List.count_eq_zero.mp hc (hp.mem_iff.mp hm)
  · rw [if_neg hc, if_pos]
    exact hp.mem_iff.mpr (List.count_pos_iff.mp (Nat.pos_of_ne_zero hc))
theorem bis_eq {R : List Int} (h : In5 R) : eqI (tableOf (cntOf R)) (bisT (rowOf [] R)) = true :=
  eqI_of (table_nodup R) (tab_nodup _ _ _ (by simp [keys])) fun j => by rw [table_get h, bis_get h]
theorem test_two' {R0 R1 : List Int} (h0 : In5 R0) (h1 : In5 R1) : ∀ (i : Nat) t u, [tableOf (cntOf R0), tableOf (cntOf R1), tableOf (cntOf (R0 ++ R1))][i]? = some t → [bisT (rowOf [] R0), bisT (rowOf [] R1), bisT (rowOf [] (R0 ++ R1))][i]? = some u → eqI t u = true := by
  intro i t u ht hu
  match i, ht, hu with
  | 0, ht, hu => simp at ht hu; subst ht hu; exact bis_eq h0
  | 1, ht, hu => simp at ht hu; subst ht hu; exact bis_eq h1
  | 2, ht, hu => simp at ht hu; subst ht hu; exact bis_eq (h0.append h1)
  | i + 3, ht, hu => simp at ht
end Mine

/-! # P2 -/
namespace Mine
/-! ## the plain law: levels -/
/-- what a level is, by the counts -/
def lin (k0 k1 k2 k3 k4 : Nat) (b z : Int) : Int := b + z * (k0 * (0 / z + 1) + k1 * (1 / z + 1) + k2 * (2 / z + 1) + k3 * (3 / z + 1) + k4 * (4 / z + 1))
theorem size_cases {z : Int} (h : z ∈ ([1, 2, 3, 4, 5] : List Int)) : z = 1 ∨ z = 2 ∨ z = 3 ∨ z = 4 ∨ z = 5 := by simpa using h
theorem zero_beyond {R : List Int} (h : In5 R) {i : Nat} (hi : (cntOf R).length ≤ i) : R.count (i : Int) = 0 := by
  rw [List.count_eq_zero]
  intro hm
  have := (cnt_len h).2.1 _ hm
  omega
theorem sum_part {f g : Int → Int} {p : Int → Bool} : ∀ l : List Int, (∀ i ∈ l, p i = true → f i = g i) → (∀ i ∈ l, p i = false → g i = 0) → ((l.filter p).map f).sum = (l.map g).sum
  | [], _, _ => rfl
  | i :: l, h1, h2 => by
    have ih := sum_part l (fun j hj => h1 j (.tail _ hj)) (fun j hj => h2 j (.tail _ hj))
    rw [List.filter_cons, List.map_cons, List.sum_cons, ← ih]
    cases hp : p i with
    | true => rw [if_pos rfl, List.map_cons, List.sum_cons, h1 i (.head _) hp]
    | false => rw [if_neg (by decide), h2 i (.head _) hp, Int.zero_add]
theorem rng_il : ∀ z ∈ ([1, 2, 3, 4, 5] : List Int), ∀ L ∈ ([0, 1, 2, 3, 4, 5] : List Nat), rng z (L : Int) 1 = ([0, 1, 2, 3, 4] : List Int).filter fun i => decide (z ≤ i) && decide (i < (L : Int)) := by decide +kernel
theorem div_small : ∀ z ∈ ([1, 2, 3, 4, 5] : List Int), ∀ i ∈ ([0, 1, 2, 3, 4] : List Int), i.fdiv z = i / z ∧ (i < z → i / z = 0) := by decide +kernel
theorem five_mem {L : Nat} (h : L ≤ 5) : L ∈ ([0, 1, 2, 3, 4, 5] : List Nat) := by
  simp only [List.mem_cons, List.not_mem_nil, or_false]; omega
theorem rng_lev : ∀ z ∈ ([1, 2, 3, 4, 5] : List Int), ∀ L ∈ ([0, 1, 2, 3, 4, 5] : List Nat), rng 0 (L : Int) z = ([0, 1, 2, 3, 4] : List Int).filter fun i => decide (i % z = 0) && decide (i < (L : Int)) := by decide +kernel
theorem level_lin {R : List Int} (h : In5 R) (q : RowF R) (hne : R ≠ []) {b z : Int} (hz : z ∈ ([1, 2, 3, 4, 5] : List Int)) : levelOf (rowOf [] R) b z = lin (R.count 0) (R.count 1) (R.count 2) (R.count 3) (R.count 4) b z := by
  have C := perm_cn q.perm.symm (Cn.of h)
  have hm : ∀ r ∈ rowOf [] R, r < (cntOf R).length := fun r hr => (cnt_len h).2.1 r (q.perm.mem_iff.mp hr)
  have hL : (rowOf [] R).getLastD 0 + 1 = ((cntOf R).length : Int) := by have := q.last; have := q.lo; omega
  unfold levelOf lin
  rw [hL, rng_lev z hz _ (five_mem (cnt_len h).1), sum_part (g := fun i => if i % z = 0 then ((rowOf [] R).length : Int) - ((rowOf [] R).countP (· < i) : Nat) else 0)]
  · obtain ⟨len, _, _, _, _, _, l0, l1, l2, l3, l4, l5, _⟩ := C
    simp only [List.map_cons, List.map_nil, List.sum_cons, List.sum_nil, len, l0, l1, l2, l3, l4]
    generalize R.count (0 : Int) = k0
    generalize R.count (1 : Int) = k1
    generalize R.count (2 : Int) = k2
    generalize R.count (3 : Int) = k3
    generalize R.count (4 : Int) = k4
    clear len l0 l1 l2 l3 l4 l5 hL hm h q hne
    rcases size_cases hz with rfl | rfl | rfl | rfl | rfl <;> simp <;> omega
  · intro i hi hp
    simp only [Bool.and_eq_true, decide_eq_true_eq] at hp
    show _ = if i % z = 0 then _ else _
    rw [if_pos hp.1]
  · intro i hi hp
    show (if i % z = 0 then _ else (0 : Int)) = 0
    split
    · next e =>
      rw [Bool.and_eq_false_iff] at hp
      rcases hp with hp | hp
      · exact absurd e (of_decide_eq_false hp)
      · have hle := of_decide_eq_false hp
        have : (rowOf [] R).countP (· < i) = (rowOf [] R).length := List.countP_eq_length.mpr fun r hr => decide_eq_true (by have := hm r hr; omega)
        rw [this]; omega
    · rfl
theorem il_lin {R : List Int} (h : In5 R) {b z : Int} (hz : z ∈ ([1, 2, 3, 4, 5] : List Int)) : ilOf (cntOf R) b R.length z = lin (R.count 0) (R.count 1) (R.count 2) (R.count 3) (R.count 4) b z := by
  have len := (Cn.of h).len
  unfold ilOf lin
  rw [rng_il z hz _ (five_mem (cnt_len h).1), sum_part (g := fun i => i / z * (R.count i : Nat)), len]
  · show b + z * (0 / z * _ + (1 / z * _ + (2 / z * _ + (3 / z * _ + (4 / z * _ + 0)))) + _) = _
    generalize R.count (0 : Int) = k0
    generalize R.count (1 : Int) = k1
    generalize R.count (2 : Int) = k2
    generalize R.count (3 : Int) = k3
    generalize R.count (4 : Int) = k4
    clear len h hz
    generalize (0 : Int) / z = d0
    generalize (1 : Int) / z = d1
    generalize (2 : Int) / z = d2
    generalize (3 : Int) / z = d3
    generalize (4 : Int) / z = d4
    congr 2
    simp only [Int.mul_add, Int.mul_one, Int.mul_comm d0, Int.mul_comm d1, Int.mul_comm d2, Int.mul_comm d3, Int.mul_comm d4]
    omega
  · intro i hi hp
    simp only [Bool.and_eq_true, decide_eq_true_eq] at hp
    have h0 : 0 ≤ i := by
      have : ∀ i ∈ ([0, 1, 2, 3, 4] : List Int), 0 ≤ i := by decide
      exact this i hi
    have hc := cnt_get h i.toNat
    have hi' : ((i.toNat : Nat) : Int) = i := by omega
    rw [hi'] at hc
    show i.fdiv z * (cntOf R).getD i.toNat 0 = i / z * _
    rw [(div_small z hz i hi).1, hc]
  · intro i hi hp
    show i / z * _ = 0
    by_cases hlt : i < z
    · rw [(div_small z hz i hi).2 hlt, Int.zero_mul]
    · have hL : ((cntOf R).length : Int) ≤ i := by
        rw [Bool.and_eq_false_iff] at hp
        rcases hp with hp | hp
        · have := of_decide_eq_false hp; omega
        · have := of_decide_eq_false hp; omega
      have hi' : ((i.toNat : Nat) : Int) = i := by omega
      have hc := zero_beyond h (i := i.toNat) (by omega)
      rw [hi'] at hc
      rw [hc]; simp

theorem ils_levs' {R : List Int} {b : Int} (h : In5 R) (q : RowF R) : ils R b = levs R b := by
  have hne : R ≠ [] := fun e => q.ne (by rw [e]; rfl)
  unfold ils levs
  rw [rng16]
  refine List.map_congr_left fun z hz => ?_
  rw [il_lin h hz, level_lin h q hne hz]
theorem turn_one' {R R' : List Int} {b b' : Int} (T : TurnF R R' b b') : (!decide (ils R b = levs R b) || ((max (((cntOf R).length : Int) - 1) b != max ((rowOf [] R).getLastD 0) b) || false)) = false := by
  rw [ils_levs' T.h T.q, T.q.last]; simp

/-! the walk over the signs -/
theorem walk_spaces {z : Int} : ∀ (k : Nat) (col : Int), (List.replicate k 32).foldl (stepOf z) col = col + k
  | 0, col => by simp
  | k + 1, col => by
    rw [List.replicate_succ, List.foldl_cons, walk_spaces k]
    unfold stepOf
    rw [if_neg (by decide)]
    omega
def wsum (z : Int) : List Int → Int
  | [] => 0
  | r :: R => (r / z + 1) + wsum z R
theorem walk_txt {z : Int} (hz : 0 < z) : ∀ (R : List Int) (m : Int), (∀ r ∈ R, 0 ≤ r) → (txt R).foldl (stepOf z) (z * m) = z * (m + wsum z R)
  | [], m, _ => by simp [txt, wsum]
  | r :: R, m, h => by
    have e : txt (r :: R) = List.replicate r.toNat 32 ++ (9 :: txt R) := by simp [txt]
    have hr := h r (.head _)
    rw [e, List.foldl_append, walk_spaces, List.foldl_cons]
    have e1 : stepOf z (z * m + (r.toNat : Nat)) 9 = z * (m + (r / z + 1)) := by
      unfold stepOf
      rw [if_pos rfl, Int.fdiv_eq_ediv_of_nonneg _ (Int.le_of_lt hz)]
      have : ((r.toNat : Nat) : Int) = r := by omega
      rw [this, Int.mul_comm z m, Int.add_comm (m * z) r, Int.add_mul_ediv_right _ _ (Int.ne_of_gt hz), Int.mul_comm]
      congr 1; omega
    rw [e1, walk_txt hz R _ fun x hx => h x (.tail _ hx), wsum]
    congr 1; omega
theorem wsum_lin {z : Int} (hz : z ∈ ([1, 2, 3, 4, 5] : List Int)) : ∀ {R : List Int}, In5 R → wsum z R = R.count 0 * (0 / z + 1) + R.count 1 * (1 / z + 1) + R.count 2 * (2 / z + 1) + R.count 3 * (3 / z + 1) + R.count 4 * (4 / z + 1)
  | [], _ => by simp [wsum]
  | r :: R, h => by
    obtain ⟨hr, h'⟩ := h.cons
    have ih := wsum_lin hz h'
    rw [wsum, ih]
    simp only [List.count_cons]
    generalize R.count (0 : Int) = k0
    generalize R.count (1 : Int) = k1
    generalize R.count (2 : Int) = k2
    generalize R.count (3 : Int) = k3
    generalize R.count (4 : Int) = k4
    clear ih h h'
    simp only [List.mem_cons, List.not_mem_nil, or_false] at hr
    have put : ∀ (k : Nat) (c : Bool) (d : Int), ((k + if c = true then 1 else 0 : Nat) : Int) * d = k * d + (if c = true then d else 0) := fun k c d => by
      cases c with
      | true => rw [if_pos rfl, if_pos rfl, Int.natCast_add, Int.add_mul, Int.natCast_one, Int.one_mul]
      | false => rw [if_neg (by decide), if_neg (by decide), Nat.add_zero, Int.add_zero]
    have five : ∀ a0 a1 a2 a3 a4 : Int, (if (r == 0) = true then a0 else 0) + (if (r == 1) = true then a1 else 0) + (if (r == 2) = true then a2 else 0) + (if (r == 3) = true then a3 else 0) + (if (r == 4) = true then a4 else 0) = if r = 0 then a0 else if r = 1 then a1 else if r = 2 then a2 else if r = 3 then a3 else a4 := fun a0 a1 a2 a3 a4 => by
      rcases hr with rfl | rfl | rfl | rfl | rfl <;> simp
    have five := five (0 / z + 1) (1 / z + 1) (2 / z + 1) (3 / z + 1) (4 / z + 1)
    have last : (if r = 0 then 0 / z + 1 else if r = 1 then 1 / z + 1 else if r = 2 then 2 / z + 1 else if r = 3 then 3 / z + 1 else 4 / z + 1) = r / z + 1 := by
      rcases hr with rfl | rfl | rfl | rfl | rfl <;> rfl
    rw [last] at five
    rw [put, put, put, put, put, ← five]
    omega
theorem walks_levs' {R : List Int} {b : Int} (h : In5 R) (q : RowF R) (hb : 0 ≤ b ∧ b ≤ 3) : walks R b = levs R b := by
  have hne : R ≠ [] := fun e => q.ne (by rw [e]; rfl)
  unfold walks levs
  rw [rng16]
  refine List.map_congr_left fun z hz => ?_
  have hz0 : 0 < z := by rcases size_cases hz with rfl | rfl | rfl | rfl | rfl <;> decide
  rw [level_lin h q hne hz]
  unfold walkOf
  rw [List.foldl_append]
  have := walk_txt hz0 R 0 fun r hr => (h.nn r hr).1
  rw [Int.mul_zero] at this
  rw [this, walk_spaces, Int.zero_add, wsum_lin hz h]
  unfold lin
  omega
end Mine

/-! # P3 -/
namespace Mine
/-! ## the plain law: the two sides -/
abbrev ilR (R : List Int) (b z : Int) : Int := ilOf (cntOf R) b R.length z
theorem RowF.nn {R : List Int} (q : RowF R) : R ≠ [] := fun e => q.ne (by rw [e]; rfl)
theorem levs_getD (R : List Int) (b : Int) {z : Int} (hz : z ∈ ([1, 2, 3, 4, 5] : List Int)) : (levs R b).getD (z - 1).toNat 0 = levelOf (rowOf [] R) b z := by
  unfold levs
  rw [rng16]
  rcases size_cases hz with rfl | rfl | rfl | rfl | rfl <;> rfl
theorem pairs_eq {R R' : List Int} {b b' : Int} (T : TurnF R R' b b') : pairsOf R R' b b' = ([1, 2, 3, 4, 5] : List Int).map fun z => (z, ilR R b z, ilR R' b' z) := by
  unfold pairsOf
  rw [rng16]
  refine List.map_congr_left fun z hz => ?_
  rw [levs_getD R b hz, levs_getD R' b' hz, level_lin T.h T.q T.q.nn hz, level_lin T.h' T.q' T.q'.nn hz, show ilR R b z = _ from il_lin T.h hz, show ilR R' b' z = _ from il_lin T.h' hz]
theorem top_five {R R' : List Int} {b b' : Int} (T : TurnF R R' b b') : topOf (cntOf R) b (cntOf R') b' = 5 := by
  have h1 := (cnt_len T.h).1
  have h2 := (cnt_len T.h').1
  have h3 := T.hb
  have h4 := T.hb'
  have h5 : (cntOf R).length = 5 ∨ (cntOf R').length = 5 := by
    rcases T.four with ⟨_, h⟩ | ⟨_, h⟩
    · exact .inr (cnt_five T.h' h)
    · exact .inl (cnt_five T.h h)
  unfold topOf
  omega
theorem rng15 : rng 1 (5 + 1) 1 = [1, 2, 3, 4, 5] := by decide +kernel
theorem rng25 : rng 2 (5 + 1) 1 = [2, 3, 4, 5] := by decide +kernel
theorem wit_eq {R R' : List Int} {b b' : Int} (T : TurnF R R' b b') (p : Int → Int → Bool) : witOf p (cntOf R) b R.length (cntOf R') b' R'.length = (pairsOf R R' b b').filter fun r => p r.2.1 r.2.2 := by
  unfold witOf rowsOf
  rw [top_five T, rng15, pairs_eq T, List.filter_map]
  rfl
theorem turn_two' {R R' : List Int} {b b' : Int} (T : TurnF R R' b b') : (!decide (witOf pGe (cntOf R) b R.length (cntOf R') b' R'.length = (pairsOf R R' b b').filter fun r => pGe r.2.1 r.2.2) || (!decide (witOf pNe (cntOf R) b R.length (cntOf R') b' R'.length = (pairsOf R R' b b').filter fun r => pNe r.2.1 r.2.2) || false)) = false := by
  rw [wit_eq T, wit_eq T]; simp
theorem fmt_words' (rs : List (Int × Int × Int)) : fmtOf rs = wordsOf rs := by
  unfold fmtOf wordsOf
  split
  · have : (("at tab size" : Str) ++ ("s" : Str)) ++ (" " : Str) = "at tab sizes " := by decide +kernel
    rw [this]
  · have : ("at tab size" : Str) ++ (" " : Str) = "at tab size " := by decide +kernel
    rw [this]
theorem il_one {R : List Int} (h : In5 R) (b : Int) : ilR R b 1 = R.sum + R.length + b := by
  have C := Cn.of h
  rw [ilR, il_lin h (by decide), C.sum, C.len]
  unfold lin
  simp
  omega
/-- all columns stand so -/
theorem apart_nil {R R' : List Int} {b b' : Int} (T : TurnF R R' b b') (p : Int → Int → Bool) : (pairsOf R R' b b').filter (fun r => p r.2.1 r.2.2) = [] ↔ (p (ilR R b 1) (ilR R' b' 1) = false ∧ p (ilR R b 2) (ilR R' b' 2) = false ∧ p (ilR R b 3) (ilR R' b' 3) = false ∧ p (ilR R b 4) (ilR R' b' 4) = false ∧ p (ilR R b 5) (ilR R' b' 5) = false) := by
  rw [pairs_eq T, List.filter_eq_nil_iff]
  simp
/-- the counts are the same -/
def SameC (R R' : List Int) : Prop := R.count 0 = R'.count 0 ∧ R.count 1 = R'.count 1 ∧ R.count 2 = R'.count 2 ∧ R.count 3 = R'.count 3 ∧ R.count 4 = R'.count 4
theorem cols_same {R R' : List Int} {b b' : Int} (T : TurnF R R' b b') : (pairsOf R R' b b').filter (fun r => pNe r.2.1 r.2.2) = [] ↔ SameC R R' ∧ b = b' := by
  rw [apart_nil T pNe]
  have hb := T.hb
  have hb' := T.hb'
  have i : ∀ z, z ∈ ([1, 2, 3, 4, 5] : List Int) → ilR R b z = lin (R.count 0) (R.count 1) (R.count 2) (R.count 3) (R.count 4) b z := fun z hz => il_lin T.h hz
  have i' : ∀ z, z ∈ ([1, 2, 3, 4, 5] : List Int) → ilR R' b' z = lin (R'.count 0) (R'.count 1) (R'.count 2) (R'.count 3) (R'.count 4) b' z := fun z hz => il_lin T.h' hz
  rw [i 1 (by decide), i 2 (by decide), i 3 (by decide), i 4 (by decide), i 5 (by decide), i' 1 (by decide), i' 2 (by decide), i' 3 (by decide), i' 4 (by decide), i' 5 (by decide)]
  unfold SameC
  generalize R.count (0 : Int) = k0
  generalize R.count (1 : Int) = k1
  generalize R.count (2 : Int) = k2
  generalize R.count (3 : Int) = k3
  generalize R.count (4 : Int) = k4
  generalize R'.count (0 : Int) = m0
  generalize R'.count (1 : Int) = m1
  generalize R'.count (2 : Int) = m2
  generalize R'.count (3 : Int) = m3
  generalize R'.count (4 : Int) = m4
  clear i i' T
  unfold lin pNe
  simp only [bne_eq_false_iff_eq]
  constructor
  · rintro ⟨h1, h2, h3, h4, h5⟩
    simp at h1 h2 h3 h4 h5
    omega
  · rintro ⟨⟨h0, h1, h2, h3, h4⟩, h5⟩
    subst h0 h1 h2 h3 h4 h5
    exact ⟨rfl, rfl, rfl, rfl, rfl⟩
theorem count_all {R R' : List Int} (h : In5 R) (h' : In5 R') (s : SameC R R') (j : Int) : R.count j = R'.count j := by
  by_cases hj : j ∈ ([0, 1, 2, 3, 4] : List Int)
  · simp only [List.mem_cons, List.not_mem_nil, or_false] at hj
    rcases hj with rfl | rfl | rfl | rfl | rfl
    · exact s.1
    · exact s.2.1
    · exact s.2.2.1
    · exact s.2.2.2.1
    · exact s.2.2.2.2
  · rw [List.count_eq_zero.mpr fun hm => hj (h j hm), List.count_eq_zero.mpr fun hm => hj (h' j hm)]
theorem cnt_same {R R' : List Int} (h : In5 R) (h' : In5 R') (hn : R ≠ []) (hn' : R' ≠ []) : cntOf R = cntOf R' ↔ SameC R R' := by
  constructor
  · intro e
    have g : ∀ i : Nat, R.count (i : Int) = R'.count (i : Int) := fun i => by
      have h1 := cnt_get h i
      have h2 := cnt_get h' i
      rw [e] at h1
      omega
    exact ⟨g 0, g 1, g 2, g 3, g 4⟩
  · intro s
    have ca := count_all h h' s
    obtain ⟨_, a2, a3⟩ := cnt_len h
    obtain ⟨_, b2, b3⟩ := cnt_len h'
    have m1 : (((cntOf R).length : Int) - 1) ∈ R' := by
      rw [← List.count_pos_iff, ← ca, List.count_pos_iff]; exact a3 hn
    have m2 : (((cntOf R').length : Int) - 1) ∈ R := by
      rw [← List.count_pos_iff, ca, List.count_pos_iff]; exact b3 hn'
    have hl : (cntOf R).length = (cntOf R').length := by
      have := a2 _ m2
      have := b2 _ m1
      omega
    apply List.ext_getElem hl
    intro i h1 h2
    have x1 := cnt_get h i
    have x2 := cnt_get h' i
    rw [List.getD_eq_getElem?_getD, List.getElem?_eq_getElem h1] at x1
    rw [List.getD_eq_getElem?_getD, List.getElem?_eq_getElem h2] at x2
    rw [ca] at x1
    simp only [Option.getD_some] at x1 x2
    omega
theorem rows_same {R R' : List Int} (h : In5 R) (h' : In5 R') (q : RowF R) (q' : RowF R') : rowOf [] R = rowOf [] R' ↔ SameC R R' := by
  constructor
  · intro e
    have hp : R.Perm R' := q.perm.symm.trans (e ▸ q'.perm)
    exact ⟨hp.count_eq _, hp.count_eq _, hp.count_eq _, hp.count_eq _, hp.count_eq _⟩
  · intro s
    have hp : R.Perm R' := List.perm_iff_count.mpr (count_all h h' s)
    exact List.Perm.eq_of_pairwise (fun a b _ _ h1 h2 => Int.le_antisymm h1 h2) q.sorted q'.sorted (q.perm.trans (hp.trans q'.perm.symm))
theorem turn_three' {R R' : List Int} {b b' : Int} (T : TurnF R R' b b') : ((lessOf (cntOf R) b (R.sum + R.length + b) R.length (cntOf R') b' (R'.sum + R'.length + b') R'.length != decide ((pairsOf R R' b b').filter (fun r => pGe r.2.1 r.2.2) = [])) || ((decide (cntOf R = cntOf R') && b == b') != decide ((pairsOf R R' b b').filter (fun r => pNe r.2.1 r.2.2) = []) || false)) = false := by
  have e1 : lessOf (cntOf R) b (R.sum + R.length + b) R.length (cntOf R') b' (R'.sum + R'.length + b') R'.length = decide ((pairsOf R R' b b').filter (fun r => pGe r.2.1 r.2.2) = []) := by
    unfold lessOf
    rw [top_five T, rng25, ← il_one T.h b, ← il_one T.h' b']
    rw [Bool.eq_iff_iff, decide_eq_true_iff, apart_nil T pGe]
    simp [pGe]
  have e2 : (decide (cntOf R = cntOf R') && b == b') = decide ((pairsOf R R' b b').filter (fun r => pNe r.2.1 r.2.2) = []) := by
    rw [Bool.eq_iff_iff, Bool.and_eq_true, decide_eq_true_iff, decide_eq_true_iff, beq_iff_eq, cols_same T, cnt_same T.h T.h' T.q.nn T.q'.nn]
  rw [e1, e2]; simp
theorem turn_four' {R0 R1 R R' : List Int} {b0 b1 b b' : Int} (T : TurnF R R' b b') (x : (R = R0 ∧ R' = R1 ∧ b = b0 ∧ b' = b1) ∨ (R = R1 ∧ R' = R0 ∧ b = b1 ∧ b' = b0)) : (decide ((pairsOf R R' b b').filter (fun r => pNe r.2.1 r.2.2) = []) != (decide (rowOf [] R0 = rowOf [] R1) && b0 == b1)) = false := by
  have e : decide ((pairsOf R R' b b').filter (fun r => pNe r.2.1 r.2.2) = []) = (decide (rowOf [] R0 = rowOf [] R1) && b0 == b1) := by
    rw [Bool.eq_iff_iff, Bool.and_eq_true, decide_eq_true_iff, decide_eq_true_iff, beq_iff_eq, cols_same T]
    have r := rows_same T.h T.h' T.q T.q'
    rcases x with ⟨rfl, rfl, rfl, rfl⟩ | ⟨rfl, rfl, rfl, rfl⟩
    · rw [r]
    · exact ⟨fun ⟨s, e⟩ => ⟨(r.mpr s).symm, e.symm⟩, fun ⟨s, e⟩ => ⟨r.mp s.symm, e.symm⟩⟩
  rw [e]; simp
/-! the runs -/
theorem runs_in5 (N : List Int) (s : Int) : In5 (runsOf N s) := fun r hr => by
  unfold runsOf at hr
  obtain ⟨y, _, rfl⟩ := List.mem_map.mp hr
  rw [Int.fmod_eq_emod_of_nonneg _ (by decide)]
  simp only [List.mem_cons, List.not_mem_nil, or_false]
  omega
theorem runs_one (ns : List Int) : (1 : Int) ∈ runsOf (numsOfS ns) 0 := List.mem_map.mpr ⟨2, List.mem_filter.mpr ⟨.head _, by decide⟩, by decide⟩
theorem runs_four (ns : List Int) : (4 : Int) ∈ runsOf (numsOfS ns) 1 := List.mem_map.mpr ⟨9, List.mem_filter.mpr ⟨.tail _ (.head _), by decide⟩, by decide⟩
theorem join_ok {R : List Int} (h : In5 R) (hl : R.length ≤ 7) : ((((R.map fun r => List.replicate r.toNat 32 ++ [9]).map S).map (·.length)).sum + ((R.map fun r => List.replicate r.toNat 32 ++ [9]).map S).length) ≤ 1048576 := by
  have key : ∀ R : List Int, In5 R → (((R.map fun r => List.replicate r.toNat 32 ++ [9]).map S).map (·.length)).sum ≤ 5 * R.length := by
    intro R
    induction R with
    | nil => intro _; simp
    | cons r R ih =>
      intro h
      have := ih h.cons.2
      have h5 := h.nn r (.head _)
      simp only [List.map_cons, List.sum_cons, List.length_cons, S_len, List.length_append, List.length_replicate, List.length_nil] at this ⊢
      omega
  have := key R h
  simp only [List.length_map] at this ⊢
  omega
end Mine

/-! # P4 -/
namespace Mine
/-! ## the plain law: the list in order -/
theorem klex_iff (k t : Int × Int × Int) : klex k t = true ↔ k.1 < t.1 ∨ (k.1 = t.1 ∧ (k.2.1 < t.2.1 ∨ (k.2.1 = t.2.1 ∧ k.2.2 < t.2.2))) := by
  unfold klex
  by_cases h1 : k.1 = t.1
  · rw [if_pos (by simpa using h1)]
    by_cases h2 : k.2.1 = t.2.1
    · rw [if_pos (by simpa using h2)]
      by_cases h3 : k.2.2 = t.2.2
      · rw [if_pos (by simpa using h3)]; simp; omega
      · rw [if_neg (by simpa using h3), decide_eq_true_iff]; omega
    · rw [if_neg (by simpa using h2), decide_eq_true_iff]; omega
  · rw [if_neg (by simpa using h1), decide_eq_true_iff]; omega
/-- ahead of, in the order of the key -/
def KL (a b : Int × Int × Int) : Prop := klex (keyOf a) (keyOf b) = true
theorem KL_iff (a b : Int × Int × Int) : KL a b ↔ a.2.1 < b.2.1 ∨ (a.2.1 = b.2.1 ∧ (b.2.2 < a.2.2 ∨ (b.2.2 = a.2.2 ∧ b.1 < a.1))) := by
  unfold KL
  rw [klex_iff]
  unfold keyOf
  simp only
  omega
theorem cmp_neg_iff (a b : Int × Int × Int) : cmpOf a b < 0 ↔ a.2.1 < b.2.1 ∨ (a.2.1 = b.2.1 ∧ b.2.2 < a.2.2) := by
  unfold cmpOf
  split
  · simp; omega
  · split
    · simp; omega
    · split
      · simp; omega
      · split
        · simp; omega
        · simp; omega
theorem cmp_le_of_KL {a b : Int × Int × Int} (h : KL a b) : cmpOf a b ≤ 0 := by
  rw [KL_iff] at h
  have h2 : ¬ cmpOf b a < 0 := by rw [cmp_neg_iff]; omega
  have := cmp_flip (a := a) (b := b)
  omega
theorem ins_KL {row : Int × Int × Int} {rs : List (Int × Int × Int)} (h : rs.Pairwise KL) (hlt : ∀ r ∈ rs, r.1 < row.1) : (insL row rs).Pairwise KL := by
  have ho : InOrder rs := h.imp fun {a b} hab => cmp_le_of_KL hab
  obtain ⟨h1, h2⟩ := split_at (ho.before row)
  have hs := h
  rw [← List.take_append_drop (rs.countP (Mine.before row)) rs] at hs
  obtain ⟨p1, p2, p3⟩ := List.pairwise_append.mp hs
  refine List.pairwise_append.mpr ⟨p1, List.pairwise_cons.mpr ⟨fun b hb => ?_, p2⟩, fun a ha b hb => ?_⟩
  · have hn := of_decide_eq_false (h2 b hb)
    rw [cmp_neg_iff] at hn
    have := hlt b (List.mem_of_mem_drop hb)
    rw [KL_iff]; omega
  · rcases List.mem_cons.mp hb with rfl | hb
    · have hy := of_decide_eq_true (h1 a ha)
      rw [cmp_neg_iff] at hy
      rw [KL_iff]; omega
    · exact p3 a ha b hb
theorem fold_KL : ∀ (rows acc : List (Int × Int × Int)), acc.Pairwise KL → (∀ a ∈ acc, ∀ r ∈ rows, a.1 < r.1) → rows.Pairwise (fun a b => a.1 < b.1) → (rows.foldl (fun l r => insL r l) acc).Pairwise KL ∧ (rows.foldl (fun l r => insL r l) acc).Perm (acc ++ rows)
  | [], acc, h, _, _ => ⟨h, by simp⟩
  | r :: rows, acc, h, hl, hp => by
    obtain ⟨q1, q2⟩ := List.pairwise_cons.mp hp
    obtain ⟨i1, i2⟩ := fold_KL rows (insL r acc) (ins_KL h fun a ha => hl a ha r (.head _)) (fun a ha x hx => by
      rcases List.mem_cons.mp ((insL_perm r acc).mem_iff.mp ha) with rfl | ha
      · exact q1 x hx
      · exact hl a ha x (.tail _ hx)) q2
    refine ⟨i1, i2.trans ?_⟩
    refine ((insL_perm r acc).append_right rows).trans ?_
    exact List.perm_middle.symm
theorem listed_KL {rows : List (Int × Int × Int)} (hp : rows.Pairwise (fun a b => a.1 < b.1)) : (listedOf rows).Pairwise KL ∧ (listedOf rows).Perm rows := by
  have := fold_KL rows [] .nil (fun _ h => (nomatch h)) hp
  rw [List.nil_append] at this
  exact this
theorem KL_trans {a b d : Int × Int × Int} (h : KL a b) (h' : KL b d) : KL a d := by rw [KL_iff] at *; omega
theorem KL_irrefl (a : Int × Int × Int) : ¬ KL a a := by rw [KL_iff]; omega
theorem KL_total {a b : Int × Int × Int} (h : a.1 ≠ b.1) : KL a b ∨ KL b a := by rw [KL_iff, KL_iff]; omega

theorem kasRun_congr {α : Type} {n : Nat} {lt lt' : Nat → Nat → Bool} (h : ∀ i j, i < n → j < n → lt i j = lt' i j) : ∀ (t : KasT α), kasOk n t = true → kasRun lt t = kasRun lt' t
  | .ret a, _ => rfl
  | .ask i j k, ho => by
    unfold kasOk at ho
    simp only [Bool.and_eq_true, decide_eq_true_eq] at ho
    obtain ⟨⟨⟨h1, h2⟩, h3⟩, h4⟩ := ho
    unfold kasRun
    rw [h i j h1 h2]
    have h5 : kasOk n (k (lt' i j)) = true := by cases lt' i j <;> assumption
    exact kasRun_congr h _ h5
theorem countP_lt {α : Type} {p q : α → Bool} : ∀ {l : List α}, (∀ x ∈ l, p x = true → q x = true) → (∃ x ∈ l, q x = true ∧ p x = false) → l.countP p < l.countP q
  | [], _, ⟨_, hm, _⟩ => (nomatch hm)
  | x :: l, h, ⟨y, hm, hq, hp⟩ => by
    have mono : l.countP p ≤ l.countP q := List.countP_mono_left fun z hz => h z (.tail _ hz)
    rw [List.countP_cons, List.countP_cons]
    rcases List.mem_cons.mp hm with rfl | hm
    · simp only [hq, hp]; simp; omega
    · have ih := countP_lt (fun z hz => h z (.tail _ hz)) ⟨y, hm, hq, hp⟩
      have hx := h x (.head _)
      cases hpx : p x with
      | false => cases q x <;> simp <;> omega
      | true => rw [hx hpx]; simp; omega
theorem isPerm5 {p : List Nat} (h : p.isPerm [0, 1, 2, 3, 4] = true) : p.Perm [0, 1, 2, 3, 4] := List.isPerm_iff.mp h
theorem five_map (P : List (Int × Int × Int)) (hl : P.length = 5) : [0, 1, 2, 3, 4].map (fun i => P.getD i r0D) = P := by
  match P, hl with
  | [a, b, d, e, f], _ => rfl
set_option maxHeartbeats 1000000 in
theorem sort_five {P : List (Int × Int × Int)} (hl : P.length = 5) (hp : P.Pairwise (fun a b => a.1 < b.1)) :
    (∀ i ∈ (kasRun (fun i j => klex (keyOf (P.getD i r0D)) (keyOf (P.getD j r0D))) (kas_sort 5)).toList, i < 5) ∧ (kasRun (fun i j => klex (keyOf (P.getD i r0D)) (keyOf (P.getD j r0D))) (kas_sort 5)).toList.length ≤ 1000 ∧ sort5 P = listedOf P := by
  let K : Nat → Nat → Bool := fun i j => klex (keyOf (P.getD i r0D)) (keyOf (P.getD j r0D))
  have hK : ∀ i j, K i j = true ↔ KL (P.getD i r0D) (P.getD j r0D) := fun i j => Iff.rfl
  have hne : ∀ i j, i < 5 → j < 5 → i ≠ j → (P.getD i r0D).1 ≠ (P.getD j r0D).1 := fun i j hi hj hij => by
    have e : ∀ i (h : i < P.length), P.getD i r0D = P[i] := fun i h => by rw [List.getD_eq_getElem?_getD, List.getElem?_eq_getElem h]; rfl
    rw [e i (by omega), e j (by omega)]
    rcases Nat.lt_or_gt_of_ne hij with h | h
    · have := List.pairwise_iff_getElem.mp hp i j (by omega) (by omega) h; omega
    · have := List.pairwise_iff_getElem.mp hp j i (by omega) (by omega) h; omega
  let r : Nat → Nat := fun i => ([0, 1, 2, 3, 4] : List Nat).countP fun x => K x i
  have mem5 : ∀ i, i < 5 → i ∈ ([0, 1, 2, 3, 4] : List Nat) := fun i hi => by simp; omega
  have hmono : ∀ i j, i < 5 → j < 5 → K i j = true → r i < r j := fun i j hi hj h => by
    refine countP_lt (fun x _ hx => (hK x j).mpr (KL_trans ((hK x i).mp hx) ((hK i j).mp h))) ⟨i, mem5 i hi, h, ?_⟩
    cases hk : K i i with
    | false => rfl
    | true => exact absurd ((hK i i).mp hk) (KL_irrefl _)
  have hiff : ∀ i j, i < 5 → j < 5 → K i j = decide (r i < r j) := fun i j hi hj => by
    cases hk : K i j with
    | true => exact (decide_eq_true (hmono i j hi hj hk)).symm
    | false =>
      refine (decide_eq_false fun hlt => ?_).symm
      by_cases hij : i = j
      · subst hij; omega
      · rcases KL_total (hne i j hi hj hij) with h | h
        · rw [(hK i j).mpr h] at hk; cases hk
        · have := hmono j i hj hi ((hK j i).mpr h); omega
  have hr5 : ∀ i, i < 5 → r i < 5 := fun i hi => by
    have : ([0, 1, 2, 3, 4] : List Nat).countP (fun x => K x i) < ([0, 1, 2, 3, 4] : List Nat).countP (fun _ => true) := countP_lt (fun _ _ _ => rfl) ⟨i, mem5 i hi, rfl, by
      cases hk : K i i with
      | false => rfl
      | true => exact absurd ((hK i i).mp hk) (KL_irrefl _)⟩
    simpa using this
  have hdis : ∀ i j, i < 5 → j < 5 → i ≠ j → r i ≠ r j := fun i j hi hj hij e => by
    rcases KL_total (hne i j hi hj hij) with h | h
    · have := hmono i j hi hj ((hK i j).mpr h); omega
    · have := hmono j i hj hi ((hK j i).mpr h); omega
  have hap : apart5 (r 0) (r 1) (r 2) (r 3) (r 4) = true := by
    unfold apart5
    simp only [Bool.and_eq_true, bne_iff_ne, ne_eq]
    refine ⟨⟨⟨⟨⟨⟨⟨⟨⟨?_, ?_⟩, ?_⟩, ?_⟩, ?_⟩, ?_⟩, ?_⟩, ?_⟩, ?_⟩, ?_⟩ <;> exact hdis _ _ (by decide) (by decide) (by decide)
  have hg := sort5_good (hr5 0 (by decide)) (hr5 1 (by decide)) (hr5 2 (by decide)) (hr5 3 (by decide)) (hr5 4 (by decide)) hap
  have hrk : ∀ i, i < 5 → rk (r 0) (r 1) (r 2) (r 3) (r 4) i = r i := fun i hi => by
    match i, hi with
    | 0, _ => rfl
    | 1, _ => rfl
    | 2, _ => rfl
    | 3, _ => rfl
    | 4, _ => rfl
  have hrun : kasRun (fun i j => decide (rk (r 0) (r 1) (r 2) (r 3) (r 4) i < rk (r 0) (r 1) (r 2) (r 3) (r 4) j)) (kas_sort 5) = kasRun K (kas_sort 5) := kasRun_congr (n := 5) (fun i j hi hj => by rw [hrk i hi, hrk j hj, hiff i j hi hj]) _ sort5_ok
  unfold good5 at hg
  simp only [Bool.and_eq_true] at hg
  rw [hrun] at hg
  obtain ⟨g1, g2⟩ := hg
  have g2 := of_decide_eq_true g2
  have pp := isPerm5 g1
  have hidx : ∀ i ∈ (kasRun K (kas_sort 5)).toList, i < 5 := fun i hi => by
    have := pp.mem_iff.mp hi
    simp at this; omega
  refine ⟨hidx, by rw [show (kasRun (fun i j => klex (keyOf (P.getD i r0D)) (keyOf (P.getD j r0D))) (kas_sort 5)).toList.length = 5 from pp.length_eq]; decide, ?_⟩
  have e : sort5 P = (kasRun K (kas_sort 5)).toList.map fun i => P.getD i r0D := rfl
  have s1 : (sort5 P).Perm P := by
    rw [e]
    have := pp.map fun i => P.getD i r0D
    rw [five_map P hl] at this
    exact this
  have s2 : (sort5 P).Pairwise KL := by
    rw [e, List.pairwise_map]
    have inc : ((kasRun K (kas_sort 5)).toList.map (rk (r 0) (r 1) (r 2) (r 3) (r 4))).Pairwise (· < ·) := by rw [g2]; decide
    rw [List.pairwise_map] at inc
    refine List.Pairwise.imp_of_mem ?_ inc
    intro a b ha hb hab
    have ha' := hidx a ha
    have hb' := hidx b hb
    rw [hrk a ha', hrk b hb'] at hab
    exact (hK a b).mp (by rw [hiff a b ha' hb']; exact decide_eq_true hab)
  obtain ⟨l1, l2⟩ := listed_KL hp
  exact List.Perm.eq_of_pairwise (fun a b _ _ h1 h2 => absurd (KL_trans h1 h2) (KL_irrefl a)) s2 l1 (s1.trans l2.symm)
theorem turn_five' (R R' : List Int) (b b' : Int) : (pairsOf R R' b b').length = 5 ∧ (∀ i ∈ (kasRun (fun i j => klex (keyOf ((pairsOf R R' b b').getD i r0D)) (keyOf ((pairsOf R R' b b').getD j r0D))) (kas_sort 5)).toList, i < 5) ∧ (kasRun (fun i j => klex (keyOf ((pairsOf R R' b b').getD i r0D)) (keyOf ((pairsOf R R' b b').getD j r0D))) (kas_sort 5)).toList.length ≤ 1000 ∧ sort5 (pairsOf R R' b b') = listedOf (pairsOf R R' b b') := by
  have hl : (pairsOf R R' b b').length = 5 := by unfold pairsOf; rw [rng16]; simp
  refine ⟨hl, sort_five hl ?_⟩
  unfold pairsOf
  rw [rng16, List.pairwise_map]
  simp only
  decide
end Mine

/-! # K8 -/
namespace Mine
section
variable {c : Wd} {A : Around} {env : Env} {g g' g₁ : PH} {pos p : Pos} {ρ ρ' : List (Str × D)} {ow : List (Addr × Obj)} {s s' : Shared} {rest : List Stmt}
set_option maxHeartbeats 8000000 in
theorem law_spec {n : Nat} (rm : Rm A (n + 6)) {ns : List Int} (hns : ns.length ≤ 63) : Spec c A (.ref 208) [.ints ns] (.bool true) := fun s vs Q ok ha q => by
  obtain ⟨v1, rfl, a1⟩ := all_inv1 ha
  refine wpAny_call (fn_callC (binds := [("script", v1)]) (bds := [.ints ns]) rfl (by kernel_rfl) rm ok (by kernel_rfl) (all1 a1) (by kernel_rfl) fun L s1 B => ?_)
  have rm2 : ∀ e, Rm (A.deeper e) (n + 5) := rm.deeper
  have hu : ∀ e, (A.deeper e).units < cLine ∧ (A.deeper e).in1.units < cLine ∧ (A.deeper e).units + 64 < cLine := fun e => by
    have := (rm2 e).hu
    exact ⟨by omega, by show (A.deeper e).units + 1 < cLine; omega, by omega⟩
  -- numbers
  refine ex_assign B (d := .ints (numsOfS ns)) (.eqd (.bin (.list (.cons .cint (.cons .cint (.cons .cint .nil)))) (.lc (ds := (ns.map D.int).take (4 : Int).toNat) (p := fun _ => true) (f := fun d => .int (d.i.fmod (10 ^ 6))) (ρ := []) B.fra.ok (fun _ _ e => nomatch e) (.upto (B.name rfl) (by decide) (by simp [sizeLine]; omega)) (fun g v a => iter_list (rm2 _).hh a) ⟨fun C g d hd he fr => ?_, fun d _ _ => .atom _ rfl, .inl fun d _ _ ns => nofun, by simp; omega⟩ (.inl rfl)) (add_l _ _ (by rw [filter_true]; simp [sizeLine]; omega))) ?_) (.inr ⟨rfl, rfl⟩) fun s2 B => ?_
  · obtain ⟨i, _, rfl⟩ := map_int_mem (List.mem_of_mem_take hd)
    exact ⟨.nil, fun _ => .bin (.frm fr he rfl) (.bin .cint .cint pow106) (fmod_i _ _ (by decide))⟩
  · rw [filter_true, List.map_take, List.map_map]
    show D.list _ = D.list ((numsOfS ns).map D.int)
    unfold numsOfS
    rw [List.map_append, List.map_map]
    rw [← List.map_take]
    rfl
  -- total
  refine ex_assign B (d := .int (ns.sum.fmod (10 ^ 6))) (.bin (.blt B.fra.ok nb_sum rfl (kept_blt _) (.cons (B.name rfl) .nil) (sum_l (rm2 _).hh ns)) (.bin .cint .cint pow106) (fmod_i _ _ (by decide))) (.inl rfl) fun s3 B => ?_
  generalize hN : numsOfS ns = N at B
  generalize hT : ns.sum.fmod (10 ^ 6) = T at B
  have hNl : N.length ≤ 7 := by rw [← hN]; unfold numsOfS; simp; omega
  have hR0 : runsOf N 0 ≠ [] := by rw [← hN]; exact List.ne_nil_of_mem (runs_one ns)
  have hR1 : runsOf N 1 ≠ [] := by rw [← hN]; exact List.ne_nil_of_mem (runs_four ns)
  -- runs
  refine ex_assign B (d := .list [.ints (runsOf N 0), .ints (runsOf N 1)]) (.lc (ds := [.int 0, .int 1]) (p := fun _ => true) (f := fun d => .ints (runsOf N d.i)) (ρ := [("numbers", .ints N)]) B.fra.ok (B.fr ⟨rfl, trivial⟩) (.tuple (.cons .cint (.cons .cint .nil))) (fun g v a => iter_tup (rm2 _).hh a) ⟨fun C g d hd he fr => ⟨.nil, fun _ => ?_⟩, fun d hd _ => .nums _ ?_, .inr fun d _ _ => ⟨_, rfl⟩, by simp⟩ (.inr rfl)) (.inr ⟨rfl, rfl⟩) fun s4 B => ?_
  · obtain ⟨sd, rfl⟩ : ∃ sd, d = .int sd := by rcases two_mem hd with rfl | rfl <;> exact ⟨_, rfl⟩
    refine .eqd (.lc (ds := N.map .int) (p := fun d => d.i.fmod 2 == sd) (f := fun d => .int ((d.i.fdiv 2).fmod 5)) (ρ := [("side", .int sd)]) he (fr.to ⟨rfl, trivial⟩) (.frm fr he rfl) (fun g v a => iter_list (rm2 _).hh a) ⟨fun C g d hd he fr => ?_, fun d _ _ => .atom _ rfl, .inl fun d _ _ ns => nofun, by simp; omega⟩ (.inl rfl)) ?_
    · obtain ⟨y, _, rfl⟩ := map_int_mem hd
      exact ⟨.one (.cmp (.bin (.frm fr he rfl) .cint (fmod_i _ _ (by decide))) (.frm fr he rfl) (eq_i _ _)), fun _ => .bin (.bin (.frm fr he rfl) .cint (fdiv_i _ _ (by decide) (PyProof.noPylong_small (by decide)))) .cint (fmod_i _ _ (by decide))⟩
    · rw [filter_map_i N fun y => y.fmod 2 == sd]
      unfold runsOf
      rw [List.map_map]
      show _ = D.list (List.map D.int (List.map _ _))
      rw [List.map_map]; rfl
  · rcases two_mem hd with rfl | rfl
    · exact hR0
    · exact hR1
  generalize hr0 : runsOf N 0 = R0 at B hR0
  generalize hr1 : runsOf N 1 = R1 at B hR1
  have hl0 : R0.length ≤ 7 := by rw [← hr0]; unfold runsOf; rw [List.length_map]; exact Nat.le_trans (List.length_filter_le _ _) hNl
  have hl1 : R1.length ≤ 7 := by rw [← hr1]; unfold runsOf; rw [List.length_map]; exact Nat.le_trans (List.length_filter_le _ _) hNl
  have h50 : In5 R0 := by rw [← hr0]; exact runs_in5 N 0
  have h51 : In5 R1 := by rw [← hr1]; exact runs_in5 N 1
  have hm0 : (1 : Int) ∈ R0 ∨ (2 : Int) ∈ R0 ∨ (3 : Int) ∈ R0 ∨ (4 : Int) ∈ R0 := by rw [← hr0, ← hN]; exact .inl (runs_one ns)
  have h4 : (4 : Int) ∈ R1 := by rw [← hr1, ← hN]; exact runs_four ns
  replace B := B.to (ρ' := [("runs", .list [.ints R0, .ints R1]), ("total", .int T)]) ⟨rfl, rfl, trivial⟩
  -- blanks
  refine ex_assign B (.list (.cons (.bin (B.name rfl) .cint (fmod_i _ _ (by decide))) (.cons (.bin (.bin (B.name rfl) .cint (fdiv_i _ _ (by decide) (PyProof.noPylong_small (by decide)))) .cint (fmod_i _ _ (by decide))) .nil))) (.inr ⟨rfl, rfl⟩) fun s5 B => ?_
  have hb0 : 0 ≤ T.fmod 4 ∧ T.fmod 4 ≤ 3 := by rw [Int.fmod_eq_emod_of_nonneg _ (by decide)]; omega
  have hb1 : 0 ≤ (T.fdiv 4).fmod 4 ∧ (T.fdiv 4).fmod 4 ≤ 3 := by rw [Int.fmod_eq_emod_of_nonneg _ (by decide)]; omega
  generalize T.fmod 4 = b0 at B hb0
  generalize (T.fdiv 4).fmod 4 = b1 at B hb1
  replace B := B.to (ρ' := [("blanks", .list [.int b0, .int b1]), ("runs", .list [.ints R0, .ints R1])]) ⟨rfl, rfl, trivial⟩
  -- texts
  have htl : ∀ R : List Int, In5 R → R.length ≤ 7 → (txt R).length ≤ 100 := fun R h hl => txt_len h (Nat.le_trans hl (by decide))
  refine ex_assign B (d := .list [.str (S (txt R0)), .str (S (txt R1))]) (.lc (ds := [.int 0, .int 1]) (p := fun _ => true) (f := fun d => .str (S (txt (if d.i = 0 then R0 else R1)))) (ρ := [("runs", .list [.ints R0, .ints R1])]) B.fra.ok (B.fr ⟨rfl, trivial⟩) (.tuple (.cons .cint (.cons .cint .nil))) (fun g v a => iter_tup (rm2 _).hh a) ⟨fun C g d hd he fr => ⟨.nil, fun _ => ?_⟩, fun d hd _ => .atom _ rfl, .inl fun d _ _ ns => nofun, by simp⟩ (.inl rfl)) (.inr ⟨rfl, rfl⟩) fun s6 B => ?_
  · obtain ⟨sd, R, hde, h0, h1, hR, ⟨h5, hl⟩, hRR⟩ := side_pick hd R0 R1 (fun R => In5 R ∧ R.length ≤ 7) ⟨h50, hl0⟩ ⟨h51, hl1⟩
    simp only [hRR]
    subst hde
    refine .eqd (.meth .cstr m_join (kept_blt _) (.cons (.eqd (.lc (ds := R.map .int) (p := fun _ => true) (f := fun d => .str (S (List.replicate d.i.toNat 32 ++ [9]))) (ρ := []) he (fun _ _ e => nomatch e) (.item_list (.frm fr he rfl) (.frm fr he rfl) h0 hR (by omega)) (fun g v a => iter_list (rm2 _).hh a) ⟨fun C g d hd he fr => ⟨.nil, fun _ => ?_⟩, fun d _ _ => .atom _ rfl, .inl fun d _ _ ns => nofun, by simp; omega⟩ (.inl rfl)) (d' := .list (((R.map fun r => List.replicate r.toNat 32 ++ [9]).map S).map .str)) ?_) .nil) (join_l (by decide +kernel) ?_)) ?_
    · obtain ⟨r, hr, rfl⟩ := map_int_mem hd
      have h5r := h5 r hr
      simp only [List.mem_cons, List.not_mem_nil, or_false] at h5r
      exact .bin (.bin (.eqd .cstr (by rw [S_sp])) (.frm fr he rfl) (mul_s 32 r (by omega) (by omega))) (.eqd .cstr (by rw [S_tab])) (add_s _ _ (by simp [sizeLine]; omega))
    · rw [filter_true, List.map_map, List.map_map, List.map_map]; rfl
    · exact join_ok h5 hl
    · rw [join_S]; rfl
  replace B := B.to (ρ' := [("texts", .list [.str (S (txt R0)), .str (S (txt R1))]), ("blanks", .list [.int b0, .int b1]), ("runs", .list [.ints R0, .ints R1])]) ⟨rfl, rfl, rfl, trivial⟩
  -- leads
  refine ex_lc (ds := [.int 0, .int 1]) (p := fun _ => true) (f := fun d => if d.i = 0 then wsOf (leadT R0 b0) else wsOf (leadT R1 b1)) (ρ' := [("texts", .list [.str (S (txt R0)), .str (S (txt R1))]), ("blanks", .list [.int b0, .int b1])]) B (B.fr ⟨rfl, rfl, trivial⟩) (.tuple (.cons .cint (.cons .cint .nil))) (fun g v a => iter_tup (rm2 _).hh a) ⟨fun C g d hd he fr => ⟨.nil, fun _ => ?_⟩, fun d hd _ => by split <;> exact .lead _ _ _ _ _, .inl fun d hd _ ns => by split <;> exact nofun, by simp⟩ (.inl rfl) (.inl rfl) fun s7 B => ?_
  · obtain ⟨sd, R, b, hde, h0, h1, hR, hb, ⟨h5, hl, hbb⟩, hRR⟩ := side_pick2 hd R0 R1 b0 b1 (fun R b => In5 R ∧ R.length ≤ 7 ∧ 0 ≤ b ∧ b ≤ 3) ⟨h50, hl0, hb0⟩ ⟨h51, hl1, hb1⟩
    simp only [hRR]
    subst hde
    have ht := htl R h5 hl
    have hbt : (List.replicate b.toNat 32).length ≤ 3 := by simp; omega
    refine .call he (by kernel_rfl) (kept_K (by kernel_rfl)) (.cons (.eqd (.bin (.bin (.item_list (.frm fr he rfl) (.frm fr he rfl) h0 hR (by omega)) (.bin (.eqd .cstr (by rw [S_sp])) (.item_list (.frm fr he rfl) (.frm fr he rfl) h0 hb (by omega)) (mul_s 32 b (by omega) (by omega))) (add_s _ _ (by simp [sizeLine]; omega))) (.eqd .cstr (by rw [S_x])) (add_s _ _ (by simp [sizeLine]; omega))) (d' := .str (S (leadT R b))) (by unfold leadT; rw [List.append_assoc])) .nil) (ws_make (m := n + 3) (rm2 _) (by unfold leadT; simp; omega))
  have hw0 := lead_ws h50 hb0 hm0
  have hw1 := lead_ws h51 hb1 (.inr (.inr (.inr h4)))
  replace B := B.to (ρ' := [("leads", .list [leadW R0 b0, leadW R1 b1]), ("texts", .list [.str (S (txt R0)), .str (S (txt R1))]), ("blanks", .list [.int b0, .int b1]), ("runs", .list [.ints R0, .ints R1])]) ⟨by rw [← hw0, ← hw1]; rfl, rfl, rfl, rfl, trivial⟩
  -- whole
  have ht0 := htl R0 h50 hl0
  have ht1 := htl R1 h51 hl1
  have hbt1 : (List.replicate b1.toNat 32).length ≤ 3 := by simp; omega
  refine ex_assign B (d := leadW (R0 ++ R1) b1) (.eqd (.call B.fra.ok (by kernel_rfl) (kept_K (by kernel_rfl)) (.cons (.bin (.bin (.item_list (B.name rfl) .cint (by decide) rfl) (.item_list (B.name rfl) .cint (by decide) rfl) (add_s _ _ (by simp [sizeLine]; omega))) (.bin (.eqd .cstr (by rw [S_sp])) (.item_list (B.name rfl) .cint (by decide) rfl) (mul_s 32 b1 (by omega) (by omega))) (add_s _ _ (by simp [sizeLine]; omega))) .nil) (ws_make (m := n + 3) (rm2 _) (by simp; omega))) (whole_ws h50 h51 hb1 h4)) (.inr ⟨rfl, rfl⟩) fun s8 B => ?_
  -- rows, merged
  refine ex_assign B (d := .list [.ints (rowOf [] R0), .ints (rowOf [] R1)]) (.list (.cons (.call B.fra.ok (by kernel_rfl) (kept_K (by kernel_rfl)) (.cons (.eqd (.list .nil) (rfl : D.list [] = .ints [])) (.cons (.item_list (B.name rfl) .cint (by decide) rfl) .nil)) (law_row_spec (n := n + 2) (rm2 _) .nil (by decide) (by omega))) (.cons (.call B.fra.ok (by kernel_rfl) (kept_K (by kernel_rfl)) (.cons (.eqd (.list .nil) (rfl : D.list [] = .ints [])) (.cons (.item_list (B.name rfl) .cint (by decide) rfl) .nil)) (law_row_spec (n := n + 2) (rm2 _) .nil (by decide) (by omega))) .nil))) (.inr ⟨rfl, rfl⟩) fun s9 B => ?_
  refine ex_assign B (d := .ints (rowOf (rowOf [] R0) R1)) (.call B.fra.ok (by kernel_rfl) (kept_K (by kernel_rfl)) (.cons (.item_list (B.name rfl) .cint (by decide) rfl) (.cons (.item_list (B.name rfl) .cint (by decide) rfl) .nil)) (law_row_spec (n := n + 2) (rm2 _) (rowOf_sorted _ .nil) (by rw [rowOf_length]; simp; omega) (by omega))) (.inr ⟨rfl, rfl⟩) fun s10 B => ?_
  have hmg : rowOf (rowOf [] R0) R1 = rowOf [] (R0 ++ R1) := by unfold rowOf; rw [List.foldl_append]
  rw [hmg] at B
  replace B := B.to (ρ' := [("merged", .ints (rowOf [] (R0 ++ R1))), ("rows", .list [.ints (rowOf [] R0), .ints (rowOf [] R1)]), ("whole", leadW (R0 ++ R1) b1), ("leads", .list [leadW R0 b0, leadW R1 b1]), ("texts", .list [.str (S (txt R0)), .str (S (txt R1))]), ("blanks", .list [.int b0, .int b1])]) ⟨rfl, rfl, rfl, rfl, rfl, rfl, trivial⟩
  have q0 := row_facts h50 hR0 (Nat.le_trans hl0 (by decide))
  have q1 := row_facts h51 hR1 (Nat.le_trans hl1 (by decide))
  have qm := row_facts (h50.append h51) (by simp [hR0]) (show (R0 ++ R1).length ≤ 14 by simp; omega)
  -- longest, sizes
  refine ex_lc (ds := [.int 0, .int 1]) (p := fun _ => true) (f := fun d => .int (if d.i = 0 then max ((rowOf [] R0).getLastD 0) b0 else max ((rowOf [] R1).getLastD 0) b1)) (ρ' := [("rows", .list [.ints (rowOf [] R0), .ints (rowOf [] R1)]), ("blanks", .list [.int b0, .int b1])]) B (B.fr ⟨rfl, rfl, trivial⟩) (.tuple (.cons .cint (.cons .cint .nil))) (fun g v a => iter_tup (rm2 _).hh a) ⟨fun C g d hd he fr => ⟨.nil, fun _ => ?_⟩, fun d hd _ => .atom _ rfl, .inl fun d hd _ ns => nofun, by simp⟩ (.inl rfl) (.inl rfl) fun s11 B => ?_
  · obtain ⟨sd, R, b, hde, h0, h1, hR, hb, ⟨hne, hlen⟩, hRR⟩ := side_pick3 hd R0 R1 b0 b1 (fun R b => rowOf [] R ≠ [] ∧ True) ⟨q0.ne, trivial⟩ ⟨q1.ne, trivial⟩
    simp only [hRR]
    subst hde
    exact .blt he nb_max rfl (kept_blt _) (.cons (.item_last (.item_list (.frm fr he rfl) (.frm fr he rfl) h0 hR (by omega)) (.neg .cint) (last_get hne)) (.cons (.item_list (.frm fr he rfl) (.frm fr he rfl) h0 hb (by omega)) .nil)) (max2 (rm2 _).hh _ _)
  replace B := B.to (ρ' := [("longest", .ints [max ((rowOf [] R0).getLastD 0) b0, max ((rowOf [] R1).getLastD 0) b1]), ("merged", .ints (rowOf [] (R0 ++ R1))), ("rows", .list [.ints (rowOf [] R0), .ints (rowOf [] R1)]), ("whole", leadW (R0 ++ R1) b1), ("leads", .list [leadW R0 b0, leadW R1 b1]), ("texts", .list [.str (S (txt R0)), .str (S (txt R1))]), ("blanks", .list [.int b0, .int b1])]) ⟨rfl, rfl, rfl, rfl, rfl, rfl, rfl, trivial⟩
  have hM : max (max ((rowOf [] R0).getLastD 0) b0) (max ((rowOf [] R1).getLastD 0) b1) = 4 := long_four q0 q1 h51 h4 hb0 hb1
  refine ex_assign B (d := .range 1 6 1) (.eqd (.blt B.fra.ok nb_range rfl (kept_type _) (.cons .cint (.cons (.bin (.blt B.fra.ok nb_max rfl (kept_blt _) (.cons (B.name rfl) .nil) (max_l (rm2 _).hh _ _)) .cint (add_i _ _)) .nil)) (range2 _ _)) (by rw [hM]; rfl)) (.inr ⟨rfl, rfl⟩) fun s12 B => ?_
  -- levels
  refine ex_assign B (d := .list [.ints (levs R0 b0), .ints (levs R1 b1)]) (.lc (ds := [.int 0, .int 1]) (p := fun _ => true) (f := fun d => .ints (if d.i = 0 then levs R0 b0 else levs R1 b1)) (ρ := [("rows", .list [.ints (rowOf [] R0), .ints (rowOf [] R1)]), ("blanks", .list [.int b0, .int b1]), ("sizes", .range 1 6 1)]) B.fra.ok (B.fr ⟨rfl, rfl, rfl, trivial⟩) (.tuple (.cons .cint (.cons .cint .nil))) (fun g v a => iter_tup (rm2 _).hh a) ⟨fun C g d hd he fr => ⟨.nil, fun _ => ?_⟩, fun d hd _ => .nums _ (by split <;> exact levs_ne _ _), .inr fun d _ _ => ⟨_, rfl⟩, by simp⟩ (.inr rfl)) (.inr ⟨rfl, rfl⟩) fun s13 B => ?_
  · obtain ⟨sd, R, b, hde, h0, h1, hR, hb, hq, hRR⟩ := side_pick4 hd R0 R1 b0 b1 (fun R b => RowF R) q0 q1
    simp only [hRR]
    subst hde
    refine .eqd (.lc (ds := (rng 1 6 1).map .int) (p := fun _ => true) (f := fun d => .int (levelOf (rowOf [] R) b d.i)) (ρ := [("side", .int sd), ("rows", .list [.ints (rowOf [] R0), .ints (rowOf [] R1)]), ("blanks", .list [.int b0, .int b1])]) he (fr.to ⟨rfl, rfl, rfl, trivial⟩) (.frm fr he rfl) (fun g v a => iter_up (rm2 _).hh a (by decide) (by decide) (by decide) (by decide) (by decide) (by decide)) ⟨fun C g d hd he fr => ⟨.nil, fun _ => ?_⟩, fun d _ _ => .atom _ rfl, .inl fun d _ _ ns => nofun, by decide⟩ (.inl rfl)) ?_
    · obtain ⟨z, hz, rfl⟩ := map_int_mem hd
      obtain ⟨hz1, hz2⟩ := mem_rng (by decide) hz
      exact .call he (by kernel_rfl) (kept_K (by kernel_rfl)) (.cons (.item_list (.frm fr he rfl) (.frm fr he rfl) h0 hR (by omega)) (.cons (.item_list (.frm fr he rfl) (.frm fr he rfl) h0 hb (by omega)) (.cons (.frm fr he rfl) .nil))) (law_level_spec (n := n + 3) (rm2 _) hq.sorted (by have := hq.len; omega) hq.ne hq.lo (by have := hq.hi; omega) (by omega) (by omega))
    · rw [filter_true, List.map_map]
      show _ = D.list (List.map D.int (List.map _ _))
      rw [List.map_map]; rfl
  -- tables
  refine ex_lc (ds := [leadW R0 b0, leadW R1 b1, leadW (R0 ++ R1) b1]) (p := fun _ => true) (f := fun d => .dict (tableOf d.cnt)) (ρ' := []) B (fun _ _ e => nomatch e) (.bin (B.name rfl) (.list (.cons (B.name rfl) .nil)) (add_l [leadW R0 b0, leadW R1 b1] [leadW (R0 ++ R1) b1] (by simp [sizeLine]))) (fun g v a => iter_list (rm2 _).hh a) ⟨fun C g d hd he fr => ⟨.nil, fun _ => ?_⟩, fun d hd _ => .dict _ ?_, .inl fun d hd _ ns => nofun, by simp⟩ (.inl rfl) (.inl rfl) fun s14 B => ?_
  · obtain ⟨R, b, hde, h5⟩ := lead_pick hd (fun R => In5 R) h50 h51 (h50.append h51)
    subst hde
    rw [D.cnt_lead]
    exact .call he (by kernel_rfl) (kept_K (by kernel_rfl)) (.cons (.frm fr he rfl) .nil) (law_table_spec (m := n + 4) (rm2 _) (by have := (cnt_len h5).1; omega))
  · obtain ⟨R, b, hde, h5⟩ := lead_pick hd (fun R => tableOf (cntOf R) ≠ []) (table_ne' h50 hR0) (table_ne' h51 hR1) (table_ne' (h50.append h51) (by simp [hR0]))
    subst hde
    rw [D.cnt_lead]; exact h5
  replace B := B.to (ρ' := [("tables", .list (([tableOf (cntOf R0), tableOf (cntOf R1), tableOf (cntOf (R0 ++ R1))] : List (List (Int × Int))).map .dict)), ("levels", .list [.ints (levs R0 b0), .ints (levs R1 b1)]), ("sizes", .range 1 6 1), ("longest", .ints [max ((rowOf [] R0).getLastD 0) b0, max ((rowOf [] R1).getLastD 0) b1]), ("merged", .ints (rowOf [] (R0 ++ R1))), ("rows", .list [.ints (rowOf [] R0), .ints (rowOf [] R1)]), ("whole", leadW (R0 ++ R1) b1), ("leads", .list [leadW R0 b0, leadW R1 b1]), ("texts", .list [.str (S (txt R0)), .str (S (txt R1))]), ("blanks", .list [.int b0, .int b1])]) ⟨by show some (D.list [D.dict (tableOf (leadW R0 b0).cnt), D.dict (tableOf (leadW R1 b1).cnt), D.dict (tableOf (leadW (R0 ++ R1) b1).cnt)]) = _; rw [D.cnt_lead, D.cnt_lead, D.cnt_lead]; rfl, rfl, rfl, rfl, rfl, rfl, rfl, rfl, rfl, rfl, trivial⟩
  -- the first test
  refine ex_if B (.eqd (.boolop (.or_cons (.cmp (.call B.fra.ok (by kernel_rfl) (kept_K (by kernel_rfl)) (.cons (.item_list (B.name rfl) .cint (by decide) rfl) (.cons (.item_list (B.name rfl) .cint (by decide) rfl) .nil)) (add_callers_spec (m := n + 4) (rm2 _) (table_len' h50) (table_len' h51))) (.item_list (B.name rfl) .cint (by decide) rfl) (ne_dict (hu _).1 _ _)) fun _ => .or_cons (.cmp (.call B.fra.ok (by kernel_rfl) (kept_K (by kernel_rfl)) (.cons (.item_list (B.name rfl) .cint (by decide) rfl) .nil) (count_calls_spec (m := n + 4) (rm2 _))) (.attr (B.name rfl) get_nt) (ne_i _ _)) fun _ => .or_cons (.cmp (.attr (B.name rfl) get_nt) (.len B.fra.ok (B.name rfl) (by rw [List.length_map, qm.perm.length_eq]; simp; omega)) (ne_i _ _)) fun _ => .or_nil)) (test_one' h50 h51)) fun s15 B => ?_
  refine ex_nil ?_
  -- the second test
  refine ex_if B (b := false) (.cmp (B.name rfl) (.eqd (.lc (ds := [.ints (rowOf [] R0), .ints (rowOf [] R1), .ints (rowOf [] (R0 ++ R1))]) (p := fun _ => true) (f := fun d => .dict (bisT d.il)) (ρ := []) B.fra.ok (fun _ _ e => nomatch e) (.bin (B.name rfl) (.list (.cons (B.name rfl) .nil)) (add_l [.ints (rowOf [] R0), .ints (rowOf [] R1)] [.ints (rowOf [] (R0 ++ R1))] (by simp [sizeLine]))) (fun g v a => iter_list (rm2 _).hh a) ⟨fun C g d hd he fr => ⟨.nil, fun _ => ?_⟩, fun d hd _ => .dict _ ?_, .inl fun d hd _ ns => nofun, by simp⟩ (.inr rfl)) (d' := .list (([bisT (rowOf [] R0), bisT (rowOf [] R1), bisT (rowOf [] (R0 ++ R1))] : List (List (Int × Int))).map .dict)) ?_) (ne_dicts_same (hu _).1 (hu _).2.1 rfl (test_two' h50 h51))) fun s16 B => ?_
  · obtain ⟨R, hde, hq⟩ := row_pick hd (fun R => RowF R) q0 q1 qm
    subst hde
    rw [D.il_ints]
    refine .eqd (.dc (ds := (rowOf [] R).map .int) (p := fun _ => true) (fk := fun d => d.i) (fv := fun d => ((rowOf [] R).countP (· ≤ d.i) : Nat) - ((rowOf [] R).countP (· < d.i) : Nat)) (ρ := [("row", .ints (rowOf [] R))]) he (fr.to ⟨rfl, trivial⟩) (.frm fr he rfl) (fun g v a => iter_list (rm2 _).hh a) ⟨fun C g d hd he fr => ?_, by have := hq.len; simp; omega⟩ (.inl rfl)) ?_
    · obtain ⟨z, hz, rfl⟩ := map_int_mem hd
      have hl := hq.len
      refine ⟨.nil, fun _ => ⟨.frm fr he rfl, ?_⟩⟩
      exact .bin (.call he (by kernel_rfl) (kept_K (by kernel_rfl)) (.cons (.frm fr he rfl) (.cons (.frm fr he rfl) .nil)) (bisect_right_spec (n := n + 4) (rm2 _) hq.sorted (by omega))) (.call he (by kernel_rfl) (kept_K (by kernel_rfl)) (.cons (.frm fr he rfl) (.cons (.frm fr he rfl) .nil)) (bisect_left_spec (n := n + 4) (rm2 _) hq.sorted (by omega))) (sub_i _ _)
    · rw [filter_true, List.foldl_map]; rfl
  · obtain ⟨R, hde, hq⟩ := row_pick hd (fun R => bisT (rowOf [] R) ≠ []) (bisT_ne' q0.ne) (bisT_ne' q1.ne) (bisT_ne' qm.ne)
    subst hde
    rw [D.il_ints]; exact hq
  · show D.list [D.dict (bisT (D.ints (rowOf [] R0)).il), D.dict (bisT (D.ints (rowOf [] R1)).il), D.dict (bisT (D.ints (rowOf [] (R0 ++ R1))).il)] = _
    rw [D.il_ints, D.il_ints, D.il_ints]; rfl
  refine ex_nil ?_
  -- the third test
  refine ex_if B (b := false) (.eqd (.cmp (.eqd (.lc (ds := (rng 1 6 1).map .int) (p := fun _ => true) (f := fun d => .int (ilOf (cntOf (R0 ++ R1)) b1 (R0 ++ R1).length d.i)) (ρ := [("whole", leadW (R0 ++ R1) b1)]) B.fra.ok (B.fr ⟨rfl, trivial⟩) (B.name rfl) (fun g v a => iter_up (rm2 _).hh a (by decide) (by decide) (by decide) (by decide) (by decide) (by decide)) ⟨fun C g d hd he fr => ⟨.nil, fun _ => ?_⟩, fun d hd _ => .atom _ rfl, .inl fun d hd _ ns => nofun, by decide⟩ (.inl rfl)) (d' := .ints (ils (R0 ++ R1) b1)) ?_) (.eqd (.lc (ds := (rng 1 6 1).map .int) (p := fun _ => true) (f := fun d => .int (levelOf (rowOf [] (R0 ++ R1)) b1 d.i)) (ρ := [("merged", .ints (rowOf [] (R0 ++ R1))), ("blanks", .list [.int b0, .int b1])]) B.fra.ok (B.fr ⟨rfl, rfl, trivial⟩) (B.name rfl) (fun g v a => iter_up (rm2 _).hh a (by decide) (by decide) (by decide) (by decide) (by decide) (by decide)) ⟨fun C g d hd he fr => ⟨.nil, fun _ => ?_⟩, fun d hd _ => .atom _ rfl, .inl fun d hd _ ns => nofun, by decide⟩ (.inl rfl)) (d' := .ints (levs (R0 ++ R1) b1)) ?_) (ne_ints (hu _).2.2 _ _)) (by rw [ils_levs' (h50.append h51) qm]; simp)) fun s17 B => ?_
  · obtain ⟨z, hz, rfl⟩ := map_int_mem hd
    obtain ⟨hz1, hz2⟩ := mem_rng (by decide) hz
    exact .level (rm2 _) (.frm fr he rfl) (.frm fr he rfl) (by have := (cnt_len (h50.append h51)).1; omega) (show 0 < z by omega) (show z < 1000 by omega)
  · rw [filter_true, List.map_map]
    show _ = D.list (List.map D.int (List.map _ _))
    rw [List.map_map]; rfl
  · obtain ⟨z, hz, rfl⟩ := map_int_mem hd
    obtain ⟨hz1, hz2⟩ := mem_rng (by decide) hz
    exact .call he (by kernel_rfl) (kept_K (by kernel_rfl)) (.cons (.frm fr he rfl) (.cons (.item_list (.frm fr he rfl) .cint (by decide) rfl) (.cons (.frm fr he rfl) .nil))) (law_level_spec (n := n + 3) (rm2 _) qm.sorted (by have := qm.len; omega) qm.ne qm.lo (by have := qm.hi; omega) (by omega) (by omega))
  · rw [filter_true, List.map_map]
    show _ = D.list (List.map D.int (List.map _ _))
    rw [List.map_map]; rfl
  refine ex_nil ?_
  -- the two sides
  have T0 : TurnF R0 R1 b0 b1 := ⟨h50, h51, q0, q1, hb0, hb1, .inl ⟨hm0, h4⟩⟩
  have T1 : TurnF R1 R0 b1 b0 := ⟨h51, h50, q1, q0, hb1, hb0, .inr ⟨hm0, h4⟩⟩
  refine ex_for (fun i (_ : Unit) => True) (fun _ => [("levels", .list [.ints (levs R0 b0), .ints (levs R1 b1)]), ("sizes", .range 1 6 1), ("longest", .ints [max ((rowOf [] R0).getLastD 0) b0, max ((rowOf [] R1).getLastD 0) b1]), ("rows", .list [.ints (rowOf [] R0), .ints (rowOf [] R1)]), ("leads", .list [leadW R0 b0, leadW R1 b1]), ("texts", .list [.str (S (txt R0)), .str (S (txt R1))]), ("blanks", .list [.int b0, .int b1])]) (fun _ => []) (fun _ => False) (fun _ => False) () trivial (B.to ⟨rfl, rfl, rfl, rfl, rfl, rfl, rfl, trivial⟩) (.inr ⟨rfl, rfl⟩) (B.evh (.tuple (.cons .cint (.cons .cint .nil)))) (fun g v a => iter_tup (ds := [.int 0, .int 1]) (rm2 _).hh a) ?_ ?_ (fun _ _ _ h => h.elim)
  rotate_left
  · rintro ⟨⟩ s18 _ B
    exact ex_return B .cbool fun v s' r => q v s' r.ok r.keep r.at_
  rintro i ⟨⟩ d g' s18 _ hd B
  obtain ⟨sd, R, R', b, b', rfl, h0, h1, xl, xl', xt, xb, xv, xv', xm, xr, T⟩ := side_pick6 (List.mem_of_getElem? hd) T0 T1
  have hcl := (cnt_len T.h).1
  have hcl' := (cnt_len T.h').1
  refine ex_assign B (.item_list (B.name rfl) (B.name rfl) h0 xl (by omega)) (.inr ⟨rfl, rfl⟩) fun s19 B => ?_
  refine ex_assign B (.item_list (B.name rfl) (.bin .cint (B.name rfl) (sub_i _ _)) (by omega) xl' (by omega)) (.inl rfl) fun s20 B => ?_
  refine ex_if B (b := false) (.eqd (.boolop (.or_cons (.cmp (.eqd (.lc (ds := (rng 1 6 1).map .int) (p := fun _ => true) (f := fun d => .int (ilOf (cntOf R) b R.length d.i)) (ρ := [("one", leadW R b)]) B.fra.ok (B.fr ⟨rfl, trivial⟩) (B.name rfl) (fun g v a => iter_up (rm2 _).hh a (by decide) (by decide) (by decide) (by decide) (by decide) (by decide)) ⟨fun C g d hd he fr => ⟨.nil, fun _ => ?_⟩, fun d hd _ => .atom _ rfl, .inl fun d hd _ ns => nofun, by decide⟩ (.inl rfl)) (d' := .ints (ils R b)) ?_) (.item_list (B.name rfl) (B.name rfl) h0 xv (by omega)) (ne_ints (hu _).2.2 _ _)) fun _ => .or_cons (.cmp (.longest (rm2 _) (B.name rfl) (by omega)) (.item_list (B.name rfl) (B.name rfl) h0 xm (by omega)) (ne_i _ _)) fun _ => .or_nil)) (turn_one' T)) fun s21 B => ?_
  · obtain ⟨z, hz, rfl⟩ := map_int_mem hd
    obtain ⟨hz1, hz2⟩ := mem_rng (by decide) hz
    exact .level (rm2 _) (.frm fr he rfl) (.frm fr he rfl) (by omega) (show 0 < z by omega) (show z < 1000 by omega)
  · rw [filter_true, List.map_map]
    show _ = D.list (List.map D.int (List.map _ _))
    rw [List.map_map]; rfl
  refine ex_nil ?_
  have htx := txt_len T.h (by have := T.q.len; rw [T.q.perm.length_eq] at this; exact this)
  have hbx : (List.replicate b.toNat 32).length ≤ 3 := by have := T.hb; simp; omega
  refine ex_if B (b := false) (.eqd (.cmp (.eqd (.lc (ds := (rng 1 6 1).map .int) (p := fun _ => true) (f := fun d => .int (walkOf (txt R ++ List.replicate b.toNat 32) d.i)) (ρ := [("texts", .list [.str (S (txt R0)), .str (S (txt R1))]), ("blanks", .list [.int b0, .int b1]), ("side", .int sd)]) B.fra.ok (B.fr ⟨rfl, rfl, rfl, trivial⟩) (B.name rfl) (fun g v a => iter_up (rm2 _).hh a (by decide) (by decide) (by decide) (by decide) (by decide) (by decide)) ⟨fun C g d hd he fr => ⟨.nil, fun _ => ?_⟩, fun d hd _ => .atom _ rfl, .inl fun d hd _ ns => nofun, by decide⟩ (.inl rfl)) (d' := .ints (walks R b)) ?_) (.item_list (B.name rfl) (B.name rfl) h0 xv (by omega)) (ne_ints (hu _).2.2 _ _)) (by rw [walks_levs' T.h T.q T.hb]; simp)) fun s22 B => ?_
  · obtain ⟨z, hz, rfl⟩ := map_int_mem hd
    obtain ⟨hz1, hz2⟩ := mem_rng (by decide) hz
    exact .call he (by kernel_rfl) (kept_K (by kernel_rfl)) (.cons (.bin (.item_list (.frm fr he rfl) (.frm fr he rfl) h0 xt (by omega)) (.bin (.eqd .cstr (by rw [S_sp])) (.item_list (.frm fr he rfl) (.frm fr he rfl) h0 xb (by omega)) (mul_s 32 b T.hb.1 (by have := T.hb; omega))) (add_s _ _ (by simp [sizeLine]; omega))) (.cons (.frm fr he rfl) .nil)) (law_walk_spec (n := n + 4) (rm2 _) (show 0 < z by omega) (show z < 1000 by omega))
  · rw [filter_true, List.map_map]
    show _ = D.list (List.map D.int (List.map _ _))
    rw [List.map_map]; rfl
  refine ex_nil ?_
  refine ex_lc (ds := (rng 1 6 1).map .int) (p := fun _ => true) (f := fun d => .row (d.i, (levs R b).getD (d.i - 1).toNat 0, (levs R' b').getD (d.i - 1).toNat 0)) (ρ' := [("levels", .list [.ints (levs R0 b0), .ints (levs R1 b1)]), ("side", .int sd)]) B (B.fr ⟨rfl, rfl, trivial⟩) (B.name rfl) (fun g v a => iter_up (rm2 _).hh a (by decide) (by decide) (by decide) (by decide) (by decide) (by decide)) ⟨fun C g d hd he fr => ⟨.nil, fun _ => ?_⟩, fun d hd _ => .row _, .inl fun d hd _ ns => nofun, by decide⟩ (.inl rfl) (.inl rfl) fun s23 B => ?_
  · obtain ⟨z, hz, rfl⟩ := map_int_mem hd
    obtain ⟨hz1, hz2⟩ := mem_rng (by decide) hz
    exact .tuple (.cons (.frm fr he rfl) (.cons (.item_list (.item_list (.frm fr he rfl) (.frm fr he rfl) h0 xv (by omega)) (.bin (.frm fr he rfl) .cint (sub_i _ _)) (show 0 ≤ z - 1 by omega) (levs_get _ _ (show 1 ≤ z by omega) hz2) (show z - 1 < 2 ^ 63 by omega)) (.cons (.item_list (.item_list (.frm fr he rfl) (.bin .cint (.frm fr he rfl) (sub_i _ _)) (by omega) xv' (by omega)) (.bin (.frm fr he rfl) .cint (sub_i _ _)) (show 0 ≤ z - 1 by omega) (levs_get _ _ (show 1 ≤ z by omega) hz2) (show z - 1 < 2 ^ 63 by omega)) .nil)))
  have hpr : (((rng 1 6 1).map D.int).filter fun _ => true).map (fun d => D.row (d.i, (levs R b).getD (d.i - 1).toNat 0, (levs R' b').getD (d.i - 1).toNat 0)) = (pairsOf R R' b b').map .row := by rw [filter_true, List.map_map]; unfold pairsOf; rw [List.map_map]; rfl
  rw [hpr] at B
  generalize hP : pairsOf R R' b b' = P at B
  refine ex_lc (ds := P.map .row) (p := fun d => pGe d.rr.2.1 d.rr.2.2) (f := fun d => .row d.rr) (ρ' := []) B (fun _ _ e => nomatch e) (B.name rfl) (fun g v a => iter_list (rm2 _).hh a) ⟨fun C g d hd he fr => ?_, fun d hd _ => .row _, .inl fun d hd _ ns => nofun, by rw [← hP]; simp [pairsOf, rng16]⟩ (.inl rfl) (.inl rfl) fun s24 B => ?_
  · obtain ⟨r, _, rfl⟩ := map_row_mem hd
    exact ⟨.one (.cmp (.item_tup (.frm fr he rfl) .cint (by decide) rfl) (.item_tup (.frm fr he rfl) .cint (by decide) rfl) (ge_i _ _)), fun _ => .frm fr he rfl⟩
  refine ex_lc (ds := P.map .row) (p := fun d => pNe d.rr.2.1 d.rr.2.2) (f := fun d => .row d.rr) (ρ' := []) B (fun _ _ e => nomatch e) (B.name rfl) (fun g v a => iter_list (rm2 _).hh a) ⟨fun C g d hd he fr => ?_, fun d hd _ => .row _, .inl fun d hd _ ns => nofun, by rw [← hP]; simp [pairsOf, rng16]⟩ (.inl rfl) (.inl rfl) fun s25 B => ?_
  · obtain ⟨r, _, rfl⟩ := map_row_mem hd
    exact ⟨.one (.cmp (.item_tup (.frm fr he rfl) .cint (by decide) rfl) (.item_tup (.frm fr he rfl) .cint (by decide) rfl) (ne_i _ _)), fun _ => .frm fr he rfl⟩
  rw [rr_filter P fun r => pGe r.2.1 r.2.2, rr_filter P fun r => pNe r.2.1 r.2.2] at B
  replace B := B.to (ρ' := [("apart", .rows (P.filter fun r => pNe r.2.1 r.2.2)), ("worse", .rows (P.filter fun r => pGe r.2.1 r.2.2)), ("pairs", .rows P), ("one", leadW R b), ("other", leadW R' b'), ("levels", .list [.ints (levs R0 b0), .ints (levs R1 b1)]), ("sizes", .range 1 6 1), ("longest", .ints [max ((rowOf [] R0).getLastD 0) b0, max ((rowOf [] R1).getLastD 0) b1]), ("rows", .list [.ints (rowOf [] R0), .ints (rowOf [] R1)]), ("leads", .list [leadW R0 b0, leadW R1 b1]), ("texts", .list [.str (S (txt R0)), .str (S (txt R1))]), ("blanks", .list [.int b0, .int b1])]) ⟨rfl, rfl, rfl, rfl, rfl, rfl, rfl, rfl, rfl, rfl, rfl, rfl, trivial⟩
  have hbw : 0 ≤ b ∧ b < 500 := by have := T.hb; omega
  have hbw' : 0 ≤ b' ∧ b' < 500 := by have := T.hb'; omega
  refine ex_if B (b := false) (.eqd (.boolop (.or_cons (.cmp (.meth (B.name rfl) m_nlw (kept_K (by kernel_rfl)) (.cons (B.name rfl) .nil) (not_less_witness_spec (m := n + 3) (rm2 _) (by omega) (by omega) hbw hbw')) (B.name rfl) (ne_rows (hu _).2.2 _ _)) fun _ => .or_cons (.cmp (.meth (B.name rfl) m_new (kept_K (by kernel_rfl)) (.cons (B.name rfl) .nil) (not_equal_witness_spec (m := n + 3) (rm2 _) (by omega) (by omega) hbw hbw')) (B.name rfl) (ne_rows (hu _).2.2 _ _)) fun _ => .or_nil)) (by rw [← hP]; exact turn_two' T)) fun s26 B => ?_
  refine ex_nil ?_
  have hts : ∀ p : Int × Int × Int → Bool, (∀ r ∈ P.filter p, Ts r.1) ∧ (P.filter p).length ≤ 100 := by rw [← hP]; exact turn_ts R R' b b'
  refine ex_if B (b := false) (.eqd (.boolop (.or_cons (.cmp (.call B.fra.ok (by kernel_rfl) (kept_K (by kernel_rfl)) (.cons (B.name rfl) .nil) (format_witnesses_spec (m := n + 4) (rm2 _) (hts _).1 (hts _).2)) (.call B.fra.ok (by kernel_rfl) (kept_K (by kernel_rfl)) (.cons (B.name rfl) .nil) (law_words_spec (m := n + 4) (rm2 _) (hts _).1 (hts _).2)) (ne_x _ _)) fun _ => .or_cons (.cmp (.call B.fra.ok (by kernel_rfl) (kept_K (by kernel_rfl)) (.cons (B.name rfl) .nil) (format_witnesses_spec (m := n + 4) (rm2 _) (hts _).1 (hts _).2)) (.call B.fra.ok (by kernel_rfl) (kept_K (by kernel_rfl)) (.cons (B.name rfl) .nil) (law_words_spec (m := n + 4) (rm2 _) (hts _).1 (hts _).2)) (ne_x _ _)) fun _ => .or_nil)) (by rw [fmt_words', fmt_words']; simp)) fun s27 B => ?_
  refine ex_nil ?_
  refine ex_if B (b := false) (.eqd (.boolop (.or_cons (.cmp (.meth (B.name rfl) m_less (kept_K (by kernel_rfl)) (.cons (B.name rfl) .nil) (less_spec (m := n + 3) (rm2 _) (by omega) (by omega) hbw hbw')) (.cmp (B.name rfl) (.eqd (.list .nil) (rfl : D.list [] = .rows [])) (eq_rows (hu _).2.2 (P.filter fun r => pGe r.2.1 r.2.2) [])) (isNot_b _ _)) fun _ => .or_cons (.cmp (.meth (B.name rfl) m_equal (kept_K (by kernel_rfl)) (.cons (B.name rfl) .nil) (equal_spec (m := n + 4) (rm2 _))) (.cmp (B.name rfl) (.eqd (.list .nil) (rfl : D.list [] = .rows [])) (eq_rows (hu _).2.2 (P.filter fun r => pNe r.2.1 r.2.2) [])) (isNot_b _ _)) fun _ => .or_nil)) ?_) fun s28 B => ?_
  · rw [← hP]; exact turn_three' T
  refine ex_nil ?_
  refine ex_if B (b := false) (.eqd (.cmp (.cmp (B.name rfl) (.eqd (.list .nil) (rfl : D.list [] = .rows [])) (eq_rows (hu _).2.2 (P.filter fun r => pNe r.2.1 r.2.2) [])) (.and2 (.cmp (.item_list (B.name rfl) .cint (by decide) rfl) (.item_list (B.name rfl) .cint (by decide) rfl) (eq_ints (hu _).2.2 _ _)) (.cmp (.item_list (B.name rfl) .cint (by decide) rfl) (.item_list (B.name rfl) .cint (by decide) rfl) (eq_i _ _))) (ne_b _ _)) ?_) fun s29 B => ?_
  · rw [← hP]; exact turn_four' T xr
  refine ex_nil ?_
  obtain ⟨z1, z2, z3, z4⟩ : P.length = 5 ∧ (∀ i ∈ (kasRun (fun i j => klex (keyOf (P.getD i r0D)) (keyOf (P.getD j r0D))) (kas_sort 5)).toList, i < 5) ∧ (kasRun (fun i j => klex (keyOf (P.getD i r0D)) (keyOf (P.getD j r0D))) (kas_sort 5)).toList.length ≤ 1000 ∧ sort5 P = listedOf P := by rw [← hP]; exact turn_five' R R' b b'
  refine ex_if B (b := false) (.eqd (.cmp (.call B.fra.ok (by kernel_rfl) (kept_K (by kernel_rfl)) (.cons (B.name rfl) .nil) (law_listed_spec (n := n) (rm2 _) (by omega))) (.sorted (n := n + 3) (rm2 _) B.fra.ok rfl (by kernel_rfl) (B.name rfl) z1 z2 z3) (ne_rows (hu _).2.2 _ _)) (by rw [z4]; simp)) fun s30 B => ?_
  refine ex_nil ?_
  exact ex_nil ⟨(), trivial, B.to ⟨rfl, rfl, rfl, rfl, rfl, rfl, rfl, trivial⟩⟩
end
end Mine

/-! # Z1 -/
namespace Mine
theorem rm_caller (n : Nat) (h : n ≤ 10) : Rm callerA n := ⟨rfl, by show 301 + n < recursionLimit; have : recursionLimit = 1000 := rfl; omega, by show 4 + 20 * n + 200 < cLine; have : 1000 ≤ cLine := (by decide); omega⟩
theorem tnil : TriplesOk (#[] : Array Value).toList := by first | exact trivial | exact .nil | decide | rfl
/-- the state at the call is a state of the run -/
theorem inv_start {c : Wd} {h : Heap} {loose : List Str} {mean : ExcName → Option Value} (KX : c.K.In h) (hT8 : ∀ P ∈ ([198, 205] : List Addr), h.get? P = some (tabObj #[])) (T : Top hd.view_39 loose mean c.mg c.mb h) : Inv c h ∧ h.get? 160 = some (tabObj #[]) := by
  have h160 : h.get? 160 = some (tabObj #[]) := by
    have hs : ((recsOf hd.view_39).find? fun d => d.name == Str.ofString "format_witnesses").isSome = true := by kernel_rfl
    obtain ⟨d, hfd⟩ := Option.isSome_iff_exists.mp hs
    have hn : d.name = Str.ofString "format_witnesses" := beq_iff_eq.mp (List.find?_some (p := fun d : DefRec => d.name == Str.ofString "format_witnesses") hfd)
    obtain ⟨a, o, fd, c', P, x1, x2, x3, x4, x5, x6⟩ := T.tab d (List.mem_of_find?_eq_some hfd)
    rw [hn, mg_of KX T.g (by kernel_rfl : nsIn c.K mainGlobals "format_witnesses" = some (some (.ref 165)))] at x1
    cases x1
    have e1 : ∃ oc od osl name qual params body scope dV kV doc pm an ct, c.K.lookup 165 = some ⟨oc, od, .func (fnOf name qual params body scope dV kV doc pm an (.ref 164) ct), osl⟩ := ⟨_, _, _, _, _, _, _, _, _, _, _, _, _, _, rfl⟩
    obtain ⟨_, _, _, _, _, _, _, _, _, _, _, _, _, _, e1⟩ := e1
    have e2 := KX _ _ e1
    rw [x2] at e2
    cases e2
    cases x3
    cases x4
    obtain ⟨o2, vs2, file, tf, flags, tg, inF, text, tt, f1, f2, f3, f4, f5, f6, f7, f8, f9, f10⟩ := code_fw (c := c)
    obtain ⟨o3, vs3, _, _, _, _, _, _, _, _, g1, g2, g3, _⟩ := x5
    rw [KX _ _ f1] at g1
    cases g1
    rw [f3] at g2
    cases g2
    rw [f5] at g3
    cases g3
    exact x6.2
  refine ⟨⟨KX, T.g, T.b, T.nolimit, T.nodigits, ?_, ?_, ⟨#[], h160, ?_, .inl rfl⟩, ⟨#[], hT8 198 (by simp), ?_, .inl rfl⟩, ⟨#[], hT8 205 (by simp), ?_, .inl rfl⟩⟩, h160⟩
  · obtain ⟨bm, ob, b1, b2, b3, b4, b5, b6⟩ := T.bmain
    have hk : (match nsIn c.K mainGlobals "__builtins__" with | some (some (.ref N)) => decide (N ≤ 208) && !(tabA.contains N) | _ => false) = true := by kernel_rfl
    have hm : ∃ N, nsIn c.K mainGlobals "__builtins__" = some (some (.ref N)) ∧ N ≤ 208 ∧ N ∉ tabA := by
      split at hk
      · rename_i N hN
        simp only [Bool.and_eq_true, decide_eq_true_eq, Bool.not_eq_true', List.contains_eq_mem] at hk
        exact ⟨N, hN, hk.1, by simpa using hk.2⟩
      · cases hk
    obtain ⟨N, hN, n1, n2⟩ := hm
    have := mg_of KX T.g hN
    rw [b1] at this
    cases this
    exact ⟨bm, ob, b1, b2, n1, n2, b3, b4, b5, b6⟩
  · have e : ∃ o, c.K.lookup 208 = some o := ⟨_, rfl⟩
    obtain ⟨o, e⟩ := e
    exact Heap.lt_size (KX _ _ e)
  · exact tnil
  · exact tnil
  · exact tnil
theorem old_end {c : Wd} {h h' : Heap} (i : Inv c h) (i' : Inv c h') (t : ∀ P ∈ tabA, h.get? P = some (tabObj #[])) (k : Keep (hp h) (hp h')) : OldK h h' := by
  have hc : ∀ P ∈ tabA, isCodeTable h P := fun P hP => by
    have key : ∀ cd, CodeK c cd P → isCodeTable h P := fun cd x => by
      obtain ⟨o2, vs2, file, tf, flags, tg, inF, text, tt, f1, f2, f3, f4, _⟩ := x
      exact ⟨cd, o2, vs2, i.k _ _ f1, f2, f3, f4⟩
    unfold tabA at hP
    simp only [List.mem_cons, List.not_mem_nil, or_false] at hP
    rcases hP with rfl | rfl | rfl
    · exact key _ code_fw
    · exact key _ code_listed
    · exact key _ code_law
  refine ⟨fun b o e => ?_, fun b o e => ?_⟩
  · by_cases hb : b ∈ tabA
    · obtain ⟨ps, e'⟩ := i'.tab b hb
      rw [t b hb] at e
      cases e
      exact .inr (.inl ⟨hc b hb, rfl, #[], ps, rfl, by rw [e']; simp⟩)
    · exact .inl (hp_get (k _ _ (hp_of e hb)))
  · by_cases hb : b ∈ tabA
    · obtain ⟨ps, e'⟩ := i'.tab b hb
      exact ⟨_, e'⟩
    · exact ⟨o, hp_get (k _ _ (hp_of e hb))⟩
set_option maxHeartbeats 8000000 in
theorem law_holds : PySem.Challenge.rw_pe0252_01.Holds := hd (by
  k_fill
  intro w s₀ s₁ mg mb G Y fa o pm cd doc dV kV ho hd' hcd hD hmg hg args vals as hpre hlay hrd hwl hlo
  have KX := km_in_of Y
  have hT8 := km_tabs_of Y
  have X := (Ground.X G).1
  have V := (Ground.X G).2
  refine Ground.open G ?_
  intro T B D TE TW
  try (refine guard_noD D (by decide +kernel) ?_; clear D)
  wrow_args hpre hlay hrd hwl hlo
  rename_i ns hs0 hlay0 hL1 hr1 hl2 a4 a3 l vs a0 hL ra w1 r0 hI hr hc1 hc0
  let c : Wd := ⟨Challenge.rw_pe0252_01.row.prog, w, mg, mb, s₁.os, T.builtins⟩
  have hfa : fa = 208 := by
    have e := mg_of KX T.g (by kernel_rfl : nsIn (hd.heap_39 w.params) mainGlobals "law" = some (some (.ref 208)))
    rw [show mg (Str.ofString "law") = _ from hmg] at e
    cases e; rfl
  subst hfa
  obtain ⟨iv, h160⟩ := inv_start (c := c) KX hT8 T
  have ok : Ok c s₁ := ⟨iv, by rw [hg]; exact AllBare.empty, rfl⟩
  have hlen : ns.length ≤ 63 := by omega
  have w1' : Well w.params s₁.heap (.ref l) (.list (ofPys (ns.map PyData.int))) := w1
  have hat : At c (hp s₁.heap) (.ints ns) (.ref l) := by
    cases w1' with
    | @list _ vs' _ e _ =>
      obtain ⟨o', e1, e2, n, e3⟩ := hL
      rw [e] at e1
      cases e1
      cases e3
      refine at_list.mpr ⟨l, vs.toArray, 0, rfl, hp_of e ?_, IntsAre.atAll (by simpa using hI)⟩
      intro hm
      have : s₁.heap.get? l = some (tabObj #[]) := by
        unfold tabA at hm
        simp only [List.mem_cons, List.not_mem_nil, or_false] at hm
        rcases hm with rfl | rfl | rfl
        · exact h160
        · exact hT8 198 (by simp)
        · exact hT8 205 (by simp)
      rw [e] at this; cases this
  refine wpAny_mono (law_spec (c := c) (n := 0) (rm_caller 6 (by decide)) hlen s₁ [.ref l] (fun v s' => Ok c s' ∧ Keep (hp s₁.heap) (hp s'.heap) ∧ v = .bool true) ok (all1 hat) fun v s' ok' k' a' => ⟨ok', k', at_bool.mp a'⟩) (fun v s' hq => ?_) fun _ _ e => e.elim
  obtain ⟨ok', k', rfl⟩ := hq
  refine ⟨.inl ⟨_, _, [], rfl, fun _ => rfl, ReadsW.bool true, by wrow_post, fun _ => ⟨List.nodup_nil, fun _ hm => (nomatch hm)⟩⟩, old_end iv ok'.inv (fun P hP => ?_) k', ok'.os, ok'.gens⟩
  unfold tabA at hP
  simp only [List.mem_cons, List.not_mem_nil, or_false] at hP
  rcases hP with rfl | rfl | rfl
  · exact h160
  · exact hT8 198 (by simp)
  · exact hT8 205 (by simp))
end Mine

theorem PySem.Challenge.cw_pe0252_01_holds : PySem.Challenge.rw_pe0252_01.Holds := by
  exact Mine.law_holds
