import PyProof.Rows.All
import Wide.All
import OpenK.AllK
import Wide.FinOn
import Lean
import PySem.Challenge.RW_ba0004_01
open PySem PySem.W PyProof.Rows
set_option Elab.async false
set_option maxRecDepth 100000
set_option linter.all false
set_option compiler.extract_closed false
namespace Mine
section
/-- the run of the top over a tree of objects -/
noncomputable def topT (p : Program) (w : World) (n₀ : Nat) (ann : Option Value) : Nat → SharedT → Thread → Option SharedT
  | 0, _, _ => none
  | n + 1, s, t => match through t with
    | true => some s
    | false => match stepOk n₀ ann t with
      | false => none
      | true => match PySem.W.Fast.tw10156331382660048174 (PySem.W.Fast.tw11892475500146522536 PySem.W.Fast.tw14364793385576792824) p w s t with
        | some (s', t') => topT p w n₀ ann n s' t'
        | none => none
theorem topT_of {p : Program} {w : World} {n₀ : Nat} {ann : Option Value} : ∀ {n : Nat} {s s' : SharedT} {t : Thread}, topT p w n₀ ann n s t = some s' → topRun treeTable p w n₀ ann n s.abs t = some s'.abs
  | 0, _, _, _, h => nomatch h
  | n + 1, s, s', t, h => by
    unfold topT at h
    unfold topRun
    cases ht : through t with
    | true => rw [ht] at h; cases h; rfl
    | false =>
      rw [ht] at h
      cases hk : stepOk n₀ ann t with
      | false => rw [hk] at h; cases h
      | true =>
        rw [hk, ← PySem.W.Fast.te10156331382660048174, ← PySem.W.Fast.te11892475500146522536, ← PySem.W.Fast.te14364793385576792824] at h
        cases hs : stepT (denote treeTable) p w s t with
        | none => rw [hs] at h; cases h
        | some r => obtain ⟨s₂, t₂⟩ := r; rw [hs] at h; dsimp only; rw [stepT_spec hs]; exact topT_of h
/-- a list of objects as a tree -/
noncomputable def treeOf : List Obj → Nat → BT → Option BT
  | [], _, t => some t
  | o :: l, n, t => match ((t.ins n o).get n).isSome with
    | true => treeOf l (n + 1) (t.ins n o)
    | false => none
theorem treeOf_abs {life : Life} : ∀ {l : List Obj} {n : Nat} {t T : BT}, treeOf l n t = some T → absHeap T (n + l.length) life = ⟨(absHeap t n life).objs ++ l.toArray, life⟩
  | [], n, t, T, h => by cases h; simp [absHeap]
  | o :: l, n, t, T, h => by
    unfold treeOf at h
    split at h
    · rename_i g
      have := treeOf_abs (life := life) h
      rw [show n + (o :: l).length = n + 1 + l.length by rw [List.length_cons]; omega, this, absHeap_ins g]
      simp [Heap.push]
    · cases h
noncomputable def openQ (p : Program) (w : World) (N : Nat) : Option Shared := (PySem.W.Fast.tw10274390034422433532 PySem.W.Fast.tw14364793385576792824 (opening p) w N (PySem.W.Fast.tw1435165496053646825 (opening p)).1 (PySem.W.Fast.tw1435165496053646825 (opening p)).2).bind (PySem.W.Fast.tw14289696077712309145 p)
theorem openQ_eq (p : Program) (w : World) (N : Nat) : openQ p w N = fencedOpening treeTable p w N := by
  unfold openQ
  rw [← PySem.W.Fast.te10274390034422433532, ← PySem.W.Fast.te14364793385576792824, ← PySem.W.Fast.te1435165496053646825, ← PySem.W.Fast.te14289696077712309145]
  rfl
/-- an object of the tree, as the heap would give it -/
noncomputable def treeGet (s : SharedT) (a : Nat) : Option Obj := match Nat.blt a s.n with
  | true => match s.tree.get a with
    | some o => alive o
    | none => none
  | false => none
theorem treeGet_of {s : SharedT} {a : Nat} {o : Obj} (h : treeGet s a = some o) : s.abs.heap.get? a = some o := by
  unfold treeGet at h
  split at h
  · rename_i hb
    split at h
    · rename_i g
      exact (abs_get (Nat.le_of_ble_eq_true hb) g).trans h
    · cases h
  · cases h
theorem map_some_of {f g : Addr → Option Obj} (hf : ∀ a o, f a = some o → g a = some o) : ∀ {as : List Addr} {L : Frag}, as.map f = L.map (fun p => some p.2) → as.map g = L.map fun p => some p.2
  | [], [], _ => rfl
  | [], _ :: _, e => by cases e
  | _ :: _, [], e => by cases e
  | a :: as, p :: L, e => by
    rw [List.map_cons, List.map_cons] at e
    injection e with e1 e2
    rw [List.map_cons, List.map_cons, hf _ _ e1, map_some_of hf e2]
noncomputable def vw : Program := PySem.W.view PySem.Challenge.pw_ba0004_01 [0,1,3,5,6,8,10,11,12,13,14,15,16,18,19,20,21,22,23,25,26,28,29,30,31,32,33,34,35,36,37]
noncomputable def lsw : List Str := [Str.ofString "CandidateSet", Str.ofString "str_set_of_candidates", Str.ofString "get_marginal_scorefct", Str.ofString "Rule", Str.ofString "available_algorithms", Str.ofString "Profile"]
section
local macro_rules | `(tactic| o_head $H) => `(tactic| assumption)
/-- the written part of the heap, as a constant -/
theorem fk (h : PySem.Challenge.rw_ba0004_01.row.Holds) : True := by
  have : PySem.Challenge.rw_ba0004_01.row.Holds := by k_head
  trivial
end
noncomputable abbrev K : Params → Frag := fk.heap_1
noncomputable abbrev lse : List Str := looseW vw lsw
noncomputable abbrev tabO : Obj := { cls := .none, data := .fields #[] }
/-- the written part, the builtins' module and the code table of CandidateSet.__init__ -/
noncomputable abbrev Kx : Params → Frag := fun p => (4, { cls := .type "module", dict := some builtinsNs, data := .plain }) :: (52, tabO) :: K p
/-- the addresses of Kx -/
noncomputable def asx : List Addr := 4 :: 52 :: ([(2,2),(33,1),(35,2),(38,3),(43,1),(48,4),(53,2),(56,3),(60,2),(63,4),(68,2),(71,6),(79,2),(82,2),(85,3),(89,2),(92,2),(101,2),(104,2),(107,3),(111,2),(114,3),(118,2),(121,3),(125,2),(128,3),(132,2),(135,3),(139,2),(142,3),(146,2),(149,3),(153,2),(156,3),(160,2),(163,3),(167,2),(170,3),(174,2),(177,3),(181,2),(184,3),(188,2),(191,3),(195,2),(198,3),(202,2),(205,3),(209,2),(212,3),(216,2),(219,3),(223,2),(226,3),(230,2),(233,7),(242,1),(245,1),(250,2),(253,2),(256,6),(264,2),(267,2),(270,3),(274,2),(277,3),(281,2),(284,3),(288,2),(291,3),(295,2),(298,3),(302,2),(305,3),(309,2),(312,3),(316,2),(319,2),(328,4),(333,2),(336,3),(340,2),(343,4),(348,2),(351,7),(360,1),(363,1),(368,2),(371,2),(374,6),(382,1),(385,1),(390,2),(393,2),(396,6),(404,1),(407,1),(412,2),(415,2),(418,6),(426,1),(434,2),(438,3),(442,2),(445,4),(450,2),(453,3),(457,2),(460,3),(464,2),(467,3),(471,2),(474,3),(478,2),(481,3),(485,2),(488,3),(492,2),(495,3),(499,2),(502,3),(506,2),(509,3),(513,2),(516,3),(520,2),(523,3),(527,2),(530,3),(534,2),(537,3),(541,2),(544,3),(548,2),(551,3),(555,2),(558,7),(574,2),(577,2),(580,3),(584,2),(587,4),(592,2),(595,7),(604,3),(608,2),(611,4),(617,3),(621,2),(624,3),(628,2),(631,3),(635,2),(638,3),(642,2),(645,3),(650,2)] : List (Nat × Nat)).flatMap fun (a, n) => List.range' a n
theorem asx_ok (p : Params) : asx = (Kx p).map (·.1) := by kernel_rfl
theorem k_no4 (p : Params) : (K p).lookup 4 = none := by kernel_rfl
theorem k_no52 (p : Params) : (K p).lookup 52 = none := by kernel_rfl
theorem kx_52 (p : Params) : (Kx p).lookup 52 = some tabO := by kernel_rfl
theorem kx_651 (p : Params) : ((Kx p).lookup 651).isSome = true := by kernel_rfl
theorem k_sub {p : Params} {a : Addr} {o : Obj} (h : (K p).lookup a = some o) : (Kx p).lookup a = some o := by
  have h4 : (a == 4) = false := by
    cases e : a == 4 with
    | false => rfl
    | true => rw [eq_of_beq e, k_no4] at h; cases h
  have h52 : (a == 52) = false := by
    cases e : a == 52 with
    | false => rfl
    | true => rw [eq_of_beq e, k_no52] at h; cases h
  rw [show (Kx p).lookup a = (match a == 4 with | true => some _ | false => match a == 52 with | true => some _ | false => (K p).lookup a) from rfl, h4, h52]
  exact h
/-- the state without the code table of CandidateSet.__init__ -/
noncomputable def hideS (s : Shared) : Shared := { s with heap := hideAll s.heap [52] }
noncomputable abbrev modsL : List Str := importedModules PySem.Challenge.pw_ba0004_01.main.body
noncomputable abbrev XtL (s : Shared) : Bool := xlAt vw [] s && recOk (RowW.records PySem.Challenge.rw_ba0004_01.row.toRowW) s
noncomputable def obsL (s : Shared) := (asx.map s.heap.get?, s.heap.objs.size, openSeen vw lsw modsL (fun _ => true) true (hideS s))
noncomputable def valL (w : World) := ((Kx w.params).map (fun p => some p.2), 652, openGood vw lsw)
noncomputable def seeQ (N : Nat) (w : World) :=
  (openQ PySem.Challenge.pw_ba0004_01 w N).bind fun s₀ => match s₀.heap.isNs mainGlobals && s₀.gens.size == 0 with
    | false => none
    | true => (treeOf s₀.heap.objs.toList 0 .nil).bind fun T =>
      (topT PySem.Challenge.pw_ba0004_01 w s₀.heap.objs.size (s₀.heap.nsMap mainGlobals "__annotations__") N ⟨T, s₀.heap.objs.size, s₀.heap.life, s₀.gens, s₀.drawn, s₀.toks, s₀.os⟩ (topStub PySem.Challenge.pw_ba0004_01)).map fun s₁ =>
        (staticsOk modsL s₀.heap s₁.abs.heap && namesBound PySem.Challenge.pw_ba0004_01 s₁.abs.heap && gensDone s₁.abs && laidKept s₀.heap s₁.abs.heap, PySem.W.Fast.tw4187177175401517315 vw lsw modsL XtL true s₁.abs,
          asx.map (treeGet s₁), s₁.n, PySem.W.Fast.tw4187177175401517315 vw lsw modsL (fun _ => true) true (hideS s₁.abs))
set_option maxHeartbeats 0 in
theorem seen_all : ∀ w : World, seeQ 8468 w = some (true, openGood vw lsw, (Kx w.params).map (fun p => some p.2), 652, openGood vw lsw) := by intro w; kernel_rfl
theorem left_all : LeftO PySem.Challenge.pw_ba0004_01 vw lsw XtL obsL valL 8468 := by
  intro w
  have := seen_all w
  unfold seeQ at this
  rw [openQ_eq, ← PySem.W.Fast.te4187177175401517315] at this
  unfold openEnds
  obtain ⟨s₀, e0, this⟩ := Option.bind_eq_some_iff.mp this
  rw [e0]
  split at this
  · cases this
  · rename_i hg
    obtain ⟨T, eT, this⟩ := Option.bind_eq_some_iff.mp this
    obtain ⟨s₁, e1, this⟩ := Option.map_eq_some_iff.mp this
    have hr := topT_of e1
    have ha : SharedT.abs ⟨T, s₀.heap.objs.size, s₀.heap.life, s₀.gens, s₀.drawn, s₀.toks, s₀.os⟩ = s₀ := by
      have := treeOf_abs (life := s₀.heap.life) eT
      rw [Nat.zero_add] at this
      obtain ⟨⟨objs, life⟩, gens, drawn, toks, os⟩ := s₀
      show Shared.mk (absHeap T objs.size life) gens drawn toks os = _
      rw [show objs.size = objs.toList.length from rfl]
      dsimp only at this
      rw [this]
      simp [absHeap, BT.list]
    rw [ha] at hr
    obtain ⟨h1, h2⟩ := Prod.mk.inj this
    obtain ⟨h2, h3⟩ := Prod.mk.inj h2
    obtain ⟨h3, h4⟩ := Prod.mk.inj h3
    obtain ⟨h4, h5⟩ := Prod.mk.inj h4
    show Option.map _ (topFrom treeTable PySem.Challenge.pw_ba0004_01 w 8468 s₀) = _
    unfold topFrom
    rw [hg]
    dsimp only
    rw [hr]
    show Option.map _ (match staticsOk modsL s₀.heap s₁.abs.heap && namesBound PySem.Challenge.pw_ba0004_01 s₁.abs.heap && gensDone s₁.abs && laidKept s₀.heap s₁.abs.heap with | true => some s₁.abs | false => none) = _
    rw [h1]
    dsimp only [Option.map_some]
    rw [h2]
    refine congrArg some (Prod.ext rfl ?_)
    exact Prod.ext (map_some_of (fun a o e => treeGet_of e) h3) (Prod.ext ((absHeap_size _ _ _).trans h4) h5)
/-- what the law's base is to say: a heap without the table, and all that the walk asks of it -/
structure BaseOk (w : World) (h h0 : Heap) (mean : ExcName → Option Value) (mg mb : Str → Option Value) : Prop where
  sub : ∀ a o, h0.get? a = some o → h.get? a = some o
  tab : h.get? 52 = some tabO
  gone : h0.get? 52 = none
  size : h0.objs.size = 652
  last : ∃ o, h.get? 651 = some o
  top : Top vw lse mean mg mb h0
  kin : (K w.params).In h0
  kxin : ∀ a o, a ≠ 52 → (Kx w.params).lookup a = some o → h0.get? a = some o
noncomputable def saysL (w : World) (h : Heap) : Prop := ∃ h0 mean mg mb, BaseOk w h h0 mean mg mb
theorem chains_ok : chainsOk vw = true := by decide +kernel
theorem ofL (w : World) (s : Shared) (e : obsL s = valL w) : saysL w s.heap := by
  obtain ⟨e1, e2⟩ := Prod.mk.inj e
  obtain ⟨e2, e3⟩ := Prod.mk.inj e2
  have X : (Kx w.params).In s.heap := Frag.in_of (asx_ok w.params) e1
  have T := (ground_of_open (w := w) (XP := fun _ _ => True) (fun _ _ => trivial) chains_ok e3).1.T
  have hx : ∀ a o, a ≠ 52 → (Kx w.params).lookup a = some o → (hideAll s.heap [52]).get? a = some o := fun a o hn hl => hideAll_get _ (X _ _ hl) (by simpa using hn)
  refine ⟨hideAll s.heap [52], _, _, _, fun a o e => of_hideAll _ e, X _ _ (kx_52 _), hideAll_none _ (by simp), (hideAll_size _ _).trans e2, ?_, T, fun a o hl => hx a o (fun q => ?_) (k_sub hl), hx⟩
  · have := kx_651 w.params
    obtain ⟨o, ho⟩ := Option.isSome_iff_exists.mp this
    exact ⟨o, X _ _ ho⟩
  · subst q
    rw [k_no52] at hl
    cases hl
theorem keepsL (w : World) (h h' : Heap) (x : saysL w h) (k : ∀ b o, h.get? b = some o → h'.get? b = some o) : saysL w h' := by
  obtain ⟨h0, mean, mg, mb, B⟩ := x
  obtain ⟨o, ho⟩ := B.last
  exact ⟨h0, mean, mg, mb, fun a o e => k _ _ (B.sub a o e), k _ _ B.tab, B.gone, B.size, ⟨o, k _ _ ho⟩, B.top, B.kin, B.kxin⟩
/-! the law's looks, each by itself: one check of all of them takes 6 GB -/
theorem noRoad_all (lk : Look) : ∀ l : List Stmt, noRoadLSs lk l = l.all (noRoadLS lk)
  | [] => rfl
  | s :: r => by
    unfold noRoadLSs
    rw [noRoad_all lk r]
    rfl
theorem all_cut {f : Stmt → Bool} {l : List Stmt} (k : Nat) (a : (l.take k).all f = true) (b : (l.drop k).all f = true) : l.all f = true := by
  rw [← List.take_append_drop k l, List.all_append, a, b]
  rfl
noncomputable abbrev PQ : Program := PySem.Challenge.rw_ba0004_01.row.prog
theorem not_read1 : readsOut PQ PQ.main.body "vars" = false := by decide +kernel
theorem not_read2 : readsOut PQ PQ.main.body "dir" = false := by decide +kernel
theorem not_read3 : readsOut PQ PQ.main.body "locals" = false := by decide +kernel
theorem bare_none : (["vars", "dir", "locals"] : List Str).filter (readsOut PQ PQ.main.body) = [] := by
  simp only [List.filter_cons, not_read1, not_read2, not_read3, List.filter_nil, Bool.false_eq_true, if_false]
theorem not_strict : (!(importedModules PQ.main.body).all cThrough.contains) = false := by decide +kernel
noncomputable abbrev lkQ : Look := { strict := false, foot := none, bare := [] }
theorem road1 : ((PQ.main.body.take 12).all (noRoadLS lkQ)) = true := by decide +kernel
theorem road2 : (((PQ.main.body.drop 12).take 6).all (noRoadLS lkQ)) = true := by decide +kernel
theorem road3 : ((((PQ.main.body.drop 12).drop 6).take 6).all (noRoadLS lkQ)) = true := by decide +kernel
theorem road4 : ((((PQ.main.body.drop 12).drop 6).drop 6).all (noRoadLS lkQ)) = true := by decide +kernel
theorem roads : noRoadLSs { strict := !(importedModules PQ.main.body).all cThrough.contains, foot := none, bare := (["vars", "dir", "locals"] : List Str).filter (readsOut PQ PQ.main.body) } PQ.main.body = true := by
  rw [bare_none, not_strict, noRoad_all]
  exact all_cut 12 road1 (all_cut 6 road2 (all_cut 6 road3 road4))
theorem looks_ok : looksOpen PQ = true := by
  unfold looksOpen
  refine look_both (look_both (look_both (look_both (look_both ?_ ?_) ?_) ?_) roads) ?_
  all_goals decide +kernel
theorem part_ok : PySem.Challenge.rw_ba0004_01.row.partSaid = true := by
  unfold OpenRow.partSaid
  repeat' (with_reducible refine look_both ?_ ?_)
  all_goals first | with_reducible exact looks_ok | decide +kernel
theorem row_ok : PySem.Challenge.rw_ba0004_01.row.wellSaid = true := by
  unfold OpenRow.wellSaid
  refine look_both (look_both part_ok ?_) ?_
  all_goals decide +kernel
theorem law_ok : PySem.Challenge.rw_ba0004_01.wellSaid = true := by
  unfold OpenLaw.wellSaid
  repeat' (with_reducible refine look_both ?_ ?_)
  all_goals first | with_reducible exact row_ok | decide +kernel
local macro_rules | `(tactic| o_law) => `(tactic| (refine holds_law Mine.law_ok fun said => ?_))
local macro_rules | `(tactic| k_head) => `(tactic| (refine holds_open (r := PySem.Challenge.rw_ba0004_01.row) (q := Mine.vw) (loose := Mine.lsw) (Xt := Mine.XtL) (XP := XL Mine.vw []) (Yf := Mine.obsL) (Ya := Mine.valL) (YP := Mine.saysL) (N := 8468) Mine.left_all Mine.ofL Mine.keepsL (fun s e => xl_of s (Bool.and_eq_true_iff.mp e).1) XL.keeps (by rfl) (by rfl) (by rfl) (fun s e => recFacts_of (Bool.and_eq_true_iff.mp e).2) (by rfl) (by first | assumption | decide +kernel) (by decide +kernel) ⟨rfl, rfl, rfl, rfl, rfl, by decide +kernel⟩ ?hw ?hc; rotate_left 0))
set_option maxHeartbeats 0 in
open_top hd for PySem.Challenge.rw_ba0004_01
/-- the walker's own marks of the head put back: what walks behind walks as in a text apart -/
theorem put_back : True := by
  w_top off
  trivial
end
section
noncomputable abbrev P : Program := PySem.Challenge.rw_ba0004_01.row.prog
/-- the law's frame, its names left open -/
noncomputable abbrev lawEnv (nm : Str) (nms : List (Str × NameKind)) (mr : List (Str × Const)) (L fa : Addr) (cd : Value) : Env :=
  envOf nm { kind := .function, names := nms, isGenerator := false, isCoroutine := false, more := mr } L fa cd

/-- all that the base and the ledger say is so at h -/
structure Keeps (b : Heap) (nw : List (Addr × Obj)) (h : Heap) : Prop where
  old : ∀ x o, b.get? x = some o → h.get? x = some o
  new : ∀ p ∈ nw, h.get? p.1 = some p.2
theorem Keeps.of {b h : Heap} {L : Addr} {m : Str → Option Value} {nw nw' : List (Addr × Obj)} (F : Fr b L h m) (N : News b L h nw') (hs : ∀ p ∈ nw, p ∈ nw') : Keeps b nw h :=
  ⟨F.keep, fun p hp => (N p (hs p hp)).1⟩
theorem Keeps.deep {b g h : Heap} {A : Around} {outer : List Env} {L : Addr} {m : Str → Option Value} {nw nw' : List (Addr × Obj)} (B : Below A b outer g) (F : Fr g L h m) (N : News g L h nw') (hs : ∀ p ∈ nw, p ∈ nw') : Keeps b nw h :=
  ⟨fun x o e => F.keep _ _ (B.stays _ _ e), fun p hp => (N p (hs p hp)).1⟩

/-- what the law's three answers of «one or all» are -/
inductive WayV : Value → PyData → Str → Bool → Prop
  | yes : WayV (.bool true) (.bool true) (Str.ofString "True") true
  | no : WayV (.bool false) (.bool false) (Str.ofString "False") false
  | none : WayV .none .none (Str.ofString "None") false
/-- the six bounds: is it told, is it bad -/
inductive BoundV : Value → Bool → Bool → Prop
  | none : BoundV .none false false
  | int (k : Int) (t : Tok) (hk : k = 1 ∨ k = 3 ∨ k = 0 ∨ k = -1) : BoundV (.int k t) true (decide (k < 1))
  | text (t : Tok) : BoundV (.str (Str.ofString "2") t) true true
theorem WayV.reads {r : Value} {d : PyData} {x : Str} {b : Bool} (H : WayV r d x b) (h : Heap) : Reads h r d [] := by cases H <;> constructor
theorem WayV.lay {r : Value} {d : PyData} {x : Str} {b : Bool} (H : WayV r d x b) : d.canLay0 = true ∧ d.depth ≤ 1 := by cases H <;> exact ⟨rfl, by decide⟩

/-- the tuple at a, wherever it lies -/
noncomputable abbrev TupR (b : Heap) (nw : List (Addr × Obj)) (a : Addr) (ds : List PyData) : Prop := ∀ h, Keeps b nw h → ∃ as, Reads h (.ref a) (.tuple ds) as
section
variable {prog : Program} {w : World} {A : Around} {E : Value → Shared → Prop} {s : Shared} {b : Heap} {nw : List (Addr × Obj)} {a : Addr} {Q : Value → Shared → Prop}
theorem TupR.strs {h : Heap} {ts : List Str} (H : TupR b nw a (ts.map PyData.str)) (k : Keeps b nw h) : ∃ vs : List Value, IsTup h a vs.toArray ∧ StrsAre vs ts := by
  obtain ⟨as, r⟩ := H _ k
  cases r with
  | @tuple _ o vs n _ _ h1 h2 h3 h4 => exact ⟨vs.toList, ⟨o, h1, h2, n, by simpa using h3⟩, (readsAll_are_strs h4).1⟩
theorem notin_alg {ts : List Str} {x : Str} {t : Tok} (H : TupR b nw a (ts.map PyData.str)) (k : Keeps b nw s.heap)
    (h : Q (.bool (!ts.any (· == x))) s) : wpAny (model prog w) A (compareOp .NotIn (.str x t) (.ref a)) Q E s := by
  obtain ⟨vs, ht, hs⟩ := H.strs k
  exact notin_tuple_strs ht hs h
theorem notin_way {wd : List PyData} {r : Value} {d : PyData} {x : Str} {tr : Bool} (H : TupR b nw a wd) (k : Keeps b nw s.heap) (hr : WayV r d x tr) (hl : PyData.canLayAll0 wd = true) (hu : A.units + 4 < cLine)
    (h : Q (.bool (!wd.any fun y => PyData.eqv y d)) s) : wpAny (model prog w) A (compareOp .NotIn r (.ref a)) Q E s := by
  obtain ⟨as, rt⟩ := H _ k
  refine SeqAt.notIn_tuple_reads rt (hr.reads _) hl hr.lay.1 ?_ h
  have := hr.lay.2
  have : min (PyData.depthAll wd) d.depth ≤ 1 := Nat.le_trans (Nat.min_le_right _ _) this
  omega
end

/-- the first fault, as the law says it -/
noncomputable def fault (nm al : Str) (mm vv sz : Int) (inA inW : Bool) (rt : Str) (bad tied : Bool) : Str × Str :=
  if sz < 1 then (Str.ofString "value", Str.ofString "Parameter `committeesize` must be a positive integer.")
  else if mm < sz then (Str.ofString "value", Str.ofString "Parameter `committeesize` must be smaller or equal to the total number of candidates.")
  else if vv = 0 then (Str.ofString "value", Str.ofString "The given profile contains no voters (len(profile) == 0).")
  else if inA = false then (Str.ofString "algorithm", Str.ofString "Algorithm " ++ al ++ Str.ofString " not specified for ABC rule " ++ nm ++ Str.ofString ".")
  else if inW = false then (Str.ofString "way", Str.ofString "ABC rule with rule_id \"" ++ nm ++ Str.ofString "\" does not support resolute=" ++ rt ++ Str.ofString ".")
  else if bad = true then (Str.ofString "value", Str.ofString "Parameter `max_num_of_committees` must be None or a positive integer.")
  else if tied = true then (Str.ofString "value", Str.ofString "Parameter `max_num_of_committees` cannot be used when `resolute` is set to True.")
  else (Str.ofString "fine", Str.ofString "")
section
variable {nm al rt : Str} {mm vv sz : Int} {inA inW bad tied : Bool}
theorem fault_1 (h : sz < 1) : (Str.ofString "value", Str.ofString "Parameter `committeesize` must be a positive integer.") = fault nm al mm vv sz inA inW rt bad tied := by
  unfold fault; rw [if_pos h]
theorem fault_2 (h1 : ¬ sz < 1) (h : mm < sz) : (Str.ofString "value", Str.ofString "Parameter `committeesize` must be smaller or equal to the total number of candidates.") = fault nm al mm vv sz inA inW rt bad tied := by
  unfold fault; rw [if_neg h1, if_pos h]
theorem fault_3 (h1 : ¬ sz < 1) (h2 : ¬ mm < sz) (h : vv = 0) : (Str.ofString "value", Str.ofString "The given profile contains no voters (len(profile) == 0).") = fault nm al mm vv sz inA inW rt bad tied := by
  unfold fault; rw [if_neg h1, if_neg h2, if_pos h]
theorem fault_4 (h1 : ¬ sz < 1) (h2 : ¬ mm < sz) (h3 : vv ≠ 0) (h : inA = false) : (Str.ofString "algorithm", Str.ofString "Algorithm " ++ al ++ Str.ofString " not specified for ABC rule " ++ nm ++ Str.ofString ".") = fault nm al mm vv sz inA inW rt bad tied := by
  unfold fault; rw [if_neg h1, if_neg h2, if_neg h3, if_pos h]
theorem fault_5 (h1 : ¬ sz < 1) (h2 : ¬ mm < sz) (h3 : vv ≠ 0) (h4 : inA = true) (h : inW = false) : (Str.ofString "way", Str.ofString "ABC rule with rule_id \"" ++ nm ++ Str.ofString "\" does not support resolute=" ++ rt ++ Str.ofString ".") = fault nm al mm vv sz inA inW rt bad tied := by
  unfold fault; subst h4; rw [if_neg h1, if_neg h2, if_neg h3, if_neg (by decide), if_pos h]
theorem fault_6 (h1 : ¬ sz < 1) (h2 : ¬ mm < sz) (h3 : vv ≠ 0) (h4 : inA = true) (h5 : inW = true) (h : bad = true) : (Str.ofString "value", Str.ofString "Parameter `max_num_of_committees` must be None or a positive integer.") = fault nm al mm vv sz inA inW rt bad tied := by
  unfold fault; subst h4 h5; rw [if_neg h1, if_neg h2, if_neg h3, if_neg (by decide), if_neg (by decide), if_pos h]
theorem fault_7 (h1 : ¬ sz < 1) (h2 : ¬ mm < sz) (h3 : vv ≠ 0) (h4 : inA = true) (h5 : inW = true) (h6 : bad = false) (h : tied = true) : (Str.ofString "value", Str.ofString "Parameter `max_num_of_committees` cannot be used when `resolute` is set to True.") = fault nm al mm vv sz inA inW rt bad tied := by
  unfold fault; subst h4 h5 h6; rw [if_neg h1, if_neg h2, if_neg h3, if_neg (by decide), if_neg (by decide), if_neg (by decide), if_pos h]
theorem fault_8 (h1 : ¬ sz < 1) (h2 : ¬ mm < sz) (h3 : vv ≠ 0) (h4 : inA = true) (h5 : inW = true) (h6 : bad = false) (h7 : tied = false) : (Str.ofString "fine", Str.ofString "") = fault nm al mm vv sz inA inW rt bad tied := by
  unfold fault; subst h4 h5 h6 h7; rw [if_neg h1, if_neg h2, if_neg h3, if_neg (by decide), if_neg (by decide), if_neg (by decide), if_neg (by decide)]
end
section
variable {prog : Program} {w : World} {A : Around} {E : Value → Shared → Prop} {s : Shared} {x y : Str} {t u : Tok} {k j : Nat} {r : Value} {d : PyData} {tr : Bool} {Q : Value → Shared → Prop}
theorem add_len (hx : x.length ≤ k) (hy : y.length ≤ j) (hs : k + j ≤ 16777216)
    (h : ∀ t' tk, Q (.str (x ++ y) t') { s with toks := tk }) : wpAny (model prog w) A (binaryOp .Add (.str x t) (.str y u)) Q E s :=
  add_str h (by rw [sizeLine_eq]; omega)
theorem len_app (hx : x.length ≤ k) (hy : y.length ≤ j) : (x ++ y).length ≤ k + j := by rw [PySem.Str.length_append]; omega
theorem len_lit {x : String} {k : Nat} (h : decide ((Str.ofString x).length ≤ k) = true) : (Str.ofString x).length ≤ k := of_decide_eq_true h
theorem str_way (hr : WayV r d x tr) (h : ∀ t tk, Q (.str x t) { s with toks := tk }) : wpAny (model prog w) A (call (.type "str") [r]) Q E s := by
  cases hr with
  | yes => exact P.str_of_bool (h _ _)
  | no => exact P.str_of_bool (h _ _)
  | none => exact P.str_of_none (h _ _)
theorem truthy_way {M : Model} {Q : Bool → Shared → Prop} (hr : WayV r d x tr) (h : Q tr s) : wpAny M A (truthy r) Q E s := by
  cases hr with
  | yes => exact fun _ _ _ => h
  | no => exact fun _ _ _ => h
  | none => exact fun _ _ _ => h
theorem WayV.len (hr : WayV r d x tr) : x.length ≤ 10 := by cases hr <;> decide +kernel
theorem len_known {b : Heap} {L a : Addr} {nw : List (Addr × Obj)} {its : Array Value} {n : Nat} {k : Int} (N : News b L s.heap nw) (hm : (a, W.listOf its n) ∈ nw) (hs : (its.size : Int) = k) (hk : k ≤ 4)
    (h : ∀ t tk, Q (.int k t) { s with toks := tk }) : wpAny (model prog w) A (call (.builtin "len") [.ref a]) Q E s := by
  have hl : s.heap.IsList a its := ⟨_, (N _ hm).1, rfl, n, rfl⟩
  subst hs
  exact len_list hl (by omega) (h _ _)
theorem field_way (hr : WayV r d x tr) (h : ∀ t tk, Q (.str x t) { s with toks := tk }) : wpAny (model prog w) A (formatField r Str.empty) Q E s := by
  cases hr with
  | yes => exact wpAny_formatField_bool (h _ _)
  | no => exact wpAny_formatField_bool (h _ _)
  | none => exact wpAny_formatField_none (h _ _)
end
end
section
noncomputable def nthS : Nat → List Stmt → Stmt
  | 0, st :: _ => st
  | n + 1, _ :: r => nthS n r
  | _, [] => .Pass default
noncomputable def defBody : Stmt → List Stmt
  | .FunctionDef _ _ body _ _ _ _ _ _ _ => body
  | _ => []
noncomputable def defScope : Stmt → Scope
  | .FunctionDef _ _ _ _ _ _ sc _ _ _ => sc
  | _ => { kind := .function, names := [], isGenerator := false, isCoroutine := false }
noncomputable def lawScope : Scope := defScope (nthS 37 P.main.body)
theorem lawStmt_ex : ∃ f : Nat → Stmt, ∀ i, f i = nthS i (defBody (nthS 37 P.main.body)) := ⟨_, fun _ => rfl⟩
/-- the law's statements, closed to the elaborator: it would reduce a lemma's conclusion that names one -/
noncomputable def lawStmt (i : Nat) : Stmt := Classical.choose lawStmt_ex i
theorem lawStmt_eq (i : Nat) : lawStmt i = nthS i (defBody (nthS 37 P.main.body)) := Classical.choose_spec lawStmt_ex i
noncomputable def lawE (L fa : Addr) (cd : Value) : Env := envOf (Str.ofString "law") lawScope L fa cd
/-- the eight draws, as the ledger holds them -/
noncomputable abbrev drawsObj (d0 d1 d2 d3 d4 d5 d6 d7 : Int) (t0 t1 t2 t3 t4 t5 t6 t7 : Tok) : Obj := LCg.lst [.int d0 t0, .int d1 t1, .int d2 t2, .int d3 t3, .int d4 t4, .int d5 t5, .int d6 t6, .int d7 t7]
/-- a frame's names with one more -/
noncomputable abbrev upd (m : Str → Option Value) (x : String) (v : Value) : Str → Option Value := fun z => if z = Str.ofString x then some v else m z
theorem upd_same {m : Str → Option Value} {x : String} {v : Value} : upd m x v (Str.ofString x) = some v := if_pos rfl
theorem upd_other {m : Str → Option Value} {x y : String} {v : Value} {r : Option Value} (hm : m (Str.ofString y) = r) (h : Str.ofString y ≠ Str.ofString x) : upd m x v (Str.ofString y) = r := (if_neg h).trans hm
noncomputable def Stop (p : Prop) : Prop := p
theorem stop_of {p : Prop} (h : Stop p) : p := h
section
variable {prog : Program} {w : World} {A : Around} {E : Value → Shared → Prop} {s : Shared} {b : Heap} {L : Addr} {nw : List (Addr × Obj)}
theorem item_arr {value slice : PySem.Expr} {l : Addr} {vs : Array Value} {n : Nat} {k : Int} {u : Tok} {v : Value} {Q : Value → Shared → Prop} (N : News b L s.heap nw) (hm : (l, ({ cls := .type "list", data := .seq vs n } : Obj)) ∈ nw)
    (h0 : 0 ≤ k) (hhi : k < 2 ^ 63) (hx : vs[k.toNat]? = some v) (hs : subscripted slice false (.ref l) (.int k u) = operate [.ref l, .int k u] (getItem (.ref l) (.int k u))) (h : Q v s) :
    wpAny (model prog w) A (subscriptTail value slice (.ref l) (.int k u)) Q E s :=
  have hl : s.heap.IsList l vs := ⟨_, (N _ hm).1, rfl, n, rfl⟩
  tail_any hl.typeIs slot_list_getitem.lookup (wpAny_getItem_list hl h0 hhi hx h) hs
theorem item_in {value slice : PySem.Expr} {l : Addr} {vs : List Value} {n : Nat} {k : Int} {u : Tok} {v : Value} {Q : Value → Shared → Prop} (N : News b L s.heap nw) (hm : (l, ({ cls := .type "list", data := .seq vs.toArray n } : Obj)) ∈ nw)
    (h0 : 0 ≤ k) (hhi : k < 2 ^ 63) (hx : vs[k.toNat]? = some v) (hs : subscripted slice false (.ref l) (.int k u) = operate [.ref l, .int k u] (getItem (.ref l) (.int k u))) (h : Q v s) :
    wpAny (model prog w) A (subscriptTail value slice (.ref l) (.int k u)) Q E s := item_arr N hm h0 hhi (by simpa using hx) hs h
theorem truthy_in {l : Addr} {vs : Array Value} {n : Nat} {Q : Bool → Shared → Prop} (N : News b L s.heap nw) (hm : (l, ({ cls := .type "list", data := .seq vs n } : Obj)) ∈ nw) (h8 : vs.size ≤ 8) (h : ∀ tk, Q (!vs.isEmpty) { s with toks := tk }) :
    wpAny (model prog w) A (truthy (.ref l)) Q E s :=
  wpAny_truthy_list ⟨_, (N _ hm).1, rfl, n, rfl⟩ (by omega) (h _)
end
end
section
local macro_rules | `(tactic| walk_at "pad") => `(tactic| fail)
open PySem PySem.W PySem.Spec PySem.Calls PyProof.Rows
section
variable {prog : Program} {w : World} {A : Around} {E : Value → Shared → Prop} {h : Heap} {g : Array GenState} {d : Drawn} {t : Nat} {os : OsState}
variable {nm q : Str} {C N : Addr} {bs bm : List Value} {hdct : Bool} {sn : List Str} {sub : List Value} {ab : Bool} {col : Option Bool} {dd : Option Addr} {k0 k1 k2 k3 k5 : Option Value} {newId : String}
theorem bound_check {M : Model} {e : Addr} {oe : Obj} {m : Str} {u : Tok} {Q : Unit → Shared → Prop} (hbm : bm.contains (.type "ValueError") = true)
    (hC : h.get? C = some (excClassObj nm q C N bs bm hdct sn sub ab col dd k0 k1 k2 k3 k5 newId)) (he : h.get? e = some oe) (hcls : oe.cls = .ref C) (hq : Q () ⟨h, g, d, t, os⟩) :
    wpAny M A (checkBoundCall "ValueError.__init__" ⟨[.ref e, .str m u], []⟩) Q E ⟨h, g, d, t, os⟩ := by
  have F := PySem.F.excBase_ValueError
  have hshort := F.noStar
  have hcB : (Value.ref C :: bm).contains (.type "ValueError") = true := by rw [List.contains_cons, hbm, Bool.or_true]
  simp only [checkBoundCall, F.initKind, F.initRow]
  rw [if_pos (by decide)]
  repeat (first | (with_reducible refine wpAny_loadPart_at he ?_; rw [hcls]) | with_reducible refine wpAny_loadPart_at hC ?_ | (with_reducible refine wpAny_isSubtype_exc hC ?_; rw [hcB]) | (first | with_reducible (first | refine PySem.wpAny_pure ?_ | refine PySem.wpAny_bind ?_ | refine PySem.wpAny_holding ?_ | refine PySem.wpAny_standAt ?_ | refine PySem.wpAny_point ?_ | refine PySem.wpAny_rule ?_ | refine PySem.wpAny_letGo ?_ | refine PySem.wpAny_mkInt' ?_ | refine PySem.wpAny_fresh' ?_ | refine PySem.wpAny_alloc' ?_ | refine PySem.wpAny_attempt ?_ | refine PySem.wpAny_throw ?_ | refine PySem.wpAny_of_eq (by assumption) ?_ | refine PySem.wpAny_typeOf (by assumption) ?_ | refine PySem.wpAny_specialOf_val (by assumption) (by assumption) ?_ | refine PySem.wpAny_specialOf (by assumption) (by assumption) ?_ | refine PySem.wpAny_isInstance_val (by assumption) (by assumption) ?_ | refine PySem.wpAny_isInstance (by assumption) (by assumption) ?_ | refine PySem.wpAny_call ?_ | refine PySem.wpAny_runValue ?_ | refine PySem.wpAny_run ?_) | ((fail_if_success (with_reducible show PySem.wpAny _ _ (PySem.mkStr _) _ _ _)); wp_delta) | ((with_reducible apply PySem.wpAny_load'); focus (heap_get; done)) | ((with_reducible apply PySem.wpAny_update'); focus (heap_get; done)) | ((with_reducible apply PySem.wpAny_handled_none); focus (assumption; done)) | ((with_reducible apply PySem.wpAny_ite_false); focus (rfl; done)) | ((with_reducible apply PySem.wpAny_ite_true); focus (rfl; done)) | ((with_reducible apply PySem.wpAny_ite_false); focus (simp [*]; done)) | ((with_reducible apply PySem.wpAny_ite_true); focus (simp [*]; done)) | ((with_reducible show PySem.wpAny _ _ _ _ _ _); wp_step)))
  exact hq
theorem call_mw {mw e t0 : Addr} {m : Str} {u : Tok} {Q : Value → Shared → Prop}
    (hbm : bm.contains (.type "ValueError") = true) (hC : h.get? C = some (excClassObj nm q C N bs bm hdct sn sub ab col dd k0 k1 k2 k3 k5 newId))
    (hmw : h.get? mw = some { cls := .type "method-wrapper", data := .fields #[.builtin "ValueError.__init__", .ref e] })
    (he : h.get? e = some { cls := .ref C, data := .fields #[.ref t0, .none, .none, .none, .bool false, .none] })
    (hq : ∀ h', h'.get? e = some { cls := .ref C, data := .fields #[.ref h.objs.size, .none, .none, .none, .bool false, .none] } → h'.get? h.objs.size = some { cls := .type "tuple", data := .seq #[.str m u] } →
      (∀ b o, b ≠ e → h.get? b = some o → h'.get? b = some o) → Q .none ⟨h', g, d, t, os⟩) :
    wpAny (model prog w) A (call (.ref mw) [.str m u]) Q E ⟨h, g, d, t, os⟩ := by
  have F := PySem.F.excBase_ValueError
  refine wpAny_call (codeAny_of_tree ?_)
  show wpAny _ _ (callAny (.ref mw) _) _ _ _
  unfold callAny
  refine wpAny_bind (wpAny_load hmw ?_)
  dsimp only
  rw [if_pos (by decide)]
  simp only [show (#[.builtin "ValueError.__init__", .ref e] : Array Value)[0]? = some (.builtin "ValueError.__init__") from rfl, show (#[.builtin "ValueError.__init__", .ref e] : Array Value)[1]? = some (.ref e) from rfl]
  rw [if_pos (by decide)]
  refine wpAny_bind (bound_check hbm hC he rfl ?_)
  refine wpAny_pure ⟨Code.quiet_builtin _ (by decide +kernel), codeAny_builtin F.initEntry ?_⟩
  unfold Builtin.«BaseException.__init__»
  wp_walk
  have he₁ := Heap.get?_push_of_some { cls := .type "tuple", data := .seq #[Value.str m u] } he
  have hne : e ≠ h.objs.size := Nat.ne_of_lt (Heap.lt_size he)
  refine hq _ ((Heap.get?_update_self _ he₁ rfl).trans rfl) ((Heap.get?_update_other _ _ hne).trans (Heap.get?_push_at rfl rfl)) fun b o hb ho => ?_
  exact (Heap.get?_update_other _ _ (Ne.symm hb)).trans (Heap.get?_push_of_some _ ho)
theorem slot_wd_get : Slot "wrapper_descriptor" "__get__" "wrapper_descriptor.__get__" := .of (owner := "wrapper_descriptor") (n := "__get__") (by rw [typeLookup_type, builtinLookup_eq_fast]; kernel_rfl) (by decide +kernel) (by decide +kernel) (by decide +kernel)
  (by first | exact .inl (by decide +kernel) | exact .inr (by decide +kernel)) (by rw [isSubtype_type]; kernel_rfl)
theorem entry_wd_get : entryFor table "wrapper_descriptor.__get__" = some Builtin.«wrapper_descriptor.__get__» := entryFor_of_tree (by kernel_rfl)
theorem getArgs_wd (a b c : Value) : argsOk "wrapper_descriptor.__get__" ⟨[a, b, c], []⟩ := by unfold argsOk; kernel_rfl
theorem type_vei (s : Shared) : s.TypeIs (.builtin "ValueError.__init__") "wrapper_descriptor" := by
  show typeOf (.builtin "ValueError.__init__") = pure (.type "wrapper_descriptor")
  kernel_rfl
theorem wd_get {e : Addr} {oe : Obj} {P : Fin → Shared → Prop} (hbm : bm.contains (.type "ValueError") = true) (hC : h.get? C = some (excClassObj nm q C N bs bm hdct sn sub ab col dd k0 k1 k2 k3 k5 newId)) (he : h.get? e = some oe) (hcls : oe.cls = .ref C)
    (hq : P (.done (.ret (.ref h.objs.size))) ⟨h.push { cls := .type "method-wrapper", data := .fields #[.builtin "ValueError.__init__", .ref e] }, g, d, t, os⟩) :
    wpAny (model prog w) A (Builtin.«wrapper_descriptor.__get__» ⟨[.builtin "ValueError.__init__", .ref e, .ref C], []⟩) P E ⟨h, g, d, t, os⟩ := by
  have hcB : (Value.ref C :: bm).contains (.type "ValueError") = true := by rw [List.contains_cons, hbm, Bool.or_true]
  have hown : ".".intercalate ("ValueError.__init__".cutAt '.').dropLast = "ValueError" := by decide +kernel
  unfold Builtin.«wrapper_descriptor.__get__»
  repeat (first | (with_reducible refine wpAny_loadPart_at he ?_; rw [hcls]) | with_reducible refine wpAny_loadPart_at hC ?_ | (with_reducible refine wpAny_isSubtype_exc hC ?_; rw [hown, hcB]) | (with_reducible refine wpAny_newObj_type ?_ (by size_fits)) | (first | with_reducible (first | refine PySem.wpAny_pure ?_ | refine PySem.wpAny_bind ?_ | refine PySem.wpAny_holding ?_ | refine PySem.wpAny_standAt ?_ | refine PySem.wpAny_point ?_ | refine PySem.wpAny_rule ?_ | refine PySem.wpAny_letGo ?_ | refine PySem.wpAny_mkInt' ?_ | refine PySem.wpAny_fresh' ?_ | refine PySem.wpAny_alloc' ?_ | refine PySem.wpAny_attempt ?_ | refine PySem.wpAny_throw ?_ | refine PySem.wpAny_of_eq (by assumption) ?_ | refine PySem.wpAny_typeOf (by assumption) ?_ | refine PySem.wpAny_specialOf_val (by assumption) (by assumption) ?_ | refine PySem.wpAny_specialOf (by assumption) (by assumption) ?_ | refine PySem.wpAny_isInstance_val (by assumption) (by assumption) ?_ | refine PySem.wpAny_isInstance (by assumption) (by assumption) ?_ | refine PySem.wpAny_call ?_ | refine PySem.wpAny_runValue ?_ | refine PySem.wpAny_run ?_) | ((fail_if_success (with_reducible show PySem.wpAny _ _ (PySem.mkStr _) _ _ _)); wp_delta) | ((with_reducible apply PySem.wpAny_load'); focus (heap_get; done)) | ((with_reducible apply PySem.wpAny_update'); focus (heap_get; done)) | ((with_reducible apply PySem.wpAny_handled_none); focus (assumption; done)) | ((with_reducible apply PySem.wpAny_ite_false); focus (rfl; done)) | ((with_reducible apply PySem.wpAny_ite_true); focus (rfl; done)) | ((with_reducible apply PySem.wpAny_ite_false); focus (simp [*]; done)) | ((with_reducible apply PySem.wpAny_ite_true); focus (simp [*]; done)) | ((with_reducible show PySem.wpAny _ _ _ _ _ _); wp_step)))
  exact hq
theorem super_gaB {so D x : Addr} {ox : Obj} {l₀ l : List Value} {K : Frag} {name : Str} {tk : Tok} {P : Fin → Shared → Prop} (hbm : bm.contains (.type "ValueError") = true)
    (hCo : h.get? C = some (excClassObj nm q C N bs bm hdct sn sub ab col dd k0 k1 k2 k3 k5 newId)) (hx : h.get? x = some ox) (hcls : ox.cls = .ref C)
    (hso : h.get? so = some { cls := .type "super", dict := none, data := .fields #[.ref D, .ref x, .ref C], slots := #[] }) (hno : Looks (model prog w) h (opaqueClassAbove (.ref C)) none)
    (hC : Looks (model prog w) h (mroOf (.ref C)) l₀) (hl : (l₀.dropWhile (· != .ref D)).drop 1 = l) (X : K.In h)
    (hf : alongIn K name l = some (some (.builtin "ValueError.__init__"))) (hxC : x ≠ C) (hn : (name == ("__class__" : Str)) = false)
    (hq : P (.done (.ret (.ref h.objs.size))) ⟨h.push { cls := .type "method-wrapper", data := .fields #[.builtin "ValueError.__init__", .ref x] }, g, d, t, os⟩) :
    wpAny (model prog w) A (Builtin.«super.__getattribute__» ⟨[.ref so, .str name tk], []⟩) P E ⟨h, g, d, t, os⟩ := by
  have hlk := slot_wd_get.lookup
  have hne : (Value.ref x == Value.ref C) = false := by simp [hxC]
  have hTf := type_vei ⟨h, g, d, t, os⟩
  have hdt : ({ cls := .type "super", dict := none, data := .fields #[.ref D, .ref x, .ref C], slots := #[] } : Obj).data = .fields #[.ref D, .ref x, .ref C] := rfl
  have f0 : (#[.ref D, .ref x, .ref C] : Array Value)[0]? = some (.ref D) := rfl
  have f1 : (#[.ref D, .ref x, .ref C] : Array Value)[1]? = some (.ref x) := rfl
  have f2 : (#[.ref D, .ref x, .ref C] : Array Value)[2]? = some (.ref C) := rfl
  unfold Builtin.«super.__getattribute__»
  repeat (first
    | (with_reducible refine wpAny_field hso hdt f0 ?_) | (with_reducible refine wpAny_field hso hdt f1 ?_) | (with_reducible refine wpAny_field hso hdt f2 ?_)
    | (with_reducible refine ks_wpAny_notOpaque hno ?_)
    | (with_reducible refine Looks.at hC ?_; rw [hl])
    | (refine ks_forIn_along X (fun _ _ => rfl) rfl ?_ hf)
    | (with_reducible refine wpAny_typeOf hTf ?_)
    | (with_reducible refine wpAny_call_entry slot_wd_get hTf entry_wd_get ?_ (getArgs_wd _ _ _))
    | (with_reducible refine wd_get hbm hCo hx hcls ?_)
    | (with_reducible refine ⟨_, rfl, ?_⟩)
    | (simp only [hn, hne, Bool.or_false, Bool.false_eq_true, if_false])
    | (first | with_reducible (first | refine PySem.wpAny_pure ?_ | refine PySem.wpAny_bind ?_ | refine PySem.wpAny_holding ?_ | refine PySem.wpAny_standAt ?_ | refine PySem.wpAny_point ?_ | refine PySem.wpAny_rule ?_ | refine PySem.wpAny_letGo ?_ | refine PySem.wpAny_mkInt' ?_ | refine PySem.wpAny_fresh' ?_ | refine PySem.wpAny_alloc' ?_ | refine PySem.wpAny_attempt ?_ | refine PySem.wpAny_throw ?_ | refine PySem.wpAny_of_eq (by assumption) ?_ | refine PySem.wpAny_typeOf (by assumption) ?_ | refine PySem.wpAny_specialOf_val (by assumption) (by assumption) ?_ | refine PySem.wpAny_specialOf (by assumption) (by assumption) ?_ | refine PySem.wpAny_isInstance_val (by assumption) (by assumption) ?_ | refine PySem.wpAny_isInstance (by assumption) (by assumption) ?_ | refine PySem.wpAny_call ?_ | refine PySem.wpAny_runValue ?_ | refine PySem.wpAny_run ?_) | ((fail_if_success (with_reducible show PySem.wpAny _ _ (PySem.mkStr _) _ _ _)); wp_delta) | ((with_reducible apply PySem.wpAny_load'); focus (heap_get; done)) | ((with_reducible apply PySem.wpAny_update'); focus (heap_get; done)) | ((with_reducible apply PySem.wpAny_handled_none); focus (assumption; done)) | ((with_reducible apply PySem.wpAny_ite_false); focus (rfl; done)) | ((with_reducible apply PySem.wpAny_ite_true); focus (rfl; done)) | ((with_reducible apply PySem.wpAny_ite_false); focus (simp [*]; done)) | ((with_reducible apply PySem.wpAny_ite_true); focus (simp [*]; done)) | ((with_reducible show PySem.wpAny _ _ _ _ _ _); wp_step))
    | dsimp only)
  all_goals exact hq
theorem super_getB {so D x : Addr} {ox : Obj} {l₀ l : List Value} {K : Frag} {name : Str} {pl : Sem Bool} {Q : Value × List Value → Shared → Prop} (hbm : bm.contains (.type "ValueError") = true)
    (hCo : h.get? C = some (excClassObj nm q C N bs bm hdct sn sub ab col dd k0 k1 k2 k3 k5 newId)) (hx : h.get? x = some ox) (hcls : ox.cls = .ref C)
    (hso : h.get? so = some { cls := .type "super", dict := none, data := .fields #[.ref D, .ref x, .ref C], slots := #[] }) (hno : Looks (model prog w) h (opaqueClassAbove (.ref C)) none)
    (hC : Looks (model prog w) h (mroOf (.ref C)) l₀) (hl : (l₀.dropWhile (· != .ref D)).drop 1 = l) (X : K.In h)
    (hf : alongIn K name l = some (some (.builtin "ValueError.__init__"))) (hxC : x ≠ C) (hn : (name == ("__class__" : Str)) = false)
    (hq : Q (.ref h.objs.size, []) ⟨h.push { cls := .type "method-wrapper", data := .fields #[.builtin "ValueError.__init__", .ref x] }, g, d, t + 1, os⟩) :
    wpAny (model prog w) A (getMethod (.ref so) name pl) Q E ⟨h, g, d, t, os⟩ := by
  have hlk := F.ks_slot_super_ga.lookup
  have hcan := F.ks_canon_super_ga
  have hT : ∀ t', (⟨h, g, d, t', os⟩ : Shared).TypeIs (.ref so) "super" := fun _ => ⟨_, hso, rfl⟩
  unfold getMethod
  refine wpAny_bind (wpAny_specialOf (hT _) hlk ?_)
  show wpAny _ _ (if (Manifest.canonical "super.__getattribute__" != "object.__getattribute__") = true then _ else _) _ _ _
  rw [if_pos hcan]
  unfold getAttr getAttrBy
  refine wpAny_bind (wpAny_bind (wpAny_mkText (wpAny_holding (wpAny_bind (wpAny_typeOf (hT _) (wpAny_bind (wpAny_of_eq hlk ?_)))))))
  show wpAny _ _ (getAttrByItsOwn (.ref so) (.str name t) (.type "super") (.builtin "super.__getattribute__") true false) _ _ _
  unfold getAttrByItsOwn hookBefore callGetattribute boundAndCalled
  refine wpAny_bind (wpAny_of_eq (show (if onTheHeap (.type "super") then typeLookup (.type "super") "__getattr__" else pure none) = pure none from rfl) ?_)
  refine wpAny_bind (wpAny_attempt (wpAny_holding ?_))
  show wpAny _ _ (bindSpecial (.builtin "super.__getattribute__") (.ref so) >>= _) _ _ _
  refine wpAny_bind (wpAny_of_eq (F.ks_slot_super_ga.bind _) ?_)
  refine wpAny_mono (Q := fun v s' => v = .ref h.objs.size ∧ s' = ⟨h.push { cls := .type "method-wrapper", data := .fields #[.builtin "ValueError.__init__", .ref x] }, g, d, t + 1, os⟩) (E := fun _ _ => False)
    (wpAny_call_entry F.ks_slot_super_ga (hT _) F.ks_entry_super_ga (super_gaB hbm hCo hx hcls hso hno hC hl X hf hxC hn ⟨_, rfl, rfl, rfl⟩) (F.ks_gaArgs_super _ _)) (fun v s' hv => ?_) fun _ _ z => z.elim
  obtain ⟨rfl, rfl⟩ := hv
  exact wpAny_pure (wpAny_pure hq)
end
noncomputable abbrev veTail : List Value := [.type "ValueError", .type "Exception", .type "BaseException", .type "object"]
noncomputable def excInI (K : Frag) (C fI : Addr) : Bool := match K.lookup C with
  | some ⟨.type "type", _, .cls cd, sl⟩ => (match cd.mro, sl.toList with
    | .ref C' :: bm, [_, _, _, _, some (.builtin n), _] => C' == C && n == "ValueError.__new__" && !cd.hasDel && bm == veTail && nsOkIn K cd.ns && nsIn K cd.ns "__init__" == some (some (.ref fI))
    | _, _ => false)
  | _ => false
theorem ns_some_of {K : Frag} {h : Heap} {N : Addr} {mg : Str → Option Value} {n : Str} {v : Value} (X : K.In h) (G : h.Ns N mg) (e : nsIn K N n = some (some v)) : mg n = some v := by
  obtain ⟨o, es, ep, ho, hd, _, hf⟩ := G
  unfold nsIn at e
  split at e
  · rename_i c d es' n' sl q
    have := X _ _ q
    rw [ho] at this
    cases this
    cases hd
    split at e
    · rename_i he
      rw [← hf]
      unfold nsFind findBy
      rw [← Array.find?_toList, he]
      exact Option.some.inj e
    · split at e <;> simp at e
  · cases e
theorem exc_cls {K : Frag} {h : Heap} {C fI : Addr} (X : K.In h) (q : excInI K C fI = true) : ∃ nm qn N bs hdct sn sub ab col dd k0 k1 k2 k3 k5,
    h.get? C = some (excClassObj nm qn C N bs veTail hdct sn sub ab col dd k0 k1 k2 k3 k5 "ValueError.__new__") ∧ h.Ns N (h.nsMap N) ∧ h.nsMap N "__init__" = some (.ref fI) := by
  unfold excInI at q
  split at q
  · rename_i dd cd sl ho
    split at q
    · rename_i C' bm k0 k1 k2 k3 n k5 hm hs
      simp only [Bool.and_eq_true, beq_iff_eq, Bool.not_eq_true'] at q
      obtain ⟨⟨⟨⟨⟨rfl, rfl⟩, hdel⟩, hbm⟩, hok⟩, hni⟩ := q
      obtain ⟨nm, bs, mro, ns, qn, hd, sn, sub, ab, col, del⟩ := cd
      dsimp only at hm hdel hok hni
      subst hm hdel hbm
      have hsl : sl = #[k0, k1, k2, k3, some (.builtin "ValueError.__new__"), k5] := by
        obtain ⟨l⟩ := sl
        simp only at hs
        rw [hs]
      subst hsl
      have G : h.Ns ns (h.nsMap ns) := .of_isNs (isNs_of_in X hok)
      exact ⟨nm, qn, ns, bs, hd, sn, sub, ab, col, dd, k0, k1, k2, k3, k5, X _ _ ho, G, ns_some_of X G hni⟩
    · cases q
  · cases q
noncomputable abbrev excObj (C t : Addr) : Obj := { cls := .ref C, data := .fields #[.ref t, .none, .none, .none, .bool false, .none] }
noncomputable abbrev mwObj (e : Addr) : Obj := { cls := .type "method-wrapper", data := .fields #[.builtin "ValueError.__init__", .ref e] }
theorem inst_exc {h₀ h : Heap} {L x C t : Addr} {news : List (Addr × Obj)} (N : News h₀ L h news) (h1 : (x, excObj C t) ∈ news) : InstAt h x (excObj C t) C none := ⟨(N _ h1).1, rfl, rfl, trivial⟩
section
variable {prog : Program} {w : World} {A : Around} {E : Value → Shared → Prop} {s : Shared} {h₀ : Heap} {L : Addr} {m : Str → Option Value} {news : List (Addr × Obj)} {K : Frag} {x C D fI so t0 : Addr}
theorem method_excB {name : Str} {pl : Sem Bool} {Q : Value × List Value → Shared → Prop} (F : Fr h₀ L s.heap m) (X₀ : K.In h₀) (N : News h₀ L s.heap news) (hso : (so, ks_superObj D x C) ∈ news) (hx : (x, excObj C t0) ∈ news) (q : excInI K C fI = true) (ho : nsIn K cStatics "thirdparty.any" = some none)
    (hm : ks_superIn K C D name = some (some (.builtin "ValueError.__init__"))) (hn : (name == ("__class__" : Str)) = false)
    (h : ∀ q h', Fr h₀ L h' m → News h₀ L h' ((q, mwObj x) :: news) → Q (.ref q, []) { s with heap := h', toks := s.toks + 1 }) : wpAny (model prog w) A (getMethod (.ref so) name pl) Q E s := by
  have X : K.In s.heap := X₀.keeps F.keep
  obtain ⟨nm, qn, Nn, bs, hdct, sn, sub, ab, col, dd, k0, k1, k2, k3, k5, hC, _, _⟩ := exc_cls X q
  obtain ⟨hh, g, d, t, os⟩ := s
  cases hc : clsIn K C with
  | none => unfold ks_superIn at hm; rw [hc] at hm; cases hm
  | some cd =>
    unfold ks_superIn at hm
    rw [hc] at hm
    refine super_getB (by decide) hC (N _ hx).1 rfl (N _ hso).1 (looks_opaque X ho) (l₀ := cd.mro) ?_ rfl X hm (ks_ne X (inst_exc N hx) hc) hn ?_
    · exact fun A Q E s k q => wpAny_bind ((looks_clsIn X hc) A _ E s k (wpAny_pure q))
    · obtain ⟨F', N', l'⟩ := ks_newsPush (s := ⟨hh, g, d, t, os⟩) (o := mwObj x) F N rfl (Heap.get?_push_at rfl rfl) (fun b o e => Heap.get?_push_of_some _ e)
      exact h _ _ F' N'
/-- what lies there but the one -/
noncomputable def NotIt (e : Addr) (l : List (Addr × Obj)) : Prop := ∀ p ∈ l, p.1 ≠ e
theorem call_mwK {mw e : Addr} {msg : Str} {u : Tok} {rest : List (Addr × Obj)} {Q : Value → Shared → Prop} (F : Fr h₀ L s.heap m) (X₀ : K.In h₀) (N : News h₀ L s.heap news) (q : excInI K C fI = true)
    (hq : (mw, mwObj e) ∈ news) (he : (e, excObj C t0) ∈ news) (hr : ∀ p ∈ rest, p ∈ news) (hne : NotIt e rest)
    (h : ∀ tn h', Fr h₀ L h' m → News h₀ L h' ((e, excObj C tn) :: (tn, { cls := .type "tuple", data := .seq #[.str msg u] }) :: rest) → NotIt tn rest → e ≠ tn → Q .none { s with heap := h' }) :
    wpAny (model prog w) A (call (.ref mw) [.str msg u]) Q E s := by
  have X : K.In s.heap := X₀.keeps F.keep
  obtain ⟨nm, qn, Nn, bs, hdct, sn, sub, ab, col, dd, k0, k1, k2, k3, k5, hC, _, _⟩ := exc_cls X q
  obtain ⟨hh, g, d, t, os⟩ := s
  refine call_mw (by decide) hC (N _ hq).1 (N _ he).1 fun h' e1 e2 e3 => ?_
  have hLe : L ≠ e := fun z => (N _ he).2.1 z.symm
  obtain ⟨oL, es, ep, hL, r⟩ := F.ns
  have hbe : h₀.get? e = none := (N _ he).2.2
  refine h _ _ ⟨⟨oL, es, ep, e3 _ _ hLe hL, r⟩, fun b o eb => e3 _ _ (fun z => by subst z; rw [hbe] at eb; cases eb) (F.keep _ _ eb), F.above⟩ (fun p hp => ?_) (fun p hp => ?_) (Nat.ne_of_lt (Heap.lt_size (N _ he).1))
  · rcases List.mem_cons.mp hp with rfl | hp
    · exact ⟨e1, (N _ he).2⟩
    · rcases List.mem_cons.mp hp with rfl | hp
      · refine ⟨e2, fun z => ?_, ?_⟩
        · exact absurd (Heap.lt_size hL) (by rw [← z]; exact Nat.lt_irrefl _)
        · cases z : h₀.get? hh.objs.size with
          | none => rfl
          | some o => exact absurd (Heap.lt_size (F.keep _ _ z)) (Nat.lt_irrefl _)
      · have P := N p (hr p hp)
        exact ⟨e3 _ _ (hne p hp) P.1, P.2⟩
  · exact Nat.ne_of_lt (Heap.lt_size (N p (hr p hp)).1)
theorem exc_start {rest : List Value} {of : Obj} {Q : Value → Shared → Prop} (F : Fr h₀ L s.heap m) (X₀ : K.In h₀) (N : News h₀ L s.heap news) (q : excInI K C fI = true) (hf : K.lookup fI = some of) (hfc : of.cls = .type "function") (hlen : rest.length ≤ 8)
    (h : ∀ e t h', Fr h₀ L h' m → News h₀ L h' ((e, excObj C t) :: (t, { cls := .type "tuple", data := .seq rest.toArray }) :: news) → NotIt e news →
      wpAny (model prog w) (A.under (.builtin "type.__call__" ⟨.ref C :: rest, []⟩)) (call (.ref fI) (.ref e :: rest)) (fun r s' => r = .none ∧ Q (.ref e) s') E { s with heap := h' }) :
    wpAny (model prog w) A (call (.ref C) rest) Q E s := by
  have X : K.In s.heap := X₀.keeps F.keep
  obtain ⟨nm, qn, Nn, bs, hdct, sn, sub, ab, col, dd, k0, k1, k2, k3, k5, hC, hN, hi⟩ := exc_cls X q
  obtain ⟨hh, g, d, t, os⟩ := s
  refine wpAny_call_exc_init PySem.F.excBase_ValueError hC hN hi (X _ _ hf) hfc (fun h' e hm => ?_) (by rw [sizeLine_eq]; omega)
  obtain ⟨t', ht1, ht2, ht3⟩ := hm.there
  have F' := F.keeps hm.keeps
  obtain ⟨oL, es, ep, hL, r⟩ := F.ns
  have fresh : ∀ a, hh.get? a = none → a ≠ L ∧ h₀.get? a = none := by
    intro a ha
    refine ⟨fun z => ?_, ?_⟩
    · rw [z] at ha
      rw [show hh.get? L = some oL from hL] at ha
      cases ha
    · cases z : h₀.get? a with
      | none => rfl
      | some o =>
        have := F.keep _ _ z
        rw [ha] at this
        cases this
  refine h e t' h' F' (fun p hp => ?_) (fun p hp z => by have := (N p hp).1; rw [z, hm.new] at this; cases this)
  rcases List.mem_cons.mp hp with rfl | hp
  · exact ⟨ht1, fresh _ hm.new⟩
  · rcases List.mem_cons.mp hp with rfl | hp
    · exact ⟨ht3, fresh _ ht2⟩
    · exact ⟨hm.keeps _ _ (N p hp).1, (N p hp).2⟩

noncomputable def RaisableO (E : Value → Shared → Prop) (v : Value) (s₁ : Shared) : Prop :=
  ∃ e C t nm qn Nn bs hdct sn sub ab col dd k0 k1 k2 k3 k5, v = .ref e ∧ s₁.heap.get? C = some (excClassObj nm qn C Nn bs veTail hdct sn sub ab col dd k0 k1 k2 k3 k5 "ValueError.__new__") ∧ s₁.heap.get? e = some (excObj C t) ∧ E (.ref e) s₁
theorem raise_own {M : Model} {env : Env} {ex : Expr} {pos : Pos} {Q : Flow → Shared → Prop} (hh : A.handled = none)
    (h : wpAny M A (eval ex env) (RaisableO E) E s) : wpAny M A (exec (.Raise (some ex) none pos) env) Q E s := by
  show wpAny M A (do standAt pos; raiseStmt env (some (do let v ← eval ex env; standAt pos; pure v)) none) Q E s
  refine wpAny_bind (wpAny_standAt ?_)
  unfold raiseStmt
  dsimp only
  refine wpAny_bind (wpAny_bind (wpAny_mono h (fun v s₁ h₁ => wpAny_bind (wpAny_standAt (wpAny_pure ?_))) fun _ _ x => x))
  obtain ⟨e, C, t, nm, qn, Nn, bs, hdct, sn, sub, ab, col, dd, k0, k1, k2, k3, k5, rfl, hC, he, hE⟩ := h₁
  have hcB : (Value.ref C :: veTail).contains (.type "BaseException") = true := by rw [List.contains_cons]; rfl
  obtain ⟨hp, g, d, tk, os⟩ := s₁
  repeat (first | with_reducible refine wpAny_loadPart_at he ?_ | with_reducible refine wpAny_loadPart_at hC ?_ | (with_reducible refine wpAny_isSubtype_exc hC ?_; rw [hcB]) | (first | with_reducible (first | refine PySem.wpAny_pure ?_ | refine PySem.wpAny_bind ?_ | refine PySem.wpAny_holding ?_ | refine PySem.wpAny_standAt ?_ | refine PySem.wpAny_point ?_ | refine PySem.wpAny_rule ?_ | refine PySem.wpAny_letGo ?_ | refine PySem.wpAny_mkInt' ?_ | refine PySem.wpAny_fresh' ?_ | refine PySem.wpAny_alloc' ?_ | refine PySem.wpAny_attempt ?_ | refine PySem.wpAny_throw ?_ | refine PySem.wpAny_of_eq (by assumption) ?_ | refine PySem.wpAny_typeOf (by assumption) ?_ | refine PySem.wpAny_specialOf_val (by assumption) (by assumption) ?_ | refine PySem.wpAny_specialOf (by assumption) (by assumption) ?_ | refine PySem.wpAny_isInstance_val (by assumption) (by assumption) ?_ | refine PySem.wpAny_isInstance (by assumption) (by assumption) ?_ | refine PySem.wpAny_call ?_ | refine PySem.wpAny_runValue ?_ | refine PySem.wpAny_run ?_) | ((fail_if_success (with_reducible show PySem.wpAny _ _ (PySem.mkStr _) _ _ _)); wp_delta) | ((with_reducible apply PySem.wpAny_load'); focus (heap_get; done)) | ((with_reducible apply PySem.wpAny_update'); focus (heap_get; done)) | ((with_reducible apply PySem.wpAny_handled_none); focus (assumption; done)) | ((with_reducible apply PySem.wpAny_ite_false); focus (rfl; done)) | ((with_reducible apply PySem.wpAny_ite_true); focus (rfl; done)) | ((with_reducible apply PySem.wpAny_ite_false); focus (simp [*]; done)) | ((with_reducible apply PySem.wpAny_ite_true); focus (simp [*]; done)) | ((with_reducible show PySem.wpAny _ _ _ _ _ _); wp_step)))
  exact wpAny_raiseNew_none hh hE
theorem raise_done {e tn : Addr} {ld : List (Addr × Obj)} {msg : Str} {u : Tok} {E' : Value → Shared → Prop} (F : Fr h₀ L s.heap m) (X₀ : K.In h₀) (N : News h₀ L s.heap ((e, excObj C tn) :: (tn, { cls := .type "tuple", data := .seq #[.str msg u] }) :: ld)) (q : excInI K C fI = true)
    (ne : NotIt e ld) (nt : NotIt tn ld) (hne : e ≠ tn)
    (h : ∀ h₂, Fr h₀ L h₂ m → News h₀ L h₂ ld → Heap.MadeExcOf h₂ s.heap e (.ref C) [.str msg u] → E' (.ref e) s) : Value.none = Value.none ∧ RaisableO E' (.ref e) s := by
  have X : K.In s.heap := X₀.keeps F.keep
  obtain ⟨nm, qn, Nn, bs, hdct, sn, sub, ab, col, dd, k0, k1, k2, k3, k5, hC, hN, hi⟩ := exc_cls X q
  have he := N _ (.head _)
  have ht := N _ (.tail _ (.head _))
  refine ⟨rfl, e, C, tn, nm, qn, Nn, bs, hdct, sn, sub, ab, col, dd, k0, k1, k2, k3, k5, rfl, hC, he.1, ?_⟩
  have out : ∀ b o, s.heap.get? b = some o → b ≠ e → b ≠ tn → (hideAll s.heap [e, tn]).get? b = some o := fun b o hb h1 h2 => hideAll_get _ hb (by simp [h1, h2])
  have oute : ∀ b, b ∈ [e, tn] → (hideAll s.heap [e, tn]).get? b = none := fun b hb => hideAll_none _ hb
  obtain ⟨oL, es, ep, hL, r⟩ := F.ns
  refine h (hideAll s.heap [e, tn]) ⟨⟨oL, es, ep, out _ _ hL (fun z => he.2.1 z.symm) (fun z => ht.2.1 z.symm), r⟩, fun b o hb => out _ _ (F.keep _ _ hb) (fun z => by subst z; rw [he.2.2] at hb; cases hb) (fun z => by subst z; rw [ht.2.2] at hb; cases hb), F.above⟩
    (fun p hp => ⟨out _ _ (N p (.tail _ (.tail _ hp))).1 (ne p hp) (nt p hp), (N p (.tail _ (.tail _ hp))).2⟩)
    ⟨fun b o hb => of_hideAll _ hb, oute e (by simp), tn, he.1, oute tn (by simp), ht.1⟩
noncomputable def MwAt (q x : Addr) (h : Heap) : Prop := h.get? q = some (mwObj x)
theorem mwAt {h : Heap} {q : Addr} (N : News h₀ L h news) (hq : (q, mwObj x) ∈ news) : MwAt q x h := (N _ hq).1
theorem keeps_mw {M : Model} {q : Addr} (h : Heap) (X : MwAt q x h) : ∃ k, (k = Keeper.frame ∨ k = Keeper.machine ∨ k = Keeper.boundFrame) ∧ Looks M h (keeperOf (.ref q)) k := by
  refine ⟨.machine, .inr (.inl rfl), ?_⟩
  exact (Looks.ld (part := none) X).andThen .now
theorem callWith_mw {env : Env} {pos : Pos} {first : List Value} {q : Addr} {e : Expr} {rest : List Expr} {Q : Value → Shared → Prop} (_N : News h₀ L s.heap news) (_q : (q, mwObj x) ∈ news) (h : wpAny (model prog w) A (spliced (backTo pos (starEach (e :: rest) env))) (fun vs s₁ => MwAt q x s₁.heap ∧ wpAny (model prog w) A (call (.ref q) (first ++ vs)) Q E s₁) E s)
    (he : starEach (e :: rest) env = (false, eval e env) :: starEach rest env := by rfl) (hplain : (backTo pos (starEach rest env)).any (·.1) = false := by rfl) :
    wpAny (model prog w) A (callWith pos (.ref q) first (backTo pos (starEach (e :: rest) env)) []) Q E s := by
  rw [he] at h ⊢
  exact callWith_of (by show ((false || (backTo pos (starEach rest env)).any (·.1)) || false) = false; rw [hplain]; rfl) keeps_mw (evalArgs_plain h)
end
end
section
open PySem PySem.W PySem.Spec PySem.Calls PyProof.Rows Builtin Builtin.Str
section
variable {prog : Program} {w : World} {A : Around} {E : Value → Shared → Prop} {h : Heap} {g : Array GenState} {d : Drawn} {t : Nat} {os : OsState}
variable {nm q : Str} {C N : Addr} {bs bm : List Value} {hdct : Bool} {sn : List Str} {sub : List Value} {ab : Bool} {col : Option Bool} {dd : Option Addr} {k0 k1 k2 k3 k5 : Option Value} {newId : String}
theorem bexc_split : splitId "BaseException.__str__" = some ("BaseException", "__str__") := by kernel_rfl
theorem bexc_kind : builtinKind "BaseException.__str__" = some .slot := by kernel_rfl
theorem bexc_args (a : Value) : argsOk "BaseException.__str__" ⟨[a], []⟩ := F.args_bexc_str a
theorem bexc_check {M : Model} {e : Addr} {oe : Obj} {Q : Unit → Shared → Prop} (hbm : bm.contains (.type "BaseException") = true)
    (hC : h.get? C = some (excClassObj nm q C N bs bm hdct sn sub ab col dd k0 k1 k2 k3 k5 newId)) (he : h.get? e = some oe) (hcls : oe.cls = .ref C) (hq : Q () ⟨h, g, d, t, os⟩) :
    wpAny M A (checkBuiltinCall "BaseException.__str__" ⟨[.ref e], []⟩) Q E ⟨h, g, d, t, os⟩ := by
  have hcB : (Value.ref C :: bm).contains (.type "BaseException") = true := by rw [List.contains_cons, hbm, Bool.or_true]
  have ha := bexc_args (.ref e)
  simp only [checkBuiltinCall, bexc_kind, bexc_split]
  refine wpAny_bind (m := isInstance (.ref e) (.type "BaseException")) ?_
  unfold isInstance
  repeat (first | (with_reducible refine wpAny_loadPart_at he ?_; rw [hcls]) | with_reducible refine wpAny_loadPart_at hC ?_ | (with_reducible refine wpAny_isSubtype_exc hC ?_; rw [hcB]) | (first | with_reducible (first | refine PySem.wpAny_pure ?_ | refine PySem.wpAny_bind ?_ | refine PySem.wpAny_holding ?_ | refine PySem.wpAny_standAt ?_ | refine PySem.wpAny_point ?_ | refine PySem.wpAny_rule ?_ | refine PySem.wpAny_letGo ?_ | refine PySem.wpAny_mkInt' ?_ | refine PySem.wpAny_fresh' ?_ | refine PySem.wpAny_alloc' ?_ | refine PySem.wpAny_attempt ?_ | refine PySem.wpAny_throw ?_ | refine PySem.wpAny_of_eq (by assumption) ?_ | refine PySem.wpAny_typeOf (by assumption) ?_ | refine PySem.wpAny_specialOf_val (by assumption) (by assumption) ?_ | refine PySem.wpAny_specialOf (by assumption) (by assumption) ?_ | refine PySem.wpAny_isInstance_val (by assumption) (by assumption) ?_ | refine PySem.wpAny_isInstance (by assumption) (by assumption) ?_ | refine PySem.wpAny_call ?_ | refine PySem.wpAny_runValue ?_ | refine PySem.wpAny_run ?_) | ((fail_if_success (with_reducible show PySem.wpAny _ _ (PySem.mkStr _) _ _ _)); wp_delta) | ((with_reducible apply PySem.wpAny_load'); focus (heap_get; done)) | ((with_reducible apply PySem.wpAny_update'); focus (heap_get; done)) | ((with_reducible apply PySem.wpAny_handled_none); focus (assumption; done)) | ((with_reducible apply PySem.wpAny_ite_false); focus (rfl; done)) | ((with_reducible apply PySem.wpAny_ite_true); focus (rfl; done)) | ((with_reducible apply PySem.wpAny_ite_false); focus (simp [*]; done)) | ((with_reducible apply PySem.wpAny_ite_true); focus (simp [*]; done)) | ((with_reducible show PySem.wpAny _ _ _ _ _ _); wp_step)))
  exact hq
noncomputable def ExcHas (h : Heap) (e C : Addr) (m : Str) (u : Tok) : Prop := ∃ (o : Obj) (vs : Array Value) (ot : Obj) (k t0 : Nat), h.get? e = some o ∧ o.cls = .ref C ∧ o.data = .fields vs ∧ vs[0]? = some (.ref t0) ∧ h.get? t0 = some ot ∧ ot.data = .seq #[.str m u] k
theorem bexc_entry {e : Addr} {m : Str} {u : Tok} {Q : Fin → Shared → Prop} (x : ExcHas h e C m u) (hq : Q (.done (.ret (.str m u))) ⟨h, g, d, t, os⟩) :
    wpAny (model prog w) A (Builtin.«BaseException.__str__» ⟨[.ref e], []⟩) Q E ⟨h, g, d, t, os⟩ := by
  obtain ⟨o, vs, ot, k, t0, ho, _, hd, h0, hto, htd⟩ := x
  unfold Builtin.«BaseException.__str__»
  refine wpAny_bind (m := Builtin.BaseException.bexcArgs (.ref e)) ?_
  unfold Builtin.BaseException.bexcArgs
  refine wpAny_bind (wpAny_field ho hd h0 (wpAny_bind (wpAny_seqItems hto htd ?_)))
  refine wpAny_pure ?_
  repeat (first | with_reducible (first | refine PySem.wpAny_pure ?_ | refine PySem.wpAny_bind ?_ | refine PySem.wpAny_holding ?_ | refine PySem.wpAny_standAt ?_ | refine PySem.wpAny_point ?_ | refine PySem.wpAny_rule ?_ | refine PySem.wpAny_letGo ?_ | refine PySem.wpAny_mkInt' ?_ | refine PySem.wpAny_fresh' ?_ | refine PySem.wpAny_alloc' ?_ | refine PySem.wpAny_attempt ?_ | refine PySem.wpAny_throw ?_ | refine PySem.wpAny_of_eq (by assumption) ?_ | refine PySem.wpAny_typeOf (by assumption) ?_ | refine PySem.wpAny_specialOf_val (by assumption) (by assumption) ?_ | refine PySem.wpAny_specialOf (by assumption) (by assumption) ?_ | refine PySem.wpAny_isInstance_val (by assumption) (by assumption) ?_ | refine PySem.wpAny_isInstance (by assumption) (by assumption) ?_ | refine PySem.wpAny_call ?_ | refine PySem.wpAny_runValue ?_ | refine PySem.wpAny_run ?_) | ((fail_if_success (with_reducible show PySem.wpAny _ _ (PySem.mkStr _) _ _ _)); wp_delta) | ((with_reducible apply PySem.wpAny_load'); focus (heap_get; done)) | ((with_reducible apply PySem.wpAny_update'); focus (heap_get; done)) | ((with_reducible apply PySem.wpAny_handled_none); focus (assumption; done)) | ((with_reducible apply PySem.wpAny_ite_false); focus (rfl; done)) | ((with_reducible apply PySem.wpAny_ite_true); focus (rfl; done)) | ((with_reducible apply PySem.wpAny_ite_false); focus (simp [*]; done)) | ((with_reducible apply PySem.wpAny_ite_true); focus (simp [*]; done)) | ((with_reducible show PySem.wpAny _ _ _ _ _ _); wp_step))
  exact hq
theorem str_own {e : Addr} {m : Str} {u : Tok} {mN : Str → Option Value} {Q : Value → Shared → Prop} (hbm : veTail = bm) (hu : A.units + 2 < cLine)
    (hC : h.get? C = some (excClassObj nm q C N bs bm hdct sn sub ab col dd k0 k1 k2 k3 k5 newId)) (hn : h.Ns N mN) (hm : mN "__str__" = none)
    (x : ExcHas h e C m u) (hq : Q (.str m u) ⟨h, g, d, t, os⟩) : wpAny (model prog w) A (call (.type "str") [.ref e]) Q E ⟨h, g, d, t, os⟩ := by
  subst hbm
  refine callType_new F.called_str (by decide) (F.typeCall_str_1 _) (F.newCall_str_1 _) (fun obj => F.args_object_init_2 obj _) F.entry_str_new
    (meets_str_new (S := fun A' R s' => A'.units + 1 < cLine ∧ s' = ⟨h, g, d, t, os⟩ ∧ R (.ok (.ret (.str m u))) s') fun prog w A' R s' hs => ?_)
    ⟨(show A.units + 1 + 1 < cLine from hu), rfl, typeIs_str _ _ _, hq⟩
  obtain ⟨hu, rfl, hq⟩ := hs
  obtain ⟨o, vs, ot, k, t0, ho, hcls, x'⟩ := id x
  unfold Builtin.Str.strOf
  refine wpAny_bind (wpAny_cRoomFor (A := A'.in1) hu ?_)
  refine wpAny_bind ?_
  unfold callSpecial?
  refine wpAny_bind (m := specialOf (.ref e) (Str.ofString "__str__")) ?_
  unfold specialOf
  repeat (first | (with_reducible refine wpAny_loadPart_at ho ?_; rw [hcls]) | (with_reducible refine wpAny_typeLookup_exc (B := "ValueError") hC hn PySem.F.excBase_ValueError.mroIs PySem.F.excStr_ValueError.str.lookup ?_) | (first | with_reducible (first | refine PySem.wpAny_pure ?_ | refine PySem.wpAny_bind ?_ | refine PySem.wpAny_holding ?_ | refine PySem.wpAny_standAt ?_ | refine PySem.wpAny_point ?_ | refine PySem.wpAny_rule ?_ | refine PySem.wpAny_letGo ?_ | refine PySem.wpAny_mkInt' ?_ | refine PySem.wpAny_fresh' ?_ | refine PySem.wpAny_alloc' ?_ | refine PySem.wpAny_attempt ?_ | refine PySem.wpAny_throw ?_ | refine PySem.wpAny_of_eq (by assumption) ?_ | refine PySem.wpAny_typeOf (by assumption) ?_ | refine PySem.wpAny_specialOf_val (by assumption) (by assumption) ?_ | refine PySem.wpAny_specialOf (by assumption) (by assumption) ?_ | refine PySem.wpAny_isInstance_val (by assumption) (by assumption) ?_ | refine PySem.wpAny_isInstance (by assumption) (by assumption) ?_ | refine PySem.wpAny_call ?_ | refine PySem.wpAny_runValue ?_ | refine PySem.wpAny_run ?_) | ((fail_if_success (with_reducible show PySem.wpAny _ _ (PySem.mkStr _) _ _ _)); wp_delta) | ((with_reducible apply PySem.wpAny_load'); focus (heap_get; done)) | ((with_reducible apply PySem.wpAny_update'); focus (heap_get; done)) | ((with_reducible apply PySem.wpAny_handled_none); focus (assumption; done)) | ((with_reducible apply PySem.wpAny_ite_false); focus (rfl; done)) | ((with_reducible apply PySem.wpAny_ite_true); focus (rfl; done)) | ((with_reducible apply PySem.wpAny_ite_false); focus (simp [*]; done)) | ((with_reducible apply PySem.wpAny_ite_true); focus (simp [*]; done)) | ((with_reducible show PySem.wpAny _ _ _ _ _ _); wp_step)))
  rw [show mN (Str.ofString "__str__") = none from hm]
  dsimp only
  simp only [PySem.F.excStr_ValueError.str.bind]
  refine wpAny_holding (wpAny_bind (wpAny_pure (wpAny_bind (m := call (.builtin "BaseException.__str__") [.ref e]) ?_)))
  refine wpAny_call (codeAny_call_builtin PySem.F.excStr_ValueError.str.plain F.entry_bexc_str (bexc_check (by decide) hC ho hcls ?_))
  refine bexc_entry x ?_
  show wpAny _ _ _ _ _ _
  repeat (first | with_reducible (first | refine PySem.wpAny_pure ?_ | refine PySem.wpAny_bind ?_ | refine PySem.wpAny_holding ?_ | refine PySem.wpAny_standAt ?_ | refine PySem.wpAny_point ?_ | refine PySem.wpAny_rule ?_ | refine PySem.wpAny_letGo ?_ | refine PySem.wpAny_mkInt' ?_ | refine PySem.wpAny_fresh' ?_ | refine PySem.wpAny_alloc' ?_ | refine PySem.wpAny_attempt ?_ | refine PySem.wpAny_throw ?_ | refine PySem.wpAny_of_eq (by assumption) ?_ | refine PySem.wpAny_typeOf (by assumption) ?_ | refine PySem.wpAny_specialOf_val (by assumption) (by assumption) ?_ | refine PySem.wpAny_specialOf (by assumption) (by assumption) ?_ | refine PySem.wpAny_isInstance_val (by assumption) (by assumption) ?_ | refine PySem.wpAny_isInstance (by assumption) (by assumption) ?_ | refine PySem.wpAny_call ?_ | refine PySem.wpAny_runValue ?_ | refine PySem.wpAny_run ?_) | ((fail_if_success (with_reducible show PySem.wpAny _ _ (PySem.mkStr _) _ _ _)); wp_delta) | ((with_reducible apply PySem.wpAny_load'); focus (heap_get; done)) | ((with_reducible apply PySem.wpAny_update'); focus (heap_get; done)) | ((with_reducible apply PySem.wpAny_handled_none); focus (assumption; done)) | ((with_reducible apply PySem.wpAny_ite_false); focus (rfl; done)) | ((with_reducible apply PySem.wpAny_ite_true); focus (rfl; done)) | ((with_reducible apply PySem.wpAny_ite_false); focus (simp [*]; done)) | ((with_reducible apply PySem.wpAny_ite_true); focus (simp [*]; done)) | ((with_reducible show PySem.wpAny _ _ _ _ _ _); wp_step))
  exact hq
end
section
variable {prog : Program} {w : World} {A : Around} {E : Value → Shared → Prop} {s : Shared} {h₀ : Heap} {L : Addr} {m : Str → Option Value} {news : List (Addr × Obj)} {K : Frag} {e t C fI : Addr}
noncomputable def noStrIn (K : Frag) (C : Addr) : Bool := match K.lookup C with
  | some ⟨_, _, .cls cd, _⟩ => nsIn K cd.ns "__str__" == some none
  | _ => false
theorem str_got_own {msg : Str} {u : Tok} {Q : Value → Shared → Prop} (F : Fr h₀ L s.heap m) (X₀ : K.In h₀) (N : News h₀ L s.heap news) (q : excInI K C fI = true) (q2 : noStrIn K C = true) (G : Got news e t (.ref C) [.str msg u]) (hu : A.units + 2 < cLine)
    (hq : Q (.str msg u) s) : wpAny (model prog w) A (call (.type "str") [.ref e]) Q E s := by
  have X : K.In s.heap := X₀.keeps F.keep
  obtain ⟨nm, qn, Nn, bs, hdct, sn, sub, ab, col, dd, k0, k1, k2, k3, k5, hC, hN, _⟩ := exc_cls X q
  obtain ⟨hh, g, d, tk, os⟩ := s
  obtain ⟨oe, ot, ws, nt, h1, h2, hc, hd, h0, htc, htd⟩ := G
  refine str_own rfl hu hC hN ?_ ⟨oe, ws, ot, nt, t, N.get h1, hc, hd, h0, N.get h2, htd⟩ hq
  unfold noStrIn at q2
  split at q2
  · rename_i ho
    have := X _ _ ho
    rw [hC] at this
    cases this
    exact ns_none_of X hN (beq_iff_eq.mp q2)
  · cases q2
end
end
section
open PySem PySem.W PySem.Spec PySem.Calls PyProof.Rows
/-- the constant texts of a display -/
noncomputable def constStrs : List Expr → Option (List Str)
  | [] => some []
  | .Constant (.str c) _ _ :: r => (constStrs r).map (c :: ·)
  | _ => none
/-- is `v == "c"` or `v in ["c", …]` so, where v holds the text x -/
noncomputable def testOf (v x : Str) : Expr → Option Bool
  | .Compare (.Name n _) [.Eq] [.Constant (.str c) _ _] _ => if n = v then some (x == c) else none
  | .Compare (.Name n _) [.In] [.List es _] _ => if n = v then (constStrs es).bind fun l => if l.length ≤ 8 then some (l.any (· == x)) else none else none
  | _ => none
/-- along a chain of such tests -/
noncomputable def ifGo (v x : Str) : Nat → Stmt → Stmt ⊕ List Stmt
  | k + 1, .If test body orelse pos => match testOf v x test with
    | some true => .inr body
    | some false => (match orelse with
      | [st] => ifGo v x k st
      | l => .inr l)
    | none => .inl (.If test body orelse pos)
  | _, st => .inl st
section
variable {prog : Program} {w : World} {A : Around} {E : Value → Shared → Prop} {s : Shared} {h₀ : Heap} {L a : Addr} {m : Str → Option Value} {news : List (Addr × Obj)} {name : Str} {scope : Scope} {cd : Value}
theorem no_some {α : Type} {a : α} (h : (none : Option α) = some a) : False := nomatch h
theorem consts_inv {e : Expr} {r : List Expr} {l : List Str} (h : constStrs (e :: r) = some l) : ∃ c k p l', e = .Constant (.str c) k p ∧ constStrs r = some l' ∧ l = c :: l' := by
  cases e with
  | Constant c k p =>
    cases c with
    | str c =>
      have h : (constStrs r).map (c :: ·) = some l := h
      cases hr : constStrs r with
      | none => rw [hr] at h; exact (no_some h).elim
      | some l' => rw [hr] at h; exact ⟨c, k, p, l', rfl, rfl, (Option.some.inj h).symm⟩
    | _ => exact (no_some h).elim
  | _ => exact (no_some h).elim
theorem spliced_consts {env : Env} {pos : Pos} {Q : List Value → Shared → Prop} {es : List Expr} : ∀ {l : List Str}, constStrs es = some l → ∀ {s : Shared}, (∀ vs tk, StrsAre vs l → Q vs { s with toks := tk }) →
    wpAny (model prog w) A (spliced (backTo pos (starEach es env))) Q E s := by
  induction es generalizing Q with
  | nil =>
    intro l e s h
    cases e
    exact spliced_nil (h [] s.toks .nil)
  | cons x r ih =>
    intro l e s h
    obtain ⟨c, k, p, l', rfl, e', rfl⟩ := consts_inv e
    rw [show starEach (.Constant (.str c) k p :: r) env = (false, eval (.Constant (.str c) k p) env) :: starEach r env from rfl]
    show wpAny _ _ (spliced ((false, eval (.Constant (.str c) k p) env) :: backTo pos (starEach r env))) _ _ _
    refine spliced_cons (Constant_str ?_)
    refine ih e' fun vs tk hs => ?_
    exact h _ tk (.cons c _ hs)
theorem StrsAre.length {vs : List Value} {l : List Str} (h : StrsAre vs l) : vs.length = l.length := by
  induction h with
  | nil => rfl
  | cons y t h ih => simp [ih]
theorem test_go {v x : Str} {u : Tok} {test : Expr} {tb : Bool} {whole : Sem Value} {Q : Bool → Shared → Prop} (F : Fr h₀ L s.heap m) (N : News h₀ L s.heap news) (hv : m v = some (.str x u)) (ht : testOf v x test = some tb)
    (hk : scope.kind = .function) (hl : (envOf name scope L a cd).kindOf v = some .local) (hd : (v == ("__debug__" : Str)) = false)
    (h : ∀ h' tk, Fr h₀ L h' m → News h₀ L h' news → Q tb { s with heap := h', toks := tk }) : wpAny (model prog w) A (isTrue test (envOf name scope L a cd) whole) Q E s := by
  unfold testOf at ht
  split at ht
  · rename_i n _ c _ _ _
    split at ht
    · rename_i hn
      subst hn
      cases ht
      refine wpAny_isTrue_Compare1 (ld F hv ?_ hk hl hd) rfl
      refine Constant_str (eq_str (wpAny_truthy_bool ?_))
      exact h s.heap _ F N
    · cases ht
  · rename_i n _ es _ _
    split at ht
    · rename_i hn
      subst hn
      obtain ⟨l, hc, hl8⟩ := Option.bind_eq_some_iff.mp ht
      split at hl8
      · rename_i h8
        cases hl8
        refine wpAny_isTrue_Compare1 (ld F hv ?_ hk hl hd) rfl
        refine List_ (spliced_consts hc fun vs tk hs => ?_)
        refine newList_N (s := { s with toks := tk }) F N (fun h' F' N' => ?_) (by rw [hs.length, sizeLine_eq]; omega)
        refine in_list_strs (l := s.heap.objs.size) (vs := vs) (ys := l) ⟨_, (N' _ (.head _)).1, rfl, _, rfl⟩ hs (wpAny_truthy_bool ?_)
        exact h h' _ F' fun p hp => N' p (.tail _ hp)
      · cases hl8
    · cases ht
  · cases ht
noncomputable def goal (M : Model) (A : Around) (env : Env) (Q : Flow → Shared → Prop) (E : Value → Shared → Prop) (s : Shared) : Stmt ⊕ List Stmt → Prop
  | .inl st => wpAny M A (exec st env) Q E s
  | .inr l => wpAny M A (execs l env) Q E s
theorem if_go {v x : Str} {u : Tok} {Q : Flow → Shared → Prop} (hv : m v = some (.str x u)) 
    (hk : scope.kind = .function) (hl : (envOf name scope L a cd).kindOf v = some .local) (hd : (v == ("__debug__" : Str)) = false) : ∀ (k : Nat) {st : Stmt} {s : Shared}, News h₀ L s.heap news → Fr h₀ L s.heap m →
    (∀ h' tk, Fr h₀ L h' m → News h₀ L h' news → goal (model prog w) A (envOf name scope L a cd) Q E { s with heap := h', toks := tk } (ifGo v x k st)) →
    wpAny (model prog w) A (exec st (envOf name scope L a cd)) Q E s
  | 0, st, s, N, F, h => by
    have h := h s.heap s.toks F N
    unfold ifGo at h
    exact h
  | k + 1, st, s, N, F, h => by
    cases st with
    | If test body orelse pos =>
      unfold ifGo at h
      cases ht : testOf v x test with
      | none =>
        rw [ht] at h
        exact h s.heap s.toks F N
      | some tb =>
        rw [ht] at h
        refine wpAny_If (test_go F N hv ht hk hl hd fun h' tk F' N' => ?_)
        cases tb with
        | true => exact h h' tk F' N'
        | false =>
          show wpAny _ _ (execs orelse _) _ _ _
          match orelse, h with
          | [st'], h =>
            refine wpAny_execs_cons (wpAny_mono (if_go (Q := Q) hv hk hl hd k (s := { s with heap := h', toks := tk }) (st := st') N' F' fun h'' tk' F'' N'' => h h'' tk' F'' N'') (fun f s' q => ?_) fun _ _ z => z)
            cases f <;> first | exact q | exact wpAny_pure q
          | [], h => exact h h' tk F' N'
          | _ :: _ :: _, h => exact h h' tk F' N'
    | _ => exact h s.heap s.toks F N
end
end
section
open PySem PySem.W PySem.Spec PySem.Calls PyProof.Rows
/-- what a display of constants holds -/
noncomputable def constData : List Expr → Option (List PyData)
  | [] => some []
  | .Constant (.str c) _ _ :: r => (constData r).map (PyData.str c :: ·)
  | .Constant (.bool c) _ _ :: r => (constData r).map (PyData.bool c :: ·)
  | _ => none
inductive ConstsAre : List Value → List PyData → Prop
  | nil : ConstsAre [] []
  | str (y : Str) (t : Tok) {vs ds} : ConstsAre vs ds → ConstsAre (.str y t :: vs) (.str y :: ds)
  | bool (b : Bool) {vs ds} : ConstsAre vs ds → ConstsAre (.bool b :: vs) (.bool b :: ds)
theorem ConstsAre.length {vs : List Value} {l : List PyData} (h : ConstsAre vs l) : vs.length = l.length := by
  induction h with
  | nil => rfl
  | str y t h ih => simp [ih]
  | bool b h ih => simp [ih]
theorem ConstsAre.reads {h : Heap} {vs : List Value} {l : List PyData} (c : ConstsAre vs l) : ReadsAll h vs l [] := by
  induction c with
  | nil => exact .nil
  | str y t _ ih => exact .cons (.str y t) ih
  | bool b _ ih => exact .cons (.bool b) ih
theorem ConstsAre.strs {vs : List Value} {l : List Str} (c : ConstsAre vs (l.map PyData.str)) : StrsAre vs l := by
  generalize he : l.map PyData.str = ds at c
  induction c generalizing l with
  | nil =>
    cases l with
    | nil => exact .nil
    | cons _ _ => cases he
  | str y t _ ih =>
    cases l with
    | nil => cases he
    | cons z l =>
      simp only [List.map_cons, List.cons.injEq] at he
      obtain ⟨e, he⟩ := he
      cases e
      exact .cons _ _ (ih he)
  | bool b _ ih =>
    cases l with
    | nil => cases he
    | cons z l =>
      simp only [List.map_cons, List.cons.injEq] at he
      cases he.1
/-- do these values say these data -/
noncomputable def saysData : List Value → List PyData → Bool
  | [], [] => true
  | .str c _ :: r, .str d :: ds => c == d && saysData r ds
  | .bool c :: r, .bool d :: ds => c == d && saysData r ds
  | _, _ => false
theorem consts_of_data : ∀ {vs : List Value} {ds : List PyData}, saysData vs ds = true → ConstsAre vs ds
  | [], [], e => .nil
  | .str c t :: r, .str d :: ds, e => by
    unfold saysData at e
    simp only [Bool.and_eq_true, beq_iff_eq] at e
    rw [← e.1]
    exact .str c t (consts_of_data e.2)
  | .bool c :: r, .bool d :: ds, e => by
    unfold saysData at e
    simp only [Bool.and_eq_true, beq_iff_eq] at e
    rw [← e.1]
    exact .bool c (consts_of_data e.2)
/-- a tuple of constants at a, of the fragment or of the ledger's part x -/
noncomputable def TupC (KF : Frag) (x : List (Addr × Obj)) (a : Addr) (ds : List PyData) : Prop :=
  ∃ o vs n, (KF.lookup a = some o ∨ (a, o) ∈ x) ∧ o.cls = .type "tuple" ∧ o.data = .seq vs n ∧ ConstsAre vs.toList ds
theorem TupC.mono {KF : Frag} {x y : List (Addr × Obj)} {a : Addr} {ds : List PyData} (h : TupC KF x a ds) (hs : ∀ p ∈ x, p ∈ y) : TupC KF y a ds := by
  obtain ⟨o, vs, n, h1, r⟩ := h
  exact ⟨o, vs, n, h1.imp id (hs _), r⟩
/-- is a tuple of these constants of the fragment there -/
noncomputable def tupIn (KF : Frag) (a : Addr) (ds : List PyData) : Bool := match KF.lookup a with
  | some ⟨.type "tuple", _, .seq vs _, _⟩ => saysData vs.toList ds
  | _ => false
theorem tupC_in {KF : Frag} {a : Addr} {ds : List PyData} (h : tupIn KF a ds = true) : TupC KF [] a ds := by
  unfold tupIn at h
  split at h
  · rename_i vs n _ ho
    exact ⟨_, vs, n, .inl ho, rfl, rfl, consts_of_data h⟩
  · cases h
section
variable {prog : Program} {w : World} {A : Around} {E : Value → Shared → Prop} {s : Shared} {h₀ : Heap} {L a : Addr} {m : Str → Option Value} {news : List (Addr × Obj)} {name : Str} {scope : Scope} {cd : Value}
theorem data_inv {e : Expr} {r : List Expr} {l : List PyData} (h : constData (e :: r) = some l) :
    ∃ l', constData r = some l' ∧ ((∃ c k p, e = .Constant (.str c) k p ∧ l = .str c :: l') ∨ ∃ c k p, e = .Constant (.bool c) k p ∧ l = .bool c :: l') := by
  cases e with
  | Constant c k p =>
    cases c with
    | str c =>
      have h : (constData r).map (PyData.str c :: ·) = some l := h
      cases hr : constData r with
      | none => rw [hr] at h; exact (no_some h).elim
      | some l' => rw [hr] at h; exact ⟨l', rfl, .inl ⟨c, k, p, rfl, (Option.some.inj h).symm⟩⟩
    | bool c =>
      have h : (constData r).map (PyData.bool c :: ·) = some l := h
      cases hr : constData r with
      | none => rw [hr] at h; exact (no_some h).elim
      | some l' => rw [hr] at h; exact ⟨l', rfl, .inr ⟨c, k, p, rfl, (Option.some.inj h).symm⟩⟩
    | _ => exact (no_some h).elim
  | _ => exact (no_some h).elim
theorem spliced_data {env : Env} {pos : Pos} {Q : List Value → Shared → Prop} {es : List Expr} : ∀ {l : List PyData}, constData es = some l → ∀ {s : Shared}, (∀ vs tk, ConstsAre vs l → Q vs { s with toks := tk }) →
    wpAny (model prog w) A (spliced (backTo pos (starEach es env))) Q E s := by
  induction es generalizing Q with
  | nil =>
    intro l e s h
    cases e
    exact spliced_nil (h [] s.toks .nil)
  | cons x r ih =>
    intro l e s h
    obtain ⟨l', e', ⟨c, k, p, rfl, rfl⟩ | ⟨c, k, p, rfl, rfl⟩⟩ := data_inv e
    · show wpAny _ _ (spliced ((false, eval (.Constant (.str c) k p) env) :: backTo pos (starEach r env))) _ _ _
      refine spliced_cons (Constant_str ?_)
      refine ih e' fun vs tk hs => ?_
      exact h _ tk (.str c _ hs)
    · show wpAny _ _ (spliced ((false, eval (.Constant (.bool c) k p) env) :: backTo pos (starEach r env))) _ _ _
      refine spliced_cons (wpAny_Constant_bool ?_)
      refine ih e' fun vs tk hs => ?_
      exact h _ tk (.bool c hs)
/-- what may stand behind `self.algorithms =`: a display of constants, or an attribute of self -/
inductive VE | tup (ds : List PyData) | cls (x : Str)
noncomputable def valE : Expr → Option VE
  | .Tuple es _ _ => (constData es).bind fun l => if l.length ≤ 8 then some (.tup l) else none
  | .Attribute (.Name n _) x _ => if n = Str.ofString "self" then some (.cls x) else none
  | _ => none
/-- the class attribute x of the class C is the tuple ds, and to be had through an object of it -/
structure ClsTup (KF : Frag) (C : Addr) (x : Str) (ds : List PyData) : Prop where
  get : plainGet KF C x = true
  has : hasDictIn KF C = true
  copied : copiedNames.contains x = false
  val : ∃ t, findIn KF (.ref C) x = some (some (.ref t)) ∧ specialIn KF (.ref t) "__get__" = some none ∧ handedIn (.ref t) = true ∧ tupIn KF t ds = true
noncomputable def VEok (KF : Frag) (C : Addr) (es : List DictEntry) (ds : List PyData) : VE → Prop
  | .tup l => l = ds
  | .cls y => ClsTup KF C y ds ∧ getL y es = some none
theorem eval_val {KF : Frag} {e : Expr} {ve : VE} {ds : List PyData} {x C : Addr} {ox : Obj} {es : List DictEntry} {n : Nat} {Q : Value → Shared → Prop} (F : Fr h₀ L s.heap m) (N : News h₀ L s.heap news) (X₀ : KF.In h₀)
    (I : InstAt s.heap x ox C (some (dictOf es n))) (hself : m (Str.ofString "self") = some (.ref x)) (he : valE e = some ve)
    (hv : VEok KF C es ds ve)
    (hk : scope.kind = .function) (hl : (envOf name scope L a cd).kindOf (Str.ofString "self") = some .local)
    (h : ∀ t xs h' tk, Fr h₀ L h' m → News h₀ L h' (xs ++ news) → (∀ b o, s.heap.get? b = some o → h'.get? b = some o) → (∀ p ∈ xs, s.heap.get? p.1 = none) → TupC KF xs t ds → Q (.ref t) { s with heap := h', toks := tk }) :
    wpAny (model prog w) A (eval e (envOf name scope L a cd)) Q E s := by
  unfold valE at he
  split at he
  · rename_i es' _ _
    obtain ⟨l, hc, hl8⟩ := Option.bind_eq_some_iff.mp he
    split at hl8
    · rename_i h8
      cases hl8
      have hv : l = ds := hv
      subst hv
      refine Tuple_ (spliced_data hc fun vs tk hs => ?_)
      refine newTuple_NK (s := { s with toks := tk }) F N (fun h' F' N' k' => ?_) (by rw [hs.length, sizeLine_eq]; omega)
      refine h s.heap.objs.size [(s.heap.objs.size, { cls := .type "tuple", data := .seq vs.toArray })] h' tk F' N' k' (fun p hp => ?_) ⟨_, vs.toArray, 0, .inr (.head _), rfl, rfl, by simpa using hs⟩
      rcases List.mem_singleton.mp hp with rfl
      exact Heap.get?_none_of_le (Nat.le_refl _)
    · cases hl8
  · rename_i n' p y p'
    split at he
    · rename_i hn
      cases he
      subst hn
      obtain ⟨c, g⟩ := hv
      obtain ⟨t, h1, h2, h3, h4⟩ := c.val
      refine Attribute_name (ld F hself ?_ hk hl (by decide))
      refine get_cls F X₀ I c.get c.has h1 h2 h3 c.copied g ?_
      exact h t [] s.heap _ F N (fun _ _ e => e) (fun _ hp => nomatch hp) (tupC_in h4)
    · cases he
  · cases he
end
end
section
open PySem PySem.W PySem.Spec PySem.Calls PyProof.Rows
noncomputable abbrev PT : String := "functools.partial"
noncomputable abbrev PN : String := "functools.partial.__new__"
theorem pt_mro : mroOf (.type PT) = pure [.type PT, .type "object"] := by rw [mroOf_type]; kernel_rfl
theorem pt_new : typeLookup (.type PT) "__new__" = pure (some (.builtin PN)) := by rw [typeLookup_type, builtinLookup_eq_fast]; kernel_rfl
theorem pt_entry : entryFor table PN = some Builtin.«functools.partial.__new__» := entryFor_of_tree (by kernel_rfl)
theorem pt_init : Slot PT "__init__" "object.__init__" := .of (owner := "object") (n := "__init__") (by rw [typeLookup_type, builtinLookup_eq_fast]; kernel_rfl) (by decide +kernel) (by decide +kernel) (by decide +kernel)
  (by first | exact .inl (by decide +kernel) | exact .inr (by decide +kernel)) (by rw [isSubtype_type]; kernel_rfl)
theorem pt_called : TypeCalled PT PN "object.__init__" :=
  ⟨by decide +kernel, by decide +kernel, ⟨_, _, pt_mro⟩, madeBy_type pt_mro pt_new (by decide +kernel), by decide +kernel, by rw [isSubtype_type]; kernel_rfl, pt_init⟩
theorem pt_tc (f : Value) (k : Str) (v : Value) : checkTypeCall PT ⟨[f], [(k, v)]⟩ = pure () := by kernel_rfl
theorem pt_nc (f : Value) (k : Str) (v : Value) : checkBuiltinCall PN ⟨[.type PT, f], [(k, v)]⟩ = pure () := by kernel_rfl
theorem pt_ii (o f : Value) (k : Str) (v : Value) : argsOk "object.__init__" ⟨[o, f], [(k, v)]⟩ := by unfold argsOk; kernel_rfl
theorem pt_fn_sub : isSubtype (.type "function") (.type PT) = pure false := by rw [isSubtype_type]; kernel_rfl
theorem pt_fn_call : ∃ n, typeLookup (.type "function") "__call__" = pure (some (.builtin n)) := ⟨"function.__call__", by rw [typeLookup_type, builtinLookup_eq_fast]; kernel_rfl⟩
end
section
open PySem PySem.W PySem.Spec PySem.Calls PyProof.Rows
set_option maxHeartbeats 2000000
section
variable {prog : Program} {w : World} {A : Around} {E : Value → Shared → Prop} {s : Shared}
theorem partial_new {fa : Addr} {of : Obj} {k : Str} {v : Value} {Q : Fin → Shared → Prop} (hf : s.heap.get? fa = some of) (hfc : of.cls = .type "function") 
    (h : ∀ p h' tk, (∀ b o, s.heap.get? b = some o → h'.get? b = some o) → (∃ o, h'.get? p = some o ∧ o.cls = .type PT) → Q (.done (.ret (.ref p))) { s with heap := h', toks := tk }) :
    wpAny (model prog w) A (Builtin.«functools.partial.__new__» ⟨[.type PT, .ref fa], [(k, v)]⟩) Q E s := by
  have hT : s.TypeIs (.ref fa) "function" := ⟨of, hf, hfc⟩
  have h1 := pt_called.sub
  obtain ⟨cn, hcall⟩ := pt_fn_call
  unfold Builtin.«functools.partial.__new__»
  repeat (first | with_reducible (first | refine PySem.wpAny_pure ?_ | refine PySem.wpAny_bind ?_ | refine PySem.wpAny_holding ?_ | refine PySem.wpAny_standAt ?_ | refine PySem.wpAny_point ?_ | refine PySem.wpAny_rule ?_ | refine PySem.wpAny_letGo ?_ | refine PySem.wpAny_mkInt' ?_ | refine PySem.wpAny_fresh' ?_ | refine PySem.wpAny_alloc' ?_ | refine PySem.wpAny_attempt ?_ | refine PySem.wpAny_throw ?_ | refine PySem.wpAny_of_eq (by assumption) ?_ | refine PySem.wpAny_typeOf (by assumption) ?_ | refine PySem.wpAny_specialOf_val (by assumption) (by assumption) ?_ | refine PySem.wpAny_specialOf (by assumption) (by assumption) ?_ | refine PySem.wpAny_isInstance_val (by assumption) (by assumption) ?_ | refine PySem.wpAny_isInstance (by assumption) (by assumption) ?_ | refine PySem.wpAny_call ?_ | refine PySem.wpAny_runValue ?_ | refine PySem.wpAny_run ?_) | ((fail_if_success (with_reducible show PySem.wpAny _ _ (PySem.mkStr _) _ _ _)); wp_delta) | ((with_reducible apply PySem.wpAny_load'); focus (heap_get; done)) | ((with_reducible apply PySem.wpAny_update'); focus (heap_get; done)) | ((with_reducible apply PySem.wpAny_handled_none); focus (assumption; done)) | ((with_reducible apply PySem.wpAny_ite_false); focus (rfl; done)) | ((with_reducible apply PySem.wpAny_ite_true); focus (rfl; done)) | ((with_reducible apply PySem.wpAny_ite_false); focus (simp [*]; done)) | ((with_reducible apply PySem.wpAny_ite_true); focus (simp [*]; done)) | ((with_reducible show PySem.wpAny _ _ _ _ _ _); wp_step))
  refine wpAny_of_eq h1 ?_
  repeat (first | with_reducible (first | refine PySem.wpAny_pure ?_ | refine PySem.wpAny_bind ?_ | refine PySem.wpAny_holding ?_ | refine PySem.wpAny_standAt ?_ | refine PySem.wpAny_point ?_ | refine PySem.wpAny_rule ?_ | refine PySem.wpAny_letGo ?_ | refine PySem.wpAny_mkInt' ?_ | refine PySem.wpAny_fresh' ?_ | refine PySem.wpAny_alloc' ?_ | refine PySem.wpAny_attempt ?_ | refine PySem.wpAny_throw ?_ | refine PySem.wpAny_of_eq (by assumption) ?_ | refine PySem.wpAny_typeOf (by assumption) ?_ | refine PySem.wpAny_specialOf_val (by assumption) (by assumption) ?_ | refine PySem.wpAny_specialOf (by assumption) (by assumption) ?_ | refine PySem.wpAny_isInstance_val (by assumption) (by assumption) ?_ | refine PySem.wpAny_isInstance (by assumption) (by assumption) ?_ | refine PySem.wpAny_call ?_ | refine PySem.wpAny_runValue ?_ | refine PySem.wpAny_run ?_) | ((fail_if_success (with_reducible show PySem.wpAny _ _ (PySem.mkStr _) _ _ _)); wp_delta) | ((with_reducible apply PySem.wpAny_load'); focus (heap_get; done)) | ((with_reducible apply PySem.wpAny_update'); focus (heap_get; done)) | ((with_reducible apply PySem.wpAny_handled_none); focus (assumption; done)) | ((with_reducible apply PySem.wpAny_ite_false); focus (rfl; done)) | ((with_reducible apply PySem.wpAny_ite_true); focus (rfl; done)) | ((with_reducible apply PySem.wpAny_ite_false); focus (simp [*]; done)) | ((with_reducible apply PySem.wpAny_ite_true); focus (simp [*]; done)) | ((with_reducible show PySem.wpAny _ _ _ _ _ _); wp_step))
  refine wpAny_of_eq pt_fn_sub ?_
  have hns : (s.heap.push { cls := .type "dict", data := .dict #[] }).Ns s.heap.objs.size (fun _ => none) :=
    ⟨_, #[], 0, Heap.get?_push_size _ rfl, rfl, by simp [StrKeys], fun _ => rfl⟩
  repeat (first | with_reducible refine wpAny_nsSet hns ?_ | (first | with_reducible (first | refine PySem.wpAny_pure ?_ | refine PySem.wpAny_bind ?_ | refine PySem.wpAny_holding ?_ | refine PySem.wpAny_standAt ?_ | refine PySem.wpAny_point ?_ | refine PySem.wpAny_rule ?_ | refine PySem.wpAny_letGo ?_ | refine PySem.wpAny_mkInt' ?_ | refine PySem.wpAny_fresh' ?_ | refine PySem.wpAny_alloc' ?_ | refine PySem.wpAny_attempt ?_ | refine PySem.wpAny_throw ?_ | refine PySem.wpAny_of_eq (by assumption) ?_ | refine PySem.wpAny_typeOf (by assumption) ?_ | refine PySem.wpAny_specialOf_val (by assumption) (by assumption) ?_ | refine PySem.wpAny_specialOf (by assumption) (by assumption) ?_ | refine PySem.wpAny_isInstance_val (by assumption) (by assumption) ?_ | refine PySem.wpAny_isInstance (by assumption) (by assumption) ?_ | refine PySem.wpAny_call ?_ | refine PySem.wpAny_runValue ?_ | refine PySem.wpAny_run ?_) | ((fail_if_success (with_reducible show PySem.wpAny _ _ (PySem.mkStr _) _ _ _)); wp_delta) | ((with_reducible apply PySem.wpAny_load'); focus (heap_get; done)) | ((with_reducible apply PySem.wpAny_update'); focus (heap_get; done)) | ((with_reducible apply PySem.wpAny_handled_none); focus (assumption; done)) | ((with_reducible apply PySem.wpAny_ite_false); focus (rfl; done)) | ((with_reducible apply PySem.wpAny_ite_true); focus (rfl; done)) | ((with_reducible apply PySem.wpAny_ite_false); focus (simp [*]; done)) | ((with_reducible apply PySem.wpAny_ite_true); focus (simp [*]; done)) | ((with_reducible show PySem.wpAny _ _ _ _ _ _); wp_step)))
  intro h' hn' hs'
  repeat (first | (with_reducible refine wpAny_newTuple (items := [] ++ []) ?_ (Nat.zero_le _)) | (first | with_reducible (first | refine PySem.wpAny_pure ?_ | refine PySem.wpAny_bind ?_ | refine PySem.wpAny_holding ?_ | refine PySem.wpAny_standAt ?_ | refine PySem.wpAny_point ?_ | refine PySem.wpAny_rule ?_ | refine PySem.wpAny_letGo ?_ | refine PySem.wpAny_mkInt' ?_ | refine PySem.wpAny_fresh' ?_ | refine PySem.wpAny_alloc' ?_ | refine PySem.wpAny_attempt ?_ | refine PySem.wpAny_throw ?_ | refine PySem.wpAny_of_eq (by assumption) ?_ | refine PySem.wpAny_typeOf (by assumption) ?_ | refine PySem.wpAny_specialOf_val (by assumption) (by assumption) ?_ | refine PySem.wpAny_specialOf (by assumption) (by assumption) ?_ | refine PySem.wpAny_isInstance_val (by assumption) (by assumption) ?_ | refine PySem.wpAny_isInstance (by assumption) (by assumption) ?_ | refine PySem.wpAny_call ?_ | refine PySem.wpAny_runValue ?_ | refine PySem.wpAny_run ?_) | ((fail_if_success (with_reducible show PySem.wpAny _ _ (PySem.mkStr _) _ _ _)); wp_delta) | ((with_reducible apply PySem.wpAny_load'); focus (heap_get; done)) | ((with_reducible apply PySem.wpAny_update'); focus (heap_get; done)) | ((with_reducible apply PySem.wpAny_handled_none); focus (assumption; done)) | ((with_reducible apply PySem.wpAny_ite_false); focus (rfl; done)) | ((with_reducible apply PySem.wpAny_ite_true); focus (rfl; done)) | ((with_reducible apply PySem.wpAny_ite_false); focus (simp [*]; done)) | ((with_reducible apply PySem.wpAny_ite_true); focus (simp [*]; done)) | ((with_reducible show PySem.wpAny _ _ _ _ _ _); wp_step)))
  refine h _ _ _ (fun b o e => ?_) ⟨_, Heap.get?_push_size _ rfl, rfl⟩
  have hne : s.heap.objs.size ≠ b := fun z => absurd (Heap.lt_size e) (by rw [z]; exact Nat.lt_irrefl _)
  exact Heap.get?_push_of_some _ (Heap.get?_push_of_some _ ((hs'.2 b hne.symm).trans (Heap.get?_push_of_some _ e)))
theorem call_partial {fa : Addr} {of : Obj} {k : Str} {v : Value} {Q : Value → Shared → Prop} (hf : s.heap.get? fa = some of) (hfc : of.cls = .type "function") 
    (h : ∀ p h' tk, (∀ b o, s.heap.get? b = some o → h'.get? b = some o) → Q (.ref p) { s with heap := h', toks := tk }) :
    wpAny (model prog w) A (call (.type PT) [.ref fa] [(k, v)]) Q E s := by
  obtain ⟨c, tl, hmro⟩ := pt_called.mro
  have hmade := pt_called.made
  have hsub := pt_called.sub
  refine wpAny_call (codeAny_of_tree ?_)
  show wpAny _ _ (callAny (.type PT) _) _ _ _
  refine wpAny_pure ⟨Code.quiet_builtin _ (by decide +kernel), codeAny_builtin F.entry_type_call ?_⟩
  rw [Around.under_plain (by rfl) (by rfl)]
  have h1 := pt_called.notType
  have h2 := pt_called.canCreate
  repeat (any_goals (first | assumption | (first | with_reducible (first | refine PySem.wpAny_pure ?_ | refine PySem.wpAny_bind ?_ | refine PySem.wpAny_holding ?_ | refine PySem.wpAny_standAt ?_ | refine PySem.wpAny_point ?_ | refine PySem.wpAny_rule ?_ | refine PySem.wpAny_letGo ?_ | refine PySem.wpAny_mkInt' ?_ | refine PySem.wpAny_fresh' ?_ | refine PySem.wpAny_alloc' ?_ | refine PySem.wpAny_attempt ?_ | refine PySem.wpAny_throw ?_ | refine PySem.wpAny_of_eq (by assumption) ?_ | refine PySem.wpAny_typeOf (by assumption) ?_ | refine PySem.wpAny_specialOf_val (by assumption) (by assumption) ?_ | refine PySem.wpAny_specialOf (by assumption) (by assumption) ?_ | refine PySem.wpAny_isInstance_val (by assumption) (by assumption) ?_ | refine PySem.wpAny_isInstance (by assumption) (by assumption) ?_ | refine PySem.wpAny_call ?_ | refine PySem.wpAny_runValue ?_ | refine PySem.wpAny_run ?_) | ((fail_if_success (with_reducible show PySem.wpAny _ _ (PySem.mkStr _) _ _ _)); wp_delta) | ((with_reducible apply PySem.wpAny_load'); focus (heap_get; done)) | ((with_reducible apply PySem.wpAny_update'); focus (heap_get; done)) | ((with_reducible apply PySem.wpAny_handled_none); focus (assumption; done)) | ((with_reducible apply PySem.wpAny_ite_false); focus (rfl; done)) | ((with_reducible apply PySem.wpAny_ite_true); focus (rfl; done)) | ((with_reducible apply PySem.wpAny_ite_false); focus (simp [*]; done)) | ((with_reducible apply PySem.wpAny_ite_true); focus (simp [*]; done)) | ((with_reducible show PySem.wpAny _ _ _ _ _ _); wp_step))))
  have core : codeAny (model prog w) A.in1 (.call (.builtin PN) ⟨[.type PT, .ref fa], [(k, v)]⟩) (fun r s' => match r with | .ok (.ret obj) => s'.TypeIs obj PT ∧ Q obj s' | .ok _ => False | .error e => E e s') s :=
    codeAny_call_builtin pt_called.plain pt_entry (wpAny_of_eq (pt_nc _ _ _) (wpAny_mono (partial_new (Q := fun fin s' => ∃ p, fin = .done (.ret (.ref p)) ∧ s'.TypeIs (.ref p) PT ∧ Q (.ref p) s') (E := E) hf hfc fun p h' tk hk ho => ⟨p, rfl, ho, h p h' tk hk⟩) (fun fin s' ⟨p, e, x⟩ => by subst e; exact x) fun _ _ z => z))
  refine codeAny_mono core fun r s₁ hr => ?_
  cases r with
  | error e => exact hr
  | ok fl =>
    cases fl with
    | ret obj =>
      obtain ⟨hT, hq⟩ := hr
      have hli := pt_called.init.lookup
      have hbi := pt_called.init.bind obj
      repeat (any_goals (first | assumption | (first | with_reducible (first | refine PySem.wpAny_pure ?_ | refine PySem.wpAny_bind ?_ | refine PySem.wpAny_holding ?_ | refine PySem.wpAny_standAt ?_ | refine PySem.wpAny_point ?_ | refine PySem.wpAny_rule ?_ | refine PySem.wpAny_letGo ?_ | refine PySem.wpAny_mkInt' ?_ | refine PySem.wpAny_fresh' ?_ | refine PySem.wpAny_alloc' ?_ | refine PySem.wpAny_attempt ?_ | refine PySem.wpAny_throw ?_ | refine PySem.wpAny_of_eq (by assumption) ?_ | refine PySem.wpAny_typeOf (by assumption) ?_ | refine PySem.wpAny_specialOf_val (by assumption) (by assumption) ?_ | refine PySem.wpAny_specialOf (by assumption) (by assumption) ?_ | refine PySem.wpAny_isInstance_val (by assumption) (by assumption) ?_ | refine PySem.wpAny_isInstance (by assumption) (by assumption) ?_ | refine PySem.wpAny_call ?_ | refine PySem.wpAny_runValue ?_ | refine PySem.wpAny_run ?_) | ((fail_if_success (with_reducible show PySem.wpAny _ _ (PySem.mkStr _) _ _ _)); wp_delta) | ((with_reducible apply PySem.wpAny_load'); focus (heap_get; done)) | ((with_reducible apply PySem.wpAny_update'); focus (heap_get; done)) | ((with_reducible apply PySem.wpAny_handled_none); focus (assumption; done)) | ((with_reducible apply PySem.wpAny_ite_false); focus (rfl; done)) | ((with_reducible apply PySem.wpAny_ite_true); focus (rfl; done)) | ((with_reducible apply PySem.wpAny_ite_false); focus (simp [*]; done)) | ((with_reducible apply PySem.wpAny_ite_true); focus (simp [*]; done)) | ((with_reducible show PySem.wpAny _ _ _ _ _ _); wp_step))))
      have ic : codeAny (model prog w) A.in1 (.call (.builtin "object.__init__") ⟨[obj, .ref fa], [(k, v)]⟩) (fun r s' => match r with | .ok (.ret r) => r = .none ∧ Q obj s' | .ok _ => False | .error e => E e s') s₁ := by
        refine codeAny_call_builtin pt_called.init.plain F.entry_object_init (pt_called.init.check _ _ _ _ _ _ _ _ hT (pt_ii _ _ _ _) ?_)
        refine wpAny_mono (Q := fun fin s' => fin = .done (.ret .none) ∧ s' = s₁) (E := fun _ _ => False) ?_ (fun fin s' ⟨e, e'⟩ => by subst e e'; exact ⟨rfl, hq⟩) fun _ _ z => z.elim
        have hne : (some PN != some "object.__new__") = true := by decide
        unfold Builtin.«object.__init__»
        repeat (any_goals (first | assumption | (first | with_reducible (first | refine PySem.wpAny_pure ?_ | refine PySem.wpAny_bind ?_ | refine PySem.wpAny_holding ?_ | refine PySem.wpAny_standAt ?_ | refine PySem.wpAny_point ?_ | refine PySem.wpAny_rule ?_ | refine PySem.wpAny_letGo ?_ | refine PySem.wpAny_mkInt' ?_ | refine PySem.wpAny_fresh' ?_ | refine PySem.wpAny_alloc' ?_ | refine PySem.wpAny_attempt ?_ | refine PySem.wpAny_throw ?_ | refine PySem.wpAny_of_eq (by assumption) ?_ | refine PySem.wpAny_typeOf (by assumption) ?_ | refine PySem.wpAny_specialOf_val (by assumption) (by assumption) ?_ | refine PySem.wpAny_specialOf (by assumption) (by assumption) ?_ | refine PySem.wpAny_isInstance_val (by assumption) (by assumption) ?_ | refine PySem.wpAny_isInstance (by assumption) (by assumption) ?_ | refine PySem.wpAny_call ?_ | refine PySem.wpAny_runValue ?_ | refine PySem.wpAny_run ?_) | ((fail_if_success (with_reducible show PySem.wpAny _ _ (PySem.mkStr _) _ _ _)); wp_delta) | ((with_reducible apply PySem.wpAny_load'); focus (heap_get; done)) | ((with_reducible apply PySem.wpAny_update'); focus (heap_get; done)) | ((with_reducible apply PySem.wpAny_handled_none); focus (assumption; done)) | ((with_reducible apply PySem.wpAny_ite_false); focus (rfl; done)) | ((with_reducible apply PySem.wpAny_ite_true); focus (rfl; done)) | ((with_reducible apply PySem.wpAny_ite_false); focus (simp [*]; done)) | ((with_reducible apply PySem.wpAny_ite_true); focus (simp [*]; done)) | ((with_reducible show PySem.wpAny _ _ _ _ _ _); wp_step))))
        all_goals exact ⟨rfl, rfl⟩
      refine codeAny_mono ic fun r₂ s₂ hr₂ => ?_
      cases r₂ with
      | error e => exact hr₂
      | ok fl₂ =>
        cases fl₂ with
        | ret r =>
          obtain ⟨rfl, hq⟩ := hr₂
          repeat (any_goals (first | assumption | (first | with_reducible (first | refine PySem.wpAny_pure ?_ | refine PySem.wpAny_bind ?_ | refine PySem.wpAny_holding ?_ | refine PySem.wpAny_standAt ?_ | refine PySem.wpAny_point ?_ | refine PySem.wpAny_rule ?_ | refine PySem.wpAny_letGo ?_ | refine PySem.wpAny_mkInt' ?_ | refine PySem.wpAny_fresh' ?_ | refine PySem.wpAny_alloc' ?_ | refine PySem.wpAny_attempt ?_ | refine PySem.wpAny_throw ?_ | refine PySem.wpAny_of_eq (by assumption) ?_ | refine PySem.wpAny_typeOf (by assumption) ?_ | refine PySem.wpAny_specialOf_val (by assumption) (by assumption) ?_ | refine PySem.wpAny_specialOf (by assumption) (by assumption) ?_ | refine PySem.wpAny_isInstance_val (by assumption) (by assumption) ?_ | refine PySem.wpAny_isInstance (by assumption) (by assumption) ?_ | refine PySem.wpAny_call ?_ | refine PySem.wpAny_runValue ?_ | refine PySem.wpAny_run ?_) | ((fail_if_success (with_reducible show PySem.wpAny _ _ (PySem.mkStr _) _ _ _)); wp_delta) | ((with_reducible apply PySem.wpAny_load'); focus (heap_get; done)) | ((with_reducible apply PySem.wpAny_update'); focus (heap_get; done)) | ((with_reducible apply PySem.wpAny_handled_none); focus (assumption; done)) | ((with_reducible apply PySem.wpAny_ite_false); focus (rfl; done)) | ((with_reducible apply PySem.wpAny_ite_true); focus (rfl; done)) | ((with_reducible apply PySem.wpAny_ite_false); focus (simp [*]; done)) | ((with_reducible apply PySem.wpAny_ite_true); focus (simp [*]; done)) | ((with_reducible show PySem.wpAny _ _ _ _ _ _); wp_step))))
        | _ => exact hr₂.elim
    | _ => exact hr.elim
end
end
section
open PySem PySem.W PySem.Spec PySem.Calls PyProof.Rows
noncomputable def fnClsIn (KF : Frag) (f : Addr) : Bool := match KF.lookup f with
  | some o => o.cls == .type "function"
  | none => false
section
variable {prog : Program} {w : World} {A : Around} {E : Value → Shared → Prop} {s : Shared} {h₀ : Heap} {L fa : Addr} {m : Str → Option Value} {nw : List (Addr × Obj)} {KF : Frag}
theorem callWith_TK {env : Env} {pos : Pos} {T : String} {Q : Value → Shared → Prop} {e : Expr} {rest : List Expr} {kws : List Keyword} (hall : (backToKw pos (keywordEach kws env)).all (·.1.isSome) = true)
    (h : wpAny (model prog w) A (spliced (backTo pos (starEach (e :: rest) env))) (fun vs s₁ => wpAny (model prog w) A (evalAll ((backToKw pos (keywordEach kws env)).map (·.2)))
      (fun ks s₂ => wpAny (model prog w) A (call (.type T) vs (((backToKw pos (keywordEach kws env)).filterMap (·.1)).zip ks)) Q E s₂) E s₁) E s)
    (hplain : ((backTo pos (starEach (e :: rest) env)).any (·.1) || (backToKw pos (keywordEach kws env)).any (·.1.isNone)) = false := by rfl) (he : starEach (e :: rest) env = (false, eval e env) :: starEach rest env := by rfl) :
    wpAny (model prog w) A (callWith pos (.type T) [] (backTo pos (starEach (e :: rest) env)) (backToKw pos (keywordEach kws env))) Q E s :=
  callWith_of (P := fun _ => True) hplain (fun h _ => ⟨.machine, .inr (.inl rfl), Looks.of_pure rfl⟩) (evalArgs_kw2 hall (wpAny_mono h (fun vs s₁ h₁ => wpAny_mono h₁ (fun ks s₂ h₂ => ⟨trivial, h₂⟩) fun _ _ z => z) fun _ _ z => z) he)
theorem call_partialK {k : Str} {v : Value} {Q : Value → Shared → Prop} (F : Fr h₀ L s.heap m) (X₀ : KF.In h₀) (N : News h₀ L s.heap nw) (hf : fnClsIn KF fa = true)
    (h : ∀ p h' tk, Fr h₀ L h' m → News h₀ L h' nw → Q (.ref p) { s with heap := h', toks := tk }) :
    wpAny (model prog w) A (call (.type "functools.partial") [.ref fa] [(k, v)]) Q E s := by
  unfold fnClsIn at hf
  split at hf
  · rename_i o ho
    refine call_partial (X₀.keeps F.keep _ _ ho) (beq_iff_eq.mp hf) fun p h' tk hk => ?_
    exact h p h' tk (F.keeps hk) fun q hq => ⟨hk _ _ (N q hq).1, (N q hq).2⟩
  · cases hf
end
end
section
open PySem PySem.W PySem.Spec PySem.Calls PyProof.Rows
/-- as the library's traced exception, its context (field 2) none besides -/
noncomputable def Tr2 (h base : Heap) (e : Addr) (cls a0 fl : Value) : Prop :=
  ∃ oe vs T oT ts, h.get? e = some oe ∧ (oe.cls = cls ∧ vs[0]? = some a0) ∧ oe.data = .fields vs ∧ vs[1]? = some (.ref T) ∧ base.get? T = none ∧ T ≠ e ∧ h.get? T = some oT ∧ oT.data = .fields ts ∧ ts[3]? = some fl ∧ vs[2]? = some .none
theorem Tr2.tr {h base : Heap} {e : Addr} {cls a0 fl : Value} (x : Tr2 h base e cls a0 fl) : h.TracedAtW base e cls a0 fl := by
  obtain ⟨oe, vs, T, oT, ts, a1, a2, a3, a4, a5, a6, a7, a8, a9, _⟩ := x
  exact ⟨oe, vs, T, oT, ts, a1, a2, a3, a4, a5, a6, a7, a8, a9⟩
noncomputable def Up (h h' : Heap) : Prop := ∀ b o, h.get? b = some o → (∀ vs, o.data ≠ .fields vs) → ∃ sl, h'.get? b = some { o with slots := sl }
noncomputable def Note2 (base : Heap) (l : List Env) (e : Addr) (cls a0 fl : Value) (h h' : Heap) : Prop :=
  base.StaysIn h' ∧ h'.FunFrames base l ∧ Tr2 h' base e cls a0 fl ∧ Up h h'
section
variable {M : Model} {A : Around} {E : Value → Shared → Prop} {s : Shared}
theorem flight2 {base : Heap} {l : List Env} {e : Addr} {cls a0 fl : Value} {Q : Unit → Shared → Prop}
    (hkb : base.StaysIn s.heap) (hl : s.heap.FunFrames base l) (ht : Tr2 s.heap base e cls a0 fl)
    (h : ∀ h', Note2 base l e cls a0 .none s.heap h' → Q () { s with heap := h' }) : wpAny M A (setFlight (.ref e) none) Q E s := by
  obtain ⟨oe, vs, T, oT, ts, he, hcls, hd, h1, hnT, hTe, hT, hdT, h3, h2⟩ := ht
  have hsz3 : 3 < ts.size := (Array.getElem?_eq_some_iff.mp h3).1
  have other : ∀ b, b ≠ T → (s.heap.update T (Obj.mapFields (·.setIfInBounds 3 ((none : Option Addr).elim Value.none fun f => rawInt f)))).get? b = s.heap.get? b :=
    fun b hb => Heap.get?_update_other _ _ (Ne.symm hb)
  have noRec : ∀ b o, s.heap.get? b = some o → (∀ vs, o.data ≠ .fields vs) → b ≠ T := fun b o hb hnf q => by
    rw [q, hT] at hb
    cases hb
    exact hnf ts hdT
  unfold setFlight
  refine wpAny_bind (wpAny_field he hd h1 ?_)
  rw [if_pos (show (Value.ref T != Value.none) = true from by simp)]
  refine wpAny_setField hT hdT hsz3 (h _ ⟨fun b o hbo => (other b fun q => by rw [q, hnT] at hbo; cases hbo).trans (hkb b o hbo),
    hl.of_keeps fun b o hb hnf => ⟨o, (other b (noRec b o hb hnf)).trans hb, rfl⟩, ?_, fun b o hb hnf => ⟨o.slots, (other b (noRec b o hb hnf)).trans hb⟩⟩)
  exact ⟨oe, vs, T, _, _, (other e (Ne.symm hTe)).trans he, hcls, hd, h1, hnT, hTe, Heap.get?_update_self _ hT (Obj.isFreed_of_fields (Obj.data_mapFields hdT _)), Obj.data_mapFields hdT _, by simp [hsz3], h2⟩
theorem entry2 {base : Heap} {env : Env} {outer : List Env} {L e : Addr} {oe : Obj} {vs : Array Value} {head a0 : Value} {hadNext : Bool} {Q : Unit → Shared → Prop}
    (hfr : A.frames = some (env :: outer)) (hl : s.heap.FunFrames base (env :: outer)) (hf : env.frame = some L)
    (he : s.heap.get? e = some oe) (hkb : base.StaysIn s.heap) (hen : base.get? e = none) (hd : oe.data = .fields vs) (hsz : 1 < vs.size) (h0 : vs[0]? = some a0) (h2 : vs[2]? = some .none)
    (h : ∀ h', Note2 base (env :: outer) e oe.cls a0 (rawInt L) s.heap h' → Q () { s with heap := h' }) :
    wpAny M A (do let a ← frameOf env; let pl ← entryPlaceOf L hadNext; let b ← EntryCells.newEntry head a .none (rawInt L) .none pl; setField (.ref e) 1 b) Q E s := by
  have hene : e ∉ (env :: outer).filterMap (·.frame) := fun hm => by
    obtain ⟨_, o, ho, hnf⟩ := hl.mem hm
    rw [he] at ho
    cases ho
    exact hnf vs hd
  refine wpAny_bind (wpAny_frameOf_fun hfr hl hf fun h₁ hs₁ => ?_)
  refine wpAny_bind (wpAny_entryPlaceOf fun pl hpl => ?_)
  unfold EntryCells.newEntry newFields
  refine wpAny_bind (wpAny_newObj_type ?_ (hpl.sizeOk5 _ _ _ _ _))
  have he₁ : h₁.get? e = some oe := (hs₁.2.1 e hene).trans he
  have kb₁ : base.StaysIn h₁ := fun b o hbo => (hs₁.2.1 b fun hm => by rw [(hl.mem hm).1] at hbo; cases hbo).trans (hkb b o hbo)
  refine wpAny_setField (Heap.get?_push_of_some _ he₁) hd hsz (h _ ?_)
  have hTe : h₁.objs.size ≠ e := Nat.ne_of_gt (Heap.lt_size he₁)
  have hd₃ := Obj.data_mapFields hd (·.setIfInBounds 1 (Value.ref h₁.objs.size))
  have he₃ := Heap.get?_update_self (Obj.mapFields (·.setIfInBounds 1 (Value.ref h₁.objs.size))) (Heap.get?_push_of_some (h := h₁) { cls := .type "traceback", dict := none, data := .fields ([head, .ref L, .none, rawInt L, .none] ++ (if pl.isEmpty then List.replicate 6 Value.none else pl)).toArray } he₁) (Obj.isFreed_of_fields hd₃)
  have keep : ∀ b o, b ≠ e → h₁.get? b = some o → (((h₁.push { cls := .type "traceback", dict := none, data := .fields ([head, .ref L, .none, rawInt L, .none] ++ (if pl.isEmpty then List.replicate 6 Value.none else pl)).toArray }).update e (Obj.mapFields (·.setIfInBounds 1 (Value.ref h₁.objs.size))))).get? b = some o := fun b o hbe hb =>
    (Heap.get?_update_other _ _ (Ne.symm hbe)).trans (Heap.get?_push_of_some _ hb)
  have noRec : ∀ b o, s.heap.get? b = some o → (∀ vs, o.data ≠ .fields vs) → b ≠ e := fun b o hb hnf q => by
    rw [q, he] at hb
    cases hb
    exact hnf vs hd
  refine ⟨fun b o hbo => keep b o (fun q => by rw [q, hen] at hbo; cases hbo) (kb₁ b o hbo), hl.of_keeps fun b o hb hnf => ?_, ?_, fun b o hb hnf => ?_⟩
  · obtain ⟨sl, hs⟩ := hs₁.2.2 b o hb
    exact ⟨_, keep b _ (noRec b o hb hnf) hs, rfl⟩
  · exact ⟨_, _, h₁.objs.size, _, _, he₃, ⟨Obj.cls_mapFields _ _, by rw [Array.getElem?_setIfInBounds_ne (by decide)]; exact h0⟩, hd₃, by simp [hsz], kb₁.fresh, hTe, (Heap.get?_update_other _ _ (Ne.symm hTe)).trans (Heap.get?_push_size h₁ rfl), rfl, by first | (simp; done) | (rcases hpl with rfl | ⟨_, _, _, _, _, _, _, rfl⟩ <;> simp), by rw [Array.getElem?_setIfInBounds_ne (by decide)]; exact h2⟩
  · obtain ⟨sl, hs⟩ := hs₁.2.2 b o hb
    exact ⟨sl, keep b _ (noRec b o hb hnf) hs⟩
theorem Up.trans {h h' h₂ : Heap} (a : Up h h') (c : Up h' h₂) : Up h h₂ := fun b o hb hn => by
  obtain ⟨sl, e⟩ := a b o hb hn
  obtain ⟨sl', e'⟩ := c b _ e hn
  exact ⟨sl', e'⟩
theorem leave2 {base : Heap} {env : Env} {outer : List Env} {L e : Addr} {oe : Obj} {vs : Array Value} {a0 : Value} {Q : Unit → Shared → Prop}
    (hfr : A.frames = some (env :: outer)) (hl : s.heap.FunFrames base (env :: outer)) (hf : env.frame = some L)
    (he : s.heap.get? e = some oe) (hkb : base.StaysIn s.heap) (hen : base.get? e = none) (hd : oe.data = .fields vs) (h1 : vs[1]? = some .none) (h0 : vs[0]? = some a0) (h2 : vs[2]? = some .none)
    (h : ∀ h', Note2 base outer e oe.cls a0 .none s.heap h' → Q () { s with heap := h' }) : wpAny M A (leaving env (.ref e)) Q E s := by
  unfold leaving noteFrame
  simp only [hf]
  refine wpAny_bind (wpAny_bind (wpAny_field he hd h1 ?_))
  rw [if_neg (by decide)]
  refine entry2 hfr hl hf he hkb hen hd (Array.getElem?_eq_some_iff.mp h1).1 h0 h2 fun h₁ n1 => ?_
  obtain ⟨k1, k2, k3, k4⟩ := n1
  refine flight2 (base := base) (l := env :: outer) k1 k2 k3 fun h₂ n2 => ?_
  obtain ⟨j1, ⟨_, _, j2⟩, j3, j4⟩ := n2
  exact h h₂ ⟨j1, j2, j3, k4.trans j4⟩
theorem note2 {base : Heap} {env : Env} {outer : List Env} {L e : Addr} {cls a0 : Value} {Q : Unit → Shared → Prop}
    (hfr : A.frames = some (env :: outer)) (hl : s.heap.FunFrames base (env :: outer)) (hf : env.frame = some L) (ht : Tr2 s.heap base e cls a0 .none) (hkb : base.StaysIn s.heap) (hen : base.get? e = none)
    (h : ∀ h', Note2 base (env :: outer) e cls a0 (rawInt L) s.heap h' → Q () { s with heap := h' }) : wpAny M A (noteFrame (.ref e) env) Q E s := by
  obtain ⟨oe, vs, T, oT, ts, he, ⟨hcls, h0⟩, hd, h1, hnT, hTe, hT, hdT, h3, h2⟩ := ht
  subst hcls
  unfold noteFrame
  simp only [hf]
  refine wpAny_bind (wpAny_field he hd h1 ?_)
  rw [if_pos (show (Value.ref T != Value.none) = true from by simp)]
  refine wpAny_bind (wpAny_field hT hdT h3 ?_)
  rw [if_neg (show ¬ ((Value.none == rawInt L) = true) from by simp [rawInt])]
  refine wpAny_bind (wpAny_setField hT hdT (Array.getElem?_eq_some_iff.mp h3).1 ?_)
  have other : ∀ b, b ≠ T → (s.heap.update T (Obj.mapFields (·.setIfInBounds 3 Value.none))).get? b = s.heap.get? b := fun b hb => Heap.get?_update_other _ _ (Ne.symm hb)
  have noRec : ∀ b o, s.heap.get? b = some o → (∀ vs, o.data ≠ .fields vs) → b ≠ T := fun b o hb hnf q => by
    rw [q, hT] at hb
    cases hb
    exact hnf ts hdT
  refine entry2 (s := { s with heap := s.heap.update T (Obj.mapFields (·.setIfInBounds 3 Value.none)) }) hfr (hl.of_keeps fun b o hb hnf => ⟨o, (other b (noRec b o hb hnf)).trans hb, rfl⟩) hf ((other e (Ne.symm hTe)).trans he)
    (fun b o hbo => (other b fun q => by rw [q, hnT] at hbo; cases hbo).trans (hkb b o hbo)) hen hd (Array.getElem?_eq_some_iff.mp h1).1 h0 h2
    fun h' ⟨x1, x2, x3, x4⟩ => h h' ⟨x1, x2, x3, fun b o hb hnf => x4 b o ((other b (noRec b o hb hnf)).trans hb) hnf⟩
end
noncomputable def Rs2 (base G : Heap) (l : List Env) (e : Addr) (cls : Value) (t : Addr) (vs : List Value) (news : List (Addr × Obj)) (h : Heap) : Prop :=
  (∃ B, base.StaysIn B ∧ (∀ b o, G.get? b = some o → b ∉ l.filterMap (·.frame) → B.get? b = some o) ∧ (∀ q ∈ news, B.get? q.1 = some q.2 ∧ G.get? q.1 = none ∧ base.get? q.1 = none) ∧ (B.StaysIn h ∧ B.get? e = none ∧ h.FunFrames B l ∧ Tr2 h B e cls (.ref t) .none) ∧ B.get? t = none) ∧ h.TupAt t vs
theorem Rs2.toS {base G : Heap} {l : List Env} {e : Addr} {cls : Value} {t : Addr} {vs : List Value} {news : List (Addr × Obj)} {h : Heap} (R : Rs2 base G l e cls t vs news h) : RaisedS base G l e cls t vs news h := by
  obtain ⟨⟨B, hB, hG, hl, ⟨f1, f2, f3, f4⟩, hn⟩, ht⟩ := R
  exact ⟨⟨B, hB, hG, hl, ⟨f1, f2, f3, f4.tr⟩, hn⟩, ht⟩
section
variable {M : Model} {A : Around} {E : Value → Shared → Prop} {s' : Shared} {base g h : Heap} {outer : List Env} {L a e : Addr} {m : Str → Option Value} {name : Str} {scope : Scope} {cd : Value} {Q : Unit → Shared → Prop} {news : List (Addr × Obj)}
theorem leave_raise2 {cls : Value} {vs : List Value} (K : Below A base outer g) (hx : Heap.MadeExcOf h s'.heap e cls vs) (F : Fr g L h m) (N : News g L h news)
    (hQ : ∀ h' t, Rs2 base g outer e cls t vs news h' → g.UpToSlots h' → Q () { s' with heap := h' }) (hk : scope.kind = .function := by rfl) :
    wpAny M (A.deeper (envOf name scope L a cd)) (leaving (envOf name scope L a cd) (.ref e)) Q E s' := by
  have K' := K.push (name := name) (a := a) (cd := cd) F hk
  have hin : ∀ env ∈ (envOf name scope L a cd :: outer), ∀ b, env.frame = some b → b ∈ (envOf name scope L a cd :: outer).filterMap (·.frame) := fun env he b hb => List.mem_filterMap.mpr ⟨env, he, hb⟩
  have st : base.StaysIn (hideAll h ((envOf name scope L a cd :: outer).filterMap (·.frame))) := fun b o q => hideAll_get _ (K'.stays b o q) fun hm => by
    rw [(K'.frames.mem hm).1] at q; cases q
  have sg : ∀ b o, g.get? b = some o → b ∉ outer.filterMap (·.frame) → (hideAll h ((envOf name scope L a cd :: outer).filterMap (·.frame))).get? b = some o := fun b o q nm => hideAll_get _ (F.keep b o q) fun hm => by
    rcases kts_mem hm with z | z
    · rw [z, kts_self F] at q
      cases q
    · exact nm z
  have hl : ∀ q ∈ news, (hideAll h ((envOf name scope L a cd :: outer).filterMap (·.frame))).get? q.1 = some q.2 ∧ g.get? q.1 = none ∧ base.get? q.1 = none := fun q hq => by
    refine ⟨hideAll_get _ (N q hq).1 fun hm => ?_, (N q hq).2.2, fresh_of_stays K.stays (N q hq).2.2⟩
    obtain ⟨env, he, hf⟩ := List.mem_filterMap.mp hm
    rcases List.mem_cons.mp he with rfl | he
    · exact (N q hq).2.1 (Option.some.inj hf).symm
    · obtain ⟨o, ho, _⟩ := (K.frames.mem (List.mem_filterMap.mpr ⟨env, he, hf⟩)).2
      rw [(N q hq).2.2] at ho; cases ho
  obtain ⟨t, he, htn, ht⟩ := hx.there
  have fresh : ∀ b, h.get? b = none → (hideAll h ((envOf name scope L a cd :: outer).filterMap (·.frame))).get? b = none := fun b hb => by
    cases q : (hideAll h ((envOf name scope L a cd :: outer).filterMap (·.frame))).get? b with
    | none => rfl
    | some o => have := of_hideAll _ q; rw [hb] at this; cases this
  refine leave2 K'.stack ((funFrames_hide K'.frames hin).of_keeps fun b o hb _ => ⟨o, hx.keeps b o hb, rfl⟩) rfl he (fun b o hb => hx.keeps b o (of_hideAll _ hb)) (fresh e hx.new) rfl rfl rfl rfl fun h' hL => ?_
  obtain ⟨k1, k2, k3, k4⟩ := hL
  exact hQ h' t ⟨⟨_, st, sg, hl, ⟨k1, fresh e hx.new, k2, k3⟩, fresh t htn⟩, Heap.TupAt.of_slots ⟨_, _, ht, rfl, rfl⟩ k4⟩ (((Heap.UpToSlots.of_keeps F.keep).trans (Heap.UpToSlots.of_keeps hx.keeps)).trans k4)
end
theorem Tr2.keeps {h h' base : Heap} {e : Addr} {cls a0 fl : Value} (x : Tr2 h base e cls a0 fl) (k : ∀ b o, h.get? b = some o → h'.get? b = some o) : Tr2 h' base e cls a0 fl := by
  obtain ⟨oe, vs, T, oT, ts, a1, a2, a3, a4, a5, a6, a7, a8, a9, a10⟩ := x
  exact ⟨oe, vs, T, oT, ts, k _ _ a1, a2, a3, a4, a5, a6, k _ _ a7, a8, a9, a10⟩
section
variable {prog : Program} {w : World} {A₀ : Around} {E : Value → Shared → Prop} {s' : Shared} {base g G : Heap} {outer : List Env} {L a e t : Addr} {m : Str → Option Value} {name : Str} {scope : Scope} {cd cls : Value}
  {vs : List Value} {n : Str} {b₀ : Stmt} {suite : List Stmt} {pos : Pos} {rest : List ExceptHandler} {Q : Flow → Shared → Prop} {news : List (Addr × Obj)} {KF : Frag} {tt : Expr}
  {p : Program} {loose : List Str} {mean : ExcName → Option Value} {mg mb : Str → Option Value}
theorem hit2 (R : Rs2 base G (envOf name scope L a cd :: outer) e cls t vs news s'.heap) (F : Fr g L G m) (K : Below A₀ base outer g) (hsm : G.UpToSlots s'.heap) (XB : KF.In base) (TB : Top p loose mean mg mb base)
    (D : KtsDicts (outer.filterMap (·.frame)) g) (T : KtsTest prog w KF p loose mg mb name scope L a cd cls tt true)
    (k : ∀ h' g' oe ws tk, oe.cls = cls → oe.data = .fields ws → ws[2]? = some .none → KtsTurn (outer.filterMap (·.frame)) g g' → Fr g' L h' (fun y => if y = n then some (.ref e) else m y) → News g' L h' ((e, oe) :: news) → Below A₀ base outer g' → KF.In g' → Top p loose mean mg mb g' → KtsDicts (outer.filterMap (·.frame)) g' →
      wpAny (model prog w) ((A₀.deeper (envOf name scope L a cd)).mark (some (.ref e))) (execs (b₀ :: suite) (envOf name scope L a cd))
        (fun f s₄ => wpAny (model prog w) (A₀.deeper (envOf name scope L a cd)) (do bindName (envOf name scope L a cd) n .none; unbindBehindTheSuite (envOf name scope L a cd) n pos) (fun _ s₅ => Q f s₅) E s₄)
        (AsSuiteRaised (model prog w) ((A₀.deeper (envOf name scope L a cd)).mark (some (.ref e))) (envOf name scope L a cd) n pos (notedBy (model prog w) ((A₀.deeper (envOf name scope L a cd)).mark (some (.ref e))) (envOf name scope L a cd) (cameBackBy (model prog w) (A₀.deeper (envOf name scope L a cd)) (envOf name scope L a cd) E)))
        { s' with heap := h', toks := tk })
    (hk : scope.kind = .function := by rfl) (hlo : (envOf name scope L a cd).kindOf n = some .local := by rfl) :
    wpAny (model prog w) (A₀.deeper (envOf name scope L a cd)) (noteFrame (.ref e) (envOf name scope L a cd))
      (fun _ s₂ => wpAny (model prog w) (A₀.deeper (envOf name scope L a cd)) (setFlight (.ref e) none) (fun _ s₃ =>
        wpAny (model prog w) (A₀.deeper (envOf name scope L a cd)) (handleBy (.ref e) (envOf name scope L a cd) (.ExceptHandler (some tt) (some n) (b₀ :: suite) pos :: rest)) Q E s₃) E s₂) E s' := by
  obtain ⟨⟨B, hB, hBG, hl, ⟨f1, f2, f3, f4⟩, hnew⟩, htup⟩ := R
  refine note2 (Around.frames_deeper K.stack) f3 rfl f4 f1 f2 fun h₃ n3 => ?_
  obtain ⟨a1, a2, a3, a4⟩ := n3
  refine flight2 (base := B) (l := envOf name scope L a cd :: outer) a1 a2 a3 fun h₄ n4 => ?_
  obtain ⟨c1, c2, c3, c4⟩ := n4
  have hsm₄ : G.UpToSlots h₄ := hsm.trans (Heap.UpToSlots.trans a4 c4)
  obtain ⟨g₅, T₅, F₅, K₅⟩ := kts_ground K F hBG c1 hsm₄
  refine wpAny_handleBy_cons (codeAny_handlers_test (T _ _ _ _ g₅ e m F₅ (XB.keeps K₅.stays) (topRead_of (TB.keeps K₅.stays)) ?ty fun h₅ kp => ?_)) (by intro q; cases q)
  case ty =>
    obtain ⟨ob, hob, hc⟩ := c3.tr.there
    subst hc
    exact (Looks.ld hob).andThen .now
  have hsm₅ : G.UpToSlots h₅ := hsm₄.trans (Heap.UpToSlots.of_keeps kp)
  have hL : B.get? L = none := by
    obtain ⟨_, ⟨L', _, hf, hn', _⟩, _⟩ := c2
    obtain rfl : L = L' := Option.some.inj hf
    exact hn'
  refine codeAny_handlers_suite_as ?_
  refine flight2 (base := B) (l := envOf name scope L a cd :: outer) (fun b o q => kp _ _ (c1 b o q)) (c2.of_keeps fun b o hb _ => ⟨o, kp _ _ hb, rfl⟩) (c3.keeps kp) fun h₆ n6 => ?_
  obtain ⟨j1, j2, j3, j4⟩ := n6
  have hsm₆ : G.UpToSlots h₆ := hsm₅.trans j4
  obtain ⟨g₆, T₆, F₆, K₆⟩ := kts_ground K F hBG j1 hsm₆
  obtain ⟨oe, ws, Tb, oT, ts, hoe, ⟨hoec, _⟩, hoed, _, _, _, _, _, _, h2⟩ := j3
  have ne₆ : g₆.get? e = none := T₆.none_ _ (kts_fresh F hBG f2 fun o ho m => by
    obtain ⟨_, o', ho', hd⟩ := K.frames.mem m
    rw [ho] at ho'
    cases ho'
    obtain ⟨sl, hs⟩ := hsm₆ _ _ (F.keep _ _ ho) hd
    rw [hoe] at hs
    cases hs
    exact hd _ hoed)
  have N₆ := News.more F₆ News.nil hoe (fun es n q => by rw [hoed] at q; cases q) ne₆
  have Nl : News g₆ L h₆ news := fun q hq => ⟨j1 _ _ (hl q hq).1, (fun z => by have := (hl q hq).1; rw [z, hL] at this; cases this), T₆.none_ _ (kts_none F.keep (hl q hq).2.1)⟩
  have X₆ : KF.In g₆ := XB.keeps K₆.stays
  have P₆ : Top p loose mean mg mb g₆ := TB.keeps K₆.stays
  have D₆ : KtsDicts (outer.filterMap (·.frame)) g₆ := D.turn T₆
  refine stN F₆ (news := [(e, oe)] ++ news) (fun q hq => (List.mem_append.mp hq).elim (N₆ q) (Nl q)) (fun h₇ F₇ N₇ => ?_) hk hlo
  exact k h₇ g₆ oe ws _ hoec hoed h2 T₆ F₇ N₇ K₆ X₆ P₆ D₆
end
end
section
open PySem PySem.W PySem.Spec PySem.Calls PyProof.Rows
set_option maxHeartbeats 1000000
section
variable {w : World} {A : Around} {E : Value → Shared → Prop} {s : Shared}
noncomputable abbrev chainObj (C t e0 : Addr) : Obj := { cls := .ref C, data := .fields #[.ref t, .none, .ref e0, .ref e0, .bool true, .none] }
theorem entry_unchain : entryFor table "proto.unchain" = some Builtin.«proto.unchain» := entryFor_of_tree (by kernel_rfl)
noncomputable def IsCls (h : Heap) (C : Addr) : Prop := ∃ nm qn Nn bs hdct sn sub ab col dd k0 k1 k2 k3 k5, h.get? C = some (excClassObj nm qn C Nn bs veTail hdct sn sub ab col dd k0 k1 k2 k3 k5 "ValueError.__new__")
noncomputable def RaisableF (E : Value → Shared → Prop) (e0 : Addr) (v cv : Value) (s₁ : Shared) : Prop :=
  ∃ e C t C0 oe ws, v = .ref e ∧ cv = .ref e0 ∧ IsCls s₁.heap C ∧ IsCls s₁.heap C0 ∧ s₁.heap.get? e = some (excObj C t) ∧ s₁.heap.get? e0 = some oe ∧ oe.cls = .ref C0 ∧ oe.data = .fields ws ∧ ws[2]? = some .none ∧ e ≠ e0 ∧ e ≠ C ∧ e ≠ C0 ∧
    ∀ h', h'.get? e = some (chainObj C t e0) → (∀ b, b ≠ e → h'.get? b = s₁.heap.get? b) → E (.ref e) { s₁ with heap := h' }
theorem raise_from {prog : Program} {env : Env} {ex cx : Expr} {pos : Pos} {e0 : Addr} {Q : Flow → Shared → Prop} (hh : A.handled = some (.ref e0))
    (h : wpAny (model prog w) A (eval ex env) (fun v s₁ => wpAny (model prog w) A (eval cx env) (RaisableF E e0 v) E s₁) E s) : wpAny (model prog w) A (exec (.Raise (some ex) (some cx) pos) env) Q E s := by
  show wpAny (model prog w) A (do standAt pos; raiseStmt env (some (do let v ← eval ex env; standAt pos; pure v)) (some (do let v ← eval cx env; standAt pos; pure v))) Q E s
  refine wpAny_bind (wpAny_standAt ?_)
  unfold raiseStmt
  dsimp only
  refine wpAny_bind (wpAny_bind (wpAny_mono h (fun v s₁ h₁ => wpAny_bind (wpAny_standAt (wpAny_pure ?_))) fun _ _ x => x))
  refine wpAny_bind (wpAny_holding (wpAny_bind (wpAny_mono h₁ (fun cv s₂ h₂ => wpAny_bind (wpAny_standAt (wpAny_pure (wpAny_bind (wpAny_pure ?_))))) fun _ _ x => x)))
  obtain ⟨e, C, t, C0, oe, ws, rfl, rfl, ⟨nm, qn, Nn, bs, hdct, sn, sub, ab, col, dd, k0, k1, k2, k3, k5, hC⟩, ⟨nm', qn', Nn', bs', hdct', sn', sub', ab', col', dd', k0', k1', k2', k3', k5', hC0⟩, he, he0, hc0, hd0, hw, n1, n2, n3, hE⟩ := h₂
  have hcB : (Value.ref C :: veTail).contains (.type "BaseException") = true := by rw [List.contains_cons]; rfl
  have hcB0 : (Value.ref C0 :: veTail).contains (.type "BaseException") = true := by rw [List.contains_cons]; rfl
  obtain ⟨hp, g, d, tk, os⟩ := s₂
  refine wpAny_bind (wpAny_holding ?_)
  unfold excFromValue
  repeat (first | with_reducible refine wpAny_loadPart_at he ?_ | with_reducible refine wpAny_loadPart_at hC ?_ | (with_reducible refine wpAny_isSubtype_exc hC ?_; rw [hcB]) | (first | with_reducible (first | refine PySem.wpAny_pure ?_ | refine PySem.wpAny_bind ?_ | refine PySem.wpAny_holding ?_ | refine PySem.wpAny_standAt ?_ | refine PySem.wpAny_point ?_ | refine PySem.wpAny_rule ?_ | refine PySem.wpAny_letGo ?_ | refine PySem.wpAny_mkInt' ?_ | refine PySem.wpAny_fresh' ?_ | refine PySem.wpAny_alloc' ?_ | refine PySem.wpAny_attempt ?_ | refine PySem.wpAny_throw ?_ | refine PySem.wpAny_of_eq (by assumption) ?_ | refine PySem.wpAny_typeOf (by assumption) ?_ | refine PySem.wpAny_specialOf_val (by assumption) (by assumption) ?_ | refine PySem.wpAny_specialOf (by assumption) (by assumption) ?_ | refine PySem.wpAny_isInstance_val (by assumption) (by assumption) ?_ | refine PySem.wpAny_isInstance (by assumption) (by assumption) ?_ | refine PySem.wpAny_call ?_ | refine PySem.wpAny_runValue ?_ | refine PySem.wpAny_run ?_) | ((fail_if_success (with_reducible show PySem.wpAny _ _ (PySem.mkStr _) _ _ _)); wp_delta) | ((with_reducible apply PySem.wpAny_load'); focus (heap_get; done)) | ((with_reducible apply PySem.wpAny_update'); focus (heap_get; done)) | ((with_reducible apply PySem.wpAny_handled_none); focus (assumption; done)) | ((with_reducible apply PySem.wpAny_ite_false); focus (rfl; done)) | ((with_reducible apply PySem.wpAny_ite_true); focus (rfl; done)) | ((with_reducible apply PySem.wpAny_ite_false); focus (simp [*]; done)) | ((with_reducible apply PySem.wpAny_ite_true); focus (simp [*]; done)) | ((with_reducible show PySem.wpAny _ _ _ _ _ _); wp_step)))
  rw [hc0]
  refine wpAny_isSubtype_exc hC0 ?_
  rw [hcB0]
  rw [if_pos rfl]
  refine wpAny_pure (wpAny_bind (wpAny_setField he rfl (show 3 < 6 by decide) ?_))
  have g1 := Heap.get?_update_self (Obj.mapFields (·.setIfInBounds 3 (Value.ref e0))) he (Obj.isFreed_of_fields (Obj.data_mapFields (o := excObj C t) rfl _))
  refine wpAny_bind (wpAny_setField g1 rfl (show 4 < 6 by decide) ?_)
  have g2 := Heap.get?_update_self (Obj.mapFields (·.setIfInBounds 4 (Value.bool true))) g1 (Obj.isFreed_of_fields (Obj.data_mapFields (Obj.data_mapFields (o := excObj C t) rfl _) _))
  have oth : ∀ b, b ≠ e → ((hp.update e (Obj.mapFields (·.setIfInBounds 3 (Value.ref e0)))).update e (Obj.mapFields (·.setIfInBounds 4 (Value.bool true)))).get? b = hp.get? b := fun b hb => (Heap.get?_update_other _ _ (Ne.symm hb)).trans (Heap.get?_update_other _ _ (Ne.symm hb))
  dsimp only at g1 g2 oth ⊢
  revert g2 oth
  generalize (hp.update e (Obj.mapFields (·.setIfInBounds 3 (Value.ref e0)))).update e (Obj.mapFields (·.setIfInBounds 4 (Value.bool true))) = h2
  intro g2 oth
  have hC2 := (oth C (Ne.symm n2)).trans hC
  replace g2 : h2.get? e = some { cls := .ref C, data := .fields #[.ref t, .none, .none, .ref e0, .bool true, .none] } := g2.trans rfl
  repeat (first | with_reducible refine wpAny_loadPart_at g2 ?_ | with_reducible refine wpAny_loadPart_at hC2 ?_ | (with_reducible refine wpAny_isSubtype_exc hC2 ?_; rw [hcB]) | (first | with_reducible (first | refine PySem.wpAny_pure ?_ | refine PySem.wpAny_bind ?_ | refine PySem.wpAny_holding ?_ | refine PySem.wpAny_standAt ?_ | refine PySem.wpAny_point ?_ | refine PySem.wpAny_rule ?_ | refine PySem.wpAny_letGo ?_ | refine PySem.wpAny_mkInt' ?_ | refine PySem.wpAny_fresh' ?_ | refine PySem.wpAny_alloc' ?_ | refine PySem.wpAny_attempt ?_ | refine PySem.wpAny_throw ?_ | refine PySem.wpAny_of_eq (by assumption) ?_ | refine PySem.wpAny_typeOf (by assumption) ?_ | refine PySem.wpAny_specialOf_val (by assumption) (by assumption) ?_ | refine PySem.wpAny_specialOf (by assumption) (by assumption) ?_ | refine PySem.wpAny_isInstance_val (by assumption) (by assumption) ?_ | refine PySem.wpAny_isInstance (by assumption) (by assumption) ?_ | refine PySem.wpAny_call ?_ | refine PySem.wpAny_runValue ?_ | refine PySem.wpAny_run ?_) | ((fail_if_success (with_reducible show PySem.wpAny _ _ (PySem.mkStr _) _ _ _)); wp_delta) | ((with_reducible apply PySem.wpAny_load'); focus (heap_get; done)) | ((with_reducible apply PySem.wpAny_update'); focus (heap_get; done)) | ((with_reducible apply PySem.wpAny_handled_none); focus (assumption; done)) | ((with_reducible apply PySem.wpAny_ite_false); focus (rfl; done)) | ((with_reducible apply PySem.wpAny_ite_true); focus (rfl; done)) | ((with_reducible apply PySem.wpAny_ite_false); focus (simp [*]; done)) | ((with_reducible apply PySem.wpAny_ite_true); focus (simp [*]; done)) | ((with_reducible show PySem.wpAny _ _ _ _ _ _); wp_step)))
  unfold raiseNew
  refine wpAny_bind (wpAny_handled ?_)
  rw [hh]
  dsimp only
  rw [if_pos (show (Value.ref e0 != Value.ref e) = true from by simp [Ne.symm n1])]
  refine wpAny_bind (wpAny_holding (wpAny_runValue (codeAny_builtin entry_unchain ?_)))
  unfold Builtin.«proto.unchain»
  dsimp only
  refine wpAny_bind (wpAny_field ((oth e0 (Ne.symm n1)).trans he0) hd0 hw ?_)
  rw [if_pos (show (Value.none == Value.none) = true from rfl)]
  repeat (first | with_reducible (first | refine PySem.wpAny_pure ?_ | refine PySem.wpAny_bind ?_ | refine PySem.wpAny_holding ?_ | refine PySem.wpAny_standAt ?_ | refine PySem.wpAny_point ?_ | refine PySem.wpAny_rule ?_ | refine PySem.wpAny_letGo ?_ | refine PySem.wpAny_mkInt' ?_ | refine PySem.wpAny_fresh' ?_ | refine PySem.wpAny_alloc' ?_ | refine PySem.wpAny_attempt ?_ | refine PySem.wpAny_throw ?_ | refine PySem.wpAny_of_eq (by assumption) ?_ | refine PySem.wpAny_typeOf (by assumption) ?_ | refine PySem.wpAny_specialOf_val (by assumption) (by assumption) ?_ | refine PySem.wpAny_specialOf (by assumption) (by assumption) ?_ | refine PySem.wpAny_isInstance_val (by assumption) (by assumption) ?_ | refine PySem.wpAny_isInstance (by assumption) (by assumption) ?_ | refine PySem.wpAny_call ?_ | refine PySem.wpAny_runValue ?_ | refine PySem.wpAny_run ?_) | ((fail_if_success (with_reducible show PySem.wpAny _ _ (PySem.mkStr _) _ _ _)); wp_delta) | ((with_reducible apply PySem.wpAny_load'); focus (heap_get; done)) | ((with_reducible apply PySem.wpAny_update'); focus (heap_get; done)) | ((with_reducible apply PySem.wpAny_handled_none); focus (assumption; done)) | ((with_reducible apply PySem.wpAny_ite_false); focus (rfl; done)) | ((with_reducible apply PySem.wpAny_ite_true); focus (rfl; done)) | ((with_reducible apply PySem.wpAny_ite_false); focus (simp [*]; done)) | ((with_reducible apply PySem.wpAny_ite_true); focus (simp [*]; done)) | ((with_reducible show PySem.wpAny _ _ _ _ _ _); wp_step))
  refine hE _ ((Heap.get?_update_self _ g2 (Obj.isFreed_of_fields (Obj.data_mapFields rfl _))).trans rfl) fun b hb => ?_
  exact (Heap.get?_update_other _ _ (Ne.symm hb)).trans (oth b hb)
end
end
section
open PySem PySem.W PySem.Spec PySem.Calls PyProof.Rows
set_option maxHeartbeats 1000000
section
variable {M : Model} {A : Around} {E : Value → Shared → Prop} {s : Shared}
theorem flight_to {base : Heap} {l : List Env} {e L : Addr} {cls a0 fl : Value} {Q : Unit → Shared → Prop}
    (hkb : base.StaysIn s.heap) (hl : s.heap.FunFrames base l) (ht : s.heap.TracedAtW base e cls a0 fl)
    (h : ∀ h', base.StaysIn h' → h'.FunFrames base l → h'.TracedAtW base e cls a0 (rawInt L) → s.heap.UpToSlots h' → Q () { s with heap := h' }) :
    wpAny M A (setFlight (.ref e) (some L)) Q E s := by
  obtain ⟨oe, vs, T, oT, ts, he, hcls, hd, h1, hnT, hTe, hT, hdT, h3⟩ := ht
  have hsz3 : 3 < ts.size := (Array.getElem?_eq_some_iff.mp h3).1
  have other : ∀ b, b ≠ T → (s.heap.update T (Obj.mapFields (·.setIfInBounds 3 ((some L : Option Addr).elim Value.none fun f => rawInt f)))).get? b = s.heap.get? b :=
    fun b hb => Heap.get?_update_other _ _ (Ne.symm hb)
  have noRec : ∀ b o, s.heap.get? b = some o → (∀ vs, o.data ≠ .fields vs) → b ≠ T := fun b o hb hnf q => by
    rw [q, hT] at hb
    cases hb
    exact hnf ts hdT
  unfold setFlight
  refine wpAny_bind (wpAny_field he hd h1 ?_)
  rw [if_pos (show (Value.ref T != Value.none) = true from by simp)]
  refine wpAny_setField hT hdT hsz3 (h _ (fun b o hbo => (other b fun q => by rw [q, hnT] at hbo; cases hbo).trans (hkb b o hbo))
    (hl.of_keeps fun b o hb hnf => ⟨o, (other b (noRec b o hb hnf)).trans hb, rfl⟩) ?_ fun b o hb hnf => ⟨o.slots, (other b (noRec b o hb hnf)).trans hb⟩)
  exact ⟨oe, vs, T, _, _, (other e (Ne.symm hTe)).trans he, hcls, hd, h1, hnT, hTe, Heap.get?_update_self _ hT (Obj.isFreed_of_fields (Obj.data_mapFields hdT _)), Obj.data_mapFields hdT _, by simp [hsz3]⟩
theorem funFrames_up {h h' base : Heap} (k : ∀ b o, h.get? b = some o → (∀ vs, o.data ≠ .fields vs) → ∃ o', h'.get? b = some o' ∧ ∀ vs, o'.data ≠ .fields vs) : ∀ {l : List Env}, h.FunFrames base l → h'.FunFrames base l
  | [], _ => trivial
  | _ :: _, ⟨hk, ⟨L, o, hf, hn, ho, hd⟩, hr⟩ => by
    obtain ⟨o', q1, q2⟩ := k L o ho hd
    exact ⟨hk, ⟨L, o', hf, hn, q1, q2⟩, funFrames_up k hr⟩
theorem passOn_to {base : Heap} {l : List Env} {env : Env} {e L : Addr} {cls a0 fl : Value} {what : String} {Q : Flow → Shared → Prop} (hf : env.frame = some L)
    (hkb : base.StaysIn s.heap) (hl : s.heap.FunFrames base l) (ht : s.heap.TracedAtW base e cls a0 fl)
    (h : ∀ h', base.StaysIn h' → h'.FunFrames base l → h'.TracedAtW base e cls a0 (rawInt L) → s.heap.UpToSlots h' → E (.ref e) { s with heap := h' }) :
    wpAny M A (PySem.passOn what (.ref e) env : Sem Flow) Q E s := by
  have ht' := ht
  obtain ⟨oe, vs, T, oT, ts, he, hcls, hd, h1, hnT, hTe, hT, hdT, h3⟩ := ht'
  unfold PySem.passOn
  refine wpAny_bind (wpAny_field he hd h1 ?_)
  rw [if_neg (show ¬ ((Value.ref T == Value.none) = true) from by simp)]
  rw [hf]
  refine wpAny_bind (flight_to hkb hl ht fun h' k1 k2 k3 k4 => ?_)
  exact wpAny_throw (h h' k1 k2 k3 k4)
theorem cameBack_to {base : Heap} {l : List Env} {env : Env} {e L : Addr} {cls a0 fl : Value} (hf : env.frame = some L)
    (hkb : base.StaysIn s.heap) (hl : s.heap.FunFrames base l) (ht : s.heap.TracedAtW base e cls a0 fl)
    (h : ∀ h', base.StaysIn h' → h'.FunFrames base l → h'.TracedAtW base e cls a0 (rawInt L) → s.heap.UpToSlots h' → E (.ref e) { s with heap := h' }) :
    cameBackBy M A env E (.ref e) s := by
  have ht' := ht
  obtain ⟨oe, vs, T, oT, ts, he, hcls, hd, h1, hnT, hTe, hT, hdT, h3⟩ := ht'
  unfold cameBackBy
  refine wpAny_bind (wpAny_field he hd h1 ?_)
  rw [if_neg (show ¬ ((Value.ref T == Value.none) = true) from by simp)]
  rw [hf]
  exact flight_to hkb hl ht fun h' k1 k2 k3 k4 => h h' k1 k2 k3 k4
end
noncomputable def HeldS (base G : Heap) (env : Env) (l : List Env) (e : Addr) (cls : Value) (t : Addr) (vs : List Value) (news : List (Addr × Obj)) (L : Addr) (h : Heap) : Prop :=
  (∃ B, base.StaysIn B ∧ (∀ b o, G.get? b = some o → b ∉ l.filterMap (·.frame) → B.get? b = some o) ∧ (∀ q ∈ news, B.get? q.1 = some q.2 ∧ G.get? q.1 = none ∧ base.get? q.1 = none) ∧ Heap.HeldW B (env :: l) e cls (.ref t) L h ∧ B.get? t = none) ∧ h.TupAt t vs ∧ G.UpToSlots h
section
variable {M : Model} {A : Around} {E : Value → Shared → Prop} {s : Shared} {base g h : Heap} {outer : List Env} {L a e e0 t C : Addr} {m : Str → Option Value} {name n : Str} {scope : Scope} {cd : Value} {news nw : List (Addr × Obj)} {vs : List Value} {ot : Obj} {pos : Pos} {hm : Option Value}
theorem held_leaves {Q : Unit → Shared → Prop} (hh : HeldS base g (envOf name scope L a cd) outer e (.ref C) t vs news L s.heap)
    (hQ : ∀ h', RaisedS base g outer e (.ref C) t vs news h' → RaisedK base outer e (.ref C) t vs news h' → g.UpToSlots h' → Q () { s with heap := h' }) : wpAny M A (leaving (envOf name scope L a cd) (.ref e)) Q E s := by
  obtain ⟨⟨B, b1, b2, b3, b4, b5⟩, b6, b7⟩ := hh
  unfold leaving
  refine wpAny_bind (wpAny_noteFrame_againW (L := L) rfl b4.2.2.2 ?_)
  refine wpAny_landsW b4 fun h' hfl up => ?_
  obtain ⟨k1, k2, ⟨_, _, k3⟩, k4⟩ := hfl
  have R : RaisedS base g outer e (.ref C) t vs news h' := ⟨⟨B, b1, b2, b3, ⟨k1, k2, k3, k4⟩, b5⟩, b6.of_slots up⟩
  exact hQ h' R R.toK (b7.trans up)
theorem chain_out (K : Below A base outer g) (F : Fr g L h m) (N : News g L h nw) (he : (e, excObj C t) ∈ nw) (ht : (t, ot) ∈ nw) (hot : ot.cls = .type "tuple" ∧ ∃ n', ot.data = .seq vs.toArray n')
    (hs : ∀ p ∈ news, p ∈ nw ∧ p.1 ≠ e ∧ p.1 ≠ t) (hsh : ∀ b, b ≠ e → s.heap.get? b = h.get? b) (hse : s.heap.get? e = some (chainObj C t e0))
    (hE : ∀ h' tk, HeldS base g (envOf name scope L a cd) outer e (.ref C) t vs news L h' → E (.ref e) { s with heap := h', toks := tk })
    (hk : scope.kind = .function := by rfl) (hlo : (envOf name scope L a cd).kindOf n = some .local := by rfl) :
    AsSuiteRaised M ((A.deeper (envOf name scope L a cd)).mark hm) (envOf name scope L a cd) n pos
      (notedBy M ((A.deeper (envOf name scope L a cd)).mark hm) (envOf name scope L a cd) (cameBackBy M (A.deeper (envOf name scope L a cd)) (envOf name scope L a cd) E)) (.ref e) s := by
  have K' := K.push (name := name) (a := a) (cd := cd) F hk
  have hef : ∀ o, h.get? e = some o → o.data = .fields #[.ref t, .none, .none, .none, .bool false, .none] := fun o q => by
    rw [(N _ he).1] at q; cases q; rfl
  have hte : t ≠ e := fun q => by
    have h1 := (N _ ht).1
    rw [q] at h1
    have h2 := hef _ h1
    obtain ⟨_, n', hd⟩ := hot
    rw [hd] at h2; cases h2
  have hnl : ∀ p ∈ nw, p.1 ∉ (envOf name scope L a cd :: outer).filterMap (·.frame) := fun p hp hm => by
    rcases kts_mem hm with z | z
    · exact (N _ hp).2.1 z
    · obtain ⟨_, o, ho, _⟩ := K.frames.mem z
      rw [(N _ hp).2.2] at ho; cases ho
  let B := hideAll h (e :: t :: (envOf name scope L a cd :: outer).filterMap (·.frame))
  have inB : ∀ b o, h.get? b = some o → b ≠ e → b ≠ t → b ∉ (envOf name scope L a cd :: outer).filterMap (·.frame) → B.get? b = some o := fun b o q n1 n2 n3 => hideAll_get _ q (by
    intro hm
    rcases List.mem_cons.mp hm with z | hm
    · exact n1 z
    rcases List.mem_cons.mp hm with z | hm
    · exact n2 z
    · exact n3 hm)
  have outB : ∀ b o, B.get? b = some o → h.get? b = some o := fun b o q => of_hideAll _ q
  have eB : B.get? e = none := hideAll_none _ (.head _)
  have tB : B.get? t = none := hideAll_none _ (.tail _ (.head _))
  have LB : B.get? L = none := hideAll_none _ (.tail _ (.tail _ (List.mem_filterMap.mpr ⟨_, .head _, rfl⟩)))
  have ge : g.get? e = none := (N _ he).2.2
  have gt : g.get? t = none := (N _ ht).2.2
  have sg : ∀ b o, g.get? b = some o → b ∉ outer.filterMap (·.frame) → B.get? b = some o := fun b o q nm => inB b o (F.keep b o q) (fun z => by rw [z, ge] at q; cases q) (fun z => by rw [z, gt] at q; cases q) fun hm => by
    rcases kts_mem hm with z | z
    · rw [z, kts_self F] at q; cases q
    · exact nm z
  have st : base.StaysIn B := fun b o q => sg b o (K.stays b o q) fun hm => by
    rw [(K.frames.mem hm).1] at q; cases q
  have hl : ∀ q ∈ news, B.get? q.1 = some q.2 ∧ g.get? q.1 = none ∧ base.get? q.1 = none := fun q hq => by
    obtain ⟨h1, h2, h3⟩ := hs q hq
    exact ⟨inB _ _ (N _ h1).1 h2 h3 (hnl _ h1), (N _ h1).2.2, fresh_of_stays K.stays (N _ h1).2.2⟩
  have up0 : h.UpToSlots s.heap := fun b o hb hnf => ⟨o.slots, (hsh b fun q => by rw [q] at hb; exact hnf _ (hef _ hb)).trans hb⟩
  have fr0 : s.heap.FunFrames B (envOf name scope L a cd :: outer) := (funFrames_hide (as := e :: t :: (envOf name scope L a cd :: outer).filterMap (·.frame)) K'.frames fun env he b hb => .tail _ (.tail _ (List.mem_filterMap.mpr ⟨env, he, hb⟩))).of_keeps fun b o hb hnf => by
    obtain ⟨sl, q⟩ := up0 b o hb hnf
    exact ⟨_, q, rfl⟩
  have sb0 : B.StaysIn s.heap := fun b o q => (hsh b fun z => by rw [z, eB] at q; cases q).trans (outB b o q)
  show wpAny M _ (noteFrame (.ref e) (envOf name scope L a cd)) _ _ s
  unfold noteFrame
  refine wpAny_bind (wpAny_field (x := .none) hse rfl rfl ?_)
  rw [if_neg (by decide)]
  refine wpAny_entryW (a0 := .ref t) (Around.frames_deeper K.stack) fr0 rfl hse sb0 eB rfl (Nat.le_of_ble_eq_true rfl) rfl fun h1 n1 => ?_
  obtain ⟨k1, k2, k3, k4⟩ := n1
  have up1 : h.UpToSlots h1 := up0.trans k4
  refine wpAny_nameGoes (s := { s with heap := h1 }) hlo (up1.ns F.ns) (by show (scope.kind == .class || (scope.kind == .module && L != mainGlobals)) = false; rw [hk]; rfl) fun h2 m2 hn2 hb2 => ?_
  have j1 : B.StaysIn h2 := fun b o q => (hb2.2 b fun z => by
    have z' : b = L := z
    rw [z', LB] at q; cases q).trans (k1 b o q)
  obtain ⟨oL, es, ep, hoL, hdL, _⟩ := up1.ns F.ns
  obtain ⟨oL2, es2, ep2, hoL2, hdL2, _⟩ := hn2
  have j2 : h2.FunFrames B (envOf name scope L a cd :: outer) := funFrames_up (fun b o hb hnf => by
    by_cases z : b = L
    · subst z
      exact ⟨oL2, hoL2, fun vs q => by rw [hdL2] at q; cases q⟩
    · exact ⟨o, (hb2.2 b z).trans hb, hnf⟩) k2
  obtain ⟨oe, ws, T, oT, ts, c1, c2, c3, c4, c5, c6, c7, c8, c9⟩ := k3
  have eL : e ≠ L := (N _ he).2.1
  have TL : T ≠ L := fun z => by
    rw [z, hoL] at c7
    cases c7
    rw [hdL] at c8; cases c8
  have j3 : h2.TracedAtW B e (.ref C) (.ref t) (rawInt L) := ⟨oe, ws, T, oT, ts, (hb2.2 _ eL).trans c1, c2, c3, c4, c5, c6, (hb2.2 _ TL).trans c7, c8, c9⟩
  have gL : g.get? L = none := kts_self F
  have tL : t ≠ L := (N _ ht).2.1
  have up2 : g.UpToSlots h2 := fun b o hb hnf => by
    obtain ⟨sl, q⟩ := up1 b o (F.keep b o hb) hnf
    exact ⟨sl, (hb2.2 b fun z => by
      have z' : b = L := z
      rw [z', gL] at hb; cases hb).trans q⟩
  have tup2 : h2.TupAt t vs := by
    obtain ⟨hc, n', hd⟩ := hot
    obtain ⟨sl, q⟩ := up1 t ot (N _ ht).1 fun ws q => by rw [hd] at q; cases q
    exact ⟨_, n', (hb2.2 _ tL).trans q, hc, hd⟩
  refine passOn_to (s := { s with heap := h2, toks := _ }) rfl j1 j2 j3 fun h3 y1 y2 y3 y4 => ?_
  show wpAny M _ (noteFrame (.ref e) _) _ _ _
  refine wpAny_noteFrame_againW (L := L) rfl y3 ?_
  refine cameBack_to (s := { s with heap := h3, toks := _ }) rfl y1 y2 y3 fun h4 z1 z2 z3 z4 => ?_
  exact hE h4 _ ⟨⟨B, st, sg, hl, ⟨z1, eB, z2, z3⟩, tB⟩, (tup2.of_slots y4).of_slots z4, (up2.trans y4).trans z4⟩
theorem raisable_chain {prog : Program} {w : World} {KF : Frag} {C0 fI fI0 tn : Addr} {ld : List (Addr × Obj)} {msg : Str} {u : Tok} {oe : Obj} {ws : Array Value} (F : Fr g L s.heap m) (X₀ : KF.In g)
    (N : News g L s.heap ((e, excObj C tn) :: (tn, { cls := .type "tuple", data := .seq #[.str msg u] }) :: ld)) (q : excInI KF C fI = true) (q0 : excInI KF C0 fI0 = true) (ne : NotIt e ld) (nt : NotIt tn ld) (hne : e ≠ tn)
    (he0 : (e0, oe) ∈ ld) (hc : oe.cls = .ref C0) (hd : oe.data = .fields ws) (h2 : ws[2]? = some .none) (K : Below A base outer g)
    (hE : ∀ h' tk, HeldS base g (envOf name scope L a cd) outer e (.ref C) tn [.str msg u] ld L h' → E (.ref e) { s with heap := h', toks := tk })
    (hk : scope.kind = .function := by rfl) (hlo : (envOf name scope L a cd).kindOf n = some .local := by rfl) :
    RaisableF (AsSuiteRaised (model prog w) ((A.deeper (envOf name scope L a cd)).mark hm) (envOf name scope L a cd) n pos
      (notedBy (model prog w) ((A.deeper (envOf name scope L a cd)).mark hm) (envOf name scope L a cd) (cameBackBy (model prog w) (A.deeper (envOf name scope L a cd)) (envOf name scope L a cd) E))) e0 (.ref e) (.ref e0) s := by
  have X : KF.In s.heap := X₀.keeps F.keep
  obtain ⟨nm, qn, Nn, bs, hdct, sn, sub, ab, col, dd, k0, k1, k2, k3, k5, hC, _⟩ := exc_cls X q
  obtain ⟨nm', qn', Nn', bs', hdct', sn', sub', ab', col', dd', k0', k1', k2', k3', k5', hC0, _⟩ := exc_cls X q0
  obtain ⟨_, _, _, _, _, _, _, _, _, _, _, _, _, _, _, gC, _⟩ := exc_cls X₀ q
  obtain ⟨_, _, _, _, _, _, _, _, _, _, _, _, _, _, _, gC0, _⟩ := exc_cls X₀ q0
  have he := N _ (.head _)
  refine ⟨e, C, tn, C0, oe, ws, rfl, rfl, ⟨nm, qn, Nn, bs, hdct, sn, sub, ab, col, dd, k0, k1, k2, k3, k5, hC⟩, ⟨nm', qn', Nn', bs', hdct', sn', sub', ab', col', dd', k0', k1', k2', k3', k5', hC0⟩, he.1, (N _ (.tail _ (.tail _ he0))).1, hc, hd, h2,
    fun z => ne _ he0 z.symm, fun z => (by rw [show (e, excObj C tn).1 = e from rfl, z, gC] at he; cases he.2.2), fun z => (by rw [show (e, excObj C tn).1 = e from rfl, z, gC0] at he; cases he.2.2), fun h' j1 j2 => ?_⟩
  exact chain_out (s := { s with heap := h' }) K F N (.head _) (.tail _ (.head _)) ⟨rfl, 0, rfl⟩ (fun p hp => ⟨.tail _ (.tail _ hp), ne p hp, nt p hp⟩) j2 j1 hE hk hlo
end
theorem turn_none {g g' : Heap} {fs : List Addr} (T : KtsTurn fs g g') {b : Addr} (q : g'.get? b = none) : g.get? b = none := by
  cases z : g.get? b with
  | none => rfl
  | some o =>
    obtain ⟨sl, y⟩ := T.up z
    rw [q] at y
    cases y
theorem raised_turn {base g g' h : Heap} {l : List Env} {e t : Addr} {cls : Value} {vs : List Value} {news : List (Addr × Obj)} (T : KtsTurn (l.filterMap (·.frame)) g g') (R : RaisedS base g' l e cls t vs news h) : RaisedS base g l e cls t vs news h := by
  obtain ⟨⟨B, b1, b2, b3, b4⟩, b5⟩ := R
  exact ⟨⟨B, b1, fun b o q nm => b2 b o (T.other b o q nm) nm, fun q hq => ⟨(b3 q hq).1, turn_none T (b3 q hq).2.1, (b3 q hq).2.2⟩, b4⟩, b5⟩
theorem up_turn {g g' h : Heap} {fs : List Addr} (T : KtsTurn fs g g') (U : g'.UpToSlots h) : g.UpToSlots h :=
  Heap.UpToSlots.trans (fun b o q _ => T.up q) U
end
section
open PySem PySem.W PySem.Spec PySem.Calls PyProof.Rows
set_option maxHeartbeats 1000000
section
variable {prog : Program} {w : World} {A : Around} {E : Value → Shared → Prop} {s : Shared} {h₀ : Heap} {L a : Addr} {m : Str → Option Value} {name : Str} {scope : Scope} {cd : Value} {nw : List (Addr × Obj)}
/-- where a turn of the loop ends -/
noncomputable def OneEnd (h₀ : Heap) (L : Addr) (Q : Flow → Shared → Prop) (I : Addr) (it : Obj) (lp : Addr × Obj) (f : Flow) (s₂ : Shared) : Prop :=
  f = .next ∧ ∃ m' nw' nw'', Fr h₀ L s₂.heap m' ∧ News h₀ L s₂.heap nw' ∧ (∀ p ∈ nw'', p ∈ nw' ∧ p.1 ≠ I) ∧ (I, it) ∈ nw' ∧ lp ∈ nw' ∧ ∀ h' tk', Fr h₀ L h' m' → News h₀ L h' nw'' → Q .next { s₂ with heap := h', toks := tk' }
/-- a loop over a list of one item, whose body may change all of the state -/
noncomputable def OneTurn (prog : Program) (w : World) (A : Around) (h₀ : Heap) (env : Env) (L : Addr) (m : Str → Option Value) (nw : List (Addr × Obj)) (x : Str) (v : Value) (body : List Stmt) (Q : Flow → Shared → Prop) (lp : Addr × Obj) (s : Shared) : Prop :=
  ∀ I it h tk, it.cls = .type "list_iterator" → Fr h₀ L h (fun y => if y = x then some v else m y) → News h₀ L h ((I, it) :: nw) → (∀ p ∈ nw, p.1 < I) →
    wpAny (model prog w) A (execs body env) (OneEnd h₀ L Q I it lp) (fun _ _ => False) { s with heap := h, toks := tk }
noncomputable def AtList (prog : Program) (w : World) (A : Around) (h₀ : Heap) (env : Env) (L : Addr) (m : Str → Option Value) (nw : List (Addr × Obj)) (x : Str) (v : Value) (body : List Stmt) (Q : Flow → Shared → Prop) (lp : Addr × Obj) (xv : Value) (s₁ : Shared) : Prop :=
  xv = .ref lp.1 ∧ Fr h₀ L s₁.heap m ∧ News h₀ L s₁.heap nw ∧ OneTurn prog w A h₀ env L m nw x v body Q lp s₁
theorem For_one {Q : Flow → Shared → Prop} {x : Str} {px : Pos} {iter : Expr} {body : List Stmt} {pos : Pos} {ax : Addr} {lo : Obj} {v : Value} {n : Nat}
    (_F : Fr h₀ L s.heap m) (_N : News h₀ L s.heap nw) (hh : A.handled = none) (hm : (ax, lo) ∈ nw) (hc : lo.cls = .type "list") (hd : lo.data = .seq #[v] n)
    (h : wpAny (model prog w) A (eval iter (envOf name scope L a cd)) (AtList prog w A h₀ (envOf name scope L a cd) L m nw x v body Q (ax, lo)) E s)
    (hs : ∀ y, foldedSetIterable iter (envOf name scope L a cd) y = pure y := by intro _; rfl) (hk : scope.kind = .function := by rfl) (hl : (envOf name scope L a cd).kindOf x = some .local := by rfl) :
    wpAny (model prog w) A (exec (.For (.Name x px) iter body [] pos) (envOf name scope L a cd)) Q E s := by
  refine wpAny_For (wpAny_mono h (fun xv s₁ h₁ => ?_) fun _ _ y => y) hs
  obtain ⟨rfl, F, N, turn⟩ := h₁
  have hax := N _ hm
  have hlst : s₁.heap.IsList ax #[v] := ⟨lo, hax.1, hc, n, hd⟩
  have hne : ax ≠ s₁.heap.objs.size := Nat.ne_of_lt (Heap.lt_size hax.1)
  refine wpAny_pyIter_list hlst ?_
  have W := Walks.list (prog := prog) (w := w) hh s₁.heap.objs.size ax hne #[v]
  have hIL : s₁.heap.objs.size ≠ L := fun e => Nat.lt_irrefl _ (e ▸ F.ns.lt)
  have hI0 := next_is_new F
  refine codeAny_forLoop_any (fun k s' => (k = 1 ∧ ∃ h', s' = { s₁ with heap := h' } ∧ h'.IsListIter s₁.heap.objs.size ax 0 ∧ h'.IsList ax #[v] ∧ Fr h₀ L h' m ∧ News h₀ L h' nw) ∨
    (k = 0 ∧ ∃ it m' nw' nw'', Fr h₀ L s'.heap m' ∧ News h₀ L s'.heap nw' ∧ (∀ p ∈ nw'', p ∈ nw' ∧ p.1 ≠ s₁.heap.objs.size) ∧ (s₁.heap.objs.size, it) ∈ nw' ∧ (ax, lo) ∈ nw' ∧ s'.heap.IsListIter s₁.heap.objs.size ax 1 ∧
      ∀ h' tk', Fr h₀ L h' m' → News h₀ L h' nw'' → Q .next { s' with heap := h', toks := tk' })) ?_ 1
      (.inl ⟨rfl, _, rfl, ⟨_, Heap.get?_push_size _ rfl, rfl, rfl⟩, hlst.at fun o e => Heap.get?_push_of_some _ e, F.push _, fun p hp => ⟨Heap.get?_push_of_some _ (N p hp).1, (N p hp).2⟩⟩)
  rintro k s' (⟨rfl, h', rfl, st1, st2, F', N'⟩ | ⟨rfl, it, m', nw', nw'', F', N', hsub, hit, hlo, st1, hQ⟩)
  · refine W.item 0 _ _ _ (show 0 < 1 by decide) ⟨st1, st2⟩ fun v' h2 tk hv st' k2 => ?_
    obtain rfl : v = v' := by simpa using hv
    have F2 : Fr h₀ L h2 m := ⟨F'.ns.at' fun o e => k2 _ _ (fun hb => hIL (List.mem_singleton.mp hb).symm) e, fun b o e => k2 _ _ (fun hb => by rw [List.mem_singleton.mp hb, hI0] at e; cases e) (F'.keep b o e), F'.above⟩
    have ltI : ∀ p ∈ nw, p.1 < s₁.heap.objs.size := fun p hp => Heap.lt_size (N p hp).1
    have N2 : News h₀ L h2 nw := fun p hp => ⟨k2 _ _ (fun hb => Nat.ne_of_lt (ltI p hp) (List.mem_singleton.mp hb)) (N' p hp).1, (N' p hp).2⟩
    obtain ⟨it, q1, q2, q3⟩ := st'.1
    have NI : News h₀ L h2 ((s₁.heap.objs.size, it) :: nw) := fun p hp => by
      rcases List.mem_cons.mp hp with rfl | hp
      · exact ⟨q1, hIL, hI0⟩
      · exact N2 p hp
    show wpAny _ _ (pure ()) _ _ _
    refine wpAny_pure (wpAny_assign_Name ?_)
    refine stN (s := { s₁ with heap := h2, toks := tk }) F2 NI (fun h3 F3 N3 => ?_) hk hl
    refine wpAny_mono (turn _ it h3 (tk + 1) q2 F3 N3 ltI) (fun f s₃ hf => ?_) fun _ _ y => y.elim
    obtain ⟨rfl, m', nw', nw'', F4, N4, hsub, hit, hlo, hQ⟩ := hf
    refine ⟨0, by decide, .inr ⟨rfl, it, m', nw', nw'', F4, N4, hsub, hit, hlo, ⟨it, (N4 _ hit).1, q2, q3⟩, hQ⟩⟩
  · refine W.done _ _ _ ⟨st1, ⟨lo, (N' _ hlo).1, hc, n, hd⟩⟩ fun h2 tk k2 => wpAny_execs_nil ?_
    refine hQ h2 tk ⟨F'.ns.at' fun o e => k2 _ _ (fun hb => hIL (List.mem_singleton.mp hb).symm) e, fun b o e => k2 _ _ (fun hb => by rw [List.mem_singleton.mp hb, hI0] at e; cases e) (F'.keep b o e), F'.above⟩ fun p hp => ?_
    obtain ⟨h1, h3⟩ := hsub p hp
    exact ⟨k2 _ _ (fun hb => h3 (List.mem_singleton.mp hb)) (N' p h1).1, (N' p h1).2⟩
end
end
section
open PySem PySem.W PySem.Spec PySem.Calls PyProof.Rows Builtin
set_option maxHeartbeats 4000000
noncomputable abbrev setObj (C dx : Addr) (led : Bool) : Obj := { cls := .ref C, dict := some dx, data := .set #[] 0 (.fresh 0 0 led) }
structure SMakes (M : Model) (h : Heap) (C : Addr) : Prop where
  obj : ∃ oc od cd sl, h.get? C = some ⟨oc, od, .cls cd, sl⟩ ∧ cd.hasDel = false ∧ cd.mro.isEmpty = false
  made : Looks M h (Bind.madeBy (.ref C)) (some "set.__new__")
  base : Looks M h (Bind.staticBase (.ref C)) (.ref C)
  self : Looks M h (isSubtype (.ref C) (.ref C)) true
  top : Looks M h (isSubtype (.ref C) (.type "set")) true
  call : Looks M h (specialOf (.ref C) "__call__") (some (.builtin "type.__call__"))
  typ : Looks M h (isInstance (.ref C) (.type "type")) true
section
variable {prog : Program} {w : World} {A : Around} {K : Frag} {C : Addr} {R : Result → Shared → Prop} {h : Heap} {g : Array GenState} {d : Drawn} {t : Nat} {os : OsState}
theorem smakes_of {M : Model} {oc : Value} {od : Option Addr} {cd : ClassData} {sl : Array (Option Value)} (X : K.In h) (ho : K.lookup C = some ⟨oc, od, .cls cd, sl⟩) (e2 : cd.hasDel = false) (e3 : (sl.toList[4]?).join = some (.builtin "set.__new__")) (e4 : cd.mro.isEmpty = false)
    (e5 : mroIn K C (.ref C) = some true) (e6 : mroIn K C (.type "set") = some true) (e7 : specialIn K (.ref C) "__call__" = some (some (.builtin "type.__call__"))) (e8 : instIn K (.ref C) (.type "type") = some true) : SMakes M h C := by
  have hc : clsIn K C = some cd := by unfold clsIn; rw [ho]
  have hm : Looks M h (mroOf (.ref C)) cd.mro := (looks_clsIn X hc).andThen .now
  obtain ⟨c, l, hl⟩ : ∃ c l, cd.mro = c :: l := by cases q : cd.mro with | nil => rw [q] at e4; cases e4 | cons c l => exact ⟨c, l, rfl⟩
  have made : Looks M h (Bind.madeBy (.ref C)) (some "set.__new__") := by
    intro A Q E s k q
    unfold Bind.madeBy
    refine wpAny_bind (hm A _ E s k ?_)
    rw [hl, List.forIn_cons]
    refine wpAny_bind (wpAny_bind (wpAny_bind (wpAny_bind (wpAny_loadPart (k _ _ (X _ _ ho)) (wpAny_pure ?_)))))
    dsimp only
    rw [← Array.getElem?_toList, e3]
    exact wpAny_pure (wpAny_pure (wpAny_pure q))
  refine ⟨⟨oc, od, cd, sl, X _ _ ho, e2, e4⟩, made, ?_, looks_mroIn X e5, looks_mroIn X e6, looks_specialIn X e7, looks_instIn X e8⟩
  intro A Q E s k q
  unfold Bind.staticBase
  refine wpAny_bind (hm A _ E s k ?_)
  rw [hl, List.forIn_cons]
  exact wpAny_bind (wpAny_bind (wpAny_bind (made A _ E s k (wpAny_pure (wpAny_pure (wpAny_pure q))))))
theorem sn_split : splitId "set.__new__" = some ("set", "__new__") := by decide +kernel
theorem sn_kind : builtinKind "set.__new__" = some .builtinFn := by decide +kernel
theorem sn_row : Manifest.signature? "set.__new__" = some ⟨.any, "set", "set", .cls, [⟨"args", .varPos, false⟩, ⟨"kwargs", .varKw, false⟩]⟩ := by kernel_rfl
theorem sn_quiet : "set.__new__".startsWith "lifetime." = false := by decide +kernel
theorem new_set {rest : List Value} {kw : List (Str × Value)} (Y : SMakes (model prog w) h C)
    (ha : Bind.checkArgs "set.__new__" ⟨.any, "set", "set", .cls, [⟨"args", .varPos, false⟩, ⟨"kwargs", .varKw, false⟩]⟩ ⟨.ref C :: rest, kw⟩ = pure ())
    (hq : ∀ led, R (.ok (.ret (.ref (h.objs.size + 1)))) ⟨(h.push emptyDict).push (setObj C h.objs.size led), g, d, t, os⟩) :
    codeAny (model prog w) A (.call (.builtin "set.__new__") ⟨.ref C :: rest, kw⟩) R ⟨h, g, d, t, os⟩ := by
  obtain ⟨⟨oc, od, cd, sl, hC, e2, e4⟩, made, base, self, top, call, typ⟩ := Y
  refine codeAny_call_builtin_code (Code.quiet_builtin _ sn_quiet) ?_
  simp only [checkBuiltinCall, sn_kind, sn_split, sn_row]
  rw [ha]
  repeat (first | simp only [bne_self_eq_false, Bool.false_eq_true, if_false] | lk)
  refine codeAny_builtin PySem.F.entry_set_new ?_
  unfold Builtin.«set.__new__» Builtin.Frozenset.newClass
  dsimp only
  repeat (first | simp only [bne_self_eq_false, Bool.false_eq_true, if_false, Bool.not_true] | lk)
  refine nd_load (Heap.get?_push_of_some _ (Heap.get?_push_of_some _ hC)) ?_
  repeat (first | simp only [e2, Bool.false_eq_true, if_false] | lk)
  have := hq (!(model prog w).w.params.followText "set-order")
  rw [show h.objs.size + 1 = (h.push emptyDict).objs.size from (Heap.size_push _ _).symm] at this
  exact this
theorem make_setcls {rest : List Value} {kw : List (Str × Value)} {init : Value} (Y : SMakes (model prog w) h C) (hi : Looks (model prog w) h (typeLookup (.ref C) "__init__") (some init))
    (hb : ∀ self, Looks (model prog w) h (bindSpecial init self) (init, [self]))
    (ha : Bind.checkArgs "set.__new__" ⟨.any, "set", "set", .cls, [⟨"args", .varPos, false⟩, ⟨"kwargs", .varKw, false⟩]⟩ ⟨.ref C :: rest, kw⟩ = pure ())
    (hq : ∀ led, codeAny (model prog w) (A.under (.builtin "type.__call__" ⟨.ref C :: rest, kw⟩)) (.call init ⟨.ref (h.objs.size + 1) :: rest, kw⟩) (InitBack (h.objs.size + 1) R) ⟨(h.push emptyDict).push (setObj C h.objs.size led), g, d, t, os⟩) :
    codeAny (model prog w) A (.call (.ref C) ⟨rest, kw⟩) R ⟨h, g, d, t, os⟩ := by
  have Y' := Y
  obtain ⟨⟨oc, od, cd, sl, hC, e2, e4⟩, made, base, self, top, call, typ⟩ := Y
  refine codeAny_of_tree ?_
  show wpAny _ _ (callAny (.ref C) _) _ _ _
  refine nd_load hC ?_
  show wpAny _ _ (callAny.viaDunder (.ref C) _) _ _ _
  unfold callAny.viaDunder
  refine wpAny_bind (call.at ?_)
  dsimp only
  rw [tc_bind]
  refine wpAny_bind (wpAny_pure (wpAny_bind (wpAny_pure ?_)))
  refine wpAny_pure (a := Fin.again (.call (.builtin "type.__call__") ⟨.ref C :: rest, kw⟩)) (And.intro rfl ?_)
  refine codeAny_call_builtin_at (Code.quiet_builtin _ (by decide +kernel)) entry_typeCall (check_slot tc_kind tc_split typ (tc_args _ _ _) ?_)
  unfold Builtin.«type.__call__»
  have hm : Looks (model prog w) h (mroOf (.ref C)) cd.mro := ((Looks.ld (part := none) hC).andThen .now).andThen .now
  repeat (first | simp only [e4, Bool.false_eq_true, if_false] | with_reducible refine wpAny_call ?_ | lk)
  refine new_set Y' ha fun led => ?_
  have k : ∀ b o, h.get? b = some o → ((h.push emptyDict).push (setObj C h.objs.size led)).get? b = some o := fun b o e => Heap.get?_push_of_some _ (Heap.get?_push_of_some _ e)
  have hx : ((h.push emptyDict).push (setObj C h.objs.size led)).get? (h.objs.size + 1) = some (setObj C h.objs.size led) := by heap_get
  have t1 : Looks (model prog w) ((h.push emptyDict).push (setObj C h.objs.size led)) (typeOf (.ref (h.objs.size + 1))) (.ref C) := (Looks.ld hx).andThen .now
  have s1 := self.keeps k
  have i1 := hi.keeps k
  have b1 := (hb (.ref (h.objs.size + 1))).keeps k
  unfold isInstance callSpecial? specialOf
  repeat (first | with_reducible refine wpAny_call ?_ | lk)
  refine codeAny_mono (hq led) fun r s' z => ?_
  rcases r with e | (v | _ | _ | _) <;> first | exact z | exact z.elim | skip
  obtain ⟨rfl, z⟩ := z
  exact wpAny_pure (wpAny_pure z)
end
section
variable {prog : Program} {w : World} {A : Around} {K : Frag} {C x : Addr} {s : Shared} {h₀ : Heap} {L : Addr} {m : Str → Option Value} {news : List (Addr × Obj)} {R : Result → Shared → Prop}
theorem set_K {rest : List Value} {kw : List (Str × Value)} {fI : Addr} (F : Fr h₀ L s.heap m) (N : News h₀ L s.heap news) (X : K.In s.heap) (Y : SMakes (model prog w) s.heap C)
    (hi : findIn K (.ref C) "__init__" = some (some (.ref fI))) (hf : typeIn K (.ref fI) = some (.type "function"))
    (ha : Bind.checkArgs "set.__new__" ⟨.any, "set", "set", .cls, [⟨"args", .varPos, false⟩, ⟨"kwargs", .varKw, false⟩]⟩ ⟨.ref C :: rest, kw⟩ = pure ())
    (h : ∀ x dx led h', Fr h₀ L h' m → News h₀ L h' ((x, setObj C dx led) :: (dx, emptyDict) :: news) → (∀ p ∈ news, p.1 < dx) → dx < x →
      codeAny (model prog w) (A.under (.builtin "type.__call__" ⟨.ref C :: rest, kw⟩)) (.call (.ref fI) ⟨.ref x :: rest, kw⟩) (InitBack x R) { s with heap := h' }) :
    codeAny (model prog w) A (.call (.ref C) ⟨rest, kw⟩) R s := by
  obtain ⟨hh, g, d, t, os⟩ := s
  refine make_setcls Y (looks_findIn X hi) (fun self => bind_fn X self hf) ha fun led => h _ hh.objs.size led _ ((F.push _).push _) ?_ (fun p hp => Heap.lt_size (N p hp).1) (Nat.lt_succ_self _)
  have := (N.push F emptyDict).push (F.push _) (setObj C hh.objs.size led)
  rwa [Heap.size_push] at this
end
end
section
open PySem PySem.W PySem.Spec PySem.Calls PyProof.Rows
set_option maxHeartbeats 1000000
noncomputable abbrev csEnv (qual : Str) (scope : Scope) (L a : Addr) (cd : Value) (c cc : Addr) : Env := envX qual scope L a cd [("num_cand", c), ("__class__", cc)]
section
variable {prog : Program} {w : World} {A₀ A : Around} {s : Shared} {base h₀ : Heap} {outer : List Env} {L : Addr} {m mg mb : Str → Option Value} {env : Env} {news : List (Addr × Obj)} {K : Frag} {p : Program} {loose : List Str} {mean : ExcName → Option Value}
  {R : Result → Shared → Prop} {name qual : Str} {params : Arguments} {body : List Stmt} {scope : Scope} {dV kV doc pm cdv ct oc : Value} {an od : Option Addr} {osl : Array (Option Value)} {f cc : Addr} {args : Args} {v1 v2 v3 : Value}
theorem code_cs (B : Below A₀ base outer h₀) (F : Fr h₀ L s.heap m) (X₀ : K.In h₀) (N : News h₀ L s.heap news) (T : Top p loose mean mg mb h₀) (hA : A.frames = some (env :: outer)) (hf : env.frame = some L) (hke : env.scope.kind = .function)
    (ho : K.lookup f = some ⟨oc, od, .func (fnX name qual params body scope [("__class__", cc)] dV kV doc pm an cdv ct), osl⟩) (hcd : codeIn K cdv qual = true) (hroom : A.depth < recursionLimit)
    (hbind : BindsTo s (fnX name qual params body scope [("__class__", cc)] dV kV doc pm an cdv ct) args [("self", v1), ("candidates", v2), ("num_cand", v3)])
    (hce : ∀ n acc, cellsFrom n scope.names acc = (("num_cand" : Str), n) :: acc) (hpc : ∀ h, pushCells h scope.names = h.push { cls := .type "cell", data := .cell none })
    (k1 : scope.names.lookup ("self" : Str) = some .local) (k2 : scope.names.lookup ("candidates" : Str) = some .local) (k3 : scope.names.lookup ("num_cand" : Str) = some .cell)
    (h : ∀ g L' c o h₁ tk, Fr h₀ L g m → Fr g L' h₁ (fun y => if y = "candidates" then some v2 else if y = "self" then some v1 else none) → News g L' h₁ ((c, o) :: news) → o.data = .cell (some v3) → Below A base (env :: outer) g → K.In g → Top p loose mean mg mb g → (∀ p ∈ news, p.1 < L') → L' < c →
      _root_.PySem.wpAt (model prog w) (A.deeper (csEnv qual scope L' f cdv c cc)) (.func body (csEnv qual scope L' f cdv c cc)) (execs body (csEnv qual scope L' f cdv c cc))
        (fun fl s' => LeaveK h₀ L m g R (match fl with | .ret v => v | _ => .none) s')
        (fun e s' => wpAny (model prog w) (A.deeper (csEnv qual scope L' f cdv c cc)) (leaving (csEnv qual scope L' f cdv c cc) e) (fun _ s'' => R (.error e) s'') (fun e' s'' => R (.error e') s'') s')
        { s with heap := h₁, toks := tk })
    (hco : scope.isCoroutine = false := by rfl) (hgen : scope.isGenerator = false := by rfl) (hk : scope.kind = .function := by rfl) : codeAny (model prog w) A (.call (.ref f) args) R s := by
  obtain ⟨FG, BG, st, lv⟩ := groundX (R := R) B F N hA hf hke
  refine codeAny_call_function hroom ((X₀.keeps F.keep) _ _ ho) rfl hco hgen rfl (codeRec_of (X₀.keeps F.keep) hcd) (hbind _ _ _ _ ?_)
  simp only [newFunctionEnv, Option.isSome_none, Bool.false_eq_true, if_false]
  refine wpAny_bind (wpAny_alloc ?_)
  refine wpAny_bind (wpAny_layCells _ (fun name kind cells => by cases kind == NameKind.cell <;> simp) _ _ _ _ ?_)
  show wpAny _ _ _ _ _ { s with heap := pushCells (s.heap.push _) scope.names }
  rw [hpc, hce]
  dsimp only
  have hsz : (s.heap.push { cls := .type "frame", data := .dict #[] }).objs.size = s.heap.objs.size + 1 := Heap.size_push ..
  have hsz' : ({ s with heap := s.heap.push { cls := .type "frame", data := .dict #[] } } : Shared).heap.objs.size = s.heap.objs.size + 1 := hsz
  have gL : (hideAll s.heap (news.map (·.1))).get? s.heap.objs.size = none := Heap.get?_none_of_le (by rw [hideAll_size]; exact Nat.le_refl _)
  have gc : (hideAll s.heap (news.map (·.1))).get? (s.heap.objs.size + 1) = none := Heap.get?_none_of_le (by rw [hideAll_size]; exact Nat.le_succ _)
  have F0 : Fr (hideAll s.heap (news.map (·.1))) s.heap.objs.size ((s.heap.push { cls := .type "frame", data := .dict #[] }).push { cls := .type "cell", data := .cell none }) (fun _ => none) :=
    ⟨(Heap.Ns.new s.heap (.type "frame")).keeps fun b o e => Heap.get?_push_of_some _ e, fun b o e => Heap.get?_push_of_some _ (Heap.get?_push_of_some _ (of_hideAll _ e)), Nat.le_of_eq (hideAll_size _ _)⟩
  have N0 : News (hideAll s.heap (news.map (·.1))) s.heap.objs.size ((s.heap.push { cls := .type "frame", data := .dict #[] }).push { cls := .type "cell", data := .cell none }) ((s.heap.objs.size + 1, { cls := .type "cell", data := .cell none }) :: news) := fun p hp => by
    rcases List.mem_cons.mp hp with rfl | hp
    · refine ⟨?_, Nat.succ_ne_self _, gc⟩
      have := Heap.get?_push_size (h := s.heap.push { cls := .type "frame", data := .dict #[] }) (o := { cls := .type "cell", data := .cell none }) rfl
      rw [hsz] at this
      exact this
    · exact ⟨Heap.get?_push_of_some _ (Heap.get?_push_of_some _ (N p hp).1), Nat.ne_of_lt (Heap.lt_size (N p hp).1), hideAll_none _ (List.mem_map_of_mem hp)⟩
  rw [hsz]
  refine wpAny_bind ?_
  rw [List.forIn_cons]
  refine wpAny_bind (wpAny_bind (storeX_L (a := f) (cn := qual) (cs := scope) (ccd := cdv) (cl := [("num_cand", s.heap.objs.size + 1), ("__class__", cc)]) F0 N0 (fun h1 F1 N1 => wpAny_pure ?_) hk k1))
  dsimp only
  rw [List.forIn_cons]
  refine wpAny_bind (wpAny_bind (storeX_L (a := f) (cn := qual) (cs := scope) (ccd := cdv) (cl := [("num_cand", s.heap.objs.size + 1), ("__class__", cc)]) F1 N1 (fun h2 F2 N2 => wpAny_pure ?_) hk k2))
  dsimp only
  rw [List.forIn_cons]
  refine wpAny_bind (wpAny_bind (storeX_C (a := f) (cn := qual) (cs := scope) (ccd := cdv) (cl := [("num_cand", s.heap.objs.size + 1), ("__class__", cc)]) (c := s.heap.objs.size + 1) (v₀ := none) F2 N2 rfl (UpdF.head ?all) rfl (fun h3 o F3 N3 hd => wpAny_pure ?_) hk k3))
  case all => exact fun p hp => Nat.ne_of_lt (Nat.lt_succ_of_lt (Heap.lt_size (N p hp).1))
  dsimp only
  rw [List.forIn_nil]
  refine wpAny_pure (wpAny_pure ⟨?_, ?_⟩)
  · exact (T.keeps st).nolimit.keeps F3.keep
  refine ks_codeAny_funcAt ?_
  refine ks_wpAt_mono (h _ _ _ o h3 _ FG F3 N3 hd BG (X₀.keeps st) (T.keeps st) (fun p hp => Heap.lt_size (N p hp).1) (Nat.lt_succ_self _)) (fun fl s' hl => lv _ _ hl) fun _ _ y => y
end
end
section
open PySem PySem.W PySem.Spec PySem.Calls PyProof.Rows Builtin
set_option maxHeartbeats 4000000
section
variable {prog : Program} {w : World} {A : Around} {E : Value → Shared → Prop} {h : Heap} {g : Array GenState} {d : Drawn} {t : Nat} {os : OsState} {C : Addr}
noncomputable abbrev smwObj (e : Addr) : Obj := { cls := .type "method-wrapper", data := .fields #[.builtin "set.__init__", .ref e] }
theorem si_type (s : Shared) : s.TypeIs (.builtin "set.__init__") "wrapper_descriptor" := by
  show typeOf (.builtin "set.__init__") = pure (.type "wrapper_descriptor")
  kernel_rfl
theorem si_own : ".".intercalate ("set.__init__".cutAt '.').dropLast = "set" := by decide +kernel
theorem swd_get {e : Addr} {oe : Obj} {P : Fin → Shared → Prop} (hsub : Looks (model prog w) h (isSubtype (.ref C) (.type "set")) true) (he : h.get? e = some oe) (hcls : oe.cls = .ref C)
    (hq : P (.done (.ret (.ref h.objs.size))) ⟨h.push (smwObj e), g, d, t, os⟩) :
    wpAny (model prog w) A (Builtin.«wrapper_descriptor.__get__» ⟨[.builtin "set.__init__", .ref e, .ref C], []⟩) P E ⟨h, g, d, t, os⟩ := by
  unfold Builtin.«wrapper_descriptor.__get__»
  repeat (first | (with_reducible refine wpAny_loadPart_at he ?_; rw [hcls]) | (rw [si_own]; with_reducible refine Looks.at hsub ?_) | (with_reducible refine Looks.at hsub ?_) | (with_reducible refine wpAny_newObj_type ?_ (by size_fits)) | (first | with_reducible (first | refine PySem.wpAny_pure ?_ | refine PySem.wpAny_bind ?_ | refine PySem.wpAny_holding ?_ | refine PySem.wpAny_standAt ?_ | refine PySem.wpAny_point ?_ | refine PySem.wpAny_rule ?_ | refine PySem.wpAny_letGo ?_ | refine PySem.wpAny_mkInt' ?_ | refine PySem.wpAny_fresh' ?_ | refine PySem.wpAny_alloc' ?_ | refine PySem.wpAny_attempt ?_ | refine PySem.wpAny_throw ?_ | refine PySem.wpAny_of_eq (by assumption) ?_ | refine PySem.wpAny_typeOf (by assumption) ?_ | refine PySem.wpAny_specialOf_val (by assumption) (by assumption) ?_ | refine PySem.wpAny_specialOf (by assumption) (by assumption) ?_ | refine PySem.wpAny_isInstance_val (by assumption) (by assumption) ?_ | refine PySem.wpAny_isInstance (by assumption) (by assumption) ?_ | refine PySem.wpAny_call ?_ | refine PySem.wpAny_runValue ?_ | refine PySem.wpAny_run ?_) | ((fail_if_success (with_reducible show PySem.wpAny _ _ (PySem.mkStr _) _ _ _)); wp_delta) | ((with_reducible apply PySem.wpAny_load'); focus (heap_get; done)) | ((with_reducible apply PySem.wpAny_update'); focus (heap_get; done)) | ((with_reducible apply PySem.wpAny_handled_none); focus (assumption; done)) | ((with_reducible apply PySem.wpAny_ite_false); focus (rfl; done)) | ((with_reducible apply PySem.wpAny_ite_true); focus (rfl; done)) | ((with_reducible apply PySem.wpAny_ite_false); focus (simp [*]; done)) | ((with_reducible apply PySem.wpAny_ite_true); focus (simp [*]; done)) | ((with_reducible show PySem.wpAny _ _ _ _ _ _); wp_step)))
  exact hq
theorem sbound_check {M : Model} {e l : Addr} {oe : Obj} {oc : Value} {od : Option Addr} {cd : ClassData} {sl : Array (Option Value)} {Q : Unit → Shared → Prop} (hsub : Looks M h (isSubtype (.ref C) (.type "set")) true)
    (hC : h.get? C = some ⟨oc, od, .cls cd, sl⟩) (he : h.get? e = some oe) (hcls : oe.cls = .ref C) (hq : Q () ⟨h, g, d, t, os⟩) :
    wpAny M A (checkBoundCall "set.__init__" ⟨[.ref e, .ref l], []⟩) Q E ⟨h, g, d, t, os⟩ := by
  simp only [checkBoundCall, kind_set_init, sig_set_init]
  unfold Bind.checkArgs
  dsimp only
  repeat (first | (with_reducible refine wpAny_loadPart_at he ?_; rw [hcls]) | with_reducible refine wpAny_loadPart_at hC ?_ | with_reducible refine Looks.at hsub ?_ | (first | with_reducible (first | refine PySem.wpAny_pure ?_ | refine PySem.wpAny_bind ?_ | refine PySem.wpAny_holding ?_ | refine PySem.wpAny_standAt ?_ | refine PySem.wpAny_point ?_ | refine PySem.wpAny_rule ?_ | refine PySem.wpAny_letGo ?_ | refine PySem.wpAny_mkInt' ?_ | refine PySem.wpAny_fresh' ?_ | refine PySem.wpAny_alloc' ?_ | refine PySem.wpAny_attempt ?_ | refine PySem.wpAny_throw ?_ | refine PySem.wpAny_of_eq (by assumption) ?_ | refine PySem.wpAny_typeOf (by assumption) ?_ | refine PySem.wpAny_specialOf_val (by assumption) (by assumption) ?_ | refine PySem.wpAny_specialOf (by assumption) (by assumption) ?_ | refine PySem.wpAny_isInstance_val (by assumption) (by assumption) ?_ | refine PySem.wpAny_isInstance (by assumption) (by assumption) ?_ | refine PySem.wpAny_call ?_ | refine PySem.wpAny_runValue ?_ | refine PySem.wpAny_run ?_) | ((fail_if_success (with_reducible show PySem.wpAny _ _ (PySem.mkStr _) _ _ _)); wp_delta) | ((with_reducible apply PySem.wpAny_load'); focus (heap_get; done)) | ((with_reducible apply PySem.wpAny_update'); focus (heap_get; done)) | ((with_reducible apply PySem.wpAny_handled_none); focus (assumption; done)) | ((with_reducible apply PySem.wpAny_ite_false); focus (rfl; done)) | ((with_reducible apply PySem.wpAny_ite_true); focus (rfl; done)) | ((with_reducible apply PySem.wpAny_ite_false); focus (simp [*]; done)) | ((with_reducible apply PySem.wpAny_ite_true); focus (simp [*]; done)) | ((with_reducible show PySem.wpAny _ _ _ _ _ _); wp_step)))
  exact hq
end
end
section
open PySem PySem.W PySem.Spec PySem.Calls PyProof.Rows Builtin
set_option maxHeartbeats 4000000
section
variable {prog : Program} {w : World} {A : Around} {E : Value → Shared → Prop} {s : Shared}
/-- the object after the first item was put into an empty set -/
noncomputable def OneIn (o : Obj) (a : Addr) (h h' : Heap) : Prop := Heap.SameBut a h h' ∧ ∃ es ep t, h'.get? a = some { o with data := .set es ep t } ∧ es.size = 1 ∧ t.fits 1 = true
theorem oneIn_put {h : Heap} {a : Addr} {o : Obj} {es : Array (Int × Value)} {ep : Nat} {tb : SetTable} (ho : h.get? a = some o) (hd : o.data = .set es ep tb) (es' : Array (Int × Value)) (t' : SetTable) :
    (h.update a (Obj.putSet es' t')).get? a = some { o with data := .set es' (ep + 1) t' } := by
  have := Heap.get?_update_self (Obj.putSet es' t') ho (by rw [putSet_of es' t' hd]; rfl)
  rw [putSet_of es' t' hd] at this
  exact this
theorem add_tail {g : Bool → Sem Unit} (hg : ∀ (b : Bool) (s₁ : Shared) (Q' : Unit → Shared → Prop), Q' () s₁ → wpAny (model prog w) A (g b) Q' E s₁) {a : Addr} {o : Obj} {es : Array (Int × Value)} {ep : Nat} {tb : SetTable} (ho : s.heap.get? a = some o) (hd : o.data = .set es ep tb)
    {es1 : Array (Int × Value)} {t2 : SetTable} (hsz : es1.size = 1) (hf2 : t2.fits 1 = true) {wasDummy : Bool} {R : Option Bool → Shared → Prop} (h : ∀ h', OneIn o a s.heap h' → R (some true) { s with heap := h' }) :
    wpAny (model prog w) A (do
        storeSet a es1 t2
        if (!wasDummy && t2.tooFull) = true then do
            g (relayAll t2 es1 (SetTable.grown es1.size)).2.2
            storeSet a (relayAll t2 es1 (SetTable.grown es1.size)).1 (relayAll t2 es1 (SetTable.grown es1.size)).2.1
            pure (some true)
          else pure (some true)) R E s := by
  refine wpAny_bind (wpAny_storeSet_of ho hd ?_ (by rw [hsz]; exact fits_of_scanBound (by decide)))
  have ho1 := oneIn_put ho hd es1 t2
  have sb := Heap.SameBut.update s.heap a (Obj.putSet es1 t2)
  split
  · have hp := relayAll_perm t2 es1 (SetTable.grown es1.size)
    have hfr := relayAll_fits t2 es1 (SetTable.grown es1.size)
    generalize relayAll t2 es1 (SetTable.grown es1.size) = Rl at hp hfr ⊢
    obtain ⟨es2, t3, gave2⟩ := Rl
    dsimp only at hp hfr ⊢
    have hz2 : es2.size = 1 := by rw [← Array.length_toList, hp.length_eq, Array.length_toList, hsz]
    refine wpAny_bind (hg _ _ _ ?_)
    refine wpAny_bind (wpAny_storeSet_of (s := { s with heap := s.heap.update a (Obj.putSet es1 t2) }) ho1 rfl ?_ (by rw [hz2]; exact fits_of_scanBound (by decide)))
    rw [hz2] at hfr
    exact wpAny_pure (h _ ⟨sb.trans (Heap.SameBut.update ..), _, _, _, oneIn_put ho1 rfl es2 t3, hz2, hfr⟩)
  · exact wpAny_pure (h _ ⟨sb, _, _, _, ho1, hsz, hf2⟩)
theorem setadd_one {a : Addr} {o : Obj} {ep : Nat} {tb : SetTable} {n : Int} {t : Tok} {Q : Bool → Shared → Prop} (ho : s.heap.get? a = some o) (hd : o.data = .set #[] ep tb) (hf : tb.fits 0 = true)
    (h : ∀ h', OneIn o a s.heap h' → Q true { s with heap := h' }) : wpAny (model prog w) A (setAddHashed a (.int n t) (hashInt n)) Q E s := by
  have key : (intKind prog w).is n (.int n t) = true := intKind_is _ _ _ _
  have hel : ElemsOf (intKind prog w) (#[] : Array (Int × Value)).toList := fun e he => nomatch he
  unfold setAddHashed setAddHashedIn
  refine wpAny_holding (wpAny_bind (wpAny_setState_of ho hd hf ?_))
  dsimp only
  rw [byScan_of (knd := intKind prog w) (x := .int n t) rfl (by decide) hel]
  simp only [↓reduceIte]
  unfold setAddByScan
  refine wpAny_bind ?_
  refine wpAny_bind (wpAny_rule ?_)
  refine wpAny_bind (wpAny_setScan_of (knd := intKind prog w) key ho hd hf hel ?_)
  have hgw : ∀ (b : Bool) {s₁ : Shared} {Q' : Unit → Shared → Prop}, Q' () s₁ → wpAny (model prog w) A (match b with | true => rule "set.scan.the-table-gave-way" | false => pure ()) Q' E s₁ :=
    fun b s₁ Q' hq => by cases b <;> first | exact wpAny_pure hq | exact wpAny_rule hq
  have hperm := layNew_perm tb #[] (hashInt n) (.int n t)
  have hfits := layNew_fits tb #[] (hashInt n) (.int n t)
  show wpAny _ _ _ _ _ _
  dsimp only [List.findIdx?, List.findIdx?.go]
  generalize layNew tb #[] (hashInt n) (.int n t) = Ln at hperm hfits ⊢
  obtain ⟨es1, t1, wasDummy, gave⟩ := Ln
  dsimp only at hperm hfits ⊢
  have hsz : es1.size = 1 := by rw [← Array.length_toList, hperm.length_eq]; rfl
  rw [hsz] at hfits
  refine wpAny_bind (hgw _ ?_)
  split
  · refine wpAny_bind ?_
    rw [hashByValue_scannable 8 (x := .int n t) rfl]
    refine wpAny_pure ?_
    refine add_tail (fun b s₁ Q' hq => by cases b <;> first | exact wpAny_pure hq | exact wpAny_rule hq) ho hd hsz ?_ fun h' x => wpAny_pure (h h' x)
    split
    · exact hfits
    · exact SetTable.fits_plain_off hfits
  · refine wpAny_bind (wpAny_pure ?_)
    simp only [↓reduceIte]
    exact add_tail (fun b s₁ Q' hq => by cases b <;> first | exact wpAny_pure hq | exact wpAny_rule hq) ho hd hsz hfits fun h' x => wpAny_pure (h h' x)
end
end
section
open PySem PySem.W PySem.Spec PySem.Calls PyProof.Rows Builtin
set_option maxHeartbeats 4000000
section
variable {prog : Program} {w : World} {A : Around} {E : Value → Shared → Prop} {s : Shared} {R : Result → Shared → Prop}
theorem upd_end {S I l : Addr} {items : Array Value} (hh : A.handled = none) (hne : l ≠ I) (st : s.heap.IsListIter I l items.size) (hl : s.heap.IsList l items)
    (hR : ∀ h' tk, Heap.ExtBut I s.heap h' → R (.ok (.ret .none)) { s with heap := h', toks := tk }) :
    codeAny (model prog w) A (.builtin "set.update.loop" ⟨[.ref S, .ref I], []⟩) R s := by
  have W := Walks.list (prog := prog) (w := w) (A := A.in1) hh I l hne items
  refine codeAny_builtin PyProof.Rows.F.entry_set_update_loop ?_
  rw [Around.under_plainId PyProof.Rows.F.plain_set_update_loop _]
  show wpAny _ A.in1 (pyNext (.ref I) >>= _) _ _ s
  refine wpAny_bind (W.done s _ _ ⟨st, hl⟩ fun h' tk k => ?_)
  show wpAny _ A.in1 (ret Value.none) _ _ _
  exact wpAny_pure (hR h' tk fun b o hb e => k b o (fun hm => hb (List.mem_singleton.mp hm)) e)
theorem upd_one {S I l : Addr} {o : Obj} {ep : Nat} {tb : SetTable} {n : Int} {t : Tok} (hh : A.handled = none) (hne : l ≠ I) (hSI : S ≠ I) (hSl : S ≠ l) (st : s.heap.IsListIter I l 0) (hl : s.heap.IsList l #[.int n t])
    (ho : s.heap.get? S = some o) (hd : o.data = .set #[] ep tb) (hf : tb.fits 0 = true)
    (hR : ∀ h' tk es ep' t', (∀ b ob, b ≠ I → b ≠ S → s.heap.get? b = some ob → h'.get? b = some ob) → h'.get? S = some { o with data := .set es ep' t' } → es.size = 1 → t'.fits 1 = true → R (.ok (.ret .none)) { s with heap := h', toks := tk }) :
    codeAny (model prog w) A (.builtin "set.update.loop" ⟨[.ref S, .ref I], []⟩) R s := by
  have W := Walks.list (prog := prog) (w := w) (A := A.in1) hh I l hne #[.int n t]
  refine codeAny_builtin PyProof.Rows.F.entry_set_update_loop ?_
  rw [Around.under_plainId PyProof.Rows.F.plain_set_update_loop _]
  show wpAny _ A.in1 (pyNext (.ref I) >>= _) _ _ s
  refine wpAny_bind (W.item 0 s _ _ (Nat.zero_lt_one) ⟨st, hl⟩ fun v h1 tk hv st1 k1 => ?_)
  obtain rfl : Value.int n t = v := by simpa using hv
  show wpAny _ A.in1 (holding [Value.int n t] (setAdd S (.int n t)) >>= _) _ _ _
  refine wpAny_bind (wpAny_holding ?_)
  unfold setAdd
  refine wpAny_holding ?_
  refine wpAny_bind ((intKind prog w).pyHash (k := n) (intKind_is _ _ _ _) ?_)
  have k1' : ∀ b ob, b ≠ I → s.heap.get? b = some ob → h1.get? b = some ob := fun b ob hb e => k1 b ob (fun hm => hb (List.mem_singleton.mp hm)) e
  refine setadd_one (s := { s with heap := h1, toks := _ }) (k1' S o hSI ho) hd hf fun h2 one => ?_
  obtain ⟨sb, es, ep', t', g2, e1, e2⟩ := one
  show wpAny _ A.in1 (pure _) _ _ _
  have k2 : ∀ b ob, b ≠ S → h1.get? b = some ob → h2.get? b = some ob := fun b ob hb e => (sb.2 b hb).trans e
  refine wpAny_pure ⟨plainId_quiet PyProof.Rows.F.plain_set_update_loop _, upd_end (items := #[.int n t]) hh hne (st1.1.at fun ob e => k2 I ob (Ne.symm hSI) e) (st1.2.at fun ob e => k2 l ob (Ne.symm hSl) e) fun h3 tk3 k3 => ?_⟩
  exact hR h3 _ es ep' t' (fun b ob n1 n2 e => k3 b ob n1 (k2 b ob n2 (k1' b ob n1 e))) (k3 S _ hSI g2) e1 e2
theorem si_call {mw e l dx C : Addr} {led : Bool} {od : Option Addr} {oc : Value} {cd : ClassData} {sl : Array (Option Value)} {lo : Obj} {n : Int} {t : Tok} {k : Nat} {Q : Value → Shared → Prop} (hh : A.handled = none)
    (hsub : Looks (model prog w) s.heap (isSubtype (.ref C) (.type "set")) true) (hC : s.heap.get? C = some ⟨oc, od, .cls cd, sl⟩)
    (hnm : Array.foldl (fun k c => k + (Str.utf8Of c).length) 0 cd.name.cps ≤ 200) (hmw : s.heap.get? mw = some (smwObj e)) (he : s.heap.get? e = some (setObj C dx led)) (hl : s.heap.get? l = some lo) (hlc : lo.cls = .type "list") (hld : lo.data = .seq #[.int n t] k)
    (hq : ∀ h' tk es ep tb, (∀ b ob, b ≠ e → s.heap.get? b = some ob → h'.get? b = some ob) → h'.get? e = some { cls := .ref C, dict := some dx, data := .set es ep tb } → es.size = 1 → tb.fits 1 = true → Q .none { s with heap := h', toks := tk }) :
    wpAny (model prog w) A (call (.ref mw) [.ref l]) Q E s := by
  obtain ⟨h, g, d, tk, os⟩ := s
  refine wpAny_call (codeAny_of_tree ?_)
  show wpAny _ _ (callAny (.ref mw) _) _ _ _
  unfold callAny
  refine wpAny_bind (wpAny_load hmw ?_)
  dsimp only
  rw [if_pos (by decide)]
  simp only [show (#[.builtin "set.__init__", .ref e] : Array Value)[0]? = some (.builtin "set.__init__") from rfl, show (#[.builtin "set.__init__", .ref e] : Array Value)[1]? = some (.ref e) from rfl]
  rw [if_pos (by decide)]
  refine wpAny_bind (sbound_check hsub hC he rfl ?_)
  refine wpAny_pure ⟨Code.quiet_builtin _ (by decide +kernel), codeAny_builtin PySem.F.entry_set_init ?_⟩
  have hsls := PySem.F.sub_list_set
  have hslf := PySem.F.sub_list_frozenset
  have hne : (Value.type "list" == Value.type "dict") = false := by decide
  unfold Builtin.«set.__init__» noKeywords Builtin.Frozenset.updateFrom
  generalize hPI : pyIter = PI
  repeat (first | (with_reducible refine wpAny_loadPart_at he ?_) | with_reducible refine wpAny_loadPart_at hC ?_ | (with_reducible refine wpAny_loadPart_at hl ?_; rw [hlc]) | rw [if_pos hnm] | (first | with_reducible (first | refine PySem.wpAny_pure ?_ | refine PySem.wpAny_bind ?_ | refine PySem.wpAny_holding ?_ | refine PySem.wpAny_standAt ?_ | refine PySem.wpAny_point ?_ | refine PySem.wpAny_rule ?_ | refine PySem.wpAny_letGo ?_ | refine PySem.wpAny_mkInt' ?_ | refine PySem.wpAny_fresh' ?_ | refine PySem.wpAny_alloc' ?_ | refine PySem.wpAny_attempt ?_ | refine PySem.wpAny_throw ?_ | refine PySem.wpAny_of_eq (by assumption) ?_ | refine PySem.wpAny_typeOf (by assumption) ?_ | refine PySem.wpAny_specialOf_val (by assumption) (by assumption) ?_ | refine PySem.wpAny_specialOf (by assumption) (by assumption) ?_ | refine PySem.wpAny_isInstance_val (by assumption) (by assumption) ?_ | refine PySem.wpAny_isInstance (by assumption) (by assumption) ?_ | refine PySem.wpAny_call ?_ | refine PySem.wpAny_runValue ?_ | refine PySem.wpAny_run ?_) | ((fail_if_success (with_reducible show PySem.wpAny _ _ (PySem.mkStr _) _ _ _)); wp_delta) | ((with_reducible apply PySem.wpAny_load'); focus (heap_get; done)) | ((with_reducible apply PySem.wpAny_update'); focus (heap_get; done)) | ((with_reducible apply PySem.wpAny_handled_none); focus (assumption; done)) | ((with_reducible apply PySem.wpAny_ite_false); focus (rfl; done)) | ((with_reducible apply PySem.wpAny_ite_true); focus (rfl; done)) | ((with_reducible apply PySem.wpAny_ite_false); focus (simp [*]; done)) | ((with_reducible apply PySem.wpAny_ite_true); focus (simp [*]; done)) | ((with_reducible show PySem.wpAny _ _ _ _ _ _); wp_step)))
  subst hPI
  refine wpAny_pyIter_list (items := #[.int n t]) ⟨lo, hl, hlc, k, hld⟩ ?_
  refine wpAny_bind (wpAny_runValue ?_)
  have le : l ≠ e := fun z => by
    have h1 : h.get? l = some lo := hl
    have h2 : h.get? e = some (setObj C dx led) := he
    rw [z, h2] at h1
    cases h1
    cases hlc
  have llt : l < h.objs.size := Heap.lt_size hl
  have elt : e < h.objs.size := Heap.lt_size he
  refine upd_one (S := e) (I := h.objs.size) (l := l) (o := setObj C dx led) (ep := 0) (tb := .fresh 0 0 led) (n := n) (t := t) (by show (A.under _).handled = none; exact hh) (Nat.ne_of_lt llt) (Nat.ne_of_lt elt) (Ne.symm le) ⟨_, Heap.get?_push_size _ rfl, rfl, rfl⟩ ⟨lo, Heap.get?_push_of_some _ hl, hlc, k, hld⟩ (Heap.get?_push_of_some _ he) rfl (by rfl) ?_
  intro h' tk' es ep tb k1 k2 k3 k4
  show wpAny _ _ _ _ _ _
  refine wpAny_pure ?_
  show wpAny _ _ (ret Value.none) _ _ _
  exact wpAny_pure (hq h' tk' es ep tb (fun b ob hb hob => k1 b ob (fun z => Nat.lt_irrefl _ (z ▸ Heap.lt_size hob)) hb (Heap.get?_push_of_some _ hob)) k2 k3 k4)
end
end
section
open PySem PySem.W PySem.Spec PySem.Calls PyProof.Rows Builtin
set_option maxHeartbeats 4000000
section
variable {prog : Program} {w : World} {A : Around} {E : Value → Shared → Prop} {h : Heap} {g : Array GenState} {d : Drawn} {t : Nat} {os : OsState}
theorem super_gaS {C so D x : Addr} {ox : Obj} {l₀ l : List Value} {K : Frag} {name : Str} {tk : Tok} {P : Fin → Shared → Prop} (hsub : Looks (model prog w) h (isSubtype (.ref C) (.type "set")) true) (hx : h.get? x = some ox) (hcls : ox.cls = .ref C)
    (hso : h.get? so = some { cls := .type "super", dict := none, data := .fields #[.ref D, .ref x, .ref C], slots := #[] }) (hno : Looks (model prog w) h (opaqueClassAbove (.ref C)) none)
    (hC : Looks (model prog w) h (mroOf (.ref C)) l₀) (hl : (l₀.dropWhile (· != .ref D)).drop 1 = l) (X : K.In h)
    (hf : alongIn K name l = some (some (.builtin "set.__init__"))) (hxC : x ≠ C) (hn : (name == ("__class__" : Str)) = false)
    (hq : P (.done (.ret (.ref h.objs.size))) ⟨h.push (smwObj x), g, d, t, os⟩) :
    wpAny (model prog w) A (Builtin.«super.__getattribute__» ⟨[.ref so, .str name tk], []⟩) P E ⟨h, g, d, t, os⟩ := by
  have hlk := slot_wd_get.lookup
  have hne : (Value.ref x == Value.ref C) = false := by simp [hxC]
  have hTf := si_type ⟨h, g, d, t, os⟩
  have hdt : ({ cls := .type "super", dict := none, data := .fields #[.ref D, .ref x, .ref C], slots := #[] } : Obj).data = .fields #[.ref D, .ref x, .ref C] := rfl
  have f0 : (#[.ref D, .ref x, .ref C] : Array Value)[0]? = some (.ref D) := rfl
  have f1 : (#[.ref D, .ref x, .ref C] : Array Value)[1]? = some (.ref x) := rfl
  have f2 : (#[.ref D, .ref x, .ref C] : Array Value)[2]? = some (.ref C) := rfl
  unfold Builtin.«super.__getattribute__»
  repeat (first
    | (with_reducible refine wpAny_field hso hdt f0 ?_) | (with_reducible refine wpAny_field hso hdt f1 ?_) | (with_reducible refine wpAny_field hso hdt f2 ?_)
    | (with_reducible refine ks_wpAny_notOpaque hno ?_)
    | (with_reducible refine Looks.at hC ?_; rw [hl])
    | (refine ks_forIn_along X (fun _ _ => rfl) rfl ?_ hf)
    | (with_reducible refine wpAny_typeOf hTf ?_)
    | (with_reducible refine wpAny_call_entry slot_wd_get hTf entry_wd_get ?_ (getArgs_wd _ _ _))
    | (with_reducible refine swd_get hsub hx hcls ?_)
    | (with_reducible refine ⟨_, rfl, ?_⟩)
    | (simp only [hn, hne, Bool.or_false, Bool.false_eq_true, if_false])
    | (first | with_reducible (first | refine PySem.wpAny_pure ?_ | refine PySem.wpAny_bind ?_ | refine PySem.wpAny_holding ?_ | refine PySem.wpAny_standAt ?_ | refine PySem.wpAny_point ?_ | refine PySem.wpAny_rule ?_ | refine PySem.wpAny_letGo ?_ | refine PySem.wpAny_mkInt' ?_ | refine PySem.wpAny_fresh' ?_ | refine PySem.wpAny_alloc' ?_ | refine PySem.wpAny_attempt ?_ | refine PySem.wpAny_throw ?_ | refine PySem.wpAny_of_eq (by assumption) ?_ | refine PySem.wpAny_typeOf (by assumption) ?_ | refine PySem.wpAny_specialOf_val (by assumption) (by assumption) ?_ | refine PySem.wpAny_specialOf (by assumption) (by assumption) ?_ | refine PySem.wpAny_isInstance_val (by assumption) (by assumption) ?_ | refine PySem.wpAny_isInstance (by assumption) (by assumption) ?_ | refine PySem.wpAny_call ?_ | refine PySem.wpAny_runValue ?_ | refine PySem.wpAny_run ?_) | ((fail_if_success (with_reducible show PySem.wpAny _ _ (PySem.mkStr _) _ _ _)); wp_delta) | ((with_reducible apply PySem.wpAny_load'); focus (heap_get; done)) | ((with_reducible apply PySem.wpAny_update'); focus (heap_get; done)) | ((with_reducible apply PySem.wpAny_handled_none); focus (assumption; done)) | ((with_reducible apply PySem.wpAny_ite_false); focus (rfl; done)) | ((with_reducible apply PySem.wpAny_ite_true); focus (rfl; done)) | ((with_reducible apply PySem.wpAny_ite_false); focus (simp [*]; done)) | ((with_reducible apply PySem.wpAny_ite_true); focus (simp [*]; done)) | ((with_reducible show PySem.wpAny _ _ _ _ _ _); wp_step))
    | dsimp only)
  all_goals exact hq
theorem super_getS {C so D x : Addr} {ox : Obj} {l₀ l : List Value} {K : Frag} {name : Str} {pl : Sem Bool} {Q : Value × List Value → Shared → Prop} (hsub : Looks (model prog w) h (isSubtype (.ref C) (.type "set")) true) (hx : h.get? x = some ox) (hcls : ox.cls = .ref C)
    (hso : h.get? so = some { cls := .type "super", dict := none, data := .fields #[.ref D, .ref x, .ref C], slots := #[] }) (hno : Looks (model prog w) h (opaqueClassAbove (.ref C)) none)
    (hC : Looks (model prog w) h (mroOf (.ref C)) l₀) (hl : (l₀.dropWhile (· != .ref D)).drop 1 = l) (X : K.In h)
    (hf : alongIn K name l = some (some (.builtin "set.__init__"))) (hxC : x ≠ C) (hn : (name == ("__class__" : Str)) = false)
    (hq : Q (.ref h.objs.size, []) ⟨h.push (smwObj x), g, d, t + 1, os⟩) :
    wpAny (model prog w) A (getMethod (.ref so) name pl) Q E ⟨h, g, d, t, os⟩ := by
  have hlk := F.ks_slot_super_ga.lookup
  have hcan := F.ks_canon_super_ga
  have hT : ∀ t', (⟨h, g, d, t', os⟩ : Shared).TypeIs (.ref so) "super" := fun _ => ⟨_, hso, rfl⟩
  unfold getMethod
  refine wpAny_bind (wpAny_specialOf (hT _) hlk ?_)
  show wpAny _ _ (if (Manifest.canonical "super.__getattribute__" != "object.__getattribute__") = true then _ else _) _ _ _
  rw [if_pos hcan]
  unfold getAttr getAttrBy
  refine wpAny_bind (wpAny_bind (wpAny_mkText (wpAny_holding (wpAny_bind (wpAny_typeOf (hT _) (wpAny_bind (wpAny_of_eq hlk ?_)))))))
  show wpAny _ _ (getAttrByItsOwn (.ref so) (.str name t) (.type "super") (.builtin "super.__getattribute__") true false) _ _ _
  unfold getAttrByItsOwn hookBefore callGetattribute boundAndCalled
  refine wpAny_bind (wpAny_of_eq (show (if onTheHeap (.type "super") then typeLookup (.type "super") "__getattr__" else pure none) = pure none from rfl) ?_)
  refine wpAny_bind (wpAny_attempt (wpAny_holding ?_))
  show wpAny _ _ (bindSpecial (.builtin "super.__getattribute__") (.ref so) >>= _) _ _ _
  refine wpAny_bind (wpAny_of_eq (F.ks_slot_super_ga.bind _) ?_)
  refine wpAny_mono (Q := fun v s' => v = .ref h.objs.size ∧ s' = ⟨h.push (smwObj x), g, d, t + 1, os⟩) (E := fun _ _ => False)
    (wpAny_call_entry F.ks_slot_super_ga (hT _) F.ks_entry_super_ga (super_gaS hsub hx hcls hso hno hC hl X hf hxC hn ⟨_, rfl, rfl, rfl⟩) (F.ks_gaArgs_super _ _)) (fun v s' hv => ?_) fun _ _ z => z.elim
  obtain ⟨rfl, rfl⟩ := hv
  exact wpAny_pure (wpAny_pure hq)
end
theorem inst_set {h₀ h : Heap} {L x C dx : Addr} {led : Bool} {news : List (Addr × Obj)} (N : News h₀ L h news) (h1 : (x, setObj C dx led) ∈ news) (h2 : (dx, emptyDict) ∈ news) : InstAt h x (setObj C dx led) C (some emptyDict) := ⟨(N _ h1).1, rfl, rfl, (N _ h2).1⟩
section
variable {prog : Program} {w : World} {A : Around} {E : Value → Shared → Prop} {s : Shared} {h₀ : Heap} {L : Addr} {m : Str → Option Value} {news : List (Addr × Obj)} {K : Frag} {x C D so dx : Addr} {led : Bool}
theorem method_set {name : Str} {pl : Sem Bool} {Q : Value × List Value → Shared → Prop} (F : Fr h₀ L s.heap m) (X₀ : K.In h₀) (N : News h₀ L s.heap news) (hso : (so, ks_superObj D x C) ∈ news) (hx : (x, setObj C dx led) ∈ news) (hdx : (dx, emptyDict) ∈ news) (hsub : mroIn K C (.type "set") = some true) (ho : nsIn K cStatics "thirdparty.any" = some none)
    (hm : ks_superIn K C D name = some (some (.builtin "set.__init__"))) (hn : (name == ("__class__" : Str)) = false)
    (h : ∀ q h', Fr h₀ L h' m → News h₀ L h' ((q, smwObj x) :: news) → (∀ p ∈ news, p.1 < q) → Q (.ref q, []) { s with heap := h', toks := s.toks + 1 }) : wpAny (model prog w) A (getMethod (.ref so) name pl) Q E s := by
  have X : K.In s.heap := X₀.keeps F.keep
  obtain ⟨hh, g, d, t, os⟩ := s
  cases hc : clsIn K C with
  | none => unfold ks_superIn at hm; rw [hc] at hm; cases hm
  | some cd =>
    unfold ks_superIn at hm
    rw [hc] at hm
    refine super_getS (looks_mroIn X hsub) (N _ hx).1 rfl (N _ hso).1 (looks_opaque X ho) (l₀ := cd.mro) ?_ rfl X hm (ks_ne X (inst_set N hx hdx) hc) hn ?_
    · exact fun A Q E s k q => wpAny_bind ((looks_clsIn X hc) A _ E s k (wpAny_pure q))
    · obtain ⟨F', N', l'⟩ := ks_newsPush (s := ⟨hh, g, d, t, os⟩) (o := smwObj x) F N rfl (Heap.get?_push_at rfl rfl) (fun b o e => Heap.get?_push_of_some _ e)
      exact h _ _ F' N' l'
end
end
section
open PySem PySem.W PySem.Spec PySem.Calls PyProof.Rows Builtin
set_option maxHeartbeats 4000000
section
variable {prog : Program} {w : World} {A : Around} {E : Value → Shared → Prop} {s : Shared} {h₀ : Heap} {L : Addr} {m mg mb : Str → Option Value} {news : List (Addr × Obj)} {K : Frag} {p : Program} {loose : List Str} {mean : ExcName → Option Value} {x C D f cc cda so dx nc : Addr} {led : Bool}
theorem cs_node {body : List Stmt} {q : Str} {scope : Scope} {p0 p1 : Pos} {attr : Str} {whole : Sem Value} {fd : FuncData} {ar : Arg} {vs : Array Value} {file : Str} {tf : Tok} {oc ccl cl : Value} {od cdd cld : Option Addr} {osl ccs csl : Array (Option Value)} {cdD : ClassData} {Q : Value → Shared → Prop}
    (F : Fr h₀ L s.heap m) (X₀ : K.In h₀) (N : News h₀ L s.heap news) (T : Top p loose mean mg mb h₀) (hx : (x, setObj C dx led) ∈ news) (hdx : (dx, emptyDict) ∈ news)
    (hf : K.lookup f = some ⟨oc, od, .func fd, osl⟩) (hp : (fd.params.posonlyargs ++ fd.params.args).head? = some ar) (hv : m ar.arg = some (.ref x))
    (hcode : K.lookup cda = some ⟨ccl, cdd, .fields vs, ccs⟩) (hvs : vs[2]? = some (.str file tf)) (hfile : ((prog.main.file : Str) == file) = true)
    (hcell : K.lookup cc = some ⟨cl, cld, .cell (some (.ref D)), csl⟩) (hD : clsIn K D = some cdD) (hsub : mroIn K C (.ref D) = some true) (hsuper : nsIn K mainGlobals "super" = some none)
    (hat : (attr == ("__class__" : Str)) = false) (hks : scope.names.lookup ("super" : Str) = some .globalImplicit) (hkc : scope.names.lookup ("__class__" : Str) = some .free) (hka : scope.names.lookup ar.arg = some .local) (hk : scope.kind = .function)
    (htop : (prog.main.scope.names.lookup ("super" : Str)).isSome = false) (hboot : bootBuiltins "super" = some (.type "super"))
    (h : ∀ so h', Fr h₀ L h' m → News h₀ L h' ((so, ks_superObj D x C) :: news) → (∀ p ∈ news, p.1 < so) → Q (.ref so) { s with heap := h' }) :
    _root_.PySem.wpAt (model prog w) A (.func body (csEnv q scope L f (.ref cda) nc cc)) (attributeBase (.Call (.Name "super" p0) [] [] p1) attr (csEnv q scope L f (.ref cda) nc cc) whole) Q E s := by
  have X : K.In s.heap := X₀.keeps F.keep
  have I := inst_set N hx hdx
  obtain ⟨hh, g, d, t, os⟩ := s
  obtain ⟨oD, hD1, hD2⟩ : ∃ oD, hh.get? D = some oD ∧ oD.data = .cls cdD := by
    unfold clsIn at hD
    split at hD
    · rename_i c d cd' sl ho
      cases hD
      exact ⟨_, X _ _ ho, rfl⟩
    · cases hD
  refine ks_wpAt_super_base (env := csEnv q scope L f (.ref cda) nc cc) hks hkc hat rfl (X _ _ hf) rfl hp rfl (X _ _ hcode) rfl hvs hfile htop ?_
  refine ks_loadName_global hk hks (loadGlobal_builtin (env := csEnv q scope L f (.ref cda) nc cc) (T.g.keeps F.keep) (mg_none_of X₀ T.g hsuper) (T.b.keeps F.keep) ((T.builtins _ (by decide +kernel)).trans hboot) ⟨rfl, ?_⟩)
  refine wpAny_loadName_free hk hkc rfl ⟨_, X _ _ hcell, rfl⟩ ?_
  refine wpAny_loadName_local hk hka F.ns hv ?_
  refine ks_wpAny_isType_cls hD1 hD2 ⟨rfl, ?_⟩
  refine ks_wpAny_call_super hD1 hD2 I.at_ I.cls (fun c e => nomatch e) (looks_mroIn X hsub) (fun h' e k => ?_)
  obtain ⟨F', N', l'⟩ := ks_newsPush (s := ⟨hh, g, d, t, os⟩) F N rfl e k
  exact h _ _ F' N' l'
noncomputable def SMwAt (q x : Addr) (h : Heap) : Prop := h.get? q = some (smwObj x)
theorem smwAt {h : Heap} {q : Addr} (N : News h₀ L h news) (hq : (q, smwObj x) ∈ news) : SMwAt q x h := (N _ hq).1
theorem keeps_smw {M : Model} {q : Addr} (h : Heap) (X : SMwAt q x h) : ∃ k, (k = Keeper.frame ∨ k = Keeper.machine ∨ k = Keeper.boundFrame) ∧ Looks M h (keeperOf (.ref q)) k := by
  refine ⟨.machine, .inr (.inl rfl), ?_⟩
  exact (Looks.ld (part := none) X).andThen .now
theorem callWith_smw {env : Env} {pos : Pos} {first : List Value} {q : Addr} {e : Expr} {rest : List Expr} {Q : Value → Shared → Prop} (_N : News h₀ L s.heap news) (_q : (q, smwObj x) ∈ news) (h : wpAny (model prog w) A (spliced (backTo pos (starEach (e :: rest) env))) (fun vs s₁ => SMwAt q x s₁.heap ∧ wpAny (model prog w) A (call (.ref q) (first ++ vs)) Q E s₁) E s)
    (he : starEach (e :: rest) env = (false, eval e env) :: starEach rest env := by rfl) (hplain : (backTo pos (starEach rest env)).any (·.1) = false := by rfl) :
    wpAny (model prog w) A (callWith pos (.ref q) first (backTo pos (starEach (e :: rest) env)) []) Q E s := by
  rw [he] at h ⊢
  exact callWith_of (by show ((false || (backTo pos (starEach rest env)).any (·.1)) || false) = false; rw [hplain]; rfl) keeps_smw (evalArgs_plain h)
noncomputable abbrev setObj1 (C dx : Addr) (es : Array (Int × Value)) (ep : Nat) (tb : SetTable) : Obj := { cls := .ref C, dict := some dx, data := .set es ep tb }
theorem si_callK {mw l : Addr} {lo : Obj} {n : Int} {t : Tok} {k : Nat} {oc : Value} {od : Option Addr} {cd : ClassData} {sl : Array (Option Value)} {rest : List (Addr × Obj)} {Q : Value → Shared → Prop} (F : Fr h₀ L s.heap m) (X₀ : K.In h₀) (N : News h₀ L s.heap news) (hh : A.handled = none)
    (hsub : mroIn K C (.type "set") = some true) (hC : K.lookup C = some ⟨oc, od, .cls cd, sl⟩) (hnm : Array.foldl (fun k c => k + (Str.utf8Of c).length) 0 cd.name.cps ≤ 200)
    (hmw : (mw, smwObj x) ∈ news) (hx : (x, setObj C dx led) ∈ news) (hl : (l, lo) ∈ news) (hlc : lo.cls = .type "list") (hld : lo.data = .seq #[.int n t] k) (hr : ∀ p ∈ rest, p ∈ news) (hne : NotIt x rest)
    (hq : ∀ h' tk es ep tb, Fr h₀ L h' m → News h₀ L h' ((x, setObj1 C dx es ep tb) :: rest) → es.size = 1 → tb.fits 1 = true → Q .none { s with heap := h', toks := tk }) :
    wpAny (model prog w) A (call (.ref mw) [.ref l]) Q E s := by
  have X : K.In s.heap := X₀.keeps F.keep
  have hxl : L ≠ x := fun z => (N _ hx).2.1 z.symm
  have hx0 : h₀.get? x = none := (N _ hx).2.2
  refine si_call hh (looks_mroIn X hsub) (X _ _ hC) hnm (N _ hmw).1 (N _ hx).1 (N _ hl).1 hlc hld fun h' tk es ep tb k1 k2 k3 k4 => ?_
  refine hq h' tk es ep tb ⟨?_, fun b o e => k1 b o (fun z => by rw [z, hx0] at e; cases e) (F.keep _ _ e), F.above⟩ (fun p hp => ?_) k3 k4
  · obtain ⟨oL, es', ep', hL, r⟩ := F.ns
    exact ⟨oL, es', ep', k1 _ _ hxl hL, r⟩
  · rcases List.mem_cons.mp hp with rfl | hp
    · exact ⟨k2, (N _ hx).2⟩
    · exact ⟨k1 _ _ (hne p hp) (N _ (hr p hp)).1, (N _ (hr p hp)).2⟩
end
end
section
open PySem PySem.W PySem.Spec PySem.Calls PyProof.Rows Builtin
set_option maxHeartbeats 4000000
section
variable {prog : Program} {w : World} {A : Around} {E : Value → Shared → Prop} {s : Shared} {h₀ : Heap} {L : Addr} {m mg mb : Str → Option Value} {news : List (Addr × Obj)} {K : Frag} {x C dx : Addr}
theorem len_set1 {es : Array (Int × Value)} {ep : Nat} {tb : SetTable} {Q : Value → Shared → Prop} (X : K.In s.heap) (hx : s.heap.get? x = some (setObj1 C dx es ep tb)) (h1 : es.size = 1) (hf : tb.fits 1 = true)
    (hsub : mroIn K C (.type "set") = some true) (hlen : findIn K (.ref C) "__len__" = some (some (.builtin "set.__len__")))
    (h : ∀ t tk, Q (.int 1 t) { s with toks := tk }) : wpAny (model prog w) A (call (.builtin "len") [.ref x]) Q E s := by
  have t1 : Looks (model prog w) s.heap (typeOf (.ref x)) (.ref C) := (Looks.ld hx).andThen .now
  have i1 : Looks (model prog w) s.heap (typeLookup (.ref C) "__len__") (some (.builtin "set.__len__")) := looks_findIn X hlen
  have sb : Looks (model prog w) s.heap (isInstance (.ref x) (.type "set")) true := t1.andThen (looks_mroIn X hsub)
  have b1 : Looks (model prog w) s.heap (bindSpecial (.builtin "set.__len__") (.ref x)) (.builtin "set.__len__", [.ref x]) := Looks.of_pure (PySem.F.slot_set_len.bind _)
  have hf' : tb.fits es.size = true := by rw [h1]; exact hf
  obtain ⟨hh, g, d, tk, os⟩ := s
  refine Calls.call_function_entry kind_len plain_len entry_len (args_len1 _) ?_
  unfold Builtin.«len»
  refine wpAny_bind (m := oneArg "len" _) (wpAny_pure ?_)
  refine wpAny_bind (m := callSpecial? (.ref x) (Str.ofString "__len__")) ?_
  unfold callSpecial? specialOf
  repeat (first | with_reducible refine wpAny_call ?_ | lk)
  refine codeAny_call_builtin_at (Code.quiet_builtin _ (by decide +kernel)) entry_set_len (check_slot (n := "__len__") (owner := "set") (by kernel_rfl) (by kernel_rfl) sb (PySem.F.args_set_len_1 _) ?_)
  unfold Builtin.«frozenset.__len__» Builtin.Frozenset.slot0 slotArgs
  simp only [List.append_nil, List.isEmpty_nil, Bool.not_true, Bool.false_eq_true, ↓reduceIte, bind_assoc, List.length_nil, bne_self_eq_false]
  unfold Builtin.Frozenset.addrOf Builtin.Frozenset.sizeOf
  refine wpAny_bind (wpAny_pure ?_)
  try dsimp only
  refine wpAny_bind (wpAny_pure ?_)
  refine wpAny_bind (wpAny_bind (wpAny_setEntries_of hx rfl hf' (wpAny_pure ?_)))
  show wpAny _ _ (retInt _) _ _ _
  unfold retInt
  refine wpAny_bind (wpAny_mkInt (wpAny_pure ?_))
  show wpAny _ _ (pure (some _)) _ _ _
  refine wpAny_pure ?_
  rw [h1]
  dsimp only
  refine wpAny_bind (wpAny_holding (wpAny_pure ?_))
  refine wpAny_bind (wpAny_letGo ?_)
  show wpAny _ _ (if ((1 : Nat) : Int) < 0 then _ else _) _ _ _
  rw [if_neg (by omega)]
  show wpAny _ _ (if ((1 : Nat) : Int) ≥ 2 ^ 63 then _ else _) _ _ _
  rw [if_neg (by omega)]
  exact wpAny_bind (wpAny_mkInt (wpAny_pure ⟨_, rfl, h _ _⟩))
end
end
section
open PySem PySem.W PySem.Spec PySem.Calls PyProof.Rows
noncomputable def asgE (attr : Str) : Stmt → Option Expr
  | .Assign [.Attribute (.Name n _) x _] e _ => if n = Str.ofString "self" ∧ x = attr then some e else none
  | _ => none
noncomputable def strE : Expr → Option Str
  | .Constant (.str c) _ _ => some c
  | _ => none
/-- the four assignments of a rule's branch -/
noncomputable def fourOf : List Stmt → Option (Str × Str × VE × VE)
  | [a, b, c, d] => match (asgE (Str.ofString "shortname") a).bind strE, (asgE (Str.ofString "longname") b).bind strE, (asgE (Str.ofString "algorithms") c).bind valE, (asgE (Str.ofString "resolute_values") d).bind valE with
    | some x, some y, some u, some v => some (x, y, u, v)
    | _, _, _, _ => none
  | _ => none
structure SetOk (KF : Frag) (C : Addr) (attr : Str) : Prop where
  set : findIn KF (.ref C) "__setattr__" = some (some (.builtin "object.__setattr__"))
  plain : plainOver KF C = true
  take : takerIn KF C attr = some none
  has : hasDictIn KF C = true
noncomputable abbrev ent (w : World) (x : String) (t : Tok) (v : Value) : DictEntry := { hash := PyData.keyHash w.params (Str.ofString x), key := .str (Str.ofString x) t, val := v }
section
variable {prog : Program} {w : World} {A : Around} {E : Value → Shared → Prop} {s : Shared} {h₀ : Heap} {L a : Addr} {m : Str → Option Value} {nw : List (Addr × Obj)} {name : Str} {scope : Scope} {cd : Value}
  {KF : Frag} {x d C : Addr} {es es' : List DictEntry} {n n' : Nat}
theorem inst_of {C : Addr} {h : Heap} (N : News h₀ L h ((x, instObj C d) :: (d, dictOf es n) :: nw)) : InstAt h x (instObj C d) C (some (dictOf es n)) := ⟨(N _ (.head _)).1, rfl, rfl, (N _ (.tail _ (.head _))).1⟩
theorem set1 {attr : Str} {v : Value} {Q : Unit → Shared → Prop} (F : Fr h₀ L s.heap m) (N : News h₀ L s.heap ((x, instObj C d) :: (d, dictOf es n) :: nw)) (X₀ : KF.In h₀) (hxd : x ≠ d) (hn : ∀ p ∈ nw, p.1 ≠ d) (S : SetOk KF C attr)
    (hl : (getL attr es).isSome = true) (e : ∀ k, putL attr (PyData.keyHash w.params attr) k v es = es ++ [⟨PyData.keyHash w.params attr, k, v⟩]) (en : putN attr es n = n + 1) (hz : es.length ≤ 900)
    (h : ∀ h' k, Fr h₀ L h' m → News h₀ L h' ((x, instObj C d) :: (d, dictOf (es ++ [⟨PyData.keyHash w.params attr, .str attr k, v⟩]) (n + 1)) :: nw) → Q () { s with heap := h', toks := s.toks + 2 }) :
    wpAny (model prog w) A (setAttr (.ref x) attr v) Q E s := by
  refine set_dict F X₀ N (inst_of N) rfl S.set S.plain S.take S.has hl (by rw [e, en]) (.tail hxd (.head hn)) (by simp; omega) fun h' F' N' => h h' _ F' N'
theorem asg_of {attr : Str} {st : Stmt} {e : Expr} {Q : Flow → Shared → Prop} (ha : asgE attr st = some e)
    (h : wpAny (model prog w) A (eval e (envOf name scope L a cd)) (fun v s₁ => ∃ m, Fr h₀ L s₁.heap m ∧ m (Str.ofString "self") = some (.ref x) ∧ wpAny (model prog w) A (setAttr (.ref x) attr v) (fun _ => Q .next) E s₁) E s)
    (hk : scope.kind = .function) (hl : (envOf name scope L a cd).kindOf (Str.ofString "self") = some .local) :
    wpAny (model prog w) A (exec st (envOf name scope L a cd)) Q E s := by
  unfold asgE at ha
  split at ha
  · split at ha
    · rename_i hc
      obtain ⟨rfl, rfl⟩ := hc
      cases ha
      refine plainObj_wpAny_Assign_Attribute (wpAny_mono h (fun v s₁ q => ?_) fun _ _ z => z) ?_
      · obtain ⟨m, F, hs, q⟩ := q
        exact ld F hs q hk hl (by decide)
      · cases e <;> rfl
    · cases ha
  · cases ha
noncomputable def VEgood (KF : Frag) (C : Addr) (ds : List PyData) : VE → Prop
  | .tup l => l = ds
  | .cls y => ClsTup KF C y ds ∧ (y = Str.ofString "_THIELE_ALGORITHMS" ∨ y = Str.ofString "_RESOLUTE_VALUES_FOR_OPTIMIZATION_BASED_RULES" ∨ y = Str.ofString "_RESOLUTE_VALUES_FOR_SEQUENTIAL_RULES")
theorem newsShift {h : Heap} {xs : List (Addr × Obj)} {p q : Addr × Obj} (N : News h₀ L h (xs ++ p :: q :: nw)) : News h₀ L h (p :: q :: (xs ++ nw)) := fun r hr => by
  refine N r ?_
  simp only [List.mem_cons, List.mem_append] at hr ⊢
  rcases hr with h | h | h | h <;> simp [h]
theorem apartOf {h : Heap} {y : Addr} {o : Obj} {xs : List (Addr × Obj)} (hy : h.get? y = some o) (fr : ∀ p ∈ xs, h.get? p.1 = none) (hn : ∀ p ∈ nw, p.1 ≠ y) : ∀ p ∈ xs ++ nw, p.1 ≠ y := fun p hp => by
  rcases List.mem_append.mp hp with hp | hp
  · intro e
    have := fr p hp
    rw [e, hy] at this
    cases this
  · exact hn p hp
theorem four_walk {l : List Stmt} {Q : Flow → Shared → Prop} {c1 c2 nm : Str} {v3 v4 : VE} {d3 d4 : List PyData} {k1 u1 : Tok} (hf : fourOf l = some (c1, c2, v3, v4)) (hv3 : VEgood KF C d3 v3) (hv4 : VEgood KF C d4 v4)
    (F : Fr h₀ L s.heap m) (N : News h₀ L s.heap ((x, instObj C d) :: (d, dictOf [ent w "rule_id" k1 (.str nm u1)] 1) :: nw)) (X₀ : KF.In h₀) (hxd : x ≠ d) (hn : ∀ p ∈ nw, p.1 ≠ d) (hnx : ∀ p ∈ nw, p.1 ≠ x)
    (S : ∀ y ∈ ["shortname", "longname", "algorithms", "resolute_values"], SetOk KF C (Str.ofString y)) (hself : m (Str.ofString "self") = some (.ref x))
    (hk : scope.kind = .function) (hl : (envOf name scope L a cd).kindOf (Str.ofString "self") = some .local)
    (h : ∀ aa wa nw' h' tk k2 k3 k4 k5 u2 u3, Fr h₀ L h' m → (∀ p ∈ nw, p ∈ nw') → (∀ p ∈ nw', p.1 ≠ d) → (∀ p ∈ nw', p.1 ≠ x) →
      News h₀ L h' ((x, instObj C d) :: (d, dictOf [ent w "rule_id" k1 (.str nm u1), ent w "shortname" k2 (.str c1 u2), ent w "longname" k3 (.str c2 u3), ent w "algorithms" k4 (.ref aa), ent w "resolute_values" k5 (.ref wa)] 5) :: nw') →
      TupC KF nw' aa d3 → TupC KF nw' wa d4 → Q .next { s with heap := h', toks := tk }) :
    wpAny (model prog w) A (execs l (envOf name scope L a cd)) Q E s := by
  unfold fourOf at hf
  split at hf
  rotate_left
  · cases hf
  rename_i sa sb sc sd
  split at hf
  rotate_left
  · cases hf
  rename_i y1 y2 y3 y4 e1 e2 e3 e4
  cases hf
  obtain ⟨x1, e1, f1⟩ := Option.bind_eq_some_iff.mp e1
  obtain ⟨x2, e2, f2⟩ := Option.bind_eq_some_iff.mp e2
  obtain ⟨x3, e3, f3⟩ := Option.bind_eq_some_iff.mp e3
  obtain ⟨x4, e4, f4⟩ := Option.bind_eq_some_iff.mp e4
  have str_of : ∀ {e : Expr} {c : Str} {R : Value → Shared → Prop} {s : Shared}, strE e = some c → R (.str c s.toks) { s with toks := s.toks + 1 } → wpAny (model prog w) A (eval e (envOf name scope L a cd)) R E s := by
    intro e c R s he hR
    unfold strE at he
    split at he
    · cases he
      exact Constant_str hR
    · cases he
  have good : ∀ {v : VE} {ds : List PyData} {es : List DictEntry}, VEgood KF C ds v → (∀ y, (y = Str.ofString "_THIELE_ALGORITHMS" ∨ y = Str.ofString "_RESOLUTE_VALUES_FOR_OPTIMIZATION_BASED_RULES" ∨ y = Str.ofString "_RESOLUTE_VALUES_FOR_SEQUENTIAL_RULES") → getL y es = some none) → VEok KF C es ds v := by
    intro v ds es g hy
    cases v with
    | tup l => exact g
    | cls y => exact ⟨g.1, hy y g.2⟩
  refine wpAny_execs_cons (asg_of e1 (str_of f1 ⟨m, F, hself, ?_⟩) hk hl)
  refine set1 (s := { s with toks := _ }) F N X₀ hxd hn (S _ (by simp)) rfl (fun _ => rfl) rfl (by simp) fun h1 k2 F N => ?_
  refine wpAny_execs_cons (asg_of e2 (str_of f2 ⟨m, F, hself, ?_⟩) hk hl)
  refine set1 (s := { s with heap := h1, toks := _ }) F N X₀ hxd hn (S _ (by simp)) rfl (fun _ => rfl) rfl (by simp) fun h2 k3 F N2 => ?_
  refine wpAny_execs_cons (asg_of e3 (eval_val (s := { s with heap := h2, toks := _ }) F N2 X₀ (inst_of N2) hself f3 (good hv3 ?_) hk hl fun aa xs h3 tk3 F N kp fr tc => ⟨m, F, hself, ?_⟩) hk hl)
  · rintro y (rfl | rfl | rfl) <;> rfl
  have N := newsShift N
  have hd' : ∀ p ∈ xs ++ nw, p.1 ≠ d := apartOf (N2 _ (.tail _ (.head _))).1 fr hn
  have hx' : ∀ p ∈ xs ++ nw, p.1 ≠ x := apartOf (N2 _ (.head _)).1 fr hnx
  refine set1 (s := { s with heap := h3, toks := _ }) F N X₀ hxd hd' (S _ (by simp)) rfl (fun _ => rfl) rfl (by simp) fun h4 k4 F N4 => ?_
  refine wpAny_execs_cons (asg_of e4 (eval_val (s := { s with heap := h4, toks := _ }) F N4 X₀ (inst_of N4) hself f4 (good hv4 ?_) hk hl fun wa ys h5 tk5 F N kp' fr' tc' => ⟨m, F, hself, ?_⟩) hk hl)
  · rintro y (rfl | rfl | rfl) <;> rfl
  have N := newsShift N
  have hd'' : ∀ p ∈ ys ++ (xs ++ nw), p.1 ≠ d := apartOf (N4 _ (.tail _ (.head _))).1 fr' hd'
  have hx'' : ∀ p ∈ ys ++ (xs ++ nw), p.1 ≠ x := apartOf (N4 _ (.head _)).1 fr' hx'
  refine set1 (s := { s with heap := h5, toks := _ }) F N X₀ hxd hd'' (S _ (by simp)) rfl (fun _ => rfl) rfl (by simp) fun h6 k5 F N => ?_
  refine wpAny_execs_nil ?_
  exact h aa wa _ h6 _ _ _ _ _ _ _ F (fun p hp => by simp [hp]) hd'' hx'' N (tc.mono fun p hp => by simp [hp]) (tc'.mono fun p hp => by simp [hp])
end
end
section
open PySem PySem.W PySem.Spec PySem.Calls PyProof.Rows
/-- is a list of these texts of the fragment there -/
noncomputable def lstIn (KF : Frag) (a : Addr) (ds : List PyData) : Bool := match KF.lookup a with
  | some ⟨.type "list", _, .seq vs _, _⟩ => saysData vs.toList ds
  | _ => false
theorem lst_in {KF : Frag} {h : Heap} {a : Addr} {ts : List Str} (X : KF.In h) (e : lstIn KF a (ts.map PyData.str) = true) : ∃ vs : List Value, h.IsList a vs.toArray ∧ StrsAre vs ts := by
  unfold lstIn at e
  split at e
  · rename_i vs n _ ho
    exact ⟨vs.toList, ⟨_, X _ _ ho, rfl, n, by simp⟩, (consts_of_data e).strs⟩
  · cases e
theorem strsGet {vs : List Value} {ts : List Str} (h : StrsAre vs ts) : ∀ {i : Nat} {v : Value}, vs[i]? = some v → ∃ y t, v = .str y t ∧ ts[i]? = some y := by
  induction h with
  | nil => intro i v e; simp at e
  | cons y t h ih =>
    intro i v e
    cases i with
    | zero => simp at e; exact ⟨y, t, e.symm, rfl⟩
    | succ i => simpa using ih (by simpa using e)
theorem strsPush {vs : List Value} {ts : List Str} (h : StrsAre vs ts) (y : Str) (t : Tok) : StrsAre (vs ++ [.str y t]) (ts ++ [y]) := by
  induction h with
  | nil => exact .cons y t .nil
  | cons z u h ih => exact .cons z u ih
section
variable {prog : Program} {w : World} {A : Around} {E : Value → Shared → Prop} {s : Shared} {h₀ : Heap} {L a : Addr} {m mg mb : Str → Option Value} {nw : List (Addr × Obj)} {name : Str} {scope : Scope} {cd : Value}
  {KF : Frag} {x d C al aa ga : Addr} {es es' : List DictEntry} {n n' : Nat} {p : Program} {loose : List Str}
theorem TupC.at {h : Heap} {ds : List PyData} {l : List (Addr × Obj)} (T : TupC KF nw aa ds) (X : KF.In h) (N : News h₀ L h l) (hs : ∀ p ∈ nw, p ∈ l) : ∃ vs : List Value, h.IsTuple aa vs.toArray ∧ ConstsAre vs ds := by
  obtain ⟨o, vs, n, h1, h2, h3, h4⟩ := T
  refine ⟨vs.toList, ⟨o, ?_, h2, n, by simpa using h3⟩, h4⟩
  rcases h1 with h1 | h1
  · exact X _ _ h1
  · exact (N _ (hs _ h1)).1
theorem avail_loop {p1 p2 p3 p4 p5 p6 p7 p8 p9 p10 p11 p12 p13 p14 : Pos} {k1 k2 k3 k4 k5 k6 : Tok} {rv sv lv wv : Value} {ts there : List Str} {Q : Flow → Shared → Prop} (hA : A.handled = none) (F : Fr h₀ L s.heap m) (X₀ : KF.In h₀) (T : TopRead p loose mg mb h₀)
    {l : List (Addr × Obj)} {g : Obj → List (Addr × Obj)} (N : News h₀ L s.heap l) (U : UpdF al (W.listOf #[] 0) l g) (hxm : (x, instObj C d) ∈ l) (hdm : (d, dictOf [ent w "rule_id" k1 rv, ent w "shortname" k2 sv, ent w "longname" k3 lv, ent w "algorithms" k4 (.ref aa), ent w "resolute_values" k5 wv, ent w "available_algorithms" k6 (.ref al)] 6) ∈ l)
    (hx : x ≠ al) (hd : d ≠ al) (hself : m (Str.ofString "self") = some (.ref x)) (tc : TupC KF l aa (ts.map PyData.str)) (h8 : ts.length ≤ 8)
    (hg : nsIn KF mainGlobals (Str.ofString "available_algorithms") = some (some (.ref ga))) (hga : lstIn KF ga (there.map PyData.str) = true)
    (G1 : plainGet KF C (Str.ofString "algorithms") = true) (G2 : findIn KF (.ref C) (Str.ofString "algorithms") = some none) (G3 : plainGet KF C (Str.ofString "available_algorithms") = true) (G4 : findIn KF (.ref C) (Str.ofString "available_algorithms") = some none)
    (G5 : hasDictIn KF C = true) (hk : scope.kind = .function) (hl : (envOf name scope L a cd).kindOf (Str.ofString "self") = some .local) (hl2 : (envOf name scope L a cd).kindOf (Str.ofString "algorithm") = some .local)
    (hl3 : (envOf name scope L a cd).kindOf (Str.ofString "available_algorithms") = some .globalImplicit) (hE : PassesOwn (model prog w) A (envOf name scope L a cd) E)
    {pl : Sem Bool} (he : eval (.Call (.Attribute (.Attribute (.Name (Str.ofString "self") p8) (Str.ofString "available_algorithms") p9) (Str.ofString "append") p10) [.Name (Str.ofString "algorithm") p11] [] p12) (envOf name scope L a cd) = (do
      let ov ← eval (.Attribute (.Name (Str.ofString "self") p8) (Str.ofString "available_algorithms") p9) (envOf name scope L a cd)
      standAt p10.atName
      let (f, first) ← holding [ov] (getMethod ov (Str.ofString "append") pl)
      callWith p12 f first (backTo p12 (starEach [.Name (Str.ofString "algorithm") p11] (envOf name scope L a cd))) []))
    (h : ∀ h' tk m' its n, Fr h₀ L h' m' → News h₀ L h' (g (W.listOf its n)) →
      StrsAre its.toList (ts.filter fun y => there.any (· == y)) → Q .next { s with heap := h', toks := tk }) :
    wpAny (model prog w) A (exec (.For (.Name (Str.ofString "algorithm") p1) (.Attribute (.Name (Str.ofString "self") p2) (Str.ofString "algorithms") p3)
      [.If (.Compare (.Name (Str.ofString "algorithm") p4) [.In] [.Name (Str.ofString "available_algorithms") p5] p6)
        [.Expr (.Call (.Attribute (.Attribute (.Name (Str.ofString "self") p8) (Str.ofString "available_algorithms") p9) (Str.ofString "append") p10) [.Name (Str.ofString "algorithm") p11] [] p12) p7] [] p13] [] p14) (envOf name scope L a cd)) Q E s := by
  have hcls : ((envOf name scope L a cd).scope.kind == .class || ((envOf name scope L a cd).scope.kind == .module && (envOf name scope L a cd).locals != (envOf name scope L a cd).globals)) = false := by
    show (scope.kind == .class || (scope.kind == .module && _)) = false
    rw [hk]; rfl
  have hint : interactive (envOf name scope L a cd) = false := by
    show (scope.kind == .module && _) = false
    rw [hk]; rfl
  have X : KF.In s.heap := X₀.keeps F.keep
  obtain ⟨pre, post, rfl, hgo, hpre, hpost⟩ := U.split
  have N0 := N
  have hxg : ∀ o', (x, instObj C d) ∈ g o' := fun o' => by
    rw [hgo]
    rcases List.mem_append.mp hxm with h | h
    · exact List.mem_append_left _ h
    · rcases List.mem_cons.mp h with h | h
      · exact absurd (congrArg Prod.fst h) hx
      · exact List.mem_append_right _ (.tail _ h)
  have hdg : ∀ o', (d, dictOf [ent w "rule_id" k1 rv, ent w "shortname" k2 sv, ent w "longname" k3 lv, ent w "algorithms" k4 (.ref aa), ent w "resolute_values" k5 wv, ent w "available_algorithms" k6 (.ref al)] 6) ∈ g o' := fun o' => by
    rw [hgo]
    rcases List.mem_append.mp hdm with h | h
    · exact List.mem_append_left _ h
    · rcases List.mem_cons.mp h with h | h
      · exact absurd (congrArg Prod.fst h) hd
      · exact List.mem_append_right _ (.tail _ h)
  have halg : ∀ o', (al, o') ∈ g o' := fun o' => by rw [hgo]; simp
  have I0 : InstAt s.heap x (instObj C d) C (some (dictOf [ent w "rule_id" k1 rv, ent w "shortname" k2 sv, ent w "longname" k3 lv, ent w "algorithms" k4 (.ref aa), ent w "resolute_values" k5 wv, ent w "available_algorithms" k6 (.ref al)] 6)) := ⟨(N _ hxm).1, rfl, rfl, (N _ hdm).1⟩
  refine For_invV h₀ hl2 hcls (Attribute_name (ld F hself (get_own F X₀ I0 G1 G5 G2 rfl rfl rfl ?_) hk hl (by decide))) (hE := hE)
  obtain ⟨vs, ht, hc⟩ := tc.at (h := s.heap) X N (fun p hp => hp)
  have hsv := hc.strs
  refine wpAny_pyIter_tuple (s := { s with toks := s.toks + 1 }) ht ?_
  have hI : ∀ b o, s.heap.get? b = some o → b ≠ s.heap.objs.size := fun b o e => Nat.ne_of_lt (Heap.lt_size e)
  obtain ⟨ot, hot, hotc, hotd⟩ := id ht
  have hLs : L ≠ s.heap.objs.size := by
    obtain ⟨oL, es, ep, hL, r⟩ := F.ns
    exact hI _ _ hL
  have haL : aa ≠ L := by
    rcases tc with ⟨o, _, _, h1 | h1, _⟩
    · intro e
      exact absurd (Nat.lt_of_lt_of_le (Heap.lt_size (X₀ _ _ h1)) F.above) (by rw [e]; exact Nat.lt_irrefl _)
    · exact (N (aa, o) h1).2.1
  have haal : aa ≠ al := by
    intro e
    have := (N (al, W.listOf #[] 0) (by simp)).1
    rw [← e] at this
    rw [show s.heap.get? aa = some ot from hot] at this
    cases this
    exact absurd hotc (by simp)
  refine ⟨s.heap.objs.size, [s.heap.objs.size, aa], [s.heap.objs.size], vs.toArray.size, _, _, m, _, fun i m₁ news₁ => (∀ y, y ≠ Str.ofString "algorithm" → m₁ y = m y) ∧ ∃ its n, news₁ = g (W.listOf its n) ∧ its.size ≤ i ∧ StrsAre its.toList ((ts.take i).filter fun y => there.any (· == y)),
    rfl, Walks.tuple hA _ aa (hI _ _ hot) vs.toArray, ?_, ?_, ?_, ⟨⟨_, Heap.get?_push_size _ rfl, rfl, rfl⟩, ht.at fun o e => Heap.get?_push_of_some _ e⟩, F.push _, fun p hp => ⟨Heap.get?_push_of_some _ (N p hp).1, (N p hp).2⟩, ⟨fun _ _ => rfl, #[], 0, (hgo _).symm, Nat.le_refl _, .nil⟩, ?_, ?_⟩
  · intro hm
    simp only [List.mem_cons, List.not_mem_nil, or_false] at hm
    rcases hm with e | e
    · exact hLs e
    · exact haL e.symm
  · intro b hb
    rw [List.mem_singleton.mp hb]
    cases z : h₀.get? s.heap.objs.size with
    | none => rfl
    | some o => exact absurd (Heap.lt_size (F.keep _ _ z)) (Nat.lt_irrefl _)
  · intro p hp hw
    exact hI _ _ (N p hp).1 (List.mem_singleton.mp hw)
  · rintro i v m₁ news₁ s₁ own ⟨hh, tk, rfl⟩ hi hv ⟨hm, its, n, rfl, hsz, hits⟩ hnw hown hown2 hown3 hst F N
    obtain ⟨y, t, rfl, hy⟩ := strsGet hsv (i := i) (v := v) (by simpa using hv)
    have hsize : its.size ≤ sizeLine := by
      have : vs.length = ts.length := hsv.length
      have : i < vs.length := by simpa using hi
      rw [sizeLine_eq]; omega
    have hIal : ∀ p ∈ own, p.1 ≠ al := by
      intro p hp
      have := hown p hp
      simp only [List.mem_cons, List.not_mem_nil, or_false] at this
      rcases this with e | e
      · rw [e]
        exact fun q => hI al _ (N0 (al, W.listOf #[] 0) (by simp)).1 q.symm
      · rw [e]; exact haal
    have F' := F
    have hself' : (fun z => if z = Str.ofString "algorithm" then some (Value.str y t) else m₁ z) (Str.ofString "self") = some (.ref x) := by
      show (if Str.ofString "self" = Str.ofString "algorithm" then _ else _) = _
      rw [if_neg (by decide), hm _ (by decide), hself]
    have hstep : ((ts.take (i + 1)).filter fun y => there.any (· == y)) = (ts.take i).filter (fun y => there.any (· == y)) ++ (if there.any (· == y) then [y] else []) := by
      rw [List.take_succ, hy, List.filter_append]
      simp [List.filter_cons]
    refine wpAny_execs_cons (wpAny_If (wpAny_isTrue_Compare1 (ld F (if_pos rfl) ?_ hk hl2 (by decide)) rfl))
    refine name_K F X₀ T hg ?_ hk hl3 (by decide)
    obtain ⟨gs, hgl, hgs⟩ := lst_in (X₀.keeps F.keep) hga
    refine in_list_strs hgl hgs (wpAny_truthy_bool ?_)
    cases hb : there.any (· == y) with
    | false =>
      rw [hb] at hstep
      refine wpAny_execs_nil (wpAny_execs_nil ?_)
      refine .next (.intro (tk := tk) F N (fun p hp => hnw p hp) ⟨fun z hz => ?_, its, n, rfl, Nat.le_succ_of_le hsz, by rw [hstep]; simpa using hits⟩)
      show (if z = _ then _ else _) = _
      rw [if_neg hz, hm z hz]
    | true =>
      rw [hb] at hstep
      have Nx : News h₀ L hh (own ++ g (W.listOf its n)) := N
      have I : InstAt hh x (instObj C d) C (some (dictOf [ent w "rule_id" k1 rv, ent w "shortname" k2 sv, ent w "longname" k3 lv, ent w "algorithms" k4 (.ref aa), ent w "resolute_values" k5 wv, ent w "available_algorithms" k6 (.ref al)] 6)) :=
        ⟨(Nx (x, instObj C d) (List.mem_append_right _ (hxg _))).1, rfl, rfl, (Nx (d, _) (List.mem_append_right _ (hdg _))).1⟩
      refine wpAny_execs_cons (wpAny_Expr_any (MethodCall_ (Attribute_name (ld F hself' ?_ hk hl (by decide))) he) hint rfl)
      refine get_own (s := { s with heap := hh, toks := tk }) F X₀ I G3 G5 G4 rfl rfl rfl ?_
      refine getMethod_list_append (Nx (al, W.listOf its n) (List.mem_append_right _ (halg _))).1 rfl rfl ?_
      refine callWith_builtin rfl (evalArgs_plain (spliced_cons (ld F (if_pos rfl) (spliced_nil ?_) hk hl2 (by decide))))
      refine append_at (s := { s with heap := hh, toks := _ }) (Nx (al, W.listOf its n) (List.mem_append_right _ (halg _))).1 (fun h' hs ho' => ?_) hsize
      have z := Nx (al, W.listOf its n) (List.mem_append_right _ (halg _))
      have F2 := F.change hs z.2.1 z.2.2
      have N2 := news_set (pre := own ++ pre) (post := post) (by rw [hgo] at Nx; rw [List.append_assoc]; exact Nx) (fun p hp => ?_) hpost hs ho'
      · refine wpAny_execs_nil (wpAny_execs_nil ?_)
        refine .next (.intro (tk := _) F2 (news₂ := g (W.listOf (its.push (.str y t)) (n + 1))) (by rw [hgo]; rw [List.append_assoc] at N2; exact N2) (fun p hp => ?_) ⟨fun z hz => ?_, its.push (.str y t), n + 1, rfl, by simp; omega, by rw [hstep]; simpa using strsPush hits y t⟩)
        · rw [hgo] at hp
          rcases List.mem_append.mp hp with hp | hp
          · exact hnw p (by rw [hgo]; exact List.mem_append_left _ hp)
          · rcases List.mem_cons.mp hp with rfl | hp
            · exact hnw (al, W.listOf its n) (halg _)
            · exact hnw p (by rw [hgo]; exact List.mem_append_right _ (.tail _ hp))
        · show (if z = _ then _ else _) = _
          rw [if_neg hz, hm z hz]
      · rcases List.mem_append.mp hp with hp | hp
        · exact hIal p hp
        · exact hpre p hp
  · rintro h' tk m' news' F N hnw ⟨hm, its, n, rfl, hsz, hits⟩
    refine h h' tk m' its n F N ?_
    have : ts.take vs.toArray.size = ts := List.take_of_length_le (by simp [hsv.length])
    rw [this] at hits
    exact hits
end
end
section
open PySem PySem.W PySem.Spec PySem.Calls PyProof.Rows
section
variable {prog : Program} {w : World} {A : Around} {E : Value → Shared → Prop} {s : Shared} {h₀ : Heap} {L a aa ga : Addr} {m mg mb : Str → Option Value} {nw : List (Addr × Obj)} {name : Str} {scope sc : Scope} {cd : Value}
  {KF : Frag} {p : Program} {loose : List Str} {mean : ExcName → Option Value}
/-- the turns of «[x for x in tuple if x in G]» -/
theorem comp_turns {env : Env} {x g : Str} {p1 p3 p4 p5 : Pos} {ts there : List Str} {vs : List Value} {Fin : List Value → List (Addr × Obj) → Prop}
    (X₀ : KF.In h₀) (T : Top p loose mean mg mb h₀) (hg : nsIn KF mainGlobals g = some (some (.ref ga))) (hga : tupIn KF ga (there.map PyData.str) = true)
    (hk : sc.kind = .function) (hx : ∀ C, (compEnvC sc [] C env).kindOf x = some .local) (hG : ∀ C, (compEnvC sc [] C env).kindOf g = some .globalImplicit) (hgl : env.globals = mainGlobals) (hd1 : (x == ("__debug__" : Str)) = false) (hd2 : (g == ("__debug__" : Str)) = false)
    (hsv : StrsAre vs ts) (fin : ∀ ys, StrsAre ys (ts.filter fun y => there.any (· == y)) → Fin ys nw) {S : List (Addr × Obj) → Prop} (hS : S nw) :
    ∀ n i ys, i + n = ts.length → StrsAre ys ((ts.take i).filter fun y => there.any (· == y)) →
      LCt.CompRestT prog w A h₀ L m env (.Compare (.Name x p3) [.In] [.Name g p4] p5) (.Name x p1) x sc [] s S (fun i v => vs.toArray[i]? = some v) Fin n i ys nw := by
  intro n
  induction n with
  | zero =>
    intro i ys hi hy
    have : ts.take i = ts := List.take_of_length_le (by omega)
    rw [this] at hy
    exact LCt.CompRestT.zero (fin ys hy)
  | succ n ih =>
    intro i ys hi hy
    refine LCt.CompRestT.succ ?_
    intro v I oI C oC D m₂ h tk E' hv hC hm F N off ne
    obtain ⟨y, t, rfl, hyt⟩ := strsGet hsv (i := i) (v := v) (by simpa using hv)
    have hstep : ((ts.take (i + 1)).filter fun y => there.any (· == y)) = (ts.take i).filter (fun y => there.any (· == y)) ++ (if there.any (· == y) then [y] else []) := by
      rw [List.take_succ, hyt, List.filter_append]
      simp [List.filter_cons]
    refine wpAny_isTrue_Compare1 (LCgL.ld_own N (.tail _ (.head _)) hC hm ?_ hk (hx C) hd1) rfl
    refine LCgL.ld_global F X₀ T hg ?_ hgl hk (hG C) hd2
    obtain ⟨gs, hgt, hgs⟩ := (tupC_in (KF := KF) hga).at (l := []) (X₀.keeps F.keep) (fun p hp => nomatch hp : News h₀ L h []) (fun _ hp => hp)
    refine in_tuple_strs hgt hgs.strs (wpAny_truthy_bool ?_)
    cases hb : there.any (· == y) with
    | true =>
      rw [hb] at hstep
      simp only [if_true]
      refine LCgL.ld_own (s := { s with heap := h, toks := tk }) N (.tail _ (.head _)) hC hm ?_ hk (hx C) hd1
      refine LCg.CompEnd.intro F N nw (fun _ hp => hp) off hS (ih (i + 1) _ (by omega) ?_)
      rw [hstep]
      exact strsPush hy y t
    | false =>
      rw [hb] at hstep
      simp only [Bool.false_eq_true, if_false]
      refine LCg.CompEnd.intro F N nw (fun _ hp => hp) off hS (ih (i + 1) _ (by omega) ?_)
      rw [hstep]
      simpa using hy
theorem some_comp {p1 p2 p3 p4 p5 px py pos spos : Pos} {x y src g : Str} {ts there : List Str} {Q : Flow → Shared → Prop} (hh : A.handled = none)
    (F : Fr h₀ L s.heap m) (X₀ : KF.In h₀) (T : Top p loose mean mg mb h₀) (N : News h₀ L s.heap nw) (hsrc : m src = some (.ref aa)) (tc : TupC KF nw aa (ts.map PyData.str)) (h8 : ts.length ≤ 8)
    (hg : nsIn KF mainGlobals g = some (some (.ref ga))) (hga : tupIn KF ga (there.map PyData.str) = true)
    (hsw : swapsWith (.ListComp (.Name x p1) [⟨.Name x px, .Name src p2, [.Compare (.Name x p3) [.In] [.Name g p4] p5], 0⟩] sc pos) (some (.Name y py)) spos.line (envOf name scope L a cd) = pure true)
    (hclos : closureFor sc (envOf name scope L a cd) = pure []) (hcell : ∀ z ∈ sc.names, z.2 ≠ .cell) (hkind : sc.kind = .function)
    (hnames : ∀ z ∈ sc.names, z.2 = .local → sc.names.lookup z.1 = some .local) (hx : sc.names.lookup x = some .local)
    (hxl : ∀ C, (compEnvC sc [] C (envOf name scope L a cd)).kindOf x = some .local) (hG : ∀ C, (compEnvC sc [] C (envOf name scope L a cd)).kindOf g = some .globalImplicit)
    (hd1 : (x == ("__debug__" : Str)) = false) (hd2 : (g == ("__debug__" : Str)) = false) (hd3 : (src == ("__debug__" : Str)) = false)
    (hk : scope.kind = .function) (hl : (envOf name scope L a cd).kindOf src = some .local) (hy : (envOf name scope L a cd).kindOf y = some .local)
    (hs : ∀ x, foldedSetIterable (.Name src p2) (envOf name scope L a cd) x = pure x)
    (h : ∀ h' tk D ys, Fr h₀ L h' (fun z => if z = y then some (.ref D) else m z) → News h₀ L h' ((D, LCg.lst ys) :: nw) → StrsAre ys (ts.filter fun y => there.any (· == y)) → Q .next { s with heap := h', toks := tk }) :
    wpAny (model prog w) A (exec (.Assign [.Name y py] (.ListComp (.Name x p1) [⟨.Name x px, .Name src p2, [.Compare (.Name x p3) [.In] [.Name g p4] p5], 0⟩] sc pos) spos) (envOf name scope L a cd)) Q E s := by
  have hp : ((envOf name scope L a cd).scope.kind == .class || ((envOf name scope L a cd).scope.kind == .module && (envOf name scope L a cd).locals != (envOf name scope L a cd).globals)) = false := by
    show (scope.kind == .class || (scope.kind == .module && _)) = false
    rw [hk]; rfl
  rw [exec_Assign_Name_used _ _ _ _ hsw]
  refine wpAny_bind (wpAny_standAt (wpAny_bind ?_))
  refine wpAny_bind (wpAny_mono (wpAny_comprehension_free (use := some (assign (.Name y py) (envOf name scope L a cd))) (Q := fun _ s' => Q .next s') rfl hs hclos hkind hnames ?_) (fun _ s' hq => wpAny_pure (wpAny_pure hq)) fun _ _ e => e)
  refine ld F hsrc ?_ hk hl hd3
  obtain ⟨vs, ht, hc⟩ := tc.at (h := s.heap) (X₀.keeps F.keep) N (fun p hp => hp)
  have hsv := hc.strs
  have hlt : aa < s.heap.objs.size := by obtain ⟨_, e, _⟩ := ht; exact Heap.lt_size e
  refine wpAny_pyIter_tuple ht ?_
  have up : ∀ b o, s.heap.get? b = some o → (s.heap.push { cls := .type "tuple_iterator", data := .fields #[.ref aa, .int 0 0] }).get? b = some o := fun b o e => Heap.get?_push_of_some _ e
  have hsz : vs.toArray.size = ts.length := by simp [hsv.length]
  refine LCt.block_T (S := fun l => ∃ vs' : List Value, vs' = vs ∧ ∀ h, KF.In h → News h₀ L h l → h.IsTuple aa vs'.toArray) (news := nw) (m := m) (h₀ := h₀) (L := L) (Fin := fun ys l => l = nw ∧ StrsAre ys (ts.filter fun y => there.any (· == y)))
    (Walks.tuple hh s.heap.objs.size aa (Nat.ne_of_lt hlt) vs.toArray) (by rw [hsz, sizeLine_eq]; omega) (fun i h st => by obtain ⟨o, e, _⟩ := st.1; exact ⟨o, e⟩) ?_ hcell hkind hx ⟨⟨_, Heap.get?_push_size _ rfl, rfl, rfl⟩, ht.at fun o e => up _ _ e⟩ (fun b hb => ?_)
      (F.keeps up) (N.grown up) (Nat.ne_of_lt F.ns.lt) (next_is_new F) (fun p hp => Nat.ne_of_lt (Heap.lt_size (N p hp).1)) ?_ ?_ ?_
  · rintro i h h' o l ⟨hi, ht'⟩ e e' hk' N' ⟨vs', rfl, hS⟩
    refine ⟨hi.at fun o2 e2 => ?_, hS _ (X₀.keeps hk') N'⟩
    rw [e] at e2
    cases e2
    exact e'
  · show b < (s.heap.push _).objs.size
    rw [Heap.size_push]
    rcases List.mem_cons.mp hb with rfl | hb
    · exact Nat.lt_succ_self _
    · rw [List.mem_singleton.mp hb]; exact Nat.lt_succ_of_lt hlt
  · refine ⟨vs, rfl, fun h' X N' => ?_⟩
    obtain ⟨o, vs2, n, h1, h2, h3, h4⟩ := tc
    have e1 : s.heap.get? aa = some o := by
      rcases h1 with h1 | h1
      · exact X₀.keeps F.keep _ _ h1
      · exact (N _ h1).1
    have e2 : h'.get? aa = some o := by
      rcases h1 with h1 | h1
      · exact X _ _ h1
      · exact (N' _ h1).1
    exact ht.at fun o2 e3 => by rw [e1] at e3; cases e3; exact e2
  · rw [hsz]
    refine comp_turns (nw := nw) X₀ T hg hga hkind hxl hG rfl hd1 hd2 hsv (fun ys hy => ⟨rfl, hy⟩) ?_ ts.length 0 [] (by omega) .nil
    refine ⟨vs, rfl, fun h' X N' => ?_⟩
    obtain ⟨o, vs2, n, h1, h2, h3, h4⟩ := tc
    have e1 : s.heap.get? aa = some o := by
      rcases h1 with h1 | h1
      · exact X₀.keeps F.keep _ _ h1
      · exact (N _ h1).1
    have e2 : h'.get? aa = some o := by
      rcases h1 with h1 | h1
      · exact X _ _ h1
      · exact (N' _ h1).1
    exact ht.at fun o2 e3 => by rw [e1] at e3; cases e3; exact e2
  · rintro D C h' tk m' ys news' F' N' o1 hn hC₀ hD₀ hCL hDL hCD offC ⟨rfl, hys⟩
    show wpAny _ A (assign (.Name y py) (envOf name scope L a cd) (.ref D)) _ _ _
    refine wpAny_assign_Name (wpAny_storeName_local hy F'.ns (fun h₂ hn₂ hs₂ => ?_) hp)
    have hL₀ : h₀.get? L = none := Heap.get?_none_of_le F'.above
    have F₂ : Fr h₀ L h₂ (fun z => if z = y then some (.ref D) else m z) := ⟨hn₂, fun b o e => hs₂.extBut b o (fun q => by have q' : b = L := q; rw [q', hL₀] at e; cases e) (F'.keep b o e), F'.above⟩
    refine ⟨m', hn.sameBut hs₂ hCL, fun h'' hs'' => h h'' _ D ys (F₂.change hs'' hCL hC₀) (fun p hp => ?_) hys⟩
    have z : h₂.get? p.1 = some p.2 := hs₂.extBut _ _ (N' p hp).2.1 (N' p hp).1
    refine ⟨hs''.extBut _ _ ?_ z, (N' p hp).2⟩
    rcases List.mem_cons.mp hp with rfl | hp
    · exact Ne.symm hCD
    · exact offC p hp
end
end
section
local macro_rules | `(tactic| walk_at "pad") => `(tactic| fail)
open PySem PySem.W PySem.Spec PySem.Calls PyProof.Rows
noncomputable def bodyOfClass (n : Str) : List Stmt → List Stmt
  | [] => []
  | .ClassDef x _ _ body _ _ _ _ _ _ _ :: r => if x = n then body else bodyOfClass n r
  | _ :: r => bodyOfClass n r
noncomputable def bodyOfDef (n : Str) : List Stmt → List Stmt
  | [] => []
  | .FunctionDef x _ body _ _ _ _ _ _ _ :: r => if x = n then body else bodyOfDef n r
  | _ :: r => bodyOfDef n r
noncomputable def second : List Stmt → Stmt
  | _ :: st :: _ => st
  | _ => .If (.Constant .none 0 default) [] [] default
noncomputable def ruleIf : Stmt := second (bodyOfDef (Str.ofString "__init__") (bodyOfClass (Str.ofString "Rule") P.main.body))
/-- a class attribute that is a tuple of constants, by looking -/
noncomputable def clsTupIn (KF : Frag) (C : Addr) (x : Str) (ds : List PyData) : Bool := plainGet KF C x && hasDictIn KF C && !copiedNames.contains x && match findIn KF (.ref C) x with
  | some (some (.ref t)) => (match specialIn KF (.ref t) "__get__" with | some none => true | _ => false) && tupIn KF t ds
  | _ => false
theorem cls_tup {KF : Frag} {C : Addr} {x : Str} {ds : List PyData} (h : clsTupIn KF C x ds = true) : ClsTup KF C x ds := by
  unfold clsTupIn at h
  simp only [Bool.and_eq_true, Bool.not_eq_true'] at h
  obtain ⟨⟨⟨h1, h2⟩, h3⟩, h4⟩ := h
  split at h4
  · rename_i t ht
    simp only [Bool.and_eq_true] at h4
    refine ⟨h1, h2, h3, t, ht, ?_, rfl, h4.2⟩
    have := h4.1
    split at this
    · assumption
    · cases this
  · cases h4
noncomputable def setOkIn (KF : Frag) (C : Addr) (x : Str) : Bool := (match findIn KF (.ref C) "__setattr__" with | some (some (.builtin n)) => n == "object.__setattr__" | _ => false) && plainOver KF C && hasDictIn KF C && (match takerIn KF C x with | some none => true | _ => false)
theorem set_ok {KF : Frag} {C : Addr} {x : Str} (h : setOkIn KF C x = true) : SetOk KF C x := by
  unfold setOkIn at h
  simp only [Bool.and_eq_true] at h
  obtain ⟨⟨⟨h1, h2⟩, h3⟩, h4⟩ := h
  refine ⟨?_, h2, ?_, h3⟩
  · split at h1
    · rename_i e
      rw [e, beq_iff_eq.mp h1]
    · cases h1
  · split at h4
    · assumption
    · cases h4
theorem rule_set (p : Params) : ∀ y ∈ ["shortname", "longname", "algorithms", "resolute_values"], SetOk (K p) 355 (Str.ofString y) := by
  intro y hy
  simp only [List.mem_cons, List.not_mem_nil, or_false] at hy
  rcases hy with rfl | rfl | rfl | rfl <;> exact set_ok (by kernel_rfl)
theorem rule_set_av (p : Params) : SetOk (K p) 355 (Str.ofString "available_algorithms") := set_ok (by kernel_rfl)
noncomputable def thieleT : List Str := ["gurobi", "pulp-highs", "pulp-cbc", "branch-and-bound", "brute-force"].map Str.ofString
noncomputable def partsT : List Str := ["float-fractions", "gmpy2-fractions", "standard-fractions"].map Str.ofString
noncomputable def thereT : List Str := ["branch-and-bound", "brute-force", "standard", "standard-fractions"].map Str.ofString
theorem cls_thiele (p : Params) : ClsTup (K p) 355 (Str.ofString "_THIELE_ALGORITHMS") (thieleT.map PyData.str) := cls_tup (by kernel_rfl)
theorem cls_opt (p : Params) : ClsTup (K p) 355 (Str.ofString "_RESOLUTE_VALUES_FOR_OPTIMIZATION_BASED_RULES") [.bool false, .bool true] := cls_tup (by kernel_rfl)
theorem cls_seq (p : Params) : ClsTup (K p) 355 (Str.ofString "_RESOLUTE_VALUES_FOR_SEQUENTIAL_RULES") [.bool true, .bool false] := cls_tup (by kernel_rfl)
theorem there_in (p : Params) : lstIn (K p) 426 (thereT.map PyData.str) = true := by kernel_rfl
section
variable {prog : Program} {w : World} {A : Around} {E : Value → Shared → Prop} {s : Shared} {h₀ : Heap} {L a : Addr} {m mg mb : Str → Option Value} {nw : List (Addr × Obj)} {name : Str} {scope : Scope} {cd : Value}
  {KF : Frag} {x d C al aa ga : Addr} {es es' : List DictEntry} {n n' : Nat} {p : Program} {loose : List Str}
theorem if_four {st : Stmt} {l : List Stmt} {Q : Flow → Shared → Prop} {c1 c2 nm : Str} {v3 v4 : VE} {d3 d4 : List PyData} {k1 u1 : Tok} (e : st = ruleIf) (hgo : ifGo (Str.ofString "rule_id") nm 40 ruleIf = .inr l)
    (hf : fourOf l = some (c1, c2, v3, v4)) (hv3 : VEgood KF C d3 v3) (hv4 : VEgood KF C d4 v4)
    (F : Fr h₀ L s.heap m) (N : News h₀ L s.heap ((x, instObj C d) :: (d, dictOf [ent w "rule_id" k1 (.str nm u1)] 1) :: nw)) (X₀ : KF.In h₀) (hdx : d < x) (hn : ∀ p ∈ nw, p.1 < d)
    (S : ∀ y ∈ ["shortname", "longname", "algorithms", "resolute_values"], SetOk KF C (Str.ofString y)) (hself : m (Str.ofString "self") = some (.ref x)) (hrid : m (Str.ofString "rule_id") = some (.str nm u1))
    (hk : scope.kind = .function) (hl : (envOf name scope L a cd).kindOf (Str.ofString "self") = some .local) (hl2 : (envOf name scope L a cd).kindOf (Str.ofString "rule_id") = some .local)
    (h : ∀ aa wa nw' h' tk k2 k3 k4 k5 u2 u3, Fr h₀ L h' m → (∀ p ∈ nw, p ∈ nw') → (∀ p ∈ nw', p.1 ≠ d) → (∀ p ∈ nw', p.1 ≠ x) → x ≠ d →
      News h₀ L h' ((x, instObj C d) :: (d, dictOf [ent w "rule_id" k1 (.str nm u1), ent w "shortname" k2 (.str c1 u2), ent w "longname" k3 (.str c2 u3), ent w "algorithms" k4 (.ref aa), ent w "resolute_values" k5 (.ref wa)] 5) :: nw') →
      TupC KF nw' aa d3 → TupC KF nw' wa d4 → Q .next { s with heap := h', toks := tk }) :
    wpAny (model prog w) A (exec st (envOf name scope L a cd)) Q E s := by
  subst e
  refine if_go hrid hk hl2 (by decide) 40 N F fun h' tk F N => ?_
  rw [hgo]
  show wpAny _ _ (execs l _) _ _ _
  have hne : x ≠ d := fun e => by rw [e] at hdx; exact Nat.lt_irrefl _ hdx
  refine four_walk (s := { s with heap := h', toks := tk }) hf hv3 hv4 F N X₀ hne (fun p hp => Nat.ne_of_lt (hn p hp)) (fun p hp => Nat.ne_of_lt (Nat.lt_trans (hn p hp) hdx)) S hself hk hl ?_
  intro aa wa nw' h' tk k2 k3 k4 k5 u2 u3 F hs h1 h2 N t1 t2
  exact h aa wa nw' h' tk k2 k3 k4 k5 u2 u3 F hs h1 h2 hne N t1 t2
theorem avail_set {p1 p2 p3 p4 : Pos} {k1 k2 k3 k4 k5 : Tok} {rv sv lv av wv : Value} {Q : Flow → Shared → Prop}
    (F : Fr h₀ L s.heap m) (N : News h₀ L s.heap ((x, instObj C d) :: (d, dictOf [ent w "rule_id" k1 rv, ent w "shortname" k2 sv, ent w "longname" k3 lv, ent w "algorithms" k4 av, ent w "resolute_values" k5 wv] 5) :: nw))
    (X₀ : KF.In h₀) (hxd : x ≠ d) (hn : ∀ p ∈ nw, p.1 ≠ d) (S : SetOk KF C (Str.ofString "available_algorithms")) (hself : m (Str.ofString "self") = some (.ref x))
    (hk : scope.kind = .function) (hl : (envOf name scope L a cd).kindOf (Str.ofString "self") = some .local)
    (h : ∀ al h' tk k6, Fr h₀ L h' m → (∀ p ∈ nw, p.1 ≠ al) → x ≠ al → d ≠ al → News h₀ L h' ((x, instObj C d) :: (d, dictOf [ent w "rule_id" k1 rv, ent w "shortname" k2 sv, ent w "longname" k3 lv, ent w "algorithms" k4 av, ent w "resolute_values" k5 wv, ent w "available_algorithms" k6 (.ref al)] 6) :: (al, W.listOf #[] 0) :: nw) → Q .next { s with heap := h', toks := tk }) :
    wpAny (model prog w) A (exec (.Assign [.Attribute (.Name (Str.ofString "self") p1) (Str.ofString "available_algorithms") p2] (.List [] p3) p4) (envOf name scope L a cd)) Q E s := by
  refine plainObj_wpAny_Assign_Attribute (List_ (spliced_nil (newList_N (vs := []) F N (fun h' F N' => ?_) (by simp)))) rfl
  refine ld F hself ?_ hk hl (by decide)
  have hI : ∀ b o, s.heap.get? b = some o → b ≠ s.heap.objs.size := fun b o e => Nat.ne_of_lt (Heap.lt_size e)
  have hnal : ∀ p ∈ nw, p.1 ≠ s.heap.objs.size := fun p hp => hI _ _ (N p (.tail _ (.tail _ hp))).1
  have hdal := hI _ _ (N _ (.tail _ (.head _))).1
  refine set1 (s := { s with heap := h' }) (nw := (s.heap.objs.size, W.listOf #[] 0) :: nw) F (newsShift (xs := [_]) N') X₀ hxd (fun p hp => ?_) S rfl (fun _ => rfl) rfl (by simp) fun h'' k6 F N => ?_
  · rcases List.mem_cons.mp hp with rfl | hp
    · exact hdal.symm
    · exact hn p hp
  · exact h _ h'' _ k6 F hnal (hI _ _ (‹News h₀ L s.heap _› _ (.head _)).1) hdal N
end
end
section
open PySem PySem.W PySem.Spec PySem.Calls PyProof.Rows
noncomputable def rowD : List (String × String × List String × Nat) := [
  ("av", "AV", ["standard"], 0),
  ("sav", "SAV", ["standard"], 0),
  ("pav", "PAV", ["gurobi", "pulp-highs", "pulp-cbc", "branch-and-bound", "brute-force"], 0),
  ("slav", "SLAV", ["gurobi", "pulp-highs", "pulp-cbc", "branch-and-bound", "brute-force"], 0),
  ("cc", "CC", ["gurobi", "pulp-highs", "ortools-cp", "branch-and-bound", "brute-force", "pulp-cbc"], 0),
  ("lexcc", "lex-CC", ["gurobi", "pulp-highs", "pulp-cbc", "brute-force"], 0),
  ("adams", "Adams-AV", ["gurobi", "pulp-highs", "pulp-cbc", "brute-force"], 0),
  ("seqpav", "seq-PAV", ["standard"], 1),
  ("revseqpav", "revseq-PAV", ["standard"], 1),
  ("seqslav", "seq-SLAV", ["standard"], 1),
  ("seqcc", "seq-CC", ["standard"], 1),
  ("seqphragmen", "seq-Phragmén", ["float-fractions", "gmpy2-fractions", "standard-fractions"], 1),
  ("minimaxphragmen", "minimax-Phragmén", ["gurobi", "pulp-highs", "pulp-cbc"], 0),
  ("leximaxphragmen", "leximax-Phragmén", ["gurobi"], 0),
  ("maximin-support", "Maximin-Support", ["nx-max-flow", "gurobi"], 1),
  ("monroe", "Monroe", ["gurobi", "pulp-highs", "pulp-cbc", "ortools-cp", "brute-force"], 0),
  ("greedy-monroe", "Greedy Monroe", ["standard"], 2),
  ("minimaxav", "minimaxav", ["gurobi", "ortools-cp", "pulp-highs", "pulp-cbc", "brute-force"], 0),
  ("lexminimaxav", "lex-MAV", ["gurobi", "pulp-highs", "pulp-highs", "brute-force"], 0),
  ("equal-shares", "Equal Shares", ["float-fractions", "gmpy2-fractions", "standard-fractions"], 1),
  ("rule-x", "Equal Shares", ["float-fractions", "gmpy2-fractions", "standard-fractions"], 1),
  ("equal-shares-with-av-completion", "Equal Shares with AV completion", ["float-fractions", "gmpy2-fractions", "standard-fractions"], 1),
  ("equal-shares-with-increment-completion", "Equal Shares with increment completion", ["float-fractions", "gmpy2-fractions", "standard-fractions"], 2),
  ("equal-shares-without-completion", "Equal Shares without completion", ["float-fractions", "gmpy2-fractions", "standard-fractions"], 1),
  ("phragmen-enestroem", "Phragmén-Eneström", ["float-fractions", "gmpy2-fractions", "standard-fractions"], 1),
  ("consensus-rule", "Consensus Rule", ["float-fractions", "gmpy2-fractions", "standard-fractions"], 1),
  ("trivial", "Trivial Rule", ["standard"], 0),
  ("rsd", "Random Serial Dictator", ["standard"], 2),
  ("eph", "E Pluribus Hugo", ["float-fractions", "gmpy2-fractions", "standard-fractions"], 0),
  ("geom2", "2-Geometric", ["gurobi", "pulp-highs", "pulp-cbc", "branch-and-bound", "brute-force"], 0),
  ("seqgeom3", "seq-3-Geometric", ["standard"], 1),
  ("revseqcc", "revseq-CC", ["standard"], 1)]

structure RowS where
  name : Str
  short : Str
  algs : List Str
  kind : Nat
  deriving DecidableEq
noncomputable def rowT : List RowS := rowD.map fun (a, b, c, d) => ⟨Str.ofString a, Str.ofString b, c.map Str.ofString, d⟩
/-- the tuples of texts that the names of the law's module mean -/
noncomputable def nameT (n : Str) : Option (List Str) := if n = Str.ofString "_law_thiele" then some thieleT else if n = Str.ofString "_law_parts" then some partsT else none
noncomputable def algE : Expr → Option (List Str)
  | .Tuple es _ _ => (constStrs es).bind fun l => if l.length ≤ 8 then some l else none
  | .Name n _ => nameT n
  | _ => none
noncomputable def rowE : Expr → Option RowS
  | .Tuple [.Constant (.str a) _ _, .Constant (.str b) _ _, e, .Constant (.int k) _ _] _ _ => match algE e, k with
    | some l, .ofNat j => some ⟨a, b, l, j⟩
    | _, _ => none
  | _ => none
noncomputable def rowsE : List Expr → Option (List RowS)
  | [] => some []
  | e :: r => match rowE e, rowsE r with
    | some x, some l => some (x :: l)
    | _, _ => none
/-- the value is a tuple of the ledger that says the row -/
noncomputable def RowIs (KF : Frag) (nw : List (Addr × Obj)) (v : Value) (r : RowS) : Prop :=
  ∃ ra t1 t2 t4 aa, v = .ref ra ∧ (ra, ({ cls := .type "tuple", data := .seq #[.str r.name t1, .str r.short t2, .ref aa, .int r.kind t4] } : Obj)) ∈ nw ∧ TupC KF nw aa (r.algs.map PyData.str)
inductive RowsAre (KF : Frag) (nw : List (Addr × Obj)) : List Value → List RowS → Prop
  | nil : RowsAre KF nw [] []
  | cons {v r vs rs} : RowIs KF nw v r → RowsAre KF nw vs rs → RowsAre KF nw (v :: vs) (r :: rs)
theorem RowIs.mono {KF : Frag} {x y : List (Addr × Obj)} {v : Value} {r : RowS} (h : RowIs KF x v r) (hs : ∀ p ∈ x, p ∈ y) : RowIs KF y v r := by
  obtain ⟨ra, t1, t2, t4, aa, e, hm, t⟩ := h
  exact ⟨ra, t1, t2, t4, aa, e, hs _ hm, t.mono hs⟩
theorem RowsAre.mono {KF : Frag} {x y : List (Addr × Obj)} {vs : List Value} {rs : List RowS} (h : RowsAre KF x vs rs) (hs : ∀ p ∈ x, p ∈ y) : RowsAre KF y vs rs := by
  induction h with
  | nil => exact .nil
  | cons a _ ih => exact .cons (a.mono hs) ih
theorem RowsAre.length {KF : Frag} {x : List (Addr × Obj)} {vs : List Value} {rs : List RowS} (h : RowsAre KF x vs rs) : vs.length = rs.length := by
  induction h with
  | nil => rfl
  | cons a _ ih => simp [ih]
theorem RowsAre.get {KF : Frag} {x : List (Addr × Obj)} {vs : List Value} {rs : List RowS} (h : RowsAre KF x vs rs) : ∀ {i : Nat} {r : RowS}, rs[i]? = some r → ∃ v, vs[i]? = some v ∧ RowIs KF x v r := by
  induction h with
  | nil => intro i r e; simp at e
  | cons a _ ih =>
    intro i r e
    cases i with
    | zero => simp at e; subst e; exact ⟨_, rfl, a⟩
    | succ i => simpa using ih (by simpa using e)
/-- what the fragment says of the two names -/
structure NamesOk (KF : Frag) : Prop where
  thiele : ∃ t, nsIn KF mainGlobals (Str.ofString "_law_thiele") = some (some (.ref t)) ∧ tupIn KF t (thieleT.map PyData.str) = true
  parts : ∃ t, nsIn KF mainGlobals (Str.ofString "_law_parts") = some (some (.ref t)) ∧ tupIn KF t (partsT.map PyData.str) = true
theorem constData_of {es : List Expr} : ∀ {l : List Str}, constStrs es = some l → constData es = some (l.map PyData.str) := by
  induction es with
  | nil => intro l e; cases e; rfl
  | cons e r ih =>
    intro l h
    unfold constStrs at h
    split at h
    · rename_i heq; cases heq
    · rename_i c k p r' heq
      cases heq
      obtain ⟨l', e', rfl⟩ := Option.map_eq_some_iff.mp h
      unfold constData
      rw [ih e']
      rfl
    · cases h
section
variable {prog : Program} {w : World} {A : Around} {E : Value → Shared → Prop} {h₀ : Heap} {L a : Addr} {m mg mb : Str → Option Value} {name : Str} {scope : Scope} {cd : Value} {KF : Frag} {p : Program} {loose : List Str}
theorem eval_alg {s : Shared} {nw : List (Addr × Obj)} {e : Expr} {l : List Str} {Q : Value → Shared → Prop} (he : algE e = some l) (NO : NamesOk KF) (F : Fr h₀ L s.heap m) (X₀ : KF.In h₀) (T : TopRead p loose mg mb h₀) (N : News h₀ L s.heap nw)
    (hk : scope.kind = .function) (hl : ∀ n, n = Str.ofString "_law_thiele" ∨ n = Str.ofString "_law_parts" → (envOf name scope L a cd).kindOf n = some .globalImplicit)
    (h : ∀ t xs h' tk, Fr h₀ L h' m → News h₀ L h' (xs ++ nw) → TupC KF (xs ++ nw) t (l.map PyData.str) → Q (.ref t) { s with heap := h', toks := tk }) :
    wpAny (model prog w) A (eval e (envOf name scope L a cd)) Q E s := by
  unfold algE at he
  split at he
  · rename_i es' _ _
    obtain ⟨l', hc, hl8⟩ := Option.bind_eq_some_iff.mp he
    split at hl8
    · rename_i h8
      cases hl8
      refine Tuple_ (spliced_data (constData_of hc) fun vs tk hs => ?_)
      refine newTuple_N (s := { s with toks := tk }) F N (fun h' F' N' => ?_) (by rw [hs.length, List.length_map, sizeLine_eq]; omega)
      refine h s.heap.objs.size [(s.heap.objs.size, { cls := .type "tuple", data := .seq vs.toArray })] h' tk F' N' ⟨_, vs.toArray, 0, .inr (.head _), rfl, rfl, by simpa using hs⟩
    · cases hl8
  · rename_i n _
    unfold nameT at he
    split at he
    · rename_i hn
      cases he
      obtain ⟨t, h1, h2⟩ := NO.thiele
      subst hn
      exact name_K F X₀ T h1 (h t [] s.heap _ F N (tupC_in h2 |>.mono fun _ hp => nomatch hp)) hk (hl _ (.inl rfl)) (by decide)
    · split at he
      · rename_i hn
        cases he
        obtain ⟨t, h1, h2⟩ := NO.parts
        subst hn
        exact name_K F X₀ T h1 (h t [] s.heap _ F N (tupC_in h2 |>.mono fun _ hp => nomatch hp)) hk (hl _ (.inr rfl)) (by decide)
      · cases he
  · cases he
theorem star_alg {e : Expr} {l : List Str} {r : List Expr} {env : Env} (he : algE e = some l) : starEach (e :: r) env = (false, eval e env) :: starEach r env := by
  unfold algE at he
  split at he
  · rfl
  · rfl
  · cases he
theorem star_row {e : Expr} {x : RowS} {r : List Expr} {env : Env} (he : rowE e = some x) : starEach (e :: r) env = (false, eval e env) :: starEach r env := by
  unfold rowE at he
  split at he
  · rfl
  · cases he
theorem eval_row {s : Shared} {nw : List (Addr × Obj)} {e : Expr} {r : RowS} {Q : Value → Shared → Prop} (he : rowE e = some r) (NO : NamesOk KF) (F : Fr h₀ L s.heap m) (X₀ : KF.In h₀) (T : TopRead p loose mg mb h₀) (N : News h₀ L s.heap nw)
    (hk : scope.kind = .function) (hl : ∀ n, n = Str.ofString "_law_thiele" ∨ n = Str.ofString "_law_parts" → (envOf name scope L a cd).kindOf n = some .globalImplicit)
    (h : ∀ v xs h' tk, Fr h₀ L h' m → News h₀ L h' (xs ++ nw) → RowIs KF (xs ++ nw) v r → Q v { s with heap := h', toks := tk }) :
    wpAny (model prog w) A (eval e (envOf name scope L a cd)) Q E s := by
  unfold rowE at he
  split at he
  · rename_i ca k1 p1 cb k2 p2 ae k k3 p3 k4 pos
    split at he
    · rename_i l' j hal
      cases he
      refine Tuple_ ?_
      show wpAny _ _ (spliced ((false, eval (.Constant (.str ca) k1 p1) (envOf name scope L a cd)) :: (false, eval (.Constant (.str cb) k2 p2) (envOf name scope L a cd)) :: backTo pos (starEach [ae, .Constant (.int (Int.ofNat j)) k3 p3] (envOf name scope L a cd)))) _ _ _
      refine spliced_cons (Constant_str (spliced_cons (Constant_str ?_)))
      rw [star_alg hal]
      show wpAny _ _ (spliced ((false, eval ae (envOf name scope L a cd)) :: (false, eval (.Constant (.int (Int.ofNat j)) k3 p3) (envOf name scope L a cd)) :: [])) _ _ _
      refine spliced_cons (eval_alg (s := { s with toks := s.toks + 1 + 1 }) hal NO F X₀ T N hk hl fun t xs h' tk F' N' tc => ?_)
      refine spliced_cons (wpAny_Constant_int (spliced_nil ?_))
      refine newTuple_N (s := { s with heap := h', toks := tk + 1 }) F' N' (fun h'' F'' N'' => ?_) (by rw [sizeLine_eq]; simp)
      exact h _ ((h'.objs.size, { cls := .type "tuple", data := .seq #[.str ca s.toks, .str cb (s.toks + 1), .ref t, .int (Int.ofNat j) tk] }) :: xs) h'' _ F'' N'' ⟨_, _, _, _, t, rfl, .head _, tc.mono fun p hp => .tail _ hp⟩
    · cases he
  · cases he
theorem spliced_rows {pos : Pos} (NO : NamesOk KF) (X₀ : KF.In h₀) (T : TopRead p loose mg mb h₀) (hk : scope.kind = .function) (hl : ∀ n, n = Str.ofString "_law_thiele" ∨ n = Str.ofString "_law_parts" → (envOf name scope L a cd).kindOf n = some .globalImplicit) :
    ∀ {es : List Expr} {rs : List RowS} {s : Shared} {nw : List (Addr × Obj)} {Q : List Value → Shared → Prop}, rowsE es = some rs → Fr h₀ L s.heap m → News h₀ L s.heap nw →
    (∀ vs xs h' tk, Fr h₀ L h' m → News h₀ L h' (xs ++ nw) → RowsAre KF (xs ++ nw) vs rs → Q vs { s with heap := h', toks := tk }) →
    wpAny (model prog w) A (spliced (backTo pos (starEach es (envOf name scope L a cd)))) Q E s
  | [], rs, s, nw, Q, e, F, N, h => by
    cases e
    exact spliced_nil (h [] [] s.heap s.toks F N .nil)
  | e :: r, rs, s, nw, Q, he, F, N, h => by
    unfold rowsE at he
    split at he
    · rename_i x l h1 h2
      cases he
      rw [star_row h1]
      have hns : ∀ env, backTo pos ((false, eval e env) :: starEach r env) = (false, eval e env) :: backTo pos (starEach r env) := fun _ => rfl
      rw [hns]
      refine spliced_cons (eval_row h1 NO F X₀ T N hk hl fun v xs h' tk F' N' hv => ?_)
      refine spliced_rows NO X₀ T hk hl (s := { s with heap := h', toks := tk }) h2 F' N' fun vs ys h'' tk' F'' N'' hvs => ?_
      refine h (v :: vs) (ys ++ xs) h'' tk' F'' (by rw [List.append_assoc]; exact N'') ?_
      rw [List.append_assoc]
      exact .cons (hv.mono fun p hp => List.mem_append_right _ hp) hvs
    · cases he
theorem list_rows {es : List Expr} {pos : Pos} {rs : List RowS} {s : Shared} {nw : List (Addr × Obj)} {Q : Value → Shared → Prop} (he : rowsE es = some rs) (h100 : rs.length ≤ 100) (NO : NamesOk KF) (F : Fr h₀ L s.heap m) (X₀ : KF.In h₀) (T : TopRead p loose mg mb h₀) (N : News h₀ L s.heap nw)
    (hk : scope.kind = .function) (hl : ∀ n, n = Str.ofString "_law_thiele" ∨ n = Str.ofString "_law_parts" → (envOf name scope L a cd).kindOf n = some .globalImplicit)
    (h : ∀ l vs nw' h' tk, Fr h₀ L h' m → News h₀ L h' ((l, W.listOf vs 0) :: nw') → (∀ p ∈ nw, p ∈ nw') → RowsAre KF nw' vs.toList rs → Q (.ref l) { s with heap := h', toks := tk }) :
    wpAny (model prog w) A (eval (.List es pos) (envOf name scope L a cd)) Q E s := by
  refine List_ (spliced_rows NO X₀ T hk hl he F N fun vs xs h' tk F' N' hvs => ?_)
  refine newList_N (s := { s with heap := h', toks := tk }) F' N' (fun h'' F'' N'' => ?_) (by rw [hvs.length, sizeLine_eq]; omega)
  exact h _ vs.toArray (xs ++ nw) h'' tk F'' N'' (fun p hp => List.mem_append_right _ hp) (by simpa using hvs)
end
noncomputable def namesOkIn (KF : Frag) : Bool := (match nsIn KF mainGlobals (Str.ofString "_law_thiele") with | some (some (.ref t)) => tupIn KF t (thieleT.map PyData.str) | _ => false) && (match nsIn KF mainGlobals (Str.ofString "_law_parts") with | some (some (.ref t)) => tupIn KF t (partsT.map PyData.str) | _ => false)
theorem names_ok {KF : Frag} (h : namesOkIn KF = true) : NamesOk KF := by
  unfold namesOkIn at h
  simp only [Bool.and_eq_true] at h
  refine ⟨?_, ?_⟩
  · have := h.1
    split at this
    · exact ⟨_, ‹_›, this⟩
    · cases this
  · have := h.2
    split at this
    · exact ⟨_, ‹_›, this⟩
    · cases this
theorem law_names (p : Params) : NamesOk (K p) := names_ok (by kernel_rfl)
/-- the display that `_law_rows` gives -/
noncomputable def giveOf : List Stmt → List Expr
  | [.Return (some (.List es _)) _] => es
  | _ => []
noncomputable def rowEs : List Expr := giveOf (bodyOfDef (Str.ofString "_law_rows") P.main.body)
theorem rows_say : rowsE rowEs = some rowT := by kernel_rfl
end
section
open PySem PySem.W PySem.Spec PySem.Calls PyProof.Rows
noncomputable def elseOf : Nat → Stmt → Stmt
  | n + 1, .If _ _ [st] _ => elseOf n st
  | _, st => st
noncomputable def isInl : Stmt ⊕ List Stmt → Bool
  | .inl _ => true
  | .inr _ => false
noncomputable def elseDepth : Nat → Stmt → Nat
  | n + 1, .If _ _ [st] _ => elseDepth n st + 1
  | _, _ => 0
section
variable {prog : Program} {w : World} {A : Around} {E : Value → Shared → Prop} {s : Shared} {h₀ : Heap} {L a : Addr} {m mg mb : Str → Option Value} {nw : List (Addr × Obj)} {name : Str} {scope : Scope} {cd : Value}
theorem if_down {st : Stmt} {Q : Flow → Shared → Prop} {nm : Str} {u1 : Tok} (n : Nat) (e : (Nat.ble 25 (elseDepth 100 st) && isInl (ifGo (Str.ofString "rule_id") nm 40 st)) = true) (e2 : ifGo (Str.ofString "rule_id") nm 40 st = .inl (elseOf n st))
    (F : Fr h₀ L s.heap m) (N : News h₀ L s.heap nw) (hrid : m (Str.ofString "rule_id") = some (.str nm u1)) (hk : scope.kind = .function) (hl2 : (envOf name scope L a cd).kindOf (Str.ofString "rule_id") = some .local)
    (h : ∀ h' tk, Fr h₀ L h' m → News h₀ L h' nw → wpAny (model prog w) A (exec (elseOf n st) (envOf name scope L a cd)) Q E { s with heap := h', toks := tk }) :
    wpAny (model prog w) A (exec st (envOf name scope L a cd)) Q E s := by
  refine if_go hrid hk hl2 (by decide) 40 N F fun h' tk F N => ?_
  rw [e2]
  exact h h' tk F N
end
/-- the body of the n-th arm -/
noncomputable def thenOf : Nat → Stmt → List Stmt
  | 0, .If _ body _ _ => body
  | n + 1, .If _ _ [st] _ => thenOf n st
  | _, _ => []
section
variable {prog : Program} {w : World} {A : Around} {E : Value → Shared → Prop} {s : Shared} {h₀ : Heap} {L a : Addr} {m mg mb : Str → Option Value} {nw : List (Addr × Obj)} {name : Str} {scope : Scope} {cd : Value}
theorem if_in {st : Stmt} {Q : Flow → Shared → Prop} {nm : Str} {u1 : Tok} (n : Nat) (e : (!isInl (ifGo (Str.ofString "rule_id") nm 40 st)) = true) (e2 : ifGo (Str.ofString "rule_id") nm 40 st = .inr (thenOf n st))
    (F : Fr h₀ L s.heap m) (N : News h₀ L s.heap nw) (hrid : m (Str.ofString "rule_id") = some (.str nm u1)) (hk : scope.kind = .function) (hl2 : (envOf name scope L a cd).kindOf (Str.ofString "rule_id") = some .local)
    (h : ∀ h' tk, Fr h₀ L h' m → News h₀ L h' nw → wpAny (model prog w) A (execs (thenOf n st) (envOf name scope L a cd)) Q E { s with heap := h', toks := tk }) :
    wpAny (model prog w) A (exec st (envOf name scope L a cd)) Q E s := by
  refine if_go hrid hk hl2 (by decide) 40 N F fun h' tk F N => ?_
  rw [e2]
  exact h h' tk F N
end
theorem tc_of_strs {KF : Frag} {x : List (Addr × Obj)} {a : Addr} {o : Obj} {vs : Array Value} {n : Nat} {ts : List Str} (h : (a, o) ∈ x) (h1 : o.cls = .type "tuple") (h2 : o.data = .seq vs n) (h3 : StrsAre vs.toList ts) : TupC KF x a (ts.map PyData.str) := by
  refine ⟨o, vs, n, .inr h, h1, h2, ?_⟩
  generalize vs.toList = l at h3
  induction h3 with
  | nil => exact .nil
  | cons y t _ ih => exact .str y t ih
theorem newsPerm3 {h₀ h : Heap} {L : Addr} {l : List (Addr × Obj)} {p q r : Addr × Obj} (N : News h₀ L h l) (h1 : p ∈ l) (h2 : q ∈ l) (h3 : r ∈ l) : News h₀ L h (p :: q :: r :: l) := fun z hz => by
  simp only [List.mem_cons] at hz
  rcases hz with rfl | rfl | rfl | hz
  · exact N _ h1
  · exact N _ h2
  · exact N _ h3
  · exact N _ hz
theorem allNe_of_lt {l : List (Addr × Obj)} {d : Addr} (h : ∀ p ∈ l, p.1 < d) : ∀ p ∈ l, p.1 ≠ d := fun p hp => Nat.ne_of_lt (h p hp)
/-- do two lists of texts and truths agree -/
noncomputable def datEq : List PyData → List PyData → Bool
  | [], [] => true
  | .str a :: r, .str b :: q => a == b && datEq r q
  | .bool a :: r, .bool b :: q => a == b && datEq r q
  | _, _ => false
theorem datEq_eq : ∀ {a b : List PyData}, datEq a b = true → a = b
  | [], [], _ => rfl
  | .str a :: r, .str b :: q, e => by
    unfold datEq at e
    simp only [Bool.and_eq_true, beq_iff_eq] at e
    rw [e.1, datEq_eq e.2]
  | .bool a :: r, .bool b :: q, e => by
    unfold datEq at e
    simp only [Bool.and_eq_true, beq_iff_eq] at e
    rw [e.1, datEq_eq e.2]
noncomputable def waysT : Nat → List PyData
  | 0 => [.bool false, .bool true]
  | 1 => [.bool true, .bool false]
  | _ => [.bool true]
noncomputable def veSays (ds : List PyData) : VE → Bool
  | .tup l => datEq l ds
  | .cls y => (y == Str.ofString "_THIELE_ALGORITHMS" && datEq ds (thieleT.map PyData.str)) || (y == Str.ofString "_RESOLUTE_VALUES_FOR_OPTIMIZATION_BASED_RULES" && datEq ds [.bool false, .bool true]) || (y == Str.ofString "_RESOLUTE_VALUES_FOR_SEQUENTIAL_RULES" && datEq ds [.bool true, .bool false])
theorem ve_good {p : Params} {ds : List PyData} {v : VE} (h : veSays ds v = true) : VEgood (K p) 355 ds v := by
  cases v with
  | tup l => exact datEq_eq h
  | cls y =>
    unfold veSays at h
    simp only [Bool.or_eq_true, Bool.and_eq_true, beq_iff_eq] at h
    rcases h with (⟨rfl, h⟩ | ⟨rfl, h⟩) | ⟨rfl, h⟩
    · rw [datEq_eq h]; exact ⟨cls_thiele p, .inl rfl⟩
    · rw [datEq_eq h]; exact ⟨cls_opt p, .inr (.inl rfl)⟩
    · rw [datEq_eq h]; exact ⟨cls_seq p, .inr (.inr rfl)⟩
noncomputable def okRow (r : RowS) : Bool := match ifGo (Str.ofString "rule_id") r.name 40 ruleIf with
  | .inr l => (match fourOf l with
    | some (c, _, v3, v4) => c == r.short && veSays (r.algs.map PyData.str) v3 && veSays (waysT r.kind) v4 && Nat.ble r.algs.length 8
    | none => false)
  | .inl _ => false
theorem ok_row {p : Params} {r : RowS} (h : okRow r = true) : ∃ l c2 v3 v4, ifGo (Str.ofString "rule_id") r.name 40 ruleIf = .inr l ∧ fourOf l = some (r.short, c2, v3, v4) ∧ VEgood (K p) 355 (r.algs.map PyData.str) v3 ∧ VEgood (K p) 355 (waysT r.kind) v4 ∧ r.algs.length ≤ 8 := by
  unfold okRow at h
  split at h
  · rename_i l hl
    split at h
    · rename_i c c2 v3 v4 hf
      simp only [Bool.and_eq_true, beq_iff_eq] at h
      obtain ⟨⟨⟨h1, h2⟩, h3⟩, h4⟩ := h
      exact ⟨l, c2, v3, v4, hl, by rw [hf, h1], ve_good h2, ve_good h3, Nat.le_of_ble_eq_true h4⟩
    · cases h
  · cases h
theorem ok_rows : (rowT.take 29).all okRow = true := by kernel_rfl
theorem tup_thiele (p : Params) (x : List (Addr × Obj)) : TupC (K p) x 328 (thieleT.map PyData.str) := (tupC_in (by kernel_rfl)).mono (fun _ hp => nomatch hp)
theorem tup_opt (p : Params) (x : List (Addr × Obj)) : TupC (K p) x 329 (waysT 0) := (tupC_in (by kernel_rfl)).mono (fun _ hp => nomatch hp)
theorem tup_seq (p : Params) (x : List (Addr × Obj)) : TupC (K p) x 330 (waysT 1) := (tupC_in (by kernel_rfl)).mono (fun _ hp => nomatch hp)
end
section
set_option maxHeartbeats 0
theorem two_names {env : Env} {a b : Str} {r : Option NameKind} (h1 : env.kindOf a = r) (h2 : env.kindOf b = r) : ∀ n, n = a ∨ n = b → env.kindOf n = r := by
  rintro n (rfl | rfl)
  · exact h1
  · exact h2
local macro_rules | `(tactic| k_mem) => `(tactic| assumption)
local macro_rules | `(tactic| walk_at "eval List") => `(tactic| (k_here; k_dflt (refine' list_rows (rs := rowT) ?he ?h1 ?NO ?F ?X ?T ?N ?hk ?hl ?_; (case F => k_asm); (case N => k_asm); (case X => k_asm); (case T => k_asm); (case he => kernel_rfl); (case h1 => decide +kernel); (case NO => exact law_names _); (case hk => rfl); (case hl => exact two_names rfl rfl)); intro l vs nw' h' tk F' hsub N' hrows))
set_option hygiene false in
local macro_rules | `(tactic| wrow_close) => `(tactic| (refine' hret _ _ _ _ _ ?F ?N ?hs ?hr; (case F => k_asm); (case N => k_asm); (case hs => assumption); (case hr => assumption)))
theorem c_rows (w : World) (b : Heap) (mean : ExcName → Option Value) (mg mb : Str → Option Value) (fn : Str) (nms : List (Str × NameKind)) (mr : List (Str × Const)) (L fa : Addr) (cd : Value)
    (s : Shared) (m : Str → Option Value) (nw : List (Addr × Obj)) (E Q : Value → Shared → Prop)
    (K0 : Below callerA b [] b) (F : Fr b L s.heap m) (N : News b L s.heap nw) (KX : (K w.params).In b) (T : Top vw lse mean mg mb b)
    (hret : ∀ h' tk l vs nw', Fr b L h' m → News b L h' ((l, W.listOf vs 0) :: nw') → (∀ p ∈ nw, p ∈ nw') → RowsAre (K w.params) nw' vs.toList rowT → Q (.ref l) { s with heap := h', toks := tk }) :
    wpAny (model P w) (callerA.deeper (lawEnv fn nms mr L fa cd)) (call (.ref 612) []) Q E s := by
  delta lawEnv K lse P at *
  revert KX
  k_fill
  intro KX
  show wpAny _ _ _ _ _ _
  k_steps
  all_goals trace_state
  all_goals w_report
end
section
set_option maxHeartbeats 1500000
theorem c_rule_rcc (w : World) (b : Heap) (mean : ExcName → Option Value) (mg mb : Str → Option Value) (fn : Str) (nms : List (Str × NameKind)) (mr : List (Str × Const)) (L fa : Addr) (cd : Value)
    (s : Shared) (m : Str → Option Value) (nw : List (Addr × Obj)) (E Q : Value → Shared → Prop)
    (K0 : Below callerA b [] b) (F : Fr b L s.heap m) (N : News b L s.heap nw) (KX : (K w.params).In b) (T : Top vw lse mean mg mb b)
    (t1 : Tok)
    (hret : ∀ h' tk r rd aa wa al its n nw' c2 k1 k2 k3 k4 k5 k6 u1 u2 u3, Fr b L h' m → News b L h' ((r, instObj 355 rd) :: (rd, dictOf [ent w "rule_id" k1 (.str (Str.ofString "revseqcc") u1), ent w "shortname" k2 (.str (Str.ofString "revseq-CC") u2), ent w "longname" k3 (.str c2 u3), ent w "algorithms" k4 (.ref aa), ent w "resolute_values" k5 (.ref wa), ent w "available_algorithms" k6 (.ref al)] 6) :: (al, W.listOf its n) :: nw') →
      (∀ p ∈ nw, p ∈ nw') → TupC (K w.params) nw' aa ([Str.ofString "standard"].map PyData.str) → TupC (K w.params) nw' wa (waysT 1) → StrsAre its.toList ([Str.ofString "standard"].filter fun y => thereT.any (· == y)) → Q (.ref r) { s with heap := h', toks := tk }) :
    wpAny (model P w) (callerA.deeper (lawEnv fn nms mr L fa cd)) (call (.ref 355) [.str (Str.ofString "revseqcc") t1]) Q E s := by
  delta lawEnv K lse P ent at *
  revert KX
  k_fill
  intro KX
  show wpAny _ _ _ _ _ _
  repeat' (first | (k_unfold; (try dsimp only)) | (k_end; (refine' hret _ _ _ _ _ _ _ _ _ _ _ _ _ _ _ _ _ _ _ _ ?Fzc ?Nzc ?hszc ?tczc ?tcqzc ?hizc; (case Fzc => k_asm); (case Nzc => refine' newsPerm3 ?nzc ?q1zc ?q2zc ?q3zc; (case nzc => k_asm); (case q1zc => k_mem); (case q2zc => k_mem); (case q3zc => k_mem)); (case hszc => (intro p hp; (repeat (first | exact hp | refine List.Mem.tail _ ?_)))); (case tczc => refine' tc_of_strs ?tmzc ?tpzc ?tdzc ?tszc; (case tmzc => k_mem); (case tpzc => rfl); (case tdzc => rfl); (case tszc => exact .cons _ _ .nil)); (case tcqzc => exact tup_seq _ _); (case hizc => assumption))) | ((with_reducible show wpAny _ _ (exec (Stmt.If _ _ _ _) _) _ _ _); (k_dflt (refine' if_in 4 ?ez0 ?e2z0 ?Fz0 ?Nz0 ?hrz0 ?hkz0 ?hl2z0 ?_; (case Fz0 => k_asm); (case Nz0 => k_asm); (case hrz0 => exact rfl); (case ez0 => decide +kernel); (case e2z0 => kernel_rfl); (case hkz0 => rfl); (case hl2z0 => rfl)); intro h' tk F' N'; dsimp only [thenOf])) | ((with_reducible show wpAny _ _ (exec (Stmt.For _ _ _ _ _) _) _ _ _); (k_dflt (refine' avail_loop (ga := 426) (there := thereT) rfl ?Fz1 ?Xz1 ?Tz1 ?Nz1 ?Uz1 ?xmz1 ?dmz1 ?hxz1 ?hdz1 ?hsz1 ?tcz1 ?h8z1 ?hgz1 ?hgaz1 ?G1z1 ?G2z1 ?G3z1 ?G4z1 ?G5z1 ?hkz1 ?hlz1 ?hl2z1 ?hl3z1 ?hEz1 ?hez1 ?_; (case Fz1 => k_asm); (case hsz1 => exact rfl); (case Nz1 => k_asm); (case Xz1 => k_asm); (case Tz1 => k_asm); (case xmz1 => k_mem); (case dmz1 => k_mem); (case Uz1 => k_updF); (case hxz1 => k_ne); (case hdz1 => k_ne); (case tcz1 => refine' tc_of_strs ?tmz1 ?tpz1 ?tdz1 ?tsz1; (case tmz1 => k_mem); (case tpz1 => rfl); (case tdz1 => rfl); (case tsz1 => repeat constructor)); (case h8z1 => decide); (case hgz1 => kernel_rfl); (case hgaz1 => exact there_in _); (case G1z1 => kernel_rfl); (case G2z1 => kernel_rfl); (case G3z1 => kernel_rfl); (case G4z1 => kernel_rfl); (case G5z1 => kernel_rfl); (case hkz1 => rfl); (case hlz1 => rfl); (case hl2z1 => rfl); (case hl3z1 => rfl); (case hEz1 => passes_own); (case hez1 => with_unfolding_all rfl)); intro h' tk m' its n' F' N' hits; dsimp only at N')) | ((with_reducible show wpAny _ _ (exec (Stmt.For _ _ _ _ _) _) _ _ _); (k_dflt (refine' avail_loop (ga := 426) (there := thereT) (ts := thieleT) rfl ?Fz2 ?Xz2 ?Tz2 ?Nz2 ?Uz2 ?xmz2 ?dmz2 ?hxz2 ?hdz2 ?hsz2 ?tcz2 ?h8z2 ?hgz2 ?hgaz2 ?G1z2 ?G2z2 ?G3z2 ?G4z2 ?G5z2 ?hkz2 ?hlz2 ?hl2z2 ?hl3z2 ?hEz2 ?hez2 ?_; (case Fz2 => k_asm); (case hsz2 => exact rfl); (case Nz2 => k_asm); (case Xz2 => k_asm); (case Tz2 => k_asm); (case xmz2 => k_mem); (case dmz2 => k_mem); (case Uz2 => k_updF); (case hxz2 => k_ne); (case hdz2 => k_ne); (case tcz2 => exact tup_thiele _ _); (case h8z2 => decide); (case hgz2 => kernel_rfl); (case hgaz2 => exact there_in _); (case G1z2 => kernel_rfl); (case G2z2 => kernel_rfl); (case G3z2 => kernel_rfl); (case G4z2 => kernel_rfl); (case G5z2 => kernel_rfl); (case hkz2 => rfl); (case hlz2 => rfl); (case hl2z2 => rfl); (case hl3z2 => rfl); (case hEz2 => passes_own); (case hez2 => with_unfolding_all rfl)); intro h' tk m' its n' F' N' hits; dsimp only at N')) | ((with_reducible show wpAny _ _ (exec (Stmt.If _ _ _ _) _) _ _ _); (k_dflt (refine' if_down 28 ?ez3 ?e2z3 ?Fz3 ?Nz3 ?hrz3 ?hkz3 ?hl2z3 ?_; (case Fz3 => k_asm); (case Nz3 => k_asm); (case hrz3 => exact rfl); (case ez3 => decide +kernel); (case e2z3 => kernel_rfl); (case hkz3 => rfl); (case hl2z3 => rfl)); intro h' tk F' N'; dsimp only [elseOf])) | walk1 | (dsimp only; (first | ((with_reducible show wpAny _ _ (exec (Stmt.If _ _ _ _) _) _ _ _); (k_dflt (refine' if_in 4 ?ez0 ?e2z0 ?Fz0 ?Nz0 ?hrz0 ?hkz0 ?hl2z0 ?_; (case Fz0 => k_asm); (case Nz0 => k_asm); (case hrz0 => exact rfl); (case ez0 => decide +kernel); (case e2z0 => kernel_rfl); (case hkz0 => rfl); (case hl2z0 => rfl)); intro h' tk F' N'; dsimp only [thenOf])) | ((with_reducible show wpAny _ _ (exec (Stmt.For _ _ _ _ _) _) _ _ _); (k_dflt (refine' avail_loop (ga := 426) (there := thereT) rfl ?Fz1 ?Xz1 ?Tz1 ?Nz1 ?Uz1 ?xmz1 ?dmz1 ?hxz1 ?hdz1 ?hsz1 ?tcz1 ?h8z1 ?hgz1 ?hgaz1 ?G1z1 ?G2z1 ?G3z1 ?G4z1 ?G5z1 ?hkz1 ?hlz1 ?hl2z1 ?hl3z1 ?hEz1 ?hez1 ?_; (case Fz1 => k_asm); (case hsz1 => exact rfl); (case Nz1 => k_asm); (case Xz1 => k_asm); (case Tz1 => k_asm); (case xmz1 => k_mem); (case dmz1 => k_mem); (case Uz1 => k_updF); (case hxz1 => k_ne); (case hdz1 => k_ne); (case tcz1 => refine' tc_of_strs ?tmz1 ?tpz1 ?tdz1 ?tsz1; (case tmz1 => k_mem); (case tpz1 => rfl); (case tdz1 => rfl); (case tsz1 => repeat constructor)); (case h8z1 => decide); (case hgz1 => kernel_rfl); (case hgaz1 => exact there_in _); (case G1z1 => kernel_rfl); (case G2z1 => kernel_rfl); (case G3z1 => kernel_rfl); (case G4z1 => kernel_rfl); (case G5z1 => kernel_rfl); (case hkz1 => rfl); (case hlz1 => rfl); (case hl2z1 => rfl); (case hl3z1 => rfl); (case hEz1 => passes_own); (case hez1 => with_unfolding_all rfl)); intro h' tk m' its n' F' N' hits; dsimp only at N')) | ((with_reducible show wpAny _ _ (exec (Stmt.For _ _ _ _ _) _) _ _ _); (k_dflt (refine' avail_loop (ga := 426) (there := thereT) (ts := thieleT) rfl ?Fz2 ?Xz2 ?Tz2 ?Nz2 ?Uz2 ?xmz2 ?dmz2 ?hxz2 ?hdz2 ?hsz2 ?tcz2 ?h8z2 ?hgz2 ?hgaz2 ?G1z2 ?G2z2 ?G3z2 ?G4z2 ?G5z2 ?hkz2 ?hlz2 ?hl2z2 ?hl3z2 ?hEz2 ?hez2 ?_; (case Fz2 => k_asm); (case hsz2 => exact rfl); (case Nz2 => k_asm); (case Xz2 => k_asm); (case Tz2 => k_asm); (case xmz2 => k_mem); (case dmz2 => k_mem); (case Uz2 => k_updF); (case hxz2 => k_ne); (case hdz2 => k_ne); (case tcz2 => exact tup_thiele _ _); (case h8z2 => decide); (case hgz2 => kernel_rfl); (case hgaz2 => exact there_in _); (case G1z2 => kernel_rfl); (case G2z2 => kernel_rfl); (case G3z2 => kernel_rfl); (case G4z2 => kernel_rfl); (case G5z2 => kernel_rfl); (case hkz2 => rfl); (case hlz2 => rfl); (case hl2z2 => rfl); (case hl3z2 => rfl); (case hEz2 => passes_own); (case hez2 => with_unfolding_all rfl)); intro h' tk m' its n' F' N' hits; dsimp only at N')) | ((with_reducible show wpAny _ _ (exec (Stmt.If _ _ _ _) _) _ _ _); (k_dflt (refine' if_down 28 ?ez3 ?e2z3 ?Fz3 ?Nz3 ?hrz3 ?hkz3 ?hl2z3 ?_; (case Fz3 => k_asm); (case Nz3 => k_asm); (case hrz3 => exact rfl); (case ez3 => decide +kernel); (case e2z3 => kernel_rfl); (case hkz3 => rfl); (case hl2z3 => rfl)); intro h' tk F' N'; dsimp only [elseOf])) | walk1)) | (leave1; try dsimp only) | fail)
  all_goals trace_state
  all_goals w_report
end
section
local macro_rules | `(tactic| walk_at "pad") => `(tactic| fail)
set_option maxHeartbeats 1500000
theorem c_rule_sg (w : World) (b : Heap) (mean : ExcName → Option Value) (mg mb : Str → Option Value) (fn : Str) (nms : List (Str × NameKind)) (mr : List (Str × Const)) (L fa : Addr) (cd : Value)
    (s : Shared) (m : Str → Option Value) (nw : List (Addr × Obj)) (E Q : Value → Shared → Prop)
    (K0 : Below callerA b [] b) (F : Fr b L s.heap m) (N : News b L s.heap nw) (KX : (K w.params).In b) (T : Top vw lse mean mg mb b)
    (t1 : Tok)
    (hret : ∀ h' tk r rd aa wa al its n nw' c2 k1 k2 k3 k4 k5 k6 u1 u2 u3, Fr b L h' m → News b L h' ((r, instObj 355 rd) :: (rd, dictOf [ent w "rule_id" k1 (.str (Str.ofString "seqgeom3") u1), ent w "shortname" k2 (.str (Str.ofString "seq-3-Geometric") u2), ent w "longname" k3 (.str c2 u3), ent w "algorithms" k4 (.ref aa), ent w "resolute_values" k5 (.ref wa), ent w "available_algorithms" k6 (.ref al)] 6) :: (al, W.listOf its n) :: nw') →
      (∀ p ∈ nw, p ∈ nw') → TupC (K w.params) nw' aa ([Str.ofString "standard"].map PyData.str) → TupC (K w.params) nw' wa (waysT 1) → StrsAre its.toList ([Str.ofString "standard"].filter fun y => thereT.any (· == y)) → Q (.ref r) { s with heap := h', toks := tk }) :
    wpAny (model P w) (callerA.deeper (lawEnv fn nms mr L fa cd)) (call (.ref 355) [.str (Str.ofString "seqgeom3") t1]) Q E s := by
  delta lawEnv K lse P ent at *
  revert KX
  k_fill
  intro KX
  show wpAny _ _ _ _ _ _
  repeat' (first | (k_unfold; (try dsimp only)) | (k_end; (refine' hret _ _ _ _ _ _ _ _ _ _ _ _ _ _ _ _ _ _ _ _ ?Fzc ?Nzc ?hszc ?tczc ?tcqzc ?hizc; (case Fzc => k_asm); (case Nzc => refine' newsPerm3 ?nzc ?q1zc ?q2zc ?q3zc; (case nzc => k_asm); (case q1zc => k_mem); (case q2zc => k_mem); (case q3zc => k_mem)); (case hszc => (intro p hp; (repeat (first | exact hp | refine List.Mem.tail _ ?_)))); (case tczc => refine' tc_of_strs ?tmzc ?tpzc ?tdzc ?tszc; (case tmzc => k_mem); (case tpzc => rfl); (case tdzc => rfl); (case tszc => exact .cons _ _ .nil)); (case tcqzc => exact tup_seq _ _); (case hizc => assumption))) | ((with_reducible show wpAny _ _ (exec (Stmt.If _ _ _ _) _) _ _ _); (k_dflt (refine' if_in 4 ?ez0 ?e2z0 ?Fz0 ?Nz0 ?hrz0 ?hkz0 ?hl2z0 ?_; (case Fz0 => k_asm); (case Nz0 => k_asm); (case hrz0 => exact rfl); (case ez0 => decide +kernel); (case e2z0 => kernel_rfl); (case hkz0 => rfl); (case hl2z0 => rfl)); intro h' tk F' N'; dsimp only [thenOf])) | ((with_reducible show wpAny _ _ (exec (Stmt.For _ _ _ _ _) _) _ _ _); (k_dflt (refine' avail_loop (ga := 426) (there := thereT) rfl ?Fz1 ?Xz1 ?Tz1 ?Nz1 ?Uz1 ?xmz1 ?dmz1 ?hxz1 ?hdz1 ?hsz1 ?tcz1 ?h8z1 ?hgz1 ?hgaz1 ?G1z1 ?G2z1 ?G3z1 ?G4z1 ?G5z1 ?hkz1 ?hlz1 ?hl2z1 ?hl3z1 ?hEz1 ?hez1 ?_; (case Fz1 => k_asm); (case hsz1 => exact rfl); (case Nz1 => k_asm); (case Xz1 => k_asm); (case Tz1 => k_asm); (case xmz1 => k_mem); (case dmz1 => k_mem); (case Uz1 => k_updF); (case hxz1 => k_ne); (case hdz1 => k_ne); (case tcz1 => refine' tc_of_strs ?tmz1 ?tpz1 ?tdz1 ?tsz1; (case tmz1 => k_mem); (case tpz1 => rfl); (case tdz1 => rfl); (case tsz1 => repeat constructor)); (case h8z1 => decide); (case hgz1 => kernel_rfl); (case hgaz1 => exact there_in _); (case G1z1 => kernel_rfl); (case G2z1 => kernel_rfl); (case G3z1 => kernel_rfl); (case G4z1 => kernel_rfl); (case G5z1 => kernel_rfl); (case hkz1 => rfl); (case hlz1 => rfl); (case hl2z1 => rfl); (case hl3z1 => rfl); (case hEz1 => passes_own); (case hez1 => with_unfolding_all rfl)); intro h' tk m' its n' F' N' hits; dsimp only at N')) | ((with_reducible show wpAny _ _ (exec (Stmt.For _ _ _ _ _) _) _ _ _); (k_dflt (refine' avail_loop (ga := 426) (there := thereT) (ts := thieleT) rfl ?Fz2 ?Xz2 ?Tz2 ?Nz2 ?Uz2 ?xmz2 ?dmz2 ?hxz2 ?hdz2 ?hsz2 ?tcz2 ?h8z2 ?hgz2 ?hgaz2 ?G1z2 ?G2z2 ?G3z2 ?G4z2 ?G5z2 ?hkz2 ?hlz2 ?hl2z2 ?hl3z2 ?hEz2 ?hez2 ?_; (case Fz2 => k_asm); (case hsz2 => exact rfl); (case Nz2 => k_asm); (case Xz2 => k_asm); (case Tz2 => k_asm); (case xmz2 => k_mem); (case dmz2 => k_mem); (case Uz2 => k_updF); (case hxz2 => k_ne); (case hdz2 => k_ne); (case tcz2 => exact tup_thiele _ _); (case h8z2 => decide); (case hgz2 => kernel_rfl); (case hgaz2 => exact there_in _); (case G1z2 => kernel_rfl); (case G2z2 => kernel_rfl); (case G3z2 => kernel_rfl); (case G4z2 => kernel_rfl); (case G5z2 => kernel_rfl); (case hkz2 => rfl); (case hlz2 => rfl); (case hl2z2 => rfl); (case hl3z2 => rfl); (case hEz2 => passes_own); (case hez2 => with_unfolding_all rfl)); intro h' tk m' its n' F' N' hits; dsimp only at N')) | ((with_reducible show wpAny _ _ (exec (Stmt.If _ _ _ _) _) _ _ _); (k_dflt (refine' if_down 28 ?ez3 ?e2z3 ?Fz3 ?Nz3 ?hrz3 ?hkz3 ?hl2z3 ?_; (case Fz3 => k_asm); (case Nz3 => k_asm); (case hrz3 => exact rfl); (case ez3 => decide +kernel); (case e2z3 => kernel_rfl); (case hkz3 => rfl); (case hl2z3 => rfl)); intro h' tk F' N'; dsimp only [elseOf])) | ((with_reducible show wpAny _ _ (call (Value.type _) _ _) _ _ _); (k_dflt (refine' call_partialK ?Fz4 ?Xz4 ?Nz4 ?hfz4 ?_; (case Fz4 => k_asm); (case Xz4 => k_asm); (case Nz4 => k_asm); (case hfz4 => kernel_rfl)); intro p' h' tk F' N')) | ((with_reducible show wpAny _ _ (callWith _ (Value.type _) _ _ _) _ _ _); (k_dflt (refine' callWith_TK ?hallz5 ?_; (case hallz5 => rfl)))) | walk1 | (dsimp only; (first | ((with_reducible show wpAny _ _ (exec (Stmt.If _ _ _ _) _) _ _ _); (k_dflt (refine' if_in 4 ?ez0 ?e2z0 ?Fz0 ?Nz0 ?hrz0 ?hkz0 ?hl2z0 ?_; (case Fz0 => k_asm); (case Nz0 => k_asm); (case hrz0 => exact rfl); (case ez0 => decide +kernel); (case e2z0 => kernel_rfl); (case hkz0 => rfl); (case hl2z0 => rfl)); intro h' tk F' N'; dsimp only [thenOf])) | ((with_reducible show wpAny _ _ (exec (Stmt.For _ _ _ _ _) _) _ _ _); (k_dflt (refine' avail_loop (ga := 426) (there := thereT) rfl ?Fz1 ?Xz1 ?Tz1 ?Nz1 ?Uz1 ?xmz1 ?dmz1 ?hxz1 ?hdz1 ?hsz1 ?tcz1 ?h8z1 ?hgz1 ?hgaz1 ?G1z1 ?G2z1 ?G3z1 ?G4z1 ?G5z1 ?hkz1 ?hlz1 ?hl2z1 ?hl3z1 ?hEz1 ?hez1 ?_; (case Fz1 => k_asm); (case hsz1 => exact rfl); (case Nz1 => k_asm); (case Xz1 => k_asm); (case Tz1 => k_asm); (case xmz1 => k_mem); (case dmz1 => k_mem); (case Uz1 => k_updF); (case hxz1 => k_ne); (case hdz1 => k_ne); (case tcz1 => refine' tc_of_strs ?tmz1 ?tpz1 ?tdz1 ?tsz1; (case tmz1 => k_mem); (case tpz1 => rfl); (case tdz1 => rfl); (case tsz1 => repeat constructor)); (case h8z1 => decide); (case hgz1 => kernel_rfl); (case hgaz1 => exact there_in _); (case G1z1 => kernel_rfl); (case G2z1 => kernel_rfl); (case G3z1 => kernel_rfl); (case G4z1 => kernel_rfl); (case G5z1 => kernel_rfl); (case hkz1 => rfl); (case hlz1 => rfl); (case hl2z1 => rfl); (case hl3z1 => rfl); (case hEz1 => passes_own); (case hez1 => with_unfolding_all rfl)); intro h' tk m' its n' F' N' hits; dsimp only at N')) | ((with_reducible show wpAny _ _ (exec (Stmt.For _ _ _ _ _) _) _ _ _); (k_dflt (refine' avail_loop (ga := 426) (there := thereT) (ts := thieleT) rfl ?Fz2 ?Xz2 ?Tz2 ?Nz2 ?Uz2 ?xmz2 ?dmz2 ?hxz2 ?hdz2 ?hsz2 ?tcz2 ?h8z2 ?hgz2 ?hgaz2 ?G1z2 ?G2z2 ?G3z2 ?G4z2 ?G5z2 ?hkz2 ?hlz2 ?hl2z2 ?hl3z2 ?hEz2 ?hez2 ?_; (case Fz2 => k_asm); (case hsz2 => exact rfl); (case Nz2 => k_asm); (case Xz2 => k_asm); (case Tz2 => k_asm); (case xmz2 => k_mem); (case dmz2 => k_mem); (case Uz2 => k_updF); (case hxz2 => k_ne); (case hdz2 => k_ne); (case tcz2 => exact tup_thiele _ _); (case h8z2 => decide); (case hgz2 => kernel_rfl); (case hgaz2 => exact there_in _); (case G1z2 => kernel_rfl); (case G2z2 => kernel_rfl); (case G3z2 => kernel_rfl); (case G4z2 => kernel_rfl); (case G5z2 => kernel_rfl); (case hkz2 => rfl); (case hlz2 => rfl); (case hl2z2 => rfl); (case hl3z2 => rfl); (case hEz2 => passes_own); (case hez2 => with_unfolding_all rfl)); intro h' tk m' its n' F' N' hits; dsimp only at N')) | ((with_reducible show wpAny _ _ (exec (Stmt.If _ _ _ _) _) _ _ _); (k_dflt (refine' if_down 28 ?ez3 ?e2z3 ?Fz3 ?Nz3 ?hrz3 ?hkz3 ?hl2z3 ?_; (case Fz3 => k_asm); (case Nz3 => k_asm); (case hrz3 => exact rfl); (case ez3 => decide +kernel); (case e2z3 => kernel_rfl); (case hkz3 => rfl); (case hl2z3 => rfl)); intro h' tk F' N'; dsimp only [elseOf])) | ((with_reducible show wpAny _ _ (call (Value.type _) _ _) _ _ _); (k_dflt (refine' call_partialK ?Fz4 ?Xz4 ?Nz4 ?hfz4 ?_; (case Fz4 => k_asm); (case Xz4 => k_asm); (case Nz4 => k_asm); (case hfz4 => kernel_rfl)); intro p' h' tk F' N')) | ((with_reducible show wpAny _ _ (callWith _ (Value.type _) _ _ _) _ _ _); (k_dflt (refine' callWith_TK ?hallz5 ?_; (case hallz5 => rfl)))) | walk1)) | (leave1; try dsimp only) | fail)
  all_goals trace_state
  all_goals w_report
end
section
set_option maxHeartbeats 2000000
theorem allLt_ne {d : Addr} {l : List (Addr × Obj)} (h : AllLt d l) : ∀ p ∈ l, p.1 ≠ d := by
  induction l with
  | nil => exact fun p hp => nomatch hp
  | cons a r ih =>
    intro p hp
    rcases List.mem_cons.mp hp with rfl | hp
    · exact Nat.ne_of_lt h.1
    · exact ih h.2 p hp
local macro_rules | `(tactic| walk_at "CompSrc") => `(tactic| refine stop_of ?_)
theorem c_profile (w : World) (b : Heap) (mean : ExcName → Option Value) (mg mb : Str → Option Value) (fn : Str) (nms : List (Str × NameKind)) (mr : List (Str × Const)) (L fa : Addr) (cd : Value)
    (s : Shared) (m : Str → Option Value) (nw : List (Addr × Obj)) (E Q : Value → Shared → Prop)
    (K0 : Below callerA b [] b) (F : Fr b L s.heap m) (N : News b L s.heap nw) (KX : (K w.params).In b) (T : Top vw lse mean mg mb b)
    (mm : Int) (u : Tok) (m1 : 1 ≤ mm) (m4 : mm ≤ 4)
    (hret : ∀ h' tk pa pd ca cn va k1 k2 k3 cis n1 nw', Fr b L h' m → News b L h' ((va, W.listOf #[] 0) :: nw') → (pa, instObj 562 pd) ∈ nw' → (pd, dictOf [ent w "candidates" k1 (.ref ca), ent w "cand_names" k2 cn, ent w "_voters" k3 (.ref va)] 3) ∈ nw' → (ca, W.listOf cis n1) ∈ nw' → (∀ p ∈ nw', p.1 ≠ va) → (∀ p ∈ nw, p ∈ nw') → (cis.size : Int) = mm → Q (.ref pa) { s with heap := h', toks := tk }) :
    wpAny (model P w) (callerA.deeper (lawEnv fn nms mr L fa cd)) (call (.ref 562) [.int mm u]) Q E s := by
  delta lawEnv K lse P ent at *
  revert KX
  k_fill
  intro KX
  show wpAny _ _ _ _ _ _
  k_steps
  show LCg.CompSrc _ _ _ _ _ _ _ _ _ _ _ _ _ _
  k_dflt (refine LCg.CompSrc.range (by rfl) (by k_asm) (by k_asm) (by assumption) (by first | decide | exact small_one (by l_bnd) (by l_bnd) (by l_bnd) (by l_bnd)) (by exact rangeSize_nat _ _) (by rw [PySem.sizeLine_eq]; omega) ?_)
  intro g'
  refine' kct_range (fun k => Str.ofString (toString k)) (fun k' t' I' oI' C' oC' D' m' ys' h' tk' E' hlo' hhi' hC' hx' F' N' off' ne' mk' => ?_) ?_
  · k_steps
    exact LCg.CompEnd.intro (by assumption) N' _ (fun _ hp => hp) off' trivial ⟨rfl, _, rfl⟩
  · k_steps
    rename_i l1 hh F1 N1 kF kN Tc kX
    refine hret _ _ _ _ _ _ _ _ _ _ _ _ _ kF kN (.tail _ (.tail _ (.tail _ (.head _)))) (.tail _ (.tail _ (.tail _ (.tail _ (.head _))))) (.tail _ (.head _)) (allLt_ne l1) (fun p hp => .tail _ (.tail _ (.tail _ (.tail _ (.tail _ hp))))) ?_
    have := rangeKs_length 0 (mm - 0).toNat
    simp only [List.size_toArray]
    omega
end
section
open PySem PySem.W PySem.Spec PySem.Calls PyProof.Rows Builtin
set_option maxHeartbeats 4000000
/-- all that the table's code says of itself -/
structure CodeOk (h : Heap) (c P : Addr) : Prop where
  code : ∀ ps : Array Value, TriplesOk ps.toList → ∀ h' : Heap, (∀ o, h.get? c = some o → h'.get? c = some o) → h'.get? P = some { cls := .none, data := .fields ps } → h'.IsCode c P ps ∧ h'.TableAt c P ps
  ne : c ≠ P
/-- what the generator hands out: the one word -/
noncomputable abbrev GenF (b : Bool) : Nat → Value → Prop := fun j r => ∃ i, (passing (fun _ => true) 1 0)[j]? = some i ∧ r = .bool b
section
variable {prog : Program} {w : World} {A : Around} {E : Value → Shared → Prop} {s : Shared} {h₀ : Heap} {L a P cda l bm : Addr} {m mg : Str → Option Value} {news rest : List (Addr × Obj)} {cn : Str} {cs : Scope} {cells : List (Str × Addr)} {ps : Array Value} {ob lo : Obj}
theorem gen_K {elt : Expr} {x y : Str} {px py pos : Pos} {gscope : Scope} {cl : List (Str × Addr)} {v : Value} {n : Nat} {b : Bool} {Q : Value → Shared → Prop}
    (F : Fr h₀ L s.heap m) (N : News h₀ L s.heap news) (G : AllBare s.gens) (hlim : h₀.NoLimit) (M : BMod h₀ mainGlobals mg bm ob) (ok : CodeOk h₀ cda P)
    (hP : (P, ({ cls := .none, data := .fields ps } : Obj)) ∈ news) (htr : TriplesOk ps.toList) (hnf : codeAmong pos ps.toList = none) (hrest : ∀ p ∈ rest, p ∈ news ∧ p.1 ≠ P)
    (hl : (l, lo) ∈ news) (hlc : lo.cls = .type "list") (hld : lo.data = .seq #[v] n) (hv : m y = some (.ref l))
    (hh : A.handled = none) (hroom : A.depth < recursionLimit) (hco : gscope.isCoroutine = false) (hclos : closureFor gscope (envX cn cs L a (.ref cda) cells) = pure cl) (hcell : ∀ z ∈ gscope.names, z.2 ≠ .cell)
    (h0 : gscope.names.lookup (".0" : Str) = some NameKind.local) (hx : gscope.names.lookup x = some .local) (hkind : gscope.kind = .function) (hk : cs.kind = .function) (hy : (envX cn cs L a (.ref cda) cells).kindOf y = some .local)
    (helt : ∀ (A' : Around) E' (s₂ : Shared) m₂ C code, A'.handled = none → s₂.heap.Ns C m₂ → m₂ x = some v → (∀ p ∈ rest, s₂.heap.get? p.1 = some p.2) →
      wpAny (model prog w) A' (eval elt (genEnv gscope cl C code builtinsNs (envX cn cs L a (.ref cda) cells))) (fun r s₃ => r = .bool b ∧ PySem.Keeps s₂ s₃) E' s₂)
    (hQ : ∀ g s₅ c' Kb, Fr h₀ L s₅.heap m → News h₀ L s₅.heap ((P, ({ cls := .none, data := .fields (ps ++ #[rawInt pos.line, rawInt pos.col, .ref c']) } : Obj)) :: rest) → AllBare s₅.gens → s₅.os = s.os →
      Gen prog w A Kb g 1 (GenF b) s₅ → (∀ p ∈ rest, p.1 ≤ Kb) → P ≤ Kb → L ≤ Kb → (∀ q o, h₀.get? q = some o → q ≤ Kb) → Q (.ref g) s₅)
    (hyd : (y == ("__debug__" : Str)) = false := by decide) :
    wpAny (model prog w) A (eval (.GeneratorExp elt [⟨.Name x px, .Name y py, [], 0⟩] gscope pos) (envX cn cs L a (.ref cda) cells)) Q E s := by
  have hPn := N _ hP
  have hln := N _ hl
  have hlP : l ≠ P := fun e => by
    have h1 := hln.1
    rw [show (l, lo).1 = l from rfl, e, hPn.1] at h1
    cases h1
    cases hlc
  refine wpAny_GeneratorExp_walksQ hh hco hclos hcell h0 hx hkind hroom (nameX_L F hv ?_ hk hy hyd) (by intro _; rfl)
  have hlst : s.heap.IsList l #[v] := ⟨lo, hln.1, hlc, n, hld⟩
  have hne : l ≠ s.heap.objs.size := Nat.ne_of_lt (Heap.lt_size hln.1)
  refine wpAny_pyIter_list hlst ?_
  have hl0 : s.heap.NoLimit := hlim.keeps F.keep
  refine ⟨hl0.push _, ?_⟩
  have k1 : ∀ q o, s.heap.get? q = some o → (s.heap.push { cls := .type "list_iterator", data := .fields #[.ref l, .int 0 0] }).get? q = some o := fun q o e => Heap.get?_push_of_some _ e
  obtain ⟨ic, tc⟩ := ok.code ps htr (s.heap.push { cls := .type "list_iterator", data := .fields #[.ref l, .int 0 0] }) (fun o e => k1 _ _ (F.keep _ _ e)) (k1 _ _ hPn.1)
  refine wpAny_genexprCodeX (c := cda) rfl ic tc hnf fun c' h₃ tk₃ hx₃ hge hlt hcode₃ _ htab₃ _ => ?_
  have hIP : s.heap.objs.size ≠ P := Ne.symm (Nat.ne_of_lt (Heap.lt_size hPn.1))
  have gI := Heap.get?_push_size s.heap (o := { cls := .type "list_iterator", data := .fields #[.ref l, .int 0 0] }) rfl
  have k3 : ∀ q o, q ≠ P → s.heap.get? q = some o → h₃.get? q = some o := fun q o hq e => hx₃ q o hq (k1 q o e)
  have h0P : h₀.get? P = none := hPn.2.2
  have keep3 : ∀ q o, h₀.get? q = some o → h₃.get? q = some o := fun q o e => k3 q o (fun z => by rw [z, h0P] at e; cases e) (F.keep _ _ e)
  have M₃ := M.keeps keep3
  refine wpAny_builtinsFor M₃.ns M₃.name M₃.ne M₃.obj M₃.cls M₃.dict M₃.data ?_
  have gl3 := k3 l lo hlP hln.1
  have gI3 := hx₃ _ _ hIP gI
  have sz3 : s.heap.objs.size < h₃.objs.size := Heap.lt_size gI3
  have Ll : L < s.heap.objs.size := F.ns.lt
  refine ⟨s.heap.objs.size, [s.heap.objs.size, l], [s.heap.objs.size], 1, (fun i w => (#[v] : Array Value)[i]? = some w), (fun i h => h.IsListIter s.heap.objs.size l i ∧ h.IsList l #[v]), fun _ => true, fun _ r => r = .bool b, rfl, fun A' hA => Walks.list hA _ l hne #[v], ⟨⟨_, gI3, rfl, rfl⟩, ⟨lo, gl3, hlc, n, hld⟩⟩, ?fp, hlim.keeps keep3, ?cw, ?quiet, ?q⟩
  case fp =>
    intro q hq
    rcases List.mem_cons.mp hq with rfl | hq
    · exact sz3
    · rw [List.mem_singleton.mp hq]
      exact Heap.lt_size gl3
  case cw =>
    intro hm
    have hc : cStatics < s.heap.objs.size := let ⟨_, hn, _⟩ := hl0; hn.lt
    exact absurd (List.mem_singleton.mp hm ▸ hc) (Nat.lt_irrefl _)
  case quiet =>
    intro href hk5
    refine ⟨fun A' E' i w' s₂ m₂ hA hPi hn hxm hkp => ?_, fun A' E' i w' s₂ m₂ hA hPi _ hn hxm hkp => ?_⟩
    · rw [List.forIn_nil]
      exact wpAny_pure ⟨rfl, s₂.heap, s₂.toks, rfl, fun _ _ e => e⟩
    · have e : w' = v := by
        have : i = 0 := by
          rcases i with _ | i
          · rfl
          · simp at hPi
        subst this
        simpa using hPi.symm
      subst e
      refine helt A' E' s₂ m₂ _ _ hA hn hxm fun p hp => ?_
      obtain ⟨hp1, hp2⟩ := hrest p hp
      have g3 := k3 p.1 p.2 hp2 (N p hp1).1
      exact hkp p.1 (List.mem_range.mpr (Heap.lt_size g3)) (fun hm => Nat.lt_irrefl _ (List.mem_singleton.mp hm ▸ Heap.lt_size (N p hp1).1)) p.2 (hk5 _ _ g3)
  case q =>
    intro g' h₅ tk gs hgb hag hsz₅ hk₅ W hat
    have k5 : ∀ q o, q ≠ P → s.heap.get? q = some o → h₅.get? q = some o := fun q o hq e => hk₅ q o (k3 q o hq e)
    have F5 : Fr h₀ L h₅ m := ⟨F.ns.at' fun o e => k5 L o (Ne.symm hPn.2.1) e, fun q o e => hk₅ q o (keep3 q o e), F.above⟩
    refine hQ g' _ c' (s.heap.objs.size - 1) F5 (fun p hp => ?_) (G.push hgb) rfl ⟨_, _, _, _, W, hat, (fun i s' st => st.1.typeIs), List.mem_cons_self, ?_, ?_⟩ (fun p hp => Nat.le_sub_one_of_lt (Heap.lt_size (N p (hrest p hp).1).1)) (Nat.le_sub_one_of_lt (Heap.lt_size hPn.1)) (Nat.le_sub_one_of_lt Ll) fun q o e => Nat.le_sub_one_of_lt (Heap.lt_size (F.keep q o e))
    · rcases List.mem_cons.mp hp with rfl | hp
      · exact ⟨hk₅ _ _ htab₃.2, hPn.2⟩
      · obtain ⟨hp1, hp2⟩ := hrest p hp
        exact ⟨k5 p.1 p.2 hp2 (N p hp1).1, (N p hp1).2⟩
    · intro q hq
      show q < h₅.objs.size
      rw [hsz₅]
      rcases List.mem_cons.mp hq with rfl | hq
      · exact Nat.lt_succ_self _
      · rcases List.mem_cons.mp hq with rfl | hq
        · exact Nat.lt_succ_of_lt hag
        · exact Nat.lt_succ_of_lt (Nat.lt_trans (List.mem_range.mp hq) hag)
    · intro q hq
      rcases List.mem_cons.mp hq with rfl | hq
      · exact Nat.lt_of_le_of_lt (Nat.sub_le _ _) sz3
      · rw [List.mem_singleton.mp hq]
        exact Nat.sub_one_lt (Nat.ne_of_gt (Nat.lt_of_le_of_lt (Nat.zero_le _) Ll))
end
end
section
open PySem PySem.W PySem.Spec PySem.Calls PyProof.Rows Builtin
set_option maxHeartbeats 4000000
section
variable {prog : Program} {w : World} {A : Around} {E : Value → Shared → Prop} {s : Shared} {h₀ : Heap} {L g Kb : Addr} {m mg mb : Str → Option Value} {news : List (Addr × Obj)} {b : Bool} {Q : Value → Shared → Prop} {KF : Frag} {p : Program} {loose : List Str} {mean : ExcName → Option Value}
theorem gen_truth : TruthOf prog w A (GenF b) fun _ => b := fun i v s Q E hP hQ => by
  obtain ⟨_, _, rfl⟩ := hP
  exact fun _ _ _ => hQ
theorem all_K (F : Fr h₀ L s.heap m) (N : News h₀ L s.heap news) (G : AllBare s.gens) (X : Gen prog w A Kb g 1 (GenF b) s) (hLK : L ≤ Kb) (hn : ∀ p ∈ news, p.1 ≤ Kb)
    (hQ : ∀ s', Fr h₀ L s'.heap m → News h₀ L s'.heap news → AllBare s'.gens → s'.os = s.os → Q (.bool b) s') : wpAny (model prog w) A (call (.builtin "all") [.ref g]) Q E s :=
  all_rowsK F G X hLK (fun _ => b) gen_truth fun s' F' G' ho k => by
    have := hQ s' F' (fun p hp => ⟨k _ _ (hn p hp) (N p hp).1, (N p hp).2⟩) G' ho
    cases b <;> exact this
theorem any_K (F : Fr h₀ L s.heap m) (N : News h₀ L s.heap news) (G : AllBare s.gens) (X : Gen prog w A Kb g 1 (GenF b) s) (hLK : L ≤ Kb) (hn : ∀ p ∈ news, p.1 ≤ Kb)
    (hQ : ∀ s', Fr h₀ L s'.heap m → News h₀ L s'.heap news → AllBare s'.gens → s'.os = s.os → Q (.bool b) s') : wpAny (model prog w) A (call (.builtin "any") [.ref g]) Q E s :=
  any_rowsK F G X hLK (fun _ => b) gen_truth fun s' F' G' ho k => by
    have := hQ s' F' (fun p hp => ⟨k _ _ (hn p hp) (N p hp).1, (N p hp).2⟩) G' ho
    cases b <;> exact this
theorem code_ok {cda P : Addr} {cdd : Option Addr} {vs : Array Value} {ccs : Array (Option Value)} {file : Str} {tf tg tt : Tok} {flags text : Int} {inF : Bool} (X : KF.In h₀) (hc : KF.lookup cda = some ⟨.type "code", cdd, .fields vs, ccs⟩) (e11 : vs[11]? = some (.ref P))
    (e18 : vs.getD 18 .none = .str file tf) (e7 : vs.getD 7 .none = .int flags tg) (e9 : vs.getD 9 .none = .bool inF) (e10 : vs.getD 10 .none = .int text tt) (hne : cda ≠ P) : CodeOk h₀ cda P :=
  ⟨fun ps htr h' hk hP => by
    have h1 := hk _ (X _ _ hc)
    have e11' : vs.getD 11 .none = .ref P := by rw [Array.getD_eq_getD_getElem?, e11]; rfl
    exact ⟨⟨_, vs, file, tf, flags, tg, inF, text, tt, _, h1, rfl, e11', e18, e7, e9, e10, hP, rfl, htr, hne⟩, ⟨_, vs, h1, rfl, rfl, e11⟩, hP⟩, hne⟩
theorem bmod_of {bm : Addr} {ob : Obj} (X : KF.In h₀) (T : Top p loose mean mg mb h₀) (e : nsIn KF mainGlobals "__builtins__" = some (some (.ref bm))) (ho : h₀.get? bm = some ob) (hne : bm ≠ builtinsNs) (hc : ob.cls = .type "module") (hd : ob.dict = some builtinsNs) (hdt : ob.data = .plain) :
    BMod h₀ mainGlobals mg bm ob := ⟨T.g, mg_of X T.g e, hne, ho, hc, hd, hdt⟩
/-- «cand >= k» where cand is the generator's own name -/
theorem elt_ge {env : Env} {C : Addr} {x : Str} {px pc pos : Pos} {i k : Int} {t : Tok} {kk : Nat} {m₂ : Str → Option Value} (hC : env.locals = C) (hk : env.scope.kind = .function) (hx : env.kindOf x = some .local) (hd : (x == ("__debug__" : Str)) = false) (hn : s.heap.Ns C m₂) (hm : m₂ x = some (.int i t)) (hb : decide (k ≤ i) = b) :
    wpAny (model prog w) A (eval (.Compare (.Name x px) [.GtE] [.Constant (.int k) kk pc] pos) env) (fun r s₃ => r = .bool b ∧ PySem.Keeps s s₃) E s := by
  subst hC
  refine wpAny_Compare1 (wpAny_Name (wpAny_loadName_local hk hx hn hm (wpAny_Constant_int ?_)) hd)
  refine ge_int ⟨?_, s.heap, _, rfl, fun _ _ e => e⟩
  rw [← hb]
theorem elt_ge_free {env : Env} {C c : Addr} {x y : Str} {px pc pos : Pos} {i k : Int} {t u : Tok} {m₂ : Str → Option Value} {o : Obj} (hC : env.locals = C) (hk : env.scope.kind = .function) (hx : env.kindOf x = some .local) (hd : (x == ("__debug__" : Str)) = false) (hn : s.heap.Ns C m₂) (hm : m₂ x = some (.int i t))
    (hy : env.kindOf y = some .free) (hc : env.cells.lookup y = some c) (ho : s.heap.get? c = some o) (hod : o.data = .cell (some (.int k u))) (hd2 : (y == ("__debug__" : Str)) = false) (hd3 : (y == ("__classdict__" : Str)) = false) (hb : decide (k ≤ i) = b) :
    wpAny (model prog w) A (eval (.Compare (.Name x px) [.GtE] [.Name y pc] pos) env) (fun r s₃ => r = .bool b ∧ PySem.Keeps s s₃) E s := by
  subst hC
  refine wpAny_Compare1 (wpAny_Name (wpAny_loadName_local hk hx hn hm (wpAny_Name (wpAny_loadName_free hk hy hc ⟨o, ho, hod⟩ ?_ hd3) hd2)) hd)
  refine ge_int ⟨?_, s.heap, s.toks, rfl, fun _ _ e => e⟩
  rw [← hb]
end
end
section
local macro_rules | `(tactic| k_mem) => `(tactic| assumption)
section
local macro_rules | `(tactic| walk_at "pad") => `(tactic| fail)
set_option maxHeartbeats 0
theorem c_rule (w : World) (b : Heap) (mean : ExcName → Option Value) (mg mb : Str → Option Value) (fn : Str) (nms : List (Str × NameKind)) (mr : List (Str × Const)) (L fa : Addr) (cd : Value)
    (s : Shared) (m : Str → Option Value) (nw : List (Addr × Obj)) (E Q : Value → Shared → Prop)
    (K0 : Below callerA b [] b) (F : Fr b L s.heap m) (N : News b L s.heap nw) (KX : (K w.params).In b) (T : Top vw lse mean mg mb b)
    (x : Str) (t1 : Tok) (c1 c2 : Str) (v3 v4 : VE) (l : List Stmt) (ts : List Str) (wd : List PyData)
    (hgo : ifGo (Str.ofString "rule_id") x 40 ruleIf = .inr l) (hf : fourOf l = some (c1, c2, v3, v4)) (hv3 : VEgood (K w.params) 355 (ts.map PyData.str) v3) (hv4 : VEgood (K w.params) 355 wd v4) (h8 : ts.length ≤ 8)
    (hret : ∀ h' tk r rd aa wa al its n nw' k1 k2 k3 k4 k5 k6 u1 u2 u3, Fr b L h' m → News b L h' ((r, instObj 355 rd) :: (rd, dictOf [ent w "rule_id" k1 (.str x u1), ent w "shortname" k2 (.str c1 u2), ent w "longname" k3 (.str c2 u3), ent w "algorithms" k4 (.ref aa), ent w "resolute_values" k5 (.ref wa), ent w "available_algorithms" k6 (.ref al)] 6) :: (al, W.listOf its n) :: nw') →
      (∀ p ∈ nw, p ∈ nw') → TupC (K w.params) nw' aa (ts.map PyData.str) → TupC (K w.params) nw' wa wd → StrsAre its.toList (ts.filter fun y => thereT.any (· == y)) → Q (.ref r) { s with heap := h', toks := tk }) :
    wpAny (model P w) (callerA.deeper (lawEnv fn nms mr L fa cd)) (call (.ref 355) [.str x t1]) Q E s := by
  delta lawEnv K lse P ent at *
  revert KX
  k_fill
  intro KX
  show wpAny _ _ _ _ _ _
  repeat' (first | (k_unfold; (try dsimp only)) | (k_end; (refine' hret _ _ _ _ _ _ _ _ _ _ _ _ _ _ _ _ _ _ _ ?Fzc ?Nzc ?hszc ?tczc ?tcqzc ?hizc; (case Fzc => k_asm); (case Nzc => k_asm); (case hszc => assumption); (case tczc => assumption); (case tcqzc => assumption); (case hizc => assumption))) | ((with_reducible show wpAny _ _ (exec (Stmt.For _ _ _ _ _) _) _ _ _); (k_dflt (refine' avail_loop (ga := 426) (there := thereT) rfl ?Fz0 ?Xz0 ?Tz0 ?Nz0 ?Uz0 ?xmz0 ?dmz0 ?hxz0 ?hdz0 ?hsz0 ?tcz0 ?h8z0 ?hgz0 ?hgaz0 ?G1z0 ?G2z0 ?G3z0 ?G4z0 ?G5z0 ?hkz0 ?hlz0 ?hl2z0 ?hl3z0 ?hEz0 ?hez0 ?_; (case Fz0 => k_asm); (case Nz0 => k_asm); (case Xz0 => k_asm); (case Tz0 => k_asm); (case Uz0 => exact .tail (by assumption) (.tail (by assumption) (.head (by assumption)))); (case xmz0 => exact .head _); (case dmz0 => exact .tail _ (.head _)); (case hxz0 => assumption); (case hdz0 => assumption); (case hsz0 => exact rfl); (case tcz0 => exact TupC.mono (by assumption) (fun p hp => .tail _ (.tail _ (.tail _ hp)))); (case h8z0 => assumption); (case hgz0 => kernel_rfl); (case hgaz0 => exact there_in _); (case G1z0 => kernel_rfl); (case G2z0 => kernel_rfl); (case G3z0 => kernel_rfl); (case G4z0 => kernel_rfl); (case G5z0 => kernel_rfl); (case hkz0 => rfl); (case hlz0 => rfl); (case hl2z0 => rfl); (case hl3z0 => rfl); (case hEz0 => passes_own); (case hez0 => with_unfolding_all rfl)); intro h' tk m' its n' F' N' hits)) | ((with_reducible show wpAny _ _ (exec (Stmt.Assign _ _ _) _) _ _ _); ((with_reducible show wpAny _ _ (exec (Stmt.Assign [Expr.Attribute _ (PySem.Str.ofString "available_algorithms") _] _ _) _) _ _ _); k_dflt (refine' avail_set ?Fz1 ?Nz1 ?Xz1 ?hxdz1 ?hdz1 ?Sz1 ?hsz1 ?hkz1 ?hlz1 ?_; (case Fz1 => k_asm); (case Nz1 => k_asm); (case Xz1 => k_asm); (case hxdz1 => assumption); (case hdz1 => assumption); (case Sz1 => exact rule_set_av _); (case hsz1 => exact rfl); (case hkz1 => rfl); (case hlz1 => rfl)); intro al h' tk k6 F' hal hxa hda N')) | ((with_reducible show wpAny _ _ (exec (Stmt.If _ _ _ _) _) _ _ _); (k_dflt (refine' if_four ?ez2 ?hgoz2 ?hfz2 ?h3z2 ?h4z2 ?Fz2 ?Nz2 ?Xz2 ?dxz2 ?hnz2 ?Sz2 ?hsz2 ?hrz2 ?hkz2 ?hlz2 ?hl2z2 ?_; (case ez2 => kernel_rfl); (case hgoz2 => assumption); (case hfz2 => assumption); (case h3z2 => assumption); (case h4z2 => assumption); (case Fz2 => k_asm); (case Nz2 => k_asm); (case Xz2 => k_asm); (case dxz2 => assumption); (case hnz2 => assumption); (case Sz2 => exact rule_set _); (case hsz2 => exact rfl); (case hrz2 => exact rfl); (case hkz2 => rfl); (case hlz2 => rfl); (case hl2z2 => rfl)); intro aa wa nw' h' tk k2 k3 k4 k5 u2 u3 F' hsub hd hx hxd N' tc tc')) | walk1 | (dsimp only; (first | ((with_reducible show wpAny _ _ (exec (Stmt.For _ _ _ _ _) _) _ _ _); (k_dflt (refine' avail_loop (ga := 426) (there := thereT) rfl ?Fz0 ?Xz0 ?Tz0 ?Nz0 ?Uz0 ?xmz0 ?dmz0 ?hxz0 ?hdz0 ?hsz0 ?tcz0 ?h8z0 ?hgz0 ?hgaz0 ?G1z0 ?G2z0 ?G3z0 ?G4z0 ?G5z0 ?hkz0 ?hlz0 ?hl2z0 ?hl3z0 ?hEz0 ?hez0 ?_; (case Fz0 => k_asm); (case Nz0 => k_asm); (case Xz0 => k_asm); (case Tz0 => k_asm); (case Uz0 => exact .tail (by assumption) (.tail (by assumption) (.head (by assumption)))); (case xmz0 => exact .head _); (case dmz0 => exact .tail _ (.head _)); (case hxz0 => assumption); (case hdz0 => assumption); (case hsz0 => exact rfl); (case tcz0 => exact TupC.mono (by assumption) (fun p hp => .tail _ (.tail _ (.tail _ hp)))); (case h8z0 => assumption); (case hgz0 => kernel_rfl); (case hgaz0 => exact there_in _); (case G1z0 => kernel_rfl); (case G2z0 => kernel_rfl); (case G3z0 => kernel_rfl); (case G4z0 => kernel_rfl); (case G5z0 => kernel_rfl); (case hkz0 => rfl); (case hlz0 => rfl); (case hl2z0 => rfl); (case hl3z0 => rfl); (case hEz0 => passes_own); (case hez0 => with_unfolding_all rfl)); intro h' tk m' its n' F' N' hits)) | ((with_reducible show wpAny _ _ (exec (Stmt.Assign _ _ _) _) _ _ _); ((with_reducible show wpAny _ _ (exec (Stmt.Assign [Expr.Attribute _ (PySem.Str.ofString "available_algorithms") _] _ _) _) _ _ _); k_dflt (refine' avail_set ?Fz1 ?Nz1 ?Xz1 ?hxdz1 ?hdz1 ?Sz1 ?hsz1 ?hkz1 ?hlz1 ?_; (case Fz1 => k_asm); (case Nz1 => k_asm); (case Xz1 => k_asm); (case hxdz1 => assumption); (case hdz1 => assumption); (case Sz1 => exact rule_set_av _); (case hsz1 => exact rfl); (case hkz1 => rfl); (case hlz1 => rfl)); intro al h' tk k6 F' hal hxa hda N')) | ((with_reducible show wpAny _ _ (exec (Stmt.If _ _ _ _) _) _ _ _); (k_dflt (refine' if_four ?ez2 ?hgoz2 ?hfz2 ?h3z2 ?h4z2 ?Fz2 ?Nz2 ?Xz2 ?dxz2 ?hnz2 ?Sz2 ?hsz2 ?hrz2 ?hkz2 ?hlz2 ?hl2z2 ?_; (case ez2 => kernel_rfl); (case hgoz2 => assumption); (case hfz2 => assumption); (case h3z2 => assumption); (case h4z2 => assumption); (case Fz2 => k_asm); (case Nz2 => k_asm); (case Xz2 => k_asm); (case dxz2 => assumption); (case hnz2 => assumption); (case Sz2 => exact rule_set _); (case hsz2 => exact rfl); (case hrz2 => exact rfl); (case hkz2 => rfl); (case hlz2 => rfl); (case hl2z2 => rfl)); intro aa wa nw' h' tk k2 k3 k4 k5 u2 u3 F' hsub hd hx hxd N' tc tc')) | walk1)) | (leave1; try dsimp only) | fail)
  all_goals trace_state
  all_goals w_report
end
section
local macro_rules | `(tactic| tb_rel) => `(tactic| first | exact (tupC_in (by kernel_rfl)).mono (fun _ hp => nomatch hp) | exact ⟨_, _, _, .inr (by k_mem), rfl, rfl, .str _ _ .nil⟩)
section
set_option maxHeartbeats 0
theorem c_rule_geom (w : World) (b : Heap) (mean : ExcName → Option Value) (mg mb : Str → Option Value) (fn : Str) (nms : List (Str × NameKind)) (mr : List (Str × Const)) (L fa : Addr) (cd : Value)
    (s : Shared) (m : Str → Option Value) (nw : List (Addr × Obj)) (E Q : Value → Shared → Prop)
    (K0 : Below callerA b [] b) (F : Fr b L s.heap m) (N : News b L s.heap nw) (KX : (K w.params).In b) (T : Top vw lse mean mg mb b)
    (t1 : Tok)
    (hret : ∀ h' tk r rd aa wa al its n nw' c2 k1 k2 k3 k4 k5 k6 u1 u2 u3, Fr b L h' m → News b L h' ((r, instObj 355 rd) :: (rd, dictOf [ent w "rule_id" k1 (.str (Str.ofString "geom2") u1), ent w "shortname" k2 (.str (Str.ofString "2-Geometric") u2), ent w "longname" k3 (.str c2 u3), ent w "algorithms" k4 (.ref aa), ent w "resolute_values" k5 (.ref wa), ent w "available_algorithms" k6 (.ref al)] 6) :: (al, W.listOf its n) :: nw') →
      (∀ p ∈ nw, p ∈ nw') → TupC (K w.params) nw' aa (thieleT.map PyData.str) → TupC (K w.params) nw' wa (waysT 0) → StrsAre its.toList (thieleT.filter fun y => thereT.any (· == y)) → Q (.ref r) { s with heap := h', toks := tk }) :
    wpAny (model P w) (callerA.deeper (lawEnv fn nms mr L fa cd)) (call (.ref 355) [.str (Str.ofString "geom2") t1]) Q E s := by
  delta lawEnv K lse P ent at *
  revert KX
  k_fill
  intro KX
  show wpAny _ _ _ _ _ _
  repeat' (first | (k_unfold; (try dsimp only)) | (k_end; (refine' hret _ _ _ _ _ _ _ _ _ _ _ _ _ _ _ _ _ _ _ _ ?Fzc ?Nzc ?hszc ?tczc ?tcqzc ?hizc; (case Fzc => k_asm); (case Nzc => refine' newsPerm3 ?nzc (List.Mem.head _) (List.Mem.tail _ (List.Mem.head _)) (List.Mem.tail _ (List.Mem.tail _ (List.Mem.head _))); (case nzc => k_asm)); (case hszc => exact fun p hp => .tail _ (.tail _ (.tail _ hp))); (case tczc => tb_rel); (case tcqzc => tb_rel); (case hizc => assumption))) | ((with_reducible show wpAny _ _ (exec (Stmt.For _ _ _ _ _) _) _ _ _); (k_dflt (refine' avail_loop (ga := 426) (there := thereT) (ts := thieleT) rfl ?Fz0 ?Xz0 ?Tz0 ?Nz0 ?Uz0 ?xmz0 ?dmz0 ?hxz0 ?hdz0 ?hsz0 ?tcz0 ?h8z0 ?hgz0 ?hgaz0 ?G1z0 ?G2z0 ?G3z0 ?G4z0 ?G5z0 ?hkz0 ?hlz0 ?hl2z0 ?hl3z0 ?hEz0 ?hez0 ?_; (case Fz0 => k_asm); (case Nz0 => k_asm); (case Xz0 => k_asm); (case Tz0 => k_asm); (case Uz0 => exact .tail (by assumption) (.tail (by assumption) (.head (by assumption)))); (case xmz0 => exact .head _); (case dmz0 => exact .tail _ (.head _)); (case hxz0 => assumption); (case hdz0 => assumption); (case hsz0 => exact rfl); (case tcz0 => tb_rel); (case h8z0 => decide); (case hgz0 => kernel_rfl); (case hgaz0 => exact there_in _); (case G1z0 => kernel_rfl); (case G2z0 => kernel_rfl); (case G3z0 => kernel_rfl); (case G4z0 => kernel_rfl); (case G5z0 => kernel_rfl); (case hkz0 => rfl); (case hlz0 => rfl); (case hl2z0 => rfl); (case hl3z0 => rfl); (case hEz0 => passes_own); (case hez0 => with_unfolding_all rfl)); intro h' tk m' its n' F' N' hits)) | ((with_reducible show wpAny _ _ (exec (Stmt.Assign _ _ _) _) _ _ _); ((with_reducible show wpAny _ _ (exec (Stmt.Assign [Expr.Attribute _ (PySem.Str.ofString "available_algorithms") _] _ _) _) _ _ _); k_dflt (refine' avail_set ?Fz1 ?Nz1 ?Xz1 ?hxdz1 ?hdz1 ?Sz1 ?hsz1 ?hkz1 ?hlz1 ?_; (case Fz1 => k_asm); (case Nz1 => k_asm); (case Xz1 => k_asm); (case hxdz1 => exact Nat.ne_of_gt (by assumption)); (case hdz1 => exact allNe_of_lt (by assumption)); (case Sz1 => exact rule_set_av _); (case hsz1 => exact rfl); (case hkz1 => rfl); (case hlz1 => rfl)); intro al h' tk k6 F' hal hxa hda N')) | ((with_reducible show wpAny _ _ (exec (Stmt.If _ _ _ _) _) _ _ _); (k_dflt (refine' if_down 28 ?ez2 ?e2z2 ?Fz2 ?Nz2 ?hrz2 ?hkz2 ?hl2z2 ?_; (case Fz2 => k_asm); (case Nz2 => k_asm); (case hrz2 => exact rfl); (case ez2 => decide +kernel); (case e2z2 => kernel_rfl); (case hkz2 => rfl); (case hl2z2 => rfl)); intro h' tk F' N'; dsimp only [elseOf])) | walk1 | (dsimp only; (first | ((with_reducible show wpAny _ _ (exec (Stmt.For _ _ _ _ _) _) _ _ _); (k_dflt (refine' avail_loop (ga := 426) (there := thereT) (ts := thieleT) rfl ?Fz0 ?Xz0 ?Tz0 ?Nz0 ?Uz0 ?xmz0 ?dmz0 ?hxz0 ?hdz0 ?hsz0 ?tcz0 ?h8z0 ?hgz0 ?hgaz0 ?G1z0 ?G2z0 ?G3z0 ?G4z0 ?G5z0 ?hkz0 ?hlz0 ?hl2z0 ?hl3z0 ?hEz0 ?hez0 ?_; (case Fz0 => k_asm); (case Nz0 => k_asm); (case Xz0 => k_asm); (case Tz0 => k_asm); (case Uz0 => exact .tail (by assumption) (.tail (by assumption) (.head (by assumption)))); (case xmz0 => exact .head _); (case dmz0 => exact .tail _ (.head _)); (case hxz0 => assumption); (case hdz0 => assumption); (case hsz0 => exact rfl); (case tcz0 => tb_rel); (case h8z0 => decide); (case hgz0 => kernel_rfl); (case hgaz0 => exact there_in _); (case G1z0 => kernel_rfl); (case G2z0 => kernel_rfl); (case G3z0 => kernel_rfl); (case G4z0 => kernel_rfl); (case G5z0 => kernel_rfl); (case hkz0 => rfl); (case hlz0 => rfl); (case hl2z0 => rfl); (case hl3z0 => rfl); (case hEz0 => passes_own); (case hez0 => with_unfolding_all rfl)); intro h' tk m' its n' F' N' hits)) | ((with_reducible show wpAny _ _ (exec (Stmt.Assign _ _ _) _) _ _ _); ((with_reducible show wpAny _ _ (exec (Stmt.Assign [Expr.Attribute _ (PySem.Str.ofString "available_algorithms") _] _ _) _) _ _ _); k_dflt (refine' avail_set ?Fz1 ?Nz1 ?Xz1 ?hxdz1 ?hdz1 ?Sz1 ?hsz1 ?hkz1 ?hlz1 ?_; (case Fz1 => k_asm); (case Nz1 => k_asm); (case Xz1 => k_asm); (case hxdz1 => exact Nat.ne_of_gt (by assumption)); (case hdz1 => exact allNe_of_lt (by assumption)); (case Sz1 => exact rule_set_av _); (case hsz1 => exact rfl); (case hkz1 => rfl); (case hlz1 => rfl)); intro al h' tk k6 F' hal hxa hda N')) | ((with_reducible show wpAny _ _ (exec (Stmt.If _ _ _ _) _) _ _ _); (k_dflt (refine' if_down 28 ?ez2 ?e2z2 ?Fz2 ?Nz2 ?hrz2 ?hkz2 ?hl2z2 ?_; (case Fz2 => k_asm); (case Nz2 => k_asm); (case hrz2 => exact rfl); (case ez2 => decide +kernel); (case e2z2 => kernel_rfl); (case hkz2 => rfl); (case hl2z2 => rfl)); intro h' tk F' N'; dsimp only [elseOf])) | walk1)) | (leave1; try dsimp only) | fail)
  all_goals trace_state
  all_goals w_report
end
section
theorem rowT_drop : rowT.drop 29 = [⟨Str.ofString "geom2", Str.ofString "2-Geometric", thieleT, 0⟩, ⟨Str.ofString "seqgeom3", Str.ofString "seq-3-Geometric", [Str.ofString "standard"], 1⟩, ⟨Str.ofString "revseqcc", Str.ofString "revseq-CC", [Str.ofString "standard"], 1⟩] := rfl
theorem c_ruleAll (w : World) (b : Heap) (mean : ExcName → Option Value) (mg mb : Str → Option Value) (fn : Str) (nms : List (Str × NameKind)) (mr : List (Str × Const)) (L fa : Addr) (cd : Value)
    (s : Shared) (m : Str → Option Value) (nw : List (Addr × Obj)) (E Q : Value → Shared → Prop)
    (K0 : Below callerA b [] b) (F : Fr b L s.heap m) (N : News b L s.heap nw) (KX : (K w.params).In b) (T : Top vw lse mean mg mb b)
    (r : RowS) (t1 : Tok) (hr : r ∈ rowT)
    (hret : ∀ h' tk ra rd aa wa al its n nw' c2 k1 k2 k3 k4 k5 k6 u1 u2 u3, Fr b L h' m → News b L h' ((ra, instObj 355 rd) :: (rd, dictOf [ent w "rule_id" k1 (.str r.name u1), ent w "shortname" k2 (.str r.short u2), ent w "longname" k3 (.str c2 u3), ent w "algorithms" k4 (.ref aa), ent w "resolute_values" k5 (.ref wa), ent w "available_algorithms" k6 (.ref al)] 6) :: (al, W.listOf its n) :: nw') →
      (∀ p ∈ nw, p ∈ nw') → TupC (K w.params) nw' aa (r.algs.map PyData.str) → TupC (K w.params) nw' wa (waysT r.kind) → StrsAre its.toList (r.algs.filter fun y => thereT.any (· == y)) → Q (.ref ra) { s with heap := h', toks := tk }) :
    wpAny (model P w) (callerA.deeper (lawEnv fn nms mr L fa cd)) (call (.ref 355) [.str r.name t1]) Q E s := by
  rw [← List.take_append_drop 29 rowT] at hr
  rcases List.mem_append.mp hr with h | h
  · obtain ⟨l, c2, v3, v4, hgo, hf, hv3, hv4, h8⟩ := ok_row (p := w.params) (List.all_eq_true.mp ok_rows r h)
    exact c_rule w b mean mg mb fn nms mr L fa cd s m nw E Q K0 F N KX T r.name t1 r.short c2 v3 v4 l r.algs (waysT r.kind) hgo hf hv3 hv4 h8
      (fun h' tk ra rd aa wa al its n nw' k1 k2 k3 k4 k5 k6 u1 u2 u3 => hret h' tk ra rd aa wa al its n nw' c2 k1 k2 k3 k4 k5 k6 u1 u2 u3)
  · rw [rowT_drop] at h
    simp only [List.mem_cons, List.not_mem_nil, or_false] at h
    rcases h with rfl | rfl | rfl
    · exact c_rule_geom w b mean mg mb fn nms mr L fa cd s m nw E Q K0 F N KX T t1 hret
    · exact c_rule_sg w b mean mg mb fn nms mr L fa cd s m nw E Q K0 F N KX T t1 hret
    · exact c_rule_rcc w b mean mg mb fn nms mr L fa cd s m nw E Q K0 F N KX T t1 hret
end
end
section
local macro_rules | `(tactic| tb_start) => `(tactic| first | assumption | exact if_pos rfl | (refine (if_neg (by decide)).trans ?_; tb_start))
local macro_rules | `(tactic| walk_at "eval Name") => `(tactic| (k_here; k_dflt (refine' ld ?k1 ?k2 ?_; (case k1 => k_asm); (case k2 => tb_start); k_whole)))
local macro_rules | `(tactic| walk_at "subscriptTail") => `(tactic| (k_here; (with_reducible show wpAny _ _ (subscriptTail _ _ (Value.ref _) (Value.int _ _)) _ _ _); k_dflt (refine' item_in (by k_asm) (by k_mem) (by decide) (by decide) (by rfl) (by with_unfolding_all rfl) ?_)))
section
set_option maxHeartbeats 2000000
theorem s_m
    (w : World) (b : Heap) (mean : ExcName → Option Value) (mg mb : Str → Option Value) (L fa : Addr) (cd : Value)
    (s : Shared) (m : Str → Option Value) (nw : List (Addr × Obj)) (E : Value → Shared → Prop) (Q : Flow → Shared → Prop)
    (K0 : Below callerA b [] b) (F : Fr b L s.heap m) (N : News b L s.heap nw) (KX : (K w.params).In b) (T : Top vw lse mean mg mb b)
    (D : Addr) (d0 d1 d2 d3 d4 d5 d6 d7 : Int) (t0 t1 t2 t3 t4 t5 t6 t7 : Tok) (hD : (D, drawsObj d0 d1 d2 d3 d4 d5 d6 d7 t0 t1 t2 t3 t4 t5 t6 t7) ∈ nw)
    (hd : m (Str.ofString "draws") = some (.ref D))

    (hret : ∀ h' tk nw' mm vv u1 u2, Fr b L h' (upd (upd m "voters" (.int vv u2)) "m" (.int mm u1)) → News b L h' nw' → (∀ p ∈ nw, p ∈ nw') → 1 ≤ mm → mm ≤ 4 → (vv = 0 ∨ vv = 1) → Q .next { s with heap := h', toks := tk }) :
    wpAny (model P w) (callerA.deeper (lawE L fa cd)) (exec (lawStmt 7) (lawE L fa cd)) Q E s := by
  have hsc : lawScope = lawScope := rfl
  with_unfolding_all conv at hsc => rhs; whnf
  have hst := lawStmt_eq 7
  with_unfolding_all conv at hst => rhs; whnf
  delta lawE
  rw [hsc, hst]
  clear hsc hst
  delta K lse P at *
  revert KX
  k_fill
  intro KX
  k_steps
  all_goals have e1 := Int.fmod_eq_emod_of_nonneg d1 (b := 4) (by decide)
  all_goals exact hret _ _ _ _ _ _ _ (by assumption) (by assumption) (fun p hp => .tail _ hp) (by omega) (by omega) (by first | exact .inl rfl | exact .inr rfl)
end
section
local macro_rules | `(tactic| walk_at "pad") => `(tactic| fail)
set_option maxHeartbeats 2000000
section
variable {prog : Program} {w : World} {A : Around} {E : Value → Shared → Prop} {s : Shared} {b : Heap} {L l : Addr} {nw : List (Addr × Obj)} {m : Str → Option Value} {v : Value} {n : Nat} {u : Tok} {Q : Value → Shared → Prop}
theorem news_front3 {h : Heap} {p q r x : Addr × Obj} (N : News b L h (p :: q :: r :: x :: nw)) : News b L h (x :: p :: q :: r :: nw) := fun y hy => N y (by
  rcases List.mem_cons.mp hy with rfl | hy
  · exact .tail _ (.tail _ (.tail _ (.head _)))
  · rcases List.mem_cons.mp hy with rfl | hy
    · exact .head _
    · rcases List.mem_cons.mp hy with rfl | hy
      · exact .tail _ (.head _)
      · rcases List.mem_cons.mp hy with rfl | hy
        · exact .tail _ (.tail _ (.head _))
        · exact .tail _ (.tail _ (.tail _ (.tail _ hy))))
theorem mul_none (F : Fr b L s.heap m) (N : News b L s.heap nw) (hm : (l, ({ cls := .type "list", data := .seq #[v] n } : Obj)) ∈ nw)
    (h : ∀ h' D, Fr b L h' m → News b L h' ((D, W.listOf #[] 0) :: nw) → Q (.ref D) { s with heap := h' }) : wpAny (model prog w) A (binaryOp .Mult (.ref l) (.int 0 u)) Q E s :=
  mul_list F N (N _ hm).1 (by decide) (by decide) (by simp) fun h' F' N' => h h' _ F' N'
theorem mul_once (F : Fr b L s.heap m) (N : News b L s.heap nw) (hm : (l, ({ cls := .type "list", data := .seq #[v] n } : Obj)) ∈ nw)
    (h : ∀ h' D, Fr b L h' m → News b L h' ((D, W.listOf #[v] 0) :: nw) → (∀ p ∈ nw, p.1 < D) → Q (.ref D) { s with heap := h' }) : wpAny (model prog w) A (binaryOp .Mult (.ref l) (.int 1 u)) Q E s :=
  mul_list F N (N _ hm).1 (by decide) (by decide) (by simp) fun h' F' N' => h h' _ F' N' fun p hp => Heap.lt_size (N _ hp).1
end
theorem s_voters0
    (w : World) (b : Heap) (mean : ExcName → Option Value) (mg mb : Str → Option Value) (L fa : Addr) (cd : Value)
    (s : Shared) (m : Str → Option Value) (nw : List (Addr × Obj)) (E : Value → Shared → Prop) (Q : Flow → Shared → Prop)
    (K0 : Below callerA b [] b) (F : Fr b L s.heap m) (va : Addr) (N : News b L s.heap ((va, W.listOf #[] 0) :: nw)) (KX : (K w.params).In b) (T : Top vw lse mean mg mb b)
    (mm : Int) (m1 : 1 ≤ mm) (m4 : mm ≤ 4) (pa pd ca : Addr) (cn : Value) (k1 k2 k3 u u2 : Tok) (cis : Array Value) (n1 : Nat) (hv : m (Str.ofString "voters") = some (.int 0 u)) (hp : m (Str.ofString "profile") = some (.ref pa))
    (p1 : (pa, instObj 562 pd) ∈ nw) (p2 : (pd, dictOf [ent w "candidates" k1 (.ref ca), ent w "cand_names" k2 cn, ent w "_voters" k3 (.ref va)] 3) ∈ nw) (p3 : (ca, W.listOf cis n1) ∈ nw) (p4 : (cis.size : Int) = mm) (hne : ∀ p ∈ nw, p.1 ≠ va)
    (hret : ∀ h' tk vis vn nw', Fr b L h' m → News b L h' ((va, W.listOf vis vn) :: nw') → (∀ p ∈ nw, p ∈ nw') → vis.size = 0 → Q .next { s with heap := h', toks := tk }) :
    wpAny (model P w) (callerA.deeper (lawE L fa cd)) (exec (lawStmt 9) (lawE L fa cd)) Q E s := by
  have hsc : lawScope = lawScope := rfl
  with_unfolding_all conv at hsc => rhs; whnf
  have hst := lawStmt_eq 9
  with_unfolding_all conv at hst => rhs; whnf
  delta lawE
  rw [hsc, hst]
  clear hsc hst
  delta K lse P at *
  revert KX
  k_fill
  intro KX
  delta ent at p2
  k_steps
  refine mul_none (by k_asm) (by k_asm) (.head _) ?_
  intro h' D' F' N'
  repeat' (first | (k_unfold; (try dsimp only)) | (k_end; wrow_close) | ((fail_if_success (with_reducible show wpAny _ _ (exec (Stmt.For _ _ _ _ _) _) _ _ _)); walk1) | (dsimp only; (fail_if_success (with_reducible show wpAny _ _ (exec (Stmt.For _ _ _ _ _) _) _ _ _)); walk1) | ((fail_if_success (with_reducible show wpAny _ _ (exec (Stmt.For _ _ _ _ _) _) _ _ _)); leave1; try dsimp only) | fail)
  with_unfolding_all refine' For_invVF (by assumption) ?k1 ?k2 ?_
  case k1 => exact rfl
  case k2 => exact rfl
  k_steps
  refine iter_listUnr (lo := W.listOf #[] 0) (vs := []) (by rfl) (by k_asm) (by k_asm) (.head _) (by rfl) (by rfl) ?_
  intro I lI h9 tk9 F9 N9
  k_steps
  rename_i kF kN Tc kX
  exact hret _ _ _ _ _ kF (news_front3 kN) (fun p hp => .tail _ (.tail _ (.tail _ hp))) rfl
end
section
set_option maxHeartbeats 2000000
theorem mod3 (d : Int) : d.fmod 3 = 0 ∨ d.fmod 3 = 1 ∨ d.fmod 3 = 2 := by
  have := Int.fmod_eq_emod_of_nonneg d (b := 3) (by decide)
  omega
theorem mod6 (d : Int) : d.fmod 6 = 0 ∨ d.fmod 6 = 1 ∨ d.fmod 6 = 2 ∨ d.fmod 6 = 3 ∨ d.fmod 6 = 4 ∨ d.fmod 6 = 5 := by
  have := Int.fmod_eq_emod_of_nonneg d (b := 6) (by decide)
  omega
theorem s_size
    (w : World) (b : Heap) (mean : ExcName → Option Value) (mg mb : Str → Option Value) (L fa : Addr) (cd : Value)
    (s : Shared) (m : Str → Option Value) (nw : List (Addr × Obj)) (E : Value → Shared → Prop) (Q : Flow → Shared → Prop)
    (K0 : Below callerA b [] b) (F : Fr b L s.heap m) (N : News b L s.heap nw) (KX : (K w.params).In b) (T : Top vw lse mean mg mb b)
    (D : Addr) (d0 d1 d2 d3 d4 d5 d6 d7 : Int) (t0 t1 t2 t3 t4 t5 t6 t7 : Tok) (hD : (D, drawsObj d0 d1 d2 d3 d4 d5 d6 d7 t0 t1 t2 t3 t4 t5 t6 t7) ∈ nw)
    (hd : m (Str.ofString "draws") = some (.ref D))
    (mm : Int) (u : Tok) (hm : m (Str.ofString "m") = some (.int mm u)) (m1 : 1 ≤ mm) (m4 : mm ≤ 4) (b3 : 0 ≤ d3 ∧ d3 < 2000000)
    (hret : ∀ h' tk nw' sz u1, Fr b L h' (upd m "size" (.int sz u1)) → News b L h' nw' → (∀ p ∈ nw, p ∈ nw') → Q .next { s with heap := h', toks := tk }) :
    wpAny (model P w) (callerA.deeper (lawE L fa cd)) (exec (lawStmt 10) (lawE L fa cd)) Q E s := by
  have hsc : lawScope = lawScope := rfl
  with_unfolding_all conv at hsc => rhs; whnf
  have hst := lawStmt_eq 10
  with_unfolding_all conv at hst => rhs; whnf
  delta lawE
  rw [hsc, hst]
  clear hsc hst
  delta K lse P at *
  revert KX
  k_fill
  intro KX
  k_steps
  all_goals exact hret _ _ _ _ _ (by assumption) (by assumption) (fun p hp => .tail _ hp)
theorem s_way
    (w : World) (b : Heap) (mean : ExcName → Option Value) (mg mb : Str → Option Value) (L fa : Addr) (cd : Value)
    (s : Shared) (m : Str → Option Value) (nw : List (Addr × Obj)) (E : Value → Shared → Prop) (Q : Flow → Shared → Prop)
    (K0 : Below callerA b [] b) (F : Fr b L s.heap m) (N : News b L s.heap nw) (KX : (K w.params).In b) (T : Top vw lse mean mg mb b)
    (D : Addr) (d0 d1 d2 d3 d4 d5 d6 d7 : Int) (t0 t1 t2 t3 t4 t5 t6 t7 : Tok) (hD : (D, drawsObj d0 d1 d2 d3 d4 d5 d6 d7 t0 t1 t2 t3 t4 t5 t6 t7) ∈ nw)
    (hd : m (Str.ofString "draws") = some (.ref D))
    (b5 : 0 ≤ d5 ∧ d5 < 2000000)
    (hret : ∀ h' tk nw' r dr rt tr, Fr b L h' (upd m "resolute" r) → News b L h' nw' → (∀ p ∈ nw, p ∈ nw') → WayV r dr rt tr → Q .next { s with heap := h', toks := tk }) :
    wpAny (model P w) (callerA.deeper (lawE L fa cd)) (exec (lawStmt 12) (lawE L fa cd)) Q E s := by
  have hsc : lawScope = lawScope := rfl
  with_unfolding_all conv at hsc => rhs; whnf
  have hst := lawStmt_eq 12
  with_unfolding_all conv at hst => rhs; whnf
  delta lawE
  rw [hsc, hst]
  clear hsc hst
  delta K lse P at *
  revert KX
  k_fill
  intro KX
  repeat' (first | (k_unfold; (try dsimp only)) | (k_end; wrow_close) | ((fail_if_success (with_reducible show wpAny _ _ (subscriptTail _ _ (Value.ref _) (Value.int (Int.fmod _ _) _)) _ _ _)); walk1) | (dsimp only; (fail_if_success (with_reducible show wpAny _ _ (subscriptTail _ _ (Value.ref _) (Value.int (Int.fmod _ _) _)) _ _ _)); walk1) | ((fail_if_success (with_reducible show wpAny _ _ (subscriptTail _ _ (Value.ref _) (Value.int (Int.fmod _ _) _)) _ _ _)); leave1; try dsimp only) | fail)
  rcases mod3 d5 with e | e | e
  all_goals rw [e]
  all_goals k_steps
  all_goals exact hret _ _ _ _ _ _ _ (by assumption) (by assumption) (fun p hp => .tail _ hp) (by constructor)
theorem s_bound
    (w : World) (b : Heap) (mean : ExcName → Option Value) (mg mb : Str → Option Value) (L fa : Addr) (cd : Value)
    (s : Shared) (m : Str → Option Value) (nw : List (Addr × Obj)) (E : Value → Shared → Prop) (Q : Flow → Shared → Prop)
    (K0 : Below callerA b [] b) (F : Fr b L s.heap m) (N : News b L s.heap nw) (KX : (K w.params).In b) (T : Top vw lse mean mg mb b)
    (D : Addr) (d0 d1 d2 d3 d4 d5 d6 d7 : Int) (t0 t1 t2 t3 t4 t5 t6 t7 : Tok) (hD : (D, drawsObj d0 d1 d2 d3 d4 d5 d6 d7 t0 t1 t2 t3 t4 t5 t6 t7) ∈ nw)
    (hd : m (Str.ofString "draws") = some (.ref D))
    (b6 : 0 ≤ d6 ∧ d6 < 2000000)
    (hret : ∀ h' tk nw' bd told bad, Fr b L h' (upd m "bound" bd) → News b L h' nw' → (∀ p ∈ nw, p ∈ nw') → BoundV bd told bad → Q .next { s with heap := h', toks := tk }) :
    wpAny (model P w) (callerA.deeper (lawE L fa cd)) (exec (lawStmt 13) (lawE L fa cd)) Q E s := by
  have hsc : lawScope = lawScope := rfl
  with_unfolding_all conv at hsc => rhs; whnf
  have hst := lawStmt_eq 13
  with_unfolding_all conv at hst => rhs; whnf
  delta lawE
  rw [hsc, hst]
  clear hsc hst
  delta K lse P at *
  revert KX
  k_fill
  intro KX
  repeat' (first | (k_unfold; (try dsimp only)) | (k_end; wrow_close) | ((fail_if_success (with_reducible show wpAny _ _ (subscriptTail _ _ (Value.ref _) (Value.int (Int.fmod _ _) _)) _ _ _)); walk1) | (dsimp only; (fail_if_success (with_reducible show wpAny _ _ (subscriptTail _ _ (Value.ref _) (Value.int (Int.fmod _ _) _)) _ _ _)); walk1) | ((fail_if_success (with_reducible show wpAny _ _ (subscriptTail _ _ (Value.ref _) (Value.int (Int.fmod _ _) _)) _ _ _)); leave1; try dsimp only) | fail)
  rcases mod6 d6 with e | e | e | e | e | e
  all_goals rw [e]
  all_goals k_steps
  all_goals exact hret _ _ _ _ _ _ (by assumption) (by assumption) (fun p hp => .tail _ hp) (by first | exact .none | exact .text _ | exact .int _ _ (by decide))
end
section
local macro_rules | `(tactic| walk_at "call ref") => `(tactic| refine stop_of ?_)
section
set_option maxHeartbeats 2000000
theorem mod32 (d : Int) (h : 0 ≤ d) : 0 ≤ d.fmod 32 ∧ d.fmod 32 < 32 := by
  have := Int.fmod_eq_emod_of_nonneg d (b := 32) (by decide)
  omega
theorem rowT_len : rowT.length = 32 := by decide +kernel
theorem rowT_kind : ∀ r ∈ rowT, r.kind = 0 ∨ r.kind = 1 ∨ r.kind = 2 := by decide +kernel
theorem s_row
    (w : World) (b : Heap) (mean : ExcName → Option Value) (mg mb : Str → Option Value) (L fa : Addr) (cd : Value)
    (s : Shared) (m : Str → Option Value) (nw : List (Addr × Obj)) (E : Value → Shared → Prop) (Q : Flow → Shared → Prop)
    (K0 : Below callerA b [] b) (F : Fr b L s.heap m) (N : News b L s.heap nw) (KX : (K w.params).In b) (T : Top vw lse mean mg mb b)
    (D : Addr) (d0 d1 d2 d3 d4 d5 d6 d7 : Int) (t0 t1 t2 t3 t4 t5 t6 t7 : Tok) (hD : (D, drawsObj d0 d1 d2 d3 d4 d5 d6 d7 t0 t1 t2 t3 t4 t5 t6 t7) ∈ nw)
    (hd : m (Str.ofString "draws") = some (.ref D))
    (b0 : 0 ≤ d0 ∧ d0 < 2000000)
    (hret : ∀ h' tk nw' r aa u1 u2 u3, r ∈ rowT → Fr b L h' (upd (upd (upd (upd m "name" (.str r.name u1)) "short" (.str r.short u2)) "algorithms" (.ref aa)) "kind" (.int (r.kind : Nat) u3)) → News b L h' nw' → (∀ p ∈ nw, p ∈ nw') → TupC (K w.params) nw' aa (r.algs.map PyData.str) → Q .next { s with heap := h', toks := tk }) :
    wpAny (model P w) (callerA.deeper (lawE L fa cd)) (exec (lawStmt 1) (lawE L fa cd)) Q E s := by
  have hsc : lawScope = lawScope := rfl
  with_unfolding_all conv at hsc => rhs; whnf
  have hst := lawStmt_eq 1
  with_unfolding_all conv at hst => rhs; whnf
  delta lawE
  rw [hsc, hst]
  clear hsc hst
  delta K lse P at *
  revert KX
  k_fill
  intro KX
  k_steps
  show wpAny _ _ _ _ _ _
  refine c_rows w b mean mg mb _ _ _ L fa cd _ _ _ _ _ K0 (by assumption) (by assumption) KX T ?_
  intro h' tk l vs nw' F' N' hsub hrows
  have hD' : _ ∈ (l, W.listOf vs 0) :: nw' := .tail _ (hsub _ hD)
  repeat' (first | (k_unfold; (try dsimp only)) | (k_end; wrow_close) | ((fail_if_success (with_reducible show wpAny _ _ (subscriptTail _ _ (Value.ref _) (Value.int (Int.fmod _ _) _)) _ _ _)); walk1) | (dsimp only; (fail_if_success (with_reducible show wpAny _ _ (subscriptTail _ _ (Value.ref _) (Value.int (Int.fmod _ _) _)) _ _ _)); walk1) | ((fail_if_success (with_reducible show wpAny _ _ (subscriptTail _ _ (Value.ref _) (Value.int (Int.fmod _ _) _)) _ _ _)); leave1; try dsimp only) | fail)
  have hk := mod32 d0 b0.1
  obtain ⟨r, hr⟩ : ∃ r, rowT[(d0.fmod 32).toNat]? = some r := ⟨_, List.getElem?_eq_getElem (by rw [rowT_len]; omega)⟩
  obtain ⟨v, hv, ra, u1, u2, u3, aa, rfl, hra, htc⟩ := hrows.get hr
  have hrm : r ∈ rowT := List.mem_of_getElem? hr
  have hra' := List.Mem.tail (l, W.listOf vs 0) hra
  dsimp only
  refine item_arr (by assumption) (.head _) hk.1 (by omega) (by simpa using hv) (by with_unfolding_all rfl) ?_
  k_steps
  all_goals exact hret _ _ _ _ _ _ _ _ hrm (by assumption) (by assumption) (fun p hp => .tail _ (hsub _ hp)) (htc.mono fun p hp => .tail _ hp)
end
section
local macro_rules | `(tactic| walk_at "pad") => `(tactic| fail)
set_option maxHeartbeats 2000000
theorem s_ways
    (w : World) (b : Heap) (mean : ExcName → Option Value) (mg mb : Str → Option Value) (L fa : Addr) (cd : Value)
    (s : Shared) (m : Str → Option Value) (nw : List (Addr × Obj)) (E : Value → Shared → Prop) (Q : Flow → Shared → Prop)
    (K0 : Below callerA b [] b) (F : Fr b L s.heap m) (N : News b L s.heap nw) (KX : (K w.params).In b) (T : Top vw lse mean mg mb b)
    (r : RowS) (u : Tok) (hr : r ∈ rowT) (hk : m (Str.ofString "kind") = some (.int (r.kind : Nat) u))
    (hret : ∀ h' tk nw' wa, Fr b L h' (upd m "ways" (.ref wa)) → News b L h' nw' → (∀ p ∈ nw, p ∈ nw') → TupC (K w.params) nw' wa (waysT r.kind) → Q .next { s with heap := h', toks := tk }) :
    wpAny (model P w) (callerA.deeper (lawE L fa cd)) (exec (lawStmt 2) (lawE L fa cd)) Q E s := by
  have hsc : lawScope = lawScope := rfl
  with_unfolding_all conv at hsc => rhs; whnf
  have hst := lawStmt_eq 2
  with_unfolding_all conv at hst => rhs; whnf
  delta lawE
  rw [hsc, hst]
  clear hsc hst
  delta K lse P at *
  revert KX
  k_fill
  intro KX
  rcases rowT_kind r hr with e | e | e
  all_goals rw [e] at hk
  case inl => replace hk : m (Str.ofString "kind") = some (.int 0 u) := hk; k_steps; exact hret _ _ _ _ (by assumption) (by assumption) (fun p hp => .tail _ (.tail _ (.tail _ (.tail _ hp)))) (by rw [e]; exact ⟨_, _, _, .inr (by first | exact .head _ | exact .tail _ (.head _) | exact .tail _ (.tail _ (.head _)) | exact .tail _ (.tail _ (.tail _ (.head _)))), rfl, rfl, by repeat constructor⟩)
  case inr.inl => replace hk : m (Str.ofString "kind") = some (.int 1 u) := hk; k_steps; exact hret _ _ _ _ (by assumption) (by assumption) (fun p hp => .tail _ (.tail _ (.tail _ (.tail _ hp)))) (by rw [e]; exact ⟨_, _, _, .inr (by first | exact .head _ | exact .tail _ (.head _) | exact .tail _ (.tail _ (.head _)) | exact .tail _ (.tail _ (.tail _ (.head _)))), rfl, rfl, by repeat constructor⟩)
  case inr.inr => replace hk : m (Str.ofString "kind") = some (.int 2 u) := hk; k_steps; exact hret _ _ _ _ (by assumption) (by assumption) (fun p hp => .tail _ (.tail _ (.tail _ (.tail _ hp)))) (by rw [e]; exact ⟨_, _, _, .inr (by first | exact .head _ | exact .tail _ (.head _) | exact .tail _ (.tail _ (.head _)) | exact .tail _ (.tail _ (.tail _ (.head _)))), rfl, rfl, by repeat constructor⟩)
end
section
set_option maxHeartbeats 2000000
/-- the rule's object, as the ledger holds it -/
noncomputable def RuleOk (w : World) (nw : List (Addr × Obj)) (ra : Addr) (r : RowS) (aa wa al : Addr) : Prop :=
  ∃ rd its n c2 k1 k2 k3 k4 k5 k6 u1 u2 u3, (ra, instObj 355 rd) ∈ nw ∧
    (rd, dictOf [ent w "rule_id" k1 (.str r.name u1), ent w "shortname" k2 (.str r.short u2), ent w "longname" k3 (.str c2 u3), ent w "algorithms" k4 (.ref aa), ent w "resolute_values" k5 (.ref wa), ent w "available_algorithms" k6 (.ref al)] 6) ∈ nw ∧
    (al, W.listOf its n) ∈ nw ∧ TupC (K w.params) nw aa (r.algs.map PyData.str) ∧ TupC (K w.params) nw wa (waysT r.kind) ∧ StrsAre its.toList (r.algs.filter fun y => thereT.any (· == y))
theorem RuleOk.mono {w : World} {x y : List (Addr × Obj)} {ra : Addr} {r : RowS} {aa wa al : Addr} (h : RuleOk w x ra r aa wa al) (hs : ∀ p ∈ x, p ∈ y) : RuleOk w y ra r aa wa al := by
  obtain ⟨rd, its, n, c2, k1, k2, k3, k4, k5, k6, u1, u2, u3, h1, h2, h3, h4, h5, h6⟩ := h
  exact ⟨rd, its, n, c2, k1, k2, k3, k4, k5, k6, u1, u2, u3, hs _ h1, hs _ h2, hs _ h3, h4.mono hs, h5.mono hs, h6⟩
theorem s_rule
    (w : World) (b : Heap) (mean : ExcName → Option Value) (mg mb : Str → Option Value) (L fa : Addr) (cd : Value)
    (s : Shared) (m : Str → Option Value) (nw : List (Addr × Obj)) (E : Value → Shared → Prop) (Q : Flow → Shared → Prop)
    (K0 : Below callerA b [] b) (F : Fr b L s.heap m) (N : News b L s.heap nw) (KX : (K w.params).In b) (T : Top vw lse mean mg mb b)
    (r : RowS) (u : Tok) (hr : r ∈ rowT) (hn : m (Str.ofString "name") = some (.str r.name u))
    (hret : ∀ h' tk nw' ra aa wa al, Fr b L h' (upd m "rule" (.ref ra)) → News b L h' nw' → (∀ p ∈ nw, p ∈ nw') → RuleOk w nw' ra r aa wa al → Q .next { s with heap := h', toks := tk }) :
    wpAny (model P w) (callerA.deeper (lawE L fa cd)) (exec (lawStmt 3) (lawE L fa cd)) Q E s := by
  have hsc : lawScope = lawScope := rfl
  with_unfolding_all conv at hsc => rhs; whnf
  have hst := lawStmt_eq 3
  with_unfolding_all conv at hst => rhs; whnf
  delta lawE
  rw [hsc, hst]
  clear hsc hst
  delta K lse P at *
  revert KX
  k_fill
  intro KX
  k_steps
  show wpAny _ _ _ _ _ _
  refine c_ruleAll w b mean mg mb _ _ _ L fa cd _ _ _ _ _ K0 (by assumption) (by assumption) KX T r _ hr ?_
  intro h' tk ra rd aa wa al its n nw' c2 k1 k2 k3 k4 k5 k6 u1 u2 u3 F' N' hsub htc htc' hits
  k_steps
  all_goals exact hret _ _ _ _ _ _ _ (by assumption) (by assumption) (fun p hp => .tail _ (.tail _ (.tail _ (hsub _ hp)))) ⟨_, _, _, _, _, _, _, _, _, _, _, _, _, .head _, .tail _ (.head _), .tail _ (.tail _ (.head _)), htc.mono fun p hp => .tail _ (.tail _ (.tail _ hp)), htc'.mono fun p hp => .tail _ (.tail _ (.tail _ hp)), hits⟩
end
section
local macro_rules | `(tactic| walk_at "pad") => `(tactic| fail)
set_option maxHeartbeats 2000000
noncomputable def thereIn (KF : Frag) : Bool := match nsIn KF mainGlobals (Str.ofString "_law_there") with
  | some (some (.ref t)) => tupIn KF t (thereT.map PyData.str)
  | _ => false
theorem there_of {KF : Frag} (h : thereIn KF = true) : ∃ ga, nsIn KF mainGlobals (Str.ofString "_law_there") = some (some (.ref ga)) ∧ tupIn KF ga (thereT.map PyData.str) = true := by
  unfold thereIn at h
  split at h
  · exact ⟨_, ‹_›, h⟩
  · cases h
theorem there_tup (p : Params) : ∃ ga, nsIn (K p) mainGlobals (Str.ofString "_law_there") = some (some (.ref ga)) ∧ tupIn (K p) ga (thereT.map PyData.str) = true := there_of (by kernel_rfl)
theorem s_some
    (w : World) (b : Heap) (mean : ExcName → Option Value) (mg mb : Str → Option Value) (L fa : Addr) (cd : Value)
    (s : Shared) (m : Str → Option Value) (nw : List (Addr × Obj)) (E : Value → Shared → Prop) (Q : Flow → Shared → Prop)
    (K0 : Below callerA b [] b) (F : Fr b L s.heap m) (N : News b L s.heap nw) (KX : (K w.params).In b) (T : Top vw lse mean mg mb b)
    (aa : Addr) (ts : List Str) (ha : m (Str.ofString "algorithms") = some (.ref aa)) (htc : TupC (K w.params) nw aa (ts.map PyData.str)) (h8 : ts.length ≤ 8)
    (hret : ∀ h' tk D ys, Fr b L h' (upd m "some" (.ref D)) → News b L h' ((D, LCg.lst ys) :: nw) → StrsAre ys (ts.filter fun y => thereT.any (· == y)) → Q .next { s with heap := h', toks := tk }) :
    wpAny (model P w) (callerA.deeper (lawE L fa cd)) (exec (lawStmt 4) (lawE L fa cd)) Q E s := by
  have hsc : lawScope = lawScope := rfl
  with_unfolding_all conv at hsc => rhs; whnf
  have hst := lawStmt_eq 4
  with_unfolding_all conv at hst => rhs; whnf
  delta lawE
  rw [hsc, hst]
  clear hsc hst
  obtain ⟨ga, hg1, hg2⟩ := there_tup w.params
  refine some_comp (there := thereT) rfl F KX T N ha htc h8 hg1 hg2 (by with_unfolding_all rfl) (by rfl) (by decide) rfl (by decide) rfl (fun _ => rfl) (fun _ => rfl) (by decide) (by decide) (by decide) rfl rfl rfl (fun _ => rfl) hret
noncomputable def rowData (r : RowS) : PyData := .tuple [.str r.name, .str r.short, .tuple (r.algs.map PyData.str), .tuple (waysT r.kind)]
theorem rowT_data : ∀ r ∈ rowT, PyData.eqv (rowData r) (rowData r) = true ∧ (rowData r).canLay0 = true ∧ (rowData r).depth ≤ 4 := by decide +kernel
theorem TupC.reads {KF : Frag} {nw : List (Addr × Obj)} {b h : Heap} {L aa : Addr} {ds : List PyData} (tc : TupC KF nw aa ds) (X : KF.In h) (N : News b L h nw) : ∃ as, Reads h (.ref aa) (.tuple ds) as := by
  obtain ⟨vs, ⟨o, h1, h2, n, h3⟩, hc⟩ := tc.at X N (fun _ hp => hp)
  exact ⟨_, .tuple h1 h2 h3 (hc.reads)⟩
theorem row_reads {KF : Frag} {nw : List (Addr × Obj)} {b h : Heap} {L t aa wa : Addr} {r : RowS} {u1 u2 : Tok} (X : KF.In h) (N : News b L h nw) (ht : (t, ({ cls := .type "tuple", data := .seq #[.str r.name u1, .str r.short u2, .ref aa, .ref wa] } : Obj)) ∈ nw)
    (ha : TupC KF nw aa (r.algs.map PyData.str)) (hw : TupC KF nw wa (waysT r.kind)) : ∃ as, Reads h (.ref t) (rowData r) as := by
  obtain ⟨a1, r1⟩ := ha.reads X N
  obtain ⟨a2, r2⟩ := hw.reads X N
  exact ⟨_, .tuple (N _ ht).1 rfl rfl (.cons (.str _ _) (.cons (.str _ _) (.cons r1 (.cons r2 .nil))))⟩
theorem s_same
    (w : World) (b : Heap) (mean : ExcName → Option Value) (mg mb : Str → Option Value) (L fa : Addr) (cd : Value)
    (s : Shared) (m : Str → Option Value) (nw : List (Addr × Obj)) (E : Value → Shared → Prop) (Q : Flow → Shared → Prop)
    (K0 : Below callerA b [] b) (F : Fr b L s.heap m) (N : News b L s.heap nw) (KX : (K w.params).In b) (T : Top vw lse mean mg mb b)
    (r : RowS) (hr : r ∈ rowT) (ra aa wa al a2 w2 : Addr) (u1 u2 : Tok) (hR : RuleOk w nw ra r aa wa al) (hrule : m (Str.ofString "rule") = some (.ref ra)) (hn : m (Str.ofString "name") = some (.str r.name u1)) (hs : m (Str.ofString "short") = some (.str r.short u2))
    (hal : m (Str.ofString "algorithms") = some (.ref a2)) (hwy : m (Str.ofString "ways") = some (.ref w2)) (ha2 : TupC (K w.params) nw a2 (r.algs.map PyData.str)) (hw2 : TupC (K w.params) nw w2 (waysT r.kind))
    (hret : ∀ h' tk nw', Fr b L h' m → News b L h' nw' → (∀ p ∈ nw, p ∈ nw') → Q .next { s with heap := h', toks := tk }) :
    wpAny (model P w) (callerA.deeper (lawE L fa cd)) (exec (lawStmt 5) (lawE L fa cd)) Q E s := by
  have hsc : lawScope = lawScope := rfl
  with_unfolding_all conv at hsc => rhs; whnf
  have hst := lawStmt_eq 5
  with_unfolding_all conv at hst => rhs; whnf
  delta lawE
  rw [hsc, hst]
  clear hsc hst
  delta K lse P at *
  revert KX
  k_fill
  intro KX
  obtain ⟨rd, its, n, c2, k1, k2, k3, k4, k5, k6, v1, v2, v3, h1, h2, h3, h4, h5, h6⟩ := hR
  delta ent at h2
  repeat' (first | (k_unfold; (try dsimp only)) | (k_end; wrow_close) | ((fail_if_success (with_reducible show wpAny _ _ (compareOp CmpOp.NotEq (Value.ref _) (Value.ref _)) _ _ _)); walk1) | (dsimp only; (fail_if_success (with_reducible show wpAny _ _ (compareOp CmpOp.NotEq (Value.ref _) (Value.ref _)) _ _ _)); walk1) | ((fail_if_success (with_reducible show wpAny _ _ (compareOp CmpOp.NotEq (Value.ref _) (Value.ref _)) _ _ _)); leave1; try dsimp only) | fail)
  rename_i D1 hh1 ll1 D2 hh2 F' N' ll2
  obtain ⟨q1, q2, q3⟩ := rowT_data r hr
  obtain ⟨as1, r1⟩ := row_reads (KX.keeps F'.keep) N' (.tail _ (.head _)) (h4.mono fun p hp => .tail _ (.tail _ hp)) (h5.mono fun p hp => .tail _ (.tail _ hp))
  obtain ⟨as2, r2⟩ := row_reads (KX.keeps F'.keep) N' (.head _) (ha2.mono fun p hp => .tail _ (.tail _ hp)) (hw2.mono fun p hp => .tail _ (.tail _ hp))
  refine SeqAt.compareNe_reads r1 r2 q2 q2 ?hu ?_
  case hu => exact Nat.lt_of_le_of_lt (Nat.add_le_add_left (Nat.le_trans (Nat.min_le_left _ _) q3) _) (Nat.le_of_ble_eq_true rfl)
  rw [q1]
  show wpAny _ _ (truthy (.bool false)) _ _ _
  k_steps
  all_goals exact hret _ _ _ (by assumption) (by assumption) (fun p hp => .tail _ (.tail _ hp))
end
section
set_option maxHeartbeats 2000000
theorem s_profile
    (w : World) (b : Heap) (mean : ExcName → Option Value) (mg mb : Str → Option Value) (L fa : Addr) (cd : Value)
    (s : Shared) (m : Str → Option Value) (nw : List (Addr × Obj)) (E : Value → Shared → Prop) (Q : Flow → Shared → Prop)
    (K0 : Below callerA b [] b) (F : Fr b L s.heap m) (N : News b L s.heap nw) (KX : (K w.params).In b) (T : Top vw lse mean mg mb b)
    (mm : Int) (u : Tok) (hm : m (Str.ofString "m") = some (.int mm u)) (m1 : 1 ≤ mm) (m4 : mm ≤ 4)
    (hret : ∀ h' tk pa pd ca cn va k1 k2 k3 cis n1 nw', Fr b L h' (upd m "profile" (.ref pa)) → News b L h' ((va, W.listOf #[] 0) :: nw') → (pa, instObj 562 pd) ∈ nw' → (pd, dictOf [ent w "candidates" k1 (.ref ca), ent w "cand_names" k2 cn, ent w "_voters" k3 (.ref va)] 3) ∈ nw' → (ca, W.listOf cis n1) ∈ nw' → (∀ p ∈ nw', p.1 ≠ va) → (∀ p ∈ nw, p ∈ nw') → (cis.size : Int) = mm → Q .next { s with heap := h', toks := tk }) :
    wpAny (model P w) (callerA.deeper (lawE L fa cd)) (exec (lawStmt 8) (lawE L fa cd)) Q E s := by
  have hsc : lawScope = lawScope := rfl
  with_unfolding_all conv at hsc => rhs; whnf
  have hst := lawStmt_eq 8
  with_unfolding_all conv at hst => rhs; whnf
  delta lawE
  rw [hsc, hst]
  clear hsc hst
  delta K lse P at *
  revert KX
  k_fill
  intro KX
  k_steps
  show wpAny _ _ _ _ _ _
  refine c_profile w b mean mg mb _ _ _ L fa cd _ _ _ _ _ K0 (by assumption) (by assumption) KX T mm _ m1 m4 ?_
  intro h' tk pa pd ca cn va k1 k2 k3 cis n1 nw' F' N' p1 p2 p3 hne hsub hz
  k_steps
  exact hret _ _ _ _ _ _ _ _ _ _ _ _ _ (by assumption) (by assumption) p1 p2 p3 hne hsub hz
end
end
end
section
local macro_rules | `(tactic| walk_at "wpAt") => `(tactic| (dsimp only; ks_step "execs cons"; refine ks_wpAt_execs_cons ?_))
local macro_rules | `(tactic| walk_at "wpAt") => `(tactic| (ks_step "exec Expr"; refine ks_wpAt_Expr_any (hi := by with_unfolding_all rfl) (hs := by with_unfolding_all rfl) ?_))
local macro_rules | `(tactic| walk_at "wpAt") => `(tactic| (ks_step "eval Call"; refine ks_wpAt_MethodCall (he := by with_unfolding_all rfl) ?_))
section
local macro_rules | `(tactic| k_inst) => `(tactic| exact inst_exc (by k_asm) (by k_mem))
section
local macro_rules | `(tactic| walk_at "pad") => `(tactic| fail)
set_option maxHeartbeats 2000000
section
variable {prog : Program} {w : World} {A : Around} {E : Value → Shared → Prop} {s : Shared} {b : Heap} {L : Addr} {nw : List (Addr × Obj)}
theorem fmt_tup {h₀ : Heap} {m : Str → Option Value} {KF : Frag} {l : List (Addr × Obj)} {aa : Addr} {ds : List PyData} {Q : Value → Shared → Prop} (F : Fr h₀ L s.heap m) (X₀ : KF.In h₀) (N : News h₀ L s.heap l) (tc : TupC KF nw aa ds) (hs : ∀ p ∈ nw, p ∈ l)
    (hw : (PyData.tuple ds).showable = true) (hd : (PyData.tuple ds).hasDict = false) (hp : (PyData.tuple ds).depth ≤ 4) (hz : (PyData.tuple ds).shown.length ≤ 300) (hg : A.guards = some []) (hu : A.units + 6 < cLine)
    (hq : ∀ h' u tk, Fr h₀ L h' m → News h₀ L h' l → Q (.str (PyData.tuple ds).shown u) { s with heap := h', toks := tk }) : wpAny (model prog w) A (formatField (.ref aa) Str.empty) Q E s := by
  obtain ⟨vs, ⟨o, h1, h2, n, h3⟩, hc⟩ := tc.at (X₀.keeps F.keep) N hs
  exact formatField_of_reads (.tuple h1 h2 h3 hc.reads) hw (fun e => by rw [hd] at e; cases e) hg (by omega) (fun _ _ e => e) (fun h' u tk k => hq h' u tk (F.keeps k) (N.grown k)) (by rw [sizeLine_eq]; omega)
end
local macro_rules | `(tactic| walk_at "exec Raise some none") => `(tactic| refine stop_of ?_)
theorem c_fastest (w : World) (b : Heap) (mean : ExcName → Option Value) (mg mb : Str → Option Value) (fn : Str) (nms : List (Str × NameKind)) (mr : List (Str × Const)) (L fa : Addr) (cd : Value)
    (s : Shared) (m : Str → Option Value) (nw : List (Addr × Obj)) (E Q : Value → Shared → Prop)
    (K0 : Below callerA b [] b) (F : Fr b L s.heap m) (N : News b L s.heap nw) (KX : (K w.params).In b) (T : Top vw lse mean mg mb b)
    (nm : Str) (ra rd aa al : Addr) (k1 k2 k3 k4 k5 k6 u1 : Tok) (shv lnv wv : Value) (its : Array Value) (n : Nat) (avs algs : List Str)
    (r1 : (ra, instObj 355 rd) ∈ nw)
    (r2 : (rd, dictOf [ent w "rule_id" k1 (.str nm u1), ent w "shortname" k2 shv, ent w "longname" k3 lnv, ent w "algorithms" k4 (.ref aa), ent w "resolute_values" k5 wv, ent w "available_algorithms" k6 (.ref al)] 6) ∈ nw)
    (r3 : (al, W.listOf its n) ∈ nw) (hits : StrsAre its.toList avs) (tc : TupC (K w.params) nw aa (algs.map PyData.str)) (hsh : (PyData.tuple (algs.map PyData.str)).shown.length ≤ 300) (hsw : (PyData.tuple (algs.map PyData.str)).showable = true) (hsd : (PyData.tuple (algs.map PyData.str)).hasDict = false) (hsp : (PyData.tuple (algs.map PyData.str)).depth ≤ 4) (hnl : nm.length ≤ 100) (h8 : avs.length ≤ 8)
    (hret : ∀ h' tk t, Fr b L h' m → News b L h' nw → Q (.str (avs.headD (Str.ofString "none")) t) { s with heap := h', toks := tk }) :
    wpAny (model P w) (callerA.deeper (lawEnv fn nms mr L fa cd)) (call (.ref 625) [.ref ra]) Q E s := by
  delta lawEnv K lse P ent at *
  revert KX
  k_fill
  intro KX
  show wpAny _ _ _ _ _ _
  obtain ⟨l⟩ := its
  cases l with
  | nil =>
    repeat' (first | (k_unfold; (try dsimp only)) | (k_end; wrow_close) | ((fail_if_success (with_reducible show wpAny _ _ (truthy (Value.ref _)) _ _ _)); walk1) | (dsimp only; (fail_if_success (with_reducible show wpAny _ _ (truthy (Value.ref _)) _ _ _)); walk1) | ((fail_if_success (with_reducible show wpAny _ _ (truthy (Value.ref _)) _ _ _)); leave1; try dsimp only) | fail)
    show wpAny _ _ (truthy (.ref al)) _ _ _
    refine truthy_in (by k_asm) r3 (by simp) fun tk => ?_
    show if false = true then _ else _
    k_steps
    show wpAny _ _ (exec (Stmt.Raise (some _) none _) _) _ _ _
    refine raise_own rfl ?_
    repeat' (first | (k_unfold; (try dsimp only)) | (k_end; wrow_close) | ((fail_if_success (with_reducible show wpAny _ _ (call (Value.ref 422) _ _) _ _ _)); walk1) | (dsimp only; (fail_if_success (with_reducible show wpAny _ _ (call (Value.ref 422) _ _) _ _ _)); walk1) | ((fail_if_success (with_reducible show wpAny _ _ (call (Value.ref 422) _ _) _ _ _)); leave1; try dsimp only) | fail)
    show wpAny _ _ (call (Value.ref 422) _) _ _ _
    refine' exc_start (fI := 419) ?F ?X ?N ?q ?f ?c ?l ?_
    case F => k_asm
    case X => k_asm
    case N => k_asm
    case q => kernel_rfl
    case f => exact rfl
    case c => exact rfl
    case l => exact Nat.le_of_ble_eq_true rfl
    intro e' t' h' F' N' ne'
    repeat' (first | (k_unfold; (try dsimp only)) | (k_end; wrow_close) | ((fail_if_success (with_reducible show wpAny _ _ (formatField (Value.ref _) _) _ _ _)); walk1) | (dsimp only; (fail_if_success (with_reducible show wpAny _ _ (formatField (Value.ref _) _) _ _ _)); walk1) | ((fail_if_success (with_reducible show wpAny _ _ (formatField (Value.ref _) _) _ _ _)); leave1; try dsimp only) | fail)
    show wpAny _ _ (formatField (.ref aa) _) _ _ _
    refine' fmt_tup ?F ?X ?N tc ?hs hsw hsd hsp hsh ?g ?u ?_
    case F => k_asm
    case X => k_asm
    case N => k_asm
    case hs => exact fun p hp => .tail _ (.tail _ hp)
    case g => with_unfolding_all rfl
    case u => exact Nat.le_of_ble_eq_true rfl
    intro h' u tk F' N'
    repeat' (first | (k_unfold; (try dsimp only)) | (k_end; wrow_close) | ((fail_if_success (with_reducible show wpAny _ _ (getMethod (Value.ref _) _ _) _ _ _)); walk1) | (dsimp only; (fail_if_success (with_reducible show wpAny _ _ (getMethod (Value.ref _) _ _) _ _ _)); walk1) | ((fail_if_success (with_reducible show wpAny _ _ (getMethod (Value.ref _) _ _) _ _ _)); leave1; try dsimp only) | fail)
    refine' method_excB (C := 422) (fI := 419) ?F ?X ?N ?so ?x ?q ?o ?m ?n ?_
    case F => k_asm
    case X => k_asm
    case N => k_asm
    case so => k_mem
    case x => k_mem
    case q => kernel_rfl
    case o => k_is
    case m => ks_is
    case n => decide
    intro q' h' F' N'
    repeat' (first | (k_unfold; (try dsimp only)) | (k_end; wrow_close) | ((fail_if_success (with_reducible show wpAny _ _ (callWith _ (Value.ref _) _ _ _) _ _ _)); walk1) | (dsimp only; (fail_if_success (with_reducible show wpAny _ _ (callWith _ (Value.ref _) _ _ _) _ _ _)); walk1) | ((fail_if_success (with_reducible show wpAny _ _ (callWith _ (Value.ref _) _ _ _) _ _ _)); leave1; try dsimp only) | fail)
    refine' callWith_mw ?N ?q ?_
    case N => k_asm
    case q => k_mem
    repeat' (first | (k_unfold; (try dsimp only)) | (k_end; wrow_close) | ((fail_if_success (with_reducible show MwAt _ _ _)); (fail_if_success (with_reducible show wpAny _ _ (call (Value.ref _) [Value.str _ _] _) _ _ _)); walk1) | (dsimp only; (fail_if_success (with_reducible show MwAt _ _ _)); (fail_if_success (with_reducible show wpAny _ _ (call (Value.ref _) [Value.str _ _] _) _ _ _)); walk1) | ((fail_if_success (with_reducible show MwAt _ _ _)); (fail_if_success (with_reducible show wpAny _ _ (call (Value.ref _) [Value.str _ _] _) _ _ _)); leave1; try dsimp only) | fail)
    exact mwAt (by k_asm) (by k_mem)
    try dsimp only [List.nil_append, List.cons_append]
    show wpAny _ _ (call (Value.ref _) [Value.str _ _]) _ _ _
    refine' call_mwK (C := 422) (fI := 419) ?F ?X ?N ?q ?mw ?e ?r ?ne ?_
    case F => k_asm
    case X => k_asm
    case N => k_asm
    case mw => k_mem
    case e => k_mem
    case q => kernel_rfl
    case ne => exact ne'
    case r => intro p hp; k_mem
    intro tn' h' F' N' nt' et'
    repeat' (first | (k_unfold; (try dsimp only)) | (k_end; wrow_close) | ((fail_if_success (with_reducible show _ = _ ∧ RaisableO _ _ _)); walk1) | (dsimp only; (fail_if_success (with_reducible show _ = _ ∧ RaisableO _ _ _)); walk1) | ((fail_if_success (with_reducible show _ = _ ∧ RaisableO _ _ _)); leave1; try dsimp only) | fail)
    refine' And.right (raise_done (C := 422) (fI := 419) ?F ?X ?N ?q ?ne ?nt ?et ?_)
    case F => k_asm
    case X => k_asm
    case N => k_asm
    case q => kernel_rfl
    case ne => exact ne'
    case nt => exact nt'
    case et => exact et'
    intro h₂ F' N' x'
    repeat' (first | (k_unfold; (try dsimp only)) | (k_end; wrow_close) | ((fail_if_success (with_reducible show Q _ _)); walk1) | (dsimp only; (fail_if_success (with_reducible show Q _ _)); walk1) | ((fail_if_success (with_reducible show Q _ _)); leave1; try dsimp only) | fail)
    cases hits
    exact hret _ _ _ (by assumption) (by assumption)
  | cons v l =>
    repeat' (first | (k_unfold; (try dsimp only)) | (k_end; wrow_close) | ((fail_if_success (with_reducible show wpAny _ _ (truthy (Value.ref _)) _ _ _)); walk1) | (dsimp only; (fail_if_success (with_reducible show wpAny _ _ (truthy (Value.ref _)) _ _ _)); walk1) | ((fail_if_success (with_reducible show wpAny _ _ (truthy (Value.ref _)) _ _ _)); leave1; try dsimp only) | fail)
    show wpAny _ _ (truthy (.ref al)) _ _ _
    refine truthy_in (by k_asm) r3 (by have := hits.length; simp at this ⊢; omega) fun tk => ?_
    show if true = true then _ else _
    repeat' (first | (k_unfold; (try dsimp only)) | (k_end; wrow_close) | ((fail_if_success (with_reducible show wpAny _ _ (subscriptTail _ _ (Value.ref _) (Value.int _ _)) _ _ _)); walk1) | (dsimp only; (fail_if_success (with_reducible show wpAny _ _ (subscriptTail _ _ (Value.ref _) (Value.int _ _)) _ _ _)); walk1) | ((fail_if_success (with_reducible show wpAny _ _ (subscriptTail _ _ (Value.ref _) (Value.int _ _)) _ _ _)); leave1; try dsimp only) | fail)
    cases hits with
    | cons y t hits => 
      dsimp only
      refine item_arr (v := .str y t) (by k_asm) r3 (by decide) (by decide) (by simp) (by with_unfolding_all rfl) ?_
      repeat' (first | (k_unfold; (try dsimp only)) | (k_end; wrow_close) | ((fail_if_success (with_reducible show Q _ _)); walk1) | (dsimp only; (fail_if_success (with_reducible show Q _ _)); walk1) | ((fail_if_success (with_reducible show Q _ _)); leave1; try dsimp only) | fail)
      all_goals exact hret _ _ _ (by assumption) (by assumption)
end
section
set_option maxHeartbeats 0
theorem len_empty : Str.empty.length ≤ 0 := by decide +kernel
theorem fits_in {x : Str} {k : Nat} (h : x.length ≤ k) (hk : Nat.ble k 16777216 = true) : x.length ≤ sizeLine := by
  rw [sizeLine_eq]
  exact Nat.le_trans h (Nat.le_of_ble_eq_true hk)
section
variable {prog : Program} {w : World} {A : Around} {E : Value → Shared → Prop} {s : Shared} {h₀ : Heap} {L a : Addr} {m mg mb : Str → Option Value} {nw : List (Addr × Obj)} {name : Str} {scope : Scope} {cd : Value}
theorem if_rest {st : Stmt} {Q : Flow → Shared → Prop} {x : Str} {u1 : Tok} (e : st = ruleIf) (hgo : ifGo (Str.ofString "rule_id") x 40 ruleIf = .inl (elseOf 28 ruleIf))
    (F : Fr h₀ L s.heap m) (N : News h₀ L s.heap nw) (hrid : m (Str.ofString "rule_id") = some (.str x u1)) (hk : scope.kind = .function) (hl2 : (envOf name scope L a cd).kindOf (Str.ofString "rule_id") = some .local)
    (h : ∀ h' tk, Fr h₀ L h' m → News h₀ L h' nw → wpAny (model prog w) A (exec (elseOf 28 st) (envOf name scope L a cd)) Q E { s with heap := h', toks := tk }) :
    wpAny (model prog w) A (exec st (envOf name scope L a cd)) Q E s := by
  subst e
  refine if_go hrid hk hl2 (by decide) 40 N F fun h' tk F N => ?_
  rw [hgo]
  exact h h' tk F N
end
theorem dicts_down {fs : List Addr} {g g' : Heap} {L : Addr} {m : Str → Option Value} (F : Fr g L g' m) (D : KtsDicts fs g) : KtsDicts (L :: fs) g' := by
  intro b hb
  rcases List.mem_cons.mp hb with rfl | hb
  · obtain ⟨o, es, ep, h1, h2, _⟩ := F.ns
    exact ⟨o, es, ep, h1, h2⟩
  · obtain ⟨o, es, n, h1, h2⟩ := D b hb
    exact ⟨o, es, n, F.keep _ _ h1, h2⟩
section
variable {prog : Program} {w : World} {A₀ : Around} {E : Value → Shared → Prop} {s' : Shared} {base g g₀ G : Heap} {outer : List Env} {L a e t : Addr} {m : Str → Option Value} {name : Str} {scope : Scope} {cd cls : Value}
  {vs : List Value} {hs : List ExceptHandler} {Q : Flow → Shared → Prop} {news : List (Addr × Obj)}
theorem lookS' (R : RaisedS base G (envOf name scope L a cd :: outer) e cls t vs news s'.heap) (F : Fr g L G m) (K : Below A₀ base outer g) (hsm : G.UpToSlots s'.heap) (D : KtsDicts (outer.filterMap (·.frame)) g)
    (k : ∀ h', RaisedS base G (envOf name scope L a cd :: outer) e cls t vs news h' → G.UpToSlots h' → KtsDicts (outer.filterMap (·.frame)) g → wpAny (model prog w) (A₀.deeper (envOf name scope L a cd)) (handleBy (.ref e) (envOf name scope L a cd) hs) Q E { s' with heap := h' }) :
    wpAny (model prog w) (A₀.deeper (envOf name scope L a cd)) (noteFrame (.ref e) (envOf name scope L a cd))
      (fun _ s₂ => wpAny (model prog w) (A₀.deeper (envOf name scope L a cd)) (setFlight (.ref e) none) (fun _ s₃ =>
        wpAny (model prog w) (A₀.deeper (envOf name scope L a cd)) (handleBy (.ref e) (envOf name scope L a cd) hs) Q E s₃) E s₂) E s' :=
  kts_lookS R F K hsm D fun h' r u => k h' r u D
end
end
section
local macro_rules | `(tactic| tb_rel) => `(tactic| first | rfl | assumption | exact decide_eq_true (by first | assumption | omega) | exact decide_eq_false (by first | assumption | omega) | (rw [Bool.true_and]; assumption))
local macro_rules | `(tactic| tb_start) => `(tactic| first | assumption | exact len_lit (k := 200) (by decide +kernel) | (with_reducible refine len_app ?_ ?_) <;> tb_start)
local macro_rules | `(tactic| walk_at "binaryOp Add str str") => `(tactic| ((refine' add_len ?x ?y ?z ?_; (case x => tb_start); (case y => tb_start); (case z => exact Nat.le_of_ble_eq_true rfl)); intro _ _))
local macro_rules | `(tactic| walk_at "compareOp NotIn str ref") => `(tactic| (k_here; k_dflt (refine' notin_alg ?h ?k ?_; (case h => assumption); (case k => exact Keeps.deep (by assumption) (by k_asm) (by k_asm) (fun p hp => by k_mem)); k_whole)))
local macro_rules | `(tactic| walk_at "compareOp NotIn") => `(tactic| (k_here; k_dflt (refine' notin_way ?h ?k ?r ?l ?u ?_; (case r => assumption); (case h => assumption); (case l => assumption); (case k => exact Keeps.deep (by assumption) (by k_asm) (by k_asm) (fun p hp => by k_mem)); (case u => exact Nat.le_of_ble_eq_true rfl); k_whole)))
local macro_rules | `(tactic| walk_at "truthy") => `(tactic| (refine truthy_way (by assumption) ?_))
set_option hygiene false in
local macro_rules | `(tactic| walk_at "compareOp IsNot none") => `(tactic| (cases hb))
set_option hygiene false in
local macro_rules | `(tactic| wrow_close) => `(tactic| (refine' hret _ _ _ _ _ _ (_, _) ?e ?F ?N; (case F => k_asm); (case N => k_asm); (case e => first | exact fault_1 (by assumption) | exact fault_2 (by assumption) (by assumption) | exact fault_3 (by assumption) (by assumption) (by assumption) | exact fault_4 (by assumption) (by assumption) (by assumption) (by assumption) | exact fault_5 (by assumption) (by assumption) (by assumption) (by assumption) (by assumption) | exact fault_6 (by assumption) (by assumption) (by assumption) (by assumption) (by assumption) (by tb_rel) | exact fault_7 (by assumption) (by assumption) (by assumption) (by assumption) (by assumption) (by tb_rel) (by tb_rel) | exact fault_8 (by assumption) (by assumption) (by assumption) (by assumption) (by assumption) (by tb_rel) (by tb_rel))))
section
local macro_rules | `(tactic| walk_at "And") => `(tactic| ((with_reducible show MwAt _ _ _ ∧ _); refine' And.intro ?a ?_; (case a => k_dflt (refine' mwAt ?N ?q; (case N => k_asm); (case q => k_mem))); try dsimp only [List.nil_append, List.cons_append]))
local macro_rules | `(tactic| walk_at "RaisableO ref") => `(tactic| (k_dflt (refine' And.right (raise_done (C := 400) (fI := 397) ?F ?X ?N ?q ?ne ?nt ?et ?_); (case F => k_asm); (case X => k_asm); (case N => k_asm); (case q => kernel_rfl); (case ne => assumption); (case nt => assumption); (case et => assumption)); intro h₂ F' N' x'))
local macro_rules | `(tactic| walk_at "call builtin:len") => `(tactic| (k_here; (with_reducible show wpAny _ _ (call (Value.builtin "len") [Value.ref _]) _ _ _); k_dflt (refine' len_known ?N ?m ?s ?k ?_; (case N => k_asm); (case m => k_mem); (case s => assumption); (case k => omega)); intro _ _))
local macro_rules | `(tactic| walk_at "call ref") => `(tactic| (k_here; (with_reducible show wpAny _ _ (call (Value.ref 400) _) _ _ _); k_dflt (refine' exc_start (fI := 397) ?F ?X ?N ?q ?f ?c ?l ?_; (case F => k_asm); (case X => k_asm); (case N => k_asm); (case q => kernel_rfl); (case f => exact rfl); (case c => exact rfl); (case l => exact Nat.le_of_ble_eq_true rfl)); intro e' t' h' F' N' ne'))
local macro_rules | `(tactic| walk_at "call ref") => `(tactic| (k_here; (with_reducible show wpAny _ _ (call (Value.ref _) [Value.str _ _]) _ _ _); k_dflt (refine' call_mwK (C := 400) (fI := 397) ?F ?X ?N ?q ?mw ?e ?r ?ne ?_; (case F => k_asm); (case X => k_asm); (case N => k_asm); (case mw => k_mem); (case e => k_mem); (case q => kernel_rfl); (case ne => assumption); (case r => intro p hp; k_mem)); intro tn' h' F' N' nt' et'))
section
local macro_rules | `(tactic| walk_at "call type:str") => `(tactic| (refine str_way (by assumption) ?_; intro _ _))
section
local macro_rules | `(tactic| walk_at "call type:str") => `(tactic| (k_here; (with_reducible show wpAny _ _ (call (Value.type "str") [Value.ref _]) _ _ _); k_dflt (refine' str_got_own (C := 400) (fI := 397) ?F ?X ?N ?q ?q2 ?G ?U ?_; (case G => assumption); (case F => k_asm); (case X => k_asm); (case N => k_asm); (case q => kernel_rfl); (case q2 => kernel_rfl); (case U => first | units_room | k_room)); k_whole))
local macro_rules | `(tactic| walk_at "callWith ref") => `(tactic| (k_here; k_dflt (refine' callWith_mw ?N ?q ?_; (case N => k_asm); (case q => k_mem))))
local macro_rules | `(tactic| walk_at "exec Raise some none") => `(tactic| (k_here; (with_reducible show wpAny _ _ (exec (Stmt.Raise (some (Expr.Call (Expr.Name ("UnknownAlgorithm" : Str) _) _ _ _)) none _) _) _ _ _); k_dflt (refine raise_own rfl ?_)))
local macro_rules | `(tactic| walk_at "formatField") => `(tactic| (refine field_way (by assumption) ?_; intro _ _))
local macro_rules | `(tactic| walk_at "getMethod ref") => `(tactic| (k_here; k_dflt (refine' method_excB (C := 400) (fI := 397) ?F ?X ?N ?so ?x ?q ?o ?m ?n ?_; (case F => k_asm); (case X => k_asm); (case N => k_asm); (case so => k_mem); (case x => k_mem); (case q => kernel_rfl); (case o => k_is); (case m => ks_is); (case n => decide)); intro q' h' F' N'))
section
set_option maxHeartbeats 0
theorem c_called (w : World) (b : Heap) (mean : ExcName → Option Value) (mg mb : Str → Option Value) (fn : Str) (nms : List (Str × NameKind)) (mr : List (Str × Const)) (L fa : Addr) (cd : Value)
    (s : Shared) (m : Str → Option Value) (nw : List (Addr × Obj)) (E Q : Value → Shared → Prop)
    (K0 : Below callerA b [] b) (F : Fr b L s.heap m) (N : News b L s.heap nw) (KX : (K w.params).In b) (T : Top vw lse mean mg mb b)
    (nm al : Str) (t1 t2 t3 t4 t5 : Tok) (wa aa : Addr) (mm vv sz : Int) (r bd : Value) (dr : PyData) (rt : Str) (tr told bad : Bool) (ts : List Str) (wd : List PyData)
    (hr : WayV r dr rt tr) (hb : BoundV bd told bad) (hwl : PyData.canLayAll0 wd = true)
    (ha : TupR b nw aa (ts.map PyData.str)) (hw : TupR b nw wa wd)
    (hnl : nm.length ≤ 100) (hal : al.length ≤ 100)
    (ra rd pa pd ca va : Addr) (k1 k2 k3 k4 k5 k6 k7 k8 k9 u1 : Tok) (shv lnv avv cnv : Value) (cis vis : Array Value) (cn vn : Nat)
    (r1 : (ra, instObj 355 rd) ∈ nw)
    (r2 : (rd, dictOf [ent w "rule_id" k1 (.str nm u1), ent w "shortname" k2 shv, ent w "longname" k3 lnv, ent w "algorithms" k4 (.ref aa), ent w "resolute_values" k5 (.ref wa), ent w "available_algorithms" k6 avv] 6) ∈ nw)
    (p1 : (pa, instObj 562 pd) ∈ nw)
    (p2 : (pd, dictOf [ent w "candidates" k7 (.ref ca), ent w "cand_names" k8 cnv, ent w "_voters" k9 (.ref va)] 3) ∈ nw)
    (p3 : (ca, W.listOf cis cn) ∈ nw) (p4 : (va, W.listOf vis vn) ∈ nw) (hci : (cis.size : Int) = mm) (hvi : (vis.size : Int) = vv) (hmm : mm ≤ 4) (hvv : vv ≤ 1)
    (hret : ∀ h' tk l n u1 u2 x, x = fault nm al mm vv sz (ts.any (· == al)) (wd.any fun y => PyData.eqv y dr) rt bad (told && tr) → Fr b L h' m → News b L h' ((l, ⟨.type "tuple", none, .seq #[.str x.1 u1, .str x.2 u2] n, #[]⟩) :: nw) → Q (.ref l) { s with heap := h', toks := tk }) :
    wpAny (model P w) (callerA.deeper (lawEnv fn nms mr L fa cd)) (call (.ref 646) [.ref ra, .ref pa, .int sz t4, .str al t5, r, bd]) Q E s := by
  delta lawEnv K lse P ent at *
  revert KX
  k_fill
  intro KX
  have hrl := hr.len
  show wpAny _ _ _ _ _ _
  repeat' (first | (k_unfold; (try dsimp only)) | (k_end; wrow_close) | ((with_reducible show wpAny _ _ (exec (Stmt.Raise (some (Expr.Call (Expr.Name ("ValueError" : Str) _) (_ :: _) [] _)) none _) _) _ _ _); refine guard_callee (by assumption) ?_; refine guard_raisesB (by assumption) (by decide +kernel) ?_; top_raiseB) | walk1 | (dsimp only; walk1) | (leave1; try dsimp only) | fail)
  all_goals trace_state
  all_goals w_report
end
end
end
end
end
end
end
section
local macro_rules | `(tactic| tb_start) => `(tactic| first | assumption | exact if_pos rfl | (refine (if_neg (by decide)).trans ?_; tb_start))
local macro_rules | `(tactic| walk_at "eval Name") => `(tactic| (k_here; k_dflt (refine' ld ?k1 ?k2 ?_; (case k1 => k_asm); (case k2 => tb_start); k_whole)))
local macro_rules | `(tactic| walk_at "subscriptTail") => `(tactic| (k_here; (with_reducible show wpAny _ _ (subscriptTail _ _ (Value.ref _) (Value.int _ _)) _ _ _); k_dflt (refine' item_in (by k_asm) (by k_mem) (by decide) (by decide) (by rfl) (by with_unfolding_all rfl) ?_)))
section
local macro_rules | `(tactic| walk_at "call ref") => `(tactic| refine stop_of ?_)
section
local macro_rules | `(tactic| walk_at "compareOp NotEq ref ref") => `(tactic| refine stop_of ?_)
section
set_option maxHeartbeats 2000000
theorem strs_reads {h : Heap} {vs : List Value} {ts : List Str} (hs : StrsAre vs ts) : ReadsAll h vs (ts.map PyData.str) [] := by
  induction hs with
  | nil => exact .nil
  | cons y t _ ih => exact .cons (.str y t) ih
theorem list_reads {nw : List (Addr × Obj)} {b h : Heap} {L l : Addr} {vs : Array Value} {n : Nat} {ts : List Str} (N : News b L h nw) (hm : (l, ({ cls := .type "list", data := .seq vs n } : Obj)) ∈ nw) (hs : StrsAre vs.toList ts) : ∃ as, Reads h (.ref l) (.list (ts.map PyData.str)) as :=
  ⟨_, .list (N _ hm).1 rfl rfl (strs_reads hs)⟩
noncomputable def availT (r : RowS) : List Str := r.algs.filter fun y => thereT.any (· == y)
noncomputable def availData (r : RowS) : PyData := .list ((availT r).map PyData.str)
theorem add_in {prog : Program} {w : World} {A : Around} {E : Value → Shared → Prop} {s : Shared} {b : Heap} {L l1 l2 : Addr} {nw : List (Addr × Obj)} {m : Str → Option Value} {a c : Array Value} {n k : Nat} {Q : Value → Shared → Prop} (F : Fr b L s.heap m) (N : News b L s.heap nw)
    (h1 : (l1, ({ cls := .type "list", data := .seq a n } : Obj)) ∈ nw) (h2 : (l2, ({ cls := .type "list", data := .seq c k } : Obj)) ∈ nw) (hz : a.size + c.size ≤ 100)
    (h : ∀ h' D, Fr b L h' m → News b L h' ((D, { cls := .type "list", data := .seq (a.toList ++ c.toList).toArray }) :: nw) → Q (.ref D) { s with heap := h' }) :
    wpAny (model prog w) A (binaryOp .Add (.ref l1) (.ref l2)) Q E s :=
  add_arrays F N ⟨_, (N _ h1).1, rfl, n, rfl⟩ ⟨_, (N _ h2).1, rfl, k, rfl⟩ (fun h' F' N' => h h' _ F' N') (by rw [sizeLine_eq]; omega)
theorem first_of {ys : List Value} {ts : List Str} {x : Str} {u : Tok} (h : StrsAre ys ts) : ∃ t, (ys ++ [.str x u])[0]? = some (.str (ts.headD x) t) := by
  cases h with
  | nil => exact ⟨_, rfl⟩
  | cons y t _ => exact ⟨t, rfl⟩
theorem item_first {prog : Program} {w : World} {A : Around} {E : Value → Shared → Prop} {s : Shared} {b : Heap} {L l : Addr} {nw : List (Addr × Obj)} {value slice : PySem.Expr} {ys : List Value} {ts : List Str} {x : Str} {u u2 : Tok} {n : Nat} {Q : Value → Shared → Prop} (N : News b L s.heap nw)
    (hm : (l, ({ cls := .type "list", data := .seq (ys.toArray.toList ++ (#[.str x u] : Array Value).toList).toArray n } : Obj)) ∈ nw) (hy : StrsAre ys ts)
    (hs : subscripted slice false (.ref l) (.int 0 u2) = operate [.ref l, .int 0 u2] (getItem (.ref l) (.int 0 u2))) (h : ∀ t, Q (.str (ts.headD x) t) s) :
    wpAny (model prog w) A (subscriptTail value slice (.ref l) (.int 0 u2)) Q E s := by
  obtain ⟨t, e⟩ := first_of (x := x) (u := u) hy
  exact item_arr N hm (by decide) (by decide) (by simpa using e) hs (h t)
theorem rowT_show : ∀ r ∈ rowT, (PyData.tuple (r.algs.map PyData.str)).shown.length ≤ 300 ∧ (PyData.tuple (r.algs.map PyData.str)).showable = true ∧ (PyData.tuple (r.algs.map PyData.str)).hasDict = false ∧ (PyData.tuple (r.algs.map PyData.str)).depth ≤ 4 ∧ r.name.length ≤ 100 ∧ (availT r).length ≤ 8 := by decide +kernel
theorem rowT_avail : ∀ r ∈ rowT, PyData.eqv (availData r) (availData r) = true ∧ (availData r).canLay0 = true ∧ (availData r).depth ≤ 4 := by decide +kernel
theorem s_fast
    (w : World) (b : Heap) (mean : ExcName → Option Value) (mg mb : Str → Option Value) (L fa : Addr) (cd : Value)
    (s : Shared) (m : Str → Option Value) (nw : List (Addr × Obj)) (E : Value → Shared → Prop) (Q : Flow → Shared → Prop)
    (K0 : Below callerA b [] b) (F : Fr b L s.heap m) (N : News b L s.heap nw) (KX : (K w.params).In b) (T : Top vw lse mean mg mb b)
    (r : RowS) (hr : r ∈ rowT) (ra aa wa al so : Addr) (ys : List Value) (hR : RuleOk w nw ra r aa wa al) (hrule : m (Str.ofString "rule") = some (.ref ra)) (hso : m (Str.ofString "some") = some (.ref so)) (hsl : (so, LCg.lst ys) ∈ nw) (hys : StrsAre ys (availT r))
    (hret : ∀ h' tk nw', Fr b L h' m → News b L h' nw' → (∀ p ∈ nw, p ∈ nw') → Q .next { s with heap := h', toks := tk }) :
    wpAny (model P w) (callerA.deeper (lawE L fa cd)) (exec (lawStmt 6) (lawE L fa cd)) Q E s := by
  have hsc : lawScope = lawScope := rfl
  with_unfolding_all conv at hsc => rhs; whnf
  have hst := lawStmt_eq 6
  with_unfolding_all conv at hst => rhs; whnf
  delta lawE
  rw [hsc, hst]
  clear hsc hst
  delta K lse P at *
  revert KX
  k_fill
  intro KX
  obtain ⟨rd, its, n, c2, k1, k2, k3, k4, k5, k6, v1, v2, v3, h1, h2, h3, h4, h5, h6⟩ := hR
  delta ent at h2
  k_steps
  show wpAny _ _ _ _ _ _
  obtain ⟨q1, q2, q3⟩ := rowT_avail r hr
  obtain ⟨as1, r1⟩ : ∃ as, Reads _ (.ref al) (availData r) as := list_reads (by assumption) h3 h6
  obtain ⟨as2, r2⟩ : ∃ as, Reads _ (.ref so) (availData r) as := list_reads (by assumption) hsl hys
  refine SeqAt.compareNe_reads r1 r2 q2 q2 ?hu ?_
  case hu => exact Nat.lt_of_le_of_lt (Nat.add_le_add_left (Nat.le_trans (Nat.min_le_left _ _) q3) _) (Nat.le_of_ble_eq_true rfl)
  rw [q1]
  show wpAny _ _ (truthy (.bool false)) _ _ _
  k_steps
  show wpAny _ _ _ _ _ _
  obtain ⟨z1, z2, z3, z4, z5, z6⟩ := rowT_show r hr
  refine c_fastest w b mean mg mb _ _ _ L fa cd _ _ _ _ _ K0 (by assumption) (by assumption) KX T r.name ra rd aa al k1 k2 k3 k4 k5 k6 v1 _ _ _ its n (availT r) r.algs h1 h2 h3 h6 h4 z1 z2 z3 z4 z5 z6 ?_
  intro h' tk t F' N'
  k_steps
  rename_i D1 hh1 F1 N1 ll1
  refine add_in (by assumption) (by assumption) (.tail _ hsl) (.head _) ?hz ?_
  case hz => have := hys.length; simp; omega
  intro h' D F' N'
  repeat' (first | (k_unfold; (try dsimp only)) | (k_end; wrow_close) | ((fail_if_success (with_reducible show wpAny _ _ (subscriptTail _ _ (Value.ref _) (Value.int _ _)) _ _ _)); walk1) | (dsimp only; (fail_if_success (with_reducible show wpAny _ _ (subscriptTail _ _ (Value.ref _) (Value.int _ _)) _ _ _)); walk1) | ((fail_if_success (with_reducible show wpAny _ _ (subscriptTail _ _ (Value.ref _) (Value.int _ _)) _ _ _)); leave1; try dsimp only) | fail)
  dsimp only
  refine item_first (by assumption) (.head _) hys (by with_unfolding_all rfl) fun t9 => ?_
  k_steps
  all_goals first | exact hret _ _ _ (by assumption) (by assumption) (fun p hp => .tail _ (.tail _ hp)) | (exfalso; exact absurd (by assumption) (by simp : ¬ ((availT r).headD (Str.ofString "none") != (availT r).headD (Str.ofString "none")) = true))
end
end
section
set_option maxHeartbeats 2000000
theorem rowT_algs : ∀ r ∈ rowT, 1 ≤ r.algs.length ∧ r.algs.length ≤ 8 ∧ ∀ a ∈ r.algs, a.length ≤ 50 := by decide +kernel
theorem rowT_ok : ∀ r ∈ rowT, PyData.strOk r.name = true ∧ ∀ a ∈ r.algs, PyData.strOk a = true := by decide +kernel
theorem seq0 {n : Nat} (h : 0 < n) : seqIndex? 0 n = some 0 := by
  unfold seqIndex?
  have : (0 : Int) < n := by omega
  have h' : n ≠ 0 := by omega
  simp [h']
theorem ok_app {x y : Str} (hx : PyData.strOk x = true) (hy : PyData.strOk y = true) : PyData.strOk (x ++ y) = true := by
  unfold PyData.strOk at *
  show (x.cps ++ y.cps).all _ = true
  rw [Array.all_append, hx, hy]
  rfl
theorem strs_item {vs : List Value} {ts : List Str} (h : StrsAre vs ts) : ∀ {i : Nat}, i < vs.length → ∃ y t, vs[i]? = some (.str y t) ∧ y ∈ ts := by
  induction h with
  | nil => intro i hi; cases hi
  | cons y t h ih =>
    intro i hi
    cases i with
    | zero => exact ⟨y, t, rfl, .head _⟩
    | succ i =>
      obtain ⟨y', t', e, hm⟩ := ih (i := i) (Nat.lt_of_succ_lt_succ hi)
      exact ⟨y', t', e, .tail _ hm⟩
theorem s_alg
    (w : World) (b : Heap) (mean : ExcName → Option Value) (mg mb : Str → Option Value) (L fa : Addr) (cd : Value)
    (s : Shared) (m : Str → Option Value) (nw : List (Addr × Obj)) (E : Value → Shared → Prop) (Q : Flow → Shared → Prop)
    (K0 : Below callerA b [] b) (F : Fr b L s.heap m) (N : News b L s.heap nw) (KX : (K w.params).In b) (T : Top vw lse mean mg mb b)
    (D : Addr) (d0 d1 d2 d3 d4 d5 d6 d7 : Int) (t0 t1 t2 t3 t4 t5 t6 t7 : Tok) (hD : (D, drawsObj d0 d1 d2 d3 d4 d5 d6 d7 t0 t1 t2 t3 t4 t5 t6 t7) ∈ nw)
    (hd : m (Str.ofString "draws") = some (.ref D))
    (b4 : 0 ≤ d4 ∧ d4 < 2000000) (r : RowS) (hr : r ∈ rowT) (aa : Addr) (ha : m (Str.ofString "algorithms") = some (.ref aa)) (htc : TupC (K w.params) nw aa (r.algs.map PyData.str))
    (hret : ∀ h' tk nw' al u, Fr b L h' (upd m "algorithm" (.str al u)) → News b L h' nw' → (∀ p ∈ nw, p ∈ nw') → al.length ≤ 100 → PyData.strOk al = true → Q .next { s with heap := h', toks := tk }) :
    wpAny (model P w) (callerA.deeper (lawE L fa cd)) (exec (lawStmt 11) (lawE L fa cd)) Q E s := by
  have hsc : lawScope = lawScope := rfl
  with_unfolding_all conv at hsc => rhs; whnf
  have hst := lawStmt_eq 11
  with_unfolding_all conv at hst => rhs; whnf
  delta lawE
  rw [hsc, hst]
  clear hsc hst
  delta K lse P at *
  revert KX
  k_fill
  intro KX
  repeat' (first | (k_unfold; (try dsimp only)) | (k_end; wrow_close) | ((fail_if_success (with_reducible show wpAny _ _ (call (Value.type _) [Value.ref _] _) _ _ _)); walk1) | (dsimp only; (fail_if_success (with_reducible show wpAny _ _ (call (Value.type _) [Value.ref _] _) _ _ _)); walk1) | ((fail_if_success (with_reducible show wpAny _ _ (call (Value.type _) [Value.ref _] _) _ _ _)); leave1; try dsimp only) | fail)
  obtain ⟨z1, z2, z3⟩ := rowT_algs r hr
  obtain ⟨vs, ht, hc⟩ := htc.at (KX.keeps F.keep) N (fun p hp => hp)
  have hs := hc.strs
  have hvl := hs.length
  refine list_copyKT (by assumption) (by assumption) ht ?_ (by rw [sizeLine_eq]; simp; omega)
  intro D c h' F' N' l1
  repeat' (first | (k_unfold; (try dsimp only)) | (k_end; wrow_close) | ((fail_if_success (with_reducible show wpAny _ _ (subscriptTail _ _ (Value.ref _) (Value.int _ _)) _ _ _)); walk1) | (dsimp only; (fail_if_success (with_reducible show wpAny _ _ (subscriptTail _ _ (Value.ref _) (Value.int _ _)) _ _ _)); walk1) | ((fail_if_success (with_reducible show wpAny _ _ (subscriptTail _ _ (Value.ref _) (Value.int _ _)) _ _ _)); leave1; try dsimp only) | fail)
  obtain ⟨vs2, ht2, hc2⟩ := htc.at (KX.keeps F'.keep) N' (fun p hp => .tail _ hp)
  have hs2 := hc2.strs
  have hvl2 := hs2.length
  obtain ⟨a0, t9, e0, m0⟩ := strs_item hs2 (i := 0) (by omega)
  refine item_tupleT (j := 0) ht2 (by decide) (by decide) (seq0 (by omega)) e0 ?_
  repeat' (first | (k_unfold; (try dsimp only)) | (k_end; wrow_close) | ((fail_if_success (with_reducible show wpAny _ _ (binaryOp Operator.Add (Value.str _ _) (Value.str _ _)) _ _ _)); walk1) | (dsimp only; (fail_if_success (with_reducible show wpAny _ _ (binaryOp Operator.Add (Value.str _ _) (Value.str _ _)) _ _ _)); walk1) | ((fail_if_success (with_reducible show wpAny _ _ (binaryOp Operator.Add (Value.str _ _) (Value.str _ _)) _ _ _)); leave1; try dsimp only) | fail)
  refine add_len (k := 50) (j := 50) (z3 _ m0) (by decide +kernel) (by decide) ?_
  intro u9 tk9
  repeat' (first | (k_unfold; (try dsimp only)) | (k_end; wrow_close) | ((fail_if_success (with_reducible show wpAny _ _ (call (Value.builtin _) [Value.ref _] _) _ _ _)); walk1) | (dsimp only; (fail_if_success (with_reducible show wpAny _ _ (call (Value.builtin _) [Value.ref _] _) _ _ _)); walk1) | ((fail_if_success (with_reducible show wpAny _ _ (call (Value.builtin _) [Value.ref _] _) _ _ _)); leave1; try dsimp only) | fail)
  obtain ⟨vs3, ht3, hc3⟩ := htc.at (KX.keeps (Fr.keep (by assumption))) (by assumption) (fun p hp => .tail _ (.tail _ (.tail _ hp)))
  have hs3 := hc3.strs
  have hvl3 := hs3.length
  refine len_tuple ht3 (by simp; omega) ?_
  repeat' (first | (k_unfold; (try dsimp only)) | (k_end; wrow_close) | ((fail_if_success (with_reducible show wpAny _ _ (subscriptTail _ _ (Value.ref _) (Value.int _ _)) _ _ _)); walk1) | (dsimp only; (fail_if_success (with_reducible show wpAny _ _ (subscriptTail _ _ (Value.ref _) (Value.int _ _)) _ _ _)); walk1) | ((fail_if_success (with_reducible show wpAny _ _ (subscriptTail _ _ (Value.ref _) (Value.int _ _)) _ _ _)); leave1; try dsimp only) | fail)
  dsimp only
  have hk : 0 ≤ d4.fmod ((vs3.toArray.size : Int) + 2) ∧ d4.fmod ((vs3.toArray.size : Int) + 2) < r.algs.length + 2 := by
    simp only [List.size_toArray]
    rw [hvl3]
    rw [Int.fmod_eq_emod_of_nonneg d4 (by omega)]
    exact ⟨Int.emod_nonneg _ (by omega), Int.emod_lt_of_pos _ (by omega)⟩
  obtain ⟨al, ta, ea, hal⟩ := strs_item (strsPush (strsPush hs (Str.ofString "fastest") s.toks) (a0 ++ Str.ofString "s") u9) (i := (d4.fmod ((vs3.toArray.size : Int) + 2)).toNat) (by have h1 := hk.1; have h2 := hk.2; simp only [List.length_append, List.length_cons, List.length_nil]; omega)
  refine item_arr (v := .str al ta) (by assumption) (.head _) hk.1 (by omega) (by simpa using ea) (by with_unfolding_all rfl) ?_
  repeat' (first | (k_unfold; (try dsimp only)) | (k_end; wrow_close) | ((fail_if_success (with_reducible show Q _ _)); walk1) | (dsimp only; (fail_if_success (with_reducible show Q _ _)); walk1) | ((fail_if_success (with_reducible show Q _ _)); leave1; try dsimp only) | fail)
  refine hret _ _ _ _ _ (by assumption) (by assumption) (fun p hp => .tail _ (.tail _ (.tail _ hp))) ?_ ?_
  rcases List.mem_append.mp hal with h | h
  · rcases List.mem_append.mp h with h | h
    · have := z3 _ h
      omega
    · rw [List.mem_singleton.mp h]
      decide +kernel
  · rw [List.mem_singleton.mp h, PySem.Str.length_append]
    have := z3 _ m0
    have e : (Str.ofString "s").length = 1 := by decide +kernel
    omega
  rcases List.mem_append.mp hal with h | h
  · rcases List.mem_append.mp h with h | h
    · exact (rowT_ok r hr).2 _ h
    · rw [List.mem_singleton.mp h]
      decide +kernel
  · rw [List.mem_singleton.mp h]
    exact ok_app ((rowT_ok r hr).2 _ m0) (by decide +kernel)
end
end
end
section
local macro_rules | `(tactic| tb_rel) => `(tactic| first | rfl | assumption | exact decide_eq_true (by first | assumption | omega) | exact decide_eq_false (by first | assumption | omega) | (rw [Bool.true_and]; assumption))
local macro_rules | `(tactic| tb_start) => `(tactic| first | assumption | exact len_lit (k := 200) (by decide +kernel) | (with_reducible refine len_app ?_ ?_) <;> tb_start)
local macro_rules | `(tactic| walk_at "binaryOp Add str str") => `(tactic| ((refine' add_len ?x ?y ?z ?_; (case x => tb_start); (case y => tb_start); (case z => exact Nat.le_of_ble_eq_true rfl)); intro _ _))
local macro_rules | `(tactic| walk_at "call type:str") => `(tactic| (refine str_way (by assumption) ?_; intro _ _))
local macro_rules | `(tactic| walk_at "compareOp NotIn str ref") => `(tactic| (k_here; k_dflt (refine' notin_alg ?h ?k ?_; (case h => assumption); (case k => exact Keeps.deep (by assumption) (by k_asm) (by k_asm) (fun p hp => by k_mem)); k_whole)))
local macro_rules | `(tactic| walk_at "compareOp NotIn") => `(tactic| (k_here; k_dflt (refine' notin_way ?h ?k ?r ?l ?u ?_; (case r => assumption); (case h => assumption); (case l => assumption); (case k => exact Keeps.deep (by assumption) (by k_asm) (by k_asm) (fun p hp => by k_mem)); (case u => exact Nat.le_of_ble_eq_true rfl); k_whole)))
local macro_rules | `(tactic| walk_at "truthy") => `(tactic| (refine truthy_way (by assumption) ?_))
set_option hygiene false in
local macro_rules | `(tactic| walk_at "compareOp IsNot none") => `(tactic| (cases hb))
set_option hygiene false in
local macro_rules | `(tactic| wrow_close) => `(tactic| (refine' hret _ _ _ _ _ _ (_, _) ?e ?F ?N; (case F => k_asm); (case N => k_asm); (case e => first | exact fault_1 (by assumption) | exact fault_2 (by assumption) (by assumption) | exact fault_3 (by assumption) (by assumption) (by assumption) | exact fault_4 (by assumption) (by assumption) (by assumption) (by assumption) | exact fault_5 (by assumption) (by assumption) (by assumption) (by assumption) (by assumption) | exact fault_6 (by assumption) (by assumption) (by assumption) (by assumption) (by assumption) (by tb_rel) | exact fault_7 (by assumption) (by assumption) (by assumption) (by assumption) (by assumption) (by tb_rel) (by tb_rel) | exact fault_8 (by assumption) (by assumption) (by assumption) (by assumption) (by assumption) (by tb_rel) (by tb_rel))))
section
set_option maxHeartbeats 0
theorem c_first (w : World) (b : Heap) (mean : ExcName → Option Value) (mg mb : Str → Option Value) (fn : Str) (nms : List (Str × NameKind)) (mr : List (Str × Const)) (L fa : Addr) (cd : Value)
    (s : Shared) (m : Str → Option Value) (nw : List (Addr × Obj)) (E Q : Value → Shared → Prop)
    (K0 : Below callerA b [] b) (F : Fr b L s.heap m) (N : News b L s.heap nw) (KX : (K w.params).In b) (T : Top vw lse mean mg mb b)
    (nm al : Str) (t1 t2 t3 t4 t5 : Tok) (wa aa : Addr) (mm vv sz : Int) (r bd : Value) (dr : PyData) (rt : Str) (tr told bad : Bool) (ts : List Str) (wd : List PyData)
    (hr : WayV r dr rt tr) (hb : BoundV bd told bad) (hwl : PyData.canLayAll0 wd = true)
    (ha : TupR b nw aa (ts.map PyData.str)) (hw : TupR b nw wa wd)
    (hnl : nm.length ≤ 100) (hal : al.length ≤ 100)
    (hret : ∀ h' tk l n u1 u2 x, x = fault nm al mm vv sz (ts.any (· == al)) (wd.any fun y => PyData.eqv y dr) rt bad (told && tr) → Fr b L h' m → News b L h' ((l, ⟨.type "tuple", none, .seq #[.str x.1 u1, .str x.2 u2] n, #[]⟩) :: nw) → Q (.ref l) { s with heap := h', toks := tk }) :
    wpAny (model P w) (callerA.deeper (lawEnv fn nms mr L fa cd)) (call (.ref 639) [.str nm t1, .ref wa, .ref aa, .int mm t2, .int vv t3, .int sz t4, .str al t5, r, bd]) Q E s := by
  delta lawEnv K lse P at *
  revert KX
  k_fill
  intro KX
  have hrl := hr.len
  k_steps
end
end
section
local macro_rules | `(tactic| tb_start) => `(tactic| first | assumption | exact if_pos rfl | (refine (if_neg (by decide)).trans ?_; tb_start))
local macro_rules | `(tactic| walk_at "eval Name") => `(tactic| (k_here; k_dflt (refine' ld ?k1 ?k2 ?_; (case k1 => k_asm); (case k2 => tb_start); k_whole)))
local macro_rules | `(tactic| walk_at "subscriptTail") => `(tactic| (k_here; (with_reducible show wpAny _ _ (subscriptTail _ _ (Value.ref _) (Value.int _ _)) _ _ _); k_dflt (refine' item_in (by k_asm) (by k_mem) (by decide) (by decide) (by rfl) (by with_unfolding_all rfl) ?_)))
section
local macro_rules | `(tactic| walk_at "call ref") => `(tactic| refine stop_of ?_)
section
set_option maxHeartbeats 2000000
theorem tupR_of {p : Params} {b : Heap} {nw : List (Addr × Obj)} {a : Addr} {ds : List PyData} (tc : TupC (K p) nw a ds) (X : (K p).In b) : TupR b nw a ds := fun h k => by
  obtain ⟨o, vs, n, h1, h2, h3, h4⟩ := tc
  have e : h.get? a = some o := by
    rcases h1 with h1 | h1
    · exact k.old _ _ (X _ _ h1)
    · exact k.new _ h1
  exact ⟨_, .tuple e h2 (by rw [h3]) h4.reads⟩
theorem rowT_ways : ∀ r ∈ rowT, PyData.canLayAll0 (waysT r.kind) = true ∧ r.name.length ≤ 100 := by decide +kernel
theorem s_told
    (w : World) (b : Heap) (mean : ExcName → Option Value) (mg mb : Str → Option Value) (L fa : Addr) (cd : Value)
    (s : Shared) (m : Str → Option Value) (nw : List (Addr × Obj)) (E : Value → Shared → Prop) (Q : Flow → Shared → Prop)
    (K0 : Below callerA b [] b) (F : Fr b L s.heap m) (N : News b L s.heap nw) (KX : (K w.params).In b) (T : Top vw lse mean mg mb b)
    (r : RowS) (hr : r ∈ rowT) (ra aa wa av pa pd ca va : Addr) (cn : Value) (k1 k2 k3 u1 u2 u3 : Tok) (cis vis : Array Value) (n1 n2 : Nat) (mm vv sz : Int) (al : Str) (rv bd : Value) (dr : PyData) (rt : Str) (tr told bad : Bool)
    (hR : RuleOk w nw ra r aa wa av) (hrule : m (Str.ofString "rule") = some (.ref ra)) (hprof : m (Str.ofString "profile") = some (.ref pa)) (hsz : m (Str.ofString "size") = some (.int sz u1)) (hal : m (Str.ofString "algorithm") = some (.str al u2)) (hrv : m (Str.ofString "resolute") = some rv) (hbd : m (Str.ofString "bound") = some bd)
    (p1 : (pa, instObj 562 pd) ∈ nw) (p2 : (pd, dictOf [ent w "candidates" k1 (.ref ca), ent w "cand_names" k2 cn, ent w "_voters" k3 (.ref va)] 3) ∈ nw) (p3 : (ca, W.listOf cis n1) ∈ nw) (p4 : (va, W.listOf vis n2) ∈ nw) (hci : (cis.size : Int) = mm) (hvi : (vis.size : Int) = vv) (hmm : mm ≤ 4) (hvv : vv ≤ 1)
    (hw : WayV rv dr rt tr) (hb : BoundV bd told bad) (hl : al.length ≤ 100)
    (hret : ∀ h' tk l n v1 v2 x, x = fault r.name al mm vv sz (r.algs.any (· == al)) ((waysT r.kind).any fun y => PyData.eqv y dr) rt bad (told && tr) → Fr b L h' (upd m "told" (.ref l)) → News b L h' ((l, ⟨.type "tuple", none, .seq #[.str x.1 v1, .str x.2 v2] n, #[]⟩) :: nw) → Q .next { s with heap := h', toks := tk }) :
    wpAny (model P w) (callerA.deeper (lawE L fa cd)) (exec (lawStmt 14) (lawE L fa cd)) Q E s := by
  have hsc : lawScope = lawScope := rfl
  with_unfolding_all conv at hsc => rhs; whnf
  have hst := lawStmt_eq 14
  with_unfolding_all conv at hst => rhs; whnf
  delta lawE
  rw [hsc, hst]
  clear hsc hst
  delta K lse P at *
  revert KX
  k_fill
  intro KX
  k_steps
  show wpAny _ _ _ _ _ _
  obtain ⟨rd, its, n, c2, q1, q2, q3, q4, q5, q6, v1, v2, v3, h1, h2, h3, h4, h5, h6⟩ := hR
  obtain ⟨z1, z2⟩ := rowT_ways r hr
  refine c_called w b mean mg mb _ _ _ L fa cd _ _ _ _ _ K0 (by assumption) (by assumption) KX T r.name al 0 0 0 _ _ wa aa mm vv sz rv bd dr rt tr told bad r.algs (waysT r.kind) hw hb z1 (tupR_of h4 KX) (tupR_of h5 KX) z2 hl ra rd pa pd ca va q1 q2 q3 q4 q5 q6 k1 k2 k3 v1 _ _ _ _ cis vis n1 n2 h1 h2 p1 p2 p3 p4 hci hvi hmm hvv ?_
  intro h' tk l n9 v8 v9 x hx F' N'
  k_steps
  exact hret _ _ _ _ _ _ _ hx (by assumption) (by assumption)
theorem s_due
    (w : World) (b : Heap) (mean : ExcName → Option Value) (mg mb : Str → Option Value) (L fa : Addr) (cd : Value)
    (s : Shared) (m : Str → Option Value) (nw : List (Addr × Obj)) (E : Value → Shared → Prop) (Q : Flow → Shared → Prop)
    (K0 : Below callerA b [] b) (F : Fr b L s.heap m) (N : News b L s.heap nw) (KX : (K w.params).In b) (T : Top vw lse mean mg mb b)
    (r : RowS) (hr : r ∈ rowT) (a2 w2 : Addr) (u0 u1 u2 u3 u4 : Tok) (mm vv sz : Int) (al : Str) (rv bd : Value) (dr : PyData) (rt : Str) (tr told bad : Bool)
    (hn : m (Str.ofString "name") = some (.str r.name u0)) (hwy : m (Str.ofString "ways") = some (.ref w2)) (hag : m (Str.ofString "algorithms") = some (.ref a2)) (hm : m (Str.ofString "m") = some (.int mm u3)) (hv : m (Str.ofString "voters") = some (.int vv u4)) (hsz : m (Str.ofString "size") = some (.int sz u1)) (hal : m (Str.ofString "algorithm") = some (.str al u2)) (hrv : m (Str.ofString "resolute") = some rv) (hbd : m (Str.ofString "bound") = some bd)
    (ha2 : TupC (K w.params) nw a2 (r.algs.map PyData.str)) (hw2 : TupC (K w.params) nw w2 (waysT r.kind))
    (hw : WayV rv dr rt tr) (hb : BoundV bd told bad) (hl : al.length ≤ 100)
    (hret : ∀ h' tk l n v1 v2 x, x = fault r.name al mm vv sz (r.algs.any (· == al)) ((waysT r.kind).any fun y => PyData.eqv y dr) rt bad (told && tr) → Fr b L h' (upd m "due" (.ref l)) → News b L h' ((l, ⟨.type "tuple", none, .seq #[.str x.1 v1, .str x.2 v2] n, #[]⟩) :: nw) → Q .next { s with heap := h', toks := tk }) :
    wpAny (model P w) (callerA.deeper (lawE L fa cd)) (exec (lawStmt 15) (lawE L fa cd)) Q E s := by
  have hsc : lawScope = lawScope := rfl
  with_unfolding_all conv at hsc => rhs; whnf
  have hst := lawStmt_eq 15
  with_unfolding_all conv at hst => rhs; whnf
  delta lawE
  rw [hsc, hst]
  clear hsc hst
  delta K lse P at *
  revert KX
  k_fill
  intro KX
  k_steps
  show wpAny _ _ _ _ _ _
  obtain ⟨z1, z2⟩ := rowT_ways r hr
  refine c_first w b mean mg mb _ _ _ L fa cd _ _ _ _ _ K0 (by assumption) (by assumption) KX T r.name al _ _ _ _ _ w2 a2 mm vv sz rv bd dr rt tr told bad r.algs (waysT r.kind) hw hb z1 (tupR_of ha2 KX) (tupR_of hw2 KX) z2 hl ?_
  intro h' tk l n9 v8 v9 x hx F' N'
  k_steps
  exact hret _ _ _ _ _ _ _ hx (by assumption) (by assumption)
end
end
end
end
section
local macro_rules | `(tactic| walk_at "wpAt") => `(tactic| (dsimp only; ks_step "execs cons"; refine ks_wpAt_execs_cons ?_))
local macro_rules | `(tactic| walk_at "wpAt") => `(tactic| (ks_step "exec Expr"; refine ks_wpAt_Expr_any (hi := by with_unfolding_all rfl) (hs := by with_unfolding_all rfl) ?_))
local macro_rules | `(tactic| walk_at "wpAt") => `(tactic| (ks_step "eval Call"; refine ks_wpAt_MethodCall (he := by with_unfolding_all rfl) ?_))
section
local macro_rules | `(tactic| walk_at "wpAt") => `(tactic| (ks_step "attributeBase Call"; refine stop_of ?_))
section
set_option maxHeartbeats 4000000
theorem c_cset (w : World) (base g : Heap) (mean : ExcName → Option Value) (mg mb : Str → Option Value) (e1 e2 e3 e4 : Env) (p5 : List Value) (k5 : List (Str × Value)) (nm : Str) (nms : List (Str × NameKind)) (mr : List (Str × Const)) (L a : Addr) (cd : Value)
    (s : Shared) (m : Str → Option Value) (nw : List (Addr × Obj)) (E Q : Value → Shared → Prop)
    (K0 : Below (((((callerA.deeper e1).deeper e2).deeper e3).deeper e4).under (.builtin "type.__call__" ⟨.ref 599 :: p5, k5⟩)) base [e4, e3, e2, e1] g) (F : Fr g L s.heap m) (N : News g L s.heap nw) (KX : (K w.params).In g) (T : Top vw lse mean mg mb g)
    (l : Addr) (t u : Tok) (mm : Int) (m1 : 1 ≤ mm) (m4 : mm ≤ 4) (hl : (l, W.listOf #[.int 0 t] 0) ∈ nw) (h52 : (52, tabO) ∈ nw) (hg : AllBare s.gens) (hbm : g.get? 4 = some { cls := .type "module", dict := some builtinsNs, data := .plain })
    (hret : ∀ s' x nw', Fr g L s'.heap m → News g L s'.heap nw' → (∀ p ∈ nw, p.2.cls ≠ .none → p ∈ nw') → (∃ ps, (52, ({ cls := .none, data := .fields ps } : Obj)) ∈ nw') → AllBare s'.gens → s'.os = s.os → Q (.ref x) s') :
    wpAny (model P w) ((((((callerA.deeper e1).deeper e2).deeper e3).deeper e4).under (.builtin "type.__call__" ⟨.ref 599 :: p5, k5⟩)).deeper (lawEnv nm nms mr L a cd)) (call (.ref 75) [.ref l] [(Str.ofString "num_cand", .int mm u)]) Q E s := by
  delta lawEnv K lse P at *
  revert KX
  k_fill
  intro KX
  have X : (fk.heap_1 w.params).In s.heap := KX.keeps F.keep
  refine wpAny_call ?_
  refine' set_K ?F ?N X ?Y ?hi ?hf ?ha ?_
  case F => exact F
  case N => exact N
  case hi => k_is
  case hf => k_is
  case ha => kernel_rfl
  case Y => exact smakes_of X rfl rfl rfl rfl (by kernel_rfl) (by kernel_rfl) (by kernel_rfl) (by kernel_rfl)
  clear X
  intro x dx led h' F' N' l1 l2
  refine' code_cs ?aB ?aF ?aX ?aN ?aT ?aA ?af ?ak ?ao ?ac ?ar ?ab ?ae ?ap ?a1 ?a2 ?a3 ?_ ?q1 ?q2 ?q3
  case aA => exact rfl
  case af => exact rfl
  case ak => exact rfl
  case aB => k_asm
  case aF => k_asm
  case aX => k_asm
  case aN => k_asm
  case aT => k_asm
  case ao => k_is
  case ac => k_is
  case ar => k_room
  case ab => first | exact BindsTo.of_eq rfl | exact binds_K (by k_in) rfl (by k_is) rfl rfl rfl
  case ae => intro n acc; rfl
  case ap => intro h; rfl
  case a1 => rfl
  case a2 => rfl
  case a3 => rfl
  case q1 => rfl
  case q2 => rfl
  case q3 => rfl
  intro g' L' c o h₁ tk FG' F' N' hd' B' X' T' lt1 lt2
  k_steps
  show _root_.PySem.wpAt _ _ _ (attributeBase _ _ _ _) _ _ _
  refine' cs_node (D := 75) (C := 75) ?bF ?bX ?bN ?bT ?bx ?bd ?bf ?bp ?bv ?bcode ?bvs ?bfile ?bcell ?bD ?bsub ?bsuper ?bat ?bks ?bkc ?bka ?bk ?btop ?bboot ?_
  case bF => k_asm
  case bX => k_asm
  case bN => k_asm
  case bT => k_asm
  case bx => k_mem
  case bd => k_mem
  case bf => k_is
  case bp => rfl
  case bv => first | rfl | decide
  case bcode => k_is
  case bvs => rfl
  case bfile => first | rfl | decide +kernel
  case bcell => k_is
  case bD => k_is
  case bsub => k_is
  case bsuper => k_is
  case bat => decide
  case bks => rfl
  case bkc => rfl
  case bka => rfl
  case bk => rfl
  case btop => decide +kernel
  case bboot => first | boot_by_name | rfl | kernel_rfl
  intro so h' F' N' lso
  repeat' (first | (k_unfold; (try dsimp only)) | (k_end; wrow_close) | ((fail_if_success (with_reducible show wpAny _ _ (getMethod (Value.ref _) _ _) _ _ _)); walk1) | (dsimp only; (fail_if_success (with_reducible show wpAny _ _ (getMethod (Value.ref _) _ _) _ _ _)); walk1) | ((fail_if_success (with_reducible show wpAny _ _ (getMethod (Value.ref _) _ _) _ _ _)); leave1; try dsimp only) | fail)
  refine' method_set (D := 75) (C := 75) ?cF ?cX ?cN ?cso ?cx ?cd ?csub ?co ?cm ?cn ?_
  case cF => k_asm
  case cX => k_asm
  case cN => k_asm
  case cso => k_mem
  case cx => k_mem
  case cd => k_mem
  case csub => kernel_rfl
  case co => kernel_rfl
  case cm => kernel_rfl
  case cn => decide
  intro q' h' F' N' lq
  repeat' (first | (k_unfold; (try dsimp only)) | (k_end; wrow_close) | ((fail_if_success (with_reducible show wpAny _ _ (callWith _ (Value.ref _) _ _ _) _ _ _)); walk1) | (dsimp only; (fail_if_success (with_reducible show wpAny _ _ (callWith _ (Value.ref _) _ _ _) _ _ _)); walk1) | ((fail_if_success (with_reducible show wpAny _ _ (callWith _ (Value.ref _) _ _ _) _ _ _)); leave1; try dsimp only) | fail)
  refine' callWith_smw ?dN ?dq ?_
  case dN => k_asm
  case dq => k_mem
  repeat' (first | (k_unfold; (try dsimp only)) | (k_end; wrow_close) | ((fail_if_success (with_reducible show wpAny _ _ (call (Value.ref _) [Value.ref _] _) _ _ _)); walk1) | (dsimp only; (fail_if_success (with_reducible show wpAny _ _ (call (Value.ref _) [Value.ref _] _) _ _ _)); walk1) | ((fail_if_success (with_reducible show wpAny _ _ (call (Value.ref _) [Value.ref _] _) _ _ _)); leave1; try dsimp only) | fail)
  exact smwAt (by k_asm) (by k_mem)
  try dsimp only [List.nil_append, List.cons_append]
  show wpAny _ _ (call (Value.ref _) [Value.ref _]) _ _ _
  refine' si_callK (C := 75) (rest := (c, o) :: (dx, emptyDict) :: nw) ?eF ?eX ?eN ?eh ?esub ?eC ?enm ?emw ?ex ?el ?elc ?eld ?er ?ene ?_
  case eF => k_asm
  case eX => k_asm
  case eN => k_asm
  case eh => with_unfolding_all rfl
  case esub => kernel_rfl
  case eC => k_is
  case enm => decide +kernel
  case emw => k_mem
  case ex => k_mem
  case el => exact List.Mem.tail _ (List.Mem.tail _ (List.Mem.tail _ (List.Mem.tail _ (List.Mem.tail _ hl))))
  case elc => rfl
  case eld => rfl
  case er => exact fun p hp => List.Mem.tail _ (List.Mem.tail _ (by
    rcases List.mem_cons.mp hp with rfl | hp
    · exact .head _
    · exact .tail _ (.tail _ hp)))
  case ene =>
    intro p hp
    have hxL := lt1 _ (List.Mem.head _)
    rcases List.mem_cons.mp hp with rfl | hp
    · exact Nat.ne_of_gt (Nat.lt_trans hxL lt2)
    · rcases List.mem_cons.mp hp with rfl | hp
      · exact Nat.ne_of_lt l2
      · exact Nat.ne_of_lt (Nat.lt_trans (l1 p hp) l2)
  intro h' tk' es ep tb F' N' hes htb
  repeat' (first | (k_unfold; (try dsimp only)) | (k_end; wrow_close) | ((fail_if_success (with_reducible show wpAny _ _ (call (Value.builtin "len") _ _) _ _ _)); walk1) | (dsimp only; (fail_if_success (with_reducible show wpAny _ _ (call (Value.builtin "len") _ _) _ _ _)); walk1) | ((fail_if_success (with_reducible show wpAny _ _ (call (Value.builtin "len") _ _) _ _ _)); leave1; try dsimp only) | fail)
  show wpAny _ _ (call (Value.builtin "len") [Value.ref l]) _ _ _
  refine' len_known (k := 1) ?fN ?fm ?fs (by decide) ?_
  case fN => k_asm
  case fm => exact List.Mem.tail _ (List.Mem.tail _ (List.Mem.tail _ hl))
  case fs => rfl
  intro t2 tk2
  repeat' (first | (k_unfold; (try dsimp only)) | (k_end; wrow_close) | ((fail_if_success (with_reducible show wpAny _ _ (call (Value.builtin "len") _ _) _ _ _)); walk1) | (dsimp only; (fail_if_success (with_reducible show wpAny _ _ (call (Value.builtin "len") _ _) _ _ _)); walk1) | ((fail_if_success (with_reducible show wpAny _ _ (call (Value.builtin "len") _ _) _ _ _)); leave1; try dsimp only) | fail)
  show wpAny _ _ (call (Value.builtin "len") [Value.ref x]) _ _ _
  refine' len_set1 (C := 75) (K := fk.heap_1 w.params) ?gX ?gx hes htb ?gs ?gl ?_
  case gX => exact X'.keeps (Fr.keep (by assumption))
  case gx => exact ((by assumption : News g' L' h' _) _ (List.Mem.head _)).1
  case gs => kernel_rfl
  case gl => k_is
  intro t3 tk3
  repeat' (first | (k_unfold; (try dsimp only)) | (k_end; wrow_close) | ((fail_if_success (with_reducible show wpAny _ _ (exec (Stmt.For _ _ _ _ _) _) _ _ _)); walk1) | (dsimp only; (fail_if_success (with_reducible show wpAny _ _ (exec (Stmt.For _ _ _ _ _) _) _ _ _)); walk1) | ((fail_if_success (with_reducible show wpAny _ _ (exec (Stmt.For _ _ _ _ _) _) _ _ _)); leave1; try dsimp only) | fail)
  with_unfolding_all refine' For_invVF (by assumption) ?k1 ?k2 ?_
  case k1 => exact rfl
  case k2 => exact rfl
  k_steps
  refine iter_listUnr (lo := W.listOf #[.int 0 t] 0) (vs := [.int 0 t]) (by rfl) (by k_asm) (by k_asm) (List.Mem.tail _ (List.Mem.tail _ (List.Mem.tail _ hl))) (by rfl) (by rfl) ?_
  intro I lI
  k_steps
  refine' ⟨_, _, _, (x, setObj1 75 dx es ep tb) :: (c, o) :: (dx, emptyDict) :: nw, rfl, ?uF, ?uN, ?ue, ?um, ?_⟩
  case uF => k_asm
  case uN => k_asm
  case ue => exact fun p hp => Nat.ne_of_lt (lI p hp)
  case um => exact List.Mem.tail _ (List.Mem.tail _ (List.Mem.tail _ hl))
  k_steps
  have d52 : 52 < dx := l1 _ h52
  have hl52 : l ≠ 52 := fun z => by
    have h1 := (N _ hl).1
    rw [show (l, W.listOf #[Value.int 0 t] 0).1 = 52 from z, (N _ h52).1] at h1
    cases h1
  refine' gen_K (P := 52) (l := l) (b := true) (v := .int 0 t) (n := 0) (ps := #[]) (lo := W.listOf #[.int 0 t] 0) (rest := (x, setObj1 75 dx es ep tb) :: (c, o) :: (dx, emptyDict) :: nw.filter (fun p => p.1 != 52)) ?hF ?hN hg ?hlim ?hM ?hok ?hP ?htr ?hnf ?hrest ?hl ?hlc ?hld ?hv ?hh ?hroom ?hco ?hclos ?hcell ?h0 ?hx ?hkind ?hk ?hy ?helt ?_
  case hF => k_asm
  case hN => k_asm
  case hlim => exact Top.nolimit (by assumption)
  case hM => exact bmod_of (by assumption) (by assumption) (by k_is) (FG'.keep _ _ hbm) (by decide) rfl rfl rfl
  case hok => exact code_ok (by assumption) (by k_is) rfl rfl rfl rfl rfl (by decide)
  case hP => exact List.Mem.tail _ (List.Mem.tail _ (List.Mem.tail _ h52))
  case htr => exact True.intro
  case hnf => rfl
  case hrest =>
    intro p hp
    have hxL := lt1 _ (List.Mem.head _)
    rcases List.mem_cons.mp hp with rfl | hp
    · exact ⟨.head _, Nat.ne_of_gt (Nat.lt_trans d52 l2)⟩
    rcases List.mem_cons.mp hp with rfl | hp
    · exact ⟨.tail _ (.head _), Nat.ne_of_gt (Nat.lt_trans (Nat.lt_trans (Nat.lt_trans d52 l2) hxL) lt2)⟩
    rcases List.mem_cons.mp hp with rfl | hp
    · exact ⟨.tail _ (.tail _ (.head _)), Nat.ne_of_gt d52⟩
    · obtain ⟨h1, h2⟩ := List.mem_filter.mp hp
      exact ⟨.tail _ (.tail _ (.tail _ h1)), by simpa using h2⟩
  case hl => exact List.Mem.tail _ (List.Mem.tail _ (List.Mem.tail _ hl))
  case hlc => rfl
  case hld => rfl
  case hv => rfl
  case hh => with_unfolding_all rfl
  case hroom => k_room
  case hco => rfl
  case hclos => rfl
  case hcell => decide
  case h0 => rfl
  case hx => rfl
  case hkind => rfl
  case hk => rfl
  case hy => rfl
  case helt => exact fun A' E' s₂ m₂ C code hA hn hm _ => elt_ge rfl rfl rfl (by decide) hn hm rfl
  intro gg s5 c' Kb F5 N5 G5 ho5 X5 hKb hPk hLk hh0
  repeat' (first | (k_unfold; (try dsimp only)) | (k_end; wrow_close) | ((fail_if_success (with_reducible show wpAny _ _ (call (Value.builtin "all") _ _) _ _ _)); walk1) | (dsimp only; (fail_if_success (with_reducible show wpAny _ _ (call (Value.builtin "all") _ _) _ _ _)); walk1) | ((fail_if_success (with_reducible show wpAny _ _ (call (Value.builtin "all") _ _) _ _ _)); leave1; try dsimp only) | fail)
  show wpAny _ _ (call (Value.builtin "all") [Value.ref gg]) _ _ _
  refine' all_K F5 N5 G5 X5 hLk ?jn ?_
  case jn =>
    intro p hp
    rcases List.mem_cons.mp hp with rfl | hp
    · exact hPk
    · exact hKb p hp
  intro s6 F6 N6 G6 ho6
  clear F5 N5 X5
  k_steps
  refine' gen_K (P := 52) (l := l) (b := false) (v := .int 0 t) (n := 0) (ps := _) (lo := W.listOf #[.int 0 t] 0) (rest := (x, setObj1 75 dx es ep tb) :: (c, o) :: (dx, emptyDict) :: nw.filter (fun p => p.1 != 52)) F6 N6 G6 ?iM ?iB ?iok (List.Mem.head _) ?itr ?inf ?irest ?il ?ilc ?ild ?iv ?ih ?iroom ?ico ?iclos ?icell ?i0 ?ix ?ikind ?ik ?iy ?ielt ?_
  case iM => exact Top.nolimit (by assumption)
  case iB => exact bmod_of (by assumption) (by assumption) (by k_is) (FG'.keep _ _ hbm) (by decide) rfl rfl rfl
  case iok => exact code_ok (by assumption) (by k_is) rfl rfl rfl rfl rfl (by decide)
  case itr => exact True.intro
  case inf => rfl
  case irest =>
    intro p hp
    have hxL := lt1 _ (List.Mem.head _)
    refine ⟨.tail _ hp, ?_⟩
    rcases List.mem_cons.mp hp with rfl | hp
    · exact Nat.ne_of_gt (Nat.lt_trans d52 l2)
    rcases List.mem_cons.mp hp with rfl | hp
    · exact Nat.ne_of_gt (Nat.lt_trans (Nat.lt_trans (Nat.lt_trans d52 l2) hxL) lt2)
    rcases List.mem_cons.mp hp with rfl | hp
    · exact Nat.ne_of_gt d52
    · obtain ⟨h1, h2⟩ := List.mem_filter.mp hp
      simpa using h2
  case il =>
    exact .tail _ (.tail _ (.tail _ (.tail _ (List.mem_filter.mpr ⟨hl, by simpa using hl52⟩))))
  case ilc => rfl
  case ild => rfl
  case iv => rfl
  case ih => with_unfolding_all rfl
  case iroom => k_room
  case ico => rfl
  case iclos => rfl
  case icell => decide
  case i0 => rfl
  case ix => rfl
  case ikind => rfl
  case ik => rfl
  case iy => rfl
  case ielt => exact fun A' E' s₂ m₂ C code hA hn hm hr => elt_ge_free rfl rfl rfl (by decide) hn hm rfl rfl (hr (c, o) (.tail _ (.head _))) hd' (by decide) (by decide) (decide_eq_false (by omega))
  intro gg2 s7 c2 Kb2 F7 N7 G7 ho7 X7 hKb2 hPk2 hLk2 hh2
  repeat' (first | (k_unfold; (try dsimp only)) | (k_end; wrow_close) | ((fail_if_success (with_reducible show wpAny _ _ (call (Value.builtin "any") _ _) _ _ _)); walk1) | (dsimp only; (fail_if_success (with_reducible show wpAny _ _ (call (Value.builtin "any") _ _) _ _ _)); walk1) | ((fail_if_success (with_reducible show wpAny _ _ (call (Value.builtin "any") _ _) _ _ _)); leave1; try dsimp only) | fail)
  show wpAny _ _ (call (Value.builtin "any") [Value.ref gg2]) _ _ _
  refine' any_K F7 N7 G7 X7 hLk2 ?kn ?_
  case kn =>
    intro p hp
    rcases List.mem_cons.mp hp with rfl | hp
    · exact hPk2
    · exact hKb2 p hp
  intro s8 F8 N8 G8 ho8
  clear F7 N7 X7
  repeat' (first | (k_unfold; (try dsimp only)) | (k_end; wrow_close) | ((fail_if_success (with_reducible show Q _ _)); walk1) | (dsimp only; (fail_if_success (with_reducible show Q _ _)); walk1) | ((fail_if_success (with_reducible show Q _ _)); leave1; try dsimp only) | fail)
  refine hret _ _ _ (by assumption) (by assumption) (fun p hp hc => ?_) ⟨_, List.Mem.head _⟩ G8 ?_
  · refine .tail _ (.tail _ (.tail _ (.tail _ (List.mem_filter.mpr ⟨hp, ?_⟩))))
    have : p.1 ≠ 52 := fun z => by
      have h1 := (N _ hp).1
      rw [z, (N _ h52).1] at h1
      exact hc (by rw [← Option.some.inj h1])
    simpa using this
  · exact ho8.trans (ho7.trans (ho6.trans ho5))
end
end
section
local macro_rules | `(tactic| k_inst) => `(tactic| exact inst_exc (by k_asm) (by k_mem))
section
local macro_rules | `(tactic| walk_at "exec If") => `(tactic| (k_here; (with_reducible show wpAny _ _ (exec (Stmt.If (Expr.Compare (Expr.Name ("rule_id" : Str) _) [CmpOp.Eq] [Expr.Constant (Const.str ("av" : Str)) _ _] _) _ [_] _) _) _ _ _); refine stop_of ?_))
local macro_rules | `(tactic| walk_at "exec Raise some none") => `(tactic| refine stop_of ?_)
section
set_option maxHeartbeats 0
theorem c_unknown (w : World) (b : Heap) (mean : ExcName → Option Value) (mg mb : Str → Option Value) (fn : Str) (nms : List (Str × NameKind)) (mr : List (Str × Const)) (L fa : Addr) (cd : Value)
    (s : Shared) (m : Str → Option Value) (nw : List (Addr × Obj)) (E Q : Value → Shared → Prop)
    (K0 : Below callerA b [] b) (F : Fr b L s.heap m) (N : News b L s.heap nw) (KX : (K w.params).In b) (T : Top vw lse mean mg mb b)
    (x : Str) (t1 : Tok) (hgo : ifGo (Str.ofString "rule_id") x 40 ruleIf = .inl (elseOf 28 ruleIf)) (hl : x.length ≤ 50)
    (hs1 : Txt.startswith x (Str.ofString "geom") = false) (hs2 : Txt.startswith x (Str.ofString "seq") = false) (hs3 : Txt.startswith x (Str.ofString "revseq") = false)
    (hret : ∀ h' tk, Fr b L h' m → News b L h' nw → Q (.bool true) { s with heap := h', toks := tk }) :
    wpAny (model P w) (callerA.deeper (lawEnv fn nms mr L fa cd)) (call (.ref 632) [.str x t1]) Q E s := by
  delta lawEnv K lse P at *
  revert KX
  k_fill
  intro KX
  show wpAny _ _ _ _ _ _
  k_steps
  show wpAny _ _ _ _ _ _
  refine' if_rest ?e hgo ?F ?N ?hr ?hk ?hl2 ?_
  case F => k_asm
  case N => k_asm
  case hr => exact rfl
  case e => kernel_rfl
  case hk => rfl
  case hl2 => rfl
  intro h' tk F' N'
  clear hgo
  dsimp only [elseOf]
  k_steps
  show wpAny _ _ (exec (Stmt.Raise (some _) none _) _) _ _ _
  refine raise_own (by kernel_rfl) ?_
  repeat' (first | (k_unfold; (try dsimp only)) | (k_end; wrow_close) | ((fail_if_success (with_reducible show wpAny _ _ (call (Value.ref 378) _ _) _ _ _)); walk1) | (dsimp only; (fail_if_success (with_reducible show wpAny _ _ (call (Value.ref 378) _ _) _ _ _)); walk1) | ((fail_if_success (with_reducible show wpAny _ _ (call (Value.ref 378) _ _) _ _ _)); leave1; try dsimp only) | fail)
  show wpAny _ _ (call (Value.ref 378) _) _ _ _
  refine' exc_start (fI := 375) ?F ?X ?N ?q ?f ?c ?l ?_
  case F => k_asm
  case X => k_asm
  case N => k_asm
  case q => kernel_rfl
  case f => exact rfl
  case c => exact rfl
  case l => exact Nat.le_of_ble_eq_true rfl
  intro e' t' h' F' N' ne'
  repeat' (first | (k_unfold; (try dsimp only)) | (k_end; wrow_close) | ((fail_if_success (with_reducible show wpAny _ _ (joinParts _ _) _ _ _)); (fail_if_success (with_reducible show wpAny _ _ (getMethod (Value.ref _) _ _) _ _ _)); walk1) | (dsimp only; (fail_if_success (with_reducible show wpAny _ _ (joinParts _ _) _ _ _)); (fail_if_success (with_reducible show wpAny _ _ (getMethod (Value.ref _) _ _) _ _ _)); walk1) | ((fail_if_success (with_reducible show wpAny _ _ (joinParts _ _) _ _ _)); (fail_if_success (with_reducible show wpAny _ _ (getMethod (Value.ref _) _ _) _ _ _)); leave1; try dsimp only) | fail)
  (first | refine joinParts_cons ?_ | refine joinParts_consE (joinParts_cons ?_))
  repeat' (first | (k_unfold; (try dsimp only)) | (k_end; wrow_close) | ((fail_if_success (with_reducible show wpAny _ _ (joinParts _ _) _ _ _)); (fail_if_success (with_reducible show wpAny _ _ (getMethod (Value.ref _) _ _) _ _ _)); walk1) | (dsimp only; (fail_if_success (with_reducible show wpAny _ _ (joinParts _ _) _ _ _)); (fail_if_success (with_reducible show wpAny _ _ (getMethod (Value.ref _) _ _) _ _ _)); walk1) | ((fail_if_success (with_reducible show wpAny _ _ (joinParts _ _) _ _ _)); (fail_if_success (with_reducible show wpAny _ _ (getMethod (Value.ref _) _ _) _ _ _)); leave1; try dsimp only) | fail)
  (first | refine joinParts_cons ?_ | refine joinParts_consE (joinParts_cons ?_))
  repeat' (first | (k_unfold; (try dsimp only)) | (k_end; wrow_close) | ((fail_if_success (with_reducible show wpAny _ _ (joinParts _ _) _ _ _)); (fail_if_success (with_reducible show wpAny _ _ (getMethod (Value.ref _) _ _) _ _ _)); walk1) | (dsimp only; (fail_if_success (with_reducible show wpAny _ _ (joinParts _ _) _ _ _)); (fail_if_success (with_reducible show wpAny _ _ (getMethod (Value.ref _) _ _) _ _ _)); walk1) | ((fail_if_success (with_reducible show wpAny _ _ (joinParts _ _) _ _ _)); (fail_if_success (with_reducible show wpAny _ _ (getMethod (Value.ref _) _ _) _ _ _)); leave1; try dsimp only) | fail)
  (first | refine joinParts_cons ?_ | refine joinParts_consE (joinParts_cons ?_))
  repeat' (first | (k_unfold; (try dsimp only)) | (k_end; wrow_close) | ((fail_if_success (with_reducible show wpAny _ _ (joinParts _ _) _ _ _)); (fail_if_success (with_reducible show wpAny _ _ (getMethod (Value.ref _) _ _) _ _ _)); walk1) | (dsimp only; (fail_if_success (with_reducible show wpAny _ _ (joinParts _ _) _ _ _)); (fail_if_success (with_reducible show wpAny _ _ (getMethod (Value.ref _) _ _) _ _ _)); walk1) | ((fail_if_success (with_reducible show wpAny _ _ (joinParts _ _) _ _ _)); (fail_if_success (with_reducible show wpAny _ _ (getMethod (Value.ref _) _ _) _ _ _)); leave1; try dsimp only) | fail)
  refine' joinParts_nil ?_ ?jz
  case jz => kt_le
  repeat' (first | (k_unfold; (try dsimp only)) | (k_end; wrow_close) | ((fail_if_success (with_reducible show wpAny _ _ (getMethod (Value.ref _) _ _) _ _ _)); walk1) | (dsimp only; (fail_if_success (with_reducible show wpAny _ _ (getMethod (Value.ref _) _ _) _ _ _)); walk1) | ((fail_if_success (with_reducible show wpAny _ _ (getMethod (Value.ref _) _ _) _ _ _)); leave1; try dsimp only) | fail)
  refine' method_excB (C := 378) (fI := 375) ?F ?X ?N ?so ?x ?q ?o ?m ?n ?_
  case F => k_asm
  case X => k_asm
  case N => k_asm
  case so => k_mem
  case x => k_mem
  case q => kernel_rfl
  case o => kernel_rfl
  case m => kernel_rfl
  case n => decide
  intro q' h' F' N'
  repeat' (first | (k_unfold; (try dsimp only)) | (k_end; wrow_close) | ((fail_if_success (with_reducible show wpAny _ _ (callWith _ (Value.ref _) _ _ _) _ _ _)); walk1) | (dsimp only; (fail_if_success (with_reducible show wpAny _ _ (callWith _ (Value.ref _) _ _ _) _ _ _)); walk1) | ((fail_if_success (with_reducible show wpAny _ _ (callWith _ (Value.ref _) _ _ _) _ _ _)); leave1; try dsimp only) | fail)
  refine' callWith_mw ?N ?q ?_
  case N => k_asm
  case q => k_mem
  repeat' (first | (k_unfold; (try dsimp only)) | (k_end; wrow_close) | ((fail_if_success (with_reducible show MwAt _ _ _)); (fail_if_success (with_reducible show wpAny _ _ (call (Value.ref _) [Value.str _ _] _) _ _ _)); walk1) | (dsimp only; (fail_if_success (with_reducible show MwAt _ _ _)); (fail_if_success (with_reducible show wpAny _ _ (call (Value.ref _) [Value.str _ _] _) _ _ _)); walk1) | ((fail_if_success (with_reducible show MwAt _ _ _)); (fail_if_success (with_reducible show wpAny _ _ (call (Value.ref _) [Value.str _ _] _) _ _ _)); leave1; try dsimp only) | fail)
  exact mwAt (by k_asm) (by k_mem)
  try dsimp only [List.nil_append, List.cons_append]
  show wpAny _ _ (call (Value.ref _) [Value.str _ _]) _ _ _
  refine' call_mwK (C := 378) (fI := 375) ?F ?X ?N ?q ?mw ?e ?r ?ne ?_
  case F => k_asm
  case X => k_asm
  case N => k_asm
  case mw => k_mem
  case e => k_mem
  case q => kernel_rfl
  case ne => exact ne'
  case r => (intro p hp; repeat (first | exact hp | refine List.Mem.tail _ ?_))
  intro tn' h' F' N' nt' et'
  repeat' (first | (k_unfold; (try dsimp only)) | (k_end; wrow_close) | ((fail_if_success (with_reducible show _ = _ ∧ RaisableO _ _ _)); walk1) | (dsimp only; (fail_if_success (with_reducible show _ = _ ∧ RaisableO _ _ _)); walk1) | ((fail_if_success (with_reducible show _ = _ ∧ RaisableO _ _ _)); leave1; try dsimp only) | fail)
  refine' And.right (raise_done (C := 378) (fI := 375) ?F ?X ?N ?q ?ne ?nt ?et ?_)
  case F => k_asm
  case X => k_asm
  case N => k_asm
  case q => kernel_rfl
  case ne => exact ne'
  case nt => exact nt'
  case et => exact et'
  intro h₂ F' N' x'
  repeat' (first | (k_unfold; (try dsimp only)) | (k_end; wrow_close) | ((fail_if_success (with_reducible show InitBack _ _ _ _)); walk1) | (dsimp only; (fail_if_success (with_reducible show InitBack _ _ _ _)); walk1) | ((fail_if_success (with_reducible show InitBack _ _ _ _)); leave1; try dsimp only) | fail)
  dsimp only [InitBack]
  repeat' (first | (k_unfold; (try dsimp only)) | (k_end; wrow_close) | ((fail_if_success (with_reducible show wpAny _ _ (call (Value.type "str") [Value.ref _] _) _ _ _)); walk1) | (dsimp only; (fail_if_success (with_reducible show wpAny _ _ (call (Value.type "str") [Value.ref _] _) _ _ _)); walk1) | ((fail_if_success (with_reducible show wpAny _ _ (call (Value.type "str") [Value.ref _] _) _ _ _)); leave1; try dsimp only) | fail)
  refine' str_got_own (C := 378) (fI := 375) ?F ?X ?N ?q ?q2 ?G ?U ?_
  case G => assumption
  case F => k_asm
  case X => k_asm
  case N => k_asm
  case q => kernel_rfl
  case q2 => kernel_rfl
  case U => first | units_room | k_room
  repeat' (first | (k_unfold; (try dsimp only)) | (k_end; wrow_close) | ((fail_if_success (with_reducible show Q _ _)); walk1) | (dsimp only; (fail_if_success (with_reducible show Q _ _)); walk1) | ((fail_if_success (with_reducible show Q _ _)); leave1; try dsimp only) | fail)
  rename_i kF kN Tc kX
  rw [beq_self_eq_true]
  exact hret _ _ kF (fun p hp => kN p (by repeat (first | exact hp | refine List.Mem.tail _ ?_)))
end
section
local macro_rules | `(tactic| walk_at "leaving ref") => `(tactic| refine stop_of ?_)
section
set_option maxHeartbeats 0
theorem cut_in {M : Model} {A : Around} {E : Value → Shared → Prop} {Q : Flow → Shared → Prop} {test : Expr} {body orelse : List Stmt} {pos : Pos} {env : Env} {s : Shared} {g : Heap} {L : Addr} {m : Str → Option Value} {nw : List (Addr × Obj)}
    (F : Fr g L s.heap m) (N : News g L s.heap nw)
    (h1 : ∀ R : Flow → Shared → Prop, (∀ h' tk, Fr g L h' m → News g L h' nw → wpAny M A (execs body env) R E { s with heap := h', toks := tk }) → wpAny M A (exec (.If test body orelse pos) env) R E s)
    (h2 : ∀ h' tk, Fr g L h' m → News g L h' nw → wpAny M A (execs body env) Q E { s with heap := h', toks := tk }) : wpAny M A (exec (.If test body orelse pos) env) Q E s := h1 Q h2
theorem cut_store {M : Model} {A : Around} {E : Value → Shared → Prop} {Q : Flow → Shared → Prop} {t : Stmt} {env : Env} {s : Shared} {g : Heap} {L : Addr} {m : Str → Option Value} {nw : List (Addr × Obj)} {n : Str} {v : Tok → Value}
    (F : Fr g L s.heap m) (N : News g L s.heap nw)
    (h1 : ∀ R : Flow → Shared → Prop, (∀ h' tk u, Fr g L h' (fun z => if z = n then some (v u) else m z) → News g L h' nw → R .next { s with heap := h', toks := tk }) → wpAny M A (exec t env) R E s)
    (h2 : ∀ h' tk u, Fr g L h' (fun z => if z = n then some (v u) else m z) → News g L h' nw → Q .next { s with heap := h', toks := tk }) : wpAny M A (exec t env) Q E s := h1 Q h2
theorem c_unknown_from (w : World) (b : Heap) (mean : ExcName → Option Value) (mg mb : Str → Option Value) (fn : Str) (nms : List (Str × NameKind)) (mr : List (Str × Const)) (L fa : Addr) (cd : Value)
    (s : Shared) (m : Str → Option Value) (nw : List (Addr × Obj)) (E Q : Value → Shared → Prop)
    (K0 : Below callerA b [] b) (F : Fr b L s.heap m) (N : News b L s.heap nw) (KX : (K w.params).In b) (T : Top vw lse mean mg mb b)
    (x y : Str) (t1 : Tok) (hgo : ifGo (Str.ofString "rule_id") x 40 ruleIf = .inl (elseOf 28 ruleIf)) (hl : x.length ≤ 50) (hly : y.length ≤ 50) (hs1 : Txt.startswith x (Str.ofString "geom") = false)
    (hs3 : Txt.startswith x (Str.ofString "seq") = false → Txt.startswith x (Str.ofString "revseq") = true) (hy3 : Txt.startswith x (Str.ofString "seq") = true → Txt.slice x (some 3) none = y) (hy6 : Txt.startswith x (Str.ofString "seq") = false → Txt.slice x (some 6) none = y)
    (hp1 : (y == Str.ofString "pav") = false) (hp2 : (y == Str.ofString "adams") = false) (hp3 : (y == Str.ofString "slav") = false) (hp4 : (y == Str.ofString "cc") = false) (hp5 : (y == Str.ofString "av") = false)
    (hp6 : (Txt.slice y none (some 4) == Str.ofString "geom") = false) (hp7 : (Txt.slice y none (some 7) == Str.ofString "atleast") = false)
    (hret : ∀ h' tk, Fr b L h' m → News b L h' nw → Q (.bool true) { s with heap := h', toks := tk }) :
    wpAny (model P w) (callerA.deeper (lawEnv fn nms mr L fa cd)) (call (.ref 632) [.str x t1]) Q E s := by
  delta lawEnv K lse P at *
  revert KX
  k_fill
  intro KX
  show wpAny _ _ _ _ _ _
  k_steps
  show wpAny _ _ _ _ _ _
  refine' if_rest ?e hgo ?F ?N ?hr ?hk ?hl2 ?_
  case F => k_asm
  case N => k_asm
  case hr => exact rfl
  case e => kernel_rfl
  case hk => rfl
  case hl2 => rfl
  intro h' tk F' N'
  clear hgo
  dsimp only [elseOf]
  repeat' (first | (k_unfold; (try dsimp only)) | (k_end; wrow_close) | ((fail_if_success (with_reducible show wpAny _ _ (exec (Stmt.If (Expr.BoolOp _ _ _) _ _ _) _) _ _ _)); walk1) | (dsimp only; (fail_if_success (with_reducible show wpAny _ _ (exec (Stmt.If (Expr.BoolOp _ _ _) _ _ _) _) _ _ _)); walk1) | ((fail_if_success (with_reducible show wpAny _ _ (exec (Stmt.If (Expr.BoolOp _ _ _) _ _ _) _) _ _ _)); leave1; try dsimp only) | fail)
  refine' cut_in ?uF ?uN ?u1 ?_
  case uF => k_asm
  case uN => k_asm
  case u1 =>
    intro R hR
    cases hb : Txt.startswith x (Str.ofString "seq") with
    | false =>
      have hb3 := hs3 hb
      repeat' (first | (k_unfold; (try dsimp only)) | (k_end; wrow_close) | ((fail_if_success (with_reducible show wpAny _ _ (execs (Stmt.If _ _ _ _ :: Stmt.Try _ _ _ _ _ :: _) _) _ _ _)); walk1) | (dsimp only; (fail_if_success (with_reducible show wpAny _ _ (execs (Stmt.If _ _ _ _ :: Stmt.Try _ _ _ _ _ :: _) _) _ _ _)); walk1) | ((fail_if_success (with_reducible show wpAny _ _ (execs (Stmt.If _ _ _ _ :: Stmt.Try _ _ _ _ _ :: _) _) _ _ _)); leave1; try dsimp only) | fail)
      exact hR _ _ (by k_asm) (by k_asm)
    | true =>
      repeat' (first | (k_unfold; (try dsimp only)) | (k_end; wrow_close) | ((fail_if_success (with_reducible show wpAny _ _ (execs (Stmt.If _ _ _ _ :: Stmt.Try _ _ _ _ _ :: _) _) _ _ _)); walk1) | (dsimp only; (fail_if_success (with_reducible show wpAny _ _ (execs (Stmt.If _ _ _ _ :: Stmt.Try _ _ _ _ _ :: _) _) _ _ _)); walk1) | ((fail_if_success (with_reducible show wpAny _ _ (execs (Stmt.If _ _ _ _ :: Stmt.Try _ _ _ _ _ :: _) _) _ _ _)); leave1; try dsimp only) | fail)
      exact hR _ _ (by k_asm) (by k_asm)
  intro h' tk F' N'
  repeat' (first | (k_unfold; (try dsimp only)) | (k_end; wrow_close) | ((fail_if_success (with_reducible show wpAny _ _ (exec (Stmt.If (Expr.Call _ _ _ _) _ _ _) _) _ _ _)); walk1) | (dsimp only; (fail_if_success (with_reducible show wpAny _ _ (exec (Stmt.If (Expr.Call _ _ _ _) _ _ _) _) _ _ _)); walk1) | ((fail_if_success (with_reducible show wpAny _ _ (exec (Stmt.If (Expr.Call _ _ _ _) _ _ _) _) _ _ _)); leave1; try dsimp only) | fail)
  refine' cut_store (n := Str.ofString "scorefct_id") (v := fun t => .str y t) ?vF ?vN ?v1 ?_
  case vF => k_asm
  case vN => k_asm
  case v1 =>
    intro R hR
    cases hb : Txt.startswith x (Str.ofString "seq") with
    | false =>
      have e := hy6 hb
      repeat' (first | (k_unfold; (try dsimp only)) | (k_end; wrow_close) | ((fail_if_success (with_reducible show R _ _)); walk1) | (dsimp only; (fail_if_success (with_reducible show R _ _)); walk1) | ((fail_if_success (with_reducible show R _ _)); leave1; try dsimp only) | fail)
      subst e
      exact hR _ _ _ (by k_asm) (by k_asm)
    | true =>
      have e := hy3 hb
      repeat' (first | (k_unfold; (try dsimp only)) | (k_end; wrow_close) | ((fail_if_success (with_reducible show R _ _)); walk1) | (dsimp only; (fail_if_success (with_reducible show R _ _)); walk1) | ((fail_if_success (with_reducible show R _ _)); leave1; try dsimp only) | fail)
      subst e
      exact hR _ _ _ (by k_asm) (by k_asm)
  intro h' tk t F' N'
  dsimp only at F' N'
  k_steps
  show wpAny _ _ (exec (Stmt.Raise (some _) none _) _) _ _ _
  refine raise_own (by kernel_rfl) ?_
  repeat' (first | (k_unfold; (try dsimp only)) | (k_end; wrow_close) | ((fail_if_success (with_reducible show wpAny _ _ (call (Value.ref 260) _ _) _ _ _)); walk1) | (dsimp only; (fail_if_success (with_reducible show wpAny _ _ (call (Value.ref 260) _ _) _ _ _)); walk1) | ((fail_if_success (with_reducible show wpAny _ _ (call (Value.ref 260) _ _) _ _ _)); leave1; try dsimp only) | fail)
  show wpAny _ _ (call (Value.ref 260) _) _ _ _
  refine' exc_start (fI := 257) ?aF ?aX ?aN ?aq ?af ?ac ?al ?_
  case aF => k_asm
  case aX => k_asm
  case aN => k_asm
  case aq => kernel_rfl
  case af => exact rfl
  case ac => exact rfl
  case al => exact Nat.le_of_ble_eq_true rfl
  intro e' t' h' F' N' ne'
  repeat' (first | (k_unfold; (try dsimp only)) | (k_end; wrow_close) | ((fail_if_success (with_reducible show wpAny _ _ (getMethod (Value.ref _) _ _) _ _ _)); walk1) | (dsimp only; (fail_if_success (with_reducible show wpAny _ _ (getMethod (Value.ref _) _ _) _ _ _)); walk1) | ((fail_if_success (with_reducible show wpAny _ _ (getMethod (Value.ref _) _ _) _ _ _)); leave1; try dsimp only) | fail)
  refine' method_excB (C := 260) (fI := 257) ?bF ?bX ?bN ?bso ?bx ?bq ?bo ?bm ?bn ?_
  case bF => k_asm
  case bX => k_asm
  case bN => k_asm
  case bso => k_mem
  case bx => k_mem
  case bq => kernel_rfl
  case bo => kernel_rfl
  case bm => kernel_rfl
  case bn => decide
  intro q' h' F' N'
  repeat' (first | (k_unfold; (try dsimp only)) | (k_end; wrow_close) | ((fail_if_success (with_reducible show wpAny _ _ (callWith _ (Value.ref _) _ _ _) _ _ _)); walk1) | (dsimp only; (fail_if_success (with_reducible show wpAny _ _ (callWith _ (Value.ref _) _ _ _) _ _ _)); walk1) | ((fail_if_success (with_reducible show wpAny _ _ (callWith _ (Value.ref _) _ _ _) _ _ _)); leave1; try dsimp only) | fail)
  refine' callWith_mw ?cN ?cq ?_
  case cN => k_asm
  case cq => k_mem
  repeat' (first | (k_unfold; (try dsimp only)) | (k_end; wrow_close) | ((fail_if_success (with_reducible show MwAt _ _ _)); (fail_if_success (with_reducible show wpAny _ _ (call (Value.ref _) [Value.str _ _] _) _ _ _)); walk1) | (dsimp only; (fail_if_success (with_reducible show MwAt _ _ _)); (fail_if_success (with_reducible show wpAny _ _ (call (Value.ref _) [Value.str _ _] _) _ _ _)); walk1) | ((fail_if_success (with_reducible show MwAt _ _ _)); (fail_if_success (with_reducible show wpAny _ _ (call (Value.ref _) [Value.str _ _] _) _ _ _)); leave1; try dsimp only) | fail)
  exact mwAt (by k_asm) (by k_mem)
  try dsimp only [List.nil_append, List.cons_append]
  show wpAny _ _ (call (Value.ref _) [Value.str _ _]) _ _ _
  refine' call_mwK (C := 260) (fI := 257) ?dF ?dX ?dN ?dq ?dmw ?de ?dr ?dne ?_
  case dF => k_asm
  case dX => k_asm
  case dN => k_asm
  case dmw => k_mem
  case de => k_mem
  case dq => kernel_rfl
  case dne => exact ne'
  case dr => (intro p hp; repeat (first | exact hp | refine List.Mem.tail _ ?_))
  intro tn' h' F' N' nt' et'
  repeat' (first | (k_unfold; (try dsimp only)) | (k_end; wrow_close) | ((fail_if_success (with_reducible show _ = _ ∧ RaisableO _ _ _)); walk1) | (dsimp only; (fail_if_success (with_reducible show _ = _ ∧ RaisableO _ _ _)); walk1) | ((fail_if_success (with_reducible show _ = _ ∧ RaisableO _ _ _)); leave1; try dsimp only) | fail)
  refine' And.right (raise_done (C := 260) (fI := 257) ?eF ?eX ?eN ?eq ?ene ?ent ?eet ?_)
  case eF => k_asm
  case eX => k_asm
  case eN => k_asm
  case eq => kernel_rfl
  case ene => exact ne'
  case ent => exact nt'
  case eet => exact et'
  intro h₂ F' N' x'
  k_steps
  show wpAny _ _ (leaving _ (Value.ref _)) _ _ _
  refine' leave_raise2 ?vK ?vx ?vF ?vN ?_
  case vx => assumption
  case vF => assumption
  case vK => assumption
  case vN => k_asm
  intro h' t' R' U'
  dsimp only at R' U' ⊢
  repeat' (first | (k_unfold; (try dsimp only)) | (k_end; wrow_close) | ((fail_if_success (with_reducible show wpAny _ _ (noteFrame _ _) _ _ _)); walk1) | (dsimp only; (fail_if_success (with_reducible show wpAny _ _ (noteFrame _ _) _ _ _)); walk1) | ((fail_if_success (with_reducible show wpAny _ _ (noteFrame _ _) _ _ _)); leave1; try dsimp only) | fail)
  refine' hit2 ?xR ?xF ?xK ?xU ?xX ?xT ?xD ?xTt ?_
  case xR => assumption
  case xF => assumption
  case xK => assumption
  case xU => assumption
  case xX => assumption
  case xT => assumption
  case xD => exact dicts_down (by assumption) (by assumption)
  case xTt => kts_test
  intro h' g' oe ws tk hoc hod how T' F' N' K' X' P' D'
  (try k_lift K')
  (try k_sweep)
  repeat' (first | (k_unfold; (try dsimp only)) | (k_end; wrow_close) | ((fail_if_success (with_reducible show wpAny _ _ (exec (Stmt.Raise (some _) (some _) _) _) _ _ _)); walk1) | (dsimp only; (fail_if_success (with_reducible show wpAny _ _ (exec (Stmt.Raise (some _) (some _) _) _) _ _ _)); walk1) | ((fail_if_success (with_reducible show wpAny _ _ (exec (Stmt.Raise (some _) (some _) _) _) _ _ _)); leave1; try dsimp only) | fail)
  show wpAny _ _ (exec (Stmt.Raise (some _) (some _) _) _) _ _ _
  refine raise_from (by with_unfolding_all rfl) ?_
  repeat' (first | (k_unfold; (try dsimp only)) | (k_end; wrow_close) | ((fail_if_success (with_reducible show wpAny _ _ (call (Value.ref 378) _ _) _ _ _)); walk1) | (dsimp only; (fail_if_success (with_reducible show wpAny _ _ (call (Value.ref 378) _ _) _ _ _)); walk1) | ((fail_if_success (with_reducible show wpAny _ _ (call (Value.ref 378) _ _) _ _ _)); leave1; try dsimp only) | fail)
  show wpAny _ _ (call (Value.ref 378) _) _ _ _
  refine' exc_start (fI := 375) ?cF ?cX ?cN ?cq ?cf ?cc ?cl ?_
  case cF => k_asm
  case cX => k_asm
  case cN => k_asm
  case cq => kernel_rfl
  case cf => exact rfl
  case cc => exact rfl
  case cl => exact Nat.le_of_ble_eq_true rfl
  intro e' t' h' F' N' ne'
  repeat' (first | (k_unfold; (try dsimp only)) | (k_end; wrow_close) | ((fail_if_success (with_reducible show wpAny _ _ (joinParts _ _) _ _ _)); (fail_if_success (with_reducible show wpAny _ _ (getMethod (Value.ref _) _ _) _ _ _)); walk1) | (dsimp only; (fail_if_success (with_reducible show wpAny _ _ (joinParts _ _) _ _ _)); (fail_if_success (with_reducible show wpAny _ _ (getMethod (Value.ref _) _ _) _ _ _)); walk1) | ((fail_if_success (with_reducible show wpAny _ _ (joinParts _ _) _ _ _)); (fail_if_success (with_reducible show wpAny _ _ (getMethod (Value.ref _) _ _) _ _ _)); leave1; try dsimp only) | fail)
  (first | refine joinParts_cons ?_ | refine joinParts_consE (joinParts_cons ?_))
  repeat' (first | (k_unfold; (try dsimp only)) | (k_end; wrow_close) | ((fail_if_success (with_reducible show wpAny _ _ (joinParts _ _) _ _ _)); (fail_if_success (with_reducible show wpAny _ _ (getMethod (Value.ref _) _ _) _ _ _)); walk1) | (dsimp only; (fail_if_success (with_reducible show wpAny _ _ (joinParts _ _) _ _ _)); (fail_if_success (with_reducible show wpAny _ _ (getMethod (Value.ref _) _ _) _ _ _)); walk1) | ((fail_if_success (with_reducible show wpAny _ _ (joinParts _ _) _ _ _)); (fail_if_success (with_reducible show wpAny _ _ (getMethod (Value.ref _) _ _) _ _ _)); leave1; try dsimp only) | fail)
  (first | refine joinParts_cons ?_ | refine joinParts_consE (joinParts_cons ?_))
  repeat' (first | (k_unfold; (try dsimp only)) | (k_end; wrow_close) | ((fail_if_success (with_reducible show wpAny _ _ (joinParts _ _) _ _ _)); (fail_if_success (with_reducible show wpAny _ _ (getMethod (Value.ref _) _ _) _ _ _)); walk1) | (dsimp only; (fail_if_success (with_reducible show wpAny _ _ (joinParts _ _) _ _ _)); (fail_if_success (with_reducible show wpAny _ _ (getMethod (Value.ref _) _ _) _ _ _)); walk1) | ((fail_if_success (with_reducible show wpAny _ _ (joinParts _ _) _ _ _)); (fail_if_success (with_reducible show wpAny _ _ (getMethod (Value.ref _) _ _) _ _ _)); leave1; try dsimp only) | fail)
  (first | refine joinParts_cons ?_ | refine joinParts_consE (joinParts_cons ?_))
  repeat' (first | (k_unfold; (try dsimp only)) | (k_end; wrow_close) | ((fail_if_success (with_reducible show wpAny _ _ (joinParts _ _) _ _ _)); (fail_if_success (with_reducible show wpAny _ _ (getMethod (Value.ref _) _ _) _ _ _)); walk1) | (dsimp only; (fail_if_success (with_reducible show wpAny _ _ (joinParts _ _) _ _ _)); (fail_if_success (with_reducible show wpAny _ _ (getMethod (Value.ref _) _ _) _ _ _)); walk1) | ((fail_if_success (with_reducible show wpAny _ _ (joinParts _ _) _ _ _)); (fail_if_success (with_reducible show wpAny _ _ (getMethod (Value.ref _) _ _) _ _ _)); leave1; try dsimp only) | fail)
  refine' joinParts_nil ?_ ?jz
  case jz => kt_le
  repeat' (first | (k_unfold; (try dsimp only)) | (k_end; wrow_close) | ((fail_if_success (with_reducible show wpAny _ _ (getMethod (Value.ref _) _ _) _ _ _)); walk1) | (dsimp only; (fail_if_success (with_reducible show wpAny _ _ (getMethod (Value.ref _) _ _) _ _ _)); walk1) | ((fail_if_success (with_reducible show wpAny _ _ (getMethod (Value.ref _) _ _) _ _ _)); leave1; try dsimp only) | fail)
  refine' method_excB (C := 378) (fI := 375) ?gF ?gX ?gN ?gso ?gx ?gq ?go ?gm ?gn ?_
  case gF => k_asm
  case gX => k_asm
  case gN => k_asm
  case gso => k_mem
  case gx => k_mem
  case gq => kernel_rfl
  case go => kernel_rfl
  case gm => kernel_rfl
  case gn => decide
  intro q' h' F' N'
  repeat' (first | (k_unfold; (try dsimp only)) | (k_end; wrow_close) | ((fail_if_success (with_reducible show wpAny _ _ (callWith _ (Value.ref _) _ _ _) _ _ _)); walk1) | (dsimp only; (fail_if_success (with_reducible show wpAny _ _ (callWith _ (Value.ref _) _ _ _) _ _ _)); walk1) | ((fail_if_success (with_reducible show wpAny _ _ (callWith _ (Value.ref _) _ _ _) _ _ _)); leave1; try dsimp only) | fail)
  refine' callWith_mw ?hN ?hq ?_
  case hN => k_asm
  case hq => k_mem
  repeat' (first | (k_unfold; (try dsimp only)) | (k_end; wrow_close) | ((fail_if_success (with_reducible show MwAt _ _ _)); (fail_if_success (with_reducible show wpAny _ _ (call (Value.ref _) [Value.str _ _] _) _ _ _)); walk1) | (dsimp only; (fail_if_success (with_reducible show MwAt _ _ _)); (fail_if_success (with_reducible show wpAny _ _ (call (Value.ref _) [Value.str _ _] _) _ _ _)); walk1) | ((fail_if_success (with_reducible show MwAt _ _ _)); (fail_if_success (with_reducible show wpAny _ _ (call (Value.ref _) [Value.str _ _] _) _ _ _)); leave1; try dsimp only) | fail)
  exact mwAt (by k_asm) (by k_mem)
  try dsimp only [List.nil_append, List.cons_append]
  show wpAny _ _ (call (Value.ref _) [Value.str _ _]) _ _ _
  refine' call_mwK (C := 378) (fI := 375) ?iF ?iX ?iN ?iq ?imw ?ie ?ir ?ine ?_
  case iF => k_asm
  case iX => k_asm
  case iN => k_asm
  case imw => k_mem
  case ie => k_mem
  case iq => kernel_rfl
  case ine => exact ne'
  case ir => (intro p hp; repeat (first | exact hp | refine List.Mem.tail _ ?_))
  intro tn' h' F' N' nt' et'
  repeat' (first | (k_unfold; (try dsimp only)) | (k_end; wrow_close) | ((fail_if_success (with_reducible show RaisableF _ _ _ _ _)); walk1) | (dsimp only; (fail_if_success (with_reducible show RaisableF _ _ _ _ _)); walk1) | ((fail_if_success (with_reducible show RaisableF _ _ _ _ _)); leave1; try dsimp only) | fail)
  refine' raisable_chain (C := 378) (fI := 375) (C0 := 260) (fI0 := 257) ?jF ?jX ?jN ?jq ?jq0 ?jne ?jnt ?jet ?je0 ?jc ?jd ?jh ?jK ?_
  case jF => k_asm
  case jX => k_asm
  case jN => k_asm
  case jq => kernel_rfl
  case jq0 => kernel_rfl
  case jne => exact ne'
  case jnt => exact nt'
  case jet => exact et'
  case je0 => k_mem
  case jc => exact hoc
  case jd => exact hod
  case jh => exact how
  case jK => assumption
  intro h' tk' H'
  k_steps
  show wpAny _ _ (leaving _ (Value.ref _)) _ _ _
  refine' held_leaves ?kH ?_
  case kH => assumption
  intro h' S' R' U'
  replace S' := raised_turn T' S'
  replace U' := up_turn T' U'
  dsimp only at S' R' U' ⊢
  repeat' (first | (k_unfold; (try dsimp only)) | (k_end; wrow_close) | ((fail_if_success (with_reducible show InitBack _ _ _ _)); walk1) | (dsimp only; (fail_if_success (with_reducible show InitBack _ _ _ _)); walk1) | ((fail_if_success (with_reducible show InitBack _ _ _ _)); leave1; try dsimp only) | fail)
  dsimp only [InitBack]
  repeat' (first | (k_unfold; (try dsimp only)) | (k_end; wrow_close) | ((fail_if_success (with_reducible show wpAny _ _ (call (Value.type "str") [Value.ref _] _) _ _ _)); walk1) | (dsimp only; (fail_if_success (with_reducible show wpAny _ _ (call (Value.type "str") [Value.ref _] _) _ _ _)); walk1) | ((fail_if_success (with_reducible show wpAny _ _ (call (Value.type "str") [Value.ref _] _) _ _ _)); leave1; try dsimp only) | fail)
  refine' str_got_own (C := 378) (fI := 375) ?lF ?lX ?lN ?lq ?lq2 ?lG ?lU ?_
  case lG => assumption
  case lF => k_asm
  case lX => k_asm
  case lN => k_asm
  case lq => kernel_rfl
  case lq2 => kernel_rfl
  case lU => first | units_room | k_room
  repeat' (first | (k_unfold; (try dsimp only)) | (k_end; wrow_close) | ((fail_if_success (with_reducible show Q _ _)); walk1) | (dsimp only; (fail_if_success (with_reducible show Q _ _)); walk1) | ((fail_if_success (with_reducible show Q _ _)); leave1; try dsimp only) | fail)
  rename_i kF kN Tc kX
  rw [beq_self_eq_true]
  exact hret _ _ kF (fun p hp => kN p (by repeat (first | exact hp | refine List.Mem.tail _ ?_)))
end
end
end
end
end
section
local macro_rules | `(tactic| k_mem) => `(tactic| assumption)
section
local macro_rules | `(tactic| tb_start) => `(tactic| first | assumption | exact if_pos rfl | (refine (if_neg (by decide)).trans ?_; tb_start))
local macro_rules | `(tactic| walk_at "eval Name") => `(tactic| (k_here; k_dflt (refine' ld ?k1 ?k2 ?_; (case k1 => k_asm); (case k2 => tb_start); k_whole)))
local macro_rules | `(tactic| walk_at "subscriptTail") => `(tactic| (k_here; (with_reducible show wpAny _ _ (subscriptTail _ _ (Value.ref _) (Value.int _ _)) _ _ _); k_dflt (refine' item_in (by k_asm) (by k_mem) (by decide) (by decide) (by rfl) (by with_unfolding_all rfl) ?_)))
section
set_option maxHeartbeats 2000000
theorem relist {g h : Heap} {L : Addr} {nw' nwf : List (Addr × Obj)} {p1 p2 p3 p4 p5 p6 p7 : Addr × Obj} {tab' : Obj} (N : News g L h nw') (sub : ∀ p ∈ p1 :: p2 :: p3 :: p4 :: p5 :: p6 :: p7 :: (52, tabO) :: nwf, p.2.cls ≠ .none → p ∈ nw') (ht : (52, tab') ∈ nw')
    (c1 : p1.2.cls ≠ .none) (c2 : p2.2.cls ≠ .none) (c3 : p3.2.cls ≠ .none) (c4 : p4.2.cls ≠ .none) (c5 : p5.2.cls ≠ .none) (c6 : p6.2.cls ≠ .none) (c7 : p7.2.cls ≠ .none) (cf : ∀ p ∈ nwf, p.2.cls ≠ .none) :
    News g L h (p1 :: p2 :: p3 :: p4 :: p5 :: p6 :: p7 :: (52, tab') :: nwf) := fun p hp => N p (by
  simp only [List.mem_cons] at hp
  rcases hp with rfl | rfl | rfl | rfl | rfl | rfl | rfl | rfl | hp
  · exact sub _ (.head _) c1
  · exact sub _ (.tail _ (.head _)) c2
  · exact sub _ (.tail _ (.tail _ (.head _))) c3
  · exact sub _ (.tail _ (.tail _ (.tail _ (.head _)))) c4
  · exact sub _ (.tail _ (.tail _ (.tail _ (.tail _ (.head _))))) c5
  · exact sub _ (.tail _ (.tail _ (.tail _ (.tail _ (.tail _ (.head _)))))) c6
  · exact sub _ (.tail _ (.tail _ (.tail _ (.tail _ (.tail _ (.tail _ (.head _))))))) c7
  · exact ht
  · exact sub _ (.tail _ (.tail _ (.tail _ (.tail _ (.tail _ (.tail _ (.tail _ (.tail _ hp)))))))) (cf _ hp))
theorem append_six {prog : Program} {w : World} {A : Around} {E : Value → Shared → Prop} {s : Shared} {g : Heap} {L va : Addr} {m : Str → Option Value} {x : Value} {rest : List (Addr × Obj)} {p1 p2 p3 p4 p5 p6 : Addr × Obj} {Q : Value → Shared → Prop} (F : Fr g L s.heap m) (N : News g L s.heap (p1 :: p2 :: p3 :: p4 :: p5 :: p6 :: (va, W.listOf #[] 0) :: rest))
    (h1 : p1.1 ≠ va) (h2 : p2.1 ≠ va) (h3 : p3.1 ≠ va) (h4 : p4.1 ≠ va) (h5 : p5.1 ≠ va) (h6 : p6.1 ≠ va) (hr : ∀ p ∈ rest, p.1 ≠ va)
    (h : ∀ h', Fr g L h' m → News g L h' ((va, W.listOf #[x] 1) :: p1 :: p2 :: p3 :: p4 :: p5 :: p6 :: rest) → Q .none { s with heap := h' }) : wpAny (model prog w) A (call (.builtin "list.append") [.ref va, x]) Q E s := by
  have z := N (va, W.listOf #[] 0) (.tail _ (.tail _ (.tail _ (.tail _ (.tail _ (.tail _ (.head _)))))))
  refine append_at (its := #[]) (n := 0) z.1 (fun h' hs ho' => h h' (F.change hs z.2.1 z.2.2) fun p hp => ?_) (hsz := by size_fits)
  rcases List.mem_cons.mp hp with rfl | hp
  · exact ⟨ho', z.2⟩
  · have key : p ∈ p1 :: p2 :: p3 :: p4 :: p5 :: p6 :: (va, W.listOf #[] 0) :: rest ∧ p.1 ≠ va := by
      simp only [List.mem_cons] at hp ⊢
      rcases hp with rfl | rfl | rfl | rfl | rfl | rfl | hp
      · exact ⟨.inl rfl, h1⟩
      · exact ⟨.inr (.inl rfl), h2⟩
      · exact ⟨.inr (.inr (.inl rfl)), h3⟩
      · exact ⟨.inr (.inr (.inr (.inl rfl))), h4⟩
      · exact ⟨.inr (.inr (.inr (.inr (.inl rfl)))), h5⟩
      · exact ⟨.inr (.inr (.inr (.inr (.inr (.inl rfl))))), h6⟩
      · exact ⟨.inr (.inr (.inr (.inr (.inr (.inr (.inr hp)))))), hr p hp⟩
    exact ⟨(hs.2 _ key.2).trans (N p key.1).1, (N p key.1).2⟩
theorem one_end {h₀ : Heap} {L I : Addr} {m : Str → Option Value} {Q : Flow → Shared → Prop} {it : Obj} {nwf : List (Addr × Obj)} {p1 p2 p3 p5 p6 p7 p8 : Addr × Obj} {s : Shared} (F : Fr h₀ L s.heap m) (N : News h₀ L s.heap (p1 :: p2 :: p3 :: (I, it) :: p5 :: p6 :: p7 :: p8 :: nwf))
    (n1 : p1.1 ≠ I) (n2 : p2.1 ≠ I) (n3 : p3.1 ≠ I) (n5 : p5.1 ≠ I) (n6 : p6.1 ≠ I) (n7 : p7.1 ≠ I) (n8 : p8.1 ≠ I) (nf : ∀ p ∈ nwf, p.1 ≠ I)
    (hQ : ∀ h' tk', Fr h₀ L h' m → News h₀ L h' (p1 :: p2 :: p3 :: p5 :: p6 :: p7 :: p8 :: nwf) → Q .next { s with heap := h', toks := tk' }) : OneEnd h₀ L Q I it p5 .next s := by
  refine ⟨rfl, m, _, _, F, N, fun p hp => ?_, .tail _ (.tail _ (.tail _ (.head _))), .tail _ (.tail _ (.tail _ (.tail _ (.head _)))), hQ⟩
  simp only [List.mem_cons] at hp ⊢
  rcases hp with rfl | rfl | rfl | rfl | rfl | rfl | rfl | hp
  · exact ⟨.inl rfl, n1⟩
  · exact ⟨.inr (.inl rfl), n2⟩
  · exact ⟨.inr (.inr (.inl rfl)), n3⟩
  · exact ⟨.inr (.inr (.inr (.inr (.inl rfl)))), n5⟩
  · exact ⟨.inr (.inr (.inr (.inr (.inr (.inl rfl))))), n6⟩
  · exact ⟨.inr (.inr (.inr (.inr (.inr (.inr (.inl rfl)))))), n7⟩
  · exact ⟨.inr (.inr (.inr (.inr (.inr (.inr (.inr (.inl rfl))))))), n8⟩
  · exact ⟨.inr (.inr (.inr (.inr (.inr (.inr (.inr (.inr hp))))))), nf p hp⟩
theorem s_voters1
    (w : World) (b : Heap) (mean : ExcName → Option Value) (mg mb : Str → Option Value) (L fa : Addr) (cd : Value)
    (s : Shared) (m : Str → Option Value) (nw : List (Addr × Obj)) (E : Value → Shared → Prop) (Q : Flow → Shared → Prop)
    (K0 : Below callerA b [] b) (F : Fr b L s.heap m) (va : Addr) (N : News b L s.heap ((va, W.listOf #[] 0) :: nw)) (KX : (K w.params).In b) (T : Top vw lse mean mg mb b)
    (h52 : (52, tabO) ∈ nw) (hg : s.gens = #[])
    (mm : Int) (m1 : 1 ≤ mm) (m4 : mm ≤ 4) (pa pd ca : Addr) (cn : Value) (k1 k2 k3 u u2 : Tok) (cis : Array Value) (n1 : Nat) (hv : m (Str.ofString "voters") = some (.int 1 u)) (hp : m (Str.ofString "profile") = some (.ref pa))
    (p1 : (pa, instObj 562 pd) ∈ nw) (p2 : (pd, dictOf [ent w "candidates" k1 (.ref ca), ent w "cand_names" k2 cn, ent w "_voters" k3 (.ref va)] 3) ∈ nw) (p3 : (ca, W.listOf cis n1) ∈ nw) (p4 : (cis.size : Int) = mm) (hne : ∀ p ∈ nw, p.1 ≠ va)
    (hbm : b.get? 4 = some { cls := .type "module", dict := some builtinsNs, data := .plain })
    (hret : ∀ s' vis vn nw', Fr b L s'.heap m → News b L s'.heap ((va, W.listOf vis vn) :: nw') → (∀ p ∈ nw, p.2.cls ≠ .none → p ∈ nw') → (∃ ps, (52, ({ cls := .none, data := .fields ps } : Obj)) ∈ nw') → vis.size = 1 → s'.os = s.os → AllBare s'.gens → Q .next s') :
    wpAny (model P w) (callerA.deeper (lawE L fa cd)) (exec (lawStmt 9) (lawE L fa cd)) Q E s := by
  have hsc : lawScope = lawScope := rfl
  with_unfolding_all conv at hsc => rhs; whnf
  have hst := lawStmt_eq 9
  with_unfolding_all conv at hst => rhs; whnf
  delta lawE
  rw [hsc, hst]
  clear hsc hst
  delta K lse P at *
  revert KX
  k_fill
  intro KX
  delta ent at p2
  obtain ⟨nwf, hnwf⟩ : ∃ nwf, nwf = nw.filter (fun p => p.2.cls != .none) := ⟨_, rfl⟩
  have inf : ∀ p, p ∈ nw → p.2.cls ≠ .none → p ∈ nwf := fun p hp hc => by rw [hnwf]; exact List.mem_filter.mpr ⟨hp, by simpa using hc⟩
  have ofn : ∀ p, p ∈ nwf → p ∈ nw ∧ p.2.cls ≠ .none := fun p hp => by
    rw [hnwf] at hp
    obtain ⟨h1, h2⟩ := List.mem_filter.mp hp
    exact ⟨h1, by simpa using h2⟩
  clear hnwf
  replace N : News b L s.heap ((va, W.listOf #[] 0) :: (52, tabO) :: nwf) := fun p hp => by
    rcases List.mem_cons.mp hp with rfl | hp
    · exact N _ (.head _)
    · rcases List.mem_cons.mp hp with rfl | hp
      · exact N _ (.tail _ h52)
      · exact N _ (.tail _ (ofn p hp).1)
  replace p1 := inf _ p1 (fun e => nomatch e)
  replace p2 := inf _ p2 (fun e => nomatch e)
  replace p3 := inf _ p3 (fun e => nomatch e)
  have hva52 : (52 : Nat) ≠ va := hne _ h52
  have hnef : ∀ p ∈ nwf, p.1 ≠ va := fun p hp => hne p (ofn p hp).1
  clear h52 hne
  have h52 : (52, tabO) ∈ (52, tabO) :: nwf := .head _
  k_steps
  refine mul_once (by k_asm) (by k_asm) (.head _) ?_
  intro h' D' F' N' hD'
  k_steps
  refine' For_one (ax := D') (n := 0) ?fF ?fN ?fh ?fm ?fc ?fd ?_
  case fF => k_asm
  case fN => k_asm
  case fh => with_unfolding_all rfl
  case fm => exact .head _
  case fc => rfl
  case fd => rfl
  k_steps
  refine ⟨rfl, by k_asm, by k_asm, ?_⟩
  intro I it h tk hit FI NI ltI
  have vD := hD' _ (List.Mem.tail _ (List.Mem.tail _ (List.Mem.head _)))
  have vI := ltI _ (List.Mem.tail _ (List.Mem.tail _ (List.Mem.tail _ (List.Mem.head _))))
  repeat' (first | (k_unfold; (try dsimp only)) | (k_end; wrow_close) | ((fail_if_success (with_reducible show wpAny _ _ (call (Value.builtin "len") _ _) _ _ _)); walk1) | (dsimp only; (fail_if_success (with_reducible show wpAny _ _ (call (Value.builtin "len") _ _) _ _ _)); walk1) | ((fail_if_success (with_reducible show wpAny _ _ (call (Value.builtin "len") _ _) _ _ _)); leave1; try dsimp only) | fail)
  show wpAny _ _ (call (Value.builtin "len") [Value.ref ca]) _ _ _
  refine' len_known ?ln ?lm p4 m4 ?_
  case ln => k_asm
  case lm => k_mem
  intro tl tkl
  repeat' (first | (k_unfold; (try dsimp only)) | (k_end; wrow_close) | ((fail_if_success (with_reducible show wpAny _ _ (call (Value.ref 75) _ _) _ _ _)); walk1) | (dsimp only; (fail_if_success (with_reducible show wpAny _ _ (call (Value.ref 75) _ _) _ _ _)); walk1) | ((fail_if_success (with_reducible show wpAny _ _ (call (Value.ref 75) _ _) _ _ _)); leave1; try dsimp only) | fail)
  show wpAny _ _ (call (Value.ref 75) [Value.ref _] _) _ _ _
  refine' c_cset w _ _ mean mg mb _ _ _ _ _ _ _ _ _ _ _ _ _ _ _ _ _ ?bB ?bF ?bN ?bX ?bT _ _ _ mm m1 m4 ?bl ?b52 ?bg ?bbm ?_
  case bB => assumption
  case bF => k_asm
  case bN => k_asm
  case bX => k_asm
  case bT => k_asm
  case bl => k_mem
  case b52 => exact List.Mem.tail _ (List.Mem.tail _ (List.Mem.tail _ (List.Mem.tail _ (List.Mem.tail _ (List.Mem.tail _ (List.Mem.tail _ h52))))))
  case bg => exact .of_eq hg
  case bbm => exact Below.stays (by assumption) _ _ hbm
  intro s' x nw' F' N' sub h52' G' os'
  obtain ⟨tps, h52'⟩ := h52'
  replace N' := relist N' sub h52' (fun e => nomatch e) (fun e => nomatch e) (fun e => by rw [show (I, it).2.cls = it.cls from rfl, hit] at e; cases e) (fun e => nomatch e) (fun e => nomatch e) (fun e => nomatch e) (fun e => nomatch e) (fun p hp => (ofn p hp).2)
  clear sub h52'
  repeat' (first | (k_unfold; (try dsimp only)) | (k_end; wrow_close) | ((fail_if_success (with_reducible show wpAny _ _ (call (Value.builtin "list.append") _ _) _ _ _)); walk1) | (dsimp only; (fail_if_success (with_reducible show wpAny _ _ (call (Value.builtin "list.append") _ _) _ _ _)); walk1) | ((fail_if_success (with_reducible show wpAny _ _ (call (Value.builtin "list.append") _ _) _ _ _)); leave1; try dsimp only) | fail)
  show wpAny _ _ (call (Value.builtin "list.append") [Value.ref va, Value.ref _]) _ _ _
  refine' append_six (p1 := (_, _)) (p2 := (_, _)) (p3 := (_, _)) (p4 := (_, _)) (p5 := (_, _)) (p6 := (_, _)) ?zF ?zN ?z1 ?z2 ?z3 ?z4 ?z5 ?z6 ?zr ?_
  case zF => k_asm
  case zN => k_asm
  case z1 => exact Nat.ne_of_gt (by omega)
  case z2 => exact Nat.ne_of_gt (by omega)
  case z3 => exact Nat.ne_of_gt vI
  case z4 => exact Nat.ne_of_gt vD
  case z5 => exact Nat.ne_of_gt (by omega)
  case z6 => exact Nat.ne_of_gt (by omega)
  case zr =>
    intro p hp
    rcases List.mem_cons.mp hp with rfl | hp
    · exact hva52
    · exact hnef p hp
  intro h8 F8 N8
  repeat' (first | (k_unfold; (try dsimp only)) | (k_end; wrow_close) | ((fail_if_success (with_reducible show OneEnd _ _ _ _ _ _ _ _)); walk1) | (dsimp only; (fail_if_success (with_reducible show OneEnd _ _ _ _ _ _ _ _)); walk1) | ((fail_if_success (with_reducible show OneEnd _ _ _ _ _ _ _ _)); leave1; try dsimp only) | fail)
  show OneEnd _ _ _ _ _ _ _ _
  refine' one_end (p1 := (_, _)) (p2 := (_, _)) (p3 := (_, _)) (p5 := (_, _)) (p6 := (_, _)) (p7 := (_, _)) (p8 := (_, _)) ?oF ?oN ?o1 ?o2 ?o3 ?o5 ?o6 ?o7 ?o8 ?of ?_
  case oF => k_asm
  case oN => k_asm
  case o1 => exact Nat.ne_of_lt vI
  case o2 => exact Nat.ne_of_gt (by omega)
  case o3 => exact Nat.ne_of_gt (by omega)
  case o5 => exact Nat.ne_of_lt (ltI _ (List.Mem.head _))
  case o6 => exact Nat.ne_of_lt (ltI _ (List.Mem.tail _ (List.Mem.head _)))
  case o7 => exact Nat.ne_of_lt (ltI _ (List.Mem.tail _ (List.Mem.tail _ (List.Mem.head _))))
  case o8 => exact Nat.ne_of_lt (ltI (52, tabO) (List.Mem.tail _ (List.Mem.tail _ (List.Mem.tail _ (List.Mem.tail _ (List.Mem.head _))))))
  case of => exact fun p hp => Nat.ne_of_lt (ltI _ (List.Mem.tail _ (List.Mem.tail _ (List.Mem.tail _ (List.Mem.tail _ (List.Mem.tail _ hp))))))
  intro h9 tk9 F9 N9
  repeat' (first | (k_unfold; (try dsimp only)) | (k_end; wrow_close) | ((fail_if_success (with_reducible show Q _ _)); walk1) | (dsimp only; (fail_if_success (with_reducible show Q _ _)); walk1) | ((fail_if_success (with_reducible show Q _ _)); leave1; try dsimp only) | fail)
  refine hret _ _ _ _ (by assumption) (by assumption) (fun p hp hc => ?_) ⟨tps, .tail _ (.tail _ (.tail _ (.tail _ (.tail _ (.head _)))))⟩ rfl os' G'
  exact .tail _ (.tail _ (.tail _ (.tail _ (.tail _ (.tail _ (inf p hp hc))))))
end
section
local macro_rules | `(tactic| walk_at "call ref") => `(tactic| refine stop_of ?_)
section
local macro_rules | `(tactic| walk_at "compareOp Eq ref ref") => `(tactic| refine stop_of ?_)
section
set_option maxHeartbeats 2000000
noncomputable def unkT : List Str := ["", "PAV", "seq", "revseqfair", "monro", "seqPAV", "equal shares"].map Str.ofString
theorem c_unknown7 (w : World) (b : Heap) (mean : ExcName → Option Value) (mg mb : Str → Option Value) (fn : Str) (nms : List (Str × NameKind)) (mr : List (Str × Const)) (L fa : Addr) (cd : Value)
    (s : Shared) (m : Str → Option Value) (nw : List (Addr × Obj)) (E Q : Value → Shared → Prop)
    (K0 : Below callerA b [] b) (F : Fr b L s.heap m) (N : News b L s.heap nw) (KX : (K w.params).In b) (T : Top vw lse mean mg mb b)
    (x : Str) (t1 : Tok) (hx : x ∈ unkT)
    (hret : ∀ h' tk, Fr b L h' m → News b L h' nw → Q (.bool true) { s with heap := h', toks := tk }) :
    wpAny (model P w) (callerA.deeper (lawEnv fn nms mr L fa cd)) (call (.ref 632) [.str x t1]) Q E s := by
  simp only [unkT, List.map_cons, List.map_nil, List.mem_cons, List.not_mem_nil, or_false] at hx
  rcases hx with rfl | rfl | rfl | rfl | rfl | rfl | rfl
  · exact c_unknown w b mean mg mb fn nms mr L fa cd s m nw E Q K0 F N KX T _ t1 (by kernel_rfl) (by decide +kernel) (by kernel_rfl) (by kernel_rfl) (by kernel_rfl) hret
  · exact c_unknown w b mean mg mb fn nms mr L fa cd s m nw E Q K0 F N KX T _ t1 (by kernel_rfl) (by decide +kernel) (by kernel_rfl) (by kernel_rfl) (by kernel_rfl) hret
  · exact c_unknown_from w b mean mg mb fn nms mr L fa cd s m nw E Q K0 F N KX T _ (Str.ofString "") t1 (by kernel_rfl) (by decide +kernel) (by decide +kernel) (by kernel_rfl) (fun h => absurd h (by decide +kernel)) (fun _ => by kernel_rfl) (fun h => absurd h (by decide +kernel)) (by kernel_rfl) (by kernel_rfl) (by kernel_rfl) (by kernel_rfl) (by kernel_rfl) (by kernel_rfl) (by kernel_rfl) hret
  · exact c_unknown_from w b mean mg mb fn nms mr L fa cd s m nw E Q K0 F N KX T _ (Str.ofString "fair") t1 (by kernel_rfl) (by decide +kernel) (by decide +kernel) (by kernel_rfl) (fun _ => by kernel_rfl) (fun h => absurd h (by decide +kernel)) (fun _ => by kernel_rfl) (by kernel_rfl) (by kernel_rfl) (by kernel_rfl) (by kernel_rfl) (by kernel_rfl) (by kernel_rfl) (by kernel_rfl) hret
  · exact c_unknown w b mean mg mb fn nms mr L fa cd s m nw E Q K0 F N KX T _ t1 (by kernel_rfl) (by decide +kernel) (by kernel_rfl) (by kernel_rfl) (by kernel_rfl) hret
  · exact c_unknown_from w b mean mg mb fn nms mr L fa cd s m nw E Q K0 F N KX T _ (Str.ofString "PAV") t1 (by kernel_rfl) (by decide +kernel) (by decide +kernel) (by kernel_rfl) (fun h => absurd h (by decide +kernel)) (fun _ => by kernel_rfl) (fun h => absurd h (by decide +kernel)) (by kernel_rfl) (by kernel_rfl) (by kernel_rfl) (by kernel_rfl) (by kernel_rfl) (by kernel_rfl) (by kernel_rfl) hret
  · exact c_unknown w b mean mg mb fn nms mr L fa cd s m nw E Q K0 F N KX T _ t1 (by kernel_rfl) (by decide +kernel) (by kernel_rfl) (by kernel_rfl) (by kernel_rfl) hret
theorem mod7 (d : Int) : d.fmod 7 = 0 ∨ d.fmod 7 = 1 ∨ d.fmod 7 = 2 ∨ d.fmod 7 = 3 ∨ d.fmod 7 = 4 ∨ d.fmod 7 = 5 ∨ d.fmod 7 = 6 := by
  have := Int.fmod_eq_emod_of_nonneg d (b := 7) (by decide)
  omega
noncomputable def pairData (a c : Str) : PyData := .tuple [.str a, .str c]
theorem pair_eqv (a c : Str) : PyData.eqv (pairData a c) (pairData a c) = true := by
  simp [pairData, PyData.eqv, PyData.eqvAll]
theorem pair_lay {a c : Str} (ha : PyData.strOk a = true) (hc : PyData.strOk c = true) : (pairData a c).canLay0 = true := by
  simp [pairData, PyData.canLay0, PyData.canLayAll0, ha, hc]
theorem way_ok {r : Value} {d : PyData} {x : Str} {b : Bool} (H : WayV r d x b) : PyData.strOk x = true := by cases H <;> decide +kernel
theorem fault_ok {nm al rt : Str} {mm vv sz : Int} {inA inW bad tied : Bool} (h1 : PyData.strOk nm = true) (h2 : PyData.strOk al = true) (h3 : PyData.strOk rt = true) :
    PyData.strOk (fault nm al mm vv sz inA inW rt bad tied).1 = true ∧ PyData.strOk (fault nm al mm vv sz inA inW rt bad tied).2 = true := by
  unfold fault
  split
  · exact ⟨by decide +kernel, by decide +kernel⟩
  split
  · exact ⟨by decide +kernel, by decide +kernel⟩
  split
  · exact ⟨by decide +kernel, by decide +kernel⟩
  split
  · exact ⟨by dsimp only; decide +kernel, ok_app (ok_app (ok_app (ok_app (by decide +kernel) h2) (by decide +kernel)) h1) (by decide +kernel)⟩
  split
  · exact ⟨by dsimp only; decide +kernel, ok_app (ok_app (ok_app (ok_app (by decide +kernel) h1) (by decide +kernel)) h3) (by decide +kernel)⟩
  split
  · exact ⟨by decide +kernel, by decide +kernel⟩
  split
  · exact ⟨by decide +kernel, by decide +kernel⟩
  · exact ⟨by decide +kernel, by decide +kernel⟩
theorem pair_reads {b h : Heap} {L l : Addr} {nw : List (Addr × Obj)} {a c : Str} {t u : Tok} {n : Nat} (N : News b L h nw) (hm : (l, (⟨.type "tuple", none, .seq #[.str a t, .str c u] n, #[]⟩ : Obj)) ∈ nw) : ∃ as, Reads h (.ref l) (pairData a c) as :=
  ⟨_, .tuple (N _ hm).1 rfl rfl (.cons (.str _ _) (.cons (.str _ _) .nil))⟩
theorem s_end
    (w : World) (b : Heap) (mean : ExcName → Option Value) (mg mb : Str → Option Value) (L fa : Addr) (cd : Value)
    (s : Shared) (m : Str → Option Value) (nw : List (Addr × Obj)) (E : Value → Shared → Prop) (Q : Flow → Shared → Prop)
    (K0 : Below callerA b [] b) (F : Fr b L s.heap m) (N : News b L s.heap nw) (KX : (K w.params).In b) (T : Top vw lse mean mg mb b)
    (D : Addr) (d0 d1 d2 d3 d4 d5 d6 d7 : Int) (t0 t1 t2 t3 t4 t5 t6 t7 : Tok) (hD : (D, drawsObj d0 d1 d2 d3 d4 d5 d6 d7 t0 t1 t2 t3 t4 t5 t6 t7) ∈ nw)
    (hd : m (Str.ofString "draws") = some (.ref D))
    (b7 : 0 ≤ d7 ∧ d7 < 2000000) (l1 l2 : Addr) (x : Str × Str) (o1 : PyData.strOk x.1 = true) (o2 : PyData.strOk x.2 = true) (n1 n2 : Nat) (u1 u2 u3 u4 : Tok) (ht : m (Str.ofString "told") = some (.ref l1)) (hu : m (Str.ofString "due") = some (.ref l2))
    (q1 : (l1, (⟨.type "tuple", none, .seq #[.str x.1 u1, .str x.2 u2] n1, #[]⟩ : Obj)) ∈ nw) (q2 : (l2, (⟨.type "tuple", none, .seq #[.str x.1 u3, .str x.2 u4] n2, #[]⟩ : Obj)) ∈ nw)
    (hret : ∀ h' tk nw', Fr b L h' m → News b L h' nw' → (∀ p ∈ nw, p ∈ nw') → Q (.ret (.bool true)) { s with heap := h', toks := tk }) :
    wpAny (model P w) (callerA.deeper (lawE L fa cd)) (exec (lawStmt 16) (lawE L fa cd)) Q E s := by
  have hsc : lawScope = lawScope := rfl
  with_unfolding_all conv at hsc => rhs; whnf
  have hst := lawStmt_eq 16
  with_unfolding_all conv at hst => rhs; whnf
  delta lawE
  rw [hsc, hst]
  clear hsc hst
  delta K lse P at *
  revert KX
  k_fill
  intro KX
  k_steps
  show wpAny _ _ _ _ _ _
  obtain ⟨as1, r1⟩ := pair_reads N q1
  obtain ⟨as2, r2⟩ := pair_reads N q2
  refine SeqAt.compareEq_reads r1 r2 (pair_lay o1 o2) (pair_lay o1 o2) ?hu ?_
  case hu => exact Nat.lt_of_le_of_lt (Nat.add_le_add_left (Nat.min_le_left _ _) _) (Nat.le_of_ble_eq_true rfl)
  rw [pair_eqv]
  repeat' (first | (k_unfold; (try dsimp only)) | (k_end; wrow_close) | ((fail_if_success (with_reducible show wpAny _ _ (subscriptTail _ _ (Value.ref _) (Value.int (Int.fmod _ _) _)) _ _ _)); walk1) | (dsimp only; (fail_if_success (with_reducible show wpAny _ _ (subscriptTail _ _ (Value.ref _) (Value.int (Int.fmod _ _) _)) _ _ _)); walk1) | ((fail_if_success (with_reducible show wpAny _ _ (subscriptTail _ _ (Value.ref _) (Value.int (Int.fmod _ _) _)) _ _ _)); leave1; try dsimp only) | fail)
  rcases mod7 d7 with e | e | e | e | e | e | e
  all_goals rw [e]
  all_goals k_steps
  all_goals show wpAny _ _ _ _ _ _
  all_goals refine c_unknown7 w b mean mg mb _ _ _ L fa cd _ _ _ _ _ K0 (by assumption) (by assumption) KX T _ _ (by decide +kernel) ?_
  all_goals intro h' tk F' N'
  all_goals k_steps
  all_goals exact hret _ _ _ (by assumption) (by assumption) (fun p hp => by repeat (first | exact hp | refine List.Mem.tail _ ?_))
end
end
end
end
end
section
set_option maxHeartbeats 1000000
/-- what the ledger x says of objects with a class, y says too -/
noncomputable def SubC (x y : List (Addr × Obj)) : Prop := ∀ p ∈ x, p.2.cls ≠ .none → p ∈ y
theorem SubC.of {x y : List (Addr × Obj)} (h : ∀ p ∈ x, p ∈ y) : SubC x y := fun p hp _ => h p hp
theorem SubC.trans {x y z : List (Addr × Obj)} (h : SubC x y) (k : SubC y z) : SubC x z := fun p hp hc => k p (h p hp hc) hc
theorem TupC.mono2 {KF : Frag} {x y : List (Addr × Obj)} {a : Addr} {ds : List PyData} (h : TupC KF x a ds) (hs : SubC x y) : TupC KF y a ds := by
  obtain ⟨o, vs, n, h1, h2, r⟩ := h
  exact ⟨o, vs, n, h1.imp id (fun q => hs _ q (by rw [show (a, o).2.cls = o.cls from rfl, h2]; exact fun e => nomatch e)), h2, r⟩
theorem RuleOk.mono2 {w : World} {x y : List (Addr × Obj)} {ra : Addr} {r : RowS} {aa wa al : Addr} (h : RuleOk w x ra r aa wa al) (hs : SubC x y) : RuleOk w y ra r aa wa al := by
  obtain ⟨rd, its, n, c2, k1, k2, k3, k4, k5, k6, u1, u2, u3, h1, h2, h3, h4, h5, h6⟩ := h
  exact ⟨rd, its, n, c2, k1, k2, k3, k4, k5, k6, u1, u2, u3, hs _ h1 (fun e => nomatch e), hs _ h2 (fun e => nomatch e), hs _ h3 (fun e => nomatch e), h4.mono2 hs, h5.mono2 hs, h6⟩
theorem lawRest_ex : ∃ f : Nat → List Stmt, ∀ i, f i = (defBody (nthS 37 P.main.body)).drop i := ⟨_, fun _ => rfl⟩
noncomputable def lawRest (i : Nat) : List Stmt := Classical.choose lawRest_ex i
theorem lawRest_eq (i : Nat) : lawRest i = (defBody (nthS 37 P.main.body)).drop i := Classical.choose_spec lawRest_ex i
theorem rest1 : lawRest 1 = [lawStmt 1, lawStmt 2, lawStmt 3, lawStmt 4, lawStmt 5, lawStmt 6, lawStmt 7, lawStmt 8, lawStmt 9, lawStmt 10, lawStmt 11, lawStmt 12, lawStmt 13, lawStmt 14, lawStmt 15, lawStmt 16] := by
  rw [lawRest_eq]
  simp only [lawStmt_eq]
  kernel_rfl
theorem rowT_h8 : ∀ r ∈ rowT, r.algs.length ≤ 8 := by decide +kernel
local macro_rules | `(tactic| tb_start) => `(tactic| first | assumption | exact if_pos rfl | (refine (if_neg (by decide)).trans ?_; tb_start))
theorem rest10 : lawRest 10 = [lawStmt 10, lawStmt 11, lawStmt 12, lawStmt 13, lawStmt 14, lawStmt 15, lawStmt 16] := by
  rw [lawRest_eq]
  simp only [lawStmt_eq]
  kernel_rfl
theorem law_end (w : World) (b : Heap) (mean : ExcName → Option Value) (mg mb : Str → Option Value) (L fa : Addr) (cd : Value)
    (s : Shared) (m : Str → Option Value) (nw : List (Addr × Obj)) (E : Value → Shared → Prop) (Q : Flow → Shared → Prop)
    (K0 : Below callerA b [] b) (F : Fr b L s.heap m) (N : News b L s.heap nw) (KX : (K w.params).In b) (T : Top vw lse mean mg mb b)
    (D : Addr) (d0 d1 d2 d3 d4 d5 d6 d7 : Int) (t0 t1 t2 t3 t4 t5 t6 t7 : Tok) (hD : (D, drawsObj d0 d1 d2 d3 d4 d5 d6 d7 t0 t1 t2 t3 t4 t5 t6 t7) ∈ nw)
    (hd : m (Str.ofString "draws") = some (.ref D)) (b3 : 0 ≤ d3 ∧ d3 < 2000000) (b4 : 0 ≤ d4 ∧ d4 < 2000000) (b5 : 0 ≤ d5 ∧ d5 < 2000000) (b6 : 0 ≤ d6 ∧ d6 < 2000000) (b7 : 0 ≤ d7 ∧ d7 < 2000000)
    (r : RowS) (hr : r ∈ rowT) (u1 v1 v2 : Tok) (a1 w1 ra a2 w2 av : Addr) (mm vv : Int) (m1 : 1 ≤ mm) (m4 : mm ≤ 4) (hvv : vv ≤ 1) (pa pd ca va : Addr) (cn : Value) (k1 k2 k3 : Tok) (cis vis : Array Value) (n1 n2 : Nat)
    (hname : m (Str.ofString "name") = some (.str r.name u1)) (halg : m (Str.ofString "algorithms") = some (.ref a1)) (hways : m (Str.ofString "ways") = some (.ref w1)) (hrule : m (Str.ofString "rule") = some (.ref ra)) (hm : m (Str.ofString "m") = some (.int mm v1)) (hv : m (Str.ofString "voters") = some (.int vv v2)) (hprof : m (Str.ofString "profile") = some (.ref pa))
    (ha1 : TupC (K w.params) nw a1 (r.algs.map PyData.str)) (hw1 : TupC (K w.params) nw w1 (waysT r.kind)) (hR : RuleOk w nw ra r a2 w2 av)
    (p1 : (pa, instObj 562 pd) ∈ nw) (p2 : (pd, dictOf [ent w "candidates" k1 (.ref ca), ent w "cand_names" k2 cn, ent w "_voters" k3 (.ref va)] 3) ∈ nw) (p3 : (ca, W.listOf cis n1) ∈ nw) (p4 : (va, W.listOf vis n2) ∈ nw) (hci : (cis.size : Int) = mm) (hvi : (vis.size : Int) = vv)
    (hret : ∀ h' tk m' nw', Fr b L h' m' → News b L h' nw' → (∀ p ∈ nw, p ∈ nw') → Q (.ret (.bool true)) { s with heap := h', toks := tk }) :
    wpAny (model P w) (callerA.deeper (lawE L fa cd)) (execs (lawRest 10) (lawE L fa cd)) Q E s := by
  rw [rest10]
  refine wpAny_execs_cons (s_size w b mean mg mb L fa cd s m nw E _ K0 F N KX T D d0 d1 d2 d3 d4 d5 d6 d7 t0 t1 t2 t3 t4 t5 t6 t7 hD hd mm v1 hm m1 m4 b3 fun h' tk nwa sz x1 F N i1 => ?_)
  have hD := i1 _ hD
  have ha1 := ha1.mono i1
  have hw1 := hw1.mono i1
  have hR := hR.mono i1
  refine wpAny_execs_cons (s_alg w b mean mg mb L fa cd _ _ _ E _ K0 F N KX T D d0 d1 d2 d3 d4 d5 d6 d7 t0 t1 t2 t3 t4 t5 t6 t7 hD (by tb_start) b4 r hr a1 (by tb_start) ha1 fun h' tk nwb al x2 F N i2 hal hok => ?_)
  have hD := i2 _ hD
  have ha1 := ha1.mono i2
  have hw1 := hw1.mono i2
  have hR := hR.mono i2
  refine wpAny_execs_cons (s_way w b mean mg mb L fa cd _ _ _ E _ K0 F N KX T D d0 d1 d2 d3 d4 d5 d6 d7 t0 t1 t2 t3 t4 t5 t6 t7 hD (by tb_start) b5 fun h' tk nwc rv dr rt tr F N i3 hwv => ?_)
  have hD := i3 _ hD
  have ha1 := ha1.mono i3
  have hw1 := hw1.mono i3
  have hR := hR.mono i3
  refine wpAny_execs_cons (s_bound w b mean mg mb L fa cd _ _ _ E _ K0 F N KX T D d0 d1 d2 d3 d4 d5 d6 d7 t0 t1 t2 t3 t4 t5 t6 t7 hD (by tb_start) b6 fun h' tk nwd bd told bad F N i4 hbv => ?_)
  have hD := i4 _ hD
  have ha1 := ha1.mono i4
  have hw1 := hw1.mono i4
  have hR := hR.mono i4
  have up : ∀ p ∈ nw, p ∈ nwd := fun p hp => i4 _ (i3 _ (i2 _ (i1 _ hp)))
  refine wpAny_execs_cons (s_told w b mean mg mb L fa cd _ _ _ E _ K0 F N KX T r hr ra a2 w2 av pa pd ca va cn k1 k2 k3 x1 x2 0 cis vis n1 n2 mm vv sz al rv bd dr rt tr told bad hR (by tb_start) (by tb_start) (by tb_start) (by tb_start) (by tb_start) (by tb_start) (up _ p1) (up _ p2) (up _ p3) (up _ p4) hci hvi m4 hvv hwv hbv hal fun h' tk l1 na y1 y2 x hx F N => ?_)
  have i5 : ∀ p ∈ nwd, p ∈ (l1, (⟨.type "tuple", none, .seq #[.str x.1 y1, .str x.2 y2] na, #[]⟩ : Obj)) :: nwd := fun p hp => .tail _ hp
  have hD := i5 _ hD
  refine wpAny_execs_cons (s_due w b mean mg mb L fa cd _ _ _ E _ K0 F N KX T r hr a1 w1 u1 x1 x2 v1 v2 mm vv sz al rv bd dr rt tr told bad (by tb_start) (by tb_start) (by tb_start) (by tb_start) (by tb_start) (by tb_start) (by tb_start) (by tb_start) (by tb_start) (ha1.mono i5) (hw1.mono i5) hwv hbv hal fun h' tk l2 nb y3 y4 x' hx' F N => ?_)
  obtain rfl : x = x' := hx.trans hx'.symm
  have hf := fault_ok (nm := r.name) (al := al) (rt := rt) (mm := mm) (vv := vv) (sz := sz) (inA := r.algs.any (· == al)) (inW := (waysT r.kind).any fun y => PyData.eqv y dr) (bad := bad) (tied := told && tr) (rowT_ok r hr).1 hok (way_ok hwv)
  rw [← hx] at hf
  refine wpAny_execs_cons (s_end w b mean mg mb L fa cd _ _ _ E _ K0 F N KX T D d0 d1 d2 d3 d4 d5 d6 d7 t0 t1 t2 t3 t4 t5 t6 t7 (.tail _ hD) (by tb_start) b7 l1 l2 x hf.1 hf.2 na nb y1 y2 y3 y4 (by tb_start) (by tb_start) (.tail _ (.head _)) (.head _) fun h' tk nwz F N i7 => ?_)
  exact hret _ _ _ _ F N fun p hp => i7 _ (.tail _ (.tail _ (up _ hp)))
theorem law_tail (w : World) (b : Heap) (mean : ExcName → Option Value) (mg mb : Str → Option Value) (L fa : Addr) (cd : Value)
    (s : Shared) (m : Str → Option Value) (nw : List (Addr × Obj)) (E : Value → Shared → Prop) (Q : Flow → Shared → Prop)
    (K0 : Below callerA b [] b) (F : Fr b L s.heap m) (N : News b L s.heap nw) (KX : (K w.params).In b) (T : Top vw lse mean mg mb b)
    (kx : ∀ a o, a ≠ 52 → (Kx w.params).lookup a = some o → b.get? a = some o) (h52 : (52, tabO) ∈ nw) (hg : s.gens = #[])
    (D : Addr) (d0 d1 d2 d3 d4 d5 d6 d7 : Int) (t0 t1 t2 t3 t4 t5 t6 t7 : Tok) (hD : (D, drawsObj d0 d1 d2 d3 d4 d5 d6 d7 t0 t1 t2 t3 t4 t5 t6 t7) ∈ nw)
    (hd : m (Str.ofString "draws") = some (.ref D)) (b0 : 0 ≤ d0 ∧ d0 < 2000000) (b3 : 0 ≤ d3 ∧ d3 < 2000000) (b4 : 0 ≤ d4 ∧ d4 < 2000000) (b5 : 0 ≤ d5 ∧ d5 < 2000000) (b6 : 0 ≤ d6 ∧ d6 < 2000000) (b7 : 0 ≤ d7 ∧ d7 < 2000000)
    (hret : ∀ s' m' nw', Fr b L s'.heap m' → News b L s'.heap nw' → s'.os = s.os → AllBare s'.gens → (∃ ps, (52, ({ cls := .none, data := .fields ps } : Obj)) ∈ nw') → Q (.ret (.bool true)) s') :
    wpAny (model P w) (callerA.deeper (lawE L fa cd)) (execs (lawRest 1) (lawE L fa cd)) Q E s := by
  rw [rest1]
  refine wpAny_execs_cons (s_row w b mean mg mb L fa cd s m nw E _ K0 F N KX T D d0 d1 d2 d3 d4 d5 d6 d7 t0 t1 t2 t3 t4 t5 t6 t7 hD hd b0 fun h' tk nw1 r a1 u1 u2 u3 hr F N i1 ha1 => ?_)
  have hD := i1 _ hD
  have h52 := i1 _ h52
  refine wpAny_execs_cons (s_ways w b mean mg mb L fa cd _ _ _ E _ K0 F N KX T r u3 hr (by tb_start) fun h' tk nw2 w1 F N i2 hw1 => ?_)
  have hD := i2 _ hD
  have h52 := i2 _ h52
  have ha1 := ha1.mono i2
  refine wpAny_execs_cons (s_rule w b mean mg mb L fa cd _ _ _ E _ K0 F N KX T r u1 hr (by tb_start) fun h' tk nw3 ra a2 w2 av F N i3 hR => ?_)
  have hD := i3 _ hD
  have h52 := i3 _ h52
  have ha1 := ha1.mono i3
  have hw1 := hw1.mono i3
  refine wpAny_execs_cons (s_some w b mean mg mb L fa cd _ _ _ E _ K0 F N KX T a1 r.algs (by tb_start) ha1 (rowT_h8 r hr) fun h' tk so ys F N hys => ?_)
  have i4 : ∀ p ∈ nw3, p ∈ (so, LCg.lst ys) :: nw3 := fun p hp => .tail _ hp
  have hD := i4 _ hD
  have h52 := i4 _ h52
  have ha1 := ha1.mono i4
  have hw1 := hw1.mono i4
  have hR := hR.mono i4
  refine wpAny_execs_cons (s_same w b mean mg mb L fa cd _ _ _ E _ K0 F N KX T r hr ra a2 w2 av a1 w1 u1 u2 hR (by tb_start) (by tb_start) (by tb_start) (by tb_start) (by tb_start) ha1 hw1 fun h' tk nw5 F N i5 => ?_)
  have hD := i5 _ hD
  have h52 := i5 _ h52
  have ha1 := ha1.mono i5
  have hw1 := hw1.mono i5
  have hR := hR.mono i5
  refine wpAny_execs_cons (s_fast w b mean mg mb L fa cd _ _ _ E _ K0 F N KX T r hr ra a2 w2 av so ys hR (by tb_start) (by tb_start) (i5 _ (.head _)) hys fun h' tk nw6 F N i6 => ?_)
  have hD := i6 _ hD
  have h52 := i6 _ h52
  have ha1 := ha1.mono i6
  have hw1 := hw1.mono i6
  have hR := hR.mono i6
  refine wpAny_execs_cons (s_m w b mean mg mb L fa cd _ _ _ E _ K0 F N KX T D d0 d1 d2 d3 d4 d5 d6 d7 t0 t1 t2 t3 t4 t5 t6 t7 hD (by tb_start) fun h' tk nw7 mm vv v1 v2 F N i7 m1 m4 hvv => ?_)
  have hD := i7 _ hD
  have h52 := i7 _ h52
  have ha1 := ha1.mono i7
  have hw1 := hw1.mono i7
  have hR := hR.mono i7
  refine wpAny_execs_cons (s_profile w b mean mg mb L fa cd _ _ _ E _ K0 F N KX T mm v1 (by tb_start) m1 m4 fun h' tk pa pd ca cn va k1 k2 k3 cis n1 nw8 F N p1 p2 p3 hne i8 hci => ?_)
  have hD := i8 _ hD
  have h52 := i8 _ h52
  have ha1 := ha1.mono i8
  have hw1 := hw1.mono i8
  have hR := hR.mono i8
  rcases hvv with hv0 | hv1
  · subst hv0
    refine wpAny_execs_cons (s_voters0 w b mean mg mb L fa cd _ _ nw8 E _ K0 F va N KX T mm m1 m4 pa pd ca cn k1 k2 k3 v2 0 cis n1 (by tb_start) (by tb_start) p1 p2 p3 hci hne fun h' tk vis vn nw9 F N i9 hvi => ?_)
    have i9' : ∀ p ∈ nw8, p ∈ (va, W.listOf vis vn) :: nw9 := fun p hp => .tail _ (i9 _ hp)
    rw [← rest10]
    refine law_end w b mean mg mb L fa cd _ _ _ E Q K0 F N KX T D d0 d1 d2 d3 d4 d5 d6 d7 t0 t1 t2 t3 t4 t5 t6 t7 (i9' _ hD) (by tb_start) b3 b4 b5 b6 b7 r hr u1 v1 v2 a1 w1 ra a2 w2 av mm 0 m1 m4 (by decide) pa pd ca va cn k1 k2 k3 cis vis n1 vn (by tb_start) (by tb_start) (by tb_start) (by tb_start) (by tb_start) (by tb_start) (by tb_start) (ha1.mono i9') (hw1.mono i9') (hR.mono i9') (i9' _ p1) (i9' _ p2) (i9' _ p3) (.head _) hci (by rw [hvi]; rfl) fun h' tk m' nw' F N iz => ?_
    exact hret _ _ _ F N rfl (.of_eq hg) ⟨_, iz _ (i9' _ h52)⟩
  · subst hv1
    refine wpAny_execs_cons (s_voters1 w b mean mg mb L fa cd _ _ nw8 E _ K0 F va N KX T h52 hg mm m1 m4 pa pd ca cn k1 k2 k3 v2 0 cis n1 (by tb_start) (by tb_start) p1 p2 p3 hci hne (kx 4 _ (by decide) (by kernel_rfl)) fun s' vis vn nw9 F N i9 htab hvi ho hgf => ?_)
    obtain ⟨tps, htab⟩ := htab
    have i9' : SubC nw8 ((va, W.listOf vis vn) :: nw9) := fun p hp hc => .tail _ (i9 _ hp hc)
    rw [← rest10]
    refine law_end w b mean mg mb L fa cd _ _ _ E Q K0 F N KX T D d0 d1 d2 d3 d4 d5 d6 d7 t0 t1 t2 t3 t4 t5 t6 t7 (i9' _ hD (fun e => nomatch e)) (by tb_start) b3 b4 b5 b6 b7 r hr u1 v1 v2 a1 w1 ra a2 w2 av mm 1 m1 m4 (by decide) pa pd ca va cn k1 k2 k3 cis vis n1 vn (by tb_start) (by tb_start) (by tb_start) (by tb_start) (by tb_start) (by tb_start) (by tb_start) (ha1.mono2 i9') (hw1.mono2 i9') (hR.mono2 i9') (i9' _ p1 (fun e => nomatch e)) (i9' _ p2 (fun e => nomatch e)) (i9' _ p3 (fun e => nomatch e)) (.head _) hci (by rw [hvi]; rfl) fun h' tk m' nw' F N iz => ?_
    exact hret _ _ _ F N ho hgf ⟨tps, iz _ (.tail _ htab)⟩
end
section
local macro_rules | `(tactic| walk_at "pad") => `(tactic| fail)
set_option maxHeartbeats 6000000
theorem no_zero {k : Int} {n : Nat} (h : 1 + k.fdiv (↑n + 1) = 0) (h0 : 0 ≤ k) : False := by
  have : 0 ≤ k.fdiv ((n : Int) + 1) := Int.fdiv_nonneg h0 (by omega)
  omega
theorem no_zero' {k : Int} {n : Nat} (h : 1 + k.fdiv (↑(n + 1)) = 0) (h0 : 0 ≤ k) : False := by
  have : 0 ≤ k.fdiv ((n + 1 : Nat) : Int) := Int.fdiv_nonneg h0 (by omega)
  omega
theorem ints_cons {vs : List Value} {k : Int} {ks : List Int} (h : IntsAre vs (k :: ks)) : ∃ t r, vs = .int k t :: r ∧ IntsAre r ks := by
  cases h with
  | cons n t hr => exact ⟨t, _, rfl, hr⟩
theorem draws_of {ys : List Value} {g : Int → Int} (h : IntsAre ys (List.map g (rangeKs 0 8))) (hb : ∀ k, 0 ≤ k → k < 8 → 0 ≤ g k ∧ g k < 2000000) :
    ∃ d0 d1 d2 d3 d4 d5 d6 d7 t0 t1 t2 t3 t4 t5 t6 t7, ys = [.int d0 t0, .int d1 t1, .int d2 t2, .int d3 t3, .int d4 t4, .int d5 t5, .int d6 t6, .int d7 t7] ∧
      (0 ≤ d0 ∧ d0 < 2000000) ∧ (0 ≤ d3 ∧ d3 < 2000000) ∧ (0 ≤ d4 ∧ d4 < 2000000) ∧ (0 ≤ d5 ∧ d5 < 2000000) ∧ (0 ≤ d6 ∧ d6 < 2000000) ∧ (0 ≤ d7 ∧ d7 < 2000000) := by
  have e : List.map g (rangeKs 0 8) = [g 0, g 1, g 2, g 3, g 4, g 5, g 6, g 7] := rfl
  rw [e] at h
  obtain ⟨t0, _, rfl, h1⟩ := ints_cons h
  obtain ⟨t1, _, rfl, h2⟩ := ints_cons h1
  obtain ⟨t2, _, rfl, h3⟩ := ints_cons h2
  obtain ⟨t3, _, rfl, h4⟩ := ints_cons h3
  obtain ⟨t4, _, rfl, h5⟩ := ints_cons h4
  obtain ⟨t5, _, rfl, h6⟩ := ints_cons h5
  obtain ⟨t6, _, rfl, h7⟩ := ints_cons h6
  obtain ⟨t7, _, rfl, h8⟩ := ints_cons h7
  cases h8
  exact ⟨_, _, _, _, _, _, _, _, _, _, _, _, _, _, _, _, rfl, hb 0 (by decide) (by decide), hb 3 (by decide) (by decide), hb 4 (by decide) (by decide), hb 5 (by decide) (by decide), hb 6 (by decide) (by decide), hb 7 (by decide) (by decide)⟩
theorem draw_small (X : Int) (k D : Int) (h0 : 0 ≤ k) (h8 : k < 8) : 0 ≤ (X.fdiv D).fmod 1000003 + 11 * k ∧ (X.fdiv D).fmod 1000003 + 11 * k < 2000000 := by
  have a := Int.fmod_eq_emod_of_nonneg (X.fdiv D) (b := 1000003) (by decide)
  rw [a]
  omega
/-- the base without the code table -/
theorem base_go {w : World} {S h h0 : Heap} {mean : ExcName → Option Value} {mg mb : Str → Option Value} {L : Addr} {m : Str → Option Value} {news : List (Addr × Obj)} (BO : BaseOk w S h0 mean mg mb) (F : Fr S L h m) (N : News S L h news) :
    Fr (hideAll S [52]) L h m ∧ News (hideAll S [52]) L h ((52, tabO) :: news) ∧ Top vw lse mean mg mb (hideAll S [52]) ∧ (K w.params).In (hideAll S [52]) ∧ ∀ a o, a ≠ 52 → (Kx w.params).lookup a = some o → (hideAll S [52]).get? a = some o := by
  have up : ∀ a o, h0.get? a = some o → (hideAll S [52]).get? a = some o := fun a o e => hideAll_get _ (BO.sub a o e) fun hm => by
    rw [List.mem_singleton.mp hm, BO.gone] at e
    cases e
  have n52 : (hideAll S [52]).get? 52 = none := hideAll_none _ (List.mem_singleton.mpr rfl)
  have keep : ∀ b o, (hideAll S [52]).get? b = some o → h.get? b = some o := fun b o e => F.keep _ _ (of_hideAll _ e)
  have lt52 : 52 < S.objs.size := Heap.lt_size BO.tab
  refine ⟨⟨F.ns, keep, by rw [hideAll_size]; exact F.above⟩, fun p hp => ?_, BO.top.keeps up, fun a o e => up a o (BO.kin a o e), fun a o n e => up a o (BO.kxin a o n e)⟩
  rcases List.mem_cons.mp hp with rfl | hp
  · exact ⟨F.keep _ _ BO.tab, Nat.ne_of_lt (Nat.lt_of_lt_of_le lt52 F.above), n52⟩
  · refine ⟨(N p hp).1, (N p hp).2.1, ?_⟩
    cases e : (hideAll S [52]).get? p.1 with
    | none => rfl
    | some o =>
      have := of_hideAll _ e
      rw [(N p hp).2.2] at this
      cases this
theorem law_to {w : World} {E : Value → Shared → Prop} {Q : Flow → Shared → Prop} {s : Shared} {sts : List Stmt} {nm : Str} {sc : Scope} {L fa : Addr} {cd : Value} (hs : sts = lawRest 1) (hn : nm = Str.ofString "law") (hsc : sc = lawScope)
    (h : wpAny (model P w) (callerA.deeper (lawE L fa cd)) (execs (lawRest 1) (lawE L fa cd)) Q E s) : wpAny (model P w) (callerA.deeper (envOf nm sc L fa cd)) (execs sts (envOf nm sc L fa cd)) Q E s := by
  subst hs hn hsc
  exact h
/-- the end: all as it was, but the code table, which may have grown -/
theorem old_go {S h : Heap} {L : Addr} {m : Str → Option Value} {nw : List (Addr × Obj)} {ps : Array Value} (hc : isCodeTable S 52) (h52 : S.get? 52 = some tabO) (F : Fr (hideAll S [52]) L h m) (N : News (hideAll S [52]) L h nw) (ht : (52, ({ cls := .none, data := .fields ps } : Obj)) ∈ nw) : OldK S h := by
  refine ⟨fun b o e => ?_, fun b o e => ?_⟩
  · by_cases hb : b = 52
    · subst hb
      rw [h52] at e
      cases e
      exact .inr (.inl ⟨hc, rfl, #[], ps, rfl, by rw [(N _ ht).1]; simp⟩)
    · exact .inl (F.keep b o (hideAll_get _ e fun hm => hb (List.mem_singleton.mp hm)))
  · by_cases hb : b = 52
    · subst hb
      exact ⟨_, (N _ ht).1⟩
    · exact ⟨o, F.keep b o (hideAll_get _ e fun hm => hb (List.mem_singleton.mp hm))⟩
local macro_rules | `(tactic| walk_at "execs cons") => `(tactic| ((with_reducible show wpAny _ _ (execs (Stmt.Assign [Expr.Tuple _ _ _] _ _ :: _) _) _ _ _); refine stop_of ?_))
theorem main : PySem.Challenge.rw_ba0004_01.Holds := by
  refine Mine.hd ?_
  intro w s₀ s₁ mg mb G Y fa o pm cd doc dV kV ho hd hcd hD hmg hg args vals as hpre hlay hrd hwl hlo
  obtain ⟨h0, mean0, mg0, mb0, BO⟩ := Y
  have KX : (fk.heap_1 w.params).In s₁.heap := fun a o e => BO.sub a o (BO.kin a o e)
  revert KX
  k_fill
  intro KX
  have X := (Ground.X G).1
  have V := (Ground.X G).2
  refine Ground.open G ?_
  intro T B D TE TW
  try (refine guard_noD D (by decide +kernel) ?_; clear D)
  obtain ⟨_, _, M⟩ := bmod_of_top T
  have TA := at_of_top T
  try (obtain ⟨_, _, he, B0⟩ := based_of_top T rfl hmg ho hd; have he' : cd = _ := he; subst he'; clear he)
  clear hmg
  wrow_args hpre hlay hrd hwl hlo
  all_goals (
    first | refine callC_kw (enter_call ?_) | refine enter_call ?_ | refine callC_kw (enter_callW ?_) | refine enter_callW ?_ | w_how
    w_top on
    have K0 := below_caller (Top.heap T)
    w_call any ho hd hcd hD T F
    clear hd TA
    k_drop
    skip)
  k_steps
  · exact (no_zero (by assumption) (by assumption)).elim
  · show wpAny _ _ (execs _ _) _ _ _
    obtain ⟨d0, d1, d2, d3, d4, d5, d6, d7, t0, t1, t2, t3, t4, t5, t6, t7, hys, b0, b3, b4, b5, b6, b7⟩ := draws_of (by assumption) (fun k h0 h8 => by
      try dsimp only
      split
      · exact draw_small _ k _ h0 h8
      · omega)
    subst hys
    obtain ⟨F1, N1, T1, KX1, kx1⟩ := base_go BO (by assumption) (by assumption)
    refine law_to ?hs ?hn ?hsc ?_
    case hs => (refine Eq.trans ?_ (lawRest_eq 1).symm; kernel_rfl)
    case hn => rfl
    case hsc => kernel_rfl
    refine law_tail w _ mean0 mg0 mb0 _ _ _ _ _ _ _ _ (below_caller _) F1 N1 KX1 T1 kx1 (.head _) hg _ d0 d1 d2 d3 d4 d5 d6 d7 t0 t1 t2 t3 t4 t5 t6 t7 (.tail _ (.head _)) (if_pos rfl) b0 b3 b4 b5 b6 b7 fun s' m' nw' F' N' hos hab htab => ?_
    obtain ⟨ps, hps⟩ := htab
    show GoodWG _ _ _ _ s₁ (.ok (.ret (.bool true))) s'
    refine ⟨.inl ⟨_, _, [], rfl, fun _ => rfl, ReadsW.bool true, ?post, fun _ => ⟨List.nodup_nil, fun _ hm => (nomatch hm)⟩⟩, old_go ⟨56, _, _, KX 56 _ (by k_is), rfl, rfl, rfl⟩ BO.tab F' N' hps, hos, hab⟩
    case post => first | rfl | wrow_post
end
end Mine
theorem PySem.Challenge.cw_ba0004_01_holds : PySem.Challenge.rw_ba0004_01.Holds :=
  Mine.main
