import PyProof.Rows.All
import Wide.All
import OpenK.AllK
import Wide.FinOn
import Open.Tops
import PySem.Challenge.RW_mj0213_01
set_option Elab.async false
section
open PySem PySem.W PyProof.Rows
set_option maxRecDepth 100000
set_option maxHeartbeats 8000000
namespace Mine
open_shared top for PySem.Challenge.pw_mj0213_01 leaving 0

/-- the part of the top's heap that the walks read -/
noncomputable def KF (P : Params) : Frag := (nat_lit 2, PySem.W.boot_o_2 P) :: (nat_lit 3, top.o_57 P) :: (nat_lit 6, PySem.W.boot_o_6 P) :: (nat_lit 27, top.o_19 P) :: (nat_lit 28, top.o_20 P) :: (nat_lit 34, top.o_26 P) :: (nat_lit 35, top.o_27 P) :: (nat_lit 36, top.o_28 P) :: (nat_lit 37, top.o_29 P) :: (nat_lit 38, top.o_30 P) :: (nat_lit 39, top.o_31 P) :: (nat_lit 40, top.o_32 P) :: (nat_lit 48, top.o_40 P) :: (nat_lit 49, top.o_41 P) :: (nat_lit 55, top.o_47 P) :: (nat_lit 56, top.o_48 P) :: (nat_lit 62, top.o_54 P) :: (nat_lit 63, top.o_55 P) :: (nat_lit 69, top.o_64 P) :: (nat_lit 70, top.o_65 P) :: (nat_lit 76, top.o_71 P) :: (nat_lit 77, top.o_72 P) :: (nat_lit 83, top.o_78 P) :: (nat_lit 84, top.o_79 P) :: (nat_lit 90, top.o_85 P) :: (nat_lit 91, top.o_86 P) :: (nat_lit 97, top.o_92 P) :: (nat_lit 98, top.o_93 P) :: (nat_lit 104, top.o_99 P) :: (nat_lit 105, top.o_100 P) :: (nat_lit 106, top.o_101 P) :: (nat_lit 110, top.o_105 P) :: (nat_lit 111, top.o_106 P) :: (nat_lit 112, top.o_107 P) :: (nat_lit 116, top.o_111 P) :: (nat_lit 117, top.o_112 P) :: (nat_lit 121, top.o_116 P) :: (nat_lit 122, top.o_117 P) :: (nat_lit 126, top.o_121 P) :: (nat_lit 127, top.o_122 P) :: (nat_lit 131, top.o_126 P) :: (nat_lit 132, top.o_127 P) :: []
noncomputable def KA : List Addr := nat_lit 2 :: nat_lit 3 :: nat_lit 6 :: nat_lit 27 :: nat_lit 28 :: nat_lit 34 :: nat_lit 35 :: nat_lit 36 :: nat_lit 37 :: nat_lit 38 :: nat_lit 39 :: nat_lit 40 :: nat_lit 48 :: nat_lit 49 :: nat_lit 55 :: nat_lit 56 :: nat_lit 62 :: nat_lit 63 :: nat_lit 69 :: nat_lit 70 :: nat_lit 76 :: nat_lit 77 :: nat_lit 83 :: nat_lit 84 :: nat_lit 90 :: nat_lit 91 :: nat_lit 97 :: nat_lit 98 :: nat_lit 104 :: nat_lit 105 :: nat_lit 106 :: nat_lit 110 :: nat_lit 111 :: nat_lit 112 :: nat_lit 116 :: nat_lit 117 :: nat_lit 121 :: nat_lit 122 :: nat_lit 126 :: nat_lit 127 :: nat_lit 131 :: nat_lit 132 :: []
theorem KE (P : Params) : KA = (KF P).map (·.1) := by kernel_rfl
noncomputable abbrev HK : Hook := kmHook KF KA KE [129]

noncomputable abbrev theProg : Program := PySem.Challenge.pw_mj0213_01
noncomputable abbrev theRow : RowW := PySem.Challenge.rw_mj0213_01.row.toRowW
noncomputable def theView : Program := view theProg [1, 3, 4, 5, 6, 7, 8, 9, 10, 11, 15, 16, 17]
noncomputable abbrev theLife : Life := ⟨[], [], [], 0, [], [], false, #[], [], 0, false, false, false, 0, [2000, 10, 10], false, 0, true, [], [], 0, false⟩
noncomputable abbrev theEnd (w : World) : Heap := absHeap (top.tree_127 w.params) 133 theLife
noncomputable abbrev topAnn : Option Value := some (.ref 6)

theorem top_pre (w : World) (os : OsState) : topGo treeTable theProg w 11 topAnn 12 ⟨boot_heap w.params, #[], boot_drawn, boot_toks, os⟩ (topStub theProg) =
    some (SharedT.abs ⟨top.tree_4 w.params, 15, theLife, #[], ⟨0, 0, 0, 0⟩, 187, os⟩, ⟨denote treeTable (.body (behindTheImports theProg) top.env_1), .body (behindTheImports theProg) top.env_1, ⟨0, 0, 0, 0⟩, [topFrame ⟨0, 0, 0, 0⟩]⟩) := by kernel_rfl
theorem top_block (w : World) (os : OsState) : segRun treeTable theProg w 11 topAnn 1 1 (SharedT.abs ⟨top.tree_4 w.params, 15, theLife, #[], ⟨0, 0, 0, 0⟩, 187, os⟩) (blockOf (behindTheImports theProg) top.env_1 (.body (behindTheImports theProg) top.env_1) ⟨0, 0, 0, 0⟩ [topFrame ⟨0, 0, 0, 0⟩]) =
    some (.next, SharedT.abs ⟨top.tree_4 w.params, 15, theLife, #[], ⟨0, 0, 0, 0⟩, 187, os⟩, .body (behindTheImports theProg) top.env_1, ⟨0, 0, 0, 0⟩) := by kernel_rfl
theorem top_body : behindTheImports theProg = top.sts_4 ++ (top.sts_57 ++ []) := by kernel_rfl
theorem top_fin (w : World) (os : OsState) : topRun treeTable theProg w 11 topAnn 2 (SharedT.abs ⟨top.tree_127 w.params, 133, theLife, #[], ⟨0, 0, 0, 0⟩, 360, os⟩) ⟨doneF .next, .body (behindTheImports theProg) top.env_1, ⟨191, 0, 213, 87⟩, [topFrame ⟨0, 0, 0, 0⟩]⟩ =
    some ⟨theEnd w, #[], ⟨0, 0, 0, 0⟩, 360, os⟩ := by kernel_rfl

theorem top_run (w : World) (os : OsState) : topRun treeTable theProg w 11 topAnn (12 + (1 + (371 + (342 + 2)))) ⟨boot_heap w.params, #[], boot_drawn, boot_toks, os⟩ (topStub theProg) = some ⟨theEnd w, #[], ⟨0, 0, 0, 0⟩, 360, os⟩ := by
  have k := top.chain theProg (behindTheImports theProg) w os [] 2 _ (piece_nil (top_fin w os))
  rw [← top_body] at k
  exact go_top (top_pre w os) (piece_block (top_block w os) k)

theorem top_size (w : World) : ((boot_heap w.params).isNs mainGlobals && (#[] : Array GenState).size == 0, (boot_heap w.params).objs.size, (boot_heap w.params).nsMap mainGlobals "__annotations__") = (true, 11, topAnn) := by kernel_rfl
theorem top_looks (w : World) : (fun os => ((staticsOk (importedModules theProg.main.body) (boot_heap w.params) (theEnd w) && namesBound theProg (theEnd w) && gensDone ⟨theEnd w, #[], ⟨0, 0, 0, 0⟩, 360, os⟩ && laidKept (boot_heap w.params) (theEnd w)),
    openSeen theView ["nsmallest", "nlargest"] (importedModules theProg.main.body) (fun s => xlAt theView [] s && recOk (RowW.records theRow) s) true ⟨theEnd w, #[], ⟨0, 0, 0, 0⟩, 360, os⟩, HK.obs ⟨theEnd w, #[], ⟨0, 0, 0, 0⟩, 360, os⟩)) =
      fun _ => (true, openGood theView ["nsmallest", "nlargest"], HK.val w) := by kernel_rfl
theorem top_left : LeftO theRow.prog theView ["nsmallest", "nlargest"] (fun s => xlAt theView [] s && recOk (RowW.records theRow) s) HK.obs HK.val 1548 :=
  LeftO.of_pieces (p := theProg) (H₀ := fun P => boot_heap P) (H₁ := fun P => absHeap (top.tree_127 P) 133 theLife) (gs₀ := #[]) (gs₁ := #[]) (d₀ := boot_drawn) (d₁ := ⟨0, 0, 0, 0⟩) (k₀ := boot_toks) (k₁ := 360) (m₀ := 11) (ann := topAnn)
    (M := 12 + (1 + (371 + (342 + 2)))) (boot_open (by kernel_rfl) (by decide) (fun s => by kernel_rfl)) top_size top_run (by decide) top_looks

theorem top_head {d : DefRec} {kwd : List (Str × Expr)} (hdef : defOf theView PySem.Challenge.rw_mj0213_01.row.toRowW.name = some (d, kwd)) (hp : PySem.Challenge.rw_mj0213_01.row.toRowW.prog.theDef PySem.Challenge.rw_mj0213_01.row.toRowW.name = some (d.params, d.body, d.scope)) (hk : kwWritten? d.params.kwonlyargs d.params.kw_defaults = some kwd)
    (k1 : PySem.Challenge.rw_mj0213_01.row.wellSaid = true) (hw : PySem.Challenge.rw_mj0213_01.row.toRowW.promised) (hc : WalkO theView ["nsmallest", "nlargest"] (XL theView []) (Hook.says (kmHook KF KA KE [129])) PySem.Challenge.rw_mj0213_01.row.toRowW d kwd fun f vs => PySem.call f vs) : PySem.Challenge.rw_mj0213_01.row.Holds :=
  holds_open (q := theView) (loose := ["nsmallest", "nlargest"]) (Xt := fun s => xlAt theView [] s && recOk (RowW.records theRow) s) (XP := XL theView []) (Yf := Hook.obs HK) (Ya := Hook.val HK) (YP := Hook.says HK) (N := 1548) top_left (Hook.of HK) (Hook.keeps HK)
    (fun s e => xl_of s (Bool.and_eq_true_iff.mp e).1) XL.keeps hdef hp hk (fun s e => recFacts_of (Bool.and_eq_true_iff.mp e).2) (by rfl) k1 (by decide +kernel) ⟨rfl, rfl, rfl, rfl, rfl, by decide +kernel⟩ hw hc
end Mine
end
section
open PySem PySem.W PyProof.Rows PySem.Calls
set_option maxRecDepth 100000
namespace Mine

/-! ## The ground: the top's heap, what a call keeps -/

/-- the top's facts that the walks use -/
structure GT (w : World) (mg mb : Str → Option Value) (G : Heap) : Prop where
  k : (KF w.params).In G
  g : G.Ns mainGlobals mg
  b : G.Ns builtinsNs mb
  bi : ∀ x : Str, x ≠ "__name__" → mb x = bootBuiltins x
  nl : G.NoLimit

noncomputable def Stays (G h : Heap) : Prop := ∀ b o, G.get? b = some o → h.get? b = some o

theorem Stays.trans {a b c : Heap} (x : Stays a b) (y : Stays b c) : Stays a c := fun i o e => y i o (x i o e)

/-- room on the stack: n further frames -/
structure Room (n : Nat) (A : Around) : Prop where
  d : A.depth + n < recursionLimit
  u : A.units + 50 * n < cLine
  hn : A.handled = none

theorem Room.deeper {n : Nat} {A : Around} (r : Room (n + 1) A) (env : Env) : Room n (A.deeper env) :=
  ⟨by have := r.d; show A.depth + 1 + n < _; lia, by have := r.u; show A.units + 3 + 50 * n < _; lia, r.hn⟩
theorem Room.in1 {n : Nat} {A : Around} (r : Room (n + 1) A) : Room n A.in1 :=
  ⟨by have := r.d; show A.depth + n < _; lia, by have := r.u; show A.units + 1 + 50 * n < _; lia, r.hn⟩
theorem Room.less {n k : Nat} {A : Around} (r : Room n A) (h : k ≤ n) : Room k A :=
  ⟨by have := r.d; lia, by have := r.u; lia, r.hn⟩
theorem Room.depth {n : Nat} {A : Around} (r : Room n A) : A.depth < recursionLimit := by have := r.d; lia
theorem Room.units {n : Nat} {A : Around} (r : Room n A) : A.units < cLine := by have := r.u; lia
theorem Room.mark {n : Nat} {A : Around} (r : Room n A) : Room n (A.mark none) := ⟨r.d, r.u, by show (none : Option Value).or A.handled = none; rw [r.hn]; rfl⟩

/-- from s to s' all stays but the objects at S -/
structure Keep (S : List Addr) (s s' : Shared) : Prop where
  same : ∃ h tk, s' = { s with heap := h, toks := tk }
  keep : ∀ b o, s.heap.get? b = some o → b ∉ S → s'.heap.get? b = some o

theorem Keep.refl (S : List Addr) (s : Shared) : Keep S s s := ⟨⟨_, _, rfl⟩, fun _ _ e _ => e⟩
theorem Keep.trans {S : List Addr} {a b c : Shared} (x : Keep S a b) (y : Keep S b c) : Keep S a c :=
  ⟨by obtain ⟨h, t, rfl⟩ := x.same; obtain ⟨h', t', rfl⟩ := y.same; exact ⟨_, _, rfl⟩, fun i o e n => y.keep i o (x.keep i o e n) n⟩
theorem Keep.mono {S S' : List Addr} {a b : Shared} (x : Keep S a b) (h : ∀ i ∈ S, i ∈ S') : Keep S' a b := ⟨x.same, fun i o e n => x.keep i o e fun q => n (h i q)⟩
theorem Keep.tok {S : List Addr} {a b : Shared} (x : Keep S a b) (t : Nat) : Keep S a { b with toks := t } :=
  ⟨by obtain ⟨h, t, rfl⟩ := x.same; exact ⟨_, _, rfl⟩, x.keep⟩
theorem Keep.heap {S : List Addr} {a : Shared} {h : Heap} {t : Nat} (x : ∀ b o, a.heap.get? b = some o → b ∉ S → h.get? b = some o) : Keep S a { a with heap := h, toks := t } := ⟨⟨_, _, rfl⟩, x⟩

/-- an object that is no namespace and no cell -/
noncomputable def plainObj (o : Obj) : Prop := (∀ es n, o.data ≠ .dict es n) ∧ ∀ v, o.data ≠ .cell v

structure Cx (G : Heap) (S : List Addr) (s0 : Shared) (env : Env) (m cm : Str → Option Value) (news : List (Addr × Obj)) (s : Shared) : Prop where
  st0 : Stays G s0.heap
  hS : ∀ x ∈ S, G.get? x = none
  kp : Keep S s0 s
  ns : s.heap.Ns env.locals m
  newL : s0.heap.get? env.locals = none
  S0 : ∀ x ∈ S, ∃ o, s0.heap.get? x = some o
  Sin : ∀ x ∈ S, ∃ o, s.heap.get? x = some o
  cell : ∀ n c, env.cells.lookup n = some c → s.heap.IsCell c (cm n)
  cellS : ∀ n c, env.cells.lookup n = some c → c ∉ S
  apart : ∀ n n' c, env.cells.lookup n = some c → env.cells.lookup n' = some c → n = n'
  nw : ∀ p ∈ news, s.heap.get? p.1 = some p.2 ∧ plainObj p.2

section
variable {G : Heap} {S : List Addr} {s0 s : Shared} {env : Env} {m cm : Str → Option Value} {news : List (Addr × Obj)}

noncomputable abbrev Cx.theEnv (_ : Cx G S s0 env m cm news s) : Env := env

theorem Cx.stay (c : Cx G S s0 env m cm news s) : Stays G s.heap := fun b o e => c.kp.keep b o (c.st0 b o e) fun q => by rw [c.hS b q] at e; cases e

theorem ne_data {h : Heap} {a b : Addr} {o o' : Obj} (ha : h.get? a = some o) (hb : h.get? b = some o') (hd : o.data ≠ o'.data) : a ≠ b := fun e => by
  subst e; rw [ha] at hb; cases hb; exact hd rfl

theorem Cx.LS (c : Cx G S s0 env m cm news s) : env.locals ∉ S := fun q => by
  obtain ⟨o, ho⟩ := c.S0 _ q
  rw [c.newL] at ho; cases ho
theorem Cx.fresh (c : Cx G S s0 env m cm news s) {a : Addr} (ha : s.heap.get? a = none) : s0.heap.get? a = none := by
  cases e : s0.heap.get? a with
  | none => rfl
  | some o =>
    have hS : a ∉ S := fun q => by
      obtain ⟨o, ho⟩ := c.Sin _ q
      rw [ha] at ho; cases ho
    have := c.kp.keep a o e hS; rw [ha] at this; cases this
theorem Cx.neL (c : Cx G S s0 env m cm news s) {a : Addr} {o : Obj} (ha : s.heap.get? a = some o) (hp : plainObj o) : a ≠ env.locals := by
  obtain ⟨oL, es, ep, hL, hd, _⟩ := c.ns
  exact ne_data ha hL (by rw [hd]; exact hp.1 _ _)
theorem Cx.neC (c : Cx G S s0 env m cm news s) {a : Addr} {o : Obj} (ha : s.heap.get? a = some o) (hp : plainObj o) {n : Str} {x : Addr} (hc : env.cells.lookup n = some x) : a ≠ x := by
  obtain ⟨oc, ho, hd⟩ := c.cell n x hc
  exact ne_data ha ho (by rw [hd]; exact hp.2 _)

theorem Cx.tok (c : Cx G S s0 env m cm news s) (t : Nat) : Cx G S s0 env m cm news { s with toks := t } :=
  ⟨c.st0, c.hS, c.kp.tok t, c.ns, c.newL, c.S0, c.Sin, c.cell, c.cellS, c.apart, c.nw⟩
theorem Cx.sub (c : Cx G S s0 env m cm news s) {news' : List (Addr × Obj)} (h : ∀ p ∈ news', p ∈ news) : Cx G S s0 env m cm news' s :=
  ⟨c.st0, c.hS, c.kp, c.ns, c.newL, c.S0, c.Sin, c.cell, c.cellS, c.apart, fun p hp => c.nw p (h p hp)⟩

theorem sameBut_keep {a : Addr} {h h' : Heap} (hs : Heap.SameBut a h h') {b : Addr} {o : Obj} (hb : b ≠ a) (e : h.get? b = some o) : h'.get? b = some o := (hs.2 b hb).trans e

/-- a local name is stored -/
theorem Cx.store (c : Cx G S s0 env m cm news s) {h' : Heap} {m' : Str → Option Value} {t : Nat} (hn : h'.Ns env.locals m') (hs : Heap.SameBut env.locals s.heap h') :
    Cx G S s0 env m' cm news { s with heap := h', toks := t } where
  st0 := c.st0
  hS := c.hS
  kp := ⟨by obtain ⟨h, t, e⟩ := c.kp.same; rw [e]; exact ⟨_, _, rfl⟩, fun b o e n => sameBut_keep hs (fun q => by rw [q, c.newL] at e; cases e) (c.kp.keep b o e n)⟩
  ns := hn
  newL := c.newL
  S0 := c.S0
  Sin := fun x hx => by
    obtain ⟨o, ho⟩ := c.Sin x hx
    refine ⟨o, sameBut_keep hs (fun q => ?_) ho⟩
    obtain ⟨o', ho'⟩ := c.S0 x hx
    rw [q, c.newL] at ho'; cases ho'
  cell := fun n x hx => by
    obtain ⟨o, ho, hd⟩ := c.cell n x hx
    refine ⟨o, sameBut_keep hs (fun q => ?_) ho, hd⟩
    obtain ⟨oL, es, ep, hL, hd', _⟩ := c.ns
    rw [q, hL] at ho; cases ho; rw [hd'] at hd; cases hd
  cellS := c.cellS
  apart := c.apart
  nw := fun p hp => ⟨sameBut_keep hs (c.neL (c.nw p hp).1 (c.nw p hp).2) (c.nw p hp).1, (c.nw p hp).2⟩

/-- objects at S' (plain ones, own ones) are changed, others may be made -/
theorem Cx.after (c : Cx G S s0 env m cm news s) {S' : List Addr} {s' : Shared} {news' : List (Addr × Obj)} (k : Keep S' s s') (ho : ∀ a ∈ S', (a ∈ S ∨ s0.heap.get? a = none) ∧ ∃ o, s.heap.get? a = some o ∧ plainObj o)
    (hi : ∀ a ∈ S', a ∈ S → ∃ o, s'.heap.get? a = some o) (hn : ∀ p ∈ news', s'.heap.get? p.1 = some p.2 ∧ plainObj p.2) : Cx G S s0 env m cm news' s' where
  st0 := c.st0
  hS := c.hS
  kp := ⟨by obtain ⟨h, t, e⟩ := c.kp.same; obtain ⟨h', t', e'⟩ := k.same; rw [e', e]; exact ⟨_, _, rfl⟩, fun b o e n => k.keep b o (c.kp.keep b o e n) fun q => by
    rcases (ho b q).1 with r | r
    · exact n r
    · rw [r] at e; cases e⟩
  ns := by
    obtain ⟨oL, es, ep, hL, r⟩ := c.ns
    refine ⟨oL, es, ep, k.keep _ _ hL fun q => ?_, r⟩
    obtain ⟨_, o, h1, h2⟩ := ho _ q
    exact c.neL h1 h2 rfl
  newL := c.newL
  S0 := c.S0
  Sin := fun x hx => by
    by_cases q : x ∈ S'
    · exact hi x q hx
    · obtain ⟨o, e⟩ := c.Sin x hx
      exact ⟨o, k.keep _ _ e q⟩
  cell := fun n x hx => by
    obtain ⟨o, h1, hd⟩ := c.cell n x hx
    refine ⟨o, k.keep _ _ h1 fun q => ?_, hd⟩
    obtain ⟨_, o', h1', h2⟩ := ho _ q
    exact c.neC h1' h2 hx rfl
  cellS := c.cellS
  apart := c.apart
  nw := hn

/-- objects at S are changed -/
theorem Cx.within (c : Cx G S s0 env m cm news s) {s' : Shared} {news' : List (Addr × Obj)} (k : Keep S s s') (hi : ∀ a ∈ S, ∃ o, s'.heap.get? a = some o) (hn : ∀ p ∈ news', s'.heap.get? p.1 = some p.2 ∧ plainObj p.2) : Cx G S s0 env m cm news' s' where
  st0 := c.st0
  hS := c.hS
  kp := c.kp.trans k
  ns := by
    obtain ⟨oL, es, ep, hL, r⟩ := c.ns
    exact ⟨oL, es, ep, k.keep _ _ hL c.LS, r⟩
  newL := c.newL
  S0 := c.S0
  Sin := hi
  cell := fun n x hx => by
    obtain ⟨o, h1, hd⟩ := c.cell n x hx
    exact ⟨o, k.keep _ _ h1 (c.cellS n x hx), hd⟩
  cellS := c.cellS
  apart := c.apart
  nw := hn

/-- only new things are made -/
theorem Cx.grown (c : Cx G S s0 env m cm news s) {s' : Shared} {news' : List (Addr × Obj)} (k : Keep [] s s') (hn : ∀ p ∈ news', p ∉ news → s'.heap.get? p.1 = some p.2 ∧ plainObj p.2) : Cx G S s0 env m cm news' s' :=
  c.after k (fun _ q => nomatch q) (fun _ q => nomatch q) fun p hp => by
    by_cases hm : p ∈ news
    · exact ⟨k.keep _ _ (c.nw p hm).1 (fun q => nomatch q), (c.nw p hm).2⟩
    · exact hn p hp hm
end
end Mine
end
section
open PySem PySem.W PyProof.Rows PySem.Calls
set_option maxRecDepth 100000
namespace Mine

noncomputable def tk (s : Shared) (u : Nat) : Shared := { s with toks := u }
theorem Cx.tk {G : Heap} {S : List Addr} {s0 s : Shared} {env : Env} {m cm : Str → Option Value} {news : List (Addr × Obj)} (c : Cx G S s0 env m cm news s) {t : Nat} : Cx G S s0 env m cm news (tk s t) := c.tok t
theorem Keep.tk {S : List Addr} {a b : Shared} (x : Keep S a b) {t : Nat} : Keep S a (tk b t) := x.tok t

section
variable {w : World} {prog : Program} {A : Around} {E : Value → Shared → Prop} {s : Shared} {env : Env} {a b : Int} {t1 t2 : Tok} {Q : Value → Shared → Prop}
theorem eInt {M : Model} {i : Int} {k : Nat} {pos : Pos} (h : ∀ t u, Q (.int i t) (tk s u)) : wpAny M A (eval (.Constant (.int i) k pos) env) Q E s := wpAny_Constant_int (h _ _)
theorem iAdd (h : ∀ t u, Q (.int (a + b) t) (tk s u)) : wpAny (model prog w) A (binaryOp .Add (.int a t1) (.int b t2)) Q E s := PyProof.Rows.add_int (h _ _)
theorem iSub (h : ∀ t u, Q (.int (a - b) t) (tk s u)) : wpAny (model prog w) A (binaryOp .Sub (.int a t1) (.int b t2)) Q E s := PyProof.Rows.sub_int (h _ _)
theorem iMul (hm : IntMulOk a b) (h : ∀ t u, Q (.int (a * b) t) (tk s u)) : wpAny (model prog w) A (binaryOp .Mult (.int a t1) (.int b t2)) Q E s := PyProof.Rows.mul_int (h _ _) hm
theorem iMod (hb : b ≠ 0) (h : ∀ t u, Q (.int (a.fmod b) t) (tk s u)) : wpAny (model prog w) A (binaryOp .Mod (.int a t1) (.int b t2)) Q E s := PyProof.Rows.mod_int hb (h _ _)
theorem iDiv (hb : b ≠ 0) (hp : Builtin.divisionGoesByPylong a b = false) (h : ∀ t u, Q (.int (a.fdiv b) t) (tk s u)) : wpAny (model prog w) A (binaryOp .FloorDiv (.int a t1) (.int b t2)) Q E s := PyProof.Rows.floordiv_int hb (h _ _) (.inl hp)
theorem iHalf (h0 : 0 ≤ a) (h : ∀ t u, Q (.int (a / 2) t) (tk s u)) : wpAny (model prog w) A (binaryOp .RShift (.int a t1) (.int 1 t2)) Q E s := wpAny_rshift1_int h0 (h _ _)
theorem iPow (hn : 0 ≤ b) (hsz : (Builtin.Int.intBits a : Int) * b ≤ 2 ^ 27) (h : ∀ t u, Q (.int (a ^ b.toNat) t) (tk s u)) : wpAny (model prog w) A (binaryOp .Pow (.int a t1) (.int b t2)) Q E s := PyProof.Rows.pow_int hn hsz (h _ _)
theorem iNeg (h : ∀ t u, Q (.int (-a) t) (tk s u)) : wpAny (model prog w) A (unaryOp .USub (.int a t1)) Q E s := PyProof.Rows.neg_int (h _ _)
theorem cLt (h : Q (.bool (decide (a < b))) s) : wpAny (model prog w) A (compareOp .Lt (.int a t1) (.int b t2)) Q E s := wpAny_lt_int h
theorem cGt (h : Q (.bool (decide (b < a))) s) : wpAny (model prog w) A (compareOp .Gt (.int a t1) (.int b t2)) Q E s := PyProof.Rows.gt_int h
theorem cGe (h : Q (.bool (decide (b ≤ a))) s) : wpAny (model prog w) A (compareOp .GtE (.int a t1) (.int b t2)) Q E s := PyProof.Rows.ge_int h
theorem cEq (h : Q (.bool (a == b)) s) : wpAny (model prog w) A (compareOp .Eq (.int a t1) (.int b t2)) Q E s := PyProof.Rows.eq_int h
theorem cNe (h : Q (.bool (a != b)) s) : wpAny (model prog w) A (compareOp .NotEq (.int a t1) (.int b t2)) Q E s := PyProof.Rows.ne_int h
end

noncomputable abbrev upd (m : Str → Option Value) (x : Str) (v : Value) : Str → Option Value := fun y => if y = x then some v else m y

section
variable {w : World} {prog : Program} {mg mb : Str → Option Value} {G : Heap} {A : Around} {E : Value → Shared → Prop} {S : List Addr} {s0 s : Shared} {env : Env} {m cm : Str → Option Value} {news : List (Addr × Obj)}

theorem Cx.ld {M : Model} (c : Cx G S s0 env m cm news s) {x : Str} {pos : Pos} {v : Value} {Q : Value → Shared → Prop} (hv : m x = some v) (h : Q v s)
    (hk : env.scope.kind = .function := by rfl) (hl : env.kindOf x = some .local := by rfl) (hd : (x == ("__debug__" : Str)) = false := by rfl) : wpAny M A (eval (.Name x pos) env) Q E s :=
  wpAny_Name (wpAny_loadName_local hk hl c.ns hv h) hd

theorem Cx.ldC {M : Model} (c : Cx G S s0 env m cm news s) {x : Str} {pos : Pos} {a : Addr} {v : Value} {Q : Value → Shared → Prop} (ha : env.cells.lookup x = some a) (hv : cm x = some v) (h : Q v s)
    (hk : env.scope.kind = .function := by rfl) (hl : env.kindOf x = some .cell := by rfl) (hd : (x == ("__debug__" : Str)) = false := by rfl) : wpAny M A (eval (.Name x pos) env) Q E s :=
  wpAny_Name (wpAny_loadName_cell hk hl ha (by have := c.cell x a ha; rw [hv] at this; exact this) h) hd

theorem Cx.ldG {M : Model} (c : Cx G S s0 env m cm news s) (T : GT w mg mb G) {x : Str} {pos : Pos} {v : Value} {Q : Value → Shared → Prop} (hv : mg x = some v) (h : Q v s)
    (hge : env.globals = mainGlobals := by rfl) (hk : env.scope.kind = .function := by rfl) (hx : env.kindOf x = some .globalImplicit := by rfl) (hd : (x == ("__debug__" : Str)) = false := by rfl) :
    wpAny M A (eval (.Name x pos) env) Q E s :=
  Name_function_global hk hx (loadGlobal_global (hge ▸ T.g.keeps c.stay) hv h) hd

theorem Cx.ldB {M : Model} (c : Cx G S s0 env m cm news s) (T : GT w mg mb G) {x : Str} {pos : Pos} {v : Value} {Q : Value → Shared → Prop} (hm : mg x = none) (hv : mb x = some v) (h : Q v s)
    (hge : env.globals = mainGlobals := by rfl) (hbe : env.builtins = builtinsNs := by rfl) (hk : env.scope.kind = .function := by rfl) (hx : env.kindOf x = some .globalImplicit := by rfl) (hd : (x == ("__debug__" : Str)) = false := by rfl) :
    wpAny M A (eval (.Name x pos) env) Q E s :=
  Name_function_global hk hx (loadGlobal_builtin (hge ▸ T.g.keeps c.stay) hm (hbe ▸ T.b.keeps c.stay) hv h) hd

theorem Cx.sto {M : Model} (c : Cx G S s0 env m cm news s) {x : Str} {v : Value} {Q : Unit → Shared → Prop}
    (h : ∀ s', Cx G S s0 env (upd m x v) cm news s' → Heap.SameBut env.locals s.heap s'.heap → Q () s')
    (hl : env.kindOf x = some .local := by rfl) (hp : (env.scope.kind == .class || (env.scope.kind == .module && env.locals != env.globals)) = false := by rfl) :
    wpAny M A (storeName env x v) Q E s :=
  wpAny_storeName_local hl c.ns (fun _ hn hs => h _ (c.store hn hs) hs) hp

theorem Cx.stoC {M : Model} (c : Cx G S s0 env m cm news s) {x : Str} {a : Addr} {v : Value} {Q : Unit → Shared → Prop} (ha : env.cells.lookup x = some a) (hnew : s0.heap.get? a = none)
    (h : ∀ s', Cx G S s0 env m (upd cm x v) news s' → Heap.SameBut a s.heap s'.heap → Q () s')
    (hk : env.scope.kind = .function := by rfl) (hl : env.kindOf x = some .cell := by rfl) :
    wpAny M A (storeName env x v) Q E s := by
  refine wpAny_storeName_cell hk hl ha (c.cell x a ha) fun h' hc hs => h _ ?_ hs
  obtain ⟨oc, hoc, hdc⟩ := c.cell x a ha
  refine ⟨c.st0, c.hS, ⟨?_, fun b o e n => sameBut_keep hs (fun q => by rw [q, hnew] at e; cases e) (c.kp.keep b o e n)⟩, ?_, c.newL, c.S0, fun x hx => ?_, fun n' c' hn' => ?_, c.cellS, c.apart, fun p hp => ?_⟩
  · obtain ⟨h, t, e⟩ := c.kp.same; rw [e]; exact ⟨_, _, rfl⟩
  · refine c.ns.sameBut hs fun q => ?_
    obtain ⟨oL, es, ep, hL, hd', _⟩ := c.ns
    rw [q, hoc] at hL; cases hL; rw [hdc] at hd'; cases hd'
  · obtain ⟨o, ho⟩ := c.Sin x hx
    refine ⟨o, sameBut_keep hs (fun q => ?_) ho⟩
    obtain ⟨o', ho'⟩ := c.S0 x hx
    rw [q, hnew] at ho'; cases ho'
  · by_cases hx : n' = x
    · subst hx
      rw [ha] at hn'; cases hn'
      simpa [upd] using hc
    · have e1 : upd cm x v n' = cm n' := if_neg hx
      rw [e1]
      obtain ⟨o, ho, hd⟩ := c.cell n' c' hn'
      exact ⟨o, sameBut_keep hs (fun q => hx (c.apart n' x a (q ▸ hn') ha)) ho, hd⟩
  · exact ⟨sameBut_keep hs (c.neC (c.nw p hp).1 (c.nw p hp).2 ha) (c.nw p hp).1, (c.nw p hp).2⟩

inductive AsgQ (G : Heap) (S : List Addr) (s0 : Shared) (env : Env) (cm : Str → Option Value) (x : Str) (Q : Flow → Shared → Prop) (v : Value) (s₁ : Shared) : Prop
  | mk (m : Str → Option Value) (news : List (Addr × Obj)) (c : Cx G S s0 env m cm news s₁) (k : ∀ s', Cx G S s0 env (upd m x v) cm news s' → Heap.SameBut env.locals s₁.heap s'.heap → Q .next s')
/-- x = value -/
theorem Cx.asg {M : Model} {x : Str} {p' p : Pos} {value : Expr} {Q : Flow → Shared → Prop}
    (h : wpAny M A (eval value env) (AsgQ G S s0 env cm x Q) E s)
    (hs : swapsWith value (some (.Name x p')) p.line env = pure false := by rfl)
    (hl : env.kindOf x = some .local := by rfl) (hp : (env.scope.kind == .class || (env.scope.kind == .module && env.locals != env.globals)) = false := by rfl) :
    wpAny M A (exec (.Assign [.Name x p'] value p) env) Q E s :=
  wpAny_Assign_Name (wpAny_mono h (fun _ _ ⟨_, _, c, k⟩ => c.sto k hl hp) fun _ _ q => q) hs

noncomputable abbrev SeqQ (M : Model) (A : Around) (rest : List Stmt) (env : Env) (Q : Flow → Shared → Prop) (E : Value → Shared → Prop) (f : Flow) (s : Shared) : Prop := match f with
  | .next => wpAny M A (execs rest env) Q E s
  | f => Q f s
noncomputable abbrev TurnQ (Q : Flow → Shared → Prop) (J : Nat → Shared → Prop) (n : Nat) (f : Flow) (s : Shared) : Prop := match f with
  | .next | .cont => ∃ k, k < n ∧ J k s
  | .brk => Q .next s
  | .ret v => Q (.ret v) s
noncomputable abbrev NoE (_ : Value) (_ : Shared) : Prop := False
noncomputable abbrev RetQ (Q : Value → Shared → Prop) (fl : Flow) (s : Shared) : Prop := Q (match fl with | .ret v => v | _ => .none) s
/-- statements one after the other -/
theorem seq {M : Model} {st : Stmt} {rest : List Stmt} {Q : Flow → Shared → Prop} (h : wpAny M A (exec st env) (SeqQ M A rest env Q E) E s) :
    wpAny M A (execs (st :: rest) env) Q E s := wpAny_execs_cons h

/-- a call of a def of the top -/
theorem callFn {Q : Value → Shared → Prop} {name qual : Str} {params : Arguments} {body : List Stmt} {scope : Scope} {dV kV doc pm cdv ct oc : Value} {an od : Option Addr} {osl : Array (Option Value)} {f : Addr}
    {pos : List Value} {kw : List (Str × Value)} {binds : List (Str × Value)} {n : Nat} (T : GT w mg mb G) (st : Stays G s.heap) (hS : ∀ x ∈ S, G.get? x = none) (hSs : ∀ x ∈ S, ∃ o, s.heap.get? x = some o) (r : Room n A)
    (ho : (KF w.params).lookup f = some ⟨oc, od, .func (fnOf name qual params body scope dV kV doc pm an cdv ct), osl⟩) (hcd : codeIn (KF w.params) cdv qual = true)
    (hbind : BindsTo s (fnOf name qual params body scope dV kV doc pm an cdv ct) ⟨pos, kw⟩ binds) (hloc : ∀ y ∈ binds, scope.names.lookup y.1 = some .local)
    (hcell : ∀ x ∈ scope.names, x.2 ≠ .cell)
    (h : ∀ L s₁, Cx G S s (envOf qual scope L f cdv) (fun y => binds.reverse.lookup y) (fun _ => none) [] s₁ → Keep [] s s₁ →
      wpAny (model prog w) (A.deeper (envOf qual scope L f cdv)) (execs body (envOf qual scope L f cdv)) (RetQ Q) NoE s₁)
    (hco : scope.isCoroutine = false := by rfl) (hgen : scope.isGenerator = false := by rfl) (hk : scope.kind = .function := by rfl) :
    wpAny (model prog w) A (call (.ref f) pos kw) Q E s := by
  refine wpAny_call (codeAny_call_def (fd := fnOf name qual params body scope dV kV doc pm an cdv ct) (body := body) (binds := binds) r.depth (st _ _ (T.k _ _ ho)) rfl (T.nl.keeps st) ((codeRec_of T.k hcd).keeps st) rfl hbind hcell hloc (fun h₁ hns hk₁ => ?_) hco hgen hk)
  have hnew : s.heap.get? s.heap.objs.size = none := Heap.get?_none_of_le (Nat.le_refl _)
  refine wpAny_mono (h s.heap.objs.size { s with heap := h₁, toks := s.toks + binds.length } ⟨st, hS, ⟨⟨_, _, rfl⟩, fun b o e _ => hk₁ b o e⟩, hns, hnew, hSs, fun x hx => ?_, fun n c q => (nomatch q), fun n c q => (nomatch q), fun n _ c q => (nomatch q), fun p q => (nomatch q)⟩ ⟨⟨_, _, rfl⟩, fun b o e _ => hk₁ b o e⟩) (fun fl s' hq => hq) fun _ _ x => x.elim
  obtain ⟨o, ho⟩ := hSs x hx
  exact ⟨o, hk₁ _ _ ho⟩

/-- a while, nothing raised -/
theorem whileF {test : Expr} {body : List Stmt} {pos : Pos} {Q : Flow → Shared → Prop} (I : Nat → Shared → Prop) (n : Nat) (h : I n s)
    (turn : ∀ J : Nat → Shared → Prop, (∀ n s, I n s → J n s) → ∀ n s, I n s → wpAny (model prog w) A (isTrue test env (eval test env)) (fun b s₂ => if b then wpAny (model prog w) A (execs body env) (TurnQ Q J n) NoE s₂ else Q .next s₂) NoE s) :
    wpAny (model prog w) A (exec (.While test body [] pos) env) Q E s := by
  refine wpAny_While (codeAny_whileLoop I (fun n s hI => wpAny_mono (turn I (fun _ _ x => x) n s hI) (fun b s₂ hb => ?_) fun _ _ x => x.elim) n h)
  cases b with
  | false => simp only [Bool.false_eq_true, if_false] at hb ⊢; exact wpAny_execs_nil hb
  | true =>
    simp only [if_true] at hb ⊢
    refine wpAny_mono hb (fun f s₃ hf => ?_) fun _ _ x => x.elim
    cases f <;> exact hf
end
end Mine
end
section
open PySem PySem.W PyProof.Rows PySem.Calls
set_option maxRecDepth 100000
namespace Mine

section
variable {w : World} {prog : Program} {A : Around} {E : Value → Shared → Prop} {s : Shared} {env : Env}

noncomputable abbrev AsgF (M : Model) (A : Around) (target : Expr) (body : List Stmt) (env : Env) (Q : Flow → Shared → Prop) (J : Nat → Shared → Prop) (n : Nat) (v : Value) (_ : Unit) (s₂ : Shared) : Prop :=
  wpAny M A (assign target env v) (fun _ s₃ => wpAny M A (execs body env) (TurnQ Q J n) NoE s₃) NoE s₂
noncomputable abbrev NextF (M : Model) (A : Around) (target : Expr) (it : Value) (body : List Stmt) (env : Env) (Q : Flow → Shared → Prop) (J : Nat → Shared → Prop) (n : Nat) (r : Option Value) (s₁ : Shared) : Prop := match r with
  | none => Q .next s₁
  | some v => wpAny M A (letOwnedTupleGo target it v) (AsgF M A target body env Q J n v) NoE s₁
/-- a for over an iterator, nothing raised -/
theorem forLoopF {target : Expr} {it : Value} {body : List Stmt} {Q : Flow → Shared → Prop} (I : Nat → Shared → Prop) (n : Nat) (h : I n s)
    (turn : ∀ J : Nat → Shared → Prop, (∀ n s, I n s → J n s) → ∀ n s, I n s → wpAny (model prog w) A (pyNext it) (NextF (model prog w) A target it body env Q J n) NoE s) :
    codeAny (model prog w) A (.forLoop target it body [] env) (fun r s' => match r with | .ok f => Q f s' | .error e => cameBackBy (model prog w) A env E e s') s := by
  refine codeAny_loop' rfl I (fun n s hI => ?_) n h
  show wpAny _ _ ((forTurn target it body [] env).onRaise (fun x => do noteFrame x env; theTreesLotGoes x)) _ _ s
  refine wpAny_noted (wpAny_mono (E := fun _ _ => False) ?_ (fun _ _ x => x) fun _ _ x => x.elim)
  simp only [forTurn]
  refine wpAny_bind (wpAny_standAt (wpAny_bind (wpAny_onRaise (wpAny_mono (turn I (fun _ _ x => x) n s hI) (fun r s₁ h₁ => ?_) fun _ _ h' => h'.elim))))
  cases r with
  | none => exact wpAny_pure (.inr ⟨rfl, codeAny_block (wpAny_execs_nil h₁)⟩)
  | some v =>
    refine wpAny_bind (wpAny_mono h₁ (fun _ s₂ h₂ => wpAny_bind (wpAny_mono h₂ (fun _ s₃ h₃ => wpAny_bind (wpAny_mono h₃ (fun f s₄ h₄ => ?_) fun _ _ h' => h')) fun _ _ h' => h')) fun _ _ h' => h')
    cases f with
    | next => exact wpAny_pure (.inl ⟨rfl, h₄⟩)
    | cont => exact wpAny_pure (.inl ⟨rfl, h₄⟩)
    | brk => exact wpAny_pure h₄
    | ret v => exact wpAny_pure h₄

/-- the tests of a comprehension's clause: none or one -/
noncomputable def Tests (M : Model) (A : Around) (ifs : List Expr) (env : Env) (Q : Bool → Shared → Prop) (s : Shared) : Prop := match ifs with
  | [] => Q true s
  | [c] => wpAny M A (isTrue c env (eval c env)) Q (fun _ _ => False) s
  | _ => False

theorem tests_of {M : Model} {ifs : List Expr} {Q : Bool → Shared → Prop} (h : Tests M A ifs env Q s) :
    wpAny M A (forIn ifs true fun c r => if r = true then do let ok ← isTrue c env (eval c env); pure (ForInStep.yield ok) else pure (ForInStep.yield r)) Q (fun _ _ => False) s := by
  match ifs, h with
  | [], h => rw [List.forIn_nil]; exact wpAny_pure h
  | [c], h =>
    rw [List.forIn_cons]
    simp only [if_true]
    refine wpAny_bind (wpAny_bind (wpAny_mono h (fun ok s₁ h₁ => wpAny_pure ?_) fun _ _ x => x))
    dsimp only
    rw [List.forIn_nil]
    exact wpAny_pure h₁

noncomputable abbrev DownTo (J : Nat → Shared → Prop) (n : Nat) (s : Shared) : Prop := ∃ k, k < n ∧ J k s
noncomputable abbrev AppC (M : Model) (A : Around) (acc : Value) (J : Nat → Shared → Prop) (n : Nat) (x : Value) (s₅ : Shared) : Prop := wpAny M A (call (.builtin "list.append") [acc, x]) (fun _ s₆ => DownTo J n s₆) NoE s₅
noncomputable abbrev AsgCl (M : Model) (A : Around) (target elt : Expr) (ifs : List Expr) (acc : Value) (env : Env) (J : Nat → Shared → Prop) (n : Nat) (v : Value) (_ : Unit) (s₂ : Shared) : Prop :=
  wpAny M A (assign target env v) (fun _ s₃ => Tests M A ifs env (fun b s₄ => if b = true then wpAny M A (eval elt env) (AppC M A acc J n) NoE s₄ else DownTo J n s₄) s₃) NoE s₂
noncomputable abbrev NextC (M : Model) (A : Around) (target elt : Expr) (ifs : List Expr) (it acc : Value) (env : Env) (R : Result → Shared → Prop) (J : Nat → Shared → Prop) (n : Nat) (r : Option Value) (s₁ : Shared) : Prop := match r with
  | none => R (.ok .next) s₁
  | some v => wpAny M A (letOwnedTupleGo target it v) (AsgCl M A target elt ifs acc env J n v) NoE s₁
/-- a comprehension's last clause -/
theorem compLoopF {elt target iter : Expr} {ifs : List Expr} {gens : List Comprehension} {scope : Scope} {pos : Pos} {d : Nat} {it acc : Value} {R : Result → Shared → Prop} (I : Nat → Shared → Prop) (n : Nat) (h : I n s)
    (hg : gens[d]? = some ⟨target, iter, ifs, 0⟩) (hg' : gens[d + 1]? = none)
    (turn : ∀ J : Nat → Shared → Prop, (∀ n s, I n s → J n s) → ∀ n s, I n s → wpAny (model prog w) A (pyNext it) (NextC (model prog w) A target elt ifs it acc env R J n) NoE s) :
    codeAny (model prog w) A (.compLoop (.ListComp elt gens scope pos) d it acc env) R s := by
  refine codeAny_loop rfl I (fun n s hI => ?_) n h
  show wpAny _ _ ((compTurn (.ListComp elt gens scope pos) d it acc env).onRaise (fun x => do noteFrame x env; theTreesLotGoes x)) _ _ s
  refine wpAny_noted (wpAny_mono (E := fun _ _ => False) ?_ (fun _ _ x => x) fun _ _ x => x.elim)
  unfold compTurn
  dsimp only
  rw [hg, hg']
  dsimp only
  refine wpAny_bind (wpAny_standAt ?_)
  refine wpAny_bind (m := pyNext it) (wpAny_mono (turn I (fun _ _ x => x) n s hI) (fun r s₁ h₁ => ?_) fun _ _ h' => h')
  cases r with
  | none => exact wpAny_pure h₁
  | some v =>
    refine wpAny_bind (wpAny_mono h₁ (fun _ s₂ h₂ => wpAny_bind (wpAny_mono h₂ (fun _ s₃ h₃ => wpAny_bind (wpAny_mono (tests_of h₃) (fun b s₄ h₄ => ?_) fun _ _ h' => h')) fun _ _ h' => h')) fun _ _ h' => h')
    cases b with
    | false =>
      simp only [Bool.false_eq_true, if_false] at h₄ ⊢
      exact wpAny_pure ⟨rfl, h₄⟩
    | true =>
      simp only [if_true] at h₄ ⊢
      refine wpAny_bind (wpAny_bind (wpAny_mono h₄ (fun x s₅ h₅ => wpAny_bind (wpAny_mono h₅ (fun _ s₆ h₆ => wpAny_pure (wpAny_pure ⟨rfl, h₆⟩)) fun _ _ h' => h')) fun _ _ h' => h'))

/-- a comprehension's clause with a further one in it -/
theorem compLoopO {elt target iter target' iter' : Expr} {ifs ifs' : List Expr} {gens : List Comprehension} {scope : Scope} {pos : Pos} {d : Nat} {it acc : Value} {R : Result → Shared → Prop} (I : Nat → Shared → Prop) (n : Nat) (h : I n s)
    (hg : gens[d]? = some ⟨target, iter, ifs, 0⟩) (hg' : gens[d + 1]? = some ⟨target', iter', ifs', 0⟩)
    (turn : ∀ J : Nat → Shared → Prop, (∀ n s, I n s → J n s) → ∀ n s, I n s → wpAny (model prog w) A (pyNext it) (fun r s₁ => match r with
      | none => R (.ok .next) s₁
      | some v => wpAny (model prog w) A (letOwnedTupleGo target it v) (fun _ s₂ => wpAny (model prog w) A (assign target env v) (fun _ s₃ => Tests (model prog w) A ifs env (fun b s₄ =>
          if b = true then wpAny (model prog w) A (eval iter' env) (fun x s₅ => wpAny (model prog w) A (pyIter x) (fun it' s₆ =>
            codeAny (model prog w) A (.compStart (.ListComp elt gens scope pos) (d + 1) it' acc env) (fun r s₇ => match r with | .ok _ => DownTo J n s₇ | .error _ => False) s₆) NoE s₅) NoE s₄
          else DownTo J n s₄) s₃) NoE s₂) NoE s₁) NoE s)
    (hs : ∀ x, foldedSetIterable iter' env x = pure x) :
    codeAny (model prog w) A (.compLoop (.ListComp elt gens scope pos) d it acc env) R s := by
  refine codeAny_loop rfl I (fun n s hI => ?_) n h
  show wpAny _ _ ((compTurn (.ListComp elt gens scope pos) d it acc env).onRaise (fun x => do noteFrame x env; theTreesLotGoes x)) _ _ s
  refine wpAny_noted (wpAny_mono (E := fun _ _ => False) ?_ (fun _ _ x => x) fun _ _ x => x.elim)
  unfold compTurn
  dsimp only
  rw [hg, hg']
  dsimp only
  refine wpAny_bind (wpAny_standAt ?_)
  refine wpAny_bind (m := pyNext it) (wpAny_mono (turn I (fun _ _ x => x) n s hI) (fun r s₁ h₁ => ?_) fun _ _ h' => h')
  cases r with
  | none => exact wpAny_pure h₁
  | some v =>
    refine wpAny_bind (wpAny_mono h₁ (fun _ s₂ h₂ => wpAny_bind (wpAny_mono h₂ (fun _ s₃ h₃ => wpAny_bind (wpAny_mono (tests_of h₃) (fun b s₄ h₄ => ?_) fun _ _ h' => h')) fun _ _ h' => h')) fun _ _ h' => h')
    cases b with
    | false =>
      simp only [Bool.false_eq_true, if_false] at h₄ ⊢
      exact wpAny_pure ⟨rfl, h₄⟩
    | true =>
      simp only [if_true] at h₄ ⊢
      refine wpAny_bind (wpAny_mono h₄ (fun x s₅ h₅ => wpAny_bind (wpAny_standAt (wpAny_bind (m := foldedSetIterable iter' env x) (wpAny_of_eq (hs x) (wpAny_bind (m := holding [x] (pyIter x)) (wpAny_holding (wpAny_mono h₅ (fun it' s₆ h₆ => ?_) fun _ _ h' => h'))))))) fun _ _ h' => h')
      refine wpAny_bind (wpAny_runOwn (codeAny_mono h₆ fun r s₇ h₇ => ?_))
      cases r with
      | ok f => exact wpAny_pure ⟨rfl, h₇⟩
      | error e => exact h₇.elim

theorem compStartF {elt target iter : Expr} {ifs : List Expr} {gens : List Comprehension} {scope : Scope} {pos : Pos} {d : Nat} {it acc : Value} {R : Result → Shared → Prop} (hg : gens[d]? = some ⟨target, iter, ifs, 0⟩)
    (h0 : codeAny (model prog w) A (.compLoop (.ListComp elt gens scope pos) d it acc env) R s)
    (hit : ∀ {Q : Value → Shared → Prop}, Q it s → wpAny (model prog w) A (pyIter it) Q (fun _ _ => False) s) :
    codeAny (model prog w) A (.compStart (.ListComp elt gens scope pos) d it acc env) R s := by
  refine codeAny_of_tree ?_
  show wpAny _ _ ((compStart (.ListComp elt gens scope pos) d it acc env).onRaise (fun x => do noteFrame x env; standAt theWindowsPlace)) _ _ s
  refine wpAny_notedAt (wpAny_mono (E := fun _ _ => False) ?_ (fun _ _ x => x) fun _ _ x => x.elim)
  unfold compStart
  have hc : (clausesOf (.ListComp elt gens scope pos))[d]? = some ⟨target, iter, ifs, 0⟩ := hg
  rw [hc]
  show wpAny _ _ (ask >>= _) _ _ s
  refine wpAny_bind (wpAny_askSetting (wpAny_ite ?_))
  split
  · first
      | exact wpAny_bind (wpAny_pure (wpAny_pure (And.intro rfl h0)))
      | exact wpAny_pure (And.intro rfl h0)
  · refine wpAny_bind (wpAny_rule (wpAny_bind (wpAny_standAt (wpAny_bind (hit (wpAny_pure (And.intro rfl h0)))))))
end
end Mine
end
section
open PySem PySem.W PyProof.Rows PySem.Calls
set_option maxRecDepth 100000
namespace Mine

/-- a comprehension's frame -/
noncomputable def cEnv (scope : Scope) (cl : List (Str × Addr)) (C : Addr) (env : Env) : Env :=
  { scope := relabel scope env, locals := C, globals := env.globals, cells := cellsFrom (C + 1) scope.names cl, qual := env.qual, func := none, code := env.code, frame := env.frame, builtins := env.builtins }

theorem cellsFrom_lookup {x : Str} : ∀ (names : List (Str × NameKind)) (n : Nat) (acc : List (Str × Addr)) (c : Addr), (cellsFrom n names acc).lookup x = some c → n ≤ c ∨ acc.lookup x = some c
  | [], _, _, _, h => .inr h
  | (y, k) :: r, n, acc, c, h => by
    unfold cellsFrom at h
    split at h
    · rcases cellsFrom_lookup r _ _ c h with q | q
      · exact .inl (by lia)
      · rw [List.lookup_cons] at q
        cases hb : x == y with
        | true => rw [hb] at q; cases q; exact .inl (Nat.le_refl _)
        | false => rw [hb] at q; exact .inr q
    · exact cellsFrom_lookup r _ _ c h

section
variable {M : Model} {A : Around} {E : Value → Shared → Prop} {s : Shared}

/-- the cells of a comprehension's own names are laid; those of the closure stay -/
structure CellsIn (h : Heap) (lo : Nat) (cs : List (Str × Addr)) (cm : Str → Option Value) : Prop where
  cell : ∀ n c, cs.lookup n = some c → h.IsCell c (cm n)
  apart : ∀ n n' c, cs.lookup n = some c → cs.lookup n' = some c → n = n'

theorem cellsIn_from : ∀ (names : List (Str × NameKind)) (h : Heap) (acc : List (Str × Addr)) (cm : Str → Option Value), CellsIn h 0 acc cm → (∀ n, (n, NameKind.cell) ∈ names → cm n = none) →
    CellsIn (pushCells h names) 0 (cellsFrom h.objs.size names acc) cm
  | [], _, _, _, x, _ => x
  | (name, kind) :: r, h, acc, cm, x, hn => by
    unfold pushCells cellsFrom
    split
    · rename_i hk
      have hk' : kind = .cell := by simpa using hk
      have := cellsIn_from r (h.push { cls := .type "cell", data := .cell none }) ((name, h.objs.size) :: acc) cm ⟨fun n c hm => ?_, fun n n' c hm hm' => ?_⟩ (fun n q => hn n (.tail _ q))
      · rwa [Heap.size_push] at this
      · rw [List.lookup_cons] at hm
        cases hb : n == name with
        | true =>
          rw [hb] at hm; cases hm
          rw [hn n (by rw [beq_iff_eq.mp hb, hk']; exact .head _)]
          exact ⟨_, Heap.get?_push_size _ rfl, rfl⟩
        | false => rw [hb] at hm; exact (x.cell n c hm).keeps fun b o e => Heap.get?_push_of_some _ e
      · rw [List.lookup_cons] at hm hm'
        cases hb : n == name with
        | true =>
          rw [hb] at hm; cases hm
          cases hb' : n' == name with
          | true => rw [beq_iff_eq.mp hb, beq_iff_eq.mp hb']
          | false => rw [hb'] at hm'; exact absurd (x.cell n' _ hm').lt (Nat.lt_irrefl _)
        | false =>
          rw [hb] at hm
          cases hb' : n' == name with
          | true => rw [hb'] at hm'; cases hm'; exact absurd (x.cell n _ hm).lt (Nat.lt_irrefl _)
          | false => rw [hb'] at hm'; exact x.apart n n' c hm hm'
    · exact cellsIn_from r h acc cm x fun n q => hn n (.tail _ q)

theorem newCompEnv {scope : Scope} {globals : Addr} {cl : List (Str × Addr)} {qual : Str} {outer : Env} {cm : Str → Option Value} {Q : Env → Shared → Prop} (hcl : CellsIn s.heap 0 cl cm) (hn : ∀ n, (n, NameKind.cell) ∈ scope.names → cm n = none)
    (hQ : ∀ C h', C = s.heap.objs.size → h'.Ns C (fun _ => none) → (∀ b o, s.heap.get? b = some o → h'.get? b = some o) → CellsIn h' 0 (cellsFrom (C + 1) scope.names cl) cm →
      Q { scope, locals := C, globals, cells := cellsFrom (C + 1) scope.names cl, qual, func := none, code := outer.code, frame := outer.frame, builtins := outer.builtins } { s with heap := h' }) :
    wpAny M A (newFunctionEnv scope globals cl [] qual none .none (some outer)) Q E s := by
  simp only [newFunctionEnv, Option.isSome_some, if_true]
  refine wpAny_bind (wpAny_alloc ?_)
  refine wpAny_bind (wpAny_layCells _ (fun name kind cells => by cases hkc : kind == NameKind.cell <;> simp [hkc]) _ _ _ _ ?_)
  have ok := cellsIn_from scope.names (s.heap.push { cls := .type "dict", data := .dict #[] }) cl cm ⟨fun n c q => (hcl.cell n c q).keeps fun b o e => Heap.get?_push_of_some _ e, hcl.apart⟩ hn
  rw [Heap.size_push] at ok
  rw [show ({ s with heap := s.heap.push { cls := .type "dict", data := .dict #[] } } : Shared).heap.objs.size = s.heap.objs.size + 1 from Heap.size_push ..]
  exact wpAny_bind (wpAny_pure (wpAny_pure (hQ _ _ rfl ((Heap.Ns.new s.heap (.type "dict")).keeps (pushCells_keeps _ _)) (fun b o e => pushCells_keeps _ _ b o (Heap.get?_push_of_some _ e)) ok)))
end

noncomputable abbrev listO (l : List Value) (n : Nat) : Obj := { cls := .type "list", data := .seq l.toArray n }
theorem listO_plain (l : List Value) (n : Nat) : plainObj (listO l n) := ⟨(fun _ _ q => nomatch q), (fun _ q => nomatch q)⟩

section
variable {w : World} {prog : Program} {mg mb : Str → Option Value} {G : Heap} {A : Around} {E : Value → Shared → Prop} {S : List Addr} {s0 s : Shared} {env : Env} {m cm : Str → Option Value} {news : List (Addr × Obj)}

/-- something that is no thing of this frame changes -/
theorem Cx.other (c : Cx G S s0 env m cm news s) {h' : Heap} {a : Addr} {t : Nat} (hs : Heap.SameBut a s.heap h') (hn : s0.heap.get? a = none) (hL : a ≠ env.locals) (hc : ∀ n x, env.cells.lookup n = some x → x ≠ a) (hnw : ∀ p ∈ news, p.1 ≠ a) :
    Cx G S s0 env m cm news { s with heap := h', toks := t } where
  st0 := c.st0
  hS := c.hS
  kp := ⟨by obtain ⟨h, t, e⟩ := c.kp.same; rw [e]; exact ⟨_, _, rfl⟩, fun b o e n => sameBut_keep hs (fun q => by rw [q, hn] at e; cases e) (c.kp.keep b o e n)⟩
  ns := c.ns.sameBut hs hL.symm
  newL := c.newL
  S0 := c.S0
  Sin := fun x hx => by
    obtain ⟨o, ho⟩ := c.Sin x hx
    refine ⟨o, sameBut_keep hs (fun q => ?_) ho⟩
    obtain ⟨o', ho'⟩ := c.S0 x hx
    rw [q, hn] at ho'; cases ho'
  cell := fun n x hx => (c.cell n x hx).sameBut hs (hc n x hx)
  cellS := c.cellS
  apart := c.apart
  nw := fun p hp => ⟨sameBut_keep hs (hnw p hp) (c.nw p hp).1, (c.nw p hp).2⟩

/-- what a comprehension's body is given: the accumulator D, the frame C -/
structure CompIn (G : Heap) (wr : List Addr) (s₂ : Shared) (scope : Scope) (cl : List (Str × Addr)) (env : Env) (cm : Str → Option Value) (D C : Addr) (s₃ : Shared) : Prop where
  cx : Cx G wr s₂ (cEnv scope cl C env) (fun _ => none) cm [(D, listO [] 0)] s₃
  kp : Keep [] s₂ s₃
  newD : s₂.heap.get? D = none
  newC : s₂.heap.get? C = none
  DC : D ≠ C
  big : ∀ x, C ≤ x → s₂.heap.get? x = none

theorem comp_in {scope : Scope} {cl : List (Str × Addr)} {cm' : Str → Option Value} {wr : List Addr} {R : Value → Env → Shared → Prop} (c : Cx G S s0 env m cm news s) (hwr : ∀ a ∈ wr, s0.heap.get? a = none ∧ ∃ o, s.heap.get? a = some o ∧ plainObj o)
    (hcl : CellsIn s.heap 0 cl cm') (hn : ∀ n, (n, NameKind.cell) ∈ scope.names → cm' n = none)
    (h : ∀ D C s₃, CompIn G wr s scope cl env cm' D C s₃ → R (.ref D) (cEnv scope cl C env) s₃) :
    wpAny (model prog w) A (newList []) (fun acc s₃ => wpAny (model prog w) A (newFunctionEnv scope env.globals cl [] env.qual none .none (some env)) (fun cenv s₄ => R acc { cenv with scope := relabel scope env } s₄) E s₃) E s := by
  refine wpAny_newObj_type ?_
  refine newCompEnv (cm := cm') ⟨fun n x q => (hcl.cell n x q).keeps fun b o e => Heap.get?_push_of_some _ e, hcl.apart⟩ hn fun C h' hC hns hk hci => ?_
  have hC' : C = s.heap.objs.size + 1 := by rw [hC]; exact Heap.size_push ..
  have old : ∀ b o, s.heap.get? b = some o → h'.get? b = some o := fun b o e => hk b o (Heap.get?_push_of_some _ e)
  have f1 : s.heap.get? s.heap.objs.size = none := Heap.get?_none_of_le (Nat.le_refl _)
  have f2 : s.heap.get? C = none := Heap.get?_none_of_le (by lia)
  refine h s.heap.objs.size C _ ⟨⟨c.stay, fun x hx => ?_, ⟨⟨_, _, rfl⟩, fun b o e _ => old b o e⟩, hns, f2, (fun x hx => by obtain ⟨_, o, ho, _⟩ := hwr x hx; exact ⟨o, ho⟩), (fun x hx => by obtain ⟨_, o, ho, _⟩ := hwr x hx; exact ⟨o, old _ _ ho⟩), hci.cell, fun n x hx q => ?_, hci.apart, fun p hp => ?_⟩, ⟨⟨_, _, rfl⟩, fun b o e _ => old b o e⟩, f1, f2, by show s.heap.objs.size ≠ C; lia, fun x hx => Heap.get?_none_of_le (by have hx' : (C : Nat) ≤ x := hx; lia)⟩
  · obtain ⟨h1, o, ho, _⟩ := hwr x hx
    cases e : G.get? x with
    | none => rfl
    | some o' => have := c.st0 _ _ e; rw [h1] at this; cases this
  · obtain ⟨_, o, ho, hp⟩ := hwr x q
    rcases cellsFrom_lookup _ _ _ _ hx with z | z
    · rw [Heap.get?_none_of_le (by lia)] at ho; cases ho
    · obtain ⟨o', ho', hd'⟩ := hcl.cell n x z
      rw [ho] at ho'; cases ho'
      exact hp.2 _ hd'
  · rw [List.mem_singleton.mp hp]
    exact ⟨hk _ _ (Heap.get?_push_size _ rfl), listO_plain _ _⟩

inductive EEnd (G : Heap) (S : List Addr) (s0 : Shared) (env : Env) (m cm : Str → Option Value) (wr : List Addr) (s₂ : Shared) (D C : Addr) (Q : Value → Shared → Prop) (s' : Shared) : Prop
  | mk (m' : Str → Option Value) (news' : List (Addr × Obj)) (ns : s'.heap.Ns C m') (kp : Keep wr s₂ s') (nw : ∀ p ∈ news', s'.heap.get? p.1 = some p.2 ∧ plainObj p.2)
    (k : ∀ s'', Cx G S s0 env m cm news' s'' → Keep wr s₂ s'' → Heap.SameBut C s'.heap s''.heap → Q (.ref D) s'')
noncomputable abbrev EPost (G : Heap) (S : List Addr) (s0 : Shared) (env : Env) (m cm : Str → Option Value) (wr : List Addr) (s₂ : Shared) (D C : Addr) (Q : Value → Shared → Prop) (r : Result) (s' : Shared) : Prop := match r with
  | .ok _ => EEnd G S s0 env m cm wr s₂ D C Q s'
  | .error _ => False
inductive EAsk (prog : Program) (w : World) (A : Around) (G : Heap) (S : List Addr) (s0 : Shared) (env : Env) (cm : Str → Option Value) (scope : Scope) (cl : List (Str × Addr)) (e : Expr) (Q : Value → Shared → Prop) (it : Value) (s₂ : Shared) : Prop
  | mk (m : Str → Option Value) (news : List (Addr × Obj)) (wr : List Addr) (cm' : Str → Option Value) (c : Cx G S s0 env m cm news s₂) (own : ∀ a ∈ wr, s0.heap.get? a = none ∧ ∃ o, s₂.heap.get? a = some o ∧ plainObj o)
    (cells : CellsIn s₂.heap 0 cl cm') (owns : ∀ n, (n, NameKind.cell) ∈ scope.names → cm' n = none)
    (h : ∀ D C s₃, CompIn G wr s₂ scope cl env cm' D C s₃ → codeAny (model prog w) A (.compStart e 0 it (.ref D) (cEnv scope cl C env)) (EPost G S s0 env m cm wr s₂ D C Q) s₃)
inductive AEnd (G : Heap) (S : List Addr) (s0 : Shared) (env : Env) (m cm : Str → Option Value) (wr : List Addr) (s₂ : Shared) (D C : Addr) (y : Str) (Q : Flow → Shared → Prop) (s' : Shared) : Prop
  | mk (m' : Str → Option Value) (news' : List (Addr × Obj)) (ns : s'.heap.Ns C m') (kp : Keep wr s₂ s') (nw : ∀ p ∈ news', s'.heap.get? p.1 = some p.2 ∧ plainObj p.2)
    (k : ∀ s'', Cx G S s0 env (upd m y (.ref D)) cm news' s'' → Keep (env.locals :: wr) s₂ s'' → Keep [env.locals, C] s' s'' → Q .next s'')
noncomputable abbrev APost (G : Heap) (S : List Addr) (s0 : Shared) (env : Env) (m cm : Str → Option Value) (wr : List Addr) (s₂ : Shared) (D C : Addr) (y : Str) (Q : Flow → Shared → Prop) (r : Result) (s' : Shared) : Prop := match r with
  | .ok _ => AEnd G S s0 env m cm wr s₂ D C y Q s'
  | .error _ => False
inductive AAsk (prog : Program) (w : World) (A : Around) (G : Heap) (S : List Addr) (s0 : Shared) (env : Env) (cm : Str → Option Value) (scope : Scope) (cl : List (Str × Addr)) (e : Expr) (y : Str) (Q : Flow → Shared → Prop) (it : Value) (s₂ : Shared) : Prop
  | mk (m : Str → Option Value) (news : List (Addr × Obj)) (wr : List Addr) (cm' : Str → Option Value) (c : Cx G S s0 env m cm news s₂) (own : ∀ a ∈ wr, s0.heap.get? a = none ∧ ∃ o, s₂.heap.get? a = some o ∧ plainObj o)
    (cells : CellsIn s₂.heap 0 cl cm') (owns : ∀ n, (n, NameKind.cell) ∈ scope.names → cm' n = none)
    (h : ∀ D C s₃, CompIn G wr s₂ scope cl env cm' D C s₃ → codeAny (model prog w) A (.compStart e 0 it (.ref D) (cEnv scope cl C env)) (APost G S s0 env m cm wr s₂ D C y Q) s₃)
noncomputable abbrev ItQ (M : Model) (A : Around) (E : Value → Shared → Prop) (Q : Value → Shared → Prop) (xv : Value) (s : Shared) : Prop := wpAny M A (pyIter xv) Q E s

/-- a comprehension as a value -/
theorem compE {elt target iter : Expr} {ifs : List Expr} {rest : List Comprehension} {scope : Scope} {pos : Pos} {cl : List (Str × Addr)} {Q : Value → Shared → Prop}
    (hclos : closureFor scope env = pure cl) (hkind : scope.kind = .function) (hnames : ∀ y ∈ scope.names, y.2 = .local → scope.names.lookup y.1 = some .local)
    (h : wpAny (model prog w) A (eval iter env) (ItQ (model prog w) A E (EAsk prog w A G S s0 env cm scope cl (.ListComp elt (⟨target, iter, ifs, 0⟩ :: rest) scope pos) Q)) E s)
    (hs : ∀ x, foldedSetIterable iter env x = pure x := by intro _; rfl) :
    wpAny (model prog w) A (eval (.ListComp elt (⟨target, iter, ifs, 0⟩ :: rest) scope pos) env) Q E s := by
  rw [eval_ListComp]
  refine wpAny_comprehension_free (use := none) rfl hs hclos hkind hnames (wpAny_mono h (fun xv s₁ h₁ => wpAny_mono h₁ (fun it s₂ h₂ => ?_) fun _ _ e => e) fun _ _ e => e)
  obtain ⟨m₂, news₂, wr, cm', c, hwr, hcl, hn, hb⟩ := h₂
  refine comp_in (R := fun acc cenv s₄ => codeAny (model prog w) A (.compStart (.ListComp elt (⟨target, iter, ifs, 0⟩ :: rest) scope pos) 0 it acc cenv) (compPost (model prog w) A E none Q acc cenv.locals) s₄) c hwr hcl hn fun D C s₃ ci => ?_
  refine codeAny_mono (hb D C s₃ ci) fun r s' hr => ?_
  cases r with
  | error x => exact hr.elim
  | ok f =>
    obtain ⟨m', news', ciN, ciK, ciW, hQ⟩ := hr
    refine ⟨m', ciN, fun h' hs' => hQ _ ?_ ?_ hs'⟩
    · have c1 := c.after (S' := wr) ciK (fun a ha => ⟨.inr (hwr a ha).1, (hwr a ha).2⟩) (fun x hx hxS => by obtain ⟨o, ho⟩ := c.S0 x hxS; rw [(hwr x hx).1] at ho; cases ho) (news' := news') ciW
      have hL : C ≠ env.locals := fun q => by
        obtain ⟨o, _, _, ho, _⟩ := c.ns
        rw [← q, ci.newC] at ho; cases ho
      refine c1.other (t := s'.toks) hs' (c.fresh ci.newC) hL (fun n x hx q => ?_) (fun p hp q => by
        obtain ⟨oC, es, ep, hC, hd, _⟩ := ciN
        have q' : p.1 = C := q
        have := (ciW p hp).1
        rw [q', hC] at this; cases this
        exact (ciW p hp).2.1 _ _ hd)
      obtain ⟨o, ho, _⟩ := c.cell n x hx
      have q' : x = C := q
      rw [q', ci.newC] at ho; cases ho
    · exact ⟨by obtain ⟨h, t, e⟩ := ciK.same; rw [e]; exact ⟨_, _, rfl⟩, fun b o e q => sameBut_keep hs' (fun z => by rw [z] at e; rw [show s₂.heap.get? (cEnv scope cl C env).locals = none from ci.newC] at e; cases e) (ciK.keep b o e q)⟩

/-- y = [..], the store ahead of the variables' end -/
theorem compA {elt target iter : Expr} {ifs : List Expr} {rest : List Comprehension} {scope : Scope} {pos spos py : Pos} {y : Str} {cl : List (Str × Addr)} {Q : Flow → Shared → Prop}
    (hsw : swapsWith (.ListComp elt (⟨target, iter, ifs, 0⟩ :: rest) scope pos) (some (.Name y py)) spos.line env = pure true)
    (hclos : closureFor scope env = pure cl) (hkind : scope.kind = .function) (hnames : ∀ y ∈ scope.names, y.2 = .local → scope.names.lookup y.1 = some .local)
    (h : wpAny (model prog w) A (eval iter env) (ItQ (model prog w) A E (AAsk prog w A G S s0 env cm scope cl (.ListComp elt (⟨target, iter, ifs, 0⟩ :: rest) scope pos) y Q)) E s)
    (hs : ∀ x, foldedSetIterable iter env x = pure x := by intro _; rfl) (hy : env.kindOf y = some .local := by rfl)
    (hp : (env.scope.kind == .class || (env.scope.kind == .module && env.locals != env.globals)) = false := by rfl) :
    wpAny (model prog w) A (exec (.Assign [.Name y py] (.ListComp elt (⟨target, iter, ifs, 0⟩ :: rest) scope pos) spos) env) Q E s := by
  rw [exec_Assign_Name_used _ _ _ _ hsw]
  refine wpAny_bind (wpAny_standAt (wpAny_bind ?_))
  show wpAny _ A (do let _ ← comprehension (.ListComp elt (⟨target, iter, ifs, 0⟩ :: rest) scope pos) scope env _ (newList []) false (eval iter env) (some (assign (.Name y py) env))) _ _ s
  refine wpAny_bind (wpAny_mono (wpAny_comprehension_free (use := some (assign (.Name y py) env)) (Q := fun _ s' => Q .next s') rfl hs hclos hkind hnames
    (wpAny_mono h (fun xv s₁ h₁ => wpAny_mono h₁ (fun it s₂ h₂ => ?_) fun _ _ e => e) fun _ _ e => e)) (fun _ s' hq => wpAny_pure (wpAny_pure hq)) fun _ _ e => e)
  obtain ⟨m₂, news₂, wr, cm', c, hwr, hcl, hn, hb⟩ := h₂
  refine comp_in (R := fun acc cenv s₄ => codeAny (model prog w) A (.compStart (.ListComp elt (⟨target, iter, ifs, 0⟩ :: rest) scope pos) 0 it acc cenv) (compPost (model prog w) A E (some (assign (.Name y py) env)) (fun _ s' => Q .next s') acc cenv.locals) s₄) c hwr hcl hn fun D C s₃ ci => ?_
  refine codeAny_mono (hb D C s₃ ci) fun r s' hr => ?_
  cases r with
  | error x => exact hr.elim
  | ok f =>
    obtain ⟨m', news', ciN, ciK, ciW, hQ⟩ := hr
    have c1 := c.after (S' := wr) ciK (fun a ha => ⟨.inr (hwr a ha).1, (hwr a ha).2⟩) (fun x hx hxS => by obtain ⟨o, ho⟩ := c.S0 x hxS; rw [(hwr x hx).1] at ho; cases ho) (news' := news') ciW
    have hL : C ≠ env.locals := fun q => by
      obtain ⟨o, _, _, ho, _⟩ := c.ns
      rw [← q, ci.newC] at ho; cases ho
    show wpAny _ A (assign (.Name y py) env (.ref D)) _ _ _
    refine wpAny_assign_Name (c1.sto (fun s₅ c₅ e₅ => ?_) hy hp)
    refine ⟨m', ciN.sameBut e₅ hL, fun h' hs' => hQ _ ?_ ?_ ?_⟩
    · refine c₅.other (t := s₅.toks) hs' (c.fresh ci.newC) hL (fun n x hx q => ?_) (fun p hp q => by
        obtain ⟨oC, es, ep, hC, hd, _⟩ := ciN
        have q' : p.1 = C := q
        have := (ciW p hp).1
        rw [q', hC] at this; cases this
        exact (ciW p hp).2.1 _ _ hd)
      obtain ⟨o, ho, _⟩ := c.cell n x hx
      have q' : x = C := q
      rw [q', ci.newC] at ho; cases ho
    · refine ⟨?_, fun b o e q => sameBut_keep hs' (fun z => ?_) (sameBut_keep e₅ (fun z => q (by rw [z]; exact .head _)) (ciK.keep b o e fun z => q (.tail _ z)))⟩
      · obtain ⟨h1, t1, e1⟩ := c₅.kp.same
        obtain ⟨h2, t2, e2⟩ := c.kp.same
        rw [e1, e2]; exact ⟨_, _, rfl⟩
      · have z' : b = C := z
        rw [z', ci.newC] at e; cases e
    · refine ⟨?_, fun b o e q => sameBut_keep hs' (fun z => q (by rw [z]; exact .tail _ (.head _))) (sameBut_keep e₅ (fun z => q (by rw [z]; exact .head _)) e)⟩
      obtain ⟨h1, t1, e1⟩ := c₅.kp.same
      obtain ⟨h2, t2, e2⟩ := c1.kp.same
      rw [e1, e2]; exact ⟨_, _, rfl⟩
end
end Mine
end
section
open PySem PySem.W PyProof.Rows PySem.Calls
set_option maxRecDepth 100000
namespace Mine

/-- a plain list object -/
noncomputable def PL (h : Heap) (a : Addr) (l : List Value) : Prop := ∃ n, h.get? a = some (listO l n)
theorem PL.isList {h : Heap} {a : Addr} {l : List Value} (x : PL h a l) : h.IsList a l.toArray := by obtain ⟨n, e⟩ := x; exact ⟨_, e, rfl, n, rfl⟩
theorem PL.at {h h' : Heap} {a : Addr} {l : List Value} (x : PL h a l) (k : ∀ o, h.get? a = some o → h'.get? a = some o) : PL h' a l := by obtain ⟨n, e⟩ := x; exact ⟨n, k _ e⟩
theorem PL.plain {h : Heap} {a : Addr} {l : List Value} (x : PL h a l) : ∃ o, h.get? a = some o ∧ plainObj o := by obtain ⟨n, e⟩ := x; exact ⟨_, e, listO_plain _ _⟩
theorem PL.there {h : Heap} {a : Addr} {l : List Value} (x : PL h a l) : ∃ o, h.get? a = some o := by obtain ⟨n, e⟩ := x; exact ⟨_, e⟩
theorem PL.sb {h h' : Heap} {a b : Addr} {l : List Value} (x : PL h a l) (hs : Heap.SameBut b h h') (hab : a ≠ b) : PL h' a l := x.at fun _ e => sameBut_keep hs hab e
theorem PL.kp {S : List Addr} {s s' : Shared} {a : Addr} {l : List Value} (x : PL s.heap a l) (k : Keep S s s') (h : a ∉ S) : PL s'.heap a l := x.at fun o e => k.keep a o e h
theorem PL.uniq {h : Heap} {a : Addr} {l l' : List Value} (x : PL h a l) (y : PL h a l') : l = l' := by
  obtain ⟨n, e⟩ := x; obtain ⟨n', e'⟩ := y
  rw [e] at e'
  have := congrArg (fun o : Option Obj => o.map (·.data)) e'
  simp only [Option.map_some, Option.some.injEq, Data.seq.injEq] at this
  simpa using this.1
theorem PL.update {h : Heap} {a : Addr} {l : List Value} (x : PL h a l) (f : Array Value → Array Value) {l' : List Value} (e : f l.toArray = l'.toArray) : PL (h.update a (Obj.mapSeq f)) a l' := by
  obtain ⟨n, ho⟩ := x
  refine ⟨if l'.toArray.size == l.toArray.size then n else n + 1, ?_⟩
  have := Heap.get?_update_self (h := h) (a := a) (Obj.mapSeq f) ho rfl
  rw [this]
  show some (({ cls := .type "list", dict := none, data := .seq (f l.toArray) (if (f l.toArray).size == l.toArray.size then n else n + 1), slots := #[] } : Obj)) = _
  rw [e]

theorem isList_plain {h : Heap} {a : Addr} {its : Array Value} (hl : h.IsList a its) : ∃ o, h.get? a = some o ∧ plainObj o := by
  obtain ⟨o, ho, _, n, hd⟩ := hl
  exact ⟨o, ho, (fun _ _ q => by rw [hd] at q; cases q), (fun _ q => by rw [hd] at q; cases q)⟩
theorem IsListSB {h h' : Heap} {a b : Addr} {its : Array Value} (hl : h.IsList a its) (hs : Heap.SameBut b h h') (hab : a ≠ b) : h'.IsList a its := by
  obtain ⟨o, ho, q⟩ := hl; exact ⟨o, sameBut_keep hs hab ho, q⟩
theorem Keep.list {S : List Addr} {s s' : Shared} {a : Addr} {its : Array Value} (hl : s.heap.IsList a its) (k : Keep S s s') (h : a ∉ S) : s'.heap.IsList a its := by
  obtain ⟨o, ho, q⟩ := hl; exact ⟨o, k.keep _ _ ho h, q⟩

section
variable {w : World} {prog : Program} {mg mb : Str → Option Value} {G : Heap} {A : Around} {E : Value → Shared → Prop} {S : List Addr} {s0 s : Shared} {env : Env} {m cm : Str → Option Value} {news : List (Addr × Obj)}

/-- an own list changes -/
theorem Cx.upL (c : Cx G S s0 env m cm news s) {h' : Heap} {t : Nat} {a : Addr} {l l' : List Value} (hl : PL s.heap a l) (own : a ∈ S ∨ s0.heap.get? a = none) (hn : ∀ p ∈ news, p.1 ≠ a) (h1 : PL h' a l') (h2 : Heap.SameBut a s.heap h') :
    Cx G S s0 env m cm news { s with heap := h', toks := t } := by
  refine c.after (S' := [a]) ⟨⟨_, _, rfl⟩, fun b o e q => sameBut_keep h2 (fun z => q (by rw [z]; exact .head _)) e⟩ (fun b hb => ?_) (fun b hb _ => ?_) fun p hp => ⟨sameBut_keep h2 (hn p hp) (c.nw p hp).1, (c.nw p hp).2⟩
  · rw [List.mem_singleton.mp hb]; exact ⟨own, hl.plain⟩
  · rw [List.mem_singleton.mp hb]; exact h1.there

/-- a list of the call's own grows -/
theorem Cx.app (c : Cx G S s0 env m cm news s) {a : Addr} {l : List Value} {x : Value} {Q : Value → Shared → Prop} (hl : PL s.heap a l) (own : a ∈ S ∨ s0.heap.get? a = none) (hz : l.length < 2 ^ 20) (hn : ∀ p ∈ news, p.1 ≠ a)
    (h : ∀ s', Cx G S s0 env m cm news s' → PL s'.heap a (l ++ [x]) → Heap.SameBut a s.heap s'.heap → Q .none s') : wpAny (model prog w) A (call (.builtin "list.append") [.ref a, x]) Q E s := by
  obtain ⟨n, ho⟩ := id hl
  refine wpAny_call_entry slot_list_append hl.isList.typeIs entry_list_append ?_ (args_list_append _ _)
  show wpAny _ _ (updateSeq a (·.push x) >>= fun _ => ret .none) _ _ s
  refine wpAny_bind ?_
  have h1 : PL (s.heap.update a (Obj.mapSeq (·.push x))) a (l ++ [x]) := hl.update _ (by simp)
  refine wpAny_updateSeq ho rfl (wpAny_pure ⟨.none, rfl, h _ (c.upL hl own hn h1 (Heap.SameBut.update ..)) h1 (Heap.SameBut.update ..)⟩) ?_ ?_
  all_goals (simp; rw [sizeLine_eq]; lia)

/-- a[k] = v of a list of the call's own -/
theorem Cx.setL (c : Cx G S s0 env m cm news s) {a : Addr} {l : List Value} {k : Int} {j : Nat} {v : Value} {t : Tok} {Q : Unit → Shared → Prop} (hl : PL s.heap a l) (own : a ∈ S ∨ s0.heap.get? a = none) (hk : k = j)
    (hj : j < l.length) (hz : l.length < 2 ^ 20) (hn : ∀ p ∈ news, p.1 ≠ a)
    (h : ∀ s', Cx G S s0 env m cm news s' → PL s'.heap a (l.set j v) → Heap.SameBut a s.heap s'.heap → Q () s') : wpAny (model prog w) A (setItem (.ref a) (.int k t) v) Q E s := by
  obtain ⟨ne, ho⟩ := id hl
  have h0 : 0 ≤ k := by lia
  have hfit : k < 2 ^ 63 := by lia
  clear hz
  unfold setItem
  try with_reducible refine wpAny_holding ?_
  first | refine wpAny_bind (wpAny_pure ?_) | skip
  refine wpAny_bind (wpAny_sequenceKey hl.isList.typeIs (by decide) ?_)
  refine wpAny_bind (wpAny_callSpecial?_slot (name := Str.ofString "__setitem__") hl.isList.typeIs slot_list_setitem
    (wpAny_call_entry slot_list_setitem hl.isList.typeIs entry_list_setitem ?_ (args_list_setitem _ _ _)))
  show wpAny _ _ (Builtin.List.listSubscript? (.int k t) >>= _) _ _ s
  refine wpAny_bind (wpAny_listSubscript_int (fitsIndex_of h0 hfit) ?_)
  clear hfit
  subst hk
  have hx' : l.toArray[j]? = some l[j] := by simp [hj]
  show wpAny _ _ ((seqItemAt a j >>= fun r => pure (r.map (j, ·))) >>= _) _ _ s
  refine wpAny_bind (wpAny_bind (wpAny_seqItemAt ho rfl (wpAny_pure ?_)))
  rw [hx']
  show wpAny _ _ (setSeqItemAt a j v >>= _) _ _ s
  have h1 : PL (s.heap.update a (Obj.mapSeq (·.setIfInBounds j v))) a (l.set j v) := hl.update _ (by simp)
  refine wpAny_bind (wpAny_setSeqItemAt ho rfl ?_)
  first
    | exact wpAny_bind (wpAny_pure (wpAny_pure ⟨.none, rfl, wpAny_pure (h _ (c.upL hl own hn h1 (Heap.SameBut.update ..)) h1 (Heap.SameBut.update ..))⟩))
    | exact wpAny_pure ⟨.none, rfl, wpAny_pure (h _ (c.upL hl own hn h1 (Heap.SameBut.update ..)) h1 (Heap.SameBut.update ..))⟩

/-- a turn of a comprehension is through -/
inductive CompFin (G : Heap) (wr fp : List Addr) (s₂ : Shared) (cenv : Env) (PC : (Str → Option Value) → Prop) (D : Addr) (J : List Value → Heap → Prop) (s : Shared) (l : List Value) (s' : Shared) : Prop
  | mk (m cm : Str → Option Value) (c : Cx G wr s₂ cenv m cm [] s') (pc : PC cm) (hX : ∃ X, Keep X s s' ∧ D ∉ X ∧ ∀ b ∈ fp, b ∉ X) (j : J l s'.heap)

inductive CwI (G : Heap) (wr fp : List Addr) (s₂ : Shared) (cenv : Env) (PC : (Str → Option Value) → Prop) (St : Nat → Heap → Prop) (D : Addr) (n : Nat) (J : Nat → List Value → Heap → Prop) (k : Nat) (s : Shared) : Prop
  | mk (i : Nat) (l : List Value) (m cm : Str → Option Value) (hi : i ≤ n) (hk : k = n - i) (c : Cx G wr s₂ cenv m cm [] s) (pc : PC cm) (st : St i s.heap) (pl : PL s.heap D l) (hf : ∀ b ∈ fp, b ∉ wr → ∃ o, s.heap.get? b = some o) (j : J i l s.heap)
theorem tests_mono {M : Model} {ifs : List Expr} {Q Q' : Bool → Shared → Prop} (h : Tests M A ifs env Q s) (hq : ∀ b s, Q b s → Q' b s) : Tests M A ifs env Q' s := by
  match ifs, h with
  | [], h => exact hq _ _ h
  | [_], h => exact wpAny_mono h hq fun _ _ x => x

theorem compWalk {elt target iter : Expr} {ifs : List Expr} {scope : Scope} {pos : Pos} {cl : List (Str × Addr)} {cm' : Str → Option Value} {D C I : Addr} {s₂ s₃ : Shared} {fp wr : List Addr} {n : Nat} {P : Nat → Value → Prop} {St : Nat → Heap → Prop} {R : Result → Shared → Prop}
    (W : Walks prog w A I fp wr n P St) (ci : CompIn G wr s₂ scope cl env cm' D C s₃) (hst : St 0 s₂.heap) (hfp : ∀ b ∈ fp, ∃ o, s₂.heap.get? b = some o) (there : ∀ i h, St i h → ∀ a ∈ wr, ∃ o, h.get? a = some o) (hsz : n < 2 ^ 20)
    (L : Addr) (hL : ∃ o, s₂.heap.get? L = some o) (hLw : L ∉ wr)
    (J : List Addr → Nat → List Value → Heap → Prop) (PC : (Str → Option Value) → Prop) (hPC : PC cm') (J0 : J (C :: D :: L :: fp) 0 [] s₃.heap) (len : ∀ X i l h, J X i l h → l.length ≤ i)
    (stab : ∀ X i l h h', (∀ b o, b ∉ X → h.get? b = some o → h'.get? b = some o) → J X i l h → J X i l h')
    (step : ∀ i v l s m cm, i < n → P i v → Cx G wr s₂ (cEnv scope cl C env) m cm [] s → PC cm → St (i + 1) s.heap → (∀ x ∈ C :: D :: L :: fp, ∃ o, s.heap.get? x = some o) → C ∉ fp → D ∉ fp → C ≠ D → (∀ x, C ≤ x → s₂.heap.get? x = none) → PL s.heap D l → J (C :: D :: L :: fp) i l s.heap →
      wpAny (model prog w) A (letOwnedTupleGo target (.ref I) v) (fun _ s₁ => wpAny (model prog w) A (assign target (cEnv scope cl C env) v) (fun _ s₄ => Tests (model prog w) A ifs (cEnv scope cl C env) (fun b s₅ =>
        if b = true then wpAny (model prog w) A (eval elt (cEnv scope cl C env)) (fun y s₆ => CompFin G wr fp s₂ (cEnv scope cl C env) PC D (J (C :: D :: L :: fp) (i + 1)) s (l ++ [y]) s₆) (fun _ _ => False) s₅
        else CompFin G wr fp s₂ (cEnv scope cl C env) PC D (J (C :: D :: L :: fp) (i + 1)) s l s₅) s₄) (fun _ _ => False) s₁) (fun _ _ => False) s)
    (fin : ∀ l s' m, s'.heap.Ns C m → Keep wr s₂ s' → PL s'.heap D l → J (C :: D :: L :: fp) n l s'.heap → R (.ok .next) s') :
    codeAny (model prog w) A (.compStart (.ListComp elt [⟨target, iter, ifs, 0⟩] scope pos) 0 (.ref I) (.ref D) (cEnv scope cl C env)) R s₃ := by
  have hDf : D ∉ fp := fun q => by obtain ⟨o, ho⟩ := hfp D q; rw [ci.newD] at ho; cases ho
  have hCf : C ∉ fp := fun q => by obtain ⟨o, ho⟩ := hfp C q; rw [ci.newC] at ho; cases ho
  have hDw : D ∉ wr := fun q => hDf (W.sub _ q)
  have hCw : C ∉ wr := fun q => hCf (W.sub _ q)
  have hLD : D ≠ L := fun q => by obtain ⟨o, ho⟩ := hL; rw [← q, ci.newD] at ho; cases ho
  have hLC : C ≠ L := fun q => by obtain ⟨o, ho⟩ := hL; rw [← q, ci.newC] at ho; cases ho
  have hst3 : St 0 s₃.heap := W.frame _ _ _ hst fun b _ o e => ci.kp.keep b o e (fun q => nomatch q)
  have hD3 : PL s₃.heap D [] := ⟨_, (ci.cx.nw _ (.head _)).1⟩
  have loop : codeAny (model prog w) A (.compLoop (.ListComp elt [⟨target, iter, ifs, 0⟩] scope pos) 0 (.ref I) (.ref D) (cEnv scope cl C env)) R s₃ := by
    refine compLoopF (CwI G wr fp s₂ (cEnv scope cl C env) PC St D n (J (C :: D :: L :: fp))) n
      ⟨0, [], _, _, Nat.zero_le _, rfl, ci.cx.sub (fun _ q => nomatch q), hPC, hst3, hD3, fun b hb _ => ?_, J0⟩ rfl rfl ?_
    · obtain ⟨o, ho⟩ := hfp b hb; exact ⟨o, ci.kp.keep _ _ ho (fun q => nomatch q)⟩
    rintro JJ hJJ k s ⟨i, l, m, cm, hi, rfl, c, hpc, st, hD, hfb, hJ⟩
    by_cases hlt : i < n
    · refine W.item i s _ _ hlt st fun v h' tk hv st' hk => ?_
      have k1 : Keep wr s { s with heap := h', toks := tk } := ⟨⟨_, _, rfl⟩, fun b o e q => hk b o q e⟩
      have c1 : Cx G wr s₂ (cEnv scope cl C env) m cm [] { s with heap := h', toks := tk } := c.within k1 (there _ _ st') (fun _ q => nomatch q)
      have hD1 := hD.kp k1 hDw
      have hJ1 := stab _ _ _ _ h' (fun b o q e => hk b o (fun z => q (.tail _ (.tail _ (.tail _ (W.sub _ z))))) e) hJ
      have hX : ∀ x ∈ C :: D :: L :: fp, ∃ o, h'.get? x = some o := fun x hx => by
        rcases List.mem_cons.mp hx with rfl | hx
        · obtain ⟨o, _, _, ho, _⟩ := c1.ns; exact ⟨o, ho⟩
        rcases List.mem_cons.mp hx with rfl | hx
        · exact hD1.there
        rcases List.mem_cons.mp hx with rfl | hx
        · obtain ⟨o, ho⟩ := hL; exact ⟨o, c1.kp.keep _ _ ho hLw⟩
        by_cases hw : x ∈ wr
        · exact there _ _ st' x hw
        · obtain ⟨o, ho⟩ := hfb x hx hw; exact ⟨o, hk _ _ hw ho⟩
      refine wpAny_mono (step i v l _ m cm hlt hv c1 hpc st' hX hCf hDf (Ne.symm ci.DC) ci.big hD1 hJ1) (fun _ s₁ h₁ => wpAny_mono h₁ (fun _ s₄ h₄ => ?_) fun _ _ x => x) fun _ _ x => x
      have go : ∀ (l' : List Value) (s₅ : Shared), CompFin G wr fp s₂ (cEnv scope cl C env) PC D (J (C :: D :: L :: fp) (i + 1)) { s with heap := h', toks := tk } l' s₅ → PL s₅.heap D l ∧ St (i + 1) s₅.heap ∧ (∀ b ∈ fp, b ∉ wr → ∃ o, s₅.heap.get? b = some o) := by
        rintro l' s₅ ⟨m5, cm5, c5, pc5, ⟨X, kX, hDX, hfX⟩, j5⟩
        refine ⟨hD1.kp kX hDX, W.frame _ _ _ st' fun b hb o e => kX.keep b o e (hfX b hb), fun b hb hw => ?_⟩
        obtain ⟨o, ho⟩ := hfb b hb hw
        exact ⟨o, kX.keep _ _ (hk _ _ hw ho) (hfX b hb)⟩
      refine tests_mono h₄ fun b s₅ h₅ => ?_
      cases b with
      | false =>
        simp only [Bool.false_eq_true, if_false] at h₅ ⊢
        obtain ⟨g1, g2, g3⟩ := go _ _ h₅
        obtain ⟨m5, cm5, c5, pc5, _, j5⟩ := h₅
        exact ⟨n - (i + 1), by lia, hJJ _ _ ⟨i + 1, l, m5, cm5, by lia, rfl, c5, pc5, g2, g1, g3, j5⟩⟩
      | true =>
        simp only [if_true] at h₅ ⊢
        refine wpAny_mono h₅ (fun y s₆ h₆ => ?_) fun _ _ x => x
        obtain ⟨g1, g2, g3⟩ := go _ _ h₆
        obtain ⟨m5, cm5, c5, pc5, _, j5⟩ := h₆
        have hl := len _ _ _ _ hJ
        refine c5.app g1 (.inr ci.newD) (by lia) (fun _ q => nomatch q) fun s₇ c7 hD7 e7 => ?_
        refine ⟨n - (i + 1), by lia, hJJ _ _ ⟨i + 1, l ++ [y], m5, cm5, by lia, rfl, c7, pc5, W.frame _ _ _ g2 fun b hb o e => sameBut_keep e7 (fun z => hDf (z ▸ hb)) e, hD7, fun b hb hw => ?_, stab _ _ _ _ _ (fun b o q e => sameBut_keep e7 (fun z => q (by rw [z]; exact .tail _ (.head _))) e) j5⟩⟩
        obtain ⟨o, ho⟩ := g3 b hb hw
        exact ⟨o, sameBut_keep e7 (fun z => hDf (z ▸ hb)) ho⟩
    · have hin : i = n := by lia
      subst hin
      refine W.done s _ _ st fun h' tk hk => ?_
      have k1 : Keep wr s { s with heap := h', toks := tk } := ⟨⟨_, _, rfl⟩, fun b o e q => hk b o q e⟩
      refine fin l _ m ?_ (c.kp.trans k1) (hD.kp k1 hDw) (stab _ _ _ _ h' (fun b o q e => hk b o (fun z => q (.tail _ (.tail _ (.tail _ (W.sub _ z))))) e) hJ)
      obtain ⟨o, es, ep, ho, r⟩ := c.ns
      exact ⟨o, es, ep, hk _ _ hCw ho, r⟩
  exact compStartF (target := target) (iter := iter) (ifs := ifs) rfl loop fun {Q} hq => W.self 0 s₃ Q _ hst3 hq
end
end Mine
end
section
open PySem PySem.W PyProof.Rows PySem.Calls
set_option maxRecDepth 100000
namespace Mine

/-- a source that a comprehension or a for goes over -/
structure Src (prog : Program) (w : World) (A : Around) (s0 s₂ : Shared) (I : Addr) (fp wr : List Addr) (n : Nat) (P : Nat → Value → Prop) (St : Nat → Heap → Prop) : Prop where
  W : Walks prog w A I fp wr n P St
  st : St 0 s₂.heap
  own : ∀ a ∈ wr, s0.heap.get? a = none ∧ ∃ o, s₂.heap.get? a = some o ∧ plainObj o
  fpI : ∀ b ∈ fp, ∃ o, s₂.heap.get? b = some o
  there : ∀ i h, St i h → ∀ a ∈ wr, ∃ o, h.get? a = some o
  small : n < 2 ^ 20

/-- one turn of a comprehension -/
noncomputable def CompStep (prog : Program) (w : World) (A : Around) (G : Heap) (wr fp : List Addr) (s₂ : Shared) (cenv : Env) (PC : (Str → Option Value) → Prop) (D I : Addr) (J : List Value → Heap → Prop) (target elt : Expr) (ifs : List Expr) (v : Value) (l : List Value) (s : Shared) : Prop :=
  wpAny (model prog w) A (letOwnedTupleGo target (.ref I) v) (fun _ s₁ => wpAny (model prog w) A (assign target cenv v) (fun _ s₄ => Tests (model prog w) A ifs cenv (fun b s₅ =>
    if b = true then wpAny (model prog w) A (eval elt cenv) (fun y s₆ => CompFin G wr fp s₂ cenv PC D J s (l ++ [y]) s₆) (fun _ _ => False) s₅
    else CompFin G wr fp s₂ cenv PC D J s l s₅) s₄) (fun _ _ => False) s₁) (fun _ _ => False) s

/-- what is said of a comprehension over a source -/
structure CompSays (prog : Program) (w : World) (A : Around) (G : Heap) (s₂ : Shared) (scope : Scope) (cl : List (Str × Addr)) (env : Env) (I : Addr) (fp wr : List Addr) (n : Nat) (P : Nat → Value → Prop) (St : Nat → Heap → Prop)
    (target elt : Expr) (ifs : List Expr) (J : List Addr → Nat → List Value → Heap → Prop) (PC : (Str → Option Value) → Prop) (cm' : Str → Option Value) : Prop where
  cells : CellsIn s₂.heap 0 cl cm'
  owns : ∀ n, (n, NameKind.cell) ∈ scope.names → cm' n = none
  pc : PC cm'
  start : ∀ X h, (∀ b o, s₂.heap.get? b = some o → h.get? b = some o) → J X 0 [] h
  len : ∀ X i l h, J X i l h → l.length ≤ i
  stab : ∀ X i l h h', (∀ b o, b ∉ X → h.get? b = some o → h'.get? b = some o) → J X i l h → J X i l h'
  step : ∀ C D i v l s m cm, i < n → P i v → Cx G wr s₂ (cEnv scope cl C env) m cm [] s → PC cm → St (i + 1) s.heap → (∀ x ∈ C :: D :: env.locals :: fp, ∃ o, s.heap.get? x = some o) → C ∉ fp → D ∉ fp → C ≠ D → (∀ x, C ≤ x → s₂.heap.get? x = none) → PL s.heap D l → J (C :: D :: env.locals :: fp) i l s.heap →
    CompStep prog w A G wr fp s₂ (cEnv scope cl C env) PC D I (J (C :: D :: env.locals :: fp) (i + 1)) target elt ifs v l s

section
variable {w : World} {prog : Program} {mg mb : Str → Option Value} {G : Heap} {A : Around} {E : Value → Shared → Prop} {S : List Addr} {s0 s : Shared} {env : Env} {m cm : Str → Option Value}

theorem obj_plain {h : Heap} {a : Addr} {l : List Value} (hl : PL h a l) : ∃ o, (h.get? a = some o ∧ plainObj o) ∧ ∀ h' : Heap, h'.get? a = some o → PL h' a l := by
  obtain ⟨n, ho⟩ := hl
  exact ⟨_, ⟨ho, listO_plain _ _⟩, fun h' e => ⟨n, e⟩⟩

inductive WAskE (prog : Program) (w : World) (A : Around) (G : Heap) (S : List Addr) (s0 : Shared) (env : Env) (cm : Str → Option Value) (scope : Scope) (cl : List (Str × Addr)) (target elt : Expr) (ifs : List Expr) (Q : Value → Shared → Prop) (it : Value) (s₂ : Shared) : Prop
  | mk (m : Str → Option Value) (I : Addr) (fp wr : List Addr) (n : Nat) (P : Nat → Value → Prop) (St : Nat → Heap → Prop) (J : List Addr → Nat → List Value → Heap → Prop) (PC : (Str → Option Value) → Prop) (cm' : Str → Option Value) (hit : it = .ref I) (c : Cx G S s0 env m cm [] s₂)
    (src : Src prog w A s0 s₂ I fp wr n P St) (says : CompSays prog w A G s₂ scope cl env I fp wr n P St target elt ifs J PC cm')
    (k : ∀ D X l s'', Cx G S s0 env m cm [] s'' → PL s''.heap D l → s₂.heap.get? D = none → Keep wr s₂ s'' → J X n l s''.heap → D ∈ X → Q (.ref D) s'')
inductive WAskA (prog : Program) (w : World) (A : Around) (G : Heap) (S : List Addr) (s0 : Shared) (env : Env) (cm : Str → Option Value) (scope : Scope) (cl : List (Str × Addr)) (target elt : Expr) (ifs : List Expr) (y : Str) (Q : Flow → Shared → Prop) (it : Value) (s₂ : Shared) : Prop
  | mk (m : Str → Option Value) (I : Addr) (fp wr : List Addr) (n : Nat) (P : Nat → Value → Prop) (St : Nat → Heap → Prop) (J : List Addr → Nat → List Value → Heap → Prop) (PC : (Str → Option Value) → Prop) (cm' : Str → Option Value) (hit : it = .ref I) (c : Cx G S s0 env m cm [] s₂)
    (src : Src prog w A s0 s₂ I fp wr n P St) (says : CompSays prog w A G s₂ scope cl env I fp wr n P St target elt ifs J PC cm')
    (k : ∀ D X l s'', Cx G S s0 env (upd m y (.ref D)) cm [] s'' → PL s''.heap D l → s₂.heap.get? D = none → Keep (env.locals :: wr) s₂ s'' → J X n l s''.heap → D ∈ X → Q .next s'')

theorem compEW {elt target iter : Expr} {ifs : List Expr} {scope : Scope} {pos : Pos} {cl : List (Str × Addr)} {Q : Value → Shared → Prop}
    (hclos : closureFor scope env = pure cl) (hkind : scope.kind = .function) (hnames : ∀ y ∈ scope.names, y.2 = .local → scope.names.lookup y.1 = some .local)
    (h : wpAny (model prog w) A (eval iter env) (ItQ (model prog w) A E (WAskE prog w A G S s0 env cm scope cl target elt ifs Q)) E s)
    (hs : ∀ x, foldedSetIterable iter env x = pure x := by intro _; rfl) :
    wpAny (model prog w) A (eval (.ListComp elt [⟨target, iter, ifs, 0⟩] scope pos) env) Q E s := by
  refine compE (G := G) (S := S) (s0 := s0) (cm := cm) hclos hkind hnames (wpAny_mono h (fun xv s₁ h₁ => wpAny_mono h₁ (fun it s₂ h₂ => ?_) fun _ _ e => e) fun _ _ e => e) hs
  obtain ⟨m, I, fp, wr, n, P, St, J, PC, cm', rfl, c, src, says, fin⟩ := h₂
  have hLw : env.locals ∉ wr := fun q => by
    obtain ⟨_, o, ho, hp⟩ := src.own _ q
    obtain ⟨oL, es, ep, hL, hd, _⟩ := c.ns
    rw [hL] at ho; cases ho
    exact hp.1 _ _ hd
  refine ⟨m, [], wr, cm', c, src.own, says.cells, says.owns, fun D C s₃ ci => ?_⟩
  refine compWalk src.W ci src.st src.fpI src.there src.small env.locals (by obtain ⟨oL, es, ep, hL, _⟩ := c.ns; exact ⟨oL, hL⟩) hLw J PC says.pc (says.start _ _ fun b o e => ci.kp.keep b o e (fun q => nomatch q)) says.len says.stab (fun i v l s m cm => says.step C D i v l s m cm) fun l s' m' hn hk hD hJ => ?_
  obtain ⟨o, ho, hh⟩ := obj_plain hD
  refine ⟨m', [(D, o)], hn, hk, fun p hp => by rw [List.mem_singleton.mp hp]; exact ho, fun s'' c'' k'' sb => ?_⟩
  refine fin D _ l s'' (c''.sub fun _ q => nomatch q) (hh _ (c''.nw _ (.head _)).1) ci.newD k'' (says.stab _ _ _ _ _ (fun b o q e => sameBut_keep sb (fun z => q (by rw [z]; exact .head _)) e) hJ) (.tail _ (.head _))

theorem compAW {elt target iter : Expr} {ifs : List Expr} {scope : Scope} {pos spos py : Pos} {y : Str} {cl : List (Str × Addr)} {Q : Flow → Shared → Prop}
    (hsw : swapsWith (.ListComp elt [⟨target, iter, ifs, 0⟩] scope pos) (some (.Name y py)) spos.line env = pure true)
    (hclos : closureFor scope env = pure cl) (hkind : scope.kind = .function) (hnames : ∀ y ∈ scope.names, y.2 = .local → scope.names.lookup y.1 = some .local)
    (h : wpAny (model prog w) A (eval iter env) (ItQ (model prog w) A E (WAskA prog w A G S s0 env cm scope cl target elt ifs y Q)) E s)
    (hs : ∀ x, foldedSetIterable iter env x = pure x := by intro _; rfl) (hy : env.kindOf y = some .local := by rfl)
    (hp : (env.scope.kind == .class || (env.scope.kind == .module && env.locals != env.globals)) = false := by rfl) :
    wpAny (model prog w) A (exec (.Assign [.Name y py] (.ListComp elt [⟨target, iter, ifs, 0⟩] scope pos) spos) env) Q E s := by
  refine compA (G := G) (S := S) (s0 := s0) (cm := cm) hsw hclos hkind hnames (wpAny_mono h (fun xv s₁ h₁ => wpAny_mono h₁ (fun it s₂ h₂ => ?_) fun _ _ e => e) fun _ _ e => e) hs hy hp
  obtain ⟨m, I, fp, wr, n, P, St, J, PC, cm', rfl, c, src, says, fin⟩ := h₂
  have hLw : env.locals ∉ wr := fun q => by
    obtain ⟨_, o, ho, hp⟩ := src.own _ q
    obtain ⟨oL, es, ep, hL, hd, _⟩ := c.ns
    rw [hL] at ho; cases ho
    exact hp.1 _ _ hd
  refine ⟨m, [], wr, cm', c, src.own, says.cells, says.owns, fun D C s₃ ci => ?_⟩
  refine compWalk src.W ci src.st src.fpI src.there src.small env.locals (by obtain ⟨oL, es, ep, hL, _⟩ := c.ns; exact ⟨oL, hL⟩) hLw J PC says.pc (says.start _ _ fun b o e => ci.kp.keep b o e (fun q => nomatch q)) says.len says.stab (fun i v l s m cm => says.step C D i v l s m cm) fun l s' m' hn hk hD hJ => ?_
  obtain ⟨o, ho, hh⟩ := obj_plain hD
  refine ⟨m', [(D, o)], hn, hk, fun p hp => by rw [List.mem_singleton.mp hp]; exact ho, fun s'' c'' k'' sb => ?_⟩
  refine fin D _ l s'' (c''.sub fun _ q => nomatch q) (hh _ (c''.nw _ (.head _)).1) ci.newD k'' (says.stab _ _ _ _ _ (fun b o q e => sb.keep b o e fun z => ?_) hJ) (.tail _ (.head _))
  rcases List.mem_cons.mp z with rfl | z
  · exact q (.tail _ (.tail _ (.head _)))
  · rw [List.mem_singleton.mp z] at q; exact q (.head _)
end
end Mine
end
section
open PySem PySem.W PyProof.Rows PySem.Calls
set_option maxRecDepth 100000
namespace Mine

/-- pairs of ints, in the order of tuples -/
noncomputable def plt (a b : Int × Int) : Bool := decide (a.1 < b.1) || (decide (a.1 = b.1) && decide (a.2 < b.2))

/-- v is a tuple that opens with the two ints k -/
noncomputable def TupI (h : Heap) (v : Value) (k : Int × Int) : Prop := ∃ a t0 t1 rest, v = .ref a ∧ IsTup h a (List.toArray (.int k.1 t0 :: .int k.2 t1 :: rest))

section
variable {w : World} {prog : Program} {A : Around} {E : Value → Shared → Prop} {s : Shared}

theorem tup_lt {v u : Value} {k l : Int × Int} {Q : Value → Shared → Prop} (hv : TupI s.heap v k) (hu : TupI s.heap u l) (hne : k ≠ l) (hA : A.units + 1 < cLine) (h : Q (.bool (plt k l)) s) :
    wpAny (model prog w) A (compareOp .Lt v u) Q E s := by
  obtain ⟨a, t0, t1, ra, rfl, ha⟩ := hv
  obtain ⟨b, u0, u1, rb, rfl, hb⟩ := hu
  show wpAny _ _ (richCompare .Lt (.ref a) (.ref b)) Q E s
  refine wpAny_richCompare_same_room (op := .Lt) (T := "tuple") ha.typeIs hb.typeIs F.slot_tuple_lt
    (wpAny_call_entry F.slot_tuple_lt ha.typeIs F.entry_tuple_lt ?_ (F.args_tuple_lt_2 _ _)) (by lia)
  show wpAny _ _ (isInstance (.ref b) (.type "tuple") >>= _) _ _ s
  refine wpAny_bind (wpAny_isInstance (T := "tuple") (b := true) hb.typeIs F.sub_tuple_tuple ?_)
  show wpAny _ _ (Builtin.Tuple.tupleItemsOf (.ref a) >>= _) _ _ s
  refine wpAny_bind (tupleItemsOf_ ha (wpAny_bind (tupleItemsOf_ hb ?_)))
  show wpAny _ _ (forIn ((Value.int k.1 t0, Value.int l.1 u0) :: (Value.int k.2 t1, Value.int l.2 u1) :: ra.zip rb) _ _ >>= _) _ _ s
  have hu1 : A.in1.units < cLine := by show A.units + 1 < cLine; exact hA
  refine wpAny_bind ?_
  rw [List.forIn_cons]
  refine wpAny_bind ?_
  dsimp only
  refine wpAny_bind (wpAny_eqBool_int ?_)
  by_cases h1 : k.1 = l.1
  · have e1 : (k.1 == l.1) = true := by simpa using h1
    simp only [e1, Bool.not_true, Bool.false_eq_true, if_false]
    refine wpAny_pure ?_
    dsimp only
    rw [List.forIn_cons]
    refine wpAny_bind ?_
    dsimp only
    refine wpAny_bind (wpAny_eqBool_int ?_)
    have h2 : k.2 ≠ l.2 := fun q => hne (Prod.ext h1 q)
    have e2 : (k.2 == l.2) = false := by simpa using h2
    simp only [e2, Bool.not_false, if_true]
    refine wpAny_bind (wpAny_rule ?_)
    refine wpAny_bind (show wpAny _ _ (compareOp .Lt _ _) _ _ _ from wpAny_lt_int ?_)
    refine wpAny_bind (wpAny_pure (wpAny_pure (wpAny_pure (wpAny_pure ⟨_, rfl, (fun q => nomatch q), ?_⟩))))
    have : plt k l = decide (k.2 < l.2) := by simp [plt, h1]
    rw [← this]; exact h
  · have e1 : (k.1 == l.1) = false := by simpa using h1
    simp only [e1, Bool.not_false, if_true]
    refine wpAny_bind (wpAny_rule ?_)
    refine wpAny_bind (show wpAny _ _ (compareOp .Lt _ _) _ _ _ from wpAny_lt_int ?_)
    refine wpAny_bind (wpAny_pure (wpAny_pure (wpAny_pure (wpAny_pure ⟨_, rfl, (fun q => nomatch q), ?_⟩))))
    have : plt k l = decide (k.1 < l.1) := by simp [plt, h1]
    rw [← this]; exact h
end
end Mine
end
section
namespace Mine

/-! ## The heap's moves, plain -/
section
variable {α : Type}

noncomputable def siftdown (lt : α → α → Bool) (x : α) (start : Nat) (l : List α) (pos : Nat) : List α :=
  if h : start < pos then
    match l[(pos - 1) / 2]? with
    | some p => if lt x p then siftdown lt x start (l.set pos p) ((pos - 1) / 2) else l.set pos x
    | none => l.set pos x
  else l.set pos x
termination_by pos
decreasing_by omega

/-- which child goes up -/
noncomputable def pick (lt : α → α → Bool) (l : List α) (c : Nat) : Nat :=
  match l[c]?, l[c + 1]? with
  | some a, some b => if lt a b then c else c + 1
  | _, _ => c

theorem pick_cases (lt : α → α → Bool) (l : List α) (c : Nat) : pick lt l c = c ∨ (pick lt l c = c + 1 ∧ c + 1 < l.length) := by
  unfold pick
  split
  · rename_i a b h1 h2
    split
    · exact .inl rfl
    · exact .inr ⟨rfl, (List.getElem?_eq_some_iff.mp h2).1⟩
  · exact .inl rfl

/-- the hole goes down to a leaf -/
noncomputable def sink (lt : α → α → Bool) (l : List α) (pos : Nat) : List α × Nat :=
  if h : 2 * pos + 1 < l.length then
    match l[pick lt l (2 * pos + 1)]? with
    | some y => sink lt (l.set pos y) (pick lt l (2 * pos + 1))
    | none => (l, pos)
  else (l, pos)
termination_by l.length - pos
decreasing_by
  rcases pick_cases lt l (2 * pos + 1) with e | e <;> simp only [List.length_set] <;> omega

noncomputable def siftup (lt : α → α → Bool) (l : List α) (pos : Nat) : List α :=
  match l[pos]? with
  | some x => siftdown lt x pos (((sink lt l pos).1).set (sink lt l pos).2 x) (sink lt l pos).2
  | none => l
end
end Mine
end
section
namespace Mine

section
variable {α : Type} {lt : α → α → Bool}

theorem swap_perm {l : List α} {i j : Nat} {x y : α} (hi : i < l.length) (hj : l[j]? = some y) (hij : i ≠ j) : ((l.set i y).set j x).Perm (l.set i x) := by
  obtain ⟨hj', ey⟩ := List.getElem?_eq_some_iff.mp hj
  have h := List.set_set_perm (as := l.set i x) (i := i) (j := j) (by simpa using hi) (by simpa using hj')
  rw [List.getElem_set_self, List.getElem_set_ne hij, List.set_set, ey] at h
  exact h

theorem siftdown_perm (x : α) (start : Nat) : ∀ (pos : Nat) (l : List α), pos < l.length → (siftdown lt x start l pos).Perm (l.set pos x) := by
  intro pos
  induction pos using Nat.strongRecOn with
  | ind pos ih =>
    intro l hp
    rw [siftdown]
    split
    · rename_i h
      cases hq : l[(pos - 1) / 2]? with
      | none => exact .refl _
      | some p =>
        dsimp only
        split
        · have h2 := ih ((pos - 1) / 2) (by lia) (l.set pos p) (by rw [List.length_set]; lia)
          exact h2.trans (swap_perm hp hq (by lia))
        · exact .refl _
    · exact .refl _

theorem pick_lt (l : List α) (c : Nat) (hc : c < l.length) : pick lt l c < l.length := by
  rcases pick_cases lt l c with e | e <;> lia

theorem sink_facts (x : α) : ∀ (k pos : Nat) (l : List α), l.length - pos = k → pos < l.length → ((sink lt l pos).1.set (sink lt l pos).2 x).Perm (l.set pos x) ∧ (sink lt l pos).1.length = l.length ∧ (sink lt l pos).2 < l.length := by
  intro k
  induction k using Nat.strongRecOn with
  | ind k ih =>
    intro pos l hk hp
    rw [sink]
    split
    · rename_i h
      have hc := pick_lt (lt := lt) l (2 * pos + 1) h
      obtain ⟨y, hy⟩ : ∃ y, l[pick lt l (2 * pos + 1)]? = some y := ⟨_, List.getElem?_eq_getElem hc⟩
      have hne : pos ≠ pick lt l (2 * pos + 1) := by rcases pick_cases lt l (2 * pos + 1) with e | e <;> lia
      rw [hy]
      dsimp only
      have hgt : pos < pick lt l (2 * pos + 1) := by rcases pick_cases lt l (2 * pos + 1) with e | e <;> lia
      obtain ⟨h1, h2, h3⟩ := ih (l.length - pick lt l (2 * pos + 1)) (by lia) (pick lt l (2 * pos + 1)) (l.set pos y) (by rw [List.length_set]) (by rw [List.length_set]; exact hc)
      rw [List.length_set] at h2 h3
      exact ⟨h1.trans (swap_perm hp hy hne), h2, h3⟩
    · exact ⟨.refl _, rfl, hp⟩

theorem set_self {l : List α} {i : Nat} {x : α} (h : l[i]? = some x) : l.set i x = l := by
  rw [← (List.getElem?_eq_some_iff.mp h).2]; exact List.set_getElem_self _

theorem siftup_perm (l : List α) (pos : Nat) : (siftup lt l pos).Perm l := by
  unfold siftup
  cases hx : l[pos]? with
  | none => exact .refl _
  | some x =>
    dsimp only
    have hp := (List.getElem?_eq_some_iff.mp hx).1
    obtain ⟨h1, h2, h3⟩ := sink_facts (lt := lt) x _ pos l rfl hp
    have h4 := siftdown_perm (lt := lt) x pos (sink lt l pos).2 ((sink lt l pos).1.set (sink lt l pos).2 x) (by rw [List.length_set]; lia)
    rw [List.set_set] at h4
    rw [set_self hx] at h1
    exact h4.trans h1

/-- a strict order whose «not less» is transitive -/
structure Ord (lt : α → α → Bool) : Prop where
  asymm : ∀ a b, lt a b = true → lt b a = false
  trans : ∀ a b c, lt b a = false → lt c b = false → lt c a = false

/-- each node at k or later is not above its children -/
noncomputable def Hp (lt : α → α → Bool) (l : List α) (k : Nat) : Prop := ∀ i a b, 0 < i → k ≤ (i - 1) / 2 → l[(i - 1) / 2]? = some a → l[i]? = some b → lt b a = false

inductive Desc (s : Nat) : Nat → Prop
  | refl : Desc s s
  | child {p : Nat} : 0 < p → Desc s ((p - 1) / 2) → Desc s p

theorem Desc.le {s p : Nat} (h : Desc s p) : s ≤ p := by
  induction h with
  | refl => exact Nat.le_refl _
  | child hp _ ih => lia
theorem Desc.up {s p : Nat} (h : Desc s p) (hne : p ≠ s) : 0 < p ∧ Desc s ((p - 1) / 2) := by
  cases h with
  | refl => exact absurd rfl hne
  | child h1 h2 => exact ⟨h1, h2⟩

/-- all edges but those at the hole p; above the hole and below it -/
structure Hole (lt : α → α → Bool) (l : List α) (s p : Nat) : Prop where
  edges : ∀ i a b, 0 < i → s ≤ (i - 1) / 2 → i ≠ p → (i - 1) / 2 ≠ p → l[(i - 1) / 2]? = some a → l[i]? = some b → lt b a = false
  over : p ≠ s → ∀ c a b, 0 < c → (c - 1) / 2 = p → l[(p - 1) / 2]? = some a → l[c]? = some b → lt b a = false
  desc : Desc s p

theorem get_set_ne {l : List α} {i j : Nat} {x : α} (h : i ≠ j) : (l.set i x)[j]? = l[j]? := List.getElem?_set_ne h

theorem sink_hole (O : Ord lt) {s : Nat} : ∀ (k p : Nat) (l : List α), l.length - p = k → p < l.length → Hole lt l s p → Hole lt (sink lt l p).1 s (sink lt l p).2 ∧ l.length ≤ 2 * (sink lt l p).2 + 1 := by
  intro k
  induction k using Nat.strongRecOn with
  | ind k ih =>
    intro p l hk hp H
    rw [sink]
    split
    · rename_i h
      have hc := pick_lt (lt := lt) l (2 * p + 1) h
      have hcs : pick lt l (2 * p + 1) = 2 * p + 1 ∨ pick lt l (2 * p + 1) = 2 * p + 1 + 1 := by rcases pick_cases lt l (2 * p + 1) with e | e <;> lia
      obtain ⟨y, hy⟩ : ∃ y, l[pick lt l (2 * p + 1)]? = some y := ⟨_, List.getElem?_eq_getElem hc⟩
      -- the chosen child is not above the other
      have hmin : ∀ i b, 0 < i → (i - 1) / 2 = p → i ≠ pick lt l (2 * p + 1) → l[i]? = some b → lt b y = false := by
        intro i b hi hpi hne hb
        have hi' : i = 2 * p + 1 ∨ i = 2 * p + 1 + 1 := by lia
        unfold pick at hy hne
        have hib := (List.getElem?_eq_some_iff.mp hb).1
        obtain ⟨a1, h1⟩ : ∃ a1, l[2 * p + 1]? = some a1 := ⟨_, List.getElem?_eq_getElem h⟩
        rcases hi' with rfl | rfl
        · cases h2 : l[2 * p + 1 + 1]? with
          | none => rw [h1, h2] at hne; exact absurd rfl hne
          | some a2 =>
            rw [h1, h2] at hy hne
            dsimp only at hy hne
            rw [hb] at h1; cases h1
            cases hl : lt b a2 with
            | true => rw [hl] at hne; exact absurd rfl hne
            | false => rw [hl] at hy; simp only [Bool.false_eq_true, if_false] at hy; rw [h2] at hy; cases hy; exact hl
        · rw [h1, hb] at hy hne
          dsimp only at hy hne
          cases hl : lt a1 b with
          | false => rw [hl] at hne; exact absurd rfl hne
          | true => rw [hl] at hy; simp only [if_true] at hy; rw [h1] at hy; cases hy; exact O.asymm _ _ hl
      generalize pick lt l (2 * p + 1) = c at hc hcs hy hmin ⊢
      rw [hy]
      dsimp only
      have hcp : (c - 1) / 2 = p := by lia
      have H' : Hole lt (l.set p y) s c := by
        refine ⟨fun i a b hi hs hic hpc ha hb => ?_, fun _ d a b hd hdc ha hb => ?_, .child (by lia) (hcp ▸ H.desc)⟩
        · by_cases hip : i = p
          · subst hip
            have hne : i ≠ s := by lia
            rw [List.getElem?_set_self hp] at hb; cases hb
            rw [get_set_ne (by lia)] at ha
            exact H.over hne c a y (by lia) hcp ha hy
          · rw [get_set_ne (Ne.symm hip)] at hb
            by_cases hpp : (i - 1) / 2 = p
            · rw [hpp, List.getElem?_set_self hp] at ha; cases ha
              exact hmin i b hi hpp hic hb
            · rw [get_set_ne (Ne.symm hpp)] at ha
              exact H.edges i a b hi hs hip hpp ha hb
        · rw [hcp, List.getElem?_set_self hp] at ha; cases ha
          rw [get_set_ne (by lia)] at hb
          have hsp := H.desc.le
          exact H.edges d y b hd (by lia) (by lia) (by lia) (hdc ▸ hy) hb
      have := ih (l.length - c) (by lia) c (l.set p y) (by rw [List.length_set]) (by rw [List.length_set]; exact hc) H'
      rw [List.length_set] at this
      exact this
    · exact ⟨H, by show l.length ≤ 2 * p + 1; lia⟩

theorem siftdown_heap (O : Ord lt) (x : α) {s : Nat} : ∀ (p : Nat) (l : List α), p < l.length → Hole lt l s p → (∀ c b, 0 < c → (c - 1) / 2 = p → l[c]? = some b → lt b x = false) → Hp lt (siftdown lt x s l p) s := by
  intro p
  induction p using Nat.strongRecOn with
  | ind p ih =>
    intro l hp H D
    have fin : (p ≠ s → ∀ a, l[(p - 1) / 2]? = some a → lt x a = false) → Hp lt (l.set p x) s := by
      intro hpar i a b hi hs ha hb
      by_cases hip : i = p
      · subst hip
        rw [List.getElem?_set_self hp] at hb; cases hb
        rw [get_set_ne (by lia)] at ha
        exact hpar (by lia) a ha
      · rw [get_set_ne (Ne.symm hip)] at hb
        by_cases hpp : (i - 1) / 2 = p
        · rw [hpp, List.getElem?_set_self hp] at ha; cases ha
          exact D i b hi hpp hb
        · rw [get_set_ne (Ne.symm hpp)] at ha
          exact H.edges i a b hi hs hip hpp ha hb
    rw [siftdown]
    split
    · rename_i h
      have hne : p ≠ s := by lia
      obtain ⟨hp0, hd⟩ := H.desc.up hne
      obtain ⟨v, hv⟩ : ∃ v, l[(p - 1) / 2]? = some v := ⟨_, List.getElem?_eq_getElem (by lia)⟩
      rw [hv]
      dsimp only
      have hsq := hd.le
      cases hl : lt x v with
      | false =>
        rw [if_neg Bool.false_ne_true]
        exact fin fun _ a ha => by rw [hv] at ha; cases ha; exact hl
      | true =>
        rw [if_pos rfl]
        generalize hq : (p - 1) / 2 = q at *
        have hqp : q < p := by lia
        refine ih q hqp (l.set p v) (by rw [List.length_set]; lia) ⟨fun i a b hi hs hiq hpq ha hb => ?_, fun hqs c a b hc hcq ha hb => ?_, hd⟩ fun c b hc hcq hb => ?_
        · by_cases hip : i = p
          · subst hip; exact absurd hq hpq
          · rw [get_set_ne (Ne.symm hip)] at hb
            by_cases hpp : (i - 1) / 2 = p
            · rw [hpp, List.getElem?_set_self hp] at ha; cases ha
              exact H.over hne i v b hi hpp (by rw [hq]; exact hv) hb
            · rw [get_set_ne (Ne.symm hpp)] at ha
              exact H.edges i a b hi hs hip hpp ha hb
        · obtain ⟨hq0, hdq⟩ := hd.up hqs
          have hsr := hdq.le
          rw [get_set_ne (by lia)] at ha
          have e1 : lt v a = false := H.edges q a v hq0 hsr (by lia) (by lia) ha hv
          by_cases hcp : c = p
          · subst hcp; rw [List.getElem?_set_self hp] at hb; cases hb; exact e1
          · rw [get_set_ne (Ne.symm hcp)] at hb
            have e2 : lt b v = false := H.edges c v b hc (by lia) hcp (by lia) (by rw [hcq]; exact hv) hb
            exact O.trans _ _ _ e1 e2
        · have e0 : lt v x = false := O.asymm _ _ hl
          by_cases hcp : c = p
          · subst hcp; rw [List.getElem?_set_self hp] at hb; cases hb; exact e0
          · rw [get_set_ne (Ne.symm hcp)] at hb
            have e2 : lt b v = false := H.edges c v b hc (by lia) hcp (by lia) (by rw [hcq]; exact hv) hb
            exact O.trans _ _ _ e0 e2
    · rename_i h
      have := H.desc.le
      exact fin fun hne => absurd (by lia) hne

theorem Hole.set {l : List α} {s p : Nat} {x : α} (H : Hole lt l s p) : Hole lt (l.set p x) s p := by
  refine ⟨fun i a b hi hs hip hpp ha hb => ?_, fun hne c a b hc hcp ha hb => ?_, H.desc⟩
  · rw [get_set_ne (Ne.symm hpp)] at ha
    rw [get_set_ne (Ne.symm hip)] at hb
    exact H.edges i a b hi hs hip hpp ha hb
  · obtain ⟨h0, _⟩ := H.desc.up hne
    rw [get_set_ne (by lia)] at ha
    rw [get_set_ne (by lia)] at hb
    exact H.over hne c a b hc hcp ha hb

theorem siftup_heap (O : Ord lt) {l : List α} {s : Nat} (hs : s < l.length) (H : Hp lt l (s + 1)) : Hp lt (siftup lt l s) s := by
  unfold siftup
  obtain ⟨x, hx⟩ : ∃ x, l[s]? = some x := ⟨_, List.getElem?_eq_getElem hs⟩
  rw [hx]
  dsimp only
  have H0 : Hole lt l s s := ⟨fun i a b hi hsi hne hpp ha hb => H i a b hi (by lia) ha hb, fun h => absurd rfl h, .refl⟩
  obtain ⟨h1, h2⟩ := sink_hole O _ s l rfl hs H0
  obtain ⟨_, h3, h4⟩ := sink_facts (lt := lt) x _ s l rfl hs
  refine siftdown_heap O x _ _ (by rw [List.length_set]; lia) h1.set fun c b hc hcp hb => ?_
  have := (List.getElem?_eq_some_iff.mp hb).1
  rw [List.length_set] at this
  lia

/-- from node k - 1 down to the root -/
noncomputable def hDown (lt : α → α → Bool) : Nat → List α → List α
  | 0, l => l
  | k + 1, l => hDown lt k (siftup lt l k)

theorem hDown_perm : ∀ (k : Nat) (l : List α), (hDown lt k l).Perm l
  | 0, _ => .refl _
  | k + 1, l => (hDown_perm k _).trans (siftup_perm l k)
theorem hDown_heap (O : Ord lt) : ∀ (k : Nat) (l : List α), k ≤ l.length → Hp lt l k → Hp lt (hDown lt k l) 0
  | 0, _, _, h => h
  | k + 1, l, hk, h => hDown_heap O k _ (by rw [(siftup_perm l k).length_eq]; lia) (siftup_heap O (by lia) h)

noncomputable def heapifyP (lt : α → α → Bool) (l : List α) : List α := hDown lt (l.length / 2) l
theorem heapifyP_perm (l : List α) : (heapifyP lt l).Perm l := hDown_perm _ _
theorem heapifyP_heap (O : Ord lt) (l : List α) : Hp lt (heapifyP lt l) 0 :=
  hDown_heap O _ _ (by lia) fun i a b hi hk ha hb => by
    have := (List.getElem?_eq_some_iff.mp hb).1
    lia

theorem Hp.root (O : Ord lt) {l : List α} (H : Hp lt l 0) {a : α} (ha : l[0]? = some a) : ∀ (i : Nat) (b : α), l[i]? = some b → lt b a = false := by
  intro i
  induction i using Nat.strongRecOn with
  | ind i ih =>
    intro b hb
    by_cases h0 : i = 0
    · subst h0
      rw [ha] at hb; cases hb
      cases h : lt a a with
      | false => rfl
      | true => have := O.asymm _ _ h; rw [h] at this; exact this
    · have hi := (List.getElem?_eq_some_iff.mp hb).1
      obtain ⟨p, hp⟩ : ∃ p, l[(i - 1) / 2]? = some p := ⟨_, List.getElem?_eq_getElem (by lia)⟩
      exact O.trans _ _ _ (ih ((i - 1) / 2) (by lia) p hp) (H i p b (by lia) (Nat.zero_le _) hp hb)

/-- the root is replaced -/
noncomputable def replaceP (lt : α → α → Bool) (l : List α) (x : α) : List α := siftup lt (l.set 0 x) 0
theorem replaceP_perm (l : List α) (x : α) : (replaceP lt l x).Perm (l.set 0 x) := siftup_perm _ _
theorem replaceP_heap (O : Ord lt) {l : List α} {x : α} (hl : 0 < l.length) (H : Hp lt l 0) : Hp lt (replaceP lt l x) 0 :=
  siftup_heap O (by rw [List.length_set]; exact hl) fun i a b hi hk ha hb => by
    rw [get_set_ne (by lia)] at ha
    rw [get_set_ne (by lia)] at hb
    exact H i a b hi (Nat.zero_le _) ha hb

/-- what is left behind a pop -/
noncomputable def popRest (lt : α → α → Bool) (l : List α) : List α :=
  match l.getLast?, l.dropLast with
  | some x, a :: r => replaceP lt (a :: r) x
  | _, _ => []

theorem popRest_facts (O : Ord lt) {l : List α} (H : Hp lt l 0) {a : α} (ha : l[0]? = some a) : l.Perm (a :: popRest lt l) ∧ Hp lt (popRest lt l) 0 := by
  have hne : l ≠ [] := fun e => by rw [e] at ha; cases ha
  obtain ⟨x, hx⟩ : ∃ x, l.getLast? = some x := ⟨_, List.getLast?_eq_some_getLast hne⟩
  have hdl : l.dropLast ++ [x] = l := by
    rw [List.getLast?_eq_some_getLast hne] at hx; cases hx
    exact List.dropLast_concat_getLast hne
  unfold popRest
  rw [hx]
  cases hd : l.dropLast with
  | nil =>
    rw [hd] at hdl
    rw [← hdl] at ha ⊢
    cases ha
    exact ⟨.refl _, fun i a b _ _ h _ => by simp at h⟩
  | cons b r =>
    dsimp only
    have e : l = b :: (r ++ [x]) := by rw [← hdl, hd]; rfl
    have hab : a = b := by rw [e] at ha; cases ha; rfl
    subst hab
    have H' : Hp lt (a :: r) 0 := fun i a' b' hi hk h1 h2 => by
      have hl := (List.getElem?_eq_some_iff.mp h2).1
      refine H i a' b' hi hk ?_ ?_
      · rw [e, ← List.cons_append, List.getElem?_append_left (by lia)]; exact h1
      · rw [e, ← List.cons_append, List.getElem?_append_left hl]; exact h2
    refine ⟨?_, replaceP_heap O (by simp) H'⟩
    have hp := replaceP_perm (lt := lt) (a :: r) x
    rw [e]
    exact ((List.perm_append_singleton x r).trans hp.symm).cons a
end
end Mine
end
section
open PySem PySem.W PyProof.Rows PySem.Calls
set_option maxRecDepth 100000
namespace Mine

section
variable {w : World} {prog : Program} {mg mb : Str → Option Value} {G : Heap} {A : Around} {E : Value → Shared → Prop} {S : List Addr} {s0 s : Shared} {env : Env} {m cm : Str → Option Value} {news : List (Addr × Obj)}

/-- an item of a list at a place in it -/
theorem itemL {value slice : Expr} {a : Addr} {l : List Value} {k : Int} {j : Nat} {x : Value} {t : Tok} {Q : Value → Shared → Prop} (hl : PL s.heap a l) (hk : k = j) (hx : l[j]? = some x) (hz : l.length < 2 ^ 20) (h : Q x s)
    (hs : subscripted slice false (.ref a) (.int k t) = operate [.ref a, .int k t] (getItem (.ref a) (.int k t)) := by rfl) :
    wpAny (model prog w) A (subscriptTail value slice (.ref a) (.int k t)) Q E s := by
  subst hk
  have hj : j < l.length := (List.getElem?_eq_some_iff.mp hx).1
  exact tail_any hl.isList.typeIs slot_list_getitem.lookup (wpAny_getItem_list hl.isList (by lia) (by lia) (by simpa using hx) h) hs

theorem TupI.keep {h h' : Heap} {v : Value} {k : Int × Int} (x : TupI h v k) (hk : ∀ b o, h.get? b = some o → o.cls = .type "tuple" → h'.get? b = some o) : TupI h' v k := by
  obtain ⟨a, t0, t1, r, e, o, ho, hc, n⟩ := x
  exact ⟨a, t0, t1, r, e, o, hk a o ho hc, hc, n⟩

theorem isList_cls {h : Heap} {a : Addr} {its : Array Value} (hl : h.IsList a its) {o : Obj} (ho : h.get? a = some o) : o.cls = .type "list" := by
  obtain ⟨o', ho', hc, _⟩ := hl
  rw [ho] at ho'; cases ho'; exact hc

theorem TupI.keepL {S : List Addr} {s s' : Shared} {v : Value} {k : Int × Int} (x : TupI s.heap v k) (q : Keep S s s') (hS : ∀ a ∈ S, ∃ its, s.heap.IsList a its) : TupI s'.heap v k :=
  x.keep fun b o e hc => q.keep b o e fun hb => by
    obtain ⟨its, hl⟩ := hS b hb
    rw [isList_cls hl e] at hc
    exact absurd hc (by decide)

theorem nodup_ne {α β : Type} {f : α → β} {l : List α} (h : (l.map f).Nodup) {i j : Nat} {a b : α} (ha : l[i]? = some a) (hb : l[j]? = some b) (hij : i ≠ j) : f a ≠ f b := by
  intro e
  have h1 : (l.map f)[i]? = some (f a) := by rw [List.getElem?_map, ha]; rfl
  have h2 : (l.map f)[j]? = some (f a) := by rw [List.getElem?_map, hb, e]; rfl
  have hi := (List.getElem?_eq_some_iff.mp h1).1
  exact hij ((List.getElem?_inj hi h).mp (h1.trans h2.symm))

theorem Cx.listL (c : Cx G S s0 env m cm news s) {h' : Heap} {a : Addr} {l : List Value} (hl : PL s.heap a l) (hs : Heap.SameBut env.locals s.heap h') : PL h' a l := by
  obtain ⟨o, ho, hp⟩ := hl.plain
  exact hl.sb hs (c.neL ho hp)

/-- a state within siftdown -/
inductive SdI (G : Heap) (s0 : Shared) (env : Env) (H : Addr) (lt : Value → Value → Bool) (x : Value) (start pos : Nat) (l : List Value) (n : Nat) (s : Shared) : Prop
  | mk (lc : List Value) (m : Str → Option Value) (t1 : Tok) (t2 : Tok)
    (c : Cx G [H] s0 env m (fun _ => none) [] s)
    (pl : PL s.heap H lc)
    (m1 : m "heap" = some (.ref H))
    (m2 : m "startpos" = some (.int start t1))
    (m3 : m "pos" = some (.int n t2))
    (m4 : m "newitem" = some x)
    (hl : n < lc.length)
    (len : lc.length = l.length)
    (perm : (lc.set n x).Perm l)
    (sd : siftdown lt x start lc n = siftdown lt x start l pos)

theorem siftdown_spec (T : GT w mg mb G) {n : Nat} (r : Room (n + 3) A) (st : Stays G s.heap) {H : Addr} {l : List Value} (hl : PL s.heap H l) (hG : G.get? H = none) {κ : Value → Int × Int}
    (hκ : ∀ v ∈ l, TupI s.heap v (κ v)) (hnd : (l.map κ).Nodup) (hz : l.length < 2 ^ 20) {start pos : Nat} {t1 t2 : Tok} {x : Value} (hx : l[pos]? = some x) {Q : Value → Shared → Prop}
    (k : ∀ s', Keep [H] s s' → PL s'.heap H (siftdown (fun a b => plt (κ a) (κ b)) x start l pos) → Q .none s') :
    wpAny (model prog w) A (call (.ref 84) [.ref H, .int start t1, .int pos t2]) Q E s := by
  refine callFn (S := [H]) (n := n + 3) (binds := [("heap", .ref H), ("startpos", .int start t1), ("pos", .int pos t2)]) T st (fun y hy => by rw [List.mem_singleton.mp hy]; exact hG) (fun y hy => by rw [List.mem_singleton.mp hy]; exact hl.there) r
    (by rfl) (by kernel_rfl!) (.of_eq (by rfl)) (locs (by kernel_rfl!)) (by decide) (fun L s₁ c k0 => ?_)
  obtain ⟨hlt, _⟩ := List.getElem?_eq_some_iff.mp hx
  have hl1 : PL s₁.heap H l := hl.kp k0 (fun q => nomatch q)
  refine seq (Cx.asg (Subscript_ (c.ld rfl (c.ld rfl (itemL hl1 rfl hx hz ⟨_, _, c, fun s₂ c₂ e₂ => ?_⟩)))))
  refine seq (whileF (SdI G s _ H (fun a b => plt (κ a) (κ b)) x start pos l) pos ⟨l, _, t1, t2, c₂, ?_, rfl, rfl, rfl, rfl, hlt, rfl, ?_, rfl⟩ ?_)
  · exact c.listL hl1 e₂
  · rw [show l.set pos x = l by rw [← (List.getElem?_eq_some_iff.mp hx).2]; exact List.set_getElem_self _]
  · rintro J hJ n' s' ⟨lc, m, u1, u2, c, hlc, m1, m2, m3, m4, hn, hlen, hperm, hsd⟩
    have hS : ∀ a ∈ [H], ∃ its, s.heap.IsList a its := fun a ha => by rw [List.mem_singleton.mp ha]; exact ⟨_, hl.isList⟩
    refine wpAny_isTrue_Compare1 (c.ld m3 (c.ld m2 (cGt (wpAny_truthy_bool ?_))))
    by_cases h : start < n'
    · rw [if_pos (decide_eq_true (by lia))]
      obtain ⟨y, hy⟩ : ∃ y, lc[(n' - 1) / 2]? = some y := ⟨_, List.getElem?_eq_getElem (by lia)⟩
      have hpp : (n' - 1) / 2 ≠ n' := by lia
      have hy' : (lc.set n' x)[(n' - 1) / 2]? = some y := by rw [List.getElem?_set_ne (Ne.symm hpp)]; exact hy
      have hx' : (lc.set n' x)[n']? = some x := by rw [List.getElem?_set_self (by lia)]
      have hnd' : ((lc.set n' x).map κ).Nodup := (hperm.map κ).nodup_iff.mpr hnd
      have hmem : y ∈ l := hperm.mem_iff.mp (List.mem_of_getElem? hy')
      have hmx : x ∈ l := List.mem_of_getElem? hx
      refine seq (Cx.asg (wpAny_BinOp (wpAny_BinOp (c.ld m3 (eInt fun _ _ => iSub fun _ _ => eInt fun _ _ => iHalf (by lia) fun t9 _ => ⟨_, _, c.tk, fun s₁ c₁ e₁ => ?_⟩)))))
      have hl1 := c.listL hlc e₁
      refine seq (Cx.asg (Subscript_ (c₁.ld m1 (c₁.ld rfl (itemL hl1 (by lia) hy (by lia) ⟨_, _, c₁, fun s₂ c₂ e₂ => ?_⟩)))))
      have hl2 := c₁.listL hl1 e₂
      refine seq (wpAny_If (wpAny_isTrue_Compare1 (c₂.ld m4 (c₂.ld rfl (tup_lt ((hκ _ hmx).keepL c₂.kp hS) ((hκ _ hmem).keepL c₂.kp hS) (nodup_ne hnd' hx' hy' (Ne.symm hpp)) (by have := r.u; show A.units + 3 + 1 < _; lia) (wpAny_truthy_bool ?_))))))
      cases hlt' : plt (κ x) (κ y) with
      | true =>
        rw [if_pos rfl]
        refine seq (wpAny_Assign_Subscript (c₂.ld rfl (c₂.ld m1 (c₂.ld m3 (c₂.setL hl2 (.inl (.head _)) rfl hn (by lia) (fun _ q => nomatch q) fun s₃ c₃ hl3 e₃ => ?_)))))
        refine seq (Cx.asg (c₃.ld rfl ⟨_, _, c₃, fun s₄ c₄ e₄ => ?_⟩))
        refine seq (wpAny_Continue ⟨(n' - 1) / 2, by lia, hJ _ _ ⟨_, _, u1, t9, c₄, c₃.listL hl3 e₄, m1, m2, ?_, m4, by rw [List.length_set]; lia, by rw [List.length_set]; lia, (swap_perm hn hy (Ne.symm hpp)).trans hperm, ?_⟩⟩)
        · show some (Value.int (((n' : Int) - 1) / 2) _) = _
          rw [show ((n' : Int) - 1) / 2 = ((n' - 1) / 2 : Nat) by lia]
        · rw [← hsd]
          conv => rhs; rw [siftdown]
          rw [dif_pos h, hy]
          simp only [hlt', if_true]
      | false =>
        rw [if_neg Bool.false_ne_true]
        refine wpAny_execs_nil (seq (wpAny_Break ?_))
        refine seq (wpAny_Assign_Subscript (c₂.ld m4 (c₂.ld m1 (c₂.ld m3 (c₂.setL hl2 (.inl (.head _)) rfl hn (by lia) (fun _ q => nomatch q) fun s₃ c₃ hl3 e₃ => wpAny_execs_nil (k _ c₃.kp ?_))))))
        rw [← hsd, siftdown, dif_pos h, hy]
        simp only [hlt', Bool.false_eq_true, if_false]
        exact hl3
    · rw [if_neg (by simpa using h)]
      refine seq (wpAny_Assign_Subscript (c.ld m4 (c.ld m1 (c.ld m3 (c.setL hlc (.inl (.head _)) rfl hn (by lia) (fun _ q => nomatch q) fun s₃ c₃ hl3 e₃ => wpAny_execs_nil (k _ c₃.kp ?_))))))
      rw [← hsd, siftdown, dif_neg h]
      exact hl3
end
end Mine
end
section
open PySem PySem.W PyProof.Rows PySem.Calls
set_option maxRecDepth 100000
namespace Mine

theorem mgA {w : World} {mg mb : Str → Option Value} {G : Heap} (T : GT w mg mb G) {x : Str} {v : Value} (e : nsIn (KF w.params) mainGlobals x = some (some v)) : mg x = some v := mg_of T.k T.g e
theorem mgN {w : World} {mg mb : Str → Option Value} {G : Heap} (T : GT w mg mb G) {x : Str} (e : nsIn (KF w.params) mainGlobals x = some none) : mg x = none := mg_none_of T.k T.g e

section
variable {w : World} {mg mb : Str → Option Value} {G : Heap} (T : GT w mg mb G)
include T
theorem g_siftdown : mg "_siftdown" = some (.ref 84) := mgA T (by kernel_rfl!)
theorem g_siftup : mg "_siftup" = some (.ref 91) := mgA T (by kernel_rfl!)
theorem g_siftdown_max : mg "_siftdown_max" = some (.ref 98) := mgA T (by kernel_rfl!)
theorem g_siftup_max : mg "_siftup_max" = some (.ref 105) := mgA T (by kernel_rfl!)
theorem g_len : mg "len" = none ∧ mb "len" = some (.builtin "len") := ⟨mgN T (by kernel_rfl!), (T.bi _ (by decide)).trans (by kernel_rfl!)⟩
theorem g_range : mg "range" = none ∧ mb "range" = some (.type "range") := ⟨mgN T (by kernel_rfl!), (T.bi _ (by decide)).trans (by kernel_rfl!)⟩
theorem g_reversed : mg "reversed" = none ∧ mb "reversed" = some (.type "reversed") := ⟨mgN T (by kernel_rfl!), (T.bi _ (by decide)).trans (by kernel_rfl!)⟩
end

section
variable {w : World} {prog : Program} {mg mb : Str → Option Value} {G : Heap} {A : Around} {E : Value → Shared → Prop} {S : List Addr} {s0 s : Shared} {env : Env} {m cm : Str → Option Value} {news : List (Addr × Obj)}

/-- a call of a built-in or of a class of the built-ins, by places -/
theorem callWith_m {M : Model} {pos : Pos} {f : Value} {args : List (Bool × Sem Value)} {Q : Value → Shared → Prop} (hk : keeperOf f = pure .machine) (hplain : args.any (·.1) = false)
    (h : wpAny M A (evalArgs f true args []) (fun a s₁ => wpAny M A (call f a.pos a.kw) Q E s₁) E s) :
    wpAny M A (callWith pos f [] args []) Q E s := by
  unfold callWith
  refine wpAny_bind (wpAny_holding (wpAny_mono h (fun a s₁ h₁ => wpAny_bind (wpAny_standAt ?_)) fun _ _ x => x))
  simp only [hplain, List.any_nil, Bool.or_false]
  refine wpAny_bind ?_
  rw [hk]
  refine wpAny_pure ?_
  exact wpAny_bind (wpAny_mono h₁ (fun r s₂ hr => wpAny_bind (wpAny_holding (wpAny_point (wpAny_pure hr)))) fun _ _ x => x)

theorem callN {M : Model} {id : Str} {p pos : Pos} {a : Expr} {as : List Expr} {x : Sem Value} {rest : List (Bool × Sem Value)} {f : Value} {Q : Value → Shared → Prop}
    (hf : ∀ {Q' : Value → Shared → Prop}, Q' f s → wpAny M A (eval (.Name id p) env) Q' E s)
    (h : wpAny M A (spliced (backTo pos (starEach (a :: as) env))) (fun vs s₁ => wpAny M A (call f vs []) Q E s₁) E s)
    (hk : keeperOf f = pure .machine := by rfl) (he : backTo pos (starEach (a :: as) env) = (false, x) :: rest := by rfl) (hplain : ((false, x) :: rest).any (·.1) = false := by rfl) :
    wpAny M A (eval (.Call (.Name id p) (a :: as) [] pos) env) Q E s := by
  refine wpAny_Call_Name_kw (hf ?_)
  rw [he] at h ⊢
  exact callWith_m hk hplain (evalArgs_plain h)

theorem callF {M : Model} {id : Str} {p pos : Pos} {a : Expr} {as : List Expr} {x : Sem Value} {rest : List (Bool × Sem Value)} {f : Addr} {o : Obj} {fd : FuncData} {Q : Value → Shared → Prop}
    (hf : ∀ {Q' : Value → Shared → Prop}, Q' (.ref f) s → wpAny M A (eval (.Name id p) env) Q' E s)
    (h : wpAny M A (spliced (backTo pos (starEach (a :: as) env))) (fun vs s₁ => (s₁.heap.get? f = some o ∧ o.data = .func fd) ∧ wpAny M A (call (.ref f) vs []) Q E s₁) E s)
    (he : backTo pos (starEach (a :: as) env) = (false, x) :: rest := by rfl) :
    wpAny M A (eval (.Call (.Name id p) (a :: as) [] pos) env) Q E s := by
  refine wpAny_Call_Name_kw (hf ?_)
  rw [he] at h ⊢
  exact callWith_function (first := []) (evalArgs_plain h)

theorem arg {M : Model} {pos : Pos} {e : Expr} {rest : List Expr} {Q : List Value → Shared → Prop}
    (h : wpAny M A (eval e env) (fun v s₁ => wpAny M A (spliced (backTo pos (starEach rest env))) (fun vs s₂ => Q (v :: vs) s₂) E s₁) E s)
    (he : starEach (e :: rest) env = (false, eval e env) :: starEach rest env := by rfl) : wpAny M A (spliced (backTo pos (starEach (e :: rest) env))) Q E s := wpAny_items_cons h he
theorem arg0 {M : Model} {pos : Pos} {Q : List Value → Shared → Prop} (h : Q [] s) : wpAny M A (spliced (backTo pos (starEach [] env))) Q E s := wpAny_items_nil h

theorem lenL {a : Addr} {l : List Value} {Q : Value → Shared → Prop} (hl : PL s.heap a l) (hz : l.length < 2 ^ 20) (h : ∀ t u, Q (.int l.length t) (tk s u)) : wpAny (model prog w) A (call (.builtin "len") [.ref a]) Q E s := by
  have hs : l.toArray.size = l.length := by simp
  refine call_len_list hl.isList (by rw [hs]; lia) ?_
  have := h (s.toks + 1) (s.toks + 1 + 1)
  rw [← hs] at this
  exact this
end
end Mine
end
section
open PySem PySem.W PyProof.Rows PySem.Calls
set_option maxRecDepth 100000
namespace Mine

section
variable {w : World} {prog : Program} {mg mb : Str → Option Value} {G : Heap} {A : Around} {E : Value → Shared → Prop} {s : Shared}

/-- a state within siftup -/
inductive SuI (G : Heap) (s0 : Shared) (env : Env) (H : Addr) (lt : Value → Value → Bool) (x : Value) (pos : Nat) (l : List Value) (n : Nat) (s : Shared) : Prop
  | mk (p : Nat) (lc : List Value) (m : Str → Option Value) (t1 : Tok) (t2 : Tok) (t3 : Tok) (t4 : Tok)
    (c : Cx G [H] s0 env m (fun _ => none) [] s)
    (pl : PL s.heap H lc)
    (m1 : m "heap" = some (.ref H))
    (m2 : m "startpos" = some (.int pos t1))
    (m3 : m "pos" = some (.int p t2))
    (m4 : m "newitem" = some x)
    (m5 : m "endpos" = some (.int l.length t3))
    (m6 : m "childpos" = some (.int (2 * (p : Int) + 1) t4))
    (hl : p < lc.length)
    (len : lc.length = l.length)
    (perm : (lc.set p x).Perm l)
    (sk : sink lt lc p = sink lt l pos)
    (hn : n = l.length - p)
structure SuC (G : Heap) (s0 : Shared) (env : Env) (H : Addr) (x : Value) (pos p q n : Nat) (lc : List Value) (u1 u2 u3 : Tok) (s : Shared) (m : Str → Option Value) (t : Tok) : Prop where
  c : Cx G [H] s0 env m (fun _ => none) [] s
  pl : PL s.heap H lc
  m1 : m "heap" = some (.ref H)
  m2 : m "startpos" = some (.int pos u1)
  m3 : m "pos" = some (.int p u2)
  m4 : m "newitem" = some x
  m5 : m "endpos" = some (.int n u3)
  m6 : m "childpos" = some (.int q t)
noncomputable abbrev SuP (G : Heap) (s0 : Shared) (env : Env) (H : Addr) (x : Value) (pos p q n : Nat) (lc : List Value) (u1 u2 u3 : Tok) (f : Flow) (s : Shared) : Prop :=
  f = .next ∧ ∃ m t, SuC G s0 env H x pos p q n lc u1 u2 u3 s m t

theorem siftup_spec (T : GT w mg mb G) {n : Nat} (r : Room (n + 5) A) (st : Stays G s.heap) {H : Addr} {l : List Value} (hl : PL s.heap H l) (hG : G.get? H = none) {κ : Value → Int × Int}
    (hκ : ∀ v ∈ l, TupI s.heap v (κ v)) (hnd : (l.map κ).Nodup) (hz : l.length < 2 ^ 20) {pos : Nat} {t1 : Tok} {pI : Int} (hpI : pI = pos) (hpos : pos < l.length) {Q : Value → Shared → Prop}
    (k : ∀ s', Keep [H] s s' → PL s'.heap H (siftup (fun a b => plt (κ a) (κ b)) l pos) → Q .none s') :
    wpAny (model prog w) A (call (.ref 91) [.ref H, .int pI t1]) Q E s := by
  subst hpI
  obtain ⟨x, hx⟩ : ∃ x, l[pos]? = some x := ⟨_, List.getElem?_eq_getElem hpos⟩
  refine callFn (S := [H]) (n := n + 5) (binds := [("heap", .ref H), ("pos", .int pos t1)]) T st (fun y hy => by rw [List.mem_singleton.mp hy]; exact hG) (fun y hy => by rw [List.mem_singleton.mp hy]; exact hl.there) r
    (by rfl) (by kernel_rfl!) (.of_eq (by rfl)) (locs (by kernel_rfl!)) (by decide) (fun L s₁ c k0 => ?_)
  have hl1 : PL s₁.heap H l := hl.kp k0 (fun q => nomatch q)
  have hS : ∀ a ∈ [H], ∃ its, s.heap.IsList a its := fun a ha => by rw [List.mem_singleton.mp ha]; exact ⟨_, hl.isList⟩
  -- endpos, startpos, newitem, childpos
  refine seq (Cx.asg (callN (c.ldB T (g_len T).1 (g_len T).2) (arg (c.ld rfl (arg0 (lenL hl1 hz fun t3 _ => ⟨_, _, c.tk, fun s₂ c₂ e₂ => ?_⟩))))))
  have hl2 := c.listL hl1 e₂
  refine seq (Cx.asg (c₂.ld rfl ⟨_, _, c₂, fun s₃ c₃ e₃ => ?_⟩))
  have hl3 := c₂.listL hl2 e₃
  refine seq (Cx.asg (Subscript_ (c₃.ld rfl (c₃.ld rfl (itemL hl3 rfl hx hz ⟨_, _, c₃, fun s₄ c₄ e₄ => ?_⟩)))))
  have hl4 := c₃.listL hl3 e₄
  refine seq (Cx.asg (wpAny_BinOp (wpAny_BinOp (eInt fun _ _ => c₄.tk.ld rfl (iMul (by mul_fits) fun _ _ => eInt fun _ _ => iAdd fun t4 _ => ⟨_, _, c₄.tk, fun s₅ c₅ e₅ => ?_⟩)))))
  have hl5 := c₄.listL hl4 e₅
  refine seq (whileF (SuI G s _ H (fun a b => plt (κ a) (κ b)) x pos l) (l.length - pos) ⟨pos, l, _, t1, t1, t3, t4, c₅, hl5, rfl, rfl, rfl, rfl, rfl, rfl, hpos, rfl, ?_, rfl, rfl⟩ ?_)
  · rw [show l.set pos x = l by rw [← (List.getElem?_eq_some_iff.mp hx).2]; exact List.set_getElem_self _]
  · rintro J hJ n' s' ⟨p, lc, m, u1, u2, u3, u4, c, hlc, m1, m2, m3, m4, m5, m6, hp, hlen, hperm, hsink, hn⟩
    refine wpAny_isTrue_Compare1 (c.ld m6 (c.ld m5 (cLt (wpAny_truthy_bool ?_))))
    have hnd' : ((lc.set p x).map κ).Nodup := (hperm.map κ).nodup_iff.mpr hnd
    by_cases h : 2 * p + 1 < lc.length
    · rw [if_pos (decide_eq_true (by lia))]
      -- rightpos
      refine seq (Cx.asg (wpAny_BinOp (c.ld m6 (eInt fun _ _ => iAdd fun u5 _ => ⟨_, _, c.tk, fun s₁ c₁ e₁ => ?_⟩))))
      have hl1 := c.listL hlc e₁
      -- the choice of the child
      refine seq (wpAny_mono (Q := SuP G s c₁.theEnv H x pos p (pick (fun a b => plt (κ a) (κ b)) lc (2 * p + 1)) l.length lc u1 u2 u3) (wpAny_If ?_) ?_ (fun _ _ x => x))
      · refine wpAny_isTrue_BoolOp (wpAny_allTrue_And_cons (wpAny_isTrue_Compare1 (c₁.ld rfl (c₁.ld m5 (cLt (wpAny_truthy_bool ?_))))))
        by_cases h2 : 2 * p + 2 < lc.length
        · rw [if_pos (decide_eq_true (by lia))]
          obtain ⟨y, hy⟩ : ∃ y, lc[2 * p + 1]? = some y := ⟨_, List.getElem?_eq_getElem (by lia)⟩
          obtain ⟨z, hz'⟩ : ∃ z, lc[2 * p + 1 + 1]? = some z := ⟨_, List.getElem?_eq_getElem (by lia)⟩
          have hy' : (lc.set p x)[2 * p + 1]? = some y := by rw [List.getElem?_set_ne (by lia)]; exact hy
          have hz2 : (lc.set p x)[2 * p + 1 + 1]? = some z := by rw [List.getElem?_set_ne (by lia)]; exact hz'
          have my : y ∈ l := hperm.mem_iff.mp (List.mem_of_getElem? hy')
          have mz : z ∈ l := hperm.mem_iff.mp (List.mem_of_getElem? hz2)
          refine wpAny_allTrue_And_cons (wpAny_isTrue_Not (wpAny_isTrue_Compare1 (Subscript_ (c₁.ld m1 (c₁.ld m6 (itemL hl1 (by lia) hy (by lia) (Subscript_ (c₁.ld m1 (c₁.ld rfl (itemL hl1 (by lia) hz' (by lia)
            (tup_lt ((hκ _ my).keepL c₁.kp hS) ((hκ _ mz).keepL c₁.kp hS) (nodup_ne hnd' hy' hz2 (by lia)) (by have := r.u; show A.units + 3 + 1 < _; lia) (wpAny_truthy_bool ?_))))))))))))
          have hpick : pick (fun a b => plt (κ a) (κ b)) lc (2 * p + 1) = if plt (κ y) (κ z) then 2 * p + 1 else 2 * p + 1 + 1 := by
            unfold pick; rw [hy, hz']
          cases hlt : plt (κ y) (κ z) with
          | true =>
            rw [if_neg (by decide), if_neg (by decide)]
            refine wpAny_execs_nil ⟨rfl, _, u4, c₁, hl1, m1, m2, m3, m4, m5, ?_⟩
            rw [hpick, hlt, if_pos rfl]
            exact m6.trans (by rw [show (2 * (p : Int) + 1) = ((2 * p + 1 : Nat) : Int) by lia])
          | false =>
            rw [if_pos (by decide)]
            refine wpAny_allTrue_And_nil ?_
            rw [if_pos rfl]
            refine seq (Cx.asg (c₁.ld rfl ⟨_, _, c₁, fun s₂ c₂ e₂ => wpAny_execs_nil ⟨rfl, _, u5, c₂, c₁.listL hl1 e₂, m1, m2, m3, m4, m5, ?_⟩⟩))
            rw [hpick, hlt, if_neg Bool.false_ne_true]
            show some (Value.int (2 * (p : Int) + 1 + 1) _) = _
            rw [show (2 * (p : Int) + 1 + 1) = ((2 * p + 1 + 1 : Nat) : Int) by lia]
        · rw [if_neg (by simp only [decide_eq_true_eq]; lia), if_neg (by decide)]
          refine wpAny_execs_nil ⟨rfl, _, u4, c₁, hl1, m1, m2, m3, m4, m5, ?_⟩
          have hpick : pick (fun a b => plt (κ a) (κ b)) lc (2 * p + 1) = 2 * p + 1 := by
            rcases pick_cases (fun a b => plt (κ a) (κ b)) lc (2 * p + 1) with e | e
            · exact e
            · exact absurd e.2 (by lia)
          rw [hpick]
          exact m6.trans (by rw [show (2 * (p : Int) + 1) = ((2 * p + 1 : Nat) : Int) by lia])
      rintro f s₂ ⟨rfl, m', u6, c₂, hl2, m1', m2', m3', m4', m5', m6'⟩
      generalize hq : pick (fun a b => plt (κ a) (κ b)) lc (2 * p + 1) = q at m6'
      have hq' : q < lc.length ∧ (q = 2 * p + 1 ∨ q = 2 * p + 1 + 1) := by
        rcases pick_cases (fun a b => plt (κ a) (κ b)) lc (2 * p + 1) with e | e <;> lia
      obtain ⟨y, hy⟩ : ∃ y, lc[q]? = some y := ⟨_, List.getElem?_eq_getElem hq'.1⟩
      -- heap[pos] = heap[childpos]; pos = childpos; childpos = 2 * pos + 1
      refine seq (wpAny_Assign_Subscript (Subscript_ (c₂.ld m1' (c₂.ld m6' (itemL hl2 rfl hy (by lia) (c₂.ld m1' (c₂.ld m3' (c₂.setL hl2 (.inl (.head _)) rfl hp (by lia) (fun _ q => nomatch q) fun s₃ c₃ hl3 e₃ => ?_))))))))
      refine seq (Cx.asg (c₃.ld m6' ⟨_, _, c₃, fun s₄ c₄ e₄ => ?_⟩))
      have hl4 := c₃.listL hl3 e₄
      refine seq (Cx.asg (wpAny_BinOp (wpAny_BinOp (eInt fun _ _ => c₄.tk.ld rfl (iMul (by mul_fits) fun _ _ => eInt fun _ _ => iAdd fun u7 _ => ⟨_, _, c₄.tk, fun s₅ c₅ e₅ => ?_⟩)))))
      have hl5 := c₄.listL hl4 e₅
      refine wpAny_execs_nil ⟨l.length - q, by lia, hJ _ _ ⟨q, lc.set p y, _, u1, u6, u3, u7, c₅, hl5, m1', m2', rfl, m4', m5', rfl, by rw [List.length_set]; lia, by rw [List.length_set]; lia, (swap_perm hp hy (by lia)).trans hperm, ?_, rfl⟩⟩
      rw [← hsink]
      conv => rhs; rw [sink]
      rw [dif_pos h, hq, hy]
    · rw [if_neg (by simp only [decide_eq_true_eq]; lia)]
      have hs : sink (fun a b => plt (κ a) (κ b)) l pos = (lc, p) := by rw [← hsink, sink, dif_neg h]
      -- heap[pos] = newitem; _siftdown(heap, startpos, pos)
      refine seq (wpAny_Assign_Subscript (c.ld m4 (c.ld m1 (c.ld m3 (c.setL hlc (.inl (.head _)) rfl hp (by lia) (fun _ q => nomatch q) fun s₃ c₃ hl3 e₃ => ?_)))))
      refine seq (wpAny_Expr_any (callF (f := 84) (c₃.ldG T (g_siftdown T)) (arg (c₃.ld m1 (arg (c₃.ld m2 (arg (c₃.ld m3 (arg0 ⟨⟨c₃.stay _ _ (T.k _ _ (by rfl)), rfl⟩, ?_⟩)))))))))
      refine siftdown_spec T (n := n) (κ := κ) (r.deeper _ |>.less (by lia)) c₃.stay hl3 hG (fun v hv => (hκ v (hperm.mem_iff.mp hv)).keepL c₃.kp hS) hnd' (by rw [List.length_set]; lia) (x := x) (by rw [List.getElem?_set_self hp]) fun s₄ k4 hl4 => ?_
      refine wpAny_execs_nil (k _ (c₃.kp.trans k4) ?_)
      have : siftup (fun a b => plt (κ a) (κ b)) l pos = siftdown (fun a b => plt (κ a) (κ b)) x pos (lc.set p x) p := by unfold siftup; rw [hx, hs]
      rw [this]
      exact hl4
end
end Mine
end
section
open PySem PySem.W PyProof.Rows PySem.Calls
set_option maxRecDepth 100000
namespace Mine

section
variable {w : World} {prog : Program} {mg mb : Str → Option Value} {G : Heap} {A : Around} {E : Value → Shared → Prop} {s : Shared}

theorem siftdown_max_spec (T : GT w mg mb G) {n : Nat} (r : Room (n + 3) A) (st : Stays G s.heap) {H : Addr} {l : List Value} (hl : PL s.heap H l) (hG : G.get? H = none) {κ : Value → Int × Int}
    (hκ : ∀ v ∈ l, TupI s.heap v (κ v)) (hnd : (l.map κ).Nodup) (hz : l.length < 2 ^ 20) {start pos : Nat} {t1 t2 : Tok} {x : Value} (hx : l[pos]? = some x) {Q : Value → Shared → Prop}
    (k : ∀ s', Keep [H] s s' → PL s'.heap H (siftdown (fun a b => plt (κ b) (κ a)) x start l pos) → Q .none s') :
    wpAny (model prog w) A (call (.ref 98) [.ref H, .int start t1, .int pos t2]) Q E s := by
  refine callFn (S := [H]) (n := n + 3) (binds := [("heap", .ref H), ("startpos", .int start t1), ("pos", .int pos t2)]) T st (fun y hy => by rw [List.mem_singleton.mp hy]; exact hG) (fun y hy => by rw [List.mem_singleton.mp hy]; exact hl.there) r
    (by rfl) (by kernel_rfl!) (.of_eq (by rfl)) (locs (by kernel_rfl!)) (by decide) (fun L s₁ c k0 => ?_)
  obtain ⟨hlt, _⟩ := List.getElem?_eq_some_iff.mp hx
  have hl1 : PL s₁.heap H l := hl.kp k0 (fun q => nomatch q)
  refine seq (Cx.asg (Subscript_ (c.ld rfl (c.ld rfl (itemL hl1 rfl hx hz ⟨_, _, c, fun s₂ c₂ e₂ => ?_⟩)))))
  refine seq (whileF (SdI G s _ H (fun a b => plt (κ b) (κ a)) x start pos l) pos ⟨l, _, t1, t2, c₂, ?_, rfl, rfl, rfl, rfl, hlt, rfl, ?_, rfl⟩ ?_)
  · exact c.listL hl1 e₂
  · rw [show l.set pos x = l by rw [← (List.getElem?_eq_some_iff.mp hx).2]; exact List.set_getElem_self _]
  · rintro J hJ n' s' ⟨lc, m, u1, u2, c, hlc, m1, m2, m3, m4, hn, hlen, hperm, hsd⟩
    have hS : ∀ a ∈ [H], ∃ its, s.heap.IsList a its := fun a ha => by rw [List.mem_singleton.mp ha]; exact ⟨_, hl.isList⟩
    refine wpAny_isTrue_Compare1 (c.ld m3 (c.ld m2 (cGt (wpAny_truthy_bool ?_))))
    by_cases h : start < n'
    · rw [if_pos (decide_eq_true (by lia))]
      obtain ⟨y, hy⟩ : ∃ y, lc[(n' - 1) / 2]? = some y := ⟨_, List.getElem?_eq_getElem (by lia)⟩
      have hpp : (n' - 1) / 2 ≠ n' := by lia
      have hy' : (lc.set n' x)[(n' - 1) / 2]? = some y := by rw [List.getElem?_set_ne (Ne.symm hpp)]; exact hy
      have hx' : (lc.set n' x)[n']? = some x := by rw [List.getElem?_set_self (by lia)]
      have hnd' : ((lc.set n' x).map κ).Nodup := (hperm.map κ).nodup_iff.mpr hnd
      have hmem : y ∈ l := hperm.mem_iff.mp (List.mem_of_getElem? hy')
      have hmx : x ∈ l := List.mem_of_getElem? hx
      refine seq (Cx.asg (wpAny_BinOp (wpAny_BinOp (c.ld m3 (eInt fun _ _ => iSub fun _ _ => eInt fun _ _ => iHalf (by lia) fun t9 _ => ⟨_, _, c.tk, fun s₁ c₁ e₁ => ?_⟩)))))
      have hl1 := c.listL hlc e₁
      refine seq (Cx.asg (Subscript_ (c₁.ld m1 (c₁.ld rfl (itemL hl1 (by lia) hy (by lia) ⟨_, _, c₁, fun s₂ c₂ e₂ => ?_⟩)))))
      have hl2 := c₁.listL hl1 e₂
      refine seq (wpAny_If (wpAny_isTrue_Compare1 (c₂.ld rfl (c₂.ld m4 (tup_lt ((hκ _ hmem).keepL c₂.kp hS) ((hκ _ hmx).keepL c₂.kp hS) (nodup_ne hnd' hy' hx' hpp) (by have := r.u; show A.units + 3 + 1 < _; lia) (wpAny_truthy_bool ?_))))))
      cases hlt' : plt (κ y) (κ x) with
      | true =>
        rw [if_pos rfl]
        refine seq (wpAny_Assign_Subscript (c₂.ld rfl (c₂.ld m1 (c₂.ld m3 (c₂.setL hl2 (.inl (.head _)) rfl hn (by lia) (fun _ q => nomatch q) fun s₃ c₃ hl3 e₃ => ?_)))))
        refine seq (Cx.asg (c₃.ld rfl ⟨_, _, c₃, fun s₄ c₄ e₄ => ?_⟩))
        refine seq (wpAny_Continue ⟨(n' - 1) / 2, by lia, hJ _ _ ⟨_, _, u1, t9, c₄, c₃.listL hl3 e₄, m1, m2, ?_, m4, by rw [List.length_set]; lia, by rw [List.length_set]; lia, (swap_perm hn hy (Ne.symm hpp)).trans hperm, ?_⟩⟩)
        · show some (Value.int (((n' : Int) - 1) / 2) _) = _
          rw [show ((n' : Int) - 1) / 2 = ((n' - 1) / 2 : Nat) by lia]
        · rw [← hsd]
          conv => rhs; rw [siftdown]
          rw [dif_pos h, hy]
          simp only [hlt', if_true]
      | false =>
        rw [if_neg Bool.false_ne_true]
        refine wpAny_execs_nil (seq (wpAny_Break ?_))
        refine seq (wpAny_Assign_Subscript (c₂.ld m4 (c₂.ld m1 (c₂.ld m3 (c₂.setL hl2 (.inl (.head _)) rfl hn (by lia) (fun _ q => nomatch q) fun s₃ c₃ hl3 e₃ => wpAny_execs_nil (k _ c₃.kp ?_))))))
        rw [← hsd, siftdown, dif_pos h, hy]
        simp only [hlt', Bool.false_eq_true, if_false]
        exact hl3
    · rw [if_neg (by simpa using h)]
      refine seq (wpAny_Assign_Subscript (c.ld m4 (c.ld m1 (c.ld m3 (c.setL hlc (.inl (.head _)) rfl hn (by lia) (fun _ q => nomatch q) fun s₃ c₃ hl3 e₃ => wpAny_execs_nil (k _ c₃.kp ?_))))))
      rw [← hsd, siftdown, dif_neg h]
      exact hl3

theorem siftup_max_spec (T : GT w mg mb G) {n : Nat} (r : Room (n + 5) A) (st : Stays G s.heap) {H : Addr} {l : List Value} (hl : PL s.heap H l) (hG : G.get? H = none) {κ : Value → Int × Int}
    (hκ : ∀ v ∈ l, TupI s.heap v (κ v)) (hnd : (l.map κ).Nodup) (hz : l.length < 2 ^ 20) {pos : Nat} {t1 : Tok} {pI : Int} (hpI : pI = pos) (hpos : pos < l.length) {Q : Value → Shared → Prop}
    (k : ∀ s', Keep [H] s s' → PL s'.heap H (siftup (fun a b => plt (κ b) (κ a)) l pos) → Q .none s') :
    wpAny (model prog w) A (call (.ref 105) [.ref H, .int pI t1]) Q E s := by
  subst hpI
  obtain ⟨x, hx⟩ : ∃ x, l[pos]? = some x := ⟨_, List.getElem?_eq_getElem hpos⟩
  refine callFn (S := [H]) (n := n + 5) (binds := [("heap", .ref H), ("pos", .int pos t1)]) T st (fun y hy => by rw [List.mem_singleton.mp hy]; exact hG) (fun y hy => by rw [List.mem_singleton.mp hy]; exact hl.there) r
    (by rfl) (by kernel_rfl!) (.of_eq (by rfl)) (locs (by kernel_rfl!)) (by decide) (fun L s₁ c k0 => ?_)
  have hl1 : PL s₁.heap H l := hl.kp k0 (fun q => nomatch q)
  have hS : ∀ a ∈ [H], ∃ its, s.heap.IsList a its := fun a ha => by rw [List.mem_singleton.mp ha]; exact ⟨_, hl.isList⟩
  -- endpos, startpos, newitem, childpos
  refine seq (Cx.asg (callN (c.ldB T (g_len T).1 (g_len T).2) (arg (c.ld rfl (arg0 (lenL hl1 hz fun t3 _ => ⟨_, _, c.tk, fun s₂ c₂ e₂ => ?_⟩))))))
  have hl2 := c.listL hl1 e₂
  refine seq (Cx.asg (c₂.ld rfl ⟨_, _, c₂, fun s₃ c₃ e₃ => ?_⟩))
  have hl3 := c₂.listL hl2 e₃
  refine seq (Cx.asg (Subscript_ (c₃.ld rfl (c₃.ld rfl (itemL hl3 rfl hx hz ⟨_, _, c₃, fun s₄ c₄ e₄ => ?_⟩)))))
  have hl4 := c₃.listL hl3 e₄
  refine seq (Cx.asg (wpAny_BinOp (wpAny_BinOp (eInt fun _ _ => c₄.tk.ld rfl (iMul (by mul_fits) fun _ _ => eInt fun _ _ => iAdd fun t4 _ => ⟨_, _, c₄.tk, fun s₅ c₅ e₅ => ?_⟩)))))
  have hl5 := c₄.listL hl4 e₅
  refine seq (whileF (SuI G s _ H (fun a b => plt (κ b) (κ a)) x pos l) (l.length - pos) ⟨pos, l, _, t1, t1, t3, t4, c₅, hl5, rfl, rfl, rfl, rfl, rfl, rfl, hpos, rfl, ?_, rfl, rfl⟩ ?_)
  · rw [show l.set pos x = l by rw [← (List.getElem?_eq_some_iff.mp hx).2]; exact List.set_getElem_self _]
  · rintro J hJ n' s' ⟨p, lc, m, u1, u2, u3, u4, c, hlc, m1, m2, m3, m4, m5, m6, hp, hlen, hperm, hsink, hn⟩
    refine wpAny_isTrue_Compare1 (c.ld m6 (c.ld m5 (cLt (wpAny_truthy_bool ?_))))
    have hnd' : ((lc.set p x).map κ).Nodup := (hperm.map κ).nodup_iff.mpr hnd
    by_cases h : 2 * p + 1 < lc.length
    · rw [if_pos (decide_eq_true (by lia))]
      -- rightpos
      refine seq (Cx.asg (wpAny_BinOp (c.ld m6 (eInt fun _ _ => iAdd fun u5 _ => ⟨_, _, c.tk, fun s₁ c₁ e₁ => ?_⟩))))
      have hl1 := c.listL hlc e₁
      -- the choice of the child
      refine seq (wpAny_mono (Q := SuP G s c₁.theEnv H x pos p (pick (fun a b => plt (κ b) (κ a)) lc (2 * p + 1)) l.length lc u1 u2 u3) (wpAny_If ?_) ?_ (fun _ _ x => x))
      · refine wpAny_isTrue_BoolOp (wpAny_allTrue_And_cons (wpAny_isTrue_Compare1 (c₁.ld rfl (c₁.ld m5 (cLt (wpAny_truthy_bool ?_))))))
        by_cases h2 : 2 * p + 2 < lc.length
        · rw [if_pos (decide_eq_true (by lia))]
          obtain ⟨y, hy⟩ : ∃ y, lc[2 * p + 1]? = some y := ⟨_, List.getElem?_eq_getElem (by lia)⟩
          obtain ⟨z, hz'⟩ : ∃ z, lc[2 * p + 1 + 1]? = some z := ⟨_, List.getElem?_eq_getElem (by lia)⟩
          have hy' : (lc.set p x)[2 * p + 1]? = some y := by rw [List.getElem?_set_ne (by lia)]; exact hy
          have hz2 : (lc.set p x)[2 * p + 1 + 1]? = some z := by rw [List.getElem?_set_ne (by lia)]; exact hz'
          have my : y ∈ l := hperm.mem_iff.mp (List.mem_of_getElem? hy')
          have mz : z ∈ l := hperm.mem_iff.mp (List.mem_of_getElem? hz2)
          refine wpAny_allTrue_And_cons (wpAny_isTrue_Not (wpAny_isTrue_Compare1 (Subscript_ (c₁.ld m1 (c₁.ld rfl (itemL hl1 (by lia) hz' (by lia) (Subscript_ (c₁.ld m1 (c₁.ld m6 (itemL hl1 (by lia) hy (by lia)
            (tup_lt ((hκ _ mz).keepL c₁.kp hS) ((hκ _ my).keepL c₁.kp hS) (nodup_ne hnd' hz2 hy' (by lia)) (by have := r.u; show A.units + 3 + 1 < _; lia) (wpAny_truthy_bool ?_))))))))))))
          have hpick : pick (fun a b => plt (κ b) (κ a)) lc (2 * p + 1) = if plt (κ z) (κ y) then 2 * p + 1 else 2 * p + 1 + 1 := by
            unfold pick; rw [hy, hz']
          cases hlt : plt (κ z) (κ y) with
          | true =>
            rw [if_neg (by decide), if_neg (by decide)]
            refine wpAny_execs_nil ⟨rfl, _, u4, c₁, hl1, m1, m2, m3, m4, m5, ?_⟩
            rw [hpick, hlt, if_pos rfl]
            exact m6.trans (by rw [show (2 * (p : Int) + 1) = ((2 * p + 1 : Nat) : Int) by lia])
          | false =>
            rw [if_pos (by decide)]
            refine wpAny_allTrue_And_nil ?_
            rw [if_pos rfl]
            refine seq (Cx.asg (c₁.ld rfl ⟨_, _, c₁, fun s₂ c₂ e₂ => wpAny_execs_nil ⟨rfl, _, u5, c₂, c₁.listL hl1 e₂, m1, m2, m3, m4, m5, ?_⟩⟩))
            rw [hpick, hlt, if_neg Bool.false_ne_true]
            show some (Value.int (2 * (p : Int) + 1 + 1) _) = _
            rw [show (2 * (p : Int) + 1 + 1) = ((2 * p + 1 + 1 : Nat) : Int) by lia]
        · rw [if_neg (by simp only [decide_eq_true_eq]; lia), if_neg (by decide)]
          refine wpAny_execs_nil ⟨rfl, _, u4, c₁, hl1, m1, m2, m3, m4, m5, ?_⟩
          have hpick : pick (fun a b => plt (κ b) (κ a)) lc (2 * p + 1) = 2 * p + 1 := by
            rcases pick_cases (fun a b => plt (κ b) (κ a)) lc (2 * p + 1) with e | e
            · exact e
            · exact absurd e.2 (by lia)
          rw [hpick]
          exact m6.trans (by rw [show (2 * (p : Int) + 1) = ((2 * p + 1 : Nat) : Int) by lia])
      rintro f s₂ ⟨rfl, m', u6, c₂, hl2, m1', m2', m3', m4', m5', m6'⟩
      generalize hq : pick (fun a b => plt (κ b) (κ a)) lc (2 * p + 1) = q at m6'
      have hq' : q < lc.length ∧ (q = 2 * p + 1 ∨ q = 2 * p + 1 + 1) := by
        rcases pick_cases (fun a b => plt (κ b) (κ a)) lc (2 * p + 1) with e | e <;> lia
      obtain ⟨y, hy⟩ : ∃ y, lc[q]? = some y := ⟨_, List.getElem?_eq_getElem hq'.1⟩
      -- heap[pos] = heap[childpos]; pos = childpos; childpos = 2 * pos + 1
      refine seq (wpAny_Assign_Subscript (Subscript_ (c₂.ld m1' (c₂.ld m6' (itemL hl2 rfl hy (by lia) (c₂.ld m1' (c₂.ld m3' (c₂.setL hl2 (.inl (.head _)) rfl hp (by lia) (fun _ q => nomatch q) fun s₃ c₃ hl3 e₃ => ?_))))))))
      refine seq (Cx.asg (c₃.ld m6' ⟨_, _, c₃, fun s₄ c₄ e₄ => ?_⟩))
      have hl4 := c₃.listL hl3 e₄
      refine seq (Cx.asg (wpAny_BinOp (wpAny_BinOp (eInt fun _ _ => c₄.tk.ld rfl (iMul (by mul_fits) fun _ _ => eInt fun _ _ => iAdd fun u7 _ => ⟨_, _, c₄.tk, fun s₅ c₅ e₅ => ?_⟩)))))
      have hl5 := c₄.listL hl4 e₅
      refine wpAny_execs_nil ⟨l.length - q, by lia, hJ _ _ ⟨q, lc.set p y, _, u1, u6, u3, u7, c₅, hl5, m1', m2', rfl, m4', m5', rfl, by rw [List.length_set]; lia, by rw [List.length_set]; lia, (swap_perm hp hy (by lia)).trans hperm, ?_, rfl⟩⟩
      rw [← hsink]
      conv => rhs; rw [sink]
      rw [dif_pos h, hq, hy]
    · rw [if_neg (by simp only [decide_eq_true_eq]; lia)]
      have hs : sink (fun a b => plt (κ b) (κ a)) l pos = (lc, p) := by rw [← hsink, sink, dif_neg h]
      -- heap[pos] = newitem; _siftdown(heap, startpos, pos)
      refine seq (wpAny_Assign_Subscript (c.ld m4 (c.ld m1 (c.ld m3 (c.setL hlc (.inl (.head _)) rfl hp (by lia) (fun _ q => nomatch q) fun s₃ c₃ hl3 e₃ => ?_)))))
      refine seq (wpAny_Expr_any (callF (f := 98) (c₃.ldG T (g_siftdown_max T)) (arg (c₃.ld m1 (arg (c₃.ld m2 (arg (c₃.ld m3 (arg0 ⟨⟨c₃.stay _ _ (T.k _ _ (by rfl)), rfl⟩, ?_⟩)))))))))
      refine siftdown_max_spec T (n := n) (κ := κ) (r.deeper _ |>.less (by lia)) c₃.stay hl3 hG (fun v hv => (hκ v (hperm.mem_iff.mp hv)).keepL c₃.kp hS) hnd' (by rw [List.length_set]; lia) (x := x) (by rw [List.getElem?_set_self hp]) fun s₄ k4 hl4 => ?_
      refine wpAny_execs_nil (k _ (c₃.kp.trans k4) ?_)
      have : siftup (fun a b => plt (κ b) (κ a)) l pos = siftdown (fun a b => plt (κ b) (κ a)) x pos (lc.set p x) p := by unfold siftup; rw [hx, hs]
      rw [this]
      exact hl4
end
end Mine
end
section
open PySem PySem.W PyProof.Rows PySem.Calls
set_option maxRecDepth 100000
namespace Mine

theorem sub_ri_reversed : isSubtype (.type "range_iterator") (.type "reversed") = pure false := by rw [isSubtype_type]; kernel_rfl!

theorem keep_push {s : Shared} {o : Obj} {t : Nat} : Keep [] s { s with heap := s.heap.push o, toks := t } := ⟨⟨_, _, rfl⟩, fun _ _ e _ => Heap.get?_push_of_some _ e⟩
theorem Keep.pl {S : List Addr} {s s' : Shared} (k : Keep S s s') {a : Addr} {l : List Value} (h : a ∉ S) (x : PL s.heap a l) : PL s'.heap a l := x.kp k h
theorem Keep.pl0 {s s' : Shared} (k : Keep [] s s') {a : Addr} {l : List Value} (x : PL s.heap a l) : PL s'.heap a l := x.kp k (fun q => nomatch q)
theorem new_size (h : Heap) : h.get? h.objs.size = none := Heap.get?_none_of_le (Nat.le_refl _)

section
variable {w : World} {prog : Program} {mg mb : Str → Option Value} {G : Heap} {A : Around} {E : Value → Shared → Prop} {S : List Addr} {s0 s : Shared} {env : Env} {m cm : Str → Option Value} {news : List (Addr × Obj)}

theorem Cx.keep0 (c : Cx G S s0 env m cm news s) {s' : Shared} (k : Keep [] s s') : Cx G S s0 env m cm news s' := c.grown k fun _ hp h => absurd hp h

theorem rangeN {n : Int} {t : Tok} {Q : Value → Shared → Prop} (h : ∀ r t u v s', Keep [] s s' → IsRange s'.heap r 0 n 1 t u v → s.heap.get? r = none → Q (.ref r) s') : wpAny (model prog w) A (call (.type "range") [.int n t]) Q E s :=
  call_range_1 (h _ _ _ _ _ keep_push (IsRange.new ..) (new_size _))

theorem rangeSize01 (k : Nat) : Builtin.Range.rangeSize 0 (k : Int) 1 = k := by
  unfold Builtin.Range.rangeSize
  by_cases h : (0 : Int) < k
  · simp only [Int.zero_lt_one, if_true, gt_iff_lt, h, Int.ediv_one]; lia
  · simp only [Int.zero_lt_one, if_true, gt_iff_lt, h, if_false]; lia

theorem fitsL {i : Int} (h1 : -(2 ^ 40) ≤ i) (h2 : i < 2 ^ 40) : Builtin.Range.rangeFitsLong i = true := by
  unfold Builtin.Range.rangeFitsLong
  simp only [Bool.and_eq_true, decide_eq_true_eq]
  lia

/-- reversed(range(k)) -/
theorem revRange {r : Addr} {k : Nat} {t u v : Tok} {Q : Value → Shared → Prop} (hr : IsRange s.heap r 0 (k : Int) 1 t u v) (hk : k < 2 ^ 20) (h : ∀ I s', Keep [] s s' → IsRangeIter s'.heap I ((k : Int) - 1) k (-1) → s.heap.get? I = none → Q (.ref I) s') :
    wpAny (model prog w) A (call (.type "reversed") [.ref r]) Q E s := by
  obtain ⟨b, hb⟩ : ∃ b : Int, b = k := ⟨_, rfl⟩
  rw [← hb] at hr
  have hT : ∀ s : Shared, IsRange s.heap r 0 b 1 t u v → s.TypeIs (.ref r) "range" := fun s hr => ⟨_, hr, rfl⟩
  refine callType_other (U := "range_iterator") (Q₁ := fun obj s₁ => s₁.TypeIs obj "range_iterator" ∧ Q obj s₁) (by decide +kernel) F.create_reversed ⟨_, _, F.mro_reversed⟩ F.made_reversed sub_ri_reversed (F.typeCall_reversed_1 _) ?_ fun _ _ q => q
  refine codeAny_of_tree ?_
  show wpAny _ A.in1.in1 (do checkBuiltinCall "reversed.__new__" ⟨[.type "reversed", .ref r], []⟩; again (.builtin "reversed.__new__" ⟨[.type "reversed", .ref r], []⟩)) _ _ s
  refine wpAny_bind (wpAny_of_eq (F.newCall_reversed_1 _) (wpAny_pure ⟨plainId_quiet F.plain_reversed_new _, codeAny_builtin F.entry_reversed_new ?_⟩))
  rw [Around.under_plainId F.plain_reversed_new _]
  unfold Builtin.«reversed.__new__»
  refine wpAny_bind (wpAny_of_eq (newClass_reversed _) ?_)
  try dsimp only
  refine wpAny_bind (wpAny_of_eq (a := ()) (by first | rfl | kernel_rfl) ?_)
  refine wpAny_bind (wpAny_of_eq (a := ()) (by first | rfl | kernel_rfl) ?_)
  try dsimp only
  refine wpAny_bind (wpAny_specialOf (hT s hr) F.slot_range_reversed.lookup ?_)
  try dsimp only
  refine wpAny_bind (wpAny_of_eq (F.slot_range_reversed.bind _) ?_)
  try dsimp only
  first
  | rw [if_neg (show ¬ ((Value.builtin "range.__reversed__" == Value.none) = true) from Bool.false_ne_true)]
  | (show wpAny _ _ (if (Value.builtin "range.__reversed__" == Value.none) = true then _ else _) _ _ _; rw [if_neg (show ¬ ((Value.builtin "range.__reversed__" == Value.none) = true) from Bool.false_ne_true)])
  refine wpAny_bind (wpAny_rule ?_)
  have key : ∀ {A : Around} {Q' : Value → Shared → Prop} {E' : Value → Shared → Prop}, (∀ I s', Keep [] s s' → IsRangeIter s'.heap I ((k : Int) - 1) k (-1) → s.heap.get? I = none → Q' (.ref I) s') →
      wpAny (model prog w) A (call (.builtin "range.__reversed__") [.ref r]) Q' E' s := fun {A Q' E'} hq => by
    refine wpAny_call_entry F.slot_range_reversed (hT s hr) F.entry_range_reversed ?_ (F.args_range_reversed_1 _)
    unfold Builtin.«range.__reversed__»
    refine wpAny_bind (wpAny_of_eq (a := Value.ref r) rfl ?_)
    unfold Builtin.Range.rangeFields
    refine wpAny_bind (wpAny_bind (wpAny_field hr rfl (x := .int 0 t) rfl (wpAny_bind (wpAny_of_eq (a := some 0) rfl (wpAny_bind (wpAny_field hr rfl (x := .int b u) rfl (wpAny_bind (wpAny_of_eq (a := some b) rfl (wpAny_bind (wpAny_field hr rfl (x := .int 1 v) rfl (wpAny_bind (wpAny_of_eq (a := some 1) rfl (wpAny_pure ?_)))))))))))) )
    dsimp only
    subst hb
    have hsm : (Builtin.Range.rangeFitsLong 0 && Builtin.Range.rangeFitsLong (k : Int) && Builtin.Range.rangeFitsLong 1 && Builtin.Range.rangeFitsLong (-1) && Builtin.Range.rangeFitsLong (0 - 1) && Builtin.Range.rangeFitsLong (Builtin.Range.rangeSize 0 (k : Int) 1)) = true := by
      rw [rangeSize01, fitsL (by decide) (by decide), fitsL (i := (k : Int)) (by lia) (by lia), fitsL (by decide) (by decide), fitsL (by decide) (by decide), fitsL (by decide) (by decide)]
      rfl
    rw [hsm]
    simp only [Bool.not_true, Bool.false_eq_true, if_false, if_true]
    refine wpAny_bind (wpAny_newObj_type (wpAny_pure ⟨_, rfl, ?_⟩))
    refine hq _ _ (keep_push (t := s.toks)) ?_ (new_size _)
    have e := Heap.get?_push_size s.heap (o := { cls := .type "range_iterator", data := .fields #[rawInt (0 + (Builtin.Range.rangeSize 0 (k : Int) 1 - 1) * 1), rawInt (Builtin.Range.rangeSize 0 (k : Int) 1), rawInt (-1)] }) rfl
    rw [rangeSize01, show (0 + ((k : Int) - 1) * 1) = (k : Int) - 1 by lia] at e
    unfold IsRangeIter
    rw [rangeSize01, show (0 + ((k : Int) - 1) * 1) = (k : Int) - 1 by lia]
    exact e
  refine wpAny_bind (m := runValue (.call (.builtin "range.__reversed__") ⟨[.ref r], []⟩)) (show wpAny _ _ (call (.builtin "range.__reversed__") [.ref r]) _ _ _ from key fun I s' k1 hI hn => ?_)
  have hh : s'.TypeIs (.ref I) "range_iterator" ∧ Q (.ref I) s' := ⟨⟨_, hI, rfl⟩, h I s' k1 hI hn⟩
  first
  | exact wpAny_pure hh
  | exact wpAny_bind (wpAny_pure (wpAny_pure hh))
end
end Mine
end
section
open PySem PySem.W PyProof.Rows PySem.Calls
set_option maxRecDepth 100000
namespace Mine

section
variable {w : World} {prog : Program} {mg mb : Str → Option Value} {G : Heap} {A : Around} {E : Value → Shared → Prop} {s : Shared}

theorem rangeIter_plain {h : Heap} {I : Addr} {a b c : Int} (hI : IsRangeIter h I a b c) : ∃ o, h.get? I = some o ∧ plainObj o := ⟨_, hI, (fun _ _ q => nomatch q), (fun _ q => nomatch q)⟩

inductive HpI (G : Heap) (s0 : Shared) (env : Env) (H I : Addr) (lt : Value → Value → Bool) (l : List Value) (q j : Nat) (s : Shared) : Prop
  | mk (i : Nat) (lc : List Value) (m : Str → Option Value)
    (hij : i + j = q)
    (c : Cx G [H] s0 env m (fun _ => none) [] s)
    (m1 : m "x" = some (.ref H))
    (pl : PL s.heap H lc)
    (perm : lc.Perm l)
    (hd : hDown lt j lc = heapifyP lt l)
    (it : IsRangeIter s.heap I (((q : Int) - 1) + (i : Nat) * (-1)) ((q : Int) - (i : Nat)) (-1))
theorem heapify_spec (T : GT w mg mb G) {n : Nat} (r : Room (n + 7) A) (st : Stays G s.heap) {H : Addr} {l : List Value} (hl : PL s.heap H l) (hG : G.get? H = none) {κ : Value → Int × Int}
    (hκ : ∀ v ∈ l, TupI s.heap v (κ v)) (hnd : (l.map κ).Nodup) (hz : l.length < 2 ^ 20) {Q : Value → Shared → Prop}
    (k : ∀ s', Keep [H] s s' → PL s'.heap H (heapifyP (fun a b => plt (κ a) (κ b)) l) → Q .none s') :
    wpAny (model prog w) A (call (.ref 63) [.ref H]) Q E s := by
  refine callFn (S := [H]) (n := n + 7) (binds := [("x", .ref H)]) T st (fun y hy => by rw [List.mem_singleton.mp hy]; exact hG) (fun y hy => by rw [List.mem_singleton.mp hy]; exact hl.there) r
    (by rfl) (by kernel_rfl!) (.of_eq (by rfl)) (locs (by kernel_rfl!)) (by decide) (fun L s₁ c k0 => ?_)
  have hl1 : PL s₁.heap H l := hl.kp k0 (fun q => nomatch q)
  have hS : ∀ a ∈ [H], ∃ its, s.heap.IsList a its := fun a ha => by rw [List.mem_singleton.mp ha]; exact ⟨_, hl.isList⟩
  refine seq (Cx.asg (callN (c.ldB T (g_len T).1 (g_len T).2) (arg (c.ld rfl (arg0 (lenL hl1 hz fun t3 _ => ⟨_, _, c.tk, fun s₂ c₂ e₂ => ?_⟩))))))
  have hl2 := c.listL hl1 e₂
  refine seq (wpAny_For (callN (c₂.ldB T (g_reversed T).1 (g_reversed T).2) (arg (callN (c₂.ldB T (g_range T).1 (g_range T).2) (arg (wpAny_BinOp (c₂.ld rfl (eInt fun _ _ => iDiv (by decide) (PyProof.noPylong_small (by lia)) fun _ _ => arg0 ?_))))))))
  obtain ⟨q, hq⟩ : ∃ q : Nat, q = l.length / 2 := ⟨_, rfl⟩
  have hq' : (l.length : Int).fdiv 2 = q := by rw [Int.fdiv_eq_ediv_of_nonneg _ (by decide), hq]; lia
  rw [hq']
  refine rangeN fun rr _ _ _ s₃ k3 hr hnr => arg0 (revRange hr (by lia) fun I s₄ k4 hI hnI => wpAny_pyIter_rangeiter hI ?_)
  have c₃ := c₂.tk.keep0 k3
  have c₄ := c₃.keep0 k4
  have hl4 : PL s₄.heap H l := k4.pl0 (k3.pl0 hl2)
  have hIn : s.heap.get? I = none := c₃.fresh hnI
  have hIH : I ≠ H := fun e => by obtain ⟨o, ho⟩ := hl.there; rw [← e, hIn] at ho; cases ho
  have W := Walks.range (prog := prog) (w := w) (A := A.deeper c₂.theEnv) r.hn I ((q : Int) - 1) (-1) q
  refine forLoopF (HpI G s _ H I (fun a b => plt (κ a) (κ b)) l q) q
    ⟨0, l, _, by lia, c₄, rfl, hl4, .refl _, by unfold heapifyP; rw [hq], by simpa using hI⟩ ?_
  rintro J hJ j s' ⟨i, lc, m, hij, c', m1, hlc, hperm, hd, hI'⟩
  have hlen := hperm.length_eq
  by_cases hj : 0 < j
  · refine W.item i s' _ _ (by lia) hI' fun v h' tk' hv hI2 hk2 => ?_
    obtain ⟨t9, rfl⟩ := hv
    have k2 : Keep [I] s' { s' with heap := h', toks := tk' } := ⟨⟨_, _, rfl⟩, fun b o e q => hk2 b o q e⟩
    have c2 : Cx G [H] s _ m (fun _ => none) [] { s' with heap := h', toks := tk' } := c'.after k2 (fun a ha => by rw [List.mem_singleton.mp ha]; exact ⟨.inr hIn, rangeIter_plain hI'⟩) (fun a ha hb => by rw [List.mem_singleton.mp ha] at hb; exact absurd (List.mem_singleton.mp hb) hIH) (fun _ q => nomatch q)
    have hl2' : PL h' H lc := k2.pl (fun e => hIH (List.mem_singleton.mp e).symm) hlc
    refine wpAny_pure (wpAny_assign_Name (c2.sto fun s₅ c₅ e₅ => ?_))
    have hl5 := c2.listL hl2' e₅
    have hI5 : IsRangeIter s₅.heap I (((q : Int) - 1) + ((i + 1 : Nat) : Nat) * (-1)) ((q : Int) - ((i + 1 : Nat) : Nat)) (-1) := sameBut_keep e₅ (c2.neL (rangeIter_plain hI2).choose_spec.1 (rangeIter_plain hI2).choose_spec.2) hI2
    refine seq (wpAny_Expr_any (callF (f := 91) (c₅.ldG T (g_siftup T)) (arg (c₅.ld m1 (arg (c₅.ld rfl (arg0 ⟨⟨c₅.stay _ _ (T.k _ _ (by rfl)), rfl⟩, ?_⟩)))))))
    refine siftup_spec T (n := n) (κ := κ) (pos := j - 1) (r.deeper _ |>.less (by lia)) c₅.stay hl5 hG (fun v hv => (hκ v (hperm.mem_iff.mp hv)).keepL c₅.kp hS) ((hperm.map κ).nodup_iff.mpr hnd) (by lia) (by lia) (by lia) fun s₆ k6 hl6 => ?_
    refine wpAny_execs_nil ⟨j - 1, by lia, hJ _ _ ⟨i + 1, _, _, by lia, c₅.after k6 (fun a ha => by rw [List.mem_singleton.mp ha]; exact ⟨.inl (.head _), hl5.plain⟩) (fun a ha _ => by rw [List.mem_singleton.mp ha]; exact hl6.there) (fun _ q => nomatch q), m1, hl6, (siftup_perm _ _).trans hperm, ?_, k6.keep _ _ hI5 (fun e => hIH (List.mem_singleton.mp e))⟩⟩
    rw [← hd]
    obtain ⟨j', rfl⟩ : ∃ j', j = j' + 1 := ⟨j - 1, by lia⟩
    rfl
  · have hj0 : j = 0 := by lia
    subst hj0
    have hiq : i = q := by lia
    subst hiq
    refine W.done s' _ _ hI' fun h' tk' hk2 => ?_
    have k2 : Keep [I] s' { s' with heap := h', toks := tk' } := ⟨⟨_, _, rfl⟩, fun b o e q => hk2 b o q e⟩
    have c2 : Cx G [H] s _ m (fun _ => none) [] { s' with heap := h', toks := tk' } := c'.after k2 (fun a ha => by rw [List.mem_singleton.mp ha]; exact ⟨.inr hIn, rangeIter_plain hI'⟩) (fun a ha hb => by rw [List.mem_singleton.mp ha] at hb; exact absurd (List.mem_singleton.mp hb) hIH) (fun _ q => nomatch q)
    refine wpAny_execs_nil (k _ c2.kp ?_)
    have hl2' : PL h' H lc := k2.pl (fun e => hIH (List.mem_singleton.mp e).symm) hlc
    have e : lc = heapifyP (fun a b => plt (κ a) (κ b)) l := hd
    rw [← e]
    exact hl2'
end
end Mine
end
section
open PySem PySem.W PyProof.Rows PySem.Calls
set_option maxRecDepth 100000
namespace Mine

section
variable {w : World} {prog : Program} {mg mb : Str → Option Value} {G : Heap} {A : Around} {E : Value → Shared → Prop} {s : Shared}

theorem heapify_max_spec (T : GT w mg mb G) {n : Nat} (r : Room (n + 7) A) (st : Stays G s.heap) {H : Addr} {l : List Value} (hl : PL s.heap H l) (hG : G.get? H = none) {κ : Value → Int × Int}
    (hκ : ∀ v ∈ l, TupI s.heap v (κ v)) (hnd : (l.map κ).Nodup) (hz : l.length < 2 ^ 20) {Q : Value → Shared → Prop}
    (k : ∀ s', Keep [H] s s' → PL s'.heap H (heapifyP (fun a b => plt (κ b) (κ a)) l) → Q .none s') :
    wpAny (model prog w) A (call (.ref 77) [.ref H]) Q E s := by
  refine callFn (S := [H]) (n := n + 7) (binds := [("x", .ref H)]) T st (fun y hy => by rw [List.mem_singleton.mp hy]; exact hG) (fun y hy => by rw [List.mem_singleton.mp hy]; exact hl.there) r
    (by rfl) (by kernel_rfl!) (.of_eq (by rfl)) (locs (by kernel_rfl!)) (by decide) (fun L s₁ c k0 => ?_)
  have hl1 : PL s₁.heap H l := hl.kp k0 (fun q => nomatch q)
  have hS : ∀ a ∈ [H], ∃ its, s.heap.IsList a its := fun a ha => by rw [List.mem_singleton.mp ha]; exact ⟨_, hl.isList⟩
  refine seq (Cx.asg (callN (c.ldB T (g_len T).1 (g_len T).2) (arg (c.ld rfl (arg0 (lenL hl1 hz fun t3 _ => ⟨_, _, c.tk, fun s₂ c₂ e₂ => ?_⟩))))))
  have hl2 := c.listL hl1 e₂
  refine seq (wpAny_For (callN (c₂.ldB T (g_reversed T).1 (g_reversed T).2) (arg (callN (c₂.ldB T (g_range T).1 (g_range T).2) (arg (wpAny_BinOp (c₂.ld rfl (eInt fun _ _ => iDiv (by decide) (PyProof.noPylong_small (by lia)) fun _ _ => arg0 ?_))))))))
  obtain ⟨q, hq⟩ : ∃ q : Nat, q = l.length / 2 := ⟨_, rfl⟩
  have hq' : (l.length : Int).fdiv 2 = q := by rw [Int.fdiv_eq_ediv_of_nonneg _ (by decide), hq]; lia
  rw [hq']
  refine rangeN fun rr _ _ _ s₃ k3 hr hnr => arg0 (revRange hr (by lia) fun I s₄ k4 hI hnI => wpAny_pyIter_rangeiter hI ?_)
  have c₃ := c₂.tk.keep0 k3
  have c₄ := c₃.keep0 k4
  have hl4 : PL s₄.heap H l := k4.pl0 (k3.pl0 hl2)
  have hIn : s.heap.get? I = none := c₃.fresh hnI
  have hIH : I ≠ H := fun e => by obtain ⟨o, ho⟩ := hl.there; rw [← e, hIn] at ho; cases ho
  have W := Walks.range (prog := prog) (w := w) (A := A.deeper c₂.theEnv) r.hn I ((q : Int) - 1) (-1) q
  refine forLoopF (HpI G s _ H I (fun a b => plt (κ b) (κ a)) l q) q
    ⟨0, l, _, by lia, c₄, rfl, hl4, .refl _, by unfold heapifyP; rw [hq], by simpa using hI⟩ ?_
  rintro J hJ j s' ⟨i, lc, m, hij, c', m1, hlc, hperm, hd, hI'⟩
  have hlen := hperm.length_eq
  by_cases hj : 0 < j
  · refine W.item i s' _ _ (by lia) hI' fun v h' tk' hv hI2 hk2 => ?_
    obtain ⟨t9, rfl⟩ := hv
    have k2 : Keep [I] s' { s' with heap := h', toks := tk' } := ⟨⟨_, _, rfl⟩, fun b o e q => hk2 b o q e⟩
    have c2 : Cx G [H] s _ m (fun _ => none) [] { s' with heap := h', toks := tk' } := c'.after k2 (fun a ha => by rw [List.mem_singleton.mp ha]; exact ⟨.inr hIn, rangeIter_plain hI'⟩) (fun a ha hb => by rw [List.mem_singleton.mp ha] at hb; exact absurd (List.mem_singleton.mp hb) hIH) (fun _ q => nomatch q)
    have hl2' : PL h' H lc := k2.pl (fun e => hIH (List.mem_singleton.mp e).symm) hlc
    refine wpAny_pure (wpAny_assign_Name (c2.sto fun s₅ c₅ e₅ => ?_))
    have hl5 := c2.listL hl2' e₅
    have hI5 : IsRangeIter s₅.heap I (((q : Int) - 1) + ((i + 1 : Nat) : Nat) * (-1)) ((q : Int) - ((i + 1 : Nat) : Nat)) (-1) := sameBut_keep e₅ (c2.neL (rangeIter_plain hI2).choose_spec.1 (rangeIter_plain hI2).choose_spec.2) hI2
    refine seq (wpAny_Expr_any (callF (f := 105) (c₅.ldG T (g_siftup_max T)) (arg (c₅.ld m1 (arg (c₅.ld rfl (arg0 ⟨⟨c₅.stay _ _ (T.k _ _ (by rfl)), rfl⟩, ?_⟩)))))))
    refine siftup_max_spec T (n := n) (κ := κ) (pos := j - 1) (r.deeper _ |>.less (by lia)) c₅.stay hl5 hG (fun v hv => (hκ v (hperm.mem_iff.mp hv)).keepL c₅.kp hS) ((hperm.map κ).nodup_iff.mpr hnd) (by lia) (by lia) (by lia) fun s₆ k6 hl6 => ?_
    refine wpAny_execs_nil ⟨j - 1, by lia, hJ _ _ ⟨i + 1, _, _, by lia, c₅.after k6 (fun a ha => by rw [List.mem_singleton.mp ha]; exact ⟨.inl (.head _), hl5.plain⟩) (fun a ha _ => by rw [List.mem_singleton.mp ha]; exact hl6.there) (fun _ q => nomatch q), m1, hl6, (siftup_perm _ _).trans hperm, ?_, k6.keep _ _ hI5 (fun e => hIH (List.mem_singleton.mp e))⟩⟩
    rw [← hd]
    obtain ⟨j', rfl⟩ : ∃ j', j = j' + 1 := ⟨j - 1, by lia⟩
    rfl
  · have hj0 : j = 0 := by lia
    subst hj0
    have hiq : i = q := by lia
    subst hiq
    refine W.done s' _ _ hI' fun h' tk' hk2 => ?_
    have k2 : Keep [I] s' { s' with heap := h', toks := tk' } := ⟨⟨_, _, rfl⟩, fun b o e q => hk2 b o q e⟩
    have c2 : Cx G [H] s _ m (fun _ => none) [] { s' with heap := h', toks := tk' } := c'.after k2 (fun a ha => by rw [List.mem_singleton.mp ha]; exact ⟨.inr hIn, rangeIter_plain hI'⟩) (fun a ha hb => by rw [List.mem_singleton.mp ha] at hb; exact absurd (List.mem_singleton.mp hb) hIH) (fun _ q => nomatch q)
    refine wpAny_execs_nil (k _ c2.kp ?_)
    have hl2' : PL h' H lc := k2.pl (fun e => hIH (List.mem_singleton.mp e).symm) hlc
    have e : lc = heapifyP (fun a b => plt (κ b) (κ a)) l := hd
    rw [← e]
    exact hl2'

theorem heapreplace_spec (T : GT w mg mb G) {n : Nat} (r : Room (n + 7) A) (st : Stays G s.heap) {H : Addr} {l : List Value} (hl : PL s.heap H l) (hG : G.get? H = none) {κ : Value → Int × Int} {x v : Value} (hv : l[0]? = some v)
    (hκ : ∀ v ∈ l.set 0 x, TupI s.heap v (κ v)) (hnd : ((l.set 0 x).map κ).Nodup) (hz : l.length < 2 ^ 20) {Q : Value → Shared → Prop}
    (k : ∀ s', Keep [H] s s' → PL s'.heap H (replaceP (fun a b => plt (κ a) (κ b)) l x) → Q v s') :
    wpAny (model prog w) A (call (.ref 56) [.ref H, x]) Q E s := by
  refine callFn (S := [H]) (n := n + 7) (binds := [("heap", .ref H), ("item", x)]) T st (fun y hy => by rw [List.mem_singleton.mp hy]; exact hG) (fun y hy => by rw [List.mem_singleton.mp hy]; exact hl.there) r
    (by rfl) (by kernel_rfl!) (.of_eq (by rfl)) (locs (by kernel_rfl!)) (by decide) (fun L s₁ c k0 => ?_)
  have hl1 : PL s₁.heap H l := hl.kp k0 (fun q => nomatch q)
  have hS : ∀ a ∈ [H], ∃ its, s.heap.IsList a its := fun a ha => by rw [List.mem_singleton.mp ha]; exact ⟨_, hl.isList⟩
  have hlen := (List.getElem?_eq_some_iff.mp hv).1
  refine seq (Cx.asg (Subscript_ (c.ld rfl (eInt fun _ _ => itemL (s := tk _ _) hl1 (j := 0) rfl hv hz ⟨_, _, c.tk, fun s₂ c₂ e₂ => ?_⟩))))
  have hl2 := c.listL hl1 e₂
  refine seq (wpAny_Assign_Subscript (c₂.ld rfl (c₂.ld rfl (eInt fun _ _ => c₂.tk.setL (j := 0) hl2 (.inl (.head _)) rfl hlen hz (fun _ q => nomatch q) fun s₃ c₃ hl3 e₃ => ?_))))
  refine seq (wpAny_Expr_any (callF (f := 91) (c₃.ldG T (g_siftup T)) (arg (c₃.ld rfl (arg (eInt fun _ u9 => arg0 ⟨⟨c₃.stay _ _ (T.k _ _ (by rfl)), rfl⟩, ?_⟩))))))
  refine siftup_spec T (s := tk s₃ u9) (n := n) (κ := κ) (pos := 0) (pI := 0) (r.deeper _ |>.less (by lia)) c₃.tk.stay hl3 hG (fun v hv => (hκ v hv).keepL c₃.tk.kp hS) hnd (by rw [List.length_set]; exact hz) rfl (by rw [List.length_set]; exact hlen) fun s₄ k4 hl4 => ?_
  have c₄ := c₃.tk.after k4 (fun a ha => by rw [List.mem_singleton.mp ha]; exact ⟨.inl (.head _), hl3.plain⟩) (fun a ha _ => by rw [List.mem_singleton.mp ha]; exact hl4.there) (news' := []) (fun _ q => nomatch q)
  exact seq (wpAny_Return_some (c₄.ld rfl (k _ c₄.kp hl4)))

theorem heapreplace_max_spec (T : GT w mg mb G) {n : Nat} (r : Room (n + 7) A) (st : Stays G s.heap) {H : Addr} {l : List Value} (hl : PL s.heap H l) (hG : G.get? H = none) {κ : Value → Int × Int} {x v : Value} (hv : l[0]? = some v)
    (hκ : ∀ v ∈ l.set 0 x, TupI s.heap v (κ v)) (hnd : ((l.set 0 x).map κ).Nodup) (hz : l.length < 2 ^ 20) {Q : Value → Shared → Prop}
    (k : ∀ s', Keep [H] s s' → PL s'.heap H (replaceP (fun a b => plt (κ b) (κ a)) l x) → Q v s') :
    wpAny (model prog w) A (call (.ref 70) [.ref H, x]) Q E s := by
  refine callFn (S := [H]) (n := n + 7) (binds := [("heap", .ref H), ("item", x)]) T st (fun y hy => by rw [List.mem_singleton.mp hy]; exact hG) (fun y hy => by rw [List.mem_singleton.mp hy]; exact hl.there) r
    (by rfl) (by kernel_rfl!) (.of_eq (by rfl)) (locs (by kernel_rfl!)) (by decide) (fun L s₁ c k0 => ?_)
  have hl1 : PL s₁.heap H l := hl.kp k0 (fun q => nomatch q)
  have hS : ∀ a ∈ [H], ∃ its, s.heap.IsList a its := fun a ha => by rw [List.mem_singleton.mp ha]; exact ⟨_, hl.isList⟩
  have hlen := (List.getElem?_eq_some_iff.mp hv).1
  refine seq (Cx.asg (Subscript_ (c.ld rfl (eInt fun _ _ => itemL (s := tk _ _) hl1 (j := 0) rfl hv hz ⟨_, _, c.tk, fun s₂ c₂ e₂ => ?_⟩))))
  have hl2 := c.listL hl1 e₂
  refine seq (wpAny_Assign_Subscript (c₂.ld rfl (c₂.ld rfl (eInt fun _ _ => c₂.tk.setL (j := 0) hl2 (.inl (.head _)) rfl hlen hz (fun _ q => nomatch q) fun s₃ c₃ hl3 e₃ => ?_))))
  refine seq (wpAny_Expr_any (callF (f := 105) (c₃.ldG T (g_siftup_max T)) (arg (c₃.ld rfl (arg (eInt fun _ u9 => arg0 ⟨⟨c₃.stay _ _ (T.k _ _ (by rfl)), rfl⟩, ?_⟩))))))
  refine siftup_max_spec T (s := tk s₃ u9) (n := n) (κ := κ) (pos := 0) (pI := 0) (r.deeper _ |>.less (by lia)) c₃.tk.stay hl3 hG (fun v hv => (hκ v hv).keepL c₃.tk.kp hS) hnd (by rw [List.length_set]; exact hz) rfl (by rw [List.length_set]; exact hlen) fun s₄ k4 hl4 => ?_
  have c₄ := c₃.tk.after k4 (fun a ha => by rw [List.mem_singleton.mp ha]; exact ⟨.inl (.head _), hl3.plain⟩) (fun a ha _ => by rw [List.mem_singleton.mp ha]; exact hl4.there) (news' := []) (fun _ q => nomatch q)
  exact seq (wpAny_Return_some (c₄.ld rfl (k _ c₄.kp hl4)))

theorem dropLast_arr (l : List Value) : l.toArray.eraseIdxIfInBounds (l.length - 1) = l.dropLast.toArray := by
  rw [← List.eraseIdx_length_sub_one]
  simp

theorem listPop {c : Nat} {a : Addr} {l : List Value} {y : Value} {pos : Pos} {Q : Value → Shared → Prop} (hl : PL s.heap a l) (hy : l.getLast? = some y) (hz : l.length < 2 ^ 20)
    (h : ∀ h', PL h' a l.dropLast → Heap.SameBut a s.heap h' → Q y { s with heap := h' }) : wpAny (model prog w) A (callWith pos (.builtin "list.pop") [.ref a] [] []) Q E s := by
  obtain ⟨n, ho⟩ := id hl
  have hne : l ≠ [] := fun e => by rw [e] at hy; cases hy
  have hs : l.toArray.size = l.length := by simp
  refine PySem.P.pop_list (items := l.toArray) (n := n) ho ?_ (h _ ?_ (Heap.SameBut.update ..)) (by rw [hs, sizeLine_eq]; lia)
  · rw [hs, List.getElem?_toArray, ← List.getLast?_eq_getElem?]; exact hy
  · refine hl.update _ ?_
    show l.toArray.eraseIdxIfInBounds (l.toArray.size - 1) = _
    rw [hs, dropLast_arr]

theorem heappop_spec (T : GT w mg mb G) {n : Nat} (r : Room (n + 7) A) (st : Stays G s.heap) {H : Addr} {l : List Value} (hl : PL s.heap H l) (hG : G.get? H = none) {κ : Value → Int × Int} {v : Value} (hv : l[0]? = some v)
    (hκ : ∀ v ∈ l, TupI s.heap v (κ v)) (hnd : (l.map κ).Nodup) (hz : l.length < 2 ^ 20) {Q : Value → Shared → Prop}
    (k : ∀ s', Keep [H] s s' → PL s'.heap H (popRest (fun a b => plt (κ a) (κ b)) l) → Q v s') :
    wpAny (model prog w) A (call (.ref 49) [.ref H]) Q E s := by
  refine callFn (S := [H]) (n := n + 7) (binds := [("heap", .ref H)]) T st (fun y hy => by rw [List.mem_singleton.mp hy]; exact hG) (fun y hy => by rw [List.mem_singleton.mp hy]; exact hl.there) r
    (by rfl) (by kernel_rfl!) (.of_eq (by rfl)) (locs (by kernel_rfl!)) (by decide) (fun L s₁ c k0 => ?_)
  have hl1 : PL s₁.heap H l := hl.kp k0 (fun q => nomatch q)
  have hS : ∀ a ∈ [H], ∃ its, s.heap.IsList a its := fun a ha => by rw [List.mem_singleton.mp ha]; exact ⟨_, hl.isList⟩
  have hlen := (List.getElem?_eq_some_iff.mp hv).1
  have hne : l ≠ [] := fun e => by rw [e] at hv; cases hv
  obtain ⟨x, hx⟩ : ∃ x, l.getLast? = some x := ⟨_, List.getLast?_eq_some_getLast hne⟩
  have hdl : l.dropLast ++ [x] = l := by
    rw [List.getLast?_eq_some_getLast hne] at hx; cases hx
    exact List.dropLast_concat_getLast hne
  obtain ⟨nH, hoH⟩ := id hl1
  refine seq (Cx.asg (MethodCall_ (pl := do return (← importBound _ _).getD true) (c.ld rfl (getMethod_list_of PySem.F.slot_list_pop PySem.F.type_list_pop hl1.isList ⟨_, hoH, rfl⟩ (listPop (c := 0) hl1 hx hz fun h' hl2 e₂ => ⟨_, _, c.upL (t := s₁.toks) hl1 (.inl (.head _)) (fun _ q => nomatch q) hl2 e₂, fun s₃ c₃ e₃ => ?_⟩)))))
  have hl3 : PL s₃.heap H l.dropLast := (c.upL (t := s₁.toks) hl1 (.inl (.head _)) (fun _ q => nomatch q) hl2 e₂).listL hl2 e₃
  have hz3 : l.dropLast.length < 2 ^ 20 := by rw [List.length_dropLast]; lia
  refine seq (wpAny_If (wpAny_isTrue_value (c₃.ld rfl (wpAny_truthy_list hl3.isList (by rw [List.size_toArray]; lia) ?_))))
  cases hd : l.dropLast with
  | nil =>
    rw [if_neg (by simp)]
    refine wpAny_execs_nil (seq (wpAny_Return_some (c₃.tk.ld rfl ?_)))
    have hlx : l = [x] := by rw [← hdl, hd]; rfl
    have hvx : x = v := by rw [hlx] at hv; cases hv; rfl
    subst hvx
    refine k _ c₃.tk.kp ?_
    have e : popRest (fun a b => plt (κ a) (κ b)) l = [] := by rw [hlx]; rfl
    rw [e, ← hd]
    exact hl3
  | cons b rr =>
    rw [hd] at hl3
    rw [if_pos (by simp)]
    have e : l = b :: (rr ++ [x]) := by rw [← hdl, hd]; rfl
    have hvb : v = b := by rw [e] at hv; cases hv; rfl
    subst hvb
    have hperm : ((v :: rr).set 0 x).Perm (rr ++ [x]) := (List.perm_append_singleton x rr).symm
    have hsub : ∀ y ∈ (v :: rr).set 0 x, y ∈ l := fun y hy => by rw [e]; exact .tail _ (hperm.mem_iff.mp hy)
    have hnd' : (((v :: rr).set 0 x).map κ).Nodup := (hperm.map κ).nodup_iff.mpr (by rw [e] at hnd; exact (List.nodup_cons.mp hnd).2)
    have hz4 : (v :: rr).length < 2 ^ 20 := by rw [← hd]; exact hz3
    refine seq (Cx.asg (Subscript_ (c₃.tk.ld rfl (eInt fun _ _ => itemL (s := tk _ _) (l := v :: rr) hl3 (j := 0) rfl rfl hz4 ⟨_, _, c₃.tk.tk, fun s₄ c₄ e₄ => ?_⟩))))
    have hl4 : PL s₄.heap H (v :: rr) := c₃.listL hl3 e₄
    refine seq (wpAny_Assign_Subscript (c₄.ld rfl (c₄.ld rfl (eInt fun _ _ => c₄.tk.setL (j := 0) hl4 (.inl (.head _)) rfl (by simp) hz4 (fun _ q => nomatch q) fun s₅ c₅ hl5 e₅ => ?_))))
    refine seq (wpAny_Expr_any (callF (f := 91) (c₅.ldG T (g_siftup T)) (arg (c₅.ld rfl (arg (eInt fun _ u9 => arg0 ⟨⟨c₅.stay _ _ (T.k _ _ (by rfl)), rfl⟩, ?_⟩))))))
    refine siftup_spec T (s := tk s₅ u9) (n := n) (κ := κ) (pos := 0) (pI := 0) (r.deeper _ |>.less (by lia)) c₅.tk.stay hl5 hG (fun y hy => (hκ y (hsub y hy)).keepL c₅.tk.kp hS) hnd' (by rw [List.length_set]; exact hz4) rfl (by simp) fun s₆ k6 hl6 => ?_
    have c₆ := c₅.tk.after k6 (fun a ha => by rw [List.mem_singleton.mp ha]; exact ⟨.inl (.head _), hl5.plain⟩) (fun a ha _ => by rw [List.mem_singleton.mp ha]; exact hl6.there) (news' := []) (fun _ q => nomatch q)
    refine seq (wpAny_Return_some (c₆.ld rfl (k _ c₆.kp ?_)))
    have e2 : popRest (fun a b => plt (κ a) (κ b)) l = replaceP (fun a b => plt (κ a) (κ b)) (v :: rr) x := by unfold popRest; rw [hx, hd]
    rw [e2]
    exact hl6
end
end Mine
end
section
open PySem PySem.W PyProof.Rows PySem.Calls
set_option maxRecDepth 100000
namespace Mine

/-- v is a tuple of the ints ns -/
noncomputable def TI (h : Heap) (v : Value) (ns : List Int) : Prop := ∃ a vs, v = .ref a ∧ IsTup h a (List.toArray vs) ∧ IntsAre vs ns

theorem intsAre_get {vs : List Value} {ns : List Int} (h : IntsAre vs ns) : ∀ (i : Nat) (n : Int), ns[i]? = some n → ∃ t, vs[i]? = some (.int n t) := by
  induction h with
  | nil => intro i n e; cases e
  | cons n t _ ih =>
    intro i k e
    cases i with
    | zero => cases e; exact ⟨t, rfl⟩
    | succ i => exact ih i k e
theorem intsAre_len {vs : List Value} {ns : List Int} (h : IntsAre vs ns) : vs.length = ns.length := by
  induction h with
  | nil => rfl
  | cons n t _ ih => simp [ih]

theorem keep_ext {s : Shared} {h' : Heap} {t : Nat} (he : Heap.ExtBut s.heap.objs.size s.heap h') : Keep [] s { s with heap := h', toks := t } :=
  ⟨⟨_, _, rfl⟩, fun b o e _ => he b o (Nat.ne_of_lt (Heap.lt_size e)) e⟩

theorem IsTup.kp {S : List Addr} {s s' : Shared} {a : Addr} {its : Array Value} (k : Keep S s s') (hS : a ∉ S) (x : IsTup s.heap a its) : IsTup s'.heap a its := by
  obtain ⟨o, ho, r⟩ := x; exact ⟨o, k.keep _ _ ho hS, r⟩
theorem TI.kp0 {s s' : Shared} {v : Value} {ns : List Int} (k : Keep [] s s') (x : TI s.heap v ns) : TI s'.heap v ns := by
  obtain ⟨a, vs, e, h1, h2⟩ := x; exact ⟨a, vs, e, IsTup.kp k (fun q => nomatch q) h1, h2⟩
/-- what changes is no tuple -/
theorem TI.kpN {S : List Addr} {s s' : Shared} {v : Value} {ns : List Int} (k : Keep S s s') (hS : ∀ a ∈ S, ∀ o, s.heap.get? a = some o → o.cls ≠ .type "tuple") (x : TI s.heap v ns) : TI s'.heap v ns := by
  obtain ⟨a, vs, e, ⟨o, ho, hc, r⟩, h2⟩ := x
  exact ⟨a, vs, e, ⟨o, k.keep _ _ ho fun q => hS a q o ho hc, hc, r⟩, h2⟩

section
variable {w : World} {prog : Program} {mg mb : Str → Option Value} {G : Heap} {A : Around} {E : Value → Shared → Prop} {S : List Addr} {s0 s : Shared} {env : Env} {m cm : Str → Option Value} {news : List (Addr × Obj)}

/-- an item of a tuple -/
theorem itemT {value slice : Expr} {a : Addr} {l : List Value} {k : Int} {j : Nat} {x : Value} {t : Tok} {Q : Value → Shared → Prop} (hl : IsTup s.heap a l.toArray) (hk : k = j) (hx : l[j]? = some x) (hz : l.length < 2 ^ 20) (h : Q x s)
    (hs : subscripted slice false (.ref a) (.int k t) = operate [.ref a, .int k t] (getItem (.ref a) (.int k t)) := by rfl) :
    wpAny (model prog w) A (subscriptTail value slice (.ref a) (.int k t)) Q E s := by
  have hj : j < l.length := (List.getElem?_eq_some_iff.mp hx).1
  refine tail_any hl.typeIs slot_tuple_getitem.lookup (getItem_tuple (j := j) hl (by lia) (by lia) ?_ (by simpa using hx) h) hs
  rw [seqIndex_of (by lia) (by rw [List.size_toArray]; lia), hk]
  rfl

/-- an item of a tuple of ints -/
theorem itemI {value slice : Expr} {v : Value} {ns : List Int} {k : Int} {j : Nat} {n : Int} {t : Tok} {Q : Value → Shared → Prop} (hv : TI s.heap v ns) (hk : k = j) (hx : ns[j]? = some n) (hz : ns.length < 2 ^ 20) (h : ∀ t, Q (.int n t) s)
    (hs : ∀ a, subscripted slice false (.ref a) (.int k t) = operate [.ref a, .int k t] (getItem (.ref a) (.int k t)) := by intro _; rfl) :
    wpAny (model prog w) A (subscriptTail value slice v (.int k t)) Q E s := by
  obtain ⟨a, vs, rfl, ht, hi⟩ := hv
  obtain ⟨u, hu⟩ := intsAre_get hi j n hx
  exact itemT ht hk hu (by rw [intsAre_len hi]; exact hz) (h u) (hs a)

/-- x, y = a pair -/
theorem Cx.unpack2 (c : Cx G S s0 env m cm [] s) {x y : Str} {px py pos : Pos} {k : Nat} {t : Addr} {v u : Value} {Q : Unit → Shared → Prop} (hh : A.handled = none) (ht : IsTup s.heap t (List.toArray [v, u]))
    (h : ∀ s', Cx G S s0 env (upd (upd m x v) y u) cm [] s' → Keep [env.locals] s s' → Q () s')
    (hx : env.kindOf x = some .local := by rfl) (hy : env.kindOf y = some .local := by rfl) (hp : (env.scope.kind == .class || (env.scope.kind == .module && env.locals != env.globals)) = false := by rfl) :
    wpAny (model prog w) A (assign (.Tuple [.Name x px, .Name y py] k pos) env (.ref t)) Q E s := by
  refine assign_Tuple_tuple hh ht rfl rfl fun h' he => ?_
  have k1 : Keep [] s { s with heap := h' } := keep_ext (t := s.toks) he
  have c1 := c.keep0 k1
  refine assignInOrder_cons (wpAny_assign_Name (c1.sto (fun s₂ c₂ e₂ => assignInOrder_cons (wpAny_assign_Name (c₂.sto (fun s₃ c₃ e₃ => assignInOrder_nil (h _ c₃ ?_)) hy hp))) hx hp))
  refine ⟨?_, fun b o e q => sameBut_keep e₃ (fun z => q (by rw [z]; exact .head _)) (sameBut_keep e₂ (fun z => q (by rw [z]; exact .head _)) (k1.keep b o e (fun q => nomatch q)))⟩
  obtain ⟨h1, t1, q1⟩ := c₃.kp.same
  obtain ⟨h2, t2, q2⟩ := c.kp.same
  rw [q1, q2]; exact ⟨_, _, rfl⟩

theorem Cx.unpack3 (c : Cx G S s0 env m cm [] s) {x y z : Str} {px py pz pos : Pos} {k : Nat} {t : Addr} {v u r : Value} {Q : Unit → Shared → Prop} (hh : A.handled = none) (ht : IsTup s.heap t (List.toArray [v, u, r]))
    (h : ∀ s', Cx G S s0 env (upd (upd (upd m x v) y u) z r) cm [] s' → Keep [env.locals] s s' → Q () s')
    (hx : env.kindOf x = some .local := by rfl) (hy : env.kindOf y = some .local := by rfl) (hzz : env.kindOf z = some .local := by rfl) (hp : (env.scope.kind == .class || (env.scope.kind == .module && env.locals != env.globals)) = false := by rfl) :
    wpAny (model prog w) A (assign (.Tuple [.Name x px, .Name y py, .Name z pz] k pos) env (.ref t)) Q E s := by
  refine assign_Tuple_tuple hh ht rfl rfl fun h' he => ?_
  have k1 : Keep [] s { s with heap := h' } := keep_ext (t := s.toks) he
  have c1 := c.keep0 k1
  refine assignInOrder_cons (wpAny_assign_Name (c1.sto (fun s₂ c₂ e₂ => assignInOrder_cons (wpAny_assign_Name (c₂.sto (fun s₃ c₃ e₃ => assignInOrder_cons (wpAny_assign_Name (c₃.sto (fun s₄ c₄ e₄ => assignInOrder_nil (h _ c₄ ?_)) hzz hp))) hy hp))) hx hp))
  refine ⟨?_, fun b o e q => sameBut_keep e₄ (fun z => q (by rw [z]; exact .head _)) (sameBut_keep e₃ (fun z => q (by rw [z]; exact .head _)) (sameBut_keep e₂ (fun z => q (by rw [z]; exact .head _)) (k1.keep b o e (fun q => nomatch q))))⟩
  obtain ⟨h1, t1, q1⟩ := c₄.kp.same
  obtain ⟨h2, t2, q2⟩ := c.kp.same
  rw [q1, q2]; exact ⟨_, _, rfl⟩

/-- an iterator over a list or a tuple holds on to no tuple of its own -/
theorem noOwned {elts : List Expr} {k : Nat} {pos : Pos} {I : Addr} {v : Value} {o : Obj} {n : String} {Q : Unit → Shared → Prop} (ho : s.heap.get? I = some o) (hc : o.cls = .type n)
    (hn : (["enumerate", "zip", "dict_itemiterator", "dict_reverseitemiterator", "odict_iterator", "itertools.zip_longest", "itertools.pairwise"] : List String).contains n = false) (h : Q () s) :
    wpAny (model prog w) A (letOwnedTupleGo (.Tuple elts k pos) (.ref I) v) Q E s := by
  unfold letOwnedTupleGo
  cases v <;> first | exact wpAny_pure h | skip
  refine wpAny_bind (wpAny_load ho ?_)
  rw [hc]
  cases o.data <;> first | exact wpAny_pure h | skip
  dsimp only
  rw [hn, Bool.false_and, if_neg Bool.false_ne_true]
  exact wpAny_pure h

/-- the judge: an object of TupleComp whose keys are v -/
noncomputable def JudgeAt (h : Heap) (x : Addr) (v : Value) : Prop := ∃ dx hsh t n, h.get? x = some (instObj 38 dx) ∧ h.get? dx = some { cls := .type "dict", data := .dict #[⟨hsh, .str "comp_select_list" t, v⟩] n }
theorem JudgeAt.inst {h : Heap} {x : Addr} {v : Value} (J : JudgeAt h x v) : ∃ dx hsh t n, InstAt h x (instObj 38 dx) 38 (some { cls := .type "dict", data := .dict #[⟨hsh, .str "comp_select_list" t, v⟩] n }) := by
  obtain ⟨dx, hsh, t, n, h1, h2⟩ := J
  exact ⟨dx, hsh, t, n, h1, rfl, rfl, h2⟩
theorem JudgeAt.kp0 {s s' : Shared} {x : Addr} {v : Value} (k : Keep [] s s') (J : JudgeAt s.heap x v) : JudgeAt s'.heap x v := by
  obtain ⟨dx, hsh, t, n, h1, h2⟩ := J
  exact ⟨dx, hsh, t, n, k.keep _ _ h1 (fun q => nomatch q), k.keep _ _ h2 (fun q => nomatch q)⟩

theorem judge_get (T : GT w mg mb G) (st : Stays G s.heap) {x : Addr} {v : Addr} {e : Bool} {Q : Value → Shared → Prop} (J : JudgeAt s.heap x (.ref v)) (h : ∀ u, Q (.ref v) (tk s u)) : wpAny (model prog w) A (getAttr (.ref x) "comp_select_list" e) Q E s := by
  obtain ⟨dx, hsh, t, n, I⟩ := J.inst
  refine get_value (K := KF w.params) (T.k.keeps st) I (by kernel_rfl!) (findObj_own (attr := none) (by kernel_rfl!) (by kernel_rfl!) rfl (by kernel_rfl!)) rfl (h _)
theorem judge_method (T : GT w mg mb G) (st : Stays G s.heap) {x : Addr} {v : Value} {pl : Sem Bool} {Q : Value × List Value → Shared → Prop} (J : JudgeAt s.heap x v) (h : Q (.ref 35, [.ref x]) s) : wpAny (model prog w) A (getMethod (.ref x) "compare" pl) Q E s := by
  obtain ⟨dx, hsh, t, n, I⟩ := J.inst
  exact method_fn (K := KF w.params) (T.k.keeps st) I (by kernel_rfl!) (by kernel_rfl!) (by kernel_rfl!) (by kernel_rfl!) (by kernel_rfl!) h
end
end Mine
end
section
open PySem PySem.W PyProof.Rows PySem.Calls
set_option maxRecDepth 100000
namespace Mine

/-- compare, plain -/
noncomputable def cmpP : List (Int × Int) → List Int → List Int → Int
  | [], _, _ => 0
  | (i, d) :: ks, x, y => if x.getD i.toNat 0 < y.getD i.toNat 0 then -d else if y.getD i.toNat 0 < x.getD i.toNat 0 then d else cmpP ks x y

/-- the values kvs are the pairs keys -/
structure KeysAre (h : Heap) (kvs : List Value) (keys : List (Int × Int)) : Prop where
  len : kvs.length = keys.length
  at_ : ∀ (j : Nat) v p, kvs[j]? = some v → keys[j]? = some p → TI h v [p.1, p.2]
theorem KeysAre.kp0 {s s' : Shared} {kvs : List Value} {keys : List (Int × Int)} (k : Keep [] s s') (x : KeysAre s.heap kvs keys) : KeysAre s'.heap kvs keys := ⟨x.len, fun j v p a b => (x.at_ j v p a b).kp0 k⟩
theorem KeysAre.kpN {S : List Addr} {s s' : Shared} {kvs : List Value} {keys : List (Int × Int)} (k : Keep S s s') (hS : ∀ a ∈ S, ∀ o, s.heap.get? a = some o → o.cls ≠ .type "tuple") (x : KeysAre s.heap kvs keys) : KeysAre s'.heap kvs keys := ⟨x.len, fun j v p a b => (x.at_ j v p a b).kpN k hS⟩

section
variable {w : World} {prog : Program} {mg mb : Str → Option Value} {G : Heap} {A : Around} {E : Value → Shared → Prop} {s : Shared}

inductive CmI (G : Heap) (s0 : Shared) (env : Env) (I tA : Addr) (l rr : Value) (keys : List (Int × Int)) (xs ys : List Int) (j : Nat) (s : Shared) : Prop
  | mk (i : Nat) (m : Str → Option Value)
    (hij : i + j = keys.length)
    (c : Cx G [] s0 env m (fun _ => none) [] s)
    (m1 : m "left" = some l)
    (m2 : m "right" = some rr)
    (it : s.heap.IsTupleIter I tA i)
    (cmp : cmpP (keys.drop i) xs ys = cmpP keys xs ys)
theorem compare_spec (T : GT w mg mb G) {n : Nat} (r : Room (n + 3) A) (st : Stays G s.heap) {x tA : Addr} {kvs : List Value} {keys : List (Int × Int)} (J : JudgeAt s.heap x (.ref tA)) (hT : IsTup s.heap tA kvs.toArray) (hK : KeysAre s.heap kvs keys)
    (hin : ∀ p ∈ keys, 0 ≤ p.1 ∧ p.1 < 4) (hkz : keys.length < 2 ^ 20) {l rr : Value} {xs ys : List Int} (hl : TI s.heap l xs) (hr : TI s.heap rr ys) (hx4 : xs.length = 4) (hy4 : ys.length = 4) {Q : Value → Shared → Prop}
    (k : ∀ t s', Keep [] s s' → Q (.int (cmpP keys xs ys) t) s') :
    wpAny (model prog w) A (call (.ref 35) [.ref x, l, rr]) Q E s := by
  refine callFn (S := []) (n := n + 3) (binds := [("self", .ref x), ("left", l), ("right", rr)]) T st (fun y hy => nomatch hy) (fun y hy => nomatch hy) r
    (by rfl) (by kernel_rfl!) (.of_eq (by rfl)) (locs (by kernel_rfl!)) (by decide) (fun L s₁ c k0 => ?_)
  have hT1 : IsTup s₁.heap tA kvs.toArray := IsTup.kp k0 (fun q => nomatch q) hT
  refine seq (wpAny_For (Attribute_Name_ (c.ld rfl (judge_get T c.stay (J.kp0 k0) fun u1 => wpAny_pyIter_tuple (t := tA) (s := tk s₁ u1) hT1 ?_))))
  obtain ⟨I, hI⟩ : ∃ I, I = s₁.heap.objs.size := ⟨_, rfl⟩
  have kI : Keep [] s₁ { s₁ with heap := s₁.heap.push { cls := .type "tuple_iterator", data := .fields #[.ref tA, .int 0 0] }, toks := u1 } := keep_push
  have c₂ := c.keep0 kI
  generalize hs₂ : ({ s₁ with heap := s₁.heap.push { cls := .type "tuple_iterator", data := .fields #[.ref tA, .int 0 0] }, toks := u1 } : Shared) = s₂ at kI c₂
  have hgoal : ({ tk s₁ u1 with heap := (tk s₁ u1).heap.push { cls := .type "tuple_iterator", data := .fields #[.ref tA, .int 0 0] } } : Shared) = s₂ := hs₂
  rw [hgoal]
  have hit : s₂.heap.IsTupleIter I tA 0 := by rw [← hs₂, hI]; exact ⟨_, Heap.get?_push_size _ rfl, rfl, rfl⟩
  have eI : (tk s₁ u1).heap.objs.size = I := hI.symm
  rw [eI]
  have hIn : s.heap.get? I = none := c.fresh (by rw [hI]; exact new_size _)
  have hIT : tA ≠ I := fun e => by obtain ⟨o, ho, _⟩ := hT; rw [e, hIn] at ho; cases ho
  have W := Walks.tuple (prog := prog) (w := w) (A := A.deeper c.theEnv) r.hn I tA hIT kvs.toArray
  have hsz : kvs.toArray.size = keys.length := by rw [List.size_toArray, hK.len]
  refine forLoopF (CmI G s _ I tA l rr keys xs ys) keys.length ⟨0, _, by lia, c₂, rfl, rfl, hit, rfl⟩ ?_
  rintro J hJ j s' ⟨i, m, hij, c', m1, m2, hit', hcmp⟩
  have hT' : s'.heap.IsTuple tA kvs.toArray := IsTup.kp c'.kp (fun q => nomatch q) hT
  have plainI : ∃ o, s'.heap.get? I = some o ∧ plainObj o := by
    obtain ⟨o, ho, hc, hd⟩ := hit'
    exact ⟨o, ho, (fun _ _ q => by rw [hd] at q; cases q), (fun _ q => by rw [hd] at q; cases q)⟩
  by_cases hj : 0 < j
  · refine W.item i s' _ _ (by lia) ⟨hit', hT'⟩ fun v h' tk' hv st' hk2 => ?_
    obtain ⟨hit2, _⟩ := st'
    have hv' : kvs[i]? = some v := by simpa using hv
    obtain ⟨p, hp⟩ : ∃ p, keys[i]? = some p := ⟨_, List.getElem?_eq_getElem (by lia)⟩
    have k2 : Keep [I] s' { s' with heap := h', toks := tk' } := ⟨⟨_, _, rfl⟩, fun b o e q => hk2 b o q e⟩
    have c2 : Cx G [] s _ m (fun _ => none) [] { s' with heap := h', toks := tk' } := c'.after k2 (fun a ha => by rw [List.mem_singleton.mp ha]; exact ⟨.inr hIn, plainI⟩) (fun a ha hb => nomatch hb) (fun _ q => nomatch q)
    obtain ⟨oI, hoI, hcI, hdI⟩ := id hit2
    refine noOwned (s := { s' with heap := h', toks := tk' }) hoI hcI (by decide) ?_
    obtain ⟨a, vs, rfl, ha, hints⟩ := (hK.at_ i v p hv' hp).kp0 c2.kp
    obtain ⟨t1, t2, rfl⟩ : ∃ t1 t2, vs = [.int p.1 t1, .int p.2 t2] := by
      cases hints with
      | cons _ t1 h1 => cases h1 with
        | cons _ t2 h2 => cases h2; exact ⟨t1, t2, rfl⟩
    refine c2.unpack2 r.hn ha fun s₃ c₃ k3 => ?_
    have hpin := hin p (List.mem_of_getElem? hp)
    obtain ⟨q, hq⟩ : ∃ q : Nat, p.1 = q := ⟨p.1.toNat, by lia⟩
    have hq4 : q < 4 := by lia
    obtain ⟨xv, hxv⟩ : ∃ xv, xs[q]? = some xv := ⟨_, List.getElem?_eq_getElem (by lia)⟩
    obtain ⟨yv, hyv⟩ : ∃ yv, ys[q]? = some yv := ⟨_, List.getElem?_eq_getElem (by lia)⟩
    have hdrop : keys.drop i = p :: keys.drop (i + 1) := by
      rw [List.drop_eq_getElem_cons (by lia)]
      rw [(List.getElem?_eq_some_iff.mp hp).2]
    have hcons : cmpP keys xs ys = if xv < yv then -p.2 else if yv < xv then p.2 else cmpP (keys.drop (i + 1)) xs ys := by
      rw [← hcmp, hdrop]
      show (if xs.getD p.1.toNat 0 < ys.getD p.1.toNat 0 then _ else _) = _
      rw [hq, Int.toNat_natCast, List.getD_eq_getElem?_getD, List.getD_eq_getElem?_getD, hxv, hyv]
      rfl
    have m3 : upd (upd m "index" (.int p.1 t1)) "direction" (.int p.2 t2) "left" = some l := m1
    have m4 : upd (upd m "index" (.int p.1 t1)) "direction" (.int p.2 t2) "right" = some rr := m2
    refine seq (Cx.asg (Subscript_ (c₃.ld m3 (c₃.ld rfl (itemI (hl.kp0 c₃.kp) hq hxv (by lia) fun t3 => ⟨_, _, c₃, fun s₄ c₄ e₄ => ?_⟩)))))
    refine seq (Cx.asg (Subscript_ (c₄.ld m4 (c₄.ld rfl (itemI (hr.kp0 c₄.kp) hq hyv (by lia) fun t4 => ⟨_, _, c₄, fun s₅ c₅ e₅ => ?_⟩)))))
    refine seq (wpAny_If (wpAny_isTrue_Compare1 (c₅.ld rfl (c₅.ld rfl (cLt (wpAny_truthy_bool ?_))))))
    by_cases h1 : xv < yv
    · rw [if_pos (decide_eq_true h1)]
      refine seq (wpAny_Return_some (wpAny_UnaryOp (c₅.ld rfl (iNeg fun t5 u5 => ?_))))
      have := k t5 _ (c₅.tk (t := u5)).kp
      rw [hcons, if_pos h1] at this
      exact this
    · rw [if_neg (by simpa using h1)]
      refine wpAny_execs_nil (seq (wpAny_If (wpAny_isTrue_Compare1 (c₅.ld rfl (c₅.ld rfl (cGt (wpAny_truthy_bool ?_)))))))
      by_cases h2 : yv < xv
      · rw [if_pos (decide_eq_true h2)]
        refine seq (wpAny_Return_some (c₅.ld rfl ?_))
        have := k t2 _ (c₅.kp)
        rw [hcons, if_neg h1, if_pos h2] at this
        exact this
      · rw [if_neg (by simpa using h2)]
        refine wpAny_execs_nil (wpAny_execs_nil ⟨j - 1, by lia, hJ _ _ ⟨i + 1, _, by lia, c₅, m3, m4, ?_, ?_⟩⟩)
        · have hI3 : s₃.heap.get? I = some oI := k3.keep _ _ hoI (fun q => by
            have := List.mem_singleton.mp q
            obtain ⟨oL, es, ep, hL, hd', _⟩ := c2.ns
            rw [← this] at hL
            have hoI' : ({ s' with heap := h', toks := tk' } : Shared).heap.get? I = some oI := hoI
            rw [hoI'] at hL; cases hL; rw [hdI] at hd'; cases hd')
          have neI : ∀ {m : Str → Option Value} {s'' : Shared} (c'' : Cx G [] s c.theEnv m (fun _ => none) [] s''), s''.heap.get? I = some oI → I ≠ c.theEnv.locals := fun c'' ho => c''.neL ho ⟨(fun _ _ q => by rw [hdI] at q; cases q), (fun _ q => by rw [hdI] at q; cases q)⟩
          have hI4 := sameBut_keep e₄ (neI c₃ hI3) hI3
          exact ⟨oI, sameBut_keep e₅ (neI c₄ hI4) hI4, hcI, hdI⟩
        · rw [hcons, if_neg h1, if_neg h2]
  · have hiq : i = keys.length := by lia
    refine W.done s' _ _ ⟨by rw [hsz, ← hiq]; exact hit', hT'⟩ fun h' tk' hk2 => ?_
    have k2 : Keep [I] s' { s' with heap := h', toks := tk' } := ⟨⟨_, _, rfl⟩, fun b o e q => hk2 b o q e⟩
    have c2 : Cx G [] s _ m (fun _ => none) [] { s' with heap := h', toks := tk' } := c'.after k2 (fun a ha => by rw [List.mem_singleton.mp ha]; exact ⟨.inr hIn, plainI⟩) (fun a ha hb => nomatch hb) (fun _ q => nomatch q)
    refine seq (wpAny_Return_some (eInt fun t5 u5 => ?_))
    have := k t5 _ (c2.tk (t := u5)).kp
    rw [← hcmp, hiq, List.drop_length] at this
    exact this
end
end Mine
end
section
open PySem PySem.W PyProof.Rows PySem.Calls
set_option maxRecDepth 100000
namespace Mine

theorem pick_upto (l : List Value) (b : Nat) : slicePick l.toArray none (some (b : Int)) none = (l.take b).toArray := by
  have hs : l.toArray.size = l.length := by simp
  have e : sliceBounds none (some (b : Int)) none l.toArray.size = (((0 : Nat) : Int), ((min b l.length : Nat) : Int), 1) := by
    rw [hs]
    simp only [sliceBounds, Option.getD_none]
    refine Prod.ext rfl (Prod.ext ?_ rfl)
    simp only [gt_iff_lt, Int.zero_lt_one, if_true]
    rw [if_neg (by lia)]
    lia
  rw [kmk_pick_nat _ e]
  congr 1
  show (l.drop 0).take _ = _
  rw [List.drop_zero, Nat.sub_zero, List.take_eq_take_iff]
  lia

section
variable {w : World} {prog : Program} {mg mb : Str → Option Value} {G : Heap} {A : Around} {E : Value → Shared → Prop} {S : List Addr} {s0 s : Shared} {env : Env} {m cm : Str → Option Value} {news : List (Addr × Obj)}

noncomputable def SlAt (h : Heap) (a : Addr) (l u st : Value) : Prop := h.get? a = some { cls := .type "slice", data := .fields #[l, u, st] }

theorem evSlice {M : Model} {lo hi st : Option Expr} {pos : Pos} {Q : Value → Shared → Prop}
    (h : wpAny M A (evalPart lo env) (fun l s₁ => wpAny M A (evalPart hi env) (fun u s₂ => wpAny M A (evalPart st env) (fun t s₃ => ∀ a s', Keep [] s₃ s' → SlAt s'.heap a l u t → s₃.heap.get? a = none → Q (.ref a) s') E s₂) E s₁) E s) :
    wpAny M A (eval (.Slice lo hi st pos) env) Q E s := by
  show wpAny M A (do
    let l ← evalPart lo env
    let u ← holding [l] (evalPart hi env)
    let s ← holding [l, u] (evalPart st env)
    newFields "slice" [l, u, s]) Q E s
  refine wpAny_bind (wpAny_mono h (fun l s₁ h₁ => wpAny_bind (wpAny_holding (wpAny_mono h₁ (fun u s₂ h₂ => wpAny_bind (wpAny_holding (wpAny_mono h₂ (fun t s₃ h₃ => ?_) fun _ _ e => e))) fun _ _ e => e))) fun _ _ e => e)
  exact wpAny_newObj_type (h₃ _ _ (keep_push (t := s₃.toks)) (Heap.get?_push_size _ rfl) (new_size _))

theorem part0 {M : Model} {Q : Value → Shared → Prop} (h : Q .none s) : wpAny M A (evalPart none env) Q E s := wpAny_pure h
theorem part1 {M : Model} {e : Expr} {Q : Value → Shared → Prop} (h : wpAny M A (eval e env) Q E s) : wpAny M A (evalPart (some e) env) Q E s := h

/-- xs[:b] -/
theorem sliceTo {value slice : Expr} {a sl : Addr} {l : List Value} {b : Nat} {bI : Int} {t : Tok} {Q : Value → Shared → Prop} (hl : PL s.heap a l) (hs : SlAt s.heap sl .none (.int bI t) .none) (hb : bI = b) (hz : l.length < 2 ^ 20)
    (h : ∀ D s', Keep [] s s' → PL s'.heap D (l.take b) → s.heap.get? D = none → Q (.ref D) s')
    (he : ∃ ops, subscripted slice false (.ref a) (.ref sl) = operate ops (getItem (.ref a) (.ref sl))) :
    wpAny (model prog w) A (subscriptTail value slice (.ref a) (.ref sl)) Q E s := by
  subst hb
  obtain ⟨ops, he⟩ := he
  refine tail_any hl.isList.typeIs slot_list_getitem.lookup (wpAny_getItem_list_slice hl.isList ⟨_, hs, rfl, rfl⟩ .none (.int _ _) .none (by simp) ?_ (by rw [List.size_toArray, sizeLine_eq]; lia)) he
  rw [pick_upto]
  exact h _ _ (keep_push (t := s.toks)) ⟨0, Heap.get?_push_size _ rfl⟩ (new_size _)

/-- xs[::-1] -/
theorem sliceRev {value slice : Expr} {a sl : Addr} {l : List Value} {t : Tok} {Q : Value → Shared → Prop} (hl : PL s.heap a l) (hs : SlAt s.heap sl .none .none (.int (-1) t)) (hz : l.length < 2 ^ 20)
    (h : ∀ D s', Keep [] s s' → PL s'.heap D l.reverse → s.heap.get? D = none → Q (.ref D) s')
    (he : ∃ ops, subscripted slice false (.ref a) (.ref sl) = operate ops (getItem (.ref a) (.ref sl))) :
    wpAny (model prog w) A (subscriptTail value slice (.ref a) (.ref sl)) Q E s := by
  obtain ⟨ops, he⟩ := he
  refine tail_any hl.isList.typeIs slot_list_getitem.lookup (wpAny_getItem_list_slice hl.isList ⟨_, hs, rfl, rfl⟩ .none .none (.int _ _) (by simp) ?_ (by rw [List.size_toArray, sizeLine_eq]; lia)) he
  rw [krv_pick]
  exact h _ _ (keep_push (t := s.toks)) ⟨0, Heap.get?_push_size _ rfl⟩ (new_size _)

/-- where range(4)[::d] starts -/
noncomputable def r4 (d : Int) : Int := if d = 1 then 0 else 3

theorem mkGrown {i : Int} (hi : i.natAbs < 1000) {M : Model} {Q : Value → Shared → Prop} (h : Q (.int i s.toks) { s with toks := s.toks + 1 }) : wpAny M A (mkIntGrown i) Q E s := by
  unfold mkIntGrown
  rw [if_neg ?_]
  · exact wpAny_mkInt h
  · have : i.natAbs.log2 < 10 := by
      by_cases h0 : i.natAbs = 0
      · rw [h0]; decide
      · exact (Nat.log2_lt h0).mpr (by lia)
    have e : (10 : Nat) ≤ bitsLine := by decide +kernel
    lia

/-- range(4)[::d], d = 1 or -1 -/
theorem rangeSl {value slice : Expr} {r sl : Addr} {d : Int} {t u v t2 : Tok} {Q : Value → Shared → Prop} (hr : IsRange s.heap r 0 4 1 t u v) (hs : SlAt s.heap sl .none .none (.int d t2)) (hd : d = 1 ∨ d = -1)
    (h : ∀ R e t u v s', Keep [] s s' → IsRange s'.heap R (r4 d) e d t u v → Builtin.Range.small (r4 d) e d = true → Builtin.Range.rangeSize (r4 d) e d = 4 → s.heap.get? R = none → Q (.ref R) s')
    (he : ∃ ops, subscripted slice false (.ref r) (.ref sl) = operate ops (getItem (.ref r) (.ref sl))) :
    wpAny (model prog w) A (subscriptTail value slice (.ref r) (.ref sl)) Q E s := by
  obtain ⟨ops, he⟩ := he
  have hT : s.TypeIs (.ref r) "range" := ⟨_, hr, rfl⟩
  have hTs : s.TypeIs (.ref sl) "slice" := ⟨_, hs, rfl⟩
  refine tail_any hT F.slot_range_getitem.lookup ?_ he
  unfold getItem
  try with_reducible refine wpAny_holding ?_
  first | refine wpAny_bind (wpAny_pure ?_) | skip
  refine wpAny_bind (wpAny_sequenceKey hT (by decide) ?_)
  refine wpAny_bind (wpAny_callSpecial?_slot (name := Str.ofString "__getitem__") hT F.slot_range_getitem
    (wpAny_call_entry F.slot_range_getitem hT F.entry_range_getitem ?_ (F.args_range_getitem_2 _ _)))
  unfold Builtin.«range.__getitem__»
  refine wpAny_bind (wpAny_of_eq (a := (Value.ref r, [Value.ref sl])) rfl ?_)
  dsimp only
  unfold Builtin.Range.rangeFields
  refine wpAny_bind (wpAny_bind (wpAny_field hr rfl (x := .int 0 t) rfl (wpAny_bind (wpAny_of_eq (a := some 0) rfl (wpAny_bind (wpAny_field hr rfl (x := .int 4 u) rfl (wpAny_bind (wpAny_of_eq (a := some 4) rfl (wpAny_bind (wpAny_field hr rfl (x := .int 1 v) rfl (wpAny_bind (wpAny_of_eq (a := some 1) rfl (wpAny_pure ?_)))))))))))))
  dsimp only
  refine wpAny_bind (wpAny_typeOf hTs ?_)
  rw [if_pos (by decide)]
  unfold Builtin.Slice.sliceFields
  refine wpAny_bind (wpAny_bind (wpAny_field hs rfl (x := .none) rfl (wpAny_bind (wpAny_field hs rfl (x := .none) rfl (wpAny_bind (wpAny_field hs rfl (x := .int d t2) rfl (wpAny_pure ?_)))))))
  dsimp only
  have pz : ∀ {Q : Option Int → Shared → Prop} {A : Around} {E : Value → Shared → Prop}, Q (some d) s → wpAny (model prog w) A (Builtin.Slice.slicePartIndex (.int d t2)) Q E s := fun {Q A E} hq => by
    unfold Builtin.Slice.slicePartIndex
    rw [if_neg (by show ¬ ((Value.int d t2 == Value.none) = true); exact Bool.false_ne_true)]
    refine wpAny_bind (wpAny_specialOf (T := "int") (typeIs_int s d t2) int_index ?_)
    exact wpAny_bind (wpAny_of_eq (a := d) rfl (wpAny_pure hq))
  have pn : ∀ {Q : Option Int → Shared → Prop} {A : Around} {E : Value → Shared → Prop}, Q none s → wpAny (model prog w) A (Builtin.Slice.slicePartIndex .none) Q E s := fun {Q A E} hq => wpAny_pure hq
  refine wpAny_bind (pz ?_)
  rw [if_neg (by rcases hd with rfl | rfl <;> decide)]
  refine wpAny_bind (pn (wpAny_bind (pn ?_)))
  have fin : ∀ (lo hi : Int), Builtin.Slice.sliceAdjust none none d (Builtin.Range.rangeSize 0 4 1) = (lo, hi) → lo = r4 d → hi.natAbs < 100 → Builtin.Range.small (r4 d) hi d = true → Builtin.Range.rangeSize (r4 d) hi d = 4 →
      wpAny (model prog w) A.in1 (do
        Builtin.roomForPylong ((hi - lo) * 1) (1 * d)
        return ← ret (← newFields "range" [← mkIntGrown (0 + lo * 1), ← mkIntGrown (0 + hi * 1), ← mkIntGrown (1 * d)])) (fun fin s' => ∃ v, fin = .done (.ret v) ∧ wpAny (model prog w) A (pure v) Q E s') E s := by
    rintro lo hi e rfl hh hsm hsz
    refine wpAny_bind (wpAny_roomForPylong (.inl (PyProof.noPylong_small (by rcases hd with rfl | rfl <;> decide))) ?_)
    refine wpAny_bind (mkGrown (by unfold r4; split <;> decide) (wpAny_bind (mkGrown (by lia) (wpAny_bind (mkGrown (by rcases hd with rfl | rfl <;> decide) (wpAny_bind (wpAny_newObj_type (wpAny_bind (wpAny_pure (wpAny_pure ⟨_, rfl, wpAny_pure ?_⟩))))))))))
    refine h _ hi s.toks (s.toks + 1) (s.toks + 1 + 1) _ ⟨⟨_, _, rfl⟩, fun _ _ e _ => Heap.get?_push_of_some _ e⟩ ?_ hsm hsz (new_size _)
    have e2 := Heap.get?_push_size s.heap (o := { cls := .type "range", data := .fields #[.int (0 + r4 d * 1) s.toks, .int (0 + hi * 1) (s.toks + 1), .int (1 * d) (s.toks + 1 + 1)] }) rfl
    rw [show 0 + r4 d * 1 = r4 d by lia, show 0 + hi * 1 = hi by lia, show 1 * d = d by lia] at e2
    unfold IsRange
    rw [show 0 + r4 d * 1 = r4 d by lia, show 0 + hi * 1 = hi by lia, show 1 * d = d by lia]
    exact e2
  rcases hd with rfl | rfl
  · exact fin 0 4 (by decide) (by decide) (by decide) (by decide) (by decide)
  · exact fin 3 (-1) (by decide) (by decide) (by decide) (by decide) (by decide)
end
end Mine
end
section
open PySem PySem.W PyProof.Rows PySem.Calls
set_option maxRecDepth 100000
namespace Mine

section
variable {w : World} {prog : Program} {mg mb : Str → Option Value} {G : Heap} {A : Around} {E : Value → Shared → Prop} {S : List Addr} {s0 s : Shared} {env : Env} {m cm : Str → Option Value} {news : List (Addr × Obj)}

/-- a call of a def of the top some of whose names are cells -/
theorem callFnC {Q : Value → Shared → Prop} {name qual : Str} {params : Arguments} {body : List Stmt} {scope : Scope} {dV kV doc pm cdv ct oc : Value} {an od : Option Addr} {osl : Array (Option Value)} {f : Addr}
    {pos : List Value} {kw : List (Str × Value)} {binds : List (Str × Value)} {n : Nat} (T : GT w mg mb G) (st : Stays G s.heap) (hS : ∀ x ∈ S, G.get? x = none) (hSs : ∀ x ∈ S, ∃ o, s.heap.get? x = some o) (r : Room n A)
    (ho : (KF w.params).lookup f = some ⟨oc, od, .func (fnOf name qual params body scope dV kV doc pm an cdv ct), osl⟩) (hcd : codeIn (KF w.params) cdv qual = true)
    (hbind : BindsTo s (fnOf name qual params body scope dV kV doc pm an cdv ct) ⟨pos, kw⟩ binds)
    (hkind : (binds.all fun y => scope.names.lookup y.1 == some .local || scope.names.lookup y.1 == some .cell) = true)
    (h : ∀ L s₁, Cx G S s (envOfC qual scope L f cdv) (bindL (envOfC qual scope L f cdv).kindOf binds fun _ => none) (bindC (envOfC qual scope L f cdv).kindOf binds fun _ => none) [] s₁ → Keep [] s s₁ →
      (∀ n c, (cellsFrom (L + 1) scope.names []).lookup n = some c → s.heap.get? c = none) →
      wpAny (model prog w) (A.deeper (envOfC qual scope L f cdv)) (execs body (envOfC qual scope L f cdv)) (RetQ Q) NoE s₁)
    (hco : scope.isCoroutine = false := by rfl) (hgen : scope.isGenerator = false := by rfl) (hk : scope.kind = .function := by rfl) :
    wpAny (model prog w) A (call (.ref f) pos kw) Q E s := by
  refine wpAny_call (codeAny_call_function r.depth (st _ _ (T.k _ _ ho)) rfl hco hgen rfl ((codeRec_of T.k hcd).keeps st) (hbind _ _ _ _ ?_))
  refine wpAny_newFunctionEnv_cells hk (kindsX hkind _) fun env' he s' x => ?_
  subst he
  refine ⟨(T.nl.keeps st).keeps x.toInCall.keep, codeAny_func ?_⟩
  obtain ⟨h₁, tk, rfl, _⟩ := x.done
  have hk₁ := x.toInCall.keep
  have hnew : s.heap.get? s.heap.objs.size = none := new_size _
  have hcn : ∀ n c, (cellsFrom (s.heap.objs.size + 1) scope.names []).lookup n = some c → s.heap.get? c = none := fun n c q => Heap.get?_none_of_le (by
    have := x.above n c (mem_of_lookup q)
    have : s.heap.objs.size < c := this
    omega)
  refine wpAny_mono (h s.heap.objs.size _ ⟨st, hS, ⟨⟨_, _, rfl⟩, fun b o e _ => hk₁ b o e⟩, x.toInCall.ns, hnew, hSs, fun y hy => ?_, x.cell, fun n c q z => ?_, fun n n' c q q' => name_of_addr x.apart (mem_of_lookup q) (mem_of_lookup q'), fun p q => (nomatch q)⟩ ⟨⟨_, _, rfl⟩, fun b o e _ => hk₁ b o e⟩ hcn) (fun fl s' hq => hq) fun _ _ x => x.elim
  · obtain ⟨o, ho⟩ := hSs y hy
    exact ⟨o, hk₁ _ _ ho⟩
  · obtain ⟨o, ho⟩ := hSs c z
    rw [hcn n c q] at ho; cases ho

/-- the same, the names' values variables -/
theorem callFnCV {Q : Value → Shared → Prop} {name qual : Str} {params : Arguments} {body : List Stmt} {scope : Scope} {dV kV doc pm cdv ct oc : Value} {an od : Option Addr} {osl : Array (Option Value)} {f : Addr}
    {pos : List Value} {kw : List (Str × Value)} {binds : List (Str × Value)} {n : Nat} (T : GT w mg mb G) (st : Stays G s.heap) (hS : ∀ x ∈ S, G.get? x = none) (hSs : ∀ x ∈ S, ∃ o, s.heap.get? x = some o) (r : Room n A)
    (ho : (KF w.params).lookup f = some ⟨oc, od, .func (fnOf name qual params body scope dV kV doc pm an cdv ct), osl⟩) (hcd : codeIn (KF w.params) cdv qual = true)
    (hbind : BindsTo s (fnOf name qual params body scope dV kV doc pm an cdv ct) ⟨pos, kw⟩ binds)
    (hkind : (binds.all fun y => scope.names.lookup y.1 == some .local || scope.names.lookup y.1 == some .cell) = true)
    (h : ∀ L s₁ m cm, (bindL (envOfC qual scope L f cdv).kindOf binds fun _ => none) = m → (bindC (envOfC qual scope L f cdv).kindOf binds fun _ => none) = cm → Cx G S s (envOfC qual scope L f cdv) m cm [] s₁ → Keep [] s s₁ →
      (∀ n c, (cellsFrom (L + 1) scope.names []).lookup n = some c → s.heap.get? c = none) →
      wpAny (model prog w) (A.deeper (envOfC qual scope L f cdv)) (execs body (envOfC qual scope L f cdv)) (RetQ Q) NoE s₁)
    (hco : scope.isCoroutine = false := by rfl) (hgen : scope.isGenerator = false := by rfl) (hk : scope.kind = .function := by rfl) :
    wpAny (model prog w) A (call (.ref f) pos kw) Q E s :=
  callFnC T st hS hSs r ho hcd hbind hkind (fun L s₁ c k n => h L s₁ _ _ rfl rfl c k n) hco hgen hk

/-- x (a cell), y (a local) = a pair -/
theorem Cx.unpackCL (c : Cx G S s0 env m cm [] s) {x y : Str} {px py pos : Pos} {k : Nat} {t a : Addr} {v u : Value} {Q : Unit → Shared → Prop} (hh : A.handled = none) (ht : IsTup s.heap t (List.toArray [v, u])) (ha : env.cells.lookup x = some a) (hnew : s0.heap.get? a = none)
    (h : ∀ s', Cx G S s0 env (upd m y u) (upd cm x v) [] s' → Keep [env.locals, a] s s' → Q () s')
    (hx : env.kindOf x = some .cell := by rfl) (hy : env.kindOf y = some .local := by rfl) (hk : env.scope.kind = .function := by rfl) (hp : (env.scope.kind == .class || (env.scope.kind == .module && env.locals != env.globals)) = false := by rfl) :
    wpAny (model prog w) A (assign (.Tuple [.Name x px, .Name y py] k pos) env (.ref t)) Q E s := by
  refine assign_Tuple_tuple hh ht rfl rfl fun h' he => ?_
  have k1 : Keep [] s { s with heap := h' } := keep_ext (t := s.toks) he
  have c1 := c.keep0 k1
  refine assignInOrder_cons (wpAny_assign_Name (c1.stoC ha hnew (fun s₂ c₂ e₂ => assignInOrder_cons (wpAny_assign_Name (c₂.sto (fun s₃ c₃ e₃ => assignInOrder_nil (h _ c₃ ?_)) hy hp))) hk hx))
  refine ⟨?_, fun b o e q => sameBut_keep e₃ (fun z => q (by rw [z]; exact .head _)) (sameBut_keep e₂ (fun z => q (by rw [z]; exact .tail _ (.head _))) (k1.keep b o e (fun q => nomatch q)))⟩
  obtain ⟨h1, t1, q1⟩ := c₃.kp.same
  obtain ⟨h2, t2, q2⟩ := c.kp.same
  rw [q1, q2]; exact ⟨_, _, rfl⟩

inductive AsgCQ (G : Heap) (S : List Addr) (s0 : Shared) (env : Env) (x : Str) (a : Addr) (Q : Flow → Shared → Prop) (v : Value) (s₁ : Shared) : Prop
  | mk (m cm : Str → Option Value) (c : Cx G S s0 env m cm [] s₁) (k : ∀ s', Cx G S s0 env m (upd cm x v) [] s' → Heap.SameBut a s₁.heap s'.heap → Q .next s')
/-- x = value, x a cell -/
theorem Cx.asgC {M : Model} {x : Str} {a : Addr} {p' p : Pos} {value : Expr} {Q : Flow → Shared → Prop} (ha : env.cells.lookup x = some a) (hnew : s0.heap.get? a = none)
    (h : wpAny M A (eval value env) (AsgCQ G S s0 env x a Q) E s)
    (hs : swapsWith value (some (.Name x p')) p.line env = pure false := by rfl)
    (hk : env.scope.kind = .function := by rfl) (hl : env.kindOf x = some .cell := by rfl) :
    wpAny M A (exec (.Assign [.Name x p'] value p) env) Q E s :=
  wpAny_Assign_Name (wpAny_mono h (fun _ _ ⟨_, _, c, k⟩ => c.stoC ha hnew k hk hl) fun _ _ q => q) hs

theorem tests_nil {M : Model} {X Y : Shared → Prop} (h : X s) : Tests M A [] env (fun b s => if b = true then X s else Y s) s := by
  show if true = true then X s else Y s
  rw [if_pos rfl]; exact h
theorem tests_one {M : Model} {e : Expr} {Q : Bool → Shared → Prop} (h : wpAny M A (isTrue e env (eval e env)) Q (fun _ _ => False) s) : Tests M A [e] env Q s := h

/-- a closure's cells are the frame's -/
theorem Cx.cellsIn (c : Cx G S s0 env m cm news s) {cl : List (Str × Addr)} {cm' : Str → Option Value} (h : ∀ p ∈ cl, env.cells.lookup p.1 = some p.2 ∧ cm' p.1 = cm p.1) : CellsIn s.heap 0 cl cm' :=
  ⟨fun n x q => by rw [(h _ (mem_of_lookup q)).2]; exact c.cell n x (h _ (mem_of_lookup q)).1, fun n n' x q q' => c.apart n n' x (h _ (mem_of_lookup q)).1 (h _ (mem_of_lookup q')).1⟩

theorem listIter_plain {h : Heap} {I l : Addr} {i : Nat} (hI : h.IsListIter I l i) : ∃ o, h.get? I = some o ∧ plainObj o := by
  obtain ⟨o, ho, hc, hd⟩ := hI
  exact ⟨o, ho, (fun _ _ q => by rw [hd] at q; cases q), (fun _ q => by rw [hd] at q; cases q)⟩

theorem iter_ne_list {h : Heap} {I l a : Addr} {i : Nat} {xs : List Value} (hI : h.IsListIter I l i) (hl : PL h a xs) : I ≠ a := fun e => by
  obtain ⟨o, ho, _, hd⟩ := hI
  obtain ⟨n, ho'⟩ := hl
  rw [e, ho'] at ho; cases ho; cases hd

theorem iter_ne_list' {h : Heap} {I a : Addr} {x y z : Int} {xs : List Value} (hI : IsRangeIter h I x y z) (hl : PL h a xs) : I ≠ a := fun e => by
  obtain ⟨n, ho'⟩ := hl
  unfold IsRangeIter at hI
  rw [e, ho'] at hI
  have := congrArg (fun o : Option Obj => o.map (·.data)) hI
  simp at this

/-- iterating a list: a new iterator -/
theorem iterL {l : Addr} {items : List Value} {Q : Value → Shared → Prop} (hl : PL s.heap l items) (h : ∀ I s', Keep [] s s' → s'.heap.IsListIter I l 0 → s.heap.get? I = none → Q (.ref I) s') : wpAny (model prog w) A (pyIter (.ref l)) Q E s :=
  wpAny_pyIter_list hl.isList (h _ _ (keep_push (t := s.toks)) ⟨_, Heap.get?_push_size _ rfl, rfl, rfl⟩ (new_size _))

theorem iterR {r : Addr} {a b c n : Int} {t u v : Tok} {Q : Value → Shared → Prop} (hr : IsRange s.heap r a b c t u v) (hsm : Builtin.Range.small a b c = true) (hn : Builtin.Range.rangeSize a b c = n)
    (h : ∀ I s', Keep [] s s' → IsRangeIter s'.heap I a n c → s.heap.get? I = none → Q (.ref I) s') : wpAny (model prog w) A (pyIter (.ref r)) Q E s := by
  subst hn
  exact wpAny_pyIter_range hr hsm (h _ _ (keep_push (t := s.toks)) (Heap.get?_push_size _ rfl) (new_size _))

/-- the next of a range's iterator -/
theorem nextR (hh : A.handled = none) {I : Addr} {x left step : Int} {Q : Option Value → Shared → Prop} (hI : IsRangeIter s.heap I x left step)
    (h1 : ∀ t s', 0 < left → IsRangeIter s'.heap I (x + step) (left - 1) step → Heap.SameBut I s.heap s'.heap → Keep [I] s s' → Q (some (.int x t)) s') (h2 : ∀ s', left ≤ 0 → Keep [I] s s' → Q none s') : wpAny (model prog w) A (pyNext (.ref I)) Q E s := by
  by_cases hi : 0 < left
  · exact wpAny_pyNext_range_item hI hi fun h' a b => h1 _ _ hi a b ⟨⟨_, _, rfl⟩, fun b' o e q => sameBut_keep b (fun z => q (by rw [z]; exact .head _)) e⟩
  · exact wpAny_pyNext_range_end hh hI (by omega) fun h' he => h2 _ (by omega) ⟨⟨_, _, rfl⟩, fun b' o e q => he b' o (fun z => q (by rw [z]; exact .head _)) e⟩

/-- the next of a list's iterator -/
theorem nextL (hh : A.handled = none) {I l : Addr} {items : List Value} {i : Nat} {Q : Option Value → Shared → Prop} (hI : s.heap.IsListIter I l i) (hl : PL s.heap l items)
    (h1 : ∀ v s', items[i]? = some v → s'.heap.IsListIter I l (i + 1) → Heap.SameBut I s.heap s'.heap → Keep [I] s s' → Q (some v) s') (h2 : ∀ s', items.length ≤ i → Keep [I] s s' → Q none s') : wpAny (model prog w) A (pyNext (.ref I)) Q E s := by
  by_cases hi : i < items.length
  · refine wpAny_pyNext_list_item hI hl.isList (x := items[i]) (by simp [hi]) fun h' a b => h1 _ _ (List.getElem?_eq_getElem hi) a b ⟨⟨_, _, rfl⟩, fun b' o e q => sameBut_keep b (fun z => q (by rw [z]; exact .head _)) e⟩
  · exact wpAny_pyNext_list_end hh hI hl.isList (by simp; omega) fun h' he => h2 _ (by omega) ⟨⟨_, _, rfl⟩, fun b' o e q => he b' o (fun z => q (by rw [z]; exact .head _)) e⟩
end
end Mine
end
section
open PySem PySem.W PyProof.Rows PySem.Calls
set_option maxRecDepth 100000
namespace Mine

/-- one column's pass -/
noncomputable def colPass (ρ : Value → List Int) (k : Int × Int) (rows : List Value) : List Value := (List.range 4).flatMap fun j : Nat => rows.filter fun v => (ρ v).getD k.1.toNat 0 == r4 k.2 + (j : Int) * k.2
/-- column by column, from the last key to the first -/
noncomputable def byColP (ρ : Value → List Int) (keys : List (Int × Int)) (rows : List Value) : List Value := keys.reverse.foldl (fun rs k => colPass ρ k rs) rows

theorem colPass_sub {ρ : Value → List Int} {k : Int × Int} {rows : List Value} {v : Value} (h : v ∈ colPass ρ k rows) : v ∈ rows := by
  unfold colPass at h
  obtain ⟨j, _, hv⟩ := List.mem_flatMap.mp h
  exact (List.mem_filter.mp hv).1

section
variable {w : World} {prog : Program} {mg mb : Str → Option Value} {G : Heap} {A : Around} {E : Value → Shared → Prop} {s : Shared}

theorem g_range' (T : GT w mg mb G) : mg "range" = none ∧ mb "range" = some (.type "range") := g_range T

inductive BcI (G : Heap) (s0 : Shared) (env : Env) (I D₀ : Addr) (keys : List (Int × Int)) (kvs rows : List Value) (ρ : Value → List Int) (j : Nat) (s : Shared) : Prop
  | mk (i : Nat) (m : Str → Option Value) (cm : Str → Option Value) (R' : Addr) (rs : List Value)
    (hij : i + j = keys.length)
    (c : Cx G [] s0 env m cm [] s)
    (m1 : cm "rows" = some (.ref R'))
    (it : s.heap.IsListIter I D₀ i)
    (pl : PL s.heap D₀ kvs.reverse)
    (plR : PL s.heap R' rs)
    (hrs : rs = (keys.reverse.take i).foldl (fun rs k => colPass ρ k rs) rows)
    (sub : ∀ v ∈ rs, v ∈ rows)
inductive BdI (G : Heap) (I1 D : Addr) (s₁₀ : Shared) (env : Env) (cm : Str → Option Value) (p2 : Int) (acc : Nat → List Value) (k : Nat) (s : Shared) : Prop
  | mk (j : Nat) (m : Str → Option Value)
    (hjk : j + k = 4)
    (c : Cx G [I1] s₁₀ env m cm [] s)
    (it : IsRangeIter s.heap I1 (r4 p2 + (j : Int) * p2) (4 - (j : Int)) p2)
    (pl : PL s.heap D (acc j))
inductive BeI (G : Heap) (I1 I2 D R' : Addr) (s₁₀ : Shared) (env : Env) (cm : Str → Option Value) (x y p2 : Int) (tv : Tok) (rs al : List Value) (pd : Value → Bool) (k : Nat) (s : Shared) : Prop
  | mk (i2 : Nat) (m : Str → Option Value)
    (hik : i2 + k = rs.length)
    (c : Cx G [I1] s₁₀ env m cm [] s)
    (mv : m "value" = some (.int x tv))
    (it : IsRangeIter s.heap I1 (x + p2) y p2)
    (it2 : s.heap.IsListIter I2 R' i2)
    (pl : PL s.heap D (al ++ (rs.take i2).filter pd))

set_option maxHeartbeats 1000000 in
theorem by_columns_spec (T : GT w mg mb G) {n : Nat} (r : Room (n + 3) A) (st : Stays G s.heap) {R Kl : Addr} {rows kvs : List Value} {keys : List (Int × Int)} (hR : PL s.heap R rows) (hKl : PL s.heap Kl kvs) (hK : KeysAre s.heap kvs keys)
    (hin : ∀ p ∈ keys, (0 ≤ p.1 ∧ p.1 < 4) ∧ (p.2 = 1 ∨ p.2 = -1)) (hkz : keys.length < 2 ^ 10) {ρ : Value → List Int} (hρ : ∀ v ∈ rows, TI s.heap v (ρ v) ∧ (ρ v).length = 4)
    (hlen : ∀ j, ((keys.reverse.take j).foldl (fun rs k => colPass ρ k rs) rows).length < 2 ^ 18) {Q : Value → Shared → Prop}
    (k : ∀ D s', Keep [] s s' → PL s'.heap D (byColP ρ keys rows) → Q (.ref D) s') :
    wpAny (model prog w) A (call (.ref 122) [.ref R, .ref Kl]) Q E s := by
  refine callFnC (S := []) (n := n + 3) (binds := [("rows", .ref R), ("keys", .ref Kl)]) T st (fun y hy => nomatch hy) (fun y hy => nomatch hy) r
    (by rfl) (by kernel_rfl!) (.of_eq (by rfl)) (by kernel_rfl!) (fun L s₁ c k0 hcn => ?_)
  have hcR : (c.theEnv).cells.lookup ("rows" : Str) = some (L + 1) := rfl
  have hcI : (c.theEnv).cells.lookup ("index" : Str) = some (L + 1 + 1) := rfl
  have hh : (A.deeper c.theEnv).handled = none := r.hn
  have nR := hcn _ _ hcR
  have nI := hcn _ _ hcI
  refine seq (wpAny_For (Subscript_ (c.ld rfl (evSlice (part0 (part0 (part1 (wpAny_UnaryOp (eInt fun _ _ => iNeg fun t1 u1 => fun sl s₂ k2 hsl _ => sliceRev (l := kvs) (k2.pl0 (k0.pl0 hKl)) hsl (by rw [hK.len]; lia) (fun D₀ s₃ k3 hD₀ nD₀ => iterL hD₀ fun I s₄ k4 hI nI' => ?_) ⟨_, rfl⟩)))))))))
  have c₃ := (c.tk.keep0 k2).keep0 k3
  have c₄ := c₃.keep0 k4
  have hD4 := k4.pl0 hD₀
  have hIn : s.heap.get? I = none := c₃.fresh nI'
  refine forLoopF (BcI G s _ I D₀ keys kvs rows ρ) keys.length ⟨0, _, _, R, rows, by lia, c₄, rfl, hI, hD4, hR.kp c₄.kp (fun q => nomatch q), rfl, fun _ h => h⟩ ?_
  rintro J hJ j s' ⟨i, m, cm, R', rs, hij, c', m1, hI', hD', hR', hrs, hsub⟩
  have hrl : rs.length < 2 ^ 18 := by rw [hrs]; exact hlen i
  have plainI := listIter_plain hI'
  refine nextL hh hI' hD' (fun v s₅ hv hI5 e5 k5 => ?_) (fun s₅ hi k5 => ?_)
  · -- a turn
    have c5 : Cx G [] s _ m cm [] s₅ := c'.after k5 (fun a ha => by rw [List.mem_singleton.mp ha]; exact ⟨.inr hIn, plainI⟩) (fun a ha hb => nomatch hb) (fun _ q => nomatch q)
    have neID : I ≠ D₀ := iter_ne_list hI' hD'
    have neIR : I ≠ R' := iter_ne_list hI' hR'
    have hD5 := hD'.kp k5 (fun q => neID (List.mem_singleton.mp q).symm)
    have hR5 := hR'.kp k5 (fun q => neIR (List.mem_singleton.mp q).symm)
    have hil : i < keys.length := by
      have := (List.getElem?_eq_some_iff.mp hv).1
      rw [List.length_reverse, hK.len] at this
      exact this
    have hv' : kvs[keys.length - 1 - i]? = some v := by
      rw [List.getElem?_reverse (by rw [hK.len]; exact hil), hK.len] at hv; exact hv
    obtain ⟨p, hp⟩ : ∃ p, keys[keys.length - 1 - i]? = some p := ⟨_, List.getElem?_eq_getElem (by lia)⟩
    obtain ⟨⟨hp0, hp4⟩, hd⟩ := hin p (List.mem_of_getElem? hp)
    obtain ⟨oI, hoI, hcI', hdI⟩ := id hI5
    refine noOwned hoI hcI' (by decide) ?_
    obtain ⟨a, vs, rfl, ha, hints⟩ := (hK.at_ _ v p hv' hp).kp0 c5.kp
    obtain ⟨t1, t2, rfl⟩ : ∃ t1 t2, vs = [.int p.1 t1, .int p.2 t2] := by
      cases hints with
      | cons _ t1 h1 => cases h1 with
        | cons _ t2 h2 => cases h2; exact ⟨t1, t2, rfl⟩
    refine c5.unpackCL hh ha hcI nI fun s₆ c6 k6 => ?_
    have notX : ∀ (b : Addr) (o : Obj), s₅.heap.get? b = some o → plainObj o → b ∉ [c.theEnv.locals, L + 1 + 1] := fun b o ho hp q => by
      rcases List.mem_cons.mp q with e | q
      · exact c5.neL ho hp e
      · exact c5.neC ho hp hcI (List.mem_singleton.mp q)
    have hD6 := hD5.kp k6 (notX _ _ (hD5.plain).choose_spec.1 (hD5.plain).choose_spec.2)
    have hR6 := hR5.kp k6 (notX _ _ (hR5.plain).choose_spec.1 (hR5.plain).choose_spec.2)
    have hI6 : s₆.heap.IsListIter I D₀ (i + 1) := ⟨oI, k6.keep _ _ hoI (notX _ _ hoI ⟨(fun _ _ q => by rw [hdI] at q; cases q), (fun _ q => by rw [hdI] at q; cases q)⟩), hcI', hdI⟩
    -- rows = [..]
    refine seq (Cx.asgC (G := G) (S := []) hcR nR (compE (G := G) (S := []) (s0 := s) (cm := upd cm "index" (.int p.1 t1)) (cl := [("rows", L + 1), ("index", L + 1 + 1)]) (by rfl) (by rfl) (by decide) (Subscript_ (callN (c6.ldB T (g_range T).1 (g_range T).2) (arg (eInt fun _ u2 => arg0 (rangeN fun rr _ _ _ s₇ k7 hr nr => evSlice (part0 (part0 (part1 ((c6.tk.keep0 k7).ld rfl (fun sl s₈ k8 hsl _ => rangeSl (k8.keep _ _ hr (fun q => nomatch q)) hsl hd (fun RR ee _ _ _ s₉ k9 hRR hsm hsz nRR => iterR hRR hsm hsz fun I1 s₁₀ k10 hI1 nI1 => ?_) ⟨_, rfl⟩))))))))))))
    have c10 := ((((c6.tk (t := u2)).keep0 k7).keep0 k8).keep0 k9).keep0 k10
    have kk : Keep [] s₆ s₁₀ := ((((⟨⟨_, _, rfl⟩, fun _ _ e _ => e⟩ : Keep [] s₆ (tk s₆ u2)).trans k7).trans k8).trans k9).trans k10
    have hD10 := kk.pl0 hD6
    have hR10 := kk.pl0 hR6
    have hI10 : s₁₀.heap.IsListIter I D₀ (i + 1) := by obtain ⟨o, ho, r⟩ := hI6; exact ⟨o, kk.keep _ _ ho (fun q => nomatch q), r⟩
    have nI1s : s.heap.get? I1 = none := ((((c6.tk (t := u2)).keep0 k7).keep0 k8).keep0 k9).fresh nI1
    obtain ⟨q, hq⟩ : ∃ q : Nat, p.1 = q := ⟨p.1.toNat, by lia⟩
    refine ⟨_, _, [I1], upd cm "index" (.int p.1 t1), c10, fun a ha => by rw [List.mem_singleton.mp ha]; exact ⟨nI1s, rangeIter_plain hI1⟩, c10.cellsIn (fun p hp => by simp only [List.mem_cons, List.not_mem_nil, or_false] at hp; rcases hp with rfl | rfl <;> exact ⟨rfl, rfl⟩), fun n hn => by simp at hn, fun D C s₁₁ ci => ?_⟩
    have ne10 : ∀ (b : Addr) (o : Obj), s₁₀.heap.get? b = some o → b ≠ C ∧ b ≠ D := fun b o ho => ⟨(fun e => by rw [e, ci.newC] at ho; cases ho), (fun e => by rw [e, ci.newD] at ho; cases ho)⟩
    have hID : I1 ≠ D := (ne10 _ _ hI1).2
    have neRD : R' ≠ D := (ne10 _ _ hR10.plain.choose_spec.1).2
    -- the accumulator behind j values
    let acc : Nat → List Value := fun j => (List.range j).flatMap fun j : Nat => rs.filter fun v => (ρ v).getD p.1.toNat 0 == r4 p.2 + (j : Int) * p.2
    have hacc0 : acc 0 = [] := rfl
    have haccS : ∀ j, acc (j + 1) = acc j ++ rs.filter fun v => (ρ v).getD p.1.toNat 0 == r4 p.2 + (j : Int) * p.2 := fun j => by
      show (List.range (j + 1)).flatMap _ = _
      rw [List.range_succ, List.flatMap_append]
      simp [acc]
    have hacc4 : acc 4 = colPass ρ p rs := rfl
    refine compStartF (ifs := []) rfl (compLoopO (BdI G I1 D s₁₀ _ (upd cm "index" (.int p.1 t1)) p.2 acc) 4 ⟨0, _, rfl, ci.cx.sub (fun _ q => nomatch q), ?_, ⟨0, (ci.cx.nw _ (.head _)).1⟩⟩ rfl rfl ?_ (fun _ => rfl)) ?_
    · have := ci.kp.keep _ _ hI1 (fun q => nomatch q)
      simpa using this
    · rintro J1 hJ1 k' s₁₂ ⟨j', m', hjk, c12, hI12, hD12⟩
      refine nextR hh hI12 (fun tv s₁₃ hpos hI13 e13 k13 => ?_) (fun s₁₃ hneg k13 => ?_)
      · have c13 : Cx G [I1] s₁₀ _ m' (upd cm "index" (.int p.1 t1)) [] s₁₃ := c12.within k13 (fun a ha => by rw [List.mem_singleton.mp ha]; exact ⟨_, hI13⟩) (fun _ q => nomatch q)
        have hD13 := hD12.kp k13 (fun q => hID (List.mem_singleton.mp q).symm)
        refine wpAny_pure (wpAny_assign_Name (c13.sto fun s₁₄ c14 e14 => ?_))
        have hD14 := c13.listL hD13 e14
        have hI14 : IsRangeIter s₁₄.heap I1 (r4 p.2 + (j' : Int) * p.2 + p.2) (4 - (j' : Int) - 1) p.2 := sameBut_keep e14 (c13.neL (rangeIter_plain hI13).choose_spec.1 (rangeIter_plain hI13).choose_spec.2) hI13
        have hR14 : PL s₁₄.heap R' rs := hR10.kp c14.kp (fun q => iter_ne_list' hI1 hR10 (List.mem_singleton.mp q).symm)
        refine tests_nil (c14.ldC (a := L + 1) rfl (v := .ref R') m1 (iterL hR14 fun I2 s₁₅ k15 hI2 nI2 => ?_))
        have c15 := c14.keep0 k15
        have nI2s : s₁₀.heap.get? I2 = none := c14.fresh nI2
        have hD15 := k15.pl0 hD14
        have hR15 := k15.pl0 hR14
        have hI15 := k15.keep _ _ hI14 (fun q => nomatch q)
        have neI12 : I1 ≠ I2 := fun e => by rw [← e] at nI2s; rw [hI1] at nI2s; cases nI2s
        refine compStartF (ifs := _) rfl (compLoopF (BeI G I1 I2 D R' s₁₀ _ (upd cm "index" (.int p.1 t1)) (r4 p.2 + (j' : Int) * p.2) (4 - (j' : Int) - 1) p.2 tv rs (acc j') (fun v => (ρ v).getD p.1.toNat 0 == r4 p.2 + (j' : Int) * p.2)) rs.length ⟨0, _, by lia, c15, rfl, hI15, hI2, by simpa using hD15⟩ rfl rfl ?_) ?_
        · rintro J2 hJ2 k2 s₁₆ ⟨i2, m2, hik2, c16, mv, hI16, hI2', hD16⟩
          have hR16 : PL s₁₆.heap R' rs := hR10.kp c16.kp (fun q => iter_ne_list' hI1 hR10 (List.mem_singleton.mp q).symm)
          have plI2 := listIter_plain hI2'
          refine nextL hh hI2' hR16 (fun v s₁₇ hv hI2'' e17 k17 => ?_) (fun s₁₇ hi2 k17 => ?_)
          · have c17 : Cx G [I1] s₁₀ _ m2 (upd cm "index" (.int p.1 t1)) [] s₁₇ := c16.after k17 (fun a ha => by rw [List.mem_singleton.mp ha]; exact ⟨.inr nI2s, plI2⟩) (fun a ha hb => by rw [List.mem_singleton.mp ha] at hb; exact absurd (List.mem_singleton.mp hb).symm neI12) (fun _ q => nomatch q)
            have hD17 := hD16.kp k17 (fun q => iter_ne_list hI2' hD16 (List.mem_singleton.mp q).symm)
            have hI17 : IsRangeIter s₁₇.heap I1 _ _ _ := k17.keep _ _ hI16 (fun q => neI12 (List.mem_singleton.mp q))
            refine wpAny_pure (wpAny_assign_Name (c17.sto fun s₁₈ c18 e18 => ?_))
            have hD18 := c17.listL hD17 e18
            have hI18 : IsRangeIter s₁₈.heap I1 _ _ _ := sameBut_keep e18 (c17.neL (rangeIter_plain hI17).choose_spec.1 (rangeIter_plain hI17).choose_spec.2) hI17
            have hI2_18 : s₁₈.heap.IsListIter I2 R' (i2 + 1) := by
              have := c17.neL (listIter_plain hI2'').choose_spec.1 (listIter_plain hI2'').choose_spec.2
              obtain ⟨o, ho, r⟩ := hI2''
              exact ⟨o, sameBut_keep e18 this ho, r⟩
            have hvm : v ∈ rows := hsub v (List.mem_of_getElem? hv)
            obtain ⟨hti, h4⟩ := hρ v hvm
            obtain ⟨x, hx⟩ : ∃ x, (ρ v)[q]? = some x := ⟨_, List.getElem?_eq_getElem (by lia)⟩
            have hgx : (ρ v).getD p.1.toNat 0 = x := by rw [hq, Int.toNat_natCast, List.getD_eq_getElem?_getD, hx]; rfl
            have hti18 : TI s₁₈.heap v (ρ v) := (hti.kp0 c10.kp).kpN c18.kp (fun a ha o ho => by
              rw [List.mem_singleton.mp ha] at ho
              have e : s₁₀.heap.get? I1 = some o := ho
              unfold IsRangeIter at hI1
              rw [hI1] at e; cases e
              show Value.type "range_iterator" ≠ Value.type "tuple"
              decide)
            refine tests_one (wpAny_isTrue_Compare1 (Subscript_ (c18.ld rfl (c18.ldC (a := L + 1 + 1) rfl rfl (itemI hti18 hq hx (by lia) fun t9 => c18.ld mv (cEq (wpAny_truthy_bool ?_)))))))
            have htk : rs.take (i2 + 1) = rs.take i2 ++ [v] := by
              rw [List.take_add_one, hv]; rfl
            have hil2 := (List.getElem?_eq_some_iff.mp hv).1
            by_cases hxv : x = r4 p.2 + (j' : Int) * p.2
            · rw [if_pos (by simpa using hxv)]
              have hlz : (acc j' ++ (rs.take i2).filter fun v => (ρ v).getD p.1.toNat 0 == r4 p.2 + (j' : Int) * p.2).length < 2 ^ 20 := by
                have h1 : ((rs.take i2).filter fun v => (ρ v).getD p.1.toNat 0 == r4 p.2 + (j' : Int) * p.2).length ≤ rs.length := Nat.le_trans (List.length_filter_le _ _) (by rw [List.length_take]; lia)
                have h2 : ∀ j, (acc j).length ≤ j * rs.length := fun j => by
                  induction j with
                  | zero => simp [hacc0]
                  | succ j ih =>
                    rw [haccS, List.length_append, Nat.succ_mul]
                    have := List.length_filter_le (fun v => (ρ v).getD p.1.toNat 0 == r4 p.2 + (j : Int) * p.2) rs
                    lia
                have h3 := h2 j'
                have h4 : j' * rs.length ≤ 3 * rs.length := Nat.mul_le_mul_right _ (by lia)
                rw [List.length_append]
                lia
              refine c18.ld rfl (c18.app hD18 (.inr ci.newD) hlz (fun _ q => nomatch q) fun s₁₉ c19 hD19 e19 => ?_)
              refine ⟨k2 - 1, by lia, hJ2 _ _ ⟨i2 + 1, _, by lia, c19, mv, sameBut_keep e19 hID hI18, ?_, ?_⟩⟩
              · have := iter_ne_list hI2_18 hD18
                obtain ⟨o, ho, r⟩ := hI2_18
                exact ⟨o, sameBut_keep e19 this ho, r⟩
              · have hf1 : ([v].filter fun v => (ρ v).getD p.1.toNat 0 == r4 p.2 + (j' : Int) * p.2) = [v] := by rw [List.filter_cons_of_pos (by rw [hgx]; simpa using hxv)]; rfl
                rw [htk, List.filter_append, hf1, ← List.append_assoc]
                exact hD19
            · rw [if_neg (by simpa using hxv)]
              refine ⟨k2 - 1, by lia, hJ2 _ _ ⟨i2 + 1, _, by lia, c18, mv, hI18, hI2_18, ?_⟩⟩
              have hf1 : ([v].filter fun v => (ρ v).getD p.1.toNat 0 == r4 p.2 + (j' : Int) * p.2) = [] := by rw [List.filter_cons_of_neg (by rw [hgx]; simpa using hxv)]; rfl
              rw [htk, List.filter_append, hf1, List.append_nil]
              exact hD18
          · have hi2' : i2 = rs.length := by lia
            have c17 : Cx G [I1] s₁₀ _ m2 (upd cm "index" (.int p.1 t1)) [] s₁₇ := c16.after k17 (fun a ha => by rw [List.mem_singleton.mp ha]; exact ⟨.inr nI2s, plI2⟩) (fun a ha hb => by rw [List.mem_singleton.mp ha] at hb; exact absurd (List.mem_singleton.mp hb).symm neI12) (fun _ q => nomatch q)
            have hD17 := hD16.kp k17 (fun q => iter_ne_list hI2' hD16 (List.mem_singleton.mp q).symm)
            have hI17 : IsRangeIter s₁₇.heap I1 _ _ _ := k17.keep _ _ hI16 (fun q => neI12 (List.mem_singleton.mp q))
            refine ⟨k' - 1, by lia, hJ1 _ _ ⟨j' + 1, _, by lia, c17, ?_, ?_⟩⟩
            · have e1 : r4 p.2 + ((j' + 1 : Nat) : Int) * p.2 = r4 p.2 + (j' : Int) * p.2 + p.2 := by push_cast; rw [Int.add_mul, Int.one_mul, Int.add_assoc]
              have e2 : (4 : Int) - ((j' + 1 : Nat) : Int) = 4 - (j' : Int) - 1 := by lia
              rw [e1, e2]; exact hI17
            · rw [haccS]
              rw [hi2', List.take_length] at hD17
              exact hD17
        · exact fun {Q} hq => wpAny_pyIter_listiter hI2 hq
      · have hj4 : j' = 4 := by lia
        subst hj4
        have hD13 := hD12.kp k13 (fun q => hID (List.mem_singleton.mp q).symm)
        obtain ⟨nD, hoD⟩ := id hD13
        have hns : s₁₃.heap.Ns C m' := by
          obtain ⟨oL, es, ep, hL, r⟩ := c12.ns
          exact ⟨oL, es, ep, k13.keep _ _ hL (fun q => (ne10 _ _ hI1).1 (List.mem_singleton.mp q).symm), r⟩
        refine ⟨m', [(D, _)], hns, c12.kp.trans k13, fun pr hpr => by rw [List.mem_singleton.mp hpr]; exact ⟨hoD, listO_plain _ _⟩, fun s'' c'' k'' sb => ⟨_, _, c''.sub (fun _ q => nomatch q), fun s₂₀ c20 e20 => ?_⟩⟩
        have hDz : PL s''.heap D (colPass ρ p rs) := ⟨nD, (c''.nw _ (.head _)).1⟩
        have nD₀ : I1 ≠ D₀ := iter_ne_list' hI1 hD10
        have hD'' := hD10.kp k'' (fun q => nD₀ (List.mem_singleton.mp q).symm)
        have hIz : s''.heap.IsListIter I D₀ (i + 1) := by
          obtain ⟨o, ho, hc, hd'⟩ := hI10
          refine ⟨o, k''.keep _ _ ho (fun q => ?_), hc, hd'⟩
          rw [List.mem_singleton.mp q] at ho
          unfold IsRangeIter at hI1
          rw [hI1] at ho; cases ho; exact absurd (show Value.type "range_iterator" = Value.type "list_iterator" from hc) (by decide)
        have neZ : ∀ (b : Addr) (o : Obj), s''.heap.get? b = some o → plainObj o → b ≠ L + 1 := fun b o ho hp => c''.neC ho hp hcR
        refine wpAny_execs_nil ⟨j - 1, by lia, hJ _ _ ⟨i + 1, _, _, D, _, by lia, c20, rfl, ?_, hD''.sb e20 (neZ _ _ hD''.plain.choose_spec.1 hD''.plain.choose_spec.2), hDz.sb e20 (neZ _ _ hDz.plain.choose_spec.1 hDz.plain.choose_spec.2), ?_, fun v hv => hsub v (colPass_sub hv)⟩⟩
        · have := neZ _ _ (listIter_plain hIz).choose_spec.1 (listIter_plain hIz).choose_spec.2
          obtain ⟨o, ho, r⟩ := hIz
          exact ⟨o, sameBut_keep e20 this ho, r⟩
        · have e1 : keys.reverse[i]? = some p := by rw [List.getElem?_reverse hil]; exact hp
          rw [List.take_add_one, e1, List.foldl_append, ← hrs]
          rfl
    · exact fun {Q} hq => wpAny_pyIter_rangeiter (ci.kp.keep _ _ hI1 (fun q => nomatch q)) hq
  · -- the end
    have c5 : Cx G [] s _ m cm [] s₅ := c'.after k5 (fun a ha => by rw [List.mem_singleton.mp ha]; exact ⟨.inr hIn, plainI⟩) (fun a ha hb => nomatch hb) (fun _ q => nomatch q)
    have hR5 := hR'.kp k5 (fun q => iter_ne_list hI' hR' (List.mem_singleton.mp q).symm)
    refine seq (wpAny_Return_some (c5.ldC hcR m1 (k R' _ c5.kp ?_)))
    have hik : i = keys.length := by rw [List.length_reverse, hK.len] at hi; lia
    have e : rs = byColP ρ keys rows := by
      rw [hrs, hik]; unfold byColP
      rw [List.take_of_length_le (by rw [List.length_reverse]; exact Nat.le_refl _)]
    rw [← e]
    exact hR5
end
end Mine
end
section
open PySem PySem.W PyProof.Rows PySem.Calls
set_option maxRecDepth 100000
namespace Mine

/-- a comprehension's turn is through: the frame again -/
inductive TurnEnd (G : Heap) (wr : List Addr) (s₂ : Shared) (cenv : Env) (PC : (Str → Option Value) → Prop) (s s' : Shared) : Prop
  | mk (m cm : Str → Option Value) (X : List Addr) (c : Cx G wr s₂ cenv m cm [] s') (pc : PC cm) (k : Keep X s s') (own : ∀ x ∈ X, x = cenv.locals ∨ ∃ n, cenv.cells.lookup n = some x)
structure TurnV (G : Heap) (wr : List Addr) (s₂ : Shared) (cenv : Env) (PC : (Str → Option Value) → Prop) (R : Value → Heap → Prop) (s : Shared) (y : Value) (s₆ : Shared) : Prop where
  te : TurnEnd G wr s₂ cenv PC s s₆
  r : R y s₆.heap
  hn : (∀ b, y = .ref b → s.heap.get? b = none ∧ ∃ o, s₆.heap.get? b = some o ∧ plainObj o) ∨ ∀ h, R y h
structure TurnT (prog : Program) (w : World) (A : Around) (G : Heap) (wr : List Addr) (s₂ : Shared) (cenv : Env) (PC : (Str → Option Value) → Prop) (elt : Expr) (p : Bool) (R : Value → Heap → Prop) (s s₅ : Shared) : Prop where
  hp : p = true
  h : wpAny (model prog w) A (eval elt cenv) (TurnV G wr s₂ cenv PC R s) NoE s₅
structure TurnF (G : Heap) (wr : List Addr) (s₂ : Shared) (cenv : Env) (PC : (Str → Option Value) → Prop) (p : Bool) (s s₅ : Shared) : Prop where
  hp : p = false
  te : TurnEnd G wr s₂ cenv PC s s₅
noncomputable abbrev TurnAsg (prog : Program) (w : World) (A : Around) (G : Heap) (wr : List Addr) (s₂ : Shared) (cenv : Env) (PC : (Str → Option Value) → Prop) (elt : Expr) (ifs : List Expr) (p : Bool) (R : Value → Heap → Prop) (s : Shared) (_ : Unit) (s₄ : Shared) : Prop :=
  Tests (model prog w) A ifs cenv (fun b s₅ => if b = true then TurnT prog w A G wr s₂ cenv PC elt p R s s₅ else TurnF G wr s₂ cenv PC p s s₅) s₄
noncomputable abbrev Turn (prog : Program) (w : World) (A : Around) (G : Heap) (wr : List Addr) (s₂ : Shared) (cenv : Env) (PC : (Str → Option Value) → Prop) (I : Addr) (target elt : Expr) (ifs : List Expr) (p : Bool) (R : Value → Heap → Prop) (v : Value) (s : Shared) : Prop :=
  wpAny (model prog w) A (letOwnedTupleGo target (.ref I) v) (fun _ s₁ => wpAny (model prog w) A (assign target cenv v) (TurnAsg prog w A G wr s₂ cenv PC elt ifs p R s) NoE s₁) NoE s

/-- what the turns of a comprehension say -/
inductive All2 {α β : Type} (R : α → β → Prop) : List α → List β → Prop
  | nil : All2 R [] []
  | cons {a b as bs} : R a b → All2 R as bs → All2 R (a :: as) (b :: bs)
theorem All2.len {α β : Type} {R : α → β → Prop} {as : List α} {bs : List β} (h : All2 R as bs) : as.length = bs.length := by
  induction h with
  | nil => rfl
  | cons _ _ ih => simp [ih]
theorem All2.mono {α β : Type} {R R' : α → β → Prop} (hR : ∀ a b, R a b → R' a b) {as : List α} {bs : List β} (h : All2 R as bs) : All2 R' as bs := by
  induction h with
  | nil => exact .nil
  | cons x _ ih => exact .cons (hR _ _ x) ih
theorem All2.snoc {α β : Type} {R : α → β → Prop} {as : List α} {bs : List β} (h : All2 R as bs) {a : α} {b : β} (x : R a b) : All2 R (as ++ [a]) (bs ++ [b]) := by
  induction h with
  | nil => exact .cons x .nil
  | cons y _ ih => exact .cons y ih
theorem All2.get {α β : Type} {R : α → β → Prop} {as : List α} {bs : List β} (h : All2 R as bs) : ∀ (i : Nat) a, as[i]? = some a → ∃ b, bs[i]? = some b ∧ R a b := by
  induction h with
  | nil => intro i a e; cases e
  | cons x _ ih =>
    intro i a e
    cases i with
    | zero => cases e; exact ⟨_, rfl, x⟩
    | succ i => exact ih i a e
theorem All2.get' {α β : Type} {R : α → β → Prop} {as : List α} {bs : List β} (h : All2 R as bs) : ∀ (i : Nat) b, bs[i]? = some b → ∃ a, as[i]? = some a ∧ R a b := by
  induction h with
  | nil => intro i a e; cases e
  | cons x _ ih =>
    intro i a e
    cases i with
    | zero => cases e; exact ⟨_, rfl, x⟩
    | succ i => exact ih i a e
theorem All2.ints {α : Type} {f : α → Int} {as : List α} {bs : List Value} (h : All2 (fun a b => ∃ t, b = .int (f a) t) as bs) : IntsAre bs (as.map f) := by
  induction h with
  | nil => exact .nil
  | cons x _ ih => obtain ⟨t, rfl⟩ := x; exact .cons _ t ih

noncomputable def TurnJ (p : Nat → Bool) (R : Nat → Value → Heap → Prop) (X : List Addr) (i : Nat) (l : List Value) (h : Heap) : Prop :=
  All2 (fun i y => (R i y h ∧ ∀ b, y = .ref b → b ∉ X ∧ ∃ o, h.get? b = some o ∧ plainObj o) ∨ ∀ h, R i y h) ((List.range i).filter p) l

section
variable {w : World} {prog : Program} {mg mb : Str → Option Value} {G : Heap} {A : Around} {E : Value → Shared → Prop} {S : List Addr} {s0 s : Shared} {env : Env} {m cm : Str → Option Value}

theorem says_of {s₂ : Shared} {elt target : Expr} {ifs : List Expr} {scope : Scope} {cl : List (Str × Addr)} {I : Addr} {fp wr : List Addr} {n : Nat} {P : Nat → Value → Prop} {St : Nat → Heap → Prop} {cm' : Str → Option Value} {PC : (Str → Option Value) → Prop} {p : Nat → Bool} {R : Nat → Value → Heap → Prop}
    (plain : ∀ i h, St i h → ∀ b ∈ fp, ∃ o, h.get? b = some o ∧ plainObj o) (cells : CellsIn s₂.heap 0 cl cm') (owns : ∀ n, (n, NameKind.cell) ∈ scope.names → cm' n = none) (pc : PC cm')
    (stab : ∀ i y h h', (∀ b o, y = .ref b → h.get? b = some o → h'.get? b = some o) → R i y h → R i y h')
    (turn : ∀ C i v s m cm, (∀ x, C ≤ x → s₂.heap.get? x = none) → i < n → P i v → Cx G wr s₂ (cEnv scope cl C env) m cm [] s → PC cm → St (i + 1) s.heap →
      Turn prog w A G wr s₂ (cEnv scope cl C env) PC I target elt ifs (p i) (R i) v s) :
    CompSays prog w A G s₂ scope cl env I fp wr n P St target elt ifs (TurnJ p R) PC cm' where
  cells := cells
  owns := owns
  pc := pc
  start := fun X h _ => .nil
  len := fun X i l h j => by
    rw [← All2.len j]
    exact Nat.le_trans (List.length_filter_le _ _) (by simp)
  stab := fun X i l h h' hk j => All2.mono (fun i y r => by
    rcases r with ⟨r, hn⟩ | r
    · refine .inl ⟨stab i y h h' (fun b o e ho => hk b o (hn b e).1 ho) r, fun b e => ⟨(hn b e).1, ?_⟩⟩
      obtain ⟨o, ho, hp⟩ := (hn b e).2
      exact ⟨o, hk b o (hn b e).1 ho, hp⟩
    · exact .inr r) j
  step := fun C D i v l s m cm hi hv c hpc hst hX hC hD hCD hbig hDl hJ => by
    have fin : ∀ s', TurnEnd G wr s₂ (cEnv scope cl C env) PC s s' → ∃ m cm, Cx G wr s₂ (cEnv scope cl C env) m cm [] s' ∧ PC cm ∧ (∃ X, Keep X s s' ∧ D ∉ X ∧ ∀ b ∈ fp, b ∉ X) ∧
        ∃ X, Keep X s s' ∧ ∀ x ∈ X, x = C ∨ ∃ n, (cEnv scope cl C env).cells.lookup n = some x := by
      rintro s' ⟨m', cm', X, c', pc', k, hXs⟩
      refine ⟨m', cm', c', pc', ⟨X, k, fun q => ?_, fun b hb q => ?_⟩, X, k, hXs⟩
      · rcases hXs _ q with e | ⟨n, e⟩
        · exact hCD e.symm
        · obtain ⟨o, ho, hp⟩ := hDl.plain
          exact c.neC ho hp e rfl
      · rcases hXs _ q with e | ⟨n, e⟩
        · exact hC (by have e' : b = C := e; rw [← e']; exact hb)
        · obtain ⟨o, ho, hp⟩ := plain _ _ hst b hb
          exact c.neC ho hp e rfl
    have rng : (List.range (i + 1)).filter p = (List.range i).filter p ++ (if p i = true then [i] else []) := by
      rw [List.range_succ, List.filter_append]
      congr 1
      cases e : p i <;> simp [e]
    have mov : ∀ s' X, Keep X s s' → (∀ x ∈ X, x = C ∨ ∃ n, (cEnv scope cl C env).cells.lookup n = some x) → TurnJ p R (C :: D :: env.locals :: fp) i l s'.heap := fun s' X k hXs => by
      refine All2.mono (fun i y r => ?_) hJ
      rcases r with ⟨r, hn⟩ | r
      · have kk : ∀ b o, y = .ref b → s.heap.get? b = some o → s'.heap.get? b = some o := fun b o e ho => k.keep b o ho fun q => by
          obtain ⟨h1, o', ho', hp⟩ := hn b e
          rcases hXs _ q with z | ⟨n, z⟩
          · exact h1 (by rw [z]; exact .head _)
          · exact c.neC ho' hp z rfl
        refine .inl ⟨stab i y _ _ kk r, fun b e => ⟨(hn b e).1, ?_⟩⟩
        obtain ⟨o, ho, hp⟩ := (hn b e).2
        exact ⟨o, kk b o e ho, hp⟩
      · exact .inr r
    refine wpAny_mono (turn C i v s m cm hbig hi hv c hpc hst) (fun _ s₁ h₁ => wpAny_mono h₁ (fun _ s₄ h₄ => ?_) fun _ _ x => x) fun _ _ x => x
    refine tests_mono h₄ fun b s₅ h₅ => ?_
    cases b with
    | false =>
      simp only [Bool.false_eq_true, if_false] at h₅ ⊢
      obtain ⟨m', cm', c', pc', hk, X, kX, hXs⟩ := fin _ h₅.te
      refine ⟨m', cm', c', pc', hk, ?_⟩
      have := mov _ X kX hXs
      unfold TurnJ at this ⊢
      rw [rng, h₅.hp, if_neg Bool.false_ne_true, List.append_nil]
      exact this
    | true =>
      simp only [if_true] at h₅ ⊢
      refine wpAny_mono h₅.h (fun y s₆ h₆ => ?_) fun _ _ x => x
      obtain ⟨te, r, hn⟩ := h₆
      obtain ⟨m', cm', c', pc', hk, X, kX, hXs⟩ := fin _ te
      refine ⟨m', cm', c', pc', hk, ?_⟩
      have := mov _ X kX hXs
      unfold TurnJ at this ⊢
      rw [rng, h₅.hp, if_pos rfl]
      refine this.snoc ?_
      rcases hn with hn | hn
      · refine .inl ⟨r, fun b e => ⟨fun q => ?_, (hn b e).2⟩⟩
        obtain ⟨o, ho⟩ := hX _ q
        rw [(hn b e).1] at ho; cases ho
      · exact .inr hn

theorem TurnJ.out {p : Nat → Bool} {R : Nat → Value → Heap → Prop} {X : List Addr} {n : Nat} {l : List Value} {h : Heap} (j : TurnJ p R X n l h) : All2 (fun i y => R i y h) ((List.range n).filter p) l :=
  All2.mono (fun _ _ r => r.elim (·.1) (· h)) j
theorem All2.whole {R : Nat → Value → Prop} {n : Nat} {l : List Value} (j : All2 R ((List.range n).filter fun _ => true) l) : l.length = n ∧ ∀ i y, l[i]? = some y → R i y := by
  rw [List.filter_eq_self.mpr (fun _ _ => rfl)] at j
  refine ⟨by rw [← j.len, List.length_range], fun i y e => ?_⟩
  obtain ⟨a, h1, h2⟩ := j.get' i y e
  have h3 := (List.getElem?_eq_some_iff.mp h1).2
  rw [List.getElem_range] at h3
  rw [h3]; exact h2

/-- an iterator of a list owns no tuple -/
theorem noOwnedL {target : Expr} {I l : Addr} {i : Nat} {v : Value} {Q : Unit → Shared → Prop} (hI : s.heap.IsListIter I l i) (h : Q () s) : wpAny (model prog w) A (letOwnedTupleGo target (.ref I) v) Q E s := by
  obtain ⟨o, ho, hc, _⟩ := hI
  unfold letOwnedTupleGo
  split
  · exact noOwned (elts := []) (k := 0) (pos := default) ho hc (by decide) h
  · exact noOwned (elts := []) (k := 0) (pos := default) ho hc (by decide) h
  · exact wpAny_pure h

/-- a list as the source -/
theorem srcL (hh : A.handled = none) {s₂ : Shared} {I a : Addr} {items : List Value} (hI : s₂.heap.IsListIter I a 0) (hl : PL s₂.heap a items) (hn : s0.heap.get? I = none) (hz : items.length < 2 ^ 20) :
    Src prog w A s0 s₂ I [I, a] [I] items.toArray.size (fun i v => items.toArray[i]? = some v) (fun i h => h.IsListIter I a i ∧ h.IsList a items.toArray) where
  W := Walks.list hh I a (fun e => iter_ne_list hI hl e.symm) _
  st := ⟨hI, hl.isList⟩
  own := fun b hb => by rw [List.mem_singleton.mp hb]; exact ⟨hn, listIter_plain hI⟩
  fpI := fun b hb => by
    rcases List.mem_cons.mp hb with rfl | hb
    · obtain ⟨o, ho, _⟩ := hI; exact ⟨o, ho⟩
    · rw [List.mem_singleton.mp hb]; exact hl.there
  there := fun i h st b hb => by rw [List.mem_singleton.mp hb]; obtain ⟨o, ho, _⟩ := st.1; exact ⟨o, ho⟩
  small := by simpa using hz

theorem plainL {I a : Addr} {items : Array Value} (i : Nat) (h : Heap) (st : h.IsListIter I a i ∧ h.IsList a items) (b : Addr) (hb : b ∈ [I, a]) : ∃ o, h.get? b = some o ∧ plainObj o := by
  rcases List.mem_cons.mp hb with rfl | hb
  · exact listIter_plain st.1
  · rw [List.mem_singleton.mp hb]; exact isList_plain st.2

theorem none_back {s s' : Shared} {b : Addr} (k : Keep [] s s') (hb : s'.heap.get? b = none) : s.heap.get? b = none := by
  cases e : s.heap.get? b with
  | none => rfl
  | some o => rw [k.keep _ _ e (fun q => nomatch q)] at hb; cases hb

inductive LAskE (prog : Program) (w : World) (A : Around) (G : Heap) (S : List Addr) (s0 : Shared) (env : Env) (cm : Str → Option Value) (scope : Scope) (cl : List (Str × Addr)) (target elt : Expr) (ifs : List Expr) (Q : Value → Shared → Prop) (xv : Value) (s₁ : Shared) : Prop
  | mk (a : Addr) (items : List Value) (m : Str → Option Value) (p : Nat → Bool) (R : Nat → Value → Heap → Prop) (PC : (Str → Option Value) → Prop) (cm' : Str → Option Value) (hxv : xv = .ref a) (c : Cx G S s0 env m cm [] s₁) (pl : PL s₁.heap a items) (hz : items.length < 2 ^ 20)
    (cells : CellsIn s₁.heap 0 cl cm') (owns : ∀ n, (n, NameKind.cell) ∈ scope.names → cm' n = none) (pc : PC cm')
    (stab : ∀ i y h h', (∀ b o, y = .ref b → h.get? b = some o → h'.get? b = some o) → R i y h → R i y h')
    (turn : ∀ I s₂ C i v s m cm, (∀ x, C ≤ x → s₂.heap.get? x = none) → (∀ x, C ≤ x → s₁.heap.get? x = none) → items[i]? = some v → Cx G [I] s₂ (cEnv scope cl C env) m cm [] s → PC cm → s.heap.IsListIter I a (i + 1) → Keep [] s₁ s →
      wpAny (model prog w) A (assign target (cEnv scope cl C env) v) (TurnAsg prog w A G [I] s₂ (cEnv scope cl C env) PC elt ifs (p i) (R i) s) NoE s)
    (fin : ∀ D l s'', Cx G S s0 env m cm [] s'' → PL s''.heap D l → s₁.heap.get? D = none → Keep [] s₁ s'' → All2 (fun i y => R i y s''.heap) ((List.range items.length).filter p) l → Q (.ref D) s'')
/-- a comprehension over a list, as a value; its frame is new since the list was told -/
theorem compLF {elt target iter : Expr} {ifs : List Expr} {scope : Scope} {pos : Pos} {cl : List (Str × Addr)} {Q : Value → Shared → Prop} (hh : A.handled = none)
    (hclos : closureFor scope env = pure cl) (hkind : scope.kind = .function) (hnames : ∀ y ∈ scope.names, y.2 = .local → scope.names.lookup y.1 = some .local)
    (h : wpAny (model prog w) A (eval iter env) (LAskE prog w A G S s0 env cm scope cl target elt ifs Q) E s)
    (hs : ∀ x, foldedSetIterable iter env x = pure x := by intro _; rfl) :
    wpAny (model prog w) A (eval (.ListComp elt [⟨target, iter, ifs, 0⟩] scope pos) env) Q E s := by
  refine compEW (G := G) (S := S) (s0 := s0) (cm := cm) hclos hkind hnames (wpAny_mono h (fun xv s₁ h₁ => ?_) fun _ _ e => e) hs
  obtain ⟨a, items, m, p, R, PC, cm', rfl, c, hl, hz, hcells, howns, hpc, stab, turn, fin⟩ := h₁
  refine iterL hl fun I s₂ k2 hI nI => ?_
  have c2 := c.keep0 k2
  have hl2 := k2.pl0 hl
  have k0 : ∀ {s : Shared}, Keep [I] s₂ s → Keep [] s₁ s := fun {s} k => ⟨by obtain ⟨h, t, e⟩ := k2.same; obtain ⟨h', t', e'⟩ := k.same; rw [e', e]; exact ⟨_, _, rfl⟩, fun b o e _ => k.keep b o (k2.keep b o e (fun q => nomatch q)) (fun q => by rw [List.mem_singleton.mp q, nI] at e; cases e)⟩
  refine ⟨m, I, _, _, _, _, _, TurnJ p R, PC, cm', rfl, c2, srcL hh hI hl2 (c.fresh nI) hz, says_of plainL ⟨fun n x q => (hcells.cell n x q).keeps fun b o e => k2.keep b o e (fun q => nomatch q), hcells.apart⟩ howns hpc stab ?_, ?_⟩
  · intro C i v s m' cm'' hbig hi hv c' pc' st'
    exact noOwnedL st'.1 (turn I s₂ C i v s m' cm'' hbig (fun x hx => none_back k2 (hbig x hx)) (by simpa using hv) c' pc' st'.1 (k0 c'.kp))
  · intro D X l s'' c'' hD nD k'' j _
    exact fin D l s'' c'' hD (none_back k2 nD) (k0 k'') (by simpa using j.out)

inductive LAskA (prog : Program) (w : World) (A : Around) (G : Heap) (S : List Addr) (s0 : Shared) (env : Env) (cm : Str → Option Value) (scope : Scope) (cl : List (Str × Addr)) (target elt : Expr) (ifs : List Expr) (y : Str) (Q : Flow → Shared → Prop) (xv : Value) (s₁ : Shared) : Prop
  | mk (a : Addr) (items : List Value) (m : Str → Option Value) (p : Nat → Bool) (R : Nat → Value → Heap → Prop) (PC : (Str → Option Value) → Prop) (cm' : Str → Option Value) (hxv : xv = .ref a) (c : Cx G S s0 env m cm [] s₁) (pl : PL s₁.heap a items) (hz : items.length < 2 ^ 20)
    (cells : CellsIn s₁.heap 0 cl cm') (owns : ∀ n, (n, NameKind.cell) ∈ scope.names → cm' n = none) (pc : PC cm')
    (stab : ∀ i y h h', (∀ b o, y = .ref b → h.get? b = some o → h'.get? b = some o) → R i y h → R i y h')
    (turn : ∀ I s₂ C i v s m cm, (∀ x, C ≤ x → s₂.heap.get? x = none) → items[i]? = some v → Cx G [I] s₂ (cEnv scope cl C env) m cm [] s → PC cm → s.heap.IsListIter I a (i + 1) → Keep [] s₁ s →
      wpAny (model prog w) A (assign target (cEnv scope cl C env) v) (TurnAsg prog w A G [I] s₂ (cEnv scope cl C env) PC elt ifs (p i) (R i) s) NoE s)
    (fin : ∀ D l s'', Cx G S s0 env (upd m y (.ref D)) cm [] s'' → PL s''.heap D l → s₁.heap.get? D = none → Keep [env.locals] s₁ s'' → All2 (fun i y => R i y s''.heap) ((List.range items.length).filter p) l → Q .next s'')
/-- y = a comprehension over a list -/
theorem compLA {elt target iter : Expr} {ifs : List Expr} {scope : Scope} {pos spos py : Pos} {y : Str} {cl : List (Str × Addr)} {Q : Flow → Shared → Prop} (hh : A.handled = none)
    (hsw : swapsWith (.ListComp elt [⟨target, iter, ifs, 0⟩] scope pos) (some (.Name y py)) spos.line env = pure true)
    (hclos : closureFor scope env = pure cl) (hkind : scope.kind = .function) (hnames : ∀ y ∈ scope.names, y.2 = .local → scope.names.lookup y.1 = some .local)
    (h : wpAny (model prog w) A (eval iter env) (LAskA prog w A G S s0 env cm scope cl target elt ifs y Q) E s)
    (hs : ∀ x, foldedSetIterable iter env x = pure x := by intro _; rfl) (hy : env.kindOf y = some .local := by rfl)
    (hp : (env.scope.kind == .class || (env.scope.kind == .module && env.locals != env.globals)) = false := by rfl) :
    wpAny (model prog w) A (exec (.Assign [.Name y py] (.ListComp elt [⟨target, iter, ifs, 0⟩] scope pos) spos) env) Q E s := by
  refine compAW (G := G) (S := S) (s0 := s0) (cm := cm) hsw hclos hkind hnames (wpAny_mono h (fun xv s₁ h₁ => ?_) fun _ _ e => e) hs hy hp
  obtain ⟨a, items, m, p, R, PC, cm', rfl, c, hl, hz, hcells, howns, hpc, stab, turn, fin⟩ := h₁
  refine iterL hl fun I s₂ k2 hI nI => ?_
  have c2 := c.keep0 k2
  have hl2 := k2.pl0 hl
  have k0 : ∀ {s : Shared} {Y : List Addr}, Keep (Y ++ [I]) s₂ s → Keep Y s₁ s := fun {s Y} k => ⟨by obtain ⟨h, t, e⟩ := k2.same; obtain ⟨h', t', e'⟩ := k.same; rw [e', e]; exact ⟨_, _, rfl⟩, fun b o e q => k.keep b o (k2.keep b o e (fun q => nomatch q)) (fun z => by
    rcases List.mem_append.mp z with z | z
    · exact q z
    · rw [List.mem_singleton.mp z, nI] at e; cases e)⟩
  refine ⟨m, I, _, _, _, _, _, TurnJ p R, PC, cm', rfl, c2, srcL hh hI hl2 (c.fresh nI) hz, says_of plainL ⟨fun n x q => (hcells.cell n x q).keeps fun b o e => k2.keep b o e (fun q => nomatch q), hcells.apart⟩ howns hpc stab ?_, ?_⟩
  · intro C i v s m' cm'' hbig hi hv c' pc' st'
    exact noOwnedL st'.1 (turn I s₂ C i v s m' cm'' hbig (by simpa using hv) c' pc' st'.1 (k0 (Y := []) c'.kp))
  · intro D X l s'' c'' hD nD k'' j _
    exact fin D l s'' c'' hD (none_back k2 nD) (k0 (Y := [env.locals]) k'') (by simpa using j.out)
end
end Mine
end
section
open PySem PySem.W PyProof.Rows PySem.Calls
set_option maxRecDepth 100000
namespace Mine

/-- a row's columns of the keys -/
noncomputable def kcols (keys : List (Int × Int)) (r : List Int) : List Int := keys.map fun p => r.getD p.1.toNat 0

theorem eqvAll_ints : ∀ (a b : List Int), PyData.eqvAll (a.map .int) (b.map .int) = decide (a = b)
  | [], [] => rfl
  | [], _ :: _ => rfl
  | _ :: _, [] => rfl
  | x :: a, y :: b => by
    show (PyData.eqv (.int x) (.int y) && PyData.eqvAll (a.map .int) (b.map .int)) = _
    rw [eqvAll_ints a b]
    have e : PyData.eqv (.int x) (.int y) = decide (x = y) := by
      first | rfl | (simp [PyData.eqv]; rfl) | simp [PyData.eqv]
    rw [e, ← Bool.decide_and]
    simp
theorem eqv_lists (a b : List Int) : PyData.eqv (.list (a.map .int)) (.list (b.map .int)) = decide (a = b) := by
  show PyData.eqvAll _ _ = _
  exact eqvAll_ints a b
theorem eqv_tups (a b : List Int) : PyData.eqv (.tuple (a.map .int)) (.tuple (b.map .int)) = decide (a = b) := by
  show PyData.eqvAll _ _ = _
  exact eqvAll_ints a b
theorem lay_ints : ∀ (a : List Int), PyData.canLayAll0 (a.map .int) = true
  | [] => rfl
  | _ :: a => by show (true && PyData.canLayAll0 (a.map .int)) = true; rw [lay_ints a]; rfl
theorem depth_ints : ∀ (a : List Int), PyData.depthAll (a.map .int) = 0
  | [] => rfl
  | _ :: a => by show max 0 (PyData.depthAll (a.map .int)) = 0; rw [depth_ints a]; rfl
theorem reads_list {h : Heap} {a : Addr} {l : List Value} {ns : List Int} (hl : PL h a l) (hi : IntsAre l ns) : Reads h (.ref a) (.list (ns.map .int)) [a] := by
  obtain ⟨n, ho⟩ := hl
  exact .list ho rfl rfl (hi.reads h)
theorem reads_tup {h : Heap} {v : Value} {ns : List Int} (hv : TI h v ns) : Reads h v (.tuple (ns.map .int)) [] := by
  obtain ⟨a, vs, rfl, ⟨o, ho, hc, n, hd⟩, hi⟩ := hv
  exact .tuple ho hc hd (hi.reads h)
theorem intsAre_uniq {vs : List Value} {a b : List Int} (x : IntsAre vs a) (y : IntsAre vs b) : a = b := by
  induction x generalizing b with
  | nil => cases y; rfl
  | cons n t _ ih => cases y with | cons _ _ z => rw [ih z]

theorem tup_plain {h : Heap} {a : Addr} {its : Array Value} (x : IsTup h a its) : ∃ o, h.get? a = some o ∧ plainObj o := by
  obtain ⟨o, ho, _, n, hd⟩ := x
  exact ⟨o, ho, (fun _ _ q => by rw [hd] at q; cases q), (fun _ q => by rw [hd] at q; cases q)⟩

section
variable {w : World} {prog : Program} {mg mb : Str → Option Value} {G : Heap} {A : Around} {E : Value → Shared → Prop} {S : List Addr} {s0 s : Shared} {env : Env} {m cm : Str → Option Value} {news : List (Addr × Obj)}

/-- what a frame writes of its own leaves plain things -/
theorem Cx.own (c : Cx G S s0 env m cm news s) {X : List Addr} {s' : Shared} (k : Keep X s s') (hX : ∀ x ∈ X, x = env.locals ∨ ∃ n, env.cells.lookup n = some x) {b : Addr} {o : Obj} (ho : s.heap.get? b = some o) (hp : plainObj o) : s'.heap.get? b = some o :=
  k.keep b o ho fun q => by
    rcases hX b q with e | ⟨n, e⟩
    · exact c.neL ho hp e
    · exact c.neC ho hp e rfl
theorem Cx.ownT (c : Cx G S s0 env m cm news s) {X : List Addr} {s' : Shared} (k : Keep X s s') (hX : ∀ x ∈ X, x = env.locals ∨ ∃ n, env.cells.lookup n = some x) {v : Value} {ns : List Int} (hv : TI s.heap v ns) : TI s'.heap v ns := by
  obtain ⟨a, vs, e, ht, hi⟩ := hv
  obtain ⟨o, ho, hp⟩ := tup_plain ht
  obtain ⟨o', ho', r⟩ := ht
  rw [ho] at ho'; cases ho'
  exact ⟨a, vs, e, ⟨o, c.own k hX ho hp, r⟩, hi⟩
theorem Cx.ownP (c : Cx G S s0 env m cm news s) {X : List Addr} {s' : Shared} (k : Keep X s s') (hX : ∀ x ∈ X, x = env.locals ∨ ∃ n, env.cells.lookup n = some x) {a : Addr} {l : List Value} (hv : PL s.heap a l) : PL s'.heap a l := by
  obtain ⟨n, ho⟩ := hv
  exact ⟨n, c.own k hX ho (listO_plain _ _)⟩
theorem Cx.ownK (c : Cx G S s0 env m cm news s) {X : List Addr} {s' : Shared} (k : Keep X s s') (hX : ∀ x ∈ X, x = env.locals ∨ ∃ n, env.cells.lookup n = some x) {kvs : List Value} {keys : List (Int × Int)} (x : KeysAre s.heap kvs keys) : KeysAre s'.heap kvs keys :=
  ⟨x.len, fun j v p a b => c.ownT k hX (x.at_ j v p a b)⟩
theorem ownL {x : Addr} (hx : x ∈ [env.locals]) : x = env.locals ∨ ∃ n, env.cells.lookup n = some x := .inl (List.mem_singleton.mp hx)

theorem pair_of {h : Heap} {v : Value} {x y : Int} (hv : TI h v [x, y]) : ∃ a t u, v = .ref a ∧ IsTup h a (List.toArray [.int x t, .int y u]) := by
  obtain ⟨a, vs, rfl, ha, hints⟩ := hv
  cases hints with
  | cons _ t1 h1 => cases h1 with
    | cons _ t2 h2 => cases h2; exact ⟨a, t1, t2, rfl, ha⟩

/-- one turn of [x[index] for index, direction in keys] -/
theorem keyTurn {cenv : Env} {wr : List Addr} {s₂ : Shared} {x : Str} {a : Addr} {v rv : Value} {p : Int × Int} {rx : List Int} {PC : (Str → Option Value) → Prop} {q1 q2 q3 px p2 p3 : Pos} {k : Nat} {pb : Bool} {R : Value → Heap → Prop}
    (c : Cx G wr s₂ cenv m cm [] s) (hh : A.handled = none) (hv : TI s.heap v [p.1, p.2]) (hp0 : 0 ≤ p.1) (hp4 : p.1 < 4) (ha : cenv.cells.lookup x = some a) (hx : cm x = some rv) (hr : TI s.heap rv rx) (h4 : rx.length = 4) (hpc : PC cm)
    (hP : pb = true) (hR : ∀ t h, R (.int (rx.getD p.1.toNat 0) t) h)
    (k1 : cenv.kindOf "index" = some .local := by rfl) (k2 : cenv.kindOf "direction" = some .local := by rfl) (k3 : cenv.kindOf x = some .cell := by rfl) (hk : cenv.scope.kind = .function := by rfl) (hd : (x == ("__debug__" : Str)) = false := by rfl)
    (hpp : (cenv.scope.kind == .class || (cenv.scope.kind == .module && cenv.locals != cenv.globals)) = false := by rfl) :
    wpAny (model prog w) A (assign (.Tuple [.Name "index" q1, .Name "direction" q2] k q3) cenv v) (TurnAsg prog w A G wr s₂ cenv PC (.Subscript (.Name x px) (.Name "index" p2) p3) [] pb R s) NoE s := by
  obtain ⟨t, t1, t2, rfl, ht⟩ := pair_of hv
  refine c.unpack2 hh ht (fun s' c' kk => ?_) k1 k2 hpp
  refine tests_nil ⟨hP, Subscript_ (c'.ldC ha hx (c'.ld (by rfl) (itemI (j := p.1.toNat) (c.ownT kk (fun _ => ownL) hr) (by lia) (n := rx.getD p.1.toNat 0) ?_ (by lia) fun t9 => ⟨⟨_, _, _, c', hpc, kk, fun _ => ownL⟩, hR t9 _, .inr fun _ => hR t9 _⟩) hk k1) hk k3 hd)⟩
  rw [List.getD_eq_getElem?_getD, List.getElem?_eq_getElem (by lia)]; rfl
end
end Mine
end
section
open PySem PySem.W PyProof.Rows PySem.Calls
set_option maxRecDepth 100000
namespace Mine

theorem getD_of_get {l : List Int} {j : Nat} {n : Int} (h : l[j]? = some n) : l.getD j 0 = n := by rw [List.getD_eq_getElem?_getD, h]; rfl

/-- the columns of a row, walked -/
theorem kcols_of {keys : List (Int × Int)} {rx : List Int} {l : List Value} (j : All2 (fun i y => ∃ p, keys[i]? = some p ∧ ∃ t, y = .int (rx.getD p.1.toNat 0) t) ((List.range keys.length).filter fun _ => true) l) : IntsAre l (kcols keys rx) := by
  rw [List.filter_eq_self.mpr (fun _ _ => rfl)] at j
  have := All2.ints (f := fun i => rx.getD (keys.getD i (0, 0)).1.toNat 0) (j.mono fun i y h => by
    obtain ⟨p, hp, t, e⟩ := h
    exact ⟨t, by rw [show keys.getD i (0, 0) = p by rw [List.getD_eq_getElem?_getD, hp]; rfl]; exact e⟩)
  have e : (List.range keys.length).map (fun i => rx.getD (keys.getD i (0, 0)).1.toNat 0) = kcols keys rx := by
    unfold kcols
    apply List.ext_getElem?
    intro i
    by_cases hi : i < keys.length
    · simp [hi]
    · simp [hi, Nat.le_of_not_lt hi]
  rw [← e]; exact this

section
variable {w : World} {prog : Program} {mg mb : Str → Option Value} {G : Heap} {A : Around} {E : Value → Shared → Prop} {s : Shared}

open Classical in
set_option maxHeartbeats 1000000 in
theorem told_rank_spec (T : GT w mg mb G) {n : Nat} (r : Room (n + 3) A) (st : Stays G s.heap) {U Kl : Addr} {due kvs : List Value} {keys : List (Int × Int)} {rv : Value} {rx : List Int} (hU : PL s.heap U due) (hKl : PL s.heap Kl kvs) (hK : KeysAre s.heap kvs keys)
    (hin : ∀ p ∈ keys, 0 ≤ p.1 ∧ p.1 < 4) (hkz : keys.length < 2 ^ 10) {ρ : Value → List Int} (hρ : ∀ v ∈ due, TI s.heap v (ρ v) ∧ (ρ v).length = 4) (hrv : TI s.heap rv rx) (hr4 : rx.length = 4) (hdz : due.length < 2 ^ 18)
    {j : Nat} {dv : Value} (hj : due[j]? = some dv) (hjk : kcols keys (ρ dv) = kcols keys rx) (hno : ∀ (i : Nat) v, i < j → due[i]? = some v → kcols keys (ρ v) ≠ kcols keys rx) {Q : Value → Shared → Prop}
    (k : ∀ t s', Keep [] s s' → Q (.int j t) s') :
    wpAny (model prog w) A (call (.ref 127) [.ref U, rv, .ref Kl]) Q E s := by
  refine callFnC (S := []) (n := n + 3) (binds := [("due", .ref U), ("row", rv), ("keys", .ref Kl)]) T st (fun y hy => nomatch hy) (fun y hy => nomatch hy) r
    (by rfl) (by kernel_rfl!) (.of_eq (by rfl)) (by kernel_rfl!) (fun L s₁ c k0 hcn => ?_)
  have hcR : (c.theEnv).cells.lookup ("row" : Str) = some (L + 1) := rfl
  have hcK : (c.theEnv).cells.lookup ("keys" : Str) = some (L + 1 + 1) := rfl
  have hh : (A.deeper c.theEnv).handled = none := r.hn
  have hlen : kvs.length = keys.length := hK.len
  have keyAt : ∀ (i : Nat) v, kvs[i]? = some v → ∃ p, keys[i]? = some p ∧ TI s.heap v [p.1, p.2] ∧ 0 ≤ p.1 ∧ p.1 < 4 := fun i v hv => by
    have hi := (List.getElem?_eq_some_iff.mp hv).1
    have hp : keys[i]? = some keys[i] := List.getElem?_eq_getElem (by lia)
    exact ⟨_, hp, hK.at_ i v _ hv hp, hin _ (List.mem_of_getElem? hp)⟩
  refine seq (compLA (G := G) (S := []) (s0 := s) (cl := [("row", L + 1)]) hh (by rfl) (by rfl) (by rfl) (by decide) (c.ldC hcK rfl ⟨Kl, kvs, _, fun _ => true, fun i y _ => ∃ p, keys[i]? = some p ∧ ∃ t, y = .int (rx.getD p.1.toNat 0) t, fun cm => cm "row" = some rv, _, rfl, c, k0.pl0 hKl, by lia,
    c.cellsIn (fun p hp => by rw [List.mem_singleton.mp hp]; exact ⟨rfl, rfl⟩), (fun n hn => by simp at hn), rfl, (fun _ _ _ _ _ h => h), ?_, fun D l s₂ c2 hD nD k2 hall => ?_⟩))
  · intro I s₂ C i v s' m' cm' hbig hv c' pc' hI' k'
    obtain ⟨p, hp, hti, hp0, hp4⟩ := keyAt i v hv
    exact keyTurn (PC := fun cm => cm "row" = some rv) (R := fun y _ => ∃ p, keys[i]? = some p ∧ ∃ t, y = .int (rx.getD p.1.toNat 0) t) (x := "row") (a := L + 1) (p := p) c' hh ((hti.kp0 k0).kp0 k') hp0 hp4 rfl pc' ((hrv.kp0 k0).kp0 k') hr4 pc' rfl (fun t _ => ⟨p, hp, t, rfl⟩)
  rw [hlen] at hall
  have hW := kcols_of hall
  have kk2 : ∀ {v ns}, TI s.heap v ns → TI s₂.heap v ns := fun h => c.ownT k2 (fun _ => ownL) (h.kp0 k0)
  have hU2 : PL s₂.heap U due := c.ownP k2 (fun _ => ownL) (k0.pl0 hU)
  have hKl2 : PL s₂.heap Kl kvs := c.ownP k2 (fun _ => ownL) (k0.pl0 hKl)
  refine seq (wpAny_Return_some (MethodCall_ (pl := do return (← importBound _ _).getD true) (compLF (G := G) (S := []) (s0 := s) (cl := [("keys", L + 1 + 1)]) hh (by rfl) (by rfl) (by decide) (c2.ld rfl ⟨U, due, _, fun _ => true, fun i y h => ∃ v b l, due[i]? = some v ∧ y = .ref b ∧ PL h b l ∧ IntsAre l (kcols keys (ρ v)), fun cm => cm "keys" = some (.ref Kl), upd (fun _ => none) "keys" (.ref Kl), rfl, c2, hU2, by lia,
    c2.cellsIn (fun p hp => by rw [List.mem_singleton.mp hp]; exact ⟨rfl, rfl⟩), (fun n hn => by simp at hn; subst hn; rfl), rfl, (fun i y h h' hk ⟨v, b, l, h1, h2, h3, h4⟩ => ⟨v, b, l, h1, h2, h3.at (fun o ho => hk b o h2 ho), h4⟩), ?_, fun D2 l2 s₃ c3 hD3 nD2 k3 hall2 => ?_⟩))))
  · intro I s₃ C i v s' m' cm' hbig _ hv c' pc' hI' k'
    obtain ⟨hti, h4⟩ := hρ v (List.mem_of_getElem? hv)
    refine wpAny_assign_Name (c'.stoC (x := "other") (a := C + 1) rfl (hbig _ (Nat.le_succ _)) fun s₄ c4 e4 => ?_)
    have k4 : Keep [C + 1] s' s₄ := ⟨by obtain ⟨h1, t1, q1⟩ := c4.kp.same; obtain ⟨h2, t2, q2⟩ := c'.kp.same; rw [q1, q2]; exact ⟨_, _, rfl⟩, fun b o e q => sameBut_keep e4 (fun z => q (by rw [z]; exact .head _)) e⟩
    have hX : ∀ x ∈ [C + 1], x = c'.theEnv.locals ∨ ∃ n, c'.theEnv.cells.lookup n = some x := fun x hx => .inr ⟨"other", by rw [List.mem_singleton.mp hx]; rfl⟩
    have kk4 : ∀ {v ns}, TI s.heap v ns → TI s₄.heap v ns := fun h => c'.ownT k4 hX ((kk2 h).kp0 k')
    have hKl4 : PL s₄.heap Kl kvs := c'.ownP k4 hX (k'.pl0 hKl2)
    refine tests_nil ⟨rfl, compLF (G := G) (S := [I]) (s0 := s₃) (cl := [("other", C + 1)]) hh (by rfl) (by rfl) (by decide) (c4.ldC (a := L + 1 + 1) rfl pc' ⟨Kl, kvs, _, fun _ => true, fun i y _ => ∃ p, keys[i]? = some p ∧ ∃ t, y = .int ((ρ v).getD p.1.toNat 0) t, fun cm => cm "other" = some v, _, rfl, c4, hKl4, by lia,
      c4.cellsIn (fun p hp => by rw [List.mem_singleton.mp hp]; exact ⟨rfl, rfl⟩), (fun n hn => by simp at hn), rfl, (fun _ _ _ _ _ h => h), ?_, fun D5 l5 s₅ c5 hD5 nD5 k5 hall5 => ?_⟩)⟩
    · intro I' s₆ C' i' v' s'' m'' cm'' hbig' _ hv' c'' pc'' hI'' k''
      obtain ⟨p, hp, htp, hp0, hp4⟩ := keyAt i' v' hv'
      exact keyTurn (PC := fun cm => cm "other" = some v) (R := fun y _ => ∃ p, keys[i']? = some p ∧ ∃ t, y = .int ((ρ v).getD p.1.toNat 0) t) (x := "other") (a := C + 1) (p := p) c'' hh ((kk4 htp).kp0 k'') hp0 hp4 rfl pc'' ((kk4 hti).kp0 k'') h4 pc'' rfl (fun t _ => ⟨p, hp, t, rfl⟩)
    · rw [hlen] at hall5
      have nD5' : s'.heap.get? D5 = none := by
        cases e : s'.heap.get? D5 with
        | none => rfl
        | some o =>
          by_cases hz : D5 = C + 1
          · obtain ⟨oc, hoc, _⟩ := c4.cell "other" (C + 1) rfl
            rw [← hz, nD5] at hoc; cases hoc
          · rw [k4.keep _ _ e (fun q => hz (List.mem_singleton.mp q))] at nD5; cases nD5
      refine ⟨⟨_, _, [C + 1], c5, pc', k4.trans (k5.mono fun _ q => nomatch q), hX⟩, ⟨v, D5, l5, hv, rfl, hD5, kcols_of hall5⟩, .inl fun b e => ?_⟩
      cases e
      exact ⟨nD5', hD5.plain⟩
  -- the place of the wanted one
  obtain ⟨hl2, hat⟩ := hall2.whole
  obtain ⟨nD2', hoD2⟩ := id hD3
  have hD_3 : PL s₃.heap D l := k3.pl0 hD
  let e : Value → Bool := fun y => decide (∃ b l, y = .ref b ∧ PL s₃.heap b l ∧ IntsAre l (kcols keys rx))
  have he : ∀ (i : Nat) y v, l2[i]? = some y → due[i]? = some v → e y = decide (kcols keys (ρ v) = kcols keys rx) := fun i y v hy hv => by
    obtain ⟨v', b, l', h1, rfl, h3, h4⟩ := hat i y hy
    rw [hv] at h1; cases h1
    apply decide_eq_decide.mpr
    constructor
    · rintro ⟨b', l'', e1, p1, q1⟩
      cases e1
      rw [← h3.uniq p1] at q1
      exact intsAre_uniq h4 q1
    · intro e1
      exact ⟨b, l', rfl, h3, by rw [← e1]; exact h4⟩
  have hj2 : j < l2.length := by rw [hl2]; exact (List.getElem?_eq_some_iff.mp hj).1
  have duev : ∀ i, i < l2.length → ∃ v, due[i]? = some v := fun i hi => ⟨_, List.getElem?_eq_getElem (by rw [← hl2]; exact hi)⟩
  refine getMethod_list_of PySem.F.slot_list_index PySem.F.type_list_index hD3.isList ⟨_, hoD2, rfl⟩ (callWith_method1 (arg (c3.ld rfl (arg0 ?_))))
  refine call_meets PySem.F.slot_list_index ⟨_, hoD2, rfl⟩ PySem.F.entry_list_index (PySem.F.args_list_index_2 _ _)
    (SeqAt.list_indexAt D2 l2.toArray nD2' none #[] (.ref D) e j (by simpa using hj2) (by lia) ?_ ?_) ⟨hoD2, fun y hy => ?_, k _ _ ?_⟩
  · show e l2[j] = true
    rw [he j _ dv (List.getElem?_eq_getElem hj2) hj]
    exact decide_eq_true hjk
  · intro i hi hlt
    have hi' : i < l2.length := by simpa using hi
    obtain ⟨v, hv⟩ := duev i hi'
    show e l2[i] = false
    rw [he i _ v (List.getElem?_eq_getElem hi') hv]
    exact decide_eq_false (hno i v hlt hv)
  · obtain ⟨i, hi, ey⟩ := List.getElem_of_mem (by simpa using hy : y ∈ l2)
    have hy' : l2[i]? = some y := by rw [← ey]; exact List.getElem?_eq_getElem hi
    obtain ⟨v, hv⟩ := duev i hi
    rw [he i y v hy' hv, ← eqv_lists]
    obtain ⟨v', b, l', h1, rfl, h3, h4⟩ := hat i y hy'
    rw [hv] at h1; cases h1
    intro prog w E Q hq
    refine SeqAt.eqBoolOverData prog w _ E s₃ _ _ _ _ _ _ Q (reads_list h3 h4) (reads_list hD_3 hW) (lay_ints _) (lay_ints _) ?_ hq
    have := r.u
    show A.units + 3 + 1 + min _ _ < _
    have hd : ∀ ns : List Int, PyData.depth (.list (ns.map .int)) = 1 := fun ns => by show PyData.depthAll _ + 1 = 1; rw [depth_ints]
    rw [hd, hd]
    lia
  · exact c3.kp.tok _
end
end Mine
end
section
open PySem PySem.W PyProof.Rows PySem.Calls
set_option maxRecDepth 100000
namespace Mine

/-- what a tree of questions ends with, its questions answered by the keys κ -/
noncomputable def Gives (κ : Nat → Int) (N : Nat) {α : Type} : KasT α → (α → Prop) → Prop
  | .ret a, Q => Q a
  | .ask i j k, Q => i < N ∧ j < N ∧ Gives κ N (k (decide (κ i < κ j))) Q

theorem Gives.bind {κ : Nat → Int} {N : Nat} {α β : Type} {f : α → KasT β} {Q : β → Prop} : ∀ (t : KasT α), Gives κ N t (fun a => Gives κ N (f a) Q) → Gives κ N (t.bind f) Q
  | .ret _, h => h
  | .ask _ _ k, h => ⟨h.1, h.2.1, Gives.bind (k _) h.2.2⟩
theorem Gives.mono {κ : Nat → Int} {N : Nat} {α : Type} {Q Q' : α → Prop} (hq : ∀ a, Q a → Q' a) : ∀ (t : KasT α), Gives κ N t Q → Gives κ N t Q'
  | .ret a, h => hq a h
  | .ask _ _ k, h => ⟨h.1, h.2.1, Gives.mono hq (k _) h.2.2⟩
theorem Gives.wp {κ : Nat → Int} {N : Nat} {α : Type} {cmp : Nat → Nat → (Bool → Shared → Prop) → Shared → Prop} {s : Shared} (hc : ∀ i j (C : Bool → Shared → Prop), i < N → j < N → C (decide (κ i < κ j)) s → cmp i j C s) {Q : α → Shared → Prop} :
    ∀ (t : KasT α), Gives κ N t (fun a => Q a s) → t.kasWp cmp Q s
  | .ret _, h => h
  | .ask i j k, h => hc i j _ h.1 h.2.1 (Gives.wp hc (k _) h.2.2)

/-- the order of a stable sort -/
noncomputable def so (κ : Nat → Int) (i j : Nat) : Prop := κ i < κ j ∨ (κ i = κ j ∧ i < j)

noncomputable abbrev P (p : Array Nat) (k : Nat) : Nat := p.getD k 0
theorem P_eq (p : Array Nat) (k : Nat) : P p k = (p[k]?).getD 0 := by
  unfold P; simp only [Array.getD]; split
  · rename_i h; simp [h]
  · rename_i h; simp [h]
theorem P_rev {p : Array Nat} {i j : Nat} (hj : j ≤ p.size) (k : Nat) : P (kas_rev p i j) k = if i ≤ k ∧ k < j then P p (i + j - 1 - k) else P p k := by
  rw [P_eq, P_eq, P_eq]; unfold kas_rev
  rw [getElem?_mirror_all hj]
  split <;> rfl
theorem P_bub {p : Array Nat} {src d : Nat} (hs : src < p.size) (hd : d ≤ src) (k : Nat) : P (bubble p src d) k = if k = src - d then P p src else if src - d < k ∧ k ≤ src then P p (k - 1) else P p k := by
  rw [P_eq, P_eq, P_eq, P_eq, getElem?_bubble hs d hd]
  split
  · rfl
  · split <;> rfl

variable {κ : Nat → Int} {N : Nat}

/-- the front is in the stable order, the rest as it was -/
structure Front (κ : Nat → Int) (N : Nat) (p : Array Nat) (n : Nat) : Prop where
  size : p.size = N
  le : n ≤ N
  sorted : ∀ i j, i < j → j < n → so κ (P p i) (P p j)
  low : ∀ i, i < n → P p i < n
  rest : ∀ k, n ≤ k → k < N → P p k = k

theorem Front.in_ {p : Array Nat} {n : Nat} (F : Front κ N p n) (hN : 0 < N) (k : Nat) : P p k < N := by
  by_cases h : k < n
  · have := F.low k h; have := F.le; lia
  · by_cases h2 : k < N
    · rw [F.rest k (by lia) h2]; exact h2
    · rw [P_eq, show p[k]? = none by simp; rw [F.size]; lia]; exact hN

theorem asc_gives {p : Array Nat} (hin : ∀ k, P p k < N) : ∀ (f n : Nat), Gives κ N (kas_asc p f n) fun m => n ≤ m ∧ m ≤ n + f ∧ (∀ k, n ≤ k → k < m → κ (P p (k - 1)) ≤ κ (P p k)) ∧ (m < n + f → κ (P p m) < κ (P p (m - 1)))
  | 0, n => ⟨Nat.le_refl _, Nat.le_refl _, fun k h1 h2 => by lia, fun h => by lia⟩
  | f + 1, n => by
    refine ⟨hin n, hin (n - 1), ?_⟩
    by_cases h : κ (p.getD n 0) < κ (p.getD (n - 1) 0)
    · rw [decide_eq_true h]; dsimp only; rw [if_pos rfl]
      exact ⟨Nat.le_refl _, by lia, fun k h1 h2 => by lia, fun _ => h⟩
    · rw [decide_eq_false h]; dsimp only; rw [if_neg Bool.false_ne_true]
      refine (asc_gives hin f (n + 1)).mono fun m ⟨h1, h2, h3, h4⟩ => ⟨by lia, by lia, fun k k1 k2 => ?_, fun hm => h4 (by lia)⟩
      by_cases hk : k = n
      · subst hk; exact Int.not_lt.mp h
      · exact h3 k (by lia) k2

/-- the front grows by a rising run -/
theorem Front.grow {p : Array Nat} {n m : Nat} (F : Front κ N p n) (h1 : 1 ≤ n) (hm : m ≤ N) (hnm : n ≤ m) (ha : ∀ k, n ≤ k → k < m → κ (P p (k - 1)) ≤ κ (P p k)) : Front κ N p m := by
  have step : ∀ d, n + d ≤ m → Front κ N p (n + d) := by
    intro d
    induction d with
    | zero => intro _; exact F
    | succ d ih =>
      intro hd
      have I := ih (by lia)
      have e := I.rest (n + d) (Nat.le_refl _) (by lia)
      have a := ha (n + d) (by lia) (by lia)
      refine ⟨I.size, by lia, fun i j hij hj => ?_, fun i hi => ?_, fun k k1 k2 => I.rest k (by lia) k2⟩
      · by_cases hj' : j = n + d
        · subst hj'
          have l1 := I.low i (by lia)
          have hle : κ (P p i) ≤ κ (P p (n + d - 1)) := by
            by_cases hi : i = n + d - 1
            · rw [hi]; exact Int.le_refl _
            · rcases I.sorted i (n + d - 1) (by lia) (by lia) with q | q <;> lia
          unfold so
          rw [e] at a ⊢
          by_cases q : κ (P p i) < κ (n + d)
          · exact .inl q
          · exact .inr ⟨by lia, l1⟩
        · exact I.sorted i j hij (by lia)
      · by_cases hi' : i = n + d
        · subst hi'; rw [e]; lia
        · have := I.low i (by lia); lia
  have := step (m - n) (by lia)
  rwa [show n + (m - n) = m by lia] at this

/-- the front falls: the stable order backwards, a block of like ones last, that still rises -/
structure Falls (κ : Nat → Int) (N : Nat) (p : Array Nat) (n q : Nat) : Prop where
  size : p.size = N
  le : n ≤ N
  qn : q + 1 ≤ n
  down : ∀ i j, i < j → j < n - 1 - q → so κ (P p j) (P p i)
  over : ∀ i j, i < n - 1 - q → n - 1 - q ≤ j → j < n → κ (P p j) < κ (P p i)
  like : ∀ i j, n - 1 - q ≤ i → i < j → j < n → κ (P p i) = κ (P p j) ∧ P p i < P p j
  low : ∀ i, i < n → P p i < n
  rest : ∀ k, n ≤ k → k < N → P p k = k
theorem Falls.in_ {p : Array Nat} {n q : Nat} (F : Falls κ N p n q) (hN : 0 < N) (k : Nat) : P p k < N := by
  by_cases h : k < n
  · have := F.low k h; have := F.le; lia
  · by_cases h2 : k < N
    · rw [F.rest k (by lia) h2]; exact h2
    · rw [P_eq, show p[k]? = none by simp; rw [F.size]; lia]; exact hN

/-- the last block turned: all falls -/
theorem Falls.turn {p : Array Nat} {n q : Nat} (F : Falls κ N p n q) : let p' := kas_rev p (n - (q + 1)) n
    p'.size = N ∧ (∀ i j, i < j → j < n → so κ (P p' j) (P p' i)) ∧ (∀ i, i < n → P p' i < n) ∧ (∀ k, n ≤ k → k < N → P p' k = k) ∧ κ (P p' (n - 1)) = κ (P p (n - 1)) := by
  have hle := F.le
  have hqn := F.qn
  have hz : n ≤ p.size := by rw [F.size]; exact hle
  refine ⟨by rw [show (kas_rev p (n - (q + 1)) n).size = p.size from kas_rev_size _ _]; exact F.size, fun i j hij hj => ?_, fun i hi => ?_, fun k k1 k2 => ?_, ?_⟩
  · rw [P_rev hz, P_rev hz]
    by_cases h1 : n - (q + 1) ≤ i
    · rw [if_pos ⟨by lia, by lia⟩, if_pos ⟨h1, by lia⟩]
      obtain ⟨e1, e2⟩ := F.like (n - (q + 1) + n - 1 - j) (n - (q + 1) + n - 1 - i) (by lia) (by lia) (by lia)
      exact .inr ⟨e1, e2⟩
    · by_cases h2 : n - (q + 1) ≤ j
      · rw [if_pos ⟨h2, hj⟩, if_neg (fun z => h1 z.1)]
        exact .inl (F.over i _ (by lia) (by lia) (by lia))
      · rw [if_neg (fun z => h2 z.1), if_neg (fun z => h1 z.1)]
        exact F.down i j hij (by lia)
  · rw [P_rev hz]
    split
    · exact F.low _ (by lia)
    · exact F.low i hi
  · rw [P_rev hz, if_neg (by lia)]
    exact F.rest k k1 k2
  · rw [P_rev hz, if_pos ⟨by lia, by lia⟩]
    by_cases h : n - (q + 1) + n - 1 - (n - 1) = n - 1
    · rw [h]
    · exact (F.like _ _ (by lia) (by lia) (by lia)).1
theorem Falls.whole {p : Array Nat} {n : Nat} (F : Falls κ N p n 0) : ∀ i j, i < j → j < n → so κ (P p j) (P p i) := fun i j hij hj => by
  have := F.qn
  by_cases h : j = n - 1
  · exact .inl (F.over i j (by lia) (by lia) hj)
  · exact F.down i j hij (by lia)
/-- one more that is less -/
theorem Falls.start {p : Array Nat} {n : Nat} (size : p.size = N) (hn : n < N) (down : ∀ i j, i < j → j < n → so κ (P p j) (P p i)) (low : ∀ i, i < n → P p i < n) (rest : ∀ k, n ≤ k → k < N → P p k = k)
    (h1 : 1 ≤ n) (less : κ (P p n) < κ (P p (n - 1))) : Falls κ N p (n + 1) 0 := by
  have all : ∀ i, i < n → κ (P p n) < κ (P p i) := fun i hi => by
    by_cases h : i = n - 1
    · rw [h]; exact less
    · rcases down i (n - 1) (by lia) (by lia) with q | q <;> lia
  refine ⟨size, hn, by lia, fun i j hij hj => down i j hij (by lia), fun i j hi hj1 hj2 => ?_, fun i j h1 h2 h3 => by lia, fun i hi => ?_, fun k k1 k2 => rest k (by lia) k2⟩
  · have : j = n := by lia
    subst this; exact all i (by lia)
  · by_cases h : i = n
    · subst h; rw [rest i (Nat.le_refl _) hn]; lia
    · have := low i (by lia); lia

theorem desc_gives (hN : 0 < N) : ∀ (f : Nat) (p : Array Nat) (n q : Nat), n + f ≤ N → Falls κ N p n q → Gives κ N (kas_desc f p n q) fun r => Falls κ N r.1 r.2.1 r.2.2
  | 0, p, n, q, _, F => F
  | f + 1, p, n, q, hf, F => by
    have hqn := F.qn
    have e := F.rest n (Nat.le_refl _) (by lia)
    refine ⟨F.in_ hN n, F.in_ hN (n - 1), ?_⟩
    by_cases h : κ (p.getD n 0) < κ (p.getD (n - 1) 0)
    · rw [decide_eq_true h]; dsimp only; rw [if_pos rfl]
      by_cases hq : q > 0
      · rw [if_pos hq]
        obtain ⟨h1, h2, h3, h4, h5⟩ := F.turn
        refine desc_gives hN f _ (n + 1) 0 (by lia) (Falls.start h1 (by lia) h2 h3 h4 (by lia) ?_)
        rw [h5, h4 n (Nat.le_refl _) (by lia)]
        have h' : κ (P p n) < κ (P p (n - 1)) := h
        rw [e] at h'; exact h'
      · rw [if_neg hq]
        have hq0 : q = 0 := by lia
        subst hq0
        exact desc_gives hN f _ (n + 1) 0 (by lia) (Falls.start F.size (by lia) F.whole F.low F.rest (by lia) h)
    · rw [decide_eq_false h]; dsimp only; rw [if_neg Bool.false_ne_true]
      refine ⟨F.in_ hN (n - 1), F.in_ hN n, ?_⟩
      by_cases h2 : κ (p.getD (n - 1) 0) < κ (p.getD n 0)
      · rw [decide_eq_true h2]; dsimp only; rw [if_pos rfl]; exact F
      · rw [decide_eq_false h2]; dsimp only; rw [if_neg Bool.false_ne_true]
        have heq : κ (P p n) = κ (P p (n - 1)) := by
          have a := Int.not_lt.mp h; have b := Int.not_lt.mp h2; exact Int.le_antisymm b a
        have leq : ∀ i, n - 1 - q ≤ i → i < n → κ (P p i) = κ (P p (n - 1)) := fun i h1 h2 => by
          by_cases hi : i = n - 1
          · rw [hi]
          · exact (F.like i (n - 1) h1 (by lia) (by lia)).1
        refine desc_gives hN f p (n + 1) (q + 1) (by lia) ⟨F.size, by lia, by lia, fun i j hij hj => F.down i j hij (by lia), fun i j h1 h2 h3 => ?_, fun i j h1 h2 h3 => ?_, fun i hi => ?_, fun k k1 k2 => F.rest k (by lia) k2⟩
        · by_cases hj : j = n
          · subst hj; rw [heq]; exact F.over i (j - 1) (by lia) (by lia) (by lia)
          · exact F.over i j (by lia) (by lia) (by lia)
        · by_cases hj : j = n
          · subst hj
            refine ⟨by rw [heq]; exact leq i (by lia) (by lia), ?_⟩
            rw [e]; exact F.low i (by lia)
          · exact F.like i j (by lia) h2 (by lia)
        · by_cases hi' : i = n
          · subst hi'; rw [e]; lia
          · have := F.low i (by lia); lia

theorem tail3_gives (hN : 0 < N) {p : Array Nat} {n : Nat} (size : p.size = N) (hn : n ≤ N) (h1 : 1 ≤ n) (down : ∀ i j, i < j → j < n → so κ (P p j) (P p i)) (low : ∀ i, i < n → P p i < n) (rest : ∀ k, n ≤ k → k < N → P p k = k) :
    Gives κ N (kas_tail3 n N p) fun r => 1 ≤ r.1 ∧ Front κ N r.2 r.1 := by
  have hz : n ≤ p.size := by lia
  have F : Front κ N (kas_rev p 0 n) n := by
    refine ⟨by rw [show (kas_rev p 0 n).size = p.size from kas_rev_size _ _]; exact size, hn, fun i j hij hj => ?_, fun i hi => ?_, fun k k1 k2 => ?_⟩
    · rw [P_rev hz, P_rev hz, if_pos ⟨by lia, by lia⟩, if_pos ⟨by lia, by lia⟩]
      exact down _ _ (by lia) (by lia)
    · rw [P_rev hz, if_pos ⟨by lia, hi⟩]; exact low _ (by lia)
    · rw [P_rev hz, if_neg (by lia)]; exact rest k k1 k2
  unfold kas_tail3
  refine Gives.bind _ ((asc_gives (F.in_ hN) (N - n) n).mono fun m ⟨a1, a2, a3, _⟩ => ?_)
  exact ⟨by lia, F.grow h1 (by lia) a1 a3⟩

theorem descPart_gives (hN : 0 < N) {p : Array Nat} {n : Nat} (hn : n < N) (F : Falls κ N p (n + 1) 0) : Gives κ N (kas_descPart n N p) fun r => 1 ≤ r.1 ∧ Front κ N r.2 r.1 := by
  unfold kas_descPart
  refine Gives.bind _ ((desc_gives hN (N - (n + 1)) p (n + 1) 0 (by lia) F).mono fun r R => ?_)
  have hqn := R.qn
  by_cases hq : r.2.2 > 0
  · rw [if_pos hq]
    obtain ⟨h1, h2, h3, h4, _⟩ := R.turn
    exact tail3_gives hN h1 R.le (by lia) h2 h3 h4
  · rw [if_neg hq]
    have hq0 : r.2.2 = 0 := by lia
    rw [hq0] at R
    exact tail3_gives hN R.size R.le (by lia) R.whole R.low R.rest

theorem count_gives (hN : 0 < N) {p : Array Nat} (F : Front κ N p 1) : Gives κ N (kas_count N p) fun r => 1 ≤ r.1 ∧ Front κ N r.2 r.1 := by
  unfold kas_count
  refine Gives.bind _ ((asc_gives (F.in_ hN) (N - 1) 1).mono fun n ⟨a1, a2, a3, a4⟩ => ?_)
  have G := F.grow (Nat.le_refl _) (by lia : n ≤ N) a1 a3
  by_cases hn : n = N
  · rw [if_pos (by simpa using hn)]; exact ⟨a1, G⟩
  · rw [if_neg (by simpa using hn)]
    have less := a4 (by lia)
    by_cases h1 : n > 1
    · rw [if_pos h1]
      refine ⟨G.in_ hN 0, G.in_ hN (n - 1), ?_⟩
      by_cases h : κ (p.getD 0 0) < κ (p.getD (n - 1) 0)
      · rw [decide_eq_true h]; dsimp only; rw [if_pos rfl]; exact ⟨a1, G⟩
      · rw [decide_eq_false h]; dsimp only; rw [if_neg Bool.false_ne_true]
        have hz : n ≤ p.size := by rw [G.size]; lia
        have le0 : ∀ i, i < n → κ (P p 0) ≤ κ (P p i) := fun i hi => by
          by_cases h0 : i = 0
          · rw [h0]; exact Int.le_refl _
          · rcases G.sorted 0 i (by lia) hi with q | q <;> lia
        have leN : ∀ i, i < n → κ (P p i) ≤ κ (P p (n - 1)) := fun i hi => by
          by_cases h0 : i = n - 1
          · rw [h0]; exact Int.le_refl _
          · rcases G.sorted i (n - 1) (by lia) (by lia) with q | q <;> lia
        have like : ∀ i j, i < n → j < n → κ (P p i) = κ (P p j) := fun i j hi hj => by
          have a := le0 i hi; have b := leN i hi; have c := le0 j hj; have d := leN j hj
          have e := Int.not_lt.mp h
          have e' : κ (P p (n - 1)) ≤ κ (P p 0) := e
          lia
        refine descPart_gives hN (by lia) (Falls.start (by rw [show (kas_rev p 0 n).size = p.size from kas_rev_size _ _]; exact G.size) (by lia) (fun i j hij hj => ?_) (fun i hi => ?_) (fun k k1 k2 => ?_) (by lia) ?_)
        · rw [P_rev hz, P_rev hz, if_pos ⟨by lia, by lia⟩, if_pos ⟨by lia, by lia⟩]
          rcases G.sorted (0 + n - 1 - j) (0 + n - 1 - i) (by lia) (by lia) with q | q
          · exact .inl q
          · exact .inr q
        · rw [P_rev hz, if_pos ⟨by lia, hi⟩]; exact G.low _ (by lia)
        · rw [P_rev hz, if_neg (by lia)]; exact G.rest k k1 k2
        · have e1 : P (kas_rev p 0 n) n = P p n := by rw [P_rev hz, if_neg (by lia)]
          have e2 : P (kas_rev p 0 n) (n - 1) = P p (0 + n - 1 - (n - 1)) := by rw [P_rev hz, if_pos ⟨by lia, by lia⟩]
          rw [e1, e2, like (0 + n - 1 - (n - 1)) (n - 1) (by lia) (by lia)]
          exact less
    · rw [if_neg h1]
      have : n = 1 := by lia
      subst this
      exact descPart_gives hN (by lia) (Falls.start G.size (by lia) (fun i j h1 h2 => by lia) G.low G.rest (Nat.le_refl _) less)

theorem place_gives {p : Array Nat} (hin : ∀ k, P p k < N) {k : Nat} (mono : ∀ i j, i ≤ j → j < k → κ (P p i) ≤ κ (P p j)) : ∀ (f l r : Nat), l ≤ r → r ≤ k → r - l ≤ f → (∀ i, i < l → κ (P p i) ≤ κ (P p k)) → (∀ i, r ≤ i → i < k → κ (P p k) < κ (P p i)) →
    Gives κ N (kas_place p k f l r) fun x => x ≤ k ∧ (∀ i, i < x → κ (P p i) ≤ κ (P p k)) ∧ ∀ i, x ≤ i → i < k → κ (P p k) < κ (P p i)
  | 0, l, r, h1, h2, h3, h4, h5 => ⟨by lia, h4, fun i a b => h5 i (by lia) b⟩
  | f + 1, l, r, h1, h2, h3, h4, h5 => by
    unfold kas_place
    by_cases h : l ≥ r
    · rw [if_pos h]; exact ⟨by lia, h4, fun i a b => h5 i (by lia) b⟩
    · rw [if_neg h]
      refine ⟨hin k, hin _, ?_⟩
      by_cases hc : κ (p.getD k 0) < κ (p.getD ((l + r) / 2) 0)
      · rw [decide_eq_true hc]; dsimp only; rw [if_pos rfl]
        exact place_gives hin mono f l ((l + r) / 2) (by lia) (by lia) (by lia) h4 (fun i a b => Int.lt_of_lt_of_le hc (mono _ _ a b))
      · rw [decide_eq_false hc]; dsimp only; rw [if_neg Bool.false_ne_true]
        exact place_gives hin mono f ((l + r) / 2 + 1) r (by lia) (by lia) (by lia) (fun i a => Int.le_trans (mono i ((l + r) / 2) (by lia) (by lia)) (Int.not_lt.mp hc)) h5

theorem bin_gives (hN : 0 < N) : ∀ (f : Nat) (p : Array Nat) (k : Nat), k + f = N → Front κ N p k → Gives κ N (kas_bin f p k) fun p => Front κ N p N
  | 0, p, k, h, F => by
    have : k = N := by lia
    subst this; exact F
  | f + 1, p, k, h, F => by
    unfold kas_bin
    have mono : ∀ i j, i ≤ j → j < k → κ (P p i) ≤ κ (P p j) := fun i j hij hj => by
      by_cases e : i = j
      · rw [e]; exact Int.le_refl _
      · rcases F.sorted i j (by lia) hj with q | q <;> lia
    refine Gives.bind _ ((place_gives (F.in_ hN) mono k 0 k (Nat.zero_le _) (Nat.le_refl _) (by lia) (fun i h => by lia) (fun i a b => by lia)).mono fun l ⟨h1, h2, h3⟩ => ?_)
    have hz : k < p.size := by rw [F.size]; lia
    have hek := F.rest k (Nat.le_refl _) (by lia)
    have e : k - (k - l) = l := by lia
    refine bin_gives hN f _ (k + 1) (by lia) ⟨by rw [bubble_size]; exact F.size, by lia, fun i j hij hj => ?_, fun i hi => ?_, fun x x1 x2 => ?_⟩
    · rw [P_bub hz (by lia), P_bub hz (by lia), e]
      by_cases hi : i = l
      · rw [if_pos hi, if_neg (by lia), if_pos ⟨by lia, by lia⟩]
        exact .inl (h3 (j - 1) (by lia) (by lia))
      · rw [if_neg hi]
        by_cases hj' : j = l
        · rw [if_pos hj', if_neg (by lia)]
          have a := h2 i (by lia)
          unfold so
          rw [hek] at a ⊢
          have b := F.low i (by lia)
          by_cases q : κ (P p i) < κ k
          · exact .inl q
          · exact .inr ⟨by lia, b⟩
        · rw [if_neg hj']
          by_cases hil : l < i
          · rw [if_pos ⟨hil, by lia⟩, if_pos ⟨by lia, by lia⟩]
            exact F.sorted _ _ (by lia) (by lia)
          · rw [if_neg (by lia)]
            by_cases hjl : l < j
            · rw [if_pos ⟨hjl, by lia⟩]; exact F.sorted _ _ (by lia) (by lia)
            · rw [if_neg (by lia)]; exact F.sorted _ _ (by lia) (by lia)
    · rw [P_bub hz (by lia), e]
      by_cases c1 : i = l
      · rw [if_pos c1, hek]; lia
      · rw [if_neg c1]
        by_cases c2 : l < i ∧ i ≤ k
        · rw [if_pos c2]; have := F.low (i - 1) (by lia); lia
        · rw [if_neg c2]; have := F.low i (by lia); lia
    · rw [P_bub hz (by lia), e, if_neg (by lia), if_neg (by lia)]
      exact F.rest x (by lia) x2

/-- the sort is stable -/
theorem sort_gives (hN : 0 < N) : Gives κ N (kas_sort N) fun p => Front κ N p N := by
  unfold kas_sort
  have hP : ∀ k, k < N → P (List.toArray (List.range N)) k = k := fun k hk => by rw [P_eq]; simp [hk]
  have F : Front κ N (List.toArray (List.range N)) 1 := ⟨by simp, hN, fun i j h1 h2 => by lia, fun i hi => by rw [hP i (by lia)]; exact hi, fun k _ k2 => hP k k2⟩
  refine Gives.bind _ ((count_gives hN F).mono fun r ⟨h1, R⟩ => ?_)
  have hle := R.le
  by_cases h : r.1 < N
  · rw [if_pos h, Nat.max_eq_left h1]
    exact bin_gives hN _ _ _ (by lia) R
  · rw [if_neg h]
    have : r.1 = N := by lia
    rw [this] at R
    exact R
end Mine
end
section
open PySem PySem.W PyProof.Rows PySem.Calls
set_option maxRecDepth 100000
namespace Mine

theorem intsAre_snoc {vs : List Value} {ns : List Int} {n : Int} {t : Tok} (h : IntsAre vs ns) : IntsAre (vs ++ [.int n t]) (ns ++ [n]) := by
  induction h with
  | nil => exact .cons n t .nil
  | cons k u _ ih => exact .cons k u ih
theorem intsAre_rev {vs : List Value} {ns : List Int} (b : Bool) (h : IntsAre vs ns) : IntsAre (katRev b vs) (katRev b ns) := by
  cases b with
  | false => exact h
  | true => exact h.reverse
theorem intsAre_at {vs : List Value} {ns : List Int} (h : IntsAre vs ns) {i : Nat} (hi : i < ns.length) : ∃ t, vs.getD i Value.none = .int (ns.getD i 0) t := by
  obtain ⟨t, ht⟩ := intsAre_get h i _ (List.getElem?_eq_getElem hi)
  exact ⟨t, by rw [List.getD_eq_getElem?_getD, ht, List.getD_eq_getElem?_getD, List.getElem?_eq_getElem hi]; rfl⟩

section
variable {w : World} {prog : Program} {A : Around} {E : Value → Shared → Prop} {s : Shared}

/-- list.sort with a key -/
theorem keyed_spec {a : Addr} {f : Value} {b : Bool} {n : Nat} {vs : List Value} {kf : Value → Int} {P' : PySem.Fin → Shared → Prop} (ho : s.heap.get? a = some (seqObj "list" vs.toArray n)) (h2 : 2 ≤ vs.length) (h64 : vs.length < 64)
    (hkey : ∀ v ∈ vs, ∀ s', Keep [a] s s' → ∀ Q' : Value → Shared → Prop, (∀ t s'', Keep [] s' s'' → Q' (.int (kf v) t) s'') → wpAny (model prog w) A (call f [v]) Q' (fun _ _ => False) s')
    (h : ∀ (p : Array Nat) s', Front (fun i => (katRev b (vs.map kf)).getD i 0) vs.length p vs.length → Keep [a] s s' → PL s'.heap a (katRev b (p.toList.map fun i => (katRev b vs).getD i Value.none)) → P' (.done (.ret .none)) s') :
    wpAny (model prog w) A (ksk_tree a f b) P' E s := by
  have ha : a < s.heap.objs.size := Heap.lt_size ho
  have s1 := Heap.SameBut.update s.heap a (Obj.mapSeq fun _ => (#[] : Array Value))
  obtain ⟨e1, ho1⟩ : ∃ e1, (s.heap.update a (Obj.mapSeq fun _ => (#[] : Array Value))).get? a = some (seqObj "list" #[] e1) := ⟨_, get?_update_seq ho fun _ => #[]⟩
  have hkS : ((s.heap.update a (Obj.mapSeq fun _ => (#[] : Array Value))).push (seqObj "tuple" vs.toArray 0)).objs.size = s.heap.objs.size + 1 := by rw [size_push', Heap.size_update]
  unfold ksk_tree
  refine wpAny_bind (listItems_at ho rfl ?_)
  refine wpAny_bind (listUpdate_at ho rfl ?_ (by rw [List.size_toArray, sizeLine_eq]; lia) (Nat.zero_le _))
  refine wpAny_bind (seqEpoch_at ho1 rfl ?_)
  refine wpAny_bind (wpAny_newTuple ?_ (by show vs.length ≤ _; rw [sizeLine_eq]; lia))
  refine wpAny_bind (wpAny_newList ?_ (Nat.zero_le _))
  refine wpAny_holding ?_
  obtain ⟨kS, hkS'⟩ : ∃ kS, kS = ((s.heap.update a (Obj.mapSeq fun _ => (#[] : Array Value))).push (seqObj "tuple" vs.toArray 0)).objs.size := ⟨_, rfl⟩
  have nkS : s.heap.get? kS = none := Heap.get?_none_of_le (by rw [hkS', hkS]; exact Nat.le_succ _)
  have hka : kS ≠ a := fun e => by rw [e, ho] at nkS; cases nkS
  have k1 : Keep [a] s { s with heap := ((s.heap.update a (Obj.mapSeq fun _ => (#[] : Array Value))).push (seqObj "tuple" vs.toArray 0)).push (seqObj "list" #[] 0) } :=
    ⟨⟨_, _, rfl⟩, fun x o e q => Heap.get?_push_of_some _ (Heap.get?_push_of_some _ (sameBut_keep s1 (fun z => q (by rw [z]; exact .head _)) e))⟩
  generalize hs₃ : ({ s with heap := ((s.heap.update a (Obj.mapSeq fun _ => (#[] : Array Value))).push (seqObj "tuple" vs.toArray 0)).push (seqObj "list" #[] 0) } : Shared) = s₃ at k1
  have hoA : s₃.heap.get? a = some (seqObj "list" #[] e1) := by rw [← hs₃]; exact Heap.get?_push_of_some _ (Heap.get?_push_of_some _ ho1)
  have hoK : s₃.heap.get? kS = some (seqObj "list" #[] 0) := by rw [← hs₃, hkS']; exact Heap.get?_push_size _ rfl
  suffices hh : wpAny (model prog w) A (ksk_rest a f b vs.toArray e1 (.ref kS)) P' E s₃ by rw [hkS'] at hh; exact hh
  unfold ksk_rest
  refine wpAny_bind (wpAny_rule ?_)
  first
    | rw [List.forIn_toArray]
    | (rw [← Array.forIn_toList]; simp only [List.toList_toArray])
    | rw [← Array.forIn_toList]
  refine wpAny_bind (ksk_fold (fun i s' => ∃ ks e, Keep [a] s s' ∧ s'.heap.get? a = some (seqObj "list" #[] e1) ∧ s'.heap.get? kS = some (seqObj "list" (List.toArray ks) e) ∧ IntsAre ks ((vs.take i).map kf)) vs 0 s₃ ⟨[], 0, k1, hoA, hoK, .nil⟩ ?_ ?_)
  · rintro j x s' hx ⟨ks, e, k', hA, hK, hi⟩
    have hxm := List.mem_of_getElem? hx
    have hj := (List.getElem?_eq_some_iff.mp hx).1
    have hlk := intsAre_len hi
    refine wpAny_bind (wpAny_attempt (wpAny_mono (hkey x hxm s' k' (fun v s'' => ∃ t, v = .int (kf x) t ∧ Keep [] s' s'') fun t s'' k'' => ⟨t, rfl, k''⟩) (fun v s'' hv => ?_) fun _ _ x => x.elim))
    obtain ⟨t, rfl, k''⟩ := hv
    have hA2 := k''.keep _ _ hA (fun q => nomatch q)
    have hK2 := k''.keep _ _ hK (fun q => nomatch q)
    have hlz : ks.length < 64 := by rw [hlk, List.length_map, List.length_take]; lia
    have s2 := Heap.SameBut.update s''.heap kS (Obj.mapSeq (·.push (.int (kf x) t)))
    have ea : (List.toArray ks).push (.int (kf x) t) = List.toArray (ks ++ [.int (kf x) t]) := by simp
    obtain ⟨c2, hc2⟩ : ∃ c2, (s''.heap.update kS (Obj.mapSeq (·.push (.int (kf x) t)))).get? kS = some (seqObj "list" (List.toArray (ks ++ [.int (kf x) t])) c2) := ⟨_, by rw [← ea]; exact get?_update_seq hK2 (·.push (.int (kf x) t))⟩
    try dsimp only
    refine wpAny_bind (listUpdate_at hK2 rfl ?_ (by rw [List.size_toArray, sizeLine_eq]; lia) (Nat.le_trans (Nat.le_of_eq (Array.size_push ..)) (by rw [List.size_toArray, sizeLine_eq]; lia)))
    refine wpAny_pure ⟨rfl, _, c2, ⟨?_, fun y o e q => ?_⟩, sameBut_keep s2 hka.symm hA2, hc2, ?_⟩
    · obtain ⟨h1, t1, q1⟩ := k'.same; obtain ⟨h2, t2, q2⟩ := k''.same; rw [q2, q1]; exact ⟨_, _, rfl⟩
    · exact sameBut_keep s2 (fun z => by rw [z, nkS] at e; cases e) (k''.keep _ _ (k'.keep y o e q) (fun q => nomatch q))
    · have et : vs.take (0 + j + 1) = vs.take (0 + j) ++ [x] := by
        rw [Nat.zero_add, List.take_add_one, hx]; rfl
      rw [et, List.map_append]
      exact intsAre_snoc hi
  · rintro s' ⟨ks, e, k', hA, hK, hi⟩
    rw [Nat.zero_add, List.take_length] at hi
    have hl : ks.length = vs.length := by rw [intsAre_len hi, List.length_map]
    try dsimp only
    refine wpAny_bind (listItems_at hK rfl ?_)
    have step : ∀ t : Sem PySem.Fin, wpAny (model prog w) A t P' E s' → wpAny (model prog w) A (if b = true then (do let _ ← rule "list.sort.reverse"; t) else t) P' E s' := by
      intro t ht
      split
      · exact wpAny_bind (wpAny_rule ht)
      · exact ht
    have hn2 : ¬ vs.toArray.size < 2 := by rw [List.size_toArray]; lia
    have hlr : (katRev b ks).length = (katRev b vs).length := by rw [kat_len, kat_len, hl]
    unfold ksk_end
    try dsimp only
    refine step _ ?_
    rw [if_neg hn2, if_neg hn2, ksk_kind (kz := vs.map kf) (by simpa using hi) (by rw [List.size_toArray]; lia)]
    refine wpAny_bind (wpAny_pure ?_)
    rw [kat_pairs b hl]
    have gv : (kas_sort (katRev b vs).length).kasWp (kas_ask prog w A oneType' (katRev b ks)) (fun p s'' => s'' = s' ∧ Front (fun i => (katRev b (vs.map kf)).getD i 0) vs.length p vs.length) s' := by
      rw [kat_len]
      refine Gives.wp (κ := fun i => (katRev b (vs.map kf)).getD i 0) (N := vs.length) (fun i j C hi' hj' hC => ?_) _ ((sort_gives (by lia)).mono fun p hp => ⟨rfl, hp⟩)
      obtain ⟨t1, q1⟩ := intsAre_at (intsAre_rev b hi) (i := i) (by rw [kat_len, List.length_map]; exact hi')
      obtain ⟨t2, q2⟩ := intsAre_at (intsAre_rev b hi) (i := j) (by rw [kat_len, List.length_map]; exact hj')
      unfold kas_ask
      rw [q1, q2]
      exact kat_lt_int hC
    refine wpAny_bind (wpAny_mono (kat_run (Q := fun st' s'' => ∃ p : Array Nat, arrOf st' = p.map (kas_item ((List.toArray (katRev b ks)).zip (List.toArray (katRev b vs)))) ∧ failedOf st' = none ∧ s'' = s' ∧ Front (fun i => (katRev b (vs.map kf)).getD i 0) vs.length p vs.length)
      hlr (by rw [kat_len]; exact h2) (by rw [kat_len]; exact h64) (fun p' st' s' a1 a2 a3 a4 => ⟨p', a2, a3, a4⟩) gv) ?_ fun _ _ x => x)
    rintro ⟨⟨⟩, st'⟩ s'' ⟨p, har, hf, rfl, hF⟩
    try dsimp only
    have hout := kat_snds hlr har
    have hzl : (p.toList.map fun i => (katRev b vs).getD i Value.none).length = vs.length := by rw [List.length_map, Array.length_toList, hF.size]
    have x1 := Heap.SameBut.update s''.heap kS (Obj.mapSeq fun _ => (#[] : Array Value))
    have hA3 := sameBut_keep x1 hka.symm hA
    have x2 := Heap.SameBut.update (s''.heap.update kS (Obj.mapSeq fun _ => (#[] : Array Value))) a (Obj.mapSeq fun _ => List.toArray (katRev b (p.toList.map fun i => (katRev b vs).getD i Value.none)))
    obtain ⟨c2, hc2⟩ : ∃ c2, ((s''.heap.update kS (Obj.mapSeq fun _ => (#[] : Array Value))).update a (Obj.mapSeq fun _ => List.toArray (katRev b (p.toList.map fun i => (katRev b vs).getD i Value.none)))).get? a = some (seqObj "list" (List.toArray (katRev b (p.toList.map fun i => (katRev b vs).getD i Value.none))) c2) := ⟨_, get?_update_seq hA3 fun _ => _⟩
    unfold ksk_tail
    try dsimp only
    rw [hout, kat_outs]
    refine wpAny_bind (listUpdate_at hK rfl ?_ (by rw [List.size_toArray, sizeLine_eq]; lia) (Nat.zero_le _))
    refine wpAny_bind (wpAny_letGo ?_)
    refine wpAny_bind (seqEpoch_at hA3 rfl ?_)
    refine wpAny_bind (listUpdate_at hA3 rfl ?_ (Nat.zero_le _) (by rw [List.size_toArray, kat_len, hzl, sizeLine_eq]; lia))
    rw [hf]
    simp only [bne_self_eq_false, Bool.false_eq_true, if_false]
    refine wpAny_pure (h p _ hF ⟨?_, fun y o e q => ?_⟩ ⟨c2, hc2⟩)
    · obtain ⟨h1, t1, q1⟩ := k'.same; rw [q1]; exact ⟨_, _, rfl⟩
    · exact sameBut_keep x2 (fun z => q (by rw [z]; exact .head _)) (sameBut_keep x1 (fun z => by rw [z, nkS] at e; cases e) (k'.keep y o e q))

/-- sorted with a key -/
theorem sorted_spec {l : Addr} {b : Bool} {f : Value} {kw : List (Str × Value)} {vs : List Value} {kf : Value → Int} {Q : Value → Shared → Prop} (hl : PL s.heap l vs) (h2 : 2 ≤ vs.length) (h64 : vs.length < 64)
    (ha1 : argsOk "sorted" ⟨[.ref l], kw⟩) (ha2 : ∀ x, argsOk "list.sort" ⟨[.ref x], kw⟩) (ht : ∀ x, Builtin.«list.sort» ⟨[.ref x], kw⟩ = ksk_tree x f b)
    (hkey : ∀ v ∈ vs, ∀ s', Keep [] s s' → ∀ Q' : Value → Shared → Prop, (∀ t s'', Keep [] s' s'' → Q' (.int (kf v) t) s'') → wpAny (model prog w) A.in1.in1 (call f [v]) Q' (fun _ _ => False) s')
    (h : ∀ (p : Array Nat) D s', Front (fun i => (katRev b (vs.map kf)).getD i 0) vs.length p vs.length → Keep [] s s' → s.heap.get? D = none → PL s'.heap D (katRev b (p.toList.map fun i => (katRev b vs).getD i Value.none)) → Q (.ref D) s') :
    wpAny (model prog w) A (call (.builtin "sorted") [.ref l] kw) Q E s := by
  refine call_function_entry_kw kind_sorted plain_sorted entry_sorted ha1 ?_
  unfold Builtin.«sorted»
  refine wpAny_bind (m := checkCount "sorted" 1 1 _) (wpAny_pure ?_)
  refine wpAny_bind (collect_list hl.isList ?_ (by rw [sizeLine_eq]; lia))
  refine wpAny_bind (wpAny_newList ?_ (by rw [sizeLine_eq]; lia))
  have hsz : ((s.heap.push (seqObj "list" #[] 0)).update s.heap.objs.size (Obj.mapSeq (· ++ vs.toArray))).objs.size = s.heap.objs.size + 1 := by
    rw [Heap.size_update, size_push']
  have hoL : (((s.heap.push (seqObj "list" #[] 0)).update s.heap.objs.size (Obj.mapSeq (· ++ vs.toArray))).push (seqObj "list" vs.toArray 0)).get? (s.heap.objs.size + 1) = some (seqObj "list" vs.toArray 0) := by
    rw [← hsz]; exact Heap.get?_push_size _ rfl
  have keep : ∀ b o, s.heap.get? b = some o → (((s.heap.push (seqObj "list" #[] 0)).update s.heap.objs.size (Obj.mapSeq (· ++ vs.toArray))).push (seqObj "list" vs.toArray 0)).get? b = some o := fun b o q => by
    have hlt : b < s.heap.objs.size := Heap.lt_size q
    rw [Heap.get?_push_ne _ _ _ (by rw [hsz]; exact Nat.ne_of_lt (Nat.lt_succ_of_lt hlt)), Heap.get?_update_ne _ _ _ _ (Nat.ne_of_lt hlt), Heap.get?_push_ne _ _ _ (Nat.ne_of_lt hlt)]
    exact q
  show wpAny _ _ _ _ _ { s with heap := ((s.heap.push (seqObj "list" #[] 0)).update s.heap.objs.size (Obj.mapSeq (· ++ vs.toArray))).push (seqObj "list" vs.toArray 0) }
  rw [hsz]
  have k0 : Keep [] s { s with heap := ((s.heap.push (seqObj "list" #[] 0)).update s.heap.objs.size (Obj.mapSeq (· ++ vs.toArray))).push (seqObj "list" vs.toArray 0) } := ⟨⟨_, _, rfl⟩, fun x o e _ => keep x o e⟩
  have nD : s.heap.get? (s.heap.objs.size + 1) = none := Heap.get?_none_of_le (Nat.le_succ _)
  have kk : ∀ {s' : Shared}, Keep [s.heap.objs.size + 1] { s with heap := ((s.heap.push (seqObj "list" #[] 0)).update s.heap.objs.size (Obj.mapSeq (· ++ vs.toArray))).push (seqObj "list" vs.toArray 0) } s' → Keep [] s s' := fun {s'} k =>
    ⟨by obtain ⟨h1, t1, q1⟩ := k.same; rw [q1]; exact ⟨_, _, rfl⟩, fun x o e _ => k.keep x o (keep x o e) (fun q => by rw [List.mem_singleton.mp q, nD] at e; cases e)⟩
  refine wpAny_bind (wpAny_holding (wpAny_call_entry_kw slot_list_sort ⟨_, hoL, rfl⟩ entry_list_sort ?body (ha2 _)))
  case body =>
    have ht' := ht (s.heap.objs.size + 1)
    show wpAny (model prog w) A.in1.in1 (Builtin.«list.sort» ⟨[.ref (s.heap.objs.size + 1)], kw⟩) _ _ _
    rw [ht']
    exact keyed_spec (kf := kf) (s := { s with heap := ((s.heap.push (seqObj "list" #[] 0)).update s.heap.objs.size (Obj.mapSeq (· ++ vs.toArray))).push (seqObj "list" vs.toArray 0) }) hoL h2 h64
      (fun v hv s' k Q' hq => hkey v hv s' (kk k) Q' hq) (fun p s' hF k hP => ⟨_, rfl, wpAny_pure ⟨_, rfl, h p _ s' hF (kk k) nD hP⟩⟩)
end
end Mine
end
section
open PySem PySem.W PyProof.Rows PySem.Calls
set_option maxRecDepth 100000
namespace Mine

/-- v is the tuple of the ints k and of a tuple of ints -/
noncomputable def Tup3 (h : Heap) (v : Value) (k : Int × Int) (r : Value) (rx : List Int) : Prop := ∃ a t0 t1, v = .ref a ∧ IsTup h a (List.toArray [.int k.1 t0, .int k.2 t1, r]) ∧ TI h r rx
theorem Tup3.tupI {h : Heap} {v : Value} {k : Int × Int} {r : Value} {rx : List Int} (x : Tup3 h v k r rx) : TupI h v k := by
  obtain ⟨a, t0, t1, e, ht, _⟩ := x; exact ⟨a, t0, t1, _, e, ht⟩
/-- an order of pairs, as numbers -/
noncomputable def enc (k : Int × Int) : Int := k.1 * 1048576 + k.2
theorem enc_lt {a b : Int × Int} (ha : -4096 < a.2 ∧ a.2 < 4096) (hb : -4096 < b.2 ∧ b.2 < 4096) : decide (enc a < enc b) = plt a b := by
  unfold enc plt
  by_cases h1 : a.1 < b.1
  · rw [decide_eq_true (by lia), decide_eq_true h1]; rfl
  · by_cases h2 : a.1 = b.1
    · rw [decide_eq_false h1, decide_eq_true h2, Bool.false_or, Bool.true_and]
      exact decide_eq_decide.mpr (by lia)
    · rw [decide_eq_false h1, decide_eq_false h2, decide_eq_false (by lia)]; rfl

section
variable {w : World} {prog : Program} {A : Around} {E : Value → Shared → Prop} {s : Shared}

theorem eqB_int {a b : Int} {t u : Tok} {Q : Bool → Shared → Prop} (hu : A.units < cLine) (h : Q (decide (a = b)) s) : wpAny (model prog w) A (eqBool (.int a t) (.int b u)) Q E s := by
  refine SeqAt.eqBoolOverData prog w A E s _ _ (.int a) (.int b) [] [] Q (.int a t) (.int b u) rfl rfl (by show A.units + min 0 0 < _; lia) ?_
  have e : PyData.eqv (.int a) (.int b) = decide (a = b) := by first | rfl | simp [PyData.eqv]
  rw [e]; exact h

theorem tup3_lt {v u : Value} {k l : Int × Int} {r r' : Value} {rx rx' : List Int} {Q : Bool → Shared → Prop} (hv : Tup3 s.heap v k r rx) (hu : Tup3 s.heap u l r' rx') (hne : k = l → rx = rx') (hA : A.units + 1 < cLine) (h : Q (plt k l) s) :
    wpAny (model prog w) A (keyLt' (tuples' true) v u) Q E s := by
  obtain ⟨a, t0, t1, rfl, ⟨oa, ha, _, na, da⟩, hr⟩ := hv
  obtain ⟨b, u0, u1, rfl, ⟨ob, hb, _, nb, db⟩, hr'⟩ := hu
  refine kat_lt ha da hb db ?_
  refine kat_cons (eqB_int (by lia) ?_)
  by_cases h1 : k.1 = l.1
  · rw [decide_eq_true h1]
    refine kat_yes (kat_cons (eqB_int (by lia) ?_))
    by_cases h2 : k.2 = l.2
    · rw [decide_eq_true h2]
      have hx : rx = rx' := hne (Prod.ext h1 h2)
      subst hx
      refine kat_yes (kat_cons (SeqAt.eqBoolOverData prog w A _ s _ _ _ _ _ _ _ (reads_tup hr) (reads_tup hr') (lay_ints _) (lay_ints _) ?_ ?_))
      · have hd : ∀ ns : List Int, PyData.depth (.tuple (ns.map .int)) = 1 := fun ns => by show PyData.depthAll _ + 1 = 1; rw [depth_ints]
        rw [hd]
        exact hA
      · rw [eqv_tups, decide_eq_true rfl]
        refine kat_yes (kat_nil ?_)
        have e : plt k l = false := by unfold plt; rw [decide_eq_false (by lia), decide_eq_false (p := k.2 < l.2) (by lia), Bool.and_false]; rfl
        rw [e] at h; exact h
    · rw [decide_eq_false h2]
      refine kat_no (kat_one _ _ (cLt ?_))
      have e : plt k l = decide (k.2 < l.2) := by unfold plt; rw [decide_eq_false (by lia), decide_eq_true h1]; simp
      rw [e] at h
      exact h
  · rw [decide_eq_false h1]
    refine kat_no (oneLt_int ?_)
    have e : plt k l = decide (k.1 < l.1) := by unfold plt; rw [decide_eq_false h1]; simp
    rw [e] at h
    exact h

theorem args_sort_rev {x v : Value} : argsOk "list.sort" ⟨[x], [(Str.ofString "reverse", v)]⟩ := by unfold argsOk; kernel_rfl

/-- list.sort of tuples that open with two ints, [] -/
theorem tsort_spec {a : Addr} {vs : List Value} {κ : Value → Int × Int} {ρ : Value → Value} {σ : Value → List Int} {Q : Value → Shared → Prop} (hl : PL s.heap a vs) (h2 : 2 ≤ vs.length) (h64 : vs.length < 64)
    (ht : ∀ v ∈ vs, Tup3 s.heap v (κ v) (ρ v) (σ v)) (hs : ∀ v ∈ vs, ∀ u ∈ vs, κ v = κ u → σ v = σ u) (hb : ∀ v ∈ vs, -4096 < (κ v).2 ∧ (κ v).2 < 4096) (hA : A.units + 2 < cLine)
    (h : ∀ (p : Array Nat) s', Front (fun i => (katRev false (vs.map fun v => enc (κ v))).getD i 0) vs.length p vs.length → Keep [a] s s' → PL s'.heap a (katRev false (p.toList.map fun i => (katRev false vs).getD i Value.none)) → Q .none s') :
    wpAny (model prog w) A (call (.builtin "list.sort") [.ref a] []) Q E s := by
  obtain ⟨n, ho⟩ := id hl
  have ho : s.heap.get? a = some (seqObj "list" vs.toArray n) := ho
  refine wpAny_call_entry_kw slot_list_sort ⟨_, ho, rfl⟩ entry_list_sort ?_ (args_list_sort _)
  have ha : a < s.heap.objs.size := Heap.lt_size ho
  have s1 := Heap.SameBut.update s.heap a (Obj.mapSeq fun _ => (#[] : Array Value))
  obtain ⟨e1, ho1⟩ : ∃ e1, (s.heap.update a (Obj.mapSeq fun _ => (#[] : Array Value))).get? a = some (seqObj "list" #[] e1) := ⟨_, get?_update_seq ho fun _ => #[]⟩
  rw [list_sort_plain]
  refine wpAny_bind (listItems_at ho rfl ?_)
  refine wpAny_bind (listUpdate_at ho rfl ?_ (by rw [List.size_toArray, sizeLine_eq]; lia) (Nat.zero_le _))
  refine wpAny_bind (seqEpoch_at ho1 rfl ?_)
  refine wpAny_bind (wpAny_newTuple ?_ (by show vs.length ≤ _; rw [sizeLine_eq]; lia))
  refine wpAny_bind (wpAny_newList ?_ (Nat.zero_le _))
  refine wpAny_holding ?_
  show wpAny (model prog w) A.in1 _ _ E { s with heap := ((s.heap.update a (Obj.mapSeq fun _ => (#[] : Array Value))).push (seqObj "tuple" vs.toArray 0)).push (seqObj "list" #[] 0) }
  have k1 : Keep [a] s { s with heap := ((s.heap.update a (Obj.mapSeq fun _ => (#[] : Array Value))).push (seqObj "tuple" vs.toArray 0)).push (seqObj "list" #[] 0) } :=
    ⟨⟨_, _, rfl⟩, fun x o e q => Heap.get?_push_of_some _ (Heap.get?_push_of_some _ (sameBut_keep s1 (fun z => q (by rw [z]; exact .head _)) e))⟩
  have hoA : (((s.heap.update a (Obj.mapSeq fun _ => (#[] : Array Value))).push (seqObj "tuple" vs.toArray 0)).push (seqObj "list" #[] 0)).get? a = some (seqObj "list" #[] e1) := Heap.get?_push_of_some _ (Heap.get?_push_of_some _ ho1)
  generalize hs₃ : ({ s with heap := ((s.heap.update a (Obj.mapSeq fun _ => (#[] : Array Value))).push (seqObj "tuple" vs.toArray 0)).push (seqObj "list" #[] 0) } : Shared) = s₃ at k1
  replace hoA : s₃.heap.get? a = some (seqObj "list" #[] e1) := by rw [← hs₃]; exact hoA
  have tne : ∀ {x : Addr} {its : Array Value}, IsTup s.heap x its → IsTup s₃.heap x its := fun {x its} ht => by
    obtain ⟨o, hx, hc, r⟩ := ht
    refine ⟨o, k1.keep _ _ hx (fun q => ?_), hc, r⟩
    rw [List.mem_singleton.mp q, ho] at hx; cases hx
    exact absurd hc (by show Value.type "list" ≠ Value.type "tuple"; decide)
  have ht3 : ∀ v ∈ vs, Tup3 s₃.heap v (κ v) (ρ v) (σ v) := fun v hv => by
    obtain ⟨x, t0, t1, e, h1, y, ys, e2, h2, h3⟩ := ht v hv
    exact ⟨x, t0, t1, e, tne h1, y, ys, e2, tne h2, h3⟩
  dsimp only
  have hn2 : ¬ vs.toArray.size < 2 := by rw [List.size_toArray]; lia
  skip
  skip
  rw [if_neg hn2, if_neg hn2]
  have tups : ∀ (l : List Value), (∀ v ∈ l, Tup3 s₃.heap v (κ v) (ρ v) (σ v)) → ∃ fs, KatTups s₃.heap l fs ∧ fs.length = l.length ∧ ∀ f ∈ fs, ∃ i t, f = .int i t := by
    intro l
    induction l with
    | nil => intro _; exact ⟨[], trivial, rfl, fun f hf => nomatch hf⟩
    | cons v l ih =>
      intro hl'
      obtain ⟨fs, h1, h2, h3⟩ := ih fun u hu => hl' u (.tail _ hu)
      obtain ⟨x, t0, t1, rfl, ⟨o, ho', hc, nn, hd⟩, _⟩ := hl' v (.head _)
      refine ⟨_ :: fs, KatTups.cons (f := .int (κ (.ref x)).1 t0) ho' hc hd rfl h1, by simp [h2], fun f hf => ?_⟩
      rcases List.mem_cons.mp hf with rfl | hf
      · exact ⟨_, _, rfl⟩
      · exact h3 f hf
  obtain ⟨fs, tt, tl, ti⟩ := tups vs ht3
  refine wpAny_bind (kat_kind (T := .type "int") tt (by lia) (fun v hv => ?_) (by decide) ?_)
  · obtain ⟨i, t, rfl⟩ := ti v hv
    exact .now
  have hbb : ((Value.type "int") != Value.type "tuple") = true := by decide
  rw [hbb]
  have gv : (kas_sort (katRev false vs).length).kasWp (kas_ask prog w A.in1 (tuples' true) (katRev false vs)) (fun p s'' => s'' = s₃ ∧ Front (fun i => (katRev false (vs.map fun v => enc (κ v))).getD i 0) vs.length p vs.length) s₃ := by
    rw [kat_len]
    refine Gives.wp (κ := fun i => (katRev false (vs.map fun v => enc (κ v))).getD i 0) (N := vs.length) (fun i j C hi' hj' hC => ?_) _ ((sort_gives (by lia)).mono fun p hp => ⟨rfl, hp⟩)
    have at_ : ∀ i, i < vs.length → ∃ v ∈ vs, (katRev false vs).getD i Value.none = v ∧ (katRev false (vs.map fun v => enc (κ v))).getD i 0 = enc (κ v) := fun i hi => by
      have hlen : i < (katRev false vs).length := by rw [kat_len]; exact hi
      have em : katRev false (vs.map fun v => enc (κ v)) = (katRev false vs).map fun v => enc (κ v) := by unfold katRev; simp
      refine ⟨(katRev false vs)[i], ?_, by rw [List.getD_eq_getElem?_getD, List.getElem?_eq_getElem hlen]; rfl, ?_⟩
      · have := List.getElem_mem hlen
        unfold katRev at this ⊢
        simpa using this
      · rw [em, List.getD_eq_getElem?_getD, List.getElem?_map, List.getElem?_eq_getElem hlen]; rfl
    obtain ⟨v, hv, e1, e2⟩ := at_ i hi'
    obtain ⟨u, hu, e3, e4⟩ := at_ j hj'
    unfold kas_ask
    rw [e1, e3]
    refine tup3_lt (ht3 v hv) (ht3 u hu) (hs v hv u hu) (by show A.units + 1 + 1 < _; lia) ?_
    rw [e2, e4, enc_lt (hb v hv) (hb u hu)] at hC
    exact hC
  skip
  refine wpAny_bind (wpAny_mono (kat_run (Q := fun st' s'' => ∃ p : Array Nat, arrOf st' = p.map (kas_item ((List.toArray (katRev false vs)).zip (List.toArray (katRev false vs)))) ∧ failedOf st' = none ∧ s'' = s₃ ∧ Front (fun i => (katRev false (vs.map fun v => enc (κ v))).getD i 0) vs.length p vs.length)
    rfl (by first | exact h2 | (rw [kat_len]; exact h2)) (by first | exact h64 | (rw [kat_len]; exact h64)) (fun p' st' s' a1 a2 a3 a4 => ⟨p', a2, a3, a4⟩) gv) ?_ fun _ _ x => x)
  rintro ⟨⟨⟩, st'⟩ s'' ⟨p, har, hf, rfl, hF⟩
  try dsimp only
  have hout := kat_snds rfl har
  have hzl : (p.toList.map fun i => (katRev false vs).getD i Value.none).length = vs.length := by rw [List.length_map, Array.length_toList, hF.size]
  have x2 := Heap.SameBut.update s''.heap a (Obj.mapSeq fun _ => List.toArray (katRev false (p.toList.map fun i => (katRev false vs).getD i Value.none)))
  obtain ⟨c2, hc2⟩ : ∃ c2, (s''.heap.update a (Obj.mapSeq fun _ => List.toArray (katRev false (p.toList.map fun i => (katRev false vs).getD i Value.none)))).get? a = some (seqObj "list" (List.toArray (katRev false (p.toList.map fun i => (katRev false vs).getD i Value.none))) c2) := ⟨_, get?_update_seq hoA fun _ => _⟩
  rw [hout]
  skip
  refine wpAny_bind (seqEpoch_at hoA rfl ?_)
  refine wpAny_bind (listUpdate_at hoA rfl ?_ (Nat.zero_le _) (by rw [List.size_toArray]; first | (rw [kat_len, hzl, sizeLine_eq]; lia) | (rw [hzl, sizeLine_eq]; lia)))
  rw [hf]
  simp only [bne_self_eq_false, Bool.false_eq_true, if_false]
  refine wpAny_pure ⟨_, rfl, h p _ hF ⟨?_, fun y o e q => ?_⟩ ⟨c2, hc2⟩⟩
  · obtain ⟨h1, t1, q1⟩ := k1.same; rw [q1]; exact ⟨_, _, rfl⟩
  · exact sameBut_keep x2 (fun z => q (by rw [z]; exact .head _)) (k1.keep y o e q)

/-- list.sort of tuples that open with two ints, [(Str.ofString "reverse", .bool true)] -/
theorem tsortRev_spec {a : Addr} {vs : List Value} {κ : Value → Int × Int} {ρ : Value → Value} {σ : Value → List Int} {Q : Value → Shared → Prop} (hl : PL s.heap a vs) (h2 : 2 ≤ vs.length) (h64 : vs.length < 64)
    (ht : ∀ v ∈ vs, Tup3 s.heap v (κ v) (ρ v) (σ v)) (hs : ∀ v ∈ vs, ∀ u ∈ vs, κ v = κ u → σ v = σ u) (hb : ∀ v ∈ vs, -4096 < (κ v).2 ∧ (κ v).2 < 4096) (hA : A.units + 2 < cLine)
    (h : ∀ (p : Array Nat) s', Front (fun i => (katRev true (vs.map fun v => enc (κ v))).getD i 0) vs.length p vs.length → Keep [a] s s' → PL s'.heap a (katRev true (p.toList.map fun i => (katRev true vs).getD i Value.none)) → Q .none s') :
    wpAny (model prog w) A (call (.builtin "list.sort") [.ref a] [(Str.ofString "reverse", .bool true)]) Q E s := by
  obtain ⟨n, ho⟩ := id hl
  have ho : s.heap.get? a = some (seqObj "list" vs.toArray n) := ho
  refine wpAny_call_entry_kw slot_list_sort ⟨_, ho, rfl⟩ entry_list_sort ?_ args_sort_rev
  have ha : a < s.heap.objs.size := Heap.lt_size ho
  have s1 := Heap.SameBut.update s.heap a (Obj.mapSeq fun _ => (#[] : Array Value))
  obtain ⟨e1, ho1⟩ : ∃ e1, (s.heap.update a (Obj.mapSeq fun _ => (#[] : Array Value))).get? a = some (seqObj "list" #[] e1) := ⟨_, get?_update_seq ho fun _ => #[]⟩
  rw [list_sort_rev]
  refine wpAny_bind (listItems_at ho rfl ?_)
  refine wpAny_bind (listUpdate_at ho rfl ?_ (by rw [List.size_toArray, sizeLine_eq]; lia) (Nat.zero_le _))
  refine wpAny_bind (seqEpoch_at ho1 rfl ?_)
  refine wpAny_bind (wpAny_newTuple ?_ (by show vs.length ≤ _; rw [sizeLine_eq]; lia))
  refine wpAny_bind (wpAny_newList ?_ (Nat.zero_le _))
  refine wpAny_holding ?_
  show wpAny (model prog w) A.in1 _ _ E { s with heap := ((s.heap.update a (Obj.mapSeq fun _ => (#[] : Array Value))).push (seqObj "tuple" vs.toArray 0)).push (seqObj "list" #[] 0) }
  have k1 : Keep [a] s { s with heap := ((s.heap.update a (Obj.mapSeq fun _ => (#[] : Array Value))).push (seqObj "tuple" vs.toArray 0)).push (seqObj "list" #[] 0) } :=
    ⟨⟨_, _, rfl⟩, fun x o e q => Heap.get?_push_of_some _ (Heap.get?_push_of_some _ (sameBut_keep s1 (fun z => q (by rw [z]; exact .head _)) e))⟩
  have hoA : (((s.heap.update a (Obj.mapSeq fun _ => (#[] : Array Value))).push (seqObj "tuple" vs.toArray 0)).push (seqObj "list" #[] 0)).get? a = some (seqObj "list" #[] e1) := Heap.get?_push_of_some _ (Heap.get?_push_of_some _ ho1)
  generalize hs₃ : ({ s with heap := ((s.heap.update a (Obj.mapSeq fun _ => (#[] : Array Value))).push (seqObj "tuple" vs.toArray 0)).push (seqObj "list" #[] 0) } : Shared) = s₃ at k1
  replace hoA : s₃.heap.get? a = some (seqObj "list" #[] e1) := by rw [← hs₃]; exact hoA
  have tne : ∀ {x : Addr} {its : Array Value}, IsTup s.heap x its → IsTup s₃.heap x its := fun {x its} ht => by
    obtain ⟨o, hx, hc, r⟩ := ht
    refine ⟨o, k1.keep _ _ hx (fun q => ?_), hc, r⟩
    rw [List.mem_singleton.mp q, ho] at hx; cases hx
    exact absurd hc (by show Value.type "list" ≠ Value.type "tuple"; decide)
  have ht3 : ∀ v ∈ vs, Tup3 s₃.heap v (κ v) (ρ v) (σ v) := fun v hv => by
    obtain ⟨x, t0, t1, e, h1, y, ys, e2, h2, h3⟩ := ht v hv
    exact ⟨x, t0, t1, e, tne h1, y, ys, e2, tne h2, h3⟩
  dsimp only
  have hn2 : ¬ vs.toArray.size < 2 := by rw [List.size_toArray]; lia
  rw [if_pos rfl]
  refine wpAny_bind (wpAny_rule ?_)
  rw [if_neg hn2, if_neg hn2]
  have tups : ∀ (l : List Value), (∀ v ∈ l, Tup3 s₃.heap v (κ v) (ρ v) (σ v)) → ∃ fs, KatTups s₃.heap l fs ∧ fs.length = l.length ∧ ∀ f ∈ fs, ∃ i t, f = .int i t := by
    intro l
    induction l with
    | nil => intro _; exact ⟨[], trivial, rfl, fun f hf => nomatch hf⟩
    | cons v l ih =>
      intro hl'
      obtain ⟨fs, h1, h2, h3⟩ := ih fun u hu => hl' u (.tail _ hu)
      obtain ⟨x, t0, t1, rfl, ⟨o, ho', hc, nn, hd⟩, _⟩ := hl' v (.head _)
      refine ⟨_ :: fs, KatTups.cons (f := .int (κ (.ref x)).1 t0) ho' hc hd rfl h1, by simp [h2], fun f hf => ?_⟩
      rcases List.mem_cons.mp hf with rfl | hf
      · exact ⟨_, _, rfl⟩
      · exact h3 f hf
  obtain ⟨fs, tt, tl, ti⟩ := tups vs ht3
  refine wpAny_bind (kat_kind (T := .type "int") tt (by lia) (fun v hv => ?_) (by decide) ?_)
  · obtain ⟨i, t, rfl⟩ := ti v hv
    exact .now
  have hbb : ((Value.type "int") != Value.type "tuple") = true := by decide
  rw [hbb]
  have gv : (kas_sort (katRev true vs).length).kasWp (kas_ask prog w A.in1 (tuples' true) (katRev true vs)) (fun p s'' => s'' = s₃ ∧ Front (fun i => (katRev true (vs.map fun v => enc (κ v))).getD i 0) vs.length p vs.length) s₃ := by
    rw [kat_len]
    refine Gives.wp (κ := fun i => (katRev true (vs.map fun v => enc (κ v))).getD i 0) (N := vs.length) (fun i j C hi' hj' hC => ?_) _ ((sort_gives (by lia)).mono fun p hp => ⟨rfl, hp⟩)
    have at_ : ∀ i, i < vs.length → ∃ v ∈ vs, (katRev true vs).getD i Value.none = v ∧ (katRev true (vs.map fun v => enc (κ v))).getD i 0 = enc (κ v) := fun i hi => by
      have hlen : i < (katRev true vs).length := by rw [kat_len]; exact hi
      have em : katRev true (vs.map fun v => enc (κ v)) = (katRev true vs).map fun v => enc (κ v) := by unfold katRev; simp
      refine ⟨(katRev true vs)[i], ?_, by rw [List.getD_eq_getElem?_getD, List.getElem?_eq_getElem hlen]; rfl, ?_⟩
      · have := List.getElem_mem hlen
        unfold katRev at this ⊢
        simpa using this
      · rw [em, List.getD_eq_getElem?_getD, List.getElem?_map, List.getElem?_eq_getElem hlen]; rfl
    obtain ⟨v, hv, e1, e2⟩ := at_ i hi'
    obtain ⟨u, hu, e3, e4⟩ := at_ j hj'
    unfold kas_ask
    rw [e1, e3]
    refine tup3_lt (ht3 v hv) (ht3 u hu) (hs v hv u hu) (by show A.units + 1 + 1 < _; lia) ?_
    rw [e2, e4, enc_lt (hb v hv) (hb u hu)] at hC
    exact hC
  rw [kat_pairs true rfl]
  refine wpAny_bind (wpAny_mono (kat_run (Q := fun st' s'' => ∃ p : Array Nat, arrOf st' = p.map (kas_item ((List.toArray (katRev true vs)).zip (List.toArray (katRev true vs)))) ∧ failedOf st' = none ∧ s'' = s₃ ∧ Front (fun i => (katRev true (vs.map fun v => enc (κ v))).getD i 0) vs.length p vs.length)
    rfl (by first | exact h2 | (rw [kat_len]; exact h2)) (by first | exact h64 | (rw [kat_len]; exact h64)) (fun p' st' s' a1 a2 a3 a4 => ⟨p', a2, a3, a4⟩) gv) ?_ fun _ _ x => x)
  rintro ⟨⟨⟩, st'⟩ s'' ⟨p, har, hf, rfl, hF⟩
  try dsimp only
  have hout := kat_snds rfl har
  have hzl : (p.toList.map fun i => (katRev true vs).getD i Value.none).length = vs.length := by rw [List.length_map, Array.length_toList, hF.size]
  have x2 := Heap.SameBut.update s''.heap a (Obj.mapSeq fun _ => List.toArray (katRev true (p.toList.map fun i => (katRev true vs).getD i Value.none)))
  obtain ⟨c2, hc2⟩ : ∃ c2, (s''.heap.update a (Obj.mapSeq fun _ => List.toArray (katRev true (p.toList.map fun i => (katRev true vs).getD i Value.none)))).get? a = some (seqObj "list" (List.toArray (katRev true (p.toList.map fun i => (katRev true vs).getD i Value.none))) c2) := ⟨_, get?_update_seq hoA fun _ => _⟩
  rw [hout]
  rw [kat_outs true]
  refine wpAny_bind (seqEpoch_at hoA rfl ?_)
  refine wpAny_bind (listUpdate_at hoA rfl ?_ (Nat.zero_le _) (by rw [List.size_toArray]; first | (rw [kat_len, hzl, sizeLine_eq]; lia) | (rw [hzl, sizeLine_eq]; lia)))
  rw [hf]
  simp only [bne_self_eq_false, Bool.false_eq_true, if_false]
  refine wpAny_pure ⟨_, rfl, h p _ hF ⟨?_, fun y o e q => ?_⟩ ⟨c2, hc2⟩⟩
  · obtain ⟨h1, t1, q1⟩ := k1.same; rw [q1]; exact ⟨_, _, rfl⟩
  · exact sameBut_keep x2 (fun z => q (by rw [z]; exact .head _)) (k1.keep y o e q)
end
end Mine
end
section
open PySem PySem.W PyProof.Rows PySem.Calls
set_option maxRecDepth 100000
namespace Mine

theorem args_min_dk {x d v : Value} : argsOk "min" ⟨[x], [(Str.ofString "default", d), (Str.ofString "key", v)]⟩ := by unfold argsOk; kernel_rfl

section
variable {w : World} {prog : Program} {A : Around} {E : Value → Shared → Prop} {s : Shared}

theorem min_loop {I l S : Addr} {q d : Value} {vs : List Value} {kf : Value → Int} {R : Result → Shared → Prop} (hh : A.handled = none) (hq : ∃ x, q = .ref x) (hlI : I ≠ l) (hSl : S ≠ l) (hSI : S ≠ I) (nS0 : s.heap.get? S = none)
    (hl : PL s.heap l vs)
    (hkey : ∀ v ∈ vs, ∀ s', Keep [I] s s' → ∀ Q' : Value → Shared → Prop, (∀ t s'', Keep [] s' s'' → Q' (.int (kf v) t) s'') → wpAny (model prog w) A.in1 (call q [v]) Q' (fun _ _ => False) s')
    (hR : ∀ i v s', vs[i]? = some v → (∀ (j : Nat) u, vs[j]? = some u → kf v ≤ kf u ∧ (j < i → kf v < kf u)) → Keep [I] s s' → R (.ok (.ret v)) s') :
    ∀ (r j i : Nat) (s₁ : Shared) (vb : Value) (tb : Tok) (c : Nat), vs.length - (j + 1) = r → j + 1 ≤ vs.length → Keep [I] s s₁ → s₁.heap.get? S = some (seqObj "list" #[vb, .int (kf vb) tb] c) → s₁.heap.IsListIter I l (j + 1) → vs[i]? = some vb → i ≤ j →
      (∀ (j' : Nat) u, j' ≤ j → vs[j']? = some u → kf vb ≤ kf u ∧ (j' < i → kf vb < kf u)) →
      codeAny (model prog w) A (.builtin "min.loop" ⟨[.ref I, q, .ref S], [(Str.ofString "default", d)]⟩) R s₁ := by
  obtain ⟨qa, rfl⟩ := hq
  have hname : (toString "min" ++ toString ".loop" : String) = "min.loop" := by decide
  have hsz : vs.toArray.size = vs.length := List.size_toArray ..
  intro r
  induction r with
  | zero =>
    intro j i s₁ vb tb c hr hj k₁ hS hit hvb hij hbest
    have hin : j + 1 = vs.length := by lia
    have hl1 : PL s₁.heap l vs := hl.kp k₁ (fun z => hlI (List.mem_singleton.mp z).symm)
    refine codeAny_builtin PySem.F.entry_min_loop ?_
    rw [Around.under_plainId PySem.F.plain_min_loop _]
    show wpAny _ A.in1 (seqItems? (.ref S) >>= _) _ _ _
    refine wpAny_bind (wpAny_seqItems hS rfl ?_)
    show wpAny _ A.in1 (tryCatch (pyNext (.ref I)) _ >>= _) _ _ _
    refine wpAny_bind (wpAny_tryCatch (nextL (A := A.in1) hh hit hl1 (fun v s₂ hv _ _ _ => ?_) (fun s₂ _ k₂ => ?_)))
    · have := (List.getElem?_eq_some_iff.mp hv).1; lia
    have hS2 := k₂.keep _ _ hS (fun z => hSI (List.mem_singleton.mp z))
    have s1 := Heap.SameBut.update s₂.heap S (Obj.mapSeq fun _ => (#[] : Array Value))
    show wpAny _ A.in1 (updateSeq S (fun _ => #[]) >>= _) _ _ _
    refine wpAny_bind ?_
    refine wpAny_updateSeq hS2 rfl (wpAny_bind (wpAny_letGo (wpAny_pure ?_)))
    refine hR i vb _ hvb (fun j' u hu => hbest j' u (by have := (List.getElem?_eq_some_iff.mp hu).1; lia) hu) ⟨?_, fun b o e z => ?_⟩
    · obtain ⟨h1, t1, q1⟩ := k₁.same; obtain ⟨h2, t2, q2⟩ := k₂.same; rw [q2, q1]; exact ⟨_, _, rfl⟩
    · exact sameBut_keep s1 (fun y => by rw [y, nS0] at e; cases e) (k₂.keep b o (k₁.keep b o e z) z)
  | succ r ih =>
    intro j i s₁ vb tb c hr hj k₁ hS hit hvb hij hbest
    have hlt : j + 1 < vs.length := by lia
    have hl1 : PL s₁.heap l vs := hl.kp k₁ (fun z => hlI (List.mem_singleton.mp z).symm)
    refine codeAny_builtin PySem.F.entry_min_loop ?_
    rw [Around.under_plainId PySem.F.plain_min_loop _]
    show wpAny _ A.in1 (seqItems? (.ref S) >>= _) _ _ _
    refine wpAny_bind (wpAny_seqItems hS rfl ?_)
    show wpAny _ A.in1 (tryCatch (pyNext (.ref I)) _ >>= _) _ _ _
    refine wpAny_bind (wpAny_tryCatch (nextL (A := A.in1) hh hit hl1 (fun v s₂ hv hit2 e₂ k₂ => ?_) (fun s₂ hz k₂ => by lia)))
    have hS2 := k₂.keep _ _ hS (fun z => hSI (List.mem_singleton.mp z))
    show wpAny _ A.in1 (tryCatch (holding [v] (call (.ref qa) [v])) _ >>= _) _ _ _
    refine wpAny_bind (wpAny_tryCatch (wpAny_holding (wpAny_mono (hkey v (List.mem_of_getElem? hv) s₂ (k₁.trans k₂) (fun x s'' => ∃ t, x = .int (kf v) t ∧ Keep [] s₂ s'') fun t s'' k'' => ⟨t, rfl, k''⟩) (fun x s₃ he => ?_) fun _ _ hF => hF.elim)))
    obtain ⟨t2, rfl, k₃⟩ := he
    have hS3 := k₃.keep _ _ hS2 (fun z => nomatch z)
    have hit3 : s₃.heap.IsListIter I l (j + 1 + 1) := by obtain ⟨o, ho, rr⟩ := hit2; exact ⟨o, k₃.keep _ _ ho (fun z => nomatch z), rr⟩
    have kk : Keep [I] s s₃ := (k₁.trans k₂).trans (k₃.mono fun _ z => nomatch z)
    show wpAny _ A.in1 (tryCatch (holding [v, .int (kf v) t2] (richCompare .Lt (.int (kf v) t2) (.int (kf vb) tb) >>= _)) _ >>= _) _ _ _
    refine wpAny_bind (wpAny_tryCatch (wpAny_holding (wpAny_bind (cLt (A := A.in1) ?_))))
    refine wpAny_bind (wpAny_holding (wpAny_truthy_bool ?_))
    refine wpAny_bind (wpAny_letGo (wpAny_pure ?_))
    by_cases hb' : kf v < kf vb
    · have s1 := Heap.SameBut.update s₃.heap S (Obj.mapSeq fun _ => #[v, .int (kf v) t2])
      obtain ⟨c2, hc2⟩ : ∃ c2, (s₃.heap.update S (Obj.mapSeq fun _ => #[v, .int (kf v) t2])).get? S = some (seqObj "list" #[v, .int (kf v) t2] c2) := ⟨_, get?_update_seq hS3 fun _ => #[v, .int (kf v) t2]⟩
      simp only [hb', decide_true, if_true]
      refine wpAny_bind ?_
      refine wpAny_updateSeq hS3 rfl (wpAny_bind (wpAny_letGo ?_))
      rw [hname]
      refine wpAny_pure ⟨plainId_quiet PySem.F.plain_min_loop _, ih (j + 1) (j + 1) _ v t2 c2 (by lia) hlt ⟨?_, fun b o e z => ?_⟩ hc2 ?_ hv (Nat.le_refl _) fun j' u hj' hu => ?_⟩
      · obtain ⟨h1, t1, q1⟩ := kk.same; rw [q1]; exact ⟨_, _, rfl⟩
      · exact sameBut_keep s1 (fun y => by rw [y, nS0] at e; cases e) (kk.keep b o e z)
      · obtain ⟨o, ho, rr⟩ := hit3; exact ⟨o, sameBut_keep s1 hSI.symm ho, rr⟩
      · by_cases e : j' = j + 1
        · subst e
          rw [hv] at hu; cases hu
          exact ⟨by lia, fun z => by lia⟩
        · have hb1 := hbest j' u (by lia) hu
          have hb2 := hb1.1
          exact ⟨by lia, fun _ => by lia⟩
    · simp only [hb', decide_false, Bool.false_eq_true, if_false]
      refine wpAny_bind (wpAny_letGo ?_)
      rw [hname]
      refine wpAny_pure ⟨plainId_quiet PySem.F.plain_min_loop _, ih (j + 1) i _ vb tb c (by lia) hlt kk hS3 hit3 hvb (by lia) fun j' u hj' hu => ?_⟩
      by_cases e : j' = j + 1
      · subst e
        rw [hv] at hu; cases hu
        exact ⟨by lia, fun z => by lia⟩
      · exact hbest j' u (by lia) hu

theorem min_spec {I l : Addr} {q d : Value} {vs : List Value} {kf : Value → Int} {Q : Value → Shared → Prop} (hh : A.handled = none) (hq : ∃ x, q = .ref x) (hI : s.heap.IsListIter I l 0) (hl : PL s.heap l vs) (hne : 0 < vs.length)
    (hkey : ∀ v ∈ vs, ∀ s', Keep [I] s s' → ∀ Q' : Value → Shared → Prop, (∀ t s'', Keep [] s' s'' → Q' (.int (kf v) t) s'') → wpAny (model prog w) A.in1 (call q [v]) Q' (fun _ _ => False) s')
    (hQ : ∀ i v s', vs[i]? = some v → (∀ (j : Nat) u, vs[j]? = some u → kf v ≤ kf u ∧ (j < i → kf v < kf u)) → Keep [I] s s' → Q v s') :
    wpAny (model prog w) A (call (.builtin "min") [.ref I] [(Str.ofString "default", d), (Str.ofString "key", q)]) Q E s := by
  obtain ⟨qa, rfl⟩ := hq
  have hname : (toString "min" ++ toString ".loop" : String) = "min.loop" := by decide
  refine kmk_tree PySem.F.kind_min PySem.F.plain_min PySem.F.entry_min args_min_dk ?_
  show wpAny _ A.in1 (Builtin.Builtins.bindParams "min" ["key", "default"] 0 ⟨[], [(Str.ofString "default", d), (Str.ofString "key", .ref qa)]⟩ >>= _) _ _ s
  refine wpAny_bind (wpAny_of_eq (show Builtin.Builtins.bindParams "min" ["key", "default"] 0 ⟨[], [(Str.ofString "default", d), (Str.ofString "key", .ref qa)]⟩ = pure [some (.ref qa), some d] from rfl) ?_)
  refine wpAny_bind (wpAny_pure ?_)
  refine wpAny_bind (wpAny_pyIter_listiter hI ?_)
  refine wpAny_bind (wpAny_newList ?_ (Nat.zero_le _))
  rw [hname]
  refine wpAny_pure ⟨plainId_quiet PySem.F.plain_min_loop _, ?_⟩
  obtain ⟨S, hS'⟩ : ∃ S, S = s.heap.objs.size := ⟨_, rfl⟩
  have nS0 : s.heap.get? S = none := by rw [hS']; exact new_size _
  have hSI : S ≠ I := fun e => by obtain ⟨o, ho, _⟩ := hI; rw [← e, nS0] at ho; cases ho
  have hSl : S ≠ l := fun e => by obtain ⟨o, ho⟩ := hl; rw [← e, nS0] at ho; cases ho
  have hlI : I ≠ l := iter_ne_list hI hl
  have k0 : Keep [] s { s with heap := s.heap.push (seqObj "list" #[] 0) } := keep_push (t := s.toks)
  have hS0 : (s.heap.push (seqObj "list" #[] 0)).get? S = some (seqObj "list" #[] 0) := by rw [hS']; exact Heap.get?_push_size _ rfl
  suffices hs : codeAny (model prog w) A (.builtin "min.loop" ⟨[.ref I, .ref qa, .ref S], [(Str.ofString "default", d)]⟩) (fun r s' => match r with | .ok (.ret v) => Q v s' | .ok _ => False | .error e => E e s') { s with heap := s.heap.push (seqObj "list" #[] 0) } by
    rw [hS'] at hs; exact hs
  generalize hs₀ : ({ s with heap := s.heap.push (seqObj "list" #[] 0) } : Shared) = s₀ at k0
  replace hS0 : s₀.heap.get? S = some (seqObj "list" #[] 0) := by rw [← hs₀]; exact hS0
  have hit0 : s₀.heap.IsListIter I l 0 := by obtain ⟨o, ho, rr⟩ := hI; exact ⟨o, k0.keep _ _ ho (fun z => nomatch z), rr⟩
  have hl0 := k0.pl0 hl
  refine codeAny_builtin PySem.F.entry_min_loop ?_
  rw [Around.under_plainId PySem.F.plain_min_loop _]
  show wpAny _ A.in1 (seqItems? (.ref _) >>= _) _ _ _
  refine wpAny_bind (wpAny_seqItems hS0 rfl ?_)
  show wpAny _ A.in1 (tryCatch (pyNext (.ref I)) _ >>= _) _ _ _
  refine wpAny_bind (wpAny_tryCatch (nextL (A := A.in1) hh hit0 hl0 (fun v s₂ hv hit2 e₂ k₂ => ?_) (fun s₂ hz k₂ => by lia)))
  have hS2 := k₂.keep _ _ hS0 (fun z => hSI (List.mem_singleton.mp z))
  have k02 : Keep [I] s s₂ := (k0.mono fun _ z => nomatch z).trans k₂
  show wpAny _ A.in1 (tryCatch (holding [v] (call (.ref qa) [v])) _ >>= _) _ _ _
  refine wpAny_bind (wpAny_tryCatch (wpAny_holding (wpAny_mono (hkey v (List.mem_of_getElem? hv) s₂ k02 (fun x s'' => ∃ t, x = .int (kf v) t ∧ Keep [] s₂ s'') fun t s'' k'' => ⟨t, rfl, k''⟩) (fun x s₃ he => ?_) fun _ _ hF => hF.elim)))
  obtain ⟨t2, rfl, k₃⟩ := he
  have hS3 := k₃.keep _ _ hS2 (fun z => nomatch z)
  have hit3 : s₃.heap.IsListIter I l 1 := by obtain ⟨o, ho, rr⟩ := hit2; exact ⟨o, k₃.keep _ _ ho (fun z => nomatch z), rr⟩
  have kk : Keep [I] s s₃ := k02.trans (k₃.mono fun _ z => nomatch z)
  have s1 := Heap.SameBut.update s₃.heap S (Obj.mapSeq fun _ => #[v, .int (kf v) t2])
  obtain ⟨c2, hc2⟩ : ∃ c2, (s₃.heap.update S (Obj.mapSeq fun _ => #[v, .int (kf v) t2])).get? S = some (seqObj "list" #[v, .int (kf v) t2] c2) := ⟨_, get?_update_seq hS3 fun _ => #[v, .int (kf v) t2]⟩
  show wpAny _ A.in1 (updateSeq S (fun _ => #[v, .int (kf v) t2]) >>= _) _ _ _
  refine wpAny_bind ?_
  refine wpAny_updateSeq hS3 rfl ?_
  rw [hname]
  refine wpAny_pure ⟨plainId_quiet PySem.F.plain_min_loop _, min_loop (s := s) hh ⟨qa, rfl⟩ hlI hSl hSI nS0 hl hkey hQ _ 0 0 _ v t2 c2 rfl hne ⟨?_, fun b o e z => ?_⟩ hc2 ?_ hv (Nat.le_refl _) fun j' u hj' hu => ?_⟩
  · obtain ⟨h1, t1, q1⟩ := kk.same; rw [q1]; exact ⟨_, _, rfl⟩
  · exact sameBut_keep s1 (fun y => by rw [y, nS0] at e; cases e) (kk.keep b o e z)
  · obtain ⟨o, ho, rr⟩ := hit3; exact ⟨o, sameBut_keep s1 hSI.symm ho, rr⟩
  · have e : j' = 0 := by lia
    subst e
    rw [hv] at hu; cases hu
    exact ⟨by lia, fun h => absurd h (Nat.lt_irrefl _)⟩
end

theorem args_max_dk {x d v : Value} : argsOk "max" ⟨[x], [(Str.ofString "default", d), (Str.ofString "key", v)]⟩ := by unfold argsOk; kernel_rfl

section
variable {w : World} {prog : Program} {A : Around} {E : Value → Shared → Prop} {s : Shared}

theorem max_loop {I l S : Addr} {q d : Value} {vs : List Value} {kf : Value → Int} {R : Result → Shared → Prop} (hh : A.handled = none) (hq : ∃ x, q = .ref x) (hlI : I ≠ l) (hSl : S ≠ l) (hSI : S ≠ I) (nS0 : s.heap.get? S = none)
    (hl : PL s.heap l vs)
    (hkey : ∀ v ∈ vs, ∀ s', Keep [I] s s' → ∀ Q' : Value → Shared → Prop, (∀ t s'', Keep [] s' s'' → Q' (.int (kf v) t) s'') → wpAny (model prog w) A.in1 (call q [v]) Q' (fun _ _ => False) s')
    (hR : ∀ i v s', vs[i]? = some v → (∀ (j : Nat) u, vs[j]? = some u → kf u ≤ kf v ∧ (j < i → kf u < kf v)) → Keep [I] s s' → R (.ok (.ret v)) s') :
    ∀ (r j i : Nat) (s₁ : Shared) (vb : Value) (tb : Tok) (c : Nat), vs.length - (j + 1) = r → j + 1 ≤ vs.length → Keep [I] s s₁ → s₁.heap.get? S = some (seqObj "list" #[vb, .int (kf vb) tb] c) → s₁.heap.IsListIter I l (j + 1) → vs[i]? = some vb → i ≤ j →
      (∀ (j' : Nat) u, j' ≤ j → vs[j']? = some u → kf u ≤ kf vb ∧ (j' < i → kf u < kf vb)) →
      codeAny (model prog w) A (.builtin "max.loop" ⟨[.ref I, q, .ref S], [(Str.ofString "default", d)]⟩) R s₁ := by
  obtain ⟨qa, rfl⟩ := hq
  have hname : (toString "max" ++ toString ".loop" : String) = "max.loop" := by decide
  have hsz : vs.toArray.size = vs.length := List.size_toArray ..
  intro r
  induction r with
  | zero =>
    intro j i s₁ vb tb c hr hj k₁ hS hit hvb hij hbest
    have hin : j + 1 = vs.length := by lia
    have hl1 : PL s₁.heap l vs := hl.kp k₁ (fun z => hlI (List.mem_singleton.mp z).symm)
    refine codeAny_builtin PySem.F.entry_max_loop ?_
    rw [Around.under_plainId PySem.F.plain_max_loop _]
    show wpAny _ A.in1 (seqItems? (.ref S) >>= _) _ _ _
    refine wpAny_bind (wpAny_seqItems hS rfl ?_)
    show wpAny _ A.in1 (tryCatch (pyNext (.ref I)) _ >>= _) _ _ _
    refine wpAny_bind (wpAny_tryCatch (nextL (A := A.in1) hh hit hl1 (fun v s₂ hv _ _ _ => ?_) (fun s₂ _ k₂ => ?_)))
    · have := (List.getElem?_eq_some_iff.mp hv).1; lia
    have hS2 := k₂.keep _ _ hS (fun z => hSI (List.mem_singleton.mp z))
    have s1 := Heap.SameBut.update s₂.heap S (Obj.mapSeq fun _ => (#[] : Array Value))
    show wpAny _ A.in1 (updateSeq S (fun _ => #[]) >>= _) _ _ _
    refine wpAny_bind ?_
    refine wpAny_updateSeq hS2 rfl (wpAny_bind (wpAny_letGo (wpAny_pure ?_)))
    refine hR i vb _ hvb (fun j' u hu => hbest j' u (by have := (List.getElem?_eq_some_iff.mp hu).1; lia) hu) ⟨?_, fun b o e z => ?_⟩
    · obtain ⟨h1, t1, q1⟩ := k₁.same; obtain ⟨h2, t2, q2⟩ := k₂.same; rw [q2, q1]; exact ⟨_, _, rfl⟩
    · exact sameBut_keep s1 (fun y => by rw [y, nS0] at e; cases e) (k₂.keep b o (k₁.keep b o e z) z)
  | succ r ih =>
    intro j i s₁ vb tb c hr hj k₁ hS hit hvb hij hbest
    have hlt : j + 1 < vs.length := by lia
    have hl1 : PL s₁.heap l vs := hl.kp k₁ (fun z => hlI (List.mem_singleton.mp z).symm)
    refine codeAny_builtin PySem.F.entry_max_loop ?_
    rw [Around.under_plainId PySem.F.plain_max_loop _]
    show wpAny _ A.in1 (seqItems? (.ref S) >>= _) _ _ _
    refine wpAny_bind (wpAny_seqItems hS rfl ?_)
    show wpAny _ A.in1 (tryCatch (pyNext (.ref I)) _ >>= _) _ _ _
    refine wpAny_bind (wpAny_tryCatch (nextL (A := A.in1) hh hit hl1 (fun v s₂ hv hit2 e₂ k₂ => ?_) (fun s₂ hz k₂ => by lia)))
    have hS2 := k₂.keep _ _ hS (fun z => hSI (List.mem_singleton.mp z))
    show wpAny _ A.in1 (tryCatch (holding [v] (call (.ref qa) [v])) _ >>= _) _ _ _
    refine wpAny_bind (wpAny_tryCatch (wpAny_holding (wpAny_mono (hkey v (List.mem_of_getElem? hv) s₂ (k₁.trans k₂) (fun x s'' => ∃ t, x = .int (kf v) t ∧ Keep [] s₂ s'') fun t s'' k'' => ⟨t, rfl, k''⟩) (fun x s₃ he => ?_) fun _ _ hF => hF.elim)))
    obtain ⟨t2, rfl, k₃⟩ := he
    have hS3 := k₃.keep _ _ hS2 (fun z => nomatch z)
    have hit3 : s₃.heap.IsListIter I l (j + 1 + 1) := by obtain ⟨o, ho, rr⟩ := hit2; exact ⟨o, k₃.keep _ _ ho (fun z => nomatch z), rr⟩
    have kk : Keep [I] s s₃ := (k₁.trans k₂).trans (k₃.mono fun _ z => nomatch z)
    show wpAny _ A.in1 (tryCatch (holding [v, .int (kf v) t2] (richCompare .Gt (.int (kf v) t2) (.int (kf vb) tb) >>= _)) _ >>= _) _ _ _
    refine wpAny_bind (wpAny_tryCatch (wpAny_holding (wpAny_bind (cGt (A := A.in1) ?_))))
    refine wpAny_bind (wpAny_holding (wpAny_truthy_bool ?_))
    refine wpAny_bind (wpAny_letGo (wpAny_pure ?_))
    by_cases hb' : kf vb < kf v
    · have s1 := Heap.SameBut.update s₃.heap S (Obj.mapSeq fun _ => #[v, .int (kf v) t2])
      obtain ⟨c2, hc2⟩ : ∃ c2, (s₃.heap.update S (Obj.mapSeq fun _ => #[v, .int (kf v) t2])).get? S = some (seqObj "list" #[v, .int (kf v) t2] c2) := ⟨_, get?_update_seq hS3 fun _ => #[v, .int (kf v) t2]⟩
      simp only [hb', decide_true, if_true]
      refine wpAny_bind ?_
      refine wpAny_updateSeq hS3 rfl (wpAny_bind (wpAny_letGo ?_))
      rw [hname]
      refine wpAny_pure ⟨plainId_quiet PySem.F.plain_max_loop _, ih (j + 1) (j + 1) _ v t2 c2 (by lia) hlt ⟨?_, fun b o e z => ?_⟩ hc2 ?_ hv (Nat.le_refl _) fun j' u hj' hu => ?_⟩
      · obtain ⟨h1, t1, q1⟩ := kk.same; rw [q1]; exact ⟨_, _, rfl⟩
      · exact sameBut_keep s1 (fun y => by rw [y, nS0] at e; cases e) (kk.keep b o e z)
      · obtain ⟨o, ho, rr⟩ := hit3; exact ⟨o, sameBut_keep s1 hSI.symm ho, rr⟩
      · by_cases e : j' = j + 1
        · subst e
          rw [hv] at hu; cases hu
          exact ⟨by lia, fun z => by lia⟩
        · have hb1 := hbest j' u (by lia) hu
          have hb2 := hb1.1
          exact ⟨by lia, fun _ => by lia⟩
    · simp only [hb', decide_false, Bool.false_eq_true, if_false]
      refine wpAny_bind (wpAny_letGo ?_)
      rw [hname]
      refine wpAny_pure ⟨plainId_quiet PySem.F.plain_max_loop _, ih (j + 1) i _ vb tb c (by lia) hlt kk hS3 hit3 hvb (by lia) fun j' u hj' hu => ?_⟩
      by_cases e : j' = j + 1
      · subst e
        rw [hv] at hu; cases hu
        exact ⟨by lia, fun z => by lia⟩
      · exact hbest j' u (by lia) hu

theorem max_spec {I l : Addr} {q d : Value} {vs : List Value} {kf : Value → Int} {Q : Value → Shared → Prop} (hh : A.handled = none) (hq : ∃ x, q = .ref x) (hI : s.heap.IsListIter I l 0) (hl : PL s.heap l vs) (hne : 0 < vs.length)
    (hkey : ∀ v ∈ vs, ∀ s', Keep [I] s s' → ∀ Q' : Value → Shared → Prop, (∀ t s'', Keep [] s' s'' → Q' (.int (kf v) t) s'') → wpAny (model prog w) A.in1 (call q [v]) Q' (fun _ _ => False) s')
    (hQ : ∀ i v s', vs[i]? = some v → (∀ (j : Nat) u, vs[j]? = some u → kf u ≤ kf v ∧ (j < i → kf u < kf v)) → Keep [I] s s' → Q v s') :
    wpAny (model prog w) A (call (.builtin "max") [.ref I] [(Str.ofString "default", d), (Str.ofString "key", q)]) Q E s := by
  obtain ⟨qa, rfl⟩ := hq
  have hname : (toString "max" ++ toString ".loop" : String) = "max.loop" := by decide
  refine kmk_tree PySem.F.kind_max PySem.F.plain_max PySem.F.entry_max args_max_dk ?_
  show wpAny _ A.in1 (Builtin.Builtins.bindParams "max" ["key", "default"] 0 ⟨[], [(Str.ofString "default", d), (Str.ofString "key", .ref qa)]⟩ >>= _) _ _ s
  refine wpAny_bind (wpAny_of_eq (show Builtin.Builtins.bindParams "max" ["key", "default"] 0 ⟨[], [(Str.ofString "default", d), (Str.ofString "key", .ref qa)]⟩ = pure [some (.ref qa), some d] from rfl) ?_)
  refine wpAny_bind (wpAny_pure ?_)
  refine wpAny_bind (wpAny_pyIter_listiter hI ?_)
  refine wpAny_bind (wpAny_newList ?_ (Nat.zero_le _))
  rw [hname]
  refine wpAny_pure ⟨plainId_quiet PySem.F.plain_max_loop _, ?_⟩
  obtain ⟨S, hS'⟩ : ∃ S, S = s.heap.objs.size := ⟨_, rfl⟩
  have nS0 : s.heap.get? S = none := by rw [hS']; exact new_size _
  have hSI : S ≠ I := fun e => by obtain ⟨o, ho, _⟩ := hI; rw [← e, nS0] at ho; cases ho
  have hSl : S ≠ l := fun e => by obtain ⟨o, ho⟩ := hl; rw [← e, nS0] at ho; cases ho
  have hlI : I ≠ l := iter_ne_list hI hl
  have k0 : Keep [] s { s with heap := s.heap.push (seqObj "list" #[] 0) } := keep_push (t := s.toks)
  have hS0 : (s.heap.push (seqObj "list" #[] 0)).get? S = some (seqObj "list" #[] 0) := by rw [hS']; exact Heap.get?_push_size _ rfl
  suffices hs : codeAny (model prog w) A (.builtin "max.loop" ⟨[.ref I, .ref qa, .ref S], [(Str.ofString "default", d)]⟩) (fun r s' => match r with | .ok (.ret v) => Q v s' | .ok _ => False | .error e => E e s') { s with heap := s.heap.push (seqObj "list" #[] 0) } by
    rw [hS'] at hs; exact hs
  generalize hs₀ : ({ s with heap := s.heap.push (seqObj "list" #[] 0) } : Shared) = s₀ at k0
  replace hS0 : s₀.heap.get? S = some (seqObj "list" #[] 0) := by rw [← hs₀]; exact hS0
  have hit0 : s₀.heap.IsListIter I l 0 := by obtain ⟨o, ho, rr⟩ := hI; exact ⟨o, k0.keep _ _ ho (fun z => nomatch z), rr⟩
  have hl0 := k0.pl0 hl
  refine codeAny_builtin PySem.F.entry_max_loop ?_
  rw [Around.under_plainId PySem.F.plain_max_loop _]
  show wpAny _ A.in1 (seqItems? (.ref _) >>= _) _ _ _
  refine wpAny_bind (wpAny_seqItems hS0 rfl ?_)
  show wpAny _ A.in1 (tryCatch (pyNext (.ref I)) _ >>= _) _ _ _
  refine wpAny_bind (wpAny_tryCatch (nextL (A := A.in1) hh hit0 hl0 (fun v s₂ hv hit2 e₂ k₂ => ?_) (fun s₂ hz k₂ => by lia)))
  have hS2 := k₂.keep _ _ hS0 (fun z => hSI (List.mem_singleton.mp z))
  have k02 : Keep [I] s s₂ := (k0.mono fun _ z => nomatch z).trans k₂
  show wpAny _ A.in1 (tryCatch (holding [v] (call (.ref qa) [v])) _ >>= _) _ _ _
  refine wpAny_bind (wpAny_tryCatch (wpAny_holding (wpAny_mono (hkey v (List.mem_of_getElem? hv) s₂ k02 (fun x s'' => ∃ t, x = .int (kf v) t ∧ Keep [] s₂ s'') fun t s'' k'' => ⟨t, rfl, k''⟩) (fun x s₃ he => ?_) fun _ _ hF => hF.elim)))
  obtain ⟨t2, rfl, k₃⟩ := he
  have hS3 := k₃.keep _ _ hS2 (fun z => nomatch z)
  have hit3 : s₃.heap.IsListIter I l 1 := by obtain ⟨o, ho, rr⟩ := hit2; exact ⟨o, k₃.keep _ _ ho (fun z => nomatch z), rr⟩
  have kk : Keep [I] s s₃ := k02.trans (k₃.mono fun _ z => nomatch z)
  have s1 := Heap.SameBut.update s₃.heap S (Obj.mapSeq fun _ => #[v, .int (kf v) t2])
  obtain ⟨c2, hc2⟩ : ∃ c2, (s₃.heap.update S (Obj.mapSeq fun _ => #[v, .int (kf v) t2])).get? S = some (seqObj "list" #[v, .int (kf v) t2] c2) := ⟨_, get?_update_seq hS3 fun _ => #[v, .int (kf v) t2]⟩
  show wpAny _ A.in1 (updateSeq S (fun _ => #[v, .int (kf v) t2]) >>= _) _ _ _
  refine wpAny_bind ?_
  refine wpAny_updateSeq hS3 rfl ?_
  rw [hname]
  refine wpAny_pure ⟨plainId_quiet PySem.F.plain_max_loop _, max_loop (s := s) hh ⟨qa, rfl⟩ hlI hSl hSI nS0 hl hkey hQ _ 0 0 _ v t2 c2 rfl hne ⟨?_, fun b o e z => ?_⟩ hc2 ?_ hv (Nat.le_refl _) fun j' u hj' hu => ?_⟩
  · obtain ⟨h1, t1, q1⟩ := kk.same; rw [q1]; exact ⟨_, _, rfl⟩
  · exact sameBut_keep s1 (fun y => by rw [y, nS0] at e; cases e) (kk.keep b o e z)
  · obtain ⟨o, ho, rr⟩ := hit3; exact ⟨o, sameBut_keep s1 hSI.symm ho, rr⟩
  · have e : j' = 0 := by lia
    subst e
    rw [hv] at hu; cases hu
    exact ⟨by lia, fun h => absurd h (Nat.lt_irrefl _)⟩
end
end Mine
end
section
open PySem PySem.W PyProof.Rows PySem.Calls
set_option maxRecDepth 100000
namespace Mine

/-- a source that hands out tuples of its own -/
structure WalksF (prog : Program) (w : World) (A : Around) (I : Addr) (fp wr : List Addr) (n : Nat) (Pt : Nat → Array Value → Prop) (St : Nat → Heap → Prop) (Mid : Nat → Addr → Heap → Prop) (Fin : Heap → Prop) : Prop where
  sub : ∀ b ∈ wr, b ∈ fp
  frame : ∀ i h h', St i h → (∀ b ∈ fp, ∀ o, h.get? b = some o → h'.get? b = some o) → St i h'
  finf : ∀ h h', Fin h → (∀ b ∈ fp, ∀ o, h.get? b = some o → h'.get? b = some o) → Fin h'
  item : ∀ i (s : Shared) (Q : Option Value → Shared → Prop) (E : Value → Shared → Prop), i < n → St i s.heap →
    (∀ T vals h' tk, Pt i vals → s.heap.get? T = none → h'.IsTuple T vals → Mid i T h' → (∀ b o, b ∉ wr → s.heap.get? b = some o → h'.get? b = some o) → Q (some (.ref T)) { s with heap := h', toks := tk }) →
    wpAny (model prog w) A (pyNext (.ref I)) Q E s
  go : ∀ (elts : List Expr) (k : Nat) (pos : Pos) i T (s : Shared) (Q : Unit → Shared → Prop) (E : Value → Shared → Prop), Mid i T s.heap →
    (∀ h', St (i + 1) h' → (∀ b o, b ∉ wr → s.heap.get? b = some o → h'.get? b = some o) → Q () { s with heap := h' }) →
    wpAny (model prog w) A (letOwnedTupleGo (.Tuple elts k pos) (.ref I) (.ref T)) Q E s
  apart : ∀ i T h, Mid i T h → T ∉ wr
  done : ∀ (s : Shared) (Q : Option Value → Shared → Prop) (E : Value → Shared → Prop), St n s.heap →
    (∀ h' tk, Fin h' → (∀ b o, b ∉ wr → s.heap.get? b = some o → h'.get? b = some o) → Q none { s with heap := h', toks := tk }) → wpAny (model prog w) A (pyNext (.ref I)) Q E s
  self : ∀ i (s : Shared) (Q : Value → Shared → Prop) (E : Value → Shared → Prop), St i s.heap → Q (.ref I) s → wpAny (model prog w) A (pyIter (.ref I)) Q E s

theorem WalksF.ofT {prog : Program} {w : World} {A : Around} {I : Addr} {fp wr : List Addr} {n : Nat} {Pt : Nat → Array Value → Prop} {St : Nat → Heap → Prop} {Mid : Nat → Addr → Heap → Prop} (W : WalksT prog w A I fp wr n Pt St Mid) : WalksF prog w A I fp wr n Pt St Mid (fun _ => True) where
  sub := W.sub
  frame := W.frame
  finf := fun _ _ h _ => h
  item := fun i s Q E hi st h => W.item i s Q E hi st fun T vals h' tk a b c d e => h T vals h' tk a (Heap.get?_none_of_le b) c d e
  go := W.go
  apart := W.apart
  done := fun s Q E st h => W.done s Q E st fun h' tk a => h h' tk trivial a
  self := W.self

structure SrcF (prog : Program) (w : World) (A : Around) (s0 s₂ : Shared) (I : Addr) (fp wr : List Addr) (n : Nat) (Pt : Nat → Array Value → Prop) (St : Nat → Heap → Prop) (Mid : Nat → Addr → Heap → Prop) (Fin : Heap → Prop) : Prop where
  W : WalksF prog w A I fp wr n Pt St Mid Fin
  st : St 0 s₂.heap
  own : ∀ a ∈ wr, s0.heap.get? a = none ∧ ∃ o, s₂.heap.get? a = some o ∧ plainObj o
  fpI : ∀ b ∈ fp, ∃ o, s₂.heap.get? b = some o ∧ plainObj o
  there : ∀ i h, St i h → ∀ a ∈ fp, ∃ o, h.get? a = some o ∧ plainObj o
  mid : ∀ i T h, Mid i T h → ∀ a ∈ wr, ∃ o, h.get? a = some o
  small : n < 2 ^ 20

section
variable {w : World} {prog : Program} {mg mb : Str → Option Value} {G : Heap} {A : Around} {E : Value → Shared → Prop} {S : List Addr} {s0 s : Shared} {env : Env} {m cm : Str → Option Value}

theorem compWalkT {elt iter : Expr} {ifs : List Expr} {elts : List Expr} {tk : Nat} {tp : Pos} {scope : Scope} {pos : Pos} {cl : List (Str × Addr)} {cm' : Str → Option Value} {D C I : Addr} {s₂ s₃ : Shared} {fp wr : List Addr} {n : Nat} {Pt : Nat → Array Value → Prop} {St : Nat → Heap → Prop} {Mid : Nat → Addr → Heap → Prop} {Fin : Heap → Prop} {R : Result → Shared → Prop}
    (src : SrcF prog w A s0 s₂ I fp wr n Pt St Mid Fin) (ci : CompIn G wr s₂ scope cl env cm' D C s₃)
    (L : Addr) (hL : ∃ o, s₂.heap.get? L = some o) (hLw : L ∉ wr)
    (J : List Addr → Nat → List Value → Heap → Prop) (PC : (Str → Option Value) → Prop) (hPC : PC cm') (J0 : J (C :: D :: L :: fp) 0 [] s₃.heap) (len : ∀ X i l h, J X i l h → l.length ≤ i)
    (stab : ∀ X i l h h', (∀ b o, b ∉ X → h.get? b = some o → h'.get? b = some o) → J X i l h → J X i l h')
    (step : ∀ i T vals l s m cm, i < n → Pt i vals → s.heap.IsTuple T vals → T ∉ C :: D :: L :: fp → Cx G wr s₂ (cEnv scope cl C env) m cm [] s → PC cm → St (i + 1) s.heap → (∀ x ∈ C :: D :: L :: fp, ∃ o, s.heap.get? x = some o) → C ∉ fp → D ∉ fp → C ≠ D → (∀ x, C ≤ x → s₂.heap.get? x = none) → PL s.heap D l → J (C :: D :: L :: fp) i l s.heap →
      wpAny (model prog w) A (assign (.Tuple elts tk tp) (cEnv scope cl C env) (.ref T)) (fun _ s₄ => Tests (model prog w) A ifs (cEnv scope cl C env) (fun b s₅ =>
        if b = true then wpAny (model prog w) A (eval elt (cEnv scope cl C env)) (fun y s₆ => CompFin G wr fp s₂ (cEnv scope cl C env) PC D (J (C :: D :: L :: fp) (i + 1)) s (l ++ [y]) s₆) (fun _ _ => False) s₅
        else CompFin G wr fp s₂ (cEnv scope cl C env) PC D (J (C :: D :: L :: fp) (i + 1)) s l s₅) s₄) (fun _ _ => False) s)
    (fin : ∀ l s' m, s'.heap.Ns C m → Keep wr s₂ s' → PL s'.heap D l → J (C :: D :: L :: fp) n l s'.heap → Fin s'.heap → R (.ok .next) s') :
    codeAny (model prog w) A (.compStart (.ListComp elt [⟨.Tuple elts tk tp, iter, ifs, 0⟩] scope pos) 0 (.ref I) (.ref D) (cEnv scope cl C env)) R s₃ := by
  have W := src.W
  have hfp : ∀ b ∈ fp, ∃ o, s₂.heap.get? b = some o := fun b hb => by obtain ⟨o, ho, _⟩ := src.fpI b hb; exact ⟨o, ho⟩
  have there : ∀ i h, St i h → ∀ a ∈ wr, ∃ o, h.get? a = some o := fun i h st a ha => by obtain ⟨o, ho, _⟩ := src.there i h st a (W.sub a ha); exact ⟨o, ho⟩
  have hDf : D ∉ fp := fun q => by obtain ⟨o, ho⟩ := hfp D q; rw [ci.newD] at ho; cases ho
  have hCf : C ∉ fp := fun q => by obtain ⟨o, ho⟩ := hfp C q; rw [ci.newC] at ho; cases ho
  have hDw : D ∉ wr := fun q => hDf (W.sub _ q)
  have hCw : C ∉ wr := fun q => hCf (W.sub _ q)
  have hLD : D ≠ L := fun q => by obtain ⟨o, ho⟩ := hL; rw [← q, ci.newD] at ho; cases ho
  have hLC : C ≠ L := fun q => by obtain ⟨o, ho⟩ := hL; rw [← q, ci.newC] at ho; cases ho
  have hst3 : St 0 s₃.heap := W.frame _ _ _ src.st fun b _ o e => ci.kp.keep b o e (fun q => nomatch q)
  have hD3 : PL s₃.heap D [] := ⟨_, (ci.cx.nw _ (.head _)).1⟩
  have loop : codeAny (model prog w) A (.compLoop (.ListComp elt [⟨.Tuple elts tk tp, iter, ifs, 0⟩] scope pos) 0 (.ref I) (.ref D) (cEnv scope cl C env)) R s₃ := by
    refine compLoopF (CwI G wr wr s₂ (cEnv scope cl C env) PC St D n (J (C :: D :: L :: fp))) n
      ⟨0, [], _, _, Nat.zero_le _, rfl, ci.cx.sub (fun _ q => nomatch q), hPC, hst3, hD3, fun _ h h' => absurd h h', J0⟩ rfl rfl ?_
    rintro JJ hJJ k s ⟨i, l, m, cm, hi, rfl, c, hpc, st, hD, _, hJ⟩
    by_cases hlt : i < n
    · refine W.item i s _ _ hlt st fun T vals h' tok hv hTn hT hmid hk => ?_
      have k1 : Keep wr s { s with heap := h', toks := tok } := ⟨⟨_, _, rfl⟩, fun b o e q => hk b o q e⟩
      refine W.go _ _ _ i T _ _ _ hmid fun h'' st' hk' => ?_
      have k2 : Keep wr { s with heap := h', toks := tok } { s with heap := h'', toks := tok } := ⟨⟨_, _, rfl⟩, fun b o e q => hk' b o q e⟩
      have c1 : Cx G wr s₂ (cEnv scope cl C env) m cm [] { s with heap := h'', toks := tok } := c.within (k1.trans k2) (there _ _ st') (fun _ q => nomatch q)
      have hD1 := (hD.kp k1 hDw).kp k2 hDw
      have hJ1 := stab _ _ _ _ h'' (fun b o q e => hk' b o (fun z => q (.tail _ (.tail _ (.tail _ (W.sub _ z))))) (hk b o (fun z => q (.tail _ (.tail _ (.tail _ (W.sub _ z))))) e)) hJ
      have hTw := W.apart _ _ _ hmid
      have hT' : h''.IsTuple T vals := by obtain ⟨o, ho, r⟩ := hT; exact ⟨o, hk' _ _ hTw ho, r⟩
      have hX0 : ∀ x ∈ C :: D :: L :: fp, ∃ o, s.heap.get? x = some o := fun x hx => by
        rcases List.mem_cons.mp hx with rfl | hx
        · obtain ⟨o, _, _, ho, _⟩ := c.ns; exact ⟨o, ho⟩
        rcases List.mem_cons.mp hx with rfl | hx
        · exact hD.there
        rcases List.mem_cons.mp hx with rfl | hx
        · obtain ⟨o, ho⟩ := hL; exact ⟨o, c.kp.keep _ _ ho hLw⟩
        obtain ⟨o, ho, _⟩ := src.there _ _ st x hx; exact ⟨o, ho⟩
      have hTX : T ∉ C :: D :: L :: fp := fun q => by obtain ⟨o, ho⟩ := hX0 T q; rw [hTn] at ho; cases ho
      have hX : ∀ x ∈ C :: D :: L :: fp, ∃ o, h''.get? x = some o := fun x hx => by
        rcases List.mem_cons.mp hx with rfl | hx
        · obtain ⟨o, _, _, ho, _⟩ := c1.ns; exact ⟨o, ho⟩
        rcases List.mem_cons.mp hx with rfl | hx
        · exact hD1.there
        rcases List.mem_cons.mp hx with rfl | hx
        · obtain ⟨o, ho⟩ := hL; exact ⟨o, c1.kp.keep _ _ ho hLw⟩
        obtain ⟨o, ho, _⟩ := src.there _ _ st' x hx; exact ⟨o, ho⟩
      refine wpAny_mono (step i T vals l _ m cm hlt hv hT' hTX c1 hpc st' hX hCf hDf (Ne.symm ci.DC) ci.big hD1 hJ1) (fun _ s₄ h₄ => ?_) fun _ _ x => x
      have go : ∀ (l' : List Value) (s₅ : Shared), CompFin G wr fp s₂ (cEnv scope cl C env) PC D (J (C :: D :: L :: fp) (i + 1)) { s with heap := h'', toks := tok } l' s₅ → PL s₅.heap D l ∧ St (i + 1) s₅.heap := by
        rintro l' s₅ ⟨m5, cm5, c5, pc5, ⟨X, kX, hDX, hfX⟩, j5⟩
        exact ⟨hD1.kp kX hDX, W.frame _ _ _ st' fun b hb o e => kX.keep b o e (hfX b hb)⟩
      refine tests_mono h₄ fun b s₅ h₅ => ?_
      cases b with
      | false =>
        simp only [Bool.false_eq_true, if_false] at h₅ ⊢
        obtain ⟨g1, g2⟩ := go _ _ h₅
        obtain ⟨m5, cm5, c5, pc5, _, j5⟩ := h₅
        exact ⟨n - (i + 1), by lia, hJJ _ _ ⟨i + 1, l, m5, cm5, by lia, rfl, c5, pc5, g2, g1, fun _ h h' => absurd h h', j5⟩⟩
      | true =>
        simp only [if_true] at h₅ ⊢
        refine wpAny_mono h₅ (fun y s₆ h₆ => ?_) fun _ _ x => x
        obtain ⟨g1, g2⟩ := go _ _ h₆
        obtain ⟨m5, cm5, c5, pc5, _, j5⟩ := h₆
        have hl := len _ _ _ _ hJ
        have hsm := src.small
        refine c5.app g1 (.inr ci.newD) (by lia) (fun _ q => nomatch q) fun s₇ c7 hD7 e7 => ?_
        exact ⟨n - (i + 1), by lia, hJJ _ _ ⟨i + 1, l ++ [y], m5, cm5, by lia, rfl, c7, pc5, W.frame _ _ _ g2 fun b hb o e => sameBut_keep e7 (fun z => hDf (z ▸ hb)) e, hD7, fun _ h h' => absurd h h', stab _ _ _ _ _ (fun b o q e => sameBut_keep e7 (fun z => q (by rw [z]; exact .tail _ (.head _))) e) j5⟩⟩
    · have hin : i = n := by lia
      subst hin
      refine W.done s _ _ st fun h' tok hfin hk => ?_
      have k1 : Keep wr s { s with heap := h', toks := tok } := ⟨⟨_, _, rfl⟩, fun b o e q => hk b o q e⟩
      refine fin l _ m ?_ (c.kp.trans k1) (hD.kp k1 hDw) (stab _ _ _ _ h' (fun b o q e => hk b o (fun z => q (.tail _ (.tail _ (.tail _ (W.sub _ z))))) e) hJ) hfin
      obtain ⟨o, es, ep, ho, r⟩ := c.ns
      exact ⟨o, es, ep, hk _ _ hCw ho, r⟩
  exact compStartF (target := .Tuple elts tk tp) (iter := iter) (ifs := ifs) rfl loop fun {Q} hq => W.self 0 s₃ Q _ hst3 hq
end
end Mine
end
section
open PySem PySem.W PyProof.Rows PySem.Calls
set_option maxRecDepth 100000
namespace Mine

section
variable {w : World} {prog : Program} {mg mb : Str → Option Value} {G : Heap} {A : Around} {E : Value → Shared → Prop} {S : List Addr} {s0 s : Shared} {env : Env} {m cm : Str → Option Value}

/-- a turn's value joins -/
theorem turn_fin {s₂ s₆ : Shared} {scope : Scope} {cl : List (Str × Addr)} {fp wr : List Addr} {PC : (Str → Option Value) → Prop} {R : Nat → Value → Heap → Prop} {C D L : Addr} {i : Nat} {l : List Value} {y : Value}
    (c : Cx G wr s₂ (cEnv scope cl C env) m cm [] s) (stab : ∀ i y h h', (∀ b o, y = .ref b → h.get? b = some o → h'.get? b = some o) → R i y h → R i y h') (plain : ∀ b ∈ fp, ∃ o, s.heap.get? b = some o ∧ plainObj o)
    (hX : ∀ x ∈ C :: D :: L :: fp, ∃ o, s.heap.get? x = some o) (hC : C ∉ fp) (hCD : C ≠ D) (hDl : PL s.heap D l) (hJ : TurnJ (fun _ => true) R (C :: D :: L :: fp) i l s.heap)
    (te : TurnEnd G wr s₂ (cEnv scope cl C env) PC s s₆) (r : R i y s₆.heap) (hn : (∀ b, y = .ref b → s.heap.get? b = none ∧ ∃ o, s₆.heap.get? b = some o ∧ plainObj o) ∨ ∀ h, R i y h) :
    CompFin G wr fp s₂ (cEnv scope cl C env) PC D (TurnJ (fun _ => true) R (C :: D :: L :: fp) (i + 1)) s (l ++ [y]) s₆ := by
  obtain ⟨m', cm', X, c', pc', k, hXs⟩ := te
  refine ⟨m', cm', c', pc', ⟨X, k, fun q => ?_, fun b hb q => ?_⟩, ?_⟩
  · rcases hXs _ q with e | ⟨n, e⟩
    · exact hCD e.symm
    · obtain ⟨o, ho, hp⟩ := hDl.plain
      exact c.neC ho hp e rfl
  · rcases hXs _ q with e | ⟨n, e⟩
    · exact hC (by have e' : b = C := e; rw [← e']; exact hb)
    · obtain ⟨o, ho, hp⟩ := plain b hb
      exact c.neC ho hp e rfl
  · have rng : (List.range (i + 1)).filter (fun _ => true) = (List.range i).filter (fun _ => true) ++ [i] := by
      rw [List.range_succ, List.filter_append]; rfl
    unfold TurnJ
    rw [rng]
    refine All2.snoc (All2.mono (fun i y r => ?_) hJ) ?_
    · rcases r with ⟨r, hn⟩ | r
      · have kk : ∀ b o, y = .ref b → s.heap.get? b = some o → s₆.heap.get? b = some o := fun b o e ho => k.keep b o ho fun q => by
          obtain ⟨h1, o', ho', hp⟩ := hn b e
          rcases hXs _ q with z | ⟨n, z⟩
          · exact h1 (by rw [z]; exact .head _)
          · exact c.neC ho' hp z rfl
        refine .inl ⟨stab i y _ _ kk r, fun b e => ⟨(hn b e).1, ?_⟩⟩
        obtain ⟨o, ho, hp⟩ := (hn b e).2
        exact ⟨o, kk b o e ho, hp⟩
      · exact .inr r
    · rcases hn with hn | hn
      · refine .inl ⟨r, fun b e => ⟨fun q => ?_, (hn b e).2⟩⟩
        obtain ⟨o, ho⟩ := hX _ q
        rw [(hn b e).1] at ho; cases ho
      · exact .inr hn

noncomputable abbrev TurnEv (prog : Program) (w : World) (A : Around) (G : Heap) (wr : List Addr) (s₂ : Shared) (cenv : Env) (PC : (Str → Option Value) → Prop) (elt : Expr) (R : Value → Heap → Prop) (s : Shared) (_ : Unit) (s₄ : Shared) : Prop :=
  wpAny (model prog w) A (eval elt cenv) (TurnV G wr s₂ cenv PC R s) NoE s₄
/-- what is asked of a comprehension over such a source -/
structure AskF (prog : Program) (w : World) (A : Around) (G : Heap) (s0 s₂ : Shared) (scope : Scope) (cl : List (Str × Addr)) (env : Env) (I : Addr) (fp wr : List Addr) (n : Nat) (elts : List Expr) (tk : Nat) (tp : Pos) (elt : Expr)
    (Pt : Nat → Array Value → Prop) (St : Nat → Heap → Prop) (Mid : Nat → Addr → Heap → Prop) (Fin : Heap → Prop) (R : Nat → Value → Heap → Prop) (PC : (Str → Option Value) → Prop) (cm' : Str → Option Value) : Prop where
  src : SrcF prog w A s0 s₂ I fp wr n Pt St Mid Fin
  cells : CellsIn s₂.heap 0 cl cm'
  owns : ∀ n, (n, NameKind.cell) ∈ scope.names → cm' n = none
  pc : PC cm'
  stab : ∀ i y h h', (∀ b o, y = .ref b → h.get? b = some o → h'.get? b = some o) → R i y h → R i y h'
  turn : ∀ C i T vals s m cm, (∀ x, C ≤ x → s₂.heap.get? x = none) → i < n → Pt i vals → s.heap.IsTuple T vals → Cx G wr s₂ (cEnv scope cl C env) m cm [] s → PC cm → St (i + 1) s.heap →
    wpAny (model prog w) A (assign (.Tuple elts tk tp) (cEnv scope cl C env) (.ref T)) (TurnEv prog w A G wr s₂ (cEnv scope cl C env) PC elt (R i) s) NoE s
inductive TAskE (prog : Program) (w : World) (A : Around) (G : Heap) (S : List Addr) (s0 : Shared) (env : Env) (cm : Str → Option Value) (scope : Scope) (cl : List (Str × Addr)) (elts : List Expr) (tk : Nat) (tp : Pos) (elt : Expr) (Q : Value → Shared → Prop) (it : Value) (s₂ : Shared) : Prop
  | mk (m : Str → Option Value) (I : Addr) (fp wr : List Addr) (n : Nat) (Pt : Nat → Array Value → Prop) (St : Nat → Heap → Prop) (Mid : Nat → Addr → Heap → Prop) (Fin : Heap → Prop) (R : Nat → Value → Heap → Prop) (PC : (Str → Option Value) → Prop) (cm' : Str → Option Value) (hit : it = .ref I) (c : Cx G S s0 env m cm [] s₂)
    (ask : AskF prog w A G s0 s₂ scope cl env I fp wr n elts tk tp elt Pt St Mid Fin R PC cm')
    (k : ∀ D l s'', Cx G S s0 env m cm [] s'' → PL s''.heap D l → s₂.heap.get? D = none → Keep wr s₂ s'' → l.length = n → (∀ i y, l[i]? = some y → R i y s''.heap) → Fin s''.heap → Q (.ref D) s'')
inductive TAskA (prog : Program) (w : World) (A : Around) (G : Heap) (S : List Addr) (s0 : Shared) (env : Env) (cm : Str → Option Value) (scope : Scope) (cl : List (Str × Addr)) (elts : List Expr) (tk : Nat) (tp : Pos) (elt : Expr) (y : Str) (Q : Flow → Shared → Prop) (it : Value) (s₂ : Shared) : Prop
  | mk (m : Str → Option Value) (I : Addr) (fp wr : List Addr) (n : Nat) (Pt : Nat → Array Value → Prop) (St : Nat → Heap → Prop) (Mid : Nat → Addr → Heap → Prop) (Fin : Heap → Prop) (R : Nat → Value → Heap → Prop) (PC : (Str → Option Value) → Prop) (cm' : Str → Option Value) (hit : it = .ref I) (c : Cx G S s0 env m cm [] s₂)
    (ask : AskF prog w A G s0 s₂ scope cl env I fp wr n elts tk tp elt Pt St Mid Fin R PC cm')
    (k : ∀ D l s'', Cx G S s0 env (upd m y (.ref D)) cm [] s'' → PL s''.heap D l → s₂.heap.get? D = none → Keep (env.locals :: wr) s₂ s'' → l.length = n → (∀ i y, l[i]? = some y → R i y s''.heap) → Fin s''.heap → Q .next s'')

theorem compTE {elt iter : Expr} {elts : List Expr} {tk : Nat} {tp : Pos} {scope : Scope} {pos : Pos} {cl : List (Str × Addr)} {Q : Value → Shared → Prop}
    (hclos : closureFor scope env = pure cl) (hkind : scope.kind = .function) (hnames : ∀ y ∈ scope.names, y.2 = .local → scope.names.lookup y.1 = some .local)
    (h : wpAny (model prog w) A (eval iter env) (ItQ (model prog w) A E (TAskE prog w A G S s0 env cm scope cl elts tk tp elt Q)) E s)
    (hs : ∀ x, foldedSetIterable iter env x = pure x := by intro _; rfl) :
    wpAny (model prog w) A (eval (.ListComp elt [⟨.Tuple elts tk tp, iter, [], 0⟩] scope pos) env) Q E s := by
  refine compE (G := G) (S := S) (s0 := s0) (cm := cm) hclos hkind hnames (wpAny_mono h (fun xv s₁ h₁ => wpAny_mono h₁ (fun it s₂ h₂ => ?_) fun _ _ e => e) fun _ _ e => e) hs
  obtain ⟨m, I, fp, wr, n, Pt, St, Mid, Fin, R, PC, cm', rfl, c, ⟨src, hcells, howns, hpc, stab, turn⟩, fin⟩ := h₂
  have hLw : env.locals ∉ wr := fun q => by
    obtain ⟨_, o, ho, hp⟩ := src.own _ q
    obtain ⟨oL, es, ep, hL, hd, _⟩ := c.ns
    rw [hL] at ho; cases ho
    exact hp.1 _ _ hd
  refine ⟨m, [], wr, cm', c, src.own, hcells, howns, fun D C s₃ ci => ?_⟩
  refine compWalkT src ci env.locals (by obtain ⟨oL, es, ep, hL, _⟩ := c.ns; exact ⟨oL, hL⟩) hLw (TurnJ (fun _ => true) R) PC hpc .nil (fun X i l h j => ?_) (fun X i l h h' hk j => ?_) (fun i T vals l s m cm hi hv hT hTX c' pc' st' hX hCf hDf hCD hbig hDl hJ => ?_) fun l s' m' hn hk hD hJ hF => ?_
  · rw [← All2.len j]
    exact Nat.le_trans (List.length_filter_le _ _) (by simp)
  · exact All2.mono (fun i y r => by
      rcases r with ⟨r, hn⟩ | r
      · refine .inl ⟨stab i y h h' (fun b o e ho => hk b o (hn b e).1 ho) r, fun b e => ⟨(hn b e).1, ?_⟩⟩
        obtain ⟨o, ho, hp⟩ := (hn b e).2
        exact ⟨o, hk b o (hn b e).1 ho, hp⟩
      · exact .inr r) j
  · refine wpAny_mono (turn C i T vals s m cm hbig hi hv hT c' pc' st') (fun _ s₄ h₄ => tests_nil (wpAny_mono h₄ (fun y s₆ h₆ => ?_) fun _ _ x => x)) fun _ _ x => x
    exact turn_fin c' stab (src.there _ _ st') hX hCf hCD hDl hJ h₆.te h₆.r h₆.hn
  · obtain ⟨o, ho, hh⟩ := obj_plain hD
    obtain ⟨hln, hat⟩ := hJ.out.whole
    refine ⟨m', [(D, o)], hn, hk, fun p hp => by rw [List.mem_singleton.mp hp]; exact ho, fun s'' c'' k'' sb => ?_⟩
    refine fin D l s'' (c''.sub fun _ q => nomatch q) (hh _ (c''.nw _ (.head _)).1) ci.newD k'' hln ?_ (src.W.finf _ _ hF fun b hb o e => sameBut_keep sb (fun z => by
      obtain ⟨o', ho', _⟩ := src.fpI b hb
      rw [z] at ho'
      rw [show s₂.heap.get? C = none from ci.newC] at ho'; cases ho') e)
    have J2 : TurnJ (fun _ => true) R (C :: D :: env.locals :: fp) n l s''.heap := All2.mono (fun i y r => by
      rcases r with ⟨r, hn⟩ | r
      · have kk : ∀ b o, y = .ref b → s'.heap.get? b = some o → s''.heap.get? b = some o := fun b o e ho => sameBut_keep sb (fun z => (hn b e).1 (by rw [z]; exact .head _)) ho
        refine .inl ⟨stab i y _ _ kk r, fun b e => ⟨(hn b e).1, ?_⟩⟩
        obtain ⟨o, ho, hp⟩ := (hn b e).2
        exact ⟨o, kk b o e ho, hp⟩
      · exact .inr r) hJ
    exact J2.out.whole.2

theorem compTA {elt iter : Expr} {elts : List Expr} {tk : Nat} {tp : Pos} {scope : Scope} {pos spos py : Pos} {y : Str} {cl : List (Str × Addr)} {Q : Flow → Shared → Prop}
    (hsw : swapsWith (.ListComp elt [⟨.Tuple elts tk tp, iter, [], 0⟩] scope pos) (some (.Name y py)) spos.line env = pure true)
    (hclos : closureFor scope env = pure cl) (hkind : scope.kind = .function) (hnames : ∀ y ∈ scope.names, y.2 = .local → scope.names.lookup y.1 = some .local)
    (h : wpAny (model prog w) A (eval iter env) (ItQ (model prog w) A E (TAskA prog w A G S s0 env cm scope cl elts tk tp elt y Q)) E s)
    (hs : ∀ x, foldedSetIterable iter env x = pure x := by intro _; rfl) (hy : env.kindOf y = some .local := by rfl)
    (hp : (env.scope.kind == .class || (env.scope.kind == .module && env.locals != env.globals)) = false := by rfl) :
    wpAny (model prog w) A (exec (.Assign [.Name y py] (.ListComp elt [⟨.Tuple elts tk tp, iter, [], 0⟩] scope pos) spos) env) Q E s := by
  refine compA (G := G) (S := S) (s0 := s0) (cm := cm) hsw hclos hkind hnames (wpAny_mono h (fun xv s₁ h₁ => wpAny_mono h₁ (fun it s₂ h₂ => ?_) fun _ _ e => e) fun _ _ e => e) hs hy hp
  obtain ⟨m, I, fp, wr, n, Pt, St, Mid, Fin, R, PC, cm', rfl, c, ⟨src, hcells, howns, hpc, stab, turn⟩, fin⟩ := h₂
  have hLw : env.locals ∉ wr := fun q => by
    obtain ⟨_, o, ho, hp⟩ := src.own _ q
    obtain ⟨oL, es, ep, hL, hd, _⟩ := c.ns
    rw [hL] at ho; cases ho
    exact hp.1 _ _ hd
  refine ⟨m, [], wr, cm', c, src.own, hcells, howns, fun D C s₃ ci => ?_⟩
  refine compWalkT src ci env.locals (by obtain ⟨oL, es, ep, hL, _⟩ := c.ns; exact ⟨oL, hL⟩) hLw (TurnJ (fun _ => true) R) PC hpc .nil (fun X i l h j => ?_) (fun X i l h h' hk j => ?_) (fun i T vals l s m cm hi hv hT hTX c' pc' st' hX hCf hDf hCD hbig hDl hJ => ?_) fun l s' m' hn hk hD hJ hF => ?_
  · rw [← All2.len j]
    exact Nat.le_trans (List.length_filter_le _ _) (by simp)
  · exact All2.mono (fun i y r => by
      rcases r with ⟨r, hn⟩ | r
      · refine .inl ⟨stab i y h h' (fun b o e ho => hk b o (hn b e).1 ho) r, fun b e => ⟨(hn b e).1, ?_⟩⟩
        obtain ⟨o, ho, hp⟩ := (hn b e).2
        exact ⟨o, hk b o (hn b e).1 ho, hp⟩
      · exact .inr r) j
  · refine wpAny_mono (turn C i T vals s m cm hbig hi hv hT c' pc' st') (fun _ s₄ h₄ => tests_nil (wpAny_mono h₄ (fun y s₆ h₆ => ?_) fun _ _ x => x)) fun _ _ x => x
    exact turn_fin c' stab (src.there _ _ st') hX hCf hCD hDl hJ h₆.te h₆.r h₆.hn
  · obtain ⟨o, ho, hh⟩ := obj_plain hD
    obtain ⟨hln, hat⟩ := hJ.out.whole
    refine ⟨m', [(D, o)], hn, hk, fun p hp => by rw [List.mem_singleton.mp hp]; exact ho, fun s'' c'' k'' sb => ?_⟩
    have ne : ∀ b, b ∈ [env.locals, C] → b = env.locals ∨ b = C := fun b q => by
      rcases List.mem_cons.mp q with q | q
      · exact .inl q
      · exact .inr (List.mem_singleton.mp q)
    refine fin D l s'' (c''.sub fun _ q => nomatch q) (hh _ (c''.nw _ (.head _)).1) ci.newD k'' hln ?_ (src.W.finf _ _ hF fun b hb o e => sb.keep b o e (fun z => by
      obtain ⟨o', ho', hpl⟩ := src.fpI b hb
      rcases ne _ z with z | z
      · exact c.neL ho' hpl z
      · rw [z, ci.newC] at ho'; cases ho'))
    have J2 : TurnJ (fun _ => true) R (C :: D :: env.locals :: fp) n l s''.heap := All2.mono (fun i y r => by
      rcases r with ⟨r, hn⟩ | r
      · have kk : ∀ b o, y = .ref b → s'.heap.get? b = some o → s''.heap.get? b = some o := fun b o e ho => sb.keep b o ho (fun z => (hn b e).1 (by
          rcases ne _ z with z | z
          · rw [z]; exact .tail _ (.tail _ (.head _))
          · rw [z]; exact .head _))
        refine .inl ⟨stab i y _ _ kk r, fun b e => ⟨(hn b e).1, ?_⟩⟩
        obtain ⟨o, ho, hp⟩ := (hn b e).2
        exact ⟨o, kk b o e ho, hp⟩
      · exact .inr r) hJ
    exact J2.out.whole.2
end
end Mine
end
section
open PySem PySem.W PyProof.Rows PySem.Calls
set_option maxRecDepth 100000
namespace Mine

section
variable {prog : Program} {w : World} {A : Around} {E : Value → Shared → Prop} {s : Shared}

theorem nextOf_range {it : Addr} {x left step : Int} {Q : Value → Shared → Prop} (hit : IsRangeIter s.heap it x left step) (hleft : 0 < left)
    (hQ : ∀ h', IsRangeIter h' it (x + step) (left - 1) step → Heap.SameBut it s.heap h' → Q (.int x s.toks) { s with heap := h', toks := s.toks + 1 }) :
    wpAny (model prog w) A (Builtin.SmallTypes.nextOf (.ref it)) Q E s := by
  have hT : s.TypeIs (.ref it) "range_iterator" := ⟨_, hit, rfl⟩
  unfold Builtin.SmallTypes.nextOf
  refine wpAny_bind (wpAny_callSpecial?_slot (name := Str.ofString "__next__") hT F.slot_range_iterator_next
    (call_meets F.slot_range_iterator_next hT F.entry_range_iterator_next (F.args_range_iterator_next_1 _) (AutoRange.range_iterator___next___range_iterator_1 it x left step (by lia)) ⟨hit, ?_⟩))
  exact wpAny_pure (hQ _ (Heap.get?_update_self _ (Heap.get?_update_self _ hit rfl) rfl) ((Heap.SameBut.update ..).trans (Heap.SameBut.update ..)))

theorem nextOf_range_end {it : Addr} {x left step : Int} {Q : Value → Shared → Prop} (hh : A.handled = none) (hit : IsRangeIter s.heap it x left step) (hleft : left ≤ 0)
    (hE : ∀ h' e, Heap.ExtBut it s.heap h' → (∃ o, h'.get? e = some o ∧ o.cls = .type "StopIteration") → E (.ref e) { s with heap := h' }) :
    wpAny (model prog w) A (Builtin.SmallTypes.nextOf (.ref it)) Q E s := by
  have hT : s.TypeIs (.ref it) "range_iterator" := ⟨_, hit, rfl⟩
  unfold Builtin.SmallTypes.nextOf
  refine wpAny_bind (wpAny_callSpecial?_slot (name := Str.ofString "__next__") hT F.slot_range_iterator_next
    (wpAny_call_entry F.slot_range_iterator_next hT F.entry_range_iterator_next ?_ (F.args_range_iterator_next_1 _)))
  show wpAny _ _ (field (.ref it) 0 >>= _) _ _ s
  refine wpAny_bind (wpAny_field hit rfl (x := rawInt x) rfl ?_)
  show wpAny _ _ (field (.ref it) 1 >>= _) _ _ s
  refine wpAny_bind (wpAny_field hit rfl (x := rawInt left) rfl ?_)
  show wpAny _ _ (field (.ref it) 2 >>= _) _ _ s
  refine wpAny_bind (wpAny_field hit rfl (x := rawInt step) rfl ?_)
  show wpAny _ _ (if left ≤ 0 then _ else _) _ _ s
  rw [if_pos hleft]
  refine wpAny_bind (wpAny_rule ?_)
  refine wpAny_bind ?_
  show wpAny _ _ (newExc (.type "StopIteration") [] >>= _) _ _ _
  refine wpAny_bind ?_
  simp only [newExc, newTuple]
  refine wpAny_bind (wpAny_newObj_type ?_ (by size_fits))
  refine wpAny_bind (m := firstArgMember _ _) (wpAny_of_eq (a := Value.none) (by first | rfl | (simp only [firstArgMember]; rfl)) ?_)
  refine wpAny_newObj_type ?_ (by size_fits)
  simp only [raiseNew]
  refine wpAny_bind (wpAny_handled ?_)
  first | rw [show A.in1.handled = none from hh] | rw [hh]
  refine wpAny_bind (wpAny_pure (wpAny_throw ?_))
  exact hE _ _ (((Heap.ExtBut.refl it s.heap).push _).push _) ⟨_, Heap.get?_push_size _ rfl, rfl⟩

theorem zipR_item {z TI TO i1 i2 l : Addr} {k : Nat} {ys : Array Value} {x left step : Int} {y a b : Value} {Q : Value → Shared → Prop} (D : ZipApart z TI TO i1 i2 l l)
    (hz : IsZip s.heap z TI TO .none) (hTI : IsPair s.heap TI (.ref i1) (.ref i2)) (hTO : IsPair s.heap TO a b)
    (h1 : IsRangeIter s.heap i1 x left step) (hleft : 0 < left) (h2 : s.heap.IsListIter i2 l k) (hl2 : s.heap.IsList l ys) (hy : ys[k]? = some y)
    (hQ : ∀ h' t u, IsZip h' z TI TO (rawInt s.heap.objs.size) → IsPair h' TO (.int x t) y → IsRangeIter h' i1 (x + step) (left - 1) step → h'.IsListIter i2 l (k + 1) → IsPair h' s.heap.objs.size (.int x t) y → h'.objs.size = s.heap.objs.size + 1 →
      (∀ c o, c ≠ z → c ≠ TO → c ≠ i1 → c ≠ i2 → s.heap.get? c = some o → h'.get? c = some o) → Q (.ref s.heap.objs.size) { s with heap := h', toks := u }) :
    wpAny (model prog w) A (Builtin.«zip.__next__» ⟨[.ref z], []⟩) (fun fin s' => ∃ v, fin = .done (.ret v) ∧ Q v s') E s := by
  show wpAny _ _ (field (.ref z) 2 >>= _) _ _ _
  refine wpAny_bind (wpAny_field hz rfl (x := .bool false) rfl ?_)
  show wpAny _ _ (field (.ref z) 3 >>= _) _ _ _
  refine wpAny_bind (wpAny_field hz rfl (x := .ref TI) rfl ?_)
  refine wpAny_bind (wpAny_seqItems hTI rfl ?_)
  show wpAny _ _ (Builtin.SmallTypes.ownedTupleIsFree (.ref z) >>= _) _ _ _
  refine wpAny_bind ?_
  unfold Builtin.SmallTypes.ownedTupleIsFree
  refine wpAny_bind (wpAny_field hz rfl (x := .none) rfl (wpAny_pure ?_))
  simp only [if_true]
  refine wpAny_bind (wpAny_rule ?_)
  refine wpAny_bind (wpAny_field hz rfl (x := .ref TO) rfl ?_)
  refine wpAny_bind (wpAny_setField_rec hz (by simp) fun h₁ hz₁ hs₁ => ?_)
  replace hz₁ : IsZip h₁ z TI TO .ellipsis := hz₁
  refine wpAny_bind ?_
  simp only [List.zipIdx_cons, List.zipIdx_nil, List.forIn_cons, List.forIn_nil]
  refine wpAny_bind (wpAny_bind (wpAny_onRaise ?_))
  show wpAny _ _ (Builtin.SmallTypes.nextOf (.ref i1) >>= _) _ _ _
  refine wpAny_bind (nextOf_range (hs₁.extBut _ _ D.i1z h1) hleft fun h₂ h1₂ hs₂ => wpAny_pure ?_)
  have hTO₂ : IsPair h₂ TO a b := hs₂.extBut _ _ D.TOi1 (hs₁.extBut _ _ D.TOz hTO)
  refine wpAny_bind (wpAny_seqItems hTO₂ rfl ?_)
  refine wpAny_bind (wpAny_updateSeq_pair hTO₂ fun h₃ hTO₃ hs₃ => ?_)
  replace hTO₃ : IsPair h₃ TO (.int x s.toks) b := hTO₃
  refine wpAny_bind (wpAny_letGo (wpAny_pure ?_))
  refine wpAny_bind (wpAny_bind (wpAny_onRaise ?_))
  show wpAny _ _ (Builtin.SmallTypes.nextOf (.ref i2) >>= _) _ _ _
  refine wpAny_bind (wpAny_nextOf_list_item (((h2.extBut hs₁.extBut D.i2z).extBut hs₂.extBut D.i12.symm).extBut hs₃.extBut D.TOi2.symm)
    (((hl2.extBut hs₁.extBut D.l2z).extBut hs₂.extBut D.l2i1).extBut hs₃.extBut D.l2TO) hy fun h₄ h2₄ hs₄ => wpAny_pure ?_)
  have hTO₄ : IsPair h₄ TO (.int x s.toks) b := hs₄.extBut _ _ D.TOi2 hTO₃
  refine wpAny_bind (wpAny_seqItems hTO₄ rfl ?_)
  refine wpAny_bind (wpAny_updateSeq_pair hTO₄ fun h₅ hTO₅ hs₅ => ?_)
  replace hTO₅ : IsPair h₅ TO (.int x s.toks) y := hTO₅
  refine wpAny_bind (wpAny_letGo (wpAny_pure (wpAny_pure ?_)))
  refine wpAny_bind (wpAny_seqItems hTO₅ rfl ?_)
  refine wpAny_bind (wpAny_newTuple ?_)
  have hsz : h₅.objs.size = s.heap.objs.size := by rw [hs₅.1, hs₄.1, hs₃.1, hs₂.1, hs₁.1]
  have hz₅ : IsZip h₅ z TI TO .ellipsis := hs₅.extBut _ _ D.TOz.symm (hs₄.extBut _ _ D.i2z.symm (hs₃.extBut _ _ D.TOz.symm (hs₂.extBut _ _ D.i1z.symm hz₁)))
  have hk₅ : ∀ c o, c ≠ z → c ≠ TO → c ≠ i1 → c ≠ i2 → s.heap.get? c = some o → h₅.get? c = some o := fun c o c1 c2 c3 c4 e =>
    hs₅.extBut _ _ c2 (hs₄.extBut _ _ c4 (hs₃.extBut _ _ c2 (hs₂.extBut _ _ c3 (hs₁.extBut _ _ c1 e))))
  have h1₅ : IsRangeIter h₅ i1 (x + step) (left - 1) step := hs₅.extBut _ _ D.TOi1.symm (hs₄.extBut _ _ D.i12 (hs₃.extBut _ _ D.TOi1.symm h1₂))
  have h2₅ : h₅.IsListIter i2 l (k + 1) := h2₄.extBut hs₅.extBut D.TOi2.symm
  have hzlt : z < h₅.objs.size := Heap.lt_size hz₅
  show wpAny _ _ (Builtin.SmallTypes.ownedTupleHandOut (.ref z) (.ref h₅.objs.size) >>= _) _ _ _
  refine wpAny_bind ?_
  unfold Builtin.SmallTypes.ownedTupleHandOut
  have hz₆ : IsZip (h₅.push { cls := .type "tuple", data := .seq #[.int x s.toks, y] }) z TI TO .ellipsis := Heap.get?_push_of_some _ hz₅
  refine wpAny_bind (wpAny_setField_rec hz₆ (by simp) fun h₇ hz₇ hs₇ => ?_)
  replace hz₇ : IsZip h₇ z TI TO (rawInt h₅.objs.size) := hz₇
  refine wpAny_setField_rec hz₇ (by simp) fun h₈ hz₈ hs₈ => ?_
  replace hz₈ : IsZip h₈ z TI TO (rawInt h₅.objs.size) := hz₈
  have up : ∀ c o, c ≠ z → h₅.get? c = some o → h₈.get? c = some o := fun c o c1 e => hs₈.extBut _ _ c1 (hs₇.extBut _ _ c1 (Heap.get?_push_of_some _ e))
  have hT₈ : IsPair h₈ h₅.objs.size (.int x s.toks) y := hs₈.extBut _ _ (Nat.ne_of_gt hzlt) (hs₇.extBut _ _ (Nat.ne_of_gt hzlt) (Heap.get?_push_size _ rfl))
  have hz8 : h₈.objs.size = h₅.objs.size + 1 := by rw [hs₈.1, hs₇.1, Heap.size_push]
  rw [hsz] at hz₈ hT₈ hz8
  refine wpAny_pure ⟨_, rfl, ?_⟩
  show Q (.ref h₅.objs.size) _
  rw [hsz]
  exact hQ h₈ _ _ hz₈ (up _ _ D.TOz hTO₅) (up _ _ D.i1z h1₅) (h2₅.at fun o e => up _ o D.i2z e) hT₈ hz8 fun c o c1 c2 c3 c4 e => up c o c1 (hk₅ c o c1 c2 c3 c4 e)

theorem zipR_end {z TI TO i1 i2 l : Addr} {x left step : Int} {a b : Value} {Q : Fin → Shared → Prop} (hh : A.handled = none) (D : ZipApart z TI TO i1 i2 l l)
    (hz : IsZip s.heap z TI TO .none) (hTI : IsPair s.heap TI (.ref i1) (.ref i2)) (h1 : IsRangeIter s.heap i1 x left step) (hleft : left ≤ 0)
    (hE : ∀ h' e, (∀ c o, c ≠ z → c ≠ i1 → s.heap.get? c = some o → h'.get? c = some o) → (∃ o, h'.get? e = some o ∧ o.cls = .type "StopIteration") → E (.ref e) { s with heap := h' }) :
    wpAny (model prog w) A (Builtin.«zip.__next__» ⟨[.ref z], []⟩) Q E s := by
  show wpAny _ _ (field (.ref z) 2 >>= _) _ _ _
  refine wpAny_bind (wpAny_field hz rfl (x := .bool false) rfl ?_)
  show wpAny _ _ (field (.ref z) 3 >>= _) _ _ _
  refine wpAny_bind (wpAny_field hz rfl (x := .ref TI) rfl ?_)
  refine wpAny_bind (wpAny_seqItems hTI rfl ?_)
  show wpAny _ _ (Builtin.SmallTypes.ownedTupleIsFree (.ref z) >>= _) _ _ _
  refine wpAny_bind ?_
  unfold Builtin.SmallTypes.ownedTupleIsFree
  refine wpAny_bind (wpAny_field hz rfl (x := .none) rfl (wpAny_pure ?_))
  simp only [if_true]
  refine wpAny_bind (wpAny_rule ?_)
  refine wpAny_bind (wpAny_field hz rfl (x := .ref TO) rfl ?_)
  refine wpAny_bind (wpAny_setField_rec hz (by simp) fun h₁ hz₁ hs₁ => ?_)
  replace hz₁ : IsZip h₁ z TI TO .ellipsis := hz₁
  refine wpAny_bind ?_
  simp only [List.zipIdx_cons, List.zipIdx_nil, List.forIn_cons, List.forIn_nil]
  refine wpAny_bind (wpAny_bind (wpAny_onRaise ?_))
  show wpAny _ _ (Builtin.SmallTypes.nextOf (.ref i1) >>= _) _ _ _
  refine wpAny_bind (nextOf_range_end hh (hs₁.extBut _ _ D.i1z h1) hleft fun h₂ e hs₂ he => ?_)
  obtain ⟨oe, hoe, hce⟩ := he
  have hz₂ : IsZip h₂ z TI TO .ellipsis := hs₂ _ _ D.i1z.symm hz₁
  have hez : e ≠ z := fun x => by subst x; rw [hz₂] at hoe; cases hoe; simp at hce
  refine wpAny_setField_rec hz₂ (by simp) fun h₃ _ hs₃ => hE h₃ e (fun c o c1 c3 x => hs₃.extBut _ _ c1 (hs₂ _ _ c3 (hs₁.extBut _ _ c1 x))) ⟨oe, hs₃.extBut _ _ hez hoe, hce⟩

theorem pyNext_zipR_item {z TI TO i1 i2 l : Addr} {k : Nat} {ys : Array Value} {x left step : Int} {y a b : Value} {Q : Option Value → Shared → Prop} (D : ZipApart z TI TO i1 i2 l l)
    (hz : IsZip s.heap z TI TO .none) (hTI : IsPair s.heap TI (.ref i1) (.ref i2)) (hTO : IsPair s.heap TO a b)
    (h1 : IsRangeIter s.heap i1 x left step) (hleft : 0 < left) (h2 : s.heap.IsListIter i2 l k) (hl2 : s.heap.IsList l ys) (hy : ys[k]? = some y)
    (hQ : ∀ h' t u, IsZip h' z TI TO (rawInt s.heap.objs.size) → IsPair h' TO (.int x t) y → IsRangeIter h' i1 (x + step) (left - 1) step → h'.IsListIter i2 l (k + 1) → IsPair h' s.heap.objs.size (.int x t) y → h'.objs.size = s.heap.objs.size + 1 →
      (∀ c o, c ≠ z → c ≠ TO → c ≠ i1 → c ≠ i2 → s.heap.get? c = some o → h'.get? c = some o) → Q (some (.ref s.heap.objs.size)) { s with heap := h', toks := u }) :
    wpAny (model prog w) A (pyNext (.ref z)) Q E s := by
  have hT : s.TypeIs (.ref z) "zip" := ⟨_, hz, rfl⟩
  unfold pyNext
  exact wpAny_bind (wpAny_attempt (wpAny_callSpecial?_slot (name := Str.ofString "__next__") hT F.slot_zip_next
    (wpAny_call_entry F.slot_zip_next hT F.entry_zip_next
      (zipR_item D hz hTI hTO h1 hleft h2 hl2 hy fun h' t u a1 a2 a3 a4 a5 a6 a7 => wpAny_pure (hQ h' t u a1 a2 a3 a4 a5 a6 a7)) (F.args_zip_next_1 _))))

theorem pyNext_zipR_end {z TI TO i1 i2 l : Addr} {x left step : Int} {Q : Option Value → Shared → Prop} (hh : A.handled = none) (D : ZipApart z TI TO i1 i2 l l)
    (hz : IsZip s.heap z TI TO .none) (hTI : IsPair s.heap TI (.ref i1) (.ref i2)) (h1 : IsRangeIter s.heap i1 x left step) (hleft : left ≤ 0)
    (hQ : ∀ h', (∀ c o, c ≠ z → c ≠ i1 → s.heap.get? c = some o → h'.get? c = some o) → Q none { s with heap := h' }) : wpAny (model prog w) A (pyNext (.ref z)) Q E s := by
  have hT : s.TypeIs (.ref z) "zip" := ⟨_, hz, rfl⟩
  unfold pyNext
  refine wpAny_bind (wpAny_attempt (wpAny_callSpecial?_slot (name := Str.ofString "__next__") hT F.slot_zip_next
    (wpAny_call_entry F.slot_zip_next hT F.entry_zip_next (zipR_end (A := A.in1) (a := .none) (b := .none) hh D hz hTI h1 hleft fun h' e hk he => ?_) (F.args_zip_next_1 _))))
  obtain ⟨o, ho, hc⟩ := he
  refine wpAny_bind (wpAny_isInstance (T := "StopIteration") (b := true) ⟨o, ho, hc⟩ isSubtype_stop ?_)
  exact wpAny_pure (hQ _ hk)

structure ZSt (z TI TO i1 i2 l : Addr) (ys : Array Value) (x step : Int) (n i : Nat) (h : Heap) : Prop where
  hz : IsZip h z TI TO .none
  hTI : IsPair h TI (.ref i1) (.ref i2)
  hTO : ∃ a b, IsPair h TO a b
  h1 : IsRangeIter h i1 (x + i * step) ((n : Int) - i) step
  h2 : h.IsListIter i2 l i
  hl : h.IsList l ys
structure ZMid (z TI TO i1 i2 l : Addr) (ys : Array Value) (x step : Int) (n i : Nat) (T : Addr) (h : Heap) : Prop where
  hz : IsZip h z TI TO (rawInt T)
  hTI : IsPair h TI (.ref i1) (.ref i2)
  hTO : ∃ a b, IsPair h TO a b
  h1 : IsRangeIter h i1 (x + i * step + step) ((n : Int) - i - 1) step
  h2 : h.IsListIter i2 l (i + 1)
  hl : h.IsList l ys
  t1 : T ≠ z
  t2 : T ≠ TO
  t3 : T ≠ i1
  t4 : T ≠ i2
theorem zsub {z TI TO i1 i2 l c : Addr} (hc : c ∈ [z, TO, i1, i2]) : c ∈ [z, TI, TO, i1, i2, l] := by
  rcases List.mem_cons.mp hc with rfl | hc
  · exact .head _
  · exact .tail _ (.tail _ (List.mem_append_left [l] hc))
theorem ne0 {c a : Addr} {l : List Addr} (h : c ∉ a :: l) : c ≠ a := fun e => h (by rw [e]; exact .head _)
theorem nt {c a : Addr} {l : List Addr} (h : c ∉ a :: l) : c ∉ l := fun q => h (.tail _ q)
theorem e0 {a : Addr} {l : List Addr} : a ∈ a :: l := .head _
theorem e1 {a b : Addr} {l : List Addr} : b ∈ a :: b :: l := .tail _ e0
theorem e2 {a b c : Addr} {l : List Addr} : c ∈ a :: b :: c :: l := .tail _ e1
theorem e3 {a b c d : Addr} {l : List Addr} : d ∈ a :: b :: c :: d :: l := .tail _ e2
theorem e4 {a b c d e : Addr} {l : List Addr} : e ∈ a :: b :: c :: d :: e :: l := .tail _ e3
theorem e5 {a b c d e f : Addr} {l : List Addr} : f ∈ a :: b :: c :: d :: e :: f :: l := .tail _ e4

/-- zip of a range's iterator and of a list's, the range the shorter -/
theorem WalksF.zipR (hh : A.handled = none) (z TI TO i1 i2 l : Addr) (D : ZipApart z TI TO i1 i2 l l) (ys : Array Value) (n : Nat) (x step : Int) (hn : n ≤ ys.size) :
    WalksF prog w A z [z, TI, TO, i1, i2, l] [z, TO, i1, i2] n
      (fun i vals => ∃ t y, ys[i]? = some y ∧ vals = #[.int (x + i * step) t, y])
      (ZSt z TI TO i1 i2 l ys x step n) (ZMid z TI TO i1 i2 l ys x step n)
      (fun h => h.IsListIter i2 l n) where
  sub := fun c hc => zsub hc
  frame := fun i h h' hst hk => by
    obtain ⟨hz, hTI, ⟨a, b, hTO⟩, h1, h2, hl2⟩ := hst
    exact ⟨hk z e0 _ hz, hk TI e1 _ hTI, ⟨a, b, hk TO e2 _ hTO⟩, hk i1 e3 _ h1, h2.at fun o e => hk i2 e4 o e, hl2.at fun o e => hk l e5 o e⟩
  finf := fun h h' hf hk => hf.at fun o e => hk i2 e4 o e
  item := fun i s Q E hi hst hQ => by
    obtain ⟨hz, hTI, ⟨a, b, hTO⟩, h1, h2, hl2⟩ := hst
    have hiy : i < ys.size := by lia
    refine pyNext_zipR_item D hz hTI hTO h1 (by lia) h2 hl2 (Array.getElem?_eq_getElem hiy) fun h' t u a1 a2 a3 a4 a5 a6 hk => ?_
    have lt : ∀ {c o}, s.heap.get? c = some o → s.heap.objs.size ≠ c := fun e => Nat.ne_of_gt (Heap.lt_size e)
    exact hQ s.heap.objs.size #[.int (x + i * step) t, ys[i]] h' u ⟨t, _, Array.getElem?_eq_getElem hiy, rfl⟩ (new_size _) ⟨_, a5, rfl, _, rfl⟩
      ⟨a1, hk _ _ D.TIz D.TITO D.TIi1 D.TIi2 hTI, ⟨_, _, a2⟩, a3, a4, hl2.at fun o e => hk _ o D.l2z D.l2TO D.l2i1 D.l2i2 e,
        lt hz, lt hTO, lt h1, (by obtain ⟨_, e, _⟩ := h2; exact lt e)⟩
      fun c o hc e => hk c o (ne0 hc) (ne0 (nt hc)) (ne0 (nt (nt hc))) (ne0 (nt (nt (nt hc)))) e
  go := fun elts k pos i T s Q E hm hQ => by
    obtain ⟨hz, hTI, ⟨a, b, hTO⟩, h1, h2, hl2, _⟩ := hm
    refine wpAny_letOwnedTupleGo_zip hz fun h' hz' hs' => hQ h' ⟨hz', hs'.extBut _ _ D.TIz hTI, ⟨a, b, hs'.extBut _ _ D.TOz hTO⟩, ?_, h2.extBut hs'.extBut D.i2z, hl2.extBut hs'.extBut D.l2z⟩ fun c o hc e => hs'.extBut _ _ (ne0 hc) e
    have f1 : x + ((i + 1 : Nat) : Int) * step = x + (i : Int) * step + step := by push_cast; rw [Int.add_mul, Int.one_mul, Int.add_assoc]
    have f2 : (n : Int) - ((i + 1 : Nat) : Int) = (n : Int) - i - 1 := by lia
    rw [f1, f2]
    exact hs'.extBut _ _ D.i1z h1
  apart := fun i T h hm hT => by
    obtain ⟨_, _, _, _, _, _, t1, t2, t3, t4⟩ := hm
    rcases List.mem_cons.mp hT with e | hT
    · exact t1 e
    rcases List.mem_cons.mp hT with e | hT
    · exact t2 e
    rcases List.mem_cons.mp hT with e | hT
    · exact t3 e
    · exact t4 (List.mem_singleton.mp hT)
  done := fun s Q E hst hQ => by
    obtain ⟨hz, hTI, _, h1, h2, hl2⟩ := hst
    exact pyNext_zipR_end hh D hz hTI h1 (by lia) fun h' hk => hQ h' s.toks (h2.at fun o e => hk _ o D.i2z D.i12.symm e) fun c o hc e =>
      hk c o (ne0 hc) (ne0 (nt (nt hc))) e
  self := fun i s Q E hst hQ => wpAny_pyIter_zip hst.hz hQ

/-- zip(range, iterator) -/
theorem zip_new {r I l : Addr} {k : Nat} {a b c n : Int} {t u v : Tok} {Q : Value → Shared → Prop} (hr : IsRange s.heap r a b c t u v) (hsm : Builtin.Range.small a b c = true) (hn : Builtin.Range.rangeSize a b c = n) (hI : s.heap.IsListIter I l k)
    (h : ∀ z TI TO i1 s', Keep [] s s' → IsZip s'.heap z TI TO .none → IsPair s'.heap TI (.ref i1) (.ref I) → IsPair s'.heap TO .none .none → IsRangeIter s'.heap i1 a n c → TI ≠ TO → s.heap.get? z = none → s.heap.get? TI = none → s.heap.get? TO = none → s.heap.get? i1 = none → Q (.ref z) s') :
    wpAny (model prog w) A (call (.type "zip") [.ref r, .ref I]) Q E s := by
  subst hn
  let hA : Heap := s.heap.push { cls := .type "range_iterator", data := .fields #[rawInt a, rawInt (Builtin.Range.rangeSize a b c), rawInt c] }
  let hB : Heap := hA.push { cls := .type "tuple", data := .seq #[.ref s.heap.objs.size, .ref I] }
  let hC : Heap := hB.push { cls := .type "tuple", data := .seq #[.none, .none] }
  let hD : Heap := hC.push { cls := .type "zip", data := .fields #[.none, .bool false, .bool false, .ref hA.objs.size, .ref hB.objs.size] }
  have meets : Meets (Builtin.«zip.__new__» ⟨[.type "zip", .ref r, .ref I], []⟩) (fun _ R s₁ => s₁ = s ∧ R (.ok (.ret (.ref hC.objs.size))) { s with heap := hD }) :=
    .of_wp fun prog w A R s₁ h => by
      obtain ⟨rfl, h⟩ := h
      obtain ⟨hp, g, d, tk, os⟩ := s₁
      have hsub := sub_zip
      have hL1 : IsRange (Shared.heap ⟨hp, g, d, tk, os⟩) r a b c t u v := hr
      have hL2 : Heap.IsListIter (Shared.heap ⟨hp.push { cls := .type "range_iterator", data := .fields #[rawInt a, rawInt (Builtin.Range.rangeSize a b c), rawInt c] }, g, d, tk, os⟩) I l k := hI.at fun o e => Heap.get?_push_of_some _ e
      wp_walk using wpAny_pyIter_range hL1 hsm, wpAny_pyIter_listiter hL2
      exact ⟨_, rfl, h⟩
  refine callType_new F.called_zip (by decide) (F.typeCall_zip_2 _ _) (F.newCall_zip_2 _ _) (fun obj => F.args_object_init_3 obj _ _) F.entry_zip_new meets ⟨rfl, ?_⟩
  have z1 : hA.objs.size = s.heap.objs.size + 1 := Heap.size_push ..
  have z2 : hB.objs.size = s.heap.objs.size + 2 := by rw [Heap.size_push, z1]
  have z3 : hC.objs.size = s.heap.objs.size + 3 := by rw [Heap.size_push, z2]
  have g1 : hD.get? s.heap.objs.size = some _ := Heap.get?_push_of_some _ (Heap.get?_push_of_some _ (Heap.get?_push_of_some _ (Heap.get?_push_size _ rfl)))
  have g2 : hD.get? hA.objs.size = some _ := Heap.get?_push_of_some _ (Heap.get?_push_of_some _ (Heap.get?_push_size _ rfl))
  have g3 : hD.get? hB.objs.size = some _ := Heap.get?_push_of_some _ (Heap.get?_push_size _ rfl)
  have g4 : hD.get? hC.objs.size = some _ := Heap.get?_push_size _ rfl
  show _ ∧ _
  exact ⟨⟨_, g4, rfl⟩, h _ _ _ _ _ ⟨⟨_, _, rfl⟩, fun c o x _ => Heap.get?_push_of_some _ (Heap.get?_push_of_some _ (Heap.get?_push_of_some _ (Heap.get?_push_of_some _ x)))⟩ g4 g2 g3 g1
    (fun e => by have e' : hA.objs.size = hB.objs.size := e; rw [z1, z2] at e'; lia) (Heap.get?_none_of_le (by show s.heap.objs.size ≤ hC.objs.size; rw [z3]; exact Nat.le_add_right _ _)) (Heap.get?_none_of_le (by show s.heap.objs.size ≤ hA.objs.size; rw [z1]; exact Nat.le_add_right _ _)) (Heap.get?_none_of_le (by show s.heap.objs.size ≤ hB.objs.size; rw [z2]; exact Nat.le_add_right _ _)) (new_size _)⟩
end
end Mine
end
section
open PySem PySem.W PyProof.Rows PySem.Calls
set_option maxRecDepth 100000
namespace Mine

theorem mro_object' : mroOf (.type "object") = pure [.type "object"] := by rw [mroOf_type]; kernel_rfl
theorem lookup_object_new : typeLookup (.type "object") "__new__" = pure (some (.builtin "object.__new__")) := by rw [typeLookup_type, builtinLookup_eq_fast]; kernel_rfl
theorem called_object : TypeCalled "object" "object.__new__" "object.__init__" :=
  ⟨by decide +kernel, by decide +kernel, ⟨_, _, mro_object'⟩, madeBy_type mro_object' lookup_object_new (by decide +kernel), by decide +kernel, by rw [isSubtype_type]; kernel_rfl, PySem.F.slot_object_init⟩
theorem typeCall_object : checkTypeCall "object" ⟨[], []⟩ = pure () := by kernel_rfl
theorem newCall_object : checkBuiltinCall "object.__new__" ⟨[.type "object"], []⟩ = pure () := by kernel_rfl

theorem meets_object_new : Meets (Builtin.«object.__new__» ⟨[.type "object"], []⟩) (fun _ R s => R (.ok (.ret (.ref s.heap.objs.size))) { s with heap := s.heap.push { cls := .type "object", data := .plain } }) :=
  .of_wp fun prog w A R s h => by
    obtain ⟨hp, g, d, tk, os⟩ := s
    have hsub : isSubtype (.type "object") (.type "object") = pure true := by rw [isSubtype_type]; kernel_rfl
    have hmade := called_object.made
    wp_walk
    exact ⟨_, rfl, h⟩

section
variable {prog : Program} {w : World} {A : Around} {E : Value → Shared → Prop} {s : Shared}

/-- object() -/
theorem objectCall {Q : Value → Shared → Prop} (h : ∀ x s', Keep [] s s' → s'.heap.get? x = some { cls := .type "object", data := .plain } → s.heap.get? x = none → Q (.ref x) s') : wpAny (model prog w) A (call (.type "object") []) Q E s := by
  refine callType_meets (Q₁ := fun v s' => v = .ref s.heap.objs.size ∧ s' = { s with heap := s.heap.push { cls := .type "object", data := .plain } }) called_object typeCall_object newCall_object PySem.F.entry_object_new PySem.F.entry_object_init meets_object_new ⟨rfl, rfl⟩ ?_
  rintro _ _ ⟨rfl, rfl⟩
  refine ⟨⟨_, Heap.get?_push_size _ rfl, rfl⟩, PySem.F.args_object_init_1 _, (fun _ R s => R (.ok (.ret .none)) s), Meets.of_wp fun prog w A R s hs => wpAny_pure ⟨_, rfl, hs⟩, rfl, ?_⟩
  exact h _ _ (keep_push (t := s.toks)) (Heap.get?_push_size _ rfl) (new_size _)

/-- iter(list) -/
theorem iterCall {l : Addr} {items : List Value} {Q : Value → Shared → Prop} (hl : PL s.heap l items) (h : ∀ I s', Keep [] s s' → s'.heap.IsListIter I l 0 → s.heap.get? I = none → Q (.ref I) s') : wpAny (model prog w) A (call (.builtin "iter") [.ref l]) Q E s := by
  refine call_function_entry (by decide +kernel) (by decide +kernel) kdk_entry_iter (kdk_args_iter _) ?_
  unfold Builtin.«iter»
  refine wpAny_bind (m := someArgs "iter" 1 2 _) (wpAny_of_eq (a := [Value.ref l]) (by first | rfl | kernel_rfl!) ?_)
  exact wpAny_bind (iterL hl fun I s' k hI nI => wpAny_pure ⟨_, rfl, h I s' k hI nI⟩)

theorem is_other {M : Model} {x y : Addr} {ox oy : Obj} {Q : Value → Shared → Prop} (hxy : x ≠ y) (hx : s.heap.get? x = some ox) (hy : s.heap.get? y = some oy) (hnt : oy.cls ≠ .type "tuple")
    (h : Q (.bool false) s) : wpAny M A (compareOp .Is (.ref x) (.ref y)) Q E s := by
  show wpAny M A (do return .bool (← isSame (.ref x) (.ref y))) Q E s
  refine wpAny_bind ?_
  show wpAny M A (if (x == y) = true then pure true else _) _ E s
  rw [if_neg (by simpa using hxy)]
  refine wpAny_bind (wpAny_load hx (wpAny_bind (wpAny_load hy ?_)))
  split
  · rename_i h1 h2 _ _; exact absurd h2 hnt
  · exact wpAny_pure (wpAny_pure h)
end
end Mine
end
section
open PySem PySem.W PyProof.Rows PySem.Calls
set_option maxRecDepth 100000
namespace Mine

/-- p is the stable order of the places below N by the keys κ -/
structure StSort (κ : Nat → Int) (N : Nat) (p : List Nat) : Prop where
  len : p.length = N
  low : ∀ i ∈ p, i < N
  sorted : p.Pairwise (so κ)

theorem so_irrefl {κ : Nat → Int} (i : Nat) : ¬ so κ i i := fun h => by rcases h with h | h <;> omega
theorem so_asymm {κ : Nat → Int} {i j : Nat} (h : so κ i j) : ¬ so κ j i := fun h' => by rcases h with h | h <;> rcases h' with h' | h' <;> omega
theorem so_trans {κ : Nat → Int} {i j k : Nat} (h : so κ i j) (h' : so κ j k) : so κ i k := by
  unfold so at *
  rcases h with h | h <;> rcases h' with h' | h' <;> omega
theorem so_total {κ : Nat → Int} {i j : Nat} (h : i ≠ j) : so κ i j ∨ so κ j i := by
  unfold so
  rcases Int.lt_trichotomy (κ i) (κ j) with h1 | h1 | h1 <;> omega

theorem StSort.nodup {κ : Nat → Int} {N : Nat} {p : List Nat} (S : StSort κ N p) : p.Nodup := by
  have h := S.sorted
  unfold List.Nodup
  exact h.imp (S := fun a b => a ≠ b) fun {a b} h (e : a = b) => so_irrefl b (by rw [e] at h; exact h)

theorem nodup_len_le {p : List Nat} {N : Nat} (hn : p.Nodup) (hl : ∀ i ∈ p, i < N) : p.length ≤ N := by
  have h := List.Nodup.length_le_of_subset hn (l₂ := List.range N) fun i hi => List.mem_range.mpr (hl i hi)
  simpa using h
theorem StSort.mem {κ : Nat → Int} {N : Nat} {p : List Nat} (S : StSort κ N p) {i : Nat} (hi : i < N) : i ∈ p := by
  by_cases h : i ∈ p
  · exact h
  · exfalso
    have h1 : (i :: p).Nodup := List.nodup_cons.mpr ⟨h, S.nodup⟩
    have h2 := nodup_len_le h1 (N := N) fun j hj => by
      rcases List.mem_cons.mp hj with rfl | hj
      · exact hi
      · exact S.low j hj
    rw [List.length_cons, S.len] at h2
    omega
theorem sorted_unique {R : Nat → Nat → Prop} (asymm : ∀ i j, R i j → ¬ R j i) : ∀ {p q : List Nat}, p.Pairwise R → q.Pairwise R → (∀ x, x ∈ p ↔ x ∈ q) → p.Nodup → q.Nodup → p = q
  | [], [], _, _, _, _, _ => rfl
  | [], y :: q, _, _, h, _, _ => absurd ((h y).mpr (.head _)) (by simp)
  | x :: p, [], _, _, h, _, _ => absurd ((h x).mp (.head _)) (by simp)
  | x :: p, y :: q, hp, hq, h, np, nq => by
    obtain ⟨hx, hp'⟩ := List.pairwise_cons.mp hp
    obtain ⟨hy, hq'⟩ := List.pairwise_cons.mp hq
    obtain ⟨nx, np'⟩ := List.nodup_cons.mp np
    obtain ⟨ny, nq'⟩ := List.nodup_cons.mp nq
    have e : x = y := by
      by_cases e : x = y
      · exact e
      · exfalso
        have h1 : x ∈ q := by
          rcases List.mem_cons.mp ((h x).mp (.head _)) with z | z
          · exact absurd z e
          · exact z
        have h2 : y ∈ p := by
          rcases List.mem_cons.mp ((h y).mpr (.head _)) with z | z
          · exact absurd z.symm e
          · exact z
        exact asymm _ _ (hx y h2) (hy x h1)
    subst e
    rw [sorted_unique asymm hp' hq' (fun z => ?_) np' nq']
    constructor
    · intro hz
      rcases List.mem_cons.mp ((h z).mp (.tail _ hz)) with w | w
      · exact absurd (w ▸ hz) nx
      · exact w
    · intro hz
      rcases List.mem_cons.mp ((h z).mpr (.tail _ hz)) with w | w
      · exact absurd (w ▸ hz) ny
      · exact w
theorem StSort.unique {κ : Nat → Int} {N : Nat} {p q : List Nat} (S : StSort κ N p) (S' : StSort κ N q) : p = q :=
  sorted_unique (fun _ _ h => so_asymm h) S.sorted S'.sorted (fun x => ⟨fun h => S'.mem (S.low x h), fun h => S.mem (S'.low x h)⟩) S.nodup S'.nodup

theorem Front.st {κ : Nat → Int} {N : Nat} {p : Array Nat} (F : Front κ N p N) : StSort κ N p.toList := by
  have at_ : ∀ i (hi : i < p.toList.length), p.toList[i] = P p i := fun i hi => by
    have hi' : i < p.size := by simpa using hi
    rw [P_eq]; simp [hi']
  refine ⟨by rw [Array.length_toList, F.size], fun i hi => ?_, ?_⟩
  · obtain ⟨k, hk, rfl⟩ := List.getElem_of_mem hi
    rw [at_ k hk]
    exact F.low k (by rw [Array.length_toList, F.size] at hk; exact hk)
  · rw [List.pairwise_iff_getElem]
    intro i j hi hj hij
    rw [at_ i hi, at_ j hj]
    exact F.sorted i j hij (by rw [Array.length_toList, F.size] at hj; exact hj)

/-- sorted backwards and turned: the stable order by the keys turned -/
theorem Front.stRev {κ κ' : Nat → Int} {N : Nat} {p : Array Nat} (F : Front κ' N p N) (hk : ∀ i, i < N → κ' i = -(κ (N - 1 - i))) : StSort κ N (p.toList.reverse.map fun i => N - 1 - i) := by
  have S := F.st
  refine ⟨by rw [List.length_map, List.length_reverse, S.len], fun i hi => ?_, ?_⟩
  · obtain ⟨j, hj, rfl⟩ := List.mem_map.mp hi
    have := S.low j (List.mem_reverse.mp hj)
    omega
  · rw [List.pairwise_map, List.pairwise_reverse]
    refine (List.Pairwise.imp_of_mem (fun {a b} ha hb h => ?_) S.sorted)
    have h1 := S.low a ha
    have h2 := S.low b hb
    have e1 := hk a h1
    have e2 := hk b h2
    unfold so at h ⊢
    rcases h with h | h
    · exact .inl (by omega)
    · exact .inr ⟨by omega, by omega⟩
end Mine
end
section
open PySem PySem.W PyProof.Rows PySem.Calls
set_option maxRecDepth 100000
namespace Mine

section
variable {w : World} {prog : Program} {mg mb : Str → Option Value} {G : Heap} {A : Around} {E : Value → Shared → Prop} {s : Shared} {env : Env}

theorem g_iter (T : GT w mg mb G) : mg "iter" = none ∧ mb "iter" = some (.builtin "iter") := ⟨mgN T (by kernel_rfl!), (T.bi _ (by decide)).trans (by kernel_rfl!)⟩
theorem g_object (T : GT w mg mb G) : mg "object" = none ∧ mb "object" = some (.type "object") := ⟨mgN T (by kernel_rfl!), (T.bi _ (by decide)).trans (by kernel_rfl!)⟩
theorem g_min (T : GT w mg mb G) : mg "min" = none ∧ mb "min" = some (.builtin "min") := ⟨mgN T (by kernel_rfl!), (T.bi _ (by decide)).trans (by kernel_rfl!)⟩
theorem g_max (T : GT w mg mb G) : mg "max" = none ∧ mb "max" = some (.builtin "max") := ⟨mgN T (by kernel_rfl!), (T.bi _ (by decide)).trans (by kernel_rfl!)⟩
theorem g_sorted (T : GT w mg mb G) : mg "sorted" = none ∧ mb "sorted" = some (.builtin "sorted") := ⟨mgN T (by kernel_rfl!), (T.bi _ (by decide)).trans (by kernel_rfl!)⟩
theorem g_zip (T : GT w mg mb G) : mg "zip" = none ∧ mb "zip" = some (.type "zip") := ⟨mgN T (by kernel_rfl!), (T.bi _ (by decide)).trans (by kernel_rfl!)⟩

/-- a key function: a function object that gives kf of each row, and leaves all -/
structure KeyFn (prog : Program) (w : World) (s : Shared) (f : Addr) (rows : List Value) (kf : Value → Int) : Prop where
  fn : ∃ o fd, s.heap.get? f = some o ∧ o.data = .func fd
  run : ∀ v ∈ rows, ∀ A' s', Room 2 A' → Keep [] s s' → ∀ (Q' : Value → Shared → Prop) (E' : Value → Shared → Prop), (∀ t s'', Keep [] s' s'' → Q' (.int (kf v) t) s'') → wpAny (model prog w) A' (call (.ref f) [v]) Q' E' s'

/-- a call of a name with keywords, a built-in -/
theorem callKw {M : Model} {id : Str} {p pos : Pos} {a : Expr} {as : List Expr} {kws : List Keyword} {bid : String} {Q : Value → Shared → Prop}
    (hf : ∀ {Q' : Value → Shared → Prop}, Q' (.builtin bid) s → wpAny M A (eval (.Name id p) env) Q' E s)
    (h : wpAny M A (spliced (backTo pos (starEach (a :: as) env))) (fun vs s₁ => wpAny M A (evalAll ((backToKw pos (keywordEach kws env)).map (·.2)))
      (fun kvs s₂ => wpAny M A (call (.builtin bid) vs (((backToKw pos (keywordEach kws env)).filterMap (·.1)).zip kvs)) Q E s₂) E s₁) E s)
    (he : backTo pos (starEach (a :: as) env) = (false, eval a env) :: backTo pos (starEach as env) := by rfl)
    (hplain : (backTo pos (starEach (a :: as) env)).any (·.1) = false := by rfl)
    (hall : (backToKw pos (keywordEach kws env)).all (·.1.isSome) = true := by rfl)
    (hkw : (backToKw pos (keywordEach kws env)).any (·.1.isNone) = false := by rfl) :
    wpAny M A (eval (.Call (.Name id p) (a :: as) kws pos) env) Q E s :=
  wpAny_Call_Name_kw (hf (callWith_kw h he hplain hall hkw))

/-- a call of a built-in class's name with nothing -/
theorem callN0 {M : Model} {id : Str} {p pos : Pos} {f : Value} {Q : Value → Shared → Prop}
    (hf : ∀ {Q' : Value → Shared → Prop}, Q' f s → wpAny M A (eval (.Name id p) env) Q' E s) (h : wpAny M A (call f [] []) Q E s) (hk : keeperOf f = pure .machine := by rfl) :
    wpAny M A (eval (.Call (.Name id p) [] [] pos) env) Q E s :=
  wpAny_Call_Name_kw (hf (callWith_m (args := []) hk rfl (PyProof.Rows.evalArgs_none h)))

/-- [x] made anew -/
theorem list1 {vs : List Value} {Q : Value → Shared → Prop} (hz : vs.length < 2 ^ 20) (h : ∀ D s', Keep [] s s' → PL s'.heap D vs → s.heap.get? D = none → Q (.ref D) s') : wpAny (model prog w) A (newList vs) Q E s :=
  wpAny_newList (h _ _ (keep_push (t := s.toks)) ⟨0, Heap.get?_push_size _ rfl⟩ (new_size _)) (by rw [sizeLine_eq]; lia)

/-- x = value, the frame given -/
theorem Cx.asgK {M : Model} {S : List Addr} {s0 : Shared} {m cm : Str → Option Value} {news : List (Addr × Obj)} (_c : Cx G S s0 env m cm news s) {x : Str} {p' p : Pos} {value : Expr} {Q : Flow → Shared → Prop}
    (h : wpAny M A (eval value env) (AsgQ G S s0 env cm x Q) E s)
    (hs : swapsWith value (some (.Name x p')) p.line env = pure false := by rfl)
    (hl : env.kindOf x = some .local := by rfl) (hp : (env.scope.kind == .class || (env.scope.kind == .module && env.locals != env.globals)) = false := by rfl) :
    wpAny M A (exec (.Assign [.Name x p'] value p) env) Q E s := Cx.asg h hs hl hp

/-- nsmallest of one -/
theorem nsmallest_one (T : GT w mg mb G) {n : Nat} (r : Room (n + 6) A) (st : Stays G s.heap) {R f : Addr} {rows : List Value} {kf : Value → Int} {t : Tok} (hR : PL s.heap R rows) (hne : 0 < rows.length) (hz : rows.length < 2 ^ 18) (hk : KeyFn prog w s f rows kf)
    (htup : ∀ v ∈ rows, ∃ ns, TI s.heap v ns) {Q : Value → Shared → Prop}
    (k : ∀ D i v s', Keep [] s s' → s.heap.get? D = none → rows[i]? = some v → (∀ (j : Nat) u, rows[j]? = some u → kf v ≤ kf u ∧ (j < i → kf v < kf u)) → PL s'.heap D [v] → Q (.ref D) s') :
    wpAny (model prog w) A (call (.ref 111) [.int 1 t, .ref R] [("key", .ref f)]) Q E s := by
  refine callFnC (S := []) (n := n + 6) (binds := [("n", .int 1 t), ("iterable", .ref R), ("key", .ref f)]) T st (fun y hy => nomatch hy) (fun y hy => nomatch hy) r
    (by rfl) (by kernel_rfl!) ?bind (by kernel_rfl!) (fun L s₁ c k0 hcn => ?_)
  case bind => exact .of_defaults rfl (st _ _ (T.k _ _ (by rfl))) rfl rfl rfl
  have hh : (A.deeper c.theEnv).handled = none := r.hn
  have hcK : (c.theEnv).cells.lookup ("key" : Str) = some (L + 1) := rfl
  refine seq (wpAny_If (wpAny_isTrue_Compare1 (c.ld rfl (eInt fun _ u1 => cEq (wpAny_truthy_bool ?_)))))
  rw [if_pos (by rfl)]
  have c1 := c.tk (t := u1)
  refine seq (Cx.asg (callN (c1.ldB T (g_iter T).1 (g_iter T).2) (arg (c1.ld rfl (arg0 (iterCall (s := tk s₁ u1) (k0.pl0 hR) fun I s₂ k2 hI nI => ⟨_, _, c1.keep0 k2, fun s₃ c3 e3 => ?_⟩))))))
  have hIn : s.heap.get? I = none := c1.fresh nI
  have pI := listIter_plain hI
  have hI3 : s₃.heap.IsListIter I R 0 := by
    obtain ⟨o, ho, rr⟩ := id hI
    exact ⟨o, sameBut_keep e3 ((c1.keep0 k2).neL ho (by obtain ⟨o', ho', hp⟩ := pI; rw [ho] at ho'; cases ho'; exact hp)) ho, rr⟩
  refine seq (Cx.asg (callN0 (c3.ldB T (g_object T).1 (g_object T).2) (objectCall fun X s₄ k4 hX nX => ⟨_, _, c3.keep0 k4, fun s₅ c5 e5 => ?_⟩)))
  have c4 := c3.keep0 k4
  have pX : plainObj ({ cls := .type "object", data := .plain } : Obj) := ⟨(fun _ _ q => nomatch q), (fun _ q => nomatch q)⟩
  have hX5 := sameBut_keep e5 (c4.neL hX pX) hX
  have hI5 : s₅.heap.IsListIter I R 0 := by
    obtain ⟨o, ho, rr⟩ := id hI3
    have ho4 := k4.keep _ _ ho (fun q => nomatch q)
    exact ⟨o, sameBut_keep e5 (c4.neL ho4 (by obtain ⟨o', ho', hp⟩ := listIter_plain hI3; rw [ho] at ho'; cases ho'; exact hp)) ho4, rr⟩
  have hR5 : PL s₅.heap R rows := hR.kp c5.kp (fun q => nomatch q)
  refine seq (c5.asgK (callKw (c5.ldB T (g_min T).1 (g_min T).2) (arg (c5.ld rfl (arg0 (kws_cons (c5.ld rfl (kws_cons (c5.ldC hcK rfl (kws_nil (min_spec (kf := kf) hh ⟨f, rfl⟩ hI5 hR5 hne (fun v hv s' k' Q' hq => ?_) fun i v s₆ hv hmin k6 => ?_)))))))))))
  · refine hk.run v hv _ s' ((r.deeper _).in1.less (by lia)) ⟨?_, fun b o e _ => k'.keep b o (c5.kp.keep b o e (fun q => nomatch q)) (fun q => by rw [List.mem_singleton.mp q, hIn] at e; cases e)⟩ Q' _ hq
    obtain ⟨h1, t1, q1⟩ := c5.kp.same; obtain ⟨h2, t2, q2⟩ := k'.same; rw [q2, q1]; exact ⟨_, _, rfl⟩
  have c6 := c5.after k6 (fun a ha => by rw [List.mem_singleton.mp ha]; exact ⟨.inr hIn, listIter_plain hI5⟩) (fun a ha hb => nomatch hb) (news' := []) (fun _ q => nomatch q)
  have hXI : X ≠ I := fun e => by
    obtain ⟨o, ho, hc, _⟩ := hI3
    rw [← e, nX] at ho; cases ho
  have hX6 := k6.keep _ _ hX5 (fun q => hXI (List.mem_singleton.mp q))
  refine ⟨_, _, c6, fun s₇ c7 e7 => ?_⟩
  have hX7 := sameBut_keep e7 (c6.neL hX6 pX) hX6
  obtain ⟨ns, vt⟩ := htup v (List.mem_of_getElem? hv)
  obtain ⟨a, vs, rfl, ⟨oa, hoa, hca, ra⟩, hints⟩ := vt.kp0 c7.kp
  have hXa : a ≠ X := fun e => by rw [e, hX7] at hoa; cases hoa; exact absurd hca (by show Value.type "object" ≠ Value.type "tuple"; decide)
  refine seq (wpAny_Return_some (IfExp_ (wpAny_isTrue_Compare1 (c7.ld rfl (c7.ld rfl (is_other hXa hoa hX7 (by show Value.type "object" ≠ Value.type "tuple"; decide) (wpAny_truthy_bool ?_)))))))
  rw [if_neg (by simp)]
  refine List_ (arg (c7.ld rfl (arg0 (list1 (by simp) fun D s₈ k8 hD nD => k D i _ s₈ (c7.kp.trans k8) (c7.fresh nD) hv hmin hD))))
end
end Mine
end
section
open PySem PySem.W PyProof.Rows PySem.Calls
set_option maxRecDepth 100000
namespace Mine

section
variable {w : World} {prog : Program} {mg mb : Str → Option Value} {G : Heap} {A : Around} {E : Value → Shared → Prop} {s : Shared} {env : Env}

/-- nsmallest of all -/
theorem nsmallest_all (T : GT w mg mb G) {n : Nat} (r : Room (n + 6) A) (st : Stays G s.heap) {R f : Addr} {rows : List Value} {kf : Value → Int} {t : Tok} {cnt : Int} {c₀ : Nat} (hc : cnt = c₀) (hc1 : c₀ ≠ 1) (hcn : rows.length ≤ c₀) (hR : PL s.heap R rows) (h2 : 2 ≤ rows.length) (hz : rows.length < 64) (hk : KeyFn prog w s f rows kf)
    {Q : Value → Shared → Prop}
    (k : ∀ D (p : Array Nat) s', Keep [] s s' → s.heap.get? D = none → Front (fun i => (rows.map kf).getD i 0) rows.length p rows.length → PL s'.heap D ((p.toList.map fun i => rows.getD i Value.none).take c₀) → Q (.ref D) s') :
    wpAny (model prog w) A (call (.ref 111) [.int cnt t, .ref R] [("key", .ref f)]) Q E s := by
  refine callFnC (S := []) (n := n + 6) (binds := [("n", .int cnt t), ("iterable", .ref R), ("key", .ref f)]) T st (fun y hy => nomatch hy) (fun y hy => nomatch hy) r
    (by rfl) (by kernel_rfl!) (.of_defaults rfl (st _ _ (T.k _ _ (by rfl))) rfl rfl rfl) (by kernel_rfl!) (fun L s₁ c k0 hcn' => ?_)
  have hh : (A.deeper c.theEnv).handled = none := r.hn
  have hcK : (c.theEnv).cells.lookup ("key" : Str) = some (L + 1) := rfl
  refine seq (wpAny_If (wpAny_isTrue_Compare1 (c.ld rfl (eInt fun _ u1 => cEq (wpAny_truthy_bool ?_)))))
  rw [if_neg (by simp; lia)]
  refine wpAny_execs_nil ?_
  have c1 := c.tk (t := u1)
  refine seq (wpAny_Try_except (seq (c1.asgK (callN (c1.ldB T (g_len T).1 (g_len T).2) (arg (c1.ld rfl (arg0 (lenL (s := tk s₁ u1) (k0.pl0 hR) (by lia) fun _ u2 => ⟨_, _, c1.tk (t := u2), fun s₃ c3 e3 => ?_⟩))))))))
  refine wpAny_execs_nil ?_
  refine seq (wpAny_If (wpAny_isTrue_Compare1 (c3.ld rfl (c3.ld rfl (cGe (wpAny_truthy_bool ?_))))))
  rw [if_pos (by simp; lia)]
  have hR3 : PL s₃.heap R rows := hR.kp c3.kp (fun q => nomatch q)
  refine seq (wpAny_Return_some (Subscript_ (callKw (c3.ldB T (g_sorted T).1 (g_sorted T).2) (arg (c3.ld rfl (arg0 (kws_cons (c3.ldC hcK rfl (kws_nil (sorted_spec (b := false) (f := .ref f) (kf := kf) hR3 h2 hz (ksk_s1 _ _) (fun x => ksk_l1 _ _) (fun x => ksk_t1 _ _) (fun v hv s' k' Q' hq => ?_) fun p D s₄ hF k4 nD hD => ?_))))))))))
  · exact hk.run v hv _ s' (((r.deeper _).in1.in1).less (by lia)) (c3.kp.trans k') Q' _ hq
  have c4 := c3.keep0 k4
  refine evSlice (part0 (part1 (c4.ld rfl (part0 fun sl s₅ k5 hsl _ => sliceTo (b := c₀) (k5.pl0 hD) hsl hc ?_ (fun D2 s₆ k6 hD2 nD2 => ?_) ⟨_, rfl⟩))))
  · rw [kat_len, List.length_map, Array.length_toList, hF.size]; lia
  · exact k D2 p s₆ ((c4.kp.trans k5).trans k6) (by
      cases e : s.heap.get? D2 with
      | none => rfl
      | some o => rw [(c4.kp.trans k5).keep _ _ e (fun q => nomatch q)] at nD2; cases nD2) hF hD2
end
end Mine
end
section
open PySem PySem.W PyProof.Rows PySem.Calls
namespace Mine

theorem plt_iff {a b : Int × Int} : plt a b = true ↔ a.1 < b.1 ∨ (a.1 = b.1 ∧ a.2 < b.2) := by
  unfold plt; simp
theorem plt_ff {a b : Int × Int} : plt a b = false ↔ ¬ (a.1 < b.1 ∨ (a.1 = b.1 ∧ a.2 < b.2)) := by
  rw [← plt_iff]; simp
theorem plt_ord {α : Type} (e : α → Int × Int) : Ord (fun a b => plt (e a) (e b)) :=
  ⟨fun a b h => by rw [plt_iff] at h; rw [plt_ff]; lia, fun a b c h1 h2 => by rw [plt_ff] at *; lia⟩
theorem plt_ord' {α : Type} (e : α → Int × Int) : Ord (fun a b => plt (e b) (e a)) :=
  ⟨fun a b h => by rw [plt_iff] at h; rw [plt_ff]; lia, fun a b c h1 h2 => by rw [plt_ff] at *; lia⟩

section
variable {α : Type}

/-- what the heap holds: the n first of the places below j -/
structure HI (κ : Nat → Int) (j n : Nat) (o : Int) (e : α → Int × Int) (ix : α → Nat) (l : List α) : Prop where
  len : l.length = n
  ky : ∀ v ∈ l, (e v).1 = κ (ix v)
  low : ∀ v ∈ l, ix v < j
  ord : ∀ v ∈ l, (e v).2 < o
  pos : ∀ v ∈ l, 0 ≤ (e v).2
  mono : ∀ v ∈ l, ∀ u ∈ l, (ix v < ix u ↔ (e v).2 < (e u).2)
  inj : (l.map ix).Nodup
  rest : ∀ i, i < j → i ∉ l.map ix → ∀ v ∈ l, so κ (ix v) i

variable {κ : Nat → Int} {j n : Nat} {o : Int} {e : α → Int × Int} {ix : α → Nat} {l : List α}

theorem HI.perm (H : HI κ j n o e ix l) {l' : List α} (p : l'.Perm l) : HI κ j n o e ix l' where
  len := p.length_eq.trans H.len
  ky := fun v h => H.ky v (p.mem_iff.mp h)
  low := fun v h => H.low v (p.mem_iff.mp h)
  ord := fun v h => H.ord v (p.mem_iff.mp h)
  pos := fun v h => H.pos v (p.mem_iff.mp h)
  mono := fun v h u h' => H.mono v (p.mem_iff.mp h) u (p.mem_iff.mp h')
  inj := (p.map ix).nodup_iff.mpr H.inj
  rest := fun i hi hn v h => H.rest i hi (fun q => hn ((p.map ix).mem_iff.mpr q)) v (p.mem_iff.mp h)

theorem HI.enodup (H : HI κ j n o e ix l) : (l.map e).Nodup := by
  have h := H.inj
  unfold List.Nodup at *
  rw [List.pairwise_map] at *
  refine List.Pairwise.imp_of_mem (fun {a b} ha hb hne he => hne ?_) h
  have h1 := H.mono a ha b hb
  have h2 := H.mono b hb a ha
  rw [he] at h1 h2
  lia

theorem HI.so_iff (H : HI κ j n o e ix l) {v u : α} (hv : v ∈ l) (hu : u ∈ l) : plt (e v) (e u) = true ↔ so κ (ix v) (ix u) := by
  rw [plt_iff, H.ky v hv, H.ky u hu, ← H.mono v hv u hu]
  rfl

theorem HI.start (hl : l.length = n) (h : ∀ (i : Nat) v, l[i]? = some v → e v = (κ i, (i : Int)) ∧ ix v = i) : HI κ n n n e ix l := by
  have at_ : ∀ v ∈ l, ∃ i : Nat, i < n ∧ e v = (κ i, (i : Int)) ∧ ix v = i := fun v hv => by
    obtain ⟨i, hi, rfl⟩ := List.getElem_of_mem hv
    obtain ⟨h1, h2⟩ := h i _ (List.getElem?_eq_getElem hi)
    exact ⟨i, by lia, h1, h2⟩
  have hm : l.map ix = List.range n := by
    apply List.ext_getElem?
    intro i
    by_cases hi : i < n
    · rw [List.getElem?_map, List.getElem?_eq_getElem (by lia), List.getElem?_eq_getElem (by simpa using hi)]
      simp only [Option.map_some, List.getElem_range, Option.some.injEq]
      exact (h i _ (List.getElem?_eq_getElem (by lia))).2
    · rw [List.getElem?_eq_none (by rw [List.length_map]; lia), List.getElem?_eq_none (by simpa using hi)]
  refine ⟨hl, fun v hv => ?_, fun v hv => ?_, fun v hv => ?_, fun v hv => ?_, fun v hv u hu => ?_, by rw [hm]; exact List.nodup_range, fun i hi hn => ?_⟩
  · obtain ⟨i, _, h1, h2⟩ := at_ v hv; rw [h1, h2]
  · obtain ⟨i, _, h1, h2⟩ := at_ v hv; lia
  · obtain ⟨i, _, h1, h2⟩ := at_ v hv; rw [h1]; show (i : Int) < n; lia
  · obtain ⟨i, _, h1, h2⟩ := at_ v hv; rw [h1]; show (0 : Int) ≤ i; lia
  · obtain ⟨i, _, h1, h2⟩ := at_ v hv
    obtain ⟨i', _, h1', h2'⟩ := at_ u hu
    rw [h1, h2, h1', h2']; show i < i' ↔ (i : Int) < i'; lia
  · exact absurd (by rw [hm]; exact List.mem_range.mpr hi) hn

theorem HI.root (_H : HI κ j n o e ix l) (hp : Hp (fun a b => plt (e b) (e a)) l 0) {v0 : α} (h0 : l[0]? = some v0) {v : α} (hv : v ∈ l) : plt (e v0) (e v) = false := by
  obtain ⟨i, hi, rfl⟩ := List.getElem_of_mem hv
  exact Hp.root (plt_ord' e) hp h0 i _ (List.getElem?_eq_getElem hi)

theorem HI.skip (H : HI κ j n o e ix l) (hp : Hp (fun a b => plt (e b) (e a)) l 0) {v0 : α} (h0 : l[0]? = some v0) (h : ¬ κ j < (e v0).1) : HI κ (j + 1) n o e ix l where
  len := H.len
  ky := H.ky
  low := fun v hv => Nat.lt_succ_of_lt (H.low v hv)
  ord := H.ord
  pos := H.pos
  mono := H.mono
  inj := H.inj
  rest := fun i hi hn v hv => by
    by_cases hij : i = j
    · subst hij
      have h1 := H.root hp h0 hv
      have h2 := H.ky v hv
      have h3 := H.low v hv
      rw [plt_ff] at h1
      unfold so
      lia
    · exact H.rest i (by lia) hn v hv

theorem HI.replace (H : HI κ j n o e ix l) (hp : Hp (fun a b => plt (e b) (e a)) l 0) {v0 x : α} (h0 : l[0]? = some v0) (hx : e x = (κ j, o)) (hix : ix x = j) (ho : 0 ≤ o) (h : κ j < (e v0).1) :
    HI κ (j + 1) n (o + 1) e ix (replaceP (fun a b => plt (e b) (e a)) l x) := by
  obtain ⟨r, rfl⟩ : ∃ r, l = v0 :: r := by
    cases l with
    | nil => cases h0
    | cons a r => cases h0; exact ⟨r, rfl⟩
  refine HI.perm (l := x :: r) ?_ (replaceP_perm _ _)
  have hr : ∀ v ∈ r, v ∈ v0 :: r := fun v hv => .tail _ hv
  have hinj := H.inj
  rw [List.map_cons, List.nodup_cons] at hinj
  refine ⟨H.len, fun v hv => ?_, fun v hv => ?_, fun v hv => ?_, fun v hv => ?_, fun v hv u hu => ?_, ?_, fun i hi hn v hv => ?_⟩
  · rcases List.mem_cons.mp hv with rfl | hv
    · rw [hx, hix]
    · exact H.ky v (hr v hv)
  · rcases List.mem_cons.mp hv with rfl | hv
    · lia
    · have := H.low v (hr v hv); lia
  · rcases List.mem_cons.mp hv with rfl | hv
    · rw [hx]; show o < o + 1; lia
    · have := H.ord v (hr v hv); lia
  · rcases List.mem_cons.mp hv with rfl | hv
    · rw [hx]; exact ho
    · exact H.pos v (hr v hv)
  · rcases List.mem_cons.mp hv with e1 | hv1
    · rcases List.mem_cons.mp hu with e2 | hu1
      · rw [e1, e2]; lia
      · have h1 := H.low u (hr u hu1)
        have h2 := H.ord u (hr u hu1)
        rw [e1, hx, hix]
        show j < ix u ↔ o < (e u).2
        lia
    · rcases List.mem_cons.mp hu with e2 | hu1
      · have h1 := H.low v (hr v hv1)
        have h2 := H.ord v (hr v hv1)
        rw [e2, hx, hix]
        show ix v < j ↔ (e v).2 < o
        lia
      · exact H.mono v (hr v hv1) u (hr u hu1)
  · rw [List.map_cons, List.nodup_cons]
    refine ⟨fun q => ?_, hinj.2⟩
    obtain ⟨v, hv, e1⟩ := List.mem_map.mp q
    have := H.low v (hr v hv)
    lia
  · have hij : i ≠ j := fun q => hn (by rw [q, ← hix, List.map_cons]; exact .head _)
    have hnr : i ∉ r.map ix := fun q => hn (.tail _ q)
    have k0 := H.ky v0 (.head _)
    by_cases hi0 : i = ix v0
    · subst hi0
      rcases List.mem_cons.mp hv with rfl | hv
      · rw [hix]; exact .inl (by lia)
      · have h1 := H.root hp h0 (hr v hv)
        have hne : ix v ≠ ix v0 := fun q => hinj.1 (by rw [← q]; exact List.mem_map.mpr ⟨v, hv, rfl⟩)
        rcases so_total (κ := κ) hne with q | q
        · exact q
        · rw [← H.so_iff (.head _) (hr v hv), h1] at q; cases q
    · have hrest := H.rest i (by lia) (by rw [List.map_cons]; exact fun q => by rcases List.mem_cons.mp q with q | q; exact hi0 q; exact hnr q)
      rcases List.mem_cons.mp hv with rfl | hv
      · have := hrest v0 (.head _)
        rw [hix]
        refine .inl ?_
        unfold so at this
        lia
      · exact hrest v (hr v hv)

theorem first_unique {N : Nat} {p q : List Nat} (hl : p.length ≤ N) (low : ∀ i ∈ p, i < N) (hs : p.Pairwise (so κ)) (rest : ∀ i, i < N → i ∉ p → ∀ h ∈ p, so κ h i) (S : StSort κ N q) : p = q.take p.length := by
  have hnd : p.Nodup := by
    unfold List.Nodup
    exact hs.imp (S := fun a b => a ≠ b) fun {a b} h (e : a = b) => so_irrefl b (by rw [e] at h; exact h)
  have hqs := S.sorted
  rw [← List.take_append_drop p.length q] at hqs
  obtain ⟨ht, hd, htd⟩ := List.pairwise_append.mp hqs
  have htn : (q.take p.length).Nodup := S.nodup.sublist (List.take_sublist _ _)
  have htl : (q.take p.length).length = p.length := by rw [List.length_take, S.len]; lia
  have sub : ∀ h ∈ p, h ∈ q.take p.length := fun h hp => by
    by_cases hm : h ∈ q.take p.length
    · exact hm
    · exfalso
      have hdr : h ∈ q.drop p.length := by
        have := S.mem (low h hp)
        rw [← List.take_append_drop p.length q] at this
        exact (List.mem_append.mp this).resolve_left hm
      obtain ⟨i, hi, hip⟩ : ∃ i, i ∈ q.take p.length ∧ i ∉ p := by
        refine Classical.byContradiction fun hno => ?_
        have hsub : ∀ i ∈ q.take p.length, i ∈ p := fun i hi => Classical.byContradiction fun z => hno ⟨i, hi, z⟩
        have h1 : (h :: q.take p.length).Nodup := List.nodup_cons.mpr ⟨hm, htn⟩
        have h2 := List.Nodup.length_le_of_subset h1 (l₂ := p) fun i hi => by
          rcases List.mem_cons.mp hi with rfl | hi
          · exact hp
          · exact hsub i hi
        rw [List.length_cons, htl] at h2
        lia
      exact so_asymm (htd i hi h hdr) (rest i (S.low i (List.mem_of_mem_take hi)) hip h hp)
  have sup : ∀ h ∈ q.take p.length, h ∈ p := fun h hp => by
    by_cases hm : h ∈ p
    · exact hm
    · exfalso
      have h1 : (h :: p).Nodup := List.nodup_cons.mpr ⟨hm, hnd⟩
      have h2 := List.Nodup.length_le_of_subset h1 (l₂ := q.take p.length) fun i hi => by
        rcases List.mem_cons.mp hi with rfl | hi
        · exact hp
        · exact sub i hi
      rw [List.length_cons, htl] at h2
      lia
  exact sorted_unique (fun _ _ h => so_asymm h) hs ht (fun x => ⟨sub x, sup x⟩) hnd htn

theorem HI.finish {N : Nat} {d : α} (H : HI κ N n o e ix l) (hn : n ≤ N) (hb : ∀ v ∈ l, -4096 < (e v).2 ∧ (e v).2 < 4096) {st q : List Nat} (hst : StSort (fun a => enc (e (l.getD a d))) n st) (S : StSort κ N q) :
    (st.map fun a => l.getD a d).map ix = q.take n := by
  have hm : ∀ a, a < n → l.getD a d ∈ l := fun a ha => by
    rw [List.getD_eq_getElem?_getD, List.getElem?_eq_getElem (by rw [H.len]; exact ha)]; exact List.getElem_mem _
  have hlen : ((st.map fun a => l.getD a d).map ix).length = n := by rw [List.length_map, List.length_map, hst.len]
  have hmem : ∀ i, i ∈ (st.map fun a => l.getD a d).map ix ↔ i ∈ l.map ix := fun i => by
    constructor
    · intro h
      obtain ⟨v, hv, rfl⟩ := List.mem_map.mp h
      obtain ⟨a, ha, rfl⟩ := List.mem_map.mp hv
      exact List.mem_map.mpr ⟨_, hm a (hst.low a ha), rfl⟩
    · intro h
      obtain ⟨v, hv, rfl⟩ := List.mem_map.mp h
      obtain ⟨a, ha, e1⟩ := List.getElem_of_mem hv
      refine List.mem_map.mpr ⟨v, List.mem_map.mpr ⟨a, hst.mem (by rw [← H.len]; exact ha), ?_⟩, rfl⟩
      rw [List.getD_eq_getElem?_getD, List.getElem?_eq_getElem ha, e1]; rfl
  have := first_unique (κ := κ) (N := N) (p := (st.map fun a => l.getD a d).map ix) (by rw [hlen]; exact hn) (fun i hi => ?_) ?_ (fun i hi hno h hh => ?_) S
  · rw [hlen] at this; exact this
  · obtain ⟨v, hv, rfl⟩ := List.mem_map.mp ((hmem i).mp hi)
    exact H.low v hv
  · rw [List.pairwise_map, List.pairwise_map]
    refine List.Pairwise.imp_of_mem (fun {a b} ha hb' hab => ?_) hst.sorted
    have ma := hm a (hst.low a ha)
    have mb := hm b (hst.low b hb')
    rw [← H.so_iff ma mb, ← enc_lt (hb _ ma) (hb _ mb), decide_eq_true_eq]
    rcases hab with q | ⟨q, q2⟩
    · exact q
    · exfalso
      have hab : e (l.getD a d) = e (l.getD b d) := by
        have b1 := hb _ ma
        have b2 := hb _ mb
        have q' : enc (e (l.getD a d)) = enc (e (l.getD b d)) := q
        unfold enc at q'
        refine Prod.ext ?_ ?_ <;> lia
      have ga : l[a]? = some (l.getD a d) := by rw [List.getD_eq_getElem?_getD, List.getElem?_eq_getElem (by rw [H.len]; exact hst.low a ha)]; rfl
      have gb : l[b]? = some (l.getD b d) := by rw [List.getD_eq_getElem?_getD, List.getElem?_eq_getElem (by rw [H.len]; exact hst.low b hb')]; rfl
      exact nodup_ne H.enodup ga gb (by lia) hab
  · obtain ⟨v, hv, rfl⟩ := List.mem_map.mp ((hmem h).mp hh)
    exact H.rest i hi (fun z => hno ((hmem i).mpr z)) v hv
end
end Mine
end
section
open PySem PySem.W PyProof.Rows PySem.Calls
set_option maxRecDepth 100000
namespace Mine

theorem Keep.drop {s s₂ s' : Shared} {wr : List Addr} (k : Keep [] s s₂) (k' : Keep wr s₂ s') (h : ∀ a ∈ wr, s.heap.get? a = none) : Keep [] s s' :=
  ⟨by obtain ⟨h1, t1, q1⟩ := k.same; obtain ⟨h2, t2, q2⟩ := k'.same; rw [q2, q1]; exact ⟨_, _, rfl⟩, fun b o e _ => k'.keep b o (k.keep b o e (fun q => nomatch q)) fun q => by rw [h b q] at e; cases e⟩
theorem Keep.none {X : List Addr} {s s' : Shared} {b : Addr} (k : Keep X s s') (hb : s'.heap.get? b = none) (hX : b ∉ X) : s.heap.get? b = none := by
  cases e : s.heap.get? b with
  | none => rfl
  | some o => rw [k.keep b o e hX] at hb; cases hb
theorem Stays.none {G h : Heap} {b : Addr} (st : Stays G h) (hb : h.get? b = none) : G.get? b = none := by
  cases e : G.get? b with
  | none => rfl
  | some o => rw [st b o e] at hb; cases hb
theorem IsTup.kp0 {s s' : Shared} {a : Addr} {its : Array Value} (k : Keep [] s s') (x : IsTup s.heap a its) : IsTup s'.heap a its := IsTup.kp k (fun q => nomatch q) x

theorem pair_plain {h : Heap} {T : Addr} {a b : Value} (x : IsPair h T a b) : ∃ o, h.get? T = some o ∧ plainObj o := ⟨_, x, (fun _ _ q => nomatch q), (fun _ q => nomatch q)⟩
theorem zip_plain {h : Heap} {z TI TO : Addr} {f : Value} (x : IsZip h z TI TO f) : ∃ o, h.get? z = some o ∧ plainObj o := ⟨_, x, (fun _ _ q => nomatch q), (fun _ q => nomatch q)⟩

/-- places told apart -/
theorem pickFun {l : List Value} (inj : ∀ (i j : Nat) y, l[i]? = some y → l[j]? = some y → i = j) : ∃ ix : Value → Nat, ∀ (i : Nat) y, l[i]? = some y → ix y = i := by
  classical
  refine ⟨fun y => if h : ∃ i : Nat, l[i]? = some y then h.choose else 0, fun i y hy => ?_⟩
  have h : ∃ i : Nat, l[i]? = some y := ⟨i, hy⟩
  show (if h : ∃ i : Nat, l[i]? = some y then h.choose else 0) = i
  rw [dif_pos h]
  exact inj _ _ y h.choose_spec hy

theorem smallN (n : Nat) (hn : n < 2 ^ 20) : Builtin.Range.small 0 (n : Int) 1 = true := small_one (by decide) (by decide) (by lia) (by lia)
theorem rangeSizeN (n : Nat) : Builtin.Range.rangeSize 0 (-(n : Int)) (-1) = n := by
  unfold Builtin.Range.rangeSize
  simp only [show ¬ ((-1 : Int) > 0) by decide, if_false]
  split
  · simp only [Int.neg_neg, Int.ediv_one]; lia
  · lia
theorem smallNeg (n : Nat) (hn : n < 2 ^ 20) : Builtin.Range.small 0 (-(n : Int)) (-1) = true := by
  unfold Builtin.Range.small
  rw [rangeSizeN]
  simp only [Builtin.Range.rangeFitsLong, Bool.and_eq_true, Bool.or_eq_true, decide_eq_true_eq, beq_iff_eq, show ¬ ((-1 : Int) > 0) by decide, if_false]
  lia

section
variable {w : World} {prog : Program} {mg mb : Str → Option Value} {G : Heap} {A : Around} {E : Value → Shared → Prop} {S : List Addr} {s0 s : Shared} {env : Env} {m cm : Str → Option Value} {news : List (Addr × Obj)}

theorem newT {vs : List Value} {Q : Value → Shared → Prop} (hz : vs.length < 2 ^ 20) (h : ∀ D s', Keep [] s s' → IsTup s'.heap D vs.toArray → s.heap.get? D = none → Q (.ref D) s') : wpAny (model prog w) A (newTuple vs) Q E s :=
  wpAny_newTuple (h _ _ (keep_push (t := s.toks)) ⟨_, Heap.get?_push_size _ rfl, rfl, 0, rfl⟩ (new_size _)) (by rw [sizeLine_eq]; lia)

theorem range3 {n : Nat} {b : Int} {t u v : Tok} (hb : b = -(n : Int)) {Q : Value → Shared → Prop} (h : ∀ r s', Keep [] s s' → IsRange s'.heap r 0 (-(n : Int)) (-1) t u v → s.heap.get? r = none → Q (.ref r) s') :
    wpAny (model prog w) A (call (.type "range") [.int 0 t, .int b u, .int (-1) v]) Q E s := by
  subst hb
  exact call_range_3 (by decide) (h _ _ (keep_push (t := s.toks)) (IsRange.new ..) (new_size _)) (.inl (PyProof.noPylong_small (by lia)))

/-- x += value, x a local int -/
theorem Cx.augAdd (c : Cx G S s0 env m cm news s) {x : Str} {p' p : Pos} {kk : Nat} {cp : Pos} {a b : Int} {t : Tok} {Q : Flow → Shared → Prop} (hv : m x = some (.int a t))
    (h : ∀ t s', Cx G S s0 env (upd m x (.int (a + b) t)) cm news s' → Heap.SameBut env.locals s.heap s'.heap → Q .next s')
    (hk : env.scope.kind = .function := by rfl) (hl : env.kindOf x = some .local := by rfl) (hp : (env.scope.kind == .class || (env.scope.kind == .module && env.locals != env.globals)) = false := by rfl) :
    wpAny (model prog w) A (exec (.AugAssign (.Name x p') .Add (.Constant (.int b) kk cp) p) env) Q E s :=
  wpAny_AugAssign_Name (wpAny_loadName_local hk hl c.ns hv (eInt fun _ u => PySem.AutoIntOps.iadd_0 ((c.tk (t := u)).tk.sto (fun s' c' e' => h _ s' c' e') hl hp)))
theorem Cx.augSub (c : Cx G S s0 env m cm news s) {x : Str} {p' p : Pos} {kk : Nat} {cp : Pos} {a b : Int} {t : Tok} {Q : Flow → Shared → Prop} (hv : m x = some (.int a t))
    (h : ∀ t s', Cx G S s0 env (upd m x (.int (a - b) t)) cm news s' → Heap.SameBut env.locals s.heap s'.heap → Q .next s')
    (hk : env.scope.kind = .function := by rfl) (hl : env.kindOf x = some .local := by rfl) (hp : (env.scope.kind == .class || (env.scope.kind == .module && env.locals != env.globals)) = false := by rfl) :
    wpAny (model prog w) A (exec (.AugAssign (.Name x p') .Sub (.Constant (.int b) kk cp) p) env) Q E s :=
  wpAny_AugAssign_Name (wpAny_loadName_local hk hl c.ns hv (eInt fun _ u => PySem.AutoIntOps.isub_0 ((c.tk (t := u)).tk.sto (fun s' c' e' => h _ s' c' e') hl hp)))

/-- a turn of [(key(elem), i, elem) for i, elem in ..] -/
theorem zipTurn {cenv : Env} {wr : List Addr} {s₂ : Shared} {a f T : Addr} {v : Value} {x kv : Int} {t : Tok} {PC : (Str → Option Value) → Prop} {q1 q2 q3 p1 p2 p3 p4 p5 p6 : Pos} {k k' : Nat} {R : Value → Heap → Prop}
    (c : Cx G wr s₂ cenv m cm [] s) (hh : A.handled = none) (hT : s.heap.IsTuple T #[.int x t, v]) (ha : cenv.cells.lookup ("key" : Str) = some a) (hx : cm "key" = some (.ref f)) (hpc : PC cm)
    (hfn : ∀ s', Keep wr s₂ s' → ∃ o fd, s'.heap.get? f = some o ∧ o.data = .func fd)
    (run : ∀ s', Keep wr s₂ s' → ∀ (Q' : Value → Shared → Prop), (∀ t s'', Keep [] s' s'' → Q' (.int kv t) s'') → wpAny (model prog w) A (call (.ref f) [v]) Q' (fun _ _ => False) s')
    (hR : ∀ b t0 t1 h, IsTup h b (List.toArray [.int kv t0, .int x t1, v]) → R (.ref b) h)
    (k1 : cenv.kindOf "i" = some .local := by rfl) (k2 : cenv.kindOf "elem" = some .local := by rfl) (k3 : cenv.kindOf "key" = some .cell := by rfl) (hk : cenv.scope.kind = .function := by rfl)
    (hpp : (cenv.scope.kind == .class || (cenv.scope.kind == .module && cenv.locals != cenv.globals)) = false := by rfl) :
    wpAny (model prog w) A (assign (.Tuple [.Name "i" q1, .Name "elem" q2] k q3) cenv (.ref T)) (TurnEv prog w A G wr s₂ cenv PC (.Tuple [.Call (.Name "key" p1) [.Name "elem" p2] [] p3, .Name "i" p4, .Name "elem" p5] k' p6) R s) NoE s := by
  refine c.unpack2 hh hT (fun s' c' kk => ?_) k1 k2 hpp
  obtain ⟨o, fd, ho, hd⟩ := hfn s' c'.kp
  refine Tuple_ (arg (callF (f := f) (c'.ldC ha hx (hk := hk) (hl := k3)) (arg (c'.ld (by rfl) (arg0 ⟨⟨ho, hd⟩, run s' c'.kp _ fun t5 s₅ k5 => ?_⟩) hk k2))))
  have c5 := c'.keep0 k5
  refine arg (c5.ld (by rfl) (arg (c5.ld (by rfl) (arg0 (newT (by simp) fun D s₆ k6 hD nD => ?_)) hk k2)) hk k1)
  have c6 := c5.keep0 k6
  have kX : Keep [cenv.locals] s s₆ := (kk.trans (k5.mono fun _ q => nomatch q)).trans (k6.mono fun _ q => nomatch q)
  refine ⟨⟨_, _, _, c6, hpc, kX, fun _ => ownL⟩, hR _ _ _ _ hD, .inl fun b e => ?_⟩
  cases e
  refine ⟨?_, tup_plain hD⟩
  refine (kk.trans (k5.mono fun _ q => nomatch q)).none nD fun q => ?_
  obtain ⟨oL, _, _, hL, _⟩ := c5.ns
  rw [List.mem_singleton.mp q, hL] at nD; cases nD

/-- zip of a range and of a list's iterator, as the source -/
theorem srcZ (hh : A.handled = none) {s₁ s₂ : Shared} {z TI TO i1 I R : Addr} {rows : List Value} {n : Nat} {x step : Int} (hz : IsZip s₂.heap z TI TO .none) (hTI : IsPair s₂.heap TI (.ref i1) (.ref I)) (hTO : IsPair s₂.heap TO .none .none) (h1 : IsRangeIter s₂.heap i1 x n step)
    (hI : s₂.heap.IsListIter I R 0) (hR : PL s₂.heap R rows) (hne : TI ≠ TO) (hn : n ≤ rows.length) (hsm : n < 2 ^ 20) (k1 : Keep [] s0 s₁) (nz : s₁.heap.get? z = none) (nTO : s₁.heap.get? TO = none) (ni1 : s₁.heap.get? i1 = none) (nI : s0.heap.get? I = none) :
    SrcF prog w A s0 s₂ z [z, TI, TO, i1, I, R] [z, TO, i1, I] n
      (fun i vals => ∃ t y, rows.toArray[i]? = some y ∧ vals = #[.int (x + i * step) t, y])
      (ZSt z TI TO i1 I R rows.toArray x step n) (ZMid z TI TO i1 I R rows.toArray x step n)
      (fun h => h.IsListIter I R n) := by
  have dd : ∀ {a b : Addr} {o o' : Obj}, s₂.heap.get? a = some o → s₂.heap.get? b = some o' → o.cls ≠ o'.cls → a ≠ b := fun ha hb hc e => by
    subst e; rw [ha] at hb; cases hb; exact hc rfl
  obtain ⟨oI, hoI, hcI, hdI⟩ := id hI
  obtain ⟨nR, hoR⟩ := id hR
  have cI : ∀ {b : Addr} {o : Obj} {n : String}, s₂.heap.get? b = some o → o.cls = .type n → n ≠ "list_iterator" → b ≠ I := fun hb hc hn => dd hb hoI (by rw [hc, hcI]; intro e; exact hn (by injection e))
  have cR : ∀ {b : Addr} {o : Obj} {n : String}, s₂.heap.get? b = some o → o.cls = .type n → n ≠ "list" → R ≠ b := fun hb hc hn => dd hoR hb (by rw [hc]; intro e; exact hn (by injection e with e; exact e.symm))
  have D : ZipApart z TI TO i1 I R R := by
    have n1 : Value.type "tuple" ≠ Value.type "zip" := by decide
    have n2 : Value.type "range_iterator" ≠ Value.type "zip" := by decide
    have n3 : Value.type "tuple" ≠ Value.type "range_iterator" := by decide
    refine ⟨dd hTI hz n1, dd hTO hz n1, dd h1 hz n2, (cI hz rfl (by decide)).symm, hne, dd hTI h1 n3, cI hTI rfl (by decide), dd hTO h1 n3, cI hTO rfl (by decide), cI h1 rfl (by decide),
      cR hz rfl (by decide), cR hTO rfl (by decide), cR h1 rfl (by decide), cR hoI hcI (by decide), cR hz rfl (by decide), cR hTO rfl (by decide), cR h1 rfl (by decide), cR hoI hcI (by decide)⟩
  have pl : ∀ h : Heap, (∃ f, IsZip h z TI TO f) → IsPair h TI (.ref i1) (.ref I) → (∃ a b, IsPair h TO a b) → (∃ a b c, IsRangeIter h i1 a b c) → (∃ i, h.IsListIter I R i) → h.IsList R rows.toArray → ∀ b ∈ [z, TI, TO, i1, I, R], ∃ o, h.get? b = some o ∧ plainObj o := by
    rintro h ⟨_, q1⟩ q2 ⟨_, _, q3⟩ ⟨_, _, _, q4⟩ ⟨_, q5⟩ q6 b hb
    rcases List.mem_cons.mp hb with rfl | hb
    · exact zip_plain q1
    rcases List.mem_cons.mp hb with rfl | hb
    · exact pair_plain q2
    rcases List.mem_cons.mp hb with rfl | hb
    · exact pair_plain q3
    rcases List.mem_cons.mp hb with rfl | hb
    · exact rangeIter_plain q4
    rcases List.mem_cons.mp hb with rfl | hb
    · exact listIter_plain q5
    · rw [List.mem_singleton.mp hb]; exact isList_plain q6
  have pl2 := pl s₂.heap ⟨_, hz⟩ hTI ⟨_, _, hTO⟩ ⟨_, _, _, h1⟩ ⟨_, hI⟩ hR.isList
  have hs : ∀ a ∈ [z, TO, i1, I], a ∈ [z, TI, TO, i1, I, R] := fun a ha => zsub ha
  refine ⟨WalksF.zipR hh z TI TO i1 I R D rows.toArray n x step (by simpa using hn), ⟨hz, hTI, ⟨_, _, hTO⟩, by simpa using h1, hI, hR.isList⟩, fun a ha => ⟨?_, pl2 a (hs a ha)⟩, pl2, ?_, ?_, hsm⟩
  · rcases List.mem_cons.mp ha with rfl | ha
    · exact k1.none nz (fun q => nomatch q)
    rcases List.mem_cons.mp ha with rfl | ha
    · exact k1.none nTO (fun q => nomatch q)
    rcases List.mem_cons.mp ha with rfl | ha
    · exact k1.none ni1 (fun q => nomatch q)
    · rw [List.mem_singleton.mp ha]; exact nI
  · rintro i h ⟨q1, q2, q3, q4, q5, q6⟩ a ha
    exact pl h ⟨_, q1⟩ q2 q3 ⟨_, _, _, q4⟩ ⟨_, q5⟩ q6 a ha
  · rintro i T h ⟨q1, q2, q3, q4, q5, q6, _⟩ a ha
    obtain ⟨o, ho, _⟩ := pl h ⟨_, q1⟩ q2 q3 ⟨_, _, _, q4⟩ ⟨_, q5⟩ q6 a (hs a ha)
    exact ⟨o, ho⟩
end
end Mine
end
section
open PySem PySem.W PyProof.Rows PySem.Calls
set_option maxRecDepth 100000
namespace Mine

theorem StSort.congr {κ κ' : Nat → Int} {N : Nat} {p : List Nat} (S : StSort κ N p) (h : ∀ i, i < N → κ i = κ' i) : StSort κ' N p :=
  ⟨S.len, S.low, List.Pairwise.imp_of_mem (fun {a b} ha hb q => by
    have h1 := h a (S.low a ha)
    have h2 := h b (S.low b hb)
    unfold so at *
    rw [← h1, ← h2]; exact q) S.sorted⟩

theorem HI.congr {α : Type} {κ : Nat → Int} {j n : Nat} {o : Int} {e e' : α → Int × Int} {ix ix' : α → Nat} {l : List α} (H : HI κ j n o e ix l) (h1 : ∀ v ∈ l, e' v = e v) (h2 : ∀ v ∈ l, ix' v = ix v) : HI κ j n o e' ix' l := by
  have hm : l.map ix' = l.map ix := List.map_congr_left h2
  exact ⟨H.len, fun v hv => by rw [h1 v hv, h2 v hv]; exact H.ky v hv, fun v hv => by rw [h2 v hv]; exact H.low v hv, fun v hv => by rw [h1 v hv]; exact H.ord v hv, fun v hv => by rw [h1 v hv]; exact H.pos v hv,
    fun v hv u hu => by rw [h1 v hv, h2 v hv, h1 u hu, h2 u hu]; exact H.mono v hv u hu, by rw [hm]; exact H.inj, fun i hi hn v hv => by rw [h2 v hv]; exact H.rest i hi (by rw [← hm]; exact hn) v hv⟩
theorem Hp.congr {α : Type} {e e' : α → Int × Int} {l : List α} (H : Hp (fun a b => plt (e b) (e a)) l 0) (h1 : ∀ v ∈ l, e' v = e v) : Hp (fun a b => plt (e' b) (e' a)) l 0 :=
  fun i a b hi hk ha hb => by
    have := H i a b hi hk ha hb
    show plt (e' a) (e' b) = false
    rw [h1 a (List.mem_of_getElem? ha), h1 b (List.mem_of_getElem? hb)]
    exact this

/-- plain things stay -/
noncomputable def Pl (h h' : Heap) : Prop := ∀ b o, h.get? b = some o → plainObj o → h'.get? b = some o
theorem Pl.trans {a b c : Heap} (x : Pl a b) (y : Pl b c) : Pl a c := fun i o e p => y i o (x i o e p) p
theorem Keep.toPl {s s' : Shared} (k : Keep [] s s') : Pl s.heap s'.heap := fun b o e _ => k.keep b o e (fun q => nomatch q)
theorem PL.pl {h h' : Heap} {a : Addr} {l : List Value} (x : PL h a l) (p : Pl h h') : PL h' a l := by
  obtain ⟨n, e⟩ := x; exact ⟨n, p _ _ e (listO_plain _ _)⟩
theorem IterL.pl {h h' : Heap} {I l : Addr} {i : Nat} (x : h.IsListIter I l i) (p : Pl h h') : h'.IsListIter I l i := by
  obtain ⟨o, ho, hp⟩ := listIter_plain x
  obtain ⟨o', ho', r⟩ := x
  rw [ho] at ho'; cases ho'
  exact ⟨o, p _ _ ho hp, r⟩
theorem IsTup.pl {h h' : Heap} {a : Addr} {its : Array Value} (x : IsTup h a its) (p : Pl h h') : IsTup h' a its := by
  obtain ⟨o, ho, hp⟩ := tup_plain x
  obtain ⟨o', ho', r⟩ := x
  rw [ho] at ho'; cases ho'
  exact ⟨o, p _ _ ho hp, r⟩
theorem TI.pl {h h' : Heap} {v : Value} {ns : List Int} (x : TI h v ns) (p : Pl h h') : TI h' v ns := by
  obtain ⟨a, vs, e, h1, h2⟩ := x; exact ⟨a, vs, e, IsTup.pl h1 p, h2⟩

section
variable {G : Heap} {S : List Addr} {s0 s : Shared} {env : Env} {m cm : Str → Option Value} {news : List (Addr × Obj)}
noncomputable abbrev Cx.theCm (_ : Cx G S s0 env m cm news s) : Str → Option Value := cm
theorem Cx.plS (c : Cx G S s0 env m cm news s) {h' : Heap} (hs : Heap.SameBut env.locals s.heap h') : Pl s.heap h' := fun _ _ e p => sameBut_keep hs (c.neL e p) e
theorem Cx.plL (c : Cx G S s0 env m cm news s) {s' : Shared} (k : Keep [env.locals] s s') : Pl s.heap s'.heap := fun _ _ e p => c.own k (fun _ => ownL) e p
end

theorem truthyL {w : World} {prog : Program} {A : Around} {E : Value → Shared → Prop} {s : Shared} {a : Addr} {l : List Value} {Q : Bool → Shared → Prop} (hl : PL s.heap a l) (hz : l.length < 2 ^ 20) (h : ∀ u, Q (decide (l ≠ [])) (tk s u)) : wpAny (model prog w) A (truthy (.ref a)) Q E s := by
  refine wpAny_truthy_list hl.isList (by rw [List.size_toArray]; lia) ?_
  have e : decide (l ≠ []) = (l.toArray.size != 0) := by cases l <;> simp
  have := h (s.toks + 1)
  first | (rw [e] at this; exact this) | (rw [e] at h; exact h _)

theorem itemV {w : World} {prog : Program} {A : Around} {E : Value → Shared → Prop} {s : Shared} {value slice : Expr} {v : Value} {a : Addr} {l : List Value} {k : Int} {j : Nat} {x : Value} {t : Tok} {Q : Value → Shared → Prop} (e : v = .ref a) (hl : IsTup s.heap a l.toArray) (hk : k = j) (hx : l[j]? = some x) (hz : l.length < 2 ^ 20) (h : Q x s)
    (hs : ∀ a, subscripted slice false (.ref a) (.int k t) = operate [.ref a, .int k t] (getItem (.ref a) (.int k t)) := by intro _; rfl) :
    wpAny (model prog w) A (subscriptTail value slice v (.int k t)) Q E s := by
  subst e
  exact itemT hl hk hx hz h (hs a)

theorem Cx.unpack3V {w : World} {prog : Program} {A : Around} {E : Value → Shared → Prop} {G : Heap} {S : List Addr} {s0 s : Shared} {env : Env} {m cm : Str → Option Value} (c : Cx G S s0 env m cm [] s) {x y z : Str} {px py pz pos : Pos} {k : Nat} {t : Addr} {vv v u r : Value} {Q : Unit → Shared → Prop} (e : vv = .ref t) (hh : A.handled = none) (ht : IsTup s.heap t (List.toArray [v, u, r]))
    (h : ∀ s', Cx G S s0 env (upd (upd (upd m x v) y u) z r) cm [] s' → Keep [env.locals] s s' → Q () s')
    (hx : env.kindOf x = some .local := by rfl) (hy : env.kindOf y = some .local := by rfl) (hzz : env.kindOf z = some .local := by rfl) (hp : (env.scope.kind == .class || (env.scope.kind == .module && env.locals != env.globals)) = false := by rfl) :
    wpAny (model prog w) A (assign (.Tuple [.Name x px, .Name y py, .Name z pz] k pos) env vv) Q E s := by
  subst e
  exact c.unpack3 hh ht h hx hy hzz hp

/-- the heap at D, the iterator at I, the tuples -/
structure Held (h : Heap) (D I R : Addr) (j : Nat) (row : Nat → Value) (l : List Value) (κ : Value → Int × Int) (ix : Value → Nat) : Prop where
  pl : PL h D l
  it : h.IsListIter I R j
  tup : ∀ v ∈ l, ∃ a t0 t1, v = .ref a ∧ IsTup h a (List.toArray [.int (κ v).1 t0, .int (κ v).2 t1, row (ix v)])
theorem Held.mv {h h' : Heap} {D I R : Addr} {j : Nat} {row : Nat → Value} {l : List Value} {κ : Value → Int × Int} {ix : Value → Nat} (H : Held h D I R j row l κ ix) (p : Pl h h') : Held h' D I R j row l κ ix :=
  ⟨H.pl.pl p, IterL.pl H.it p, fun v hv => by obtain ⟨a, t0, t1, e, ht⟩ := H.tup v hv; exact ⟨a, t0, t1, e, IsTup.pl ht p⟩⟩
theorem Held.tupI {h : Heap} {D I R : Addr} {j : Nat} {row : Nat → Value} {l : List Value} {κ : Value → Int × Int} {ix : Value → Nat} (H : Held h D I R j row l κ ix) {v : Value} (hv : v ∈ l) : TupI h v (κ v) := by
  obtain ⟨a, t0, t1, e, ht⟩ := H.tup v hv; exact ⟨a, t0, t1, _, e, ht⟩
/-- the heap's list is moved -/
theorem Held.turn {s s' : Shared} {D I R : Addr} {j : Nat} {row : Nat → Value} {l l' : List Value} {κ₀ κ : Value → Int × Int} {ix₀ ix : Value → Nat} (H : Held s.heap D I R j row l κ₀ ix₀) (k : Keep [D] s s') (hl : PL s'.heap D l')
    (ht : ∀ v ∈ l', ∃ a t0 t1, v = .ref a ∧ IsTup s.heap a (List.toArray [.int (κ v).1 t0, .int (κ v).2 t1, row (ix v)])) : Held s'.heap D I R j row l' κ ix := by
  refine ⟨hl, ?_, fun v hv => ?_⟩
  · have hne := iter_ne_list H.it H.pl
    obtain ⟨o, ho, r⟩ := H.it
    exact ⟨o, k.keep _ _ ho (fun q => hne (List.mem_singleton.mp q)), r⟩
  · obtain ⟨a, t0, t1, e, o, ho, hc, r⟩ := ht v hv
    refine ⟨a, t0, t1, e, o, k.keep _ _ ho (fun q => ?_), hc, r⟩
    obtain ⟨nD, hD⟩ := H.pl
    rw [List.mem_singleton.mp q, hD] at ho; cases ho
    exact absurd (show Value.type "list" = Value.type "tuple" from hc) (by decide)

section
variable {w : World} {mg mb : Str → Option Value} {G : Heap} (T : GT w mg mb G)
include T
theorem g_heapify_max : mg "_heapify_max" = some (.ref 77) := mgA T (by kernel_rfl!)
theorem g_heapreplace_max : mg "_heapreplace_max" = some (.ref 70) := mgA T (by kernel_rfl!)
theorem g_heapify : mg "heapify" = some (.ref 63) := mgA T (by kernel_rfl!)
theorem g_heapreplace : mg "heapreplace" = some (.ref 56) := mgA T (by kernel_rfl!)
end
end Mine
end
section
open PySem PySem.W PyProof.Rows PySem.Calls
set_option maxRecDepth 100000
namespace Mine

section
variable {w : World} {prog : Program} {mg mb : Str → Option Value} {G : Heap} {A : Around} {E : Value → Shared → Prop} {s : Shared} {env : Env}

inductive NsI (G : Heap) (s0 : Shared) (env : Env) (cm : Str → Option Value) (D I R : Addr) (N c₀ : Nat) (row : Nat → Value) (kf : Value → Int) (kk : Nat) (s : Shared) : Prop
  | mk (j : Nat) (o : Nat) (l : List Value) (e : Value → Int × Int) (ix : Value → Nat) (m : Str → Option Value) (v0 : Value) (tt : Tok) (to : Tok)
    (hjk : j + kk = N)
    (hcj : c₀ ≤ j)
    (hoj : o ≤ j)
    (c : Cx G [] s0 env m cm [] s)
    (m1 : m "result" = some (.ref D))
    (m2 : m "_heapreplace" = some (.ref 70))
    (m3 : m "order" = some (.int (o : Int) to))
    (m4 : m "top" = some (.int (e v0).1 tt))
    (hv0 : l[0]? = some v0)
    (h : Held s.heap D I R j row l e ix)
    (H : HI (fun i => kf (row i)) j c₀ o e ix l)
    (hp : Hp (fun a b => plt (e b) (e a)) l 0)

open Classical in
set_option maxHeartbeats 1000000 in
/-- nsmallest by the heap -/
theorem nsmallest_heap (T : GT w mg mb G) {n : Nat} (r : Room (n + 12) A) (st : Stays G s.heap) {R f : Addr} {rows : List Value} {kf : Value → Int} {t : Tok} {cnt : Int} {c₀ : Nat} (hc : cnt = c₀) (hc1 : c₀ ≠ 1) (hcn : c₀ < rows.length) (hR : PL s.heap R rows) (hz : rows.length < 64) (hk : KeyFn prog w s f rows kf)
    {ρ : Value → List Int} (htup : ∀ v ∈ rows, TI s.heap v (ρ v)) {q : List Nat} (hq : StSort (fun i => kf (rows.getD i .none)) rows.length q) {Q : Value → Shared → Prop}
    (k : ∀ D s', Keep [] s s' → s.heap.get? D = none → PL s'.heap D ((q.take c₀).map fun i => rows.getD i .none) → Q (.ref D) s') :
    wpAny (model prog w) A (call (.ref 111) [.int cnt t, .ref R] [("key", .ref f)]) Q E s := by
  subst hc
  refine callFnCV (S := []) (n := n + 12) (binds := [("n", .int (c₀ : Int) t), ("iterable", .ref R), ("key", .ref f)]) T st (fun y hy => nomatch hy) (fun y hy => nomatch hy) r
    (by rfl) (by kernel_rfl!) (.of_defaults rfl (st _ _ (T.k _ _ (by rfl))) rfl rfl rfl) (by kernel_rfl!) (fun L s₁ m₀ cm₀ hm hcm c k0 hcn' => ?_)
  have pn : m₀ "n" = some (.int (c₀ : Int) t) := by rw [← hm]; rfl
  have pit : m₀ "iterable" = some (.ref R) := by rw [← hm]; rfl
  have pk : cm₀ "key" = some (.ref f) := by rw [← hcm]; rfl
  clear hm hcm
  have hh : (A.deeper c.theEnv).handled = none := r.hn
  have hcK : (c.theEnv).cells.lookup ("key" : Str) = some (L + 1) := rfl
  obtain ⟨row, hrow⟩ : ∃ row : Nat → Value, row = fun i => rows.getD i .none := ⟨_, rfl⟩
  have rowAt : ∀ (i : Nat) v, rows[i]? = some v → row i = v := fun i v hv => by rw [hrow]; show rows.getD i .none = v; rw [List.getD_eq_getElem?_getD, hv]; rfl
  have rowIn : ∀ i, i < rows.length → row i ∈ rows := fun i hi => by rw [rowAt i _ (List.getElem?_eq_getElem hi)]; exact List.getElem_mem hi
  have hq' : StSort (fun i => kf (row i)) rows.length q := by rw [hrow]; exact hq
  refine seq (wpAny_If (wpAny_isTrue_Compare1 (c.ld pn (eInt fun _ u1 => cEq (wpAny_truthy_bool ?_)))))
  rw [if_neg (by simp; lia)]
  refine wpAny_execs_nil ?_
  have c1 := c.tk (t := u1)
  refine seq (wpAny_Try_except (seq (c1.asgK (callN (c1.ldB T (g_len T).1 (g_len T).2) (arg (c1.ld pit (arg0 (lenL (s := tk s₁ u1) (k0.pl0 hR) (by lia) fun _ u2 => ⟨_, _, c1.tk (t := u2), fun s₃ c3 e3 => ?_⟩))))))))
  refine wpAny_execs_nil ?_
  refine seq (wpAny_If (wpAny_isTrue_Compare1 (c3.ld pn (c3.ld rfl (cGe (wpAny_truthy_bool ?_))))))
  rw [if_neg (by simp; lia)]
  refine wpAny_execs_nil (wpAny_execs_nil ?_)
  have hR3 : PL s₃.heap R rows := hR.kp c3.kp (fun q => nomatch q)
  -- if key is None
  refine seq (wpAny_If (wpAny_isTrue_Compare1 (c3.ldC hcK pk (wpAny_Constant_none (is_ref_none (wpAny_truthy_bool ?_))))))
  rw [if_neg Bool.false_ne_true]
  refine wpAny_execs_nil ?_
  -- it = iter(iterable)
  refine seq (Cx.asg (callN (c3.ldB T (g_iter T).1 (g_iter T).2) (arg (c3.ld pit (arg0 (iterCall hR3 fun I s₄ k4 hI4 nI => ⟨_, _, c3.keep0 k4, fun s₅ c5 e5 => ?_⟩))))))
  have c4 := c3.keep0 k4
  have hIn : s.heap.get? I = none := c3.fresh nI
  have hI5 : s₅.heap.IsListIter I R 0 := IterL.pl hI4 (c4.plS e5)
  have hR5 : PL s₅.heap R rows := hR.kp c5.kp (fun q => nomatch q)
  have keyRun : ∀ v ∈ rows, ∀ s', Keep [] s s' → ∀ (Q' : Value → Shared → Prop) (E' : Value → Shared → Prop), (∀ t s'', Keep [] s' s'' → Q' (.int (kf v) t) s'') → wpAny (model prog w) (A.deeper c.theEnv) (call (.ref f) [v]) Q' E' s' :=
    fun v hv s' k' Q' E' hq => hk.run v hv _ s' ((r.deeper _).less (by lia)) k' Q' E' hq
  -- result = [..]
  refine seq (compTA (G := G) (S := []) (s0 := s) (cm := cm₀) (cl := [("key", L + 1)]) (by rfl) (by rfl) (by rfl) (by decide)
    (callN (c5.ldB T (g_zip T).1 (g_zip T).2) (arg (callN (c5.ldB T (g_range T).1 (g_range T).2) (arg (c5.ld pn (arg0 (rangeN fun rr ta tb tc s₆ k6 hr nr => ?_))))))))
  have c6 := c5.keep0 k6
  have hI6 : s₆.heap.IsListIter I R 0 := IterL.pl hI5 k6.toPl
  refine arg (c6.ld rfl (arg0 (zip_new hr (smallN c₀ (by lia)) (rangeSize01 c₀) hI6 fun z TI' TO i1 s₇ k7 hz7 hTI7 hTO7 h17 hne nz nTI nTO ni1 => wpAny_pyIter_zip hz7 ?_)))
  have c7 := c6.keep0 k7
  have hI7 : s₇.heap.IsListIter I R 0 := IterL.pl hI6 k7.toPl
  have hR7 : PL s₇.heap R rows := hR.kp c7.kp (fun q => nomatch q)
  have src := srcZ (prog := prog) (w := w) (A := A.deeper c.theEnv) (s0 := s) hh hz7 hTI7 hTO7 h17 hI7 hR7 hne (Nat.le_of_lt hcn) (by lia) c6.kp nz nTO ni1 hIn
  have wrNew : ∀ a ∈ [z, TO, i1, I], s.heap.get? a = none := fun a ha => (src.own a ha).1
  refine ⟨_, z, _, _, _, _, _, _, _, fun i y h => ∃ v b t0 t1, rows[i]? = some v ∧ y = .ref b ∧ IsTup h b (List.toArray [.int (kf v) t0, .int (i : Nat) t1, v]), fun cm => cm "key" = some (.ref f), upd (fun _ => none) "key" (.ref f), rfl, c7,
    ⟨src, c7.cellsIn (fun p hp => by rw [List.mem_singleton.mp hp]; exact ⟨rfl, pk.symm⟩), (fun n hn => by simp at hn), rfl,
      (fun i y h h' hkk ⟨v, b, t0, t1, h1, h2, ⟨o, ho, rr⟩⟩ => ⟨v, b, t0, t1, h1, h2, o, hkk b o h2 ho, rr⟩), ?_⟩, fun D l s₈ c8 hD8 nD k8 hlen hat hF => ?_⟩
  · rintro C i T' vals s' m' cm' hbig hi ⟨tt, y, hy, rfl⟩ hT' c' pc' st'
    have hy' : rows[i]? = some y := by simpa using hy
    have hx : (0 : Int) + (i : Int) * 1 = i := by lia
    rw [hx] at hT'
    refine zipTurn (PC := fun cm => cm "key" = some (.ref f)) (R := fun y h => ∃ v b t0 t1, rows[i]? = some v ∧ y = .ref b ∧ IsTup h b (List.toArray [.int (kf v) t0, .int (i : Nat) t1, v])) (a := L + 1) (kv := kf y) c' hh hT' rfl pc' pc' (fun s'' k'' => ?_) (fun s'' k'' Q' hq => keyRun y (List.mem_of_getElem? hy') s'' (c7.kp.drop k'' wrNew) Q' _ hq) (fun b t0 t1 h ht => ⟨y, b, t0, t1, hy', rfl, ht⟩)
    obtain ⟨o, fd, ho, hd⟩ := hk.fn
    exact ⟨o, fd, (c7.kp.drop k'' wrNew).keep _ _ ho (fun q => nomatch q), hd⟩
  have nDs : s.heap.get? D = none := c7.fresh nD
  have hGD : G.get? D = none := st.none nDs
  -- if not result
  refine seq (wpAny_If (wpAny_isTrue_Not (wpAny_isTrue_value (c8.ld rfl (truthyL hD8 (by lia) fun u9 => ?_)))))
  by_cases h0 : c₀ = 0
  · have hl0 : l = [] := List.eq_nil_of_length_eq_zero (by lia)
    subst hl0
    rw [if_pos (by simp)]
    refine seq (wpAny_Return_some (c8.tk.ld rfl (k D _ c8.tk.kp nDs ?_)))
    subst h0
    exact hD8
  rw [if_neg (by simp; intro e; rw [e] at hlen; simp at hlen; lia)]
  refine wpAny_execs_nil ?_
  have c9 := c8.tk (t := u9)
  -- the places
  have inj : ∀ (i j : Nat) y, l[i]? = some y → l[j]? = some y → i = j := fun i j y hi hj => by
    obtain ⟨v, b, t0, t1, _, e1, o, ho, _, _, hd⟩ := hat i y hi
    obtain ⟨v', b', t0', t1', _, e1', o', ho', _, _, hd'⟩ := hat j y hj
    rw [e1] at e1'; cases e1'
    rw [ho] at ho'; cases ho'
    rw [hd] at hd'
    have e2 := congrArg (fun d : Data => match d with | .seq its _ => its.toList | _ => []) hd'
    simp only [List.cons.injEq, Value.int.injEq, and_true] at e2
    have := e2.2.1.1
    lia
  obtain ⟨ix, hix⟩ := pickFun inj
  obtain ⟨e, he⟩ : ∃ e : Value → Int × Int, e = fun y => (kf (row (ix y)), (ix y : Int)) := ⟨_, rfl⟩
  have H8 : HI (fun i => kf (row i)) c₀ c₀ c₀ e ix l := HI.start hlen fun i v hv => ⟨by rw [he]; show (kf (row (ix v)), ((ix v : Nat) : Int)) = _; rw [hix i v hv], hix i v hv⟩
  have tup8 : ∀ v ∈ l, ∃ a t0 t1, v = .ref a ∧ IsTup s₈.heap a (List.toArray [.int (e v).1 t0, .int (e v).2 t1, row (ix v)]) := fun v hv => by
    obtain ⟨i, hi, rfl⟩ := List.getElem_of_mem hv
    obtain ⟨y, b, t0, t1, hy, e1, ht⟩ := hat i _ (List.getElem?_eq_getElem hi)
    have hii := hix i _ (List.getElem?_eq_getElem hi)
    refine ⟨b, t0, t1, e1, ?_⟩
    rw [he]
    show IsTup s₈.heap b (List.toArray [.int (kf (row (ix l[i]))) t0, .int ((ix l[i] : Nat) : Int) t1, row (ix l[i])])
    rw [hii, rowAt i y hy]
    exact ht
  have h8 : Held s₈.heap D I R c₀ row l e ix := ⟨hD8, hF, tup8⟩
  -- _heapify_max(result)
  refine seq (wpAny_Expr_any (callF (f := 77) (c9.ldG T (g_heapify_max T)) (arg (c9.ld rfl (arg0 ⟨⟨c9.stay _ _ (T.k _ _ (by rfl)), rfl⟩, ?_⟩)))))
  refine heapify_max_spec T (n := n) (κ := e) ((r.deeper _).less (by lia)) c9.stay h8.pl hGD (fun v hv => h8.tupI hv) H8.enodup (by lia) fun s₁₀ k10 hD10 => ?_
  have c10 := c9.after k10 (fun a ha => by rw [List.mem_singleton.mp ha]; exact ⟨.inr nDs, h8.pl.plain⟩) (fun a ha hb => nomatch hb) (news' := []) (fun _ q => nomatch q)
  have p10 := heapifyP_perm (lt := fun a b => plt (e b) (e a)) l
  have hp10 := heapifyP_heap (plt_ord' e) l
  have H10 := H8.perm p10
  have h10 : Held s₁₀.heap D I R c₀ row _ e ix := Held.turn (s := tk s₈ u9) h8 k10 hD10 fun v hv => tup8 v (p10.mem_iff.mp hv)
  generalize heapifyP (fun a b => plt (e b) (e a)) l = l1 at hD10 p10 hp10 H10 h10
  clear p10 hD10
  obtain ⟨v0, hv0⟩ : ∃ v0, l1[0]? = some v0 := ⟨_, List.getElem?_eq_getElem (by rw [H10.len]; lia)⟩
  obtain ⟨a0, t0, t1, ea0, ha0⟩ := h10.tup v0 (List.mem_of_getElem? hv0)
  have hl1 := H10.len
  -- top, order, _heapreplace
  refine seq (c10.asgK (Subscript_ (Subscript_ (c10.ld rfl (eInt fun _ _ => itemL (s := tk _ _) h10.pl (j := 0) rfl hv0 (by lia) (eInt fun _ _ => itemV (s := tk _ _) ea0 ha0 (j := 0) rfl rfl (by simp) ⟨_, _, c10.tk, fun s₁₁ c11 e11 => ?_⟩))))))
  have h11 := h10.mv (c10.plS e11)
  refine seq (Cx.asg (c11.ld pn ⟨_, _, c11, fun s₁₂ c12 e12 => ?_⟩))
  have h12 := h11.mv (c11.plS e12)
  refine seq (Cx.asg (c12.ldG T (g_heapreplace_max T) ⟨_, _, c12, fun s₁₃ c13 e13 => ?_⟩))
  have h13 := h12.mv (c12.plS e13)
  refine seq (wpAny_For (c13.ld rfl (wpAny_pyIter_listiter h13.it ?_)))
  refine forLoopF (NsI G s _ _ D I R rows.length c₀ row kf) (rows.length - c₀)
    ⟨c₀, c₀, l1, e, ix, _, v0, t0, t, by lia, Nat.le_refl _, Nat.le_refl _, c13, rfl, rfl, rfl, rfl, hv0, h13, H10, hp10⟩ ?_
  clear h13 h12 h11 h10 H10 hp10 hv0 ha0 ea0 hl1 c13 c12 c11 c10 e11 e12 e13 k10 h8 tup8 H8 he hix inj hat hlen hD8 k8 hF c9 c8
  rintro J1 hJ1 kk s₁ ⟨j, o, l, e, ix, m, v0, tt, to, hjk, hcj, hoj, c1, m1, m2, m3, m4, hv0, h1, H1, hp1⟩
  have hR1 : PL s₁.heap R rows := hR.kp c1.kp (fun q => nomatch q)
  have hlen := H1.len
  refine nextL hh h1.it hR1 (fun v s₂ hv hI2 e2 k2 => ?_) (fun s₂ hi k2 => ?_)
  · have c2 : Cx G [] s _ m _ [] s₂ := c1.after k2 (fun a ha => by rw [List.mem_singleton.mp ha]; exact ⟨.inr hIn, listIter_plain h1.it⟩) (fun a ha hb => nomatch hb) (fun _ q => nomatch q)
    have hvm := List.mem_of_getElem? hv
    have hjN := (List.getElem?_eq_some_iff.mp hv).1
    have hkv : kf (row j) = kf v := by rw [rowAt j v hv]
    have h2 : Held s₂.heap D I R (j + 1) row l e ix := ⟨h1.pl.kp k2 (fun q => iter_ne_list h1.it h1.pl (List.mem_singleton.mp q).symm), hI2, fun u hu => by
      obtain ⟨a, t0, t1, ea, oa, hoa, hca, ra⟩ := h1.tup u hu
      refine ⟨a, t0, t1, ea, oa, k2.keep _ _ hoa (fun q => ?_), hca, ra⟩
      obtain ⟨oI, hoI, hcI, _⟩ := h1.it
      rw [List.mem_singleton.mp q, hoI] at hoa; cases hoa
      rw [hcI] at hca; exact absurd hca (by decide)⟩
    refine wpAny_pure (wpAny_assign_Name (c2.sto fun s₃ c3 e3 => ?_))
    have h3 := h2.mv (c2.plS e3)
    -- k = key(elem)
    obtain ⟨of, fd, hof, hfd⟩ := hk.fn
    refine seq (c3.asgK (callF (f := f) (c3.ldC hcK pk) (arg (c3.ld rfl (arg0 ⟨⟨c3.kp.keep _ _ hof (fun q => nomatch q), hfd⟩, keyRun v hvm _ c3.kp _ _ fun t4 s₄ k4 => ⟨_, _, c3.keep0 k4, fun s₅ c5 e5 => ?_⟩⟩)))))
    have h5 := (h3.mv k4.toPl).mv ((c3.keep0 k4).plS e5)
    refine seq (wpAny_If (wpAny_isTrue_Compare1 (c5.ld rfl (c5.ld m4 (cLt (wpAny_truthy_bool ?_))))))
    by_cases hlt : kf v < (e v0).1
    · rw [if_pos (decide_eq_true hlt)]
      refine seq (wpAny_Expr_any (callF (f := 70) (c5.ld (x := "_heapreplace") (v := .ref 70) m2) (arg (c5.ld m1 (arg (Tuple_ (arg (c5.ld rfl (arg (c5.ld m3 (arg (c5.ld rfl (arg0 (newT (by simp) fun X s₆ k6 hX nX => arg0 ⟨⟨(c5.keep0 k6).stay _ _ (T.k _ _ (by rfl)), rfl⟩, ?_⟩))))))))))))))
      have c6 := c5.keep0 k6
      have h6 := h5.mv k6.toPl
      have hXl : ∀ u ∈ l, u ≠ .ref X := fun u hu q => by
        obtain ⟨a, _, _, ea, oa, hoa, _⟩ := h5.tup u hu
        rw [q] at ea; cases ea
        rw [nX] at hoa; cases hoa
      obtain ⟨e', he'⟩ : ∃ e' : Value → Int × Int, e' = fun u => if u = .ref X then (kf (row j), (o : Int)) else e u := ⟨_, rfl⟩
      obtain ⟨ix', hix'⟩ : ∃ ix' : Value → Nat, ix' = fun u => if u = .ref X then j else ix u := ⟨_, rfl⟩
      have eX : e' (.ref X) = (kf (row j), (o : Int)) := by rw [he']; exact if_pos rfl
      have iX : ix' (.ref X) = j := by rw [hix']; exact if_pos rfl
      have el : ∀ u ∈ l, e' u = e u := fun u hu => by rw [he']; exact if_neg (hXl u hu)
      have il : ∀ u ∈ l, ix' u = ix u := fun u hu => by rw [hix']; exact if_neg (hXl u hu)
      clear he' hix'
      have hv0m := List.mem_of_getElem? hv0
      have hp6 := hp1.congr el
      have H6 := (H1.congr el il).replace hp6 hv0 (x := .ref X) eX iX (by lia) (by rw [el v0 hv0m]; show kf (row j) < _; rw [hkv]; exact hlt)
      have p6 := replaceP_perm (lt := fun a b => plt (e' b) (e' a)) l (.ref X)
      have hp7 := replaceP_heap (x := .ref X) (plt_ord' e') (l := l) (by lia) hp6
      have tup6 : ∀ u ∈ l.set 0 (.ref X), ∃ a t0 t1, u = .ref a ∧ IsTup s₆.heap a (List.toArray [.int (e' u).1 t0, .int (e' u).2 t1, row (ix' u)]) := fun u hu => by
        rcases List.mem_or_eq_of_mem_set hu with hu | rfl
        · rw [el u hu, il u hu]; exact h6.tup u hu
        · refine ⟨X, t4, to, rfl, ?_⟩
          rw [eX, iX, rowAt j v hv]
          exact hX
      refine heapreplace_max_spec T (n := n) (κ := e') ((r.deeper _).less (by lia)) c6.stay h6.pl hGD hv0 (fun u hu => ?_) ((p6.map e').nodup_iff.mp H6.enodup) (by lia) fun s₇ k7 hD7 => ?_
      · obtain ⟨a, t0, t1, ea, ht⟩ := tup6 u hu; exact ⟨a, t0, t1, _, ea, ht⟩
      have c7 := c6.after k7 (fun a ha => by rw [List.mem_singleton.mp ha]; exact ⟨.inr nDs, h6.pl.plain⟩) (fun a ha hb => nomatch hb) (news' := []) (fun _ q => nomatch q)
      have h7 : Held s₇.heap D I R (j + 1) row _ e' ix' := Held.turn h6 k7 hD7 fun u hu => tup6 u (p6.mem_iff.mp hu)
      generalize replaceP (fun a b => plt (e' b) (e' a)) l (.ref X) = l7 at H6 p6 hp7 hD7 h7
      have hl7 := H6.len
      obtain ⟨w0, hw0⟩ : ∃ w0, l7[0]? = some w0 := ⟨_, List.getElem?_eq_getElem (by lia)⟩
      obtain ⟨a7, t70, t71, ea7, ha7⟩ := h7.tup w0 (List.mem_of_getElem? hw0)
      -- top, _order, _elem = result[0]
      refine seq (Assign_Tuple (Subscript_ (c7.ld m1 (eInt fun _ u8 => itemL (s := tk _ _) h7.pl (j := 0) rfl hw0 (by lia) ((c7.tk (t := u8)).unpack3V ea7 hh ha7 fun s₉ c9 k9 => ?_)))))
      have h9 := h7.mv ((c7.tk (t := u8)).plL k9)
      refine seq (c9.augAdd m3 fun t10 s₁₀ c10 e10 => ?_)
      have h10 := h9.mv (c9.plS e10)
      refine wpAny_execs_nil (wpAny_execs_nil ⟨kk - 1, by lia, hJ1 _ _ ⟨j + 1, o + 1, l7, e', ix', _, w0, t70, t10, by lia, by lia, by lia, c10, m1, m2, rfl, rfl, hw0, h10, ?_, hp7⟩⟩)
      exact H6
    · rw [if_neg (by simpa using hlt)]
      exact wpAny_execs_nil (wpAny_execs_nil ⟨kk - 1, by lia, hJ1 _ _ ⟨j + 1, o, l, e, ix, _, v0, tt, to, by lia, by lia, by lia, c5, m1, m2, m3, m4, hv0, h5, H1.skip hp1 hv0 (by show ¬ kf (row j) < _; rw [hkv]; exact hlt), hp1⟩⟩)
  · have c2 : Cx G [] s _ m _ [] s₂ := c1.after k2 (fun a ha => by rw [List.mem_singleton.mp ha]; exact ⟨.inr hIn, listIter_plain h1.it⟩) (fun a ha hb => nomatch hb) (fun _ q => nomatch q)
    have hjN : j = rows.length := by lia
    subst hjN
    have hD2 : PL s₂.heap D l := h1.pl.kp k2 (fun q => iter_ne_list h1.it h1.pl (List.mem_singleton.mp q).symm)
    have tup2 : ∀ u ∈ l, ∃ a t0 t1, u = .ref a ∧ IsTup s₂.heap a (List.toArray [.int (e u).1 t0, .int (e u).2 t1, row (ix u)]) := fun u hu => by
      obtain ⟨a, t0, t1, ea, oa, hoa, hca, ra⟩ := h1.tup u hu
      refine ⟨a, t0, t1, ea, oa, k2.keep _ _ hoa (fun q => ?_), hca, ra⟩
      obtain ⟨oI, hoI, hcI, _⟩ := h1.it
      rw [List.mem_singleton.mp q, hoI] at hoa; cases hoa
      rw [hcI] at hca; exact absurd hca (by decide)
    have bnd : ∀ v ∈ l, -4096 < (e v).2 ∧ (e v).2 < 4096 := fun v hv => by
      have := H1.ord v hv; have := H1.pos v hv; lia
    obtain ⟨nD2, hoD⟩ := id hD2
    refine seq (wpAny_Expr_any (MethodCall_ (pl := do return (← importBound _ _).getD true) (c2.ld m1 (getMethod_list_of PySem.F.slot_list_sort PySem.F.type_list_sort hD2.isList ⟨_, hoD, rfl⟩ (callWith_method0 (tsort_spec (κ := e) (ρ := fun v => row (ix v)) (σ := fun v => ρ (row (ix v))) hD2 (by lia) (by lia) (fun v hv => ?_) (fun v hv u hu huv => ?_) bnd (by have := r.u; show A.units + 3 + 2 < _; lia) fun p s₃ hF k3 hD3 => ?_))))))
    · obtain ⟨a, t0, t1, ea, ht⟩ := tup2 v hv
      exact ⟨a, t0, t1, ea, ht, (htup _ (rowIn _ (H1.low v hv))).kp0 c2.kp⟩
    · have h1' := H1.mono v hv u hu
      have h2' := H1.mono u hu v hv
      rw [huv] at h1' h2'
      have : ix v = ix u := by lia
      show ρ (row (ix v)) = ρ (row (ix u))
      rw [this]
    have c3 := c2.after k3 (fun a ha => by rw [List.mem_singleton.mp ha]; exact ⟨.inr nDs, hD2.plain⟩) (fun a ha hb => nomatch hb) (news' := []) (fun _ q => nomatch q)
    have S3 : StSort (fun a => enc (e (l.getD a .none))) c₀ p.toList := by
      have := hF.st
      rw [hlen] at this
      refine this.congr fun i hi => ?_
      show (l.map fun v => enc (e v)).getD i 0 = _
      rw [List.getD_eq_getElem?_getD, List.getElem?_map, List.getElem?_eq_getElem (by lia), List.getD_eq_getElem?_getD, List.getElem?_eq_getElem (by lia)]
      rfl
    have fin := H1.finish (d := Value.none) (Nat.le_of_lt hcn) bnd S3 hq'
    have hD3' : PL s₃.heap D (p.toList.map fun a => l.getD a .none) := hD3
    have hl3 : ∀ v ∈ p.toList.map (fun a => l.getD a .none), v ∈ l := fun v hv => by
      obtain ⟨a, ha, rfl⟩ := List.mem_map.mp hv
      have := S3.low a ha
      rw [List.getD_eq_getElem?_getD, List.getElem?_eq_getElem (by lia)]
      exact List.getElem_mem _
    have hl3n : (p.toList.map fun a => l.getD a .none).length = c₀ := by rw [List.length_map, S3.len]
    generalize (p.toList.map fun a => l.getD a .none) = l3 at fin hD3' hl3 hl3n
    have tup3 : ∀ u ∈ l3, ∃ a t0 t1, u = .ref a ∧ IsTup s₃.heap a (List.toArray [.int (e u).1 t0, .int (e u).2 t1, row (ix u)]) := fun u hu => by
      obtain ⟨a, t0, t1, ea, oa, hoa, hca, ra⟩ := tup2 u (hl3 u hu)
      refine ⟨a, t0, t1, ea, oa, k3.keep _ _ hoa (fun q => ?_), hca, ra⟩
      rw [List.mem_singleton.mp q, hoD] at hoa; cases hoa
      exact absurd (show Value.type "list" = Value.type "tuple" from hca) (by decide)
    refine seq (wpAny_Return_some (compLF (G := G) (S := []) (s0 := s) (cm := cm₀) (cl := []) hh (by rfl) (by rfl) (by decide) (c3.ld m1 ⟨D, l3, _, fun _ => true, fun i y _ => ∃ v, l3[i]? = some v ∧ y = row (ix v), fun _ => True, fun _ => none, rfl, c3, hD3', by lia,
      ⟨(fun n x q => nomatch q), (fun n n' x q => nomatch q)⟩, (fun n hn => by simp at hn), trivial, (fun _ _ _ _ _ h => h), ?_, fun D4 l4 s₄ c4 hD4 nD4 k4 hall => ?_⟩)))
    · intro I' s₅ C i v s' m' cm' hbig _ hv c' pc' hI' k'
      obtain ⟨a, t0, t1, ea, ht⟩ := tup3 v (List.mem_of_getElem? hv)
      refine c'.unpack3V ea hh (IsTup.kp0 k' ht) fun s₆ c6 k6 => ?_
      exact tests_nil ⟨rfl, c6.ld rfl ⟨⟨_, _, _, c6, trivial, k6, fun _ => ownL⟩, ⟨v, hv, rfl⟩, .inr fun _ => ⟨v, hv, rfl⟩⟩⟩
    · obtain ⟨hl4, hat4⟩ := hall.whole
      refine k D4 s₄ c4.kp (c3.fresh nD4) ?_
      have e4 : l4 = (q.take c₀).map fun i => rows.getD i .none := by
        rw [← hrow, ← fin, List.map_map]
        apply List.ext_getElem?
        intro i
        by_cases hi : i < l4.length
        · obtain ⟨v, hv, hy⟩ := hat4 i _ (List.getElem?_eq_getElem hi)
          rw [List.getElem?_eq_getElem hi, hy, List.getElem?_map, hv]
          rfl
        · rw [List.getElem?_eq_none (by lia), List.getElem?_eq_none (by rw [List.length_map]; lia)]
      rw [← e4]
      exact hD4
end
end Mine
end
section
open PySem PySem.W PyProof.Rows PySem.Calls
set_option maxRecDepth 100000
namespace Mine

/-- a pair turned the other way -/
noncomputable def ng (p : Int × Int) : Int × Int := (-p.1, -p.2)
theorem plt_ng (a b : Int × Int) : plt (ng a) (ng b) = plt b a := by
  have h : plt (ng a) (ng b) = true ↔ plt b a = true := by
    rw [plt_iff, plt_iff]; unfold ng; show -a.1 < -b.1 ∨ (-a.1 = -b.1 ∧ -a.2 < -b.2) ↔ _; lia
  cases h1 : plt b a <;> cases h2 : plt (ng a) (ng b) <;> simp_all
theorem lt_ng {α : Type} (e : α → Int × Int) : (fun a b => plt (ng (e a)) (ng (e b))) = fun a b => plt (e b) (e a) := by funext a b; exact plt_ng _ _
theorem ng_inj {a b : Int × Int} (h : ng a = ng b) : a = b := by
  unfold ng at h
  have h1 := congrArg Prod.fst h
  have h2 := congrArg Prod.snd h
  simp only at h1 h2
  exact Prod.ext (by lia) (by lia)
theorem nd_ng {α : Type} {e : α → Int × Int} {l : List α} (h : (l.map e).Nodup) : (l.map fun v => ng (e v)).Nodup := by
  unfold List.Nodup at *
  rw [List.pairwise_map] at *
  exact h.imp fun {a b} hne q => hne (ng_inj q)
theorem enc_ng (k : Int × Int) : enc (ng k) = -enc k := by unfold enc ng; show -k.1 * 1048576 + -k.2 = _; lia
theorem revList {α : Type} {l : List α} {d : α} {p : List Nat} (hlow : ∀ i ∈ p, i < l.length) : (p.map fun i => l.reverse.getD i d).reverse = (p.reverse.map fun i => l.length - 1 - i).map fun a => l.getD a d := by
  rw [← List.map_reverse, List.map_map]
  refine List.map_congr_left fun i hi => ?_
  have := hlow i (List.mem_reverse.mp hi)
  show l.reverse.getD i d = l.getD (l.length - 1 - i) d
  rw [List.getD_eq_getElem?_getD, List.getElem?_reverse this, List.getD_eq_getElem?_getD]

section
variable {w : World} {prog : Program} {mg mb : Str → Option Value} {G : Heap} {A : Around} {E : Value → Shared → Prop} {s : Shared}

/-- nsmallest: the first so many of the stable order -/
theorem nsmallest_spec (T : GT w mg mb G) {n : Nat} (r : Room (n + 12) A) (st : Stays G s.heap) {R f : Addr} {rows : List Value} {kf : Value → Int} {t : Tok} {cnt : Int} {c₀ : Nat} (hc : cnt = c₀) (h2 : 2 ≤ rows.length) (hR : PL s.heap R rows) (hz : rows.length < 64) (hk : KeyFn prog w s f rows kf)
    {ρ : Value → List Int} (htup : ∀ v ∈ rows, TI s.heap v (ρ v)) {q : List Nat} (hq : StSort (fun i => kf (rows.getD i .none)) rows.length q) {Q : Value → Shared → Prop}
    (k : ∀ D s', Keep [] s s' → s.heap.get? D = none → PL s'.heap D ((q.take c₀).map fun i => rows.getD i .none) → Q (.ref D) s') :
    wpAny (model prog w) A (call (.ref 111) [.int cnt t, .ref R] [("key", .ref f)]) Q E s := by
  by_cases hc1 : c₀ = 1
  · subst hc1
    subst hc
    refine nsmallest_one T (n := n + 6) (r.less (by lia)) st hR (by lia) (by lia) hk (fun v hv => ⟨_, htup v hv⟩) fun D i v s' k' nD hv hmin hD => k D s' k' nD ?_
    have hi := (List.getElem?_eq_some_iff.mp hv).1
    have at_ : ∀ (j : Nat) u, rows[j]? = some u → rows.getD j .none = u := fun j u hu => by rw [List.getD_eq_getElem?_getD, hu]; rfl
    have := first_unique (κ := fun i => kf (rows.getD i .none)) (N := rows.length) (p := [i]) (by simp; lia) (fun j hj => by rw [List.mem_singleton.mp hj]; exact hi) (List.pairwise_singleton _ _) (fun j hj hne h hh => ?_) hq
    · show PL s'.heap D ((q.take [i].length).map _)
      rw [← this]
      show PL s'.heap D [rows.getD i .none]
      rw [at_ i v hv]; exact hD
    · rw [List.mem_singleton.mp hh]
      have hne' : j ≠ i := fun e => hne (by rw [e]; exact .head _)
      have h1 := hmin j _ (List.getElem?_eq_getElem hj)
      show kf (rows.getD i .none) < kf (rows.getD j .none) ∨ (kf (rows.getD i .none) = kf (rows.getD j .none) ∧ i < j)
      rw [at_ i v hv, at_ j _ (List.getElem?_eq_getElem hj)]
      rcases Nat.lt_or_gt_of_ne hne' with q | q
      · exact .inl (h1.2 q)
      · have := h1.1; lia
  by_cases hcn : rows.length ≤ c₀
  · refine nsmallest_all T (n := n + 6) (r.less (by lia)) st hc hc1 hcn hR h2 hz hk fun D p s' k' nD hF hD => k D s' k' nD ?_
    have S : StSort (fun i => kf (rows.getD i .none)) rows.length p.toList := hF.st.congr fun i hi => by
      rw [List.getD_eq_getElem?_getD, List.getElem?_map, List.getElem?_eq_getElem hi, List.getD_eq_getElem?_getD, List.getElem?_eq_getElem hi]; rfl
    rw [← S.unique hq, List.map_take]
    exact hD
  · exact nsmallest_heap T (n := n) r st hc hc1 (by lia) hR hz hk htup hq k
end
end Mine
end
section
open PySem PySem.W PyProof.Rows PySem.Calls
set_option maxRecDepth 100000
namespace Mine

section
variable {w : World} {prog : Program} {mg mb : Str → Option Value} {G : Heap} {A : Around} {E : Value → Shared → Prop} {s : Shared} {env : Env}

/-- nlargest of one -/
theorem nlargest_one (T : GT w mg mb G) {n : Nat} (r : Room (n + 6) A) (st : Stays G s.heap) {R f : Addr} {rows : List Value} {kf : Value → Int} {t : Tok} (hR : PL s.heap R rows) (hne : 0 < rows.length) (hz : rows.length < 2 ^ 18) (hk : KeyFn prog w s f rows kf)
    (htup : ∀ v ∈ rows, ∃ ns, TI s.heap v ns) {Q : Value → Shared → Prop}
    (k : ∀ D i v s', Keep [] s s' → s.heap.get? D = none → rows[i]? = some v → (∀ (j : Nat) u, rows[j]? = some u → kf u ≤ kf v ∧ (j < i → kf u < kf v)) → PL s'.heap D [v] → Q (.ref D) s') :
    wpAny (model prog w) A (call (.ref 117) [.int 1 t, .ref R] [("key", .ref f)]) Q E s := by
  refine callFnC (S := []) (n := n + 6) (binds := [("n", .int 1 t), ("iterable", .ref R), ("key", .ref f)]) T st (fun y hy => nomatch hy) (fun y hy => nomatch hy) r
    (by rfl) (by kernel_rfl!) ?bind (by kernel_rfl!) (fun L s₁ c k0 hcn => ?_)
  case bind => exact .of_defaults rfl (st _ _ (T.k _ _ (by rfl))) rfl rfl rfl
  have hh : (A.deeper c.theEnv).handled = none := r.hn
  have hcK : (c.theEnv).cells.lookup ("key" : Str) = some (L + 1) := rfl
  refine seq (wpAny_If (wpAny_isTrue_Compare1 (c.ld rfl (eInt fun _ u1 => cEq (wpAny_truthy_bool ?_)))))
  rw [if_pos (by rfl)]
  have c1 := c.tk (t := u1)
  refine seq (Cx.asg (callN (c1.ldB T (g_iter T).1 (g_iter T).2) (arg (c1.ld rfl (arg0 (iterCall (s := tk s₁ u1) (k0.pl0 hR) fun I s₂ k2 hI nI => ⟨_, _, c1.keep0 k2, fun s₃ c3 e3 => ?_⟩))))))
  have hIn : s.heap.get? I = none := c1.fresh nI
  have pI := listIter_plain hI
  have hI3 : s₃.heap.IsListIter I R 0 := by
    obtain ⟨o, ho, rr⟩ := id hI
    exact ⟨o, sameBut_keep e3 ((c1.keep0 k2).neL ho (by obtain ⟨o', ho', hp⟩ := pI; rw [ho] at ho'; cases ho'; exact hp)) ho, rr⟩
  refine seq (Cx.asg (callN0 (c3.ldB T (g_object T).1 (g_object T).2) (objectCall fun X s₄ k4 hX nX => ⟨_, _, c3.keep0 k4, fun s₅ c5 e5 => ?_⟩)))
  have c4 := c3.keep0 k4
  have pX : plainObj ({ cls := .type "object", data := .plain } : Obj) := ⟨(fun _ _ q => nomatch q), (fun _ q => nomatch q)⟩
  have hX5 := sameBut_keep e5 (c4.neL hX pX) hX
  have hI5 : s₅.heap.IsListIter I R 0 := by
    obtain ⟨o, ho, rr⟩ := id hI3
    have ho4 := k4.keep _ _ ho (fun q => nomatch q)
    exact ⟨o, sameBut_keep e5 (c4.neL ho4 (by obtain ⟨o', ho', hp⟩ := listIter_plain hI3; rw [ho] at ho'; cases ho'; exact hp)) ho4, rr⟩
  have hR5 : PL s₅.heap R rows := hR.kp c5.kp (fun q => nomatch q)
  refine seq (c5.asgK (callKw (c5.ldB T (g_max T).1 (g_max T).2) (arg (c5.ld rfl (arg0 (kws_cons (c5.ld rfl (kws_cons (c5.ldC hcK rfl (kws_nil (max_spec (kf := kf) hh ⟨f, rfl⟩ hI5 hR5 hne (fun v hv s' k' Q' hq => ?_) fun i v s₆ hv hmin k6 => ?_)))))))))))
  · refine hk.run v hv _ s' ((r.deeper _).in1.less (by lia)) ⟨?_, fun b o e _ => k'.keep b o (c5.kp.keep b o e (fun q => nomatch q)) (fun q => by rw [List.mem_singleton.mp q, hIn] at e; cases e)⟩ Q' _ hq
    obtain ⟨h1, t1, q1⟩ := c5.kp.same; obtain ⟨h2, t2, q2⟩ := k'.same; rw [q2, q1]; exact ⟨_, _, rfl⟩
  have c6 := c5.after k6 (fun a ha => by rw [List.mem_singleton.mp ha]; exact ⟨.inr hIn, listIter_plain hI5⟩) (fun a ha hb => nomatch hb) (news' := []) (fun _ q => nomatch q)
  have hXI : X ≠ I := fun e => by
    obtain ⟨o, ho, hc, _⟩ := hI3
    rw [← e, nX] at ho; cases ho
  have hX6 := k6.keep _ _ hX5 (fun q => hXI (List.mem_singleton.mp q))
  refine ⟨_, _, c6, fun s₇ c7 e7 => ?_⟩
  have hX7 := sameBut_keep e7 (c6.neL hX6 pX) hX6
  obtain ⟨ns, vt⟩ := htup v (List.mem_of_getElem? hv)
  obtain ⟨a, vs, rfl, ⟨oa, hoa, hca, ra⟩, hints⟩ := vt.kp0 c7.kp
  have hXa : a ≠ X := fun e => by rw [e, hX7] at hoa; cases hoa; exact absurd hca (by show Value.type "object" ≠ Value.type "tuple"; decide)
  refine seq (wpAny_Return_some (IfExp_ (wpAny_isTrue_Compare1 (c7.ld rfl (c7.ld rfl (is_other hXa hoa hX7 (by show Value.type "object" ≠ Value.type "tuple"; decide) (wpAny_truthy_bool ?_)))))))
  rw [if_neg (by simp)]
  refine List_ (arg (c7.ld rfl (arg0 (list1 (by simp) fun D s₈ k8 hD nD => k D i _ s₈ (c7.kp.trans k8) (c7.fresh nD) hv hmin hD))))
/-- nlargest of all -/
theorem nlargest_all (T : GT w mg mb G) {n : Nat} (r : Room (n + 6) A) (st : Stays G s.heap) {R f : Addr} {rows : List Value} {kf : Value → Int} {t : Tok} {cnt : Int} {c₀ : Nat} (hc : cnt = c₀) (hc1 : c₀ ≠ 1) (hcn : rows.length ≤ c₀) (hR : PL s.heap R rows) (h2 : 2 ≤ rows.length) (hz : rows.length < 64) (hk : KeyFn prog w s f rows kf)
    {Q : Value → Shared → Prop}
    (k : ∀ D (p : Array Nat) s', Keep [] s s' → s.heap.get? D = none → Front (fun i => (katRev true (rows.map kf)).getD i 0) rows.length p rows.length → PL s'.heap D ((katRev true (p.toList.map fun i => (katRev true rows).getD i Value.none)).take c₀) → Q (.ref D) s') :
    wpAny (model prog w) A (call (.ref 117) [.int cnt t, .ref R] [("key", .ref f)]) Q E s := by
  refine callFnC (S := []) (n := n + 6) (binds := [("n", .int cnt t), ("iterable", .ref R), ("key", .ref f)]) T st (fun y hy => nomatch hy) (fun y hy => nomatch hy) r
    (by rfl) (by kernel_rfl!) (.of_defaults rfl (st _ _ (T.k _ _ (by rfl))) rfl rfl rfl) (by kernel_rfl!) (fun L s₁ c k0 hcn' => ?_)
  have hh : (A.deeper c.theEnv).handled = none := r.hn
  have hcK : (c.theEnv).cells.lookup ("key" : Str) = some (L + 1) := rfl
  refine seq (wpAny_If (wpAny_isTrue_Compare1 (c.ld rfl (eInt fun _ u1 => cEq (wpAny_truthy_bool ?_)))))
  rw [if_neg (by simp; lia)]
  refine wpAny_execs_nil ?_
  have c1 := c.tk (t := u1)
  refine seq (wpAny_Try_except (seq (c1.asgK (callN (c1.ldB T (g_len T).1 (g_len T).2) (arg (c1.ld rfl (arg0 (lenL (s := tk s₁ u1) (k0.pl0 hR) (by lia) fun _ u2 => ⟨_, _, c1.tk (t := u2), fun s₃ c3 e3 => ?_⟩))))))))
  refine wpAny_execs_nil ?_
  refine seq (wpAny_If (wpAny_isTrue_Compare1 (c3.ld rfl (c3.ld rfl (cGe (wpAny_truthy_bool ?_))))))
  rw [if_pos (by simp; lia)]
  have hR3 : PL s₃.heap R rows := hR.kp c3.kp (fun q => nomatch q)
  refine seq (wpAny_Return_some (Subscript_ (callKw (c3.ldB T (g_sorted T).1 (g_sorted T).2) (arg (c3.ld rfl (arg0 (kws_cons (c3.ldC hcK rfl (kws_cons (wpAny_Constant_bool (kws_nil (sorted_spec (b := true) (f := .ref f) (kf := kf) hR3 h2 hz (ksk_s2 _ _ _) (fun x => ksk_l2 _ _ _) (fun x => ksk_t2 _ _ _) (fun v hv s' k' Q' hq => ?_) fun p D s₄ hF k4 nD hD => ?_))))))))))))
  · exact hk.run v hv _ s' (((r.deeper _).in1.in1).less (by lia)) (c3.kp.trans k') Q' _ hq
  have c4 := c3.keep0 k4
  refine evSlice (part0 (part1 (c4.ld rfl (part0 fun sl s₅ k5 hsl _ => sliceTo (b := c₀) (k5.pl0 hD) hsl hc ?_ (fun D2 s₆ k6 hD2 nD2 => ?_) ⟨_, rfl⟩))))
  · rw [kat_len, List.length_map, Array.length_toList, hF.size]; lia
  · exact k D2 p s₆ ((c4.kp.trans k5).trans k6) (by
      cases e : s.heap.get? D2 with
      | none => rfl
      | some o => rw [(c4.kp.trans k5).keep _ _ e (fun q => nomatch q)] at nD2; cases nD2) hF hD2
end
end Mine
end
section
open PySem PySem.W PyProof.Rows PySem.Calls
set_option maxRecDepth 100000
namespace Mine

section
variable {w : World} {prog : Program} {mg mb : Str → Option Value} {G : Heap} {A : Around} {E : Value → Shared → Prop} {s : Shared} {env : Env}

inductive NlI (G : Heap) (s0 : Shared) (env : Env) (cm : Str → Option Value) (D I R : Addr) (N c₀ : Nat) (row : Nat → Value) (kf : Value → Int) (kk : Nat) (s : Shared) : Prop
  | mk (j : Nat) (o : Nat) (l : List Value) (e : Value → Int × Int) (ix : Value → Nat) (m : Str → Option Value) (v0 : Value) (tt : Tok) (to : Tok)
    (hjk : j + kk = N)
    (hcj : c₀ ≤ j)
    (hoj : o ≤ j)
    (c : Cx G [] s0 env m cm [] s)
    (m1 : m "result" = some (.ref D))
    (m2 : m "_heapreplace" = some (.ref 56))
    (m3 : m "order" = some (.int (-(o : Int)) to))
    (m4 : m "top" = some (.int (ng (e v0)).1 tt))
    (hv0 : l[0]? = some v0)
    (h : Held s.heap D I R j row l (fun v => ng (e v)) ix)
    (H : HI (fun i => -kf (row i)) j c₀ o e ix l)
    (hp : Hp (fun a b => plt (e b) (e a)) l 0)

open Classical in
set_option maxHeartbeats 1000000 in
/-- nlargest by the heap -/
theorem nlargest_heap (T : GT w mg mb G) {n : Nat} (r : Room (n + 12) A) (st : Stays G s.heap) {R f : Addr} {rows : List Value} {kf : Value → Int} {t : Tok} {cnt : Int} {c₀ : Nat} (hc : cnt = c₀) (hc1 : c₀ ≠ 1) (hcn : c₀ < rows.length) (hR : PL s.heap R rows) (hz : rows.length < 64) (hk : KeyFn prog w s f rows kf)
    {ρ : Value → List Int} (htup : ∀ v ∈ rows, TI s.heap v (ρ v)) {q : List Nat} (hq : StSort (fun i => -kf (rows.getD i .none)) rows.length q) {Q : Value → Shared → Prop}
    (k : ∀ D s', Keep [] s s' → s.heap.get? D = none → PL s'.heap D ((q.take c₀).map fun i => rows.getD i .none) → Q (.ref D) s') :
    wpAny (model prog w) A (call (.ref 117) [.int cnt t, .ref R] [("key", .ref f)]) Q E s := by
  subst hc
  refine callFnCV (S := []) (n := n + 12) (binds := [("n", .int (c₀ : Int) t), ("iterable", .ref R), ("key", .ref f)]) T st (fun y hy => nomatch hy) (fun y hy => nomatch hy) r
    (by rfl) (by kernel_rfl!) (.of_defaults rfl (st _ _ (T.k _ _ (by rfl))) rfl rfl rfl) (by kernel_rfl!) (fun L s₁ m₀ cm₀ hm hcm c k0 hcn' => ?_)
  have pn : m₀ "n" = some (.int (c₀ : Int) t) := by rw [← hm]; rfl
  have pit : m₀ "iterable" = some (.ref R) := by rw [← hm]; rfl
  have pk : cm₀ "key" = some (.ref f) := by rw [← hcm]; rfl
  clear hm hcm
  have hh : (A.deeper c.theEnv).handled = none := r.hn
  have hcK : (c.theEnv).cells.lookup ("key" : Str) = some (L + 1) := rfl
  obtain ⟨row, hrow⟩ : ∃ row : Nat → Value, row = fun i => rows.getD i .none := ⟨_, rfl⟩
  have rowAt : ∀ (i : Nat) v, rows[i]? = some v → row i = v := fun i v hv => by rw [hrow]; show rows.getD i .none = v; rw [List.getD_eq_getElem?_getD, hv]; rfl
  have rowIn : ∀ i, i < rows.length → row i ∈ rows := fun i hi => by rw [rowAt i _ (List.getElem?_eq_getElem hi)]; exact List.getElem_mem hi
  have hq' : StSort (fun i => -kf (row i)) rows.length q := by rw [hrow]; exact hq
  refine seq (wpAny_If (wpAny_isTrue_Compare1 (c.ld pn (eInt fun _ u1 => cEq (wpAny_truthy_bool ?_)))))
  rw [if_neg (by simp; lia)]
  refine wpAny_execs_nil ?_
  have c1 := c.tk (t := u1)
  refine seq (wpAny_Try_except (seq (c1.asgK (callN (c1.ldB T (g_len T).1 (g_len T).2) (arg (c1.ld pit (arg0 (lenL (s := tk s₁ u1) (k0.pl0 hR) (by lia) fun _ u2 => ⟨_, _, c1.tk (t := u2), fun s₃ c3 e3 => ?_⟩))))))))
  refine wpAny_execs_nil ?_
  refine seq (wpAny_If (wpAny_isTrue_Compare1 (c3.ld pn (c3.ld rfl (cGe (wpAny_truthy_bool ?_))))))
  rw [if_neg (by simp; lia)]
  refine wpAny_execs_nil (wpAny_execs_nil ?_)
  have hR3 : PL s₃.heap R rows := hR.kp c3.kp (fun q => nomatch q)
  -- if key is None
  refine seq (wpAny_If (wpAny_isTrue_Compare1 (c3.ldC hcK pk (wpAny_Constant_none (is_ref_none (wpAny_truthy_bool ?_))))))
  rw [if_neg Bool.false_ne_true]
  refine wpAny_execs_nil ?_
  -- it = iter(iterable)
  refine seq (Cx.asg (callN (c3.ldB T (g_iter T).1 (g_iter T).2) (arg (c3.ld pit (arg0 (iterCall hR3 fun I s₄ k4 hI4 nI => ⟨_, _, c3.keep0 k4, fun s₅ c5 e5 => ?_⟩))))))
  have c4 := c3.keep0 k4
  have hIn : s.heap.get? I = none := c3.fresh nI
  have hI5 : s₅.heap.IsListIter I R 0 := IterL.pl hI4 (c4.plS e5)
  have hR5 : PL s₅.heap R rows := hR.kp c5.kp (fun q => nomatch q)
  have keyRun : ∀ v ∈ rows, ∀ s', Keep [] s s' → ∀ (Q' : Value → Shared → Prop) (E' : Value → Shared → Prop), (∀ t s'', Keep [] s' s'' → Q' (.int (kf v) t) s'') → wpAny (model prog w) (A.deeper c.theEnv) (call (.ref f) [v]) Q' E' s' :=
    fun v hv s' k' Q' E' hq => hk.run v hv _ s' ((r.deeper _).less (by lia)) k' Q' E' hq
  -- result = [..]
  refine seq (compTA (G := G) (S := []) (s0 := s) (cm := cm₀) (cl := [("key", L + 1)]) (by rfl) (by rfl) (by rfl) (by decide)
    (callN (c5.ldB T (g_zip T).1 (g_zip T).2) (arg (callN (c5.ldB T (g_range T).1 (g_range T).2) (arg (eInt fun _ _ => arg (wpAny_UnaryOp (c5.tk.ld pn (iNeg fun _ _ => arg (wpAny_UnaryOp (eInt fun _ _ => iNeg fun _ u6 => arg0 (range3 (s := tk s₅ u6) rfl fun rr s₆ k6 hr nr => ?_))))))))))))
  have c6 := (c5.tk (t := u6)).keep0 k6
  have hI6 : s₆.heap.IsListIter I R 0 := IterL.pl hI5 k6.toPl
  refine arg (c6.ld rfl (arg0 (zip_new hr (smallNeg c₀ (by lia)) (rangeSizeN c₀) hI6 fun z TI' TO i1 s₇ k7 hz7 hTI7 hTO7 h17 hne nz nTI nTO ni1 => wpAny_pyIter_zip hz7 ?_)))
  have c7 := c6.keep0 k7
  have hI7 : s₇.heap.IsListIter I R 0 := IterL.pl hI6 k7.toPl
  have hR7 : PL s₇.heap R rows := hR.kp c7.kp (fun q => nomatch q)
  have src := srcZ (prog := prog) (w := w) (A := A.deeper c.theEnv) (s0 := s) hh hz7 hTI7 hTO7 h17 hI7 hR7 hne (Nat.le_of_lt hcn) (by lia) c6.kp nz nTO ni1 hIn
  have wrNew : ∀ a ∈ [z, TO, i1, I], s.heap.get? a = none := fun a ha => (src.own a ha).1
  refine ⟨_, z, _, _, _, _, _, _, _, fun i y h => ∃ v b t0 t1, rows[i]? = some v ∧ y = .ref b ∧ IsTup h b (List.toArray [.int (kf v) t0, .int (-(i : Nat) : Int) t1, v]), fun cm => cm "key" = some (.ref f), upd (fun _ => none) "key" (.ref f), rfl, c7,
    ⟨src, c7.cellsIn (fun p hp => by rw [List.mem_singleton.mp hp]; exact ⟨rfl, pk.symm⟩), (fun n hn => by simp at hn), rfl,
      (fun i y h h' hkk ⟨v, b, t0, t1, h1, h2, ⟨o, ho, rr⟩⟩ => ⟨v, b, t0, t1, h1, h2, o, hkk b o h2 ho, rr⟩), ?_⟩, fun D l s₈ c8 hD8 nD k8 hlen hat hF => ?_⟩
  · rintro C i T' vals s' m' cm' hbig hi ⟨tt, y, hy, rfl⟩ hT' c' pc' st'
    have hy' : rows[i]? = some y := by simpa using hy
    have hx : (0 : Int) + (i : Int) * (-1) = -(i : Int) := by lia
    rw [hx] at hT'
    refine zipTurn (PC := fun cm => cm "key" = some (.ref f)) (R := fun y h => ∃ v b t0 t1, rows[i]? = some v ∧ y = .ref b ∧ IsTup h b (List.toArray [.int (kf v) t0, .int (-(i : Nat) : Int) t1, v])) (a := L + 1) (kv := kf y) c' hh hT' rfl pc' pc' (fun s'' k'' => ?_) (fun s'' k'' Q' hq => keyRun y (List.mem_of_getElem? hy') s'' (c7.kp.drop k'' wrNew) Q' _ hq) (fun b t0 t1 h ht => ⟨y, b, t0, t1, hy', rfl, ht⟩)
    obtain ⟨o, fd, ho, hd⟩ := hk.fn
    exact ⟨o, fd, (c7.kp.drop k'' wrNew).keep _ _ ho (fun q => nomatch q), hd⟩
  have nDs : s.heap.get? D = none := c7.fresh nD
  have hGD : G.get? D = none := st.none nDs
  -- if not result
  refine seq (wpAny_If (wpAny_isTrue_Not (wpAny_isTrue_value (c8.ld rfl (truthyL hD8 (by lia) fun u9 => ?_)))))
  by_cases h0 : c₀ = 0
  · have hl0 : l = [] := List.eq_nil_of_length_eq_zero (by lia)
    subst hl0
    rw [if_pos (by simp)]
    refine seq (wpAny_Return_some (c8.tk.ld rfl (k D _ c8.tk.kp nDs ?_)))
    subst h0
    exact hD8
  rw [if_neg (by simp; intro e; rw [e] at hlen; simp at hlen; lia)]
  refine wpAny_execs_nil ?_
  have c9 := c8.tk (t := u9)
  -- the places
  have inj : ∀ (i j : Nat) y, l[i]? = some y → l[j]? = some y → i = j := fun i j y hi hj => by
    obtain ⟨v, b, t0, t1, _, e1, o, ho, _, _, hd⟩ := hat i y hi
    obtain ⟨v', b', t0', t1', _, e1', o', ho', _, _, hd'⟩ := hat j y hj
    rw [e1] at e1'; cases e1'
    rw [ho] at ho'; cases ho'
    rw [hd] at hd'
    have e2 := congrArg (fun d : Data => match d with | .seq its _ => its.toList | _ => []) hd'
    simp only [List.cons.injEq, Value.int.injEq, and_true] at e2
    have := e2.2.1.1
    lia
  obtain ⟨ix, hix⟩ := pickFun inj
  obtain ⟨e, he⟩ : ∃ e : Value → Int × Int, e = fun y => (-kf (row (ix y)), (ix y : Int)) := ⟨_, rfl⟩
  have H8 : HI (fun i => -kf (row i)) c₀ c₀ c₀ e ix l := HI.start hlen fun i v hv => ⟨by rw [he]; show (-kf (row (ix v)), ((ix v : Nat) : Int)) = _; rw [hix i v hv], hix i v hv⟩
  have tup8 : ∀ v ∈ l, ∃ a t0 t1, v = .ref a ∧ IsTup s₈.heap a (List.toArray [.int (ng (e v)).1 t0, .int (ng (e v)).2 t1, row (ix v)]) := fun v hv => by
    obtain ⟨i, hi, rfl⟩ := List.getElem_of_mem hv
    obtain ⟨y, b, t0, t1, hy, e1, ht⟩ := hat i _ (List.getElem?_eq_getElem hi)
    have hii := hix i _ (List.getElem?_eq_getElem hi)
    refine ⟨b, t0, t1, e1, ?_⟩
    rw [he]
    show IsTup s₈.heap b (List.toArray [.int (- -kf (row (ix l[i]))) t0, .int (-((ix l[i] : Nat) : Int)) t1, row (ix l[i])])
    rw [hii, rowAt i y hy, Int.neg_neg]
    exact ht
  have h8 : Held s₈.heap D I R c₀ row l (fun v => ng (e v)) ix := ⟨hD8, hF, tup8⟩
  -- _heapify_max(result)
  refine seq (wpAny_Expr_any (callF (f := 63) (c9.ldG T (g_heapify T)) (arg (c9.ld rfl (arg0 ⟨⟨c9.stay _ _ (T.k _ _ (by rfl)), rfl⟩, ?_⟩)))))
  refine heapify_spec T (n := n) (κ := fun v => ng (e v)) ((r.deeper _).less (by lia)) c9.stay h8.pl hGD (fun v hv => h8.tupI hv) (nd_ng H8.enodup) (by lia) fun s₁₀ k10 hD10 => ?_
  rw [lt_ng e] at hD10
  have c10 := c9.after k10 (fun a ha => by rw [List.mem_singleton.mp ha]; exact ⟨.inr nDs, h8.pl.plain⟩) (fun a ha hb => nomatch hb) (news' := []) (fun _ q => nomatch q)
  have p10 := heapifyP_perm (lt := fun a b => plt (e b) (e a)) l
  have hp10 := heapifyP_heap (plt_ord' e) l
  have H10 := H8.perm p10
  have h10 : Held s₁₀.heap D I R c₀ row _ (fun v => ng (e v)) ix := Held.turn (s := tk s₈ u9) h8 k10 hD10 fun v hv => tup8 v (p10.mem_iff.mp hv)
  generalize heapifyP (fun a b => plt (e b) (e a)) l = l1 at hD10 p10 hp10 H10 h10
  clear p10 hD10
  obtain ⟨v0, hv0⟩ : ∃ v0, l1[0]? = some v0 := ⟨_, List.getElem?_eq_getElem (by rw [H10.len]; lia)⟩
  obtain ⟨a0, t0, t1, ea0, ha0⟩ := h10.tup v0 (List.mem_of_getElem? hv0)
  have hl1 := H10.len
  -- top, order, _heapreplace
  refine seq (c10.asgK (Subscript_ (Subscript_ (c10.ld rfl (eInt fun _ _ => itemL (s := tk _ _) h10.pl (j := 0) rfl hv0 (by lia) (eInt fun _ _ => itemV (s := tk _ _) ea0 ha0 (j := 0) rfl rfl (by simp) ⟨_, _, c10.tk, fun s₁₁ c11 e11 => ?_⟩))))))
  have h11 := h10.mv (c10.plS e11)
  refine seq (c11.asgK (wpAny_UnaryOp (c11.ld pn (iNeg fun t12 u12 => ⟨_, _, c11.tk (t := u12), fun s₁₂ c12 e12 => ?_⟩))))
  have h12 := h11.mv (c11.plS e12)
  refine seq (Cx.asg (c12.ldG T (g_heapreplace T) ⟨_, _, c12, fun s₁₃ c13 e13 => ?_⟩))
  have h13 := h12.mv (c12.plS e13)
  refine seq (wpAny_For (c13.ld rfl (wpAny_pyIter_listiter h13.it ?_)))
  refine forLoopF (NlI G s _ _ D I R rows.length c₀ row kf) (rows.length - c₀)
    ⟨c₀, c₀, l1, e, ix, _, v0, t0, t12, by lia, Nat.le_refl _, Nat.le_refl _, c13, rfl, rfl, rfl, rfl, hv0, h13, H10, hp10⟩ ?_
  clear h13 h12 h11 h10 H10 hp10 hv0 ha0 ea0 hl1 c13 c12 c11 c10 e11 e12 e13 k10 h8 tup8 H8 he hix inj hat hlen hD8 k8 hF c9 c8
  rintro J1 hJ1 kk s₁ ⟨j, o, l, e, ix, m, v0, tt, to, hjk, hcj, hoj, c1, m1, m2, m3, m4, hv0, h1, H1, hp1⟩
  have hR1 : PL s₁.heap R rows := hR.kp c1.kp (fun q => nomatch q)
  have hlen := H1.len
  refine nextL hh h1.it hR1 (fun v s₂ hv hI2 e2 k2 => ?_) (fun s₂ hi k2 => ?_)
  · have c2 : Cx G [] s _ m _ [] s₂ := c1.after k2 (fun a ha => by rw [List.mem_singleton.mp ha]; exact ⟨.inr hIn, listIter_plain h1.it⟩) (fun a ha hb => nomatch hb) (fun _ q => nomatch q)
    have hvm := List.mem_of_getElem? hv
    have hjN := (List.getElem?_eq_some_iff.mp hv).1
    have hkv : kf (row j) = kf v := by rw [rowAt j v hv]
    have h2 : Held s₂.heap D I R (j + 1) row l (fun v => ng (e v)) ix := ⟨h1.pl.kp k2 (fun q => iter_ne_list h1.it h1.pl (List.mem_singleton.mp q).symm), hI2, fun u hu => by
      obtain ⟨a, t0, t1, ea, oa, hoa, hca, ra⟩ := h1.tup u hu
      refine ⟨a, t0, t1, ea, oa, k2.keep _ _ hoa (fun q => ?_), hca, ra⟩
      obtain ⟨oI, hoI, hcI, _⟩ := h1.it
      rw [List.mem_singleton.mp q, hoI] at hoa; cases hoa
      rw [hcI] at hca; exact absurd hca (by decide)⟩
    refine wpAny_pure (wpAny_assign_Name (c2.sto fun s₃ c3 e3 => ?_))
    have h3 := h2.mv (c2.plS e3)
    -- k = key(elem)
    obtain ⟨of, fd, hof, hfd⟩ := hk.fn
    refine seq (c3.asgK (callF (f := f) (c3.ldC hcK pk) (arg (c3.ld rfl (arg0 ⟨⟨c3.kp.keep _ _ hof (fun q => nomatch q), hfd⟩, keyRun v hvm _ c3.kp _ _ fun t4 s₄ k4 => ⟨_, _, c3.keep0 k4, fun s₅ c5 e5 => ?_⟩⟩)))))
    have h5 := (h3.mv k4.toPl).mv ((c3.keep0 k4).plS e5)
    refine seq (wpAny_If (wpAny_isTrue_Compare1 (c5.ld m4 (c5.ld rfl (cLt (wpAny_truthy_bool ?_))))))
    by_cases hlt : (ng (e v0)).1 < kf v
    · rw [if_pos (decide_eq_true hlt)]
      refine seq (wpAny_Expr_any (callF (f := 56) (c5.ld (x := "_heapreplace") (v := .ref 56) m2) (arg (c5.ld m1 (arg (Tuple_ (arg (c5.ld rfl (arg (c5.ld m3 (arg (c5.ld rfl (arg0 (newT (by simp) fun X s₆ k6 hX nX => arg0 ⟨⟨(c5.keep0 k6).stay _ _ (T.k _ _ (by rfl)), rfl⟩, ?_⟩))))))))))))))
      have c6 := c5.keep0 k6
      have h6 := h5.mv k6.toPl
      have hXl : ∀ u ∈ l, u ≠ .ref X := fun u hu q => by
        obtain ⟨a, _, _, ea, oa, hoa, _⟩ := h5.tup u hu
        rw [q] at ea; cases ea
        rw [nX] at hoa; cases hoa
      obtain ⟨e', he'⟩ : ∃ e' : Value → Int × Int, e' = fun u => if u = .ref X then (-kf (row j), (o : Int)) else e u := ⟨_, rfl⟩
      obtain ⟨ix', hix'⟩ : ∃ ix' : Value → Nat, ix' = fun u => if u = .ref X then j else ix u := ⟨_, rfl⟩
      have eX : e' (.ref X) = (-kf (row j), (o : Int)) := by rw [he']; exact if_pos rfl
      have iX : ix' (.ref X) = j := by rw [hix']; exact if_pos rfl
      have el : ∀ u ∈ l, e' u = e u := fun u hu => by rw [he']; exact if_neg (hXl u hu)
      have il : ∀ u ∈ l, ix' u = ix u := fun u hu => by rw [hix']; exact if_neg (hXl u hu)
      clear he' hix'
      have hv0m := List.mem_of_getElem? hv0
      have hp6 := hp1.congr el
      have H6 := (H1.congr el il).replace hp6 hv0 (x := .ref X) eX iX (by lia) (by rw [el v0 hv0m]; show -kf (row j) < _; rw [hkv]; have hlt' : -(e v0).1 < kf v := hlt; lia)
      have p6 := replaceP_perm (lt := fun a b => plt (e' b) (e' a)) l (.ref X)
      have hp7 := replaceP_heap (x := .ref X) (plt_ord' e') (l := l) (by lia) hp6
      have tup6 : ∀ u ∈ l.set 0 (.ref X), ∃ a t0 t1, u = .ref a ∧ IsTup s₆.heap a (List.toArray [.int (ng (e' u)).1 t0, .int (ng (e' u)).2 t1, row (ix' u)]) := fun u hu => by
        rcases List.mem_or_eq_of_mem_set hu with hu | rfl
        · rw [el u hu, il u hu]; exact h6.tup u hu
        · refine ⟨X, t4, to, rfl, ?_⟩
          rw [eX, iX]
          show IsTup s₆.heap X (List.toArray [.int (- -kf (row j)) t4, .int (-(o : Int)) to, row j])
          rw [rowAt j v hv, Int.neg_neg]
          exact hX
      refine heapreplace_spec T (n := n) (κ := fun v => ng (e' v)) ((r.deeper _).less (by lia)) c6.stay h6.pl hGD hv0 (fun u hu => ?_) (nd_ng ((p6.map e').nodup_iff.mp H6.enodup)) (by lia) fun s₇ k7 hD7 => ?_
      · obtain ⟨a, t0, t1, ea, ht⟩ := tup6 u hu; exact ⟨a, t0, t1, _, ea, ht⟩
      rw [lt_ng e'] at hD7
      have c7 := c6.after k7 (fun a ha => by rw [List.mem_singleton.mp ha]; exact ⟨.inr nDs, h6.pl.plain⟩) (fun a ha hb => nomatch hb) (news' := []) (fun _ q => nomatch q)
      have h7 : Held s₇.heap D I R (j + 1) row _ (fun v => ng (e' v)) ix' := Held.turn h6 k7 hD7 fun u hu => tup6 u (p6.mem_iff.mp hu)
      generalize replaceP (fun a b => plt (e' b) (e' a)) l (.ref X) = l7 at H6 p6 hp7 hD7 h7
      have hl7 := H6.len
      obtain ⟨w0, hw0⟩ : ∃ w0, l7[0]? = some w0 := ⟨_, List.getElem?_eq_getElem (by lia)⟩
      obtain ⟨a7, t70, t71, ea7, ha7⟩ := h7.tup w0 (List.mem_of_getElem? hw0)
      -- top, _order, _elem = result[0]
      refine seq (Assign_Tuple (Subscript_ (c7.ld m1 (eInt fun _ u8 => itemL (s := tk _ _) h7.pl (j := 0) rfl hw0 (by lia) ((c7.tk (t := u8)).unpack3V ea7 hh ha7 fun s₉ c9 k9 => ?_)))))
      have h9 := h7.mv ((c7.tk (t := u8)).plL k9)
      refine seq (c9.augSub m3 fun t10 s₁₀ c10 e10 => ?_)
      have h10 := h9.mv (c9.plS e10)
      refine wpAny_execs_nil (wpAny_execs_nil ⟨kk - 1, by lia, hJ1 _ _ ⟨j + 1, o + 1, l7, e', ix', _, w0, t70, t10, by lia, by lia, by lia, c10, m1, m2, (by show some (Value.int (-(o : Int) - 1) t10) = _; rw [show -(o : Int) - 1 = -((o + 1 : Nat) : Int) by lia]), rfl, hw0, h10, ?_, hp7⟩⟩)
      exact H6
    · rw [if_neg (by simpa using hlt)]
      exact wpAny_execs_nil (wpAny_execs_nil ⟨kk - 1, by lia, hJ1 _ _ ⟨j + 1, o, l, e, ix, _, v0, tt, to, by lia, by lia, by lia, c5, m1, m2, m3, m4, hv0, h5, H1.skip hp1 hv0 (by show ¬ -kf (row j) < _; rw [hkv]; have hlt' : ¬ -(e v0).1 < kf v := hlt; lia), hp1⟩⟩)
  · have c2 : Cx G [] s _ m _ [] s₂ := c1.after k2 (fun a ha => by rw [List.mem_singleton.mp ha]; exact ⟨.inr hIn, listIter_plain h1.it⟩) (fun a ha hb => nomatch hb) (fun _ q => nomatch q)
    have hjN : j = rows.length := by lia
    subst hjN
    have hD2 : PL s₂.heap D l := h1.pl.kp k2 (fun q => iter_ne_list h1.it h1.pl (List.mem_singleton.mp q).symm)
    have tup2 : ∀ u ∈ l, ∃ a t0 t1, u = .ref a ∧ IsTup s₂.heap a (List.toArray [.int (ng (e u)).1 t0, .int (ng (e u)).2 t1, row (ix u)]) := fun u hu => by
      obtain ⟨a, t0, t1, ea, oa, hoa, hca, ra⟩ := h1.tup u hu
      refine ⟨a, t0, t1, ea, oa, k2.keep _ _ hoa (fun q => ?_), hca, ra⟩
      obtain ⟨oI, hoI, hcI, _⟩ := h1.it
      rw [List.mem_singleton.mp q, hoI] at hoa; cases hoa
      rw [hcI] at hca; exact absurd hca (by decide)
    have bnd : ∀ v ∈ l, -4096 < (e v).2 ∧ (e v).2 < 4096 := fun v hv => by
      have := H1.ord v hv; have := H1.pos v hv; lia
    obtain ⟨nD2, hoD⟩ := id hD2
    refine seq (wpAny_Expr_any (methodCall_KW (pl := do return (← importBound _ _).getD true) (c2.ld m1 (getMethod_list_of PySem.F.slot_list_sort PySem.F.type_list_sort hD2.isList ⟨_, hoD, rfl⟩ (callWith_builtin_kwB rfl rfl (PySem.evalArgs_kw_nil rfl (kws_cons (wpAny_Constant_bool (kws_nil (tsortRev_spec (κ := fun v => ng (e v)) (ρ := fun v => row (ix v)) (σ := fun v => ρ (row (ix v))) hD2 (by lia) (by lia) (fun v hv => ?_) (fun v hv u hu huv => ?_) (fun v hv => by have := bnd v hv; show -4096 < -(e v).2 ∧ -(e v).2 < 4096; lia) (by have := r.u; show A.units + 3 + 2 < _; lia) fun p s₃ hF k3 hD3 => ?_))))))))))
    · obtain ⟨a, t0, t1, ea, ht⟩ := tup2 v hv
      exact ⟨a, t0, t1, ea, ht, (htup _ (rowIn _ (H1.low v hv))).kp0 c2.kp⟩
    · have h1' := H1.mono v hv u hu
      have h2' := H1.mono u hu v hv
      rw [ng_inj huv] at h1' h2'
      have : ix v = ix u := by lia
      show ρ (row (ix v)) = ρ (row (ix u))
      rw [this]
    have c3 := c2.after k3 (fun a ha => by rw [List.mem_singleton.mp ha]; exact ⟨.inr nDs, hD2.plain⟩) (fun a ha hb => nomatch hb) (news' := []) (fun _ q => nomatch q)
    have S3 : StSort (fun a => enc (e (l.getD a .none))) c₀ (p.toList.reverse.map fun i => c₀ - 1 - i) := by
      have hF' := hF
      rw [hlen] at hF'
      refine hF'.stRev fun i hi => ?_
      show (l.map fun v => enc (ng (e v))).reverse.getD i 0 = _
      rw [List.getD_eq_getElem?_getD, List.getElem?_reverse (by rw [List.length_map]; lia), List.length_map, List.getElem?_map, List.getElem?_eq_getElem (by lia), List.getD_eq_getElem?_getD, List.getElem?_eq_getElem (by lia)]
      simp only [Option.map_some, Option.getD_some, hlen]
      exact enc_ng _
    have fin := H1.finish (d := Value.none) (Nat.le_of_lt hcn) bnd S3 hq'
    have hD3' : PL s₃.heap D ((p.toList.reverse.map fun i => c₀ - 1 - i).map fun a => l.getD a .none) := by
      rw [← hlen, ← revList (fun i hi => by have := hF.st.low i hi; exact this)]
      exact hD3
    have hl3 : ∀ v ∈ (p.toList.reverse.map fun i => c₀ - 1 - i).map (fun a => l.getD a .none), v ∈ l := fun v hv => by
      obtain ⟨a, ha, rfl⟩ := List.mem_map.mp hv
      have := S3.low a ha
      rw [List.getD_eq_getElem?_getD, List.getElem?_eq_getElem (by lia)]
      exact List.getElem_mem _
    have hl3n : ((p.toList.reverse.map fun i => c₀ - 1 - i).map fun a => l.getD a .none).length = c₀ := by rw [List.length_map, S3.len]
    generalize ((p.toList.reverse.map fun i => c₀ - 1 - i).map fun a => l.getD a .none) = l3 at fin hD3' hl3 hl3n
    have tup3 : ∀ u ∈ l3, ∃ a t0 t1, u = .ref a ∧ IsTup s₃.heap a (List.toArray [.int (ng (e u)).1 t0, .int (ng (e u)).2 t1, row (ix u)]) := fun u hu => by
      obtain ⟨a, t0, t1, ea, oa, hoa, hca, ra⟩ := tup2 u (hl3 u hu)
      refine ⟨a, t0, t1, ea, oa, k3.keep _ _ hoa (fun q => ?_), hca, ra⟩
      rw [List.mem_singleton.mp q, hoD] at hoa; cases hoa
      exact absurd (show Value.type "list" = Value.type "tuple" from hca) (by decide)
    refine seq (wpAny_Return_some (compLF (G := G) (S := []) (s0 := s) (cm := cm₀) (cl := []) hh (by rfl) (by rfl) (by decide) (c3.ld m1 ⟨D, l3, _, fun _ => true, fun i y _ => ∃ v, l3[i]? = some v ∧ y = row (ix v), fun _ => True, fun _ => none, rfl, c3, hD3', by lia,
      ⟨(fun n x q => nomatch q), (fun n n' x q => nomatch q)⟩, (fun n hn => by simp at hn), trivial, (fun _ _ _ _ _ h => h), ?_, fun D4 l4 s₄ c4 hD4 nD4 k4 hall => ?_⟩)))
    · intro I' s₅ C i v s' m' cm' hbig _ hv c' pc' hI' k'
      obtain ⟨a, t0, t1, ea, ht⟩ := tup3 v (List.mem_of_getElem? hv)
      refine c'.unpack3V ea hh (IsTup.kp0 k' ht) fun s₆ c6 k6 => ?_
      exact tests_nil ⟨rfl, c6.ld rfl ⟨⟨_, _, _, c6, trivial, k6, fun _ => ownL⟩, ⟨v, hv, rfl⟩, .inr fun _ => ⟨v, hv, rfl⟩⟩⟩
    · obtain ⟨hl4, hat4⟩ := hall.whole
      refine k D4 s₄ c4.kp (c3.fresh nD4) ?_
      have e4 : l4 = (q.take c₀).map fun i => rows.getD i .none := by
        rw [← hrow, ← fin, List.map_map]
        apply List.ext_getElem?
        intro i
        by_cases hi : i < l4.length
        · obtain ⟨v, hv, hy⟩ := hat4 i _ (List.getElem?_eq_getElem hi)
          rw [List.getElem?_eq_getElem hi, hy, List.getElem?_map, hv]
          rfl
        · rw [List.getElem?_eq_none (by lia), List.getElem?_eq_none (by rw [List.length_map]; lia)]
      rw [← e4]
      exact hD4
end
end Mine
end
section
open PySem PySem.W PyProof.Rows PySem.Calls
set_option maxRecDepth 100000
namespace Mine

section
variable {w : World} {prog : Program} {mg mb : Str → Option Value} {G : Heap} {A : Around} {E : Value → Shared → Prop} {s : Shared}

/-- nlargest: the first so many of the stable order -/
theorem nlargest_spec (T : GT w mg mb G) {n : Nat} (r : Room (n + 12) A) (st : Stays G s.heap) {R f : Addr} {rows : List Value} {kf : Value → Int} {t : Tok} {cnt : Int} {c₀ : Nat} (hc : cnt = c₀) (h2 : 2 ≤ rows.length) (hR : PL s.heap R rows) (hz : rows.length < 64) (hk : KeyFn prog w s f rows kf)
    {ρ : Value → List Int} (htup : ∀ v ∈ rows, TI s.heap v (ρ v)) {q : List Nat} (hq : StSort (fun i => -kf (rows.getD i .none)) rows.length q) {Q : Value → Shared → Prop}
    (k : ∀ D s', Keep [] s s' → s.heap.get? D = none → PL s'.heap D ((q.take c₀).map fun i => rows.getD i .none) → Q (.ref D) s') :
    wpAny (model prog w) A (call (.ref 117) [.int cnt t, .ref R] [("key", .ref f)]) Q E s := by
  by_cases hc1 : c₀ = 1
  · subst hc1
    subst hc
    refine nlargest_one T (n := n + 6) (r.less (by lia)) st hR (by lia) (by lia) hk (fun v hv => ⟨_, htup v hv⟩) fun D i v s' k' nD hv hmin hD => k D s' k' nD ?_
    have hi := (List.getElem?_eq_some_iff.mp hv).1
    have at_ : ∀ (j : Nat) u, rows[j]? = some u → rows.getD j .none = u := fun j u hu => by rw [List.getD_eq_getElem?_getD, hu]; rfl
    have := first_unique (κ := fun i => -kf (rows.getD i .none)) (N := rows.length) (p := [i]) (by simp; lia) (fun j hj => by rw [List.mem_singleton.mp hj]; exact hi) (List.pairwise_singleton _ _) (fun j hj hne h hh => ?_) hq
    · show PL s'.heap D ((q.take [i].length).map _)
      rw [← this]
      show PL s'.heap D [rows.getD i .none]
      rw [at_ i v hv]; exact hD
    · rw [List.mem_singleton.mp hh]
      have hne' : j ≠ i := fun e => hne (by rw [e]; exact .head _)
      have h1 := hmin j _ (List.getElem?_eq_getElem hj)
      show -kf (rows.getD i .none) < -kf (rows.getD j .none) ∨ (-kf (rows.getD i .none) = -kf (rows.getD j .none) ∧ i < j)
      rw [at_ i v hv, at_ j _ (List.getElem?_eq_getElem hj)]
      rcases Nat.lt_or_gt_of_ne hne' with q | q
      · have := h1.2 q; lia
      · have := h1.1; lia
  by_cases hcn : rows.length ≤ c₀
  · refine nlargest_all T (n := n + 6) (r.less (by lia)) st hc hc1 hcn hR h2 hz hk fun D p s' k' nD hF hD => k D s' k' nD ?_
    have S : StSort (fun i => -kf (rows.getD i .none)) rows.length (p.toList.reverse.map fun i => rows.length - 1 - i) := hF.stRev fun i hi => by
      show (rows.map kf).reverse.getD i 0 = _
      rw [List.getD_eq_getElem?_getD, List.getElem?_reverse (by rw [List.length_map]; exact hi), List.length_map, List.getElem?_map, List.getElem?_eq_getElem (by lia), List.getD_eq_getElem?_getD, List.getElem?_eq_getElem (by lia), Int.neg_neg]
      rfl
    rw [← S.unique hq, List.map_take, ← revList (fun i hi => hF.st.low i hi)]
    exact hD
  · exact nlargest_heap T (n := n) r st hc hc1 (by lia) hR hz hk htup hq k
end
end Mine
end
section
namespace Mine

/-! ## The plain law -/
section
variable {ks : List (Int × Int)} {x y z : List Int}

theorem cmp_anti : ∀ (ks : List (Int × Int)) (x y : List Int), cmpP ks y x = -cmpP ks x y
  | [], _, _ => rfl
  | (i, d) :: ks, x, y => by
    have ih := cmp_anti ks x y
    unfold cmpP
    generalize x.getD i.toNat 0 = a
    generalize y.getD i.toNat 0 = b
    by_cases h1 : a < b
    · rw [if_neg (by lia), if_pos h1, if_pos h1]; lia
    · by_cases h2 : b < a
      · rw [if_pos h2, if_neg h1, if_pos h2]
      · rw [if_neg h2, if_neg h1, if_neg h1, if_neg h2]; exact ih
theorem cmp_self (ks : List (Int × Int)) (x : List Int) : cmpP ks x x = 0 := by have := cmp_anti ks x x; lia
theorem cmp_sign : ∀ (ks : List (Int × Int)) (_ : ∀ p ∈ ks, p.2 = 1 ∨ p.2 = -1) (x y : List Int), cmpP ks x y = -1 ∨ cmpP ks x y = 0 ∨ cmpP ks x y = 1
  | [], _, _, _ => .inr (.inl rfl)
  | (i, d) :: ks, h, x, y => by
    have ih := cmp_sign ks (fun p hp => h p (.tail _ hp)) x y
    have hd : d = 1 ∨ d = -1 := h _ (.head _)
    unfold cmpP
    split
    · lia
    · split
      · lia
      · exact ih
theorem cmp_trans : ∀ (ks : List (Int × Int)) (_ : ∀ p ∈ ks, p.2 = 1 ∨ p.2 = -1) (x y z : List Int), cmpP ks x y ≤ 0 → cmpP ks y z ≤ 0 → cmpP ks x z ≤ 0 ∧ (cmpP ks x y < 0 ∨ cmpP ks y z < 0 → cmpP ks x z < 0)
  | [], _, _, _, _, _, _ => ⟨Int.le_refl _, fun h => h.elim (fun q => absurd q (Int.lt_irrefl _)) (fun q => absurd q (Int.lt_irrefl _))⟩
  | (i, d) :: ks, h, x, y, z, h1, h2 => by
    have ih := cmp_trans ks (fun p hp => h p (.tail _ hp)) x y z
    have hd : d = 1 ∨ d = -1 := h _ (.head _)
    unfold cmpP at h1 h2 ⊢
    generalize x.getD i.toNat 0 = a at *
    generalize y.getD i.toNat 0 = b at *
    generalize z.getD i.toNat 0 = c at *
    rcases hd with rfl | rfl <;> rcases Int.lt_trichotomy a b with q1 | q1 | q1 <;> rcases Int.lt_trichotomy b c with q2 | q2 | q2 <;> rcases Int.lt_trichotomy a c with q3 | q3 | q3 <;>
      first
        | (exfalso; lia)
        | (simp only [q1, q2, q3, Int.lt_irrefl, if_true, if_false] at h1 h2 ⊢; first | exact ih h1 h2 | (exfalso; lia) | lia)
        | (have n1 : ¬ b < a := by lia
           have n2 : ¬ c < b := by lia
           have n3 : ¬ c < a := by lia
           simp only [q1, q2, q3, n1, n2, n3, Int.lt_irrefl, if_true, if_false] at h1 h2 ⊢; first | exact ih h1 h2 | (exfalso; lia) | lia)
        | (have n1 : ¬ a < b := by lia
           have n2 : ¬ b < c := by lia
           have n3 : ¬ a < c := by lia
           simp only [q1, q2, q3, n1, n2, n3, Int.lt_irrefl, if_true, if_false] at h1 h2 ⊢; first | exact ih h1 h2 | (exfalso; lia) | lia)
theorem cmp_zero : ∀ (ks : List (Int × Int)) (_ : ∀ p ∈ ks, p.2 = 1 ∨ p.2 = -1) (x y : List Int), cmpP ks x y = 0 ↔ kcols ks x = kcols ks y
  | [], _, _, _ => ⟨fun _ => rfl, fun _ => rfl⟩
  | (i, d) :: ks, h, x, y => by
    have ih := cmp_zero ks (fun p hp => h p (.tail _ hp)) x y
    have hd : d = 1 ∨ d = -1 := h _ (.head _)
    unfold cmpP kcols
    rw [List.map_cons, List.map_cons, List.cons.injEq]
    show _ ↔ x.getD i.toNat 0 = y.getD i.toNat 0 ∧ kcols ks x = kcols ks y
    generalize x.getD i.toNat 0 = a
    generalize y.getD i.toNat 0 = b
    by_cases h1 : a < b
    · rw [if_pos h1]; constructor
      · intro q; lia
      · intro q; lia
    · by_cases h2 : b < a
      · rw [if_neg h1, if_pos h2]; constructor
        · intro q; lia
        · intro q; lia
      · rw [if_neg h1, if_neg h2, ih]
        exact ⟨fun q => ⟨by lia, q⟩, fun q => q.2⟩
noncomputable def negK (ks : List (Int × Int)) : List (Int × Int) := ks.map fun p => (p.1, -p.2)
theorem cmp_neg : ∀ (ks : List (Int × Int)) (x y : List Int), cmpP (negK ks) x y = -cmpP ks x y
  | [], _, _ => rfl
  | (i, d) :: ks, x, y => by
    have ih := cmp_neg ks x y
    show (if x.getD i.toNat 0 < y.getD i.toNat 0 then - -d else if y.getD i.toNat 0 < x.getD i.toNat 0 then -d else cmpP (negK ks) x y) = -(if x.getD i.toNat 0 < y.getD i.toNat 0 then -d else if y.getD i.toNat 0 < x.getD i.toNat 0 then d else cmpP ks x y)
    split
    · rfl
    · split
      · rfl
      · exact ih
end

theorem filter_lt {α : Type} {p q : α → Bool} : ∀ (l : List α), (∀ k ∈ l, p k = true → q k = true) → (∃ k ∈ l, q k = true ∧ p k = false) → (l.filter p).length < (l.filter q).length
  | [], _, h => by obtain ⟨k, hk, _⟩ := h; cases hk
  | a :: l, h, he => by
    have hle : ∀ l : List α, (∀ k ∈ l, p k = true → q k = true) → (l.filter p).length ≤ (l.filter q).length := fun l => by
      induction l with
      | nil => intro _; exact Nat.le_refl _
      | cons b l ih =>
        intro h
        have := ih fun k hk => h k (.tail _ hk)
        rw [List.filter_cons, List.filter_cons]
        have hb := h b (.head _)
        cases hp : p b
        · cases hq : q b
          · rw [if_neg Bool.false_ne_true, if_neg Bool.false_ne_true]; exact this
          · rw [if_neg Bool.false_ne_true, if_pos rfl, List.length_cons]; lia
        · rw [hb hp, if_pos rfl, if_pos rfl, List.length_cons, List.length_cons]; lia
    have h' : ∀ k ∈ l, p k = true → q k = true := fun k hk => h k (.tail _ hk)
    rw [List.filter_cons, List.filter_cons]
    obtain ⟨k, hk, hq, hp⟩ := he
    rcases List.mem_cons.mp hk with rfl | hk
    · rw [hp, hq, if_neg Bool.false_ne_true, if_pos rfl, List.length_cons]
      have := hle l h'
      lia
    · have ih := filter_lt l h' ⟨k, hk, hq, hp⟩
      have ha := h a (.head _)
      cases hpa : p a
      · cases hqa : q a
        · rw [if_neg Bool.false_ne_true, if_neg Bool.false_ne_true]; exact ih
        · rw [if_neg Bool.false_ne_true, if_pos rfl, List.length_cons]; lia
      · rw [ha hpa, if_pos rfl, if_pos rfl, List.length_cons, List.length_cons]; lia

section
variable {ks : List (Int × Int)} {rx : Nat → List Int} {N : Nat}

/-- how many rows stand ahead of row i -/
noncomputable def rk (ks : List (Int × Int)) (rx : Nat → List Int) (N i : Nat) : Nat := ((List.range N).filter fun k => decide (cmpP ks (rx k) (rx i) < 0)).length

theorem rk_lt (hd : ∀ p ∈ ks, p.2 = 1 ∨ p.2 = -1) {i j : Nat} (hi : i < N) (h : cmpP ks (rx i) (rx j) < 0) : rk ks rx N i < rk ks rx N j := by
  unfold rk
  refine filter_lt _ (fun k _ hk => ?_) ⟨i, List.mem_range.mpr hi, decide_eq_true h, decide_eq_false (by rw [cmp_self]; exact Int.lt_irrefl _)⟩
  have hk' := of_decide_eq_true hk
  exact decide_eq_true ((cmp_trans ks hd _ _ _ (by lia) (by lia)).2 (.inl hk'))
theorem rk_eq (hd : ∀ p ∈ ks, p.2 = 1 ∨ p.2 = -1) {i j : Nat} (h : cmpP ks (rx i) (rx j) = 0) : rk ks rx N i = rk ks rx N j := by
  unfold rk
  congr 1
  refine List.filter_congr fun k _ => decide_eq_decide.mpr ?_
  have h' : cmpP ks (rx j) (rx i) = 0 := by rw [cmp_anti, h]; rfl
  constructor
  · intro hk; exact (cmp_trans ks hd (rx k) (rx i) (rx j) (by lia) (by lia)).2 (.inl hk)
  · intro hk; exact (cmp_trans ks hd (rx k) (rx j) (rx i) (by lia) (by lia)).2 (.inl hk)
theorem rk_cmp (hd : ∀ p ∈ ks, p.2 = 1 ∨ p.2 = -1) {i j : Nat} (hi : i < N) (hj : j < N) : (cmpP ks (rx i) (rx j) < 0 ↔ rk ks rx N i < rk ks rx N j) ∧ (cmpP ks (rx i) (rx j) = 0 ↔ rk ks rx N i = rk ks rx N j) := by
  have ha := cmp_anti ks (rx i) (rx j)
  rcases cmp_sign ks hd (rx i) (rx j) with h | h | h
  · have := rk_lt hd hi (by lia : cmpP ks (rx i) (rx j) < 0); lia
  · have := rk_eq (N := N) hd h; lia
  · have := rk_lt hd hj (by lia : cmpP ks (rx j) (rx i) < 0); lia
theorem rk_le {i : Nat} (hi : i < N) : rk ks rx N i < N := by
  unfold rk
  have h := filter_lt (p := fun k => decide (cmpP ks (rx k) (rx i) < 0)) (q := fun _ => true) (List.range N) (fun _ _ _ => rfl) ⟨i, List.mem_range.mpr hi, rfl, decide_eq_false (by rw [cmp_self]; exact Int.lt_irrefl _)⟩
  rw [List.filter_eq_self.mpr (fun _ _ => rfl), List.length_range] at h
  exact h

/-- compare tells the ranks -/
theorem cmp_rk (hd : ∀ p ∈ ks, p.2 = 1 ∨ p.2 = -1) {i j : Nat} (hi : i < N) (hj : j < N) :
    cmpP ks (rx i) (rx j) = (if rk ks rx N j < rk ks rx N i then 1 else 0) - (if rk ks rx N i < rk ks rx N j then 1 else 0) := by
  have h1 := rk_cmp (rx := rx) hd hi hj
  have ha := cmp_anti ks (rx i) (rx j)
  rcases cmp_sign ks hd (rx i) (rx j) with h | h | h
  · rw [if_neg (by lia), if_pos (by lia)]; lia
  · rw [if_neg (by lia), if_neg (by lia)]; lia
  · have h2 := rk_cmp (rx := rx) hd hj hi
    rw [if_pos (by lia), if_neg (by lia)]; lia

/-- one column's pass, on places -/
noncomputable def passN (rx : Nat → List Int) (k : Int × Int) (l : List Nat) : List Nat := (List.range 4).flatMap fun j : Nat => l.filter fun i => (rx i).getD k.1.toNat 0 == r4 k.2 + (j : Int) * k.2
noncomputable def byN (rx : Nat → List Int) (keys : List (Int × Int)) (l : List Nat) : List Nat := keys.reverse.foldl (fun rs k => passN rx k rs) l

theorem colPass_map {ρ : PySem.Value → List Int} {row : Nat → PySem.Value} (k : Int × Int) (l : List Nat) : colPass ρ k (l.map row) = (passN (fun i => ρ (row i)) k l).map row := by
  unfold colPass passN
  rw [List.map_flatMap]
  congr 1
  funext j
  rw [List.filter_map]
  rfl
theorem fold_map {ρ : PySem.Value → List Int} {row : Nat → PySem.Value} : ∀ (ks : List (Int × Int)) (l : List Nat), ks.foldl (fun rs k => colPass ρ k rs) (l.map row) = (ks.foldl (fun rs k => passN (fun i => ρ (row i)) k rs) l).map row
  | [], _ => rfl
  | k :: ks, l => by rw [List.foldl_cons, List.foldl_cons, colPass_map]; exact fold_map ks _
theorem byCol_map {ρ : PySem.Value → List Int} {row : Nat → PySem.Value} (ks : List (Int × Int)) (l : List Nat) : byColP ρ ks (l.map row) = (byN (fun i => ρ (row i)) ks l).map row := fold_map _ _

theorem byN_cons (k : Int × Int) (ks : List (Int × Int)) (l : List Nat) : byN rx (k :: ks) l = passN rx k (byN rx ks l) := by
  unfold byN
  rw [List.reverse_cons, List.foldl_append]
  rfl

theorem pass_mem {k : Int × Int} {l : List Nat} (hd : k.2 = 1 ∨ k.2 = -1) {i : Nat} (hc : i ∈ l → 0 ≤ (rx i).getD k.1.toNat 0 ∧ (rx i).getD k.1.toNat 0 < 4) : i ∈ passN rx k l ↔ i ∈ l := by
  unfold passN
  rw [List.mem_flatMap]
  constructor
  · rintro ⟨j, _, h⟩; exact (List.mem_filter.mp h).1
  · intro h
    obtain ⟨h0, h4⟩ := hc h
    generalize he : (rx i).getD k.1.toNat 0 = a at h0 h4
    rcases hd with hd | hd
    · refine ⟨a.toNat, List.mem_range.mpr (by lia), List.mem_filter.mpr ⟨h, ?_⟩⟩
      rw [he, hd]; unfold r4; simp; lia
    · refine ⟨(3 - a).toNat, List.mem_range.mpr (by lia), List.mem_filter.mpr ⟨h, ?_⟩⟩
      rw [he, hd]; unfold r4; simp; lia

noncomputable def soK (ks : List (Int × Int)) (rx : Nat → List Int) (i j : Nat) : Prop := cmpP ks (rx i) (rx j) < 0 ∨ (cmpP ks (rx i) (rx j) = 0 ∧ i < j)

theorem pass_sorted {k : Int × Int} {l : List Nat} (hd : k.2 = 1 ∨ k.2 = -1) (hs : l.Pairwise (soK ks rx)) : (passN rx k l).Pairwise (soK (k :: ks) rx) := by
  unfold passN
  rw [List.pairwise_flatMap]
  constructor
  · intro j _
    refine List.Pairwise.imp_of_mem (fun {a b} ha hb h => ?_) (hs.filter _)
    have e1 : (rx a).getD k.1.toNat 0 = r4 k.2 + (j : Int) * k.2 := by simpa using (List.mem_filter.mp ha).2
    have e2 : (rx b).getD k.1.toNat 0 = r4 k.2 + (j : Int) * k.2 := by simpa using (List.mem_filter.mp hb).2
    have e : cmpP (k :: ks) (rx a) (rx b) = cmpP ks (rx a) (rx b) := by
      obtain ⟨i, d⟩ := k
      show (if (rx a).getD i.toNat 0 < (rx b).getD i.toNat 0 then _ else if (rx b).getD i.toNat 0 < (rx a).getD i.toNat 0 then _ else _) = _
      simp only at e1 e2
      rw [e1, e2, if_neg (Int.lt_irrefl _), if_neg (Int.lt_irrefl _)]
    unfold soK
    rw [e]; exact h
  · rw [List.pairwise_iff_getElem]
    intro j j' hj hj' hjj a ha b hb
    rw [List.getElem_range] at ha hb
    have e1 : (rx a).getD k.1.toNat 0 = r4 k.2 + (j : Int) * k.2 := by simpa using (List.mem_filter.mp ha).2
    have e2 : (rx b).getD k.1.toNat 0 = r4 k.2 + (j' : Int) * k.2 := by simpa using (List.mem_filter.mp hb).2
    refine .inl ?_
    obtain ⟨i, d⟩ := k
    show (if (rx a).getD i.toNat 0 < (rx b).getD i.toNat 0 then -d else if (rx b).getD i.toNat 0 < (rx a).getD i.toNat 0 then d else _) < 0
    simp only at e1 e2 hd
    rw [e1, e2]
    rcases hd with rfl | rfl
    · rw [if_pos (by lia)]; decide
    · rw [if_neg (by lia), if_pos (by lia)]; decide

theorem byN_facts : ∀ (ks : List (Int × Int)), (∀ p ∈ ks, p.2 = 1 ∨ p.2 = -1) → (∀ i, i < N → ∀ p ∈ ks, 0 ≤ (rx i).getD p.1.toNat 0 ∧ (rx i).getD p.1.toNat 0 < 4) →
    (∀ i, i ∈ byN rx ks (List.range N) ↔ i < N) ∧ (byN rx ks (List.range N)).Pairwise (soK ks rx)
  | [], _, _ => ⟨fun i => List.mem_range, by
      show (List.range N).Pairwise _
      exact List.pairwise_lt_range.imp fun {a b} h => .inr ⟨rfl, h⟩⟩
  | k :: ks, hd, hc => by
    obtain ⟨h1, h2⟩ := byN_facts ks (fun p hp => hd p (.tail _ hp)) (fun i hi p hp => hc i hi p (.tail _ hp))
    rw [byN_cons]
    refine ⟨fun i => ?_, pass_sorted (hd k (.head _)) h2⟩
    rw [pass_mem (hd k (.head _)) (fun hi => hc i ((h1 i).mp hi) k (.head _)), h1]

theorem stOf {κ : Nat → Int} {q : List Nat} (hm : ∀ i, i ∈ q ↔ i < N) (hs : q.Pairwise (so κ)) : StSort κ N q := by
  have hnd : q.Nodup := by
    unfold List.Nodup
    exact hs.imp (S := fun a b => a ≠ b) fun {a b} h (e : a = b) => so_irrefl b (by rw [e] at h; exact h)
  refine ⟨Nat.le_antisymm (nodup_len_le hnd fun i hi => (hm i).mp hi) ?_, fun i hi => (hm i).mp hi, hs⟩
  have := List.Nodup.length_le_of_subset (List.nodup_range (n := N)) (l₂ := q) fun i hi => (hm i).mpr (List.mem_range.mp hi)
  simpa using this

/-- the sorting column by column is the stable order by rank -/
theorem due_st (hd : ∀ p ∈ ks, p.2 = 1 ∨ p.2 = -1) (hc : ∀ i, i < N → ∀ p ∈ ks, 0 ≤ (rx i).getD p.1.toNat 0 ∧ (rx i).getD p.1.toNat 0 < 4) : StSort (fun i => (rk ks rx N i : Int)) N (byN rx ks (List.range N)) := by
  obtain ⟨h1, h2⟩ := byN_facts (rx := rx) (N := N) ks hd hc
  refine stOf h1 (List.Pairwise.imp_of_mem (fun {a b} ha hb h => ?_) h2)
  have := rk_cmp (rx := rx) hd ((h1 a).mp ha) ((h1 b).mp hb)
  unfold soK at h
  show (rk ks rx N a : Int) < rk ks rx N b ∨ ((rk ks rx N a : Int) = rk ks rx N b ∧ a < b)
  lia

theorem negK_dir (hd : ∀ p ∈ ks, p.2 = 1 ∨ p.2 = -1) : ∀ p ∈ negK ks, p.2 = 1 ∨ p.2 = -1 := fun p hp => by
  obtain ⟨q, hq, rfl⟩ := List.mem_map.mp hp
  have := hd q hq
  show -q.2 = 1 ∨ -q.2 = -1
  lia

theorem turned_st (hd : ∀ p ∈ ks, p.2 = 1 ∨ p.2 = -1) (hc : ∀ i, i < N → ∀ p ∈ ks, 0 ≤ (rx i).getD p.1.toNat 0 ∧ (rx i).getD p.1.toNat 0 < 4) : StSort (fun i => -(rk ks rx N i : Int)) N (byN rx (negK ks) (List.range N)) := by
  obtain ⟨h1, h2⟩ := byN_facts (rx := rx) (N := N) (negK ks) (negK_dir hd) (fun i hi p hp => by obtain ⟨q, hq, rfl⟩ := List.mem_map.mp hp; exact hc i hi q hq)
  refine stOf h1 (List.Pairwise.imp_of_mem (fun {a b} ha hb h => ?_) h2)
  have := rk_cmp (rx := rx) hd ((h1 a).mp ha) ((h1 b).mp hb)
  unfold soK at h
  rw [cmp_neg] at h
  have ha := cmp_anti ks (rx a) (rx b)
  have hs := cmp_sign ks hd (rx a) (rx b)
  have h2 := rk_cmp (rx := rx) hd ((h1 b).mp hb) ((h1 a).mp ‹a ∈ _›)
  show -(rk ks rx N a : Int) < -(rk ks rx N b : Int) ∨ (-(rk ks rx N a : Int) = -(rk ks rx N b : Int) ∧ a < b)
  lia

theorem sorted_split {κ : Nat → Int} (v : Int) : ∀ (q : List Nat), q.Pairwise (so κ) → q = q.filter (fun k => decide (κ k < v)) ++ q.filter (fun k => !decide (κ k < v))
  | [], _ => rfl
  | a :: r, h => by
    obtain ⟨h1, h2⟩ := List.pairwise_cons.mp h
    have ih := sorted_split v r h2
    by_cases ha : κ a < v
    · rw [List.filter_cons_of_pos (by simpa using ha), List.filter_cons_of_neg (by simpa using ha), List.cons_append, ← ih]
    · have hall : ∀ k ∈ a :: r, ¬ κ k < v := fun k hk => by
        rcases List.mem_cons.mp hk with rfl | hk
        · exact ha
        · have := h1 k hk; unfold so at this; lia
      rw [List.filter_eq_nil_iff.mpr (fun k hk => by simpa using Int.not_lt.mp (hall k hk)), List.nil_append, List.filter_eq_self.mpr (fun k hk => by simpa using Int.not_lt.mp (hall k hk))]

/-- the place of the first row like row i -/
theorem told_place (hd : ∀ p ∈ ks, p.2 = 1 ∨ p.2 = -1) {q : List Nat} (S : StSort (fun i => (rk ks rx N i : Int)) N q) {i : Nat} (hi : i < N) :
    ∃ i', q[rk ks rx N i]? = some i' ∧ i' < N ∧ kcols ks (rx i') = kcols ks (rx i) ∧ ∀ (j : Nat) k, j < rk ks rx N i → q[j]? = some k → k < N ∧ kcols ks (rx k) ≠ kcols ks (rx i) := by
  have hsp := sorted_split (rk ks rx N i : Int) q S.sorted
  have hlen : (q.filter fun k => decide ((rk ks rx N k : Int) < (rk ks rx N i : Int))).length = rk ks rx N i := by
    have hp : q.Perm (List.range N) := (List.perm_ext_iff_of_nodup S.nodup List.nodup_range).mpr fun k => ⟨fun h => List.mem_range.mpr (S.low k h), fun h => S.mem (List.mem_range.mp h)⟩
    rw [(hp.filter _).length_eq]
    conv => rhs; unfold rk
    congr 1
    refine List.filter_congr fun k hk => decide_eq_decide.mpr ?_
    have := rk_cmp (rx := rx) hd (List.mem_range.mp hk) hi
    lia
  have hmem : i ∈ q.filter (fun k => !decide ((rk ks rx N k : Int) < (rk ks rx N i : Int))) := List.mem_filter.mpr ⟨S.mem hi, by simp⟩
  generalize ha : q.filter (fun k => decide ((rk ks rx N k : Int) < (rk ks rx N i : Int))) = fa at hsp hlen
  generalize hb : q.filter (fun k => !decide ((rk ks rx N k : Int) < (rk ks rx N i : Int))) = fb at hsp hmem
  cases fb with
  | nil => cases hmem
  | cons i' r =>
    have hsr := S.sorted
    rw [hsp] at hsr
    obtain ⟨_, hsr2, _⟩ := List.pairwise_append.mp hsr
    obtain ⟨hh, _⟩ := List.pairwise_cons.mp hsr2
    have mi' : i' ∈ q.filter (fun k => !decide ((rk ks rx N k : Int) < (rk ks rx N i : Int))) := by rw [hb]; exact .head _
    have hi' := S.low i' (List.mem_filter.mp mi').1
    have hge : ¬ (rk ks rx N i' : Int) < rk ks rx N i := by simpa using (List.mem_filter.mp mi').2
    have hle : (rk ks rx N i' : Int) ≤ rk ks rx N i := by
      rcases List.mem_cons.mp hmem with e | e
      · rw [e]; exact Int.le_refl _
      · have : (rk ks rx N i' : Int) < rk ks rx N i ∨ ((rk ks rx N i' : Int) = rk ks rx N i ∧ i' < i) := hh i e
        lia
    refine ⟨i', ?_, hi', ?_, fun j k hj hk => ?_⟩
    · rw [hsp, List.getElem?_append_right (by lia), hlen, Nat.sub_self]; rfl
    · rw [← cmp_zero ks hd]
      exact (rk_cmp (rx := rx) hd hi' hi).2.mpr (by lia)
    · rw [hsp, List.getElem?_append_left (by lia)] at hk
      have mk : k ∈ q.filter (fun k => decide ((rk ks rx N k : Int) < (rk ks rx N i : Int))) := by rw [ha]; exact List.mem_of_getElem? hk
      have hkN := S.low k (List.mem_filter.mp mk).1
      have hlt : (rk ks rx N k : Int) < rk ks rx N i := by simpa using (List.mem_filter.mp mk).2
      refine ⟨hkN, fun e => ?_⟩
      rw [← cmp_zero ks hd] at e
      have := (rk_cmp (rx := rx) hd hkN hi).2.mp e
      lia

theorem pass_len {ρ : PySem.Value → List Int} (k : Int × Int) (l : List PySem.Value) : (colPass ρ k l).length ≤ 4 * l.length := by
  have h : ∀ j : Nat, ((List.range j).flatMap fun j : Nat => l.filter fun v => (ρ v).getD k.1.toNat 0 == r4 k.2 + (j : Int) * k.2).length ≤ j * l.length := fun j => by
    induction j with
    | zero => simp
    | succ j ih =>
      rw [List.range_succ, List.flatMap_append, List.length_append, Nat.succ_mul]
      have := List.length_filter_le (fun v => (ρ v).getD k.1.toNat 0 == r4 k.2 + (j : Int) * k.2) l
      simp only [List.flatMap_cons, List.flatMap_nil, List.append_nil]
      lia
  exact h 4
theorem fold_len {ρ : PySem.Value → List Int} : ∀ (ks : List (Int × Int)) (l : List PySem.Value), (ks.foldl (fun rs k => colPass ρ k rs) l).length ≤ 4 ^ ks.length * l.length
  | [], l => by simp
  | k :: ks, l => by
    rw [List.foldl_cons, List.length_cons, Nat.pow_succ]
    refine Nat.le_trans (fold_len ks _) ?_
    rw [Nat.mul_assoc]
    exact Nat.mul_le_mul_left _ (pass_len k l)
end
end Mine
end
section
namespace Mine

section
variable {α : Type}

/-- j things are popped: the places p; l is left -/
structure Pops (κ : Nat → Int) (N j : Nat) (e : α → Int × Int) (ix : α → Nat) (l : List α) (p : List Nat) : Prop where
  len : p.length = j
  left : l.length + j = N
  srt : p.Pairwise (so κ)
  bef : ∀ h ∈ p, ∀ v ∈ l, so κ h (ix v)
  key : ∀ v ∈ l, e v = (κ (ix v), (ix v : Int))
  mem : ∀ i, i < N ↔ i ∈ p ∨ i ∈ l.map ix
  nd : (l.map ix).Nodup
  hp : Hp (fun a b => plt (e a) (e b)) l 0

variable {κ : Nat → Int} {N j : Nat} {e : α → Int × Int} {ix : α → Nat} {l : List α} {p : List Nat}

theorem Pops.start {l₀ : List α} (hl : l₀.length = N) (h : ∀ (i : Nat) v, l₀[i]? = some v → e v = (κ i, (i : Int)) ∧ ix v = i) (hp : l.Perm l₀) (hh : Hp (fun a b => plt (e a) (e b)) l 0) : Pops κ N 0 e ix l [] := by
  have H := (HI.start hl h).perm hp
  refine ⟨rfl, by rw [hp.length_eq, hl]; rfl, .nil, (fun _ q => nomatch q), fun v hv => ?_, fun i => ?_, H.inj, hh⟩
  · obtain ⟨i, hi, rfl⟩ := List.getElem_of_mem (hp.mem_iff.mp hv)
    obtain ⟨h1, h2⟩ := h i _ (List.getElem?_eq_getElem hi)
    rw [h1, h2]
  · constructor
    · intro hi
      refine .inr ((hp.map ix).mem_iff.mpr (List.mem_map.mpr ⟨l₀[i]'(by lia), List.getElem_mem _, (h i _ (List.getElem?_eq_getElem (by lia))).2⟩))
    · rintro (q | q)
      · cases q
      · obtain ⟨v, hv, rfl⟩ := List.mem_map.mp q
        exact H.low v hv

theorem Pops.enodup (P : Pops κ N j e ix l p) : (l.map e).Nodup := by
  have h := P.nd
  unfold List.Nodup at *
  rw [List.pairwise_map] at *
  refine List.Pairwise.imp_of_mem (fun {a b} ha hb hne he => hne ?_) h
  rw [P.key a ha, P.key b hb] at he
  have := congrArg Prod.snd he
  simp only at this
  lia

theorem Pops.step (P : Pops κ N j e ix l p) {v0 : α} (h0 : l[0]? = some v0) : Pops κ N (j + 1) e ix (popRest (fun a b => plt (e a) (e b)) l) (p ++ [ix v0]) := by
  obtain ⟨hp, hh⟩ := popRest_facts (plt_ord e) P.hp h0
  generalize popRest (fun a b => plt (e a) (e b)) l = r at hp hh
  have m0 : v0 ∈ l := List.mem_of_getElem? h0
  have mr : ∀ v ∈ r, v ∈ l := fun v hv => hp.mem_iff.mpr (.tail _ hv)
  have hnd := (hp.map ix).nodup_iff.mp P.nd
  rw [List.map_cons, List.nodup_cons] at hnd
  have hl := hp.length_eq
  rw [List.length_cons] at hl
  have hleft := P.left
  refine ⟨by rw [List.length_append, P.len]; rfl, by lia, ?_, fun h hm v hv => ?_, fun v hv => P.key v (mr v hv), fun i => ?_, hnd.2, hh⟩
  · rw [List.pairwise_append]
    refine ⟨P.srt, List.pairwise_singleton _ _, fun a ha b hb => ?_⟩
    rw [List.mem_singleton.mp hb]
    exact P.bef a ha v0 m0
  · rcases List.mem_append.mp hm with hm | hm
    · exact P.bef h hm v (mr v hv)
    · rw [List.mem_singleton.mp hm]
      have hne : ix v ≠ ix v0 := fun q => hnd.1 (by rw [← q]; exact List.mem_map.mpr ⟨v, hv, rfl⟩)
      obtain ⟨i, hi, hiv⟩ := List.getElem_of_mem (mr v hv)
      have hr := Hp.root (plt_ord e) P.hp h0 i v (by rw [List.getElem?_eq_getElem hi, hiv])
      rw [plt_ff, P.key v (mr v hv), P.key v0 m0] at hr
      simp only at hr
      unfold so
      lia
  · rw [P.mem i, (hp.map ix).mem_iff, List.map_cons, List.mem_cons, List.mem_append, List.mem_singleton]
    constructor
    · rintro (q | q | q)
      · exact .inl (.inl q)
      · exact .inl (.inr q)
      · exact .inr q
    · rintro ((q | q) | q)
      · exact .inl q
      · exact .inr (.inl q)
      · exact .inr (.inr q)

theorem Pops.done (P : Pops κ N N e ix l p) {q : List Nat} (S : StSort κ N q) : l = [] ∧ p = q := by
  have hl : l = [] := List.eq_nil_of_length_eq_zero (by have := P.left; lia)
  subst hl
  refine ⟨rfl, StSort.unique ⟨P.len, fun i hi => (P.mem i).mpr (.inl hi), P.srt⟩ S⟩
end
end Mine
end
section
open PySem PySem.W PyProof.Rows PySem.Calls
set_option maxRecDepth 100000
namespace Mine

section
variable {w : World} {mg mb : Str → Option Value} {G : Heap} (T : GT w mg mb G)
include T
theorem g_TupleComp : mg "TupleComp" = some (.ref 38) := mgA T (by kernel_rfl!)
theorem g_nsmallest : mg "nsmallest" = some (.ref 111) := mgA T (by kernel_rfl!)
theorem g_nlargest : mg "nlargest" = some (.ref 117) := mgA T (by kernel_rfl!)
theorem g_by_columns : mg "_law_by_columns" = some (.ref 122) := mgA T (by kernel_rfl!)
theorem g_told_rank : mg "_law_told_rank" = some (.ref 127) := mgA T (by kernel_rfl!)
theorem g_heappop : mg "heappop" = some (.ref 49) := mgA T (by kernel_rfl!)
theorem g_sum : mg "sum" = none ∧ mb "sum" = some (.builtin "sum") := ⟨mgN T (by kernel_rfl!), (T.bi _ (by decide)).trans (by kernel_rfl!)⟩
theorem g_enumerate : mg "enumerate" = none ∧ mb "enumerate" = some (.type "enumerate") := ⟨mgN T (by kernel_rfl!), (T.bi _ (by decide)).trans (by kernel_rfl!)⟩
theorem g_tuple : mg "tuple" = none ∧ mb "tuple" = some (.type "tuple") := ⟨mgN T (by kernel_rfl!), (T.bi _ (by decide)).trans (by kernel_rfl!)⟩
end

theorem enum_plain {h : Heap} {e it : Addr} {i : Int} {old : Value} (x : IsEnum h e it i old) : ∃ o, h.get? e = some o ∧ plainObj o := ⟨_, x, (fun _ _ q => nomatch q), (fun _ q => nomatch q)⟩
theorem enumOut_plain {h : Heap} {e it a : Addr} {i : Int} {old : Value} (x : IsEnumOut h e it i old a) : ∃ o, h.get? e = some o ∧ plainObj o := ⟨_, x, (fun _ _ q => nomatch q), (fun _ q => nomatch q)⟩

section
variable {w : World} {prog : Program} {mg mb : Str → Option Value} {G : Heap} {A : Around} {E : Value → Shared → Prop} {S : List Addr} {s0 s : Shared} {env : Env} {m cm : Str → Option Value} {news : List (Addr × Obj)}

/-- two lists joined -/
theorem addL {a b : Addr} {l l' : List Value} {Q : Value → Shared → Prop} (hl : PL s.heap a l) (hb : PL s.heap b l') (hz : l.length + l'.length < 2 ^ 20)
    (h : ∀ D s', Keep [] s s' → PL s'.heap D (l ++ l') → s.heap.get? D = none → Q (.ref D) s') : wpAny (model prog w) A (binaryOp .Add (.ref a) (.ref b)) Q E s := by
  obtain ⟨n, ho⟩ := id hl
  obtain ⟨n2, ho2⟩ := id hb
  have e : l.toArray ++ l'.toArray = (l ++ l').toArray := by simp
  refine concat_meets ⟨_, ho, rfl⟩ ⟨_, ho2, rfl⟩ noFill_list_add seq_list_add PySem.F.slot_list_add PySem.F.entry_list_add (PySem.F.args_list_add_2 _ _) (list_addW a b l.toArray l'.toArray n n2 none none #[] #[] (by simp; rw [sizeLine_eq]; lia)) ⟨ho, ho2, ?_⟩
  rw [e]
  exact h _ _ (keep_push (t := s.toks)) ⟨0, Heap.get?_push_size _ rfl⟩ (new_size _)

/-- sum of a list of ints -/
theorem sumL {l : Addr} {vs : List Value} {ns : List Int} {Q : Value → Shared → Prop} (hh : A.handled = none) (hl : PL s.heap l vs) (hi : IntsAre vs ns)
    (h : ∀ t s', Keep [] s s' → Q (.int ns.sum t) s') : wpAny (model prog w) A (call (.builtin "sum") [.ref l]) Q E s := by
  obtain ⟨xs, hx⟩ := hi.allInts.items
  have hl' : s.heap.IsList l (intItems xs) := hx ▸ hl.isList
  refine sum_intListG hh hl' fun h' tk t' hk => ?_
  have e1 : ns = xs.toList.map (·.1) := by
    rw [← nums_intItems, ← hx]
    exact (show numsOf vs.toArray.toList = ns from hi.numsOf).symm
  have e2 : preSum (numAt xs) xs.size = ns.sum := by
    rw [preSum_eq, List.take_of_length_le (by simp), e1]
  rw [e2]
  exact h t' _ ⟨⟨_, _, rfl⟩, fun b o e _ => hk b o e⟩

/-- enumerate(list) -/
theorem enumL {l : Addr} {items : List Value} {Q : Value → Shared → Prop} (hl : PL s.heap l items)
    (h : ∀ e it s', Keep [] s s' → IsEnum s'.heap e it 0 .none → s'.heap.IsListIter it l 0 → e ≠ it → s.heap.get? e = none → s.heap.get? it = none → Q (.ref e) s') : wpAny (model prog w) A (call (.type "enumerate") [.ref l]) Q E s :=
  call_enumerate_list hl.isList fun h' he hi _ hk => h _ _ _ ⟨⟨_, _, rfl⟩, fun b o e _ => hk b o e⟩ he hi (Nat.succ_ne_self _) (Heap.get?_none_of_le (Nat.le_succ _)) (new_size _)

theorem iterEnum {e it : Addr} {i : Int} {old : Value} {Q : Value → Shared → Prop} (he : IsEnum s.heap e it i old) (h : Q (.ref e) s) : wpAny (model prog w) A (pyIter (.ref e)) Q E s := by
  first
    | exact wpAny_pyIter_enum he h
    | exact wpAny_pyIter_enumerate he h

theorem srcEn (hh : A.handled = none) {s₂ : Shared} {e it l : Addr} {items : List Value} (he : IsEnum s₂.heap e it 0 .none) (hit : s₂.heap.IsListIter it l 0) (hl : PL s₂.heap l items) (hei : e ≠ it) (ne : s0.heap.get? e = none) (ni : s0.heap.get? it = none) (hz : items.length < 2 ^ 20) :
    SrcF prog w A s0 s₂ e [e, it, l] [e, it] items.toArray.size
      (fun i vals => ∃ t x, items.toArray[i]? = some x ∧ vals = #[.int i t, x])
      (fun i h => (∃ old, IsEnum h e it i old) ∧ h.IsListIter it l i ∧ h.IsList l items.toArray)
      (fun i T h => (∃ x, IsEnumOut h e it ((i : Int) + 1) x T) ∧ h.IsListIter it l (i + 1) ∧ h.IsList l items.toArray ∧ T ≠ e ∧ T ≠ it)
      (fun _ => True) := by
  have hle : l ≠ e := fun q => by
    obtain ⟨n, ho⟩ := hl
    have he' := he
    unfold IsEnum at he'
    rw [← q, ho] at he'
    have := congrArg (fun o : Option Obj => o.map (·.data)) he'
    simp at this
  have hli : l ≠ it := fun q => iter_ne_list hit hl q.symm
  have pl : ∀ h : Heap, (∃ o, h.get? e = some o ∧ plainObj o) → (∃ i, h.IsListIter it l i) → h.IsList l items.toArray → ∀ b ∈ [e, it, l], ∃ o, h.get? b = some o ∧ plainObj o := by
    rintro h q1 ⟨_, q2⟩ q3 b hb
    simp only [List.mem_cons, List.not_mem_nil, or_false] at hb
    rcases hb with rfl | rfl | rfl
    · exact q1
    · exact listIter_plain q2
    · exact isList_plain q3
  have pl2 := pl s₂.heap (enum_plain he) ⟨_, hit⟩ hl.isList
  have hs : ∀ a ∈ [e, it], a ∈ [e, it, l] := fun a ha => by simp at ha ⊢; rcases ha with rfl | rfl <;> simp
  refine ⟨WalksF.ofT (WalksT.enumerate hh e it l hei hle hli items.toArray), ⟨⟨_, he⟩, hit, hl.isList⟩, fun a ha => ⟨?_, pl2 a (hs a ha)⟩, pl2, ?_, ?_, by simpa using hz⟩
  · simp only [List.mem_cons, List.not_mem_nil, or_false] at ha
    rcases ha with rfl | rfl
    · exact ne
    · exact ni
  · rintro i h ⟨⟨_, q1⟩, q2, q3⟩ a ha
    exact pl h (enum_plain q1) ⟨_, q2⟩ q3 a ha
  · rintro i T' h ⟨⟨_, q1⟩, q2, q3, _⟩ a ha
    obtain ⟨o, ho, _⟩ := pl h (enumOut_plain q1) ⟨_, q2⟩ q3 a (hs a ha)
    exact ⟨o, ho⟩

/-- tuple(list) -/
theorem tupleL {l : Addr} {items : List Value} {Q : Value → Shared → Prop} (hl : PL s.heap l items) (hz : items.length < 2 ^ 20)
    (h : ∀ D s', Keep [] s s' → IsTup s'.heap D items.toArray → s.heap.get? D = none → Q (.ref D) s') : wpAny (model prog w) A (call (.type "tuple") [.ref l]) Q E s :=
  call_tuple_list hl.isList (fun h' hk => h _ _ ⟨⟨_, _, rfl⟩, fun b o e _ => Heap.get?_push_of_some _ (hk b o e)⟩ ⟨_, Heap.get?_push_size _ rfl, rfl, 0, rfl⟩ (by
    cases e : s.heap.get? h'.objs.size with
    | none => rfl
    | some o => exact absurd (Heap.lt_size (hk _ _ e)) (Nat.lt_irrefl _))) (by rw [List.size_toArray, sizeLine_eq]; lia)

theorem reads_rows {h : Heap} {ρ : Value → List Int} : ∀ {l : List Value}, (∀ v ∈ l, TI h v (ρ v)) → ReadsAll h l (l.map fun v => .tuple ((ρ v).map .int)) []
  | [], _ => .nil
  | v :: l, hv => by
    have := ReadsAll.cons (reads_tup (hv v (.head _))) (reads_rows (l := l) fun u hu => hv u (.tail _ hu))
    simpa using this
theorem reads_rowsL {h : Heap} {ρ : Value → List Int} {a : Addr} {l : List Value} (hl : PL h a l) (hv : ∀ v ∈ l, TI h v (ρ v)) : Reads h (.ref a) (.list (l.map fun v => .tuple ((ρ v).map .int))) [a] := by
  obtain ⟨n, ho⟩ := hl
  exact .list ho rfl rfl (reads_rows hv)
theorem lay_rows : ∀ (L : List (List Int)), PyData.canLayAll0 (L.map fun x => .tuple (x.map .int)) = true
  | [] => rfl
  | x :: L => by
    show (PyData.canLayAll0 (x.map .int) && PyData.canLayAll0 (L.map fun x => .tuple (x.map .int))) = true
    rw [lay_ints, lay_rows L]; rfl
theorem depth_rows : ∀ (L : List (List Int)), PyData.depthAll (L.map fun x => .tuple (x.map .int)) ≤ 1
  | [] => Nat.zero_le _
  | x :: L => by
    show max (PyData.depthAll (x.map .int) + 1) (PyData.depthAll (L.map fun x => .tuple (x.map .int))) ≤ 1
    have := depth_rows L
    rw [depth_ints]; lia
theorem eqv_self : ∀ (L : List (List Int)), PyData.eqvAll (L.map fun x => .tuple (x.map .int)) (L.map fun x => .tuple (x.map .int)) = true
  | [] => rfl
  | x :: L => by
    show (PyData.eqv (.tuple (x.map .int)) (.tuple (x.map .int)) && PyData.eqvAll (L.map fun x => .tuple (x.map .int)) (L.map fun x => .tuple (x.map .int))) = true
    rw [eqv_tups, eqv_self L]; simp

/-- two lists of the same rows: no difference -/
theorem neRows {ρ : Value → List Int} {a b : Addr} {l : List Value} {Q : Value → Shared → Prop} (hu : A.units + 10 < cLine) (ha : PL s.heap a l) (hb : PL s.heap b l) (hv : ∀ v ∈ l, TI s.heap v (ρ v)) (h : Q (.bool false) s) :
    wpAny (model prog w) A (compareOp .NotEq (.ref a) (.ref b)) Q E s := by
  have e : (l.map fun v => PyData.tuple ((ρ v).map .int)) = (l.map ρ).map fun x => .tuple (x.map .int) := by rw [List.map_map]; rfl
  refine SeqAt.neOverData prog w A E s _ _ _ _ _ _ Q (reads_rowsL ha hv) (reads_rowsL hb hv) ?_ ?_ ?_ ?_
  · show PyData.canLayAll0 _ = true; rw [e]; exact lay_rows _
  · show PyData.canLayAll0 _ = true; rw [e]; exact lay_rows _
  · show A.units + min (PyData.depthAll _ + 1) _ < _
    have := depth_rows (l.map ρ)
    rw [← e] at this
    lia
  · have e2 : PyData.eqv (.list (l.map fun v => .tuple ((ρ v).map .int))) (.list (l.map fun v => .tuple ((ρ v).map .int))) = true := by
      show PyData.eqvAll _ _ = true
      rw [e]; exact eqv_self _
    rw [e2]; exact h

/-- two lists of the same ints -/
theorem neInts {a b : Addr} {l l' : List Value} {ns : List Int} {Q : Value → Shared → Prop} (hu : A.units + 10 < cLine) (ha : PL s.heap a l) (hb : PL s.heap b l') (hi : IntsAre l ns) (hi' : IntsAre l' ns) (h : Q (.bool false) s) :
    wpAny (model prog w) A (compareOp .NotEq (.ref a) (.ref b)) Q E s := by
  refine SeqAt.neOverData prog w A E s _ _ _ _ _ _ Q (reads_list ha hi) (reads_list hb hi') (lay_ints _) (lay_ints _) ?_ ?_
  · show A.units + min (PyData.depthAll _ + 1) _ < _
    rw [depth_ints]; lia
  · rw [eqv_lists]; simpa using h
theorem eqInts {a b : Addr} {l l' : List Value} {ns : List Int} {Q : Value → Shared → Prop} (hu : A.units + 10 < cLine) (ha : PL s.heap a l) (hb : PL s.heap b l') (hi : IntsAre l ns) (hi' : IntsAre l' ns) (h : Q (.bool true) s) :
    wpAny (model prog w) A (compareOp .Eq (.ref a) (.ref b)) Q E s := by
  refine SeqAt.eqOverData prog w A E s _ _ _ _ _ _ Q (reads_list ha hi) (reads_list hb hi') (lay_ints _) (lay_ints _) ?_ ?_
  · show A.units + min (PyData.depthAll _ + 1) _ < _
    rw [depth_ints]; lia
  · rw [eqv_lists]; simpa using h
end
end Mine
end
section
open PySem PySem.W PyProof.Rows PySem.Calls
set_option maxRecDepth 100000
namespace Mine

/-- the judge, its dict told -/
noncomputable def JudgeIn (h : Heap) (x dx : Addr) (v : Value) : Prop := ∃ hsh t n, h.get? x = some (instObj 38 dx) ∧ h.get? dx = some { cls := .type "dict", data := .dict #[⟨hsh, .str "comp_select_list" t, v⟩] n }
theorem JudgeIn.at {h : Heap} {x dx : Addr} {v : Value} (J : JudgeIn h x dx v) : JudgeAt h x v := by
  obtain ⟨hsh, t, n, h1, h2⟩ := J; exact ⟨dx, hsh, t, n, h1, h2⟩

section
variable {w : World} {prog : Program} {mg mb : Str → Option Value} {G : Heap} {A : Around} {E : Value → Shared → Prop} {s : Shared}

theorem judge_new (T : GT w mg mb G) {n : Nat} (r : Room (n + 3) A) (st : Stays G s.heap) {tA : Addr} {Q : Value → Shared → Prop}
    (k : ∀ x dx s', Keep [] s s' → JudgeIn s'.heap x dx (.ref tA) → s.heap.get? x = none → s.heap.get? dx = none → Q (.ref x) s') :
    wpAny (model prog w) A (call (.ref 38) [.ref tA]) Q E s := by
  have X : (KF w.params).In s.heap := T.k.keeps st
  have hNL := T.nl.keeps st
  obtain ⟨hh, g, d, t, os⟩ := s
  refine wpAny_call (make_core (init := .ref 28) (makes_of X (by kernel_rfl!)) (looks_findIn X (by kernel_rfl!)) (fun self => bind_fn X self (by kernel_rfl!)) (.inl rfl) ?_)
  have k2 : ∀ b o, hh.get? b = some o → ((hh.push emptyDict).push (instObj 38 hh.objs.size)).get? b = some o := fun b o e => Heap.get?_push_of_some _ (Heap.get?_push_of_some _ e)
  have z1 : (hh.push emptyDict).objs.size = hh.objs.size + 1 := Heap.size_push ..
  have z2 : ((hh.push emptyDict).push (instObj 38 hh.objs.size)).objs.size = hh.objs.size + 2 := by rw [Heap.size_push, z1]
  have gx : ((hh.push emptyDict).push (instObj 38 hh.objs.size)).get? (hh.objs.size + 1) = some (instObj 38 hh.objs.size) := by
    rw [← z1]; exact Heap.get?_push_size _ rfl
  have gd : ((hh.push emptyDict).push (instObj 38 hh.objs.size)).get? hh.objs.size = some emptyDict := Heap.get?_push_of_some _ (Heap.get?_push_size _ rfl)
  refine codeAny_call_def (binds := [("self", .ref (hh.objs.size + 1)), ("comp_select_list", .ref tA)]) (by rw [depth_under_make]; have := r.d; lia) (k2 _ _ (X 28 _ (by rfl))) rfl (hNL.keeps k2) ((codeRec_of X (by kernel_rfl!)).keeps k2) rfl (.of_eq (by rfl)) (by decide) (locs (by kernel_rfl!)) (fun h₁ hns hk₁ => ?_)
  have hL : ((hh.push emptyDict).push (instObj 38 hh.objs.size)).objs.size = hh.objs.size + 2 := z2
  have F : Fr hh ((hh.push emptyDict).push (instObj 38 hh.objs.size)).objs.size h₁ _ := ⟨hns, fun b o e => hk₁ b o (k2 b o e), by rw [hL]; lia⟩
  have N : News hh ((hh.push emptyDict).push (instObj 38 hh.objs.size)).objs.size h₁ [(hh.objs.size + 1, instObj 38 hh.objs.size), (hh.objs.size, emptyDict)] := fun p hp => by
    simp only [List.mem_cons, List.not_mem_nil, or_false] at hp
    rcases hp with rfl | rfl
    · exact ⟨hk₁ _ _ gx, by rw [hL]; show hh.objs.size + 1 ≠ _; lia, Heap.get?_none_of_le (Nat.le_succ _)⟩
    · exact ⟨hk₁ _ _ gd, by rw [hL]; show hh.objs.size ≠ _; lia, new_size _⟩
  refine seq (plainObj_wpAny_Assign_Attribute (wpAny_Name (wpAny_loadName_local rfl rfl hns rfl (wpAny_Name (wpAny_loadName_local rfl rfl hns rfl ?_) rfl)) rfl))
  refine set_dict (K := KF w.params) (es := []) (n := 0) (dx := hh.objs.size) F X N ⟨hk₁ _ _ gx, rfl, rfl, hk₁ _ _ gd⟩ rfl (by kernel_rfl!) (by kernel_rfl!) (by kernel_rfl!) (by kernel_rfl!) rfl rfl
    (.tail (by show hh.objs.size + 1 ≠ hh.objs.size; lia) (.head fun _ q => nomatch q)) (Nat.le_of_ble_eq_true rfl) fun h' F' N' => ?_
  refine wpAny_execs_nil ?_
  refine ⟨rfl, ?_⟩
  have n1 := (N' _ (.head _)).1
  have n2 := (N' _ (.tail _ (.head _))).1
  exact k _ hh.objs.size _ ⟨⟨_, _, rfl⟩, fun b o e _ => F'.keep b o e⟩ ⟨_, _, _, n1, n2⟩ (Heap.get?_none_of_le (Nat.le_succ _)) (new_size _)
end
end Mine
end
section
open PySem PySem.W PyProof.Rows PySem.Calls
set_option maxRecDepth 100000
namespace Mine

/-- what the making of a lambda leans on -/
structure LamT (mg : Str → Option Value) (G : Heap) : Prop where
  C : CodeHd G 131 129
  bm : ∃ bm ob, mg "__builtins__" = some (.ref bm) ∧ bm ≠ builtinsNs ∧ G.get? bm = some ob ∧ ob.cls = .type "module" ∧ ob.dict = some builtinsNs ∧ ob.data = .plain
  tab : G.get? 129 = none

section
variable {w : World} {prog : Program} {mg mb : Str → Option Value} {G : Heap} {A : Around} {E : Value → Shared → Prop} {s : Shared} {env : Env}

theorem LamT.at (U : LamT mg G) (T : GT w mg mb G) (st : Stays G s.heap) : mainGlobals ≠ 129 ∧ s.heap.BuiltinsAt mg 129 := by
  obtain ⟨bm, ob, b1, b2, b3, b4, b5, b6⟩ := U.bm
  refine ⟨by decide, bm, ob, b1, b2, fun q => ?_, fun q => ?_, st _ _ b3, b4, b5, b6⟩
  · obtain ⟨o, es, ep, e, hd, _⟩ := T.g
    rw [q, e] at b3; cases b3; rw [hd] at b6; cases b6
  · rw [q, U.tab] at b3; cases b3

/-- a lambda made anew -/
theorem lam_new (U : LamT mg G) (T : GT w mg mb G) (st : Stays G s.heap) {params : Arguments} {body : Expr} {scope : Scope} {pos : Pos} {ps : Array Value} {clos : List (Str × Addr)} {Q : Value → Shared → Prop} (hP : s.heap.get? 129 = some (tabObj ps)) (ht : TriplesOk ps.toList) (hnf : codeAmong pos ps.toList = none)
    (hcl : closureFor scope env = pure clos) (hdef : defaultsOf params env = ([], [])) (hge : env.globals = mainGlobals) (hcode : env.code = .ref 131)
    (k : ∀ f c' ctv s', Keep [129] s s' → s'.heap.get? 129 = some (tabObj (ps ++ #[rawInt pos.line, rawInt pos.col, .ref c'])) → s'.heap.get? f = some (kla_obj "<lambda>" (env.qual ++ "<lambda>") params body scope clos ((mg "__name__").getD .none) c' ctv) → s'.heap.CodeRec (.ref c') (env.qual ++ "<lambda>") → s.heap.get? f = none → Q (.ref f) s') :
    wpAny (model prog w) A (eval (.Lambda params body scope pos) env) Q E s := by
  obtain ⟨hg, hb⟩ := U.at T st
  refine kla_eval hdef (kla_makeFunction hcl hge (T.g.keeps st) hcode (U.C.keeps st) hP ht hnf hg hb fun c' ctv h' tk hx hge' hlt hrec htb => ?_)
  refine k _ c' ctv _ ⟨⟨_, _, rfl⟩, fun b o e q => Heap.get?_push_of_some _ (hx b o (fun z => q (by rw [z]; exact .head _)) e)⟩ (Heap.get?_push_of_some _ htb) (Heap.get?_push_size _ rfl) (hrec.keeps fun b o e => Heap.get?_push_of_some _ e) ?_
  exact Heap.get?_none_of_le (Nat.le_of_lt (Nat.lt_of_le_of_lt hge' hlt))

/-- a lambda made again -/
theorem lam_hit (U : LamT mg G) (T : GT w mg mb G) (st : Stays G s.heap) {params : Arguments} {body : Expr} {scope : Scope} {pos : Pos} {ps : Array Value} {clos : List (Str × Addr)} {c' : Addr} {Q : Value → Shared → Prop} (hP : s.heap.get? 129 = some (tabObj ps)) (ht : TriplesOk ps.toList) (hf : codeAmong pos ps.toList = some (.ref c'))
    (hcl : closureFor scope env = pure clos) (hdef : defaultsOf params env = ([], [])) (hge : env.globals = mainGlobals) (hcode : env.code = .ref 131)
    (k : ∀ f ctv s', Keep [] s s' → s'.heap.get? f = some (kla_obj "<lambda>" (env.qual ++ "<lambda>") params body scope clos ((mg "__name__").getD .none) c' ctv) → s.heap.get? f = none → Q (.ref f) s') :
    wpAny (model prog w) A (eval (.Lambda params body scope pos) env) Q E s := by
  obtain ⟨hg, hb⟩ := U.at T st
  refine kla_eval hdef (kla_makeFunctionHit hcl hge (T.g.keeps st) hcode (U.C.keeps st) hP ht hf hb fun ctv h' tk hk hsz => ?_)
  exact k _ ctv _ ⟨⟨_, _, rfl⟩, fun b o e _ => Heap.get?_push_of_some _ (hk b o e)⟩ (Heap.get?_push_size _ rfl) (Heap.get?_none_of_le hsz)

/-- lambda row: ranks[row[3]] as a key -/
theorem lam_key (T : GT w mg mb G) (st : Stays G s.heap) {f c' a K : Addr} {ctv pm : Value} {qual : Str} {rks rows : List Value} {ranks : List Int} {ρ : Value → List Int} {p0 p1 p2 p3 p4 p5 : Pos} {kk : Nat}
    (hf : s.heap.get? f = some (kla_obj "<lambda>" qual { posonlyargs := [], args := [{ arg := "row", annotation := none, pos := p0 }], vararg := none, kwonlyargs := [], kw_defaults := [], kwarg := none, defaults := [] }
      (.Subscript (.Name "ranks" p1) (.Subscript (.Name "row" p2) (.Constant (.int 3) kk p3) p4) p5) { kind := .function, names := [("row", .local), ("ranks", .free)], isGenerator := false, isCoroutine := false } [("ranks", a)] pm c' ctv))
    (hrec : s.heap.CodeRec (.ref c') qual) (hcell : s.heap.IsCell a (some (.ref K))) (hK : PL s.heap K rks) (hi : IntsAre rks ranks) (hz : ranks.length < 2 ^ 20)
    (hρ : ∀ v ∈ rows, TI s.heap v (ρ v) ∧ (ρ v).length = 4 ∧ ∃ i : Nat, (ρ v)[3]? = some (i : Int) ∧ i < ranks.length) : KeyFn prog w s f rows (fun v => ranks.getD ((ρ v).getD 3 0).toNat 0) := by
  refine ⟨⟨_, _, hf, rfl⟩, fun v hv A' s' r k' Q' E' hq => ?_⟩
  have st' : Stays G s'.heap := fun b o e => k'.keep b o (st b o e) (fun q => nomatch q)
  refine wpAny_call (kla_callFunE r.depth (k'.keep _ _ hf (fun q => nomatch q)) rfl rfl rfl rfl (hrec.keeps fun b o e => k'.keep b o e (fun q => nomatch q)) ?_)
  refine wpAny_of_eq (a := [(("row" : Str), v)]) (by rfl) ?_
  have hnc : ∀ x ∈ ([(("row" : Str), NameKind.local), (("ranks" : Str), NameKind.free)] : List (Str × NameKind)), x.2 ≠ NameKind.cell := by decide
  refine wpAny_newFunctionEnv hnc (fun y hy => by rw [List.mem_singleton.mp hy]; rfl) (fun h₁ hns hsb => ⟨(T.nl.keeps st').fresh _ hsb, kla_codeExpr ?_⟩) rfl
  have hk₁ : ∀ b o, s'.heap.get? b = some o → h₁.get? b = some o := fun b o e => hsb.extBut b o (Nat.ne_of_lt (Heap.lt_size e)) (Heap.get?_push_of_some _ e)
  have k1 : Keep [] s' { s' with heap := h₁, toks := s'.toks + 1 } := ⟨⟨_, _, rfl⟩, fun b o e _ => hk₁ b o e⟩
  have kk' := k'.trans k1
  obtain ⟨hti, h4, i, hi3, hin⟩ := hρ v hv
  have hti1 : TI h₁ v (ρ v) := hti.kp0 kk'
  have hK1 : PL h₁ K rks := kk'.pl0 hK
  have hc1 : h₁.IsCell a (some (.ref K)) := hcell.keeps fun b o e => kk'.keep b o e (fun q => nomatch q)
  obtain ⟨t9, ht9⟩ := intsAre_get hi i _ (List.getElem?_eq_getElem hin)
  have e9 : ranks.getD ((ρ v).getD 3 0).toNat 0 = ranks[i] := by
    rw [List.getD_eq_getElem?_getD (l := ρ v), hi3, Option.getD_some, Int.toNat_natCast, List.getD_eq_getElem?_getD, List.getElem?_eq_getElem hin]; rfl
  have hlen := intsAre_len hi
  refine Subscript_ (wpAny_Name (wpAny_loadName_free (c := a) rfl rfl rfl hc1 (Subscript_ (wpAny_Name (wpAny_loadName_local rfl rfl hns rfl (eInt fun _ u1 => itemI (s := tk _ u1) hti1 (j := 3) rfl hi3 (by lia) fun t3 => itemL (s := tk _ u1) hK1 rfl ht9 (by lia) ?_)) rfl))) rfl)
  have := hq t9 (tk { s' with heap := h₁, toks := s'.toks + 1 } u1) k1.tk
  rw [e9] at this
  exact this
end
end Mine
end
section
open PySem PySem.W PyProof.Rows PySem.Calls
set_option maxRecDepth 100000
namespace Mine

/-- the law's def -/
noncomputable def lawDef : Option (List Stmt × Scope) := match PySem.Challenge.pw_mj0213_01.main.body.getLast? with
  | some (.FunctionDef _ _ body _ _ _ scope _ _ _) => some (body, scope)
  | _ => none
noncomputable def lawStmts : List Stmt := match lawDef with | some (b, _) => b | none => []
noncomputable def lawScope : Scope := match lawDef with | some (_, s) => s | none => { kind := .function, names := [], isGenerator := false, isCoroutine := false }
noncomputable abbrev lawEnv (L fa : Addr) : Env := envOfC "law" lawScope L fa (.ref 131)

section
variable {w : World} {prog : Program} {mg mb : Str → Option Value} {G : Heap} {A : Around} {E : Value → Shared → Prop} {S : List Addr} {s0 s : Shared} {env : Env} {m cm : Str → Option Value} {news : List (Addr × Obj)}

theorem Cx.sk {m' cm' : Str → Option Value} {s' : Shared} {a : Addr} (c : Cx G S s0 env m cm news s) (c' : Cx G S s0 env m' cm' news s') (e : Heap.SameBut a s.heap s'.heap) : Keep [a] s s' :=
  ⟨by obtain ⟨h1, t1, q1⟩ := c'.kp.same; obtain ⟨h2, t2, q2⟩ := c.kp.same; rw [q1, q2]; exact ⟨_, _, rfl⟩, fun b o ho q => sameBut_keep e (fun z => q (by rw [z]; exact .head _)) ho⟩
theorem Cx.plC (c : Cx G S s0 env m cm news s) {n : Str} {a : Addr} (ha : env.cells.lookup n = some a) {h' : Heap} (hs : Heap.SameBut a s.heap h') : Pl s.heap h' := fun _ _ e p => sameBut_keep hs (c.neC e p ha) e

/-- xs[:b] of any list -/
theorem sliceToI {value slice : Expr} {a sl : Addr} {l : List Value} {b : Nat} {bI : Int} {t : Tok} {Q : Value → Shared → Prop} (hl : s.heap.IsList a l.toArray) (hs : SlAt s.heap sl .none (.int bI t) .none) (hb : bI = b) (hz : l.length < 2 ^ 20)
    (h : ∀ D s', Keep [] s s' → PL s'.heap D (l.take b) → s.heap.get? D = none → Q (.ref D) s')
    (he : ∃ ops, subscripted slice false (.ref a) (.ref sl) = operate ops (getItem (.ref a) (.ref sl))) :
    wpAny (model prog w) A (subscriptTail value slice (.ref a) (.ref sl)) Q E s := by
  subst hb
  obtain ⟨ops, he⟩ := he
  refine tail_any hl.typeIs slot_list_getitem.lookup (wpAny_getItem_list_slice hl ⟨_, hs, rfl, rfl⟩ .none (.int _ _) .none (by simp) ?_ (by rw [List.size_toArray, sizeLine_eq]; omega)) he
  rw [pick_upto]
  exact h _ _ (keep_push (t := s.toks)) ⟨0, Heap.get?_push_size _ rfl⟩ (new_size _)

inductive RAsk (prog : Program) (w : World) (A : Around) (G : Heap) (S : List Addr) (s0 : Shared) (env : Env) (cm : Str → Option Value) (scope : Scope) (cl : List (Str × Addr)) (target elt : Expr) (ifs : List Expr) (Q : Value → Shared → Prop) (xv : Value) (s₁ : Shared) : Prop
  | mk (a : Addr) (n : Nat) (t u v : Tok) (m : Str → Option Value) (p : Nat → Bool) (R : Nat → Value → Heap → Prop) (PC : (Str → Option Value) → Prop) (cm' : Str → Option Value) (hxv : xv = .ref a) (c : Cx G S s0 env m cm [] s₁) (hr : IsRange s₁.heap a 0 (n : Int) 1 t u v) (hz : n < 2 ^ 18)
    (cells : CellsIn s₁.heap 0 cl cm') (owns : ∀ n, (n, NameKind.cell) ∈ scope.names → cm' n = none) (pc : PC cm')
    (stab : ∀ i y h h', (∀ b o, y = .ref b → h.get? b = some o → h'.get? b = some o) → R i y h → R i y h')
    (turn : ∀ I s₂ C i tv s m cm, (∀ x, C ≤ x → s₂.heap.get? x = none) → i < n → Cx G [I] s₂ (cEnv scope cl C env) m cm [] s → PC cm → Keep [] s₁ s →
      wpAny (model prog w) A (assign target (cEnv scope cl C env) (.int (i : Nat) tv)) (TurnAsg prog w A G [I] s₂ (cEnv scope cl C env) PC elt ifs (p i) (R i) s) NoE s)
    (fin : ∀ D l s'', Cx G S s0 env m cm [] s'' → PL s''.heap D l → s₁.heap.get? D = none → Keep [] s₁ s'' → All2 (fun i y => R i y s''.heap) ((List.range n).filter p) l → Q (.ref D) s'')
/-- a comprehension over range(n), as a value -/
theorem compRE {elt target iter : Expr} {ifs : List Expr} {scope : Scope} {pos : Pos} {cl : List (Str × Addr)} {Q : Value → Shared → Prop} (hh : A.handled = none)
    (hclos : closureFor scope env = pure cl) (hkind : scope.kind = .function) (hnames : ∀ y ∈ scope.names, y.2 = .local → scope.names.lookup y.1 = some .local)
    (h : wpAny (model prog w) A (eval iter env) (RAsk prog w A G S s0 env cm scope cl target elt ifs Q) E s)
    (hs : ∀ x, foldedSetIterable iter env x = pure x := by intro _; rfl) :
    wpAny (model prog w) A (eval (.ListComp elt [⟨target, iter, ifs, 0⟩] scope pos) env) Q E s := by
  refine compEW (G := G) (S := S) (s0 := s0) (cm := cm) hclos hkind hnames (wpAny_mono h (fun xv s₁ h₁ => ?_) fun _ _ e => e) hs
  obtain ⟨a, n, t, u, v, m, p, R, PC, cm', rfl, c, hr, hz, hcells, howns, hpc, stab, turn, fin⟩ := h₁
  refine iterR hr (smallN n (by omega)) (rangeSize01 n) fun I s₂ k2 hI nI => ?_
  have c2 := c.keep0 k2
  have k0 : ∀ {s : Shared}, Keep [I] s₂ s → Keep [] s₁ s := fun {s} k => k2.drop k fun x hx => by rw [List.mem_singleton.mp hx]; exact nI
  have W := Walks.range (prog := prog) (w := w) (A := A) hh I 0 1 n
  have src : Src prog w A s0 s₂ I [I] [I] n (fun i v => ∃ t, v = .int (0 + (i : Int) * 1) t) (fun i h => IsRangeIter h I (0 + (i : Int) * 1) ((n : Int) - i) 1) :=
    ⟨W, by simpa using hI, fun b hb => by rw [List.mem_singleton.mp hb]; exact ⟨c.fresh nI, rangeIter_plain hI⟩, fun b hb => by rw [List.mem_singleton.mp hb]; exact ⟨_, hI⟩, fun i h st b hb => by rw [List.mem_singleton.mp hb]; exact ⟨_, st⟩, by omega⟩
  refine ⟨m, I, _, _, _, _, _, TurnJ p R, PC, cm', rfl, c2, src, says_of (fun i h st b hb => by rw [List.mem_singleton.mp hb]; exact rangeIter_plain st) ⟨fun n x q => (hcells.cell n x q).keeps fun b o e => k2.keep b o e (fun q => nomatch q), hcells.apart⟩ howns hpc stab ?_, ?_⟩
  · rintro C i v s m' cm'' hbig hi ⟨tv, rfl⟩ c' pc' st'
    have hx : (0 : Int) + (i : Int) * 1 = i := by omega
    rw [hx]
    have go : ∀ {Q : Unit → Shared → Prop}, Q () s → wpAny (model prog w) A (letOwnedTupleGo target (.ref I) (.int (i : Int) tv)) Q (fun _ _ => False) s := fun {Q} hq => by
      unfold letOwnedTupleGo
      cases target <;> first | exact wpAny_pure hq | skip
    exact go (turn I s₂ C i tv s m' cm'' hbig hi c' pc' (k0 c'.kp))
  · intro D X l s'' c'' hD nD k'' j _
    refine fin D l s'' c'' hD ?_ (k0 k'') (by simpa using j.out)
    exact k2.none nD (fun q => nomatch q)

/-- a call of a def that stands in the heap, some of its names cells -/
theorem callFnO {R : Result → Shared → Prop} {name qual : Str} {params : Arguments} {body : List Stmt} {scope : Scope} {dV kV doc pm cdv ct : Value} {an : Option Addr} {o : Obj} {f : Addr}
    {pos : List Value} {kw : List (Str × Value)} {binds : List (Str × Value)} {n : Nat} (T : GT w mg mb G) (st : Stays G s.heap) (hS : ∀ x ∈ S, G.get? x = none) (hSs : ∀ x ∈ S, ∃ o, s.heap.get? x = some o) (r : Room n A)
    (ho : s.heap.get? f = some o) (hod : o.data = .func (fnOf name qual params body scope dV kV doc pm an cdv ct)) (hcd : s.heap.CodeRec cdv qual)
    (hbind : BindsTo s (fnOf name qual params body scope dV kV doc pm an cdv ct) ⟨pos, kw⟩ binds)
    (hkind : (binds.all fun y => scope.names.lookup y.1 == some .local || scope.names.lookup y.1 == some .cell) = true)
    (h : ∀ L s₁, Cx G S s (envOfC qual scope L f cdv) (bindL (envOfC qual scope L f cdv).kindOf binds fun _ => none) (bindC (envOfC qual scope L f cdv).kindOf binds fun _ => none) [] s₁ → Keep [] s s₁ →
      (∀ n c, (cellsFrom (L + 1) scope.names []).lookup n = some c → s.heap.get? c = none) →
      wpAny (model prog w) (A.deeper (envOfC qual scope L f cdv)) (execs body (envOfC qual scope L f cdv)) (fun fl s' => R (.ok (.ret (match fl with | .ret v => v | _ => .none))) s') (fun _ _ => False) s₁)
    (hco : scope.isCoroutine = false := by rfl) (hgen : scope.isGenerator = false := by rfl) (hk : scope.kind = .function := by rfl) :
    codeAny (model prog w) A (.call (.ref f) ⟨pos, kw⟩) R s := by
  refine codeAny_call_function r.depth ho hod hco hgen rfl hcd (hbind _ _ _ _ ?_)
  refine wpAny_newFunctionEnv_cells hk (kindsX hkind _) fun env' he s' x => ?_
  subst he
  refine ⟨(T.nl.keeps st).keeps x.toInCall.keep, codeAny_func ?_⟩
  obtain ⟨h₁, tk, rfl, _⟩ := x.done
  have hk₁ := x.toInCall.keep
  have hnew : s.heap.get? s.heap.objs.size = none := new_size _
  have hcn : ∀ n c, (cellsFrom (s.heap.objs.size + 1) scope.names []).lookup n = some c → s.heap.get? c = none := fun n c q => Heap.get?_none_of_le (by
    have := x.above n c (mem_of_lookup q)
    have : s.heap.objs.size < c := this
    omega)
  refine wpAny_mono (h s.heap.objs.size _ ⟨st, hS, ⟨⟨_, _, rfl⟩, fun b o e _ => hk₁ b o e⟩, x.toInCall.ns, hnew, hSs, fun y hy => ?_, x.cell, fun n c q z => ?_, fun n n' c q q' => name_of_addr x.apart (mem_of_lookup q) (mem_of_lookup q'), fun p q => (nomatch q)⟩ ⟨⟨_, _, rfl⟩, fun b o e _ => hk₁ b o e⟩ hcn) (fun fl s' hq => hq) fun _ _ x => x.elim
  · obtain ⟨o, ho⟩ := hSs y hy
    exact ⟨o, hk₁ _ _ ho⟩
  · obtain ⟨o, ho⟩ := hSs c z
    rw [hcn n c q] at ho; cases ho

/-- a turn that only stores a name -/
theorem Cx.end1 {wr : List Addr} {s₂ s' : Shared} {cenv : Env} {PC : (Str → Option Value) → Prop} {m' cm' : Str → Option Value} (_c : Cx G wr s₂ cenv m cm [] s) (c' : Cx G wr s₂ cenv m' cm' [] s') (k : Keep [cenv.locals] s s') (hpc : PC cm') : TurnEnd G wr s₂ cenv PC s s' :=
  ⟨_, _, _, c', hpc, k, fun _ => ownL⟩
end
end Mine
end
section
open PySem PySem.W PyProof.Rows PySem.Calls
set_option maxRecDepth 100000
namespace Mine

/-- the numbers, the rows, the keys -/
noncomputable def numsOf' (ns : List Int) : List Int := (ns.take 7).map (fun v => v.fmod 648) ++ [3, 17, 21]
noncomputable def rowOf (n : Int) (i : Nat) : List Int := [n.fmod 3, (n.fdiv 3).fmod 4, (n.fdiv 12).fmod 3, (i : Int)]
noncomputable def keyOf (t : Int) (k : Nat) : Int × Int := ((t.fdiv (6 ^ k)).fmod 3, 1 - 2 * ((t.fdiv (6 ^ k)).fdiv 3).fmod 2)
noncomputable def keysOf (t : Int) : List (Int × Int) := (List.range ((t.fdiv 216).fmod 3 + 1).toNat).map (keyOf t)

theorem nums_bound {ns : List Int} {v : Int} (h : v ∈ numsOf' ns) : 0 ≤ v ∧ v < 648 := by
  unfold numsOf' at h
  rcases List.mem_append.mp h with h | h
  · obtain ⟨u, _, rfl⟩ := List.mem_map.mp h
    exact ⟨Int.fmod_nonneg_of_pos _ (by decide), Int.fmod_lt_of_pos _ (by decide)⟩
  · simp only [List.mem_cons, List.not_mem_nil, or_false] at h
    rcases h with rfl | rfl | rfl <;> decide
theorem nums_len (ns : List Int) : 3 ≤ (numsOf' ns).length ∧ (numsOf' ns).length ≤ 10 := by
  unfold numsOf'
  simp only [List.length_append, List.length_map, List.length_take, List.length_cons, List.length_nil]
  lia
theorem sum_bound : ∀ {l : List Int}, (∀ v ∈ l, 0 ≤ v ∧ v < 648) → 0 ≤ l.sum ∧ l.sum ≤ 648 * l.length
  | [], _ => ⟨by decide, by decide⟩
  | a :: l, h => by
    have h1 := sum_bound (l := l) fun v hv => h v (.tail _ hv)
    have h2 := h a (.head _)
    rw [List.sum_cons, List.length_cons]
    push_cast
    lia
theorem total_bound (ns : List Int) : 0 ≤ (numsOf' ns).sum ∧ (numsOf' ns).sum ≤ 6480 := by
  have h1 := sum_bound (fun v hv => nums_bound (ns := ns) hv)
  have h2 := (nums_len ns).2
  lia

theorem tab_plain (ps : Array Value) : plainObj (tabObj ps) := ⟨(fun _ _ q => nomatch q), (fun _ q => nomatch q)⟩

section
variable {w : World} {prog : Program} {mg mb : Str → Option Value} {G : Heap} {A : Around} {E : Value → Shared → Prop} {s0 s : Shared} {m cm : Str → Option Value}

set_option maxHeartbeats 1000000 in
theorem lawA1 (T : GT w mg mb G) {n : Nat} (r : Room (n + 3) A) {L fa a : Addr} {items : List Value} {ns : List Int} (c : Cx G [129] s0 (lawEnv L fa) m cm [] s) (hm : m "script" = some (.ref a)) (hscr : s.heap.IsList a items.toArray) (hi : IntsAre items ns) (hlen : ns.length ≤ 63)
    (hcn : ∀ n c, (cellsFrom (L + 1) lawScope.names []).lookup n = some c → s0.heap.get? c = none) (htab : s.heap.get? 129 = some (tabObj #[])) {Q : Flow → Shared → Prop}
    (k : ∀ R Kl rows kvs m cm s', Cx G [129] s0 (lawEnv L fa) m cm [] s' → cm "rows" = some (.ref R) → cm "keys" = some (.ref Kl) → PL s'.heap R rows → PL s'.heap Kl kvs → rows.length = (numsOf' ns).length →
      (∀ (i : Nat) v, rows[i]? = some v → TI s'.heap v (rowOf ((numsOf' ns).getD i 0) i)) → KeysAre s'.heap kvs (keysOf (numsOf' ns).sum) → s'.heap.get? 129 = some (tabObj #[]) →
      wpAny (model prog w) A (execs (lawStmts.drop 4) (lawEnv L fa)) Q E s') :
    wpAny (model prog w) A (execs lawStmts (lawEnv L fa)) Q E s := by
  have hh : A.handled = none := r.hn
  have hil := intsAre_len hi
  have cT : (lawEnv L fa).cells.lookup ("total" : Str) = some (L + 1) := rfl
  have cR : (lawEnv L fa).cells.lookup ("rows" : Str) = some (L + 1 + 1) := rfl
  have cK : (lawEnv L fa).cells.lookup ("keys" : Str) = some (L + 1 + 1 + 1) := rfl
  -- numbers
  refine seq (c.asgK (wpAny_BinOp (compLF (G := G) (S := [129]) (s0 := s0) (cm := cm) (cl := []) hh (by rfl) (by rfl) (by decide)
    (Subscript_ (c.ld hm (evSlice (part0 (part1 (eInt fun _ u1 => part0 fun sl s₂ k2 hsl _ => sliceToI (b := 7) (Keep.list (s := tk s u1) hscr k2 (fun q => nomatch q)) hsl rfl (by lia) (fun D₀ s₃ k3 hD3 nD₀ => ?_) ⟨_, rfl⟩)))))))))
  have c3 := (c.tk.keep0 k2).keep0 k3
  have hlen3 : (items.take 7).length = (ns.take 7).length := by rw [List.length_take, List.length_take, hil]
  refine ⟨D₀, items.take 7, _, fun _ => true, fun i y _ => ∃ v, (ns.take 7)[i]? = some v ∧ ∃ t, y = .int (v.fmod 648) t, fun _ => True, fun _ => none, rfl, c3, hD3, by rw [List.length_take]; lia, ⟨(fun n x q => nomatch q), (fun n n' x q => nomatch q)⟩, (fun n hn => by simp at hn), trivial, (fun _ _ _ _ _ h => h), ?_, fun D1 l1 s₄ c4 hD4 nD1 k4 hall => ?_⟩
  · intro I s₅ C i v s' m' cm' hbig _ hv c' pc' hI' k'
    obtain ⟨nv, hnv⟩ : ∃ nv, (ns.take 7)[i]? = some nv := ⟨_, List.getElem?_eq_getElem (by rw [← hlen3]; exact (List.getElem?_eq_some_iff.mp hv).1)⟩
    have hnv' : ns[i]? = some nv := by rw [List.getElem?_take] at hnv; split at hnv <;> first | exact hnv | cases hnv
    have hv' : items[i]? = some v := by rw [List.getElem?_take] at hv; split at hv <;> first | exact hv | cases hv
    obtain ⟨tv, htv⟩ := intsAre_get hi i nv hnv'
    rw [hv'] at htv; cases htv
    refine wpAny_assign_Name (c'.sto fun s₆ c6 e6 => tests_nil ⟨rfl, wpAny_BinOp (c6.ld rfl (eInt fun _ _ => iMod (by decide) fun t9 u9 => ?_))⟩)
    exact ⟨Cx.end1 c' c6.tk (c'.sk c6 e6).tk trivial, ⟨nv, hnv, t9, rfl⟩, .inr fun _ => ⟨nv, hnv, t9, rfl⟩⟩
  obtain ⟨hl1, hat1⟩ := hall.whole
  have hi1 : IntsAre l1 ((ns.take 7).map fun v => v.fmod 648) := by
    have := All2.ints (f := fun v : Int => v.fmod 648) (as := ns.take 7) (bs := l1) (by
      have : ∀ (xs : List Int) (ys : List Value), ys.length = xs.length → (∀ (i : Nat) y, ys[i]? = some y → ∃ v, xs[i]? = some v ∧ ∃ t, y = .int (v.fmod 648) t) → All2 (fun a b => ∃ t, b = .int (a.fmod 648) t) xs ys := by
        intro xs
        induction xs with
        | nil => intro ys h1 _; cases ys with | nil => exact .nil | cons _ _ => cases h1
        | cons x xs ih =>
          intro ys h1 h2
          cases ys with
          | nil => cases h1
          | cons y ys =>
            obtain ⟨v, hv, t, e⟩ := h2 0 y rfl
            cases hv
            exact .cons ⟨t, e⟩ (ih ys (by simpa using h1) fun i y hy => h2 (i + 1) y hy)
      exact this _ _ (by rw [hl1, hlen3]) hat1)
    exact this
  refine List_ (arg (eInt fun t3 _ => arg (eInt fun t17 _ => arg (eInt fun t21 u5 => arg0 (list1 (s := tk s₄ u5) (by simp) fun D2 s₅ k5 hD5 nD2 => ?_)))))
  have c5 := (c4.tk (t := u5)).keep0 k5
  refine addL (k5.pl0 hD4) hD5 (by rw [hl1, List.length_take]; simp; lia) fun D3 s₆ k6 hD6 nD3 => ⟨_, _, c5.keep0 k6, fun s₇ c7 e7 => ?_⟩
  have c6 := c5.keep0 k6
  have hN7 : PL s₇.heap D3 (l1 ++ [.int 3 t3, .int 17 t17, .int 21 t21]) := hD6.pl (c6.plS e7)
  have hiN : IntsAre (l1 ++ [.int 3 t3, .int 17 t17, .int 21 t21]) (numsOf' ns) := hi1.append (.cons _ _ (.cons _ _ (.cons _ _ .nil)))
  have htab3 := k3.keep _ _ (k2.keep _ _ htab (fun q => nomatch q)) (fun q => nomatch q)
  have htab5 := k5.keep _ _ (k4.keep _ _ htab3 (fun q => nomatch q)) (fun q => nomatch q)
  have htab7 := c6.plS e7 _ _ (k6.keep _ _ htab5 (fun q => nomatch q)) (tab_plain _)
  generalize l1 ++ [.int 3 t3, .int 17 t17, .int 21 t21] = numV at hN7 hiN
  clear hD6 hD5 hD4 hD3 k2 k3 k4 k5 k6 hi1 hat1 hall hl1 c3 c4 c5 c6 e7 htab3 htab5
  have hnl := intsAre_len hiN
  have hnn := nums_len ns
  have htb := total_bound ns
  -- total
  refine seq (Cx.asgC (G := G) (S := [129]) cT (hcn _ _ cT) (callN (c7.ldB T (g_sum T).1 (g_sum T).2) (arg (c7.ld rfl (arg0 (sumL hh hN7 hiN fun t8 s₈ k8 => ⟨_, _, c7.keep0 k8, fun s₉ c9 e9 => ?_⟩))))))
  have p9 := (k8.toPl).trans ((c7.keep0 k8).plC cT e9)
  have hN9 := hN7.pl p9
  have htab9 := p9 _ _ htab7 (tab_plain _)
  -- rows
  refine seq (Cx.asgC (G := G) (S := [129]) cR (hcn _ _ cR) (compTE (G := G) (S := [129]) (s0 := s0) (cm := c9.theCm) (cl := []) (by rfl) (by rfl) (by decide) (callN (c9.ldB T (g_enumerate T).1 (g_enumerate T).2) (arg (c9.ld rfl (arg0 (enumL hN9 fun en it s₁₀ k10 hen hit hne nen nit => iterEnum hen ?_)))))))
  have c10 := c9.keep0 k10
  have src := srcEn (prog := prog) (w := w) (A := A) (s0 := s0) hh hen hit (k10.pl0 hN9) hne (c9.fresh nen) (c9.fresh nit) (by lia)
  refine ⟨_, en, _, _, _, _, _, _, _, fun i y h => TI h y (rowOf ((numsOf' ns).getD i 0) i), fun _ => True, fun _ => none, rfl, c10,
    ⟨src, ⟨(fun n x q => nomatch q), (fun n n' x q => nomatch q)⟩, (fun n hn => by simp at hn), trivial, (fun i y h h' hkk ⟨b, vs, h1, ⟨o, ho, rr⟩, h3⟩ => ⟨b, vs, h1, ⟨o, hkk b o h1 ho, rr⟩, h3⟩), ?_⟩, fun R rows s₁₁ c11 hR nR k11 hlR hatR _ => ⟨_, _, c11, fun s₁₂ c12 e12 => ?_⟩⟩
  · rintro C i T' vals s' m' cm' hbig hi' ⟨tt, y, hy, rfl⟩ hT' c' pc' st'
    have hy' : numV[i]? = some y := by simpa using hy
    obtain ⟨nv, hnv⟩ : ∃ nv, (numsOf' ns)[i]? = some nv := ⟨_, List.getElem?_eq_getElem (by rw [← hnl]; exact (List.getElem?_eq_some_iff.mp hy').1)⟩
    have hg : (numsOf' ns).getD i 0 = nv := by rw [List.getD_eq_getElem?_getD, hnv]; rfl
    have hb := nums_bound (List.mem_of_getElem? hnv)
    obtain ⟨tv, htv⟩ := intsAre_get hiN i nv hnv
    rw [hy'] at htv; cases htv
    refine c'.unpack2 hh hT' fun s₁₂ c12 k12 => ?_
    refine Tuple_ (arg (wpAny_BinOp (c12.ld rfl (eInt fun _ _ => iMod (by decide) fun t1 _ => arg (wpAny_BinOp (wpAny_BinOp (c12.tk.ld rfl (eInt fun _ _ => iDiv (by decide) (PyProof.noPylong_small (by lia)) fun _ _ => eInt fun _ _ => iMod (by decide) fun t2 _ => arg (wpAny_BinOp (wpAny_BinOp (c12.tk.ld rfl (eInt fun _ _ => iDiv (by decide) (PyProof.noPylong_small (by lia)) fun _ _ => eInt fun _ _ => iMod (by decide) fun t3 u3 => arg (c12.tk.ld rfl (arg0 (newT (s := tk s₁₂ u3) (by simp) fun X s₁₃ k13 hX nX => ?_)))))))))))))))
    have kX : Keep [(cEnv _ _ C (lawEnv L fa)).locals] s' s₁₃ := k12.tk.trans (k13.mono fun _ q => nomatch q)
    refine ⟨⟨_, _, _, (c12.tk (t := u3)).keep0 k13, trivial, kX, fun _ => ownL⟩, ?_, .inl fun b e => ?_⟩
    · show TI s₁₃.heap (.ref X) (rowOf ((numsOf' ns).getD i 0) i)
      rw [hg]
      exact ⟨X, _, rfl, hX, .cons _ _ (.cons _ _ (.cons _ _ (.cons _ _ .nil)))⟩
    · cases e
      refine ⟨k12.tk.none nX fun q => ?_, tup_plain hX⟩
      obtain ⟨oL, _, _, hL, _⟩ := (c12.tk (t := u3)).ns
      rw [List.mem_singleton.mp q, hL] at nX; cases nX
  have p12 := c11.plC cR e12
  have hR12 := hR.pl p12
  have hrow12 : ∀ (i : Nat) v, rows[i]? = some v → TI s₁₂.heap v (rowOf ((numsOf' ns).getD i 0) i) := fun i v hv => (hatR i v hv).pl p12
  have htab12 := p12 _ _ (k11.keep _ _ (k10.keep _ _ htab9 (fun q => nomatch q)) (fun q => by
    obtain ⟨o, ho, hc, _⟩ := hit
    rcases List.mem_cons.mp q with e | q
    · have h1 := k10.keep _ _ htab9 (fun q => nomatch q); rw [e] at h1; unfold IsEnum at hen; rw [hen] at h1; cases h1
    · have h1 := k10.keep _ _ htab9 (fun q => nomatch q); rw [List.mem_singleton.mp q, ho] at h1; cases h1; cases hc)) (tab_plain _)
  have hlR' : rows.length = (numsOf' ns).length := by rw [hlR, List.size_toArray, hnl]
  -- keys
  refine seq (Cx.asgC (G := G) (S := [129]) cK (hcn _ _ cK) (compRE (G := G) (S := [129]) (s0 := s0) (cm := c12.theCm) (cl := [("total", L + 1)]) hh (by rfl) (by rfl) (by decide) (callN (c12.ldB T (g_range T).1 (g_range T).2) (arg (wpAny_BinOp (wpAny_BinOp (wpAny_BinOp (c12.ldC cT rfl (eInt fun _ _ => iDiv (by decide) (PyProof.noPylong_small (by lia)) fun _ _ => eInt fun _ _ => iMod (by decide) fun _ _ => eInt fun _ _ => iAdd fun _ u13 => arg0 (rangeN (s := tk s₁₂ u13) fun rr _ _ _ s₁₃ k13 hr nr => ?_))))))))))
  have c13 := (c12.tk (t := u13)).keep0 k13
  obtain ⟨kn, hkn⟩ : ∃ kn : Nat, kn = (((numsOf' ns).sum.fdiv 216).fmod 3 + 1).toNat := ⟨_, rfl⟩
  have hm3 : 0 ≤ ((numsOf' ns).sum.fdiv 216).fmod 3 ∧ ((numsOf' ns).sum.fdiv 216).fmod 3 < 3 := ⟨Int.fmod_nonneg_of_pos _ (by decide), Int.fmod_lt_of_pos _ (by decide)⟩
  have hkn' : ((numsOf' ns).sum.fdiv 216).fmod 3 + 1 = (kn : Int) := by lia
  rw [hkn'] at hr
  have hk3 : kn ≤ 3 := by lia
  refine ⟨rr, kn, _, _, _, _, fun _ => true, fun i y h => TI h y [(keyOf (numsOf' ns).sum i).1, (keyOf (numsOf' ns).sum i).2], fun cm => cm "total" = some (.int (numsOf' ns).sum t8), upd (fun _ => none) "total" (.int (numsOf' ns).sum t8), rfl, c13, hr, by lia,
    c13.cellsIn (fun p hp => by rw [List.mem_singleton.mp hp]; exact ⟨rfl, rfl⟩), (fun n hn => by simp at hn), rfl, (fun i y h h' hkk ⟨b, vs, h1, ⟨o, ho, rr⟩, h3⟩ => ⟨b, vs, h1, ⟨o, hkk b o h1 ho, rr⟩, h3⟩), ?_, fun Kl kvs s₁₄ c14 hKl nKl k14 hallK => ⟨_, _, c14, fun s₁₅ c15 e15 => ?_⟩⟩
  · intro I s₅ C i tv s' m' cm' hbig hi' c' pc' k'
    refine wpAny_assign_Name (c'.sto fun s₆ c6 e6 => ?_)
    have pc6 : cm' "total" = some (.int (numsOf' ns).sum t8) := pc'
    have h6 : 0 < (6 : Int) ^ i ∧ (6 : Int) ^ i ≤ 36 := by
      rcases (show i = 0 ∨ i = 1 ∨ i = 2 by lia) with rfl | rfl | rfl <;> decide
    have hP : (6 : Int) ^ i ≠ 0 := by lia
    have hsz : (Builtin.Int.intBits 6 : Int) * (i : Int) ≤ 2 ^ 27 := by
      have e : Builtin.Int.intBits 6 = 3 := by decide
      rw [e]; lia
    have hPl : Builtin.divisionGoesByPylong (numsOf' ns).sum (6 ^ i) = false := PyProof.noPylong_small (by lia)
    have hq : 0 ≤ (numsOf' ns).sum.fdiv (6 ^ i) ∧ (numsOf' ns).sum.fdiv (6 ^ i) ≤ 6480 := by
      rw [Int.fdiv_eq_ediv_of_nonneg _ (Int.le_of_lt (Int.pow_pos (by decide)))]
      exact ⟨Int.ediv_nonneg htb.1 (Int.le_of_lt (Int.pow_pos (by decide))), Int.le_trans (Int.ediv_le_self _ htb.1) htb.2⟩
    refine tests_nil ⟨rfl, Tuple_ (arg (wpAny_BinOp (wpAny_BinOp (c6.ldC (a := L + 1) rfl pc6 (wpAny_BinOp (eInt fun _ _ => c6.tk.ld rfl (iPow (by lia) hsz fun _ _ => ?_)))))))⟩
    rw [Int.toNat_natCast]
    refine iDiv hP hPl fun _ _ => eInt fun _ _ => iMod (by decide) fun t1 _ => arg (wpAny_BinOp (eInt fun _ _ => wpAny_BinOp (eInt fun _ _ => wpAny_BinOp (wpAny_BinOp (wpAny_BinOp (c6.tk.ldC (a := L + 1) rfl pc6 (wpAny_BinOp (eInt fun _ _ => c6.tk.ld rfl (iPow (by lia) hsz fun _ _ => ?_)))))))))
    rw [Int.toNat_natCast]
    refine iDiv hP hPl fun _ _ => eInt fun _ _ => iDiv (by decide) (PyProof.noPylong_small (by lia)) fun _ _ => eInt fun _ _ => iMod (by decide) fun _ _ => ?_
    have hmod : 0 ≤ (((numsOf' ns).sum.fdiv (6 ^ i)).fdiv 3).fmod 2 ∧ (((numsOf' ns).sum.fdiv (6 ^ i)).fdiv 3).fmod 2 < 2 := ⟨Int.fmod_nonneg_of_pos _ (by decide), Int.fmod_lt_of_pos _ (by decide)⟩
    refine iMul (by mul_fits) fun _ _ => iSub fun t2 u3 => arg0 (newT (s := tk s₆ u3) (by simp) fun X s₇ k7 hX nX => ?_)
    have kX : Keep [(cEnv _ _ C (lawEnv L fa)).locals] s' s₇ := (c'.sk c6 e6).tk.trans (k7.mono fun _ q => nomatch q)
    refine ⟨⟨_, _, _, (c6.tk (t := u3)).keep0 k7, pc', kX, fun _ => ownL⟩, ⟨X, _, rfl, hX, .cons _ _ (.cons _ _ .nil)⟩, .inl fun b e => ?_⟩
    cases e
    refine ⟨(c'.sk c6 e6).tk.none nX fun q => ?_, tup_plain hX⟩
    obtain ⟨oL, _, _, hL, _⟩ := (c6.tk (t := u3)).ns
    rw [List.mem_singleton.mp q, hL] at nX; cases nX
  have p15 := (k13.toPl.trans k14.toPl).trans (c14.plC cK e15)
  obtain ⟨hlK, hatK⟩ := hallK.whole
  refine k R Kl rows kvs _ _ s₁₅ c15 rfl rfl (PL.pl (h := (tk s₁₂ u13).heap) hR12 p15) (hKl.pl (c14.plC cK e15)) hlR' (fun i v hv => TI.pl (h := (tk s₁₂ u13).heap) (hrow12 i v hv) p15) ⟨?_, fun j v p hv hp => ?_⟩ (p15 _ _ htab12 (tab_plain _))
  · rw [hlK, hkn]; unfold keysOf; rw [List.length_map, List.length_range]
  · have := (hatK j v hv).pl (c14.plC cK e15)
    have e : p = keyOf (numsOf' ns).sum j := by
      unfold keysOf at hp
      rw [List.getElem?_map] at hp
      cases hj : (List.range (((numsOf' ns).sum.fdiv 216).fmod 3 + 1).toNat)[j]? with
      | none => rw [hj] at hp; cases hp
      | some j' =>
        rw [hj] at hp
        have := (List.getElem?_eq_some_iff.mp hj).2
        rw [List.getElem_range] at this
        subst this
        cases hp; rfl
    rw [e]; exact this
end
end Mine
end
section
open PySem PySem.W PyProof.Rows PySem.Calls
set_option maxRecDepth 100000
namespace Mine

theorem TI.uniq {h : Heap} {v : Value} {a b : List Int} (x : TI h v a) (y : TI h v b) : a = b := by
  obtain ⟨p, vs, rfl, ⟨o, ho, _, n, hd⟩, hi⟩ := x
  obtain ⟨p', vs', e, ⟨o', ho', _, n', hd'⟩, hi'⟩ := y
  cases e
  rw [ho] at ho'; cases ho'
  rw [hd] at hd'
  have e := congrArg (fun d : Data => match d with | .seq its _ => its.toList | _ => []) hd'
  have e' : vs = vs' := by simpa using e
  subst e'
  exact intsAre_uniq hi hi'

/-- an object of a kind that iterating, storing and making lambdas leave alone -/
noncomputable def solid (o : Obj) : Prop := plainObj o ∧ o.cls ≠ .type "list_iterator" ∧ o.cls ≠ .type "range_iterator" ∧ o.cls ≠ .none

/-- what stands in the heap behind the law's first statements -/
structure LawF (h : Heap) (L R Kl J dx tA U V : Addr) (rows kvs due turned : List Value) (keys : List (Int × Int)) (ρ : Value → List Int) : Prop where
  hR : PL h R rows
  hKl : PL h Kl kvs
  hK : KeysAre h kvs keys
  hJ : JudgeIn h J dx (.ref tA)
  hT : IsTup h tA kvs.toArray
  hρ : ∀ v ∈ rows, TI h v (ρ v)
  hU : PL h U due
  hV : PL h V turned
  neL : dx ≠ L

section
variable {h h' : Heap} {L R Kl J dx tA U V : Addr} {rows kvs due turned : List Value} {keys : List (Int × Int)} {ρ : Value → List Int}

theorem PL.sol {a : Addr} {l : List Value} (x : PL h a l) : ∃ o, h.get? a = some o ∧ solid o ∧ ∀ h' : Heap, h'.get? a = some o → PL h' a l := by
  obtain ⟨n, e⟩ := x
  exact ⟨_, e, ⟨listO_plain _ _, (by show Value.type "list" ≠ Value.type "list_iterator"; decide), (by show Value.type "list" ≠ Value.type "range_iterator"; decide), (by show Value.type "list" ≠ Value.none; decide)⟩, fun h' e' => ⟨n, e'⟩⟩
theorem PL.mvS {a : Addr} {l : List Value} (x : PL h a l) (p : ∀ b o, h.get? b = some o → solid o → h'.get? b = some o) : PL h' a l := by
  obtain ⟨o, ho, hs, hh⟩ := x.sol; exact hh _ (p _ _ ho hs)
theorem IsTup.mvS {a : Addr} {its : Array Value} (x : IsTup h a its) (p : ∀ b o, h.get? b = some o → solid o → h'.get? b = some o) : IsTup h' a its := by
  obtain ⟨o, ho, hp⟩ := tup_plain x
  obtain ⟨o', ho', hc, r⟩ := x
  rw [ho] at ho'; cases ho'
  exact ⟨o, p _ _ ho ⟨hp, by rw [hc]; decide, by rw [hc]; decide, by rw [hc]; decide⟩, hc, r⟩
theorem TI.mvS {v : Value} {ns : List Int} (x : TI h v ns) (p : ∀ b o, h.get? b = some o → solid o → h'.get? b = some o) : TI h' v ns := by
  obtain ⟨a, vs, e, h1, h2⟩ := x; exact ⟨a, vs, e, IsTup.mvS h1 p, h2⟩

theorem LawF.mv (F : LawF h L R Kl J dx tA U V rows kvs due turned keys ρ) (p : ∀ b o, h.get? b = some o → (solid o ∨ b = dx) → h'.get? b = some o) : LawF h' L R Kl J dx tA U V rows kvs due turned keys ρ := by
  have ps : ∀ b o, h.get? b = some o → solid o → h'.get? b = some o := fun b o e q => p b o e (.inl q)
  refine ⟨F.hR.mvS ps, F.hKl.mvS ps, ⟨F.hK.len, fun j v q a b => (F.hK.at_ j v q a b).mvS ps⟩, ?_, IsTup.mvS F.hT ps, fun v hv => (F.hρ v hv).mvS ps, F.hU.mvS ps, F.hV.mvS ps, F.neL⟩
  obtain ⟨hsh, t, n, h1, h2⟩ := F.hJ
  refine ⟨hsh, t, n, ps _ _ h1 ⟨⟨(fun _ _ q => nomatch q), (fun _ q => nomatch q)⟩, ?_, ?_, ?_⟩, p _ _ h2 (.inr rfl)⟩
  · show Value.ref 38 ≠ Value.type "list_iterator"; exact fun q => nomatch q
  · show Value.ref 38 ≠ Value.type "range_iterator"; exact fun q => nomatch q
  · show Value.ref 38 ≠ Value.none; exact fun q => nomatch q
end

section
variable {G : Heap} {S : List Addr} {s0 s s' : Shared} {env : Env} {m cm : Str → Option Value} {news : List (Addr × Obj)} {L R Kl J dx tA U V : Addr} {rows kvs due turned : List Value} {keys : List (Int × Int)} {ρ : Value → List Int}

theorem LawF.k0 (F : LawF s.heap L R Kl J dx tA U V rows kvs due turned keys ρ) (k : Keep [] s s') : LawF s'.heap L R Kl J dx tA U V rows kvs due turned keys ρ := F.mv fun b o e _ => k.keep b o e (fun q => nomatch q)
theorem LawF.sto (F : LawF s.heap L R Kl J dx tA U V rows kvs due turned keys ρ) (c : Cx G S s0 env m cm news s) (hL : env.locals = L) (e : Heap.SameBut env.locals s.heap s'.heap) : LawF s'.heap L R Kl J dx tA U V rows kvs due turned keys ρ :=
  F.mv fun b o ho q => by
    rcases q with q | q
    · exact sameBut_keep e (c.neL ho q.1) ho
    · exact sameBut_keep e (by rw [q, hL]; exact F.neL) ho
theorem LawF.ne (F : LawF s.heap L R Kl J dx tA U V rows kvs due turned keys ρ) {a : Addr} {o : Obj} (ha : s.heap.get? a = some o) (hd : ∀ es n, o.data ≠ .dict es n) : dx ≠ a := fun q => by
  obtain ⟨hsh, t, n, h1, h2⟩ := F.hJ
  rw [q, ha] at h2; cases h2; exact hd _ _ rfl
theorem LawF.stoC (F : LawF s.heap L R Kl J dx tA U V rows kvs due turned keys ρ) (c : Cx G S s0 env m cm news s) {n : Str} {a : Addr} (ha : env.cells.lookup n = some a) (e : Heap.SameBut a s.heap s'.heap) : LawF s'.heap L R Kl J dx tA U V rows kvs due turned keys ρ :=
  F.mv fun b o ho q => by
    rcases q with q | q
    · exact sameBut_keep e (c.neC ho q.1 ha) ho
    · obtain ⟨oc, hoc, hdc⟩ := c.cell n a ha
      exact sameBut_keep e (by rw [q]; exact F.ne hoc (fun es n z => by rw [hdc] at z; cases z)) ho
theorem LawF.it (F : LawF s.heap L R Kl J dx tA U V rows kvs due turned keys ρ) {I : Addr} {o : Obj} (k : Keep [I] s s') (ho : s.heap.get? I = some o) (hc : o.cls = .type "list_iterator" ∨ o.cls = .type "range_iterator" ∨ o.cls = .none) (hd : ∀ es n, o.data ≠ .dict es n) : LawF s'.heap L R Kl J dx tA U V rows kvs due turned keys ρ :=
  F.mv fun b ob hb q => k.keep b ob hb fun z => by
    have z := List.mem_singleton.mp z
    rcases q with q | q
    · rw [z, ho] at hb; cases hb
      rcases hc with hc | hc | hc
      · exact q.2.1 hc
      · exact q.2.2.1 hc
      · exact q.2.2.2 hc
    · exact F.ne ho hd (q.symm.trans z)
theorem LawF.itL (F : LawF s.heap L R Kl J dx tA U V rows kvs due turned keys ρ) {I l : Addr} {i : Nat} (k : Keep [I] s s') (hI : s.heap.IsListIter I l i) : LawF s'.heap L R Kl J dx tA U V rows kvs due turned keys ρ := by
  obtain ⟨o, ho, hc, hd⟩ := hI
  exact F.it k ho (.inl hc) (fun es n q => by rw [hd] at q; cases q)
theorem LawF.itR (F : LawF s.heap L R Kl J dx tA U V rows kvs due turned keys ρ) {I : Addr} {x y z : Int} (k : Keep [I] s s') (hI : IsRangeIter s.heap I x y z) : LawF s'.heap L R Kl J dx tA U V rows kvs due turned keys ρ :=
  F.it k hI (.inr (.inl rfl)) (fun es n q => nomatch q)
theorem LawF.tab (F : LawF s.heap L R Kl J dx tA U V rows kvs due turned keys ρ) {ps : Array Value} (k : Keep [129] s s') (hI : s.heap.get? 129 = some (tabObj ps)) : LawF s'.heap L R Kl J dx tA U V rows kvs due turned keys ρ :=
  F.it k hI (.inr (.inr rfl)) (fun es n q => nomatch q)
end

section
variable {w : World} {prog : Program} {mg mb : Str → Option Value} {G : Heap} {A : Around} {E : Value → Shared → Prop} {s0 s : Shared} {m cm : Str → Option Value}

set_option maxHeartbeats 1000000 in
theorem lawA2 (T : GT w mg mb G) {n : Nat} (r : Room (n + 4) A) {L fa R Kl : Addr} {rows kvs : List Value} {keys : List (Int × Int)} {ρ : Value → List Int} (c : Cx G [129] s0 (lawEnv L fa) m cm [] s) (mR : cm "rows" = some (.ref R)) (mK : cm "keys" = some (.ref Kl)) (hR : PL s.heap R rows) (hKl : PL s.heap Kl kvs)
    (hρ : ∀ v ∈ rows, TI s.heap v (ρ v) ∧ (ρ v).length = 4) (hrz : rows.length < 100) (hK : KeysAre s.heap kvs keys) (hin : ∀ p ∈ keys, (0 ≤ p.1 ∧ p.1 < 4) ∧ (p.2 = 1 ∨ p.2 = -1)) (hkz : keys.length ≤ 3)
    (hcn : ∀ n c, (cellsFrom (L + 1) lawScope.names []).lookup n = some c → s0.heap.get? c = none) (htab : s.heap.get? 129 = some (tabObj #[])) {Q : Flow → Shared → Prop}
    (k : ∀ J dx tA U V m cm s', Cx G [129] s0 (lawEnv L fa) m cm [] s' → cm "rows" = some (.ref R) → cm "keys" = some (.ref Kl) → cm "judge" = some (.ref J) → cm "due" = some (.ref U) → m "turned" = some (.ref V) →
      LawF s'.heap L R Kl J dx tA U V rows kvs (byColP ρ keys rows) (byColP ρ (negK keys) rows) keys ρ → s'.heap.get? 129 = some (tabObj #[]) →
      wpAny (model prog w) A (execs (lawStmts.drop 7) (lawEnv L fa)) Q E s') :
    wpAny (model prog w) A (execs (lawStmts.drop 4) (lawEnv L fa)) Q E s := by
  have hh : A.handled = none := r.hn
  have cR : (lawEnv L fa).cells.lookup ("rows" : Str) = some (L + 1 + 1) := rfl
  have cK : (lawEnv L fa).cells.lookup ("keys" : Str) = some (L + 1 + 1 + 1) := rfl
  have cJ : (lawEnv L fa).cells.lookup ("judge" : Str) = some (L + 1 + 1 + 1 + 1) := rfl
  have cU : (lawEnv L fa).cells.lookup ("due" : Str) = some (L + 1 + 1 + 1 + 1 + 1) := rfl
  have hkl := hK.len
  have hlen : ∀ (ks : List (Int × Int)), ks.length ≤ 3 → ∀ j, ((ks.reverse.take j).foldl (fun rs k => colPass ρ k rs) rows).length < 2 ^ 18 := fun ks hks j => by
    have h1 := fold_len (ρ := ρ) (ks.reverse.take j) rows
    have h2 : (ks.reverse.take j).length ≤ 3 := by rw [List.length_take, List.length_reverse]; lia
    have h3 : 4 ^ (ks.reverse.take j).length ≤ 4 ^ 3 := Nat.pow_le_pow_right (by decide) h2
    have h4 : 4 ^ (ks.reverse.take j).length * rows.length ≤ 4 ^ 3 * rows.length := Nat.mul_le_mul_right _ h3
    lia
  -- judge
  refine seq (Cx.asgC (G := G) (S := [129]) cJ (hcn _ _ cJ) (wpAny_Call_Name_kw (c.ldG T (g_TupleComp T) (callWith_K (K := KF w.params) (h₀ := G) (first := []) T.k (by kernel_rfl!) (arg (callN (c.ldB T (g_tuple T).1 (g_tuple T).2) (arg (c.ldC cK mK (arg0 (tupleL hKl (by lia) fun tA s₂ k2 htA ntA => arg0 ⟨T.k.keeps (c.keep0 k2).stay, judge_new T (n := n + 1) (r.less (by lia)) (c.keep0 k2).stay fun J dx s₃ k3 hJ nJ ndx => ⟨_, _, (c.keep0 k2).keep0 k3, fun s₄ c4 e4 => ?_⟩⟩))))))))))
  have c3 := (c.keep0 k2).keep0 k3
  have ndxL : dx ≠ L := fun q => by
    obtain ⟨oL, _, _, hL, _⟩ := (c.keep0 k2).ns
    rw [show (lawEnv L fa).locals = L from rfl, ← q, ndx] at hL; cases hL
  have k23 := k2.trans k3
  -- a first bundle, due and turned not yet made
  have F3 : LawF s₃.heap L R Kl J dx tA R R rows kvs rows rows keys ρ := ⟨k23.pl0 hR, k23.pl0 hKl, hK.kp0 k23, hJ, IsTup.kp0 k3 htA, fun v hv => (hρ v hv).1.kp0 k23, k23.pl0 hR, k23.pl0 hR, ndxL⟩
  have F4 := F3.stoC c3 cJ e4
  have htab4 := c3.plC cJ e4 _ _ (k23.keep _ _ htab (fun q => nomatch q)) (tab_plain _)
  have hin4 : ∀ p ∈ keys, 0 ≤ p.1 ∧ p.1 < 4 := fun p hp => (hin p hp).1
  -- due
  refine seq (Cx.asgC (G := G) (S := [129]) cU (hcn _ _ cU) (callF (f := 122) (c4.ldG T (g_by_columns T)) (arg (c4.ldC cR mR (arg (c4.ldC cK mK (arg0 ⟨⟨c4.stay _ _ (T.k _ _ (by rfl)), rfl⟩, by_columns_spec T (n := n + 1) (ρ := ρ) (r.less (by lia)) c4.stay F4.hR F4.hKl F4.hK hin (by lia) (fun v hv => ⟨F4.hρ v hv, (hρ v hv).2⟩) (hlen keys hkz) fun U s₅ k5 hU5 => ⟨_, _, c4.keep0 k5, fun s₆ c6 e6 => ?_⟩⟩)))))))
  have c5 := c4.keep0 k5
  have F5 := F4.k0 k5
  have F6 : LawF s₆.heap L R Kl J dx tA U R rows kvs (byColP ρ keys rows) rows keys ρ := LawF.stoC (s := s₅) { F5 with hU := hU5 } c5 cU e6
  have htab6 := c5.plC cU e6 _ _ (k5.keep _ _ htab4 (fun q => nomatch q)) (tab_plain _)
  -- turned
  refine seq (c6.asgK (callF (f := 122) (c6.ldG T (g_by_columns T)) (arg (c6.ldC cR mR (arg (compLF (G := G) (S := [129]) (s0 := s0) (cm := c6.theCm) (cl := []) hh (by rfl) (by rfl) (by decide) (c6.ldC cK mK ⟨Kl, kvs, _, fun _ => true, fun i y h => ∃ p, keys[i]? = some p ∧ TI h y [p.1, -p.2], fun _ => True, fun _ => none, rfl, c6, F6.hKl, by lia,
    ⟨(fun n x q => nomatch q), (fun n n' x q => nomatch q)⟩, (fun n hn => by simp at hn), trivial, (fun i y h h' hkk ⟨p, hp, b, vs, h1, ⟨o, ho, rr⟩, h3⟩ => ⟨p, hp, b, vs, h1, ⟨o, hkk b o h1 ho, rr⟩, h3⟩), ?_, fun K2 kvs2 s₇ c7 hK2 nK2 k7 hall => arg0 ⟨⟨c7.stay _ _ (T.k _ _ (by rfl)), rfl⟩, ?_⟩⟩)))))))
  · intro I s₇ C i v s' m' cm' hbig _ hv c' pc' hI' k'
    have hil := (List.getElem?_eq_some_iff.mp hv).1
    obtain ⟨p, hp⟩ : ∃ p, keys[i]? = some p := ⟨_, List.getElem?_eq_getElem (by lia)⟩
    obtain ⟨b, t1, t2, rfl, hb⟩ := pair_of ((F6.hK.at_ i v p hv hp).kp0 k')
    refine c'.unpack2 hh hb fun s₈ c8 k8 => ?_
    refine tests_nil ⟨rfl, Tuple_ (arg (c8.ld rfl (arg (wpAny_UnaryOp (c8.ld rfl (iNeg fun t9 u9 => arg0 (newT (s := tk s₈ u9) (by simp) fun X s₉ k9 hX nX => ?_)))))))⟩
    have kX : Keep [(cEnv _ _ C (lawEnv L fa)).locals] s' s₉ := k8.tk.trans (k9.mono fun _ q => nomatch q)
    refine ⟨⟨_, _, _, (c8.tk (t := u9)).keep0 k9, trivial, kX, fun _ => ownL⟩, ⟨p, hp, X, _, rfl, hX, .cons _ _ (.cons _ _ .nil)⟩, .inl fun b e => ?_⟩
    cases e
    refine ⟨k8.tk.none nX fun q => ?_, tup_plain hX⟩
    obtain ⟨oL, _, _, hL, _⟩ := (c8.tk (t := u9)).ns
    rw [List.mem_singleton.mp q, hL] at nX; cases nX
  obtain ⟨hl2, hat2⟩ := hall.whole
  have hK2' : KeysAre s₇.heap kvs2 (negK keys) := by
    refine ⟨by rw [hl2, hkl]; unfold negK; rw [List.length_map], fun j v p hv hp => ?_⟩
    obtain ⟨q, hq, ht⟩ := hat2 j v hv
    unfold negK at hp
    rw [List.getElem?_map, hq] at hp
    cases hp
    exact ht
  have F7 := F6.k0 k7
  refine by_columns_spec T (n := n + 1) (ρ := ρ) (r.less (by lia)) c7.stay F7.hR hK2 hK2' (fun p hp => ?_) (by unfold negK; rw [List.length_map]; lia) (fun v hv => ⟨F7.hρ v hv, (hρ v hv).2⟩) (hlen (negK keys) (by unfold negK; rw [List.length_map]; exact hkz)) fun V s₈ k8 hV8 => ⟨_, _, c7.keep0 k8, fun s₉ c9 e9 => ?_⟩
  · obtain ⟨q, hq, rfl⟩ := List.mem_map.mp hp
    have := hin q hq
    exact ⟨this.1, by show -q.2 = 1 ∨ -q.2 = -1; lia⟩
  have c8 := c7.keep0 k8
  have F9 : LawF s₉.heap L R Kl J dx tA U V rows kvs (byColP ρ keys rows) (byColP ρ (negK keys) rows) keys ρ := LawF.sto (s := s₈) { F7.k0 k8 with hV := hV8 } c8 rfl e9
  have htab9 := c8.plS e9 _ _ (k8.keep _ _ (k7.keep _ _ htab6 (fun q => nomatch q)) (fun q => nomatch q)) (tab_plain _)
  exact k J dx tA U V _ _ s₉ c9 mR mK rfl rfl rfl F9 htab9
end
end Mine
end
section
open PySem PySem.W PyProof.Rows PySem.Calls
set_option maxRecDepth 100000
namespace Mine

section
variable {w : World} {prog : Program} {mg mb : Str → Option Value} {G : Heap} {A : Around} {E : Value → Shared → Prop} {S : List Addr} {s0 s : Shared} {env : Env} {m cm : Str → Option Value}

/-- a call of a method that is a def -/
theorem methF {M : Model} {o : Expr} {name : Str} {apos pos : Pos} {a : Expr} {as : List Expr} {x : Sem Value} {rest : List (Bool × Sem Value)} {f self : Addr} {ob : Obj} {fd : FuncData} {pl : Sem Bool} {Q : Value → Shared → Prop}
    (h : wpAny M A (eval o env) (fun ov s₁ => wpAny M A (getMethod ov name pl) (fun fx s₂ => fx = (Value.ref f, [Value.ref self]) ∧ wpAny M A (spliced (backTo pos (starEach (a :: as) env))) (fun vs s₃ => (s₃.heap.get? f = some ob ∧ ob.data = .func fd) ∧ wpAny M A (call (.ref f) (.ref self :: vs) []) Q E s₃) E s₂) E s₁) E s)
    (he : eval (.Call (.Attribute o name apos) (a :: as) [] pos) env = (do
      let ov ← eval o env
      standAt apos.atName
      let (f, first) ← holding [ov] (getMethod ov name pl)
      callWith pos f first (backTo pos (starEach (a :: as) env)) []) := by rfl)
    (he2 : backTo pos (starEach (a :: as) env) = (false, x) :: rest := by rfl) :
    wpAny M A (eval (.Call (.Attribute o name apos) (a :: as) [] pos) env) Q E s := by
  refine MethodCall_ (pl := pl) (wpAny_mono h (fun ov s₁ h₁ => wpAny_mono h₁ (fun fx s₂ h₂ => ?_) fun _ _ e => e) fun _ _ e => e) he
  obtain ⟨rfl, h2⟩ := h₂
  rw [he2] at h2 ⊢
  exact callWith_function (first := [.ref self]) (evalArgs_plain h2)
end
end Mine
end
section
open PySem PySem.W PyProof.Rows PySem.Calls
set_option maxRecDepth 100000
namespace Mine

noncomputable abbrev rxOf (ρ : Value → List Int) (rows : List Value) : Nat → List Int := fun i => ρ (rows.getD i .none)
/-- the plain facts of the law's data -/
structure LawP (rows due turned : List Value) (keys : List (Int × Int)) (ρ : Value → List Int) (q q' : List Nat) : Prop where
  n3 : 3 ≤ rows.length
  n10 : rows.length ≤ 10
  idx : ∀ (i : Nat) v, rows[i]? = some v → (ρ v).length = 4 ∧ (ρ v)[3]? = some (i : Int)
  hin : ∀ p ∈ keys, (0 ≤ p.1 ∧ p.1 < 4) ∧ (p.2 = 1 ∨ p.2 = -1)
  kz : keys.length ≤ 3
  due_eq : due = q.map fun i => rows.getD i .none
  turned_eq : turned = q'.map fun i => rows.getD i .none
  S : StSort (fun i => (rk keys (rxOf ρ rows) rows.length i : Int)) rows.length q
  S' : StSort (fun i => -(rk keys (rxOf ρ rows) rows.length i : Int)) rows.length q'

theorem LawP.at {rows due turned : List Value} {keys : List (Int × Int)} {ρ : Value → List Int} {q q' : List Nat} (_P : LawP rows due turned keys ρ q q') {i : Nat} {v : Value} (h : rows[i]? = some v) : rows.getD i .none = v := by rw [List.getD_eq_getElem?_getD, h]; rfl
theorem LawP.len4 {rows due turned : List Value} {keys : List (Int × Int)} {ρ : Value → List Int} {q q' : List Nat} (P : LawP rows due turned keys ρ q q') {v : Value} (h : v ∈ rows) : (ρ v).length = 4 := by
  obtain ⟨i, hi, rfl⟩ := List.getElem_of_mem h
  exact (P.idx i _ (List.getElem?_eq_getElem hi)).1
theorem LawP.dueIn {rows due turned : List Value} {keys : List (Int × Int)} {ρ : Value → List Int} {q q' : List Nat} (P : LawP rows due turned keys ρ q q') {v : Value} (h : v ∈ due) : v ∈ rows := by
  rw [P.due_eq] at h
  obtain ⟨i, hi, rfl⟩ := List.mem_map.mp h
  have := P.S.low i hi
  rw [List.getD_eq_getElem?_getD, List.getElem?_eq_getElem this]
  exact List.getElem_mem _
theorem LawP.turnedIn {rows due turned : List Value} {keys : List (Int × Int)} {ρ : Value → List Int} {q q' : List Nat} (P : LawP rows due turned keys ρ q q') {v : Value} (h : v ∈ turned) : v ∈ rows := by
  rw [P.turned_eq] at h
  obtain ⟨i, hi, rfl⟩ := List.mem_map.mp h
  have := P.S'.low i hi
  rw [List.getD_eq_getElem?_getD, List.getElem?_eq_getElem this]
  exact List.getElem_mem _
theorem LawP.dir {rows due turned : List Value} {keys : List (Int × Int)} {ρ : Value → List Int} {q q' : List Nat} (P : LawP rows due turned keys ρ q q') : ∀ p ∈ keys, p.2 = 1 ∨ p.2 = -1 := fun p hp => (P.hin p hp).2

theorem all2_of {α β : Type} {R : α → β → Prop} : ∀ (as : List α) (bs : List β), as.length = bs.length → (∀ (i : Nat) a b, as[i]? = some a → bs[i]? = some b → R a b) → All2 R as bs
  | [], [], _, _ => .nil
  | [], _ :: _, h, _ => by cases h
  | _ :: _, [], h, _ => by cases h
  | a :: as, b :: bs, h, hr => .cons (hr 0 a b rfl rfl) (all2_of as bs (by simpa using h) fun i a b ha hb => hr (i + 1) a b ha hb)
theorem ints_range {l : List Value} {f : Nat → Int} {n : Nat} (hl : l.length = n) (h : ∀ (i : Nat) y, l[i]? = some y → ∃ t, y = .int (f i) t) : IntsAre l ((List.range n).map f) := by
  refine All2.ints (all2_of _ _ (by rw [List.length_range, hl]) fun i a b ha hb => ?_)
  have := (List.getElem?_eq_some_iff.mp ha).2
  rw [List.getElem_range] at this
  subst this
  exact h i b hb

section
variable {w : World} {prog : Program} {mg mb : Str → Option Value} {G : Heap} {A : Around} {E : Value → Shared → Prop} {s0 s : Shared} {m cm : Str → Option Value}

/-- the law's cells as they stand -/
structure LawC (m cm : Str → Option Value) (R Kl J U V : Addr) : Prop where
  r : cm "rows" = some (.ref R)
  k : cm "keys" = some (.ref Kl)
  j : cm "judge" = some (.ref J)
  u : cm "due" = some (.ref U)
  v : m "turned" = some (.ref V)

set_option maxHeartbeats 1000000 in
theorem lawA3 (T : GT w mg mb G) {n : Nat} (r : Room (n + 5) A) {L fa R Kl J dx tA U V : Addr} {rows kvs due turned : List Value} {keys : List (Int × Int)} {ρ : Value → List Int} {q q' : List Nat} (c : Cx G [129] s0 (lawEnv L fa) m cm [] s) (mc : LawC m cm R Kl J U V)
    (F : LawF s.heap L R Kl J dx tA U V rows kvs due turned keys ρ) (P : LawP rows due turned keys ρ q q')
    (hcn : ∀ n c, (cellsFrom (L + 1) lawScope.names []).lookup n = some c → s0.heap.get? c = none) (htab : s.heap.get? 129 = some (tabObj #[])) {Q : Flow → Shared → Prop}
    (k : ∀ K rks m cm s', Cx G [129] s0 (lawEnv L fa) m cm [] s' → LawC m cm R Kl J U V → cm "ranks" = some (.ref K) → LawF s'.heap L R Kl J dx tA U V rows kvs due turned keys ρ → PL s'.heap K rks →
      IntsAre rks ((List.range rows.length).map fun i => (rk keys (rxOf ρ rows) rows.length i : Int)) → s'.heap.get? 129 = some (tabObj #[]) →
      wpAny (model prog w) A (execs (lawStmts.drop 9) (lawEnv L fa)) Q E s') :
    wpAny (model prog w) A (execs (lawStmts.drop 7) (lawEnv L fa)) Q E s := by
  have hh : A.handled = none := r.hn
  have cR : (lawEnv L fa).cells.lookup ("rows" : Str) = some (L + 1 + 1) := rfl
  have cK : (lawEnv L fa).cells.lookup ("keys" : Str) = some (L + 1 + 1 + 1) := rfl
  have cJ : (lawEnv L fa).cells.lookup ("judge" : Str) = some (L + 1 + 1 + 1 + 1) := rfl
  have cU : (lawEnv L fa).cells.lookup ("due" : Str) = some (L + 1 + 1 + 1 + 1 + 1) := rfl
  have cN : (lawEnv L fa).cells.lookup ("ranks" : Str) = some (L + 1 + 1 + 1 + 1 + 1 + 1 + 1) := rfl
  have n10 := P.n10
  have kz := P.kz
  have hinK : ∀ p ∈ keys, 0 ≤ p.1 ∧ p.1 < 4 := fun p hp => (P.hin p hp).1
  -- ranks
  refine seq (Cx.asgC (G := G) (S := [129]) cN (hcn _ _ cN) (compLF (G := G) (S := [129]) (s0 := s0) (cm := cm) (cl := [("rows", L + 1 + 1), ("judge", L + 1 + 1 + 1 + 1)]) hh (by rfl) (by rfl) (by decide) (c.ldC cR mc.r ⟨R, rows, _, fun _ => true, fun i y _ => ∃ t, y = .int (rk keys (rxOf ρ rows) rows.length i : Nat) t, fun cm => cm "rows" = some (.ref R) ∧ cm "judge" = some (.ref J),
    fun x => if x = "row" then none else cm x, rfl, c, F.hR, by lia, c.cellsIn (fun p hp => by simp only [List.mem_cons, List.not_mem_nil, or_false] at hp; rcases hp with rfl | rfl <;> exact ⟨rfl, rfl⟩), (fun n hn => by simp at hn; subst hn; rfl), ⟨mc.r, mc.j⟩, (fun _ _ _ _ _ h => h), ?_, fun K rks s₂ c2 hK2 nK k2 hall => ⟨_, _, c2, fun s₃ c3 e3 => ?_⟩⟩)))
  · intro I s₂ C i v s' m' cm' hbig hnew hv c' pc' hI' k'
    have F' := F.k0 k'
    have hvr : rows.getD i .none = v := P.at hv
    have hil := (List.getElem?_eq_some_iff.mp hv).1
    refine wpAny_assign_Name (c'.stoC (x := "row") (a := C + 1) rfl (hbig _ (Nat.le_succ _)) fun s₄ c4 e4 => ?_)
    have k4 : Keep [C + 1] s' s₄ := c'.sk c4 e4
    have ks4 : Keep [] s s₄ := k'.drop k4 fun x hx => by rw [List.mem_singleton.mp hx]; exact hnew _ (Nat.le_succ _)
    have F4 := F.k0 ks4
    have hX : ∀ x ∈ [C + 1], x = c'.theEnv.locals ∨ ∃ n, c'.theEnv.cells.lookup n = some x := fun x hx => .inr ⟨"row", by rw [List.mem_singleton.mp hx]; rfl⟩
    refine tests_nil ⟨rfl, callN (c4.ldB T (g_len T).1 (g_len T).2) (arg (compLF (G := G) (S := [I]) (s0 := s₂) (cm := c4.theCm) (cl := [("row", C + 1), ("judge", L + 1 + 1 + 1 + 1)]) hh (by rfl) (by rfl) (by decide) (c4.ldC (a := L + 1 + 1) rfl pc'.1 ⟨R, rows, _, fun k => decide (cmpP keys (rxOf ρ rows k) (rxOf ρ rows i) < 0), fun _ _ _ => True, fun cm => cm "judge" = some (.ref J) ∧ cm "row" = some v,
      c4.theCm, rfl, c4, F4.hR, by lia, c4.cellsIn (fun p hp => by simp only [List.mem_cons, List.not_mem_nil, or_false] at hp; rcases hp with rfl | rfl <;> exact ⟨rfl, rfl⟩), (fun n hn => by simp at hn), ⟨pc'.2, rfl⟩, (fun _ _ _ _ _ _ => trivial), ?_, fun D5 l5 s₅ c5 hD5 nD5 k5 hall5 => arg0 (lenL hD5 ?_ fun t6 u6 => ?_)⟩)))⟩
    · intro I' s₅ C' i' v' s'' m'' cm'' hbig' hnew' hv' c'' pc'' hI'' k''
      have hvr' : rows.getD i' .none = v' := P.at hv'
      refine wpAny_assign_Name (c''.sto fun s₆ c6 e6 => ?_)
      have k6 : Keep [C'] s'' s₆ := c''.sk c6 e6
      have ks6 : Keep [] s₄ s₆ := k''.drop k6 fun x hx => by rw [List.mem_singleton.mp hx]; exact hnew' _ (Nat.le_refl _)
      have F6 := F4.k0 ks6
      refine tests_one (wpAny_isTrue_Compare1 (methF (f := 35) (self := J) (pl := do return (← importBound _ _).getD true) (c6.ldC (a := L + 1 + 1 + 1 + 1) rfl pc''.1 (judge_method T c6.stay F6.hJ.at ⟨rfl, arg (c6.ld rfl (arg (c6.ldC (a := C + 1) rfl pc''.2 (arg0 ⟨⟨c6.stay _ _ (T.k _ _ (by rfl)), rfl⟩, compare_spec T (n := n + 2) (r.less (by lia)) c6.stay F6.hJ.at F6.hT F6.hK hinK (by lia) (F6.hρ v' (List.mem_of_getElem? hv')) (F6.hρ v (List.mem_of_getElem? hv)) (P.len4 (List.mem_of_getElem? hv')) (P.len4 (List.mem_of_getElem? hv)) fun t7 s₇ k7 => eInt fun _ u7 => cLt (wpAny_truthy_bool ?_)⟩))))⟩))))
      have c7 := (c6.keep0 k7).tk (t := u7)
      have kX : Keep [C'] s'' (tk s₇ u7) := (k6.trans (k7.mono fun _ q => nomatch q)).tk
      have hp : decide (cmpP keys (rxOf ρ rows i') (rxOf ρ rows i) < 0) = decide (cmpP keys (ρ v') (ρ v) < 0) := by
        show decide (cmpP keys (ρ (rows.getD i' .none)) (ρ (rows.getD i .none)) < 0) = _
        rw [hvr, hvr']
      by_cases hlt : cmpP keys (ρ v') (ρ v) < 0
      · rw [if_pos (by simpa using hlt)]
        exact ⟨by rw [hp]; simpa using hlt, c7.ld rfl ⟨⟨_, _, _, c7, pc'', kX, fun x hx => .inl (List.mem_singleton.mp hx)⟩, trivial, .inr fun _ => trivial⟩⟩
      · rw [if_neg (by simpa using hlt)]
        exact ⟨by rw [hp]; simpa using hlt, ⟨_, _, _, c7, pc'', kX, fun x hx => .inl (List.mem_singleton.mp hx)⟩⟩
    · rw [← hall5.len]
      exact Nat.lt_of_le_of_lt (List.length_filter_le _ _) (by rw [List.length_range]; lia)
    · have c6 := c5.tk (t := u6)
      have e5 : l5.length = rk keys (rxOf ρ rows) rows.length i := by rw [← hall5.len]; rfl
      rw [e5]
      exact ⟨⟨_, _, [C + 1], c6, ⟨pc'.1, pc'.2⟩, (k4.trans (k5.mono fun _ q => nomatch q)).tk, hX⟩, ⟨t6, rfl⟩, .inr fun _ => ⟨t6, rfl⟩⟩
  obtain ⟨hlK, hatK⟩ := hall.whole
  have hiK : IntsAre rks ((List.range rows.length).map fun i => (rk keys (rxOf ρ rows) rows.length i : Int)) := ints_range hlK hatK
  have F2 := F.k0 k2
  have F3 := F2.stoC c2 cN e3
  have p3 := c2.plC cN e3
  have hK3 := hK2.pl p3
  have htab3 := p3 _ _ (k2.keep _ _ htab (fun q => nomatch q)) (tab_plain _)
  have mc3 : LawC _ (upd cm "ranks" (.ref K)) R Kl J U V := ⟨mc.r, mc.k, mc.j, mc.u, mc.v⟩
  -- if ranks != [..]
  refine seq (wpAny_If (wpAny_isTrue_Compare1 (c3.ldC cN rfl (compLF (G := G) (S := [129]) (s0 := s0) (cm := c3.theCm) (cl := [("keys", L + 1 + 1 + 1), ("due", L + 1 + 1 + 1 + 1 + 1)]) hh (by rfl) (by rfl) (by decide) (c3.ldC cR mc3.r ⟨R, rows, _, fun _ => true, fun i y _ => ∃ t, y = .int (rk keys (rxOf ρ rows) rows.length i : Nat) t, fun cm => cm "keys" = some (.ref Kl) ∧ cm "due" = some (.ref U),
    c3.theCm, rfl, c3, F3.hR, by lia, c3.cellsIn (fun p hp => by simp only [List.mem_cons, List.not_mem_nil, or_false] at hp; rcases hp with rfl | rfl <;> exact ⟨rfl, rfl⟩), (fun n hn => by simp at hn), ⟨mc3.k, mc3.u⟩, (fun _ _ _ _ _ h => h), ?_, fun D l s₄ c4 hD4 nD k4 hall4 => ?_⟩)))))
  · intro I s₅ C i v s' m' cm' hbig hnew hv c' pc' hI' k'
    have hvr : rows.getD i .none = v := P.at hv
    have hil := (List.getElem?_eq_some_iff.mp hv).1
    refine wpAny_assign_Name (c'.sto fun s₄ c4 e4 => ?_)
    have k4 : Keep [C] s' s₄ := c'.sk c4 e4
    have ks4 : Keep [] s₃ s₄ := k'.drop k4 fun x hx => by rw [List.mem_singleton.mp hx]; exact hnew _ (Nat.le_refl _)
    have F4 := F3.k0 ks4
    obtain ⟨i', hi', hiN, hcols, hbefore⟩ := told_place (rx := rxOf ρ rows) P.dir P.S hil
    have dAt : ∀ (j k : Nat), q[j]? = some k → due[j]? = some (rows.getD k .none) := fun j k hk => by rw [P.due_eq, List.getElem?_map, hk]; rfl
    refine tests_nil ⟨rfl, callF (f := 127) (c4.ldG T (g_told_rank T)) (arg (c4.ldC (a := L + 1 + 1 + 1 + 1 + 1) rfl pc'.2 (arg (c4.ld rfl (arg (c4.ldC (a := L + 1 + 1 + 1) rfl pc'.1 (arg0 ⟨⟨c4.stay _ _ (T.k _ _ (by rfl)), rfl⟩, told_rank_spec T (n := n + 2) (ρ := ρ) (r.less (by lia)) c4.stay F4.hU F4.hKl F4.hK hinK (by lia) (fun v hv => ⟨F4.hρ v (P.dueIn hv), P.len4 (P.dueIn hv)⟩) (F4.hρ v (List.mem_of_getElem? hv)) (P.len4 (List.mem_of_getElem? hv)) ?_ (dAt _ _ hi') ?_ ?_ fun t5 s₅ k5 => ?_⟩)))))))⟩
    · rw [P.due_eq, List.length_map, P.S.len]; lia
    · rw [← hvr]; exact hcols
    · intro j u hj hu
      rw [P.due_eq, List.getElem?_map] at hu
      cases hqj : q[j]? with
      | none => rw [hqj] at hu; cases hu
      | some kk =>
        rw [hqj] at hu; cases hu
        rw [← hvr]
        exact (hbefore j kk hj hqj).2
    · exact ⟨⟨_, _, _, c4.keep0 k5, pc', k4.trans (k5.mono fun _ q => nomatch q), fun x hx => .inl (List.mem_singleton.mp hx)⟩, ⟨t5, rfl⟩, .inr fun _ => ⟨t5, rfl⟩⟩
  obtain ⟨hl4, hat4⟩ := hall4.whole
  refine neInts (by have := r.u; lia) (k4.pl0 hK3) hD4 hiK (ints_range hl4 hat4) (wpAny_truthy_bool ?_)
  rw [if_neg Bool.false_ne_true]
  exact wpAny_execs_nil (k K rks _ _ s₄ c4 mc3 rfl (F3.k0 k4) (k4.pl0 hK3) hiK (k4.keep _ _ htab3 (fun q => nomatch q)))
end
end Mine
end
section
open PySem PySem.W PyProof.Rows PySem.Calls
set_option maxRecDepth 100000
namespace Mine

/-- the same with the ranks -/
structure LawK (h : Heap) (L R Kl J dx tA U V K : Addr) (rows kvs due turned rks : List Value) (keys : List (Int × Int)) (ρ : Value → List Int) : Prop where
  F : LawF h L R Kl J dx tA U V rows kvs due turned keys ρ
  N : PL h K rks

section
variable {G : Heap} {S : List Addr} {s0 s s' : Shared} {env : Env} {m cm : Str → Option Value} {news : List (Addr × Obj)} {L R Kl J dx tA U V K : Addr} {rows kvs due turned rks : List Value} {keys : List (Int × Int)} {ρ : Value → List Int}

theorem LawK.k0 (F : LawK s.heap L R Kl J dx tA U V K rows kvs due turned rks keys ρ) (k : Keep [] s s') : LawK s'.heap L R Kl J dx tA U V K rows kvs due turned rks keys ρ := ⟨F.F.k0 k, k.pl0 F.N⟩
theorem LawK.sto (F : LawK s.heap L R Kl J dx tA U V K rows kvs due turned rks keys ρ) (c : Cx G S s0 env m cm news s) (hL : env.locals = L) (e : Heap.SameBut env.locals s.heap s'.heap) : LawK s'.heap L R Kl J dx tA U V K rows kvs due turned rks keys ρ := ⟨F.F.sto c hL e, F.N.pl (c.plS e)⟩
theorem LawK.stoC (F : LawK s.heap L R Kl J dx tA U V K rows kvs due turned rks keys ρ) (c : Cx G S s0 env m cm news s) {n : Str} {a : Addr} (ha : env.cells.lookup n = some a) (e : Heap.SameBut a s.heap s'.heap) : LawK s'.heap L R Kl J dx tA U V K rows kvs due turned rks keys ρ := ⟨F.F.stoC c ha e, F.N.pl (c.plC ha e)⟩
theorem LawK.itL (F : LawK s.heap L R Kl J dx tA U V K rows kvs due turned rks keys ρ) {I l : Addr} {i : Nat} (k : Keep [I] s s') (hI : s.heap.IsListIter I l i) : LawK s'.heap L R Kl J dx tA U V K rows kvs due turned rks keys ρ := ⟨F.F.itL k hI, F.N.kp k (fun q => iter_ne_list hI F.N (List.mem_singleton.mp q).symm)⟩
theorem LawK.itR (F : LawK s.heap L R Kl J dx tA U V K rows kvs due turned rks keys ρ) {I : Addr} {x y z : Int} (k : Keep [I] s s') (hI : IsRangeIter s.heap I x y z) : LawK s'.heap L R Kl J dx tA U V K rows kvs due turned rks keys ρ := ⟨F.F.itR k hI, F.N.kp k (fun q => iter_ne_list' hI F.N (List.mem_singleton.mp q).symm)⟩
theorem LawK.tab (F : LawK s.heap L R Kl J dx tA U V K rows kvs due turned rks keys ρ) {ps : Array Value} (k : Keep [129] s s') (hI : s.heap.get? 129 = some (tabObj ps)) : LawK s'.heap L R Kl J dx tA U V K rows kvs due turned rks keys ρ := ⟨F.F.tab k hI, F.N.kp k (fun q => by
  obtain ⟨n, e⟩ := F.N
  rw [List.mem_singleton.mp q, hI] at e; cases e)⟩
theorem tab_it {I l : Addr} {i : Nat} {ps : Array Value} (k : Keep [I] s s') (hI : s.heap.IsListIter I l i) (h : s.heap.get? 129 = some (tabObj ps)) : s'.heap.get? 129 = some (tabObj ps) := k.keep _ _ h fun q => by
  obtain ⟨o, ho, hc, _⟩ := hI
  rw [← List.mem_singleton.mp q, h] at ho; cases ho; cases hc
theorem tab_itR {I : Addr} {x y z : Int} {ps : Array Value} (k : Keep [I] s s') (hI : IsRangeIter s.heap I x y z) (h : s.heap.get? 129 = some (tabObj ps)) : s'.heap.get? 129 = some (tabObj ps) := k.keep _ _ h fun q => by
  unfold IsRangeIter at hI
  rw [← List.mem_singleton.mp q, h] at hI; cases hI
end

section
variable {w : World} {prog : Program} {mg mb : Str → Option Value} {G : Heap} {A : Around} {E : Value → Shared → Prop} {s0 s : Shared} {m cm : Str → Option Value}

inductive LbI (G : Heap) (s0 : Shared) (L fa R Kl J dx tA U V K : Addr) (rows kvs due turned rks : List Value) (keys : List (Int × Int)) (ρ : Value → List Int) (cm : Str → Option Value) (I : Addr) (kk : Nat) (s : Shared) : Prop
  | mk (i : Nat) (m : Str → Option Value)
    (hik : i + kk = rows.length)
    (c : Cx G [129] s0 (lawEnv L fa) m cm [] s)
    (mc : LawC m cm R Kl J U V)
    (F : LawK s.heap L R Kl J dx tA U V K rows kvs due turned rks keys ρ)
    (tab : s.heap.get? 129 = some (tabObj #[]))
    (it : s.heap.IsListIter I R i)
inductive LcI (G : Heap) (s0 : Shared) (L fa R Kl J dx tA U V K : Addr) (rows kvs due turned rks : List Value) (keys : List (Int × Int)) (ρ : Value → List Int) (cm : Str → Option Value) (I I2 : Addr) (v : Value) (i : Nat) (kk : Nat) (s : Shared) : Prop
  | mk (j : Nat) (m : Str → Option Value)
    (hjk : j + kk = rows.length)
    (c : Cx G [129] s0 (lawEnv L fa) m cm [] s)
    (mc : LawC m cm R Kl J U V)
    (mr : m "row" = some v)
    (F : LawK s.heap L R Kl J dx tA U V K rows kvs due turned rks keys ρ)
    (tab : s.heap.get? 129 = some (tabObj #[]))
    (it : s.heap.IsListIter I R (i + 1))
    (it2 : s.heap.IsListIter I2 R j)

set_option maxHeartbeats 1000000 in
theorem lawB (T : GT w mg mb G) {n : Nat} (r : Room (n + 5) A) {L fa R Kl J dx tA U V K : Addr} {rows kvs due turned rks : List Value} {keys : List (Int × Int)} {ρ : Value → List Int} {q q' : List Nat} (c : Cx G [129] s0 (lawEnv L fa) m cm [] s) (mc : LawC m cm R Kl J U V) (mk : cm "ranks" = some (.ref K))
    (F : LawK s.heap L R Kl J dx tA U V K rows kvs due turned rks keys ρ) (P : LawP rows due turned keys ρ q q') (hi : IntsAre rks ((List.range rows.length).map fun i => (rk keys (rxOf ρ rows) rows.length i : Int)))
    (htab : s.heap.get? 129 = some (tabObj #[])) {Q : Flow → Shared → Prop}
    (k : ∀ m s', Cx G [129] s0 (lawEnv L fa) m cm [] s' → LawC m cm R Kl J U V → LawK s'.heap L R Kl J dx tA U V K rows kvs due turned rks keys ρ → s'.heap.get? 129 = some (tabObj #[]) →
      wpAny (model prog w) A (execs (lawStmts.drop 10) (lawEnv L fa)) Q E s') :
    wpAny (model prog w) A (execs (lawStmts.drop 9) (lawEnv L fa)) Q E s := by
  have hh : A.handled = none := r.hn
  have cR : (lawEnv L fa).cells.lookup ("rows" : Str) = some (L + 1 + 1) := rfl
  have cJ : (lawEnv L fa).cells.lookup ("judge" : Str) = some (L + 1 + 1 + 1 + 1) := rfl
  have cN : (lawEnv L fa).cells.lookup ("ranks" : Str) = some (L + 1 + 1 + 1 + 1 + 1 + 1 + 1) := rfl
  have n10 := P.n10
  have hinK : ∀ p ∈ keys, 0 ≤ p.1 ∧ p.1 < 4 := fun p hp => (P.hin p hp).1
  have hrl : rks.length = rows.length := by rw [intsAre_len hi, List.length_map, List.length_range]
  have rkAt : ∀ i, i < rows.length → ∃ t, rks[i]? = some (.int (rk keys (rxOf ρ rows) rows.length i : Nat) t) := fun i hi' => intsAre_get hi i _ (by rw [List.getElem?_map, List.getElem?_eq_getElem (by simpa using hi')]; simp)
  refine seq (wpAny_For (c.ldC cR mc.r (iterL F.F.hR fun I s₂ k2 hI nI => ?_)))
  have nI0 : s0.heap.get? I = none := c.fresh nI
  have c2 := c.keep0 k2
  refine forLoopF (LbI G s0 L fa R Kl J dx tA U V K rows kvs due turned rks keys ρ cm I) rows.length
    ⟨0, m, by lia, c2, mc, F.k0 k2, k2.keep _ _ htab (fun q => nomatch q), hI⟩ ?_
  rintro J1 hJ1 kk s' ⟨i, m', hik, c', mc', F', htab', hI'⟩
  have I129 : ∀ {I l : Addr} {i : Nat} {s : Shared}, s.heap.IsListIter I l i → s.heap.get? 129 = some (tabObj #[]) → I ∉ [129] := fun {I l i s} hI h q => by
    obtain ⟨o, ho, hc, _⟩ := hI
    rw [List.mem_singleton.mp q, h] at ho; cases ho; cases hc
  refine nextL hh hI' F'.F.hR (fun v s₃ hv hI3 e3 k3 => ?_) (fun s₃ hi3 k3 => ?_)
  · have c3 : Cx G [129] s0 (lawEnv L fa) m' cm [] s₃ := c'.after k3 (fun a ha => by rw [List.mem_singleton.mp ha]; exact ⟨.inr nI0, listIter_plain hI'⟩) (fun a ha hb => by rw [List.mem_singleton.mp ha] at hb; exact absurd hb (I129 hI' htab')) (fun _ q => nomatch q)
    have F3 := F'.itL k3 hI'
    have htab3 := tab_it k3 hI' htab'
    refine wpAny_pure (wpAny_assign_Name (c3.sto fun s₄ c4 e4 => ?_))
    have F4 := F3.sto c3 rfl e4
    have htab4 := c3.plS e4 _ _ htab3 (tab_plain _)
    have hI4 := IterL.pl hI3 (c3.plS e4)
    have hil := (List.getElem?_eq_some_iff.mp hv).1
    have hvr : rows.getD i .none = v := P.at hv
    refine seq (wpAny_For (c4.ldC cR mc.r (iterL F4.F.hR fun I2 s₅ k5 hI5 nI2 => ?_)))
    have nI20 : s0.heap.get? I2 = none := c4.fresh nI2
    have c5 := c4.keep0 k5
    have hI_5 := IterL.pl hI4 k5.toPl
    have neII : I ≠ I2 := fun e => by obtain ⟨o, ho, _⟩ := hI4; rw [e, nI2] at ho; cases ho
    refine forLoopF (LcI G s0 L fa R Kl J dx tA U V K rows kvs due turned rks keys ρ cm I I2 v i) rows.length
      ⟨0, _, by lia, c5, ⟨mc'.r, mc'.k, mc'.j, mc'.u, mc'.v⟩, rfl, F4.k0 k5, k5.keep _ _ htab4 (fun q => nomatch q), hI_5, hI5⟩ ?_
    rintro J2 hJ2 kk2 s₆ ⟨j, m6, hjk, c6, mc6, mrow, F6, htab6, hI6, hI26⟩
    have mvI : ∀ {s' : Shared}, Keep [I2] s₆ s' → s'.heap.IsListIter I R (i + 1) := fun {s'} k => by
      obtain ⟨o, ho, rr⟩ := hI6
      exact ⟨o, k.keep _ _ ho (fun q => neII (List.mem_singleton.mp q)), rr⟩
    refine nextL hh hI26 F6.F.hR (fun u s₇ hu hI27 e7 k7 => ?_) (fun s₇ hj7 k7 => ?_)
    · have c7 : Cx G [129] s0 (lawEnv L fa) m6 cm [] s₇ := c6.after k7 (fun a ha => by rw [List.mem_singleton.mp ha]; exact ⟨.inr nI20, listIter_plain hI26⟩) (fun a ha hb => by rw [List.mem_singleton.mp ha] at hb; exact absurd hb (I129 hI26 htab6)) (fun _ q => nomatch q)
      have F7 := F6.itL k7 hI26
      have htab7 := tab_it k7 hI26 htab6
      have hI7 := mvI k7
      refine wpAny_pure (wpAny_assign_Name (c7.sto fun s₈ c8 e8 => ?_))
      have F8 := F7.sto c7 rfl e8
      have htab8 := c7.plS e8 _ _ htab7 (tab_plain _)
      have hI8 := IterL.pl hI7 (c7.plS e8)
      have hI28 := IterL.pl hI27 (c7.plS e8)
      have hjl := (List.getElem?_eq_some_iff.mp hu).1
      have hur : rows.getD j .none = u := P.at hu
      obtain ⟨ti, hti⟩ := rkAt i hil
      obtain ⟨tj, htj⟩ := rkAt j hjl
      have lv := P.idx i v hv
      have lu := P.idx j u hu
      have hrow : ∀ {s'' : Shared}, Keep [] s₈ s'' → ∀ {Q : Value → Shared → Prop} {p1 p2 p3 p4 p5 : Pos} {k3 : Nat}, (∀ u9, Q (.int (rk keys (rxOf ρ rows) rows.length i : Nat) ti) (tk s'' u9)) →
          wpAny (model prog w) A (eval (.Subscript (.Name "ranks" p1) (.Subscript (.Name "row" p2) (.Constant (.int 3) k3 p3) p4) p5) (lawEnv L fa)) Q (fun _ _ => False) s'' := fun {s''} k' {Q p1 p2 p3 p4 p5 k3} hQ => by
        have c9 := c8.keep0 k'
        exact Subscript_ (c9.ldC cN mk (Subscript_ (c9.ld (v := v) mrow (eInt fun _ u9 => itemI (s := tk s'' u9) ((F8.F.hρ v (List.mem_of_getElem? hv)).kp0 k'.tk) (j := 3) rfl lv.2 (by lia) fun t3 => itemL (s := tk s'' u9) (k'.tk.pl0 F8.N) rfl hti (by lia) (hQ u9)))))
      have hoth : ∀ {s'' : Shared}, Keep [] s₈ s'' → ∀ {Q : Value → Shared → Prop} {p1 p2 p3 p4 p5 : Pos} {k3 : Nat}, (∀ u9, Q (.int (rk keys (rxOf ρ rows) rows.length j : Nat) tj) (tk s'' u9)) →
          wpAny (model prog w) A (eval (.Subscript (.Name "ranks" p1) (.Subscript (.Name "other" p2) (.Constant (.int 3) k3 p3) p4) p5) (lawEnv L fa)) Q (fun _ _ => False) s'' := fun {s''} k' {Q p1 p2 p3 p4 p5 k3} hQ => by
        have c9 := c8.keep0 k'
        exact Subscript_ (c9.ldC cN mk (Subscript_ (c9.ld rfl (eInt fun _ u9 => itemI (s := tk s'' u9) ((F8.F.hρ u (List.mem_of_getElem? hu)).kp0 k'.tk) (j := 3) rfl lu.2 (by lia) fun t3 => itemL (s := tk s'' u9) (k'.tk.pl0 F8.N) rfl htj (by lia) (hQ u9)))))
      refine seq (wpAny_If (wpAny_isTrue_Compare1 (methF (f := 35) (self := J) (pl := do return (← importBound _ _).getD true) (c8.ldC cJ mc6.j (judge_method T c8.stay F8.F.hJ.at ⟨rfl, arg (c8.ld (v := v) mrow (arg (c8.ld rfl (arg0 ⟨⟨c8.stay _ _ (T.k _ _ (by rfl)), rfl⟩, compare_spec T (n := n + 2) (r.less (by lia)) c8.stay F8.F.hJ.at F8.F.hT F8.F.hK hinK (by have := P.kz; lia) (F8.F.hρ v (List.mem_of_getElem? hv)) (F8.F.hρ u (List.mem_of_getElem? hu)) lv.1 lu.1 fun t9 s₉ k9 => ?_⟩))))⟩)))))
      refine wpAny_BinOp (wpAny_Compare1 (hrow k9 fun u1 => hoth k9.tk fun u2 => cGt (wpAny_Compare1 (hrow k9.tk.tk fun u3 => hoth k9.tk.tk.tk fun u4 => cLt ?_))))
      refine sub_bool (cNe (wpAny_truthy_bool ?_))
      have hcmp := cmp_rk (rx := rxOf ρ rows) P.dir hil hjl
      rw [if_neg]
      · refine wpAny_execs_nil (wpAny_execs_nil ⟨kk2 - 1, by lia, hJ2 _ _ ⟨j + 1, _, by lia, ((((((c8.keep0 k9).tk (t := u1)).tk (t := u2)).tk (t := u3)).tk (t := u4)).tk), ⟨mc6.r, mc6.k, mc6.j, mc6.u, mc6.v⟩, mrow, F8.k0 k9.tk.tk.tk.tk.tk, k9.keep _ _ htab8 (fun q => nomatch q), IterL.pl hI8 k9.toPl, IterL.pl hI28 k9.toPl⟩⟩)
      · show ¬ ((cmpP keys (ρ v) (ρ u) != _) = true)
        have e1 : cmpP keys (ρ v) (ρ u) = cmpP keys (rxOf ρ rows i) (rxOf ρ rows j) := by show _ = cmpP keys (ρ (rows.getD i .none)) (ρ (rows.getD j .none)); rw [hvr, hur]
        rw [e1, hcmp]
        have eb : ∀ b : Bool, b2i b = if b = true then 1 else 0 := fun b => by cases b <;> rfl
        rw [eb, eb]
        simp only [decide_eq_true_eq, Int.ofNat_lt]
        simp
    · have c7 : Cx G [129] s0 (lawEnv L fa) m6 cm [] s₇ := c6.after k7 (fun a ha => by rw [List.mem_singleton.mp ha]; exact ⟨.inr nI20, listIter_plain hI26⟩) (fun a ha hb => by rw [List.mem_singleton.mp ha] at hb; exact absurd hb (I129 hI26 htab6)) (fun _ q => nomatch q)
      exact wpAny_execs_nil ⟨kk - 1, by lia, hJ1 _ _ ⟨i + 1, _, by lia, c7, mc6, F6.itL k7 hI26, tab_it k7 hI26 htab6, mvI k7⟩⟩
  · have c3 : Cx G [129] s0 (lawEnv L fa) m' cm [] s₃ := c'.after k3 (fun a ha => by rw [List.mem_singleton.mp ha]; exact ⟨.inr nI0, listIter_plain hI'⟩) (fun a ha hb => by rw [List.mem_singleton.mp ha] at hb; exact absurd hb (I129 hI' htab')) (fun _ q => nomatch q)
    exact k m' s₃ c3 mc' (F'.itL k3 hI') (tab_it k3 hI' htab')
end
end Mine
end
section
open PySem PySem.W PyProof.Rows PySem.Calls
set_option maxRecDepth 100000
namespace Mine

theorem among_app {pos : Pos} {a b : Nat} {v : Value} : ∀ (l : List Value), TriplesOk l → (codeAmong pos (l ++ [rawInt a, rawInt b, v]) = codeAmong pos l ∨ (codeAmong pos l = none ∧ codeAmong pos (l ++ [rawInt a, rawInt b, v]) = some v)) ∧ TriplesOk (l ++ [rawInt a, rawInt b, v])
  | [], _ => by
    refine ⟨?_, trivial⟩
    show (if (((a : Int) == pos.line) && ((b : Int) == pos.col)) = true then some v else codeAmong pos []) = none ∨ _
    split
    · rename_i h
      refine .inr ⟨rfl, ?_⟩
      show (if (((a : Int) == pos.line) && ((b : Int) == pos.col)) = true then some v else codeAmong pos []) = some v
      rw [if_pos h]
    · exact .inl rfl
  | .int x t :: .int y u :: c :: r, h => by
    obtain ⟨h1, h2⟩ := among_app (pos := pos) (a := a) (b := b) (v := v) r h
    refine ⟨?_, h2⟩
    show (if (x == pos.line && y == pos.col) = true then some c else codeAmong pos (r ++ [rawInt a, rawInt b, v])) = (if (x == pos.line && y == pos.col) = true then some c else codeAmong pos r) ∨ ((if (x == pos.line && y == pos.col) = true then some c else codeAmong pos r) = none ∧ (if (x == pos.line && y == pos.col) = true then some c else codeAmong pos (r ++ [rawInt a, rawInt b, v])) = some v)
    split
    · exact .inl rfl
    · exact h1

/-- the table of the law's own codes -/
noncomputable def TabIn (h : Heap) (q : Str) (ps : Array Value) : Prop := TriplesOk ps.toList ∧ ∀ pos cv, codeAmong pos ps.toList = some cv → ∃ c', cv = .ref c' ∧ h.CodeRec (.ref c') q

theorem TabIn.mv {h h' : Heap} {q : Str} {ps : Array Value} (x : TabIn h q ps) (p : ∀ c', h.CodeRec (.ref c') q → h'.CodeRec (.ref c') q) : TabIn h' q ps :=
  ⟨x.1, fun pos cv e => by obtain ⟨c', e1, e2⟩ := x.2 pos cv e; exact ⟨c', e1, p c' e2⟩⟩
theorem CodeRec.mvF {h h' : Heap} {q : Str} {c : Addr} (x : h.CodeRec (.ref c) q) (p : ∀ o vs t, h.get? c = some o → o.data = .fields vs → vs[1]? = some (.str q t) → h'.get? c = some o) : h'.CodeRec (.ref c) q := by
  obtain ⟨c₂, oc, vs, t, e2, hoc, hd, hv⟩ := x
  cases e2
  exact ⟨c, oc, vs, t, rfl, p oc vs t hoc hd hv, hd, hv⟩
theorem TabIn.pl {h h' : Heap} {q : Str} {ps : Array Value} (x : TabIn h q ps) (p : Pl h h') : TabIn h' q ps :=
  x.mv fun c' r => CodeRec.mvF r fun o vs t ho hd _ => p _ _ ho ⟨(fun _ _ z => by rw [hd] at z; cases z), (fun _ z => by rw [hd] at z; cases z)⟩
theorem TabIn.it {s s' : Shared} {q : Str} {ps : Array Value} (x : TabIn s.heap q ps) {I : Addr} {fs : Array Value} {o : Obj} (k : Keep [I] s s') (ho : s.heap.get? I = some o) (hd : o.data = .fields fs) (hf : ∀ t, fs[1]? ≠ some (.str q t)) : TabIn s'.heap q ps :=
  x.mv fun c' r => CodeRec.mvF r fun o' vs t ho' hd' hv => k.keep _ _ ho' fun z => by
    rw [List.mem_singleton.mp z, ho] at ho'; cases ho'
    rw [hd] at hd'; cases hd'
    exact hf t hv
theorem tab_at {q : Str} {ps : Array Value} (h : TriplesOk ps.toList) (t : Tok) : ps[1]? ≠ some (.str q t) := by
  obtain ⟨l⟩ := ps
  match l, h with
  | [], _ => simp
  | .int _ _ :: .int _ _ :: _ :: _, _ => simp

section
variable {w : World} {prog : Program} {mg mb : Str → Option Value} {G : Heap} {A : Around} {E : Value → Shared → Prop} {s : Shared} {env : Env}

/-- a lambda, made anew or again -/
theorem lam_any (Z : LamT mg G) (T : GT w mg mb G) (st : Stays G s.heap) {params : Arguments} {body : Expr} {scope : Scope} {pos : Pos} {ps : Array Value} {clos : List (Str × Addr)} {Q : Value → Shared → Prop} (hP : s.heap.get? 129 = some (tabObj ps)) (ht : TabIn s.heap (env.qual ++ "<lambda>") ps)
    (hcl : closureFor scope env = pure clos) (hdef : defaultsOf params env = ([], [])) (hge : env.globals = mainGlobals) (hcode : env.code = .ref 131)
    (k : ∀ f c' ctv ps' s', Keep [129] s s' → s'.heap.get? 129 = some (tabObj ps') → TabIn s'.heap (env.qual ++ "<lambda>") ps' → s'.heap.get? f = some (kla_obj "<lambda>" (env.qual ++ "<lambda>") params body scope clos ((mg "__name__").getD .none) c' ctv) → s'.heap.CodeRec (.ref c') (env.qual ++ "<lambda>") → s.heap.get? f = none → Q (.ref f) s') :
    wpAny (model prog w) A (eval (.Lambda params body scope pos) env) Q E s := by
  cases hc : codeAmong pos ps.toList with
  | some cv =>
    obtain ⟨c', rfl, hrec⟩ := ht.2 pos cv hc
    refine lam_hit Z T st hP ht.1 hc hcl hdef hge hcode fun f ctv s' k' hf nf => k f c' ctv ps s' (k'.mono fun _ q => nomatch q) (k'.keep _ _ hP (fun q => nomatch q)) (ht.pl k'.toPl) hf (hrec.keeps fun b o e => k'.keep b o e (fun q => nomatch q)) nf
  | none =>
    refine lam_new Z T st hP ht.1 hc hcl hdef hge hcode fun f c' ctv s' k' hP' hf hrec nf => k f c' ctv _ s' k' hP' ⟨?_, fun pos' cv e => ?_⟩ hf hrec nf
    · have := (among_app (pos := pos) (a := pos.line) (b := pos.col) (v := .ref c') ps.toList ht.1).2
      simpa using this
    · have h2 := (among_app (pos := pos') (a := pos.line) (b := pos.col) (v := .ref c') ps.toList ht.1).1
      have e' : codeAmong pos' (ps.toList ++ [rawInt pos.line, rawInt pos.col, .ref c']) = some cv := by simpa using e
      rcases h2 with h2 | ⟨_, h2⟩
      · rw [h2] at e'
        obtain ⟨c₂, e1, e2⟩ := ht.2 pos' cv e'
        refine ⟨c₂, e1, CodeRec.mvF e2 fun o vs t ho hd hv => k'.keep _ _ ho fun z => ?_⟩
        rw [List.mem_singleton.mp z, hP] at ho; cases ho
        cases hd
        exact tab_at ht.1 t hv
      · rw [h2] at e'; cases e'
        exact ⟨c', rfl, hrec⟩

/-- a call of a def of the top with keywords -/
theorem callFK {M : Model} {id : Str} {p pos : Pos} {a : Expr} {as : List Expr} {kws : List Keyword} {f : Addr} {o : Obj} {fd : FuncData} {Q : Value → Shared → Prop}
    (hf : ∀ {Q' : Value → Shared → Prop}, Q' (.ref f) s → wpAny M A (eval (.Name id p) env) Q' E s)
    (h : wpAny M A (spliced (backTo pos (starEach (a :: as) env))) (fun vs s₁ => wpAny M A (evalAll ((backToKw pos (keywordEach kws env)).map (·.2)))
      (fun kvs s₂ => (s₂.heap.get? f = some o ∧ o.data = .func fd) ∧ wpAny M A (call (.ref f) vs (((backToKw pos (keywordEach kws env)).filterMap (·.1)).zip kvs)) Q E s₂) E s₁) E s)
    (he : backTo pos (starEach (a :: as) env) = (false, eval a env) :: backTo pos (starEach as env) := by rfl)
    (hall : (backToKw pos (keywordEach kws env)).all (·.1.isSome) = true := by rfl) :
    wpAny M A (eval (.Call (.Name id p) (a :: as) kws pos) env) Q E s := by
  refine wpAny_Call_Name_kw (hf ?_)
  refine callWith_function_kw (o := o) (fd := fd) (first := []) ?_
  rw [he] at h ⊢
  exact PySem.evalArgs_kw hall h
end
end Mine
end
section
open PySem PySem.W PyProof.Rows PySem.Calls
set_option maxRecDepth 100000
namespace Mine

noncomputable abbrev lamQ : Str := "law" ++ ".<locals>." ++ "<lambda>"

theorem RangeIter.pl {h h' : Heap} {I : Addr} {a b c : Int} (x : IsRangeIter h I a b c) (p : Pl h h') : IsRangeIter h' I a b c := p _ _ x ⟨(fun _ _ q => nomatch q), (fun _ q => nomatch q)⟩

section
variable {w : World} {prog : Program} {mg mb : Str → Option Value} {G : Heap} {A : Around} {E : Value → Shared → Prop} {s0 s : Shared} {m cm : Str → Option Value}

inductive LdI (G : Heap) (s0 : Shared) (L fa R Kl J dx tA U V K : Addr) (rows kvs due turned rks : List Value) (keys : List (Int × Int)) (ρ : Value → List Int) (cm : Str → Option Value) (I : Addr) (kk : Nat) (s : Shared) : Prop
  | mk (j : Nat) (m : Str → Option Value) (ps : Array Value)
    (hjk : j + kk = rows.length + 2)
    (c : Cx G [129] s0 (lawEnv L fa) m cm [] s)
    (mc : LawC m cm R Kl J U V)
    (F : LawK s.heap L R Kl J dx tA U V K rows kvs due turned rks keys ρ)
    (tab : s.heap.get? 129 = some (tabObj ps))
    (tin : TabIn s.heap lamQ ps)
    (it : IsRangeIter s.heap I (j : Int) ((rows.length + 2 : Nat) - (j : Int)) 1)

set_option maxHeartbeats 2000000 in
theorem lawC (Z : LamT mg G) (T : GT w mg mb G) {n : Nat} (r : Room (n + 12) A) {L fa R Kl J dx tA U V K : Addr} {rows kvs due turned rks : List Value} {keys : List (Int × Int)} {ρ : Value → List Int} {q q' : List Nat} (c : Cx G [129] s0 (lawEnv L fa) m cm [] s) (mc : LawC m cm R Kl J U V) (mk : cm "ranks" = some (.ref K))
    (F : LawK s.heap L R Kl J dx tA U V K rows kvs due turned rks keys ρ) (P : LawP rows due turned keys ρ q q') (hi : IntsAre rks ((List.range rows.length).map fun i => (rk keys (rxOf ρ rows) rows.length i : Int)))
    (htab : s.heap.get? 129 = some (tabObj #[])) {Q : Flow → Shared → Prop}
    (k : ∀ m ps s', Cx G [129] s0 (lawEnv L fa) m cm [] s' → LawC m cm R Kl J U V → LawK s'.heap L R Kl J dx tA U V K rows kvs due turned rks keys ρ → s'.heap.get? 129 = some (tabObj ps) →
      wpAny (model prog w) A (execs (lawStmts.drop 11) (lawEnv L fa)) Q E s') :
    wpAny (model prog w) A (execs (lawStmts.drop 10) (lawEnv L fa)) Q E s := by
  have hh : A.handled = none := r.hn
  have cR : (lawEnv L fa).cells.lookup ("rows" : Str) = some (L + 1 + 1) := rfl
  have cU : (lawEnv L fa).cells.lookup ("due" : Str) = some (L + 1 + 1 + 1 + 1 + 1) := rfl
  have cN : (lawEnv L fa).cells.lookup ("ranks" : Str) = some (L + 1 + 1 + 1 + 1 + 1 + 1 + 1) := rfl
  obtain ⟨oS, fS, hoS, hfS⟩ : ∃ o fd, (KF w.params).lookup 111 = some o ∧ o.data = .func fd := ⟨_, _, by rfl, rfl⟩
  obtain ⟨oM, fM, hoM, hfM⟩ : ∃ o fd, (KF w.params).lookup 117 = some o ∧ o.data = .func fd := ⟨_, _, by rfl, rfl⟩
  have n10 := P.n10
  have n3 := P.n3
  have hrl : ((List.range rows.length).map fun i => (rk keys (rxOf ρ rows) rows.length i : Int)).length = rows.length := by rw [List.length_map, List.length_range]
  -- the key function
  have idx' : ∀ v ∈ rows, (ρ v).length = 4 ∧ ∃ i : Nat, (ρ v)[3]? = some (i : Int) ∧ i < ((List.range rows.length).map fun i => (rk keys (rxOf ρ rows) rows.length i : Int)).length := fun v hv => by
    obtain ⟨i, hi', rfl⟩ := List.getElem_of_mem hv
    have := P.idx i _ (List.getElem?_eq_getElem hi')
    exact ⟨this.1, i, this.2, by rw [hrl]; exact hi'⟩
  obtain ⟨kf, hkf⟩ : ∃ kf : Value → Int, kf = fun v => ((List.range rows.length).map fun i => (rk keys (rxOf ρ rows) rows.length i : Int)).getD ((ρ v).getD 3 0).toNat 0 := ⟨_, rfl⟩
  have kfAt : ∀ i, i < rows.length → kf (rows.getD i .none) = (rk keys (rxOf ρ rows) rows.length i : Int) := fun i hi' => by
    rw [hkf]
    have h1 := P.idx i _ (List.getElem?_eq_getElem hi')
    have h2 : rows.getD i .none = rows[i] := P.at (List.getElem?_eq_getElem hi')
    show ((List.range rows.length).map fun i => (rk keys (rxOf ρ rows) rows.length i : Int)).getD ((ρ (rows.getD i .none)).getD 3 0).toNat 0 = _
    rw [h2, List.getD_eq_getElem?_getD (l := ρ rows[i]), h1.2, Option.getD_some, Int.toNat_natCast, List.getD_eq_getElem?_getD, List.getElem?_map, List.getElem?_eq_getElem (by simpa using hi')]
    simp
  have hS : StSort (fun i => kf (rows.getD i .none)) rows.length q := P.S.congr fun i hi' => (kfAt i hi').symm
  have hS' : StSort (fun i => -kf (rows.getD i .none)) rows.length q' := P.S'.congr fun i hi' => by rw [kfAt i hi']
  have key : ∀ {s' : Shared} {f c' : Addr} {ctv pm : Value} {p0 p1 p2 p3 p4 p5 : Pos} {kk : Nat}, Stays G s'.heap → s'.heap.get? f = some (kla_obj "<lambda>" lamQ { posonlyargs := [], args := [{ arg := "row", annotation := none, pos := p0 }], vararg := none, kwonlyargs := [], kw_defaults := [], kwarg := none, defaults := [] }
      (.Subscript (.Name "ranks" p1) (.Subscript (.Name "row" p2) (.Constant (.int 3) kk p3) p4) p5) { kind := .function, names := [("row", .local), ("ranks", .free)], isGenerator := false, isCoroutine := false } [("ranks", L + 1 + 1 + 1 + 1 + 1 + 1 + 1)] pm c' ctv) →
      s'.heap.CodeRec (.ref c') lamQ → s'.heap.IsCell (L + 1 + 1 + 1 + 1 + 1 + 1 + 1) (some (.ref K)) → LawK s'.heap L R Kl J dx tA U V K rows kvs due turned rks keys ρ → KeyFn prog w s' f rows kf := fun st hf hrec hcell F' => by
    rw [hkf]
    exact lam_key T st hf hrec hcell F'.N hi (by rw [hrl]; lia) fun v hv => ⟨F'.F.hρ v hv, (idx' v hv).1, (idx' v hv).2⟩
  refine seq (wpAny_For (callN (c.ldB T (g_range T).1 (g_range T).2) (arg (wpAny_BinOp (callN (c.ldB T (g_len T).1 (g_len T).2) (arg (c.ldC cR mc.r (arg0 (lenL F.F.hR (by lia) fun _ u1 => eInt fun _ u2 => iAdd fun _ u3 => arg0 (rangeN (s := tk s u3) fun rr _ _ _ s₂ k2 hr nr => ?_))))))))))
  have hN2 : (rows.length : Int) + 2 = ((rows.length + 2 : Nat) : Int) := by lia
  rw [hN2] at hr
  refine iterR hr (smallN _ (by lia)) (rangeSize01 _) fun I s₃ k3 hI nI => ?_
  have c2 := (c.tk (t := u3)).keep0 k2
  have c3 := c2.keep0 k3
  have nI0 : s0.heap.get? I = none := c2.fresh nI
  have k23 : Keep [] s s₃ := Keep.trans (⟨⟨_, _, rfl⟩, fun _ _ e _ => e⟩ : Keep [] s (tk s u3)) (k2.trans k3)
  refine forLoopF (LdI G s0 L fa R Kl J dx tA U V K rows kvs due turned rks keys ρ cm I) (rows.length + 2)
    ⟨0, m, #[], by lia, c3, mc, F.k0 k23, k23.keep _ _ htab (fun q => nomatch q), ⟨trivial, fun _ _ e => nomatch e⟩, by simpa using hI⟩ ?_
  rintro J1 hJ1 kk s' ⟨j, m', ps, hjk, c', mc', F', htab', htin', hI'⟩
  have I129 : I ∉ [129] := fun q => by
    have hI'' := hI'
    unfold IsRangeIter at hI''
    rw [List.mem_singleton.mp q, htab'] at hI''; cases hI''
  refine nextR hh hI' (fun tj s₄ hpos hI4 e4 k4 => ?_) (fun s₄ hneg k4 => ?_)
  · have c4 : Cx G [129] s0 (lawEnv L fa) m' cm [] s₄ := c'.after k4 (fun a ha => by rw [List.mem_singleton.mp ha]; exact ⟨.inr nI0, rangeIter_plain hI'⟩) (fun a ha hb => by rw [List.mem_singleton.mp ha] at hb; exact absurd hb I129) (fun _ q => nomatch q)
    have F4 := F'.itR k4 hI'
    have htab4 := tab_itR k4 hI' htab'
    have htin4 := htin'.it k4 hI' rfl (fun t z => by simp [rawInt] at z)
    refine wpAny_pure (wpAny_assign_Name (c4.sto fun s₅ c5 e5 => ?_))
    have F5 := F4.sto c4 rfl e5
    have htab5 := c4.plS e5 _ _ htab4 (tab_plain _)
    have htin5 := htin4.pl (c4.plS e5)
    have hI5 := RangeIter.pl hI4 (c4.plS e5)
    have hcell : ∀ {m : Str → Option Value} {s : Shared}, Cx G [129] s0 (lawEnv L fa) m cm [] s → s.heap.IsCell (L + 1 + 1 + 1 + 1 + 1 + 1 + 1) (some (.ref K)) := fun {m s} c => by have := c.cell "ranks" _ cN; rw [mk] at this; exact this
    have I129' : ∀ {s : Shared} {a b d : Int}, IsRangeIter s.heap I a b d → ∀ {s' : Shared}, Keep [129] s s' → IsRangeIter s'.heap I a b d := fun {s a b d} h {s'} k => k.keep _ _ h I129
    -- nsmallest
    refine seq (wpAny_If (wpAny_isTrue_Compare1 (callFK (f := 111) (o := oS) (fd := fS) (c5.ldG T (g_nsmallest T)) (arg (c5.ld rfl (arg (c5.ldC cR mc'.r (arg0 (kws_cons (lam_any (clos := [("ranks", L + 1 + 1 + 1 + 1 + 1 + 1 + 1)]) Z T c5.stay htab5 htin5 (by rfl) (by rfl) rfl rfl fun f c6' ctv ps6 s₆ k6 htab6 htin6 hf6 hrec6 nf => ?_))))))))))
    have c6 : Cx G [129] s0 (lawEnv L fa) _ cm [] s₆ := c5.within k6 (fun a ha => by rw [List.mem_singleton.mp ha]; exact ⟨_, htab6⟩) (fun _ q => nomatch q)
    have F6 := F5.tab k6 htab5
    have hI6 := I129' hI5 k6
    refine kws_nil ⟨⟨c6.stay _ _ (T.k _ _ hoS), hfS⟩, nsmallest_spec T (n := n) (c₀ := j) (kf := kf) (ρ := ρ) r c6.stay rfl (by lia) F6.F.hR (by lia) (key c6.stay hf6 hrec6 (hcell c6) F6) (fun v hv => F6.F.hρ v hv) hS fun D s₇ k7 nD hD7 => ?_⟩
    have c7 := c6.keep0 k7
    have F7 := F6.k0 k7
    refine Subscript_ (c7.ldC cU mc'.u (evSlice (part0 (part1 (c7.ld rfl (part0 fun sl s₈ k8 hsl _ => sliceTo (b := j) (k8.pl0 F7.F.hU) hsl rfl (by rw [P.due_eq, List.length_map, P.S.len]; lia) (fun D2 s₉ k9 hD9 nD2 => ?_) ⟨_, rfl⟩))))))
    have k89 := k8.trans k9
    have ed : due.take j = (q.take j).map fun i => rows.getD i .none := by rw [P.due_eq, List.map_take]
    rw [ed] at hD9
    have c9 := c7.keep0 k89
    have F9 := F7.k0 k89
    refine neRows (ρ := ρ) (by have := r.u; lia) (k89.pl0 hD7) hD9 (fun v hv => ?_) (wpAny_truthy_bool ?_)
    · rw [← ed] at hv
      exact F9.F.hρ v (P.dueIn (List.mem_of_mem_take hv))
    rw [if_neg Bool.false_ne_true]
    refine wpAny_execs_nil ?_
    have k79 := k7.trans k89
    have htab9 := k79.keep _ _ htab6 (fun q => nomatch q)
    have htin9 := htin6.pl k79.toPl
    have hI9 : IsRangeIter s₉.heap I _ _ 1 := k79.keep _ _ hI6 (fun q => nomatch q)
    -- nlargest
    refine seq (wpAny_If (wpAny_isTrue_Compare1 (callFK (f := 117) (o := oM) (fd := fM) (c9.ldG T (g_nlargest T)) (arg (c9.ld rfl (arg (c9.ldC cR mc'.r (arg0 (kws_cons (lam_any (clos := [("ranks", L + 1 + 1 + 1 + 1 + 1 + 1 + 1)]) Z T c9.stay htab9 htin9 (by rfl) (by rfl) rfl rfl fun f2 c10' ctv2 ps10 s₁₀ k10 htab10 htin10 hf10 hrec10 nf2 => ?_))))))))))
    have c10 : Cx G [129] s0 (lawEnv L fa) _ cm [] s₁₀ := c9.within k10 (fun a ha => by rw [List.mem_singleton.mp ha]; exact ⟨_, htab10⟩) (fun _ q => nomatch q)
    have F10 := F9.tab k10 htab9
    have hI10 := I129' hI9 k10
    refine kws_nil ⟨⟨c10.stay _ _ (T.k _ _ hoM), hfM⟩, nlargest_spec T (n := n) (c₀ := j) (kf := kf) (ρ := ρ) r c10.stay rfl (by lia) F10.F.hR (by lia) (key c10.stay hf10 hrec10 (hcell c10) F10) (fun v hv => F10.F.hρ v hv) hS' fun D3 s₁₁ k11 nD3 hD11 => ?_⟩
    have c11 := c10.keep0 k11
    have F11 := F10.k0 k11
    refine Subscript_ (c11.ld (v := .ref V) mc'.v (evSlice (part0 (part1 (c11.ld rfl (part0 fun sl2 s₁₂ k12 hsl2 _ => sliceTo (b := j) (k12.pl0 F11.F.hV) hsl2 rfl (by rw [P.turned_eq, List.length_map, P.S'.len]; lia) (fun D4 s₁₃ k13 hD13 nD4 => ?_) ⟨_, rfl⟩))))))
    have k1213 := k12.trans k13
    have et : turned.take j = (q'.take j).map fun i => rows.getD i .none := by rw [P.turned_eq, List.map_take]
    rw [et] at hD13
    have c13 := c11.keep0 k1213
    have F13 := F11.k0 k1213
    refine neRows (ρ := ρ) (by have := r.u; lia) (k1213.pl0 hD11) hD13 (fun v hv => ?_) (wpAny_truthy_bool ?_)
    · rw [← et] at hv
      exact F13.F.hρ v (P.turnedIn (List.mem_of_mem_take hv))
    rw [if_neg Bool.false_ne_true]
    have k1113 := k11.trans k1213
    refine wpAny_execs_nil (wpAny_execs_nil ⟨kk - 1, by lia, hJ1 _ _ ⟨j + 1, _, ps10, by lia, c13, ⟨mc'.r, mc'.k, mc'.j, mc'.u, mc'.v⟩, F13, k1113.keep _ _ htab10 (fun q => nomatch q), htin10.pl k1113.toPl, ?_⟩⟩)
    have hI13 : IsRangeIter s₁₃.heap I _ _ 1 := k1113.keep _ _ hI10 (fun q => nomatch q)
    have e1 : ((j + 1 : Nat) : Int) = (j : Int) + 1 := by lia
    have e2 : ((rows.length + 2 : Nat) : Int) - ((j + 1 : Nat) : Int) = ((rows.length + 2 : Nat) : Int) - (j : Int) - 1 := by lia
    rw [e1] at *
    rw [show ((rows.length + 2 : Nat) : Int) - ((j : Int) + 1) = ((rows.length + 2 : Nat) : Int) - (j : Int) - 1 by lia]
    exact hI13
  · have c4 : Cx G [129] s0 (lawEnv L fa) m' cm [] s₄ := c'.after k4 (fun a ha => by rw [List.mem_singleton.mp ha]; exact ⟨.inr nI0, rangeIter_plain hI'⟩) (fun a ha hb => by rw [List.mem_singleton.mp ha] at hb; exact absurd hb I129) (fun _ q => nomatch q)
    exact k m' ps s₄ c4 mc' (F'.itR k4 hI') (tab_itR k4 hI' htab')
end
end Mine
end
section
open PySem PySem.W PyProof.Rows PySem.Calls
set_option maxRecDepth 100000
namespace Mine

theorem TI.tupI {h : Heap} {v : Value} {k : Int × Int} (x : TI h v [k.1, k.2]) : TupI h v k := by
  obtain ⟨a, t, u, e, ht⟩ := pair_of x
  exact ⟨a, t, u, [], e, ht⟩

section
variable {w : World} {prog : Program} {mg mb : Str → Option Value} {G : Heap} {A : Around} {E : Value → Shared → Prop} {s0 s : Shared} {m cm : Str → Option Value}

inductive PoI (G : Heap) (I H R D : Addr) (s₅ : Shared) (env : Env) (cm : Str → Option Value) (N : Nat) (l₄ : List Value) (κ : Nat → Int) (e : Value → Int × Int) (ix : Value → Nat) (kk : Nat) (s : Shared) : Prop
  | mk (j : Nat) (m : Str → Option Value) (l : List Value) (acc : List Value) (p : List Nat)
    (hjk : j + kk = N)
    (c : Cx G [I, H] s₅ env m cm [] s)
    (it : s.heap.IsListIter I R j)
    (pl : PL s.heap H l)
    (sub : ∀ v ∈ l, v ∈ l₄)
    (plD : PL s.heap D acc)
    (hint : IntsAre acc (p.map fun i : Nat => (i : Int)))
    (P : Pops κ N j e ix l p)

set_option maxHeartbeats 2000000 in
theorem lawD (T : GT w mg mb G) {n : Nat} (r : Room (n + 12) A) {L fa R Kl J dx tA U V K : Addr} {rows kvs due turned rks : List Value} {keys : List (Int × Int)} {ρ : Value → List Int} {q q' : List Nat} (c : Cx G [129] s0 (lawEnv L fa) m cm [] s) (mc : LawC m cm R Kl J U V) (mk : cm "ranks" = some (.ref K))
    (F : LawK s.heap L R Kl J dx tA U V K rows kvs due turned rks keys ρ) (P : LawP rows due turned keys ρ q q') (hi : IntsAre rks ((List.range rows.length).map fun i => (rk keys (rxOf ρ rows) rows.length i : Int)))
    (hcn : ∀ n c, (cellsFrom (L + 1) lawScope.names []).lookup n = some c → s0.heap.get? c = none) {ps : Array Value} (htab : s.heap.get? 129 = some (tabObj ps)) {Q : Flow → Shared → Prop}
    (k : ∀ m cm s', Cx G [129] s0 (lawEnv L fa) m cm [] s' → s'.heap.get? 129 = some (tabObj ps) → Q (.ret (.bool true)) s') :
    wpAny (model prog w) A (execs (lawStmts.drop 11) (lawEnv L fa)) Q E s := by
  have hh : A.handled = none := r.hn
  have cR : (lawEnv L fa).cells.lookup ("rows" : Str) = some (L + 1 + 1) := rfl
  have cU : (lawEnv L fa).cells.lookup ("due" : Str) = some (L + 1 + 1 + 1 + 1 + 1) := rfl
  have cH : (lawEnv L fa).cells.lookup ("heap" : Str) = some (L + 1 + 1 + 1 + 1 + 1 + 1) := rfl
  have n10 := P.n10
  have n3 := P.n3
  have hu10 : A.units + 10 < cLine := by have := r.u; lia
  have hrl : rks.length = rows.length := by rw [intsAre_len hi, List.length_map, List.length_range]
  have rkAt : ∀ i, i < rows.length → ∃ t, rks[i]? = some (.int (rk keys (rxOf ρ rows) rows.length i : Nat) t) := fun i hi' => intsAre_get hi i _ (by rw [List.getElem?_map, List.getElem?_eq_getElem (by simpa using hi')]; simp)
  obtain ⟨κ, hκ⟩ : ∃ κ : Nat → Int, κ = fun i => (rk keys (rxOf ρ rows) rows.length i : Int) := ⟨_, rfl⟩
  have hS : StSort κ rows.length q := by rw [hκ]; exact P.S
  have rkAt' : ∀ i, i < rows.length → ∃ t, rks[i]? = some (.int (κ i) t) := by rw [hκ]; exact rkAt
  -- heap = [..]
  refine seq (Cx.asgC (G := G) (S := [129]) cH (hcn _ _ cH) (compLF (G := G) (S := [129]) (s0 := s0) (cm := cm) (cl := [("ranks", L + 1 + 1 + 1 + 1 + 1 + 1 + 1)]) hh (by rfl) (by rfl) (by decide) (c.ldC cR mc.r ⟨R, rows, _, fun _ => true, fun i y h => TI h y [κ i, (i : Int)], fun cm => cm "ranks" = some (.ref K),
    cm, rfl, c, F.F.hR, by lia, c.cellsIn (fun p hp => by rw [List.mem_singleton.mp hp]; exact ⟨rfl, rfl⟩), (fun n hn => by simp at hn), mk, (fun i y h h' hkk ⟨b, vs, h1, ⟨o, ho, rr⟩, h3⟩ => ⟨b, vs, h1, ⟨o, hkk b o h1 ho, rr⟩, h3⟩), ?_, fun H lH s₂ c2 hH2 nH k2 hall => ⟨_, _, c2, fun s₃ c3 e3 => ?_⟩⟩)))
  · intro I s₅ C i v s' m' cm' hbig hnew hv c' pc' hI' k'
    have hil := (List.getElem?_eq_some_iff.mp hv).1
    have lv := P.idx i v hv
    obtain ⟨ti, hti⟩ := rkAt' i hil
    refine wpAny_assign_Name (c'.sto fun s₄ c4 e4 => ?_)
    have k4 : Keep [C] s' s₄ := c'.sk c4 e4
    have ks4 : Keep [] s s₄ := k'.drop k4 fun x hx => by rw [List.mem_singleton.mp hx]; exact hnew _ (Nat.le_refl _)
    have F4 := F.k0 ks4
    refine tests_nil ⟨rfl, Tuple_ (arg (Subscript_ (c4.ldC (a := L + 1 + 1 + 1 + 1 + 1 + 1 + 1) rfl pc' (Subscript_ (c4.ld rfl (eInt fun _ u1 => itemI (s := tk s₄ u1) (F4.F.hρ v (List.mem_of_getElem? hv)) (j := 3) rfl lv.2 (by lia) fun t3 => itemL (s := tk s₄ u1) F4.N rfl hti (by lia) (arg (Subscript_ (c4.tk.ld rfl (eInt fun _ u2 => itemI (s := tk s₄ u2) (F4.F.hρ v (List.mem_of_getElem? hv)) (j := 3) rfl lv.2 (by lia) fun t4 => arg0 (newT (s := tk s₄ u2) (by simp) fun X s₅ k5 hX nX => ?_)))))))))))⟩
    have kX : Keep [C] s' s₅ := k4.tk.trans (k5.mono fun _ q => nomatch q)
    refine ⟨⟨_, _, _, (c4.tk (t := u2)).keep0 k5, pc', kX, fun x hx => .inl (List.mem_singleton.mp hx)⟩, ⟨X, _, rfl, hX, .cons _ _ (.cons _ _ .nil)⟩, .inl fun b e => ?_⟩
    cases e
    refine ⟨k4.tk.none nX fun q => ?_, tup_plain hX⟩
    obtain ⟨oL, _, _, hL, _⟩ := (c4.tk (t := u2)).ns
    rw [List.mem_singleton.mp q] at nX
    rw [show (tk s₄ u2).heap.get? C = some oL from hL] at nX; cases nX
  obtain ⟨hlH, hatH⟩ := hall.whole
  have nH0 : s0.heap.get? H = none := c.fresh nH
  have hGH : G.get? H = none := c.st0.none nH0
  have p3 := c2.plC cH e3
  have F3 : LawK s₃.heap L R Kl J dx tA U V K rows kvs due turned rks keys ρ := (F.k0 k2).stoC c2 cH e3
  have hH3 := hH2.pl p3
  have htab3 := p3 _ _ (k2.keep _ _ htab (fun q => nomatch q)) (tab_plain _)
  have hat3 : ∀ (i : Nat) y, lH[i]? = some y → TI s₃.heap y [κ i, (i : Int)] := fun i y hy => (hatH i y hy).pl p3
  have neHR : H ≠ R := fun e => by obtain ⟨o, ho⟩ := F.F.hR.there; rw [← e, nH] at ho; cases ho
  have neHU : H ≠ U := fun e => by obtain ⟨o, ho⟩ := F.F.hU.there; rw [← e, nH] at ho; cases ho
  -- the places of the pairs
  have inj : ∀ (i j : Nat) y, lH[i]? = some y → lH[j]? = some y → i = j := fun i j y hi' hj' => by
    have := (hat3 i y hi').uniq (hat3 j y hj')
    simp only [List.cons.injEq, and_true] at this
    lia
  obtain ⟨ix, hix⟩ := pickFun inj
  obtain ⟨e, he⟩ : ∃ e : Value → Int × Int, e = fun y => (κ (ix y), (ix y : Int)) := ⟨_, rfl⟩
  have heAt : ∀ (i : Nat) v, lH[i]? = some v → e v = (κ i, (i : Int)) ∧ ix v = i := fun i v hv => ⟨by rw [he]; show (κ (ix v), ((ix v : Nat) : Int)) = _; rw [hix i v hv], hix i v hv⟩
  have ti3 : ∀ v ∈ lH, TI s₃.heap v [(e v).1, (e v).2] := fun v hv => by
    obtain ⟨i, hi', rfl⟩ := List.getElem_of_mem hv
    have h1 := (heAt i _ (List.getElem?_eq_getElem hi')).1
    rw [h1]
    exact hat3 i _ (List.getElem?_eq_getElem hi')
  have nd3 : (lH.map e).Nodup := (HI.start (κ := κ) (e := e) (ix := ix) hlH heAt).enodup
  -- heapify(heap)
  refine seq (wpAny_Expr_any (callF (f := 63) (c3.ldG T (g_heapify T)) (arg (c3.ldC cH rfl (arg0 ⟨⟨c3.stay _ _ (T.k _ _ (by rfl)), rfl⟩, ?_⟩)))))
  refine heapify_spec T (n := n) (κ := e) (r.less (by lia)) c3.stay hH3 hGH (fun v hv => (ti3 v hv).tupI) nd3 (by lia) fun s₄ k4 hH4 => ?_
  have c4 := c3.after k4 (fun a ha => by rw [List.mem_singleton.mp ha]; exact ⟨.inr nH0, hH3.plain⟩) (fun a ha hb => by
    rw [List.mem_singleton.mp ha] at hb
    obtain ⟨nn, ho⟩ := hH3
    rw [List.mem_singleton.mp hb, htab3] at ho; cases ho) (news' := []) (fun _ q => nomatch q)
  have hperm := heapifyP_perm (lt := fun a b => plt (e a) (e b)) lH
  have P0 : Pops κ rows.length 0 e ix (heapifyP (fun a b => plt (e a) (e b)) lH) [] := Pops.start hlH heAt hperm (heapifyP_heap (plt_ord e) lH)
  have notT3 : ∀ a ∈ [H], ∀ o, s₃.heap.get? a = some o → o.cls ≠ .type "tuple" := fun a ha o ho => by
    obtain ⟨nn, ho'⟩ := hH3
    rw [List.mem_singleton.mp ha, ho'] at ho; cases ho
    show Value.type "list" ≠ Value.type "tuple"; decide
  have ti4 : ∀ v ∈ heapifyP (fun a b => plt (e a) (e b)) lH, TI s₄.heap v [(e v).1, (e v).2] := fun v hv => (ti3 v (hperm.mem_iff.mp hv)).kpN k4 notT3
  have row4 : ∀ v ∈ rows, TI s₄.heap v (ρ v) := fun v hv => (F3.F.hρ v hv).kpN k4 notT3
  have hR4 : PL s₄.heap R rows := F3.F.hR.kp k4 (fun q => neHR (List.mem_singleton.mp q).symm)
  have hU4 : PL s₄.heap U due := F3.F.hU.kp k4 (fun q => neHU (List.mem_singleton.mp q).symm)
  have H129 : ∀ {s : Shared} {l : List Value} {a : Addr}, PL s.heap a l → s.heap.get? 129 = some (tabObj ps) → (129 : Addr) ≠ a := fun {s l a} h1 h2 e => by
    obtain ⟨nn, ho⟩ := h1
    rw [← e, h2] at ho; cases ho
  have htab4 := k4.keep _ _ htab3 (fun q => H129 hH3 htab3 (List.mem_singleton.mp q))
  generalize heapifyP (fun a b => plt (e a) (e b)) lH = l₄ at hH4 P0 ti4
  clear hperm nd3 ti3 hat3 hatH hall hH3 hH2 F3 notT3
  have mh : upd cm "heap" (.ref H) "heap" = some (.ref H) := rfl
  -- return [..] == [..] and heap == []
  refine seq (wpAny_Return_some (BoolOp_and (wpAny_Compare1 (compE (G := G) (S := [129]) (s0 := s0) (cm := c4.theCm) (cl := [("heap", L + 1 + 1 + 1 + 1 + 1 + 1)]) (by rfl) (by rfl) (by decide) (c4.ldC cR mc.r (iterL hR4 fun I s₅ k5 hI nI => ?_))))))
  have c5 := c4.keep0 k5
  have nI0 : s0.heap.get? I = none := c4.fresh nI
  have hH5 := k5.pl0 hH4
  have hR5 := k5.pl0 hR4
  have neIH : I ≠ H := iter_ne_list hI hH5
  have neIR : I ≠ R := iter_ne_list hI hR5
  have notT5 : ∀ a ∈ [I, H], ∀ o, s₅.heap.get? a = some o → o.cls ≠ .type "tuple" := fun a ha o ho => by
    rcases List.mem_cons.mp ha with e1 | ha
    · obtain ⟨o', ho', hc', _⟩ := hI
      rw [e1, ho'] at ho; cases ho
      rw [hc']; decide
    · obtain ⟨nn, ho'⟩ := hH5
      rw [List.mem_singleton.mp ha, ho'] at ho; cases ho
      show Value.type "list" ≠ Value.type "tuple"; decide
  refine ⟨_, [], [I, H], c5.theCm, c5, fun a ha => ?_, c5.cellsIn (fun p hp => by rw [List.mem_singleton.mp hp]; exact ⟨rfl, rfl⟩), (fun n hn => by simp at hn), fun D C s₆ ci => ?_⟩
  · rcases List.mem_cons.mp ha with e1 | ha
    · rw [e1]; exact ⟨nI0, listIter_plain hI⟩
    · rw [List.mem_singleton.mp ha]; exact ⟨nH0, hH5.plain⟩
  have ne5 : ∀ (b : Addr) (o : Obj), s₅.heap.get? b = some o → b ≠ C ∧ b ≠ D := fun b o ho => ⟨(fun e => by rw [e, ci.newC] at ho; cases ho), (fun e => by rw [e, ci.newD] at ho; cases ho)⟩
  have neHD : H ≠ D := (ne5 _ _ hH5.plain.choose_spec.1).2
  have neHC : H ≠ C := (ne5 _ _ hH5.plain.choose_spec.1).1
  have neID : I ≠ D := (ne5 _ _ (listIter_plain hI).choose_spec.1).2
  refine compStartF (ifs := []) rfl (compLoopF (PoI G I H R D s₅ _ _ rows.length l₄ κ e ix) rows.length ⟨0, _, l₄, [], [], by lia, ci.cx.sub (fun _ q => nomatch q), IterL.pl hI ci.kp.toPl, ci.kp.pl0 hH5, fun _ h => h, ⟨0, (ci.cx.nw _ (.head _)).1⟩, .nil, P0⟩ rfl rfl ?_) ?_
  · rintro J1 hJ1 kk s₇ ⟨j, m7, l, acc, p, hjk, c7, hI7, hH7, hsub, hD7, hacc, P7⟩
    have hR7 : PL s₇.heap R rows := hR5.kp c7.kp (fun q => by
      rcases List.mem_cons.mp q with e1 | q
      · exact neIR e1.symm
      · exact neHR (List.mem_singleton.mp q).symm)
    refine nextL hh hI7 hR7 (fun v s₈ hv hI8 e8 k8 => ?_) (fun s₈ hj8 k8 => ?_)
    · have c8 : Cx G [I, H] s₅ _ m7 _ [] s₈ := c7.after k8 (fun a ha => by rw [List.mem_singleton.mp ha]; exact ⟨.inl (.head _), listIter_plain hI7⟩) (fun a ha _ => by rw [List.mem_singleton.mp ha]; obtain ⟨o, ho, _⟩ := hI8; exact ⟨o, ho⟩) (fun _ q => nomatch q)
      have hH8 := hH7.kp k8 (fun q => neIH (List.mem_singleton.mp q).symm)
      have hD8 := hD7.kp k8 (fun q => neID (List.mem_singleton.mp q).symm)
      refine wpAny_pure (wpAny_assign_Name (c8.sto fun s₉ c9 e9 => ?_))
      have p9 := c8.plS e9
      have hH9 := hH8.pl p9
      have hD9 := hD8.pl p9
      have hI9 := IterL.pl hI8 p9
      have hleft := P7.left
      have hlen7 : 0 < l.length := by have := (List.getElem?_eq_some_iff.mp hv).1; lia
      obtain ⟨v0, hv0⟩ : ∃ v0, l[0]? = some v0 := ⟨_, List.getElem?_eq_getElem hlen7⟩
      have m0 := List.mem_of_getElem? hv0
      have ti9 : ∀ v ∈ l, TI s₉.heap v [(e v).1, (e v).2] := fun v hv => ((ti4 v (hsub v hv)).kp0 k5).kpN c9.kp notT5
      refine tests_nil (Subscript_ (callF (f := 49) (c9.ldG T (g_heappop T)) (arg (c9.ldC (a := L + 1 + 1 + 1 + 1 + 1 + 1) rfl mh (arg0 ⟨⟨c9.stay _ _ (T.k _ _ (by rfl)), rfl⟩, heappop_spec T (n := n) (κ := e) (r.less (by lia)) c9.stay hH9 hGH hv0 (fun v hv => (ti9 v hv).tupI) P7.enodup (by lia) fun s₁₀ k10 hH10 => eInt fun _ u10 => itemI (s := tk s₁₀ u10) (n := (ix v0 : Int)) (j := 1) (TI.kpN (s' := tk s₁₀ u10) k10.tk (fun a ha o ho => ?_) (ti9 v0 m0)) rfl ?_ (by simp) fun t10 => ?_⟩)))))
      · obtain ⟨nn, ho'⟩ := hH9
        rw [List.mem_singleton.mp ha, ho'] at ho; cases ho
        show Value.type "list" ≠ Value.type "tuple"; decide
      · rw [P7.key v0 m0]; rfl
      have c10 : Cx G [I, H] s₅ _ _ _ [] (tk s₁₀ u10) := (c9.after k10 (fun a ha => by rw [List.mem_singleton.mp ha]; exact ⟨.inl (.tail _ (.head _)), hH9.plain⟩) (fun a ha _ => by rw [List.mem_singleton.mp ha]; exact hH10.there) (news' := []) (fun _ q => nomatch q)).tk
      have hD10 : PL (tk s₁₀ u10).heap D acc := hD9.kp k10.tk (fun q => neHD (List.mem_singleton.mp q).symm)
      have hal : acc.length = j := by rw [intsAre_len hacc, List.length_map, P7.len]
      refine c10.app hD10 (.inr ci.newD) (by lia) (fun _ q => nomatch q) fun s₁₁ c11 hD11 e11 => ?_
      refine ⟨kk - 1, by lia, hJ1 _ _ ⟨j + 1, _, _, _, p ++ [ix v0], by lia, c11, ?_, PL.sb (h := (tk s₁₀ u10).heap) hH10 e11 neHD, fun v hv => ?_, hD11, ?_, P7.step hv0⟩⟩
      · have hI10 : (tk s₁₀ u10).heap.IsListIter I R (j + 1) := by
          obtain ⟨o, ho, rr⟩ := hI9
          exact ⟨o, k10.keep _ _ ho (fun q => neIH (List.mem_singleton.mp q)), rr⟩
        obtain ⟨o, ho, rr⟩ := hI10
        exact ⟨o, sameBut_keep e11 neID ho, rr⟩
      · exact hsub v ((popRest_facts (plt_ord e) P7.hp hv0).1.mem_iff.mpr (.tail _ hv))
      · rw [List.map_append]
        exact intsAre_snoc hacc
    · have hjN : j = rows.length := by lia
      subst hjN
      obtain ⟨rfl, rfl⟩ := P7.done hS
      have hH8 := hH7.kp k8 (fun q => neIH (List.mem_singleton.mp q).symm)
      have hD8 := hD7.kp k8 (fun q => neID (List.mem_singleton.mp q).symm)
      have kw8 : Keep [I, H] s₅ s₈ := c7.kp.trans (k8.mono fun x hx => by rw [List.mem_singleton.mp hx]; exact .head _)
      have hns : s₈.heap.Ns C m7 := by
        obtain ⟨oL, es, ep, hL, rr⟩ := c7.ns
        exact ⟨oL, es, ep, k8.keep _ _ hL (fun q => (ne5 _ _ (listIter_plain hI).choose_spec.1).1 (List.mem_singleton.mp q).symm), rr⟩
      refine ⟨m7, [], hns, kw8, (fun _ q => nomatch q), fun s₉ c9 kw9 sb => ?_⟩
      have hH9 : PL s₉.heap H [] := hH8.sb sb neHC
      have hD9 : PL s₉.heap D acc := hD8.sb sb ci.DC
      have ks9 : ∀ {v : Value} {ns : List Int}, TI s₄.heap v ns → TI s₉.heap v ns := fun h => (h.kp0 k5).kpN kw9 notT5
      have neIU : I ≠ U := iter_ne_list hI (k5.pl0 hU4)
      have hU9 : PL s₉.heap U due := (k5.pl0 hU4).kp kw9 (fun q => by
        rcases List.mem_cons.mp q with e1 | q
        · exact neIU e1.symm
        · exact neHU (List.mem_singleton.mp q).symm)
      have htab9 := kw9.keep _ _ (k5.keep _ _ htab4 (fun q => nomatch q)) (fun q => by
        rcases List.mem_cons.mp q with e1 | q
        · have h1 := k5.keep _ _ htab4 (fun q => nomatch q)
          obtain ⟨o, ho, hc', _⟩ := hI
          rw [← e1, h1] at ho; cases ho; cases hc'
        · exact H129 hH5 (k5.keep _ _ htab4 (fun q => nomatch q)) (List.mem_singleton.mp q))
      -- [row[3] for row in due]
      refine compLF (G := G) (S := [129]) (s0 := s0) (cm := c9.theCm) (cl := []) hh (by rfl) (by rfl) (by decide) (c9.ldC cU mc.u ⟨U, due, _, fun _ => true, fun i y _ => ∃ t, y = .int ((p.getD i 0 : Nat) : Int) t, fun _ => True, fun _ => none, rfl, c9, hU9, by rw [P.due_eq, List.length_map, P.S.len]; lia,
        ⟨(fun n x q => nomatch q), (fun n n' x q => nomatch q)⟩, (fun n hn => by simp at hn), trivial, (fun _ _ _ _ _ h => h), ?_, fun D2 l2 s₁₀ c10 hD10 nD2 k10 hall => ?_⟩)
      · intro I' s₁₁ C' i v s' m' cm' hbig hnew hv c' pc' hI' k'
        refine wpAny_assign_Name (c'.sto fun s₁₂ c12 e12 => ?_)
        have k12 : Keep [C'] s' s₁₂ := c'.sk c12 e12
        have ks12 : Keep [] s₉ s₁₂ := k'.drop k12 fun x hx => by rw [List.mem_singleton.mp hx]; exact hnew _ (Nat.le_refl _)
        have hvm := P.dueIn (List.mem_of_getElem? hv)
        have hv2 := hv
        rw [P.due_eq, List.getElem?_map] at hv2
        cases hp : p[i]? with
        | none => rw [hp] at hv2; cases hv2
        | some i' =>
          rw [hp] at hv2
          have hi' : i' < rows.length := P.S.low i' (List.mem_of_getElem? hp)
          have ev : v = rows[i'] := by
            have : rows.getD i' .none = v := Option.some.inj hv2
            rw [← this, P.at (List.getElem?_eq_getElem hi')]
          have h3 := (P.idx i' _ (List.getElem?_eq_getElem hi'))
          rw [← ev] at h3
          have e1 : p.getD i 0 = i' := by rw [List.getD_eq_getElem?_getD, hp]; rfl
          refine tests_nil ⟨rfl, Subscript_ (c12.ld rfl (eInt fun _ u1 => itemI (s := tk s₁₂ u1) ((ks9 (row4 v hvm)).kp0 ks12.tk) (j := 3) rfl h3.2 (by lia) fun t3 => ⟨⟨_, _, _, c12.tk, trivial, k12.tk, fun x hx => .inl (List.mem_singleton.mp hx)⟩, ⟨t3, by rw [e1]⟩, .inr fun _ => ⟨t3, by rw [e1]⟩⟩))⟩
      obtain ⟨hl2, hat2⟩ := hall.whole
      have hi2 : IntsAre l2 (p.map fun i : Nat => (i : Int)) := by
        have h1 := ints_range hl2 hat2
        have e1 : (List.range due.length).map (fun i => ((p.getD i 0 : Nat) : Int)) = p.map fun i : Nat => (i : Int) := by
          have hdl : due.length = p.length := by rw [P.due_eq, List.length_map]
          apply List.ext_getElem?
          intro i
          by_cases hi' : i < p.length
          · simp [hdl, hi']
          · simp [hdl, hi', Nat.le_of_not_lt hi']
        rw [← e1]; exact h1
      refine eqInts hu10 (k10.pl0 hD9) hD10 hacc hi2 (wpAny_truthy_bool ?_)
      rw [if_pos rfl]
      refine BoolOp_one (wpAny_Compare1 (c10.ldC cH mh (List_ (arg0 (list1 (by simp) fun D3 s₁₁ k11 hD11 nD3 => eqInts hu10 (k11.pl0 (k10.pl0 hH9)) hD11 .nil .nil ?_)))))
      exact k _ _ s₁₁ (c10.keep0 k11) (k11.keep _ _ (k10.keep _ _ htab9 (fun q => nomatch q)) (fun q => nomatch q))
  · exact fun {Q} hq => wpAny_pyIter_listiter (IterL.pl hI ci.kp.toPl) hq
end
end Mine
end
section
open PySem PySem.W PyProof.Rows PySem.Calls
set_option maxRecDepth 100000
namespace Mine

theorem keys_good {t : Int} : ∀ p ∈ keysOf t, (0 ≤ p.1 ∧ p.1 < 3) ∧ (p.2 = 1 ∨ p.2 = -1) := fun p hp => by
  unfold keysOf at hp
  obtain ⟨k, _, rfl⟩ := List.mem_map.mp hp
  unfold keyOf
  have h1 : 0 ≤ (t.fdiv (6 ^ k)).fmod 3 ∧ (t.fdiv (6 ^ k)).fmod 3 < 3 := ⟨Int.fmod_nonneg_of_pos _ (by decide), Int.fmod_lt_of_pos _ (by decide)⟩
  have h2 : 0 ≤ ((t.fdiv (6 ^ k)).fdiv 3).fmod 2 ∧ ((t.fdiv (6 ^ k)).fdiv 3).fmod 2 < 2 := ⟨Int.fmod_nonneg_of_pos _ (by decide), Int.fmod_lt_of_pos _ (by decide)⟩
  refine ⟨h1, ?_⟩
  show 1 - 2 * ((t.fdiv (6 ^ k)).fdiv 3).fmod 2 = 1 ∨ 1 - 2 * ((t.fdiv (6 ^ k)).fdiv 3).fmod 2 = -1
  omega
theorem keys_len (t : Int) : (keysOf t).length ≤ 3 := by
  unfold keysOf
  rw [List.length_map, List.length_range]
  have h1 : (t.fdiv 216).fmod 3 < 3 := Int.fmod_lt_of_pos _ (by decide)
  omega
theorem row_cols {n : Int} {i : Nat} {p : Int} (h0 : 0 ≤ p) (h3 : p < 3) : 0 ≤ (rowOf n i).getD p.toNat 0 ∧ (rowOf n i).getD p.toNat 0 < 4 := by
  have h1 : 0 ≤ n.fmod 3 ∧ n.fmod 3 < 3 := ⟨Int.fmod_nonneg_of_pos _ (by decide), Int.fmod_lt_of_pos _ (by decide)⟩
  have h2 : 0 ≤ (n.fdiv 3).fmod 4 ∧ (n.fdiv 3).fmod 4 < 4 := ⟨Int.fmod_nonneg_of_pos _ (by decide), Int.fmod_lt_of_pos _ (by decide)⟩
  have h4 : 0 ≤ (n.fdiv 12).fmod 3 ∧ (n.fdiv 12).fmod 3 < 3 := ⟨Int.fmod_nonneg_of_pos _ (by decide), Int.fmod_lt_of_pos _ (by decide)⟩
  unfold rowOf
  rcases (show p = 0 ∨ p = 1 ∨ p = 2 by omega) with rfl | rfl | rfl
  · show 0 ≤ n.fmod 3 ∧ n.fmod 3 < 4; omega
  · show 0 ≤ (n.fdiv 3).fmod 4 ∧ (n.fdiv 3).fmod 4 < 4; omega
  · show 0 ≤ (n.fdiv 12).fmod 3 ∧ (n.fdiv 12).fmod 3 < 4; omega
theorem rows_range (rows : List Value) : rows = (List.range rows.length).map fun i => rows.getD i .none := by
  apply List.ext_getElem?
  intro i
  by_cases hi : i < rows.length
  · simp [hi]
  · simp [hi, Nat.le_of_not_lt hi]

section
variable {w : World} {prog : Program} {mg mb : Str → Option Value} {G : Heap} {A : Around} {s : Shared}

theorem law_run (Z : LamT mg G) (T : GT w mg mb G) {n : Nat} (r : Room (n + 13) A) (st : Stays G s.heap) {fa a : Addr} {o : Obj} {params : Arguments} {dV kV doc pm ct : Value} {an : Option Addr} (ho : s.heap.get? fa = some o) (hod : o.data = .func (fnOf "law" "law" params lawStmts lawScope dV kV doc pm an (.ref 131) ct)) (hcd : s.heap.CodeRec (.ref 131) "law")
    (hbind : BindsTo s (fnOf "law" "law" params lawStmts lawScope dV kV doc pm an (.ref 131) ct) ⟨[.ref a], []⟩ [("script", .ref a)])
    (htab : s.heap.get? 129 = some (tabObj #[])) {items : List Value} {ns : List Int} (hl : s.heap.IsList a items.toArray) (hi : IntsAre items ns) (hlen : ns.length ≤ 63) {R : Result → Shared → Prop}
    (k : ∀ s' ps, Keep [129] s s' → s'.heap.get? 129 = some (tabObj ps) → R (.ok (.ret (.bool true))) s') :
    codeAny (model prog w) A (.call (.ref fa) ⟨[.ref a], []⟩) R s := by
  refine callFnO (S := [129]) (n := n + 13) (name := "law") (qual := "law") (params := params) (body := lawStmts) (scope := lawScope) (dV := dV) (kV := kV) (doc := doc) (pm := pm) (cdv := .ref 131) (ct := ct) (an := an) (binds := [("script", .ref a)]) T st (fun y hy => by rw [List.mem_singleton.mp hy]; exact Z.tab) (fun y hy => by rw [List.mem_singleton.mp hy]; exact ⟨_, htab⟩) r ho hod hcd hbind (by rfl) (fun L s₁ c k0 hcn => ?_)
  have r1 : Room (n + 12) (A.deeper (lawEnv L fa)) := r.deeper _
  refine lawA1 T (n := n + 9) r1 c rfl (Keep.list hl k0 (fun q => nomatch q)) hi hlen hcn (k0.keep _ _ htab (fun q => nomatch q)) fun R' Kl rows kvs m cm s₂ c2 mR mK hR hKl hrl hrow hK htab2 => ?_
  -- the rows' ints
  have inj : ∀ (i j : Nat) y, rows[i]? = some y → rows[j]? = some y → i = j := fun i j y hi' hj' => by
    have := (hrow i y hi').uniq (hrow j y hj')
    unfold rowOf at this
    simp only [List.cons.injEq, and_true] at this
    omega
  obtain ⟨ix, hix⟩ := pickFun inj
  obtain ⟨ρ, hρ⟩ : ∃ ρ : Value → List Int, ρ = fun v => rowOf ((numsOf' ns).getD (ix v) 0) (ix v) := ⟨_, rfl⟩
  have ρAt : ∀ (i : Nat) v, rows[i]? = some v → ρ v = rowOf ((numsOf' ns).getD i 0) i := fun i v hv => by rw [hρ]; show rowOf ((numsOf' ns).getD (ix v) 0) (ix v) = _; rw [hix i v hv]
  have hρT : ∀ v ∈ rows, TI s₂.heap v (ρ v) ∧ (ρ v).length = 4 := fun v hv => by
    obtain ⟨i, hi', rfl⟩ := List.getElem_of_mem hv
    have hg := List.getElem?_eq_getElem hi'
    rw [ρAt i _ hg]
    exact ⟨hrow i _ hg, rfl⟩
  have hnl := nums_len ns
  obtain ⟨keys, hkeys⟩ : ∃ keys, keys = keysOf (numsOf' ns).sum := ⟨_, rfl⟩
  rw [← hkeys] at hK
  have hin : ∀ p ∈ keys, (0 ≤ p.1 ∧ p.1 < 4) ∧ (p.2 = 1 ∨ p.2 = -1) := fun p hp => by
    rw [hkeys] at hp
    have := keys_good p hp
    exact ⟨by omega, this.2⟩
  have kz : keys.length ≤ 3 := by rw [hkeys]; exact keys_len _
  have dir : ∀ p ∈ keys, p.2 = 1 ∨ p.2 = -1 := fun p hp => (hin p hp).2
  have cols : ∀ i, i < rows.length → ∀ p ∈ keys, 0 ≤ (rxOf ρ rows i).getD p.1.toNat 0 ∧ (rxOf ρ rows i).getD p.1.toNat 0 < 4 := fun i hi' p hp => by
    have e1 : rxOf ρ rows i = rowOf ((numsOf' ns).getD i 0) i := by
      show ρ (rows.getD i .none) = _
      rw [List.getD_eq_getElem?_getD, List.getElem?_eq_getElem hi']
      exact ρAt i _ (List.getElem?_eq_getElem hi')
    rw [e1]
    rw [hkeys] at hp
    have := keys_good p hp
    exact row_cols this.1.1 this.1.2
  refine lawA2 T (n := n + 8) (r1.less (by omega)) c2 mR mK hR hKl hρT (by omega) hK hin kz hcn htab2 fun J dx tA U V m3 cm3 s₃ c3 mR3 mK3 mJ3 mU3 mV3 F3 htab3 => ?_
  have P : LawP rows (byColP ρ keys rows) (byColP ρ (negK keys) rows) keys ρ (byN (rxOf ρ rows) keys (List.range rows.length)) (byN (rxOf ρ rows) (negK keys) (List.range rows.length)) := by
    refine ⟨by omega, by omega, fun i v hv => ?_, hin, kz, ?_, ?_, due_st dir cols, turned_st dir cols⟩
    · rw [ρAt i v hv]; exact ⟨rfl, rfl⟩
    · conv => lhs; rw [rows_range rows]
      exact byCol_map keys _
    · conv => lhs; rw [rows_range rows]
      exact byCol_map (negK keys) _
  refine lawA3 T (n := n + 7) (r1.less (by omega)) c3 ⟨mR3, mK3, mJ3, mU3, mV3⟩ F3 P hcn htab3 fun K rks m4 cm4 s₄ c4 mc4 mk4 F4 hK4 hi4 htab4 => ?_
  refine lawB T (n := n + 7) (r1.less (by omega)) c4 mc4 mk4 ⟨F4, hK4⟩ P hi4 htab4 fun m5 s₅ c5 mc5 F5 htab5 => ?_
  refine lawC Z T (n := n) r1 c5 mc5 mk4 F5 P hi4 htab5 fun m6 ps s₆ c6 mc6 F6 htab6 => ?_
  refine lawD T (n := n) r1 c6 mc6 mk4 F6 P hi4 hcn htab6 fun m7 cm7 s₇ c7 htab7 => ?_
  exact k s₇ ps c7.kp htab7
end
end Mine
end
open PySem PySem.W PyProof.Rows PySem.Calls
set_option maxRecDepth 100000 in
set_option maxHeartbeats 8000000 in
theorem PySem.Challenge.cw_mj0213_01_holds : PySem.Challenge.rw_mj0213_01.Holds := by
  w_on
  o_law
  rename_i said
  refine Mine.top_head (by rfl) (by rfl) (by rfl) said ?hw ?hc
  case hw => w_witness2
  clear said
  k_fill
  intro w s₀ s₁ mg mb G Y fa o pm cd doc dV kV ho hdd hcd hD hmg hg args vals as hpre hlay hrd hwl hlo
  have KX := km_in_of Y
  km_tabs Y
  have X := (Ground.X G).1
  have V := (Ground.X G).2
  refine Ground.open G ?_
  intro T B D TE TW
  try (refine guard_noD D (by decide +kernel) ?_; clear D)
  km_lay T hmg ho hdd cd
  clear hmg
  wrow_args hpre hlay hrd hwl hlo
  refine enter_call ?_
  kn_posts
  have he := Dflts.none hD rfl; subst he
  have he := Dflts.noKw hD; subst he
  rename Heap.IsList _ _ _ => hL
  rename IntsAre _ _ => hI
  rename ¬ _ < _ => hlen
  have X' := ghost_K hT9 KX (by kernel_rfl)
  have T' := ghost_top hT9 T
  have C' := (ghost_code hT9).1
  have htab := hT8 129 (.head _)
  refine Mine.law_run (G := ghostOf s₁.heap [(131, 129)]) (n := 3) ⟨C', T'.bmain, hideAll_none _ (.head _)⟩ ⟨X', T'.g, T'.b, T'.builtins, T'.nolimit⟩ ⟨by decide +kernel, by decide +kernel, rfl⟩ (fun b o e => of_hideAll _ e) ho hdd hcd (.of_eq (by rfl)) htab hL hI (by omega) fun s' ps k' htab' => ⟨⟨.inl ⟨.bool true, .bool true, [], rfl, fun _ => rfl, ?_, ?_, fun _ => ⟨.nil, fun _ q => nomatch q⟩⟩, fun b o e => ?_, ?_, ?_⟩, ⟨⟨ps, htab'⟩, trivial⟩⟩
  · exact .bool true
  · first | kernel_rfl | kernel_rfl! | with_unfolding_all rfl | w_fin
  · exact k'.keep b o (of_hideAll _ e) (fun q => by
      have e' := hideAll_none (h := s₁.heap) [129] (.head _)
      rw [List.mem_singleton.mp q] at e
      rw [show (ghostOf s₁.heap [(131, 129)]).get? 129 = none from e'] at e; cases e)
  · obtain ⟨h, t, e⟩ := k'.same; rw [e]
  · obtain ⟨h, t, e⟩ := k'.same; rw [e]; exact hg
