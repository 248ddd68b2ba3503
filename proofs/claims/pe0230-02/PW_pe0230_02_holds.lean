import PyProof.Rows.All
import Wide.All
import OpenK.AllK
import Wide.FinOn
import PySem.Challenge.RW_pe0230_02
set_option Elab.async false
section
open PySem PySem.W PyProof.Rows
namespace Mine
def view : Program := { PySem.Challenge.pw_pe0230_02 with main := { PySem.Challenge.pw_pe0230_02.main with body := [0, 2, 9, 10, 11, 12, 13, 14].filterMap fun i => PySem.Challenge.pw_pe0230_02.main.body[i]? } }
section
set_option hygiene false
local macro_rules | `(tactic| o_head $H) => `(tactic| (
  refine holds_open (q := view) (loose := [Str.ofString "Whitespace", Str.ofString "insort_right", Str.ofString "bisect_right", Str.ofString "insort_left", Str.ofString "bisect_left"]) (Xt := fun s => xlAt view [] s && recOk (PySem.Challenge.rw_pe0230_02.row.records) s) (XP := XL view []) (Yf := Hook.obs $H) (Ya := Hook.val $H) (YP := Hook.says $H) (N := 1910) ?hl (Hook.of $H) (Hook.keeps $H) (fun s e => xl_of s (Bool.and_eq_true_iff.mp e).1) XL.keeps (by rfl) (by rfl) (by rfl) (fun s e => recFacts_of (Bool.and_eq_true_iff.mp e).2) (by rfl) (by first | assumption | decide +kernel) (by decide +kernel) ⟨rfl, rfl, rfl, rfl, rfl, by decide +kernel⟩ ?hw ?hc
  case hl =>
    refine LeftO.of_split "special-get-raises" (fun w => ?_)
    change Option.map _ (fencedOpening treeTable PySem.Challenge.pw_pe0230_02 w 1910) = _
    unfold topFrom
    rewrite [PySem.W.Fast.te14082659384304107361, PySem.W.Fast.te14364793385576792824, PySem.W.Fast.te4187177175401517315, PySem.W.Fast.te11285947535814752813]
    kernel_rfl))
set_option maxRecDepth 100000 in
set_option maxHeartbeats 8000000 in
open_top hd for PySem.Challenge.rw_pe0230_02
end
end Mine
end
section
open PySem PySem.W PyProof.Rows PySem.Calls
set_option maxRecDepth 100000
namespace Mine

abbrev Kp (B h : Heap) : Prop := ∀ b o, B.get? b = some o → h.get? b = some o
theorem Kp.rfl {h : Heap} : Kp h h := fun _ _ e => e
theorem Kp.trans {a b c : Heap} (x : Kp a b) (y : Kp b c) : Kp a c := fun _ _ e => y _ _ (x _ _ e)
theorem Kp.push {h : Heap} (o : Obj) : Kp h (h.push o) := fun _ _ e => Heap.get?_push_of_some o e
theorem Kp.none {h h' : Heap} (k : Kp h h') {a : Addr} (e : h'.get? a = none) : h.get? a = none := by
  cases q : h.get? a with
  | none => exact Eq.refl _
  | some o => rw [k _ _ q] at e; cases e
theorem get_none_of_le {h : Heap} {a : Addr} (e : h.objs.size ≤ a) : h.get? a = none := by
  cases q : h.get? a with
  | none => rfl
  | some o => exact absurd (Heap.lt_size q) (Nat.not_lt.mpr e)

/-- the same but for the heap and the tokens -/
structure Sm (s s' : Shared) : Prop where
  gens : s'.gens = s.gens
  drawn : s'.drawn = s.drawn
  os : s'.os = s.os
theorem Sm.trans {a b c : Shared} (x : Sm a b) (y : Sm b c) : Sm a c := ⟨y.1.trans x.1, y.2.trans x.2, y.3.trans x.3⟩
theorem Sm.mk' {s : Shared} {h : Heap} {tk : Nat} : Sm s { s with heap := h, toks := tk } := ⟨Eq.refl _, Eq.refl _, Eq.refl _⟩
structure Gr (s s' : Shared) : Prop where
  sm : Sm s s'
  kp : Kp s.heap s'.heap
theorem Gr.tk {s : Shared} {tk : Nat} : Gr s { s with toks := tk } := ⟨Sm.mk', Kp.rfl⟩
theorem Gr.mk' {s : Shared} {h : Heap} {tk : Nat} (k : Kp s.heap h) : Gr s { s with heap := h, toks := tk } := ⟨Sm.mk', k⟩

def lk (l : List (Str × Value)) (x : Str) : Option Value := l.lookup x
def put (x : Str) (v : Value) : List (Str × Value) → List (Str × Value)
  | [] => [(x, v)]
  | (y, u) :: r => if x == y then (x, v) :: r else (y, u) :: put x v r
theorem lk_put (x : Str) (v : Value) : ∀ (l : List (Str × Value)) (y : Str), lk (put x v l) y = if y = x then some v else lk l y
  | [], y => by
    simp only [lk, put, List.lookup]
    by_cases h : y = x
    · subst h; simp
    · have : (y == x) = false := by simpa using h
      simp [h, this]
  | (z, u) :: r, y => by
    have ihy := lk_put x v r y
    simp only [lk, put] at ihy ⊢
    by_cases hxz : x = z
    · subst hxz
      simp only [beq_self_eq_true, if_true]
      by_cases hy : y = x
      · subst hy; simp [List.lookup]
      · have : (y == x) = false := by simpa using hy
        simp [List.lookup, hy, this]
    · have e : (x == z) = false := by simpa using hxz
      simp only [e, Bool.false_eq_true, if_false]
      by_cases hy : y = z
      · subst hy
        have : ¬ y = x := fun q => hxz q.symm
        simp [List.lookup, this]
      · have : (y == z) = false := by simpa using hy
        simp only [List.lookup, this]
        exact ihy
/-- what is known of a frame's names -/
def Nm (h : Heap) (L : Addr) (l : List (Str × Value)) : Prop := ∃ m, h.Ns L m ∧ ∀ x v, lk l x = some v → m x = some v
theorem Nm.keeps {h h' : Heap} {L : Addr} {l : List (Str × Value)} (x : Nm h L l) (k : ∀ o, h.get? L = some o → h'.get? L = some o) : Nm h' L l :=
  let ⟨m, ⟨o, es, ep, ho, r⟩, e⟩ := x; ⟨m, ⟨o, es, ep, k o ho, r⟩, e⟩
theorem Nm.get {h : Heap} {L : Addr} {l : List (Str × Value)} (x : Nm h L l) : ∃ o, h.get? L = some o := let ⟨_, ⟨o, _, _, ho, _⟩, _⟩ := x; ⟨o, ho⟩
def AllIn (l : List (Str × Value)) : List (Str × Value) → Prop
  | [] => True
  | (x, v) :: r => lk l x = some v ∧ AllIn l r
theorem AllIn.all {l : List (Str × Value)} : ∀ {l' : List (Str × Value)}, AllIn l l' → ∀ x v, lk l' x = some v → lk l x = some v
  | (y, u) :: r, h, x, v, e => by
    unfold lk at e
    rw [List.lookup_cons] at e
    cases q : x == y with
    | true => rw [q] at e; cases e; rw [eq_of_beq q]; exact h.1
    | false => rw [q] at e; exact AllIn.all h.2 x v e

abbrev Ls := List (Str × Value)
abbrev Ob := List (Addr × Obj)
structure Gd (K : Frag) (h : Heap) : Prop where
  k : K.In h
  g : ∃ mg, h.Ns mainGlobals mg
  b : ∃ mb, h.Ns builtinsNs mb ∧ ∀ x : Str, x ≠ "__name__" → mb x = bootBuiltins x
  nl : h.NoLimit
theorem Gd.kp {K : Frag} {h h' : Heap} (G : Gd K h) (k : Kp h h') : Gd K h' :=
  ⟨G.k.keeps k, G.g.imp fun _ x => x.keeps k, G.b.imp fun _ x => ⟨x.1.keeps k, x.2⟩, G.nl.keeps k⟩

/-- the frame at hand: its ground B, its names, what it has made and may still turn -/
structure Fm (K : Frag) (s₀ : Shared) (B : Heap) (L : Addr) (s : Shared) (l : List (Str × Value)) (ob : List (Addr × Obj)) : Prop where
  gd : Gd K B
  ns : Nm s.heap L l
  kp : Kp B s.heap
  no : B.get? L = none
  obs : ∀ p ∈ ob, s.heap.get? p.1 = some p.2 ∧ p.1 ≠ L ∧ B.get? p.1 = none
  nd : (List.map Prod.fst ob).Nodup
  sm : Sm s₀ s

structure Rm (A : Around) (k : Nat) : Prop where
  h : A.handled = none
  d : A.depth + k < recursionLimit
  u : A.units + 16 * k < cLine
theorem Rm.le {A : Around} {k j : Nat} (R : Rm A k) (h : j ≤ k) : Rm A j := ⟨R.h, by have := R.d; lia, by have := R.u; lia⟩
theorem Rm.deeper {A : Around} {k : Nat} {env : Env} (R : Rm A (k + 1)) : Rm (A.deeper env) k :=
  ⟨R.h, by have := R.d; show A.depth + 1 + k < recursionLimit; lia, by have := R.u; show A.units + 3 + 16 * k < cLine; lia⟩
theorem Rm.room {A : Around} {k : Nat} (R : Rm A k) : A.depth < recursionLimit := by have := R.d; lia

section
variable {K : Frag} {s₀ s s' : Shared} {B B' : Heap} {L : Addr} {l : List (Str × Value)} {ob : List (Addr × Obj)}
theorem Fm.gdh (F : Fm K s₀ B L s l ob) : Gd K s.heap := F.gd.kp F.kp
theorem Fm.gr (F : Fm K s₀ B L s l ob) (k : Gr s s') : Fm K s₀ B L s' l ob :=
  ⟨F.gd, F.ns.keeps (fun o e => k.kp _ o e), F.kp.trans k.kp, F.no, fun p hp => ⟨k.kp _ _ (F.obs p hp).1, (F.obs p hp).2⟩, F.nd, F.sm.trans k.sm⟩
theorem Fm.set {x : Str} {v : Value} {m : Str → Option Value} (F : Fm K s₀ B L s l ob) (hm₀ : ∀ x v, lk l x = some v → m x = some v) (hn : s'.heap.Ns L (fun y => if y = x then some v else m y)) (hs : Heap.SameBut L s.heap s'.heap) (hm : Sm s s') : Fm K s₀ B L s' (put x v l) ob :=
  ⟨F.gd, ⟨_, hn, fun y u e => by
    rw [lk_put] at e
    by_cases q : y = x
    · simp only [q, if_true] at e ⊢; exact e
    · simp only [q, if_false] at e ⊢; exact hm₀ y u e⟩, fun b o e => (hs.2 b (by rintro rfl; rw [F.no] at e; cases e)).trans (F.kp b o e), F.no, fun p hp => ⟨(hs.2 p.1 (F.obs p hp).2.1).trans (F.obs p hp).1, (F.obs p hp).2⟩, F.nd, F.sm.trans hm⟩
theorem Fm.sub {l' : List (Str × Value)} (F : Fm K s₀ B L s l ob) (h : AllIn l l') : Fm K s₀ B L s l' ob :=
  ⟨F.gd, let ⟨m, n, e⟩ := F.ns; ⟨m, n, fun x v q => e x v (h.all x v q)⟩, F.kp, F.no, F.obs, F.nd, F.sm⟩
theorem Fm.get {a : Addr} {o : Obj} (F : Fm K s₀ B L s l ob) (hm : (a, o) ∈ ob) : s.heap.get? a = some o := (F.obs _ hm).1
/-- a new thing joins the ledger -/
theorem Fm.join {a : Addr} {o : Obj} (F : Fm K s₀ B L s l ob) (k : Gr s s') (hn : s.heap.get? a = none) (ha : s'.heap.get? a = some o) : Fm K s₀ B L s' l ((a, o) :: ob) := by
  have F' := F.gr k
  refine ⟨F.gd, F'.ns, F'.kp, F.no, fun p hp => ?_, ?_, F'.sm⟩
  · rcases List.mem_cons.mp hp with rfl | hp
    · refine ⟨ha, fun q => ?_, Kp.none F.kp hn⟩
      obtain ⟨oL, hL⟩ := F.ns.get
      have q : a = L := q
      rw [q, hL] at hn; cases hn
    · exact F'.obs p hp
  · rw [List.map_cons, List.nodup_cons]
    refine ⟨fun q => ?_, F.nd⟩
    obtain ⟨p, hp, e⟩ := List.mem_map.mp q
    have e : p.1 = a := e
    have := (F.obs p hp).1
    rw [e, hn] at this; cases this
theorem Fm.push (F : Fm K s₀ B L s l ob) (o : Obj) (hf : o.isFreed = false) (tk : Nat) : Fm K s₀ B L { s with heap := s.heap.push o, toks := tk } l ((s.heap.objs.size, o) :: ob) :=
  F.join (Gr.mk' (Kp.push o)) (get_none_of_le (Nat.le_refl _)) (Heap.get?_push_size _ hf)
theorem Fm.drop {ob' : List (Addr × Obj)} (F : Fm K s₀ B L s l ob) (hs : List.Sublist ob' ob) : Fm K s₀ B L s l ob' :=
  ⟨F.gd, F.ns, F.kp, F.no, fun p hp => F.obs p (hs.subset hp), (hs.map _).nodup F.nd, F.sm⟩
theorem Fm.perm {ob' : List (Addr × Obj)} (F : Fm K s₀ B L s l ob) (hs : List.Perm ob ob') : Fm K s₀ B L s l ob' :=
  ⟨F.gd, F.ns, F.kp, F.no, fun p hp => F.obs p (hs.mem_iff.mpr hp), (hs.map _).nodup_iff.mp F.nd, F.sm⟩
/-- one thing of the ledger is turned -/
theorem Fm.upd {a : Addr} {o o' : Obj} {pre post : List (Addr × Obj)} (F : Fm K s₀ B L s l (pre ++ (a, o) :: post)) (hs : Heap.SameBut a s.heap s'.heap) (ha : s'.heap.get? a = some o') (hm : Sm s s') :
    Fm K s₀ B L s' l (pre ++ (a, o') :: post) := by
  have D := F.obs (a, o) (by simp)
  have nd := F.nd
  refine ⟨F.gd, F.ns.keeps fun o e => (hs.2 _ (Ne.symm D.2.1)).trans e, fun b x q => (hs.2 _ fun z => ?_).trans (F.kp b x q), F.no, fun p hp => ?_, ?_, F.sm.trans hm⟩
  · have := D.2.2; rw [← z, q] at this; cases this
  · rcases List.mem_append.mp hp with q | q
    · have P := F.obs p (List.mem_append_left _ q)
      refine ⟨(hs.2 _ fun e => ?_).trans P.1, P.2⟩
      rw [List.map_append, List.map_cons, List.nodup_append] at nd
      exact nd.2.2 p.1 (List.mem_map_of_mem q) a (.head _) e
    · rcases List.mem_cons.mp q with rfl | q
      · exact ⟨ha, D.2⟩
      · have P := F.obs p (List.mem_append_right _ (.tail _ q))
        refine ⟨(hs.2 _ fun e => ?_).trans P.1, P.2⟩
        rw [List.map_append, List.map_cons, List.nodup_append, List.nodup_cons] at nd
        exact nd.2.1.1 (e ▸ (List.mem_map_of_mem q : p.1 ∈ List.map Prod.fst post))
  · simpa using nd
theorem Fm.out {a : Addr} {o : Obj} {post : List (Addr × Obj)} (F : Fm K s₀ B L s l ((a, o) :: post)) (hs : Heap.ExtBut a s.heap s'.heap) (hm : Sm s s') : Fm K s₀ B L s' l post := by
  have D := F.obs (a, o) (by simp)
  have nd := F.nd
  rw [List.map_cons, List.nodup_cons] at nd
  refine ⟨F.gd, F.ns.keeps fun o e => hs _ _ (Ne.symm D.2.1) e, fun b x q => hs _ _ (fun z => ?_) (F.kp b x q), F.no, fun p hp => ?_, nd.2, F.sm.trans hm⟩
  · have := D.2.2; rw [← z, q] at this; cases this
  · have P := F.obs p (.tail _ hp)
    exact ⟨hs _ _ (fun e => nd.1 (e ▸ (List.mem_map_of_mem hp : p.1 ∈ List.map Prod.fst post))) P.1, P.2⟩
/-- all that is known and not turned any more goes into the ground -/
theorem Fm.freeze (F : Fm K s₀ B L s l ob) : ∃ B', Kp B B' ∧ Fm K s₀ B' L s l ob ∧ ∀ a o, s.heap.get? a = some o → a ≠ L → a ∉ List.map Prod.fst ob → B'.get? a = some o := by
  have hn : ∀ {a : Addr}, a ∉ List.map Prod.fst ob → a ≠ L → a ∉ L :: List.map Prod.fst ob := fun h1 h2 q => by
    rcases List.mem_cons.mp q with q | q
    · exact h2 q
    · exact h1 q
  have k : Kp B (hideAll s.heap (L :: List.map Prod.fst ob)) := fun b o e => hideAll_get _ (F.kp b o e) (hn (fun q => by
      obtain ⟨p, hp, rfl⟩ := List.mem_map.mp q
      rw [(F.obs p hp).2.2] at e; cases e) (by rintro rfl; rw [F.no] at e; cases e))
  refine ⟨_, k, ⟨F.gd.kp k, F.ns, fun b o e => of_hideAll _ e, hideAll_none _ (.head _), fun p hp => ⟨(F.obs p hp).1, (F.obs p hp).2.1, hideAll_none _ (.tail _ (List.mem_map_of_mem hp))⟩, F.nd, F.sm⟩, fun a o e h1 h2 => hideAll_get _ e (hn h2 h1)⟩
theorem Fm.freeze0 {a : Addr} {o : Obj} (F : Fm K s₀ B L s l ((a, o) :: ob)) : ∃ B', Kp B B' ∧ Fm K s₀ B' L s l ob ∧ B'.get? a = some o := by
  have nd := F.nd
  rw [List.map_cons, List.nodup_cons] at nd
  have D := F.obs (a, o) (.head _)
  obtain ⟨B', k, F', h⟩ := (F.drop (List.sublist_cons_self _ _)).freeze
  exact ⟨B', k, F', h a o D.1 D.2.1 nd.1⟩
end

section
variable {prog : Program} {w : World} {A : Around} {E : Value → Shared → Prop} {s₀ s : Shared} {env : Env}
  {K : Frag} {B : Heap} {L : Addr} {l : List (Str × Value)} {ob : List (Addr × Obj)}

theorem nm_local {x : Str} {pos : Pos} {v : Value} {Q : Value → Shared → Prop} (F : Fm K s₀ B L s l ob) (hl : env.kindOf x = some .local) (hv : lk l x = some v) (h : Q v s)
    (hL : env.locals = L) (hk : env.scope.kind = .function) (hd : (x == ("__debug__" : Str)) = false) :
    wpAny (model prog w) A (eval (.Name x pos) env) Q E s :=
  let ⟨_, n, e⟩ := F.ns
  wpAny_Name (wpAny_loadName_local hk hl (hL ▸ n) (e _ _ hv) h) hd

theorem st_local {x : Str} {v : Value} {Q : Unit → Shared → Prop} (F : Fm K s₀ B L s l ob) (hl : env.kindOf x = some .local)
    (h : ∀ s', Fm K s₀ B L s' (put x v l) ob → Q () s')
    (hL : env.locals = L) (hk : env.scope.kind = .function) :
    wpAny (model prog w) A (storeName env x v) Q E s := by
  subst hL
  obtain ⟨m, n, e⟩ := F.ns
  exact wpAny_storeName_local hl n (fun h' hn hs => h _ (F.set e hn hs Sm.mk')) (by rw [hk]; rfl)

theorem nm_glob {x : Str} {pos : Pos} {v : Value} {Q : Value → Shared → Prop} (F : Fm K s₀ B L s l ob) (hl : env.kindOf x = some .globalImplicit) (e : nsIn K mainGlobals x = some (some v)) (h : Q v s)
    (hg : env.globals = mainGlobals) (hk : env.scope.kind = .function) (hd : (x == ("__debug__" : Str)) = false) :
    wpAny (model prog w) A (eval (.Name x pos) env) Q E s := by
  obtain ⟨mg, g⟩ := F.gdh.g
  exact Name_function_global hk hl (loadGlobal_global (hg ▸ g) (mg_of F.gdh.k g e) h) hd
theorem nm_bi {x : Str} {pos : Pos} {v : Value} {Q : Value → Shared → Prop} (F : Fm K s₀ B L s l ob) (hl : env.kindOf x = some .globalImplicit) (e : nsIn K mainGlobals x = some none) (hv : bootBuiltins x = some v) (h : Q v s)
    (hg : env.globals = mainGlobals) (hb : env.builtins = builtinsNs) (hk : env.scope.kind = .function) (hd : (x == ("__debug__" : Str)) = false) (hn : x ≠ "__name__") :
    wpAny (model prog w) A (eval (.Name x pos) env) Q E s := by
  obtain ⟨mg, g⟩ := F.gdh.g
  obtain ⟨mb, b, bb⟩ := F.gdh.b
  exact Name_function_global hk hl (loadGlobal_builtin (hg ▸ g) (mg_none_of F.gdh.k g e) (hb ▸ b) ((bb x hn).trans hv) h) hd

def RetTo (Q : Value → Shared → Prop) : Flow → Shared → Prop := fun fl s' => Q (match fl with | .ret v => v | _ => .none) s'

/-- a call of a def without cells that raises nothing -/
theorem call_fn (binds : List (Str × Value)) {name qual : Str} {params : Arguments} {body : List Stmt} {scope : Scope} {cl : List (Str × Addr)} {dV kV doc pm cdv ct oc : Value} {an od : Option Addr} {osl : Array (Option Value)} {f : Addr} {pos : List Value} {kw : List (Str × Value)}
    {Q : Value → Shared → Prop} {k : Nat}
    (R : Rm A (k + 1)) (G : Gd K s.heap)
    (ho : K.lookup f = some ⟨oc, od, .func (fnX name qual params body scope cl dV kV doc pm an cdv ct), osl⟩) (hcd : codeIn K cdv qual = true)
    (hbind : BindsTo s (fnX name qual params body scope cl dV kV doc pm an cdv ct) ⟨pos, kw⟩ binds) (hloc : (binds.all fun x => decide (scope.names.lookup x.1 = some .local)) = true)
    (hcell : (scope.names.all fun x => decide (x.2 ≠ .cell)) = true)
    (h : ∀ L s' A', L = s.heap.objs.size → Fm K s s.heap L s' binds.reverse [] → Rm A' k →
      wpAny (model prog w) A' (execs body (envX qual scope L f cdv cl)) (RetTo Q) (fun _ _ => False) s')
    (hco : scope.isCoroutine = false) (hgen : scope.isGenerator = false) (hk : scope.kind = .function) : wpAny (model prog w) A (call (.ref f) pos kw) Q E s := by
  refine wpAny_call ?_
  refine codeAny_call_def (fd := fnX name qual params body scope cl dV kV doc pm an cdv ct) (body := body) (binds := binds) R.room (G.k _ _ ho) rfl G.nl (codeRec_of G.k hcd) rfl hbind
    (fun x hx => of_decide_eq_true (List.all_eq_true.mp hcell x hx)) (locs hloc) (fun h₁ hns hk₁ => ?_) hco hgen hk
  refine wpAny_mono (h s.heap.objs.size _ _ rfl ⟨G, ⟨_, hns, fun _ _ e => e⟩, hk₁, get_none_of_le (Nat.le_refl _), (by intro p hp; cases hp), List.nodup_nil, Sm.mk'⟩ R.deeper) (fun fl s' hq => ?_) fun _ _ x => x.elim
  cases fl <;> exact hq
end

end Mine
end
section
open PySem PySem.W PyProof.Rows PySem.Calls
set_option maxRecDepth 100000
namespace Mine

def Then (M : Model) (A : Around) (env : Env) (rest : List Stmt) (Q : Flow → Shared → Prop) (E : Value → Shared → Prop) : Flow → Shared → Prop :=
  fun f s' => match f with | .next => wpAny M A (execs rest env) Q E s' | f => Q f s'

section
variable {M : Model} {prog : Program} {w : World} {A : Around} {E : Value → Shared → Prop} {s₀ s : Shared} {env : Env}
  {K : Frag} {B : Heap} {L : Addr} {l : List (Str × Value)} {ob : List (Addr × Obj)} {rest : List Stmt} {Q : Flow → Shared → Prop}

theorem then_next (h : wpAny M A (execs rest env) Q E s) : Then M A env rest Q E .next s := h
theorem then_ret {v : Value} (h : Q (.ret v) s) : Then M A env rest Q E (.ret v) s := h
theorem then_brk (h : Q .brk s) : Then M A env rest Q E .brk s := h
theorem retTo_ret {v : Value} {Q : Value → Shared → Prop} (h : Q v s) : RetTo Q (.ret v) s := h
theorem retTo_next {Q : Value → Shared → Prop} (h : Q .none s) : RetTo Q .next s := h

theorem s_nil (h : Q .next s) : wpAny M A (execs [] env) Q E s := wpAny_execs_nil h
theorem s_cons {st : Stmt} (h : wpAny M A (exec st env) (Then M A env rest Q E) E s) : wpAny M A (execs (st :: rest) env) Q E s := by
  refine wpAny_execs_cons (wpAny_mono h (fun f s' hf => ?_) fun _ _ x => x)
  cases f <;> exact hf
theorem s_assign {x : Str} {p pos : Pos} {value : Expr} (h : wpAny M A (eval value env) (fun v s₁ => wpAny M A (storeName env x v) (fun _ s₂ => wpAny M A (execs rest env) Q E s₂) E s₁) E s)
    (hs : swapsWith value (some (.Name x p)) pos.line env = pure false) : wpAny M A (execs (.Assign [.Name x p] value pos :: rest) env) Q E s :=
  s_cons (wpAny_Assign_Name h hs)
theorem s_ret {e : Expr} {pos : Pos} (h : wpAny M A (eval e env) (fun v => Q (.ret v)) E s) : wpAny M A (execs (.Return (some e) pos :: rest) env) Q E s :=
  s_cons (wpAny_Return_some (wpAny_mono h (fun _ _ x => x) fun _ _ x => x))
theorem s_brk {pos : Pos} (h : Q .brk s) : wpAny M A (execs (.Break pos :: rest) env) Q E s := s_cons (fun _ _ _ => h)
theorem s_if {test : Expr} {body orelse : List Stmt} {pos : Pos}
    (h : wpAny M A (isTrue test env (eval test env)) (fun b s₂ => if b = true then wpAny M A (execs body env) (Then M A env rest Q E) E s₂ else wpAny M A (execs orelse env) (Then M A env rest Q E) E s₂) E s) :
    wpAny M A (execs (.If test body orelse pos :: rest) env) Q E s := s_cons (wpAny_If (wpAny_mono h (fun b s₂ x => by cases b <;> exact x) fun _ _ x => x))
theorem ite_d {c : Prop} [Decidable c] {P R : Prop} (h1 : c → P) (h2 : ¬ c → R) : if decide c = true then P else R := by
  by_cases hc : c
  · simp [hc]; exact h1 hc
  · simp [hc]; exact h2 hc
theorem ite_b {b : Bool} {P R : Prop} (h1 : b = true → P) (h2 : b = false → R) : if b = true then P else R := by
  cases b
  · exact h2 rfl
  · exact h1 rfl
theorem s_while {test : Expr} {body orelse : List Stmt} {pos : Pos} (h : codeAny (model prog w) A (.whileLoop test body orelse env) (fun r s' => match r with | .ok f => Then (model prog w) A env rest Q E f s' | .error _ => False) s) :
    wpAny (model prog w) A (execs (.While test body orelse pos :: rest) env) Q E s :=
  s_cons (wpAny_While (codeAny_mono h fun r s' x => by cases r with | ok f => exact x | error e => exact x.elim))

theorem s_unpack2 {x y : Str} {p1 p2 p3 pos : Pos} {c : Nat} {value : Expr} (R : A.handled = none)
    (h : wpAny (model prog w) A (eval value env) (fun v s₁ => ∃ t v1 v2, v = .ref t ∧ IsTup s₁.heap t #[v1, v2] ∧ ∀ s₂, Gr s₁ s₂ →
      wpAny (model prog w) A (storeName env x v1) (fun _ s₂ => wpAny (model prog w) A (storeName env y v2) (fun _ s₃ => wpAny (model prog w) A (execs rest env) Q E s₃) E s₂) E s₂) E s)
    (hs : swapsWithSole [.Tuple [.Name x p1, .Name y p2] c p3] value pos.line env = pure false)
    (hw : swappedStores [.Tuple [.Name x p1, .Name y p2] c p3] value env = pure none) :
    wpAny (model prog w) A (execs (.Assign [.Tuple [.Name x p1, .Name y p2] c p3] value pos :: rest) env) Q E s := by
  refine s_cons (Assign_Tuple (wpAny_mono h (fun v s₁ h₁ => ?_) fun _ _ x => x) hs hw)
  obtain ⟨t, v1, v2, rfl, ht, hq⟩ := h₁
  refine wpAny_assign_Tuple R ht rfl rfl fun h' hx => ?_
  refine wpAny_assignInOrder_more (wpAny_assign_Name (wpAny_mono (hq _ ⟨⟨rfl, rfl, rfl⟩, fun b o e => hx b o (Nat.ne_of_lt (Heap.lt_size e)) e⟩) (fun _ s₂ h₂ => ?_) fun _ _ x => x))
  exact wpAny_assignInOrder_more (wpAny_assign_Name (wpAny_mono h₂ (fun _ s₃ h₃ => wpAny_assignInOrder_none h₃) fun _ _ x => x))
end

section
variable {prog : Program} {w : World} {A : Around} {E : Value → Shared → Prop} {s₀ s : Shared} {env : Env} {K : Frag} {B : Heap} {L : Addr} {l : List (Str × Value)} {ob : List (Addr × Obj)} {Q : Value → Shared → Prop}
theorem e_call {x : Str} {np pos : Pos} {args : List Expr}
    (h : wpAny (model prog w) A (eval (.Name x np) env) (fun f s₁ => wpAny (model prog w) A (callWith pos f [] (backTo pos (starEach args env)) []) Q E s₁) E s) :
    wpAny (model prog w) A (eval (.Call (.Name x np) args [] pos) env) Q E s := wpAny_Call_NameR h
theorem cw_bi1 {pos : Pos} {id : String} {e1 : Expr} (h : wpAny (model prog w) A (eval e1 env) (fun v s₁ => wpAny (model prog w) A (call (.builtin id) [v]) Q E s₁) E s)
    (he : starEach [e1] env = [(false, eval e1 env)]) : wpAny (model prog w) A (callWith pos (.builtin id) [] (backTo pos (starEach [e1] env)) []) Q E s := by
  rw [he]
  exact callWith_builtin rfl (evalArgs_plain (spliced_cons (wpAny_mono h (fun _ _ h₁ => spliced_nil h₁) fun _ _ x => x)))
theorem cw_bi2 {pos : Pos} {id : String} {e1 e2 : Expr}
    (h : wpAny (model prog w) A (eval e1 env) (fun v s₁ => wpAny (model prog w) A (eval e2 env) (fun v2 s₂ => wpAny (model prog w) A (call (.builtin id) [v, v2]) Q E s₂) E s₁) E s)
    (he : starEach [e1, e2] env = [(false, eval e1 env), (false, eval e2 env)]) : wpAny (model prog w) A (callWith pos (.builtin id) [] (backTo pos (starEach [e1, e2] env)) []) Q E s := by
  rw [he]
  exact callWith_builtin rfl (evalArgs_plain (spliced_cons (wpAny_mono h (fun _ _ h₁ => spliced_cons (wpAny_mono h₁ (fun _ _ h₂ => spliced_nil h₂) fun _ _ x => x)) fun _ _ x => x)))
theorem cw_ty1 {pos : Pos} {id : String} {e1 : Expr} (h : wpAny (model prog w) A (eval e1 env) (fun v s₁ => wpAny (model prog w) A (call (.type id) [v]) Q E s₁) E s)
    (he : starEach [e1] env = [(false, eval e1 env)]) : wpAny (model prog w) A (callWith pos (.type id) [] (backTo pos (starEach [e1] env)) []) Q E s := by
  rw [he]
  exact PyProof.Rows.callWith_type rfl (evalArgs_plain (spliced_cons (wpAny_mono h (fun _ _ h₁ => spliced_nil h₁) fun _ _ x => x)))
theorem cw_ty2 {pos : Pos} {id : String} {e1 e2 : Expr}
    (h : wpAny (model prog w) A (eval e1 env) (fun v s₁ => wpAny (model prog w) A (eval e2 env) (fun v2 s₂ => wpAny (model prog w) A (call (.type id) [v, v2]) Q E s₂) E s₁) E s)
    (he : starEach [e1, e2] env = [(false, eval e1 env), (false, eval e2 env)]) : wpAny (model prog w) A (callWith pos (.type id) [] (backTo pos (starEach [e1, e2] env)) []) Q E s := by
  rw [he]
  exact PyProof.Rows.callWith_type rfl (evalArgs_plain (spliced_cons (wpAny_mono h (fun _ _ h₁ => spliced_cons (wpAny_mono h₁ (fun _ _ h₂ => spliced_nil h₂) fun _ _ x => x)) fun _ _ x => x)))

theorem b_len_tup {t : Addr} {items : Array Value} (F : Fm K s₀ B L s l ob) (ht : IsTup s.heap t items) (hf : (items.size : Int) < 2 ^ 63)
    (h : ∀ u s', Fm K s₀ B L s' l ob → Q (.int items.size u) s') : wpAny (model prog w) A (call (.builtin "len") [.ref t]) Q E s := PyProof.Rows.len_tuple ht hf (h _ _ (F.gr Gr.tk))
theorem b_len_list {t : Addr} {items : Array Value} (F : Fm K s₀ B L s l ob) (ht : s.heap.IsList t items) (hf : (items.size : Int) < 2 ^ 63)
    (h : ∀ u s', Fm K s₀ B L s' l ob → Q (.int items.size u) s') : wpAny (model prog w) A (call (.builtin "len") [.ref t]) Q E s := PyProof.Rows.len_list ht hf (h _ _ (F.gr Gr.tk))
theorem b_max {a b : Int} {t u : Tok} (F : Fm K s₀ B L s l ob) (hh : A.handled = none)
    (h : ∀ t' s', Fm K s₀ B L s' l ob → Q (.int (max a b) t') s') : wpAny (model prog w) A (call (.builtin "max") [.int a t, .int b u]) Q E s :=
  max_two_ints hh fun h' tk hk => by
    split
    · rename_i c; have := h u _ (F.gr (Gr.mk' (tk := tk) hk)); rwa [Int.max_eq_right (Int.le_of_lt c)] at this
    · rename_i c; have := h t _ (F.gr (Gr.mk' (tk := tk) hk)); rwa [Int.max_eq_left (by lia)] at this
theorem o_sub {a b : Int} {t u : Tok} (F : Fm K s₀ B L s l ob) (h : ∀ t' s', Fm K s₀ B L s' l ob → Q (.int (a - b) t') s') : wpAny (model prog w) A (binaryOp .Sub (.int a t) (.int b u)) Q E s := PyProof.Rows.sub_int (h _ _ (F.gr Gr.tk))
theorem o_add {a b : Int} {t u : Tok} (F : Fm K s₀ B L s l ob) (h : ∀ t' s', Fm K s₀ B L s' l ob → Q (.int (a + b) t') s') : wpAny (model prog w) A (binaryOp .Add (.int a t) (.int b u)) Q E s := PyProof.Rows.add_int (h _ _ (F.gr Gr.tk))
theorem e_int {i : Int} {k : Nat} {pos : Pos} (F : Fm K s₀ B L s l ob) (h : ∀ t s', Fm K s₀ B L s' l ob → Q (.int i t) s') : wpAny (model prog w) A (eval (.Constant (.int i) k pos) env) Q E s := wpAny_Constant_int (h _ _ (F.gr Gr.tk))
theorem e_str {i : Str} {k : Nat} {pos : Pos} (F : Fm K s₀ B L s l ob) (h : ∀ t s', Fm K s₀ B L s' l ob → Q (.str i t) s') : wpAny (model prog w) A (eval (.Constant (.str i) k pos) env) Q E s := wpAny_Constant_str (h _ _ (F.gr Gr.tk))
end

theorem bb_len : bootBuiltins "len" = some (.builtin "len") := by decide +kernel
theorem bb_max : bootBuiltins "max" = some (.builtin "max") := by decide +kernel
theorem bb_sum : bootBuiltins "sum" = some (.builtin "sum") := by decide +kernel
theorem bb_abs : bootBuiltins "abs" = some (.builtin "abs") := by decide +kernel
theorem bb_isi : bootBuiltins "isinstance" = some (.builtin "isinstance") := by decide +kernel
theorem bb_sorted : bootBuiltins "sorted" = some (.builtin "sorted") := by decide +kernel
theorem bb_range : bootBuiltins "range" = some (.type "range") := by decide +kernel
theorem bb_tuple : bootBuiltins "tuple" = some (.type "tuple") := by decide +kernel
theorem bb_bool : bootBuiltins "bool" = some (.type "bool") := by decide +kernel

structure Lead where
  n : Int
  nt : Int
  b : Int
  cnt : List Int

/-- a lead lies at a -/
structure LeadAt (C : Addr) (h : Heap) (a : Addr) (d : Lead) : Prop where
  is : ∃ dx es ep tn tc u1 u2 u3 vs, h.get? a = some (instObj C dx) ∧ h.get? dx = some (dictOf es ep) ∧
    getL "n" es = some (some (.int d.n u1)) ∧ getL "nt" es = some (some (.int d.nt u2)) ∧ getL "norm" es = some (some (.ref tn)) ∧ getL "is_simple" es = some (some (.bool (decide (d.cnt.length ≤ 1)))) ∧
    getL "longest_run_of_spaces" es = some none ∧ getL "indent_level" es = some none ∧ getL "less" es = some none ∧
    IsTup h tn #[.ref tc, .int d.b u3] ∧ IsTup h tc vs ∧ IntsAre vs.toList d.cnt
  sz : d.cnt.length < 900 ∧ 0 ≤ d.b ∧ d.b < 900
theorem LeadAt.kp {C : Addr} {h h' : Heap} {a : Addr} {d : Lead} (H : LeadAt C h a d) (k : Kp h h') : LeadAt C h' a d := by
  obtain ⟨⟨dx, es, ep, tn, tc, u1, u2, u3, vs, h1, h2, g1, g2, g3, g4, g5, g6, g7, t1, t2, i⟩, z⟩ := H
  exact ⟨⟨dx, es, ep, tn, tc, u1, u2, u3, vs, k _ _ h1, k _ _ h2, g1, g2, g3, g4, g5, g6, g7, t1.keeps k, t2.keeps k, i⟩, z⟩

/-- what the written part says of the class of leads -/
structure LeadK (K : Frag) (C fl fi fs : Addr) : Prop where
  hh : hasDictIn K C = true
  g1 : plainGet K C "n" = true
  a1 : findIn K (.ref C) "n" = some none
  a2 : findIn K (.ref C) "nt" = some none
  a3 : findIn K (.ref C) "norm" = some none
  a4 : findIn K (.ref C) "is_simple" = some none
  a5 : findIn K (.ref C) "longest_run_of_spaces" = some (some (.ref fl))
  a6 : findIn K (.ref C) "indent_level" = some (some (.ref fi))
  a7 : findIn K (.ref C) "less" = some (some (.ref fs))
  t5 : typeIn K (.ref fl) = some (.type "function")
  t6 : typeIn K (.ref fi) = some (.type "function")
  t7 : typeIn K (.ref fs) = some (.type "function")

section
variable {prog : Program} {w : World} {A : Around} {E : Value → Shared → Prop} {s₀ s : Shared} {env : Env} {K : Frag} {B : Heap} {L : Addr} {l : List (Str × Value)} {ob : List (Addr × Obj)} {C fl fi fs a : Addr} {d : Lead} {Q : Value → Shared → Prop} {ex : Bool}
theorem ga_n (LK : LeadK K C fl fi fs) (F : Fm K s₀ B L s l ob) (H : LeadAt C B a d) (h : ∀ t s', Fm K s₀ B L s' l ob → Q (.int d.n t) s') : wpAny (model prog w) A (getAttr (.ref a) "n" ex) Q E s := by
  obtain ⟨⟨dx, es, ep, tn, tc, u1, u2, u3, vs, h1, h2, g1, g2, g3, g4, g5, g6, g7, t1, t2, i⟩, z⟩ := H
  exact get_value F.gdh.k ⟨F.kp _ _ h1, rfl, rfl, F.kp _ _ h2⟩ (plainGet_of LK.g1).1 (findObj_own (od := dictOf es ep) LK.hh LK.a1 rfl g1) rfl (h _ _ (F.gr Gr.tk))
theorem ga_nt (LK : LeadK K C fl fi fs) (F : Fm K s₀ B L s l ob) (H : LeadAt C B a d) (h : ∀ t s', Fm K s₀ B L s' l ob → Q (.int d.nt t) s') : wpAny (model prog w) A (getAttr (.ref a) "nt" ex) Q E s := by
  obtain ⟨⟨dx, es, ep, tn, tc, u1, u2, u3, vs, h1, h2, g1, g2, g3, g4, g5, g6, g7, t1, t2, i⟩, z⟩ := H
  exact get_value F.gdh.k ⟨F.kp _ _ h1, rfl, rfl, F.kp _ _ h2⟩ (plainGet_of LK.g1).1 (findObj_own (od := dictOf es ep) LK.hh LK.a2 rfl g2) rfl (h _ _ (F.gr Gr.tk))
theorem ga_simple (LK : LeadK K C fl fi fs) (F : Fm K s₀ B L s l ob) (H : LeadAt C B a d) (h : ∀ s', Fm K s₀ B L s' l ob → Q (.bool (decide (d.cnt.length ≤ 1))) s') : wpAny (model prog w) A (getAttr (.ref a) "is_simple" ex) Q E s := by
  obtain ⟨⟨dx, es, ep, tn, tc, u1, u2, u3, vs, h1, h2, g1, g2, g3, g4, g5, g6, g7, t1, t2, i⟩, z⟩ := H
  exact get_value F.gdh.k ⟨F.kp _ _ h1, rfl, rfl, F.kp _ _ h2⟩ (plainGet_of LK.g1).1 (findObj_own (od := dictOf es ep) LK.hh LK.a4 rfl g4) rfl (h _ (F.gr Gr.tk))
theorem ga_norm (LK : LeadK K C fl fi fs) (F : Fm K s₀ B L s l ob) (H : LeadAt C B a d)
    (h : ∀ tn tc u vs s', IsTup B tn #[.ref tc, .int d.b u] → IsTup B tc vs → IntsAre vs.toList d.cnt → Fm K s₀ B L s' l ob → Q (.ref tn) s') : wpAny (model prog w) A (getAttr (.ref a) "norm" ex) Q E s := by
  obtain ⟨⟨dx, es, ep, tn, tc, u1, u2, u3, vs, h1, h2, g1, g2, g3, g4, g5, g6, g7, t1, t2, i⟩, z⟩ := H
  exact get_value F.gdh.k ⟨F.kp _ _ h1, rfl, rfl, F.kp _ _ h2⟩ (plainGet_of LK.g1).1 (findObj_own (od := dictOf es ep) LK.hh LK.a3 rfl g3) rfl (h _ _ _ _ _ t1 t2 i (F.gr Gr.tk))
theorem gm_lead {name : Str} {f : Addr} {pl : Sem Bool} {Q : Value × List Value → Shared → Prop} (LK : LeadK K C fl fi fs) (G : Gd K s.heap) (H : LeadAt C s.heap a d)
    (hc : (name = "longest_run_of_spaces" ∧ f = fl) ∨ (name = "indent_level" ∧ f = fi) ∨ (name = "less" ∧ f = fs)) (h : Q (.ref f, [.ref a]) s) :
    wpAny (model prog w) A (getMethod (.ref a) name pl) Q E s := by
  obtain ⟨⟨dx, es, ep, tn, tc, u1, u2, u3, vs, h1, h2, g1, g2, g3, g4, g5, g6, g7, t1, t2, i⟩, z⟩ := H
  have I : InstAt s.heap a (instObj C dx) C (some (dictOf es ep)) := ⟨h1, rfl, rfl, h2⟩
  rcases hc with ⟨rfl, rfl⟩ | ⟨rfl, rfl⟩ | ⟨rfl, rfl⟩
  · exact method_fn G.k I (plainGet_of LK.g1).1 (plainGet_of LK.g1).2 LK.a5 LK.t5 (by show (lookIn _ (dictOf es ep)).map _ = _; rw [lookIn_dict, g5]; rfl) h
  · exact method_fn G.k I (plainGet_of LK.g1).1 (plainGet_of LK.g1).2 LK.a6 LK.t6 (by show (lookIn _ (dictOf es ep)).map _ = _; rw [lookIn_dict, g6]; rfl) h
  · exact method_fn G.k I (plainGet_of LK.g1).1 (plainGet_of LK.g1).2 LK.a7 LK.t7 (by show (lookIn _ (dictOf es ep)).map _ = _; rw [lookIn_dict, g7]; rfl) h
end

section
variable {prog : Program} {w : World} {A : Around} {E : Value → Shared → Prop} {s : Shared} {env : Env} {K : Frag} {Q : Value → Shared → Prop}
theorem e_meth {o : Expr} {name : Str} {apos pos : Pos} {args : List Expr}
    (h : wpAny (model prog w) A (eval o env) (fun ov s₁ => wpAny (model prog w) A (getMethod ov name (do return (← importBound o env).getD true)) (fun fp s₂ =>
      wpAny (model prog w) A (callWith pos fp.1 fp.2 (backTo pos (starEach args env)) []) Q E s₂) E s₁) E s)
    (hb : attributeBase o name env (eval o env) = eval o env) (hf : methodCallForm (args.length + 0) (backTo pos (starEach args env)) [] = true) (hp : (apos.endLine == pos.line) = true) :
    wpAny (model prog w) A (eval (.Call (.Attribute o name apos) args [] pos) env) Q E s := by
  show wpAny _ _ (do
    let ov ← attributeBase o name env (eval o env)
    standAt apos.atName
    methodCall o name apos pos env ov (args.length + 0) (backTo pos (starEach args env)) []) _ _ _
  rw [hb]
  refine wpAny_bind (wpAny_mono h (fun ov s₁ h₁ => wpAny_bind (wpAny_standAt ?_)) fun _ _ x => x)
  unfold methodCall
  rw [hf]
  refine wpAny_bind (wpAny_holding (wpAny_mono h₁ (fun fp s₂ h₂ => ?_) fun _ _ x => x))
  obtain ⟨f, first⟩ := fp
  refine wpAny_bind ?_
  unfold methodCallPos
  simp only [hp, Bool.not_true, Bool.or_true, if_true]
  exact wpAny_pure h₂
theorem cw_K0 {pos : Pos} {f : Value} {first : List Value} (hk : keepIn K f = true) (G : Gd K s.heap) (h : wpAny (model prog w) A (call f first) Q E s) :
    wpAny (model prog w) A (callWith pos f first (backTo pos (starEach [] env)) []) Q E s :=
  callWith_K0 (K := K) G.k hk (by simpa using h)
theorem cw_K1 {pos : Pos} {f : Value} {first : List Value} {e1 : Expr} (hk : keepIn K f = true)
    (h : wpAny (model prog w) A (eval e1 env) (fun v s₁ => Gd K s₁.heap ∧ wpAny (model prog w) A (call f (first ++ [v])) Q E s₁) E s)
    (he : starEach [e1] env = [(false, eval e1 env)]) : wpAny (model prog w) A (callWith pos f first (backTo pos (starEach [e1] env)) []) Q E s := by
  rw [he]
  exact callWith_of (P := K.In) rfl (keeps_K hk) (evalArgs_plain (spliced_cons (wpAny_mono h (fun _ _ h₁ => spliced_nil ⟨h₁.1.k, h₁.2⟩) fun _ _ x => x)))
theorem cw_K2 {pos : Pos} {f : Value} {first : List Value} {e1 e2 : Expr} (hk : keepIn K f = true)
    (h : wpAny (model prog w) A (eval e1 env) (fun v s₁ => wpAny (model prog w) A (eval e2 env) (fun v2 s₂ => Gd K s₂.heap ∧ wpAny (model prog w) A (call f (first ++ [v, v2])) Q E s₂) E s₁) E s)
    (he : starEach [e1, e2] env = [(false, eval e1 env), (false, eval e2 env)]) : wpAny (model prog w) A (callWith pos f first (backTo pos (starEach [e1, e2] env)) []) Q E s := by
  rw [he]
  exact callWith_of (P := K.In) rfl (keeps_K hk) (evalArgs_plain (spliced_cons (wpAny_mono h (fun _ _ h₁ => spliced_cons (wpAny_mono h₁ (fun _ _ h₂ => spliced_nil ⟨h₂.1.k, h₂.2⟩) fun _ _ x => x)) fun _ _ x => x)))
theorem cw_M0 {pos : Pos} {f x : Value} (hk : keepIn K f = true) (G : Gd K s.heap) (h : wpAny (model prog w) A (call f [x]) Q E s) :
    wpAny (model prog w) A (callWith pos f [x] (backTo pos (starEach [] env)) []) Q E s := cw_K0 hk G h
theorem cw_F1 {pos : Pos} {f : Value} {e1 : Expr} (_G : Gd K s.heap) (hk : keepIn K f = true)
    (h : wpAny (model prog w) A (eval e1 env) (fun v s₁ => Gd K s₁.heap ∧ wpAny (model prog w) A (call f [v]) Q E s₁) E s)
    (he : starEach [e1] env = [(false, eval e1 env)]) : wpAny (model prog w) A (callWith pos f [] (backTo pos (starEach [e1] env)) []) Q E s := cw_K1 hk h he
theorem cw_M1 {pos : Pos} {f x : Value} {e1 : Expr} (_G : Gd K s.heap) (hk : keepIn K f = true)
    (h : wpAny (model prog w) A (eval e1 env) (fun v s₁ => Gd K s₁.heap ∧ wpAny (model prog w) A (call f [x, v]) Q E s₁) E s)
    (he : starEach [e1] env = [(false, eval e1 env)]) : wpAny (model prog w) A (callWith pos f [x] (backTo pos (starEach [e1] env)) []) Q E s := cw_K1 hk h he
theorem cw_F2 {pos : Pos} {f : Value} {e1 e2 : Expr} (_G : Gd K s.heap) (hk : keepIn K f = true)
    (h : wpAny (model prog w) A (eval e1 env) (fun v s₁ => wpAny (model prog w) A (eval e2 env) (fun v2 s₂ => Gd K s₂.heap ∧ wpAny (model prog w) A (call f [v, v2]) Q E s₂) E s₁) E s)
    (he : starEach [e1, e2] env = [(false, eval e1 env), (false, eval e2 env)]) : wpAny (model prog w) A (callWith pos f [] (backTo pos (starEach [e1, e2] env)) []) Q E s := cw_K2 hk h he
end

end Mine
end
section
open PySem PySem.W PyProof.Rows PySem.Calls
set_option maxRecDepth 100000
namespace Mine

/-- x may be walked: n items, the i-th as P says -/
def Iters (prog : Program) (w : World) (A : Around) (B : Heap) (s : Shared) (x : Value) (n : Nat) (P : Nat → Value → Prop) : Prop :=
  ∀ (Q : Value → Shared → Prop) (E : Value → Shared → Prop), (∀ I fp St s', Walks prog w A I fp [I] n P St → St 0 s'.heap → (∀ b ∈ fp, b = I ∨ ∃ o, B.get? b = some o) → (∀ i h, St i h → ∃ o, h.get? I = some o) → s.heap.get? I = none → Gr s s' → Q (.ref I) s') →
    wpAny (model prog w) A (pyIter x) Q E s

def LoopR (Q : Flow → Shared → Prop) : Result → Shared → Prop := fun r s' => match r with | .ok f => Q f s' | .error _ => False
def LpEnd (N : Shared → Prop) (Q : Flow → Shared → Prop) : Flow → Shared → Prop := fun f s => match f with | .next => N s | .cont => N s | .brk => Q .next s | .ret v => Q (.ret v) s

section
variable {prog : Program} {w : World} {A : Around} {E : Value → Shared → Prop} {s₀ s : Shared} {env : Env} {K : Frag} {B : Heap} {L : Addr} {l : List (Str × Value)} {ob : List (Addr × Obj)} {rest : List Stmt} {Q : Flow → Shared → Prop}

theorem lp_next {N : Shared → Prop} (h : N s) : LpEnd N Q .next s := h
theorem lp_ret {N : Shared → Prop} {v : Value} (h : Q (.ret v) s) : LpEnd N Q (.ret v) s := h

theorem s_for {target iter : Expr} {body : List Stmt} {pos : Pos}
    (h : wpAny (model prog w) A (eval iter env) (fun x s₁ => wpAny (model prog w) A (pyIter x) (fun it s₂ =>
      codeAny (model prog w) A (.forLoop target it body [] env) (LoopR (Then (model prog w) A env rest Q E)) s₂) E s₁) E s)
    (hs : ∀ x, foldedSetIterable iter env x = pure x) : wpAny (model prog w) A (execs (.For target iter body [] pos :: rest) env) Q E s :=
  s_cons (wpAny_For (wpAny_mono h (fun x s₁ h₁ => wpAny_mono h₁ (fun it s₂ h₂ => codeAny_mono h₂ fun r s' hr => by
    cases r with
    | ok f => exact hr
    | error e => exact hr.elim) fun _ _ x => x) fun _ _ x => x) hs)

/-- the ledger's row for an iterator -/
def exOf (h : Heap) (I : Addr) : List (Addr × Obj) := match h.get? I with | some o => [(I, o)] | none => []
theorem exOf_mem {h : Heap} {I : Addr} {p : Addr × Obj} (hp : p ∈ exOf h I) : p.1 = I ∧ h.get? I = some p.2 := by
  unfold exOf at hp
  split at hp
  · rename_i o e
    rcases List.mem_cons.mp hp with rfl | hp
    · exact ⟨rfl, e⟩
    · cases hp
  · cases hp

theorem Fm.addEx {I : Addr} (F : Fm K s₀ B L s l ob) (h1 : B.get? I = none) (h2 : I ≠ L) (h3 : I ∉ List.map Prod.fst ob) : Fm K s₀ B L s l (ob ++ exOf s.heap I) := by
  refine ⟨F.gd, F.ns, F.kp, F.no, fun p hp => ?_, ?_, F.sm⟩
  · rcases List.mem_append.mp hp with hp | hp
    · exact F.obs p hp
    · obtain ⟨e, o⟩ := exOf_mem hp
      exact ⟨e ▸ o, e ▸ h2, e ▸ h1⟩
  · rw [List.map_append, List.nodup_append]
    refine ⟨F.nd, ?_, fun a ha b hb e => ?_⟩
    · unfold exOf
      split <;> simp
    · obtain ⟨p, hp, rfl⟩ := List.mem_map.mp hb
      exact h3 ((exOf_mem hp).1 ▸ e ▸ ha)
theorem Fm.subEx {ex : List (Addr × Obj)} (F : Fm K s₀ B L s l (ob ++ ex)) : Fm K s₀ B L s l ob := F.drop (List.sublist_append_left _ _)
theorem Fm.notEx {I : Addr} {ob' : List (Addr × Obj)} {h : Heap} (F : Fm K s₀ B L s l (ob' ++ exOf h I)) (hI : ∃ o, h.get? I = some o) : I ∉ List.map Prod.fst ob' := by
  have nd := F.nd
  rw [List.map_append, List.nodup_append] at nd
  obtain ⟨o, ho⟩ := hI
  intro q
  exact nd.2.2 I q I (by unfold exOf; rw [ho]; simp) rfl
/-- the iterator has turned -/
theorem Fm.turn {s' : Shared} {I : Addr} (F : Fm K s₀ B L s l ob) (h1 : B.get? I = none) (h2 : I ≠ L) (h3 : I ∉ List.map Prod.fst ob)
    (k : ∀ b o, b ∉ [I] → s.heap.get? b = some o → s'.heap.get? b = some o) (hm : Sm s s') : Fm K s₀ B L s' l ob := by
  have q : ∀ {b : Addr}, b ≠ I → b ∉ [I] := fun h => by simpa using h
  exact ⟨F.gd, F.ns.keeps fun o e => k _ _ (q (Ne.symm h2)) e, fun b o e => k _ _ (q (by rintro rfl; rw [h1] at e; cases e)) (F.kp b o e), F.no,
    fun p hp => ⟨k _ _ (q fun e => h3 (e ▸ List.mem_map_of_mem hp)) (F.obs p hp).1, (F.obs p hp).2⟩, F.nd, F.sm.trans hm⟩

theorem for_iter {x : Str} {p : Pos} {body : List Stmt} {xv : Value} {n : Nat} {P : Nat → Value → Prop} (F : Fm K s₀ B L s l ob) (it : Iters prog w A B s xv n P)
    (inv : Nat → List (Str × Value) → List (Addr × Obj) → Prop) (h0 : inv 0 l ob)
    (step : ∀ i s l ob ex v, i < n → inv i l ob → P i v → Fm K s₀ B L s l (ob ++ ex) →
      wpAny (model prog w) A (storeName env x v) (fun _ s₂ => wpAny (model prog w) A (execs body env)
        (LpEnd (fun s₃ => ∃ l' ob', inv (i + 1) l' ob' ∧ Fm K s₀ B L s₃ l' (ob' ++ ex)) Q) (fun _ _ => False) s₂) (fun _ _ => False) s)
    (fin : ∀ s l ob, inv n l ob → Fm K s₀ B L s l ob → Q .next s) :
    wpAny (model prog w) A (pyIter xv) (fun it s₂ => codeAny (model prog w) A (.forLoop (.Name x p) it body [] env) (LoopR Q) s₂) E s := by
  refine it _ _ fun I fp St s₁ W st hfp hal hI g => ?_
  have F₁ := F.gr g
  have hB : B.get? I = none := Kp.none F.kp hI
  have hL : I ≠ L := by
    rintro rfl
    obtain ⟨o, ho⟩ := F.ns.get
    rw [ho] at hI; cases hI
  have hob : I ∉ List.map Prod.fst ob := fun q => by
    obtain ⟨p, hp, e⟩ := List.mem_map.mp q
    have := (F.obs p hp).1
    rw [show p.1 = I from e, hI] at this; cases this
  refine codeAny_forLoop (fun m s => ∃ i l ob, m = n - i ∧ i ≤ n ∧ inv i l ob ∧ Fm K s₀ B L s l ob ∧ St i s.heap ∧ I ∉ List.map Prod.fst ob) (fun m s hm => ?_) n ⟨0, l, ob, by simp, Nat.zero_le _, h0, F₁, st, hob⟩
  obtain ⟨i, l, ob, rfl, hi, hinv, F, st, hob⟩ := hm
  rcases Nat.lt_or_ge i n with hlt | hge
  · refine W.item i s _ _ hlt st fun v h' tk hP st' hk => ?_
    have F' : Fm K s₀ B L { s with heap := h', toks := tk } l ob := F.turn hB hL hob hk Sm.mk'
    have F'' := F'.addEx hB hL hob
    refine wpAny_assign_Name (wpAny_mono (step i _ l ob _ v hlt hinv hP F'') (fun _ s₂ h₂ => wpAny_mono h₂ (fun f s₃ h₃ => ?_) fun _ _ z => z.elim) fun _ _ z => z.elim)
    have nxt : (∃ l' ob', inv (i + 1) l' ob' ∧ Fm K s₀ B L s₃ l' (ob' ++ exOf h' I)) → ∃ m, m < n - i ∧ ∃ i l ob, m = n - i ∧ i ≤ n ∧ inv i l ob ∧ Fm K s₀ B L s₃ l ob ∧ St i s₃.heap ∧ I ∉ List.map Prod.fst ob := by
      rintro ⟨l', ob', hin, F3⟩
      have fr : St (i + 1) s₃.heap := W.frame (i + 1) h' s₃.heap st' fun b hb o e => by
        rcases hfp b hb with rfl | ⟨o', ho'⟩
        · exact F3.get (List.mem_append_right _ (by unfold exOf; rw [e]; exact .head _))
        · have := F''.kp b o' ho'
          rw [show ({ s with heap := h', toks := tk } : Shared).heap = h' from rfl, e] at this
          cases this
          exact F3.kp b o ho'
      exact ⟨n - (i + 1), by omega, i + 1, l', ob', rfl, hlt, hin, F3.subEx, fr, F3.notEx (hal _ _ st')⟩
    cases f with
    | next => exact nxt h₃
    | cont => exact nxt h₃
    | brk => exact h₃
    | ret v => exact h₃
  · have e : i = n := Nat.le_antisymm hi hge
    subst e
    refine W.done s _ _ st fun h' tk hk => ?_
    exact wpAny_execs_nil (fin _ l ob hinv (F.turn hB hL hob hk Sm.mk'))

theorem it_list {B : Heap} {a : Addr} {items : Array Value} (hh : A.handled = none) (k : Kp B s.heap) (h : B.IsList a items) : Iters prog w A B s (.ref a) items.size (fun i v => items[i]? = some v) := by
  intro Q E hQ
  have hl : s.heap.IsList a items := let ⟨o, ho, r⟩ := h; ⟨o, k _ _ ho, r⟩
  have ha : a < s.heap.objs.size := let ⟨o, ho, _⟩ := hl; Heap.lt_size ho
  refine wpAny_pyIter_list hl (hQ s.heap.objs.size [s.heap.objs.size, a] (fun i h => h.IsListIter s.heap.objs.size a i ∧ h.IsList a items) _ (Walks.list hh _ a (Nat.ne_of_lt ha) items) ⟨⟨_, Heap.get?_push_size _ rfl, rfl, rfl⟩, hl.push _⟩ (fun b hb => ?_) (fun i h st => let ⟨o, ho, _⟩ := st.1; ⟨o, ho⟩) (get_none_of_le (Nat.le_refl _)) ⟨⟨rfl, rfl, rfl⟩, Kp.push _⟩)
  rcases List.mem_cons.mp hb with e | hb
  · exact .inl e
  · exact .inr (by rw [List.mem_singleton.mp hb]; let ⟨o, ho, _⟩ := h; exact ⟨o, ho⟩)
theorem it_str {B : Heap} {x : Str} {t : Tok} (hh : A.handled = none) : Iters prog w A B s (.str x t) x.cps.size (SignAt x) := by
  intro Q E hQ
  cases ha : x.cps.all (· < 128)
  · exact wpAny_pyIter_wide ha (hQ _ _ _ _ (Walks.strWide hh _ x t) ⟨_, Heap.get?_push_size _ rfl, rfl, rfl⟩ (fun b hb => .inl (List.mem_singleton.mp hb)) (fun i h st => let ⟨o, ho, _⟩ := st; ⟨o, ho⟩) (get_none_of_le (Nat.le_refl _)) ⟨⟨rfl, rfl, rfl⟩, Kp.push _⟩)
  · exact wpAny_pyIter_ascii ha (hQ _ _ _ _ (Walks.strAscii hh _ x t) ⟨_, Heap.get?_push_size _ rfl, rfl, rfl⟩ (fun b hb => .inl (List.mem_singleton.mp hb)) (fun i h st => let ⟨o, ho, _⟩ := st; ⟨o, ho⟩) (get_none_of_le (Nat.le_refl _)) ⟨⟨rfl, rfl, rfl⟩, Kp.push _⟩)
theorem it_range {B : Heap} {r : Addr} {a b c : Int} {t u v : Tok} {n : Nat} (hh : A.handled = none) (hr : IsRange s.heap r a b c t u v) (hsm : Builtin.Range.small a b c = true) (hn : Builtin.Range.rangeSize a b c = n) :
    Iters prog w A B s (.ref r) n (fun i v => ∃ t, v = .int (a + i * c) t) := by
  intro Q E hQ
  refine wpAny_pyIter_range hr hsm (hQ s.heap.objs.size _ _ _ (Walks.range hh _ a c n) ?_ (fun b hb => .inl (List.mem_singleton.mp hb)) (fun i h st => ⟨_, st⟩) (get_none_of_le (Nat.le_refl _)) ⟨⟨rfl, rfl, rfl⟩, Kp.push _⟩)
  have e1 : (a + ((0 : Nat) : Int) * c) = a := by simp
  have e2 : ((n : Int) - ((0 : Nat) : Int)) = Builtin.Range.rangeSize a b c := by rw [hn]; simp
  show IsRangeIter _ _ (a + ((0 : Nat) : Int) * c) ((n : Int) - ((0 : Nat) : Int)) c
  rw [e1, e2]
  exact Heap.get?_push_size _ rfl
end

section
variable {prog : Program} {w : World} {A : Around} {E : Value → Shared → Prop} {s₀ s : Shared} {K : Frag} {B : Heap} {L : Addr} {l : List (Str × Value)} {ob : List (Addr × Obj)} {Q : Value → Shared → Prop}
/-- range(..) that is walked at once -/
theorem b_range1 {n : Int} {t : Tok} (hh : A.handled = none) (F : Fm K s₀ B L s l ob) (h1 : -(2 ^ 62) ≤ n) (h2 : n < 2 ^ 62)
    (h : ∀ r s', Fm K s₀ B L s' l ob → (∀ B', Iters prog w A B' s' (.ref r) n.toNat (fun i v => ∃ t, v = .int i t)) → Q (.ref r) s') : wpAny (model prog w) A (call (.type "range") [.int n t]) Q E s := by
  refine call_range_1 (h _ _ (F.gr ⟨⟨rfl, rfl, rfl⟩, Kp.push _⟩) fun B' => ?_)
  have := it_range (prog := prog) (w := w) (A := A) (B := B') (s := { s with heap := s.heap.push { cls := .type "range", data := .fields #[.int 0 s.toks, .int n t, .int 1 (s.toks + 1)] }, toks := s.toks + 1 + 1 }) (n := n.toNat) hh (IsRange.new _ _ _ _ _ _ _)
    (small_one (by lia) (by lia) h1 h2) (by rw [rangeSize_one]; split <;> lia)
  simpa using this
theorem b_range2 {m n : Int} {t u : Tok} (hh : A.handled = none) (F : Fm K s₀ B L s l ob) (h1 : -(2 ^ 62) ≤ n) (h2 : n < 2 ^ 62) (h3 : -(2 ^ 62) ≤ m) (h4 : m < 2 ^ 62)
    (h : ∀ r s', Fm K s₀ B L s' l ob → (∀ B', Iters prog w A B' s' (.ref r) (n - m).toNat (fun i v => ∃ t, v = .int (m + i) t)) → Q (.ref r) s') : wpAny (model prog w) A (call (.type "range") [.int m t, .int n u]) Q E s := by
  refine call_range_2 (h _ _ (F.gr ⟨⟨rfl, rfl, rfl⟩, Kp.push _⟩) fun B' => ?_)
  have := it_range (prog := prog) (w := w) (A := A) (B := B') (s := { s with heap := s.heap.push { cls := .type "range", data := .fields #[.int m t, .int n u, .int 1 s.toks] }, toks := s.toks + 1 }) (n := (n - m).toNat) hh (IsRange.new _ _ _ _ _ _ _)
    (small_one h3 h4 h1 h2) (by rw [rangeSize_one]; split <;> lia)
  simpa using this
end
end Mine
end
section
open PySem PySem.W PyProof.Rows PySem.Calls
set_option maxRecDepth 100000
namespace Mine
section
variable {prog : Program} {w : World} {A : Around} {E : Value → Shared → Prop} {s₀ s : Shared} {env : Env} {K : Frag} {B : Heap} {L : Addr} {l : List (Str × Value)} {ob : List (Addr × Obj)} {Q : Value → Shared → Prop} {a b : Int} {t u : Tok}
theorem o_mul (F : Fm K s₀ B L s l ob) (hm : IntMulOk a b) (h : ∀ t' s', Fm K s₀ B L s' l ob → Q (.int (a * b) t') s') : wpAny (model prog w) A (binaryOp .Mult (.int a t) (.int b u)) Q E s :=
  PyProof.Rows.mul_int (h _ _ (F.gr Gr.tk)) hm
theorem mul_ok (ha : -(2 ^ 62) ≤ a) (hb : a < 2 ^ 62) : IntMulOk a b := IntMulOk.of_left (intBits_le_64 (by lia) (by lia))
theorem o_mod (F : Fm K s₀ B L s l ob) (hb : 0 < b) (h : ∀ t' s', Fm K s₀ B L s' l ob → Q (.int (a % b) t') s') : wpAny (model prog w) A (binaryOp .Mod (.int a t) (.int b u)) Q E s := by
  refine PyProof.Rows.mod_int (by lia) ?_
  rw [Int.fmod_eq_emod_of_nonneg _ (by lia)]
  exact h _ _ (F.gr Gr.tk)
theorem o_div (F : Fm K s₀ B L s l ob) (hb : 0 < b) (hp : Builtin.divisionGoesByPylong a b = false) (h : ∀ t' s', Fm K s₀ B L s' l ob → Q (.int (a / b) t') s') : wpAny (model prog w) A (binaryOp .FloorDiv (.int a t) (.int b u)) Q E s := by
  refine PyProof.Rows.floordiv_int (by lia) ?_ (.inl hp)
  rw [Int.fdiv_eq_ediv_of_nonneg _ (by lia)]
  exact h _ _ (F.gr Gr.tk)
theorem o_pow (F : Fm K s₀ B L s l ob) (hn : 0 ≤ b) (hsz : (Builtin.Int.intBits a : Int) * b ≤ 2 ^ 27) (h : ∀ t' s', Fm K s₀ B L s' l ob → Q (.int (a ^ b.toNat) t') s') : wpAny (model prog w) A (binaryOp .Pow (.int a t) (.int b u)) Q E s :=
  PyProof.Rows.pow_int hn hsz (h _ _ (F.gr Gr.tk))
theorem o_neg (F : Fm K s₀ B L s l ob) (h : ∀ t' s', Fm K s₀ B L s' l ob → Q (.int (-a) t') s') : wpAny (model prog w) A (unaryOp .USub (.int a t)) Q E s := PyProof.Rows.neg_int (h _ _ (F.gr Gr.tk))
theorem c_eq (h : Q (.bool (decide (a = b))) s) : wpAny (model prog w) A (compareOp .Eq (.int a t) (.int b u)) Q E s := PyProof.Rows.eq_int (by
  have e : (a == b) = decide (a = b) := by by_cases q : a = b <;> simp [q]
  rw [e]; exact h)
theorem c_lt (h : Q (.bool (decide (a < b))) s) : wpAny (model prog w) A (compareOp .Lt (.int a t) (.int b u)) Q E s := PyProof.Rows.lt_int h
theorem c_le (h : Q (.bool (decide (a ≤ b))) s) : wpAny (model prog w) A (compareOp .LtE (.int a t) (.int b u)) Q E s := PyProof.Rows.le_int h
theorem c_gt (h : Q (.bool (decide (b < a))) s) : wpAny (model prog w) A (compareOp .Gt (.int a t) (.int b u)) Q E s := PyProof.Rows.gt_int h
theorem c_ge (h : Q (.bool (decide (b ≤ a))) s) : wpAny (model prog w) A (compareOp .GtE (.int a t) (.int b u)) Q E s := PyProof.Rows.ge_int h
theorem c_is_none {v : Value} (hp : plainIs v .none = true) (h : Q (.bool (v == .none)) s) : wpAny (model prog w) A (compareOp .Is v .none) Q E s := wpAny_is_plain hp h
theorem c_eqs {x y : Str} (h : Q (.bool (decide (x = y))) s) : wpAny (model prog w) A (compareOp .Eq (.str x t) (.str y u)) Q E s := PyProof.Rows.eq_str (by
  have e : (x == y) = decide (x = y) := by by_cases q : x = y <;> simp [q]
  rw [e]; exact h)
theorem e_none {k : Nat} {pos : Pos} (h : Q .none s) : wpAny (model prog w) A (eval (.Constant .none k pos) env) Q E s := wpAny_Constant_none h
theorem e_bool {x : Bool} {k : Nat} {pos : Pos} (h : Q (.bool x) s) : wpAny (model prog w) A (eval (.Constant (.bool x) k pos) env) Q E s := fun _ _ _ => h
theorem e_ifexp {test body orelse : Expr} {pos : Pos}
    (h : wpAny (model prog w) A (isTrue test env (eval test env)) (fun b s₁ => if b = true then wpAny (model prog w) A (eval body env) Q E s₁ else wpAny (model prog w) A (eval orelse env) Q E s₁) E s) :
    wpAny (model prog w) A (eval (.IfExp test body orelse pos) env) Q E s := wpAny_IfExp (wpAny_mono h (fun b s₁ x => by cases b <;> exact x) fun _ _ x => x)
/-- an item of a tuple or list -/
theorem sub_tup {value slice : Expr} {T : Addr} {vs : List Value} {k : Int} {x : Value} (ht : IsTup s.heap T vs.toArray) (h0 : 0 ≤ k) (h1 : k < 2 ^ 62) (hx : vs[k.toNat]? = some x) (h : Q x s)
    (hs : subscripted slice false (.ref T) (.int k u) = operate [.ref T, .int k u] (getItem (.ref T) (.int k u))) : wpAny (model prog w) A (subscriptTail value slice (.ref T) (.int k u)) Q E s := by
  refine item_tupleT ht (by lia) (by lia) (j := k.toNat) ?_ hx h hs
  have hlt : k.toNat < vs.length := by
    rw [List.getElem?_eq_some_iff] at hx
    exact hx.1
  have hk : ¬ k < 0 := by lia
  have hk2 : (decide (0 ≤ k) && decide (k < (vs.length : Int))) = true := by simp; lia
  simp only [seqIndex?, hk, if_false, hk2, if_true]
theorem sub_list {value slice : Expr} {T : Addr} {vs : Array Value} {k : Int} {x : Value} (ht : s.heap.IsList T vs) (h0 : 0 ≤ k) (h1 : k < 2 ^ 62) (hx : vs[k.toNat]? = some x) (h : Q x s)
    (hs : subscripted slice false (.ref T) (.int k u) = operate [.ref T, .int k u] (getItem (.ref T) (.int k u))) : wpAny (model prog w) A (subscriptTail value slice (.ref T) (.int k u)) Q E s :=
  tail_any ht.typeIs slot_list_getitem.lookup (wpAny_getItem_list ht h0 (by lia) hx h) hs
end
section
variable {prog : Program} {w : World} {A : Around} {E : Value → Shared → Prop} {s₀ s : Shared} {env : Env} {Q : Bool → Shared → Prop}
theorem t_and {x y : Expr} {pos : Pos} {whole : Sem Value}
    (h : wpAny (model prog w) A (isTrue x env (eval x env)) (fun b s₁ => if b = true then wpAny (model prog w) A (isTrue y env (eval y env)) Q E s₁ else Q false s₁) E s) :
    wpAny (model prog w) A (isTrue (.BoolOp .And [x, y] pos) env whole) Q E s := by
  refine wpAny_isTrue_BoolOp (wpAny_allTrue_And_cons (wpAny_mono h (fun b s₁ hb => ?_) fun _ _ x => x))
  cases b
  · exact hb
  · exact wpAny_allTrue_And_cons (wpAny_mono hb (fun b s₂ hb => by
      cases b
      · exact hb
      · exact wpAny_allTrue_And_nil hb) fun _ _ x => x)
theorem t_not {x : Expr} {pos : Pos} {whole : Sem Value} (h : wpAny (model prog w) A (isTrue x env (eval x env)) (fun c s' => Q (!c) s') E s) :
    wpAny (model prog w) A (isTrue (.UnaryOp .Not x pos) env whole) Q E s := isTrue_not h
theorem cutB {K : Frag} {B : Heap} {L : Addr} {l : List (Str × Value)} {ob : List (Addr × Obj)} {t : Sem Bool} (_F : Fm K s₀ B L s l ob) (c : Prop) [Decidable c] (h1 : wpAny (model prog w) A t (fun b s' => b = decide c ∧ Fm K s₀ B L s' l ob) E s)
    (h2 : ∀ s', Fm K s₀ B L s' l ob → Q (decide c) s') : wpAny (model prog w) A t Q E s := wpAny_mono h1 (fun b s' ⟨e, F⟩ => by subst e; exact h2 s' F) fun _ _ x => x
end
end Mine
end
section
open PySem PySem.W PyProof.Rows PySem.Calls
set_option maxRecDepth 100000
namespace Mine

abbrev lsO (vs : List Value) (n : Nat) : Obj := listOf vs.toArray n
inductive UpO (a : Addr) (o o' : Obj) : Ob → Ob → Prop
  | head (r : Ob) : UpO a o o' ((a, o) :: r) ((a, o') :: r)
  | tail (p : Addr × Obj) {r r' : Ob} : UpO a o o' r r' → UpO a o o' (p :: r) (p :: r')
theorem UpO.split {a : Addr} {o o' : Obj} : ∀ {l l' : Ob}, UpO a o o' l l' → ∃ pre post, l = pre ++ (a, o) :: post ∧ l' = pre ++ (a, o') :: post
  | _, _, .head r => ⟨[], r, rfl, rfl⟩
  | _, _, .tail p r => let ⟨pre, post, a, b⟩ := r.split; ⟨p :: pre, post, by rw [a]; rfl, by rw [b]; rfl⟩

section
variable {K : Frag} {s₀ s s' : Shared} {B B' : Heap} {L : Addr} {l : List (Str × Value)} {ob ob' : List (Addr × Obj)}
theorem Fm.up {a : Addr} {o o' : Obj} (F : Fm K s₀ B L s l ob) (U : UpO a o o' ob ob') (hs : Heap.SameBut a s.heap s'.heap) (ha : s'.heap.get? a = some o') (hm : Sm s s') : Fm K s₀ B L s' l ob' := by
  obtain ⟨pre, post, rfl, rfl⟩ := U.split
  exact F.upd hs ha hm
theorem UpO.mem {a : Addr} {o o' : Obj} (U : UpO a o o' ob ob') : (a, o) ∈ ob := by
  obtain ⟨pre, post, rfl, rfl⟩ := U.split
  simp
/-- a callee has turned one thing -/
theorem Fm.upH {a : Addr} {o o' : Obj} (F : Fm K s₀ B L s l ob) (U : UpO a o o' ob ob') (hk : Kp (s.heap.hide a) s'.heap) (ha : s'.heap.get? a = some o') (hm : Sm s s') : Fm K s₀ B L s' l ob' := by
  obtain ⟨pre, post, rfl, rfl⟩ := U.split
  have D := F.obs (a, o) (by simp)
  have nd := F.nd
  have k : ∀ b o, b ≠ a → s.heap.get? b = some o → s'.heap.get? b = some o := fun b o hb e => hk b o ((Heap.hide_ne _ hb).trans e)
  refine ⟨F.gd, F.ns.keeps fun o e => k _ _ (Ne.symm D.2.1) e, fun b x q => k _ _ (fun z => ?_) (F.kp b x q), F.no, fun p hp => ?_, by simpa using nd, F.sm.trans hm⟩
  · have := D.2.2; rw [← z, q] at this; cases this
  · rcases List.mem_append.mp hp with q | q
    · have P := F.obs p (List.mem_append_left _ q)
      refine ⟨k _ _ (fun e => ?_) P.1, P.2⟩
      rw [List.map_append, List.map_cons, List.nodup_append] at nd
      exact nd.2.2 p.1 (List.mem_map_of_mem q) a (.head _) e
    · rcases List.mem_cons.mp q with rfl | q
      · exact ⟨ha, D.2⟩
      · have P := F.obs p (List.mem_append_right _ (.tail _ q))
        refine ⟨k _ _ (fun e => ?_) P.1, P.2⟩
        rw [List.map_append, List.map_cons, List.nodup_append, List.nodup_cons] at nd
        exact nd.2.1.1 (e ▸ (List.mem_map_of_mem q : p.1 ∈ List.map Prod.fst post))
theorem Fm.kpHide {a : Addr} {o : Obj} (F : Fm K s₀ B L s l ob) (hm : (a, o) ∈ ob) : Kp B (s.heap.hide a) := fun b x e =>
  (Heap.hide_ne _ (fun q => by have := (F.obs _ hm).2.2; rw [← q, e] at this; cases this)).trans (F.kp b x e)
end

section
variable {prog : Program} {w : World} {A : Around} {E : Value → Shared → Prop} {s₀ s : Shared} {env : Env}
  {K : Frag} {B : Heap} {L : Addr} {l : List (Str × Value)} {ob ob' : List (Addr × Obj)}
/-- a call of a def without cells that raises nothing and may turn one thing -/
theorem call_fnH (binds : List (Str × Value)) {name qual : Str} {params : Arguments} {body : List Stmt} {scope : Scope} {cl : List (Str × Addr)} {dV kV doc pm cdv ct oc : Value} {an od : Option Addr} {osl : Array (Option Value)} {f a : Addr} {o : Obj} {pos : List Value} {kw : List (Str × Value)}
    {Q : Value → Shared → Prop} {k : Nat}
    (R : Rm A (k + 1)) (G : Gd K (s.heap.hide a)) (ha : s.heap.get? a = some o)
    (ho : K.lookup f = some ⟨oc, od, .func (fnX name qual params body scope cl dV kV doc pm an cdv ct), osl⟩) (hcd : codeIn K cdv qual = true)
    (hbind : BindsTo s (fnX name qual params body scope cl dV kV doc pm an cdv ct) ⟨pos, kw⟩ binds) (hloc : (binds.all fun x => decide (scope.names.lookup x.1 = some .local)) = true)
    (hcell : (scope.names.all fun x => decide (x.2 ≠ .cell)) = true)
    (h : ∀ L s' A', L = s.heap.objs.size → Fm K s (s.heap.hide a) L s' binds.reverse [(a, o)] → Rm A' k →
      wpAny (model prog w) A' (execs body (envX qual scope L f cdv cl)) (RetTo Q) (fun _ _ => False) s')
    (hco : scope.isCoroutine = false) (hgen : scope.isGenerator = false) (hk : scope.kind = .function) : wpAny (model prog w) A (call (.ref f) pos kw) Q E s := by
  have kh : Kp (s.heap.hide a) s.heap := fun b x e => Heap.of_hide e
  have G' := G.kp kh
  refine call_fn binds R G' ho hcd hbind hloc hcell (fun L s' A' hL F R' => h L s' A' hL ?_ R') hco hgen hk
  refine ⟨G, F.ns, kh.trans F.kp, ?_, fun p hp => ?_, by simp, F.sm⟩
  · exact Kp.none kh F.no
  · rcases List.mem_cons.mp hp with rfl | hp
    · refine ⟨F.kp _ _ ha, fun q => ?_, Heap.hide_self _ _⟩
      have q : a = L := q
      rw [q, F.no] at ha; cases ha
    · cases hp
end
end Mine
end
section
open PySem PySem.W PyProof.Rows PySem.Calls
set_option maxRecDepth 100000
namespace Mine
section
variable {prog : Program} {w : World} {A : Around} {E : Value → Shared → Prop} {s₀ s : Shared} {env : Env}
  {K : Frag} {B : Heap} {L : Addr} {l : List (Str × Value)} {ob ob' : List (Addr × Obj)} {rest : List Stmt}

theorem s_whileR {test : Expr} {body : List Stmt} {pos : Pos} {Q : Flow → Shared → Prop} (h : codeAny (model prog w) A (.whileLoop test body [] env) (LoopR (Then (model prog w) A env rest Q E)) s) :
    wpAny (model prog w) A (execs (.While test body [] pos :: rest) env) Q E s :=
  s_while (codeAny_mono h fun r s' x => by cases r with | ok f => exact x | error e => exact x.elim)
theorem while_inv {test : Expr} {body : List Stmt} {Q : Flow → Shared → Prop} (n : Nat) (F : Fm K s₀ B L s l ob) (inv : Nat → Ls → Ob → Prop) (h0 : inv n l ob)
    (turn : ∀ n s l ob, inv n l ob → Fm K s₀ B L s l ob → wpAny (model prog w) A (isTrue test env (eval test env)) (fun b s₂ => if b = true
      then wpAny (model prog w) A (execs body env) (LpEnd (fun s₃ => ∃ m l' ob', m < n ∧ inv m l' ob' ∧ Fm K s₀ B L s₃ l' ob') Q) (fun _ _ => False) s₂
      else Q .next s₂) (fun _ _ => False) s) : codeAny (model prog w) A (.whileLoop test body [] env) (LoopR Q) s := by
  refine codeAny_whileLoop (fun n s => ∃ l ob, inv n l ob ∧ Fm K s₀ B L s l ob) (fun n s hI => ?_) n ⟨l, ob, h0, F⟩
  obtain ⟨l, ob, hi, F⟩ := hI
  refine wpAny_mono (turn n s l ob hi F) (fun b s₂ hb => ?_) fun _ _ x => x.elim
  cases b with
  | false => exact wpAny_execs_nil hb
  | true =>
    refine wpAny_mono hb (fun f s₃ hf => ?_) fun _ _ x => x.elim
    have nx : (∃ m l' ob', m < n ∧ inv m l' ob' ∧ Fm K s₀ B L s₃ l' ob') → ∃ m, m < n ∧ ∃ l ob, inv m l ob ∧ Fm K s₀ B L s₃ l ob := fun ⟨m, l', ob', h1, h2, h3⟩ => ⟨m, h1, l', ob', h2, h3⟩
    cases f with
    | next => exact nx hf
    | cont => exact nx hf
    | brk => exact hf
    | ret v => exact hf

theorem s_expr {value : Expr} {pos : Pos} {Q : Flow → Shared → Prop} (h : wpAny (model prog w) A (eval value env) (fun _ s₁ => wpAny (model prog w) A (execs rest env) Q E s₁) E s)
    (hi : interactive env = false) (hs : swapsWith value none pos.line env = pure false) : wpAny (model prog w) A (execs (.Expr value pos :: rest) env) Q E s :=
  s_cons (wpAny_Expr_any (wpAny_mono h (fun _ _ x => x) fun _ _ x => x) hi hs)
end

section
variable {prog : Program} {w : World} {A : Around} {E : Value → Shared → Prop} {s₀ s : Shared} {env : Env}
  {K : Frag} {B : Heap} {L : Addr} {l : List (Str × Value)} {ob ob' : List (Addr × Obj)} {Q : Value → Shared → Prop}
theorem sp_cons {e : Expr} {es : List Expr} {pos : Pos} {Q : List Value → Shared → Prop} (h : wpAny (model prog w) A (eval e env) (fun v s₁ => wpAny (model prog w) A (spliced (backTo pos (starEach es env))) (fun vs s₂ => Q (v :: vs) s₂) E s₁) E s)
    (he : starEach (e :: es) env = (false, eval e env) :: starEach es env) : wpAny (model prog w) A (spliced (backTo pos (starEach (e :: es) env))) Q E s := by
  rw [he]
  exact spliced_cons h
theorem sp_nil {pos : Pos} {Q : List Value → Shared → Prop} (h : Q [] s) : wpAny (model prog w) A (spliced (backTo pos (starEach [] env))) Q E s := spliced_nil h
theorem e_callkw {x : Str} {np pos : Pos} {args : List Expr} {kws : List Keyword}
    (h : wpAny (model prog w) A (eval (.Name x np) env) (fun f s₁ => wpAny (model prog w) A (callWith pos f [] (backTo pos (starEach args env)) (backToKw pos (keywordEach kws env))) Q E s₁) E s) :
    wpAny (model prog w) A (eval (.Call (.Name x np) args kws pos) env) Q E s := wpAny_Call_Name_kw h
/-- one keyword -/
theorem cw_KW {pos : Pos} {f : Value} {first : List Value} {e kv : Expr} {es : List Expr} {k : Str} {kp : Pos} (G : Gd K s.heap) (hk : keepIn K f = true)
    (h : wpAny (model prog w) A (spliced (backTo pos (starEach (e :: es) env))) (fun vs s₁ => wpAny (model prog w) A (eval kv env)
      (fun v s₂ => Gd K s₂.heap ∧ wpAny (model prog w) A (call f (first ++ vs) [(k, v)]) Q E s₂) E s₁) E s)
    (hplain : ((backTo pos (starEach (e :: es) env)).any (·.1) || (backToKw pos (keywordEach [⟨some k, kv, kp⟩] env)).any (·.1.isNone)) = false) (he : starEach (e :: es) env = (false, eval e env) :: starEach es env) :
    wpAny (model prog w) A (callWith pos f first (backTo pos (starEach (e :: es) env)) (backToKw pos (keywordEach [⟨some k, kv, kp⟩] env))) Q E s := by
  refine callWith_KW (h₀ := s.heap) G.k hk rfl (wpAny_mono h (fun vs s₁ h₁ => ?_) fun _ _ x => x) hplain he
  refine wpAny_evalAll_cons (wpAny_bind (wpAny_mono h₁ (fun v s₂ h₂ => wpAny_bind (wpAny_standAt (wpAny_pure ?_))) fun _ _ x => x))
  exact wpAny_evalAll_nil ⟨h₂.1.k, h₂.2⟩
/-- a function that the call has made -/
theorem cw_fn1 {pos : Pos} {f : Addr} {o : Obj} {fd : FuncData} {e1 : Expr}
    (h : wpAny (model prog w) A (eval e1 env) (fun v s₁ => (s₁.heap.get? f = some o ∧ o.data = .func fd) ∧ wpAny (model prog w) A (call (.ref f) [v]) Q E s₁) E s)
    (he : starEach [e1] env = [(false, eval e1 env)]) : wpAny (model prog w) A (callWith pos (.ref f) [] (backTo pos (starEach [e1] env)) []) Q E s := by
  rw [he]
  exact callWith_function_kw (o := o) (fd := fd) (evalArgs_plain (spliced_cons (wpAny_mono h (fun _ _ h₁ => spliced_nil h₁) fun _ _ x => x)))
/-- a list's method -/
theorem gm_list {a : Addr} {vs : List Value} {n : Nat} {name : Str} {id : String} {pl : Sem Bool} {Q : Value × List Value → Shared → Prop} (ha : s.heap.get? a = some (lsO vs n)) (slot : Slot "list" name id) (hty : typeOf (.builtin id) = pure (.type "method_descriptor"))
    (h : Q (.builtin id, [.ref a]) s) : wpAny (model prog w) A (getMethod (.ref a) name pl) Q E s :=
  getMethod_builtin ⟨_, ha, rfl⟩ PySem.F.plainAttrs_list slot hty (fun b e => by cases e; exact ⟨_, ha, rfl⟩) h
theorem cwb_M1 {pos : Pos} {id : String} {x : Value} {e1 : Expr} (h : wpAny (model prog w) A (eval e1 env) (fun v s₁ => wpAny (model prog w) A (call (.builtin id) [x, v]) Q E s₁) E s)
    (he : starEach [e1] env = [(false, eval e1 env)]) : wpAny (model prog w) A (callWith pos (.builtin id) [x] (backTo pos (starEach [e1] env)) []) Q E s := by
  rw [he]
  exact callWith_builtin rfl (evalArgs_plain (spliced_cons (wpAny_mono h (fun _ _ h₁ => spliced_nil h₁) fun _ _ x => x)))
theorem cwb_M2 {pos : Pos} {id : String} {x : Value} {e1 e2 : Expr}
    (h : wpAny (model prog w) A (eval e1 env) (fun v s₁ => wpAny (model prog w) A (eval e2 env) (fun v2 s₂ => wpAny (model prog w) A (call (.builtin id) [x, v, v2]) Q E s₂) E s₁) E s)
    (he : starEach [e1, e2] env = [(false, eval e1 env), (false, eval e2 env)]) : wpAny (model prog w) A (callWith pos (.builtin id) [x] (backTo pos (starEach [e1, e2] env)) []) Q E s := by
  rw [he]
  exact callWith_builtin rfl (evalArgs_plain (spliced_cons (wpAny_mono h (fun _ _ h₁ => spliced_cons (wpAny_mono h₁ (fun _ _ h₂ => spliced_nil h₂) fun _ _ x => x)) fun _ _ x => x)))
theorem m_append {a : Addr} {vs : List Value} {n : Nat} {x : Value} (F : Fm K s₀ B L s l ob) (U : UpO a (lsO vs n) (lsO (vs ++ [x]) (n + 1)) ob ob') (hz : vs.length ≤ sizeLine)
    (h : ∀ s', Fm K s₀ B L s' l ob' → Q .none s') : wpAny (model prog w) A (call (.builtin "list.append") [.ref a, x]) Q E s := by
  refine append_at (F.get U.mem) (fun h' hs ho => h _ (F.up (s' := { s with heap := h' }) U hs ?_ ⟨rfl, rfl, rfl⟩)) (by simpa using hz)
  rw [ho]; simp
def insAt (vs : List Value) (k : Nat) (y : Value) : List Value := vs.take k ++ y :: vs.drop k
theorem m_insert {a : Addr} {vs : List Value} {n : Nat} {k : Int} {u : Tok} {y : Value} (F : Fm K s₀ B L s l ob) (h0 : 0 ≤ k) (h1 : k ≤ vs.length) (hz : vs.length ≤ sizeLine) (U : UpO a (lsO vs n) (lsO (insAt vs k.toNat y) (n + 1)) ob ob')
    (h : ∀ s', Fm K s₀ B L s' l ob' → Q .none s') : wpAny (model prog w) A (call (.builtin "list.insert") [.ref a, .int k u, y]) Q E s := by
  have z := F.get U.mem
  have hf : Builtin.List.listFitsIndex k = true := by
    unfold Builtin.List.listFitsIndex
    have := sizeLine_eq
    simp; lia
  have hmin : min k.toNat vs.length = k.toNat := by lia
  refine call_meets PySem.F.slot_list_insert ⟨_, z, rfl⟩ PySem.F.entry_list_insert (PySem.F.args_list_insert_3 _ _ _) (PySem.AutoSeq1.list_insert_list_int_val_1 a _ n k u y (by simp [hf]) (by rw [List.size_toArray]; exact hz)) ⟨z, h _ (F.up (s' := { s with heap := _ }) U (Heap.SameBut.update ..) ?_ ⟨rfl, rfl, rfl⟩)⟩
  refine (PySem.IsL.update z _).trans ?_
  have e : (have j := if k < 0 then (k + ((vs.toArray.size : Nat) : Int)).toNat else min k.toNat vs.toArray.size; (vs.toArray.extract 0 j).push y ++ vs.toArray.extract j) = (insAt vs k.toNat y).toArray := by
    rw [if_neg (by lia), List.size_toArray, hmin]
    exact kl_ins_eq vs k.toNat y
  rw [e, if_neg (by simp [insAt]; lia)]
end
end Mine
end
section
open PySem PySem.W PyProof.Rows PySem.Calls
set_option maxRecDepth 100000
namespace Mine
section
variable {prog : Program} {w : World} {A : Around} {E : Value → Shared → Prop} {s₀ s : Shared} {env : Env}
  {K : Frag} {B : Heap} {L : Addr} {l : List (Str × Value)} {ob ob' : List (Addr × Obj)} {rest : List Stmt}

/-- the very heap, as frame and news of the library: every thing but L and a -/
def allBut (h : Heap) (L a : Addr) : Ob := (List.range h.objs.size).filterMap fun b => if b = L ∨ b = a then none else (h.get? b).map (b, ·)
theorem allBut_mem {h : Heap} {L a b : Addr} {o : Obj} (hb : h.get? b = some o) (h1 : b ≠ L) (h2 : b ≠ a) : (b, o) ∈ allBut h L a := by
  unfold allBut
  rw [List.mem_filterMap]
  refine ⟨b, List.mem_range.mpr (Heap.lt_size hb), ?_⟩
  rw [if_neg (by simp [h1, h2]), hb]; rfl
theorem allBut_of {h : Heap} {L a : Addr} {p : Addr × Obj} (hp : p ∈ allBut h L a) : h.get? p.1 = some p.2 ∧ p.1 ≠ L ∧ p.1 ≠ a := by
  unfold allBut at hp
  rw [List.mem_filterMap] at hp
  obtain ⟨b, _, e⟩ := hp
  split at e
  · cases e
  · rename_i q
    cases g : h.get? b with
    | none => rw [g] at e; cases e
    | some o =>
      rw [g] at e; cases e
      exact ⟨g, fun x => q (.inl x), fun x => q (.inr x)⟩
theorem get_empty (a : Addr) : ({} : Heap).get? a = none := get_none_of_le (Nat.zero_le _)
theorem Fm.adapt {a : Addr} {o : Obj} (F : Fm K s₀ B L s l ob) (hm : (a, o) ∈ ob) : ∃ m, Fr {} L s.heap m ∧ News {} L s.heap ([] ++ (a, o) :: allBut s.heap L a) ∧
    ∀ s' o', Fr {} L s'.heap m → News {} L s'.heap ([] ++ (a, o') :: allBut s.heap L a) → Sm s s' → ∀ ob', UpO a o o' ob ob' → Fm K s₀ B L s' l ob' := by
  obtain ⟨m, n, e⟩ := F.ns
  have D := F.obs _ hm
  refine ⟨m, ⟨n, fun b o q => (by rw [get_empty] at q; cases q), Nat.zero_le _⟩, fun p hp => ?_, fun s' o' F' N' sm ob' U => ?_⟩
  · rcases List.mem_cons.mp hp with rfl | hp
    · exact ⟨D.1, D.2.1, get_empty _⟩
    · exact ⟨(allBut_of hp).1, (allBut_of hp).2.1, get_empty _⟩
  · have k : ∀ b x, b ≠ L → b ≠ a → s.heap.get? b = some x → s'.heap.get? b = some x := fun b x h1 h2 q => (N' (b, x) (.tail _ (allBut_mem q h1 h2))).1
    have F1 : Fm K s₀ B L { s' with heap := s'.heap } l ob' := by
      obtain ⟨pre, post, rfl, rfl⟩ := U.split
      have nd := F.nd
      refine ⟨F.gd, ⟨m, F'.ns, e⟩, fun b x q => k b x (by rintro rfl; rw [F.no] at q; cases q) (by rintro rfl; rw [D.2.2] at q; cases q) (F.kp b x q), F.no, fun p hp => ?_, by simpa using nd, F.sm.trans sm⟩
      rcases List.mem_append.mp hp with q | q
      · have P := F.obs p (List.mem_append_left _ q)
        refine ⟨k _ _ P.2.1 (fun e => ?_) P.1, P.2⟩
        rw [List.map_append, List.map_cons, List.nodup_append] at nd
        exact nd.2.2 p.1 (List.mem_map_of_mem q) a (.head _) e
      · rcases List.mem_cons.mp q with rfl | q
        · exact ⟨(N' _ (.head _)).1, D.2⟩
        · have P := F.obs p (List.mem_append_right _ (.tail _ q))
          refine ⟨k _ _ P.2.1 (fun e => ?_) P.1, P.2⟩
          rw [List.map_append, List.map_cons, List.nodup_append, List.nodup_cons] at nd
          exact nd.2.1.1 (e ▸ (List.mem_map_of_mem q : p.1 ∈ List.map Prod.fst post))
    exact F1

theorem Fm.adaptN (F : Fm K s₀ B L s l ob) : ∃ m, Fr {} L s.heap m ∧ News {} L s.heap (allBut s.heap L L) ∧
    ∀ s' a o, Fr {} L s'.heap m → News {} L s'.heap ((a, o) :: allBut s.heap L L) → Sm s s' → s.heap.get? a = none → Fm K s₀ B L s' l ((a, o) :: ob) := by
  obtain ⟨m, n, e⟩ := F.ns
  refine ⟨m, ⟨n, fun b o q => (by rw [get_empty] at q; cases q), Nat.zero_le _⟩, fun p hp => ⟨(allBut_of hp).1, (allBut_of hp).2.1, get_empty _⟩, fun s' a o F' N' sm ha => ?_⟩
  have k : ∀ b x, b ≠ L → s.heap.get? b = some x → s'.heap.get? b = some x := fun b x h1 q => (N' (b, x) (.tail _ (allBut_mem q h1 h1))).1
  have D := N' (a, o) (.head _)
  refine ⟨F.gd, ⟨m, F'.ns, e⟩, fun b x q => k b x (by rintro rfl; rw [F.no] at q; cases q) (F.kp b x q), F.no, fun p hp => ?_, ?_, F.sm.trans sm⟩
  · rcases List.mem_cons.mp hp with rfl | hp
    · exact ⟨D.1, D.2.1, Kp.none F.kp ha⟩
    · have P := F.obs p hp
      exact ⟨k _ _ P.2.1 P.1, P.2⟩
  · rw [List.map_cons, List.nodup_cons]
    refine ⟨fun q => ?_, F.nd⟩
    obtain ⟨p, hp, e⟩ := List.mem_map.mp q
    have e : p.1 = a := e
    have := (F.obs p hp).1
    rw [e, ha] at this; cases this
/-- a value laid into an object's own dict -/
theorem sa_dict {x dx C : Addr} {es : List DictEntry} {n : Nat} {name : Str} {v : Value} {Q : Unit → Shared → Prop} (F : Fm K s₀ B L s l ob) (hx : s.heap.get? x = some (instObj C dx)) (hm : (dx, dictOf es n) ∈ ob)
    (hs : findIn K (.ref C) "__setattr__" = some (some (.builtin "object.__setattr__"))) (hp : plainOver K C = true) (ht : takerIn K C name = some none) (hh : hasDictIn K C = true) (hl : (getL name es).isSome = true)
    (hz : (putL name (PyData.keyHash w.params name) (.str name (s.toks + 1)) v es).length ≤ 1000)
    (h : ∀ tk s', (∀ ob', UpO dx (dictOf es n) (dictOf (putL name (PyData.keyHash w.params name) (.str name tk) v es) (putN name es n)) ob ob' → Fm K s₀ B L s' l ob') → Q () s') :
    wpAny (model prog w) A (setAttr (.ref x) name v) Q E s := by
  obtain ⟨m, Fr', N', back⟩ := F.adapt hm
  have X := F.gdh.k
  have I : InstAt s.heap x (instObj C dx) C (some (dictOf es n)) := ⟨hx, rfl, rfl, F.get hm⟩
  refine set_plain X I hs (osa_dict (s := { s with toks := s.toks + 1 }) (od := dictOf es n) (pre := []) (post := allBut s.heap L dx) Fr' N' X I rfl hp ht hh hl (by intro p hp; cases hp) (fun p hp => (allBut_of hp).2.2)
    (putName_dict ..) rfl hz fun h' F' N' => ?_)
  exact h _ _ fun ob' U => back _ _ F' N' Sm.mk' ob' U
theorem ga_dict {x dx C : Addr} {es : List DictEntry} {n : Nat} {name : Str} {v : Value} {attr : Option Value} {ex : Bool} {Q : Value → Shared → Prop} (F : Fm K s₀ B L s l ob) (hx : s.heap.get? x = some (instObj C dx)) (hm : (dx, dictOf es n) ∈ ob)
    (hg : plainGet K C name = true) (hh : hasDictIn K C = true) (ha : findIn K (.ref C) name = some attr) (hn : noGet K attr = true) (hl : getL name es = some (some v)) (hv : handedIn v = true)
    (h : ∀ s', Fm K s₀ B L s' l ob → Q v s') : wpAny (model prog w) A (getAttr (.ref x) name ex) Q E s :=
  get_value F.gdh.k ⟨hx, rfl, rfl, F.get hm⟩ (plainGet_of hg).1 (findObj_own (od := dictOf es n) hh ha hn hl) hv (h _ (F.gr Gr.tk))
theorem ga_cls {C : Addr} {mc v : Value} {name : Str} {ex : Bool} {Q : Value → Shared → Prop} (F : Fm K s₀ B L s l ob) (hr : readsIn K C mc = true) (e : findCls K (.ref C) mc name = some (.val v)) (hh : handedIn v = true)
    (h : ∀ s', Fm K s₀ B L s' l ob → Q v s') : wpAny (model prog w) A (getAttr (.ref C) name ex) Q E s := cls_value F.gdh.k hr e hh (h _ (F.gr Gr.tk))

/-- as call_fnH, for a code -/
theorem code_fnH (binds : List (Str × Value)) {name qual : Str} {params : Arguments} {body : List Stmt} {scope : Scope} {cl : List (Str × Addr)} {dV kV doc pm cdv ct oc : Value} {an od : Option Addr} {osl : Array (Option Value)} {f a : Addr} {o : Obj} {pos : List Value} {kw : List (Str × Value)}
    {R : Result → Shared → Prop} {k : Nat}
    (Ro : Rm A (k + 1)) (G : Gd K (s.heap.hide a)) (ha : s.heap.get? a = some o)
    (ho : K.lookup f = some ⟨oc, od, .func (fnX name qual params body scope cl dV kV doc pm an cdv ct), osl⟩) (hcd : codeIn K cdv qual = true)
    (hbind : BindsTo s (fnX name qual params body scope cl dV kV doc pm an cdv ct) ⟨pos, kw⟩ binds) (hloc : (binds.all fun x => decide (scope.names.lookup x.1 = some .local)) = true)
    (hcell : (scope.names.all fun x => decide (x.2 ≠ .cell)) = true)
    (h : ∀ L s' A', L = s.heap.objs.size → Fm K s (s.heap.hide a) L s' binds.reverse [(a, o)] → Rm A' k →
      wpAny (model prog w) A' (execs body (envX qual scope L f cdv cl)) (RetTo fun v s' => R (.ok (.ret v)) s') (fun _ _ => False) s')
    (hco : scope.isCoroutine = false) (hgen : scope.isGenerator = false) (hk : scope.kind = .function) : codeAny (model prog w) A (.call (.ref f) ⟨pos, kw⟩) R s := by
  have kh : Kp (s.heap.hide a) s.heap := fun b x e => Heap.of_hide e
  have G' := G.kp kh
  refine codeAny_call_def (fd := fnX name qual params body scope cl dV kV doc pm an cdv ct) (body := body) (binds := binds) Ro.room (G'.k _ _ ho) rfl G'.nl (codeRec_of G'.k hcd) rfl hbind
    (fun x hx => of_decide_eq_true (List.all_eq_true.mp hcell x hx)) (locs hloc) (fun h₁ hns hk₁ => ?_) hco hgen hk
  refine wpAny_mono (h s.heap.objs.size _ _ rfl ⟨G, ⟨_, hns, fun _ _ e => e⟩, kh.trans hk₁, Kp.none kh (get_none_of_le (Nat.le_refl _)), fun p hp => ?_, by simp, Sm.mk'⟩ Ro.deeper) (fun fl s' hq => ?_) fun _ _ x => x.elim
  · rcases List.mem_cons.mp hp with rfl | hp
    · exact ⟨hk₁ _ _ ha, Nat.ne_of_lt (Heap.lt_size ha), Heap.hide_self _ _⟩
    · cases hp
  · cases fl <;> exact hq
/-- an object is made -/
theorem call_new {C fI : Addr} {pos : List Value} {Q : Value → Shared → Prop} (G : Gd K s.heap) (hm : makesIn K C = true) (hi : findIn K (.ref C) "__init__" = some (some (.ref fI))) (hf : typeIn K (.ref fI) = some (.type "function"))
    (h : codeAny (model prog w) (A.under (.builtin "type.__call__" ⟨.ref C :: pos, []⟩)) (.call (.ref fI) ⟨.ref (s.heap.objs.size + 1) :: pos, []⟩) (InitBack (s.heap.objs.size + 1) fun r s' => match r with | .ok (.ret v) => Q v s' | .ok _ => False | .error e => E e s')
      { s with heap := (s.heap.push emptyDict).push (instObj C s.heap.objs.size) }) : wpAny (model prog w) A (call (.ref C) pos) Q E s := by
  refine wpAny_call ?_
  obtain ⟨hh, g, d, t, os⟩ := s
  exact make_core (makes_of G.k hm) (looks_findIn G.k hi) (fun self => bind_fn G.k self hf) (.inl rfl) h

theorem s_attr {o value : Expr} {attr : Str} {p pos : Pos} {Q : Flow → Shared → Prop} (h : wpAny (model prog w) A (eval value env) (fun v s₁ => wpAny (model prog w) A (eval o env) (fun ov s₂ => wpAny (model prog w) A (setAttr ov attr v) (fun _ s₃ => wpAny (model prog w) A (execs rest env) Q E s₃) E s₂) E s₁) E s)
    (hs : swapsWith value (some (.Attribute o attr p)) pos.line env = pure false) : wpAny (model prog w) A (execs (.Assign [.Attribute o attr p] value pos :: rest) env) Q E s := s_cons (plainObj_wpAny_Assign_Attribute h hs)
theorem s_item {o i value : Expr} {p pos : Pos} {Q : Flow → Shared → Prop} (h : wpAny (model prog w) A (eval value env) (fun v s₁ => wpAny (model prog w) A (eval o env) (fun ov s₂ => wpAny (model prog w) A (eval i env) (fun iv s₃ =>
      wpAny (model prog w) A (setItem ov iv v) (fun _ s₄ => wpAny (model prog w) A (execs rest env) Q E s₄) E s₃) E s₂) E s₁) E s)
    (hs : swapsWith value (some (.Subscript o i p)) pos.line env = pure false) : wpAny (model prog w) A (execs (.Assign [.Subscript o i p] value pos :: rest) env) Q E s := s_cons (wpAny_Assign_Subscript h hs)
theorem s_assign3 {x y z : Str} {p1 p2 p3 pos : Pos} {value : Expr} {Q : Flow → Shared → Prop} (h : wpAny (model prog w) A (eval value env) (fun v s₁ => wpAny (model prog w) A (storeName env x v) (fun _ s₂ => wpAny (model prog w) A (storeName env y v) (fun _ s₃ => wpAny (model prog w) A (storeName env z v) (fun _ s₄ =>
      wpAny (model prog w) A (execs rest env) Q E s₄) E s₃) E s₂) E s₁) E s) (hw : swappedStores [.Name x p1, .Name y p2, .Name z p3] value env = pure none) :
    wpAny (model prog w) A (execs (.Assign [.Name x p1, .Name y p2, .Name z p3] value pos :: rest) env) Q E s := by
  refine s_cons (wpAny_Assign_three (wpAny_mono h (fun v s₁ h₁ => wpAny_assign_Name (wpAny_mono h₁ (fun _ s₂ h₂ => wpAny_assign_Name (wpAny_mono h₂ (fun _ s₃ h₃ => wpAny_assign_Name (wpAny_mono h₃ (fun _ s₄ h₄ => h₄) fun _ _ x => x)) fun _ _ x => x)) fun _ _ x => x)) fun _ _ x => x) rfl ?_)
  exact hw
/-- x, y = e1, e2 : the stores go the other way round -/
theorem s_swap2 {x y : Str} {p1 p2 p3 p4 pos : Pos} {c1 c2 : Nat} {e1 e2 : Expr} {Q : Flow → Shared → Prop} (R : A.handled = none)
    (h : wpAny (model prog w) A (eval e1 env) (fun v1 s₁ => wpAny (model prog w) A (eval e2 env) (fun v2 s₂ => ∀ s₃, Gr s₂ s₃ →
      wpAny (model prog w) A (storeName env y v2) (fun _ s₄ => wpAny (model prog w) A (storeName env x v1) (fun _ s₅ => wpAny (model prog w) A (execs rest env) Q E s₅) E s₄) E s₃) E s₁) E s)
    (hs : swapsWithSole [.Tuple [.Name x p1, .Name y p2] c1 p3] (.Tuple [e1, e2] c2 p4) pos.line env = pure false)
    (hw : swappedStores [.Tuple [.Name x p1, .Name y p2] c1 p3] (.Tuple [e1, e2] c2 p4) env = pure (some [x, y]))
    (he : starEach [e1, e2] env = [(false, eval e1 env), (false, eval e2 env)]) :
    wpAny (model prog w) A (execs (.Assign [.Tuple [.Name x p1, .Name y p2] c1 p3] (.Tuple [e1, e2] c2 p4) pos :: rest) env) Q E s := by
  refine s_cons ?_
  rw [exec_Assign, hs, hw]
  refine wpAny_bind (wpAny_standAt (wpAny_bind (wpAny_pure ?_)))
  simp only [Bool.false_eq_true, if_false]
  refine wpAny_bind (wpAny_Tuple ?_)
  rw [he]
  refine spliced_cons (wpAny_mono h (fun v1 s₁ h₁ => spliced_cons (wpAny_mono h₁ (fun v2 s₂ h₂ => spliced_nil ⟨by show 2 ≤ sizeLine; rw [sizeLine_eq]; lia, wpAny_bind (wpAny_pure ?_)⟩) fun _ _ x => x)) fun _ _ x => x)
  unfold assignStores
  refine wpAny_bind (wpAny_rule (wpAny_bind ?_))
  refine wpAny_unpackItems_tuple (items := #[v1, v2]) R ⟨_, Heap.get?_push_size _ rfl, rfl, 0, rfl⟩ fun h' hx => ?_
  refine wpAny_bind (wpAny_assignInOrder_more (wpAny_bindName (wpAny_mono (h₂ _ ⟨⟨rfl, rfl, rfl⟩, fun b o e => hx b o (Nat.ne_of_lt ?_) (Heap.get?_push_of_some _ e)⟩) (fun _ s₄ h₄ => wpAny_assignInOrder_more (wpAny_bindName (wpAny_mono h₄ (fun _ s₅ h₅ => wpAny_assignInOrder_none (wpAny_pure h₅)) fun _ _ x => x))) fun _ _ x => x)))
  exact Nat.lt_trans (Heap.lt_size e) (by rw [Heap.size_push]; exact Nat.lt_succ_self _)
end

section
variable {prog : Program} {w : World} {A : Around} {E : Value → Shared → Prop} {s₀ s : Shared} {env : Env}
  {K : Frag} {B : Heap} {L : Addr} {l : List (Str × Value)} {ob ob' : List (Addr × Obj)} {Q : Value → Shared → Prop}
theorem e_list {elts : List Expr} {pos : Pos} (h : wpAny (model prog w) A (spliced (backTo pos (starEach elts env))) (fun vs s₁ => wpAny (model prog w) A (newList vs) Q E s₁) E s) : wpAny (model prog w) A (eval (.List elts pos) env) Q E s := List_ h
theorem e_tuple {elts : List Expr} {c : Nat} {pos : Pos} (h : wpAny (model prog w) A (spliced (backTo pos (starEach elts env))) (fun vs s₁ => wpAny (model prog w) A (newTuple vs) Q E s₁) E s) : wpAny (model prog w) A (eval (.Tuple elts c pos) env) Q E s := Tuple_ h
abbrev tpO (vs : List Value) : Obj := { cls := .type "tuple", data := .seq vs.toArray }
theorem n_list {vs : List Value} (F : Fm K s₀ B L s l ob) (hz : vs.length ≤ sizeLine) (h : ∀ a s', Fm K s₀ B L s' l ((a, lsO vs 0) :: ob) → Q (.ref a) s') : wpAny (model prog w) A (newList vs) Q E s :=
  wpAny_newObj_type (h _ _ (F.push _ rfl s.toks)) (by show vs.toArray.size ≤ sizeLine; rw [List.size_toArray]; exact hz)
theorem n_tuple {vs : List Value} (F : Fm K s₀ B L s l ob) (hz : vs.length ≤ sizeLine) (h : ∀ a s', Fm K s₀ B L s' l ((a, tpO vs) :: ob) → Q (.ref a) s') : wpAny (model prog w) A (newTuple vs) Q E s :=
  wpAny_newObj_type (h _ _ (F.push _ rfl s.toks)) (by show vs.toArray.size ≤ sizeLine; rw [List.size_toArray]; exact hz)
theorem o_addL {a b : Addr} {vs ws : List Value} {n m : Nat} (F : Fm K s₀ B L s l ob) (ha : s.heap.get? a = some (lsO vs n)) (hb : s.heap.get? b = some (lsO ws m)) (hz : vs.length + ws.length ≤ sizeLine)
    (h : ∀ c s', Fm K s₀ B L s' l ((c, lsO (vs ++ ws) 0) :: ob) → Q (.ref c) s') : wpAny (model prog w) A (binaryOp .Add (.ref a) (.ref b)) Q E s := by
  refine PySem.P.add_list ha hb ?_ (by simpa using hz)
  have e : (vs.toArray ++ ws.toArray) = (vs ++ ws).toArray := by simp
  rw [e]
  exact h _ _ (F.push _ rfl s.toks)
theorem o_mulL {a : Addr} {v : Value} {n : Nat} {k : Int} {u : Tok} (F : Fm K s₀ B L s l ob) (ha : s.heap.get? a = some (lsO [v] n)) (h0 : -(2 ^ 62) ≤ k) (hz : k ≤ 2 ^ 20)
    (h : ∀ c s', Fm K s₀ B L s' l ((c, lsO (List.replicate k.toNat v) 0) :: ob) → Q (.ref c) s') : wpAny (model prog w) A (binaryOp .Mult (.ref a) (.int k u)) Q E s := by
  obtain ⟨mm, F1, N1, back⟩ := F.adaptN
  refine PyProof.Rows.mul_list F1 N1 ha (by lia) (by lia) (by simp; lia) fun h' F' N' => ?_
  have e : (List.foldl (fun x1 x2 => x1 ++ x2) #[] (List.replicate (if ([v] : List Value).toArray.isEmpty = true then 0 else k.toNat) [v].toArray)) = (List.replicate k.toNat v).toArray := by
    have q : ∀ (n : Nat) (acc : Array Value), List.foldl (fun x1 x2 => x1 ++ x2) acc (List.replicate n [v].toArray) = acc ++ (List.replicate n v).toArray := by
      intro n
      induction n with
      | zero => intro acc; simp
      | succ n ih => intro acc; rw [List.replicate_succ, List.foldl_cons, ih, List.replicate_succ]; apply Array.toList_inj.mp; simp
    simpa using q k.toNat #[]
  rw [e] at N'
  exact h _ _ (back { s with heap := h' } _ _ F' N' ⟨rfl, rfl, rfl⟩ (get_none_of_le (Nat.le_refl _)))
theorem b_tuple {a : Addr} {vs : Array Value} (F : Fm K s₀ B L s l ob) (ha : s.heap.IsList a vs) (hz : vs.size ≤ sizeLine) (h : ∀ c s', Fm K s₀ B L s' l ((c, tpO vs.toList) :: ob) → Q (.ref c) s') : wpAny (model prog w) A (call (.type "tuple") [.ref a]) Q E s := by
  refine call_tuple_list ha (fun h' hk => ?_) hz
  have F1 : Fm K s₀ B L { s with heap := h' } l ob := F.gr ⟨⟨rfl, rfl, rfl⟩, hk⟩
  exact h _ _ (by simpa using F1.push (tpO vs.toList) rfl s.toks)
theorem i_set {a : Addr} {vs : List Value} {n : Nat} {k : Int} {t : Tok} {v : Value} {Q : Unit → Shared → Prop} (F : Fm K s₀ B L s l ob) (h0 : 0 ≤ k) (h1 : k < vs.length) (h2 : k < 2 ^ 62) (U : UpO a (lsO vs n) (lsO (vs.set k.toNat v) n) ob ob') (h : ∀ s', Fm K s₀ B L s' l ob' → Q () s') :
    wpAny (model prog w) A (setItem (.ref a) (.int k t) v) Q E s := by
  have z := F.get U.mem
  refine ki_setAt z h0 (by lia) (by simpa using h1) (h _ (F.up (s' := { s with heap := _ }) U (Heap.SameBut.update ..) ?_ ⟨rfl, rfl, rfl⟩))
  refine (PySem.IsL.update z _).trans ?_
  simp
end
end Mine
end
section
open PySem PySem.W PyProof.Rows PySem.Calls
set_option maxRecDepth 100000
namespace Mine
def LpEndP (N P : Shared → Prop) (Q : Flow → Shared → Prop) : Flow → Shared → Prop := fun f s => match f with | .next => N s | .cont => N s | .brk => P s | .ret v => Q (.ret v) s
section
variable {prog : Program} {w : World} {A : Around} {E : Value → Shared → Prop} {s₀ s : Shared} {env : Env} {K : Frag} {B : Heap} {L : Addr} {l : List (Str × Value)} {ob : List (Addr × Obj)} {rest : List Stmt} {Q : Flow → Shared → Prop}
theorem lpp_next {N P : Shared → Prop} (h : N s) : LpEndP N P Q .next s := h
theorem lpp_brk {N P : Shared → Prop} (h : P s) : LpEndP N P Q .brk s := h
/-- a for that may be left by break: behind it `post` either way -/
theorem for_iterP {x : Str} {p : Pos} {body : List Stmt} {xv : Value} {n : Nat} {P : Nat → Value → Prop} (F : Fm K s₀ B L s l ob) (it : Iters prog w A B s xv n P)
    (inv : Nat → Ls → Ob → Prop) (post : Ls → Ob → Prop) (h0 : inv 0 l ob)
    (step : ∀ i s l ob ex v, i < n → inv i l ob → P i v → Fm K s₀ B L s l (ob ++ ex) →
      wpAny (model prog w) A (storeName env x v) (fun _ s₂ => wpAny (model prog w) A (execs body env)
        (LpEndP (fun s₃ => ∃ l' ob', inv (i + 1) l' ob' ∧ Fm K s₀ B L s₃ l' (ob' ++ ex)) (fun s₃ => ∃ l' ob', post l' ob' ∧ Fm K s₀ B L s₃ l' (ob' ++ ex)) Q) (fun _ _ => False) s₂) (fun _ _ => False) s)
    (fin : ∀ l ob, inv n l ob → post l ob) (after : ∀ s l ob, post l ob → Fm K s₀ B L s l ob → Q .next s) :
    wpAny (model prog w) A (pyIter xv) (fun it s₂ => codeAny (model prog w) A (.forLoop (.Name x p) it body [] env) (LoopR Q) s₂) E s := by
  refine for_iter F it inv h0 (fun i s l ob ex v hi hinv hP F => ?_) fun s l ob h F => after s l ob (fin l ob h) F
  refine wpAny_mono (step i s l ob ex v hi hinv hP F) (fun _ s₂ h₂ => wpAny_mono h₂ (fun f s₃ h₃ => ?_) fun _ _ x => x) fun _ _ x => x
  cases f with
  | next => exact h₃
  | cont => exact h₃
  | brk => obtain ⟨l', ob', hp, F'⟩ := h₃; exact after _ l' ob' hp F'.subEx
  | ret v => exact h₃
/-- one statement by what holds behind it -/
theorem s_cut {st : Stmt} (P : Shared → Prop) (h1 : wpAny (model prog w) A (execs [st] env) (fun f s' => f = .next ∧ P s') E s) (h2 : ∀ s', P s' → wpAny (model prog w) A (execs rest env) Q E s') :
    wpAny (model prog w) A (execs (st :: rest) env) Q E s := by
  have e : execs (st :: rest) env = execs (st :: rest) env := rfl
  refine fun Γ p hΓ => ?_
  have h := h1 Γ p hΓ
  simp only [execs, Sem.wp_bind'] at h ⊢
  refine Sem.wp_mono _ Γ _ (fun f p' s' hf => ?_) (fun _ _ _ x => x) p s h
  cases f with
  | next => exact h2 s' hf.2 Γ p' hΓ
  | brk => exact absurd hf.1 (by simp)
  | cont => exact absurd hf.1 (by simp)
  | ret v => exact absurd hf.1 (by simp)
end
end Mine
end
section
open PySem PySem.W PyProof.Rows PySem.Calls
set_option maxRecDepth 100000
namespace Mine
/-- what h' has and h has not -/
def newPart (h h' : Heap) : Heap := hideAll h' ((List.range h.objs.size).filter fun b => (h.get? b).isSome)
theorem newPart_get {h h' : Heap} {b : Addr} {o : Obj} (h1 : h'.get? b = some o) (h2 : h.get? b = none) : (newPart h h').get? b = some o :=
  hideAll_get _ h1 fun q => by
    have := (List.mem_filter.mp q).2
    rw [h2] at this; cases this
theorem newPart_of {h h' : Heap} {b : Addr} {o : Obj} (e : (newPart h h').get? b = some o) : h'.get? b = some o ∧ h.get? b = none := by
  refine ⟨of_hideAll _ e, ?_⟩
  cases q : h.get? b with
  | none => rfl
  | some o' =>
    have := hideAll_none ((List.range h.objs.size).filter fun b => (h.get? b).isSome) (h := h') (b := b) (List.mem_filter.mpr ⟨List.mem_range.mpr (Heap.lt_size q), by rw [q]; rfl⟩)
    unfold newPart at e
    rw [this] at e; cases e
section
variable {K : Frag} {s₀ s s' : Shared} {B : Heap} {L : Addr} {l : List (Str × Value)} {ob : List (Addr × Obj)}
/-- a callee has made things: they go into the ground -/
theorem Fm.grow (F : Fm K s₀ B L s l ob) (g : Gr s s') : ∃ B', Kp B B' ∧ Kp (newPart s.heap s'.heap) B' ∧ Fm K s₀ B' L s' l ob := by
  obtain ⟨B', k, F', h⟩ := (F.gr g).freeze
  refine ⟨B', k, fun b o e => ?_, F'⟩
  obtain ⟨e1, e2⟩ := newPart_of e
  refine h b o e1 (fun q => ?_) fun q => ?_
  · obtain ⟨oL, hL⟩ := F.ns.get
    rw [q, hL] at e2; cases e2
  · obtain ⟨p, hp, rfl⟩ := List.mem_map.mp q
    rw [(F.obs p hp).1] at e2; cases e2
end

section
variable {prog : Program} {w : World} {A : Around} {E : Value → Shared → Prop} {s₀ s : Shared} {env : Env} {K : Frag} {B : Heap} {L : Addr} {l : List (Str × Value)} {ob : List (Addr × Obj)} {rest : List Stmt} {Q : Flow → Shared → Prop}
/-- for_iter with a ground that grows -/
theorem for_iterB {x : Str} {p : Pos} {body : List Stmt} {xv : Value} {n : Nat} {P : Nat → Value → Prop} (F : Fm K s₀ B L s l ob) (it : Iters prog w A B s xv n P)
    (inv : Nat → Heap → Ls → Ob → Prop) (h0 : inv 0 B l ob)
    (step : ∀ i B₁ s l ob ex v, i < n → Kp B B₁ → inv i B₁ l ob → P i v → Fm K s₀ B₁ L s l (ob ++ ex) →
      wpAny (model prog w) A (storeName env x v) (fun _ s₂ => wpAny (model prog w) A (execs body env)
        (LpEnd (fun s₃ => ∃ B₂ l' ob', Kp B₁ B₂ ∧ inv (i + 1) B₂ l' ob' ∧ Fm K s₀ B₂ L s₃ l' (ob' ++ ex)) Q) (fun _ _ => False) s₂) (fun _ _ => False) s)
    (fin : ∀ B₁ s l ob, Kp B B₁ → inv n B₁ l ob → Fm K s₀ B₁ L s l ob → Q .next s) :
    wpAny (model prog w) A (pyIter xv) (fun it s₂ => codeAny (model prog w) A (.forLoop (.Name x p) it body [] env) (LoopR Q) s₂) E s := by
  refine it _ _ fun I fp St s₁ W st hfp hal hI g => ?_
  have F₁ := F.gr g
  have hB : B.get? I = none := Kp.none F.kp hI
  have hL : I ≠ L := by
    rintro rfl
    obtain ⟨o, ho⟩ := F.ns.get
    rw [ho] at hI; cases hI
  have hob : I ∉ List.map Prod.fst ob := fun q => by
    obtain ⟨p, hp, e⟩ := List.mem_map.mp q
    have := (F.obs p hp).1
    rw [show p.1 = I from e, hI] at this; cases this
  refine codeAny_forLoop (fun m s => ∃ i B₁ l ob, m = n - i ∧ i ≤ n ∧ Kp B B₁ ∧ B₁.get? I = none ∧ inv i B₁ l ob ∧ Fm K s₀ B₁ L s l ob ∧ St i s.heap ∧ I ∉ List.map Prod.fst ob) (fun m s hm => ?_) n ⟨0, B, l, ob, by simp, Nat.zero_le _, Kp.rfl, hB, h0, F₁, st, hob⟩
  obtain ⟨i, B₁, l, ob, rfl, hi, kB, hB, hinv, F, st, hob⟩ := hm
  rcases Nat.lt_or_ge i n with hlt | hge
  · refine W.item i s _ _ hlt st fun v h' tk hP st' hk => ?_
    have F' : Fm K s₀ B₁ L { s with heap := h', toks := tk } l ob := F.turn hB hL hob hk Sm.mk'
    have F'' := F'.addEx hB hL hob
    refine wpAny_assign_Name (wpAny_mono (step i B₁ _ l ob _ v hlt kB hinv hP F'') (fun _ s₂ h₂ => wpAny_mono h₂ (fun f s₃ h₃ => ?_) fun _ _ z => z.elim) fun _ _ z => z.elim)
    have nxt : (∃ B₂ l' ob', Kp B₁ B₂ ∧ inv (i + 1) B₂ l' ob' ∧ Fm K s₀ B₂ L s₃ l' (ob' ++ exOf h' I)) →
        ∃ m, m < n - i ∧ ∃ i B₁ l ob, m = n - i ∧ i ≤ n ∧ Kp B B₁ ∧ B₁.get? I = none ∧ inv i B₁ l ob ∧ Fm K s₀ B₁ L s₃ l ob ∧ St i s₃.heap ∧ I ∉ List.map Prod.fst ob := by
      rintro ⟨B₂, l', ob', k2, hin, F3⟩
      obtain ⟨oI, hoI⟩ := hal _ _ st'
      have hmem : (I, oI) ∈ ob' ++ exOf h' I := List.mem_append_right _ (by unfold exOf; rw [hoI]; exact .head _)
      have fr : St (i + 1) s₃.heap := W.frame (i + 1) h' s₃.heap st' fun b hb o e => by
        rcases hfp b hb with rfl | ⟨o', ho'⟩
        · exact F3.get (List.mem_append_right _ (by unfold exOf; rw [e]; exact .head _))
        · have := F''.kp b o' (kB _ _ ho')
          rw [show ({ s with heap := h', toks := tk } : Shared).heap = h' from rfl, e] at this
          cases this
          exact F3.kp b o (k2 _ _ (kB _ _ ho'))
      exact ⟨n - (i + 1), by omega, i + 1, B₂, l', ob', rfl, hlt, kB.trans k2, (F3.obs _ hmem).2.2, hin, F3.subEx, fr, F3.notEx ⟨oI, hoI⟩⟩
    cases f with
    | next => exact nxt h₃
    | cont => exact nxt h₃
    | brk => exact h₃
    | ret v => exact h₃
  · have e : i = n := Nat.le_antisymm hi hge
    subst e
    refine W.done s _ _ st fun h' tk hk => ?_
    exact wpAny_execs_nil (fin B₁ _ l ob kB hinv (F.turn hB hL hob hk Sm.mk'))
end
end Mine
end
section
open PySem PySem.W PyProof.Rows PySem.Calls
set_option maxRecDepth 100000
namespace Mine
section
variable {prog : Program} {w : World} {A : Around} {E : Value → Shared → Prop} {s₀ s : Shared} {env : Env} {K : Frag} {B : Heap} {L C D : Addr} {l : Ls} {ob : Ob}
abbrev testsOf (ifs : List Expr) (env : Env) : Sem Bool := forIn ifs true fun c r => if r = true then do let ok ← isTrue c env (eval c env); pure (ForInStep.yield ok) else pure (ForInStep.yield r)
theorem comp_loop {elt target iter : Expr} {ifs : List Expr} {scope : Scope} {pos : Pos} {I : Addr} {fp : List Addr} {n : Nat} {P : Nat → Value → Prop} {St : Nat → Heap → Prop}
    (W : Walks prog w A I fp [I] n P St) (hfp : ∀ b ∈ fp, b = I ∨ ∃ o, B.get? b = some o) (hal : ∀ i h, St i h → ∃ o, h.get? I = some o) (hn : n ≤ sizeLine)
    (F : Fm K s₀ B C s l ((D, lsO [] 0) :: ob)) (st : St 0 s.heap) (hB : B.get? I = none) (hC : I ≠ C) (hob : I ∉ List.map Prod.fst ((D, lsO [] 0) :: ob))
    (inv : Nat → Heap → List Value → Ls → Ob → Prop) (h0 : inv 0 B [] l ob)
    (step : ∀ i B₁ s l ob ys k ex v, i < n → Kp B B₁ → inv i B₁ ys l ob → P i v → Fm K s₀ B₁ C s l ((D, lsO ys k) :: ob ++ ex) →
      wpAny (model prog w) A (assign target env v) (fun _ s₂ => wpAny (model prog w) A (testsOf ifs env) (fun ok s₃ => if ok = true
        then wpAny (model prog w) A (eval elt env) (fun y s₄ => ∃ B₂ l' ob', Kp B₁ B₂ ∧ inv (i + 1) B₂ (ys ++ [y]) l' ob' ∧ Fm K s₀ B₂ C s₄ l' ((D, lsO ys k) :: ob' ++ ex)) (fun _ _ => False) s₃
        else ∃ B₂ l' ob', Kp B₁ B₂ ∧ inv (i + 1) B₂ ys l' ob' ∧ Fm K s₀ B₂ C s₃ l' ((D, lsO ys k) :: ob' ++ ex)) (fun _ _ => False) s₂) (fun _ _ => False) s)
    {Q : Shared → Prop} (fin : ∀ B₁ s l ob ys k, Kp B B₁ → inv n B₁ ys l ob → Fm K s₀ B₁ C s l ((D, lsO ys k) :: ob) → Q s)
    (ht : ∀ v, letOwnedTupleGo target (.ref I) v = pure ()) :
    codeAny (model prog w) A (.compLoop (.ListComp elt [⟨target, iter, ifs, 0⟩] scope pos) 0 (.ref I) (.ref D) env) (fun r s' => r = .ok .next ∧ Q s') s := by
  refine codeAny_compLoop_tests (fun m s => ∃ i B₁ l ob ys k, m = n - i ∧ i ≤ n ∧ ys.length ≤ i ∧ Kp B B₁ ∧ B₁.get? I = none ∧ inv i B₁ ys l ob ∧ Fm K s₀ B₁ C s l ((D, lsO ys k) :: ob) ∧ St i s.heap ∧ I ∉ List.map Prod.fst ((D, lsO ys k) :: ob)) (fun m s hm => ?_) n
    ⟨0, B, l, ob, [], 0, by simp, Nat.zero_le _, Nat.le_refl _, Kp.rfl, hB, h0, F, st, hob⟩ ht
  obtain ⟨i, B₁, l, ob, ys, k, rfl, hi, hys, kB, hB, hinv, F, st, hob⟩ := hm
  rcases Nat.lt_or_ge i n with hlt | hge
  · refine W.item i s _ _ hlt st fun v h' tk hP st' hk => ?_
    have F' : Fm K s₀ B₁ C { s with heap := h', toks := tk } l ((D, lsO ys k) :: ob) := F.turn hB hC hob hk Sm.mk'
    have F'' := F'.addEx hB hC hob
    obtain ⟨oI, hoI⟩ := hal _ _ st'
    have fr : ∀ {B₂ : Heap} {s₃ : Shared} {l' : Ls} {zs : List Value} {k' : Nat} {ob' : Ob}, Kp B₁ B₂ → Fm K s₀ B₂ C s₃ l' ((D, lsO zs k') :: ob' ++ exOf h' I) → inv (i + 1) B₂ zs l' ob' → zs.length ≤ i + 1 →
        ∃ m, m < n - i ∧ ∃ i B₁ l ob ys k, m = n - i ∧ i ≤ n ∧ ys.length ≤ i ∧ Kp B B₁ ∧ B₁.get? I = none ∧ inv i B₁ ys l ob ∧ Fm K s₀ B₁ C s₃ l ((D, lsO ys k) :: ob) ∧ St i s₃.heap ∧ I ∉ List.map Prod.fst ((D, lsO ys k) :: ob) := by
      intro B₂ s₃ l' zs k' ob' k2 F3 hin hz
      have hmem : (I, oI) ∈ (D, lsO zs k') :: ob' ++ exOf h' I := List.mem_append_right _ (by unfold exOf; rw [hoI]; exact .head _)
      have fr : St (i + 1) s₃.heap := W.frame (i + 1) h' s₃.heap st' fun b hb o e => by
        rcases hfp b hb with rfl | ⟨o', ho'⟩
        · exact F3.get (List.mem_append_right _ (by unfold exOf; rw [e]; exact .head _))
        · have := F''.kp b o' (kB _ _ ho')
          rw [show ({ s with heap := h', toks := tk } : Shared).heap = h' from rfl, e] at this
          cases this
          exact F3.kp b o (k2 _ _ (kB _ _ ho'))
      exact ⟨n - (i + 1), by omega, i + 1, B₂, l', ob', zs, k', rfl, hlt, hz, kB.trans k2, (F3.obs _ hmem).2.2, hin, F3.subEx, fr, F3.notEx ⟨oI, hoI⟩⟩
    refine wpAny_mono (step i B₁ _ l ob ys k _ v hlt kB hinv hP F'') (fun _ s₂ h₂ => wpAny_mono h₂ (fun ok s₃ h₃ => ?_) fun _ _ z => z.elim) fun _ _ z => z.elim
    cases ok with
    | false =>
      obtain ⟨B₂, l', ob', k2, hin, F3⟩ := h₃
      exact fr k2 F3 hin (by lia)
    | true =>
      refine wpAny_mono h₃ (fun y s₄ h₄ => ?_) fun _ _ z => z.elim
      obtain ⟨B₂, l', ob', k2, hin, F3⟩ := h₄
      refine m_append F3 (.head _) (by lia) fun s₅ F4 => fr k2 F4 hin (by simp; omega)
  · have e : i = n := Nat.le_antisymm hi hge
    subst e
    refine W.done s _ _ st fun h' tk hk => ?_
    exact ⟨rfl, fin B₁ _ l ob ys k kB hinv (F.turn hB hC hob hk Sm.mk')⟩
end
end Mine
end
section
open PySem PySem.W PyProof.Rows PySem.Calls
set_option maxRecDepth 100000
namespace Mine
abbrev cellO (v : Option Value) : Obj := { cls := .type "cell", data := .cell v }
def cellOb (n : Nat) : List (Str × NameKind) → Ob → Ob
  | [], ob => ob
  | (_, kind) :: r, ob => if kind == .cell then cellOb (n + 1) r ((n, cellO none) :: ob) else cellOb n r ob
theorem Fm.cells {K : Frag} {s₀ : Shared} {B : Heap} {L : Addr} {l : Ls} : ∀ (names : List (Str × NameKind)) {s : Shared} {ob : Ob}, Fm K s₀ B L s l ob → Fm K s₀ B L { s with heap := pushCells s.heap names } l (cellOb s.heap.objs.size names ob)
  | [], _, _, F => F
  | (_, kind) :: r, s, ob, F => by
    unfold pushCells cellOb
    split
    · have F1 := F.push (cellO none) rfl s.toks
      have F2 := F1.cells r
      have hz : ({ s with heap := s.heap.push (cellO none), toks := s.toks } : Shared).heap.objs.size = s.heap.objs.size + 1 := Heap.size_push ..
      rw [hz] at F2
      exact F2
    · exact F.cells r
section
variable {prog : Program} {w : World} {A : Around} {E : Value → Shared → Prop} {s₀ s : Shared} {env : Env} {K : Frag} {Q : Value → Shared → Prop}
/-- a comprehension whose first iterable is told -/
def CompGo (prog : Program) (w : World) (A : Around) (elt target iter : Expr) (ifs : List Expr) (scope : Scope) (pos : Pos) (cl : List (Str × Addr)) (env : Env) (Q : Value → Shared → Prop) (E : Value → Shared → Prop) (xv : Value) (s₁ : Shared) : Prop :=
  wpAny (model prog w) A (pyIter xv) (fun it s₂ => wpAny (model prog w) A (newList []) (fun acc s₃ => wpAny (model prog w) A (newFunctionEnv scope env.globals cl [] env.qual none .none (some env)) (fun cenv s₄ =>
    codeAny (model prog w) A (.compStart (.ListComp elt [⟨target, iter, ifs, 0⟩] scope pos) 0 it acc { cenv with scope := relabel scope env }) (compPost (model prog w) A E none Q acc cenv.locals) s₄) E s₃) E s₂) E s₁
theorem e_comp {elt target iter : Expr} {ifs : List Expr} {scope : Scope} {pos : Pos} {cl : List (Str × Addr)} (h : wpAny (model prog w) A (eval iter env) (CompGo prog w A elt target iter ifs scope pos cl env Q E) E s) (hclos : closureFor scope env = pure cl) (hkind : scope.kind = .function)
    (hnames : (scope.names.all fun x => decide (x.2 = .local → scope.names.lookup x.1 = some .local)) = true)
    (hs : ∀ x, foldedSetIterable iter env x = pure x) : wpAny (model prog w) A (eval (.ListComp elt [⟨target, iter, ifs, 0⟩] scope pos) env) Q E s := by
  rw [eval_ListComp]
  exact wpAny_comprehension_free rfl hs hclos hkind (fun x hx => of_decide_eq_true (List.all_eq_true.mp hnames x hx)) h
abbrev cenvOf (scope : Scope) (cells : List (Str × Addr)) (C : Addr) (env : Env) : Env := { scope := relabel scope env, locals := C, globals := env.globals, cells := cells, qual := env.qual, func := none, code := env.code, frame := env.frame, builtins := env.builtins }
theorem comp_env {scope : Scope} {cl : List (Str × Addr)} {Q : Env → Shared → Prop}
    (h : Q { scope, locals := s.heap.objs.size, globals := env.globals, cells := cellsFrom (s.heap.objs.size + 1) scope.names cl, qual := env.qual, func := none, code := env.code, frame := env.frame, builtins := env.builtins }
      { s with heap := pushCells (s.heap.push { cls := .type "dict", data := .dict #[] }) scope.names }) :
    wpAny (model prog w) A (newFunctionEnv scope env.globals cl [] env.qual none .none (some env)) Q E s := by
  simp only [newFunctionEnv, Option.isSome_some, if_true]
  refine wpAny_bind (wpAny_alloc ?_)
  refine wpAny_bind (wpAny_layCells _ (fun name kind cells => by cases hkc : kind == NameKind.cell <;> simp [hkc]) _ _ _ _ ?_)
  rw [show ({ s with heap := s.heap.push { cls := .type "dict", data := .dict #[] } } : Shared).heap.objs.size = s.heap.objs.size + 1 from Heap.size_push ..]
  rw [List.forIn_nil]
  exact wpAny_bind (wpAny_pure (wpAny_pure h))
end
section
variable {K : Frag} {s₀ s s' : Shared} {B B₁ : Heap} {L C : Addr} {l l' : Ls} {ob ob' : Ob} {oL : Obj}
/-- a frame within: what the outer one may turn goes into its ledger -/
theorem Fm.enter (F : Fm K s₀ B L s l ob) (hL : s.heap.get? L = some oL) (k : Kp s.heap s'.heap) (hm : Sm s s') (hn : Nm s'.heap C l') (hC : s.heap.get? C = none) : Fm K s B C s' l' ((L, oL) :: ob) := by
  refine ⟨F.gd, hn, F.kp.trans k, Kp.none F.kp hC, fun p hp => ?_, ?_, hm⟩
  · rcases List.mem_cons.mp hp with rfl | hp
    · exact ⟨k _ _ hL, (fun q => by have q : L = C := q; rw [q, hC] at hL; cases hL), F.no⟩
    · exact ⟨k _ _ (F.obs p hp).1, (fun q => by have := (F.obs p hp).1; rw [q, hC] at this; cases this), (F.obs p hp).2.2⟩
  · rw [List.map_cons, List.nodup_cons]
    refine ⟨fun q => ?_, F.nd⟩
    obtain ⟨p, hp, e⟩ := List.mem_map.mp q
    exact (F.obs p hp).2.1 e
theorem Fm.leave (F : Fm K s₀ B L s l ob) (hL : s.heap.get? L = some oL) (F' : Fm K s B₁ C s' l' ob') (hm : ∀ p ∈ (L, oL) :: ob, p ∈ ob') (kB : Kp B B₁) : Fm K s₀ B₁ L s' l ob := by
  have D := F'.obs _ (hm _ (.head _))
  exact ⟨F.gd.kp kB, F.ns.keeps fun o e => by rw [hL] at e; cases e; exact D.1, F'.kp, D.2.2, fun p hp => ⟨(F'.obs p (hm p (.tail _ hp))).1, (F.obs p hp).2.1, (F'.obs p (hm p (.tail _ hp))).2.2⟩, F.nd, F.sm.trans F'.sm⟩
theorem cellOb_app : ∀ (names : List (Str × NameKind)) (n : Nat) (ob ob' : Ob), (cellOb n names (ob ++ ob')) = cellOb n names ob ++ ob'
  | [], n, ob, ob' => rfl
  | (x, k) :: r, n, ob, ob' => by
    unfold cellOb
    split
    · exact cellOb_app r (n + 1) ((n, cellO none) :: ob) ob'
    · exact cellOb_app r n ob ob'
theorem cellOb_lt {I : Nat} : ∀ (names : List (Str × NameKind)) (n : Nat) (ob : Ob), (∀ p ∈ ob, I < p.1) → I < n → ∀ p ∈ cellOb n names ob, I < p.1
  | [], n, ob, h, _ => h
  | (x, k) :: r, n, ob, h, hn => by
    unfold cellOb
    split
    · exact cellOb_lt r (n + 1) _ (fun p hp => by
        rcases List.mem_cons.mp hp with rfl | hp
        · exact hn
        · exact h p hp) (Nat.lt_succ_of_lt hn)
    · exact cellOb_lt r n ob h hn
end
section
variable {prog : Program} {w : World} {A : Around} {E : Value → Shared → Prop} {s₀ s : Shared} {env : Env} {K : Frag} {B : Heap} {L : Addr} {l : Ls} {ob : Ob} {Q : Value → Shared → Prop}
theorem comp_go {elt target iter : Expr} {ifs : List Expr} {scope : Scope} {pos : Pos} {cl : List (Str × Addr)} {xv : Value} {n : Nat} {P : Nat → Value → Prop} (F : Fm K s₀ B L s l ob) (it : Iters prog w A B s xv n P) (hn : n ≤ sizeLine)
    (inv : Addr → Nat → Heap → List Value → Ls → Ob → Prop) (h0 : ∀ C oL, s.heap.get? L = some oL → inv C 0 B [] [] (cellOb (C + 1) scope.names [] ++ (L, oL) :: ob))
    (step : ∀ C D i B₁ s' l ob ys k ex v, i < n → Kp B B₁ → inv C i B₁ ys l ob → P i v → Fm K s B₁ C s' l ((D, lsO ys k) :: ob ++ ex) →
      wpAny (model prog w) A (assign target (cenvOf scope (cellsFrom (C + 1) scope.names cl) C env) v) (fun _ s₂ => wpAny (model prog w) A (testsOf ifs (cenvOf scope (cellsFrom (C + 1) scope.names cl) C env)) (fun ok s₃ => if ok = true
        then wpAny (model prog w) A (eval elt (cenvOf scope (cellsFrom (C + 1) scope.names cl) C env)) (fun y s₄ => ∃ B₂ l' ob', Kp B₁ B₂ ∧ inv C (i + 1) B₂ (ys ++ [y]) l' ob' ∧ Fm K s B₂ C s₄ l' ((D, lsO ys k) :: ob' ++ ex)) (fun _ _ => False) s₃
        else ∃ B₂ l' ob', Kp B₁ B₂ ∧ inv C (i + 1) B₂ ys l' ob' ∧ Fm K s B₂ C s₃ l' ((D, lsO ys k) :: ob' ++ ex)) (fun _ _ => False) s₂) (fun _ _ => False) s')
    (fin : ∀ C D s' B₁ ys k l₁ ob₁, Kp B B₁ → inv C n B₁ ys l₁ ob₁ → (∀ oL, s.heap.get? L = some oL → (∀ p ∈ (L, oL) :: ob, p ∈ ob₁) → ∃ B₂, Kp B₁ B₂ ∧ Fm K s₀ B₂ L s' l ob ∧ B₂.get? D = some (lsO ys k)) → Q (.ref D) s')
    (ht : ∀ I v, letOwnedTupleGo target (.ref I) v = pure ()) : CompGo prog w A elt target iter ifs scope pos cl env Q E xv s := by
  obtain ⟨oL, hoL⟩ := F.ns.get
  refine it _ _ fun I fp St s₂ W st hfp hal hI g => ?_
  refine wpAny_newObj_type ?_ (Nat.zero_le _)
  obtain ⟨D, hD⟩ : ∃ D, D = s₂.heap.objs.size := ⟨_, rfl⟩
  refine comp_env ?_
  have hsz : (s₂.heap.push { cls := .type "list", data := .seq #[] }).objs.size = D + 1 := by rw [Heap.size_push, hD]
  show codeAny _ _ (.compStart _ _ _ (.ref s₂.heap.objs.size) (cenvOf scope (cellsFrom ((s₂.heap.push { cls := .type "list", data := .seq #[] }).objs.size + 1) scope.names cl) (s₂.heap.push { cls := .type "list", data := .seq #[] }).objs.size env)) (compPost _ _ _ _ _ (.ref s₂.heap.objs.size) (s₂.heap.push { cls := .type "list", data := .seq #[] }).objs.size)
    { s₂ with heap := pushCells ((s₂.heap.push { cls := .type "list", data := .seq #[] }).push { cls := .type "dict", data := .dict #[] }) scope.names }
  rw [hsz, ← hD]
  have hsz2 : ((s₂.heap.push { cls := .type "list", data := .seq #[] }).push { cls := .type "dict", data := .dict #[] }).objs.size = D + 1 + 1 := by rw [Heap.size_push, hsz]
  have k1 : Kp s₂.heap ((s₂.heap.push { cls := .type "list", data := .seq #[] }).push { cls := .type "dict", data := .dict #[] }) := (Kp.push _).trans (Kp.push _)
  have kD : ((s₂.heap.push { cls := .type "list", data := .seq #[] }).push { cls := .type "dict", data := .dict #[] }).get? D = some (lsO [] 0) := Kp.push _ _ _ (by rw [hD]; exact Heap.get?_push_size _ rfl)
  have hns : ((s₂.heap.push { cls := .type "list", data := .seq #[] }).push { cls := .type "dict", data := .dict #[] }).Ns (D + 1) (fun _ => none) := by
    have := Heap.Ns.new (s₂.heap.push { cls := .type "list", data := .seq #[] }) (.type "dict")
    rwa [hsz] at this
  generalize hh3 : (s₂.heap.push { cls := .type "list", data := .seq #[] }).push { cls := .type "dict", data := .dict #[] } = h3 at *
  have nD : s.heap.get? D = none := Kp.none g.kp (get_none_of_le (by lia))
  have nC : s.heap.get? (D + 1) = none := Kp.none g.kp (get_none_of_le (by lia))
  have F1 : Fm K s B (D + 1) { s₂ with heap := h3 } [] ((L, oL) :: ob) := F.enter (s' := { s₂ with heap := h3 }) hoL (g.kp.trans k1) ⟨g.sm.gens, g.sm.drawn, g.sm.os⟩ ⟨_, hns, fun x v e => by cases e⟩ nC
  have F2 : Fm K s B (D + 1) { s₂ with heap := h3 } [] ((D, lsO [] 0) :: (L, oL) :: ob) := by
    refine ⟨F1.gd, F1.ns, F1.kp, F1.no, fun p hp => ?_, ?_, F1.sm⟩
    · rcases List.mem_cons.mp hp with rfl | hp
      · exact ⟨kD, Nat.ne_of_lt (Nat.lt_succ_self _), Kp.none F.kp nD⟩
      · exact F1.obs p hp
    · rw [List.map_cons, List.nodup_cons]
      refine ⟨fun q => ?_, F1.nd⟩
      obtain ⟨p, hp, e⟩ := List.mem_map.mp q
      have e : p.1 = D := e
      have : s.heap.get? p.1 = some p.2 := by
        rcases List.mem_cons.mp hp with rfl | hp
        · exact hoL
        · exact (F.obs p hp).1
      rw [e, nD] at this; cases this
  have F4 := F2.cells scope.names
  rw [show ({ s₂ with heap := h3 } : Shared).heap.objs.size = D + 1 + 1 from hsz2] at F4
  have F5 : Fm K s B (D + 1) { s₂ with heap := pushCells h3 scope.names } [] ((D, lsO [] 0) :: (cellOb (D + 1 + 1) scope.names [] ++ (L, oL) :: ob)) := by
    rw [show ((D, lsO [] 0) :: (L, oL) :: ob) = [] ++ ((D, lsO [] 0) :: (L, oL) :: ob) from rfl, cellOb_app] at F4
    exact F4.perm List.perm_middle
  obtain ⟨oI, hoI⟩ := hal _ _ st
  have lI := Heap.lt_size hoI
  have k3 : Kp s₂.heap (pushCells h3 scope.names) := k1.trans (pushCells_keeps _ _)
  have st4 : St 0 (pushCells h3 scope.names) := W.frame 0 s₂.heap _ st fun b _ o e => k3 b o e
  have hobI : I ∉ List.map Prod.fst ((D, lsO [] 0) :: (cellOb (D + 1 + 1) scope.names [] ++ (L, oL) :: ob)) := fun q => by
    obtain ⟨p, hp, e⟩ := List.mem_map.mp q
    have e : p.1 = I := e
    rcases List.mem_cons.mp hp with rfl | hp
    · exact absurd lI (by rw [← e, hD]; exact Nat.lt_irrefl _)
    · rcases List.mem_append.mp hp with hp | hp
      · have := cellOb_lt (I := I) scope.names (D + 1 + 1) [] (by intro p hp; cases hp) (Nat.lt_succ_of_lt (Nat.lt_succ_of_lt (by rw [hD]; exact lI))) p hp
        exact absurd this (by rw [e]; exact Nat.lt_irrefl _)
      · have : s.heap.get? p.1 = some p.2 := by
          rcases List.mem_cons.mp hp with rfl | hp
          · exact hoL
          · exact (F.obs p hp).1
        rw [e, hI] at this; cases this
  have loop : codeAny (model prog w) A (.compLoop (.ListComp elt [⟨target, iter, ifs, 0⟩] scope pos) 0 (.ref I) (.ref D) (cenvOf scope (cellsFrom (D + 1 + 1) scope.names cl) (D + 1) env)) (compPost (model prog w) A E none Q (.ref D) (D + 1)) { s₂ with heap := pushCells h3 scope.names } := by
    refine codeAny_mono (comp_loop W hfp hal hn F5 st4 (Kp.none F.kp hI) (Nat.ne_of_lt (Nat.lt_succ_of_lt (by rw [hD]; exact lI))) hobI (inv (D + 1)) (h0 (D + 1) oL hoL) (fun i B₁ s' l ob ys k ex v => step (D + 1) D i B₁ s' l ob ys k ex v)
      (Q := fun s' => ∃ m, s'.heap.Ns (D + 1) m ∧ ∀ h', Heap.SameBut (D + 1) s'.heap h' → Q (.ref D) { s' with heap := h' }) (fun B₁ s' l₁ ob₁ ys k kB hinv F' => ?_) (ht I)) fun r s' hr => ?_
    · obtain ⟨m, n, _⟩ := F'.ns
      refine ⟨m, n, fun h' hs => fin (D + 1) D _ B₁ ys k l₁ ob₁ kB hinv fun oL' hoL' hm => ?_⟩
      have DL := F'.obs (L, oL') (.tail _ (hm _ (.head _)))
      have DD := F'.obs (D, lsO ys k) (.head _)
      have nd := F'.nd
      rw [List.map_cons, List.nodup_cons] at nd
      have F3 : Fm K s₀ B₁ L { s' with heap := h' } l ((D, lsO ys k) :: ob) := by
        refine ⟨F.gd.kp kB, F.ns.keeps fun o e => ?_, fun b o e => (hs.2 b (by rintro rfl; rw [F'.no] at e; cases e)).trans (F'.kp b o e), DL.2.2, fun p hp => ?_, ?_, F.sm.trans ⟨F'.sm.gens, F'.sm.drawn, F'.sm.os⟩⟩
        · rw [hoL'] at e; cases e; exact (hs.2 L DL.2.1).trans DL.1
        · rcases List.mem_cons.mp hp with rfl | hp
          · exact ⟨(hs.2 D DD.2.1).trans DD.1, fun q => nd.1 (by show D ∈ _; rw [show D = L from q]; exact (List.mem_map_of_mem (hm (L, oL') (.head _)) : L ∈ List.map Prod.fst ob₁)), DD.2.2⟩
          · have DP := F'.obs p (.tail _ (hm _ (.tail _ hp)))
            exact ⟨(hs.2 _ DP.2.1).trans DP.1, (F.obs p hp).2.1, DP.2.2⟩
        · rw [List.map_cons, List.nodup_cons]
          refine ⟨fun q => ?_, F.nd⟩
          obtain ⟨p, hp, e⟩ := List.mem_map.mp q
          exact nd.1 (by show D ∈ _; rw [show D = p.1 from e.symm]; exact (List.mem_map_of_mem (hm p (.tail _ hp)) : p.1 ∈ List.map Prod.fst ob₁))
      exact F3.freeze0
    · obtain ⟨rfl, hq⟩ := hr
      exact hq
  exact codeAny_compStart_list loop (W.self 0 _ _ _ st4 loop)
end
end Mine
end
section
open PySem PySem.W PyProof.Rows PySem.Calls PySem.Spec
set_option maxRecDepth 100000
namespace Mine
abbrev Rd (h : Heap) (v : Value) (d : PyData) : Prop := ∃ as, Reads h v d as
inductive All2 {α β : Type} (R : α → β → Prop) : List α → List β → Prop
  | nil : All2 R [] []
  | cons {a : α} {b : β} {r : List α} {t : List β} : R a b → All2 R r t → All2 R (a :: r) (b :: t)
section
variable {α β γ : Type} {R S : α → β → Prop} {xs : List α} {ys : List β}
theorem All2.imp (f : ∀ a b, R a b → S a b) : ∀ {xs : List α} {ys : List β}, All2 R xs ys → All2 S xs ys
  | _, _, .nil => .nil
  | _, _, .cons h r => .cons (f _ _ h) (r.imp f)
theorem All2.length : ∀ {xs : List α} {ys : List β}, All2 R xs ys → xs.length = ys.length
  | _, _, .nil => rfl
  | _, _, .cons _ r => by rw [List.length_cons, List.length_cons, r.length]
theorem All2.append : ∀ {xs xs' : List α} {ys ys' : List β}, All2 R xs ys → All2 R xs' ys' → All2 R (xs ++ xs') (ys ++ ys')
  | _, _, _, _, .nil, h => h
  | _, _, _, _, .cons h r, k => .cons h (r.append k)
theorem All2.get : ∀ {xs : List α} {ys : List β} {i : Nat} {a : α}, All2 R xs ys → xs[i]? = some a → ∃ b, ys[i]? = some b ∧ R a b
  | _, _, i, _, .nil, e => by simp at e
  | _, _, 0, _, .cons h r, e => by simp at e; subst e; exact ⟨_, rfl, h⟩
  | _, _, i + 1, _, .cons h r, e => by
    rw [List.getElem?_cons_succ] at e ⊢; exact r.get e
theorem All2.get' : ∀ {xs : List α} {ys : List β} {i : Nat} {b : β}, All2 R xs ys → ys[i]? = some b → ∃ a, xs[i]? = some a ∧ R a b
  | _, _, i, _, .nil, e => by simp at e
  | _, _, 0, _, .cons h r, e => by simp at e; subst e; exact ⟨_, rfl, h⟩
  | _, _, i + 1, _, .cons h r, e => by
    rw [List.getElem?_cons_succ] at e ⊢; exact r.get' e
theorem All2.reverse : ∀ {xs : List α} {ys : List β}, All2 R xs ys → All2 R xs.reverse ys.reverse
  | _, _, .nil => .nil
  | _, _, .cons h r => by rw [List.reverse_cons, List.reverse_cons]; exact r.reverse.append (.cons h .nil)
theorem All2.unmap {f : γ → α} : ∀ {xs : List γ} {ys : List β}, All2 R (xs.map f) ys → All2 (fun c b => R (f c) b) xs ys
  | [], _, .nil => .nil
  | _ :: _, _, .cons h r => .cons h r.unmap
theorem All2.mapI {f : γ → α} {T : γ → β → Prop} : ∀ {xs : List γ} {ys : List β}, All2 T xs ys → (∀ c b, T c b → R (f c) b) → All2 R (xs.map f) ys
  | _, _, .nil, _ => .nil
  | _, _, .cons h r, g => .cons (g _ _ h) (r.mapI g)
end
abbrev RdL (h : Heap) (ds : List PyData) (vs : List Value) : Prop := All2 (fun d v => Rd h v d) ds vs
theorem Rd.kp {h h' : Heap} {v : Value} {d : PyData} (r : Rd h v d) (k : Kp h h') : Rd h' v d := let ⟨as, r⟩ := r; ⟨as, Reads.keeps k r⟩
theorem RdL.kp {h h' : Heap} {vs : List Value} {ds : List PyData} (r : RdL h ds vs) (k : Kp h h') : RdL h' ds vs := r.imp fun _ _ x => x.kp k
theorem Rd.int {h : Heap} {i : Int} {t : Tok} : Rd h (.int i t) (.int i) := ⟨_, .int i t⟩
theorem Rd.bool {h : Heap} {b : Bool} : Rd h (.bool b) (.bool b) := ⟨_, .bool b⟩
theorem Rd.str {h : Heap} {x : Str} {t : Tok} : Rd h (.str x t) (.str x) := ⟨_, .str x t⟩
theorem RdL.all {h : Heap} {vs : List Value} {ds : List PyData} (r : RdL h ds vs) : ∃ as, ReadsAll h vs ds as := by
  induction r with
  | nil => exact ⟨_, .nil⟩
  | cons h _ ih => obtain ⟨a, h⟩ := h; obtain ⟨b, k⟩ := ih; exact ⟨_, .cons h k⟩
theorem RdL.of {h : Heap} : ∀ {vs : List Value} {ds : List PyData} {as : List Addr}, ReadsAll h vs ds as → RdL h ds vs
  | _, _, _, .nil => .nil
  | _, _, _, .cons h r => .cons ⟨_, h⟩ (RdL.of r)
theorem Rd.list {h : Heap} {a : Addr} {vs : List Value} {n : Nat} {ds : List PyData} (ha : h.get? a = some (lsO vs n)) (r : RdL h ds vs) : Rd h (.ref a) (.list ds) :=
  let ⟨as, r⟩ := r.all; ⟨_, .list ha rfl rfl (by simpa using r)⟩
theorem Rd.tup {h : Heap} {a : Addr} {vs : List Value} {ds : List PyData} (ha : h.get? a = some (tpO vs)) (r : RdL h ds vs) : Rd h (.ref a) (.tuple ds) :=
  let ⟨as, r⟩ := r.all; ⟨_, .tuple ha rfl rfl (by simpa using r)⟩
theorem Rd.isList {h : Heap} {v : Value} {ds : List PyData} (r : Rd h v (.list ds)) : ∃ a vs, v = .ref a ∧ h.IsList a vs ∧ RdL h ds vs.toList := by
  obtain ⟨as, r⟩ := r
  obtain ⟨a, vs, bs, e, h1, h2, _⟩ := isList_of_reads r
  exact ⟨a, vs, e, h1, RdL.of h2⟩
theorem Rd.isTup {h : Heap} {v : Value} {ds : List PyData} (r : Rd h v (.tuple ds)) : ∃ a vs, v = .ref a ∧ IsTup h a vs ∧ RdL h ds vs.toList := by
  obtain ⟨as, r⟩ := r
  cases r with
  | tuple h1 h2 h3 h4 => exact ⟨_, _, rfl, ⟨_, h1, h2, _, h3⟩, RdL.of h4⟩
theorem Rd.int_inv {h : Heap} {v : Value} {i : Int} (r : Rd h v (.int i)) : ∃ t, v = .int i t := by obtain ⟨as, r⟩ := r; cases r; exact ⟨_, rfl⟩
theorem Rd.str_inv {h : Heap} {v : Value} {i : Str} (r : Rd h v (.str i)) : ∃ t, v = .str i t := by obtain ⟨as, r⟩ := r; cases r; exact ⟨_, rfl⟩
theorem RdL.ints {h : Heap} : ∀ {vs : List Value} {ns : List Int}, IntsAre vs ns → RdL h (ns.map .int) vs
  | _, _, .nil => .nil
  | _, _, .cons i t r => .cons Rd.int (RdL.ints r)
theorem RdL.toInts {h : Heap} : ∀ {vs : List Value} {ns : List Int}, RdL h (ns.map .int) vs → IntsAre vs ns
  | _, [], .nil => .nil
  | _, _ :: _, .cons x r => by obtain ⟨t, rfl⟩ := x.int_inv; exact .cons _ _ (RdL.toInts r)
abbrev dIs (ns : List Int) : PyData := .list (ns.map .int)

inductive RmO (a : Addr) (o : Obj) : Ob → Ob → Prop
  | head (r : Ob) : RmO a o ((a, o) :: r) r
  | tail (p : Addr × Obj) {r r' : Ob} : RmO a o r r' → RmO a o (p :: r) (p :: r')
theorem RmO.perm {a : Addr} {o : Obj} : ∀ {l l' : Ob}, RmO a o l l' → List.Perm l ((a, o) :: l')
  | _, _, .head r => .refl _
  | _, _, .tail p r => (r.perm.cons p).trans (.swap _ _ _)
section
variable {K : Frag} {s₀ s : Shared} {B : Heap} {L : Addr} {l : Ls} {ob ob' : Ob}
theorem Fm.freezeAt {a : Addr} {o : Obj} (F : Fm K s₀ B L s l ob) (U : RmO a o ob ob') : ∃ B', Kp B B' ∧ Fm K s₀ B' L s l ob' ∧ B'.get? a = some o := (F.perm U.perm).freeze0
end

section
variable {prog : Program} {w : World} {A : Around} {E : Value → Shared → Prop} {s₀ s : Shared} {env : Env} {K : Frag} {B : Heap} {L : Addr} {l : Ls} {ob ob' : Ob}
theorem nm_freeB {x : Str} {pos : Pos} {c : Addr} {v : Value} {Q : Value → Shared → Prop} (F : Fm K s₀ B L s l ob) (hl : env.kindOf x = some .free) (hc : env.cells.lookup x = some c) (hv : B.get? c = some (cellO (some v))) (h : Q v s)
    (hk : env.scope.kind = .function) (hd : (x == ("__debug__" : Str)) = false) (hn : (x == ("__classdict__" : Str)) = false) : wpAny (model prog w) A (eval (.Name x pos) env) Q E s :=
  wpAny_Name (wpAny_loadName_free hk hl hc ⟨_, F.kp _ _ hv, rfl⟩ h hn) hd
theorem nm_cellB {x : Str} {pos : Pos} {c : Addr} {v : Value} {Q : Value → Shared → Prop} (F : Fm K s₀ B L s l ob) (hl : env.kindOf x = some .cell) (hc : env.cells.lookup x = some c) (hv : B.get? c = some (cellO (some v))) (h : Q v s)
    (hk : env.scope.kind = .function) (hd : (x == ("__debug__" : Str)) = false) : wpAny (model prog w) A (eval (.Name x pos) env) Q E s :=
  wpAny_Name (wpAny_loadName_cell hk hl hc ⟨_, F.kp _ _ hv, rfl⟩ h) hd
theorem nm_cellO {x : Str} {pos : Pos} {c : Addr} {v : Value} {Q : Value → Shared → Prop} (F : Fm K s₀ B L s l ob) (hl : env.kindOf x = some .cell) (hc : env.cells.lookup x = some c) (hv : (c, cellO (some v)) ∈ ob) (h : Q v s)
    (hk : env.scope.kind = .function) (hd : (x == ("__debug__" : Str)) = false) : wpAny (model prog w) A (eval (.Name x pos) env) Q E s :=
  wpAny_Name (wpAny_loadName_cell hk hl hc ⟨_, F.get hv, rfl⟩ h) hd
theorem st_cell {x : Str} {c : Addr} {v₀ : Option Value} {v : Value} {Q : Unit → Shared → Prop} (F : Fm K s₀ B L s l ob) (hl : env.kindOf x = some .cell) (hc : env.cells.lookup x = some c) (U : UpO c (cellO v₀) (cellO (some v)) ob ob')
    (h : ∀ s', Fm K s₀ B L s' l ob' → Q () s') (hk : env.scope.kind = .function) : wpAny (model prog w) A (storeName env x v) Q E s := by
  unfold storeName
  simp only [hl, hk]
  refine wpAny_bind (wpAny_cellOf hc ?_)
  have ho := F.get U.mem
  unfold cellSet
  refine wpAny_bind (wpAny_load ho ?_)
  exact wpAny_update ho (h _ (F.up (s' := { s with heap := _ }) U (Heap.SameBut.update ..) (Heap.get?_update_self _ ho rfl) ⟨rfl, rfl, rfl⟩))
end

/-- a value that may be walked: its items one by one -/
abbrev ItL {α : Type} (prog : Program) (w : World) (A : Around) (B : Heap) (s : Shared) (x : Value) (xs : List α) (P : α → Value → Prop) : Prop := Iters prog w A B s x xs.length (fun i v => ∃ a, xs[i]? = some a ∧ P a v)
section
variable {prog : Program} {w : World} {A : Around} {E : Value → Shared → Prop} {s₀ s : Shared} {env : Env} {K : Frag} {B : Heap} {L : Addr} {l : Ls} {ob : Ob} {Q : Value → Shared → Prop}
theorem Iters.mono {x : Value} {n : Nat} {P P' : Nat → Value → Prop} {B B' : Heap} (it : Iters prog w A B s x n P) (h : ∀ i v, i < n → P i v → P' i v) (k : Kp B B') : Iters prog w A B' s x n P' := by
  intro Q E hQ
  refine it Q E fun I fp St s' W st hfp hal hI g => hQ I fp St s' ?_ st (fun b hb => ?_) hal hI g
  · exact ⟨W.sub, W.frame, fun i s Q E hi hs hq => W.item i s Q E hi hs fun v h' tk hp => hq v h' tk (h i v hi hp), W.done, W.self⟩
  · rcases hfp b hb with e | ⟨o, e⟩
    · exact .inl e
    · exact .inr ⟨o, k _ _ e⟩
theorem it_all {α : Type} {B : Heap} {a : Addr} {vs : Array Value} {xs : List α} {P : α → Value → Prop} (hh : A.handled = none) (k : Kp B s.heap) (h : B.IsList a vs) (h2 : All2 P xs vs.toList) : ItL prog w A B s (.ref a) xs P := by
  have := it_list (prog := prog) (w := w) (A := A) hh k h
  rw [show vs.size = xs.length from by rw [h2.length]; simp] at this
  exact this.mono (fun i v _ e => h2.get' (by rw [Array.getElem?_toList]; exact e)) Kp.rfl
theorem itl_range {B : Heap} {r : Addr} {n : Nat} {f : Nat → Int} (it : Iters prog w A B s (.ref r) n (fun i v => ∃ t, v = .int (f i) t)) : ItL prog w A B s (.ref r) (List.range n) (fun i v => ∃ t, v = .int (f i) t) := by
  unfold ItL
  rw [List.length_range]
  exact it.mono (fun i v hi h => ⟨i, by rw [List.getElem?_range hi], h⟩) Kp.rfl

theorem comp_list {α β : Type} {elt target iter : Expr} {ifs : List Expr} {scope : Scope} {pos : Pos} {cl : List (Str × Addr)} {xv : Value} {xs : List α} {P : α → Value → Prop} (F : Fm K s₀ B L s l ob) (it : ItL prog w A B s xv xs P) (hn : xs.length ≤ sizeLine)
    (f : α → β) (t : α → Bool) (S : Heap → β → Value → Prop) (mono : ∀ h h' b v, Kp h h' → S h b v → S h' b v)
    (cobs : Addr → Ob → Prop) (hc0 : ∀ C, cobs C (cellOb (C + 1) scope.names []))
    (step : ∀ C B₁ s' ob₁ ex a v, a ∈ xs → Kp B B₁ → P a v → cobs C ob₁ → (∀ p ∈ ob, p ∈ ob₁ ++ ex) → Fm K s B₁ C s' [] (ob₁ ++ ex) →
      wpAny (model prog w) A (assign target (cenvOf scope (cellsFrom (C + 1) scope.names cl) C env) v) (fun _ s₂ => wpAny (model prog w) A (testsOf ifs (cenvOf scope (cellsFrom (C + 1) scope.names cl) C env)) (fun ok s₃ => ok = t a ∧ if ok = true
        then wpAny (model prog w) A (eval elt (cenvOf scope (cellsFrom (C + 1) scope.names cl) C env)) (fun y s₄ => ∃ B₂ ob' l', Kp B₁ B₂ ∧ cobs C ob' ∧ S B₂ (f a) y ∧ Fm K s B₂ C s₄ l' (ob' ++ ex)) (fun _ _ => False) s₃
        else ∃ ob' l', cobs C ob' ∧ Fm K s B₁ C s₃ l' (ob' ++ ex)) (fun _ _ => False) s₂) (fun _ _ => False) s')
    (fin : ∀ D s' B' ys k, Kp B B' → Fm K s₀ B' L s' l ob → B'.get? D = some (lsO ys k) → All2 (S B') ((xs.filter t).map f) ys → Q (.ref D) s')
    (ht : ∀ I v, letOwnedTupleGo target (.ref I) v = pure ()) : CompGo prog w A elt target iter ifs scope pos cl env Q E xv s := by
  refine comp_go F it hn (fun C i B₁ ys l₁ ob₁ => l₁ = [] ∧ (∃ ob₂ oL, s.heap.get? L = some oL ∧ ob₁ = ob₂ ++ (L, oL) :: ob ∧ cobs C ob₂) ∧ All2 (S B₁) (((xs.take i).filter t).map f) ys) (fun C oL hL => ⟨rfl, ⟨_, oL, hL, rfl, hc0 C⟩, by simp; exact .nil⟩) ?_ ?_ ht
  · rintro C D i B₁ s' l ob₁ ys k ex v hi kB ⟨rfl, ⟨ob₂, oL, hL, rfl, hcb⟩, hall⟩ ⟨a, ha, hP⟩ F'
    have hm : a ∈ xs := List.mem_of_getElem? ha
    have hp : ∀ ob₂ : Ob, List.Perm ((D, lsO ys k) :: (ob₂ ++ (L, oL) :: ob) ++ ex) (ob₂ ++ ((D, lsO ys k) :: (((L, oL) :: ob) ++ ex))) := fun ob₂ => by
      rw [List.cons_append, List.append_assoc]; exact List.perm_middle.symm
    have htk : xs.take (i + 1) = xs.take i ++ [a] := by rw [List.take_add_one, ha]; rfl
    refine wpAny_mono (step C B₁ s' ob₂ _ a v hm kB hP hcb (fun p hp => List.mem_append_right _ (.tail _ (.tail _ (List.mem_append_left _ hp)))) (F'.perm (hp ob₂))) (fun _ s₂ h₂ => wpAny_mono h₂ (fun ok s₃ h₃ => ?_) fun _ _ x => x) fun _ _ x => x
    obtain ⟨e, h₃⟩ := h₃
    cases ok with
    | false =>
      obtain ⟨ob', l', hc', F3⟩ := h₃
      refine ⟨B₁, [], _, Kp.rfl, ⟨rfl, ⟨ob', oL, hL, rfl, hc'⟩, ?_⟩, (F3.sub (l' := []) trivial).perm (hp ob').symm⟩
      rw [htk, List.filter_append]; simpa [← e] using hall
    | true =>
      refine wpAny_mono h₃ (fun y s₄ h₄ => ?_) fun _ _ x => x
      obtain ⟨B₂, ob', l', k2, hc', hS, F4⟩ := h₄
      refine ⟨B₂, [], _, k2, ⟨rfl, ⟨ob', oL, hL, rfl, hc'⟩, ?_⟩, (F4.sub (l' := []) trivial).perm (hp ob').symm⟩
      rw [htk, List.filter_append, List.map_append]
      refine (hall.imp fun _ _ z => mono _ _ _ _ k2 z).append ?_
      simp [← e]
      exact .cons hS .nil
  · rintro C D s' B₁ ys k l₁ ob₁ kB ⟨rfl, ⟨ob₂, oL, hL, rfl, _⟩, hall⟩ back
    rw [List.take_length] at hall
    obtain ⟨B₂, k2, F2, hD⟩ := back oL hL fun p hp => List.mem_append_right _ hp
    exact fin D s' B₂ ys k (kB.trans k2) F2 hD (hall.imp fun _ _ z => mono _ _ _ _ k2 z)
end
end Mine
end
section
open PySem PySem.W PyProof.Rows PySem.Calls PySem.Spec
set_option maxRecDepth 100000
namespace Mine
section
variable {prog : Program} {w : World} {A : Around} {E : Value → Shared → Prop} {s₀ s : Shared} {env : Env} {K : Frag} {B : Heap} {L : Addr} {l : Ls} {ob ob' : Ob} {Q : Value → Shared → Prop}
theorem moved_gr {s s₂ s' : Shared} {I : Addr} {G : Array GenState → Array GenState → Prop} (hG : ∀ a b, G a b → b = a) (g : Gr s s₂) (hI : s.heap.get? I = none) (m : Moved [I] G s₂ s') : Gr s s' :=
  ⟨g.sm.trans ⟨hG _ _ m.gens, m.drawn, m.os⟩, fun b o e => m.heap b o (by
    intro q
    rw [List.mem_singleton.mp q, hI] at e; cases e) (g.kp _ _ e)⟩
theorem moved_push {s s' : Shared} {o : Obj} (m : Moved [s.heap.objs.size] (fun a b => b = a) { s with heap := s.heap.push o } s') : Gr s s' :=
  moved_gr (s₂ := { s with heap := s.heap.push o }) (fun _ _ e => e) ⟨⟨rfl, rfl, rfl⟩, Kp.push _⟩ (get_none_of_le (Nat.le_refl _)) m
theorem preSum_ints (ns : List Int) : ∀ j, preSum (fun i => ns.getD i 0) j = (ns.take j).sum
  | 0 => by simp [preSum]
  | j + 1 => by rw [preSum, preSum_ints ns j, PySem.sum_take_succ]
theorem b_sum {a : Addr} {vs : Array Value} {ns : List Int} (F : Fm K s₀ B L s l ob) (hh : A.handled = none) (ha : s.heap.IsList a vs) (hI : IntsAre vs.toList ns)
    (h : ∀ t s', Fm K s₀ B L s' l ob → Q (.int ns.sum t) s') : wpAny (model prog w) A (call (.builtin "sum") [.ref a]) Q E s := by
  refine call_sum_walkAnyS ?_
  have hlt : a < s.heap.objs.size := let ⟨o, ho, _⟩ := ha; Heap.lt_size ho
  have hlen : vs.size = ns.length := by simpa using hI.length
  refine wpAny_pyIter_list ha ⟨s.heap.objs.size, _, _, _, _, _, _, fun i => ns.getD i 0, rfl, (Walks.list (A := A.in1) hh _ a (Nat.ne_of_lt hlt) vs).toS, ⟨⟨_, Heap.get?_push_size _ rfl, rfl, rfl⟩, ha.push _⟩, ?_, ?_, ?_⟩
  · intro b hb
    rw [Heap.size_push]
    rcases List.mem_cons.mp hb with e | hb
    · rw [e]; exact Nat.lt_succ_self _
    · rw [List.mem_singleton.mp hb]; exact Nat.lt_succ_of_lt hlt
  · intro i v e
    have hi : i < ns.length := by rw [← hlen]; exact (Array.getElem?_eq_some_iff.mp e).1
    obtain ⟨u, hx⟩ := hI.get i (ns.getD i 0) (by rw [List.getD_eq_getElem?_getD, List.getElem?_eq_getElem hi]; rfl)
    rw [Array.getElem?_toList] at hx
    have e : vs[i]? = some v := e
    rw [hx] at e; cases e
    exact ⟨u, rfl⟩
  · intro s' t' m
    rw [preSum_ints, hlen, List.take_length]
    exact h _ _ (F.gr (moved_push m))
/-- a part of a list -/
theorem e_slice {lower upper step : Option Expr} {p : Pos} (h : wpAny (model prog w) A (evalPart lower env) (fun v₁ s₁ => wpAny (model prog w) A (evalPart upper env) (fun v₂ s₂ => wpAny (model prog w) A (evalPart step env) (fun v₃ s₃ =>
      ∀ S s₄, Gr s₃ s₄ → s₄.heap.IsSliceOf S v₁ v₂ v₃ → Q (.ref S) s₄) E s₂) E s₁) E s) : wpAny (model prog w) A (eval (.Slice lower upper step p) env) Q E s :=
  wpAny_Slice (wpAny_mono h (fun _ _ h₁ => wpAny_mono h₁ (fun _ _ h₂ => wpAny_mono h₂ (fun _ _ h₃ => h₃ _ _ ⟨⟨rfl, rfl, rfl⟩, Kp.push _⟩ (Heap.IsSliceOf.new ..)) fun _ _ x => x) fun _ _ x => x) fun _ _ x => x)
theorem ep_none (h : Q .none s) : wpAny (model prog w) A (evalPart none env) Q E s := wpAny_pure h
theorem ep_some {e : Expr} (h : wpAny (model prog w) A (eval e env) Q E s) : wpAny (model prog w) A (evalPart (some e) env) Q E s := h
theorem sub_slice {value slice : Expr} {a S : Addr} {items : Array Value} {v₁ v₂ v₃ : Value} {lo hi st : Option Int} {ops : List Value} (F : Fm K s₀ B L s l ob) (ha : s.heap.IsList a items) (hS : s.heap.IsSliceOf S v₁ v₂ v₃) (p1 : IsPart v₁ lo) (p2 : IsPart v₂ hi) (p3 : IsPart v₃ st) (h0 : st ≠ some 0) (hz : items.size ≤ sizeLine)
    (h : ∀ D s', Fm K s₀ B L s' l ((D, lsO (slicePick items lo hi st).toList 0) :: ob) → Q (.ref D) s')
    (hs : subscripted slice false (.ref a) (.ref S) = operate ops (getItem (.ref a) (.ref S))) : wpAny (model prog w) A (subscriptTail value slice (.ref a) (.ref S)) Q E s :=
  tail_any ha.typeIs slot_list_getitem.lookup (wpAny_getItem_list_slice ha hS p1 p2 p3 h0 (h _ _ (by simpa using F.push (lsO (slicePick items lo hi st).toList 0) rfl s.toks)) hz) hs
/-- == and != by data -/
theorem eq_D {a b : Value} {da db : PyData} {k : Nat} (F : Fm K s₀ B L s l ob) (ra : Rd s.heap a da) (rb : Rd s.heap b db) (ha : SeqAt.shaped da = true) (hb : SeqAt.shaped db = true) (R : Rm A (k + 5)) (h : Q (.bool (PyData.eqv da db)) s) : wpAny (model prog w) A (compareOp .Eq a b) Q E s :=
  let ⟨_, x⟩ := ra; let ⟨_, y⟩ := rb; eq_dataH x y ha hb (by have := R.u; lia) h
theorem ne_D {a b : Value} {da db : PyData} {k : Nat} (F : Fm K s₀ B L s l ob) (ra : Rd s.heap a da) (rb : Rd s.heap b db) (ha : SeqAt.shaped da = true) (hb : SeqAt.shaped db = true) (R : Rm A (k + 5)) (h : Q (.bool (!PyData.eqv da db)) s) : wpAny (model prog w) A (compareOp .NotEq a b) Q E s :=
  let ⟨_, x⟩ := ra; let ⟨_, y⟩ := rb; ne_dataH x y ha hb (by have := R.u; lia) h
theorem in_D {c x : Value} {xs : List PyData} {d : PyData} {k : Nat} (F : Fm K s₀ B L s l ob) (ra : Rd s.heap c (.list xs)) (rb : Rd s.heap x d) (ha : SeqAt.shaped (.list xs) = true) (hb : SeqAt.shaped d = true) (R : Rm A (k + 5)) (h : Q (.bool (xs.any fun y => PyData.eqv y d)) s) : wpAny (model prog w) A (compareOp .In x c) Q E s :=
  let ⟨_, p⟩ := ra; let ⟨_, q⟩ := rb; SeqAt.in_list_reads p q (SeqAt.canLay_of_shaped ha) (SeqAt.canLay_of_shaped hb) (room_in_shaped hb (by have := R.u; lia)) h
theorem notin_D {c x : Value} {xs : List PyData} {d : PyData} {k : Nat} (F : Fm K s₀ B L s l ob) (ra : Rd s.heap c (.list xs)) (rb : Rd s.heap x d) (ha : SeqAt.shaped (.list xs) = true) (hb : SeqAt.shaped d = true) (R : Rm A (k + 5)) (h : Q (.bool (!(xs.any fun y => PyData.eqv y d))) s) : wpAny (model prog w) A (compareOp .NotIn x c) Q E s :=
  let ⟨_, p⟩ := ra; let ⟨_, q⟩ := rb; SeqAt.notIn_list_reads p q (SeqAt.canLay_of_shaped ha) (SeqAt.canLay_of_shaped hb) (room_in_shaped hb (by have := R.u; lia)) h
theorem b_lenD {v : Value} {ds : List PyData} (F : Fm K s₀ B L s l ob) (r : Rd s.heap v (.list ds)) (hf : ds.length < 2 ^ 62)
    (h : ∀ u s', Fm K s₀ B L s' l ob → Q (.int ds.length u) s') : wpAny (model prog w) A (call (.builtin "len") [v]) Q E s := by
  obtain ⟨a, vs, rfl, h1, h2⟩ := r.isList
  have e : vs.size = ds.length := by rw [h2.length]; simp
  refine b_len_list F h1 (by lia) fun u s' F => ?_
  rw [e]; exact h u s' F
theorem sub_D {value slice : Expr} {v : Value} {ds : List PyData} {k : Int} {u : Tok} {d : PyData} (F : Fm K s₀ B L s l ob) (r : Rd B v (.list ds)) (h0 : 0 ≤ k) (h1 : k < 2 ^ 62) (hd : ds[k.toNat]? = some d) (h : ∀ x, Rd B x d → Q x s)
    (hs : ∀ T, subscripted slice false (.ref T) (.int k u) = operate [.ref T, .int k u] (getItem (.ref T) (.int k u))) : wpAny (model prog w) A (subscriptTail value slice v (.int k u)) Q E s := by
  obtain ⟨a, vs, rfl, h1', h2⟩ := r.isList
  obtain ⟨x, hx, rx⟩ := h2.get hd
  exact sub_list (let ⟨o, ho, q⟩ := h1'; ⟨o, F.kp _ _ ho, q⟩) h0 h1 (by rw [← Array.getElem?_toList]; exact hx) (h x rx) (hs a)
theorem subt_D {value slice : Expr} {v : Value} {ds : List PyData} {k : Int} {u : Tok} {d : PyData} (F : Fm K s₀ B L s l ob) (r : Rd B v (.tuple ds)) (h0 : 0 ≤ k) (h1 : k < 2 ^ 62) (hd : ds[k.toNat]? = some d) (h : ∀ x, Rd B x d → Q x s)
    (hs : ∀ T, subscripted slice false (.ref T) (.int k u) = operate [.ref T, .int k u] (getItem (.ref T) (.int k u))) : wpAny (model prog w) A (subscriptTail value slice v (.int k u)) Q E s := by
  obtain ⟨a, vs, rfl, h1', h2⟩ := r.isTup
  obtain ⟨x, hx, rx⟩ := h2.get hd
  exact sub_tup (vs := vs.toList) (by simpa using h1'.keeps F.kp) h0 h1 hx (h x rx) (hs a)
theorem b_isiB {b : Bool} (h : Q (.bool true) s) : wpAny (model prog w) A (call (.builtin "isinstance") [.bool b, .type "bool"]) Q E s := by exact PySem.IsiPair.bool_bool h
/-- texts by their signs -/
abbrev sOf (l : List Nat) : Str := ⟨l.toArray⟩
theorem o_mulS {c : Nat} {n : Int} {t u : Tok} (F : Fm K s₀ B L s l ob) (h1 : -(2 ^ 62) ≤ n) (h2 : n ≤ 1000) (h : ∀ t' s', Fm K s₀ B L s' l ob → Q (.str (sOf (List.replicate n.toNat c)) t') s') : wpAny (model prog w) A (binaryOp .Mult (.str ⟨#[c]⟩ t) (.int n u)) Q E s := by
  refine SB.mul (mulOk_of 1 1000 (Nat.le_refl _) (by omega) (by lia) (by decide) (by decide)) fun t' k => ?_
  · have e : Txt.mul ⟨#[c]⟩ n = sOf (List.replicate n.toNat c) := by
      have := mul_one_list c n
      cases hm : Txt.mul ⟨#[c]⟩ n with
      | mk cps => rw [hm] at this; simp only [sOf]; rw [← this]
    rw [e]
    exact h _ _ (F.gr Gr.tk)
theorem o_addS {x y : List Nat} {t u : Tok} (F : Fm K s₀ B L s l ob) (hz : x.length + y.length ≤ 100000) (h : ∀ t' s', Fm K s₀ B L s' l ob → Q (.str (sOf (x ++ y)) t') s') : wpAny (model prog w) A (binaryOp .Add (.str (sOf x) t) (.str (sOf y) u)) Q E s := by
  refine PyProof.Rows.add_str (fun t' tk => ?_) (by show x.toArray.size + y.toArray.size ≤ sizeLine; rw [sizeLine_eq]; simp; lia)
  have e : (sOf x ++ sOf y) = sOf (x ++ y) := by
    show Str.append _ _ = _
    simp [Str.append]
  rw [e]
  exact h _ _ (F.gr Gr.tk)
end
end Mine
end
section
open PySem PySem.W PyProof.Rows PySem.Calls PySem.Spec
set_option maxRecDepth 100000
namespace Mine
def BindsGo (M : Model) (A : Around) (env : Env) (P : Shared → Prop) : List (Str × Value) → Shared → Prop
  | [], s => P s
  | (x, v) :: r, s => wpAny M A (storeName env x v) (fun _ s' => BindsGo M A env P r s') (fun _ _ => False) s
section
variable {prog : Program} {w : World} {A : Around} {E : Value → Shared → Prop} {s₀ s : Shared} {env : Env} {K : Frag} {B : Heap} {L : Addr} {l : Ls} {ob ob' : Ob} {Q : Value → Shared → Prop} {oL : Obj}
theorem binds_cons {P : Shared → Prop} {x : Str} {v : Value} {r : List (Str × Value)} (h : wpAny (model prog w) A (storeName env x v) (fun _ s' => BindsGo (model prog w) A env P r s') (fun _ _ => False) s) : BindsGo (model prog w) A env P ((x, v) :: r) s := h
theorem binds_nil {P : Shared → Prop} (h : P s) : BindsGo (model prog w) A env P [] s := h
theorem binds_run {P : Shared → Prop} (f : Str × Value → PUnit → Sem (ForInStep PUnit)) (hf : ∀ n v u, f (n, v) u = (do storeName env n v; pure (.yield ⟨⟩))) : ∀ (binds : List (Str × Value)) (s : Shared), BindsGo (model prog w) A env P binds s →
    wpAny (model prog w) A (forIn binds ⟨⟩ f) (fun _ s' => P s') E s
  | [], s, h => by rw [List.forIn_nil]; exact wpAny_pure h
  | (n, v) :: r, s, h => by
    rw [List.forIn_cons, hf]
    exact wpAny_bind (wpAny_bind (wpAny_mono h (fun _ s' h' => wpAny_pure (binds_run f hf r s' h')) fun _ _ x => x.elim))
theorem env_go {scope : Scope} {cl : List (Str × Addr)} {binds : List (Str × Value)} {qual : Str} {f : Addr} {cdv : Value} {Q : Env → Shared → Prop} (F : Fm K s₀ B L s l ob) (hL : s.heap.get? L = some oL)
    (h : ∀ s', Fm K s B s.heap.objs.size s' [] (cellOb (s.heap.objs.size + 1) scope.names [] ++ (L, oL) :: ob) →
      BindsGo (model prog w) A (envX qual scope s.heap.objs.size f cdv (cellsFrom (s.heap.objs.size + 1) scope.names cl)) (fun s'' => Q (envX qual scope s.heap.objs.size f cdv (cellsFrom (s.heap.objs.size + 1) scope.names cl)) s'') binds s') :
    wpAny (model prog w) A (newFunctionEnv scope mainGlobals cl binds (qual ++ ".<locals>.") (some f) cdv none builtinsNs) Q E s := by
  simp only [newFunctionEnv, Option.isSome_none, Bool.false_eq_true, if_false]
  refine wpAny_bind (wpAny_alloc ?_)
  refine wpAny_bind (wpAny_layCells _ (fun name kind cells => by cases hkc : kind == NameKind.cell <;> simp) _ _ _ _ ?_)
  have hz : ({ s with heap := s.heap.push { cls := .type "frame", data := .dict #[] } } : Shared).heap.objs.size = s.heap.objs.size + 1 := Heap.size_push ..
  rw [hz]
  refine wpAny_bind ?_
  have F1 : Fm K s B s.heap.objs.size { s with heap := s.heap.push { cls := .type "frame", data := .dict #[] } } [] ((L, oL) :: ob) :=
    F.enter (s' := { s with heap := s.heap.push { cls := .type "frame", data := .dict #[] } }) hL (Kp.push _) ⟨rfl, rfl, rfl⟩ ⟨_, Heap.Ns.new s.heap (.type "frame"), fun x v e => by cases e⟩ (get_none_of_le (Nat.le_refl _))
  have F2 := F1.cells scope.names
  rw [hz, show ((L, oL) :: ob) = [] ++ ((L, oL) :: ob) from rfl, cellOb_app] at F2
  exact wpAny_mono (binds_run _ (fun _ _ _ => rfl) binds _ (h _ F2)) (fun _ _ h' => wpAny_pure h') fun _ _ x => x
/-- a call of a def, what it makes goes into the ground -/
theorem call_fnG (binds : List (Str × Value)) {name qual : Str} {params : Arguments} {body : List Stmt} {scope : Scope} {cl : List (Str × Addr)} {dV kV doc pm cdv ct oc : Value} {an od : Option Addr} {osl : Array (Option Value)} {f : Addr} {pos : List Value} {kw : List (Str × Value)} {k : Nat}
    (F : Fm K s₀ B L s l ob) (R : Rm A (k + 1))
    (ho : K.lookup f = some ⟨oc, od, .func (fnX name qual params body scope cl dV kV doc pm an cdv ct), osl⟩) (hcd : codeIn K cdv qual = true)
    (hbind : BindsTo s (fnX name qual params body scope cl dV kV doc pm an cdv ct) ⟨pos, kw⟩ binds)
    (h : ∀ L' s' A' A₁ oL, s.heap.get? L = some oL → Fm K s B L' s' [] (cellOb (L' + 1) scope.names [] ++ (L, oL) :: ob) → Rm A' k →
      BindsGo (model prog w) A₁ (envX qual scope L' f cdv (cellsFrom (L' + 1) scope.names cl)) (fun s'' => Gd K s''.heap ∧ wpAny (model prog w) A' (execs body (envX qual scope L' f cdv (cellsFrom (L' + 1) scope.names cl))) (RetTo Q) (fun _ _ => False) s'') binds s')
    (hco : scope.isCoroutine = false) (hgen : scope.isGenerator = false) : wpAny (model prog w) A (call (.ref f) pos kw) Q E s := by
  obtain ⟨oL, hL⟩ := F.ns.get
  have G := F.gdh
  refine wpAny_call ?_
  refine codeAny_call_function (fd := fnX name qual params body scope cl dV kV doc pm an cdv ct) R.room (G.k _ _ ho) rfl hco hgen rfl (codeRec_of G.k hcd) (hbind _ _ _ _ ?_)
  refine env_go F hL fun s' F' => ?_
  have mono : ∀ (bs : List (Str × Value)) (s : Shared) (P P' : Shared → Prop) (A : Around) (env : Env), (∀ s, P s → P' s) → BindsGo (model prog w) A env P bs s → BindsGo (model prog w) A env P' bs s := by
    intro bs
    induction bs with
    | nil => intro s P P' A env hp h; exact hp _ h
    | cons x r ih => intro s P P' A env hp h; exact wpAny_mono h (fun _ s' h' => ih s' P P' A env hp h') fun _ _ x => x
  refine mono _ _ _ _ _ _ (fun s'' hs => ?_) (h _ s' (A.deeper (envX qual scope s.heap.objs.size f cdv (cellsFrom (s.heap.objs.size + 1) scope.names cl))) A.in1 oL hL F' R.deeper)
  refine ⟨hs.1.nl, codeAny_func (wpAny_mono hs.2 (fun fl s' hq => ?_) fun _ _ x => x.elim)⟩
  cases fl <;> exact hq

theorem glue_nil (ls : List (List Nat)) : Builtin.Str.glued (sOf []) (ls.map sOf) = sOf ls.flatten := by
  have q : ∀ (xs : List (List Nat)) (acc : List Nat), List.foldl (fun (acc : Array Nat) (p : Str) => acc ++ (#[] : Array Nat) ++ p.cps) acc.toArray (xs.map sOf) = (acc ++ xs.flatten).toArray := by
    intro xs
    induction xs with
    | nil => intro acc; simp
    | cons x r ih => intro acc; rw [List.map_cons, List.foldl_cons, List.flatten_cons]; have := ih (acc ++ x); simp only [← List.append_assoc] at this ⊢; rw [← this]; simp
  unfold Builtin.Str.glued
  cases ls with
  | nil => rfl
  | cons x r =>
    have := q r x
    simp only [List.map_cons, List.drop_succ_cons, List.drop_zero, List.headD_cons, List.flatten_cons]
    exact congrArg Str.mk this
theorem b_join {D : Addr} {items : Array Value} {t : Tok} {ls : List (List Nat)} (F : Fm K s₀ B L s l ob) (hl : s.heap.IsList D items) (hi : All2 (fun x v => ∃ t, v = Value.str (sOf x) t) ls items.toList) (hw : (ls.map List.length).sum + ls.length ≤ 1048576)
    (h : ∀ t' s', Fm K s₀ B L s' l ob → Q (.str (sOf ls.flatten) t') s') : wpAny (model prog w) A (call (.builtin "str.join") [.str (sOf []) t, .ref D]) Q E s := by
  have hs : ∀ (ls : List (List Nat)) (vs : List Value), All2 (fun x v => ∃ t, v = Value.str (sOf x) t) ls vs → StrsAre vs (ls.map sOf) := by
    intro ls vs h
    induction h with
    | nil => exact .nil
    | cons h _ ih => obtain ⟨t, rfl⟩ := h; exact .cons _ _ ih
  refine join_listW hl (hs _ _ hi) (by decide) ?_ fun t' k => ?_
  · rw [List.map_map, List.length_map]
    have e : ((fun x => Str.length x) ∘ sOf) = List.length := by funext x; show x.toArray.size = _; simp
    rw [show ((·.length) ∘ sOf : List Nat → Nat) = List.length from e]; exact hw
  · show Q (.str (Builtin.Str.glued _ _) t') _
    rw [glue_nil]
    exact h _ _ (F.gr Gr.tk)
theorem gm_join {x : Str} {t : Tok} {pl : Sem Bool} {Q : Value × List Value → Shared → Prop} (h : Q (.builtin "str.join", [.str x t]) s) : wpAny (model prog w) A (getMethod (.str x t) "join" pl) Q E s := by
  exact PySem.GM.join h
theorem tests_nil {Q : Bool → Shared → Prop} (h : Q true s) : wpAny (model prog w) A (testsOf [] env) Q E s := by
  unfold testsOf; rw [List.forIn_nil]; exact wpAny_pure h
theorem tests_one {c : Expr} {Q : Bool → Shared → Prop} (h : wpAny (model prog w) A (isTrue c env (eval c env)) Q E s) : wpAny (model prog w) A (testsOf [c] env) Q E s := by
  unfold testsOf
  rw [List.forIn_cons]
  simp only [if_true]
  refine wpAny_bind (wpAny_bind (wpAny_mono h (fun b s' h' => wpAny_pure ?_) fun _ _ x => x))
  show wpAny _ _ (forIn [] b _) _ _ _
  rw [List.forIn_nil]
  exact wpAny_pure h'
theorem a_name {x : Str} {p : Pos} {v : Value} {Q : Unit → Shared → Prop} (h : wpAny (model prog w) A (storeName env x v) Q E s) : wpAny (model prog w) A (assign (.Name x p) env v) Q E s := wpAny_assign_Name h
theorem it_ints {v : Value} {ns : List Int} (hh : A.handled = none) (k : Kp B s.heap) (r : Rd B v (dIs ns)) : ItL prog w A B s v ns (fun n v => ∃ t, v = .int n t) := by
  obtain ⟨a, vs, rfl, h1, h2⟩ := r.isList
  exact it_all hh k h1 (h2.unmap.imp fun _ _ x => x.int_inv)
theorem ints_of : ∀ {vs : List Value}, (∀ v ∈ vs, ∃ i t, v = .int i t) → ∃ ms, IntsAre vs ms
  | [], _ => ⟨[], .nil⟩
  | v :: r, h => by
    obtain ⟨i, t, rfl⟩ := h v (.head _)
    obtain ⟨ms, q⟩ := ints_of fun x hx => h x (.tail _ hx)
    exact ⟨i :: ms, .cons i t q⟩
theorem ints_mem : ∀ {vs : List Value} {ns : List Int}, IntsAre vs ns → ∀ v ∈ vs, ∃ i t, v = .int i t
  | _, _, .cons i t r, v, hm => by
    rcases List.mem_cons.mp hm with rfl | hm
    · exact ⟨i, t, rfl⟩
    · exact ints_mem r v hm
theorem pick_mem {items : Array Value} {lo hi st : Option Int} {v : Value} (h : v ∈ (slicePick items lo hi st).toList) : v ∈ items.toList := by
  unfold slicePick at h
  simp only [List.mem_filterMap] at h
  obtain ⟨i, _, e⟩ := h
  exact List.mem_of_getElem? (by rw [Array.getElem?_toList]; exact e)
theorem pick_rev (items : Array Value) : slicePick items none none (some (-1)) = items.toList.reverse.toArray := krv_pick items
theorem getI {ns : List Int} {i : Nat} (h : i < ns.length) : (ns.map PyData.int)[i]? = some (.int (ns.getD i 0)) := by
  rw [List.getElem?_map, List.getD_eq_getElem?_getD, List.getElem?_eq_getElem h]; rfl
def closGo (env : Env) : List (Str × NameKind) → List (Str × Addr) → Option (List (Str × Addr))
  | [], cs => some cs
  | (n, .free) :: r, cs => match env.cells.lookup n with | some c => closGo env r ((n, c) :: cs) | none => none
  | _ :: r, cs => closGo env r cs
theorem closureFor_of {scope : Scope} {cl : List (Str × Addr)} (h : closGo env scope.names [] = some cl) : closureFor scope env = pure cl := by
  unfold closureFor
  have q : ∀ (names : List (Str × NameKind)) (cs cl : List (Str × Addr)) (f : Str × NameKind → List (Str × Addr) → Sem (ForInStep (List (Str × Addr)))),
      (∀ n k cs, f (n, k) cs = if (k == .free) = true then (do let a ← cellOf env n; pure (.yield ((n, a) :: cs))) else pure (.yield cs)) → closGo env names cs = some cl → forIn names cs f = (pure cl : Sem _) := by
    intro names
    induction names with
    | nil => intro cs cl f hf h; cases h; rfl
    | cons x r ih =>
      intro cs cl f hf h
      obtain ⟨n, k⟩ := x
      rw [List.forIn_cons, hf]
      cases k with
      | free =>
        simp only [closGo] at h
        cases e : env.cells.lookup n with
        | none => rw [e] at h; cases h
        | some c =>
          rw [e] at h
          rw [if_pos (by decide : (NameKind.free == NameKind.free) = true)]
          unfold cellOf
          rw [e]
          simp only [pure_bind]
          exact ih _ cl f hf h
      | _ =>
        rw [if_neg (by decide)]
        simp only [pure_bind]
        exact ih cs cl f hf h
  refine Eq.trans (congrArg (fun m => m >>= fun cs => pure cs) (q scope.names [] cl _ (fun n k cs => ?_) h)) (pure_bind _ _)
  rfl
theorem e_compC {elt target iter : Expr} {ifs : List Expr} {scope : Scope} {pos : Pos} {cl : List (Str × Addr)} (h : wpAny (model prog w) A (eval iter env) (CompGo prog w A elt target iter ifs scope pos cl env Q E) E s) (hclos : closGo env scope.names [] = some cl) (hkind : scope.kind = .function)
    (hnames : (scope.names.all fun x => decide (x.2 = .local → scope.names.lookup x.1 = some .local)) = true)
    (hs : ∀ x, foldedSetIterable iter env x = pure x) : wpAny (model prog w) A (eval (.ListComp elt [⟨target, iter, ifs, 0⟩] scope pos) env) Q E s := e_comp h (closureFor_of hclos) hkind hnames hs
end
end Mine
end
section
open PySem PySem.W PyProof.Rows PySem.Calls PySem.Spec
set_option maxRecDepth 100000
namespace Mine
section
variable {prog : Program} {w : World} {A : Around} {E : Value → Shared → Prop} {s₀ s : Shared} {env : Env} {K : Frag} {B : Heap} {L : Addr} {l : Ls} {ob : Ob} {Q : Value → Shared → Prop}
theorem comp_map {α β : Type} {elt target iter : Expr} {scope : Scope} {pos : Pos} {cl : List (Str × Addr)} {xv : Value} {xs : List α} {P : α → Value → Prop} (F : Fm K s₀ B L s l ob) (it : ItL prog w A B s xv xs P) (hn : xs.length ≤ sizeLine)
    (f : α → β) (S : Heap → β → Value → Prop) (mono : ∀ h h' b v, Kp h h' → S h b v → S h' b v)
    (cobs : Addr → Ob → Prop) (hc0 : ∀ C, cobs C (cellOb (C + 1) scope.names []))
    (step : ∀ C B₁ s' ob₁ ex a v, a ∈ xs → Kp B B₁ → P a v → cobs C ob₁ → (∀ p ∈ ob, p ∈ ob₁ ++ ex) → Fm K s B₁ C s' [] (ob₁ ++ ex) →
      wpAny (model prog w) A (assign target (cenvOf scope (cellsFrom (C + 1) scope.names cl) C env) v) (fun _ s₂ =>
        wpAny (model prog w) A (eval elt (cenvOf scope (cellsFrom (C + 1) scope.names cl) C env)) (fun y s₄ => ∃ B₂ ob' l', Kp B₁ B₂ ∧ cobs C ob' ∧ S B₂ (f a) y ∧ Fm K s B₂ C s₄ l' (ob' ++ ex)) (fun _ _ => False) s₂) (fun _ _ => False) s')
    (fin : ∀ D s' B' ys k, Kp B B' → Fm K s₀ B' L s' l ob → B'.get? D = some (lsO ys k) → All2 (S B') (xs.map f) ys → Q (.ref D) s')
    (ht : ∀ I v, letOwnedTupleGo target (.ref I) v = pure ()) : CompGo prog w A elt target iter [] scope pos cl env Q E xv s := by
  refine comp_list F it hn f (fun _ => true) S mono cobs hc0 (fun C B₁ s' ob₁ ex a v hm kB hP hc hob F' => ?_) (fun D s' B' ys k kB F' hD h => fin D s' B' ys k kB F' hD (by rwa [List.filter_eq_self.mpr (fun _ _ => rfl)] at h)) ht
  refine wpAny_mono (step C B₁ s' ob₁ ex a v hm kB hP hc hob F') (fun _ s₂ h₂ => tests_nil ⟨rfl, ?_⟩) fun _ _ x => x
  rw [if_pos rfl]
  exact h₂
theorem comp_if {α β : Type} {elt target iter c : Expr} {scope : Scope} {pos : Pos} {cl : List (Str × Addr)} {xv : Value} {xs : List α} {P : α → Value → Prop} (F : Fm K s₀ B L s l ob) (it : ItL prog w A B s xv xs P) (hn : xs.length ≤ sizeLine)
    (f : α → β) (t : α → Bool) (S : Heap → β → Value → Prop) (mono : ∀ h h' b v, Kp h h' → S h b v → S h' b v)
    (cobs : Addr → Ob → Prop) (hc0 : ∀ C, cobs C (cellOb (C + 1) scope.names []))
    (step : ∀ C B₁ s' ob₁ ex a v, a ∈ xs → Kp B B₁ → P a v → cobs C ob₁ → (∀ p ∈ ob, p ∈ ob₁ ++ ex) → Fm K s B₁ C s' [] (ob₁ ++ ex) →
      wpAny (model prog w) A (assign target (cenvOf scope (cellsFrom (C + 1) scope.names cl) C env) v) (fun _ s₂ => wpAny (model prog w) A (isTrue c (cenvOf scope (cellsFrom (C + 1) scope.names cl) C env) (eval c (cenvOf scope (cellsFrom (C + 1) scope.names cl) C env))) (fun ok s₃ => ok = t a ∧ if ok = true
        then wpAny (model prog w) A (eval elt (cenvOf scope (cellsFrom (C + 1) scope.names cl) C env)) (fun y s₄ => ∃ B₂ ob' l', Kp B₁ B₂ ∧ cobs C ob' ∧ S B₂ (f a) y ∧ Fm K s B₂ C s₄ l' (ob' ++ ex)) (fun _ _ => False) s₃
        else ∃ ob' l', cobs C ob' ∧ Fm K s B₁ C s₃ l' (ob' ++ ex)) (fun _ _ => False) s₂) (fun _ _ => False) s')
    (fin : ∀ D s' B' ys k, Kp B B' → Fm K s₀ B' L s' l ob → B'.get? D = some (lsO ys k) → All2 (S B') ((xs.filter t).map f) ys → Q (.ref D) s')
    (ht : ∀ I v, letOwnedTupleGo target (.ref I) v = pure ()) : CompGo prog w A elt target iter [c] scope pos cl env Q E xv s := by
  refine comp_list F it hn f t S mono cobs hc0 (fun C B₁ s' ob₁ ex a v hm kB hP hc hob F' => ?_) fin ht
  exact wpAny_mono (step C B₁ s' ob₁ ex a v hm kB hP hc hob F') (fun _ s₂ h₂ => tests_one h₂) fun _ _ x => x
end
end Mine
end
section
open PySem PySem.W PyProof.Rows PySem.Calls PySem.Spec
set_option maxRecDepth 100000
namespace Mine
section
variable {prog : Program} {w : World} {A : Around} {E : Value → Shared → Prop} {s₀ s : Shared} {env : Env} {K : Frag} {B : Heap} {L C : Addr} {l : Ls} {ob : Ob} {Q : Value → Shared → Prop}
/-- a comprehension whose list a name takes while its frame still stands -/
def CompGoU (prog : Program) (w : World) (A : Around) (x : Str) (px : Pos) (elt target iter : Expr) (ifs : List Expr) (scope : Scope) (pos : Pos) (cl : List (Str × Addr)) (env : Env) (Q : Value → Shared → Prop) (E : Value → Shared → Prop) (xv : Value) (s₁ : Shared) : Prop :=
  wpAny (model prog w) A (pyIter xv) (fun it s₂ => wpAny (model prog w) A (newList []) (fun acc s₃ => wpAny (model prog w) A (newFunctionEnv scope env.globals cl [] env.qual none .none (some env)) (fun cenv s₄ =>
    codeAny (model prog w) A (.compStart (.ListComp elt [⟨target, iter, ifs, 0⟩] scope pos) 0 it acc { cenv with scope := relabel scope env }) (compPost (model prog w) A E (some (assign (.Name x px) env)) Q acc cenv.locals) s₄) E s₃) E s₂) E s₁
theorem s_assignU {x : Str} {p pos cp : Pos} {elt target iter : Expr} {ifs : List Expr} {scope : Scope} {cl : List (Str × Addr)} {rest : List Stmt} {Q : Flow → Shared → Prop}
    (h : wpAny (model prog w) A (eval iter env) (CompGoU prog w A x p elt target iter ifs scope cp cl env (fun _ s' => wpAny (model prog w) A (execs rest env) Q E s') E) E s)
    (hclos : closGo env scope.names [] = some cl) (hkind : scope.kind = .function)
    (hnames : (scope.names.all fun x => decide (x.2 = .local → scope.names.lookup x.1 = some .local)) = true)
    (hi : ∀ x, foldedSetIterable iter env x = pure x)
    (hs : swapsWith (.ListComp elt [⟨target, iter, ifs, 0⟩] scope cp) (some (.Name x p)) pos.line env = pure true) : wpAny (model prog w) A (execs (.Assign [.Name x p] (.ListComp elt [⟨target, iter, ifs, 0⟩] scope cp) pos :: rest) env) Q E s := by
  refine s_cons ?_
  rw [exec_Assign_Name_used _ _ _ _ hs]
  refine wpAny_bind (wpAny_standAt (wpAny_bind ?_))
  unfold evalThenUse
  refine wpAny_bind (wpAny_mono (wpAny_comprehension_free rfl hi (closureFor_of hclos) hkind (fun x hx => of_decide_eq_true (List.all_eq_true.mp hnames x hx)) h) (fun _ s' h' => wpAny_pure (wpAny_pure ?_)) fun _ _ x => x)
  exact h'
theorem comp_goU {x : Str} {px : Pos} (hl : env.kindOf x = some .local) (hloc : env.locals = L) (hkd : env.scope.kind = .function) {elt target iter : Expr} {ifs : List Expr} {scope : Scope} {pos : Pos} {cl : List (Str × Addr)} {xv : Value} {n : Nat} {P : Nat → Value → Prop} (F : Fm K s₀ B L s l ob) (it : Iters prog w A B s xv n P) (hn : n ≤ sizeLine)
    (inv : Addr → Nat → Heap → List Value → Ls → Ob → Prop) (h0 : ∀ C oL, s.heap.get? L = some oL → inv C 0 B [] [] (cellOb (C + 1) scope.names [] ++ (L, oL) :: ob))
    (step : ∀ C D i B₁ s' l ob ys k ex v, i < n → Kp B B₁ → inv C i B₁ ys l ob → P i v → Fm K s B₁ C s' l ((D, lsO ys k) :: ob ++ ex) →
      wpAny (model prog w) A (assign target (cenvOf scope (cellsFrom (C + 1) scope.names cl) C env) v) (fun _ s₂ => wpAny (model prog w) A (testsOf ifs (cenvOf scope (cellsFrom (C + 1) scope.names cl) C env)) (fun ok s₃ => if ok = true
        then wpAny (model prog w) A (eval elt (cenvOf scope (cellsFrom (C + 1) scope.names cl) C env)) (fun y s₄ => ∃ B₂ l' ob', Kp B₁ B₂ ∧ inv C (i + 1) B₂ (ys ++ [y]) l' ob' ∧ Fm K s B₂ C s₄ l' ((D, lsO ys k) :: ob' ++ ex)) (fun _ _ => False) s₃
        else ∃ B₂ l' ob', Kp B₁ B₂ ∧ inv C (i + 1) B₂ ys l' ob' ∧ Fm K s B₂ C s₃ l' ((D, lsO ys k) :: ob' ++ ex)) (fun _ _ => False) s₂) (fun _ _ => False) s')
    (hmem : ∀ C B₁ ys l₁ ob₁ oL, s.heap.get? L = some oL → inv C n B₁ ys l₁ ob₁ → ∀ p ∈ (L, oL) :: ob, p ∈ ob₁)
    (fin : ∀ C D s'' B₁ B₂ ys k l₁ ob₁, Kp B B₁ → inv C n B₁ ys l₁ ob₁ → Kp B₁ B₂ → Fm K s₀ B₂ L s'' (put x (.ref D) l) ob → B₂.get? D = some (lsO ys k) → Q .none s'')
    (ht : ∀ I v, letOwnedTupleGo target (.ref I) v = pure ()) : CompGoU prog w A x px elt target iter ifs scope pos cl env Q E xv s := by
  obtain ⟨oL, hoL⟩ := F.ns.get
  refine it _ _ fun I fp St s₂ W st hfp hal hI g => ?_
  refine wpAny_newObj_type ?_ (Nat.zero_le _)
  obtain ⟨D, hD⟩ : ∃ D, D = s₂.heap.objs.size := ⟨_, rfl⟩
  refine comp_env ?_
  have hsz : (s₂.heap.push { cls := .type "list", data := .seq #[] }).objs.size = D + 1 := by rw [Heap.size_push, hD]
  show codeAny _ _ (.compStart _ _ _ (.ref s₂.heap.objs.size) (cenvOf scope (cellsFrom ((s₂.heap.push { cls := .type "list", data := .seq #[] }).objs.size + 1) scope.names cl) (s₂.heap.push { cls := .type "list", data := .seq #[] }).objs.size env)) (compPost _ _ _ _ _ (.ref s₂.heap.objs.size) (s₂.heap.push { cls := .type "list", data := .seq #[] }).objs.size)
    { s₂ with heap := pushCells ((s₂.heap.push { cls := .type "list", data := .seq #[] }).push { cls := .type "dict", data := .dict #[] }) scope.names }
  rw [hsz, ← hD]
  have hsz2 : ((s₂.heap.push { cls := .type "list", data := .seq #[] }).push { cls := .type "dict", data := .dict #[] }).objs.size = D + 1 + 1 := by rw [Heap.size_push, hsz]
  have k1 : Kp s₂.heap ((s₂.heap.push { cls := .type "list", data := .seq #[] }).push { cls := .type "dict", data := .dict #[] }) := (Kp.push _).trans (Kp.push _)
  have kD : ((s₂.heap.push { cls := .type "list", data := .seq #[] }).push { cls := .type "dict", data := .dict #[] }).get? D = some (lsO [] 0) := Kp.push _ _ _ (by rw [hD]; exact Heap.get?_push_size _ rfl)
  have hns : ((s₂.heap.push { cls := .type "list", data := .seq #[] }).push { cls := .type "dict", data := .dict #[] }).Ns (D + 1) (fun _ => none) := by
    have := Heap.Ns.new (s₂.heap.push { cls := .type "list", data := .seq #[] }) (.type "dict")
    rwa [hsz] at this
  generalize hh3 : (s₂.heap.push { cls := .type "list", data := .seq #[] }).push { cls := .type "dict", data := .dict #[] } = h3 at *
  have nD : s.heap.get? D = none := Kp.none g.kp (get_none_of_le (by lia))
  have nC : s.heap.get? (D + 1) = none := Kp.none g.kp (get_none_of_le (by lia))
  have F1 : Fm K s B (D + 1) { s₂ with heap := h3 } [] ((L, oL) :: ob) := F.enter (s' := { s₂ with heap := h3 }) hoL (g.kp.trans k1) ⟨g.sm.gens, g.sm.drawn, g.sm.os⟩ ⟨_, hns, fun x v e => by cases e⟩ nC
  have F2 : Fm K s B (D + 1) { s₂ with heap := h3 } [] ((D, lsO [] 0) :: (L, oL) :: ob) := by
    refine ⟨F1.gd, F1.ns, F1.kp, F1.no, fun p hp => ?_, ?_, F1.sm⟩
    · rcases List.mem_cons.mp hp with rfl | hp
      · exact ⟨kD, Nat.ne_of_lt (Nat.lt_succ_self _), Kp.none F.kp nD⟩
      · exact F1.obs p hp
    · rw [List.map_cons, List.nodup_cons]
      refine ⟨fun q => ?_, F1.nd⟩
      obtain ⟨p, hp, e⟩ := List.mem_map.mp q
      have e : p.1 = D := e
      have : s.heap.get? p.1 = some p.2 := by
        rcases List.mem_cons.mp hp with rfl | hp
        · exact hoL
        · exact (F.obs p hp).1
      rw [e, nD] at this; cases this
  have F4 := F2.cells scope.names
  rw [show ({ s₂ with heap := h3 } : Shared).heap.objs.size = D + 1 + 1 from hsz2] at F4
  have F5 : Fm K s B (D + 1) { s₂ with heap := pushCells h3 scope.names } [] ((D, lsO [] 0) :: (cellOb (D + 1 + 1) scope.names [] ++ (L, oL) :: ob)) := by
    rw [show ((D, lsO [] 0) :: (L, oL) :: ob) = [] ++ ((D, lsO [] 0) :: (L, oL) :: ob) from rfl, cellOb_app] at F4
    exact F4.perm List.perm_middle
  obtain ⟨oI, hoI⟩ := hal _ _ st
  have lI := Heap.lt_size hoI
  have k3 : Kp s₂.heap (pushCells h3 scope.names) := k1.trans (pushCells_keeps _ _)
  have st4 : St 0 (pushCells h3 scope.names) := W.frame 0 s₂.heap _ st fun b _ o e => k3 b o e
  have hobI : I ∉ List.map Prod.fst ((D, lsO [] 0) :: (cellOb (D + 1 + 1) scope.names [] ++ (L, oL) :: ob)) := fun q => by
    obtain ⟨p, hp, e⟩ := List.mem_map.mp q
    have e : p.1 = I := e
    rcases List.mem_cons.mp hp with rfl | hp
    · exact absurd lI (by rw [← e, hD]; exact Nat.lt_irrefl _)
    · rcases List.mem_append.mp hp with hp | hp
      · have := cellOb_lt (I := I) scope.names (D + 1 + 1) [] (by intro p hp; cases hp) (Nat.lt_succ_of_lt (Nat.lt_succ_of_lt (by rw [hD]; exact lI))) p hp
        exact absurd this (by rw [e]; exact Nat.lt_irrefl _)
      · have : s.heap.get? p.1 = some p.2 := by
          rcases List.mem_cons.mp hp with rfl | hp
          · exact hoL
          · exact (F.obs p hp).1
        rw [e, hI] at this; cases this
  have loop : codeAny (model prog w) A (.compLoop (.ListComp elt [⟨target, iter, ifs, 0⟩] scope pos) 0 (.ref I) (.ref D) (cenvOf scope (cellsFrom (D + 1 + 1) scope.names cl) (D + 1) env)) (compPost (model prog w) A E (some (assign (.Name x px) env)) Q (.ref D) (D + 1)) { s₂ with heap := pushCells h3 scope.names } := by
    refine codeAny_mono (comp_loop W hfp hal hn F5 st4 (Kp.none F.kp hI) (Nat.ne_of_lt (Nat.lt_succ_of_lt (by rw [hD]; exact lI))) hobI (inv (D + 1)) (h0 (D + 1) oL hoL) (fun i B₁ s' l ob ys k ex v => step (D + 1) D i B₁ s' l ob ys k ex v)
      (Q := fun s' => wpAny (model prog w) A (assign (.Name x px) env (.ref D)) (fun _ s'' => ∃ m, s''.heap.Ns (D + 1) m ∧ ∀ h', Heap.SameBut (D + 1) s''.heap h' → Q .none { s'' with heap := h' }) E s') (fun B₁ s' l₁ ob₁ ys k kB hinv F' => ?_) (ht I)) fun r s' hr => ?_
    · obtain ⟨m, n, _⟩ := F'.ns
      obtain ⟨oC, es, ep, hoC, rC⟩ := n
      have hm := hmem _ _ _ _ _ oL hoL hinv
      have DL := F'.obs (L, oL) (.tail _ (hm _ (.head _)))
      have DD := F'.obs (D, lsO ys k) (.head _)
      have nd := F'.nd
      rw [List.map_cons, List.nodup_cons] at nd
      have hCD : ∀ p ∈ (D, lsO ys k) :: ob, p.1 ≠ D + 1 := fun p hp => by
        rcases List.mem_cons.mp hp with rfl | hp
        · exact DD.2.1
        · exact (F'.obs p (.tail _ (hm _ (.tail _ hp)))).2.1
      have F3 : Fm K s₀ B₁ L s' l ((D, lsO ys k) :: ob) := by
        refine ⟨F.gd.kp kB, F.ns.keeps fun o e => ?_, F'.kp, DL.2.2, fun p hp => ?_, ?_, F.sm.trans F'.sm⟩
        · rw [hoL] at e; cases e; exact DL.1
        · rcases List.mem_cons.mp hp with rfl | hp
          · exact ⟨DD.1, fun q => nd.1 (by show D ∈ _; rw [show D = L from q]; exact (List.mem_map_of_mem (hm (L, oL) (.head _)) : L ∈ List.map Prod.fst ob₁)), DD.2.2⟩
          · have DP := F'.obs p (.tail _ (hm _ (.tail _ hp)))
            exact ⟨DP.1, (F.obs p hp).2.1, DP.2.2⟩
        · rw [List.map_cons, List.nodup_cons]
          refine ⟨fun q => ?_, F.nd⟩
          obtain ⟨p, hp, e⟩ := List.mem_map.mp q
          exact nd.1 (by show D ∈ _; rw [show D = p.1 from e.symm]; exact (List.mem_map_of_mem (hm p (.tail _ hp)) : p.1 ∈ List.map Prod.fst ob₁))
      have F4 : Fm K s₀ B₁ L s' l ((D, lsO ys k) :: (D + 1, oC) :: ob) := by
        refine ⟨F3.gd, F3.ns, F3.kp, F3.no, fun p hp => ?_, ?_, F3.sm⟩
        · rcases List.mem_cons.mp hp with rfl | hp
          · exact F3.obs _ (.head _)
          · rcases List.mem_cons.mp hp with rfl | hp
            · exact ⟨hoC, fun q => DL.2.1 (Eq.symm q), F'.no⟩
            · exact F3.obs _ (.tail _ hp)
        · have nd3 := F3.nd
          rw [List.map_cons, List.nodup_cons] at nd3
          rw [List.map_cons, List.map_cons, List.nodup_cons, List.nodup_cons]
          refine ⟨fun q => ?_, fun q => ?_, nd3.2⟩
          · rcases List.mem_cons.mp q with q | q
            · exact hCD _ (.head _) q
            · exact nd3.1 q
          · obtain ⟨p, hp, e⟩ := List.mem_map.mp q
            exact hCD p (.tail _ hp) e
      obtain ⟨B₂, k2, F5, hD5⟩ := F4.freeze0
      refine a_name (st_local F5 hl (fun s'' F6 => ?_) hloc hkd)
      exact ⟨m, ⟨oC, es, ep, F6.get (.head _), rC⟩, fun h' hs => fin (D + 1) D _ B₁ B₂ ys k l₁ ob₁ kB hinv k2 (F6.out hs.extBut Sm.mk') hD5⟩
    · obtain ⟨rfl, hq⟩ := hr
      exact hq
  exact codeAny_compStart_list loop (W.self 0 _ _ _ st4 loop)
theorem comp_listU {x : Str} {px : Pos} (hlx : env.kindOf x = some .local) (hloc : env.locals = L) (hkd : env.scope.kind = .function) {α β : Type} {elt target iter : Expr} {ifs : List Expr} {scope : Scope} {pos : Pos} {cl : List (Str × Addr)} {xv : Value} {xs : List α} {P : α → Value → Prop} (F : Fm K s₀ B L s l ob) (it : ItL prog w A B s xv xs P) (hn : xs.length ≤ sizeLine)
    (f : α → β) (t : α → Bool) (S : Heap → β → Value → Prop) (mono : ∀ h h' b v, Kp h h' → S h b v → S h' b v)
    (cobs : Addr → Ob → Prop) (hc0 : ∀ C, cobs C (cellOb (C + 1) scope.names []))
    (step : ∀ C B₁ s' ob₁ ex a v, a ∈ xs → Kp B B₁ → P a v → cobs C ob₁ → (∀ p ∈ ob, p ∈ ob₁ ++ ex) → Fm K s B₁ C s' [] (ob₁ ++ ex) →
      wpAny (model prog w) A (assign target (cenvOf scope (cellsFrom (C + 1) scope.names cl) C env) v) (fun _ s₂ => wpAny (model prog w) A (testsOf ifs (cenvOf scope (cellsFrom (C + 1) scope.names cl) C env)) (fun ok s₃ => ok = t a ∧ if ok = true
        then wpAny (model prog w) A (eval elt (cenvOf scope (cellsFrom (C + 1) scope.names cl) C env)) (fun y s₄ => ∃ B₂ ob' l', Kp B₁ B₂ ∧ cobs C ob' ∧ S B₂ (f a) y ∧ Fm K s B₂ C s₄ l' (ob' ++ ex)) (fun _ _ => False) s₃
        else ∃ ob' l', cobs C ob' ∧ Fm K s B₁ C s₃ l' (ob' ++ ex)) (fun _ _ => False) s₂) (fun _ _ => False) s')
    (fin : ∀ D s' B' ys k, Kp B B' → Fm K s₀ B' L s' (put x (.ref D) l) ob → B'.get? D = some (lsO ys k) → All2 (S B') ((xs.filter t).map f) ys → Q .none s')
    (ht : ∀ I v, letOwnedTupleGo target (.ref I) v = pure ()) : CompGoU prog w A x px elt target iter ifs scope pos cl env Q E xv s := by
  refine comp_goU hlx hloc hkd F it hn (fun C i B₁ ys l₁ ob₁ => l₁ = [] ∧ (∃ ob₂ oL, s.heap.get? L = some oL ∧ ob₁ = ob₂ ++ (L, oL) :: ob ∧ cobs C ob₂) ∧ All2 (S B₁) (((xs.take i).filter t).map f) ys) (fun C oL hL => ⟨rfl, ⟨_, oL, hL, rfl, hc0 C⟩, by simp; exact .nil⟩) ?_ ?_ ?_ ht
  · rintro C D i B₁ s' l ob₁ ys k ex v hi kB ⟨rfl, ⟨ob₂, oL, hL, rfl, hcb⟩, hall⟩ ⟨a, ha, hP⟩ F'
    have hm : a ∈ xs := List.mem_of_getElem? ha
    have hp : ∀ ob₂ : Ob, List.Perm ((D, lsO ys k) :: (ob₂ ++ (L, oL) :: ob) ++ ex) (ob₂ ++ ((D, lsO ys k) :: (((L, oL) :: ob) ++ ex))) := fun ob₂ => by
      rw [List.cons_append, List.append_assoc]; exact List.perm_middle.symm
    have htk : xs.take (i + 1) = xs.take i ++ [a] := by rw [List.take_add_one, ha]; rfl
    refine wpAny_mono (step C B₁ s' ob₂ _ a v hm kB hP hcb (fun p hp => List.mem_append_right _ (.tail _ (.tail _ (List.mem_append_left _ hp)))) (F'.perm (hp ob₂))) (fun _ s₂ h₂ => wpAny_mono h₂ (fun ok s₃ h₃ => ?_) fun _ _ x => x) fun _ _ x => x
    obtain ⟨e, h₃⟩ := h₃
    cases ok with
    | false =>
      obtain ⟨ob', l', hc', F3⟩ := h₃
      refine ⟨B₁, [], _, Kp.rfl, ⟨rfl, ⟨ob', oL, hL, rfl, hc'⟩, ?_⟩, (F3.sub (l' := []) trivial).perm (hp ob').symm⟩
      rw [htk, List.filter_append]; simpa [← e] using hall
    | true =>
      refine wpAny_mono h₃ (fun y s₄ h₄ => ?_) fun _ _ x => x
      obtain ⟨B₂, ob', l', k2, hc', hS, F4⟩ := h₄
      refine ⟨B₂, [], _, k2, ⟨rfl, ⟨ob', oL, hL, rfl, hc'⟩, ?_⟩, (F4.sub (l' := []) trivial).perm (hp ob').symm⟩
      rw [htk, List.filter_append, List.map_append]
      refine (hall.imp fun _ _ z => mono _ _ _ _ k2 z).append ?_
      simp [← e]
      exact .cons hS .nil
  · rintro C B₁ ys l₁ ob₁ oL hL ⟨_, ⟨ob₂, oL', hL', rfl, _⟩, _⟩ p hp
    rw [hL] at hL'; cases hL'
    exact List.mem_append_right _ hp
  · rintro C D s'' B₁ B₂ ys k l₁ ob₁ kB ⟨rfl, ⟨ob₂, oL, hL, rfl, _⟩, hall⟩ k2 F2 hD
    rw [List.take_length] at hall
    exact fin D s'' B₂ ys k (kB.trans k2) F2 hD (hall.imp fun _ _ z => mono _ _ _ _ k2 z)
theorem comp_mapU {x : Str} {px : Pos} (hlx : env.kindOf x = some .local) (hloc : env.locals = L) (hkd : env.scope.kind = .function) {α β : Type} {elt target iter : Expr} {scope : Scope} {pos : Pos} {cl : List (Str × Addr)} {xv : Value} {xs : List α} {P : α → Value → Prop} (F : Fm K s₀ B L s l ob) (it : ItL prog w A B s xv xs P) (hn : xs.length ≤ sizeLine)
    (f : α → β) (S : Heap → β → Value → Prop) (mono : ∀ h h' b v, Kp h h' → S h b v → S h' b v)
    (cobs : Addr → Ob → Prop) (hc0 : ∀ C, cobs C (cellOb (C + 1) scope.names []))
    (step : ∀ C B₁ s' ob₁ ex a v, a ∈ xs → Kp B B₁ → P a v → cobs C ob₁ → (∀ p ∈ ob, p ∈ ob₁ ++ ex) → Fm K s B₁ C s' [] (ob₁ ++ ex) →
      wpAny (model prog w) A (assign target (cenvOf scope (cellsFrom (C + 1) scope.names cl) C env) v) (fun _ s₂ =>
        wpAny (model prog w) A (eval elt (cenvOf scope (cellsFrom (C + 1) scope.names cl) C env)) (fun y s₄ => ∃ B₂ ob' l', Kp B₁ B₂ ∧ cobs C ob' ∧ S B₂ (f a) y ∧ Fm K s B₂ C s₄ l' (ob' ++ ex)) (fun _ _ => False) s₂) (fun _ _ => False) s')
    (fin : ∀ D s' B' ys k, Kp B B' → Fm K s₀ B' L s' (put x (.ref D) l) ob → B'.get? D = some (lsO ys k) → All2 (S B') (xs.map f) ys → Q .none s')
    (ht : ∀ I v, letOwnedTupleGo target (.ref I) v = pure ()) : CompGoU prog w A x px elt target iter [] scope pos cl env Q E xv s := by
  refine comp_listU hlx hloc hkd F it hn f (fun _ => true) S mono cobs hc0 (fun C B₁ s' ob₁ ex a v hm kB hP hc hob F' => ?_) (fun D s' B' ys k kB F' hD h => fin D s' B' ys k kB F' hD (by rwa [List.filter_eq_self.mpr (fun _ _ => rfl)] at h)) ht
  refine wpAny_mono (step C B₁ s' ob₁ ex a v hm kB hP hc hob F') (fun _ s₂ h₂ => tests_nil ⟨rfl, ?_⟩) fun _ _ x => x
  rw [if_pos rfl]
  exact h₂
end
end Mine
end
section
open PySem PySem.W PyProof.Rows PySem.Calls PySem.Spec
set_option maxRecDepth 100000
namespace Mine
section
variable {prog : Program} {w : World} {A : Around} {E : Value → Shared → Prop} {s₀ s : Shared} {env : Env} {K : Frag} {B : Heap} {L : Addr} {l : Ls} {ob : Ob}
end
/-- rows: lists of ints that may still turn -/
abbrev RowS := List (Addr × List Value × Nat)
abbrev rOb (rs : RowS) : Ob := rs.map fun r => (r.1, lsO r.2.1 r.2.2)
abbrev rRef (rs : RowS) : List Value := rs.map fun r => .ref r.1
theorem ints_snoc {vs : List Value} {ns : List Int} (h : IntsAre vs ns) (i : Int) (t : Tok) : IntsAre (vs ++ [.int i t]) (ns ++ [i]) := h.append (.cons i t .nil)
end Mine
end
section
open PySem PySem.W PyProof.Rows PySem.Calls PySem.Spec
set_option maxRecDepth 100000
namespace Mine
abbrev nI (ns : List Nat) : List Int := ns.map fun (n : Nat) => (n : Int)
theorem nI_getD (ns : List Nat) (k : Nat) : (nI ns).getD k 0 = ((ns.getD k 0 : Nat) : Int) := by
  rw [List.getD_eq_getElem?_getD, List.getD_eq_getElem?_getD, List.getElem?_map]
  cases ns[k]? <;> rfl
section
variable {prog : Program} {w : World} {A : Around} {E : Value → Shared → Prop} {s₀ s : Shared} {env : Env} {K : Frag} {B : Heap} {L : Addr} {l : Ls} {ob ob' : Ob} {Q : Value → Shared → Prop}
theorem sub_nat {value slice : Expr} {a : Addr} {vs : List Value} {n : Nat} {ns : List Nat} {k : Nat} {u : Tok} (F : Fm K s₀ B L s l ob) (hm : (a, lsO vs n) ∈ ob) (hI : IntsAre vs (nI ns)) (hk : k < ns.length) (hz : ns.length < 2 ^ 62) (h : ∀ t, Q (.int ((ns.getD k 0 : Nat) : Int) t) s)
    (hs : subscripted slice false (.ref a) (.int (k : Int) u) = operate [.ref a, .int (k : Int) u] (getItem (.ref a) (.int (k : Int) u))) : wpAny (model prog w) A (subscriptTail value slice (.ref a) (.int (k : Int) u)) Q E s := by
  obtain ⟨u', hx⟩ := hI.get k ((nI ns).getD k 0) (by rw [List.getD_eq_getElem?_getD, List.getElem?_eq_getElem (by simpa using hk)]; rfl)
  rw [nI_getD] at hx
  exact sub_list (vs := vs.toArray) ⟨_, F.get hm, rfl, n, rfl⟩ (by lia) (by lia) (by rw [Int.toNat_natCast]; simpa using hx) (h u') hs
theorem sub_last {value slice : Expr} {a : Addr} {vs : List Value} {n : Nat} {ns : List Nat} {u : Tok} (F : Fm K s₀ B L s l ob) (hm : (a, lsO vs n) ∈ ob) (hI : IntsAre vs (nI ns)) (hk : 0 < ns.length) (h : ∀ t, Q (.int ((ns.getD (ns.length - 1) 0 : Nat) : Int) t) s)
    (hs : subscripted slice false (.ref a) (.int (-1) u) = operate [.ref a, .int (-1) u] (getItem (.ref a) (.int (-1) u))) : wpAny (model prog w) A (subscriptTail value slice (.ref a) (.int (-1) u)) Q E s := by
  have hlen : vs.length = ns.length := by simpa using hI.length
  obtain ⟨u', hx⟩ := hI.get (ns.length - 1) ((nI ns).getD (ns.length - 1) 0) (by rw [List.getD_eq_getElem?_getD, List.getElem?_eq_getElem (by simp; lia)]; rfl)
  rw [nI_getD] at hx
  have hl : s.heap.IsList a vs.toArray := ⟨_, F.get hm, rfl, n, rfl⟩
  refine tail_any hl.typeIs slot_list_getitem.lookup (wpAny_getItem_list_neg hl (by lia) (by simp; lia) (by lia) ?_ (h u')) hs
  rw [show ((-1 : Int) + vs.toArray.size).toNat = ns.length - 1 by simp; lia]
  simpa using hx
end
theorem nI_append (a b : List Nat) : nI (a ++ b) = nI a ++ nI b := by simp [nI]
theorem nI_snoc {vs : List Value} {ns : List Nat} (h : IntsAre vs (nI ns)) (i : Nat) (t : Tok) : IntsAre (vs ++ [.int (i : Int) t]) (nI (ns ++ [i])) := by
  rw [nI_append]; exact ints_snoc h _ t
end Mine
end
section
open PySem PySem.W PyProof.Rows PySem.Calls PySem.Spec
set_option maxRecDepth 100000
namespace Mine
section
variable {K : Frag} {s₀ s s' : Shared} {B : Heap} {L : Addr} {l : Ls} {ob ob' : Ob}
theorem Fm.add {a : Addr} {o : Obj} (F : Fm K s₀ B L s l ob) (ha : s.heap.get? a = some o) (hL : a ≠ L) (hB : B.get? a = none) (hob : a ∉ List.map Prod.fst ob) : Fm K s₀ B L s l ((a, o) :: ob) := by
  refine ⟨F.gd, F.ns, F.kp, F.no, fun p hp => ?_, ?_, F.sm⟩
  · rcases List.mem_cons.mp hp with rfl | hp
    · exact ⟨ha, hL, hB⟩
    · exact F.obs p hp
  · rw [List.map_cons, List.nodup_cons]; exact ⟨hob, F.nd⟩
/-- what the maker of a function asks of the heap -/
def BI (P : Addr) (h : Heap) : Prop := ∃ mg, h.Ns mainGlobals mg ∧ h.BuiltinsAt mg P
theorem BI.kp {P : Addr} {h h' : Heap} (b : BI P h) (k : Kp h h') : BI P h' :=
  let ⟨mg, n, bm, o, b1, b2, b3, b4, b5, b6⟩ := b; ⟨mg, n.keeps k, bm, o, b1, b2, b3, b4, k _ _ b5, b6⟩
theorem codeRec_kp {h h' : Heap} {cd : Value} {q : Str} (c : h.CodeRec cd q) (k : Kp h h') : h'.CodeRec cd q := by
  obtain ⟨c, o, vs, t, e, ho, r⟩ := c
  exact ⟨c, o, vs, t, e, k _ _ ho, r⟩
end
section
variable {prog : Program} {w : World} {A : Around} {E : Value → Shared → Prop} {s₀ s : Shared} {K : Frag} {B : Heap} {L : Addr} {l : Ls} {ob ob' : Ob}
  {params : Arguments} {body : Expr} {scope : Scope} {env : Env} {clos : List (Str × Addr)} {c P : Addr} {ps : Array Value} {pos : Pos}
/-- a function stands at f -/
structure LamAt (h : Heap) (f : Addr) (params : Arguments) (body : Expr) (scope : Scope) (clos : List (Str × Addr)) (qual : Str) : Prop where
  is : ∃ pm cv ctv, h.get? f = some { cls := .type "function", data := .func (kla_fn "<lambda>" qual params body scope clos pm cv ctv) } ∧ h.CodeRec cv qual
theorem LamAt.kp {h h' : Heap} {f : Addr} {qual : Str} (x : LamAt h f params body scope clos qual) (k : Kp h h') : LamAt h' f params body scope clos qual :=
  let ⟨pm, cv, ctv, a, b⟩ := x; ⟨pm, cv, ctv, k _ _ a, codeRec_kp b k⟩
/-- the first time -/
theorem e_lam {ob' : Obj → Ob} {Q : Value → Shared → Prop} (F : Fm K s₀ B L s l ob) (bi : BI P B) (hdef : defaultsOf params env = ([], [])) (hcl : closGo env scope.names [] = some clos) (hge : env.globals = mainGlobals) (hcode : env.code = .ref c) (hK : codeHdIn K c P = true)
    (ht : TriplesOk ps.toList) (hnf : codeAmong pos ps.toList = none) (U : ∀ o, UpO P (tabObj ps) o ob (ob' o))
    (h : ∀ f cv s' B', Kp B B' → LamAt B' f params body scope clos (env.qual ++ "<lambda>") → Fm K s₀ B' L s' l (ob' (tabObj (ps ++ #[rawInt pos.line, rawInt pos.col, cv]))) → B'.CodeRec cv (env.qual ++ "<lambda>") → Q (.ref f) s') :
    wpAny (model prog w) A (eval (.Lambda params body scope pos) env) Q E s := by
  obtain ⟨mg, hg, hb⟩ := bi.kp F.kp
  have C := codeHd_of_K F.gdh.k hK
  have hP := F.get (U (tabObj ps)).mem
  have hgP : mainGlobals ≠ P := fun q => by
    obtain ⟨o, es, ep, e, hd, _⟩ := hg
    rw [q, hP] at e; cases e; cases hd
  refine kla_eval hdef (kla_makeFunction (closureFor_of hcl) hge hg hcode C hP ht hnf hgP hb fun c' ctv h' tk hx hge' hlt hrec htb => ?_)
  have F1 : Fm K s₀ B L { s with heap := h', toks := tk } l (ob' (tabObj (ps ++ #[rawInt pos.line, rawInt pos.col, .ref c']))) :=
    F.upH (U _) (fun b o e => hx b o (fun q => by rw [q, Heap.hide_self] at e; cases e) (Heap.of_hide e)) htb ⟨rfl, rfl, rfl⟩
  obtain ⟨c₂, oc, vs, t, e2, hoc, hd, hv⟩ := hrec
  cases e2
  have hnone : s.heap.get? c' = none := get_none_of_le hge'
  have hcL : c' ≠ L := by
    rintro rfl
    obtain ⟨o, ho⟩ := F.ns.get
    rw [ho] at hnone; cases hnone
  have F2 := F1.add (a := c') (o := oc) hoc hcL (Kp.none F.kp hnone) fun q => by
    obtain ⟨p, hp, e⟩ := List.mem_map.mp q
    have e : p.1 = c' := e
    obtain ⟨pre, post, h1, h2⟩ := (U (tabObj (ps ++ #[rawInt pos.line, rawInt pos.col, .ref c']))).split
    rw [h2] at hp
    have : ∃ o, s.heap.get? p.1 = some o := by
      rcases List.mem_append.mp hp with q | q
      · exact ⟨_, F.get (by rw [h1]; exact List.mem_append_left _ q)⟩
      · rcases List.mem_cons.mp q with rfl | q
        · exact ⟨_, hP⟩
        · exact ⟨_, F.get (by rw [h1]; exact List.mem_append_right _ (.tail _ q))⟩
    obtain ⟨o, ho⟩ := this
    rw [e, hnone] at ho; cases ho
  have F3 := F2.push (kla_obj "<lambda>" (env.qual ++ "<lambda>") params body scope clos ((mg "__name__").getD .none) c' ctv) rfl tk
  obtain ⟨B1, k1, F4, g1⟩ := F3.freezeAt (.head _)
  obtain ⟨B2, k2, F5, g2⟩ := F4.freezeAt (.head _)
  have cr : B2.CodeRec (.ref c') (env.qual ++ "<lambda>") := ⟨c', oc, vs, t, rfl, g2, hd, hv⟩
  exact h _ (.ref c') _ B2 (k1.trans k2) ⟨_, _, _, k2 _ _ g1, cr⟩ F5 cr
/-- and again -/
theorem e_lam2 {cv : Value} {Q : Value → Shared → Prop} (F : Fm K s₀ B L s l ob) (bi : BI P B) (hdef : defaultsOf params env = ([], [])) (hcl : closGo env scope.names [] = some clos) (hge : env.globals = mainGlobals) (hcode : env.code = .ref c) (hK : codeHdIn K c P = true)
    (ht : TriplesOk ps.toList) (hf : codeAmong pos ps.toList = some cv) (hm : (P, tabObj ps) ∈ ob) (hcr : B.CodeRec cv (env.qual ++ "<lambda>"))
    (h : ∀ f s' B', Kp B B' → LamAt B' f params body scope clos (env.qual ++ "<lambda>") → Fm K s₀ B' L s' l ob → Q (.ref f) s') :
    wpAny (model prog w) A (eval (.Lambda params body scope pos) env) Q E s := by
  obtain ⟨mg, hg, hb⟩ := bi.kp F.kp
  have C := codeHd_of_K F.gdh.k hK
  have hP := F.get hm
  refine kla_eval hdef (kla_makeFunctionHit (closureFor_of hcl) hge hg hcode C hP ht hf hb fun ctv h' tk hk hsz => ?_)
  have F1 : Fm K s₀ B L { s with heap := h', toks := tk } l ob := F.gr ⟨⟨rfl, rfl, rfl⟩, hk⟩
  have F3 := F1.push { cls := .type "function", data := .func (kla_fn "<lambda>" (env.qual ++ "<lambda>") params body scope clos ((mg "__name__").getD .none) cv ctv) } rfl tk
  obtain ⟨B1, k1, F4, g1⟩ := F3.freezeAt (.head _)
  exact h _ _ B1 k1 ⟨_, _, _, g1, codeRec_kp hcr k1⟩ F4
/-- the call of such a function -/
theorem call_lam {f : Addr} {qual : Str} {Q : Value → Shared → Prop} {k : Nat} (binds : List (Str × Value)) {args : List Value} (R : Rm A (k + 1)) (G : Gd K s.heap) (x : LamAt s.heap f params body scope clos qual)
    (hbind : ∀ pm cv ctv, bindArgs (kla_fn "<lambda>" qual params body scope clos pm cv ctv) ⟨args, []⟩ = pure binds) (hloc : (binds.all fun x => decide (scope.names.lookup x.1 = some .local)) = true)
    (hcell : (scope.names.all fun x => decide (x.2 ≠ .cell)) = true)
    (h : ∀ L s' A' cv, L = s.heap.objs.size → Fm K s s.heap L s' binds.reverse [] → Rm A' k → wpAny (model prog w) A' (eval body (envX qual scope L f cv clos)) Q (fun _ _ => False) s')
    (hco : scope.isCoroutine = false) (hgen : scope.isGenerator = false) (hk : scope.kind = .function) : wpAny (model prog w) A (call (.ref f) args) Q E s := by
  obtain ⟨pm, cv, ctv, ho, hcd⟩ := x
  refine wpAny_call ?_
  refine kla_callFunE R.room ho rfl hco hgen rfl hcd ?_
  rw [hbind]
  refine wpAny_pure (wpAny_newFunctionEnv (fun x hx => of_decide_eq_true (List.all_eq_true.mp hcell x hx)) (locs hloc) (fun h₁ hns hsb => ⟨G.nl.fresh _ hsb, ?_⟩) hk)
  have hk₁ : Kp s.heap h₁ := fun b o e => hsb.extBut b o (Nat.ne_of_lt (Heap.lt_size e)) (Heap.get?_push_of_some _ e)
  refine kla_codeExpr (wpAny_mono (h s.heap.objs.size _ _ cv rfl ⟨G, ⟨_, hns, fun _ _ e => e⟩, hk₁, get_none_of_le (Nat.le_refl _), (by intro p hp; cases hp), List.nodup_nil, Sm.mk'⟩ R.deeper) (fun v s' hv => hv) fun _ _ x => x.elim)
end
end Mine
end
section
open PySem PySem.W PyProof.Rows PySem.Calls PySem.Spec
set_option maxRecDepth 100000
namespace Mine
theorem dIs_lay (ns : List Int) : PyData.canLay0 (dIs ns) = true ∧ (dIs ns).depth = 1 := by
  simp [PyData.canLay0, PyData.depth, ke_canLayAll0, ke_depthAll]
theorem lay2 : ∀ L : List (List Int), PyData.canLayAll0 (L.map dIs) = true ∧ PyData.depthAll (L.map dIs) ≤ 1
  | [] => ⟨rfl, by simp [PyData.depthAll]⟩
  | x :: r => by
    have h := lay2 r
    have h1 := dIs_lay x
    refine ⟨?_, ?_⟩
    · show (PyData.canLayAll0 (dIs x :: r.map dIs)) = true
      simp only [PyData.canLayAll0, h1.1, h.1, Bool.and_self]
    · show (PyData.depthAll (dIs x :: r.map dIs)) ≤ 1
      simp only [PyData.depthAll, h1.2]; lia
theorem shaped1 (ns : List Int) : SeqAt.shaped (dIs ns) = true := ke_shaped_ints ns
theorem shaped2 (L : List (List Int)) : SeqAt.shaped (.list (L.map dIs)) = true := by
  have h := lay2 L
  refine Bool.and_eq_true_iff.mpr ⟨h.1, decide_eq_true ?_⟩
  show PyData.depthAll (L.map dIs) + 1 ≤ 64
  lia
theorem eqv_same {d : PyData} (h : SeqAt.shaped d = true) : PyData.eqv d d = true := SeqAt.eqv_refl d (SeqAt.canLay_of_shaped h)
theorem rdL_of {h : Heap} {α : Type} {f : α → PyData} : ∀ {xs : List α} {ys : List Value}, All2 (fun x v => Rd h v (f x)) xs ys → RdL h (xs.map f) ys
  | _, _, .nil => .nil
  | _, _, .cons h r => .cons h (rdL_of r)
theorem isList_kp {h h' : Heap} {a : Addr} {vs : Array Value} (x : h.IsList a vs) (k : Kp h h') : h'.IsList a vs := let ⟨o, ho, r⟩ := x; ⟨o, k _ _ ho, r⟩
theorem isList_L {h : Heap} {a : Addr} {vs : Array Value} (x : h.IsList a vs) : h.IsList a vs.toList.toArray := by simpa using x
theorem ints_drop : ∀ {vs : List Value} {ns : List Int} (n : Nat), IntsAre vs ns → IntsAre (vs.drop n) (ns.drop n)
  | _, _, 0, h => h
  | _, _, _ + 1, .nil => .nil
  | _, _, n + 1, .cons _ _ r => ints_drop n r
theorem ints_take : ∀ {vs : List Value} {ns : List Int} (n : Nat), IntsAre vs ns → IntsAre (vs.take n) (ns.take n)
  | _, _, 0, _ => .nil
  | _, _, n + 1, .nil => .nil
  | _, _, n + 1, .cons i t r => .cons i t (ints_take n r)
section
variable {prog : Program} {w : World} {A : Around} {E : Value → Shared → Prop} {s₀ s : Shared} {K : Frag} {B : Heap} {L : Addr} {l : Ls} {ob ob' : Ob} {Q : Value → Shared → Prop}
theorem o_addLI {a b : Addr} {vs ws : List Value} (F : Fm K s₀ B L s l ob) (ha : s.heap.IsList a vs.toArray) (hb : s.heap.IsList b ws.toArray) (hz : vs.length + ws.length ≤ sizeLine)
    (h : ∀ c s', Fm K s₀ B L s' l ((c, lsO (vs ++ ws) 0) :: ob) → Q (.ref c) s') : wpAny (model prog w) A (binaryOp .Add (.ref a) (.ref b)) Q E s := by
  obtain ⟨mm, F1, N1, back⟩ := F.adaptN
  exact PyProof.Rows.add_lists (hsz := hz) F1 N1 ha hb fun h' F' N' => h _ _ (back { s with heap := h' } _ _ F' N' ⟨rfl, rfl, rfl⟩ (get_none_of_le (Nat.le_refl _)))
end
end Mine
end
section
open PySem PySem.W PyProof.Rows PySem.Calls PySem.Spec
set_option maxRecDepth 100000
namespace Mine
theorem triples_app {a b c : Value} {i j : Int} {t u : Tok} (ha : a = .int i t) (hb : b = .int j u) : ∀ {l : List Value}, TriplesOk l → TriplesOk (l ++ [a, b, c])
  | [], _ => by subst ha hb; exact trivial
  | .int _ _ :: .int _ _ :: _ :: rest, h => triples_app (l := rest) ha hb h
  | [.int _ _], h => h.elim
  | [.int _ _, .int _ _], h => h.elim
theorem among_app {i j : Int} {t u : Tok} {c : Value} {pos : Pos} : ∀ {l : List Value}, TriplesOk l → codeAmong pos (l ++ [.int i t, .int j u, c]) = match codeAmong pos l with | some x => some x | none => if (i == pos.line && j == pos.col) = true then some c else none
  | [], _ => by simp [codeAmong]
  | .int a _ :: .int b _ :: x :: rest, h => by
    have ih := among_app (i := i) (j := j) (t := t) (u := u) (c := c) (pos := pos) (l := rest) h
    simp only [List.cons_append, codeAmong]
    split
    · rfl
    · exact ih
  | [.int _ _], h => h.elim
  | [.int _ _, .int _ _], h => h.elim
/-- what is known of the table of codes for one lambda -/
def TabK (B : Heap) (pos : Pos) (qual : Str) (ps : Array Value) : Prop := TriplesOk ps.toList ∧ (codeAmong pos ps.toList = none ∨ ∃ cv, codeAmong pos ps.toList = some cv ∧ B.CodeRec cv qual)
theorem TabK.kp {B B' : Heap} {pos : Pos} {qual : Str} {ps : Array Value} (x : TabK B pos qual ps) (k : Kp B B') : TabK B' pos qual ps :=
  ⟨x.1, x.2.imp id fun ⟨cv, a, b⟩ => ⟨cv, a, codeRec_kp b k⟩⟩
section
variable {prog : Program} {w : World} {A : Around} {E : Value → Shared → Prop} {s₀ s : Shared} {K : Frag} {B : Heap} {L : Addr} {l : Ls} {ob ob' : Ob}
  {params : Arguments} {body : Expr} {scope : Scope} {env : Env} {clos : List (Str × Addr)} {c P : Addr} {ps : Array Value} {pos : Pos}
theorem e_lamB {ob' : Obj → Ob} {Q : Value → Shared → Prop} (F : Fm K s₀ B L s l ob) (bi : BI P B) (tk : TabK B pos (env.qual ++ "<lambda>") ps) (hdef : defaultsOf params env = ([], [])) (hcl : closGo env scope.names [] = some clos) (hge : env.globals = mainGlobals) (hcode : env.code = .ref c) (hK : codeHdIn K c P = true)
    (U : ∀ o, UpO P (tabObj ps) o ob (ob' o)) (hid : ob' (tabObj ps) = ob)
    (h : ∀ f s' B' ps', Kp B B' → LamAt B' f params body scope clos (env.qual ++ "<lambda>") → TabK B' pos (env.qual ++ "<lambda>") ps' → (∀ pos' : Pos, ¬ (pos.line = pos'.line ∧ pos.col = pos'.col) → codeAmong pos' ps'.toList = codeAmong pos' ps.toList) → Fm K s₀ B' L s' l (ob' (tabObj ps')) → Q (.ref f) s') :
    wpAny (model prog w) A (eval (.Lambda params body scope pos) env) Q E s := by
  obtain ⟨ht, hn | ⟨cv, hf, hcr⟩⟩ := tk
  · refine e_lam F bi hdef hcl hge hcode hK ht hn U fun f cv s' B' k la F' hcr => ?_
    have e : (ps ++ #[rawInt pos.line, rawInt pos.col, cv]).toList = ps.toList ++ [rawInt pos.line, rawInt pos.col, cv] := by simp
    refine h f s' B' _ k la ⟨?_, .inr ⟨cv, ?_, hcr⟩⟩ (fun pos' hp => ?_) F'
    · rw [e]; exact triples_app rfl rfl ht
    · rw [e]; unfold rawInt; rw [among_app ht, hn]; simp
    · rw [e]; unfold rawInt; rw [among_app ht]
      cases codeAmong pos' ps.toList with
      | some x => rfl
      | none =>
        simp only
        rw [if_neg]
        intro q
        simp only [Bool.and_eq_true, beq_iff_eq] at q
        exact hp ⟨by lia, by lia⟩
  · exact e_lam2 F bi hdef hcl hge hcode hK ht hf (U (tabObj ps)).mem hcr fun f s' B' k la F' => h f s' B' ps k la ⟨ht, .inr ⟨cv, hf, codeRec_kp hcr k⟩⟩ (fun _ _ => rfl) (hid ▸ F')
end
end Mine
end
section
open PySem PySem.W PyProof.Rows PySem.Calls PySem.Spec
set_option maxRecDepth 100000
namespace Mine
section
variable {prog : Program} {w : World} {A : Around} {E : Value → Shared → Prop} {s₀ s : Shared} {env : Env} {K : Frag} {B : Heap} {L : Addr} {l : Ls} {ob ob' : Ob}
theorem e_and2 {x y : Expr} {pos : Pos} {Q : Value → Shared → Prop} (h : wpAny (model prog w) A (eval x env) (fun v s₁ => wpAny (model prog w) A (truthy v) (fun c s₂ => if c = true then wpAny (model prog w) A (eval y env) Q E s₂ else Q v s₂) E s₁) E s) :
    wpAny (model prog w) A (eval (.BoolOp .And [x, y] pos) env) Q E s := BoolOp_and (wpAny_mono h (fun _ _ h₁ => wpAny_mono h₁ (fun c _ h₂ => by
      cases c
      · exact h₂
      · exact BoolOp_one h₂) fun _ _ x => x) fun _ _ x => x)
theorem t_or {xs : List Expr} {pos : Pos} {whole : Sem Value} {Q : Bool → Shared → Prop} (h : wpAny (model prog w) A (allTrue .Or xs env) Q E s) : wpAny (model prog w) A (isTrue (.BoolOp .Or xs pos) env whole) Q E s := wpAny_isTrue_BoolOp h
theorem or_nil {Q : Bool → Shared → Prop} (h : Q false s) : wpAny (model prog w) A (allTrue .Or [] env) Q E s := wpAny_allTrue_Or_nil h
theorem or_cons {x : Expr} {rest : List Expr} {Q : Bool → Shared → Prop}
    (h : wpAny (model prog w) A (isTrue x env (eval x env)) (fun b s₁ => if b = true then Q true s₁ else wpAny (model prog w) A (allTrue .Or rest env) Q E s₁) E s) : wpAny (model prog w) A (allTrue .Or (x :: rest) env) Q E s := by
  show wpAny _ A (do match BoolOp.Or, ← isTrue x env (eval x env) with | .And, false => pure false | .Or, true => pure true | _, _ => allTrue .Or rest env) Q E s
  refine wpAny_bind (wpAny_mono h (fun b s₁ h₁ => ?_) fun _ _ x => x)
  cases b
  · exact h₁
  · exact wpAny_pure h₁
end
theorem eqv_ints : ∀ (a b : List Int), PyData.eqvAll (a.map .int) (b.map .int) = decide (a = b)
  | [], [] => by simp [PyData.eqvAll]
  | [], _ :: _ => by simp [PyData.eqvAll]
  | _ :: _, [] => by simp [PyData.eqvAll]
  | x :: r, y :: t => by
    simp only [List.map_cons, PyData.eqvAll, PyData.eqv, eqv_ints r t]
    by_cases h : x = y <;> by_cases h' : r = t <;> simp [h, h']
theorem eqv_dIs (a b : List Int) : PyData.eqv (dIs a) (dIs b) = decide (a = b) := by
  show PyData.eqvAll _ _ = _
  exact eqv_ints a b
end Mine
end
section
open PySem PySem.W PyProof.Rows PySem.Calls PySem.Spec
set_option maxRecDepth 100000
namespace Mine
section
variable {prog : Program} {w : World} {A : Around} {E : Value → Shared → Prop} {s₀ s : Shared} {K : Frag} {B : Heap} {ob : Ob}
theorem env_go0 {scope : Scope} {cl : List (Str × Addr)} {binds : List (Str × Value)} {qual : Str} {f : Addr} {cdv : Value} {Q : Env → Shared → Prop} (G : Gd K B) (kB : Kp B s.heap) (hob : ∀ p ∈ ob, s.heap.get? p.1 = some p.2 ∧ B.get? p.1 = none) (nd : (List.map Prod.fst ob).Nodup)
    (h : ∀ s', Fm K s B s.heap.objs.size s' [] (cellOb (s.heap.objs.size + 1) scope.names [] ++ ob) →
      BindsGo (model prog w) A (envX qual scope s.heap.objs.size f cdv (cellsFrom (s.heap.objs.size + 1) scope.names cl)) (fun s'' => Q (envX qual scope s.heap.objs.size f cdv (cellsFrom (s.heap.objs.size + 1) scope.names cl)) s'') binds s') :
    wpAny (model prog w) A (newFunctionEnv scope mainGlobals cl binds (qual ++ ".<locals>.") (some f) cdv none builtinsNs) Q E s := by
  simp only [newFunctionEnv, Option.isSome_none, Bool.false_eq_true, if_false]
  refine wpAny_bind (wpAny_alloc ?_)
  refine wpAny_bind (wpAny_layCells _ (fun name kind cells => by cases hkc : kind == NameKind.cell <;> simp) _ _ _ _ ?_)
  have hz : ({ s with heap := s.heap.push { cls := .type "frame", data := .dict #[] } } : Shared).heap.objs.size = s.heap.objs.size + 1 := Heap.size_push ..
  rw [hz]
  refine wpAny_bind ?_
  have F1 : Fm K s B s.heap.objs.size { s with heap := s.heap.push { cls := .type "frame", data := .dict #[] } } [] ob := by
    refine ⟨G, ⟨_, Heap.Ns.new s.heap (.type "frame"), fun x v e => by cases e⟩, kB.trans (Kp.push _), Kp.none kB (get_none_of_le (Nat.le_refl _)), fun p hp => ⟨Kp.push _ _ _ (hob p hp).1, Nat.ne_of_lt (Heap.lt_size (hob p hp).1), (hob p hp).2⟩, nd, ⟨rfl, rfl, rfl⟩⟩
  have F2 := F1.cells scope.names
  rw [hz, show ob = [] ++ ob from rfl, cellOb_app] at F2
  exact wpAny_mono (binds_run _ (fun _ _ _ => rfl) binds _ (h _ F2)) (fun _ _ h' => wpAny_pure h') fun _ _ x => x
/-- a call of a def from outside -/
theorem call_top (binds : List (Str × Value)) {name qual : Str} {params : Arguments} {body : List Stmt} {scope : Scope} {cl : List (Str × Addr)} {dV kV doc pm cdv ct oc : Value} {an od : Option Addr} {osl : Array (Option Value)} {f : Addr} {pos : List Value} {kw : List (Str × Value)} {k : Nat} {Q : Value → Shared → Prop}
    (G : Gd K B) (kB : Kp B s.heap) (hob : ∀ p ∈ ob, s.heap.get? p.1 = some p.2 ∧ B.get? p.1 = none) (nd : (List.map Prod.fst ob).Nodup) (R : Rm A (k + 1))
    (ho : K.lookup f = some ⟨oc, od, .func (fnX name qual params body scope cl dV kV doc pm an cdv ct), osl⟩) (hcd : codeIn K cdv qual = true)
    (hbind : BindsTo s (fnX name qual params body scope cl dV kV doc pm an cdv ct) ⟨pos, kw⟩ binds)
    (h : ∀ L' s' A' A₁, Fm K s B L' s' [] (cellOb (L' + 1) scope.names [] ++ ob) → Rm A' k →
      BindsGo (model prog w) A₁ (envX qual scope L' f cdv (cellsFrom (L' + 1) scope.names cl)) (fun s'' => Gd K s''.heap ∧ wpAny (model prog w) A' (execs body (envX qual scope L' f cdv (cellsFrom (L' + 1) scope.names cl))) (RetTo Q) (fun _ _ => False) s'') binds s')
    (hco : scope.isCoroutine = false) (hgen : scope.isGenerator = false) : wpAny (model prog w) A (call (.ref f) pos kw) Q E s := by
  have GS := G.kp kB
  refine wpAny_call ?_
  refine codeAny_call_function (fd := fnX name qual params body scope cl dV kV doc pm an cdv ct) R.room (GS.k _ _ ho) rfl hco hgen rfl (codeRec_of GS.k hcd) (hbind _ _ _ _ ?_)
  refine env_go0 G kB hob nd fun s' F' => ?_
  have mono : ∀ (bs : List (Str × Value)) (s : Shared) (P P' : Shared → Prop) (A : Around) (env : Env), (∀ s, P s → P' s) → BindsGo (model prog w) A env P bs s → BindsGo (model prog w) A env P' bs s := by
    intro bs
    induction bs with
    | nil => intro s P P' A env hp h; exact hp _ h
    | cons x r ih => intro s P P' A env hp h; exact wpAny_mono h (fun _ s' h' => ih s' P P' A env hp h') fun _ _ x => x
  refine mono _ _ _ _ _ _ (fun s'' hs => ?_) (h _ s' (A.deeper (envX qual scope s.heap.objs.size f cdv (cellsFrom (s.heap.objs.size + 1) scope.names cl))) A.in1 F' R.deeper)
  refine ⟨hs.1.nl, codeAny_func (wpAny_mono hs.2 (fun fl s' hq => ?_) fun _ _ x => x.elim)⟩
  cases fl <;> exact hq
theorem gd_ghost {tabs : List (Addr × Addr)} {p : Program} {loose : List Str} {mean : ExcName → Option Value} {mg mb : Str → Option Value} {h : Heap} (hT : TabsAt tabs h) (X : K.In h) (hK : noTabs K = true) (T : Top p loose mean mg mb h) : Gd K (ghostOf h tabs) :=
  let T' := ghost_top hT T
  ⟨ghost_K hT X hK, ⟨mg, T'.g⟩, ⟨mb, T'.b, T'.builtins⟩, T'.nolimit⟩
end
end Mine
end
section
open PySem PySem.W PyProof.Rows PySem.Calls
set_option maxRecDepth 100000
namespace Mine
noncomputable abbrev KK (w : World) : Frag := Mine.hd.heap_39 w.params
abbrev PP : Program := PySem.Challenge.rw_pe0230_02.row.prog
theorem leadK (w : World) : LeadK (KK w) 83 45 52 73 where
  hh := by kernel_rfl
  g1 := by kernel_rfl
  a1 := by kernel_rfl
  a2 := by kernel_rfl
  a3 := by kernel_rfl
  a4 := by kernel_rfl
  a5 := by kernel_rfl
  a6 := by kernel_rfl
  a7 := by kernel_rfl
  t5 := by kernel_rfl
  t6 := by kernel_rfl
  t7 := by kernel_rfl

set_option maxHeartbeats 4000000 in
theorem longest_spec {w : World} {A : Around} {s : Shared} {a : Addr} {d : Lead} {Q E} (R : Rm A 3) (G : Gd (KK w) s.heap) (H : LeadAt 83 s.heap a d)
    (h : ∀ t s', Gr s s' → Q (.int (max ((d.cnt.length : Int) - 1) d.b) t) s') : wpAny (model PP w) A (call (.ref 45) [.ref a]) Q E s := by
  refine @call_fn _ _ _ _ _ _ [("self", .ref a)] _ _ _ _ _ _ _ _ _ _ _ _ _ _ _ _ _ _ _ _ _ R G (by rfl) (by rfl) (BindsTo.of_eq (by rfl)) (by rfl) (by rfl) (fun L s₁ A' hL F R' => ?_) (by rfl) (by rfl) (by rfl)
  refine @s_unpack2 _ _ _ _ _ _ _ _ _ _ _ _ _ _ _ _ R'.h ?_ (by rfl) (by rfl)
  refine Attribute_any_ ?_
  with_reducible rename Fm _ _ _ _ _ _ _ => F0
  refine @nm_local _ _ _ _ _ _ _ _ _ _ _ _ _ _ _ _ F0 (by rfl) (by rfl) ?_ (by rfl) (by rfl) (by decide)
  rename Fm _ _ _ _ _ _ _ => F
  refine @ga_norm _ _ _ _ _ _ _ _ _ _ _ _ _ _ _ _ _ _ _ (leadK w) F H fun tn tc u vs s₂ T1 T2 I F => ⟨_, _, _, rfl, T1.keeps F.kp, fun s₃ g => ?_⟩
  replace F := F.gr g
  with_reducible rename Fm _ _ _ _ _ _ _ => F0
  refine @st_local _ _ _ _ _ _ _ _ _ _ _ _ _ _ _ F0 (by rfl) ?_ (by rfl) (by rfl)
  clear F0
  intro _ _
  with_reducible rename Fm _ _ _ _ _ _ _ => F0
  refine @st_local _ _ _ _ _ _ _ _ _ _ _ _ _ _ _ F0 (by rfl) ?_ (by rfl) (by rfl)
  clear F0
  intro _ _
  refine @s_ret _ _ _ _ _ _ _ _ _ ?_
  refine @e_call _ _ _ _ _ _ _ _ _ _ _ ?_
  with_reducible rename Fm _ _ _ _ _ _ _ => F0
  refine @nm_bi _ _ _ _ _ _ _ _ _ _ _ _ _ _ _ _ F0 (by rfl) (by rfl) (by exact bb_max) ?_ (by rfl) (by rfl) (by rfl) (by decide) (by decide)
  refine @cw_bi2 _ _ _ _ _ _ _ _ _ _ _ ?_ (by rfl)
  refine wpAny_BinOp ?_
  refine @e_call _ _ _ _ _ _ _ _ _ _ _ ?_
  with_reducible rename Fm _ _ _ _ _ _ _ => F0
  refine @nm_bi _ _ _ _ _ _ _ _ _ _ _ _ _ _ _ _ F0 (by rfl) (by rfl) (by exact bb_len) ?_ (by rfl) (by rfl) (by rfl) (by decide) (by decide)
  refine @cw_bi1 _ _ _ _ _ _ _ _ _ _ ?_ (by rfl)
  with_reducible rename Fm _ _ _ _ _ _ _ => F0
  refine @nm_local _ _ _ _ _ _ _ _ _ _ _ _ _ _ _ _ F0 (by rfl) (by rfl) ?_ (by rfl) (by rfl) (by decide)
  rename Fm _ _ _ _ _ _ _ => F
  have hlen : vs.size = d.cnt.length := by simpa using I.length
  have hsz := H.sz
  refine @b_len_tup _ _ _ _ _ _ _ _ _ _ _ _ _ _ F (T2.keeps F.kp) (by omega) (fun _ _ F => ?_)
  rw [hlen]
  with_reducible rename Fm _ _ _ _ _ _ _ => F0
  refine @e_int _ _ _ _ _ _ _ _ _ _ _ _ _ _ _ _ F0 ?_
  clear F0
  intro _ _ _
  with_reducible rename Fm _ _ _ _ _ _ _ => F0
  refine @o_sub _ _ _ _ _ _ _ _ _ _ _ _ _ _ _ _ F0 ?_
  clear F0
  intro _ _ _
  with_reducible rename Fm _ _ _ _ _ _ _ => F0
  refine @nm_local _ _ _ _ _ _ _ _ _ _ _ _ _ _ _ _ F0 (by rfl) (by rfl) ?_ (by rfl) (by rfl) (by decide)
  rename Fm _ _ _ _ _ _ _ => F
  refine @b_max _ _ _ _ _ _ _ _ _ _ _ _ _ _ _ _ F R'.h fun _ _ F => ?_
  with_reducible refine @retTo_ret _ _ _ ?_
  exact h _ _ ⟨F.sm, F.kp⟩
end Mine
end
section
open PySem PySem.W PyProof.Rows PySem.Calls
set_option maxRecDepth 100000
namespace Mine

def ilTo (cnt : List Int) (ts : Int) : Nat → Int
  | 0 => 0
  | k + 1 => ilTo cnt ts k + (ts + k) / ts * cnt.getD (ts + k).toNat 0
def Lead.level (d : Lead) (ts : Int) : Int := d.b + ts * (ilTo d.cnt ts ((d.cnt.length : Int) - ts).toNat + d.nt)

set_option maxHeartbeats 4000000 in
theorem indent_spec {w : World} {A : Around} {s : Shared} {a : Addr} {d : Lead} {ts : Int} {tt : Tok} {Q E} (R : Rm A 3) (G : Gd (KK w) s.heap) (H : LeadAt 83 s.heap a d) (h1 : 0 < ts) (h2 : ts < 1000)
    (h : ∀ t s', Gr s s' → Q (.int (d.level ts) t) s') : wpAny (model PP w) A (call (.ref 52) [.ref a, .int ts tt]) Q E s := by
  refine @call_fn _ _ _ _ _ _ [("self", .ref a), ("tabsize", .int ts tt)] _ _ _ _ _ _ _ _ _ _ _ _ _ _ _ _ _ _ _ _ _ R G (by rfl) (by rfl) (BindsTo.of_eq (by rfl)) (by rfl) (by rfl) (fun L s₁ A' hL F R' => ?_) (by rfl) (by rfl) (by rfl)
  refine @s_unpack2 _ _ _ _ _ _ _ _ _ _ _ _ _ _ _ _ R'.h ?_ (by rfl) (by rfl)
  refine Attribute_any_ ?_
  with_reducible rename Fm _ _ _ _ _ _ _ => F0
  refine @nm_local _ _ _ _ _ _ _ _ _ _ _ _ _ _ _ _ F0 (by rfl) (by rfl) ?_ (by rfl) (by rfl) (by decide)
  rename Fm _ _ _ _ _ _ _ => F
  refine @ga_norm _ _ _ _ _ _ _ _ _ _ _ _ _ _ _ _ _ _ _ (leadK w) F H fun tn tc u vs s₂ T1 T2 I F => ⟨_, _, _, rfl, T1.keeps F.kp, fun s₃ g => ?_⟩
  replace F := F.gr g
  with_reducible rename Fm _ _ _ _ _ _ _ => F0
  refine @st_local _ _ _ _ _ _ _ _ _ _ _ _ _ _ _ F0 (by rfl) ?_ (by rfl) (by rfl)
  clear F0
  intro _ _
  with_reducible rename Fm _ _ _ _ _ _ _ => F0
  refine @st_local _ _ _ _ _ _ _ _ _ _ _ _ _ _ _ F0 (by rfl) ?_ (by rfl) (by rfl)
  clear F0
  intro _ _
  refine @s_assign _ _ _ _ _ _ _ _ _ _ _ ?_ (by rfl)
  with_reducible rename Fm _ _ _ _ _ _ _ => F0
  refine @e_int _ _ _ _ _ _ _ _ _ _ _ _ _ _ _ _ F0 ?_
  clear F0
  intro _ _ _
  with_reducible rename Fm _ _ _ _ _ _ _ => F0
  refine @st_local _ _ _ _ _ _ _ _ _ _ _ _ _ _ _ F0 (by rfl) ?_ (by rfl) (by rfl)
  clear F0
  intro _ _
  refine @s_for _ _ _ _ _ _ _ _ _ _ _ _ ?_ (by intro _; rfl)
  refine @e_call _ _ _ _ _ _ _ _ _ _ _ ?_
  with_reducible rename Fm _ _ _ _ _ _ _ => F0
  refine @nm_bi _ _ _ _ _ _ _ _ _ _ _ _ _ _ _ _ F0 (by rfl) (by rfl) (by exact bb_range) ?_ (by rfl) (by rfl) (by rfl) (by decide) (by decide)
  refine @cw_ty2 _ _ _ _ _ _ _ _ _ _ _ ?_ (by rfl)
  with_reducible rename Fm _ _ _ _ _ _ _ => F0
  refine @nm_local _ _ _ _ _ _ _ _ _ _ _ _ _ _ _ _ F0 (by rfl) (by rfl) ?_ (by rfl) (by rfl) (by decide)
  refine @e_call _ _ _ _ _ _ _ _ _ _ _ ?_
  with_reducible rename Fm _ _ _ _ _ _ _ => F0
  refine @nm_bi _ _ _ _ _ _ _ _ _ _ _ _ _ _ _ _ F0 (by rfl) (by rfl) (by exact bb_len) ?_ (by rfl) (by rfl) (by rfl) (by decide) (by decide)
  refine @cw_bi1 _ _ _ _ _ _ _ _ _ _ ?_ (by rfl)
  with_reducible rename Fm _ _ _ _ _ _ _ => F0
  refine @nm_local _ _ _ _ _ _ _ _ _ _ _ _ _ _ _ _ F0 (by rfl) (by rfl) ?_ (by rfl) (by rfl) (by decide)
  rename Fm _ _ _ _ _ _ _ => F
  have hlen : vs.size = d.cnt.length := by simpa using I.length
  have hsz := H.sz
  refine @b_len_tup _ _ _ _ _ _ _ _ _ _ _ _ _ _ F (T2.keeps F.kp) (by lia) (fun _ _ F => ?_)
  rw [hlen]
  refine @b_range2 _ _ _ _ _ _ _ _ _ _ _ _ _ _ _ _ R'.h F (by lia) (by lia) (by lia) (by lia) fun r s₄ F it => ?_
  replace F := F.sub (l' := [("self", .ref a), ("tabsize", .int ts tt), ("count", .ref tc), ("trailing", .int d.b u), ("il", .int 0 _)]) ⟨rfl, rfl, rfl, rfl, rfl, trivial⟩
  refine @for_iter _ _ _ _ _ _ _ _ _ _ _ _ _ _ _ _ _ _ _ F (it _) (fun k l ob => ob = [] ∧ ∃ t, l = ([("self", .ref a), ("tabsize", .int ts tt), ("count", .ref tc), ("trailing", .int d.b u), ("il", .int (ilTo d.cnt ts k) t)] : Ls)) ⟨rfl, _, rfl⟩ ?_ ?_
  · rintro i s₅ l ob ex v hi ⟨rfl, t, rfl⟩ ⟨t', rfl⟩ F
    with_reducible rename Fm _ _ _ _ _ _ _ => F0
    refine @st_local _ _ _ _ _ _ _ _ _ _ _ _ _ _ _ F0 (by rfl) ?_ (by rfl) (by rfl)
    clear F0
    intro _ _
    refine @s_assign _ _ _ _ _ _ _ _ _ _ _ ?_ (by rfl)
    refine wpAny_BinOp ?_
    with_reducible rename Fm _ _ _ _ _ _ _ => F0
    refine @nm_local _ _ _ _ _ _ _ _ _ _ _ _ _ _ _ _ F0 (by rfl) (by rfl) ?_ (by rfl) (by rfl) (by decide)
    refine wpAny_BinOp ?_
    refine wpAny_BinOp ?_
    with_reducible rename Fm _ _ _ _ _ _ _ => F0
    refine @nm_local _ _ _ _ _ _ _ _ _ _ _ _ _ _ _ _ F0 (by rfl) (by rfl) ?_ (by rfl) (by rfl) (by decide)
    with_reducible rename Fm _ _ _ _ _ _ _ => F0
    refine @nm_local _ _ _ _ _ _ _ _ _ _ _ _ _ _ _ _ F0 (by rfl) (by rfl) ?_ (by rfl) (by rfl) (by decide)
    rename Fm _ _ _ _ _ _ _ => F
    refine @o_div _ _ _ _ _ _ _ _ _ _ _ _ _ _ _ _ F (by omega) (PyProof.noPylong_small (by omega)) fun _ _ F => ?_
    refine Subscript_ ?_
    with_reducible rename Fm _ _ _ _ _ _ _ => F0
    refine @nm_local _ _ _ _ _ _ _ _ _ _ _ _ _ _ _ _ F0 (by rfl) (by rfl) ?_ (by rfl) (by rfl) (by decide)
    with_reducible rename Fm _ _ _ _ _ _ _ => F0
    refine @nm_local _ _ _ _ _ _ _ _ _ _ _ _ _ _ _ _ F0 (by rfl) (by rfl) ?_ (by rfl) (by rfl) (by decide)
    rename Fm _ _ _ _ _ _ _ => F
    obtain ⟨u', hx⟩ := I.get (ts + i).toNat (d.cnt.getD (ts + i).toNat 0) (by rw [List.getD_eq_getElem?_getD]; rw [List.getElem?_eq_getElem (by lia)]; rfl)
    refine @sub_tup _ _ _ _ _ _ _ _ _ _ (vs.toList) _ _ (by simpa using T2.keeps F.kp) (by lia) (by omega) hx ?_ (by with_unfolding_all rfl)
    have : 0 ≤ (ts + i) / ts := Int.ediv_nonneg (by lia) (by lia)
    have : (ts + i) / ts ≤ ts + i := Int.ediv_le_self _ (by lia)
    refine @o_mul _ _ _ _ _ _ _ _ _ _ _ _ _ _ _ _ F (mul_ok (by lia) (by lia)) fun _ _ F => ?_
    with_reducible rename Fm _ _ _ _ _ _ _ => F0
    refine @o_add _ _ _ _ _ _ _ _ _ _ _ _ _ _ _ _ F0 ?_
    clear F0
    intro _ _ _
    with_reducible rename Fm _ _ _ _ _ _ _ => F0
    refine @st_local _ _ _ _ _ _ _ _ _ _ _ _ _ _ _ F0 (by rfl) ?_ (by rfl) (by rfl)
    clear F0
    intro _ _
    refine @s_nil _ _ _ _ _ _ ?_
    with_reducible refine @lp_next _ _ _ ?_
    rename Fm _ _ _ _ _ _ _ => F
    exact ⟨_, [], ⟨rfl, _, rfl⟩, F.sub ⟨rfl, rfl, rfl, rfl, rfl, trivial⟩⟩
  · rintro s₅ l ob ⟨rfl, t, rfl⟩ F
    with_reducible refine @then_next _ _ _ _ _ _ _ ?_
    refine @s_ret _ _ _ _ _ _ _ _ _ ?_
    refine wpAny_BinOp ?_
    with_reducible rename Fm _ _ _ _ _ _ _ => F0
    refine @nm_local _ _ _ _ _ _ _ _ _ _ _ _ _ _ _ _ F0 (by rfl) (by rfl) ?_ (by rfl) (by rfl) (by decide)
    refine wpAny_BinOp ?_
    with_reducible rename Fm _ _ _ _ _ _ _ => F0
    refine @nm_local _ _ _ _ _ _ _ _ _ _ _ _ _ _ _ _ F0 (by rfl) (by rfl) ?_ (by rfl) (by rfl) (by decide)
    refine wpAny_BinOp ?_
    with_reducible rename Fm _ _ _ _ _ _ _ => F0
    refine @nm_local _ _ _ _ _ _ _ _ _ _ _ _ _ _ _ _ F0 (by rfl) (by rfl) ?_ (by rfl) (by rfl) (by decide)
    refine Attribute_any_ ?_
    with_reducible rename Fm _ _ _ _ _ _ _ => F0
    refine @nm_local _ _ _ _ _ _ _ _ _ _ _ _ _ _ _ _ F0 (by rfl) (by rfl) ?_ (by rfl) (by rfl) (by decide)
    with_reducible rename Fm _ _ _ _ _ _ _ => F0
    refine @ga_nt _ _ _ _ _ _ _ _ _ _ _ _ _ _ _ _ _ _ _ (leadK _) F0 (by assumption) ?_
    clear F0
    intro _ _ _
    with_reducible rename Fm _ _ _ _ _ _ _ => F0
    refine @o_add _ _ _ _ _ _ _ _ _ _ _ _ _ _ _ _ F0 ?_
    clear F0
    intro _ _ _
    rename Fm _ _ _ _ _ _ _ => F
    refine @o_mul _ _ _ _ _ _ _ _ _ _ _ _ _ _ _ _ F (mul_ok (by lia) (by lia)) fun _ _ F => ?_
    with_reducible rename Fm _ _ _ _ _ _ _ => F0
    refine @o_add _ _ _ _ _ _ _ _ _ _ _ _ _ _ _ _ F0 ?_
    clear F0
    intro _ _ _
    with_reducible refine @retTo_ret _ _ _ ?_
    rename Fm _ _ _ _ _ _ _ => F
    exact h _ _ ⟨F.sm, F.kp⟩
end Mine
end
section
open PySem PySem.W PyProof.Rows PySem.Calls
set_option maxRecDepth 100000
namespace Mine

def Lead.longest (d : Lead) : Int := max ((d.cnt.length : Int) - 1) d.b
def lessTo (d e : Lead) : Nat → Bool
  | 0 => true
  | k + 1 => lessTo d e k && decide (d.level (2 + k) < e.level (2 + k))
def lessB (d e : Lead) : Bool :=
  if e.n ≤ d.n then false else if d.cnt.length ≤ 1 ∧ e.cnt.length ≤ 1 then decide (d.nt ≤ e.nt) else lessTo d e (max d.longest e.longest).toNat
theorem lessTo_false {d e : Lead} {k : Nat} (h : ¬ d.level (2 + k) < e.level (2 + k)) : ∀ j, k < j → lessTo d e j = false
  | 0, hk => absurd hk (Nat.not_lt_zero _)
  | j + 1, hk => by
    unfold lessTo
    by_cases q : k = j
    · subst q; simp [h]
    · rw [lessTo_false h j (by lia)]; rfl

set_option maxHeartbeats 4000000 in
theorem less_spec {w : World} {A : Around} {s : Shared} {a b : Addr} {d e : Lead} {Q E} (R : Rm A 6) (G : Gd (KK w) s.heap) (H : LeadAt 83 s.heap a d) (H2 : LeadAt 83 s.heap b e)
    (h : ∀ s', Gr s s' → Q (.bool (lessB d e)) s') : wpAny (model PP w) A (call (.ref 73) [.ref a, .ref b]) Q E s := by
  refine @call_fn _ _ _ _ _ _ [("self", .ref a), ("other", .ref b)] _ _ _ _ _ _ _ _ _ _ _ _ _ _ _ _ _ _ _ _ _ R G (by rfl) (by rfl) (BindsTo.of_eq (by rfl)) (by rfl) (by rfl) (fun L s₁ A' hL F R' => ?_) (by rfl) (by rfl) (by rfl)
  have R3 : Rm A' 3 := R'.le (by lia)
  have hb := H.sz
  have hb2 := H2.sz
  have l1 : 0 ≤ d.longest ∧ d.longest < 900 := by unfold Lead.longest; omega
  have l2 : 0 ≤ e.longest ∧ e.longest < 900 := by unfold Lead.longest; omega
  refine @s_if _ _ _ _ _ _ _ _ _ _ _ ?_
  refine wpAny_isTrue_Compare1 ?_ (by rfl)
  refine Attribute_any_ ?_
  with_reducible rename Fm _ _ _ _ _ _ _ => F0
  refine @nm_local _ _ _ _ _ _ _ _ _ _ _ _ _ _ _ _ F0 (by rfl) (by rfl) ?_ (by rfl) (by rfl) (by decide)
  with_reducible rename Fm _ _ _ _ _ _ _ => F0
  refine @ga_n _ _ _ _ _ _ _ _ _ _ _ _ _ _ _ _ _ _ _ (leadK _) F0 (by assumption) ?_
  clear F0
  intro _ _ _
  refine Attribute_any_ ?_
  with_reducible rename Fm _ _ _ _ _ _ _ => F0
  refine @nm_local _ _ _ _ _ _ _ _ _ _ _ _ _ _ _ _ F0 (by rfl) (by rfl) ?_ (by rfl) (by rfl) (by decide)
  with_reducible rename Fm _ _ _ _ _ _ _ => F0
  refine @ga_n _ _ _ _ _ _ _ _ _ _ _ _ _ _ _ _ _ _ _ (leadK _) F0 (by assumption) ?_
  clear F0
  intro _ _ _
  refine @c_ge _ _ _ _ _ _ _ _ _ _ ?_
  refine wpAny_truthy_bool ?_
  refine @ite_d _ _ _ _ (fun c => ?_) (fun c => ?_)
  · refine @s_ret _ _ _ _ _ _ _ _ _ ?_
    refine @e_bool _ _ _ _ _ _ _ _ _ _ ?_
    with_reducible refine @then_ret _ _ _ _ _ _ _ _ ?_
    with_reducible refine @retTo_ret _ _ _ ?_
    rename Fm _ _ _ _ _ _ _ => F
    have := h _ ⟨F.sm, F.kp⟩
    rwa [show lessB d e = false from by unfold lessB; rw [if_pos c]] at this
  · refine @s_nil _ _ _ _ _ _ ?_
    with_reducible refine @then_next _ _ _ _ _ _ _ ?_
    refine @s_if _ _ _ _ _ _ _ _ _ _ _ ?_
    rename Fm _ _ _ _ _ _ _ => F
    refine @cutB _ _ _ _ _ _ _ _ _ _ _ _ _ F (d.cnt.length ≤ 1 ∧ e.cnt.length ≤ 1) _ ?_ fun s₂ F => ?_
    · refine @t_and _ _ _ _ _ _ _ _ _ _ _ ?_
      refine isTrue_plain ?_ (by rfl)
      refine Attribute_any_ ?_
      with_reducible rename Fm _ _ _ _ _ _ _ => F0
      refine @nm_local _ _ _ _ _ _ _ _ _ _ _ _ _ _ _ _ F0 (by rfl) (by rfl) ?_ (by rfl) (by rfl) (by decide)
      with_reducible rename Fm _ _ _ _ _ _ _ => F0
      refine @ga_simple _ _ _ _ _ _ _ _ _ _ _ _ _ _ _ _ _ _ _ (leadK _) F0 (by assumption) ?_
      clear F0
      intro _ _
      refine wpAny_truthy_bool ?_
      refine @ite_d _ _ _ _ (fun c1 => ?_) (fun c1 => ?_)
      refine isTrue_plain ?_ (by rfl)
      refine Attribute_any_ ?_
      with_reducible rename Fm _ _ _ _ _ _ _ => F0
      refine @nm_local _ _ _ _ _ _ _ _ _ _ _ _ _ _ _ _ F0 (by rfl) (by rfl) ?_ (by rfl) (by rfl) (by decide)
      with_reducible rename Fm _ _ _ _ _ _ _ => F0
      refine @ga_simple _ _ _ _ _ _ _ _ _ _ _ _ _ _ _ _ _ _ _ (leadK _) F0 (by assumption) ?_
      clear F0
      intro _ _
      refine wpAny_truthy_bool ?_
      all_goals rename Fm _ _ _ _ _ _ _ => F
      · exact ⟨by simp [c1], F⟩
      · exact ⟨by simp [c1], F⟩
    refine @ite_d _ _ _ _ (fun c1 => ?_) (fun c1 => ?_)
    · refine @s_ret _ _ _ _ _ _ _ _ _ ?_
      refine wpAny_Compare1 ?_ (by rfl)
      refine Attribute_any_ ?_
      with_reducible rename Fm _ _ _ _ _ _ _ => F0
      refine @nm_local _ _ _ _ _ _ _ _ _ _ _ _ _ _ _ _ F0 (by rfl) (by rfl) ?_ (by rfl) (by rfl) (by decide)
      with_reducible rename Fm _ _ _ _ _ _ _ => F0
      refine @ga_nt _ _ _ _ _ _ _ _ _ _ _ _ _ _ _ _ _ _ _ (leadK _) F0 (by assumption) ?_
      clear F0
      intro _ _ _
      refine Attribute_any_ ?_
      with_reducible rename Fm _ _ _ _ _ _ _ => F0
      refine @nm_local _ _ _ _ _ _ _ _ _ _ _ _ _ _ _ _ F0 (by rfl) (by rfl) ?_ (by rfl) (by rfl) (by decide)
      with_reducible rename Fm _ _ _ _ _ _ _ => F0
      refine @ga_nt _ _ _ _ _ _ _ _ _ _ _ _ _ _ _ _ _ _ _ (leadK _) F0 (by assumption) ?_
      clear F0
      intro _ _ _
      refine @c_le _ _ _ _ _ _ _ _ _ _ ?_
      with_reducible refine @then_ret _ _ _ _ _ _ _ _ ?_
      with_reducible refine @retTo_ret _ _ _ ?_
      rename Fm _ _ _ _ _ _ _ => F
      have := h _ ⟨F.sm, F.kp⟩
      rwa [show lessB d e = decide (d.nt ≤ e.nt) from by unfold lessB; rw [if_neg c, if_pos c1]] at this
    · refine @s_nil _ _ _ _ _ _ ?_
      with_reducible refine @then_next _ _ _ _ _ _ _ ?_
      refine @s_assign _ _ _ _ _ _ _ _ _ _ _ ?_ (by rfl)
      refine wpAny_BinOp ?_
      refine @e_call _ _ _ _ _ _ _ _ _ _ _ ?_
      with_reducible rename Fm _ _ _ _ _ _ _ => F0
      refine @nm_bi _ _ _ _ _ _ _ _ _ _ _ _ _ _ _ _ F0 (by rfl) (by rfl) (by exact bb_max) ?_ (by rfl) (by rfl) (by rfl) (by decide) (by decide)
      refine @cw_bi2 _ _ _ _ _ _ _ _ _ _ _ ?_ (by rfl)
      refine @e_meth _ _ _ _ _ _ _ _ _ _ _ _ ?_ (by rfl) (by rfl) (by rfl)
      with_reducible rename Fm _ _ _ _ _ _ _ => F0
      refine @nm_local _ _ _ _ _ _ _ _ _ _ _ _ _ _ _ _ F0 (by rfl) (by rfl) ?_ (by rfl) (by rfl) (by decide)
      with_reducible rename Fm _ _ _ _ _ _ _ => F0
      refine @gm_lead _ _ _ _ _ _ _ _ _ _ _ _ _ _ _ _ (leadK _) (Fm.gdh F0) (LeadAt.kp (by assumption) (Fm.kp F0)) (.inl ⟨rfl, rfl⟩) ?_
      with_reducible rename Fm _ _ _ _ _ _ _ => F0
      refine @cw_M0 _ _ _ _ _ _ _ _ _ _ _ (by rfl) (Fm.gdh F0) ?_
      rename Fm _ _ _ _ _ _ _ => F
      refine @longest_spec _ _ _ _ _ _ _ R3 F.gdh (H.kp F.kp) fun _ s₃ g => ?_
      replace F := F.gr g
      refine @e_meth _ _ _ _ _ _ _ _ _ _ _ _ ?_ (by rfl) (by rfl) (by rfl)
      with_reducible rename Fm _ _ _ _ _ _ _ => F0
      refine @nm_local _ _ _ _ _ _ _ _ _ _ _ _ _ _ _ _ F0 (by rfl) (by rfl) ?_ (by rfl) (by rfl) (by decide)
      with_reducible rename Fm _ _ _ _ _ _ _ => F0
      refine @gm_lead _ _ _ _ _ _ _ _ _ _ _ _ _ _ _ _ (leadK _) (Fm.gdh F0) (LeadAt.kp (by assumption) (Fm.kp F0)) (.inl ⟨rfl, rfl⟩) ?_
      with_reducible rename Fm _ _ _ _ _ _ _ => F0
      refine @cw_M0 _ _ _ _ _ _ _ _ _ _ _ (by rfl) (Fm.gdh F0) ?_
      rename Fm _ _ _ _ _ _ _ => F
      refine @longest_spec _ _ _ _ _ _ _ R3 F.gdh (H2.kp F.kp) fun _ s₃ g => ?_
      replace F := F.gr g
      refine @b_max _ _ _ _ _ _ _ _ _ _ _ _ _ _ _ _ F R'.h fun _ _ F => ?_
      with_reducible rename Fm _ _ _ _ _ _ _ => F0
      refine @e_int _ _ _ _ _ _ _ _ _ _ _ _ _ _ _ _ F0 ?_
      clear F0
      intro _ _ _
      with_reducible rename Fm _ _ _ _ _ _ _ => F0
      refine @o_add _ _ _ _ _ _ _ _ _ _ _ _ _ _ _ _ F0 ?_
      clear F0
      intro _ _ _
      with_reducible rename Fm _ _ _ _ _ _ _ => F0
      refine @st_local _ _ _ _ _ _ _ _ _ _ _ _ _ _ _ F0 (by rfl) ?_ (by rfl) (by rfl)
      clear F0
      intro _ _
      refine @s_for _ _ _ _ _ _ _ _ _ _ _ _ ?_ (by intro _; rfl)
      refine @e_call _ _ _ _ _ _ _ _ _ _ _ ?_
      with_reducible rename Fm _ _ _ _ _ _ _ => F0
      refine @nm_bi _ _ _ _ _ _ _ _ _ _ _ _ _ _ _ _ F0 (by rfl) (by rfl) (by exact bb_range) ?_ (by rfl) (by rfl) (by rfl) (by decide) (by decide)
      refine @cw_ty2 _ _ _ _ _ _ _ _ _ _ _ ?_ (by rfl)
      with_reducible rename Fm _ _ _ _ _ _ _ => F0
      refine @e_int _ _ _ _ _ _ _ _ _ _ _ _ _ _ _ _ F0 ?_
      clear F0
      intro _ _ _
      refine wpAny_BinOp ?_
      with_reducible rename Fm _ _ _ _ _ _ _ => F0
      refine @nm_local _ _ _ _ _ _ _ _ _ _ _ _ _ _ _ _ F0 (by rfl) (by rfl) ?_ (by rfl) (by rfl) (by decide)
      with_reducible rename Fm _ _ _ _ _ _ _ => F0
      refine @e_int _ _ _ _ _ _ _ _ _ _ _ _ _ _ _ _ F0 ?_
      clear F0
      intro _ _ _
      with_reducible rename Fm _ _ _ _ _ _ _ => F0
      refine @o_add _ _ _ _ _ _ _ _ _ _ _ _ _ _ _ _ F0 ?_
      clear F0
      intro _ _ _
      rename Fm _ _ _ _ _ _ _ => F
      refine @b_range2 _ _ _ _ _ _ _ _ _ _ _ _ _ _ _ _ R'.h F (by omega) (by omega) (by lia) (by lia) fun r s₄ F it => ?_
      replace F := F.sub (l' := [("self", .ref a), ("other", .ref b)]) ⟨rfl, rfl, trivial⟩
      have hn : (max (max ((d.cnt.length : Int) - 1) d.b) (max ((e.cnt.length : Int) - 1) e.b) + 1 + 1 - 2).toNat = (max d.longest e.longest).toNat := by unfold Lead.longest; lia
      rw [hn] at it
      refine @for_iter _ _ _ _ _ _ _ _ _ _ _ _ _ _ _ _ _ _ _ F (it _) (fun k l ob => ob = [] ∧ l = ([("self", .ref a), ("other", .ref b)] : Ls) ∧ lessTo d e k = true) ⟨rfl, rfl, rfl⟩ ?_ ?_
      · rintro i s₅ l ob ex v hi ⟨rfl, rfl, hl⟩ ⟨t', rfl⟩ F
        with_reducible rename Fm _ _ _ _ _ _ _ => F0
        refine @st_local _ _ _ _ _ _ _ _ _ _ _ _ _ _ _ F0 (by rfl) ?_ (by rfl) (by rfl)
        clear F0
        intro _ _
        refine @s_if _ _ _ _ _ _ _ _ _ _ _ ?_
        refine wpAny_isTrue_Compare1 ?_ (by rfl)
        refine @e_meth _ _ _ _ _ _ _ _ _ _ _ _ ?_ (by rfl) (by rfl) (by rfl)
        with_reducible rename Fm _ _ _ _ _ _ _ => F0
        refine @nm_local _ _ _ _ _ _ _ _ _ _ _ _ _ _ _ _ F0 (by rfl) (by rfl) ?_ (by rfl) (by rfl) (by decide)
        with_reducible rename Fm _ _ _ _ _ _ _ => F0
        refine @gm_lead _ _ _ _ _ _ _ _ _ _ _ _ _ _ _ _ (leadK _) (Fm.gdh F0) (LeadAt.kp (by assumption) (Fm.kp F0)) (.inr (.inl ⟨rfl, rfl⟩)) ?_
        with_reducible rename Fm _ _ _ _ _ _ _ => F0
        refine @cw_M1 _ _ _ _ _ _ _ _ _ _ _ _ (Fm.gdh F0) (by rfl) ?_ (by rfl)
        with_reducible rename Fm _ _ _ _ _ _ _ => F0
        refine @nm_local _ _ _ _ _ _ _ _ _ _ _ _ _ _ _ _ F0 (by rfl) (by rfl) ?_ (by rfl) (by rfl) (by decide)
        with_reducible rename Fm _ _ _ _ _ _ _ => F0
        refine ⟨Fm.gdh F0, ?_⟩
        rename Fm _ _ _ _ _ _ _ => F
        refine @indent_spec _ _ _ _ _ _ _ _ _ R3 F.gdh (H.kp F.kp) (by lia) (by omega) fun _ s₃ g => ?_
        replace F := F.gr g
        refine @e_meth _ _ _ _ _ _ _ _ _ _ _ _ ?_ (by rfl) (by rfl) (by rfl)
        with_reducible rename Fm _ _ _ _ _ _ _ => F0
        refine @nm_local _ _ _ _ _ _ _ _ _ _ _ _ _ _ _ _ F0 (by rfl) (by rfl) ?_ (by rfl) (by rfl) (by decide)
        with_reducible rename Fm _ _ _ _ _ _ _ => F0
        refine @gm_lead _ _ _ _ _ _ _ _ _ _ _ _ _ _ _ _ (leadK _) (Fm.gdh F0) (LeadAt.kp (by assumption) (Fm.kp F0)) (.inr (.inl ⟨rfl, rfl⟩)) ?_
        with_reducible rename Fm _ _ _ _ _ _ _ => F0
        refine @cw_M1 _ _ _ _ _ _ _ _ _ _ _ _ (Fm.gdh F0) (by rfl) ?_ (by rfl)
        with_reducible rename Fm _ _ _ _ _ _ _ => F0
        refine @nm_local _ _ _ _ _ _ _ _ _ _ _ _ _ _ _ _ F0 (by rfl) (by rfl) ?_ (by rfl) (by rfl) (by decide)
        with_reducible rename Fm _ _ _ _ _ _ _ => F0
        refine ⟨Fm.gdh F0, ?_⟩
        rename Fm _ _ _ _ _ _ _ => F
        refine @indent_spec _ _ _ _ _ _ _ _ _ R3 F.gdh (H2.kp F.kp) (by lia) (by omega) fun _ s₃ g => ?_
        replace F := F.gr g
        refine @c_ge _ _ _ _ _ _ _ _ _ _ ?_
        refine wpAny_truthy_bool ?_
        refine @ite_d _ _ _ _ (fun c2 => ?_) (fun c2 => ?_)
        · refine @s_ret _ _ _ _ _ _ _ _ _ ?_
          refine @e_bool _ _ _ _ _ _ _ _ _ _ ?_
          with_reducible refine @then_ret _ _ _ _ _ _ _ _ ?_
          with_reducible refine @lp_ret _ _ _ _ ?_
          with_reducible refine @then_ret _ _ _ _ _ _ _ _ ?_
          with_reducible refine @retTo_ret _ _ _ ?_
          rename Fm _ _ _ _ _ _ _ => F
          have := h _ ⟨F.sm, F.kp⟩
          rwa [show lessB d e = false from by unfold lessB; rw [if_neg c, if_neg c1]; exact lessTo_false (by lia) _ hi] at this
        · refine @s_nil _ _ _ _ _ _ ?_
          with_reducible refine @then_next _ _ _ _ _ _ _ ?_
          refine @s_nil _ _ _ _ _ _ ?_
          with_reducible refine @lp_next _ _ _ ?_
          rename Fm _ _ _ _ _ _ _ => F
          exact ⟨_, [], ⟨rfl, rfl, by unfold lessTo; rw [hl]; simp; lia⟩, F.sub ⟨rfl, rfl, trivial⟩⟩
      · rintro s₅ l ob ⟨rfl, rfl, hl⟩ F
        with_reducible refine @then_next _ _ _ _ _ _ _ ?_
        refine @s_ret _ _ _ _ _ _ _ _ _ ?_
        refine @e_bool _ _ _ _ _ _ _ _ _ _ ?_
        with_reducible refine @retTo_ret _ _ _ ?_
        rename Fm _ _ _ _ _ _ _ => F
        have := h _ ⟨F.sm, F.kp⟩
        rwa [show lessB d e = true from by unfold lessB; rw [if_neg c, if_neg c1]; exact hl] at this
end Mine
end
section
open PySem PySem.W PyProof.Rows PySem.Calls
set_option maxRecDepth 100000
namespace Mine

noncomputable def fdOf (w : World) (f : Addr) : FuncData := match (KK w).lookup f with | some ⟨_, _, .func fd, _⟩ => fd | _ => default
def tokOf : Option Value → Tok
  | some (.int _ t) => t
  | _ => 0
def seqOf : Option Obj → Array Value
  | some o => (match o.data with | .seq items _ => items | _ => #[])
  | _ => #[]
def refOf : Value → Addr
  | .ref a => a
  | _ => 0
noncomputable def dflT (w : World) (f : Addr) : Tok := tokOf ((seqOf ((KK w).lookup (refOf (fdOf w f).defaults)))[0]?)
def bisR (g : Nat → Int) (x : Int) (lo hi : Nat) : Nat := if lo < hi then (if x < g ((lo + hi) / 2) then bisR g x lo ((lo + hi) / 2) else bisR g x ((lo + hi) / 2 + 1) hi) else lo
  termination_by hi - lo
def bisL (g : Nat → Int) (x : Int) (lo hi : Nat) : Nat := if lo < hi then (if g ((lo + hi) / 2) < x then bisL g x ((lo + hi) / 2 + 1) hi else bisL g x lo ((lo + hi) / 2)) else lo
  termination_by hi - lo
/-- kf is a function that tells f of the ints in xs, on every heap that bears h -/
structure KeyOk (prog : Program) (w : World) (h : Heap) (kf : Addr) (xs : List Int) (f : Int → Int) : Prop where
  fn : ∃ o fd, h.get? kf = some o ∧ o.data = .func fd
  call : ∀ A Q E s v t, Kp h s.heap → Rm A 6 → v ∈ xs → (∀ t' s', Gr s s' → Q (.int (f v) t') s') → wpAny (model prog w) A (call (.ref kf) [.int v t]) Q E s
theorem KeyOk.kp {prog : Program} {w : World} {h h' : Heap} {kf : Addr} {xs ys : List Int} {f : Int → Int} (k : KeyOk prog w h kf xs f) (g : Kp h h') (hs : ∀ x ∈ ys, x ∈ xs) : KeyOk prog w h' kf ys f :=
  ⟨let ⟨o, fd, a, b⟩ := k.fn; ⟨o, fd, g _ _ a, b⟩, fun A Q E s v t e R m => k.call A Q E s v t (g.trans e) R (hs v m)⟩

theorem getD_mem {ns : List Int} {i : Nat} (h : i < ns.length) : ns.getD i 0 ∈ ns := by
  rw [List.getD_eq_getElem?_getD, List.getElem?_eq_getElem h]; exact List.getElem_mem _
set_option maxHeartbeats 4000000 in
theorem bindR2 {w : World} {s : Shared} {a : Addr} {x : Int} {t : Tok} {kf : Value} (G : Gd (KK w) s.heap) :
    ∃ tl, BindsTo s (fdOf w 105) ⟨[.ref a, .int x t], [("key", kf)]⟩ [("a", .ref a), ("x", .int x t), ("lo", .int 0 tl), ("hi", .none), ("key", kf)] :=
  ⟨dflT w 105, binds_K G.k (by rfl) (by rfl) (by rfl) (by rfl) (by kernel_rfl)⟩
set_option maxHeartbeats 4000000 in
theorem bindR4 {w : World} {s : Shared} {a : Addr} {x : Int} {t tl : Tok} {kf : Value} (G : Gd (KK w) s.heap) :
    BindsTo s (fdOf w 105) ⟨[.ref a, .int x t, .int 0 tl, .none], [("key", kf)]⟩ [("a", .ref a), ("x", .int x t), ("lo", .int 0 tl), ("hi", .none), ("key", kf)] :=
  binds_K G.k (by rfl) (by rfl) (by rfl) (by rfl) (by kernel_rfl)

set_option maxHeartbeats 4000000 in
theorem bisR_key {w : World} {A : Around} {s : Shared} {a kf : Addr} {x : Int} {tx tl : Tok} {vs : Array Value} {ns : List Int} {f : Int → Int} {pos : List Value} {kw : List (Str × Value)} {Q E} (R : Rm A 8) (G : Gd (KK w) s.heap)
    (ha : s.heap.IsList a vs) (hI : IntsAre vs.toList ns) (hz : ns.length < 1000) (hk : KeyOk PP w s.heap kf ns f)
    (hb : BindsTo s (fdOf w 105) ⟨pos, kw⟩ [("a", .ref a), ("x", .int x tx), ("lo", .int 0 tl), ("hi", .none), ("key", .ref kf)])
    (h : ∀ t s', Gr s s' → Q (.int (bisR (fun i => f (ns.getD i 0)) x 0 ns.length) t) s') : wpAny (model PP w) A (call (.ref 105) pos kw) Q E s := by
  refine @call_fn _ _ _ _ _ _ [("a", .ref a), ("x", .int x tx), ("lo", .int 0 tl), ("hi", .none), ("key", .ref kf)] _ _ _ _ _ _ _ _ _ _ _ _ _ _ _ _ _ _ _ _ _ R G (by rfl) (by rfl) hb (by rfl) (by rfl) (fun L s₁ A' hL F R' => ?_) (by rfl) (by rfl) (by rfl)
  have hlen : vs.size = ns.length := by simpa using hI.length
  obtain ⟨fo, ffd, hf1, hf2⟩ := hk.fn
  have R6 : Rm A' 6 := R'.le (by lia)
  refine @s_if _ _ _ _ _ _ _ _ _ _ _ ?_
  refine wpAny_isTrue_Compare1 ?_ (by rfl)
  with_reducible rename Fm _ _ _ _ _ _ _ => F0
  refine @nm_local _ _ _ _ _ _ _ _ _ _ _ _ _ _ _ _ F0 (by rfl) (by rfl) ?_ (by rfl) (by rfl) (by decide)
  with_reducible rename Fm _ _ _ _ _ _ _ => F0
  refine @e_int _ _ _ _ _ _ _ _ _ _ _ _ _ _ _ _ F0 ?_
  clear F0
  intro _ _ _
  refine @c_lt _ _ _ _ _ _ _ _ _ _ ?_
  refine wpAny_truthy_bool ?_
  refine @ite_d _ _ _ _ (fun c => absurd c (by lia)) (fun _ => ?_)
  refine @s_nil _ _ _ _ _ _ ?_
  with_reducible refine @then_next _ _ _ _ _ _ _ ?_
  refine @s_if _ _ _ _ _ _ _ _ _ _ _ ?_
  refine wpAny_isTrue_Compare1 ?_ (by rfl)
  with_reducible rename Fm _ _ _ _ _ _ _ => F0
  refine @nm_local _ _ _ _ _ _ _ _ _ _ _ _ _ _ _ _ F0 (by rfl) (by rfl) ?_ (by rfl) (by rfl) (by decide)
  refine @e_none _ _ _ _ _ _ _ _ _ ?_
  refine @c_is_none _ _ _ _ _ _ _ (by rfl) ?_
  refine wpAny_truthy_bool ?_
  refine @ite_b _ _ _ (fun _ => ?_) (fun c => absurd c (by decide))
  refine @s_assign _ _ _ _ _ _ _ _ _ _ _ ?_ (by rfl)
  refine @e_call _ _ _ _ _ _ _ _ _ _ _ ?_
  with_reducible rename Fm _ _ _ _ _ _ _ => F0
  refine @nm_bi _ _ _ _ _ _ _ _ _ _ _ _ _ _ _ _ F0 (by rfl) (by rfl) (by exact bb_len) ?_ (by rfl) (by rfl) (by rfl) (by decide) (by decide)
  refine @cw_bi1 _ _ _ _ _ _ _ _ _ _ ?_ (by rfl)
  with_reducible rename Fm _ _ _ _ _ _ _ => F0
  refine @nm_local _ _ _ _ _ _ _ _ _ _ _ _ _ _ _ _ F0 (by rfl) (by rfl) ?_ (by rfl) (by rfl) (by decide)
  rename Fm _ _ _ _ _ _ _ => F
  have kp := F.kp
  refine @b_len_list _ _ _ _ _ _ _ _ _ _ _ _ _ _ F (let ⟨o, ho, r⟩ := ha; ⟨o, kp _ _ ho, r⟩) (by lia) (fun _ _ F => ?_)
  rw [hlen]
  with_reducible rename Fm _ _ _ _ _ _ _ => F0
  refine @st_local _ _ _ _ _ _ _ _ _ _ _ _ _ _ _ F0 (by rfl) ?_ (by rfl) (by rfl)
  clear F0
  intro _ _
  refine @s_nil _ _ _ _ _ _ ?_
  with_reducible refine @then_next _ _ _ _ _ _ _ ?_
  refine @s_if _ _ _ _ _ _ _ _ _ _ _ ?_
  refine wpAny_isTrue_Compare1 ?_ (by rfl)
  with_reducible rename Fm _ _ _ _ _ _ _ => F0
  refine @nm_local _ _ _ _ _ _ _ _ _ _ _ _ _ _ _ _ F0 (by rfl) (by rfl) ?_ (by rfl) (by rfl) (by decide)
  refine @e_none _ _ _ _ _ _ _ _ _ ?_
  refine @c_is_none _ _ _ _ _ _ _ (by rfl) ?_
  refine wpAny_truthy_bool ?_
  refine @ite_b _ _ _ (fun c => absurd c (by simp)) (fun _ => ?_)
  refine @s_whileR _ _ _ _ _ _ _ _ _ _ _ ?_
  rename Fm _ _ _ _ _ _ _ => F
  replace F := F.sub (l' := [("a", .ref a), ("x", .int x tx), ("key", .ref kf), ("lo", .int 0 tl), ("hi", .int ns.length _)]) ⟨rfl, rfl, rfl, rfl, rfl, trivial⟩
  refine @while_inv _ _ _ _ _ _ _ _ _ _ _ _ _ _ ns.length F (fun n l ob => ob = [] ∧ ∃ (lo hi : Nat) (t1 t2 : Tok), n = hi - lo ∧ lo ≤ hi ∧ hi ≤ ns.length ∧ l = ([("a", .ref a), ("x", .int x tx), ("key", .ref kf), ("lo", .int lo t1), ("hi", .int hi t2)] : Ls) ∧
    bisR (fun i => f (ns.getD i 0)) x lo hi = bisR (fun i => f (ns.getD i 0)) x 0 ns.length) ⟨rfl, 0, ns.length, tl, _, rfl, Nat.zero_le _, Nat.le_refl _, rfl, rfl⟩ ?_
  rintro n s₂ l ob ⟨rfl, lo, hi, t1, t2, rfl, h1, h2, rfl, he⟩ F
  refine wpAny_isTrue_Compare1 ?_ (by rfl)
  with_reducible rename Fm _ _ _ _ _ _ _ => F0
  refine @nm_local _ _ _ _ _ _ _ _ _ _ _ _ _ _ _ _ F0 (by rfl) (by rfl) ?_ (by rfl) (by rfl) (by decide)
  with_reducible rename Fm _ _ _ _ _ _ _ => F0
  refine @nm_local _ _ _ _ _ _ _ _ _ _ _ _ _ _ _ _ F0 (by rfl) (by rfl) ?_ (by rfl) (by rfl) (by decide)
  refine @c_lt _ _ _ _ _ _ _ _ _ _ ?_
  refine wpAny_truthy_bool ?_
  refine @ite_d _ _ _ _ (fun c => ?_) (fun c => ?_)
  · refine @s_assign _ _ _ _ _ _ _ _ _ _ _ ?_ (by rfl)
    refine wpAny_BinOp ?_
    refine wpAny_BinOp ?_
    with_reducible rename Fm _ _ _ _ _ _ _ => F0
    refine @nm_local _ _ _ _ _ _ _ _ _ _ _ _ _ _ _ _ F0 (by rfl) (by rfl) ?_ (by rfl) (by rfl) (by decide)
    with_reducible rename Fm _ _ _ _ _ _ _ => F0
    refine @nm_local _ _ _ _ _ _ _ _ _ _ _ _ _ _ _ _ F0 (by rfl) (by rfl) ?_ (by rfl) (by rfl) (by decide)
    with_reducible rename Fm _ _ _ _ _ _ _ => F0
    refine @o_add _ _ _ _ _ _ _ _ _ _ _ _ _ _ _ _ F0 ?_
    clear F0
    intro _ _ _
    with_reducible rename Fm _ _ _ _ _ _ _ => F0
    refine @e_int _ _ _ _ _ _ _ _ _ _ _ _ _ _ _ _ F0 ?_
    clear F0
    intro _ _ _
    rename Fm _ _ _ _ _ _ _ => F
    refine @o_div _ _ _ _ _ _ _ _ _ _ _ _ _ _ _ _ F (by lia) (PyProof.noPylong_small (by lia)) fun _ _ F => ?_
    have hmid : ((lo : Int) + (hi : Int)) / 2 = (((lo + hi) / 2 : Nat) : Int) := by lia
    rw [hmid]
    rw [bisR, if_pos (by lia : lo < hi)] at he
    have hml : (lo + hi) / 2 < ns.length := by lia
    generalize hm : (lo + hi) / 2 = mid at he hml
    with_reducible rename Fm _ _ _ _ _ _ _ => F0
    refine @st_local _ _ _ _ _ _ _ _ _ _ _ _ _ _ _ F0 (by rfl) ?_ (by rfl) (by rfl)
    clear F0
    intro _ _
    refine @s_if _ _ _ _ _ _ _ _ _ _ _ ?_
    refine wpAny_isTrue_Compare1 ?_ (by rfl)
    with_reducible rename Fm _ _ _ _ _ _ _ => F0
    refine @nm_local _ _ _ _ _ _ _ _ _ _ _ _ _ _ _ _ F0 (by rfl) (by rfl) ?_ (by rfl) (by rfl) (by decide)
    refine @e_call _ _ _ _ _ _ _ _ _ _ _ ?_
    with_reducible rename Fm _ _ _ _ _ _ _ => F0
    refine @nm_local _ _ _ _ _ _ _ _ _ _ _ _ _ _ _ _ F0 (by rfl) (by rfl) ?_ (by rfl) (by rfl) (by decide)
    refine @cw_fn1 _ _ _ _ _ _ _ _ _ (fo) (ffd) _ ?_ (by rfl)
    refine Subscript_ ?_
    with_reducible rename Fm _ _ _ _ _ _ _ => F0
    refine @nm_local _ _ _ _ _ _ _ _ _ _ _ _ _ _ _ _ F0 (by rfl) (by rfl) ?_ (by rfl) (by rfl) (by decide)
    with_reducible rename Fm _ _ _ _ _ _ _ => F0
    refine @nm_local _ _ _ _ _ _ _ _ _ _ _ _ _ _ _ _ F0 (by rfl) (by rfl) ?_ (by rfl) (by rfl) (by decide)
    rename Fm _ _ _ _ _ _ _ => F
    have kp := F.kp
    obtain ⟨u', hx⟩ := hI.get mid (ns.getD mid 0) (by rw [List.getD_eq_getElem?_getD, List.getElem?_eq_getElem hml]; rfl)
    refine @sub_list _ _ _ _ _ _ _ _ _ _ _ _ _ (let ⟨o, ho, r⟩ := ha; ⟨o, kp _ _ ho, r⟩) (by lia) (by lia) (by rw [show ((mid : Int)).toNat = mid from rfl, ← Array.getElem?_toList]; exact hx) ?_ (by with_unfolding_all rfl)
    refine ⟨⟨kp _ _ hf1, hf2⟩, hk.call _ _ _ _ _ _ kp R6 (getD_mem hml) fun _ s₄ g => ?_⟩
    replace F := F.gr g
    refine @c_lt _ _ _ _ _ _ _ _ _ _ ?_
    refine wpAny_truthy_bool ?_
    refine @ite_d _ _ _ _ (fun c2 => ?_) (fun c2 => ?_)
    · refine @s_assign _ _ _ _ _ _ _ _ _ _ _ ?_ (by rfl)
      with_reducible rename Fm _ _ _ _ _ _ _ => F0
      refine @nm_local _ _ _ _ _ _ _ _ _ _ _ _ _ _ _ _ F0 (by rfl) (by rfl) ?_ (by rfl) (by rfl) (by decide)
      with_reducible rename Fm _ _ _ _ _ _ _ => F0
      refine @st_local _ _ _ _ _ _ _ _ _ _ _ _ _ _ _ F0 (by rfl) ?_ (by rfl) (by rfl)
      clear F0
      intro _ _
      refine @s_nil _ _ _ _ _ _ ?_
      with_reducible refine @then_next _ _ _ _ _ _ _ ?_
      refine @s_nil _ _ _ _ _ _ ?_
      with_reducible refine @lp_next _ _ _ ?_
      rename Fm _ _ _ _ _ _ _ => F
      rw [if_pos c2] at he
      exact ⟨mid - lo, _, [], by lia, ⟨rfl, lo, mid, _, _, rfl, by lia, by lia, rfl, he⟩, F.sub ⟨rfl, rfl, rfl, rfl, rfl, trivial⟩⟩
    · refine @s_assign _ _ _ _ _ _ _ _ _ _ _ ?_ (by rfl)
      refine wpAny_BinOp ?_
      with_reducible rename Fm _ _ _ _ _ _ _ => F0
      refine @nm_local _ _ _ _ _ _ _ _ _ _ _ _ _ _ _ _ F0 (by rfl) (by rfl) ?_ (by rfl) (by rfl) (by decide)
      with_reducible rename Fm _ _ _ _ _ _ _ => F0
      refine @e_int _ _ _ _ _ _ _ _ _ _ _ _ _ _ _ _ F0 ?_
      clear F0
      intro _ _ _
      with_reducible rename Fm _ _ _ _ _ _ _ => F0
      refine @o_add _ _ _ _ _ _ _ _ _ _ _ _ _ _ _ _ F0 ?_
      clear F0
      intro _ _ _
      with_reducible rename Fm _ _ _ _ _ _ _ => F0
      refine @st_local _ _ _ _ _ _ _ _ _ _ _ _ _ _ _ F0 (by rfl) ?_ (by rfl) (by rfl)
      clear F0
      intro _ _
      refine @s_nil _ _ _ _ _ _ ?_
      with_reducible refine @then_next _ _ _ _ _ _ _ ?_
      refine @s_nil _ _ _ _ _ _ ?_
      with_reducible refine @lp_next _ _ _ ?_
      rename Fm _ _ _ _ _ _ _ => F
      rw [if_neg c2] at he
      exact ⟨hi - (mid + 1), _, [], by lia, ⟨rfl, mid + 1, hi, _, _, rfl, by lia, by omega, rfl, he⟩, F.sub ⟨rfl, rfl, rfl, rfl, rfl, trivial⟩⟩
  · with_reducible refine @then_next _ _ _ _ _ _ _ ?_
    refine @s_nil _ _ _ _ _ _ ?_
    with_reducible refine @then_next _ _ _ _ _ _ _ ?_
    refine @s_ret _ _ _ _ _ _ _ _ _ ?_
    with_reducible rename Fm _ _ _ _ _ _ _ => F0
    refine @nm_local _ _ _ _ _ _ _ _ _ _ _ _ _ _ _ _ F0 (by rfl) (by rfl) ?_ (by rfl) (by rfl) (by decide)
    with_reducible refine @retTo_ret _ _ _ ?_
    rename Fm _ _ _ _ _ _ _ => F
    rw [bisR, if_neg (by lia : ¬ lo < hi)] at he
    rw [he]
    exact h _ _ ⟨F.sm, F.kp⟩
end Mine
end
section
open PySem PySem.W PyProof.Rows PySem.Calls
set_option maxRecDepth 100000
namespace Mine

set_option maxHeartbeats 4000000 in
theorem bindL2 {w : World} {s : Shared} {a : Addr} {x : Int} {t : Tok} {kf : Value} (G : Gd (KK w) s.heap) :
    ∃ tl, BindsTo s (fdOf w 123) ⟨[.ref a, .int x t], [("key", kf)]⟩ [("a", .ref a), ("x", .int x t), ("lo", .int 0 tl), ("hi", .none), ("key", kf)] :=
  ⟨dflT w 123, binds_K G.k (by rfl) (by rfl) (by rfl) (by rfl) (by kernel_rfl)⟩
set_option maxHeartbeats 4000000 in
theorem bindL4 {w : World} {s : Shared} {a : Addr} {x : Int} {t tl : Tok} {kf : Value} (G : Gd (KK w) s.heap) :
    BindsTo s (fdOf w 123) ⟨[.ref a, .int x t, .int 0 tl, .none], [("key", kf)]⟩ [("a", .ref a), ("x", .int x t), ("lo", .int 0 tl), ("hi", .none), ("key", kf)] :=
  binds_K G.k (by rfl) (by rfl) (by rfl) (by rfl) (by kernel_rfl)

set_option maxHeartbeats 4000000 in
theorem bisL_key {w : World} {A : Around} {s : Shared} {a kf : Addr} {x : Int} {tx tl : Tok} {vs : Array Value} {ns : List Int} {f : Int → Int} {pos : List Value} {kw : List (Str × Value)} {Q E} (R : Rm A 8) (G : Gd (KK w) s.heap)
    (ha : s.heap.IsList a vs) (hI : IntsAre vs.toList ns) (hz : ns.length < 1000) (hk : KeyOk PP w s.heap kf ns f)
    (hb : BindsTo s (fdOf w 123) ⟨pos, kw⟩ [("a", .ref a), ("x", .int x tx), ("lo", .int 0 tl), ("hi", .none), ("key", .ref kf)])
    (h : ∀ t s', Gr s s' → Q (.int (bisL (fun i => f (ns.getD i 0)) x 0 ns.length) t) s') : wpAny (model PP w) A (call (.ref 123) pos kw) Q E s := by
  refine @call_fn _ _ _ _ _ _ [("a", .ref a), ("x", .int x tx), ("lo", .int 0 tl), ("hi", .none), ("key", .ref kf)] _ _ _ _ _ _ _ _ _ _ _ _ _ _ _ _ _ _ _ _ _ R G (by rfl) (by rfl) hb (by rfl) (by rfl) (fun L s₁ A' hL F R' => ?_) (by rfl) (by rfl) (by rfl)
  have hlen : vs.size = ns.length := by simpa using hI.length
  obtain ⟨fo, ffd, hf1, hf2⟩ := hk.fn
  have R6 : Rm A' 6 := R'.le (by lia)
  refine @s_if _ _ _ _ _ _ _ _ _ _ _ ?_
  refine wpAny_isTrue_Compare1 ?_ (by rfl)
  with_reducible rename Fm _ _ _ _ _ _ _ => F0
  refine @nm_local _ _ _ _ _ _ _ _ _ _ _ _ _ _ _ _ F0 (by rfl) (by rfl) ?_ (by rfl) (by rfl) (by decide)
  with_reducible rename Fm _ _ _ _ _ _ _ => F0
  refine @e_int _ _ _ _ _ _ _ _ _ _ _ _ _ _ _ _ F0 ?_
  clear F0
  intro _ _ _
  refine @c_lt _ _ _ _ _ _ _ _ _ _ ?_
  refine wpAny_truthy_bool ?_
  refine @ite_d _ _ _ _ (fun c => absurd c (by lia)) (fun _ => ?_)
  refine @s_nil _ _ _ _ _ _ ?_
  with_reducible refine @then_next _ _ _ _ _ _ _ ?_
  refine @s_if _ _ _ _ _ _ _ _ _ _ _ ?_
  refine wpAny_isTrue_Compare1 ?_ (by rfl)
  with_reducible rename Fm _ _ _ _ _ _ _ => F0
  refine @nm_local _ _ _ _ _ _ _ _ _ _ _ _ _ _ _ _ F0 (by rfl) (by rfl) ?_ (by rfl) (by rfl) (by decide)
  refine @e_none _ _ _ _ _ _ _ _ _ ?_
  refine @c_is_none _ _ _ _ _ _ _ (by rfl) ?_
  refine wpAny_truthy_bool ?_
  refine @ite_b _ _ _ (fun _ => ?_) (fun c => absurd c (by decide))
  refine @s_assign _ _ _ _ _ _ _ _ _ _ _ ?_ (by rfl)
  refine @e_call _ _ _ _ _ _ _ _ _ _ _ ?_
  with_reducible rename Fm _ _ _ _ _ _ _ => F0
  refine @nm_bi _ _ _ _ _ _ _ _ _ _ _ _ _ _ _ _ F0 (by rfl) (by rfl) (by exact bb_len) ?_ (by rfl) (by rfl) (by rfl) (by decide) (by decide)
  refine @cw_bi1 _ _ _ _ _ _ _ _ _ _ ?_ (by rfl)
  with_reducible rename Fm _ _ _ _ _ _ _ => F0
  refine @nm_local _ _ _ _ _ _ _ _ _ _ _ _ _ _ _ _ F0 (by rfl) (by rfl) ?_ (by rfl) (by rfl) (by decide)
  rename Fm _ _ _ _ _ _ _ => F
  have kp := F.kp
  refine @b_len_list _ _ _ _ _ _ _ _ _ _ _ _ _ _ F (let ⟨o, ho, r⟩ := ha; ⟨o, kp _ _ ho, r⟩) (by lia) (fun _ _ F => ?_)
  rw [hlen]
  with_reducible rename Fm _ _ _ _ _ _ _ => F0
  refine @st_local _ _ _ _ _ _ _ _ _ _ _ _ _ _ _ F0 (by rfl) ?_ (by rfl) (by rfl)
  clear F0
  intro _ _
  refine @s_nil _ _ _ _ _ _ ?_
  with_reducible refine @then_next _ _ _ _ _ _ _ ?_
  refine @s_if _ _ _ _ _ _ _ _ _ _ _ ?_
  refine wpAny_isTrue_Compare1 ?_ (by rfl)
  with_reducible rename Fm _ _ _ _ _ _ _ => F0
  refine @nm_local _ _ _ _ _ _ _ _ _ _ _ _ _ _ _ _ F0 (by rfl) (by rfl) ?_ (by rfl) (by rfl) (by decide)
  refine @e_none _ _ _ _ _ _ _ _ _ ?_
  refine @c_is_none _ _ _ _ _ _ _ (by rfl) ?_
  refine wpAny_truthy_bool ?_
  refine @ite_b _ _ _ (fun c => absurd c (by simp)) (fun _ => ?_)
  refine @s_whileR _ _ _ _ _ _ _ _ _ _ _ ?_
  rename Fm _ _ _ _ _ _ _ => F
  replace F := F.sub (l' := [("a", .ref a), ("x", .int x tx), ("key", .ref kf), ("lo", .int 0 tl), ("hi", .int ns.length _)]) ⟨rfl, rfl, rfl, rfl, rfl, trivial⟩
  refine @while_inv _ _ _ _ _ _ _ _ _ _ _ _ _ _ ns.length F (fun n l ob => ob = [] ∧ ∃ (lo hi : Nat) (t1 t2 : Tok), n = hi - lo ∧ lo ≤ hi ∧ hi ≤ ns.length ∧ l = ([("a", .ref a), ("x", .int x tx), ("key", .ref kf), ("lo", .int lo t1), ("hi", .int hi t2)] : Ls) ∧
    bisL (fun i => f (ns.getD i 0)) x lo hi = bisL (fun i => f (ns.getD i 0)) x 0 ns.length) ⟨rfl, 0, ns.length, tl, _, rfl, Nat.zero_le _, Nat.le_refl _, rfl, rfl⟩ ?_
  rintro n s₂ l ob ⟨rfl, lo, hi, t1, t2, rfl, h1, h2, rfl, he⟩ F
  refine wpAny_isTrue_Compare1 ?_ (by rfl)
  with_reducible rename Fm _ _ _ _ _ _ _ => F0
  refine @nm_local _ _ _ _ _ _ _ _ _ _ _ _ _ _ _ _ F0 (by rfl) (by rfl) ?_ (by rfl) (by rfl) (by decide)
  with_reducible rename Fm _ _ _ _ _ _ _ => F0
  refine @nm_local _ _ _ _ _ _ _ _ _ _ _ _ _ _ _ _ F0 (by rfl) (by rfl) ?_ (by rfl) (by rfl) (by decide)
  refine @c_lt _ _ _ _ _ _ _ _ _ _ ?_
  refine wpAny_truthy_bool ?_
  refine @ite_d _ _ _ _ (fun c => ?_) (fun c => ?_)
  · refine @s_assign _ _ _ _ _ _ _ _ _ _ _ ?_ (by rfl)
    refine wpAny_BinOp ?_
    refine wpAny_BinOp ?_
    with_reducible rename Fm _ _ _ _ _ _ _ => F0
    refine @nm_local _ _ _ _ _ _ _ _ _ _ _ _ _ _ _ _ F0 (by rfl) (by rfl) ?_ (by rfl) (by rfl) (by decide)
    with_reducible rename Fm _ _ _ _ _ _ _ => F0
    refine @nm_local _ _ _ _ _ _ _ _ _ _ _ _ _ _ _ _ F0 (by rfl) (by rfl) ?_ (by rfl) (by rfl) (by decide)
    with_reducible rename Fm _ _ _ _ _ _ _ => F0
    refine @o_add _ _ _ _ _ _ _ _ _ _ _ _ _ _ _ _ F0 ?_
    clear F0
    intro _ _ _
    with_reducible rename Fm _ _ _ _ _ _ _ => F0
    refine @e_int _ _ _ _ _ _ _ _ _ _ _ _ _ _ _ _ F0 ?_
    clear F0
    intro _ _ _
    rename Fm _ _ _ _ _ _ _ => F
    refine @o_div _ _ _ _ _ _ _ _ _ _ _ _ _ _ _ _ F (by lia) (PyProof.noPylong_small (by lia)) fun _ _ F => ?_
    have hmid : ((lo : Int) + (hi : Int)) / 2 = (((lo + hi) / 2 : Nat) : Int) := by lia
    rw [hmid]
    rw [bisL, if_pos (by lia : lo < hi)] at he
    have hml : (lo + hi) / 2 < ns.length := by lia
    generalize hm : (lo + hi) / 2 = mid at he hml
    with_reducible rename Fm _ _ _ _ _ _ _ => F0
    refine @st_local _ _ _ _ _ _ _ _ _ _ _ _ _ _ _ F0 (by rfl) ?_ (by rfl) (by rfl)
    clear F0
    intro _ _
    refine @s_if _ _ _ _ _ _ _ _ _ _ _ ?_
    refine wpAny_isTrue_Compare1 ?_ (by rfl)
    refine @e_call _ _ _ _ _ _ _ _ _ _ _ ?_
    with_reducible rename Fm _ _ _ _ _ _ _ => F0
    refine @nm_local _ _ _ _ _ _ _ _ _ _ _ _ _ _ _ _ F0 (by rfl) (by rfl) ?_ (by rfl) (by rfl) (by decide)
    refine @cw_fn1 _ _ _ _ _ _ _ _ _ (fo) (ffd) _ ?_ (by rfl)
    refine Subscript_ ?_
    with_reducible rename Fm _ _ _ _ _ _ _ => F0
    refine @nm_local _ _ _ _ _ _ _ _ _ _ _ _ _ _ _ _ F0 (by rfl) (by rfl) ?_ (by rfl) (by rfl) (by decide)
    with_reducible rename Fm _ _ _ _ _ _ _ => F0
    refine @nm_local _ _ _ _ _ _ _ _ _ _ _ _ _ _ _ _ F0 (by rfl) (by rfl) ?_ (by rfl) (by rfl) (by decide)
    rename Fm _ _ _ _ _ _ _ => F
    have kp := F.kp
    obtain ⟨u', hx⟩ := hI.get mid (ns.getD mid 0) (by rw [List.getD_eq_getElem?_getD, List.getElem?_eq_getElem hml]; rfl)
    refine @sub_list _ _ _ _ _ _ _ _ _ _ _ _ _ (let ⟨o, ho, r⟩ := ha; ⟨o, kp _ _ ho, r⟩) (by lia) (by lia) (by rw [show ((mid : Int)).toNat = mid from rfl, ← Array.getElem?_toList]; exact hx) ?_ (by with_unfolding_all rfl)
    refine ⟨⟨kp _ _ hf1, hf2⟩, hk.call _ _ _ _ _ _ kp R6 (getD_mem hml) fun _ s₄ g => ?_⟩
    replace F := F.gr g
    with_reducible rename Fm _ _ _ _ _ _ _ => F0
    refine @nm_local _ _ _ _ _ _ _ _ _ _ _ _ _ _ _ _ F0 (by rfl) (by rfl) ?_ (by rfl) (by rfl) (by decide)
    refine @c_lt _ _ _ _ _ _ _ _ _ _ ?_
    refine wpAny_truthy_bool ?_
    refine @ite_d _ _ _ _ (fun c2 => ?_) (fun c2 => ?_)
    · refine @s_assign _ _ _ _ _ _ _ _ _ _ _ ?_ (by rfl)
      refine wpAny_BinOp ?_
      with_reducible rename Fm _ _ _ _ _ _ _ => F0
      refine @nm_local _ _ _ _ _ _ _ _ _ _ _ _ _ _ _ _ F0 (by rfl) (by rfl) ?_ (by rfl) (by rfl) (by decide)
      with_reducible rename Fm _ _ _ _ _ _ _ => F0
      refine @e_int _ _ _ _ _ _ _ _ _ _ _ _ _ _ _ _ F0 ?_
      clear F0
      intro _ _ _
      with_reducible rename Fm _ _ _ _ _ _ _ => F0
      refine @o_add _ _ _ _ _ _ _ _ _ _ _ _ _ _ _ _ F0 ?_
      clear F0
      intro _ _ _
      with_reducible rename Fm _ _ _ _ _ _ _ => F0
      refine @st_local _ _ _ _ _ _ _ _ _ _ _ _ _ _ _ F0 (by rfl) ?_ (by rfl) (by rfl)
      clear F0
      intro _ _
      refine @s_nil _ _ _ _ _ _ ?_
      with_reducible refine @then_next _ _ _ _ _ _ _ ?_
      refine @s_nil _ _ _ _ _ _ ?_
      with_reducible refine @lp_next _ _ _ ?_
      rename Fm _ _ _ _ _ _ _ => F
      rw [if_pos c2] at he
      exact ⟨hi - (mid + 1), _, [], by lia, ⟨rfl, mid + 1, hi, _, _, rfl, by lia, by omega, rfl, he⟩, F.sub ⟨rfl, rfl, rfl, rfl, rfl, trivial⟩⟩
    · refine @s_assign _ _ _ _ _ _ _ _ _ _ _ ?_ (by rfl)
      with_reducible rename Fm _ _ _ _ _ _ _ => F0
      refine @nm_local _ _ _ _ _ _ _ _ _ _ _ _ _ _ _ _ F0 (by rfl) (by rfl) ?_ (by rfl) (by rfl) (by decide)
      with_reducible rename Fm _ _ _ _ _ _ _ => F0
      refine @st_local _ _ _ _ _ _ _ _ _ _ _ _ _ _ _ F0 (by rfl) ?_ (by rfl) (by rfl)
      clear F0
      intro _ _
      refine @s_nil _ _ _ _ _ _ ?_
      with_reducible refine @then_next _ _ _ _ _ _ _ ?_
      refine @s_nil _ _ _ _ _ _ ?_
      with_reducible refine @lp_next _ _ _ ?_
      rename Fm _ _ _ _ _ _ _ => F
      rw [if_neg c2] at he
      exact ⟨mid - lo, _, [], by lia, ⟨rfl, lo, mid, _, _, rfl, by lia, by lia, rfl, he⟩, F.sub ⟨rfl, rfl, rfl, rfl, rfl, trivial⟩⟩
  · with_reducible refine @then_next _ _ _ _ _ _ _ ?_
    refine @s_nil _ _ _ _ _ _ ?_
    with_reducible refine @then_next _ _ _ _ _ _ _ ?_
    refine @s_ret _ _ _ _ _ _ _ _ _ ?_
    with_reducible rename Fm _ _ _ _ _ _ _ => F0
    refine @nm_local _ _ _ _ _ _ _ _ _ _ _ _ _ _ _ _ F0 (by rfl) (by rfl) ?_ (by rfl) (by rfl) (by decide)
    with_reducible refine @retTo_ret _ _ _ ?_
    rename Fm _ _ _ _ _ _ _ => F
    rw [bisL, if_neg (by lia : ¬ lo < hi)] at he
    rw [he]
    exact h _ _ ⟨F.sm, F.kp⟩
end Mine
end
section
open PySem PySem.W PyProof.Rows PySem.Calls
set_option maxRecDepth 100000
namespace Mine

end Mine
end
section
open PySem PySem.W PyProof.Rows PySem.Calls
set_option maxRecDepth 100000
namespace Mine
theorem kn_bisect_right (w : World) : nsIn (KK w) mainGlobals "bisect_right" = some (some (.ref 105)) := by kernel_rfl
theorem kn_bisect_left (w : World) : nsIn (KK w) mainGlobals "bisect_left" = some (some (.ref 123)) := by kernel_rfl
theorem kn_insort_right (w : World) : nsIn (KK w) mainGlobals "insort_right" = some (some (.ref 96)) := by kernel_rfl
theorem kn_insort_left (w : World) : nsIn (KK w) mainGlobals "insort_left" = some (some (.ref 114)) := by kernel_rfl
theorem kn_Whitespace (w : World) : nsIn (KK w) mainGlobals "Whitespace" = some (some (.ref 83)) := by kernel_rfl

theorem bisR_le (g : Nat → Int) (x : Int) (lo hi : Nat) (h : lo ≤ hi) : bisR g x lo hi ≤ hi := by
  induction hn : hi - lo using Nat.strongRecOn generalizing lo hi with
  | ind n ih =>
    rw [bisR]
    split
    · split
      · exact Nat.le_trans (ih ((lo + hi) / 2 - lo) (by lia) lo _ (by lia) rfl) (by lia)
      · exact ih (hi - ((lo + hi) / 2 + 1)) (by lia) _ hi (by lia) rfl
    · exact h
theorem bisL_le (g : Nat → Int) (x : Int) (lo hi : Nat) (h : lo ≤ hi) : bisL g x lo hi ≤ hi := by
  induction hn : hi - lo using Nat.strongRecOn generalizing lo hi with
  | ind n ih =>
    rw [bisL]
    split
    · split
      · exact ih (hi - ((lo + hi) / 2 + 1)) (by lia) _ hi (by lia) rfl
      · exact Nat.le_trans (ih ((lo + hi) / 2 - lo) (by lia) lo _ (by lia) rfl) (by lia)
    · exact h
set_option maxHeartbeats 4000000 in
theorem bindIR {w : World} {s : Shared} {a : Addr} {x : Int} {t : Tok} {kf : Value} (G : Gd (KK w) s.heap) :
    ∃ tl, BindsTo s (fdOf w 96) ⟨[.ref a, .int x t], [("key", kf)]⟩ [("a", .ref a), ("x", .int x t), ("lo", .int 0 tl), ("hi", .none), ("key", kf)] :=
  ⟨dflT w 96, binds_K G.k (by rfl) (by rfl) (by rfl) (by rfl) (by kernel_rfl)⟩
set_option maxHeartbeats 4000000 in
theorem insR_key {w : World} {A : Around} {s : Shared} {a kf : Addr} {x : Int} {tx : Tok} {vs : List Value} {n : Nat} {ns : List Int} {f : Int → Int} {Q E} (R : Rm A 10) (G : Gd (KK w) (s.heap.hide a))
    (ha : s.heap.get? a = some (lsO vs n)) (hI : IntsAre vs ns) (hz : ns.length < 900) (hk : KeyOk PP w (s.heap.hide a) kf (x :: ns) f)
    (h : ∀ s', Sm s s' → Kp (s.heap.hide a) s'.heap → s'.heap.get? a = some (lsO (insAt vs (bisR (fun i => f (ns.getD i 0)) (f x) 0 ns.length) (.int x tx)) (n + 1)) → Q .none s') :
    wpAny (model PP w) A (call (.ref 96) [.ref a, .int x tx] [("key", .ref kf)]) Q E s := by
  obtain ⟨tl, hb⟩ := bindIR (a := a) (x := x) (t := tx) (kf := .ref kf) (G.kp (fun b o e => Heap.of_hide e : Kp (s.heap.hide a) s.heap))
  refine @call_fnH _ _ _ _ _ _ [("a", .ref a), ("x", .int x tx), ("lo", .int 0 tl), ("hi", .none), ("key", .ref kf)] _ _ _ _ _ _ _ _ _ _ _ _ _ _ _ _ _ _ _ _ _ _ _ R G ha (by rfl) (by rfl) hb (by rfl) (by rfl) (fun L s₁ A' hL F R' => ?_) (by rfl) (by rfl) (by rfl)
  have hlen : vs.length = ns.length := by simpa using hI.length
  obtain ⟨fo, ffd, hf1, hf2⟩ := hk.fn
  have R6 : Rm A' 6 := R'.le (by lia)
  have R8 : Rm A' 8 := R'.le (by lia)
  refine @s_if _ _ _ _ _ _ _ _ _ _ _ ?_
  refine wpAny_isTrue_Compare1 ?_ (by rfl)
  with_reducible rename Fm _ _ _ _ _ _ _ => F0
  refine @nm_local _ _ _ _ _ _ _ _ _ _ _ _ _ _ _ _ F0 (by rfl) (by rfl) ?_ (by rfl) (by rfl) (by decide)
  refine @e_none _ _ _ _ _ _ _ _ _ ?_
  refine @c_is_none _ _ _ _ _ _ _ (by rfl) ?_
  refine wpAny_truthy_bool ?_
  refine @ite_b _ _ _ (fun c => absurd c (by simp)) (fun _ => ?_)
  refine @s_assign _ _ _ _ _ _ _ _ _ _ _ ?_ (by rfl)
  refine @e_callkw _ _ _ _ _ _ _ _ _ _ _ _ ?_
  with_reducible rename Fm _ _ _ _ _ _ _ => F0
  refine @nm_glob _ _ _ _ _ _ _ _ _ _ _ _ _ _ _ _ F0 (by rfl) (by exact kn_bisect_right _) ?_ (by rfl) (by rfl) (by decide)
  with_reducible rename Fm _ _ _ _ _ _ _ => F0
  refine @cw_KW _ _ _ _ _ _ _ _ _ _ _ _ _ _ _ _ (Fm.gdh F0) (by rfl) ?_ (by rfl) (by rfl)
  refine @sp_cons _ _ _ _ _ _ _ _ _ _ ?_ (by rfl)
  with_reducible rename Fm _ _ _ _ _ _ _ => F0
  refine @nm_local _ _ _ _ _ _ _ _ _ _ _ _ _ _ _ _ F0 (by rfl) (by rfl) ?_ (by rfl) (by rfl) (by decide)
  refine @sp_cons _ _ _ _ _ _ _ _ _ _ ?_ (by rfl)
  refine @e_call _ _ _ _ _ _ _ _ _ _ _ ?_
  with_reducible rename Fm _ _ _ _ _ _ _ => F0
  refine @nm_local _ _ _ _ _ _ _ _ _ _ _ _ _ _ _ _ F0 (by rfl) (by rfl) ?_ (by rfl) (by rfl) (by decide)
  refine @cw_fn1 _ _ _ _ _ _ _ _ _ (fo) (ffd) _ ?_ (by rfl)
  with_reducible rename Fm _ _ _ _ _ _ _ => F0
  refine @nm_local _ _ _ _ _ _ _ _ _ _ _ _ _ _ _ _ F0 (by rfl) (by rfl) ?_ (by rfl) (by rfl) (by decide)
  rename Fm _ _ _ _ _ _ _ => F
  refine ⟨⟨F.kp _ _ hf1, hf2⟩, hk.call _ _ _ _ _ _ F.kp R6 (.head _) fun _ s₄ g => ?_⟩
  replace F := F.gr g
  refine @sp_cons _ _ _ _ _ _ _ _ _ _ ?_ (by rfl)
  with_reducible rename Fm _ _ _ _ _ _ _ => F0
  refine @nm_local _ _ _ _ _ _ _ _ _ _ _ _ _ _ _ _ F0 (by rfl) (by rfl) ?_ (by rfl) (by rfl) (by decide)
  refine @sp_cons _ _ _ _ _ _ _ _ _ _ ?_ (by rfl)
  with_reducible rename Fm _ _ _ _ _ _ _ => F0
  refine @nm_local _ _ _ _ _ _ _ _ _ _ _ _ _ _ _ _ F0 (by rfl) (by rfl) ?_ (by rfl) (by rfl) (by decide)
  refine @sp_nil _ _ _ _ _ _ _ _ ?_
  with_reducible rename Fm _ _ _ _ _ _ _ => F0
  refine @nm_local _ _ _ _ _ _ _ _ _ _ _ _ _ _ _ _ F0 (by rfl) (by rfl) ?_ (by rfl) (by rfl) (by decide)
  with_reducible rename Fm _ _ _ _ _ _ _ => F0
  refine ⟨Fm.gdh F0, ?_⟩
  rename Fm _ _ _ _ _ _ _ => F
  refine @bisR_key _ _ _ _ _ _ _ _ _ _ _ _ _ _ _ R8 F.gdh ⟨_, F.get (.head _), rfl, n, rfl⟩ (by simpa using hI) (by lia) (hk.kp F.kp fun y hy => .tail _ hy) (bindR4 F.gdh) fun _ s₅ g => ?_
  replace F := F.gr g
  with_reducible rename Fm _ _ _ _ _ _ _ => F0
  refine @st_local _ _ _ _ _ _ _ _ _ _ _ _ _ _ _ F0 (by rfl) ?_ (by rfl) (by rfl)
  clear F0
  intro _ _
  refine @s_nil _ _ _ _ _ _ ?_
  with_reducible refine @then_next _ _ _ _ _ _ _ ?_
  refine @s_expr _ _ _ _ _ _ _ _ _ _ ?_ (by rfl) (by rfl)
  refine @e_meth _ _ _ _ _ _ _ _ _ _ _ _ ?_ (by rfl) (by rfl) (by rfl)
  with_reducible rename Fm _ _ _ _ _ _ _ => F0
  refine @nm_local _ _ _ _ _ _ _ _ _ _ _ _ _ _ _ _ F0 (by rfl) (by rfl) ?_ (by rfl) (by rfl) (by decide)
  rename Fm _ _ _ _ _ _ _ => F
  refine @gm_list _ _ _ _ _ _ _ _ _ _ _ _ (F.get (.head _)) PySem.F.slot_list_insert PySem.F.type_list_insert ?_
  refine @cwb_M2 _ _ _ _ _ _ _ _ _ _ _ _ ?_ (by rfl)
  with_reducible rename Fm _ _ _ _ _ _ _ => F0
  refine @nm_local _ _ _ _ _ _ _ _ _ _ _ _ _ _ _ _ F0 (by rfl) (by rfl) ?_ (by rfl) (by rfl) (by decide)
  with_reducible rename Fm _ _ _ _ _ _ _ => F0
  refine @nm_local _ _ _ _ _ _ _ _ _ _ _ _ _ _ _ _ F0 (by rfl) (by rfl) ?_ (by rfl) (by rfl) (by decide)
  rename Fm _ _ _ _ _ _ _ => F
  have hle := bisR_le (fun i => f (ns.getD i 0)) (f x) 0 ns.length (Nat.zero_le _)
  refine @m_insert _ _ _ _ _ _ _ _ _ _ _ _ _ _ _ _ _ _ _ F (by lia) (by lia) (by rw [sizeLine_eq]; lia) (.head _) fun s₆ F => ?_
  refine @s_nil _ _ _ _ _ _ ?_
  with_reducible refine @retTo_next _ _ ?_
  rename Fm _ _ _ _ _ _ _ => F
  exact h _ F.sm F.kp (F.get (.head _))
set_option maxHeartbeats 4000000 in
theorem bindIL {w : World} {s : Shared} {a : Addr} {x : Int} {t : Tok} {kf : Value} (G : Gd (KK w) s.heap) :
    ∃ tl, BindsTo s (fdOf w 114) ⟨[.ref a, .int x t], [("key", kf)]⟩ [("a", .ref a), ("x", .int x t), ("lo", .int 0 tl), ("hi", .none), ("key", kf)] :=
  ⟨dflT w 114, binds_K G.k (by rfl) (by rfl) (by rfl) (by rfl) (by kernel_rfl)⟩
set_option maxHeartbeats 4000000 in
theorem insL_key {w : World} {A : Around} {s : Shared} {a kf : Addr} {x : Int} {tx : Tok} {vs : List Value} {n : Nat} {ns : List Int} {f : Int → Int} {Q E} (R : Rm A 10) (G : Gd (KK w) (s.heap.hide a))
    (ha : s.heap.get? a = some (lsO vs n)) (hI : IntsAre vs ns) (hz : ns.length < 900) (hk : KeyOk PP w (s.heap.hide a) kf (x :: ns) f)
    (h : ∀ s', Sm s s' → Kp (s.heap.hide a) s'.heap → s'.heap.get? a = some (lsO (insAt vs (bisL (fun i => f (ns.getD i 0)) (f x) 0 ns.length) (.int x tx)) (n + 1)) → Q .none s') :
    wpAny (model PP w) A (call (.ref 114) [.ref a, .int x tx] [("key", .ref kf)]) Q E s := by
  obtain ⟨tl, hb⟩ := bindIL (a := a) (x := x) (t := tx) (kf := .ref kf) (G.kp (fun b o e => Heap.of_hide e : Kp (s.heap.hide a) s.heap))
  refine @call_fnH _ _ _ _ _ _ [("a", .ref a), ("x", .int x tx), ("lo", .int 0 tl), ("hi", .none), ("key", .ref kf)] _ _ _ _ _ _ _ _ _ _ _ _ _ _ _ _ _ _ _ _ _ _ _ R G ha (by rfl) (by rfl) hb (by rfl) (by rfl) (fun L s₁ A' hL F R' => ?_) (by rfl) (by rfl) (by rfl)
  have hlen : vs.length = ns.length := by simpa using hI.length
  obtain ⟨fo, ffd, hf1, hf2⟩ := hk.fn
  have R6 : Rm A' 6 := R'.le (by lia)
  have R8 : Rm A' 8 := R'.le (by lia)
  refine @s_if _ _ _ _ _ _ _ _ _ _ _ ?_
  refine wpAny_isTrue_Compare1 ?_ (by rfl)
  with_reducible rename Fm _ _ _ _ _ _ _ => F0
  refine @nm_local _ _ _ _ _ _ _ _ _ _ _ _ _ _ _ _ F0 (by rfl) (by rfl) ?_ (by rfl) (by rfl) (by decide)
  refine @e_none _ _ _ _ _ _ _ _ _ ?_
  refine @c_is_none _ _ _ _ _ _ _ (by rfl) ?_
  refine wpAny_truthy_bool ?_
  refine @ite_b _ _ _ (fun c => absurd c (by simp)) (fun _ => ?_)
  refine @s_assign _ _ _ _ _ _ _ _ _ _ _ ?_ (by rfl)
  refine @e_callkw _ _ _ _ _ _ _ _ _ _ _ _ ?_
  with_reducible rename Fm _ _ _ _ _ _ _ => F0
  refine @nm_glob _ _ _ _ _ _ _ _ _ _ _ _ _ _ _ _ F0 (by rfl) (by exact kn_bisect_left _) ?_ (by rfl) (by rfl) (by decide)
  with_reducible rename Fm _ _ _ _ _ _ _ => F0
  refine @cw_KW _ _ _ _ _ _ _ _ _ _ _ _ _ _ _ _ (Fm.gdh F0) (by rfl) ?_ (by rfl) (by rfl)
  refine @sp_cons _ _ _ _ _ _ _ _ _ _ ?_ (by rfl)
  with_reducible rename Fm _ _ _ _ _ _ _ => F0
  refine @nm_local _ _ _ _ _ _ _ _ _ _ _ _ _ _ _ _ F0 (by rfl) (by rfl) ?_ (by rfl) (by rfl) (by decide)
  refine @sp_cons _ _ _ _ _ _ _ _ _ _ ?_ (by rfl)
  refine @e_call _ _ _ _ _ _ _ _ _ _ _ ?_
  with_reducible rename Fm _ _ _ _ _ _ _ => F0
  refine @nm_local _ _ _ _ _ _ _ _ _ _ _ _ _ _ _ _ F0 (by rfl) (by rfl) ?_ (by rfl) (by rfl) (by decide)
  refine @cw_fn1 _ _ _ _ _ _ _ _ _ (fo) (ffd) _ ?_ (by rfl)
  with_reducible rename Fm _ _ _ _ _ _ _ => F0
  refine @nm_local _ _ _ _ _ _ _ _ _ _ _ _ _ _ _ _ F0 (by rfl) (by rfl) ?_ (by rfl) (by rfl) (by decide)
  rename Fm _ _ _ _ _ _ _ => F
  refine ⟨⟨F.kp _ _ hf1, hf2⟩, hk.call _ _ _ _ _ _ F.kp R6 (.head _) fun _ s₄ g => ?_⟩
  replace F := F.gr g
  refine @sp_cons _ _ _ _ _ _ _ _ _ _ ?_ (by rfl)
  with_reducible rename Fm _ _ _ _ _ _ _ => F0
  refine @nm_local _ _ _ _ _ _ _ _ _ _ _ _ _ _ _ _ F0 (by rfl) (by rfl) ?_ (by rfl) (by rfl) (by decide)
  refine @sp_cons _ _ _ _ _ _ _ _ _ _ ?_ (by rfl)
  with_reducible rename Fm _ _ _ _ _ _ _ => F0
  refine @nm_local _ _ _ _ _ _ _ _ _ _ _ _ _ _ _ _ F0 (by rfl) (by rfl) ?_ (by rfl) (by rfl) (by decide)
  refine @sp_nil _ _ _ _ _ _ _ _ ?_
  with_reducible rename Fm _ _ _ _ _ _ _ => F0
  refine @nm_local _ _ _ _ _ _ _ _ _ _ _ _ _ _ _ _ F0 (by rfl) (by rfl) ?_ (by rfl) (by rfl) (by decide)
  with_reducible rename Fm _ _ _ _ _ _ _ => F0
  refine ⟨Fm.gdh F0, ?_⟩
  rename Fm _ _ _ _ _ _ _ => F
  refine @bisL_key _ _ _ _ _ _ _ _ _ _ _ _ _ _ _ R8 F.gdh ⟨_, F.get (.head _), rfl, n, rfl⟩ (by simpa using hI) (by lia) (hk.kp F.kp fun y hy => .tail _ hy) (bindL4 F.gdh) fun _ s₅ g => ?_
  replace F := F.gr g
  with_reducible rename Fm _ _ _ _ _ _ _ => F0
  refine @st_local _ _ _ _ _ _ _ _ _ _ _ _ _ _ _ F0 (by rfl) ?_ (by rfl) (by rfl)
  clear F0
  intro _ _
  refine @s_nil _ _ _ _ _ _ ?_
  with_reducible refine @then_next _ _ _ _ _ _ _ ?_
  refine @s_expr _ _ _ _ _ _ _ _ _ _ ?_ (by rfl) (by rfl)
  refine @e_meth _ _ _ _ _ _ _ _ _ _ _ _ ?_ (by rfl) (by rfl) (by rfl)
  with_reducible rename Fm _ _ _ _ _ _ _ => F0
  refine @nm_local _ _ _ _ _ _ _ _ _ _ _ _ _ _ _ _ F0 (by rfl) (by rfl) ?_ (by rfl) (by rfl) (by decide)
  rename Fm _ _ _ _ _ _ _ => F
  refine @gm_list _ _ _ _ _ _ _ _ _ _ _ _ (F.get (.head _)) PySem.F.slot_list_insert PySem.F.type_list_insert ?_
  refine @cwb_M2 _ _ _ _ _ _ _ _ _ _ _ _ ?_ (by rfl)
  with_reducible rename Fm _ _ _ _ _ _ _ => F0
  refine @nm_local _ _ _ _ _ _ _ _ _ _ _ _ _ _ _ _ F0 (by rfl) (by rfl) ?_ (by rfl) (by rfl) (by decide)
  with_reducible rename Fm _ _ _ _ _ _ _ => F0
  refine @nm_local _ _ _ _ _ _ _ _ _ _ _ _ _ _ _ _ F0 (by rfl) (by rfl) ?_ (by rfl) (by rfl) (by decide)
  rename Fm _ _ _ _ _ _ _ => F
  have hle := bisL_le (fun i => f (ns.getD i 0)) (f x) 0 ns.length (Nat.zero_le _)
  refine @m_insert _ _ _ _ _ _ _ _ _ _ _ _ _ _ _ _ _ _ _ F (by lia) (by lia) (by rw [sizeLine_eq]; lia) (.head _) fun s₆ F => ?_
  refine @s_nil _ _ _ _ _ _ ?_
  with_reducible refine @retTo_next _ _ ?_
  rename Fm _ _ _ _ _ _ _ => F
  exact h _ F.sm F.kp (F.get (.head _))
end Mine
end
section
open PySem PySem.W PyProof.Rows PySem.Calls
set_option maxRecDepth 100000
namespace Mine

structure Sc where
  cnt : List Int
  b : Nat
  n : Nat
  nt : Nat
def padTo (cnt : List Int) (b : Nat) : List Int := if cnt.length ≤ b then cnt ++ List.replicate (b - cnt.length + 1) 0 else cnt
def bump (cnt : List Int) (b : Nat) : List Int := (padTo cnt b).set b ((padTo cnt b).getD b 0 + 1)
def scan : List Nat → Sc → Sc
  | [], st => st
  | c :: r, st => if c = 32 then scan r { st with b := st.b + 1, n := st.n + 1 } else if c = 9 then scan r { cnt := bump st.cnt st.b, b := 0, n := st.n + 1, nt := st.nt + 1 } else st
def Sc.lead (st : Sc) : Lead := ⟨st.n, st.nt, st.b, st.cnt⟩
def leadOf (x : Str) : Lead := (scan x.cps.toList ⟨[], 0, 0, 0⟩).lead
theorem padTo_len (cnt : List Int) (b : Nat) : b < (padTo cnt b).length ∧ (padTo cnt b).length ≤ max cnt.length (b + 1) := by
  unfold padTo; split
  · simp; lia
  · lia
theorem bump_len (cnt : List Int) (b : Nat) : (bump cnt b).length ≤ max cnt.length (b + 1) := by
  unfold bump; rw [List.length_set]; exact (padTo_len cnt b).2
theorem scan_bd : ∀ (l : List Nat) (st : Sc) (N : Nat), st.b + l.length ≤ N → st.cnt.length + l.length ≤ N → (scan l st).b ≤ N ∧ (scan l st).cnt.length ≤ N
  | [], st, N, h1, h2 => ⟨by simpa [scan] using h1, by simpa [scan] using h2⟩
  | c :: r, st, N, h1, h2 => by
    unfold scan
    simp only [List.length_cons] at h1 h2
    split
    · exact scan_bd r _ N (by simp; lia) (by simp; lia)
    · split
      · have := bump_len st.cnt st.b
        exact scan_bd r _ N (by simp; lia) (by simp; lia)
      · exact ⟨by lia, by lia⟩

theorem mk1 (w : World) : makesIn (KK w) 83 = true := by kernel_rfl
theorem mk2 (w : World) : findIn (KK w) (.ref 83) "__init__" = some (some (.ref 38)) := by kernel_rfl
theorem mk3 (w : World) : typeIn (KK w) (.ref 38) = some (.type "function") := by kernel_rfl
theorem mk4 (w : World) : findIn (KK w) (.ref 83) "__setattr__" = some (some (.builtin "object.__setattr__")) := by kernel_rfl
theorem mk5 (w : World) : plainOver (KK w) 83 = true := by kernel_rfl
theorem mk6 (w : World) : takerIn (KK w) 83 "raw" = some none ∧ takerIn (KK w) 83 "n" = some none ∧ takerIn (KK w) 83 "nt" = some none ∧ takerIn (KK w) 83 "norm" = some none ∧ takerIn (KK w) 83 "is_simple" = some none := ⟨by kernel_rfl, by kernel_rfl, by kernel_rfl, by kernel_rfl, by kernel_rfl⟩
theorem mk7 (w : World) : plainGet (KK w) 83 "raw" = true ∧ findIn (KK w) (.ref 83) "raw" = some none := ⟨by kernel_rfl, by kernel_rfl⟩
theorem mk8 (w : World) : readsIn (KK w) 83 (.type "type") = true := by kernel_rfl
theorem mk9 (w : World) : ∃ t u, findCls (KK w) (.ref 83) (.type "type") "S" = some (.val (.str " " t)) ∧ findCls (KK w) (.ref 83) (.type "type") "T" = some (.val (.str "\t" u)) := ⟨_, _, by rfl, by rfl⟩

theorem str1 (c d : Nat) : (⟨#[c]⟩ : Str) = ⟨#[d]⟩ ↔ c = d := by
  constructor
  · intro h; injection h with h; simpa using h
  · rintro rfl; rfl
theorem strS : (Str.ofString " ") = ⟨#[32]⟩ := by decide +kernel
theorem strT : (Str.ofString "\t") = ⟨#[9]⟩ := by decide +kernel
theorem drop_cons {l : List Nat} {i c : Nat} (h : l[i]? = some c) : l.drop i = c :: l.drop (i + 1) := by
  obtain ⟨hi, e⟩ := List.getElem?_eq_some_iff.mp h
  rw [List.drop_eq_getElem_cons hi, e]
theorem ints_rep (i : Int) (u : Tok) : ∀ n : Nat, IntsAre (List.replicate n (.int i u)) (List.replicate n i)
  | 0 => .nil
  | n + 1 => .cons i u (ints_rep i u n)
set_option maxHeartbeats 4000000 in
theorem init_spec {w : World} {A : Around} {s : Shared} {x : Str} {t : Tok} {Q E} (R : Rm A 4) (G : Gd (KK w) s.heap) (hx : x.cps.size < 500)
    (h : ∀ a s', Gr s s' → LeadAt 83 (newPart s.heap s'.heap) a (leadOf x) → Q (.ref a) s') : wpAny (model PP w) A (call (.ref 83) [.str x t]) Q E s := by
  refine @call_new _ _ _ _ _ _ _ _ _ _ G (mk1 w) (mk2 w) (mk3 w) ?_
  generalize hdx : s.heap.objs.size = dx
  have hs2 : Kp s.heap ((s.heap.push emptyDict).push (instObj 83 dx)) := (Kp.push _).trans (Kp.push _)
  have hdxn : s.heap.get? dx = none := get_none_of_le (by lia)
  have hdx2 : ((s.heap.push emptyDict).push (instObj 83 dx)).get? dx = some (dictOf [] 0) := Kp.push _ _ _ (by rw [← hdx]; exact Heap.get?_push_size _ rfl)
  have hx2 : ((s.heap.push emptyDict).push (instObj 83 dx)).get? (dx + 1) = some (instObj 83 dx) := by
    have := Heap.get?_push_size (s.heap.push emptyDict) (o := instObj 83 dx) rfl
    rwa [Heap.size_push, hdx] at this
  generalize hh2 : (s.heap.push emptyDict).push (instObj 83 dx) = h2 at hs2 hdx2 hx2
  have G2 : Gd (KK w) (h2.hide dx) := G.kp fun b o e => (Heap.hide_ne _ (by rintro rfl; rw [hdxn] at e; cases e)).trans (hs2 _ _ e)
  have R' : Rm (A.under (.builtin "type.__call__" ⟨[.ref 83, .str x t], []⟩)) (2 + 1) := ⟨R.h, by have := R.d; show A.depth + 1 + 3 < recursionLimit; omega, by have := R.u; show A.units + 1 + 16 * 3 < cLine; lia⟩
  refine @code_fnH _ _ _ ({ s with heap := h2 }) _ [("self", .ref (dx + 1)), ("ws", .str x t)] _ _ _ _ _ _ _ _ _ _ _ _ _ _ _ _ _ _ _ _ _ _ _ R' G2 hdx2 (by rfl) (by rfl) (BindsTo.of_eq (by rfl)) (by rfl) (by rfl) (fun L s₁ A' hL F R' => ?_) (by rfl) (by rfl) (by rfl)
  have hxB : (h2.hide dx).get? (dx + 1) = some (instObj 83 dx) := (Heap.hide_ne _ (Nat.ne_of_gt (Nat.lt_succ_self _))).trans hx2
  replace F : Fm (KK w) { s with heap := h2 } (h2.hide dx) L s₁ [("ws", .str x t), ("self", .ref (dx + 1))] [(dx, dictOf [] 0)] := F
  have kB : Kp s.heap (h2.hide dx) := fun b o e => (Heap.hide_ne _ (by rintro rfl; rw [hdxn] at e; cases e)).trans (hs2 _ _ e)
  generalize h2.hide dx = B at F hxB kB
  obtain ⟨tS, tT, hS, hT⟩ := mk9 w
  refine @s_attr _ _ _ _ _ _ _ _ _ _ _ _ _ ?_ (by rfl)
  with_reducible rename Fm _ _ _ _ _ _ _ => F0
  refine @nm_local _ _ _ _ _ _ _ _ _ _ _ _ _ _ _ _ F0 (by rfl) (by rfl) ?_ (by rfl) (by rfl) (by decide)
  with_reducible rename Fm _ _ _ _ _ _ _ => F0
  refine @nm_local _ _ _ _ _ _ _ _ _ _ _ _ _ _ _ _ F0 (by rfl) (by rfl) ?_ (by rfl) (by rfl) (by decide)
  rename Fm _ _ _ _ _ _ _ => F
  refine @sa_dict _ _ _ _ _ _ _ _ _ _ _ _ _ _ _ _ _ _ _ F (F.kp _ _ hxB) (.head _) (mk4 w) (mk5 w) (mk6 w).1 (leadK w).hh (by rfl) (by simp [putL]) fun k1 s₂ up => ?_
  replace F := up _ (.head _)
  clear up
  generalize hD1 : dictOf (putL "raw" (PyData.keyHash w.params "raw") (.str "raw" k1) (.str x t) []) (putN "raw" [] 0) = D1 at F
  refine @s_swap2 _ _ _ _ _ _ _ _ _ _ _ _ _ _ _ _ _ _ _ R'.h ?_ (by rfl) (by rfl) (by rfl)
  refine Attribute_any_ ?_
  with_reducible rename Fm _ _ _ _ _ _ _ => F0
  refine @nm_glob _ _ _ _ _ _ _ _ _ _ _ _ _ _ _ _ F0 (by rfl) (by exact kn_Whitespace _) ?_ (by rfl) (by rfl) (by decide)
  rename Fm _ _ _ _ _ _ _ => F
  refine @ga_cls _ _ _ _ _ _ _ _ _ _ _ _ _ _ _ _ _ F (mk8 w) hS rfl fun _ F => ?_
  refine Attribute_any_ ?_
  with_reducible rename Fm _ _ _ _ _ _ _ => F0
  refine @nm_glob _ _ _ _ _ _ _ _ _ _ _ _ _ _ _ _ F0 (by rfl) (by exact kn_Whitespace _) ?_ (by rfl) (by rfl) (by decide)
  rename Fm _ _ _ _ _ _ _ => F
  refine @ga_cls _ _ _ _ _ _ _ _ _ _ _ _ _ _ _ _ _ F (mk8 w) hT rfl fun _ F => ?_
  intro s₃ g
  replace F := F.gr g
  with_reducible rename Fm _ _ _ _ _ _ _ => F0
  refine @st_local _ _ _ _ _ _ _ _ _ _ _ _ _ _ _ F0 (by rfl) ?_ (by rfl) (by rfl)
  clear F0
  intro _ _
  with_reducible rename Fm _ _ _ _ _ _ _ => F0
  refine @st_local _ _ _ _ _ _ _ _ _ _ _ _ _ _ _ F0 (by rfl) ?_ (by rfl) (by rfl)
  clear F0
  intro _ _
  refine @s_assign _ _ _ _ _ _ _ _ _ _ _ ?_ (by rfl)
  refine @e_list _ _ _ _ _ _ _ _ _ ?_
  refine @sp_nil _ _ _ _ _ _ _ _ ?_
  with_reducible rename Fm _ _ _ _ _ _ _ => F0
  refine @n_list _ _ _ _ _ _ _ _ _ _ _ _ _ F0 (by simp [sizeLine_eq]) ?_
  clear F0
  intro _ _ _
  with_reducible rename Fm _ _ _ _ _ _ _ => F0
  refine @st_local _ _ _ _ _ _ _ _ _ _ _ _ _ _ _ F0 (by rfl) ?_ (by rfl) (by rfl)
  clear F0
  intro _ _
  refine @s_assign3 _ _ _ _ _ _ _ _ _ _ _ _ _ _ _ _ ?_ (by rfl)
  with_reducible rename Fm _ _ _ _ _ _ _ => F0
  refine @e_int _ _ _ _ _ _ _ _ _ _ _ _ _ _ _ _ F0 ?_
  clear F0
  intro _ _ _
  with_reducible rename Fm _ _ _ _ _ _ _ => F0
  refine @st_local _ _ _ _ _ _ _ _ _ _ _ _ _ _ _ F0 (by rfl) ?_ (by rfl) (by rfl)
  clear F0
  intro _ _
  with_reducible rename Fm _ _ _ _ _ _ _ => F0
  refine @st_local _ _ _ _ _ _ _ _ _ _ _ _ _ _ _ F0 (by rfl) ?_ (by rfl) (by rfl)
  clear F0
  intro _ _
  with_reducible rename Fm _ _ _ _ _ _ _ => F0
  refine @st_local _ _ _ _ _ _ _ _ _ _ _ _ _ _ _ F0 (by rfl) ?_ (by rfl) (by rfl)
  clear F0
  intro _ _
  refine @s_for _ _ _ _ _ _ _ _ _ _ _ _ ?_ (by intro _; rfl)
  refine Attribute_any_ ?_
  with_reducible rename Fm _ _ _ _ _ _ _ => F0
  refine @nm_local _ _ _ _ _ _ _ _ _ _ _ _ _ _ _ _ F0 (by rfl) (by rfl) ?_ (by rfl) (by rfl) (by decide)
  rename Fm _ _ _ _ _ _ _ => F
  refine @ga_dict _ _ _ _ _ _ _ _ _ _ _ _ _ _ _ _ _ (.str x t) _ _ _ F (F.kp _ _ hxB) (by rw [← hD1]; exact .tail _ (.head _)) (mk7 w).1 (leadK w).hh (mk7 w).2 rfl (by rfl) rfl fun s₄ F => ?_
  rw [strS, strT] at F
  replace F := F.sub (l' := [("self", .ref (dx + 1)), ("S", .str ⟨#[32]⟩ tS), ("T", .str ⟨#[9]⟩ tT), ("count", .ref _), ("b", .int 0 _), ("n", .int 0 _), ("nt", .int 0 _)]) ⟨rfl, rfl, rfl, rfl, rfl, rfl, rfl, trivial⟩
  generalize hfin : scan x.cps.toList ⟨[], 0, 0, 0⟩ = fin
  have hbd := scan_bd x.cps.toList ⟨[], 0, 0, 0⟩ x.cps.toList.length (by simp) (by simp)
  rw [hfin] at hbd
  have hle : leadOf x = fin.lead := by unfold leadOf; rw [hfin]
  rw [hle] at h
  refine @for_iterP _ _ _ _ _ _ _ _ _ _ _ _ _ _ _ _ _ _ _ F (it_str R'.h) (fun i l ob => ∃ (st : Sc) (c : Addr) (vs : List Value) (k : Nat) (tb tn tnt : Tok), l = ([("self", .ref (dx + 1)), ("S", .str ⟨#[32]⟩ tS), ("T", .str ⟨#[9]⟩ tT), ("count", .ref c), ("b", .int st.b tb), ("n", .int st.n tn), ("nt", .int st.nt tnt)] : Ls) ∧
      ob = [(c, lsO vs k), (dx, D1)] ∧ IntsAre vs st.cnt ∧ scan (x.cps.toList.drop i) st = fin ∧ st.b ≤ i ∧ st.cnt.length ≤ i) (fun l ob => ∃ (c : Addr) (vs : List Value) (k : Nat) (tb tn tnt : Tok), l = ([("self", .ref (dx + 1)), ("S", .str ⟨#[32]⟩ tS), ("T", .str ⟨#[9]⟩ tT), ("count", .ref c), ("b", .int fin.b tb), ("n", .int fin.n tn), ("nt", .int fin.nt tnt)] : Ls) ∧
      ob = [(c, lsO vs k), (dx, D1)] ∧ IntsAre vs fin.cnt) ⟨⟨[], 0, 0, 0⟩, _, [], 0, _, _, _, rfl, rfl, .nil, by simpa using hfin, by simp, by simp⟩ ?_ ?_ ?_
  · rintro i s₅ l ob ex v hi ⟨st, c, vs, k, tb, tn, tnt, rfl, rfl, hI, hsc, hb1, hc1⟩ ⟨ch, u, hch, rfl⟩ F
    have hlen := hI.length
    rw [drop_cons (by rw [Array.getElem?_toList]; exact hch)] at hsc
    unfold scan at hsc
    with_reducible rename Fm _ _ _ _ _ _ _ => F0
    refine @st_local _ _ _ _ _ _ _ _ _ _ _ _ _ _ _ F0 (by rfl) ?_ (by rfl) (by rfl)
    clear F0
    intro _ _
    refine @s_if _ _ _ _ _ _ _ _ _ _ _ ?_
    refine wpAny_isTrue_Compare1 ?_ (by rfl)
    with_reducible rename Fm _ _ _ _ _ _ _ => F0
    refine @nm_local _ _ _ _ _ _ _ _ _ _ _ _ _ _ _ _ F0 (by rfl) (by rfl) ?_ (by rfl) (by rfl) (by decide)
    with_reducible rename Fm _ _ _ _ _ _ _ => F0
    refine @nm_local _ _ _ _ _ _ _ _ _ _ _ _ _ _ _ _ F0 (by rfl) (by rfl) ?_ (by rfl) (by rfl) (by decide)
    refine @c_eqs _ _ _ _ _ _ _ _ _ _ ?_
    refine wpAny_truthy_bool ?_
    refine @ite_d _ _ _ _ (fun c1 => ?_) (fun c1 => ?_)
    · rw [str1] at c1
      rw [if_pos c1] at hsc
      refine @s_assign _ _ _ _ _ _ _ _ _ _ _ ?_ (by rfl)
      refine wpAny_BinOp ?_
      with_reducible rename Fm _ _ _ _ _ _ _ => F0
      refine @nm_local _ _ _ _ _ _ _ _ _ _ _ _ _ _ _ _ F0 (by rfl) (by rfl) ?_ (by rfl) (by rfl) (by decide)
      with_reducible rename Fm _ _ _ _ _ _ _ => F0
      refine @e_int _ _ _ _ _ _ _ _ _ _ _ _ _ _ _ _ F0 ?_
      clear F0
      intro _ _ _
      with_reducible rename Fm _ _ _ _ _ _ _ => F0
      refine @o_add _ _ _ _ _ _ _ _ _ _ _ _ _ _ _ _ F0 ?_
      clear F0
      intro _ _ _
      with_reducible rename Fm _ _ _ _ _ _ _ => F0
      refine @st_local _ _ _ _ _ _ _ _ _ _ _ _ _ _ _ F0 (by rfl) ?_ (by rfl) (by rfl)
      clear F0
      intro _ _
      refine @s_assign _ _ _ _ _ _ _ _ _ _ _ ?_ (by rfl)
      refine wpAny_BinOp ?_
      with_reducible rename Fm _ _ _ _ _ _ _ => F0
      refine @nm_local _ _ _ _ _ _ _ _ _ _ _ _ _ _ _ _ F0 (by rfl) (by rfl) ?_ (by rfl) (by rfl) (by decide)
      with_reducible rename Fm _ _ _ _ _ _ _ => F0
      refine @e_int _ _ _ _ _ _ _ _ _ _ _ _ _ _ _ _ F0 ?_
      clear F0
      intro _ _ _
      with_reducible rename Fm _ _ _ _ _ _ _ => F0
      refine @o_add _ _ _ _ _ _ _ _ _ _ _ _ _ _ _ _ F0 ?_
      clear F0
      intro _ _ _
      with_reducible rename Fm _ _ _ _ _ _ _ => F0
      refine @st_local _ _ _ _ _ _ _ _ _ _ _ _ _ _ _ F0 (by rfl) ?_ (by rfl) (by rfl)
      clear F0
      intro _ _
      refine @s_nil _ _ _ _ _ _ ?_
      with_reducible refine @then_next _ _ _ _ _ _ _ ?_
      refine @s_nil _ _ _ _ _ _ ?_
      with_reducible refine @lpp_next _ _ _ _ ?_
      rename Fm _ _ _ _ _ _ _ => F
      exact ⟨_, _, ⟨⟨st.cnt, st.b + 1, st.n + 1, st.nt⟩, c, vs, k, _, _, _, rfl, rfl, hI, hsc, by simp; omega, by simp; lia⟩, F.sub ⟨rfl, rfl, rfl, rfl, rfl, rfl, rfl, trivial⟩⟩
    · rw [str1] at c1
      rw [if_neg c1] at hsc
      refine @s_if _ _ _ _ _ _ _ _ _ _ _ ?_
      refine wpAny_isTrue_Compare1 ?_ (by rfl)
      with_reducible rename Fm _ _ _ _ _ _ _ => F0
      refine @nm_local _ _ _ _ _ _ _ _ _ _ _ _ _ _ _ _ F0 (by rfl) (by rfl) ?_ (by rfl) (by rfl) (by decide)
      with_reducible rename Fm _ _ _ _ _ _ _ => F0
      refine @nm_local _ _ _ _ _ _ _ _ _ _ _ _ _ _ _ _ F0 (by rfl) (by rfl) ?_ (by rfl) (by rfl) (by decide)
      refine @c_eqs _ _ _ _ _ _ _ _ _ _ ?_
      refine wpAny_truthy_bool ?_
      refine @ite_d _ _ _ _ (fun c2 => ?_) (fun c2 => ?_)
      · rw [str1] at c2
        rw [if_pos c2] at hsc
        refine @s_assign _ _ _ _ _ _ _ _ _ _ _ ?_ (by rfl)
        refine wpAny_BinOp ?_
        with_reducible rename Fm _ _ _ _ _ _ _ => F0
        refine @nm_local _ _ _ _ _ _ _ _ _ _ _ _ _ _ _ _ F0 (by rfl) (by rfl) ?_ (by rfl) (by rfl) (by decide)
        with_reducible rename Fm _ _ _ _ _ _ _ => F0
        refine @e_int _ _ _ _ _ _ _ _ _ _ _ _ _ _ _ _ F0 ?_
        clear F0
        intro _ _ _
        with_reducible rename Fm _ _ _ _ _ _ _ => F0
        refine @o_add _ _ _ _ _ _ _ _ _ _ _ _ _ _ _ _ F0 ?_
        clear F0
        intro _ _ _
        with_reducible rename Fm _ _ _ _ _ _ _ => F0
        refine @st_local _ _ _ _ _ _ _ _ _ _ _ _ _ _ _ F0 (by rfl) ?_ (by rfl) (by rfl)
        clear F0
        intro _ _
        refine @s_assign _ _ _ _ _ _ _ _ _ _ _ ?_ (by rfl)
        refine wpAny_BinOp ?_
        with_reducible rename Fm _ _ _ _ _ _ _ => F0
        refine @nm_local _ _ _ _ _ _ _ _ _ _ _ _ _ _ _ _ F0 (by rfl) (by rfl) ?_ (by rfl) (by rfl) (by decide)
        with_reducible rename Fm _ _ _ _ _ _ _ => F0
        refine @e_int _ _ _ _ _ _ _ _ _ _ _ _ _ _ _ _ F0 ?_
        clear F0
        intro _ _ _
        with_reducible rename Fm _ _ _ _ _ _ _ => F0
        refine @o_add _ _ _ _ _ _ _ _ _ _ _ _ _ _ _ _ F0 ?_
        clear F0
        intro _ _ _
        with_reducible rename Fm _ _ _ _ _ _ _ => F0
        refine @st_local _ _ _ _ _ _ _ _ _ _ _ _ _ _ _ F0 (by rfl) ?_ (by rfl) (by rfl)
        clear F0
        intro _ _
        rename Fm _ _ _ _ _ _ _ => F
        have hpl := padTo_len st.cnt st.b
        refine @s_cut _ _ _ _ _ _ _ _ _ (fun s' => ∃ (c' : Addr) (vs' : List Value) (k' : Nat) (tn' tnt' : Tok), IntsAre vs' (padTo st.cnt st.b) ∧
          Fm (KK w) { s with heap := h2 } B L s' [("self", .ref (dx + 1)), ("S", .str ⟨#[32]⟩ tS), ("T", .str ⟨#[9]⟩ tT), ("count", .ref c'), ("b", .int st.b tb), ("n", .int (st.n + 1 : Nat) tn'), ("nt", .int (st.nt + 1 : Nat) tnt')] ((c', lsO vs' k') :: (dx, D1) :: ex)) ?_ ?_
        · refine @s_if _ _ _ _ _ _ _ _ _ _ _ ?_
          refine wpAny_isTrue_Compare1 ?_ (by rfl)
          with_reducible rename Fm _ _ _ _ _ _ _ => F0
          refine @nm_local _ _ _ _ _ _ _ _ _ _ _ _ _ _ _ _ F0 (by rfl) (by rfl) ?_ (by rfl) (by rfl) (by decide)
          refine @e_call _ _ _ _ _ _ _ _ _ _ _ ?_
          with_reducible rename Fm _ _ _ _ _ _ _ => F0
          refine @nm_bi _ _ _ _ _ _ _ _ _ _ _ _ _ _ _ _ F0 (by rfl) (by rfl) (by exact bb_len) ?_ (by rfl) (by rfl) (by rfl) (by decide) (by decide)
          refine @cw_bi1 _ _ _ _ _ _ _ _ _ _ ?_ (by rfl)
          with_reducible rename Fm _ _ _ _ _ _ _ => F0
          refine @nm_local _ _ _ _ _ _ _ _ _ _ _ _ _ _ _ _ F0 (by rfl) (by rfl) ?_ (by rfl) (by rfl) (by decide)
          rename Fm _ _ _ _ _ _ _ => F
          refine @b_len_list _ _ _ _ _ _ _ _ _ _ _ _ _ _ F ⟨_, F.get (.head _), rfl, k, rfl⟩ (by simp; lia) fun _ _ F => ?_
          refine @c_ge _ _ _ _ _ _ _ _ _ _ ?_
          refine wpAny_truthy_bool ?_
          refine @ite_d _ _ _ _ (fun c3 => ?_) (fun c3 => ?_)
          · simp only [List.size_toArray] at c3
            refine @s_assign _ _ _ _ _ _ _ _ _ _ _ ?_ (by rfl)
            refine wpAny_BinOp ?_
            with_reducible rename Fm _ _ _ _ _ _ _ => F0
            refine @nm_local _ _ _ _ _ _ _ _ _ _ _ _ _ _ _ _ F0 (by rfl) (by rfl) ?_ (by rfl) (by rfl) (by decide)
            refine wpAny_BinOp ?_
            refine @e_list _ _ _ _ _ _ _ _ _ ?_
            refine @sp_cons _ _ _ _ _ _ _ _ _ _ ?_ (by rfl)
            with_reducible rename Fm _ _ _ _ _ _ _ => F0
            refine @e_int _ _ _ _ _ _ _ _ _ _ _ _ _ _ _ _ F0 ?_
            clear F0
            intro _ _ _
            refine @sp_nil _ _ _ _ _ _ _ _ ?_
            with_reducible rename Fm _ _ _ _ _ _ _ => F0
            refine @n_list _ _ _ _ _ _ _ _ _ _ _ _ _ F0 (by simp [sizeLine_eq]) ?_
            clear F0
            intro _ _ _
            refine wpAny_BinOp ?_
            refine wpAny_BinOp ?_
            with_reducible rename Fm _ _ _ _ _ _ _ => F0
            refine @nm_local _ _ _ _ _ _ _ _ _ _ _ _ _ _ _ _ F0 (by rfl) (by rfl) ?_ (by rfl) (by rfl) (by decide)
            refine @e_call _ _ _ _ _ _ _ _ _ _ _ ?_
            with_reducible rename Fm _ _ _ _ _ _ _ => F0
            refine @nm_bi _ _ _ _ _ _ _ _ _ _ _ _ _ _ _ _ F0 (by rfl) (by rfl) (by exact bb_len) ?_ (by rfl) (by rfl) (by rfl) (by decide) (by decide)
            refine @cw_bi1 _ _ _ _ _ _ _ _ _ _ ?_ (by rfl)
            with_reducible rename Fm _ _ _ _ _ _ _ => F0
            refine @nm_local _ _ _ _ _ _ _ _ _ _ _ _ _ _ _ _ F0 (by rfl) (by rfl) ?_ (by rfl) (by rfl) (by decide)
            rename Fm _ _ _ _ _ _ _ => F
            refine @b_len_list _ _ _ _ _ _ _ _ _ _ _ _ _ _ F ⟨_, F.get (.tail _ (.head _)), rfl, k, rfl⟩ (by simp; lia) fun _ _ F => ?_
            with_reducible rename Fm _ _ _ _ _ _ _ => F0
            refine @o_sub _ _ _ _ _ _ _ _ _ _ _ _ _ _ _ _ F0 ?_
            clear F0
            intro _ _ _
            with_reducible rename Fm _ _ _ _ _ _ _ => F0
            refine @e_int _ _ _ _ _ _ _ _ _ _ _ _ _ _ _ _ F0 ?_
            clear F0
            intro _ _ _
            with_reducible rename Fm _ _ _ _ _ _ _ => F0
            refine @o_add _ _ _ _ _ _ _ _ _ _ _ _ _ _ _ _ F0 ?_
            clear F0
            intro _ _ _
            rename Fm _ _ _ _ _ _ _ => F
            refine @o_mulL _ _ _ _ _ _ _ _ _ _ _ _ _ _ _ _ _ F (F.get (.head _)) (by simp; lia) (by simp; lia) fun z s₆ F => ?_
            refine @o_addL _ _ _ _ _ _ _ _ _ _ _ _ _ _ _ _ _ _ F (F.get (.tail _ (.tail _ (.head _)))) (F.get (.head _)) (by simp [sizeLine_eq]; lia) fun c' s₇ F => ?_
            with_reducible rename Fm _ _ _ _ _ _ _ => F0
            refine @st_local _ _ _ _ _ _ _ _ _ _ _ _ _ _ _ F0 (by rfl) ?_ (by rfl) (by rfl)
            clear F0
            intro _ _
            refine @s_nil _ _ _ _ _ _ ?_
            with_reducible refine @then_next _ _ _ _ _ _ _ ?_
            refine @s_nil _ _ _ _ _ _ ?_
            rename Fm _ _ _ _ _ _ _ => F
            refine ⟨rfl, c', _, 0, _, _, ?_, (F.drop (List.Sublist.cons_cons _ (.cons _ (.cons _ (.cons _ (.refl _)))))).sub ⟨rfl, rfl, rfl, rfl, rfl, rfl, rfl, trivial⟩⟩
            · have e : ((st.b : Int) - (vs.toArray.size : Nat) + 1).toNat = st.b - st.cnt.length + 1 := by simp; lia
              rw [e]
              unfold padTo
              rw [if_pos (by omega)]
              exact hI.append (ints_rep _ _ _)
          · simp only [List.size_toArray] at c3
            refine @s_nil _ _ _ _ _ _ ?_
            with_reducible refine @then_next _ _ _ _ _ _ _ ?_
            refine @s_nil _ _ _ _ _ _ ?_
            rename Fm _ _ _ _ _ _ _ => F
            refine ⟨rfl, c, vs, k, _, _, ?_, F.sub ⟨rfl, rfl, rfl, rfl, rfl, rfl, rfl, trivial⟩⟩
            unfold padTo
            rw [if_neg (by lia)]
            exact hI
        · rintro s₆ ⟨c', vs', k', tn', tnt', hI', F⟩
          have hl' := hI'.length
          refine @s_item _ _ _ _ _ _ _ _ _ _ _ _ _ ?_ (by rfl)
          refine wpAny_BinOp ?_
          refine Subscript_ ?_
          with_reducible rename Fm _ _ _ _ _ _ _ => F0
          refine @nm_local _ _ _ _ _ _ _ _ _ _ _ _ _ _ _ _ F0 (by rfl) (by rfl) ?_ (by rfl) (by rfl) (by decide)
          with_reducible rename Fm _ _ _ _ _ _ _ => F0
          refine @nm_local _ _ _ _ _ _ _ _ _ _ _ _ _ _ _ _ F0 (by rfl) (by rfl) ?_ (by rfl) (by rfl) (by decide)
          rename Fm _ _ _ _ _ _ _ => F
          obtain ⟨u', hx'⟩ := hI'.get st.b ((padTo st.cnt st.b).getD st.b 0) (by rw [List.getD_eq_getElem?_getD, List.getElem?_eq_getElem hpl.1]; rfl)
          refine @sub_list _ _ _ _ _ _ _ _ _ _ (vs'.toArray) _ _ ⟨_, F.get (.head _), rfl, k', rfl⟩ (by lia) (by lia) (by rw [show ((st.b : Int)).toNat = st.b from rfl]; simpa using hx') ?_ (by with_unfolding_all rfl)
          with_reducible rename Fm _ _ _ _ _ _ _ => F0
          refine @e_int _ _ _ _ _ _ _ _ _ _ _ _ _ _ _ _ F0 ?_
          clear F0
          intro _ _ _
          with_reducible rename Fm _ _ _ _ _ _ _ => F0
          refine @o_add _ _ _ _ _ _ _ _ _ _ _ _ _ _ _ _ F0 ?_
          clear F0
          intro _ _ _
          with_reducible rename Fm _ _ _ _ _ _ _ => F0
          refine @nm_local _ _ _ _ _ _ _ _ _ _ _ _ _ _ _ _ F0 (by rfl) (by rfl) ?_ (by rfl) (by rfl) (by decide)
          with_reducible rename Fm _ _ _ _ _ _ _ => F0
          refine @nm_local _ _ _ _ _ _ _ _ _ _ _ _ _ _ _ _ F0 (by rfl) (by rfl) ?_ (by rfl) (by rfl) (by decide)
          rename Fm _ _ _ _ _ _ _ => F
          refine @i_set _ _ _ _ _ _ _ _ _ _ _ _ _ _ _ _ _ _ _ F (by lia) (by lia) (by lia) (.head _) fun s₇ F => ?_
          refine @s_assign _ _ _ _ _ _ _ _ _ _ _ ?_ (by rfl)
          with_reducible rename Fm _ _ _ _ _ _ _ => F0
          refine @e_int _ _ _ _ _ _ _ _ _ _ _ _ _ _ _ _ F0 ?_
          clear F0
          intro _ _ _
          with_reducible rename Fm _ _ _ _ _ _ _ => F0
          refine @st_local _ _ _ _ _ _ _ _ _ _ _ _ _ _ _ F0 (by rfl) ?_ (by rfl) (by rfl)
          clear F0
          intro _ _
          refine @s_nil _ _ _ _ _ _ ?_
          with_reducible refine @then_next _ _ _ _ _ _ _ ?_
          refine @s_nil _ _ _ _ _ _ ?_
          with_reducible refine @then_next _ _ _ _ _ _ _ ?_
          refine @s_nil _ _ _ _ _ _ ?_
          with_reducible refine @lpp_next _ _ _ _ ?_
          rename Fm _ _ _ _ _ _ _ => F
          have hbl := bump_len st.cnt st.b
          refine ⟨_, _, ⟨⟨bump st.cnt st.b, 0, st.n + 1, st.nt + 1⟩, c', _, k', _, _, _, rfl, rfl, ?_, hsc, by simp, by simp; lia⟩, F.sub ⟨rfl, rfl, rfl, rfl, rfl, rfl, rfl, trivial⟩⟩
          exact ints_set hI' st.b
      · rw [str1] at c2
        rw [if_neg c2] at hsc
        refine @s_brk _ _ _ _ _ _ _ _ ?_
        with_reducible refine @then_brk _ _ _ _ _ _ _ ?_
        with_reducible refine @then_brk _ _ _ _ _ _ _ ?_
        with_reducible refine @lpp_brk _ _ _ _ ?_
        rename Fm _ _ _ _ _ _ _ => F
        subst hsc
        exact ⟨_, _, ⟨c, vs, k, _, _, _, rfl, rfl, hI⟩, F.sub ⟨rfl, rfl, rfl, rfl, rfl, rfl, rfl, trivial⟩⟩
  · rintro l ob ⟨st, c, vs, k, tb, tn, tnt, rfl, rfl, hI, hsc, hb1, hc1⟩
    have : st = fin := by
      rw [← hsc, List.drop_eq_nil_of_le (by simp)]; rfl
    subst this
    exact ⟨c, vs, k, _, _, _, rfl, rfl, hI⟩
  · rintro s₅ l ob ⟨c, vs, k, tb, tn, tnt, rfl, rfl, hI⟩ F
    subst hD1
    have hlen := hI.length
    have hsz : x.cps.toList.length = x.cps.size := by simp
    with_reducible refine @then_next _ _ _ _ _ _ _ ?_
    refine @s_attr _ _ _ _ _ _ _ _ _ _ _ _ _ ?_ (by rfl)
    with_reducible rename Fm _ _ _ _ _ _ _ => F0
    refine @nm_local _ _ _ _ _ _ _ _ _ _ _ _ _ _ _ _ F0 (by rfl) (by rfl) ?_ (by rfl) (by rfl) (by decide)
    with_reducible rename Fm _ _ _ _ _ _ _ => F0
    refine @nm_local _ _ _ _ _ _ _ _ _ _ _ _ _ _ _ _ F0 (by rfl) (by rfl) ?_ (by rfl) (by rfl) (by decide)
    rename Fm _ _ _ _ _ _ _ => F
    refine @sa_dict _ _ _ _ _ _ _ _ _ _ _ _ _ _ _ _ _ _ _ F (F.kp _ _ hxB) (.tail _ (.head _)) (mk4 w) (mk5 w) (mk6 w).2.1 (leadK w).hh (by rfl) (Nat.le_of_ble_eq_true rfl) fun k2 s₆ up => ?_
    replace F := up _ (.tail _ (.head _))
    clear up
    refine @s_attr _ _ _ _ _ _ _ _ _ _ _ _ _ ?_ (by rfl)
    with_reducible rename Fm _ _ _ _ _ _ _ => F0
    refine @nm_local _ _ _ _ _ _ _ _ _ _ _ _ _ _ _ _ F0 (by rfl) (by rfl) ?_ (by rfl) (by rfl) (by decide)
    with_reducible rename Fm _ _ _ _ _ _ _ => F0
    refine @nm_local _ _ _ _ _ _ _ _ _ _ _ _ _ _ _ _ F0 (by rfl) (by rfl) ?_ (by rfl) (by rfl) (by decide)
    rename Fm _ _ _ _ _ _ _ => F
    refine @sa_dict _ _ _ _ _ _ _ _ _ _ _ _ _ _ _ _ _ _ _ F (F.kp _ _ hxB) (.tail _ (.head _)) (mk4 w) (mk5 w) (mk6 w).2.2.1 (leadK w).hh (by rfl) (Nat.le_of_ble_eq_true rfl) fun k3 s₆ up => ?_
    replace F := up _ (.tail _ (.head _))
    clear up
    refine @s_attr _ _ _ _ _ _ _ _ _ _ _ _ _ ?_ (by rfl)
    refine @e_tuple _ _ _ _ _ _ _ _ _ _ ?_
    refine @sp_cons _ _ _ _ _ _ _ _ _ _ ?_ (by rfl)
    refine @e_call _ _ _ _ _ _ _ _ _ _ _ ?_
    with_reducible rename Fm _ _ _ _ _ _ _ => F0
    refine @nm_bi _ _ _ _ _ _ _ _ _ _ _ _ _ _ _ _ F0 (by rfl) (by rfl) (by exact bb_tuple) ?_ (by rfl) (by rfl) (by rfl) (by decide) (by decide)
    refine @cw_ty1 _ _ _ _ _ _ _ _ _ _ ?_ (by rfl)
    with_reducible rename Fm _ _ _ _ _ _ _ => F0
    refine @nm_local _ _ _ _ _ _ _ _ _ _ _ _ _ _ _ _ F0 (by rfl) (by rfl) ?_ (by rfl) (by rfl) (by decide)
    rename Fm _ _ _ _ _ _ _ => F
    refine @b_tuple _ _ _ _ _ _ _ _ _ _ _ _ _ _ F ⟨_, F.get (.head _), rfl, k, rfl⟩ (by simp [sizeLine_eq]; lia) fun tc s₆ F => ?_
    refine @sp_cons _ _ _ _ _ _ _ _ _ _ ?_ (by rfl)
    with_reducible rename Fm _ _ _ _ _ _ _ => F0
    refine @nm_local _ _ _ _ _ _ _ _ _ _ _ _ _ _ _ _ F0 (by rfl) (by rfl) ?_ (by rfl) (by rfl) (by decide)
    refine @sp_nil _ _ _ _ _ _ _ _ ?_
    with_reducible rename Fm _ _ _ _ _ _ _ => F0
    refine @n_tuple _ _ _ _ _ _ _ _ _ _ _ _ _ F0 (by simp [sizeLine_eq]) ?_
    clear F0
    intro _ _ _
    with_reducible rename Fm _ _ _ _ _ _ _ => F0
    refine @nm_local _ _ _ _ _ _ _ _ _ _ _ _ _ _ _ _ F0 (by rfl) (by rfl) ?_ (by rfl) (by rfl) (by decide)
    rename Fm _ _ _ _ _ _ _ => F
    refine @sa_dict _ _ _ _ _ _ _ _ _ _ _ _ _ _ _ _ _ _ _ F (F.kp _ _ hxB) (.tail _ (.tail _ (.tail _ (.head _)))) (mk4 w) (mk5 w) (mk6 w).2.2.2.1 (leadK w).hh (by rfl) (Nat.le_of_ble_eq_true rfl) fun k4 s₆ up => ?_
    replace F := up _ (.tail _ (.tail _ (.tail _ (.head _))))
    clear up
    refine @s_attr _ _ _ _ _ _ _ _ _ _ _ _ _ ?_ (by rfl)
    refine wpAny_Compare1 ?_ (by rfl)
    refine @e_call _ _ _ _ _ _ _ _ _ _ _ ?_
    with_reducible rename Fm _ _ _ _ _ _ _ => F0
    refine @nm_bi _ _ _ _ _ _ _ _ _ _ _ _ _ _ _ _ F0 (by rfl) (by rfl) (by exact bb_len) ?_ (by rfl) (by rfl) (by rfl) (by decide) (by decide)
    refine @cw_bi1 _ _ _ _ _ _ _ _ _ _ ?_ (by rfl)
    with_reducible rename Fm _ _ _ _ _ _ _ => F0
    refine @nm_local _ _ _ _ _ _ _ _ _ _ _ _ _ _ _ _ F0 (by rfl) (by rfl) ?_ (by rfl) (by rfl) (by decide)
    rename Fm _ _ _ _ _ _ _ => F
    refine @b_len_list _ _ _ _ _ _ _ _ _ _ _ _ _ _ F ⟨_, F.get (.tail _ (.tail _ (.head _))), rfl, k, rfl⟩ (by simp; lia) fun _ _ F => ?_
    with_reducible rename Fm _ _ _ _ _ _ _ => F0
    refine @e_int _ _ _ _ _ _ _ _ _ _ _ _ _ _ _ _ F0 ?_
    clear F0
    intro _ _ _
    refine @c_le _ _ _ _ _ _ _ _ _ _ ?_
    with_reducible rename Fm _ _ _ _ _ _ _ => F0
    refine @nm_local _ _ _ _ _ _ _ _ _ _ _ _ _ _ _ _ F0 (by rfl) (by rfl) ?_ (by rfl) (by rfl) (by decide)
    rename Fm _ _ _ _ _ _ _ => F
    refine @sa_dict _ _ _ _ _ _ _ _ _ _ _ _ _ _ _ _ _ _ _ F (F.kp _ _ hxB) (.tail _ (.tail _ (.tail _ (.head _)))) (mk4 w) (mk5 w) (mk6 w).2.2.2.2 (leadK w).hh (by rfl) (Nat.le_of_ble_eq_true rfl) fun k5 s₆ up => ?_
    replace F := up _ (.tail _ (.tail _ (.tail _ (.head _))))
    clear up
    refine @s_nil _ _ _ _ _ _ ?_
    with_reducible refine @retTo_next _ _ ?_
    rename Fm _ _ _ _ _ _ _ => F
    have nn : ∀ {a : Addr} {o : Obj}, (a, o) ∈ _ → (newPart s.heap _).get? a = some o := fun hm => newPart_get (F.get hm) (Kp.none kB (F.obs _ hm).2.2)
    refine ⟨rfl, h _ _ ⟨⟨F.sm.gens, F.sm.drawn, F.sm.os⟩, kB.trans F.kp⟩ ⟨⟨dx, _, _, _, tc, _, _, _, _, newPart_get (F.kp _ _ hxB) (get_none_of_le (by lia)), nn (.tail _ (.tail _ (.tail _ (.head _)))), rfl, rfl, rfl, ?_, rfl, rfl, rfl, ⟨_, nn (.head _), rfl, 0, rfl⟩, ⟨_, nn (.tail _ (.head _)), rfl, 0, rfl⟩, ?_⟩, ?_⟩⟩
    · show some (some (Value.bool (decide (((vs.toArray.size : Nat) : Int) ≤ 1)))) = some (some (.bool (decide (fin.cnt.length ≤ 1))))
      have e : (((vs.toArray.size : Nat) : Int) ≤ 1) ↔ fin.cnt.length ≤ 1 := by simp; lia
      simp only [e]
    · show IntsAre vs.toArray.toList.toArray.toList fin.cnt; simpa using hI
    · exact ⟨by show fin.cnt.length < 900; lia, by show (0 : Int) ≤ fin.b; lia, by show (fin.b : Int) < 900; lia⟩
end Mine
end
section
open PySem PySem.W PyProof.Rows PySem.Calls
set_option maxRecDepth 100000
namespace Mine

def colOf (size : Int) : List Nat → Int → Int
  | [], c => c
  | ch :: r, c => if ch = 120 then c else if ch = 32 then colOf size r (c + 1) else colOf size r (c + size - c % size)
theorem strX : (Str.ofString "x") = ⟨#[120]⟩ := by decide +kernel
set_option maxHeartbeats 4000000 in
theorem column_spec {w : World} {A : Around} {s : Shared} {x : Str} {t u : Tok} {size : Int} {Q E} (R : Rm A 2) (G : Gd (KK w) s.heap) (hs : 0 < size)
    (h : ∀ t s', Gr s s' → Q (.int (colOf size x.cps.toList 0) t) s') : wpAny (model PP w) A (call (.ref 135) [.str x t, .int size u]) Q E s := by
  refine @call_fn _ _ _ _ _ _ [("text", .str x t), ("size", .int size u)] _ _ _ _ _ _ _ _ _ _ _ _ _ _ _ _ _ _ _ _ _ R G (by rfl) (by rfl) (BindsTo.of_eq (by rfl)) (by rfl) (by rfl) (fun L s₁ A' hL F R' => ?_) (by rfl) (by rfl) (by rfl)
  refine @s_assign _ _ _ _ _ _ _ _ _ _ _ ?_ (by rfl)
  with_reducible rename Fm _ _ _ _ _ _ _ => F0
  refine @e_int _ _ _ _ _ _ _ _ _ _ _ _ _ _ _ _ F0 ?_
  clear F0
  intro _ _ _
  with_reducible rename Fm _ _ _ _ _ _ _ => F0
  refine @st_local _ _ _ _ _ _ _ _ _ _ _ _ _ _ _ F0 (by rfl) ?_ (by rfl) (by rfl)
  clear F0
  intro _ _
  refine @s_for _ _ _ _ _ _ _ _ _ _ _ _ ?_ (by intro _; rfl)
  with_reducible rename Fm _ _ _ _ _ _ _ => F0
  refine @nm_local _ _ _ _ _ _ _ _ _ _ _ _ _ _ _ _ F0 (by rfl) (by rfl) ?_ (by rfl) (by rfl) (by decide)
  rename Fm _ _ _ _ _ _ _ => F
  replace F := F.sub (l' := [("size", .int size u), ("column", .int 0 _)]) ⟨rfl, rfl, trivial⟩
  generalize hfin : colOf size x.cps.toList 0 = fin at h
  refine @for_iterP _ _ _ _ _ _ _ _ _ _ _ _ _ _ _ _ _ _ _ F (it_str R'.h) (fun i l ob => ob = [] ∧ ∃ (c : Int) (tc : Tok), l = ([("size", .int size u), ("column", .int c tc)] : Ls) ∧ colOf size (x.cps.toList.drop i) c = fin) (fun l ob => ob = [] ∧ ∃ (tc : Tok), l = ([("size", .int size u), ("column", .int fin tc)] : Ls)) ⟨rfl, 0, _, rfl, by simpa using hfin⟩ ?_ ?_ ?_
  · rintro i s₅ l ob ex v hi ⟨rfl, c, tc, rfl, hsc⟩ ⟨ch, u, hch, rfl⟩ F
    rw [drop_cons (by rw [Array.getElem?_toList]; exact hch)] at hsc
    unfold colOf at hsc
    with_reducible rename Fm _ _ _ _ _ _ _ => F0
    refine @st_local _ _ _ _ _ _ _ _ _ _ _ _ _ _ _ F0 (by rfl) ?_ (by rfl) (by rfl)
    clear F0
    intro _ _
    refine @s_if _ _ _ _ _ _ _ _ _ _ _ ?_
    refine wpAny_isTrue_Compare1 ?_ (by rfl)
    with_reducible rename Fm _ _ _ _ _ _ _ => F0
    refine @nm_local _ _ _ _ _ _ _ _ _ _ _ _ _ _ _ _ F0 (by rfl) (by rfl) ?_ (by rfl) (by rfl) (by decide)
    with_reducible rename Fm _ _ _ _ _ _ _ => F0
    refine @e_str _ _ _ _ _ _ _ _ _ _ _ _ _ _ _ _ F0 ?_
    clear F0
    intro _ _ _
    refine @c_eqs _ _ _ _ _ _ _ _ _ _ ?_
    refine wpAny_truthy_bool ?_
    refine @ite_d _ _ _ _ (fun c1 => ?_) (fun c1 => ?_)
    · rw [strX, str1] at c1
      rw [if_pos c1] at hsc
      refine @s_brk _ _ _ _ _ _ _ _ ?_
      with_reducible refine @then_brk _ _ _ _ _ _ _ ?_
      with_reducible refine @lpp_brk _ _ _ _ ?_
      rename Fm _ _ _ _ _ _ _ => F
      subst hsc
      exact ⟨_, [], ⟨rfl, _, rfl⟩, F.sub ⟨rfl, rfl, trivial⟩⟩
    · rw [strX, str1] at c1
      rw [if_neg c1] at hsc
      refine @s_nil _ _ _ _ _ _ ?_
      with_reducible refine @then_next _ _ _ _ _ _ _ ?_
      refine @s_assign _ _ _ _ _ _ _ _ _ _ _ ?_ (by rfl)
      refine @e_ifexp _ _ _ _ _ _ _ _ _ _ _ ?_
      refine wpAny_isTrue_Compare1 ?_ (by rfl)
      with_reducible rename Fm _ _ _ _ _ _ _ => F0
      refine @nm_local _ _ _ _ _ _ _ _ _ _ _ _ _ _ _ _ F0 (by rfl) (by rfl) ?_ (by rfl) (by rfl) (by decide)
      with_reducible rename Fm _ _ _ _ _ _ _ => F0
      refine @e_str _ _ _ _ _ _ _ _ _ _ _ _ _ _ _ _ F0 ?_
      clear F0
      intro _ _ _
      refine @c_eqs _ _ _ _ _ _ _ _ _ _ ?_
      refine wpAny_truthy_bool ?_
      refine @ite_d _ _ _ _ (fun c2 => ?_) (fun c2 => ?_)
      · rw [strS, str1] at c2
        rw [if_pos c2] at hsc
        refine wpAny_BinOp ?_
        with_reducible rename Fm _ _ _ _ _ _ _ => F0
        refine @nm_local _ _ _ _ _ _ _ _ _ _ _ _ _ _ _ _ F0 (by rfl) (by rfl) ?_ (by rfl) (by rfl) (by decide)
        with_reducible rename Fm _ _ _ _ _ _ _ => F0
        refine @e_int _ _ _ _ _ _ _ _ _ _ _ _ _ _ _ _ F0 ?_
        clear F0
        intro _ _ _
        with_reducible rename Fm _ _ _ _ _ _ _ => F0
        refine @o_add _ _ _ _ _ _ _ _ _ _ _ _ _ _ _ _ F0 ?_
        clear F0
        intro _ _ _
        with_reducible rename Fm _ _ _ _ _ _ _ => F0
        refine @st_local _ _ _ _ _ _ _ _ _ _ _ _ _ _ _ F0 (by rfl) ?_ (by rfl) (by rfl)
        clear F0
        intro _ _
        refine @s_nil _ _ _ _ _ _ ?_
        with_reducible refine @lpp_next _ _ _ _ ?_
        rename Fm _ _ _ _ _ _ _ => F
        exact ⟨_, [], ⟨rfl, _, _, rfl, hsc⟩, F.sub ⟨rfl, rfl, trivial⟩⟩
      · rw [strS, str1] at c2
        rw [if_neg c2] at hsc
        refine wpAny_BinOp ?_
        refine wpAny_BinOp ?_
        with_reducible rename Fm _ _ _ _ _ _ _ => F0
        refine @nm_local _ _ _ _ _ _ _ _ _ _ _ _ _ _ _ _ F0 (by rfl) (by rfl) ?_ (by rfl) (by rfl) (by decide)
        with_reducible rename Fm _ _ _ _ _ _ _ => F0
        refine @nm_local _ _ _ _ _ _ _ _ _ _ _ _ _ _ _ _ F0 (by rfl) (by rfl) ?_ (by rfl) (by rfl) (by decide)
        with_reducible rename Fm _ _ _ _ _ _ _ => F0
        refine @o_add _ _ _ _ _ _ _ _ _ _ _ _ _ _ _ _ F0 ?_
        clear F0
        intro _ _ _
        refine wpAny_BinOp ?_
        with_reducible rename Fm _ _ _ _ _ _ _ => F0
        refine @nm_local _ _ _ _ _ _ _ _ _ _ _ _ _ _ _ _ F0 (by rfl) (by rfl) ?_ (by rfl) (by rfl) (by decide)
        with_reducible rename Fm _ _ _ _ _ _ _ => F0
        refine @nm_local _ _ _ _ _ _ _ _ _ _ _ _ _ _ _ _ F0 (by rfl) (by rfl) ?_ (by rfl) (by rfl) (by decide)
        rename Fm _ _ _ _ _ _ _ => F
        refine @o_mod _ _ _ _ _ _ _ _ _ _ _ _ _ _ _ _ F hs fun _ _ F => ?_
        with_reducible rename Fm _ _ _ _ _ _ _ => F0
        refine @o_sub _ _ _ _ _ _ _ _ _ _ _ _ _ _ _ _ F0 ?_
        clear F0
        intro _ _ _
        with_reducible rename Fm _ _ _ _ _ _ _ => F0
        refine @st_local _ _ _ _ _ _ _ _ _ _ _ _ _ _ _ F0 (by rfl) ?_ (by rfl) (by rfl)
        clear F0
        intro _ _
        refine @s_nil _ _ _ _ _ _ ?_
        with_reducible refine @lpp_next _ _ _ _ ?_
        rename Fm _ _ _ _ _ _ _ => F
        exact ⟨_, [], ⟨rfl, _, _, rfl, hsc⟩, F.sub ⟨rfl, rfl, trivial⟩⟩
  · rintro l ob ⟨rfl, c, tc, rfl, hsc⟩
    have : c = fin := by
      rw [← hsc, List.drop_eq_nil_of_le (by simp)]; rfl
    subst this
    exact ⟨rfl, _, rfl⟩
  · rintro s₅ l ob ⟨rfl, tc, rfl⟩ F
    with_reducible refine @then_next _ _ _ _ _ _ _ ?_
    refine @s_ret _ _ _ _ _ _ _ _ _ ?_
    with_reducible rename Fm _ _ _ _ _ _ _ => F0
    refine @nm_local _ _ _ _ _ _ _ _ _ _ _ _ _ _ _ _ F0 (by rfl) (by rfl) ?_ (by rfl) (by rfl) (by decide)
    with_reducible refine @retTo_ret _ _ _ ?_
    rename Fm _ _ _ _ _ _ _ => F
    exact h _ _ ⟨F.sm, F.kp⟩
end Mine
end
section
open PySem PySem.W PyProof.Rows PySem.Calls
set_option maxRecDepth 100000
namespace Mine
section
variable {prog : Program} {w : World} {A : Around} {E : Value → Shared → Prop} {K : Frag} {s₀ s : Shared} {B : Heap} {L : Addr} {l : Ls} {ob ob' : Ob} {env : Env}
/-- list.pop at a place -/
theorem m_pop {a : Addr} {vs : List Value} {n : Nat} {k : Int} {u : Tok} {y : Value} {Q : Value → Shared → Prop} (F : Fm K s₀ B L s l ob) (h0 : 0 ≤ k) (h1 : k < vs.length) (hz : vs.length ≤ sizeLine) (hy : vs[k.toNat]? = some y)
    (U : UpO a (lsO vs n) (lsO (vs.eraseIdx k.toNat) (n + 1)) ob ob')
    (h : ∀ s', Fm K s₀ B L s' l ob' → Q y s') : wpAny (model prog w) A (call (.builtin "list.pop") [.ref a, .int k u]) Q E s := by
  have z := F.get U.mem
  have hf : Builtin.List.listFitsIndex k = true := by
    unfold Builtin.List.listFitsIndex
    have := sizeLine_eq
    simp; lia
  have hk : seqIndex? k vs.toArray.size = some k.toNat := by
    unfold seqIndex?
    have h2 : ¬ k < 0 := by lia
    rw [List.size_toArray]
    simp [h2, h0, h1]
  refine call_meets PySem.F.slot_list_pop ⟨_, z, rfl⟩ PySem.F.entry_list_pop (PySem.F.args_list_pop_2 _ _) (PySem.MeetsSeq.list_pop_at a _ n k u _ y hf hk (by simpa using hy) (by rw [List.size_toArray]; exact hz)) ⟨z, h _ (F.up (s' := { s with heap := _ }) U (Heap.SameBut.update ..) ?_ ⟨rfl, rfl, rfl⟩)⟩
  refine (PySem.IsL.update z _).trans ?_
  have e : vs.toArray.eraseIdxIfInBounds k.toNat = (vs.eraseIdx k.toNat).toArray := by simp
  have hl : (vs.eraseIdx k.toNat).length ≠ vs.length := by rw [List.length_eraseIdx]; split <;> (first | lia | omega)
  rw [e, if_neg (by simp; exact hl)]
end
end Mine
end
section
open PySem PySem.W PyProof.Rows PySem.Calls
set_option maxRecDepth 100000
namespace Mine
section
variable {prog : Program} {w : World} {A : Around} {E : Value → Shared → Prop} {s₀ s : Shared} {env : Env} {K : Frag} {B : Heap} {L C D : Addr} {l : Ls} {ob : Ob}
/-- a comprehension's turn: what one item does -/
abbrev Bdy := Value → Env → Value → (Shared → Prop) → Shared → Prop
def GoOk (prog : Program) (w : World) (A : Around) (target : Expr) (I : Addr) (v : Value) (s : Shared) : Prop :=
  ∀ Q : Unit → Shared → Prop, Q () s → wpAny (model prog w) A (letOwnedTupleGo target (.ref I) v) Q (fun _ _ => False) s
def TurnOf (prog : Program) (w : World) (A : Around) (e : Expr) (d : Nat) (target : Expr) (body : Bdy) : Prop :=
  ∀ (it acc : Value) (env : Env) (R : Result → Shared → Prop) (I : Nat → Shared → Prop),
    (∀ n s, I n s → wpAny (model prog w) A (pyNext it) (fun r s₁ => match r with
      | none => R (.ok .next) s₁
      | some v => wpAny (model prog w) A (letOwnedTupleGo target it v) (fun _ s₂ => body acc env v (fun s₃ => ∃ m, m < n ∧ I m s₃) s₂) (fun _ _ => False) s₁) (fun _ _ => False) s) →
    ∀ n s, I n s → codeAny (model prog w) A (.compLoop e d it acc env) R s
abbrev bdy1 (prog : Program) (w : World) (A : Around) (elt target : Expr) (ifs : List Expr) : Bdy := fun acc env v N s =>
  wpAny (model prog w) A (assign target env v) (fun _ s₂ => wpAny (model prog w) A (testsOf ifs env) (fun ok s₃ => if ok = true
    then wpAny (model prog w) A (eval elt env) (fun y s₄ => wpAny (model prog w) A (call (.builtin "list.append") [acc, y]) (fun _ s₅ => N s₅) (fun _ _ => False) s₄) (fun _ _ => False) s₃
    else N s₃) (fun _ _ => False) s₂) (fun _ _ => False) s
theorem turn1 {elt target iter : Expr} {ifs : List Expr} {scope : Scope} {pos : Pos} : TurnOf prog w A (.ListComp elt [⟨target, iter, ifs, 0⟩] scope pos) 0 target (bdy1 prog w A elt target ifs) := by
  intro it acc env R I turn n s h
  refine codeAny_loop rfl I (fun n s hI => ?_) n h
  show wpAny _ A ((compTurn (.ListComp elt [⟨target, iter, ifs, 0⟩] scope pos) 0 it acc env).onRaise (fun x => do noteFrame x env; theTreesLotGoes x)) _ _ s
  refine wpAny_noted ?_
  rw [compTurn_list]
  refine wpAny_bind (wpAny_standAt (wpAny_bind (wpAny_mono (turn n s hI) (fun r s₁ h₁ => ?_) fun _ _ x => x.elim)))
  cases r with
  | none => exact wpAny_pure h₁
  | some v =>
    refine wpAny_bind (wpAny_mono h₁ (fun _ s₂ h₂ => ?_) fun _ _ x => x.elim)
    refine wpAny_bind (wpAny_mono h₂ (fun _ s₃ h₃ => wpAny_bind (wpAny_mono h₃ (fun ok s₄ h₄ => ?_) fun _ _ x => x.elim)) fun _ _ x => x.elim)
    cases ok with
    | false => exact wpAny_pure ⟨rfl, h₄⟩
    | true =>
      exact wpAny_bind (wpAny_bind (wpAny_mono h₄ (fun x s₄ h₄ => wpAny_bind (wpAny_mono h₄ (fun _ s₅ h₅ => wpAny_pure (wpAny_pure ⟨rfl, h₅⟩)) fun _ _ x => x.elim)) fun _ _ x => x.elim))
theorem compTurn_2i (elt t1 i1 t2 i2 : Expr) (scope : Scope) (pos : Pos) (it acc : Value) (env : Env) :
    compTurn (.ListComp elt [⟨t1, i1, [], 0⟩, ⟨t2, i2, [], 0⟩] scope pos) 1 it acc env = (do
      standAt i2.pos
      match ← pyNext it with
      | none => pure (.done .next)
      | some v =>
        letOwnedTupleGo t2 it v
        assign t2 env v
        let mut ok := true
        for c in ([] : List Expr) do
          if ok then ok ← isTrue c env (eval c env)
        if ok then
          (do let _ ← call (.builtin "list.append") [acc, ← eval elt env])
        again (.compLoop (.ListComp elt [⟨t1, i1, [], 0⟩, ⟨t2, i2, [], 0⟩] scope pos) 1 it acc env)) := by rfl
theorem turn2i {elt t1 i1 t2 i2 : Expr} {scope : Scope} {pos : Pos} : TurnOf prog w A (.ListComp elt [⟨t1, i1, [], 0⟩, ⟨t2, i2, [], 0⟩] scope pos) 1 t2 (bdy1 prog w A elt t2 []) := by
  intro it acc env R I turn n s h
  refine codeAny_loop rfl I (fun n s hI => ?_) n h
  show wpAny _ A ((compTurn (.ListComp elt [⟨t1, i1, [], 0⟩, ⟨t2, i2, [], 0⟩] scope pos) 1 it acc env).onRaise (fun x => do noteFrame x env; theTreesLotGoes x)) _ _ s
  refine wpAny_noted ?_
  rw [compTurn_2i]
  refine wpAny_bind (wpAny_standAt (wpAny_bind (wpAny_mono (turn n s hI) (fun r s₁ h₁ => ?_) fun _ _ x => x.elim)))
  cases r with
  | none => exact wpAny_pure h₁
  | some v =>
    refine wpAny_bind (wpAny_mono h₁ (fun _ s₂ h₂ => ?_) fun _ _ x => x.elim)
    refine wpAny_bind (wpAny_mono h₂ (fun _ s₃ h₃ => wpAny_bind (wpAny_mono h₃ (fun ok s₄ h₄ => ?_) fun _ _ x => x.elim)) fun _ _ x => x.elim)
    cases ok with
    | false => exact wpAny_pure ⟨rfl, h₄⟩
    | true =>
      exact wpAny_bind (wpAny_bind (wpAny_mono h₄ (fun x s₄ h₄ => wpAny_bind (wpAny_mono h₄ (fun _ s₅ h₅ => wpAny_pure (wpAny_pure ⟨rfl, h₅⟩)) fun _ _ x => x.elim)) fun _ _ x => x.elim))
abbrev bdy2 (prog : Program) (w : World) (A : Around) (e t1 i2 : Expr) : Bdy := fun acc env v N s =>
  wpAny (model prog w) A (assign t1 env v) (fun _ s₂ => wpAny (model prog w) A (eval i2 env) (fun x s₃ => wpAny (model prog w) A (pyIter x) (fun it s₄ =>
    codeAny (model prog w) A (.compStart e 1 it acc env) (fun r s' => r = .ok .next ∧ N s') s₄) (fun _ _ => False) s₃) (fun _ _ => False) s₂) (fun _ _ => False) s
theorem compTurn_2o (elt t1 i1 t2 i2 : Expr) (scope : Scope) (pos : Pos) (it acc : Value) (env : Env) :
    compTurn (.ListComp elt [⟨t1, i1, [], 0⟩, ⟨t2, i2, [], 0⟩] scope pos) 0 it acc env = (do
      standAt i1.pos
      match ← pyNext it with
      | none => pure (.done .next)
      | some v =>
        letOwnedTupleGo t1 it v
        assign t1 env v
        let mut ok := true
        for c in ([] : List Expr) do
          if ok then ok ← isTrue c env (eval c env)
        if ok then
          let x ← eval i2 env
          standAt i2.pos
          let x ← foldedSetIterable i2 env x
          let _ ← runOwn (.compStart (.ListComp elt [⟨t1, i1, [], 0⟩, ⟨t2, i2, [], 0⟩] scope pos) 1 (← holding [x] (pyIter x)) acc env) env
        again (.compLoop (.ListComp elt [⟨t1, i1, [], 0⟩, ⟨t2, i2, [], 0⟩] scope pos) 0 it acc env)) := by rfl
theorem turn2o {elt t1 i1 t2 i2 : Expr} {scope : Scope} {pos : Pos} (hs : ∀ x env, foldedSetIterable i2 env x = pure x) :
    TurnOf prog w A (.ListComp elt [⟨t1, i1, [], 0⟩, ⟨t2, i2, [], 0⟩] scope pos) 0 t1 (bdy2 prog w A (.ListComp elt [⟨t1, i1, [], 0⟩, ⟨t2, i2, [], 0⟩] scope pos) t1 i2) := by
  intro it acc env R I turn n s h
  refine codeAny_loop rfl I (fun n s hI => ?_) n h
  show wpAny _ A ((compTurn (.ListComp elt [⟨t1, i1, [], 0⟩, ⟨t2, i2, [], 0⟩] scope pos) 0 it acc env).onRaise (fun x => do noteFrame x env; theTreesLotGoes x)) _ _ s
  refine wpAny_noted ?_
  rw [compTurn_2o]
  refine wpAny_bind (wpAny_standAt (wpAny_bind (wpAny_mono (turn n s hI) (fun r s₁ h₁ => ?_) fun _ _ x => x.elim)))
  cases r with
  | none => exact wpAny_pure h₁
  | some v =>
    refine wpAny_bind (wpAny_mono h₁ (fun _ s₂ h₂ => ?_) fun _ _ x => x.elim)
    refine wpAny_bind (wpAny_mono h₂ (fun _ s₃ h₃ => wpAny_bind (wpAny_mono (wpAny_tests_nil (Q := fun ok s₃' => ok = true ∧ s₃' = s₃) ⟨rfl, rfl⟩) (fun ok s₄ h₄ => ?_) fun _ _ x => x)) fun _ _ x => x.elim)
    obtain ⟨rfl, rfl⟩ := h₄
    refine wpAny_bind (wpAny_mono h₃ (fun x s₅ h₅ => ?_) fun _ _ x => x.elim)
    refine wpAny_bind (wpAny_standAt (wpAny_bind (wpAny_of_eq (hs x env) (wpAny_bind (wpAny_holding (wpAny_mono h₅ (fun it2 s₆ h₆ => ?_) fun _ _ x => x.elim))))))
    refine wpAny_bind (wpAny_runOwn (codeAny_mono h₆ fun r s' hr => ?_))
    obtain ⟨rfl, hr⟩ := hr
    exact wpAny_pure ⟨rfl, hr⟩
end
end Mine
end
section
open PySem PySem.W PyProof.Rows PySem.Calls
set_option maxRecDepth 100000
namespace Mine
section
variable {prog : Program} {w : World} {A : Around} {E : Value → Shared → Prop} {s₀ s : Shared} {env : Env} {K : Frag} {B : Heap} {L C D : Addr} {l : Ls} {ob : Ob}
/-- the loop of a comprehension, its turn given -/
theorem comp_loopG {e : Expr} {d : Nat} {target : Expr} {body : Bdy} {I : Addr} {fp : List Addr} {n : Nat} {P : Nat → Value → Prop} {St : Nat → Heap → Prop} {ys₀ : List Value} {k₀ : Nat} (T : TurnOf prog w A e d target body)
    (W : Walks prog w A I fp [I] n P St) (hfp : ∀ b ∈ fp, b = I ∨ ∃ o, B.get? b = some o) (hal : ∀ i h, St i h → ∃ o, h.get? I = some o) (hgo : ∀ i v s, St i s.heap → GoOk prog w A target I v s)
    (F : Fm K s₀ B C s l ((D, lsO ys₀ k₀) :: ob)) (st : St 0 s.heap) (hB : B.get? I = none) (hC : I ≠ C) (hob : I ∉ List.map Prod.fst ((D, lsO ys₀ k₀) :: ob))
    (inv : Nat → Heap → List Value → Ls → Ob → Prop) (h0 : inv 0 B ys₀ l ob)
    (step : ∀ i B₁ s l ob ys k ex v, i < n → Kp B B₁ → inv i B₁ ys l ob → P i v → Fm K s₀ B₁ C s l ((D, lsO ys k) :: ob ++ ex) →
      body (.ref D) env v (fun s₄ => ∃ B₂ l' ob' zs k', Kp B₁ B₂ ∧ inv (i + 1) B₂ zs l' ob' ∧ Fm K s₀ B₂ C s₄ l' ((D, lsO zs k') :: ob' ++ ex)) s)
    (mono : ∀ acc env v (N N' : Shared → Prop) s, (∀ s, N s → N' s) → body acc env v N s → body acc env v N' s)
    {Q : Shared → Prop} (fin : ∀ B₁ s l ob ys k, Kp B B₁ → inv n B₁ ys l ob → Fm K s₀ B₁ C s l ((D, lsO ys k) :: ob) → Q s) :
    codeAny (model prog w) A (.compLoop e d (.ref I) (.ref D) env) (fun r s' => r = .ok .next ∧ Q s') s := by
  refine T (.ref I) (.ref D) env _ (fun m s => ∃ i B₁ l ob ys k, m = n - i ∧ i ≤ n ∧ Kp B B₁ ∧ B₁.get? I = none ∧ inv i B₁ ys l ob ∧ Fm K s₀ B₁ C s l ((D, lsO ys k) :: ob) ∧ St i s.heap ∧ I ∉ List.map Prod.fst ((D, lsO ys k) :: ob)) (fun m s hm => ?_) n s
    ⟨0, B, l, ob, ys₀, k₀, by simp, Nat.zero_le _, Kp.rfl, hB, h0, F, st, hob⟩
  obtain ⟨i, B₁, l, ob, ys, k, rfl, hi, kB, hB, hinv, F, st, hob⟩ := hm
  rcases Nat.lt_or_ge i n with hlt | hge
  · refine W.item i s _ _ hlt st fun v h' tk hP st' hk => ?_
    have F' : Fm K s₀ B₁ C { s with heap := h', toks := tk } l ((D, lsO ys k) :: ob) := F.turn hB hC hob hk Sm.mk'
    have F'' := F'.addEx hB hC hob
    obtain ⟨oI, hoI⟩ := hal _ _ st'
    refine hgo (i + 1) v { s with heap := h', toks := tk } st' _ ?_
    refine mono _ _ _ _ _ _ (fun s₄ h₄ => ?_) (step i B₁ _ l ob ys k _ v hlt kB hinv hP F'')
    obtain ⟨B₂, l', ob', zs, k', k2, hin, F3⟩ := h₄
    have hmem : (I, oI) ∈ (D, lsO zs k') :: ob' ++ exOf h' I := List.mem_append_right _ (by unfold exOf; rw [hoI]; exact .head _)
    have fr : St (i + 1) s₄.heap := W.frame (i + 1) h' s₄.heap st' fun b hb o e => by
      rcases hfp b hb with rfl | ⟨o', ho'⟩
      · exact F3.get (List.mem_append_right _ (by unfold exOf; rw [e]; exact .head _))
      · have := F''.kp b o' (kB _ _ ho')
        rw [show ({ s with heap := h', toks := tk } : Shared).heap = h' from rfl, e] at this
        cases this
        exact F3.kp b o (k2 _ _ (kB _ _ ho'))
    exact ⟨n - (i + 1), by omega, i + 1, B₂, l', ob', zs, k', rfl, hlt, kB.trans k2, (F3.obs _ hmem).2.2, hin, F3.subEx, fr, F3.notEx ⟨oI, hoI⟩⟩
  · have e : i = n := Nat.le_antisymm hi hge
    subst e
    refine W.done s _ _ st fun h' tk hk => ?_
    exact ⟨rfl, fin B₁ _ l ob ys k kB hinv (F.turn hB hC hob hk Sm.mk')⟩
theorem bdy1_mono {elt target : Expr} {ifs : List Expr} : ∀ acc env v (N N' : Shared → Prop) s, (∀ s, N s → N' s) → bdy1 prog w A elt target ifs acc env v N s → bdy1 prog w A elt target ifs acc env v N' s := by
  intro acc env v N N' s hN h
  refine wpAny_mono h (fun _ s₂ h₂ => wpAny_mono h₂ (fun ok s₃ h₃ => ?_) fun _ _ x => x) fun _ _ x => x
  cases ok with
  | false => exact hN _ h₃
  | true => exact wpAny_mono h₃ (fun y s₄ h₄ => wpAny_mono h₄ (fun _ s₅ h₅ => hN _ h₅) fun _ _ x => x) fun _ _ x => x
theorem bdy2_mono {e t1 i2 : Expr} : ∀ acc env v (N N' : Shared → Prop) s, (∀ s, N s → N' s) → bdy2 prog w A e t1 i2 acc env v N s → bdy2 prog w A e t1 i2 acc env v N' s := by
  intro acc env v N N' s hN h
  exact wpAny_mono h (fun _ s₂ h₂ => wpAny_mono h₂ (fun x s₃ h₃ => wpAny_mono h₃ (fun it s₄ h₄ => codeAny_mono h₄ fun r s' hr => ⟨hr.1, hN _ hr.2⟩) fun _ _ x => x) fun _ _ x => x) fun _ _ x => x
/-- x may be walked, and its iterator keeps no tuple of the target's -/
def ItersG (prog : Program) (w : World) (A : Around) (B : Heap) (target : Expr) (s : Shared) (x : Value) (n : Nat) (P : Nat → Value → Prop) : Prop :=
  ∀ (Q : Value → Shared → Prop) (E : Value → Shared → Prop), (∀ I fp St s', Walks prog w A I fp [I] n P St → St 0 s'.heap → (∀ b ∈ fp, b = I ∨ ∃ o, B.get? b = some o) → (∀ i h, St i h → ∃ o, h.get? I = some o) → (∀ i v s, St i s.heap → GoOk prog w A target I v s) → s.heap.get? I = none → Gr s s' → Q (.ref I) s') →
    wpAny (model prog w) A (pyIter x) Q E s
theorem Iters.toG {B : Heap} {x : Value} {n : Nat} {P : Nat → Value → Prop} {y : Str} {p : Pos} (it : Iters prog w A B s x n P) : ItersG prog w A B (.Name y p) s x n P :=
  fun Q E hQ => it Q E fun I fp St s' W st hfp hal hI g => hQ I fp St s' W st hfp hal (fun _ _ _ _ _ h => wpAny_pure h) hI g
theorem goOk_tuple {elts : List Expr} {c : Nat} {tp : Pos} {I a : Addr} {i : Nat} {v : Value} (h : s.heap.IsListIter I a i) : GoOk prog w A (.Tuple elts c tp) I v s := by
  intro Q hQ
  cases v with
  | ref T => exact wpAny_letOwnedTupleGo_listiter h hQ
  | _ => exact wpAny_pure hQ
theorem it_listG {B : Heap} {a : Addr} {items : Array Value} {elts : List Expr} {c : Nat} {tp : Pos} (hh : A.handled = none) (k : Kp B s.heap) (h : B.IsList a items) : ItersG prog w A B (.Tuple elts c tp) s (.ref a) items.size (fun i v => items[i]? = some v) := by
  intro Q E hQ
  have hl : s.heap.IsList a items := let ⟨o, ho, r⟩ := h; ⟨o, k _ _ ho, r⟩
  have ha : a < s.heap.objs.size := let ⟨o, ho, _⟩ := hl; Heap.lt_size ho
  refine wpAny_pyIter_list hl (hQ s.heap.objs.size [s.heap.objs.size, a] (fun i h => h.IsListIter s.heap.objs.size a i ∧ h.IsList a items) _ (Walks.list hh _ a (Nat.ne_of_lt ha) items) ⟨⟨_, Heap.get?_push_size _ rfl, rfl, rfl⟩, hl.push _⟩ (fun b hb => ?_) (fun i h st => let ⟨o, ho, _⟩ := st.1; ⟨o, ho⟩)
    (fun i v s st => goOk_tuple st.1) (get_none_of_le (Nat.le_refl _)) ⟨⟨rfl, rfl, rfl⟩, Kp.push _⟩)
  rcases List.mem_cons.mp hb with e | hb
  · exact .inl e
  · exact .inr (by rw [List.mem_singleton.mp hb]; let ⟨o, ho, _⟩ := h; exact ⟨o, ho⟩)
theorem ItersG.mono {x : Value} {n : Nat} {P P' : Nat → Value → Prop} {B B' : Heap} {target : Expr} (it : ItersG prog w A B target s x n P) (h : ∀ i v, i < n → P i v → P' i v) (k : Kp B B') : ItersG prog w A B' target s x n P' := by
  intro Q E hQ
  refine it Q E fun I fp St s' W st hfp hal hgo hI g => hQ I fp St s' ?_ st (fun b hb => ?_) hal hgo hI g
  · exact ⟨W.sub, W.frame, fun i s Q E hi hs hq => W.item i s Q E hi hs fun v h' tk hp => hq v h' tk (h i v hi hp), W.done, W.self⟩
  · rcases hfp b hb with e | ⟨o, e⟩
    · exact .inl e
    · exact .inr ⟨o, k _ _ e⟩
theorem it_allG {α : Type} {B : Heap} {a : Addr} {vs : Array Value} {xs : List α} {P : α → Value → Prop} {elts : List Expr} {c : Nat} {tp : Pos} (hh : A.handled = none) (k : Kp B s.heap) (h : B.IsList a vs) (h2 : All2 P xs vs.toList) :
    ItersG prog w A B (.Tuple elts c tp) s (.ref a) xs.length (fun i v => ∃ a, xs[i]? = some a ∧ P a v) := by
  have := it_listG (prog := prog) (w := w) (A := A) (elts := elts) (c := c) (tp := tp) hh k h
  rw [show vs.size = xs.length from by rw [h2.length]; simp] at this
  exact this.mono (fun i v _ e => h2.get' (by rw [Array.getElem?_toList]; exact e)) Kp.rfl
end
end Mine
end
section
open PySem PySem.W PyProof.Rows PySem.Calls
set_option maxRecDepth 100000
namespace Mine
section
variable {prog : Program} {w : World} {A : Around} {E : Value → Shared → Prop} {s₀ s : Shared} {env : Env} {K : Frag} {B : Heap} {L : Addr} {l : Ls} {ob : Ob} {Q : Value → Shared → Prop}
def CompGoG (prog : Program) (w : World) (A : Around) (e : Expr) (scope : Scope) (cl : List (Str × Addr)) (env : Env) (Q : Value → Shared → Prop) (E : Value → Shared → Prop) (xv : Value) (s₁ : Shared) : Prop :=
  wpAny (model prog w) A (pyIter xv) (fun it s₂ => wpAny (model prog w) A (newList []) (fun acc s₃ => wpAny (model prog w) A (newFunctionEnv scope env.globals cl [] env.qual none .none (some env)) (fun cenv s₄ =>
    codeAny (model prog w) A (.compStart e 0 it acc { cenv with scope := relabel scope env }) (compPost (model prog w) A E none Q acc cenv.locals) s₄) E s₃) E s₂) E s₁
theorem compGo_of {elt target iter : Expr} {ifs : List Expr} {scope : Scope} {pos : Pos} {cl : List (Str × Addr)} {xv : Value} (h : CompGoG prog w A (.ListComp elt [⟨target, iter, ifs, 0⟩] scope pos) scope cl env Q E xv s) : CompGo prog w A elt target iter ifs scope pos cl env Q E xv s := h
theorem comp_goG {elt target iter : Expr} {ifs : List Expr} {rest : List Comprehension} {body : Bdy} {scope : Scope} {pos : Pos} {cl : List (Str × Addr)} {xv : Value} {n : Nat} {P : Nat → Value → Prop} (T : TurnOf prog w A (.ListComp elt (⟨target, iter, ifs, 0⟩ :: rest) scope pos) 0 target body)
    (mono : ∀ acc env v (N N' : Shared → Prop) s, (∀ s, N s → N' s) → body acc env v N s → body acc env v N' s) (F : Fm K s₀ B L s l ob) (it : ItersG prog w A B target s xv n P)
    (inv : Addr → Nat → Heap → List Value → Ls → Ob → Prop) (h0 : ∀ C oL, s.heap.get? L = some oL → inv C 0 B [] [] (cellOb (C + 1) scope.names [] ++ (L, oL) :: ob))
    (step : ∀ C D i B₁ s' l ob ys k ex v, i < n → Kp B B₁ → inv C i B₁ ys l ob → P i v → Fm K s B₁ C s' l ((D, lsO ys k) :: ob ++ ex) →
      body (.ref D) (cenvOf scope (cellsFrom (C + 1) scope.names cl) C env) v (fun s₄ => ∃ B₂ l' ob' zs k', Kp B₁ B₂ ∧ inv C (i + 1) B₂ zs l' ob' ∧ Fm K s B₂ C s₄ l' ((D, lsO zs k') :: ob' ++ ex)) s')
    (fin : ∀ C D s' B₁ ys k l₁ ob₁, Kp B B₁ → inv C n B₁ ys l₁ ob₁ → (∀ oL, s.heap.get? L = some oL → (∀ p ∈ (L, oL) :: ob, p ∈ ob₁) → ∃ B₂, Kp B₁ B₂ ∧ Fm K s₀ B₂ L s' l ob ∧ B₂.get? D = some (lsO ys k)) → Q (.ref D) s') :
    CompGoG prog w A (.ListComp elt (⟨target, iter, ifs, 0⟩ :: rest) scope pos) scope cl env Q E xv s := by
  obtain ⟨oL, hoL⟩ := F.ns.get
  refine it _ _ fun I fp St s₂ W st hfp hal hgo hI g => ?_
  refine wpAny_newObj_type ?_ (Nat.zero_le _)
  obtain ⟨D, hD⟩ : ∃ D, D = s₂.heap.objs.size := ⟨_, rfl⟩
  refine comp_env ?_
  have hsz : (s₂.heap.push { cls := .type "list", data := .seq #[] }).objs.size = D + 1 := by rw [Heap.size_push, hD]
  show codeAny _ _ (.compStart _ _ _ (.ref s₂.heap.objs.size) (cenvOf scope (cellsFrom ((s₂.heap.push { cls := .type "list", data := .seq #[] }).objs.size + 1) scope.names cl) (s₂.heap.push { cls := .type "list", data := .seq #[] }).objs.size env)) (compPost _ _ _ _ _ (.ref s₂.heap.objs.size) (s₂.heap.push { cls := .type "list", data := .seq #[] }).objs.size)
    { s₂ with heap := pushCells ((s₂.heap.push { cls := .type "list", data := .seq #[] }).push { cls := .type "dict", data := .dict #[] }) scope.names }
  rw [hsz, ← hD]
  have hsz2 : ((s₂.heap.push { cls := .type "list", data := .seq #[] }).push { cls := .type "dict", data := .dict #[] }).objs.size = D + 1 + 1 := by rw [Heap.size_push, hsz]
  have k1 : Kp s₂.heap ((s₂.heap.push { cls := .type "list", data := .seq #[] }).push { cls := .type "dict", data := .dict #[] }) := (Kp.push _).trans (Kp.push _)
  have kD : ((s₂.heap.push { cls := .type "list", data := .seq #[] }).push { cls := .type "dict", data := .dict #[] }).get? D = some (lsO [] 0) := Kp.push _ _ _ (by rw [hD]; exact Heap.get?_push_size _ rfl)
  have hns : ((s₂.heap.push { cls := .type "list", data := .seq #[] }).push { cls := .type "dict", data := .dict #[] }).Ns (D + 1) (fun _ => none) := by
    have := Heap.Ns.new (s₂.heap.push { cls := .type "list", data := .seq #[] }) (.type "dict")
    rwa [hsz] at this
  generalize hh3 : (s₂.heap.push { cls := .type "list", data := .seq #[] }).push { cls := .type "dict", data := .dict #[] } = h3 at *
  have nD : s.heap.get? D = none := Kp.none g.kp (get_none_of_le (by lia))
  have nC : s.heap.get? (D + 1) = none := Kp.none g.kp (get_none_of_le (by lia))
  have F1 : Fm K s B (D + 1) { s₂ with heap := h3 } [] ((L, oL) :: ob) := F.enter (s' := { s₂ with heap := h3 }) hoL (g.kp.trans k1) ⟨g.sm.gens, g.sm.drawn, g.sm.os⟩ ⟨_, hns, fun x v e => by cases e⟩ nC
  have F2 : Fm K s B (D + 1) { s₂ with heap := h3 } [] ((D, lsO [] 0) :: (L, oL) :: ob) := by
    refine ⟨F1.gd, F1.ns, F1.kp, F1.no, fun p hp => ?_, ?_, F1.sm⟩
    · rcases List.mem_cons.mp hp with rfl | hp
      · exact ⟨kD, Nat.ne_of_lt (Nat.lt_succ_self _), Kp.none F.kp nD⟩
      · exact F1.obs p hp
    · rw [List.map_cons, List.nodup_cons]
      refine ⟨fun q => ?_, F1.nd⟩
      obtain ⟨p, hp, e⟩ := List.mem_map.mp q
      have e : p.1 = D := e
      have : s.heap.get? p.1 = some p.2 := by
        rcases List.mem_cons.mp hp with rfl | hp
        · exact hoL
        · exact (F.obs p hp).1
      rw [e, nD] at this; cases this
  have F4 := F2.cells scope.names
  rw [show ({ s₂ with heap := h3 } : Shared).heap.objs.size = D + 1 + 1 from hsz2] at F4
  have F5 : Fm K s B (D + 1) { s₂ with heap := pushCells h3 scope.names } [] ((D, lsO [] 0) :: (cellOb (D + 1 + 1) scope.names [] ++ (L, oL) :: ob)) := by
    rw [show ((D, lsO [] 0) :: (L, oL) :: ob) = [] ++ ((D, lsO [] 0) :: (L, oL) :: ob) from rfl, cellOb_app] at F4
    exact F4.perm List.perm_middle
  obtain ⟨oI, hoI⟩ := hal _ _ st
  have lI := Heap.lt_size hoI
  have k3 : Kp s₂.heap (pushCells h3 scope.names) := k1.trans (pushCells_keeps _ _)
  have st4 : St 0 (pushCells h3 scope.names) := W.frame 0 s₂.heap _ st fun b _ o e => k3 b o e
  have hobI : I ∉ List.map Prod.fst ((D, lsO [] 0) :: (cellOb (D + 1 + 1) scope.names [] ++ (L, oL) :: ob)) := fun q => by
    obtain ⟨p, hp, e⟩ := List.mem_map.mp q
    have e : p.1 = I := e
    rcases List.mem_cons.mp hp with rfl | hp
    · exact absurd lI (by rw [← e, hD]; exact Nat.lt_irrefl _)
    · rcases List.mem_append.mp hp with hp | hp
      · have := cellOb_lt (I := I) scope.names (D + 1 + 1) [] (by intro p hp; cases hp) (Nat.lt_succ_of_lt (Nat.lt_succ_of_lt (by rw [hD]; exact lI))) p hp
        exact absurd this (by rw [e]; exact Nat.lt_irrefl _)
      · have : s.heap.get? p.1 = some p.2 := by
          rcases List.mem_cons.mp hp with rfl | hp
          · exact hoL
          · exact (F.obs p hp).1
        rw [e, hI] at this; cases this
  have loop : codeAny (model prog w) A (.compLoop (.ListComp elt (⟨target, iter, ifs, 0⟩ :: rest) scope pos) 0 (.ref I) (.ref D) (cenvOf scope (cellsFrom (D + 1 + 1) scope.names cl) (D + 1) env)) (compPost (model prog w) A E none Q (.ref D) (D + 1)) { s₂ with heap := pushCells h3 scope.names } := by
    refine codeAny_mono (comp_loopG T W hfp hal hgo F5 st4 (Kp.none F.kp hI) (Nat.ne_of_lt (Nat.lt_succ_of_lt (by rw [hD]; exact lI))) hobI (inv (D + 1)) (h0 (D + 1) oL hoL) (fun i B₁ s' l ob ys k ex v => step (D + 1) D i B₁ s' l ob ys k ex v) mono
      (Q := fun s' => ∃ m, s'.heap.Ns (D + 1) m ∧ ∀ h', Heap.SameBut (D + 1) s'.heap h' → Q (.ref D) { s' with heap := h' }) (fun B₁ s' l₁ ob₁ ys k kB hinv F' => ?_)) fun r s' hr => ?_
    · obtain ⟨m, n, _⟩ := F'.ns
      refine ⟨m, n, fun h' hs => fin (D + 1) D _ B₁ ys k l₁ ob₁ kB hinv fun oL' hoL' hm => ?_⟩
      have DL := F'.obs (L, oL') (.tail _ (hm _ (.head _)))
      have DD := F'.obs (D, lsO ys k) (.head _)
      have nd := F'.nd
      rw [List.map_cons, List.nodup_cons] at nd
      have F3 : Fm K s₀ B₁ L { s' with heap := h' } l ((D, lsO ys k) :: ob) := by
        refine ⟨F.gd.kp kB, F.ns.keeps fun o e => ?_, fun b o e => (hs.2 b (by rintro rfl; rw [F'.no] at e; cases e)).trans (F'.kp b o e), DL.2.2, fun p hp => ?_, ?_, F.sm.trans ⟨F'.sm.gens, F'.sm.drawn, F'.sm.os⟩⟩
        · rw [hoL'] at e; cases e; exact (hs.2 L DL.2.1).trans DL.1
        · rcases List.mem_cons.mp hp with rfl | hp
          · exact ⟨(hs.2 D DD.2.1).trans DD.1, fun q => nd.1 (by show D ∈ _; rw [show D = L from q]; exact (List.mem_map_of_mem (hm (L, oL') (.head _)) : L ∈ List.map Prod.fst ob₁)), DD.2.2⟩
          · have DP := F'.obs p (.tail _ (hm _ (.tail _ hp)))
            exact ⟨(hs.2 _ DP.2.1).trans DP.1, (F.obs p hp).2.1, DP.2.2⟩
        · rw [List.map_cons, List.nodup_cons]
          refine ⟨fun q => ?_, F.nd⟩
          obtain ⟨p, hp, e⟩ := List.mem_map.mp q
          exact nd.1 (by show D ∈ _; rw [show D = p.1 from e.symm]; exact (List.mem_map_of_mem (hm p (.tail _ hp)) : p.1 ∈ List.map Prod.fst ob₁))
      exact F3.freeze0
    · obtain ⟨rfl, hq⟩ := hr
      exact hq
  exact codeAny_compStart_list loop (W.self 0 _ _ _ st4 loop)
end
end Mine
end
section
open PySem PySem.W PyProof.Rows PySem.Calls
set_option maxRecDepth 100000
namespace Mine
section
variable {prog : Program} {w : World} {A : Around} {E : Value → Shared → Prop} {s₀ s : Shared} {env : Env} {K : Frag} {B : Heap} {L : Addr} {l : Ls} {ob : Ob} {Q : Value → Shared → Prop}
theorem a_tup2 {x y : Str} {p1 p2 p3 : Pos} {c : Nat} {t : Addr} {v1 v2 : Value} {Q : Unit → Shared → Prop} (R : A.handled = none) (F : Fm K s₀ B L s l ob) (ht : IsTup s.heap t #[v1, v2])
    (h : ∀ s', Fm K s₀ B L s' l ob → wpAny (model prog w) A (storeName env x v1) (fun _ s₂ => wpAny (model prog w) A (storeName env y v2) Q E s₂) E s') :
    wpAny (model prog w) A (assign (.Tuple [.Name x p1, .Name y p2] c p3) env (.ref t)) Q E s := by
  refine wpAny_assign_Tuple R ht rfl rfl fun h' hx => ?_
  refine wpAny_assignInOrder_more (wpAny_assign_Name (wpAny_mono (h _ (F.gr ⟨⟨rfl, rfl, rfl⟩, fun b o e => hx b o (Nat.ne_of_lt (Heap.lt_size e)) e⟩)) (fun _ s₂ h₂ => ?_) fun _ _ x => x))
  exact wpAny_assignInOrder_more (wpAny_assign_Name (wpAny_mono h₂ (fun _ s₃ h₃ => wpAny_assignInOrder_none h₃) fun _ _ x => x))
theorem a_pair {x y : Str} {p1 p2 p3 : Pos} {c : Nat} {v : Value} {a b : Int} {Q : Unit → Shared → Prop} (R : A.handled = none) (F : Fm K s₀ B L s l ob) (r : Rd B v (.tuple [.int a, .int b]))
    (h : ∀ s' t u, Fm K s₀ B L s' l ob → wpAny (model prog w) A (storeName env x (.int a t)) (fun _ s₂ => wpAny (model prog w) A (storeName env y (.int b u)) Q E s₂) E s') :
    wpAny (model prog w) A (assign (.Tuple [.Name x p1, .Name y p2] c p3) env v) Q E s := by
  obtain ⟨t, vs, rfl, h1, h2⟩ := r.isTup
  obtain ⟨vs⟩ := vs
  cases h2 with
  | cons ra h2 =>
    cases h2 with
    | cons rb h2 =>
      cases h2
      obtain ⟨ta, rfl⟩ := ra.int_inv
      obtain ⟨tb, rfl⟩ := rb.int_inv
      exact a_tup2 R F (h1.keeps F.kp) fun s' F => h s' ta tb F
/-- a comprehension over a list, whatever the target -/
theorem comp_listG {α β : Type} {elt target iter : Expr} {ifs : List Expr} {scope : Scope} {pos : Pos} {cl : List (Str × Addr)} {xv : Value} {xs : List α} {P : α → Value → Prop} (F : Fm K s₀ B L s l ob) (it : ItersG prog w A B target s xv xs.length (fun i v => ∃ a, xs[i]? = some a ∧ P a v)) (hn : xs.length ≤ sizeLine)
    (f : α → β) (t : α → Bool) (S : Heap → β → Value → Prop) (mono : ∀ h h' b v, Kp h h' → S h b v → S h' b v)
    (cobs : Addr → Ob → Prop) (hc0 : ∀ C, cobs C (cellOb (C + 1) scope.names []))
    (step : ∀ C B₁ s' ob₁ ex a v, a ∈ xs → Kp B B₁ → P a v → cobs C ob₁ → (∀ p ∈ ob, p ∈ ob₁ ++ ex) → Fm K s B₁ C s' [] (ob₁ ++ ex) →
      wpAny (model prog w) A (assign target (cenvOf scope (cellsFrom (C + 1) scope.names cl) C env) v) (fun _ s₂ => wpAny (model prog w) A (testsOf ifs (cenvOf scope (cellsFrom (C + 1) scope.names cl) C env)) (fun ok s₃ => ok = t a ∧ if ok = true
        then wpAny (model prog w) A (eval elt (cenvOf scope (cellsFrom (C + 1) scope.names cl) C env)) (fun y s₄ => ∃ B₂ ob' l', Kp B₁ B₂ ∧ cobs C ob' ∧ S B₂ (f a) y ∧ Fm K s B₂ C s₄ l' (ob' ++ ex)) (fun _ _ => False) s₃
        else ∃ ob' l', cobs C ob' ∧ Fm K s B₁ C s₃ l' (ob' ++ ex)) (fun _ _ => False) s₂) (fun _ _ => False) s')
    (fin : ∀ D s' B' ys k, Kp B B' → Fm K s₀ B' L s' l ob → B'.get? D = some (lsO ys k) → All2 (S B') ((xs.filter t).map f) ys → Q (.ref D) s') : CompGo prog w A elt target iter ifs scope pos cl env Q E xv s := by
  refine compGo_of (comp_goG turn1 bdy1_mono F it (fun C i B₁ ys l₁ ob₁ => l₁ = [] ∧ (∃ ob₂ oL, s.heap.get? L = some oL ∧ ob₁ = ob₂ ++ (L, oL) :: ob ∧ cobs C ob₂) ∧ All2 (S B₁) (((xs.take i).filter t).map f) ys) (fun C oL hL => ⟨rfl, ⟨_, oL, hL, rfl, hc0 C⟩, by simp; exact .nil⟩) ?_ ?_)
  · rintro C D i B₁ s' l ob₁ ys k ex v hi kB ⟨rfl, ⟨ob₂, oL, hL, rfl, hcb⟩, hall⟩ ⟨a, ha, hP⟩ F'
    have hm : a ∈ xs := List.mem_of_getElem? ha
    have hp : ∀ (ys : List Value) (k : Nat) (ob₂ : Ob), List.Perm ((D, lsO ys k) :: (ob₂ ++ (L, oL) :: ob) ++ ex) (ob₂ ++ ((D, lsO ys k) :: (((L, oL) :: ob) ++ ex))) := fun ys k ob₂ => by
      rw [List.cons_append, List.append_assoc]; exact List.perm_middle.symm
    have htk : xs.take (i + 1) = xs.take i ++ [a] := by rw [List.take_add_one, ha]; rfl
    have hyl : ys.length ≤ xs.length := by
      have h1 := hall.length
      rw [List.length_map] at h1
      have h2 := List.length_filter_le t (xs.take i)
      rw [List.length_take] at h2
      lia
    refine wpAny_mono (step C B₁ s' ob₂ _ a v hm kB hP hcb (fun p hp => List.mem_append_right _ (.tail _ (.tail _ (List.mem_append_left _ hp)))) (F'.perm (hp ys k ob₂))) (fun _ s₂ h₂ => wpAny_mono h₂ (fun ok s₃ h₃ => ?_) fun _ _ x => x) fun _ _ x => x
    obtain ⟨e, h₃⟩ := h₃
    cases ok with
    | false =>
      obtain ⟨ob', l', hc', F3⟩ := h₃
      refine ⟨B₁, [], _, ys, k, Kp.rfl, ⟨rfl, ⟨ob', oL, hL, rfl, hc'⟩, ?_⟩, (F3.sub (l' := []) trivial).perm (hp ys k ob').symm⟩
      rw [htk, List.filter_append]; simpa [← e] using hall
    | true =>
      refine wpAny_mono h₃ (fun y s₄ h₄ => ?_) fun _ _ x => x
      obtain ⟨B₂, ob', l', k2, hc', hS, F4⟩ := h₄
      refine m_append ((F4.sub (l' := []) trivial).perm (hp ys k ob').symm) (.head _) (by lia) fun s₅ F5 => ?_
      refine ⟨B₂, [], _, _, _, k2, ⟨rfl, ⟨ob', oL, hL, rfl, hc'⟩, ?_⟩, F5⟩
      rw [htk, List.filter_append, List.map_append]
      refine (hall.imp fun _ _ z => mono _ _ _ _ k2 z).append ?_
      simp [← e]
      exact .cons hS .nil
  · rintro C D s' B₁ ys k l₁ ob₁ kB ⟨rfl, ⟨ob₂, oL, hL, rfl, _⟩, hall⟩ back
    rw [List.take_length] at hall
    obtain ⟨B₂, k2, F2, hD⟩ := back oL hL fun p hp => List.mem_append_right _ hp
    exact fin D s' B₂ ys k (kB.trans k2) F2 hD (hall.imp fun _ _ z => mono _ _ _ _ k2 z)
theorem start2 {elt t1 i1 t2 i2 scope pos it acc env} {R : Result → Shared → Prop}
    (h0 : codeAny (model prog w) A (.compLoop (.ListComp elt [⟨t1, i1, [], 0⟩, ⟨t2, i2, [], 0⟩] scope pos) 1 it acc env) R s)
    (h : wpAny (model prog w) A (pyIter it) (fun it' s' => codeAny (model prog w) A (.compLoop (.ListComp elt [⟨t1, i1, [], 0⟩, ⟨t2, i2, [], 0⟩] scope pos) 1 it' acc env) R s')
      (notedBy (model prog w) A env fun x s' => R (.error x) s') s) :
    codeAny (model prog w) A (.compStart (.ListComp elt [⟨t1, i1, [], 0⟩, ⟨t2, i2, [], 0⟩] scope pos) 1 it acc env) R s := by
  refine codeAny_of_tree ?_
  show wpAny _ _ ((compStart (.ListComp elt [⟨t1, i1, [], 0⟩, ⟨t2, i2, [], 0⟩] scope pos) 1 it acc env).onRaise (fun x => do noteFrame x env; standAt theWindowsPlace)) _ _ s
  refine wpAny_notedAt ?_
  unfold compStart
  show wpAny _ _ (ask >>= _) _ _ s
  refine wpAny_bind (wpAny_askSetting (wpAny_ite ?_))
  split
  · first
      | exact wpAny_bind (wpAny_pure (wpAny_pure (And.intro rfl h0)))
      | exact wpAny_pure (And.intro rfl h0)
  · refine wpAny_bind (wpAny_rule ?_)
    show wpAny _ _ (standAt i2.pos >>= _) _ _ s
    exact wpAny_bind (wpAny_standAt (wpAny_bind (wpAny_mono h (fun it' s' h' => wpAny_pure (And.intro rfl h')) fun _ _ x => x)))
end
end Mine
end
section
open PySem PySem.W PyProof.Rows PySem.Calls
set_option maxRecDepth 100000
namespace Mine
/-- a sort's questions answered by lt -/
def KOk (lt : Nat → Nat → Bool) (n : Nat) {α : Type} : KasT α → (α → Prop) → Prop
  | .ret a, Q => Q a
  | .ask i j k, Q => i < n ∧ j < n ∧ KOk lt n (k (lt i j)) Q
theorem KOk.bind {lt : Nat → Nat → Bool} {n : Nat} {α β : Type} {f : α → KasT β} {Q : β → Prop} : ∀ (t : KasT α), KOk lt n t (fun a => KOk lt n (f a) Q) → KOk lt n (t.bind f) Q
  | .ret _, h => h
  | .ask i j k, h => ⟨h.1, h.2.1, KOk.bind (k (lt i j)) h.2.2⟩
theorem KOk.mono {lt : Nat → Nat → Bool} {n : Nat} {α : Type} {Q Q' : α → Prop} (hq : ∀ a, Q a → Q' a) : ∀ (t : KasT α), KOk lt n t Q → KOk lt n t Q'
  | .ret _, h => hq _ h
  | .ask i j k, h => ⟨h.1, h.2.1, KOk.mono hq (k (lt i j)) h.2.2⟩
theorem KOk.wp {lt : Nat → Nat → Bool} {n : Nat} {α : Type} {cmp : Nat → Nat → (Bool → Shared → Prop) → Shared → Prop} {I : Shared → Prop} (hc : ∀ i j C s, i < n → j < n → I s → (∀ s', I s' → C (lt i j) s') → cmp i j C s) {Q : α → Shared → Prop} :
    ∀ (t : KasT α) (s : Shared), I s → KOk lt n t (fun a => ∀ s', I s' → Q a s') → t.kasWp cmp Q s
  | .ret _, s, hi, h => h s hi
  | .ask i j k, s, hi, h => hc i j _ s h.1 h.2.1 hi fun s' hi' => KOk.wp hc (k (lt i j)) s' hi' h.2.2
structure LtO (lt : Nat → Nat → Bool) (n : Nat) : Prop where
  tr : ∀ i j k, i < n → j < n → k < n → lt i j = true → lt j k = true → lt i k = true
  tot : ∀ i j, i < n → j < n → i ≠ j → lt i j = true ∨ lt j i = true
  as : ∀ i j, i < n → j < n → lt i j = true → lt j i = false
abbrev gA (p : Array Nat) (i : Nat) : Nat := p.getD i 0
theorem gA_some {p : Array Nat} {i : Nat} (h : i < p.size) : p[i]? = some (gA p i) := by
  unfold gA; rw [Array.getD_eq_getD_getElem?, Array.getElem?_eq_getElem h]; rfl
theorem gA_of {p q : Array Nat} {i j : Nat} (h : p[i]? = q[j]?) : gA p i = gA q j := by
  unfold gA; rw [Array.getD_eq_getD_getElem?, Array.getD_eq_getD_getElem?, h]
structure Pm (n : Nat) (p : Array Nat) : Prop where
  perm : p.toList.Perm (List.range n)
section
variable {lt : Nat → Nat → Bool} {n : Nat} {p : Array Nat}
theorem Pm.size (h : Pm n p) : p.size = n := by have := h.perm.length_eq; simpa using this
theorem Pm.bd (h : Pm n p) {i : Nat} (hi : i < n) : gA p i < n := by
  have hs := h.size
  have : gA p i ∈ p.toList := by
    have e := gA_some (p := p) (i := i) (by lia)
    rw [← Array.getElem?_toList] at e
    exact List.mem_of_getElem? e
  exact List.mem_range.mp (h.perm.mem_iff.mp this)
theorem Pm.ne (h : Pm n p) {i j : Nat} (hi : i < n) (hj : j < n) (hij : i ≠ j) : gA p i ≠ gA p j := fun e => by
  have hs := h.size
  have nd : p.toList.Nodup := h.perm.nodup_iff.mpr List.nodup_range
  have e1 := gA_some (p := p) (i := i) (by lia)
  have e2 := gA_some (p := p) (i := j) (by lia)
  rw [← Array.getElem?_toList] at e1 e2
  rw [← e] at e2
  exact hij ((List.getElem?_inj (by simp; lia) nd).mp (e1.trans e2.symm))
def Sd (lt : Nat → Nat → Bool) (p : Array Nat) (k : Nat) : Prop := ∀ a b, a < b → b < k → lt (gA p a) (gA p b) = true
def Ds (lt : Nat → Nat → Bool) (p : Array Nat) (k : Nat) : Prop := ∀ a b, a < b → b < k → lt (gA p b) (gA p a) = true
theorem asc_ok (T : LtO lt n) (P : Pm n p) : ∀ (f k : Nat), 1 ≤ k → k + f ≤ n → Sd lt p k → KOk lt n (kas_asc p f k) (fun m => k ≤ m ∧ m ≤ k + f ∧ Sd lt p m ∧ (m = k + f ∨ (m < k + f ∧ lt (gA p m) (gA p (m - 1)) = true)))
  | 0, k, _, _, hs => ⟨Nat.le_refl _, Nat.le_refl _, hs, .inl rfl⟩
  | f + 1, k, h1, hk, hs => by
    refine ⟨P.bd (by lia), P.bd (by omega), ?_⟩
    cases hc : lt (p.getD k 0) (p.getD (k - 1) 0) with
    | true => exact ⟨Nat.le_refl _, by lia, hs, .inr ⟨by lia, hc⟩⟩
    | false =>
      have hup : lt (gA p (k - 1)) (gA p k) = true := by
        rcases T.tot (gA p (k - 1)) (gA p k) (P.bd (by omega)) (P.bd (by lia)) (P.ne (by omega) (by lia) (by omega)) with h | h
        · exact h
        · rw [show lt (gA p k) (gA p (k - 1)) = false from hc] at h; cases h
      have hs' : Sd lt p (k + 1) := fun a b hab hb => by
        by_cases hbk : b = k
        · subst hbk
          by_cases ha : a = b - 1
          · subst ha; exact hup
          · exact T.tr _ _ _ (P.bd (by lia)) (P.bd (by lia)) (P.bd (by lia)) (hs a (b - 1) (by lia) (by omega)) hup
        · exact hs a b hab (by lia)
      refine KOk.mono (fun m hm => ?_) _ (asc_ok T P f (k + 1) (by lia) (by lia) hs')
      obtain ⟨q1, q2, q3, q4⟩ := hm
      refine ⟨by lia, by lia, q3, ?_⟩
      rcases q4 with q4 | ⟨q4, q5⟩
      · exact .inl (by lia)
      · exact .inr ⟨by lia, q5⟩
theorem desc_ok (T : LtO lt n) (P : Pm n p) : ∀ (f k : Nat), 2 ≤ k → k + f ≤ n → Ds lt p k → KOk lt n (kas_desc f p k 0) (fun r => r.1 = p ∧ r.2.2 = 0 ∧ k ≤ r.2.1 ∧ r.2.1 ≤ k + f ∧ Ds lt p r.2.1)
  | 0, k, _, _, hs => ⟨rfl, rfl, Nat.le_refl _, Nat.le_refl _, hs⟩
  | f + 1, k, h1, hk, hs => by
    refine ⟨P.bd (by lia), P.bd (by lia), ?_⟩
    cases hc : lt (p.getD k 0) (p.getD (k - 1) 0) with
    | true =>
      have hs' : Ds lt p (k + 1) := fun a b hab hb => by
        by_cases hbk : b = k
        · subst hbk
          by_cases ha : a = b - 1
          · subst ha; exact hc
          · exact T.tr _ _ _ (P.bd (by lia)) (P.bd (by lia)) (P.bd (by lia)) hc (hs a (b - 1) (by lia) (by omega))
        · exact hs a b hab (by lia)
      refine KOk.mono (fun m hm => ?_) _ (desc_ok T P f (k + 1) (by lia) (by lia) hs')
      obtain ⟨q1, q2, q3, q4, q5⟩ := hm
      exact ⟨q1, q2, by lia, by lia, q5⟩
    | false =>
      have hup : lt (p.getD (k - 1) 0) (p.getD k 0) = true := by
        rcases T.tot (gA p (k - 1)) (gA p k) (P.bd (by lia)) (P.bd (by lia)) (P.ne (by lia) (by lia) (by lia)) with h | h
        · exact h
        · rw [show lt (gA p k) (gA p (k - 1)) = false from hc] at h; cases h
      refine ⟨P.bd (by lia), P.bd (by lia), ?_⟩
      rw [hup]
      exact ⟨rfl, rfl, Nat.le_refl _, Nat.le_add_right _ _, hs⟩
theorem perm_of {p q : Array Nat} (h : q.Perm p) (P : Pm n p) : Pm n q := ⟨(Array.perm_iff_toList_perm.mp h).trans P.perm⟩
theorem rev_ok (P : Pm n p) {k : Nat} (hk : k ≤ n) (hs : Ds lt p k) : Pm n (kas_rev p 0 k) ∧ Sd lt (kas_rev p 0 k) k := by
  have hz := P.size
  refine ⟨perm_of (mirror_perm _ _ _ _) P, fun a b hab hb => ?_⟩
  have e : ∀ i, i < k → gA (kas_rev p 0 k) i = gA p (k - 1 - i) := fun i hi => by
    refine gA_of ?_
    unfold kas_rev
    rw [getElem?_mirror_all (by lia) i, if_pos ⟨Nat.zero_le _, hi⟩, Nat.zero_add]
  rw [e a (by lia), e b hb]
  exact hs _ _ (by omega) (by omega)
theorem tail3_ok (T : LtO lt n) (P : Pm n p) {k : Nat} (h1 : 1 ≤ k) (hk : k ≤ n) (hs : Ds lt p k) : KOk lt n (kas_tail3 k n p) (fun r => r.1 ≤ n ∧ Pm n r.2 ∧ Sd lt r.2 r.1) := by
  obtain ⟨P', S'⟩ := rev_ok P hk hs
  refine KOk.bind _ (KOk.mono (fun m hm => ?_) _ (asc_ok T P' (n - k) k h1 (by lia) S'))
  exact ⟨by have := hm.2.1; omega, P', hm.2.2.1⟩
theorem count_ok (T : LtO lt n) (P : Pm n p) (h2 : 2 ≤ n) : KOk lt n (kas_count n p) (fun r => r.1 ≤ n ∧ Pm n r.2 ∧ Sd lt r.2 r.1) := by
  refine KOk.bind _ (KOk.mono (fun m hm => ?_) _ (asc_ok T P (n - 1) 1 (Nat.le_refl _) (by lia) (fun a b h1 h2 => by omega)))
  obtain ⟨q1, q2, q3, q4⟩ := hm
  by_cases e : m = n
  · subst e
    rw [if_pos (by simp)]
    exact ⟨Nat.le_refl _, P, q3⟩
  · rw [if_neg (by simpa using e)]
    by_cases e1 : m > 1
    · rw [if_pos e1]
      refine ⟨P.bd (by lia), P.bd (by omega), ?_⟩
      have := q3 0 (m - 1) (by omega) (by omega)
      rw [this]
      exact ⟨by omega, P, q3⟩
    · rw [if_neg e1]
      have em : m = 1 := by lia
      subst em
      have hd : Ds lt p 2 := fun a b h1 h2 => by
        have ea : a = 0 := by lia
        have eb : b = 1 := by lia
        subst ea; subst eb
        rcases q4 with q4 | ⟨_, q4⟩
        · omega
        · exact q4
      refine KOk.bind _ (KOk.mono (fun r hr => ?_) _ (desc_ok T P (n - (1 + 1)) (1 + 1) (by lia) (by omega) hd))
      obtain ⟨r1, r2, r3⟩ := r
      obtain ⟨rfl, rfl, g3, g4, g5⟩ := hr
      exact tail3_ok T P (by lia) (by lia) g5
theorem place_ok (P : Pm n p) {k : Nat} (hk : k < n) (T : LtO lt n) (hs : Sd lt p k) : ∀ (f l r : Nat), l ≤ r → r ≤ k → r - l ≤ f → (∀ a, a < l → lt (gA p a) (gA p k) = true) → (∀ a, r ≤ a → a < k → lt (gA p k) (gA p a) = true) →
    KOk lt n (kas_place p k f l r) (fun m => m ≤ k ∧ (∀ a, a < m → lt (gA p a) (gA p k) = true) ∧ ∀ a, m ≤ a → a < k → lt (gA p k) (gA p a) = true)
  | 0, l, r, h1, h2, h3, h4, h5 => by
    have : l = r := by lia
    subst this
    exact ⟨h2, h4, h5⟩
  | f + 1, l, r, h1, h2, h3, h4, h5 => by
    show KOk lt n (if l ≥ r then _ else _) _
    by_cases e : l ≥ r
    · rw [if_pos e]
      have : l = r := by lia
      subst this
      exact ⟨h2, h4, h5⟩
    · rw [if_neg e]
      refine ⟨P.bd (by omega), P.bd (by lia), ?_⟩
      cases hc : lt (p.getD k 0) (p.getD ((l + r) / 2) 0) with
      | true =>
        refine place_ok P hk T hs f l ((l + r) / 2) (by lia) (by lia) (by omega) h4 fun a ha hak => ?_
        by_cases e2 : a = (l + r) / 2
        · subst e2; exact hc
        · exact T.tr _ _ _ (P.bd (by omega)) (P.bd (by lia)) (P.bd (by lia)) hc (hs _ _ (by lia) hak)
      | false =>
        have hup : lt (gA p ((l + r) / 2)) (gA p k) = true := by
          rcases T.tot (gA p ((l + r) / 2)) (gA p k) (P.bd (by lia)) (P.bd (by omega)) (P.ne (by lia) (by omega) (by lia)) with h | h
          · exact h
          · rw [show lt (gA p k) (gA p ((l + r) / 2)) = false from hc] at h; cases h
        refine place_ok P hk T hs f ((l + r) / 2 + 1) r (by lia) h2 (by omega) (fun a ha => ?_) h5
        by_cases e2 : a = (l + r) / 2
        · subst e2; exact hup
        · exact T.tr _ _ _ (P.bd (by lia)) (P.bd (by lia)) (P.bd (by omega)) (hs _ _ (by lia) (by lia)) hup
theorem bin_ok (T : LtO lt n) : ∀ (f k : Nat) (p : Array Nat), Pm n p → k + f = n → Sd lt p k → KOk lt n (kas_bin f p k) (fun q => Pm n q ∧ Sd lt q n)
  | 0, k, p, P, hk, hs => by
    have : k = n := by omega
    subst this
    exact ⟨P, hs⟩
  | f + 1, k, p, P, hk, hs => by
    refine KOk.bind _ (KOk.mono (fun m hm => ?_) _ (place_ok P (by lia) T hs k 0 k (Nat.zero_le _) (Nat.le_refl _) (by lia) (fun a ha => by lia) fun a h1 h2 => by lia))
    obtain ⟨q1, q2, q3⟩ := hm
    have hz := P.size
    refine bin_ok T f (k + 1) _ (perm_of (bubble_perm _ _ _) P) (by lia) ?_
    have e : ∀ i, gA (bubble p k (k - m)) i = if i = m then gA p k else if m < i ∧ i ≤ k then gA p (i - 1) else gA p i := fun i => by
      have h := getElem?_bubble (xs := p) (src := k) (by lia) (k - m) (by lia) i
      rw [show k - (k - m) = m by lia] at h
      split at h
      · next c => rw [if_pos c]; exact gA_of h
      · next c =>
        rw [if_neg c]
        split at h
        · next c2 => rw [if_pos c2]; exact gA_of h
        · next c2 => rw [if_neg c2]; exact gA_of h
    intro a b hab hb
    rw [e a, e b]
    by_cases c1 : b = m
    · rw [if_pos c1, if_neg (by lia), if_neg (by lia)]
      exact q2 a (by lia)
    · rw [if_neg c1]
      by_cases c2 : m < b ∧ b ≤ k
      · rw [if_pos c2]
        by_cases c3 : a = m
        · rw [if_pos c3]; exact q3 _ (by lia) (by lia)
        · rw [if_neg c3]
          by_cases c4 : m < a ∧ a ≤ k
          · rw [if_pos c4]; exact hs _ _ (by lia) (by lia)
          · rw [if_neg c4]; exact hs _ _ (by lia) (by lia)
      · rw [if_neg c2, if_neg (by lia), if_neg (by lia)]
        exact hs _ _ hab (by lia)
theorem sort_ok (T : LtO lt n) (h2 : 2 ≤ n) : KOk lt n (kas_sort n) (fun q => Pm n q ∧ Sd lt q n) := by
  have P : Pm n (List.toArray (List.range n)) := ⟨by simp⟩
  refine KOk.bind _ (KOk.mono (fun r hr => ?_) _ (count_ok T P h2))
  obtain ⟨q1, q2, q3⟩ := hr
  by_cases c : r.1 < n
  · rw [if_pos c]
    refine bin_ok T _ _ _ q2 (by lia) fun a b hab hb => ?_
    exact q3 a b hab (by lia)
  · rw [if_neg c]
    have : r.1 = n := by lia
    exact ⟨q2, by rw [← this]; exact q3⟩
end
end Mine
end
section
open PySem PySem.W PyProof.Rows PySem.Calls
set_option maxRecDepth 100000
namespace Mine
section
variable {prog : Program} {w : World} {A : Around} {E : Value → Shared → Prop} {s₀ s s' : Shared} {env : Env} {K : Frag} {B B₁ : Heap} {L C : Addr} {l l' : Ls} {ob ob' : Ob} {oL : Obj} {Q : Value → Shared → Prop}
/-- leaving a frame within which one object of the outer's turned -/
theorem Fm.leaveT {a : Addr} {o o' : Obj} (F : Fm K s₀ B L s l ((a, o) :: ob)) (hL : s.heap.get? L = some oL) (F' : Fm K s B₁ C s' l' ob') (hm : ∀ p ∈ (L, oL) :: (a, o') :: ob, p ∈ ob') (kB : Kp B B₁) : Fm K s₀ B₁ L s' l ((a, o') :: ob) := by
  have D := F'.obs _ (hm _ (.head _))
  refine ⟨F.gd.kp kB, F.ns.keeps fun o e => by rw [hL] at e; cases e; exact D.1, F'.kp, D.2.2, fun p hp => ?_, F.nd, F.sm.trans F'.sm⟩
  have P := F'.obs p (hm p (.tail _ hp))
  refine ⟨P.1, ?_, P.2.2⟩
  rcases List.mem_cons.mp hp with rfl | hp
  · exact (F.obs (a, o) (.head _)).2.1
  · exact (F.obs p (.tail _ hp)).2.1
theorem b_abs {a : Int} {t : Tok} (F : Fm K s₀ B L s l ob) (h : ∀ u s', Fm K s₀ B L s' l ob → Q (.int (if a < 0 then -a else a) u) s') : wpAny (model prog w) A (call (.builtin "abs") [.int a t]) Q E s :=
  call_abs_int fun u tk => h _ _ (F.gr Gr.tk)
theorem b_range3 {a b c : Int} {t u v : Tok} {n : Nat} (hh : A.handled = none) (F : Fm K s₀ B L s l ob) (hc : c ≠ 0) (hp : Builtin.divisionGoesByPylong (b - a) c = false) (hsm : Builtin.Range.small a b c = true) (hn : Builtin.Range.rangeSize a b c = n)
    (h : ∀ r s', Fm K s₀ B L s' l ob → (∀ B', Iters prog w A B' s' (.ref r) n (fun i v => ∃ t, v = .int (a + i * c) t)) → Q (.ref r) s') : wpAny (model prog w) A (call (.type "range") [.int a t, .int b u, .int c v]) Q E s :=
  call_range_3 hc (h _ _ (F.gr ⟨⟨rfl, rfl, rfl⟩, Kp.push _⟩) fun B' => it_range (B := B') hh (IsRange.new _ _ _ _ _ _ _) hsm hn) (.inl hp)
theorem cw_ty3 {pos : Pos} {id : String} {e1 e2 e3 : Expr}
    (h : wpAny (model prog w) A (eval e1 env) (fun v s₁ => wpAny (model prog w) A (eval e2 env) (fun v2 s₂ => wpAny (model prog w) A (eval e3 env) (fun v3 s₃ => wpAny (model prog w) A (call (.type id) [v, v2, v3]) Q E s₃) E s₂) E s₁) E s)
    (he : starEach [e1, e2, e3] env = [(false, eval e1 env), (false, eval e2 env), (false, eval e3 env)]) : wpAny (model prog w) A (callWith pos (.type id) [] (backTo pos (starEach [e1, e2, e3] env)) []) Q E s := by
  rw [he]
  exact PyProof.Rows.callWith_type rfl (evalArgs_plain (spliced_cons (wpAny_mono h (fun _ _ h₁ => spliced_cons (wpAny_mono h₁ (fun _ _ h₂ => spliced_cons (wpAny_mono h₂ (fun _ _ h₃ => spliced_nil h₃) fun _ _ x => x)) fun _ _ x => x)) fun _ _ x => x)))
/-- the order of triples of ints -/
def lex3 (x y : Int × Int × Int) : Bool := if x.1 = y.1 then (if x.2.1 = y.2.1 then decide (x.2.2 < y.2.2) else decide (x.2.1 < y.2.1)) else decide (x.1 < y.1)
abbrev dT3 (x : Int × Int × Int) : PyData := .tuple [.int x.1, .int x.2.1, .int x.2.2]
theorem rd_t3 {h : Heap} {v : Value} {x : Int × Int × Int} (r : Rd h v (dT3 x)) : ∃ a o t1 t2 t3 n, v = .ref a ∧ h.get? a = some o ∧ o.cls = .type "tuple" ∧ o.data = .seq #[.int x.1 t1, .int x.2.1 t2, .int x.2.2 t3] n := by
  obtain ⟨t, vs, rfl, h1, h2⟩ := r.isTup
  obtain ⟨vs⟩ := vs
  cases h2 with
  | cons ra h2 =>
    cases h2 with
    | cons rb h2 =>
      cases h2 with
      | cons rc h2 =>
        cases h2
        obtain ⟨ta, rfl⟩ := ra.int_inv
        obtain ⟨tb, rfl⟩ := rb.int_inv
        obtain ⟨tc, rfl⟩ := rc.int_inv
        obtain ⟨o, ho, hc, n, hd⟩ := h1
        exact ⟨t, o, ta, tb, tc, n, rfl, ho, hc, hd⟩
theorem lt_t3 {u v : Value} {x y : Int × Int × Int} {Q : Bool → Shared → Prop} (ru : Rd s.heap u (dT3 x)) (rv : Rd s.heap v (dT3 y)) (hq : Q (lex3 x y) s) : wpAny (model prog w) A (keyLt' (tuples' true) u v) Q E s := by
  obtain ⟨a, o, t1, t2, t3, n, rfl, ho, hc, hd⟩ := rd_t3 ru
  obtain ⟨a', o', u1, u2, u3, n', rfl, ho', hc', hd'⟩ := rd_t3 rv
  refine kat_lt ho hd ho' hd' ?_
  show KatLex prog w A true false Q [(_, _), (_, _), (_, _)] 0 s
  refine kat_cons (PySem.wpAny_eqBool_int ?_)
  unfold lex3 at hq
  by_cases c1 : x.1 = y.1
  · rw [if_pos c1] at hq
    rw [show (x.1 == y.1) = true by simpa using c1]
    refine kat_yes (kat_cons (PySem.wpAny_eqBool_int ?_))
    by_cases c2 : x.2.1 = y.2.1
    · rw [if_pos c2] at hq
      rw [show (x.2.1 == y.2.1) = true by simpa using c2]
      refine kat_yes (kat_cons (PySem.wpAny_eqBool_int ?_))
      by_cases c3 : x.2.2 = y.2.2
      · rw [show (x.2.2 == y.2.2) = true by simpa using c3]
        refine kat_yes (kat_nil ?_)
        rw [decide_eq_false (by lia)] at hq
        exact hq
      · rw [show (x.2.2 == y.2.2) = false by simpa using c3]
        exact kat_no (kat_one _ _ (c_lt hq))
    · rw [if_neg c2] at hq
      rw [show (x.2.1 == y.2.1) = false by simpa using c2]
      exact kat_no (kat_one _ _ (c_lt hq))
  · rw [if_neg c1] at hq
    rw [show (x.1 == y.1) = false by simpa using c1]
    exact kat_no (oneLt_int hq)
theorem b_sorted3 {a : Addr} {vs : List Value} {xs : List (Int × Int × Int)} (F : Fm K s₀ B L s l ob) (ha : s.heap.IsList a vs.toArray) (hv : All2 (fun x v => Rd B v (dT3 x)) xs vs) (h2 : 2 ≤ vs.length) (h64 : vs.length < 64)
    (T : LtO (fun i j => lex3 (xs.getD i (0, 0, 0)) (xs.getD j (0, 0, 0))) vs.length)
    (h : ∀ D p k s', Pm vs.length p → Sd (fun i j => lex3 (xs.getD i (0, 0, 0)) (xs.getD j (0, 0, 0))) p vs.length → Fm K s₀ B L s' l ((D, lsO (p.toList.map fun i => vs.getD i Value.none) k) :: ob) → Q (.ref D) s') :
    wpAny (model prog w) A (call (.builtin "sorted") [.ref a]) Q E s := by
  obtain ⟨mm, F1, N1, back⟩ := F.adaptN
  refine kat_sorted F1 N1 ha h2 h64 fun D e1 h' F2 N2 hD => ?_
  have kB : Kp B h' := fun b o e => (N2 (b, o) (.tail _ (allBut_mem (F.kp b o e) (by rintro rfl; rw [F.no] at e; cases e) (by rintro rfl; rw [F.no] at e; cases e)))).1
  have hv' := hv.imp fun _ _ r => r.kp kB
  have nD : s.heap.get? D = none := by
    cases e : s.heap.get? D with
    | none => rfl
    | some o =>
      have hne : D ≠ L := (N2 _ (.head _)).2.1
      exact absurd (hD (D, o) (allBut_mem e hne hne)) (Nat.lt_irrefl _)
  have tups : ∀ {xs : List (Int × Int × Int)} {vs : List Value}, All2 (fun x v => Rd h' v (dT3 x)) xs vs → ∃ fs, KatTups h' vs fs ∧ fs.length = vs.length ∧ ∀ v ∈ fs, ∃ i t, v = Value.int i t := by
    intro xs vs hv
    induction hv with
    | nil => exact ⟨[], trivial, rfl, fun v hv => by cases hv⟩
    | cons r _ ih =>
      obtain ⟨fs, i1, i2, i3⟩ := ih
      obtain ⟨a, o, t1, t2, t3, n, rfl, ho, hc, hd⟩ := rd_t3 r
      refine ⟨_ :: fs, KatTups.cons ho hc hd rfl i1, by simp [i2], fun v hv => ?_⟩
      rcases List.mem_cons.mp hv with rfl | hv
      · exact ⟨_, _, rfl⟩
      · exact i3 v hv
  obtain ⟨fs, k1, k2, k3⟩ := tups hv'
  refine kat_kind (T := .type "int") k1 (by lia) (fun v hv => ?_) (by decide) ?_
  · obtain ⟨i, t, rfl⟩ := k3 v hv
    exact Looks.of_pure rfl
  have e : (Value.type "int" != Value.type "tuple") = true := by decide
  rw [e]
  refine KOk.wp (lt := fun i j => lex3 (xs.getD i (0, 0, 0)) (xs.getD j (0, 0, 0))) (n := vs.length) (I := fun s' => s' = { s with heap := h' }) (fun i j C s' hi hj hs hC => ?_) _ _ rfl (KOk.mono (fun p hp => ?_) _ (sort_ok T h2))
  · subst hs
    obtain ⟨x, hx, rx⟩ := hv'.get' (List.getElem?_eq_getElem hi)
    obtain ⟨y, hy, ry⟩ := hv'.get' (List.getElem?_eq_getElem hj)
    show wpAny _ _ (keyLt' _ (vs.getD i Value.none) (vs.getD j Value.none)) C _ _
    rw [List.getD_eq_getElem?_getD, List.getD_eq_getElem?_getD, List.getElem?_eq_getElem hi, List.getElem?_eq_getElem hj]
    refine lt_t3 rx ry ?_
    have := hC _ rfl
    rw [List.getD_eq_getElem?_getD, List.getD_eq_getElem?_getD, hx, hy] at this
    exact this
  · rintro s' rfl
    refine KasFin.intro F2 N2 (.head fun q hq => Nat.ne_of_lt (hD q hq)) fun h'' c F3 N3 => ?_
    exact h D p c _ hp.1 hp.2 (back { s with heap := h'' } D _ F3 N3 ⟨rfl, rfl, rfl⟩ nD)
end
end Mine
end
section
open PySem PySem.W PyProof.Rows PySem.Calls
set_option maxRecDepth 100000
namespace Mine
section
variable {prog : Program} {w : World} {A : Around} {E : Value → Shared → Prop} {s₀ s s' : Shared} {env : Env} {K : Frag} {B B₁ : Heap} {L C : Addr} {l l' : Ls} {ob ob' : Ob} {Q : Value → Shared → Prop}
/-- an item of a list of made things that may turn -/
theorem sub_ref {value slice : Expr} {a : Addr} {vs : List Value} {n : Nat} {ds : List PyData} {d : PyData} {k : Nat} {u : Tok} (F : Fm K s₀ B L s l ob) (hm : (a, lsO vs n) ∈ ob) (r : RdL B ds vs) (hz : k < 2 ^ 62) (hd : ds[k]? = some d) (h : ∀ x, Rd B x d → Q x s)
    (hs : subscripted slice false (.ref a) (.int (k : Int) u) = operate [.ref a, .int (k : Int) u] (getItem (.ref a) (.int (k : Int) u))) : wpAny (model prog w) A (subscriptTail value slice (.ref a) (.int (k : Int) u)) Q E s := by
  obtain ⟨x, hx, rx⟩ := r.get hd
  have hl : s.heap.IsList a vs.toArray := ⟨_, F.get hm, rfl, n, rfl⟩
  exact sub_list hl (by lia) (by lia) (by simpa using hx) (h x rx) hs
theorem sub_refLast {value slice : Expr} {a : Addr} {vs : List Value} {n : Nat} {ds : List PyData} {d : PyData} {u : Tok} (F : Fm K s₀ B L s l ob) (hm : (a, lsO vs n) ∈ ob) (r : RdL B ds vs) (hd : ds[ds.length - 1]? = some d) (h : ∀ x, Rd B x d → Q x s)
    (hs : subscripted slice false (.ref a) (.int (-1) u) = operate [.ref a, .int (-1) u] (getItem (.ref a) (.int (-1) u))) : wpAny (model prog w) A (subscriptTail value slice (.ref a) (.int (-1) u)) Q E s := by
  obtain ⟨x, hx, rx⟩ := r.get hd
  have hlen : ds.length = vs.length := r.length
  have hpos : 0 < ds.length := by
    cases ds with
    | nil => cases hd
    | cons _ _ => simp
  have hl : s.heap.IsList a vs.toArray := ⟨_, F.get hm, rfl, n, rfl⟩
  refine tail_any hl.typeIs slot_list_getitem.lookup (wpAny_getItem_list_neg hl (by lia) (by simp; lia) (by lia) ?_ (h x rx)) hs
  rw [show ((-1 : Int) + vs.toArray.size).toNat = ds.length - 1 by simp; lia]
  simpa using hx
theorem any_ints (xs : List Int) (y : Int) : ((xs.map PyData.int).any fun z => PyData.eqv z (.int y)) = decide (y ∈ xs) := by
  induction xs with
  | nil => simp
  | cons x r ih =>
    rw [List.map_cons, List.any_cons, ih]
    have e : PyData.eqv (.int x) (.int y) = decide (x = y) := by
      have := eqv_ints [x] [y]
      simpa [PyData.eqvAll] using this
    rw [e]
    by_cases c : x = y
    · subst c; simp
    · have c' : ¬ y = x := fun q => c q.symm
      simp [c, c']
theorem shapedI (i : Int) : SeqAt.shaped (.int i) = true := by rfl
end
end Mine
end
section
open PySem PySem.W PyProof.Rows PySem.Calls
set_option maxRecDepth 100000
namespace Mine
section
variable {prog : Program} {w : World} {A : Around} {E : Value → Shared → Prop} {s₀ s : Shared} {env : Env} {K : Frag} {B : Heap} {L C : Addr} {l : Ls} {ob : Ob} {Q : Value → Shared → Prop}
def CompGoGU (prog : Program) (w : World) (A : Around) (x : Str) (px : Pos) (e : Expr) (scope : Scope) (cl : List (Str × Addr)) (env : Env) (Q : Value → Shared → Prop) (E : Value → Shared → Prop) (xv : Value) (s₁ : Shared) : Prop :=
  wpAny (model prog w) A (pyIter xv) (fun it s₂ => wpAny (model prog w) A (newList []) (fun acc s₃ => wpAny (model prog w) A (newFunctionEnv scope env.globals cl [] env.qual none .none (some env)) (fun cenv s₄ =>
    codeAny (model prog w) A (.compStart e 0 it acc { cenv with scope := relabel scope env }) (compPost (model prog w) A E (some (assign (.Name x px) env)) Q acc cenv.locals) s₄) E s₃) E s₂) E s₁
theorem compGoU_of {x : Str} {px : Pos} {elt target iter : Expr} {ifs : List Expr} {scope : Scope} {pos : Pos} {cl : List (Str × Addr)} {xv : Value} (h : CompGoGU prog w A x px (.ListComp elt [⟨target, iter, ifs, 0⟩] scope pos) scope cl env Q E xv s) : CompGoU prog w A x px elt target iter ifs scope pos cl env Q E xv s := h
theorem s_assignU2 {x : Str} {p pos cp : Pos} {elt t1 i1 t2 i2 : Expr} {scope : Scope} {cl : List (Str × Addr)} {rest : List Stmt} {Q : Flow → Shared → Prop}
    (h : wpAny (model prog w) A (eval i1 env) (CompGoGU prog w A x p (.ListComp elt [⟨t1, i1, [], 0⟩, ⟨t2, i2, [], 0⟩] scope cp) scope cl env (fun _ s' => wpAny (model prog w) A (execs rest env) Q E s') E) E s)
    (hclos : closGo env scope.names [] = some cl) (hkind : scope.kind = .function)
    (hnames : (scope.names.all fun x => decide (x.2 = .local → scope.names.lookup x.1 = some .local)) = true)
    (hi : ∀ x, foldedSetIterable i1 env x = pure x)
    (hs : swapsWith (.ListComp elt [⟨t1, i1, [], 0⟩, ⟨t2, i2, [], 0⟩] scope cp) (some (.Name x p)) pos.line env = pure true) : wpAny (model prog w) A (execs (.Assign [.Name x p] (.ListComp elt [⟨t1, i1, [], 0⟩, ⟨t2, i2, [], 0⟩] scope cp) pos :: rest) env) Q E s := by
  refine s_cons ?_
  rw [exec_Assign_Name_used _ _ _ _ hs]
  refine wpAny_bind (wpAny_standAt (wpAny_bind ?_))
  unfold evalThenUse
  refine wpAny_bind (wpAny_mono (wpAny_comprehension_free rfl hi (closureFor_of hclos) hkind (fun x hx => of_decide_eq_true (List.all_eq_true.mp hnames x hx)) h) (fun _ s' h' => wpAny_pure (wpAny_pure ?_)) fun _ _ x => x)
  exact h'
theorem comp_goGU {x : Str} {px : Pos} (hl : env.kindOf x = some .local) (hloc : env.locals = L) (hkd : env.scope.kind = .function) {elt target iter : Expr} {ifs : List Expr} {rest : List Comprehension} {body : Bdy} {scope : Scope} {pos : Pos} {cl : List (Str × Addr)} {xv : Value} {n : Nat} {P : Nat → Value → Prop} (T : TurnOf prog w A (.ListComp elt (⟨target, iter, ifs, 0⟩ :: rest) scope pos) 0 target body)
    (mono : ∀ acc env v (N N' : Shared → Prop) s, (∀ s, N s → N' s) → body acc env v N s → body acc env v N' s) (F : Fm K s₀ B L s l ob) (it : ItersG prog w A B target s xv n P)
    (inv : Addr → Nat → Heap → List Value → Ls → Ob → Prop) (h0 : ∀ C oL, s.heap.get? L = some oL → inv C 0 B [] [] (cellOb (C + 1) scope.names [] ++ (L, oL) :: ob))
    (step : ∀ C D i B₁ s' l ob ys k ex v, i < n → Kp B B₁ → inv C i B₁ ys l ob → P i v → Fm K s B₁ C s' l ((D, lsO ys k) :: ob ++ ex) →
      body (.ref D) (cenvOf scope (cellsFrom (C + 1) scope.names cl) C env) v (fun s₄ => ∃ B₂ l' ob' zs k', Kp B₁ B₂ ∧ inv C (i + 1) B₂ zs l' ob' ∧ Fm K s B₂ C s₄ l' ((D, lsO zs k') :: ob' ++ ex)) s')
    (hmem : ∀ C B₁ ys l₁ ob₁ oL, s.heap.get? L = some oL → inv C n B₁ ys l₁ ob₁ → ∀ p ∈ (L, oL) :: ob, p ∈ ob₁)
    (fin : ∀ C D s'' B₁ B₂ ys k l₁ ob₁, Kp B B₁ → inv C n B₁ ys l₁ ob₁ → Kp B₁ B₂ → Fm K s₀ B₂ L s'' (put x (.ref D) l) ob → B₂.get? D = some (lsO ys k) → Q .none s'') :
    CompGoGU prog w A x px (.ListComp elt (⟨target, iter, ifs, 0⟩ :: rest) scope pos) scope cl env Q E xv s := by
  obtain ⟨oL, hoL⟩ := F.ns.get
  refine it _ _ fun I fp St s₂ W st hfp hal hgo hI g => ?_
  refine wpAny_newObj_type ?_ (Nat.zero_le _)
  obtain ⟨D, hD⟩ : ∃ D, D = s₂.heap.objs.size := ⟨_, rfl⟩
  refine comp_env ?_
  have hsz : (s₂.heap.push { cls := .type "list", data := .seq #[] }).objs.size = D + 1 := by rw [Heap.size_push, hD]
  show codeAny _ _ (.compStart _ _ _ (.ref s₂.heap.objs.size) (cenvOf scope (cellsFrom ((s₂.heap.push { cls := .type "list", data := .seq #[] }).objs.size + 1) scope.names cl) (s₂.heap.push { cls := .type "list", data := .seq #[] }).objs.size env)) (compPost _ _ _ _ _ (.ref s₂.heap.objs.size) (s₂.heap.push { cls := .type "list", data := .seq #[] }).objs.size)
    { s₂ with heap := pushCells ((s₂.heap.push { cls := .type "list", data := .seq #[] }).push { cls := .type "dict", data := .dict #[] }) scope.names }
  rw [hsz, ← hD]
  have hsz2 : ((s₂.heap.push { cls := .type "list", data := .seq #[] }).push { cls := .type "dict", data := .dict #[] }).objs.size = D + 1 + 1 := by rw [Heap.size_push, hsz]
  have k1 : Kp s₂.heap ((s₂.heap.push { cls := .type "list", data := .seq #[] }).push { cls := .type "dict", data := .dict #[] }) := (Kp.push _).trans (Kp.push _)
  have kD : ((s₂.heap.push { cls := .type "list", data := .seq #[] }).push { cls := .type "dict", data := .dict #[] }).get? D = some (lsO [] 0) := Kp.push _ _ _ (by rw [hD]; exact Heap.get?_push_size _ rfl)
  have hns : ((s₂.heap.push { cls := .type "list", data := .seq #[] }).push { cls := .type "dict", data := .dict #[] }).Ns (D + 1) (fun _ => none) := by
    have := Heap.Ns.new (s₂.heap.push { cls := .type "list", data := .seq #[] }) (.type "dict")
    rwa [hsz] at this
  generalize hh3 : (s₂.heap.push { cls := .type "list", data := .seq #[] }).push { cls := .type "dict", data := .dict #[] } = h3 at *
  have nD : s.heap.get? D = none := Kp.none g.kp (get_none_of_le (by lia))
  have nC : s.heap.get? (D + 1) = none := Kp.none g.kp (get_none_of_le (by lia))
  have F1 : Fm K s B (D + 1) { s₂ with heap := h3 } [] ((L, oL) :: ob) := F.enter (s' := { s₂ with heap := h3 }) hoL (g.kp.trans k1) ⟨g.sm.gens, g.sm.drawn, g.sm.os⟩ ⟨_, hns, fun x v e => by cases e⟩ nC
  have F2 : Fm K s B (D + 1) { s₂ with heap := h3 } [] ((D, lsO [] 0) :: (L, oL) :: ob) := by
    refine ⟨F1.gd, F1.ns, F1.kp, F1.no, fun p hp => ?_, ?_, F1.sm⟩
    · rcases List.mem_cons.mp hp with rfl | hp
      · exact ⟨kD, Nat.ne_of_lt (Nat.lt_succ_self _), Kp.none F.kp nD⟩
      · exact F1.obs p hp
    · rw [List.map_cons, List.nodup_cons]
      refine ⟨fun q => ?_, F1.nd⟩
      obtain ⟨p, hp, e⟩ := List.mem_map.mp q
      have e : p.1 = D := e
      have : s.heap.get? p.1 = some p.2 := by
        rcases List.mem_cons.mp hp with rfl | hp
        · exact hoL
        · exact (F.obs p hp).1
      rw [e, nD] at this; cases this
  have F4 := F2.cells scope.names
  rw [show ({ s₂ with heap := h3 } : Shared).heap.objs.size = D + 1 + 1 from hsz2] at F4
  have F5 : Fm K s B (D + 1) { s₂ with heap := pushCells h3 scope.names } [] ((D, lsO [] 0) :: (cellOb (D + 1 + 1) scope.names [] ++ (L, oL) :: ob)) := by
    rw [show ((D, lsO [] 0) :: (L, oL) :: ob) = [] ++ ((D, lsO [] 0) :: (L, oL) :: ob) from rfl, cellOb_app] at F4
    exact F4.perm List.perm_middle
  obtain ⟨oI, hoI⟩ := hal _ _ st
  have lI := Heap.lt_size hoI
  have k3 : Kp s₂.heap (pushCells h3 scope.names) := k1.trans (pushCells_keeps _ _)
  have st4 : St 0 (pushCells h3 scope.names) := W.frame 0 s₂.heap _ st fun b _ o e => k3 b o e
  have hobI : I ∉ List.map Prod.fst ((D, lsO [] 0) :: (cellOb (D + 1 + 1) scope.names [] ++ (L, oL) :: ob)) := fun q => by
    obtain ⟨p, hp, e⟩ := List.mem_map.mp q
    have e : p.1 = I := e
    rcases List.mem_cons.mp hp with rfl | hp
    · exact absurd lI (by rw [← e, hD]; exact Nat.lt_irrefl _)
    · rcases List.mem_append.mp hp with hp | hp
      · have := cellOb_lt (I := I) scope.names (D + 1 + 1) [] (by intro p hp; cases hp) (Nat.lt_succ_of_lt (Nat.lt_succ_of_lt (by rw [hD]; exact lI))) p hp
        exact absurd this (by rw [e]; exact Nat.lt_irrefl _)
      · have : s.heap.get? p.1 = some p.2 := by
          rcases List.mem_cons.mp hp with rfl | hp
          · exact hoL
          · exact (F.obs p hp).1
        rw [e, hI] at this; cases this
  have loop : codeAny (model prog w) A (.compLoop (.ListComp elt (⟨target, iter, ifs, 0⟩ :: rest) scope pos) 0 (.ref I) (.ref D) (cenvOf scope (cellsFrom (D + 1 + 1) scope.names cl) (D + 1) env)) (compPost (model prog w) A E (some (assign (.Name x px) env)) Q (.ref D) (D + 1)) { s₂ with heap := pushCells h3 scope.names } := by
    refine codeAny_mono (comp_loopG T W hfp hal hgo F5 st4 (Kp.none F.kp hI) (Nat.ne_of_lt (Nat.lt_succ_of_lt (by rw [hD]; exact lI))) hobI (inv (D + 1)) (h0 (D + 1) oL hoL) (fun i B₁ s' l ob ys k ex v => step (D + 1) D i B₁ s' l ob ys k ex v) mono
      (Q := fun s' => wpAny (model prog w) A (assign (.Name x px) env (.ref D)) (fun _ s'' => ∃ m, s''.heap.Ns (D + 1) m ∧ ∀ h', Heap.SameBut (D + 1) s''.heap h' → Q .none { s'' with heap := h' }) E s') (fun B₁ s' l₁ ob₁ ys k kB hinv F' => ?_)) fun r s' hr => ?_
    · obtain ⟨m, n, _⟩ := F'.ns
      obtain ⟨oC, es, ep, hoC, rC⟩ := n
      have hm := hmem _ _ _ _ _ oL hoL hinv
      have DL := F'.obs (L, oL) (.tail _ (hm _ (.head _)))
      have DD := F'.obs (D, lsO ys k) (.head _)
      have nd := F'.nd
      rw [List.map_cons, List.nodup_cons] at nd
      have hCD : ∀ p ∈ (D, lsO ys k) :: ob, p.1 ≠ D + 1 := fun p hp => by
        rcases List.mem_cons.mp hp with rfl | hp
        · exact DD.2.1
        · exact (F'.obs p (.tail _ (hm _ (.tail _ hp)))).2.1
      have F3 : Fm K s₀ B₁ L s' l ((D, lsO ys k) :: ob) := by
        refine ⟨F.gd.kp kB, F.ns.keeps fun o e => ?_, F'.kp, DL.2.2, fun p hp => ?_, ?_, F.sm.trans F'.sm⟩
        · rw [hoL] at e; cases e; exact DL.1
        · rcases List.mem_cons.mp hp with rfl | hp
          · exact ⟨DD.1, fun q => nd.1 (by show D ∈ _; rw [show D = L from q]; exact (List.mem_map_of_mem (hm (L, oL) (.head _)) : L ∈ List.map Prod.fst ob₁)), DD.2.2⟩
          · have DP := F'.obs p (.tail _ (hm _ (.tail _ hp)))
            exact ⟨DP.1, (F.obs p hp).2.1, DP.2.2⟩
        · rw [List.map_cons, List.nodup_cons]
          refine ⟨fun q => ?_, F.nd⟩
          obtain ⟨p, hp, e⟩ := List.mem_map.mp q
          exact nd.1 (by show D ∈ _; rw [show D = p.1 from e.symm]; exact (List.mem_map_of_mem (hm p (.tail _ hp)) : p.1 ∈ List.map Prod.fst ob₁))
      have F4 : Fm K s₀ B₁ L s' l ((D, lsO ys k) :: (D + 1, oC) :: ob) := by
        refine ⟨F3.gd, F3.ns, F3.kp, F3.no, fun p hp => ?_, ?_, F3.sm⟩
        · rcases List.mem_cons.mp hp with rfl | hp
          · exact F3.obs _ (.head _)
          · rcases List.mem_cons.mp hp with rfl | hp
            · exact ⟨hoC, fun q => DL.2.1 (Eq.symm q), F'.no⟩
            · exact F3.obs _ (.tail _ hp)
        · have nd3 := F3.nd
          rw [List.map_cons, List.nodup_cons] at nd3
          rw [List.map_cons, List.map_cons, List.nodup_cons, List.nodup_cons]
          refine ⟨fun q => ?_, fun q => ?_, nd3.2⟩
          · rcases List.mem_cons.mp q with q | q
            · exact hCD _ (.head _) q
            · exact nd3.1 q
          · obtain ⟨p, hp, e⟩ := List.mem_map.mp q
            exact hCD p (.tail _ hp) e
      obtain ⟨B₂, k2, F5, hD5⟩ := F4.freeze0
      refine a_name (st_local F5 hl (fun s'' F6 => ?_) hloc hkd)
      exact ⟨m, ⟨oC, es, ep, F6.get (.head _), rC⟩, fun h' hs => fin (D + 1) D _ B₁ B₂ ys k l₁ ob₁ kB hinv k2 (F6.out hs.extBut Sm.mk') hD5⟩
    · obtain ⟨rfl, hq⟩ := hr
      exact hq
  exact codeAny_compStart_list loop (W.self 0 _ _ _ st4 loop)
theorem comp_listGU {x : Str} {px : Pos} (hlx : env.kindOf x = some .local) (hloc : env.locals = L) (hkd : env.scope.kind = .function) {α β : Type} {elt target iter : Expr} {ifs : List Expr} {scope : Scope} {pos : Pos} {cl : List (Str × Addr)} {xv : Value} {xs : List α} {P : α → Value → Prop} (F : Fm K s₀ B L s l ob) (it : ItersG prog w A B target s xv xs.length (fun i v => ∃ a, xs[i]? = some a ∧ P a v)) (hn : xs.length ≤ sizeLine)
    (f : α → β) (t : α → Bool) (S : Heap → β → Value → Prop) (mono : ∀ h h' b v, Kp h h' → S h b v → S h' b v)
    (cobs : Addr → Ob → Prop) (hc0 : ∀ C, cobs C (cellOb (C + 1) scope.names []))
    (step : ∀ C B₁ s' ob₁ ex a v, a ∈ xs → Kp B B₁ → P a v → cobs C ob₁ → (∀ p ∈ ob, p ∈ ob₁ ++ ex) → Fm K s B₁ C s' [] (ob₁ ++ ex) →
      wpAny (model prog w) A (assign target (cenvOf scope (cellsFrom (C + 1) scope.names cl) C env) v) (fun _ s₂ => wpAny (model prog w) A (testsOf ifs (cenvOf scope (cellsFrom (C + 1) scope.names cl) C env)) (fun ok s₃ => ok = t a ∧ if ok = true
        then wpAny (model prog w) A (eval elt (cenvOf scope (cellsFrom (C + 1) scope.names cl) C env)) (fun y s₄ => ∃ B₂ ob' l', Kp B₁ B₂ ∧ cobs C ob' ∧ S B₂ (f a) y ∧ Fm K s B₂ C s₄ l' (ob' ++ ex)) (fun _ _ => False) s₃
        else ∃ ob' l', cobs C ob' ∧ Fm K s B₁ C s₃ l' (ob' ++ ex)) (fun _ _ => False) s₂) (fun _ _ => False) s')
    (fin : ∀ D s' B' ys k, Kp B B' → Fm K s₀ B' L s' (put x (.ref D) l) ob → B'.get? D = some (lsO ys k) → All2 (S B') ((xs.filter t).map f) ys → Q .none s') : CompGoU prog w A x px elt target iter ifs scope pos cl env Q E xv s := by
  refine compGoU_of (comp_goGU hlx hloc hkd turn1 bdy1_mono F it (fun C i B₁ ys l₁ ob₁ => l₁ = [] ∧ (∃ ob₂ oL, s.heap.get? L = some oL ∧ ob₁ = ob₂ ++ (L, oL) :: ob ∧ cobs C ob₂) ∧ All2 (S B₁) (((xs.take i).filter t).map f) ys) (fun C oL hL => ⟨rfl, ⟨_, oL, hL, rfl, hc0 C⟩, by simp; exact .nil⟩) ?_ ?_ ?_)
  · rintro C D i B₁ s' l ob₁ ys k ex v hi kB ⟨rfl, ⟨ob₂, oL, hL, rfl, hcb⟩, hall⟩ ⟨a, ha, hP⟩ F'
    have hm : a ∈ xs := List.mem_of_getElem? ha
    have hp : ∀ (ys : List Value) (k : Nat) (ob₂ : Ob), List.Perm ((D, lsO ys k) :: (ob₂ ++ (L, oL) :: ob) ++ ex) (ob₂ ++ ((D, lsO ys k) :: (((L, oL) :: ob) ++ ex))) := fun ys k ob₂ => by
      rw [List.cons_append, List.append_assoc]; exact List.perm_middle.symm
    have htk : xs.take (i + 1) = xs.take i ++ [a] := by rw [List.take_add_one, ha]; rfl
    have hyl : ys.length ≤ xs.length := by
      have h1 := hall.length
      rw [List.length_map] at h1
      have h2 := List.length_filter_le t (xs.take i)
      rw [List.length_take] at h2
      lia
    refine wpAny_mono (step C B₁ s' ob₂ _ a v hm kB hP hcb (fun p hp => List.mem_append_right _ (.tail _ (.tail _ (List.mem_append_left _ hp)))) (F'.perm (hp ys k ob₂))) (fun _ s₂ h₂ => wpAny_mono h₂ (fun ok s₃ h₃ => ?_) fun _ _ x => x) fun _ _ x => x
    obtain ⟨e, h₃⟩ := h₃
    cases ok with
    | false =>
      obtain ⟨ob', l', hc', F3⟩ := h₃
      refine ⟨B₁, [], _, ys, k, Kp.rfl, ⟨rfl, ⟨ob', oL, hL, rfl, hc'⟩, ?_⟩, (F3.sub (l' := []) trivial).perm (hp ys k ob').symm⟩
      rw [htk, List.filter_append]; simpa [← e] using hall
    | true =>
      refine wpAny_mono h₃ (fun y s₄ h₄ => ?_) fun _ _ x => x
      obtain ⟨B₂, ob', l', k2, hc', hS, F4⟩ := h₄
      refine m_append ((F4.sub (l' := []) trivial).perm (hp ys k ob').symm) (.head _) (by lia) fun s₅ F5 => ?_
      refine ⟨B₂, [], _, _, _, k2, ⟨rfl, ⟨ob', oL, hL, rfl, hc'⟩, ?_⟩, F5⟩
      rw [htk, List.filter_append, List.map_append]
      refine (hall.imp fun _ _ z => mono _ _ _ _ k2 z).append ?_
      simp [← e]
      exact .cons hS .nil
  · rintro C B₁ ys l₁ ob₁ oL hL ⟨_, ⟨ob₂, oL', hL', rfl, _⟩, _⟩ p hp
    rw [hL] at hL'; cases hL'
    exact List.mem_append_right _ hp
  · rintro C D s'' B₁ B₂ ys k l₁ ob₁ kB ⟨rfl, ⟨ob₂, oL, hL, rfl, _⟩, hall⟩ k2 F2 hD
    rw [List.take_length] at hall
    exact fin D s'' B₂ ys k (kB.trans k2) F2 hD (hall.imp fun _ _ z => mono _ _ _ _ k2 z)
/-- a comprehension over all pairs -/
theorem comp_prodU {z : Str} {pz : Pos} (hlx : env.kindOf z = some .local) (hloc : env.locals = L) (hkd : env.scope.kind = .function) {α β γ : Type} {elt i1 i2 : Expr} {x y : Str} {px py : Pos} {scope : Scope} {pos : Pos} {cl : List (Str × Addr)} {xv : Value} {xs : List α} {us : List β} {P : α → Value → Prop} {P2 : β → Value → Prop} (hs : ∀ x env, foldedSetIterable i2 env x = pure x)
    (F : Fm K s₀ B L s l ob) (it : ItL prog w A B s xv xs P) (hn : xs.length * us.length ≤ sizeLine) (f : α → β → γ) (S : Heap → γ → Value → Prop) (mono : ∀ h h' b v, Kp h h' → S h b v → S h' b v) (hc0 : ∀ C, cellOb (C + 1) scope.names [] = [])
    (outer : ∀ C B₁ s' ex a v, a ∈ xs → Kp B B₁ → P a v → Fm K s B₁ C s' [] ex →
      wpAny (model prog w) A (assign (.Name x px) (cenvOf scope (cellsFrom (C + 1) scope.names cl) C env) v) (fun _ s₂ => wpAny (model prog w) A (eval i2 (cenvOf scope (cellsFrom (C + 1) scope.names cl) C env)) (fun xv2 s₃ => Fm K s B₁ C s₃ [(x, v)] ex ∧ ∀ B', ItL prog w A B' s₃ xv2 us P2) (fun _ _ => False) s₂) (fun _ _ => False) s')
    (inner : ∀ C B₁ s' ex a v b u, a ∈ xs → b ∈ us → Kp B B₁ → P a v → P2 b u → (∀ p ∈ ob, p ∈ ex) → Fm K s B₁ C s' [(x, v)] ex →
      wpAny (model prog w) A (assign (.Name y py) (cenvOf scope (cellsFrom (C + 1) scope.names cl) C env) u) (fun _ s₂ => wpAny (model prog w) A (eval elt (cenvOf scope (cellsFrom (C + 1) scope.names cl) C env)) (fun r s₃ => ∃ B₂ l', Kp B₁ B₂ ∧ S B₂ (f a b) r ∧ lk l' x = some v ∧ Fm K s B₂ C s₃ l' ex) (fun _ _ => False) s₂) (fun _ _ => False) s')
    (fin : ∀ D s' B' ys k, Kp B B' → Fm K s₀ B' L s' (put z (.ref D) l) ob → B'.get? D = some (lsO ys k) → All2 (S B') (xs.flatMap fun a => us.map (f a)) ys → Q .none s') :
    CompGoGU prog w A z pz (.ListComp elt [⟨.Name x px, i1, [], 0⟩, ⟨.Name y py, i2, [], 0⟩] scope pos) scope cl env Q E xv s := by
  refine comp_goGU hlx hloc hkd (turn2o hs) bdy2_mono F it.toG (fun C i B₁ ys l₁ ob₁ => l₁ = [] ∧ (∃ oL, s.heap.get? L = some oL ∧ ob₁ = (L, oL) :: ob) ∧ All2 (S B₁) ((xs.take i).flatMap fun a => us.map (f a)) ys) (fun C oL hL => ⟨rfl, ⟨oL, hL, by rw [hc0 C]; rfl⟩, by simp; exact .nil⟩) ?_ ?_ ?_
  · rintro C D i B₁ s' l ob₁ ys k ex v hi kB ⟨rfl, ⟨oL, hL, rfl⟩, hall⟩ ⟨a, ha, hP⟩ F'
    have hm : a ∈ xs := List.mem_of_getElem? ha
    have htk : xs.take (i + 1) = xs.take i ++ [a] := by rw [List.take_add_one, ha]; rfl
    have hyl : ys.length = i * us.length := by
      have h1 := hall.length
      rw [← h1]
      have q : ∀ zs : List α, (zs.flatMap fun a => us.map (f a)).length = zs.length * us.length := by
        intro zs
        induction zs with
        | nil => simp
        | cons z r ih => rw [List.flatMap_cons, List.length_append, ih, List.length_map, List.length_cons, Nat.succ_mul]; lia
      rw [q, List.length_take, Nat.min_eq_left (Nat.le_of_lt hi)]
    have hin : i * us.length + us.length ≤ sizeLine := by
      have : (i + 1) * us.length ≤ xs.length * us.length := Nat.mul_le_mul_right _ hi
      rw [Nat.succ_mul] at this
      omega
    refine wpAny_mono (outer C B₁ s' _ a v hm kB hP F') (fun _ s₂ h₂ => wpAny_mono h₂ (fun xv2 s₃ h₃ => ?_) fun _ _ x => x) fun _ _ x => x
    obtain ⟨F3, it2⟩ := h₃
    refine it2 B₁ _ _ fun I fp St s₄ W st hfp hal hI g => ?_
    have F4 := F3.gr g
    have hB1 : B₁.get? I = none := Kp.none F3.kp hI
    have hC1 : I ≠ C := fun q => by
      obtain ⟨o, ho⟩ := F3.ns.get
      have q' : I = C := q
      rw [q'] at hI; rw [ho] at hI; cases hI
    have hob1 : I ∉ List.map Prod.fst ((D, lsO ys k) :: ((L, oL) :: ob) ++ ex) := fun q => by
      obtain ⟨p, hp, e⟩ := List.mem_map.mp q
      have := (F3.obs p hp).1
      rw [show p.1 = I from e, hI] at this; cases this
    have loop : codeAny (model prog w) A (.compLoop (.ListComp elt [⟨.Name x px, i1, [], 0⟩, ⟨.Name y py, i2, [], 0⟩] scope pos) 1 (.ref I) (.ref D) (cenvOf scope (cellsFrom (C + 1) scope.names cl) C env))
        (fun r s' => r = .ok .next ∧ ∃ B₂ l' ob' zs k', Kp B₁ B₂ ∧ (l' = [] ∧ (∃ oL, s.heap.get? L = some oL ∧ ob' = (L, oL) :: ob) ∧ All2 (S B₂) ((xs.take (i + 1)).flatMap fun a => us.map (f a)) zs) ∧ Fm K s B₂ C s' l' ((D, lsO zs k') :: ob' ++ ex)) s₄ := by
      refine comp_loopG turn2i W hfp hal (fun _ _ _ _ _ h => wpAny_pure h) F4 st hB1 hC1 hob1 (fun j B₂ zs l₂ ob₂ => lk l₂ x = some v ∧ ob₂ = ((L, oL) :: ob) ++ ex ∧ zs.length = ys.length + j ∧ All2 (S B₂) (((xs.take i).flatMap fun a => us.map (f a)) ++ (us.take j).map (f a)) zs)
        ⟨by simp [lk], rfl, rfl, by simpa using hall⟩ ?_ bdy1_mono ?_
      · rintro j B₂ s₅ l₂ ob₂ zs k2 ex2 u hj kB2 ⟨hlx, rfl, hzl, hall2⟩ ⟨b, hb, hP2⟩ F5
        have hbm : b ∈ us := List.mem_of_getElem? hb
        have F6 : Fm K s B₂ C s₅ [(x, v)] _ := F5.sub (l' := [(x, v)]) ⟨hlx, trivial⟩
        refine wpAny_mono (inner C B₂ s₅ _ a v b u hm hbm (kB.trans kB2) hP hP2 (fun p hp => List.mem_append_left _ (.tail _ (List.mem_append_left _ (.tail _ hp)))) F6) (fun _ s₆ h₆ => ?_) fun _ _ x => x
        refine wpAny_mono (tests_nil (Q := fun ok s₇ => ok = true ∧ s₇ = s₆) ⟨rfl, rfl⟩) (fun ok s₇ h₇ => ?_) fun _ _ x => x
        obtain ⟨rfl, rfl⟩ := h₇
        rw [if_pos rfl]
        refine wpAny_mono h₆ (fun r s₈ h₈ => ?_) fun _ _ x => x
        obtain ⟨B₃, l', k3, hS, hlx', F7⟩ := h₈
        refine m_append F7 (.head _) (by lia) fun s₉ F8 => ?_
        refine ⟨B₃, l', _, _, _, k3, ⟨hlx', rfl, by rw [List.length_append, hzl]; simp; lia, ?_⟩, F8⟩
        rw [show us.take (j + 1) = us.take j ++ [b] from by rw [List.take_add_one, hb]; rfl, List.map_append, ← List.append_assoc]
        exact (hall2.imp fun _ _ z => mono _ _ _ _ k3 z).append (.cons hS .nil)
      · rintro B₂ s₅ l₂ ob₂ zs k2 kB2 ⟨hlx, rfl, hzl, hall2⟩ F5
        refine ⟨B₂, [], _, zs, k2, kB2, ⟨rfl, ⟨oL, hL, rfl⟩, ?_⟩, F5.sub (l' := []) trivial⟩
        rw [List.take_length] at hall2
        rw [htk, List.flatMap_append]
        simpa using hall2
    exact start2 loop (W.self 0 _ _ _ st loop)
  · rintro C B₁ ys l₁ ob₁ oL hL ⟨_, ⟨oL', hL', rfl⟩, _⟩ p hp
    rw [hL] at hL'; cases hL'
    exact hp
  · rintro C D s'' B₁ B₂ ys k l₁ ob₁ kB ⟨rfl, ⟨oL, hL, rfl⟩, hall⟩ k2 F2 hD
    rw [List.take_length] at hall
    exact fin D s'' B₂ ys k (kB.trans k2) F2 hD (hall.imp fun _ _ z => mono _ _ _ _ k2 z)
end
end Mine
end
section
open PySem PySem.W PyProof.Rows PySem.Calls PySem.Spec
set_option maxRecDepth 100000
namespace Mine

def bitsOf (N : Int) : List Int := (List.range (N % 5).toNat).map fun i => N / 5 / 2 ^ i % 2
def runTxt (rs : List Int) : List Nat := (rs.map fun r => List.replicate r.toNat 32 ++ [9]).flatten
def leadTxt (rs : List Int) (b : Nat) : List Nat := runTxt rs ++ List.replicate b 32 ++ [120, 9, 32]
def txtOf (N : Int) : List Nat := leadTxt (bitsOf N) (N / 80 % 2).toNat
theorem strE : (Str.ofString "") = sOf [] := by decide +kernel
theorem strX3 : (Str.ofString "x\t ") = sOf [120, 9, 32] := by decide +kernel
theorem bitsOf_mem {N r : Int} (h : r ∈ bitsOf N) : 0 ≤ r ∧ r ≤ 1 := by
  obtain ⟨i, hi, rfl⟩ := List.mem_map.mp h
  lia
theorem bitsOf_len (N : Int) : (bitsOf N).length ≤ 4 := by
  unfold bitsOf; rw [List.length_map, List.length_range]; lia
theorem runTxt_len : ∀ {rs : List Int}, (∀ r ∈ rs, 0 ≤ r ∧ r ≤ 1) → (runTxt rs).length ≤ 2 * rs.length
  | [], _ => Nat.le_refl _
  | r :: rs, h => by
    have ih := runTxt_len (rs := rs) fun x hx => h x (.tail _ hx)
    have := h r (.head _)
    unfold runTxt at ih ⊢
    simp only [List.map_cons, List.flatten_cons, List.length_append, List.length_replicate, List.length_cons, List.length_nil]
    lia
set_option maxHeartbeats 4000000 in
theorem text_spec {w : World} {A : Around} {s₀ s : Shared} {B : Heap} {L : Addr} {l : Ls} {ob : Ob} {N : Int} {tN : Tok} {Q E} (F : Fm (KK w) s₀ B L s l ob) (R : Rm A 3)
    (h : ∀ t s' B', Kp B B' → Fm (KK w) s₀ B' L s' l ob → Q (.str (sOf (txtOf N)) t) s') : wpAny (model PP w) A (call (.ref 128) [.int N tN]) Q E s := by
  refine @call_fnG _ _ _ _ _ _ _ _ _ _ _ _ [("number", .int N tN)] _ _ _ _ _ _ _ _ _ _ _ _ _ _ _ _ _ _ _ _ F R (by rfl) (by rfl) (BindsTo.of_eq (by rfl)) (fun L' s₁ A' A₁ oL hL F' R' => ?_) (by rfl) (by rfl)
  have fin : ∀ {B₂ : Heap} {s'' : Shared} {l'' : Ls} {ob'' : Ob}, Fm (KK w) s B₂ L' s'' l'' ob'' → (∀ p ∈ (L, oL) :: ob, p ∈ ob'') → Kp B B₂ → Fm (KK w) s₀ B₂ L s'' l ob := fun F' hm k => F.leave hL F' hm k
  clear F
  have hh := R'.h
  replace F' : Fm (KK w) s B L' s₁ [] ((L' + 1, cellO none) :: (L, oL) :: ob) := F'
  refine @binds_cons _ _ _ _ _ _ _ _ _ ?_
  with_reducible rename Fm _ _ _ _ _ _ _ => F0
  refine @st_cell _ _ _ _ _ _ _ _ _ _ _ _ _ _ _ _ _ _ F0 (by rfl) (by rfl) (by exact UpO.head _) ?_ (by rfl)
  clear F0
  intro _ _
  refine @binds_nil _ _ _ _ _ _ ?_
  with_reducible rename Fm _ _ _ _ _ _ _ => F0
  refine ⟨Fm.gdh F0, ?_⟩
  refine @s_assignU _ _ _ _ _ _ _ _ _ _ _ _ _ _ _ _ _ _ ?_ (by rfl) (by rfl) (by decide +kernel) (by intro _; rfl) (by rfl)
  refine @e_call _ _ _ _ _ _ _ _ _ _ _ ?_
  with_reducible rename Fm _ _ _ _ _ _ _ => F0
  refine @nm_bi _ _ _ _ _ _ _ _ _ _ _ _ _ _ _ _ F0 (by rfl) (by rfl) (by exact bb_range) ?_ (by rfl) (by rfl) (by rfl) (by decide) (by decide)
  refine @cw_ty1 _ _ _ _ _ _ _ _ _ _ ?_ (by rfl)
  refine wpAny_BinOp ?_
  with_reducible rename Fm _ _ _ _ _ _ _ => F0
  refine @nm_cellO _ _ _ _ _ _ _ _ _ _ _ _ _ _ _ _ _ F0 (by rfl) (by rfl) (by exact List.Mem.head _) ?_ (by rfl) (by decide)
  with_reducible rename Fm _ _ _ _ _ _ _ => F0
  refine @e_int _ _ _ _ _ _ _ _ _ _ _ _ _ _ _ _ F0 ?_
  clear F0
  intro _ _ _
  rename Fm _ _ _ _ _ _ _ => F
  refine @o_mod _ _ _ _ _ _ _ _ _ _ _ _ _ _ _ _ F (by lia) fun _ _ F => ?_
  refine @b_range1 _ _ _ _ _ _ _ _ _ _ _ _ _ _ hh F (by lia) (by lia) fun r s₃ F it => ?_
  refine comp_mapU (by rfl) (by rfl) (by rfl) F (itl_range (it _)) (by rw [sizeLine_eq, List.length_range]; lia) (fun i => N / 5 / 2 ^ i % 2) (fun _ n v => ∃ t, v = Value.int n t) (fun _ _ _ _ _ h => h) (fun _ ob => ob = []) (fun _ => rfl) ?_ ?_ (fun _ _ => rfl)
  · rintro C B₁ s' ob₁ ex i v hm kB ⟨t, rfl⟩ rfl hob F
    have hi : i < 5 := by have := List.mem_range.mp hm; lia
    have hcell : (L' + 1, cellO (some (.int N tN))) ∈ [] ++ ex := hob _ (.head _)
    refine @a_name _ _ _ _ _ _ _ _ _ _ ?_
    with_reducible rename Fm _ _ _ _ _ _ _ => F0
    refine @st_local _ _ _ _ _ _ _ _ _ _ _ _ _ _ _ F0 (by rfl) ?_ (by rfl) (by rfl)
    clear F0
    intro _ _
    refine wpAny_BinOp ?_
    refine wpAny_BinOp ?_
    refine wpAny_BinOp ?_
    with_reducible rename Fm _ _ _ _ _ _ _ => F0
    refine @nm_cellO _ _ _ _ _ _ _ _ _ _ _ _ _ _ _ _ _ F0 (by rfl) (by rfl) (by assumption) ?_ (by rfl) (by decide)
    with_reducible rename Fm _ _ _ _ _ _ _ => F0
    refine @e_int _ _ _ _ _ _ _ _ _ _ _ _ _ _ _ _ F0 ?_
    clear F0
    intro _ _ _
    rename Fm _ _ _ _ _ _ _ => F
    refine @o_div _ _ _ _ _ _ _ _ _ _ _ _ _ _ _ _ F (by lia) (PyProof.noPylong_small (by lia)) fun _ _ F => ?_
    refine wpAny_BinOp ?_
    with_reducible rename Fm _ _ _ _ _ _ _ => F0
    refine @e_int _ _ _ _ _ _ _ _ _ _ _ _ _ _ _ _ F0 ?_
    clear F0
    intro _ _ _
    with_reducible rename Fm _ _ _ _ _ _ _ => F0
    refine @nm_local _ _ _ _ _ _ _ _ _ _ _ _ _ _ _ _ F0 (by rfl) (by rfl) ?_ (by rfl) (by rfl) (by decide)
    rename Fm _ _ _ _ _ _ _ => F
    refine @o_pow _ _ _ _ _ _ _ _ _ _ _ _ _ _ _ _ F (by lia) (by rw [show Builtin.Int.intBits 2 = 2 from by decide +kernel]; lia) fun _ _ F => ?_
    rw [Int.toNat_natCast]
    have hp : (1 : Int) ≤ 2 ^ i ∧ (2 : Int) ^ i ≤ 16 := by
      rcases (by lia : i = 0 ∨ i = 1 ∨ i = 2 ∨ i = 3 ∨ i = 4) with rfl | rfl | rfl | rfl | rfl <;> decide
    refine @o_div _ _ _ _ _ _ _ _ _ _ _ _ _ _ _ _ F (by lia) (PyProof.noPylong_small (by omega)) fun _ _ F => ?_
    with_reducible rename Fm _ _ _ _ _ _ _ => F0
    refine @e_int _ _ _ _ _ _ _ _ _ _ _ _ _ _ _ _ F0 ?_
    clear F0
    intro _ _ _
    rename Fm _ _ _ _ _ _ _ => F
    refine @o_mod _ _ _ _ _ _ _ _ _ _ _ _ _ _ _ _ F (by lia) fun _ _ F => ?_
    exact ⟨B₁, [], _, Kp.rfl, rfl, ⟨_, rfl⟩, F⟩
  · intro D s' B2 ys k kB F hD hall
    refine @s_ret _ _ _ _ _ _ _ _ _ ?_
    refine wpAny_BinOp ?_
    refine wpAny_BinOp ?_
    refine @e_meth _ _ _ _ _ _ _ _ _ _ _ _ ?_ (by rfl) (by rfl) (by rfl)
    with_reducible rename Fm _ _ _ _ _ _ _ => F0
    refine @e_str _ _ _ _ _ _ _ _ _ _ _ _ _ _ _ _ F0 ?_
    clear F0
    intro _ _ _
    refine @gm_join _ _ _ _ _ _ _ _ _ ?_
    refine @cwb_M1 _ _ _ _ _ _ _ _ _ _ _ ?_ (by rfl)
    refine @e_compC _ _ _ _ _ _ _ _ _ _ _ _ _ _ ?_ (by rfl) (by rfl) (by decide +kernel) (by intro _; rfl)
    with_reducible rename Fm _ _ _ _ _ _ _ => F0
    refine @nm_local _ _ _ _ _ _ _ _ _ _ _ _ _ _ _ _ F0 (by rfl) (by rfl) ?_ (by rfl) (by rfl) (by decide)
    rename Fm _ _ _ _ _ _ _ => F
    replace hall : All2 (fun (n : Int) v => ∃ t, v = Value.int n t) (bitsOf N) ys := hall
    have hbl := bitsOf_len N
    have hrl := runTxt_len (rs := bitsOf N) fun r hr => bitsOf_mem hr
    refine @comp_map _ _ _ _ _ _ _ _ _ _ _ _ _ _ _ _ _ _ _ _ _ _ (bitsOf N) (fun n v => ∃ t, v = Value.int n t) F (it_all hh F.kp (⟨_, hD, rfl, k, rfl⟩ : B2.IsList D ys.toArray) (by simpa using hall)) (by rw [sizeLine_eq]; lia) (fun (r : Int) => List.replicate r.toNat 32 ++ [9]) (fun _ x v => ∃ t, v = Value.str (sOf x) t) (fun _ _ _ _ _ h => h) (fun _ ob => ob = []) (fun _ => rfl) ?_ ?_ (fun _ _ => rfl)
    · rintro C B₁ s' ob₁ ex r v hm kB' ⟨tr, rfl⟩ rfl hob F
      have hr := bitsOf_mem hm
      refine @a_name _ _ _ _ _ _ _ _ _ _ ?_
      with_reducible rename Fm _ _ _ _ _ _ _ => F0
      refine @st_local _ _ _ _ _ _ _ _ _ _ _ _ _ _ _ F0 (by rfl) ?_ (by rfl) (by rfl)
      clear F0
      intro _ _
      refine wpAny_BinOp ?_
      refine wpAny_BinOp ?_
      with_reducible rename Fm _ _ _ _ _ _ _ => F0
      refine @e_str _ _ _ _ _ _ _ _ _ _ _ _ _ _ _ _ F0 ?_
      clear F0
      intro _ _ _
      with_reducible rename Fm _ _ _ _ _ _ _ => F0
      refine @nm_local _ _ _ _ _ _ _ _ _ _ _ _ _ _ _ _ F0 (by rfl) (by rfl) ?_ (by rfl) (by rfl) (by decide)
      rename Fm _ _ _ _ _ _ _ => F
      rw [strS]
      refine @o_mulS _ _ _ _ _ _ _ _ _ _ _ _ _ _ _ _ F (by lia) (by lia) fun _ _ F => ?_
      with_reducible rename Fm _ _ _ _ _ _ _ => F0
      refine @e_str _ _ _ _ _ _ _ _ _ _ _ _ _ _ _ _ F0 ?_
      clear F0
      intro _ _ _
      rename Fm _ _ _ _ _ _ _ => F
      rw [strT]
      refine @o_addS _ _ _ _ _ _ _ _ _ _ _ _ (List.replicate r.toNat 32) ([9]) _ _ F (by simp; lia) fun t' s₈ F => ?_
      exact ⟨B₁, [], _, Kp.rfl, rfl, ⟨_, rfl⟩, F⟩
    · intro D2 s' B3 ys2 k2 kB3 F hD2 hall2
      skip
      rename Fm _ _ _ _ _ _ _ => F
      rw [strE]
      refine @b_join _ _ _ _ _ _ _ _ _ _ _ _ _ _ _ _ F (let ⟨o, ho, r⟩ := (⟨_, hD2, rfl, k2, rfl⟩ : B3.IsList D2 ys2.toArray); ⟨o, F.kp _ _ ho, r⟩) (by simpa using hall2) (by rw [← List.length_flatten, List.length_map]; unfold runTxt at hrl; lia) fun t' s₈ F => ?_
      refine wpAny_BinOp ?_
      with_reducible rename Fm _ _ _ _ _ _ _ => F0
      refine @e_str _ _ _ _ _ _ _ _ _ _ _ _ _ _ _ _ F0 ?_
      clear F0
      intro _ _ _
      refine wpAny_BinOp ?_
      refine wpAny_BinOp ?_
      with_reducible rename Fm _ _ _ _ _ _ _ => F0
      refine @nm_cellO _ _ _ _ _ _ _ _ _ _ _ _ _ _ _ _ _ F0 (by rfl) (by rfl) (by exact List.Mem.head _) ?_ (by rfl) (by decide)
      with_reducible rename Fm _ _ _ _ _ _ _ => F0
      refine @e_int _ _ _ _ _ _ _ _ _ _ _ _ _ _ _ _ F0 ?_
      clear F0
      intro _ _ _
      rename Fm _ _ _ _ _ _ _ => F
      refine @o_div _ _ _ _ _ _ _ _ _ _ _ _ _ _ _ _ F (by lia) (PyProof.noPylong_small (by lia)) fun _ _ F => ?_
      with_reducible rename Fm _ _ _ _ _ _ _ => F0
      refine @e_int _ _ _ _ _ _ _ _ _ _ _ _ _ _ _ _ F0 ?_
      clear F0
      intro _ _ _
      rename Fm _ _ _ _ _ _ _ => F
      refine @o_mod _ _ _ _ _ _ _ _ _ _ _ _ _ _ _ _ F (by lia) fun _ _ F => ?_
      rw [strS]
      refine @o_mulS _ _ _ _ _ _ _ _ _ _ _ _ _ _ _ _ F (by lia) (by lia) fun _ _ F => ?_
      refine @o_addS _ _ _ _ _ _ _ _ _ _ _ _ _ _ _ _ F (by unfold runTxt at hrl; simp at hrl ⊢; lia) fun t' s₈ F => ?_
      with_reducible rename Fm _ _ _ _ _ _ _ => F0
      refine @e_str _ _ _ _ _ _ _ _ _ _ _ _ _ _ _ _ F0 ?_
      clear F0
      intro _ _ _
      rename Fm _ _ _ _ _ _ _ => F
      rw [strX3]
      refine @o_addS _ _ _ _ _ _ _ _ _ _ _ _ _ _ _ _ F (by unfold runTxt at hrl; simp at hrl ⊢; lia) fun t' s₈ F => ?_
      with_reducible refine @retTo_ret _ _ _ ?_
      rename Fm _ _ _ _ _ _ _ => F
      have kk := kB.trans kB3
      exact h _ _ B3 kk (fin F (fun p hp => .tail _ hp) kk)
end Mine
end
section
open PySem PySem.W PyProof.Rows PySem.Calls PySem.Spec
set_option maxRecDepth 100000
namespace Mine
theorem kn_law_text (w : World) : nsIn (KK w) mainGlobals "_law_text" = some (some (.ref 128)) := by kernel_rfl
theorem kn_law_column (w : World) : nsIn (KK w) mainGlobals "_law_column" = some (some (.ref 135)) := by kernel_rfl
theorem kn_law_front (w : World) : nsIn (KK w) mainGlobals "_law_front" = some (some (.ref 142)) := by kernel_rfl
theorem kn_law_end (w : World) : nsIn (KK w) mainGlobals "_law_end" = some (some (.ref 149)) := by kernel_rfl
theorem kn_law_most (w : World) : nsIn (KK w) mainGlobals "_law_most" = some (some (.ref 154)) := by kernel_rfl

def insI1 (rt : Bool) (f : Int → Int) (ns : List Int) (x : Int) : List Int :=
  ns.take (if rt = true then bisR (fun i => f (ns.getD i 0)) (f x) 0 ns.length else bisL (fun i => f (ns.getD i 0)) (f x) 0 ns.length) ++ x ::
  ns.drop (if rt = true then bisR (fun i => f (ns.getD i 0)) (f x) 0 ns.length else bisL (fun i => f (ns.getD i 0)) (f x) 0 ns.length)
theorem ints_ins {vs : List Value} {ns : List Int} (h : IntsAre vs ns) (p : Nat) (i : Int) (t : Tok) : IntsAre (insAt vs p (.int i t)) (ns.take p ++ i :: ns.drop p) :=
  (ints_take p h).append (.cons i t (ints_drop p h))
theorem ints_erase {vs : List Value} {ns : List Int} (h : IntsAre vs ns) (p : Nat) : IntsAre (vs.eraseIdx p) (ns.eraseIdx p) := by
  rw [List.eraseIdx_eq_take_drop_succ, List.eraseIdx_eq_take_drop_succ]
  exact (ints_take p h).append (ints_drop (p + 1) h)
theorem insI1_mem {rt : Bool} {f : Int → Int} {ns : List Int} {x y : Int} : y ∈ insI1 rt f ns x ↔ y = x ∨ y ∈ ns := by
  unfold insI1
  generalize (if rt = true then bisR (fun i => f (ns.getD i 0)) (f x) 0 ns.length else bisL (fun i => f (ns.getD i 0)) (f x) 0 ns.length) = p
  have e : y ∈ ns ↔ y ∈ ns.take p ∨ y ∈ ns.drop p := by rw [← List.mem_append, List.take_append_drop]
  rw [List.mem_append, List.mem_cons, e]
  constructor
  · rintro (h | h | h)
    · exact .inr (.inl h)
    · exact .inl h
    · exact .inr (.inr h)
  · rintro (h | h | h)
    · exact .inr (.inl h)
    · exact .inl h
    · exact .inr (.inr h)
theorem insI1_len {rt : Bool} {f : Int → Int} {ns : List Int} {x : Int} : (insI1 rt f ns x).length = ns.length + 1 := by
  unfold insI1
  generalize (if rt = true then bisR (fun i => f (ns.getD i 0)) (f x) 0 ns.length else bisL (fun i => f (ns.getD i 0)) (f x) 0 ns.length) = p
  simp; lia
abbrev LeadsAt (h : Heap) (v : Value) (T : List (List Nat)) : Prop := ∃ D ys k, v = .ref D ∧ h.get? D = some (lsO ys k) ∧ All2 (fun x v => ∃ a, v = Value.ref a ∧ LeadAt 83 h a (leadOf (sOf x))) T ys
abbrev LD (T : List (List Nat)) (k : Int) : Lead := leadOf (sOf (T.getD k.toNat []))
abbrev LN (T : List (List Nat)) (k : Int) : Int := (LD T k).n
abbrev dP (x : Int × Int) : PyData := .tuple [.int x.1, .int x.2]
/-- what waits, the pairs, the counts -/
structure FS where
  w : List Int
  p : List (Int × Int)
  c : List Int
def frontStep (f : Int → Int) (S : FS) (k : Int) : FS :=
  if k % 2 = 0 then ⟨insI1 true f S.w k, S.p, S.c⟩
  else if 0 < bisL (fun i => f (S.w.getD i 0)) (f k) 0 S.w.length then
    ⟨S.w.eraseIdx (bisL (fun i => f (S.w.getD i 0)) (f k) 0 S.w.length - 1), S.p ++ [(S.w.getD (bisL (fun i => f (S.w.getD i 0)) (f k) 0 S.w.length - 1) 0, k)], S.c ++ [((S.p.length + 1 : Nat) : Int)]⟩
  else ⟨S.w, S.p, S.c ++ [((S.p.length : Nat) : Int)]⟩
def frontOf (f : Int → Int) (xs : List Int) : FS := xs.foldl (frontStep f) ⟨[], [], []⟩
theorem frontOf_snoc {f : Int → Int} {xs : List Int} {x : Int} : frontOf f (xs ++ [x]) = frontStep f (frontOf f xs) x := by
  unfold frontOf; rw [List.foldl_append]; rfl
theorem frontStep_sz {f : Int → Int} {S : FS} {k : Int} {n : Nat} (h : S.w.length ≤ n ∧ S.p.length ≤ n ∧ S.c.length ≤ n) : (frontStep f S k).w.length ≤ n + 1 ∧ (frontStep f S k).p.length ≤ n + 1 ∧ (frontStep f S k).c.length ≤ n + 1 := by
  unfold frontStep
  split
  · refine ⟨?_, by show S.p.length ≤ _; lia, by show S.c.length ≤ _; lia⟩
    show (insI1 true f S.w k).length ≤ _
    rw [insI1_len]; lia
  · split
    · refine ⟨?_, ?_, ?_⟩
      · show (S.w.eraseIdx _).length ≤ _
        rw [List.length_eraseIdx]; split <;> lia
      · show (S.p ++ [_]).length ≤ _
        rw [List.length_append]; simp; lia
      · show (S.c ++ [_]).length ≤ _
        rw [List.length_append]; simp; lia
    · refine ⟨by show S.w.length ≤ _; lia, by show S.p.length ≤ _; lia, ?_⟩
      show (S.c ++ [_]).length ≤ _
      rw [List.length_append]; simp; lia
theorem frontOf_sz {f : Int → Int} : ∀ (xs : List Int) (S : FS) (n : Nat), S.w.length ≤ n ∧ S.p.length ≤ n ∧ S.c.length ≤ n → (xs.foldl (frontStep f) S).w.length ≤ n + xs.length ∧ (xs.foldl (frontStep f) S).p.length ≤ n + xs.length ∧ (xs.foldl (frontStep f) S).c.length ≤ n + xs.length
  | [], _, _, h => h
  | x :: r, S, n, h => by
    have := frontOf_sz (f := f) r (frontStep f S x) (n + 1) (frontStep_sz h)
    rw [List.foldl_cons, List.length_cons]; lia
theorem frontOf_bd {f : Int → Int} (xs : List Int) : (frontOf f xs).w.length ≤ xs.length ∧ (frontOf f xs).p.length ≤ xs.length ∧ (frontOf f xs).c.length ≤ xs.length := by
  have := frontOf_sz (f := f) xs ⟨[], [], []⟩ 0 ⟨Nat.le_refl _, Nat.le_refl _, Nat.le_refl _⟩
  rw [Nat.zero_add] at this
  exact this
theorem frontStep_mem {f : Int → Int} {S : FS} {k y : Int} (h : y ∈ (frontStep f S k).w) : y = k ∨ y ∈ S.w := by
  unfold frontStep at h
  split at h
  · exact insI1_mem.mp h
  · split at h
    · exact .inr (List.mem_of_mem_eraseIdx h)
    · exact .inr h
theorem frontOf_mem {f : Int → Int} : ∀ (xs : List Int) (S : FS) {y : Int}, y ∈ (xs.foldl (frontStep f) S).w → y ∈ xs ∨ y ∈ S.w
  | [], _, _, h => .inr h
  | x :: r, S, y, h => by
    rcases frontOf_mem r _ h with h | h
    · exact .inl (.tail _ h)
    · rcases frontStep_mem h with rfl | h
      · exact .inl (.head _)
      · exact .inr h
theorem TabK.other {B B2 : Heap} {pos : Pos} {q : Str} {tb tb2 : Array Value} (x : TabK B pos q tb) (h1 : TriplesOk tb2.toList) (h2 : codeAmong pos tb2.toList = codeAmong pos tb.toList) (k : Kp B B2) : TabK B2 pos q tb2 := by
  have y := x.kp k
  exact ⟨h1, by rw [h2]; exact y.2⟩
abbrev tabs2 (B : Heap) (q : Str) (p1 p2 : Pos) (tb : Array Value) : Prop := TabK B p1 q tb ∧ TabK B p2 q tb
theorem bisL_key2 {w : World} {A : Around} {s : Shared} {a kf : Addr} {x : Int} {tx : Tok} {vs : Array Value} {ns : List Int} {f : Int → Int} {Q E} (R : Rm A 8) (G : Gd (KK w) s.heap)
    (ha : s.heap.IsList a vs) (hI : IntsAre vs.toList ns) (hz : ns.length < 1000) (hk : KeyOk PP w s.heap kf ns f)
    (h : ∀ t s', Gr s s' → Q (.int (bisL (fun i => f (ns.getD i 0)) x 0 ns.length) t) s') : wpAny (model PP w) A (call (.ref 123) [.ref a, .int x tx] [("key", .ref kf)]) Q E s := by
  obtain ⟨tl, hb⟩ := bindL2 (a := a) (x := x) (t := tx) (kf := .ref kf) G
  exact bisL_key R G ha hI hz hk hb h
set_option maxHeartbeats 4000000 in
theorem front_spec {w : World} {A : Around} {s₀ s : Shared} {B : Heap} {L : Addr} {l : Ls} {ob : Ob} {lv dv : Value} {T : List (List Nat)} {xs : List Int} {tb : Array Value} {Q E} (F : Fm (KK w) s₀ B L s l ((137, tabObj tb) :: ob)) (R : Rm A 15) (bi : BI 137 B) (htb : tabs2 B "_law_front.<locals>.<lambda>" ⟨131, 41, 131, 65⟩ ⟨133, 57, 133, 81⟩ tb)
    (hlv : Rd B lv (dIs xs)) (hdv : LeadsAt B dv T) (hT : T.length = 10) (hxs : xs.length ≤ 10 ∧ ∀ x ∈ xs, 0 ≤ x ∧ x < 10)
    (h : ∀ v' s' B' tb', Kp B B' → Fm (KK w) s₀ B' L s' l ((137, tabObj tb') :: ob) → tabs2 B' "_law_front.<locals>.<lambda>" ⟨131, 41, 131, 65⟩ ⟨133, 57, 133, 81⟩ tb' → Rd B' v' (.tuple [.list ((frontOf (LN T) xs).p.map dP), dIs (frontOf (LN T) xs).c]) → Q v' s') : wpAny (model PP w) A (call (.ref 142) [lv, dv]) Q E s := by
  refine @call_fnG _ _ _ _ _ _ _ _ _ _ _ _ [("line", lv), ("leads", dv)] _ _ _ _ _ _ _ _ _ _ _ _ _ _ _ _ _ _ _ _ F R (by rfl) (by rfl) (BindsTo.of_eq (by rfl)) (fun L' s₁ A' A₁ oL hL F' R' => ?_) (by rfl) (by rfl)
  have fin : ∀ {B₂ : Heap} {s'' : Shared} {l'' : Ls} {ob'' : Ob} {tb' : Array Value}, Fm (KK w) s B₂ L' s'' l'' ob'' → (∀ p ∈ (L, oL) :: (137, tabObj tb') :: ob, p ∈ ob'') → Kp B B₂ → Fm (KK w) s₀ B₂ L s'' l ((137, tabObj tb') :: ob) := fun F' hm k => F.leaveT hL F' hm k
  clear F
  have hh := R'.h
  have hKc : codeHdIn (KK w) 141 137 = true := by kernel_rfl
  obtain ⟨Dl, yl, kl, rfl, hDl, hal⟩ := hdv
  replace F' : Fm (KK w) s B L' s₁ [] ((L' + 1, cellO none) :: (L, oL) :: (137, tabObj tb) :: ob) := F'
  refine @binds_cons _ _ _ _ _ _ _ _ _ ?_
  with_reducible rename Fm _ _ _ _ _ _ _ => F0
  refine @st_local _ _ _ _ _ _ _ _ _ _ _ _ _ _ _ F0 (by rfl) ?_ (by rfl) (by rfl)
  clear F0
  intro _ _
  refine @binds_cons _ _ _ _ _ _ _ _ _ ?_
  with_reducible rename Fm _ _ _ _ _ _ _ => F0
  refine @st_cell _ _ _ _ _ _ _ _ _ _ _ _ _ _ _ _ _ _ F0 (by rfl) (by rfl) (by exact UpO.head _) ?_ (by rfl)
  clear F0
  intro _ _
  refine @binds_nil _ _ _ _ _ _ ?_
  with_reducible rename Fm _ _ _ _ _ _ _ => F0
  refine ⟨Fm.gdh F0, ?_⟩
  refine @s_assign _ _ _ _ _ _ _ _ _ _ _ ?_ (by rfl)
  refine @e_list _ _ _ _ _ _ _ _ _ ?_
  refine @sp_nil _ _ _ _ _ _ _ _ ?_
  with_reducible rename Fm _ _ _ _ _ _ _ => F0
  refine @n_list _ _ _ _ _ _ _ _ _ _ _ _ _ F0 (by simp [sizeLine_eq]) ?_
  clear F0
  intro _ _ _
  with_reducible rename Fm _ _ _ _ _ _ _ => F0
  refine @st_local _ _ _ _ _ _ _ _ _ _ _ _ _ _ _ F0 (by rfl) ?_ (by rfl) (by rfl)
  clear F0
  intro _ _
  refine @s_assign _ _ _ _ _ _ _ _ _ _ _ ?_ (by rfl)
  refine @e_list _ _ _ _ _ _ _ _ _ ?_
  refine @sp_nil _ _ _ _ _ _ _ _ ?_
  with_reducible rename Fm _ _ _ _ _ _ _ => F0
  refine @n_list _ _ _ _ _ _ _ _ _ _ _ _ _ F0 (by simp [sizeLine_eq]) ?_
  clear F0
  intro _ _ _
  with_reducible rename Fm _ _ _ _ _ _ _ => F0
  refine @st_local _ _ _ _ _ _ _ _ _ _ _ _ _ _ _ F0 (by rfl) ?_ (by rfl) (by rfl)
  clear F0
  intro _ _
  refine @s_assign _ _ _ _ _ _ _ _ _ _ _ ?_ (by rfl)
  refine @e_list _ _ _ _ _ _ _ _ _ ?_
  refine @sp_nil _ _ _ _ _ _ _ _ ?_
  with_reducible rename Fm _ _ _ _ _ _ _ => F0
  refine @n_list _ _ _ _ _ _ _ _ _ _ _ _ _ F0 (by simp [sizeLine_eq]) ?_
  clear F0
  intro _ _ _
  with_reducible rename Fm _ _ _ _ _ _ _ => F0
  refine @st_local _ _ _ _ _ _ _ _ _ _ _ _ _ _ _ F0 (by rfl) ?_ (by rfl) (by rfl)
  clear F0
  intro _ _
  refine @s_for _ _ _ _ _ _ _ _ _ _ _ _ ?_ (by intro _; rfl)
  with_reducible rename Fm _ _ _ _ _ _ _ => F0
  refine @nm_local _ _ _ _ _ _ _ _ _ _ _ _ _ _ _ _ F0 (by rfl) (by rfl) ?_ (by rfl) (by rfl) (by decide)
  rename Fm _ _ _ _ _ _ _ => F
  obtain ⟨B0, k0, F, g1⟩ := F.freezeAt (.tail _ (.tail _ (.tail _ (.head _))))
  obtain ⟨Wa, Pa, Ca, F⟩ : ∃ Wa Pa Ca, Fm (KK w) s B0 L' _ [("line", lv), ("waiting", .ref Wa), ("pairs", .ref Pa), ("counts", .ref Ca)] ((Ca, lsO [] 0) :: (Pa, lsO [] 0) :: (Wa, lsO [] 0) :: (L, oL) :: (137, tabObj tb) :: ob) :=
    ⟨_, _, _, F.sub ⟨rfl, rfl, rfl, rfl, trivial⟩⟩
  refine @for_iterB _ _ _ _ _ _ _ _ _ _ _ _ _ _ _ _ _ _ _ F (it_ints hh F.kp (hlv.kp k0)) (fun i B₁ l₁ ob₁ => l₁ = ([("line", lv), ("waiting", .ref Wa), ("pairs", .ref Pa), ("counts", .ref Ca)] : Ls) ∧ ∃ vs n ps np cs nc tb, ob₁ = (Ca, lsO cs nc) :: (Pa, lsO ps np) :: (Wa, lsO vs n) :: (L, oL) :: (137, tabObj tb) :: ob ∧
    IntsAre vs (frontOf (LN T) (xs.take i)).w ∧ RdL B₁ ((frontOf (LN T) (xs.take i)).p.map dP) ps ∧ IntsAre cs (frontOf (LN T) (xs.take i)).c ∧ tabs2 B₁ "_law_front.<locals>.<lambda>" ⟨131, 41, 131, 65⟩ ⟨133, 57, 133, 81⟩ tb) ⟨rfl, [], 0, [], 0, [], 0, tb, rfl, .nil, .nil, .nil, htb.1.kp k0, htb.2.kp k0⟩ ?_ ?_
  · rintro i B₁ s₅ l₁ ob₁ ex xv hi kB ⟨rfl, vs, n, ps, np, cs, nc, tb, rfl, hI, hP, hC, htk1, htk2⟩ ⟨x, hx, t, rfl⟩ F
    have hxm := hxs.2 x (List.mem_of_getElem? hx)
    have hi10 : i < 10 := by omega
    obtain ⟨z1, z2, z3⟩ := frontOf_bd (f := LN T) (xs.take i)
    rw [List.length_take] at z1 z2 z3
    have hwm : ∀ y ∈ (frontOf (LN T) (xs.take i)).w, 0 ≤ y ∧ y < 10 := fun y hy => by
      rcases frontOf_mem _ _ hy with hy | hy
      · exact hxs.2 y (List.mem_of_mem_take hy)
      · cases hy
    have htake : xs.take (i + 1) = xs.take i ++ [x] := by rw [List.take_add_one, hx]; rfl
    have hsucc : frontOf (LN T) (xs.take (i + 1)) = frontStep (LN T) (frontOf (LN T) (xs.take i)) x := by rw [htake, frontOf_snoc]
    obtain ⟨S, hS⟩ : ∃ S, S = frontOf (LN T) (xs.take i) := ⟨_, rfl⟩
    replace z1 : S.w.length ≤ 10 := by rw [hS]; lia
    replace z2 : S.p.length ≤ 10 := by rw [hS]; lia
    replace z3 : S.c.length ≤ 10 := by rw [hS]; lia
    rw [← hS] at hI hP hC hwm hsucc
    rw [hsucc]
    have kk := k0.trans kB
    have hT6 : ∀ k : Int, 0 ≤ k → k < 10 → T[k.toNat]? = some (T.getD k.toNat []) := fun k h1 h2 => by
      rw [List.getD_eq_getElem?_getD, List.getElem?_eq_getElem (by lia)]; rfl
    with_reducible rename Fm _ _ _ _ _ _ _ => F0
    refine @st_local _ _ _ _ _ _ _ _ _ _ _ _ _ _ _ F0 (by rfl) ?_ (by rfl) (by rfl)
    clear F0
    intro _ _
    refine @s_if _ _ _ _ _ _ _ _ _ _ _ ?_
    refine wpAny_isTrue_Compare1 ?_ (by rfl)
    refine wpAny_BinOp ?_
    with_reducible rename Fm _ _ _ _ _ _ _ => F0
    refine @nm_local _ _ _ _ _ _ _ _ _ _ _ _ _ _ _ _ F0 (by rfl) (by rfl) ?_ (by rfl) (by rfl) (by decide)
    with_reducible rename Fm _ _ _ _ _ _ _ => F0
    refine @e_int _ _ _ _ _ _ _ _ _ _ _ _ _ _ _ _ F0 ?_
    clear F0
    intro _ _ _
    rename Fm _ _ _ _ _ _ _ => F
    refine @o_mod _ _ _ _ _ _ _ _ _ _ _ _ _ _ _ _ F (by lia) fun _ _ F => ?_
    with_reducible rename Fm _ _ _ _ _ _ _ => F0
    refine @e_int _ _ _ _ _ _ _ _ _ _ _ _ _ _ _ _ F0 ?_
    clear F0
    intro _ _ _
    refine @c_eq _ _ _ _ _ _ _ _ _ _ ?_
    refine wpAny_truthy_bool ?_
    refine @ite_d _ _ _ _ (fun c1 => ?_) (fun c1 => ?_)
    · refine @s_expr _ _ _ _ _ _ _ _ _ _ ?_ (by rfl) (by rfl)
      refine @e_callkw _ _ _ _ _ _ _ _ _ _ _ _ ?_
      with_reducible rename Fm _ _ _ _ _ _ _ => F0
      refine @nm_glob _ _ _ _ _ _ _ _ _ _ _ _ _ _ _ _ F0 (by rfl) (by exact kn_insort_right _) ?_ (by rfl) (by rfl) (by decide)
      with_reducible rename Fm _ _ _ _ _ _ _ => F0
      refine @cw_KW _ _ _ _ _ _ _ _ _ _ _ _ _ _ _ _ (Fm.gdh F0) (by rfl) ?_ (by rfl) (by rfl)
      refine @sp_cons _ _ _ _ _ _ _ _ _ _ ?_ (by rfl)
      with_reducible rename Fm _ _ _ _ _ _ _ => F0
      refine @nm_local _ _ _ _ _ _ _ _ _ _ _ _ _ _ _ _ F0 (by rfl) (by rfl) ?_ (by rfl) (by rfl) (by decide)
      refine @sp_cons _ _ _ _ _ _ _ _ _ _ ?_ (by rfl)
      with_reducible rename Fm _ _ _ _ _ _ _ => F0
      refine @nm_local _ _ _ _ _ _ _ _ _ _ _ _ _ _ _ _ F0 (by rfl) (by rfl) ?_ (by rfl) (by rfl) (by decide)
      refine @sp_nil _ _ _ _ _ _ _ _ ?_
      rename Fm _ _ _ _ _ _ _ => F
      refine @e_lamB _ _ _ _ _ _ _ _ _ _ _ _ _ _ _ _ _ _ _ _ (fun o => (Ca, lsO cs nc) :: (Pa, lsO ps np) :: (Wa, lsO vs n) :: (L, oL) :: (137, o) :: ob ++ ex) _ F (bi.kp kk) htk1 (by rfl) (by rfl) (by rfl) (by rfl) hKc (fun o => .tail _ (.tail _ (.tail _ (.tail _ (.head _))))) rfl fun f s₆ B2 tb2 k2 la tk2 hps F => ?_
      have hcall : KeyOk PP w B2 f (x :: S.w) (LN T) := by
        have G2 := F.gd
        refine ⟨let ⟨pm, cv, ctv, h1, _⟩ := la.is; ⟨_, _, h1, rfl⟩, fun A Q E s v t k R hv hq => ?_⟩
        have hv6 : 0 ≤ v ∧ v < 10 := by
          rcases List.mem_cons.mp hv with rfl | hv
          · exact hxm
          · exact hwm v hv
        refine @call_lam _ _ _ _ _ _ _ _ _ _ _ _ _ _ [("one", .int v t)] _ R (G2.kp k) (la.kp k) (by intro _ _ _; rfl) (by rfl) (by rfl) (fun L' s' A' cv' hL F' R' => ?_) (by rfl) (by rfl) (by rfl)
        have gl := k _ _ (k2 _ _ (kB _ _ g1))
        obtain ⟨y, hy, a, rfl, lat⟩ := hal.get (hT6 v hv6.1 hv6.2)
        have lat' := lat.kp ((kk.trans k2).trans k)
        refine Attribute_any_ ?_
        refine Subscript_ ?_
        with_reducible rename Fm _ _ _ _ _ _ _ => F0
        refine @nm_freeB _ _ _ _ _ _ _ _ _ _ _ _ _ _ _ _ _ F0 (by rfl) (by rfl) (by assumption) ?_ (by rfl) (by decide) (by decide)
        with_reducible rename Fm _ _ _ _ _ _ _ => F0
        refine @nm_local _ _ _ _ _ _ _ _ _ _ _ _ _ _ _ _ F0 (by rfl) (by rfl) ?_ (by rfl) (by rfl) (by decide)
        rename Fm _ _ _ _ _ _ _ => F
        refine @sub_list _ _ _ _ _ _ _ _ _ _ (yl.toArray) _ _ (isList_kp (⟨_, hDl, rfl, kl, rfl⟩ : B.IsList Dl yl.toArray) (((kk.trans k2).trans k).trans F.kp)) hv6.1 (by lia) (by simpa using hy) ?_ (by with_unfolding_all rfl)
        with_reducible rename Fm _ _ _ _ _ _ _ => F0
        refine @ga_n _ _ _ _ _ _ _ _ _ _ _ _ _ _ _ _ _ _ _ (leadK _) F0 (by assumption) ?_
        clear F0
        intro _ _ _
        rename Fm _ _ _ _ _ _ _ => F
        exact hq _ _ ⟨F.sm, F.kp⟩
      with_reducible rename Fm _ _ _ _ _ _ _ => F0
      refine ⟨Fm.gdh F0, ?_⟩
      rename Fm _ _ _ _ _ _ _ => F
      have kh : Kp B2 (Shared.heap _ |>.hide Wa) := F.kpHide (.tail _ (.tail _ (.head _)))
      refine @insR_key _ _ _ _ _ _ _ _ _ _ _ _ _ (R'.le (by lia)) (F.gd.kp kh) (F.get (.tail _ (.tail _ (.head _)))) hI (by lia) (hcall.kp kh fun y hy => hy) fun s₇ hs hk ha => ?_
      replace F := F.upH (.tail _ (.tail _ (.head _))) hk ha hs
      refine @s_nil _ _ _ _ _ _ ?_
      with_reducible refine @then_next _ _ _ _ _ _ _ ?_
      refine @s_nil _ _ _ _ _ _ ?_
      with_reducible refine @lp_next _ _ _ ?_
      rename Fm _ _ _ _ _ _ _ => F
      refine ⟨B2, _, _, k2, ⟨rfl, _, _, _, _, _, _, tb2, rfl, ?_, ?_, ?_, tk2, htk2.other tk2.1 (hps _ (by simp)) k2⟩, F.sub ⟨rfl, rfl, rfl, rfl, trivial⟩⟩
      · unfold frontStep; rw [if_pos c1]; exact ints_ins hI _ _ _
      · unfold frontStep; rw [if_pos c1]; exact hP.kp k2
      · unfold frontStep; rw [if_pos c1]; exact hC
    · have gl1 := kB _ _ g1
      obtain ⟨y0, hy0, a0, rfl, la0⟩ := hal.get (hT6 x hxm.1 hxm.2)
      replace la0 := la0.kp kk
      refine @s_assign _ _ _ _ _ _ _ _ _ _ _ ?_ (by rfl)
      refine @e_callkw _ _ _ _ _ _ _ _ _ _ _ _ ?_
      with_reducible rename Fm _ _ _ _ _ _ _ => F0
      refine @nm_glob _ _ _ _ _ _ _ _ _ _ _ _ _ _ _ _ F0 (by rfl) (by exact kn_bisect_left _) ?_ (by rfl) (by rfl) (by decide)
      with_reducible rename Fm _ _ _ _ _ _ _ => F0
      refine @cw_KW _ _ _ _ _ _ _ _ _ _ _ _ _ _ _ _ (Fm.gdh F0) (by rfl) ?_ (by rfl) (by rfl)
      refine @sp_cons _ _ _ _ _ _ _ _ _ _ ?_ (by rfl)
      with_reducible rename Fm _ _ _ _ _ _ _ => F0
      refine @nm_local _ _ _ _ _ _ _ _ _ _ _ _ _ _ _ _ F0 (by rfl) (by rfl) ?_ (by rfl) (by rfl) (by decide)
      refine @sp_cons _ _ _ _ _ _ _ _ _ _ ?_ (by rfl)
      refine Attribute_any_ ?_
      refine Subscript_ ?_
      with_reducible rename Fm _ _ _ _ _ _ _ => F0
      refine @nm_cellB _ _ _ _ _ _ _ _ _ _ _ _ _ _ _ _ _ F0 (by rfl) (by rfl) (by assumption) ?_ (by rfl) (by decide)
      with_reducible rename Fm _ _ _ _ _ _ _ => F0
      refine @nm_local _ _ _ _ _ _ _ _ _ _ _ _ _ _ _ _ F0 (by rfl) (by rfl) ?_ (by rfl) (by rfl) (by decide)
      rename Fm _ _ _ _ _ _ _ => F
      refine @sub_list _ _ _ _ _ _ _ _ _ _ (yl.toArray) _ _ (isList_kp (⟨_, hDl, rfl, kl, rfl⟩ : B.IsList Dl yl.toArray) (kk.trans F.kp)) hxm.1 (by omega) (by simpa using hy0) ?_ (by with_unfolding_all rfl)
      with_reducible rename Fm _ _ _ _ _ _ _ => F0
      refine @ga_n _ _ _ _ _ _ _ _ _ _ _ _ _ _ _ _ _ _ _ (leadK _) F0 (by assumption) ?_
      clear F0
      intro _ _ _
      refine @sp_nil _ _ _ _ _ _ _ _ ?_
      rename Fm _ _ _ _ _ _ _ => F
      refine @e_lamB _ _ _ _ _ _ _ _ _ _ _ _ _ _ _ _ _ _ _ _ (fun o => (Ca, lsO cs nc) :: (Pa, lsO ps np) :: (Wa, lsO vs n) :: (L, oL) :: (137, o) :: ob ++ ex) _ F (bi.kp kk) htk2 (by rfl) (by rfl) (by rfl) (by rfl) hKc (fun o => .tail _ (.tail _ (.tail _ (.tail _ (.head _))))) rfl fun f s₆ B2 tb2 k2 la tk2 hps F => ?_
      have hcall : KeyOk PP w B2 f (S.w) (LN T) := by
        have G2 := F.gd
        refine ⟨let ⟨pm, cv, ctv, h1, _⟩ := la.is; ⟨_, _, h1, rfl⟩, fun A Q E s v t k R hv hq => ?_⟩
        have hv6 : 0 ≤ v ∧ v < 10 := hwm v hv
        refine @call_lam _ _ _ _ _ _ _ _ _ _ _ _ _ _ [("one", .int v t)] _ R (G2.kp k) (la.kp k) (by intro _ _ _; rfl) (by rfl) (by rfl) (fun L' s' A' cv' hL F' R' => ?_) (by rfl) (by rfl) (by rfl)
        have gl := k _ _ (k2 _ _ (kB _ _ g1))
        obtain ⟨y, hy, a, rfl, lat⟩ := hal.get (hT6 v hv6.1 hv6.2)
        have lat' := lat.kp ((kk.trans k2).trans k)
        refine Attribute_any_ ?_
        refine Subscript_ ?_
        with_reducible rename Fm _ _ _ _ _ _ _ => F0
        refine @nm_freeB _ _ _ _ _ _ _ _ _ _ _ _ _ _ _ _ _ F0 (by rfl) (by rfl) (by assumption) ?_ (by rfl) (by decide) (by decide)
        with_reducible rename Fm _ _ _ _ _ _ _ => F0
        refine @nm_local _ _ _ _ _ _ _ _ _ _ _ _ _ _ _ _ F0 (by rfl) (by rfl) ?_ (by rfl) (by rfl) (by decide)
        rename Fm _ _ _ _ _ _ _ => F
        refine @sub_list _ _ _ _ _ _ _ _ _ _ (yl.toArray) _ _ (isList_kp (⟨_, hDl, rfl, kl, rfl⟩ : B.IsList Dl yl.toArray) (((kk.trans k2).trans k).trans F.kp)) hv6.1 (by lia) (by simpa using hy) ?_ (by with_unfolding_all rfl)
        with_reducible rename Fm _ _ _ _ _ _ _ => F0
        refine @ga_n _ _ _ _ _ _ _ _ _ _ _ _ _ _ _ _ _ _ _ (leadK _) F0 (by assumption) ?_
        clear F0
        intro _ _ _
        rename Fm _ _ _ _ _ _ _ => F
        exact hq _ _ ⟨F.sm, F.kp⟩
      with_reducible rename Fm _ _ _ _ _ _ _ => F0
      refine ⟨Fm.gdh F0, ?_⟩
      rename Fm _ _ _ _ _ _ _ => F
      refine @bisL_key2 _ _ _ _ _ _ _ _ _ _ _ _ (R'.le (by lia)) F.gdh ⟨_, F.get (.tail _ (.tail _ (.head _))), rfl, n, rfl⟩ (by simpa using hI) (by lia) (hcall.kp F.kp fun y hy => hy) fun t' s₇ g => ?_
      replace F := F.gr g
      obtain ⟨q, hq⟩ : ∃ q, q = bisL (fun i => LN T (S.w.getD i 0)) (LN T x) 0 S.w.length := ⟨_, rfl⟩
      have hql : q ≤ S.w.length := by rw [hq]; exact bisL_le _ _ _ _ (Nat.zero_le _)
      rw [show bisL (fun i => LN T (S.w.getD i 0)) (leadOf (sOf (T.getD x.toNat []))).n 0 S.w.length = q from hq.symm]
      have hvl : vs.length = S.w.length := hI.length
      have hpl : ps.length = S.p.length := by have := hP.length; rw [List.length_map] at this; exact this.symm
      have hcl : cs.length = S.c.length := hC.length
      with_reducible rename Fm _ _ _ _ _ _ _ => F0
      refine @st_local _ _ _ _ _ _ _ _ _ _ _ _ _ _ _ F0 (by rfl) ?_ (by rfl) (by rfl)
      clear F0
      intro _ _
      refine @s_if _ _ _ _ _ _ _ _ _ _ _ ?_
      refine wpAny_isTrue_Compare1 ?_ (by rfl)
      with_reducible rename Fm _ _ _ _ _ _ _ => F0
      refine @nm_local _ _ _ _ _ _ _ _ _ _ _ _ _ _ _ _ F0 (by rfl) (by rfl) ?_ (by rfl) (by rfl) (by decide)
      with_reducible rename Fm _ _ _ _ _ _ _ => F0
      refine @e_int _ _ _ _ _ _ _ _ _ _ _ _ _ _ _ _ F0 ?_
      clear F0
      intro _ _ _
      refine @c_gt _ _ _ _ _ _ _ _ _ _ ?_
      refine wpAny_truthy_bool ?_
      refine @ite_d _ _ _ _ (fun c2 => ?_) (fun c2 => ?_)
      · have hq0 : 0 < q := by lia
        have hgt : vs[((q : Int) - 1).toNat]? = some vs[q - 1] := by
          rw [show ((q : Int) - 1).toNat = q - 1 by lia]; exact List.getElem?_eq_getElem (by omega)
        obtain ⟨ty, hyv⟩ := hI.get (q - 1) (S.w.getD (q - 1) 0) (by rw [List.getD_eq_getElem?_getD, List.getElem?_eq_getElem (by lia)]; rfl)
        refine @s_expr _ _ _ _ _ _ _ _ _ _ ?_ (by rfl) (by rfl)
        refine @e_meth _ _ _ _ _ _ _ _ _ _ _ _ ?_ (by rfl) (by rfl) (by rfl)
        with_reducible rename Fm _ _ _ _ _ _ _ => F0
        refine @nm_local _ _ _ _ _ _ _ _ _ _ _ _ _ _ _ _ F0 (by rfl) (by rfl) ?_ (by rfl) (by rfl) (by decide)
        with_reducible rename Fm _ _ _ _ _ _ _ => F0
        refine @gm_list _ _ _ _ _ _ _ _ _ _ _ _ (Fm.get F0 (by exact List.Mem.tail _ (List.Mem.head _))) PySem.F.slot_list_append PySem.F.type_list_append ?_
        refine @cwb_M1 _ _ _ _ _ _ _ _ _ _ _ ?_ (by rfl)
        refine @e_tuple _ _ _ _ _ _ _ _ _ _ ?_
        refine @sp_cons _ _ _ _ _ _ _ _ _ _ ?_ (by rfl)
        refine @e_meth _ _ _ _ _ _ _ _ _ _ _ _ ?_ (by rfl) (by rfl) (by rfl)
        with_reducible rename Fm _ _ _ _ _ _ _ => F0
        refine @nm_local _ _ _ _ _ _ _ _ _ _ _ _ _ _ _ _ F0 (by rfl) (by rfl) ?_ (by rfl) (by rfl) (by decide)
        rename Fm _ _ _ _ _ _ _ => F
        refine @gm_list _ _ _ _ _ _ _ _ _ _ _ _ (F.get (.tail _ (.tail _ (.head _)))) PySem.F.slot_list_pop PySem.F.type_list_pop ?_
        refine @cwb_M1 _ _ _ _ _ _ _ _ _ _ _ ?_ (by rfl)
        refine wpAny_BinOp ?_
        with_reducible rename Fm _ _ _ _ _ _ _ => F0
        refine @nm_local _ _ _ _ _ _ _ _ _ _ _ _ _ _ _ _ F0 (by rfl) (by rfl) ?_ (by rfl) (by rfl) (by decide)
        with_reducible rename Fm _ _ _ _ _ _ _ => F0
        refine @e_int _ _ _ _ _ _ _ _ _ _ _ _ _ _ _ _ F0 ?_
        clear F0
        intro _ _ _
        with_reducible rename Fm _ _ _ _ _ _ _ => F0
        refine @o_sub _ _ _ _ _ _ _ _ _ _ _ _ _ _ _ _ F0 ?_
        clear F0
        intro _ _ _
        rename Fm _ _ _ _ _ _ _ => F
        refine @m_pop _ _ _ _ _ _ _ _ _ _ _ _ _ _ _ _ _ (.int (S.w.getD (q - 1) 0) ty) _ F (by lia) (by lia) (by rw [sizeLine_eq]; lia) (by rw [show ((q : Int) - 1).toNat = q - 1 by lia]; exact hyv) (.tail _ (.tail _ (.head _))) fun s₈ F => ?_
        rw [show ((q : Int) - 1).toNat = q - 1 by lia] at F
        refine @sp_cons _ _ _ _ _ _ _ _ _ _ ?_ (by rfl)
        with_reducible rename Fm _ _ _ _ _ _ _ => F0
        refine @nm_local _ _ _ _ _ _ _ _ _ _ _ _ _ _ _ _ F0 (by rfl) (by rfl) ?_ (by rfl) (by rfl) (by decide)
        refine @sp_nil _ _ _ _ _ _ _ _ ?_
        with_reducible rename Fm _ _ _ _ _ _ _ => F0
        refine @n_tuple _ _ _ _ _ _ _ _ _ _ _ _ _ F0 (by simp [sizeLine_eq]) ?_
        clear F0
        intro _ _ _
        rename Fm _ _ _ _ _ _ _ => F
        obtain ⟨B3, k3, F, g3⟩ := F.freezeAt (.head _)
        refine @m_append _ _ _ _ _ _ _ _ _ _ _ _ _ _ _ _ _ F (.tail _ (.head _)) (by rw [sizeLine_eq]; lia) fun s₉ F => ?_
        refine @s_nil _ _ _ _ _ _ ?_
        with_reducible refine @then_next _ _ _ _ _ _ _ ?_
        refine @s_expr _ _ _ _ _ _ _ _ _ _ ?_ (by rfl) (by rfl)
        refine @e_meth _ _ _ _ _ _ _ _ _ _ _ _ ?_ (by rfl) (by rfl) (by rfl)
        with_reducible rename Fm _ _ _ _ _ _ _ => F0
        refine @nm_local _ _ _ _ _ _ _ _ _ _ _ _ _ _ _ _ F0 (by rfl) (by rfl) ?_ (by rfl) (by rfl) (by decide)
        with_reducible rename Fm _ _ _ _ _ _ _ => F0
        refine @gm_list _ _ _ _ _ _ _ _ _ _ _ _ (Fm.get F0 (by exact List.Mem.head _)) PySem.F.slot_list_append PySem.F.type_list_append ?_
        refine @cwb_M1 _ _ _ _ _ _ _ _ _ _ _ ?_ (by rfl)
        refine @e_call _ _ _ _ _ _ _ _ _ _ _ ?_
        with_reducible rename Fm _ _ _ _ _ _ _ => F0
        refine @nm_bi _ _ _ _ _ _ _ _ _ _ _ _ _ _ _ _ F0 (by rfl) (by rfl) (by exact bb_len) ?_ (by rfl) (by rfl) (by rfl) (by decide) (by decide)
        refine @cw_bi1 _ _ _ _ _ _ _ _ _ _ ?_ (by rfl)
        with_reducible rename Fm _ _ _ _ _ _ _ => F0
        refine @nm_local _ _ _ _ _ _ _ _ _ _ _ _ _ _ _ _ F0 (by rfl) (by rfl) ?_ (by rfl) (by rfl) (by decide)
        rename Fm _ _ _ _ _ _ _ => F
        refine @b_len_list _ _ _ _ _ _ _ _ _ _ _ _ _ _ F ⟨_, F.get (.tail _ (.head _)), rfl, _, rfl⟩ (by simp; lia) fun u s₁₀ F => ?_
        refine @m_append _ _ _ _ _ _ _ _ _ _ _ _ _ _ _ _ _ F (.head _) (by rw [sizeLine_eq]; lia) fun s₁₁ F => ?_
        refine @s_nil _ _ _ _ _ _ ?_
        with_reducible refine @then_next _ _ _ _ _ _ _ ?_
        refine @s_nil _ _ _ _ _ _ ?_
        with_reducible refine @lp_next _ _ _ ?_
        rename Fm _ _ _ _ _ _ _ => F
        refine ⟨B3, _, _, k2.trans k3, ⟨rfl, _, _, _, _, _, _, tb2, rfl, ?_, ?_, ?_, (htk1.other tk2.1 (hps _ (by simp)) k2).kp k3, tk2.kp k3⟩, F.sub ⟨rfl, rfl, rfl, rfl, trivial⟩⟩
        · unfold frontStep; rw [if_neg c1, ← hq, if_pos hq0]; exact ints_erase hI _
        · unfold frontStep; rw [if_neg c1, ← hq, if_pos hq0]
          show RdL B3 ((S.p ++ [_]).map dP) _
          rw [List.map_append]
          exact (hP.kp (k2.trans k3)).append (.cons (Rd.tup g3 (.cons Rd.int (.cons Rd.int .nil))) .nil)
        · unfold frontStep; rw [if_neg c1, ← hq, if_pos hq0]
          show IntsAre _ (S.c ++ [_])
          have e : ∀ v : Value, (((ps ++ [v]).toArray.size : Nat) : Int) = ((S.p.length + 1 : Nat) : Int) := by intro v; simp; lia
          rw [e]
          exact ints_snoc hC _ _
      · have hq0 : ¬ 0 < q := by lia
        refine @s_nil _ _ _ _ _ _ ?_
        with_reducible refine @then_next _ _ _ _ _ _ _ ?_
        refine @s_expr _ _ _ _ _ _ _ _ _ _ ?_ (by rfl) (by rfl)
        refine @e_meth _ _ _ _ _ _ _ _ _ _ _ _ ?_ (by rfl) (by rfl) (by rfl)
        with_reducible rename Fm _ _ _ _ _ _ _ => F0
        refine @nm_local _ _ _ _ _ _ _ _ _ _ _ _ _ _ _ _ F0 (by rfl) (by rfl) ?_ (by rfl) (by rfl) (by decide)
        with_reducible rename Fm _ _ _ _ _ _ _ => F0
        refine @gm_list _ _ _ _ _ _ _ _ _ _ _ _ (Fm.get F0 (by exact List.Mem.head _)) PySem.F.slot_list_append PySem.F.type_list_append ?_
        refine @cwb_M1 _ _ _ _ _ _ _ _ _ _ _ ?_ (by rfl)
        refine @e_call _ _ _ _ _ _ _ _ _ _ _ ?_
        with_reducible rename Fm _ _ _ _ _ _ _ => F0
        refine @nm_bi _ _ _ _ _ _ _ _ _ _ _ _ _ _ _ _ F0 (by rfl) (by rfl) (by exact bb_len) ?_ (by rfl) (by rfl) (by rfl) (by decide) (by decide)
        refine @cw_bi1 _ _ _ _ _ _ _ _ _ _ ?_ (by rfl)
        with_reducible rename Fm _ _ _ _ _ _ _ => F0
        refine @nm_local _ _ _ _ _ _ _ _ _ _ _ _ _ _ _ _ F0 (by rfl) (by rfl) ?_ (by rfl) (by rfl) (by decide)
        rename Fm _ _ _ _ _ _ _ => F
        refine @b_len_list _ _ _ _ _ _ _ _ _ _ _ _ _ _ F ⟨_, F.get (.tail _ (.head _)), rfl, _, rfl⟩ (by simp; lia) fun u s₁₀ F => ?_
        refine @m_append _ _ _ _ _ _ _ _ _ _ _ _ _ _ _ _ _ F (.head _) (by rw [sizeLine_eq]; lia) fun s₁₁ F => ?_
        refine @s_nil _ _ _ _ _ _ ?_
        with_reducible refine @then_next _ _ _ _ _ _ _ ?_
        refine @s_nil _ _ _ _ _ _ ?_
        with_reducible refine @lp_next _ _ _ ?_
        rename Fm _ _ _ _ _ _ _ => F
        refine ⟨B2, _, _, k2, ⟨rfl, _, _, _, _, _, _, tb2, rfl, ?_, ?_, ?_, htk1.other tk2.1 (hps _ (by simp)) k2, tk2⟩, F.sub ⟨rfl, rfl, rfl, rfl, trivial⟩⟩
        · unfold frontStep; rw [if_neg c1, ← hq, if_neg hq0]; exact hI
        · unfold frontStep; rw [if_neg c1, ← hq, if_neg hq0]; exact hP.kp k2
        · unfold frontStep; rw [if_neg c1, ← hq, if_neg hq0]
          show IntsAre _ (S.c ++ [_])
          have e : ((ps.toArray.size : Nat) : Int) = ((S.p.length : Nat) : Int) := by simp; lia
          rw [e]
          exact ints_snoc hC _ _
  · rintro B₁ s₅ l₁ ob₁ kB ⟨rfl, vs, n, ps, np, cs, nc, tb, rfl, hI, hP, hC, htk⟩ F
    rw [List.take_length] at hI hP hC
    with_reducible refine @then_next _ _ _ _ _ _ _ ?_
    refine @s_ret _ _ _ _ _ _ _ _ _ ?_
    refine @e_tuple _ _ _ _ _ _ _ _ _ _ ?_
    refine @sp_cons _ _ _ _ _ _ _ _ _ _ ?_ (by rfl)
    with_reducible rename Fm _ _ _ _ _ _ _ => F0
    refine @nm_local _ _ _ _ _ _ _ _ _ _ _ _ _ _ _ _ F0 (by rfl) (by rfl) ?_ (by rfl) (by rfl) (by decide)
    refine @sp_cons _ _ _ _ _ _ _ _ _ _ ?_ (by rfl)
    with_reducible rename Fm _ _ _ _ _ _ _ => F0
    refine @nm_local _ _ _ _ _ _ _ _ _ _ _ _ _ _ _ _ F0 (by rfl) (by rfl) ?_ (by rfl) (by rfl) (by decide)
    refine @sp_nil _ _ _ _ _ _ _ _ ?_
    with_reducible rename Fm _ _ _ _ _ _ _ => F0
    refine @n_tuple _ _ _ _ _ _ _ _ _ _ _ _ _ F0 (by simp [sizeLine_eq]) ?_
    clear F0
    intro _ _ _
    with_reducible refine @retTo_ret _ _ _ ?_
    rename Fm _ _ _ _ _ _ _ => F
    obtain ⟨B2, k2, F, g2⟩ := F.freezeAt (.head _)
    obtain ⟨B3, k3, F, g3⟩ := F.freezeAt (.head _)
    obtain ⟨B4, k4, F, g4⟩ := F.freezeAt (.head _)
    obtain ⟨B5, k5, F, g5⟩ := F.freezeAt (.head _)
    have ka := k2.trans (k3.trans (k4.trans k5))
    have kk := k0.trans (kB.trans ka)
    refine h _ _ B5 tb kk (fin F (fun p hp => hp) kk) ⟨htk.1.kp ka, htk.2.kp ka⟩ (Rd.tup ((k3.trans (k4.trans k5)) _ _ g2) (.cons (Rd.list (k5 _ _ g4) (hP.kp ka)) (.cons (Rd.list ((k4.trans k5) _ _ g3) (RdL.ints hC)) .nil)))
end Mine
end
section
open PySem PySem.W PyProof.Rows PySem.Calls PySem.Spec
set_option maxRecDepth 100000
namespace Mine

def endStep (f : Int → Int) (S : FS) (k : Int) : FS :=
  if k % 2 = 1 then ⟨insI1 false f S.w k, S.p, S.c⟩
  else if bisR (fun i => f (S.w.getD i 0)) (f k) 0 S.w.length < S.w.length then
    ⟨S.w.eraseIdx (bisR (fun i => f (S.w.getD i 0)) (f k) 0 S.w.length), S.p ++ [(k, S.w.getD (bisR (fun i => f (S.w.getD i 0)) (f k) 0 S.w.length) 0)], S.c ++ [((S.p.length + 1 : Nat) : Int)]⟩
  else ⟨S.w, S.p, S.c ++ [((S.p.length : Nat) : Int)]⟩
def endOf (f : Int → Int) (xs : List Int) : FS := xs.foldl (endStep f) ⟨[], [], []⟩
theorem endOf_snoc {f : Int → Int} {xs : List Int} {x : Int} : endOf f (xs ++ [x]) = endStep f (endOf f xs) x := by
  unfold endOf; rw [List.foldl_append]; rfl
theorem endStep_sz {f : Int → Int} {S : FS} {k : Int} {n : Nat} (h : S.w.length ≤ n ∧ S.p.length ≤ n ∧ S.c.length ≤ n) : (endStep f S k).w.length ≤ n + 1 ∧ (endStep f S k).p.length ≤ n + 1 ∧ (endStep f S k).c.length ≤ n + 1 := by
  unfold endStep
  split
  · refine ⟨?_, by show S.p.length ≤ _; lia, by show S.c.length ≤ _; lia⟩
    show (insI1 false f S.w k).length ≤ _
    rw [insI1_len]; lia
  · split
    · refine ⟨?_, ?_, ?_⟩
      · show (S.w.eraseIdx _).length ≤ _
        rw [List.length_eraseIdx]; split <;> lia
      · show (S.p ++ [_]).length ≤ _
        rw [List.length_append]; simp; lia
      · show (S.c ++ [_]).length ≤ _
        rw [List.length_append]; simp; lia
    · refine ⟨by show S.w.length ≤ _; lia, by show S.p.length ≤ _; lia, ?_⟩
      show (S.c ++ [_]).length ≤ _
      rw [List.length_append]; simp; lia
theorem endOf_sz {f : Int → Int} : ∀ (xs : List Int) (S : FS) (n : Nat), S.w.length ≤ n ∧ S.p.length ≤ n ∧ S.c.length ≤ n → (xs.foldl (endStep f) S).w.length ≤ n + xs.length ∧ (xs.foldl (endStep f) S).p.length ≤ n + xs.length ∧ (xs.foldl (endStep f) S).c.length ≤ n + xs.length
  | [], _, _, h => h
  | x :: r, S, n, h => by
    have := endOf_sz (f := f) r (endStep f S x) (n + 1) (endStep_sz h)
    rw [List.foldl_cons, List.length_cons]; lia
theorem endOf_bd {f : Int → Int} (xs : List Int) : (endOf f xs).w.length ≤ xs.length ∧ (endOf f xs).p.length ≤ xs.length ∧ (endOf f xs).c.length ≤ xs.length := by
  have := endOf_sz (f := f) xs ⟨[], [], []⟩ 0 ⟨Nat.le_refl _, Nat.le_refl _, Nat.le_refl _⟩
  rw [Nat.zero_add] at this
  exact this
theorem endStep_mem {f : Int → Int} {S : FS} {k y : Int} (h : y ∈ (endStep f S k).w) : y = k ∨ y ∈ S.w := by
  unfold endStep at h
  split at h
  · exact insI1_mem.mp h
  · split at h
    · exact .inr (List.mem_of_mem_eraseIdx h)
    · exact .inr h
theorem endOf_mem {f : Int → Int} : ∀ (xs : List Int) (S : FS) {y : Int}, y ∈ (xs.foldl (endStep f) S).w → y ∈ xs ∨ y ∈ S.w
  | [], _, _, h => .inr h
  | x :: r, S, y, h => by
    rcases endOf_mem r _ h with h | h
    · exact .inl (.tail _ h)
    · rcases endStep_mem h with rfl | h
      · exact .inl (.head _)
      · exact .inr h
theorem IntsAre.rev {vs : List Value} {ns : List Int} (h : IntsAre vs ns) : IntsAre vs.reverse.toArray.toList ns.reverse := by
  have := (RdL.ints (h := ({} : Heap)) h).reverse
  rw [← List.map_reverse] at this
  exact RdL.toInts this
theorem bisR_key2 {w : World} {A : Around} {s : Shared} {a kf : Addr} {x : Int} {tx : Tok} {vs : Array Value} {ns : List Int} {f : Int → Int} {Q E} (R : Rm A 8) (G : Gd (KK w) s.heap)
    (ha : s.heap.IsList a vs) (hI : IntsAre vs.toList ns) (hz : ns.length < 1000) (hk : KeyOk PP w s.heap kf ns f)
    (h : ∀ t s', Gr s s' → Q (.int (bisR (fun i => f (ns.getD i 0)) x 0 ns.length) t) s') : wpAny (model PP w) A (call (.ref 105) [.ref a, .int x tx] [("key", .ref kf)]) Q E s := by
  obtain ⟨tl, hb⟩ := bindR2 (a := a) (x := x) (t := tx) (kf := .ref kf) G
  exact bisR_key R G ha hI hz hk hb h
set_option maxHeartbeats 4000000 in
theorem end_spec {w : World} {A : Around} {s₀ s : Shared} {B : Heap} {L : Addr} {l : Ls} {ob : Ob} {lv dv : Value} {T : List (List Nat)} {xs : List Int} {tb : Array Value} {Q E} (F : Fm (KK w) s₀ B L s l ((144, tabObj tb) :: ob)) (R : Rm A 15) (bi : BI 144 B) (htb : tabs2 B "_law_end.<locals>.<lambda>" ⟨144, 40, 144, 64⟩ ⟨146, 58, 146, 82⟩ tb)
    (hlv : Rd B lv (dIs xs)) (hdv : LeadsAt B dv T) (hT : T.length = 10) (hxs : xs.length ≤ 10 ∧ ∀ x ∈ xs, 0 ≤ x ∧ x < 10)
    (h : ∀ v' s' B' tb', Kp B B' → Fm (KK w) s₀ B' L s' l ((144, tabObj tb') :: ob) → tabs2 B' "_law_end.<locals>.<lambda>" ⟨144, 40, 144, 64⟩ ⟨146, 58, 146, 82⟩ tb' → Rd B' v' (.tuple [.list ((endOf (LN T) xs.reverse).p.map dP), dIs (endOf (LN T) xs.reverse).c]) → Q v' s') : wpAny (model PP w) A (call (.ref 149) [lv, dv]) Q E s := by
  refine @call_fnG _ _ _ _ _ _ _ _ _ _ _ _ [("line", lv), ("leads", dv)] _ _ _ _ _ _ _ _ _ _ _ _ _ _ _ _ _ _ _ _ F R (by rfl) (by rfl) (BindsTo.of_eq (by rfl)) (fun L' s₁ A' A₁ oL hL F' R' => ?_) (by rfl) (by rfl)
  have fin : ∀ {B₂ : Heap} {s'' : Shared} {l'' : Ls} {ob'' : Ob} {tb' : Array Value}, Fm (KK w) s B₂ L' s'' l'' ob'' → (∀ p ∈ (L, oL) :: (144, tabObj tb') :: ob, p ∈ ob'') → Kp B B₂ → Fm (KK w) s₀ B₂ L s'' l ((144, tabObj tb') :: ob) := fun F' hm k => F.leaveT hL F' hm k
  clear F
  have hh := R'.h
  have hKc : codeHdIn (KK w) 148 144 = true := by kernel_rfl
  obtain ⟨Dl, yl, kl, rfl, hDl, hal⟩ := hdv
  replace F' : Fm (KK w) s B L' s₁ [] ((L' + 1, cellO none) :: (L, oL) :: (144, tabObj tb) :: ob) := F'
  obtain ⟨la, lvs, rfl, hla, hlI⟩ := hlv.isList
  replace hlI := hlI.toInts
  have hll := hlI.length
  refine @binds_cons _ _ _ _ _ _ _ _ _ ?_
  with_reducible rename Fm _ _ _ _ _ _ _ => F0
  refine @st_local _ _ _ _ _ _ _ _ _ _ _ _ _ _ _ F0 (by rfl) ?_ (by rfl) (by rfl)
  clear F0
  intro _ _
  refine @binds_cons _ _ _ _ _ _ _ _ _ ?_
  with_reducible rename Fm _ _ _ _ _ _ _ => F0
  refine @st_cell _ _ _ _ _ _ _ _ _ _ _ _ _ _ _ _ _ _ F0 (by rfl) (by rfl) (by exact UpO.head _) ?_ (by rfl)
  clear F0
  intro _ _
  refine @binds_nil _ _ _ _ _ _ ?_
  with_reducible rename Fm _ _ _ _ _ _ _ => F0
  refine ⟨Fm.gdh F0, ?_⟩
  refine @s_assign _ _ _ _ _ _ _ _ _ _ _ ?_ (by rfl)
  refine @e_list _ _ _ _ _ _ _ _ _ ?_
  refine @sp_nil _ _ _ _ _ _ _ _ ?_
  with_reducible rename Fm _ _ _ _ _ _ _ => F0
  refine @n_list _ _ _ _ _ _ _ _ _ _ _ _ _ F0 (by simp [sizeLine_eq]) ?_
  clear F0
  intro _ _ _
  with_reducible rename Fm _ _ _ _ _ _ _ => F0
  refine @st_local _ _ _ _ _ _ _ _ _ _ _ _ _ _ _ F0 (by rfl) ?_ (by rfl) (by rfl)
  clear F0
  intro _ _
  refine @s_assign _ _ _ _ _ _ _ _ _ _ _ ?_ (by rfl)
  refine @e_list _ _ _ _ _ _ _ _ _ ?_
  refine @sp_nil _ _ _ _ _ _ _ _ ?_
  with_reducible rename Fm _ _ _ _ _ _ _ => F0
  refine @n_list _ _ _ _ _ _ _ _ _ _ _ _ _ F0 (by simp [sizeLine_eq]) ?_
  clear F0
  intro _ _ _
  with_reducible rename Fm _ _ _ _ _ _ _ => F0
  refine @st_local _ _ _ _ _ _ _ _ _ _ _ _ _ _ _ F0 (by rfl) ?_ (by rfl) (by rfl)
  clear F0
  intro _ _
  refine @s_assign _ _ _ _ _ _ _ _ _ _ _ ?_ (by rfl)
  refine @e_list _ _ _ _ _ _ _ _ _ ?_
  refine @sp_nil _ _ _ _ _ _ _ _ ?_
  with_reducible rename Fm _ _ _ _ _ _ _ => F0
  refine @n_list _ _ _ _ _ _ _ _ _ _ _ _ _ F0 (by simp [sizeLine_eq]) ?_
  clear F0
  intro _ _ _
  with_reducible rename Fm _ _ _ _ _ _ _ => F0
  refine @st_local _ _ _ _ _ _ _ _ _ _ _ _ _ _ _ F0 (by rfl) ?_ (by rfl) (by rfl)
  clear F0
  intro _ _
  refine @s_for _ _ _ _ _ _ _ _ _ _ _ _ ?_ (by intro _; rfl)
  refine Subscript_ ?_
  with_reducible rename Fm _ _ _ _ _ _ _ => F0
  refine @nm_local _ _ _ _ _ _ _ _ _ _ _ _ _ _ _ _ F0 (by rfl) (by rfl) ?_ (by rfl) (by rfl) (by decide)
  refine @e_slice _ _ _ _ _ _ _ _ _ _ _ ?_
  refine @ep_none _ _ _ _ _ _ _ ?_
  refine @ep_none _ _ _ _ _ _ _ ?_
  refine @ep_some _ _ _ _ _ _ _ _ ?_
  refine wpAny_UnaryOp ?_
  with_reducible rename Fm _ _ _ _ _ _ _ => F0
  refine @e_int _ _ _ _ _ _ _ _ _ _ _ _ _ _ _ _ F0 ?_
  clear F0
  intro _ _ _
  rename Fm _ _ _ _ _ _ _ => F
  refine @o_neg _ _ _ _ _ _ _ _ _ _ _ _ _ _ F fun _ _ F => ?_
  intro S s₆ gS hS
  replace F := F.gr gS
  refine @sub_slice _ _ _ _ _ _ _ _ _ _ _ _ _ _ _ _ _ _ _ _ _ _ _ _ F (isList_kp hla F.kp) hS .none .none (.int _ _) (by simp) (by rw [sizeLine_eq]; simp at hll; omega) (fun D s₇ F => ?_) (by with_unfolding_all rfl)
  obtain ⟨Bd, kd, F, gD⟩ := F.freezeAt (.head _)
  obtain ⟨B0, k0', F, g1⟩ := F.freezeAt (.tail _ (.tail _ (.tail _ (.head _))))
  have k0 : Kp B B0 := kd.trans k0'
  obtain ⟨zs, hzs⟩ : ∃ zs, zs = xs.reverse := ⟨_, rfl⟩
  have hrev : Rd B0 (.ref D) (dIs zs) := by
    refine Rd.list (k0' _ _ gD) (RdL.ints ?_)
    rw [pick_rev, hzs]
    exact IntsAre.rev hlI
  have hxs : zs.length ≤ 10 ∧ ∀ x ∈ zs, 0 ≤ x ∧ x < 10 := by
    rw [hzs]
    exact ⟨by rw [List.length_reverse]; exact hxs.1, fun x hx => hxs.2 x (List.mem_reverse.mp hx)⟩
  rw [← hzs] at h
  obtain ⟨Wa, Pa, Ca, F⟩ : ∃ Wa Pa Ca, Fm (KK w) s B0 L' _ [("line", .ref la), ("waiting", .ref Wa), ("pairs", .ref Pa), ("counts", .ref Ca)] ((Ca, lsO [] 0) :: (Pa, lsO [] 0) :: (Wa, lsO [] 0) :: (L, oL) :: (144, tabObj tb) :: ob) :=
    ⟨_, _, _, F.sub ⟨rfl, rfl, rfl, rfl, trivial⟩⟩
  refine @for_iterB _ _ _ _ _ _ _ _ _ _ _ _ _ _ _ _ _ _ _ F (it_ints hh F.kp hrev) (fun i B₁ l₁ ob₁ => l₁ = ([("line", .ref la), ("waiting", .ref Wa), ("pairs", .ref Pa), ("counts", .ref Ca)] : Ls) ∧ ∃ vs n ps np cs nc tb, ob₁ = (Ca, lsO cs nc) :: (Pa, lsO ps np) :: (Wa, lsO vs n) :: (L, oL) :: (144, tabObj tb) :: ob ∧
    IntsAre vs (endOf (LN T) (zs.take i)).w ∧ RdL B₁ ((endOf (LN T) (zs.take i)).p.map dP) ps ∧ IntsAre cs (endOf (LN T) (zs.take i)).c ∧ tabs2 B₁ "_law_end.<locals>.<lambda>" ⟨144, 40, 144, 64⟩ ⟨146, 58, 146, 82⟩ tb) ⟨rfl, [], 0, [], 0, [], 0, tb, rfl, .nil, .nil, .nil, htb.1.kp k0, htb.2.kp k0⟩ ?_ ?_
  · rintro i B₁ s₅ l₁ ob₁ ex xv hi kB ⟨rfl, vs, n, ps, np, cs, nc, tb, rfl, hI, hP, hC, htk1, htk2⟩ ⟨x, hx, t, rfl⟩ F
    have hxm := hxs.2 x (List.mem_of_getElem? hx)
    have hi10 : i < 10 := by omega
    obtain ⟨z1, z2, z3⟩ := endOf_bd (f := LN T) (zs.take i)
    rw [List.length_take] at z1 z2 z3
    have hwm : ∀ y ∈ (endOf (LN T) (zs.take i)).w, 0 ≤ y ∧ y < 10 := fun y hy => by
      rcases endOf_mem _ _ hy with hy | hy
      · exact hxs.2 y (List.mem_of_mem_take hy)
      · cases hy
    have htake : zs.take (i + 1) = zs.take i ++ [x] := by rw [List.take_add_one, hx]; rfl
    have hsucc : endOf (LN T) (zs.take (i + 1)) = endStep (LN T) (endOf (LN T) (zs.take i)) x := by rw [htake, endOf_snoc]
    obtain ⟨S, hS⟩ : ∃ S, S = endOf (LN T) (zs.take i) := ⟨_, rfl⟩
    replace z1 : S.w.length ≤ 10 := by rw [hS]; lia
    replace z2 : S.p.length ≤ 10 := by rw [hS]; lia
    replace z3 : S.c.length ≤ 10 := by rw [hS]; lia
    rw [← hS] at hI hP hC hwm hsucc
    rw [hsucc]
    have kk := k0.trans kB
    have hT6 : ∀ k : Int, 0 ≤ k → k < 10 → T[k.toNat]? = some (T.getD k.toNat []) := fun k h1 h2 => by
      rw [List.getD_eq_getElem?_getD, List.getElem?_eq_getElem (by lia)]; rfl
    with_reducible rename Fm _ _ _ _ _ _ _ => F0
    refine @st_local _ _ _ _ _ _ _ _ _ _ _ _ _ _ _ F0 (by rfl) ?_ (by rfl) (by rfl)
    clear F0
    intro _ _
    refine @s_if _ _ _ _ _ _ _ _ _ _ _ ?_
    refine wpAny_isTrue_Compare1 ?_ (by rfl)
    refine wpAny_BinOp ?_
    with_reducible rename Fm _ _ _ _ _ _ _ => F0
    refine @nm_local _ _ _ _ _ _ _ _ _ _ _ _ _ _ _ _ F0 (by rfl) (by rfl) ?_ (by rfl) (by rfl) (by decide)
    with_reducible rename Fm _ _ _ _ _ _ _ => F0
    refine @e_int _ _ _ _ _ _ _ _ _ _ _ _ _ _ _ _ F0 ?_
    clear F0
    intro _ _ _
    rename Fm _ _ _ _ _ _ _ => F
    refine @o_mod _ _ _ _ _ _ _ _ _ _ _ _ _ _ _ _ F (by lia) fun _ _ F => ?_
    with_reducible rename Fm _ _ _ _ _ _ _ => F0
    refine @e_int _ _ _ _ _ _ _ _ _ _ _ _ _ _ _ _ F0 ?_
    clear F0
    intro _ _ _
    refine @c_eq _ _ _ _ _ _ _ _ _ _ ?_
    refine wpAny_truthy_bool ?_
    refine @ite_d _ _ _ _ (fun c1 => ?_) (fun c1 => ?_)
    · refine @s_expr _ _ _ _ _ _ _ _ _ _ ?_ (by rfl) (by rfl)
      refine @e_callkw _ _ _ _ _ _ _ _ _ _ _ _ ?_
      with_reducible rename Fm _ _ _ _ _ _ _ => F0
      refine @nm_glob _ _ _ _ _ _ _ _ _ _ _ _ _ _ _ _ F0 (by rfl) (by exact kn_insort_left _) ?_ (by rfl) (by rfl) (by decide)
      with_reducible rename Fm _ _ _ _ _ _ _ => F0
      refine @cw_KW _ _ _ _ _ _ _ _ _ _ _ _ _ _ _ _ (Fm.gdh F0) (by rfl) ?_ (by rfl) (by rfl)
      refine @sp_cons _ _ _ _ _ _ _ _ _ _ ?_ (by rfl)
      with_reducible rename Fm _ _ _ _ _ _ _ => F0
      refine @nm_local _ _ _ _ _ _ _ _ _ _ _ _ _ _ _ _ F0 (by rfl) (by rfl) ?_ (by rfl) (by rfl) (by decide)
      refine @sp_cons _ _ _ _ _ _ _ _ _ _ ?_ (by rfl)
      with_reducible rename Fm _ _ _ _ _ _ _ => F0
      refine @nm_local _ _ _ _ _ _ _ _ _ _ _ _ _ _ _ _ F0 (by rfl) (by rfl) ?_ (by rfl) (by rfl) (by decide)
      refine @sp_nil _ _ _ _ _ _ _ _ ?_
      rename Fm _ _ _ _ _ _ _ => F
      refine @e_lamB _ _ _ _ _ _ _ _ _ _ _ _ _ _ _ _ _ _ _ _ (fun o => (Ca, lsO cs nc) :: (Pa, lsO ps np) :: (Wa, lsO vs n) :: (L, oL) :: (144, o) :: ob ++ ex) _ F (bi.kp kk) htk1 (by rfl) (by rfl) (by rfl) (by rfl) hKc (fun o => .tail _ (.tail _ (.tail _ (.tail _ (.head _))))) rfl fun f s₆ B2 tb2 k2 la tk2 hps F => ?_
      have hcall : KeyOk PP w B2 f (x :: S.w) (LN T) := by
        have G2 := F.gd
        refine ⟨let ⟨pm, cv, ctv, h1, _⟩ := la.is; ⟨_, _, h1, rfl⟩, fun A Q E s v t k R hv hq => ?_⟩
        have hv6 : 0 ≤ v ∧ v < 10 := by
          rcases List.mem_cons.mp hv with rfl | hv
          · exact hxm
          · exact hwm v hv
        refine @call_lam _ _ _ _ _ _ _ _ _ _ _ _ _ _ [("one", .int v t)] _ R (G2.kp k) (la.kp k) (by intro _ _ _; rfl) (by rfl) (by rfl) (fun L' s' A' cv' hL F' R' => ?_) (by rfl) (by rfl) (by rfl)
        have gl := k _ _ (k2 _ _ (kB _ _ g1))
        obtain ⟨y, hy, a, rfl, lat⟩ := hal.get (hT6 v hv6.1 hv6.2)
        have lat' := lat.kp ((kk.trans k2).trans k)
        refine Attribute_any_ ?_
        refine Subscript_ ?_
        with_reducible rename Fm _ _ _ _ _ _ _ => F0
        refine @nm_freeB _ _ _ _ _ _ _ _ _ _ _ _ _ _ _ _ _ F0 (by rfl) (by rfl) (by assumption) ?_ (by rfl) (by decide) (by decide)
        with_reducible rename Fm _ _ _ _ _ _ _ => F0
        refine @nm_local _ _ _ _ _ _ _ _ _ _ _ _ _ _ _ _ F0 (by rfl) (by rfl) ?_ (by rfl) (by rfl) (by decide)
        rename Fm _ _ _ _ _ _ _ => F
        refine @sub_list _ _ _ _ _ _ _ _ _ _ (yl.toArray) _ _ (isList_kp (⟨_, hDl, rfl, kl, rfl⟩ : B.IsList Dl yl.toArray) (((kk.trans k2).trans k).trans F.kp)) hv6.1 (by lia) (by simpa using hy) ?_ (by with_unfolding_all rfl)
        with_reducible rename Fm _ _ _ _ _ _ _ => F0
        refine @ga_n _ _ _ _ _ _ _ _ _ _ _ _ _ _ _ _ _ _ _ (leadK _) F0 (by assumption) ?_
        clear F0
        intro _ _ _
        rename Fm _ _ _ _ _ _ _ => F
        exact hq _ _ ⟨F.sm, F.kp⟩
      with_reducible rename Fm _ _ _ _ _ _ _ => F0
      refine ⟨Fm.gdh F0, ?_⟩
      rename Fm _ _ _ _ _ _ _ => F
      have kh : Kp B2 (Shared.heap _ |>.hide Wa) := F.kpHide (.tail _ (.tail _ (.head _)))
      refine @insL_key _ _ _ _ _ _ _ _ _ _ _ _ _ (R'.le (by lia)) (F.gd.kp kh) (F.get (.tail _ (.tail _ (.head _)))) hI (by lia) (hcall.kp kh fun y hy => hy) fun s₇ hs hk ha => ?_
      replace F := F.upH (.tail _ (.tail _ (.head _))) hk ha hs
      refine @s_nil _ _ _ _ _ _ ?_
      with_reducible refine @then_next _ _ _ _ _ _ _ ?_
      refine @s_nil _ _ _ _ _ _ ?_
      with_reducible refine @lp_next _ _ _ ?_
      rename Fm _ _ _ _ _ _ _ => F
      refine ⟨B2, _, _, k2, ⟨rfl, _, _, _, _, _, _, tb2, rfl, ?_, ?_, ?_, tk2, htk2.other tk2.1 (hps _ (by simp)) k2⟩, F.sub ⟨rfl, rfl, rfl, rfl, trivial⟩⟩
      · unfold endStep; rw [if_pos c1]; exact ints_ins hI _ _ _
      · unfold endStep; rw [if_pos c1]; exact hP.kp k2
      · unfold endStep; rw [if_pos c1]; exact hC
    · have gl1 := kB _ _ g1
      obtain ⟨y0, hy0, a0, rfl, la0⟩ := hal.get (hT6 x hxm.1 hxm.2)
      replace la0 := la0.kp kk
      refine @s_assign _ _ _ _ _ _ _ _ _ _ _ ?_ (by rfl)
      refine @e_callkw _ _ _ _ _ _ _ _ _ _ _ _ ?_
      with_reducible rename Fm _ _ _ _ _ _ _ => F0
      refine @nm_glob _ _ _ _ _ _ _ _ _ _ _ _ _ _ _ _ F0 (by rfl) (by exact kn_bisect_right _) ?_ (by rfl) (by rfl) (by decide)
      with_reducible rename Fm _ _ _ _ _ _ _ => F0
      refine @cw_KW _ _ _ _ _ _ _ _ _ _ _ _ _ _ _ _ (Fm.gdh F0) (by rfl) ?_ (by rfl) (by rfl)
      refine @sp_cons _ _ _ _ _ _ _ _ _ _ ?_ (by rfl)
      with_reducible rename Fm _ _ _ _ _ _ _ => F0
      refine @nm_local _ _ _ _ _ _ _ _ _ _ _ _ _ _ _ _ F0 (by rfl) (by rfl) ?_ (by rfl) (by rfl) (by decide)
      refine @sp_cons _ _ _ _ _ _ _ _ _ _ ?_ (by rfl)
      refine Attribute_any_ ?_
      refine Subscript_ ?_
      with_reducible rename Fm _ _ _ _ _ _ _ => F0
      refine @nm_cellB _ _ _ _ _ _ _ _ _ _ _ _ _ _ _ _ _ F0 (by rfl) (by rfl) (by assumption) ?_ (by rfl) (by decide)
      with_reducible rename Fm _ _ _ _ _ _ _ => F0
      refine @nm_local _ _ _ _ _ _ _ _ _ _ _ _ _ _ _ _ F0 (by rfl) (by rfl) ?_ (by rfl) (by rfl) (by decide)
      rename Fm _ _ _ _ _ _ _ => F
      refine @sub_list _ _ _ _ _ _ _ _ _ _ (yl.toArray) _ _ (isList_kp (⟨_, hDl, rfl, kl, rfl⟩ : B.IsList Dl yl.toArray) (kk.trans F.kp)) hxm.1 (by omega) (by simpa using hy0) ?_ (by with_unfolding_all rfl)
      with_reducible rename Fm _ _ _ _ _ _ _ => F0
      refine @ga_n _ _ _ _ _ _ _ _ _ _ _ _ _ _ _ _ _ _ _ (leadK _) F0 (by assumption) ?_
      clear F0
      intro _ _ _
      refine @sp_nil _ _ _ _ _ _ _ _ ?_
      rename Fm _ _ _ _ _ _ _ => F
      refine @e_lamB _ _ _ _ _ _ _ _ _ _ _ _ _ _ _ _ _ _ _ _ (fun o => (Ca, lsO cs nc) :: (Pa, lsO ps np) :: (Wa, lsO vs n) :: (L, oL) :: (144, o) :: ob ++ ex) _ F (bi.kp kk) htk2 (by rfl) (by rfl) (by rfl) (by rfl) hKc (fun o => .tail _ (.tail _ (.tail _ (.tail _ (.head _))))) rfl fun f s₆ B2 tb2 k2 la tk2 hps F => ?_
      have hcall : KeyOk PP w B2 f (S.w) (LN T) := by
        have G2 := F.gd
        refine ⟨let ⟨pm, cv, ctv, h1, _⟩ := la.is; ⟨_, _, h1, rfl⟩, fun A Q E s v t k R hv hq => ?_⟩
        have hv6 : 0 ≤ v ∧ v < 10 := hwm v hv
        refine @call_lam _ _ _ _ _ _ _ _ _ _ _ _ _ _ [("one", .int v t)] _ R (G2.kp k) (la.kp k) (by intro _ _ _; rfl) (by rfl) (by rfl) (fun L' s' A' cv' hL F' R' => ?_) (by rfl) (by rfl) (by rfl)
        have gl := k _ _ (k2 _ _ (kB _ _ g1))
        obtain ⟨y, hy, a, rfl, lat⟩ := hal.get (hT6 v hv6.1 hv6.2)
        have lat' := lat.kp ((kk.trans k2).trans k)
        refine Attribute_any_ ?_
        refine Subscript_ ?_
        with_reducible rename Fm _ _ _ _ _ _ _ => F0
        refine @nm_freeB _ _ _ _ _ _ _ _ _ _ _ _ _ _ _ _ _ F0 (by rfl) (by rfl) (by assumption) ?_ (by rfl) (by decide) (by decide)
        with_reducible rename Fm _ _ _ _ _ _ _ => F0
        refine @nm_local _ _ _ _ _ _ _ _ _ _ _ _ _ _ _ _ F0 (by rfl) (by rfl) ?_ (by rfl) (by rfl) (by decide)
        rename Fm _ _ _ _ _ _ _ => F
        refine @sub_list _ _ _ _ _ _ _ _ _ _ (yl.toArray) _ _ (isList_kp (⟨_, hDl, rfl, kl, rfl⟩ : B.IsList Dl yl.toArray) (((kk.trans k2).trans k).trans F.kp)) hv6.1 (by lia) (by simpa using hy) ?_ (by with_unfolding_all rfl)
        with_reducible rename Fm _ _ _ _ _ _ _ => F0
        refine @ga_n _ _ _ _ _ _ _ _ _ _ _ _ _ _ _ _ _ _ _ (leadK _) F0 (by assumption) ?_
        clear F0
        intro _ _ _
        rename Fm _ _ _ _ _ _ _ => F
        exact hq _ _ ⟨F.sm, F.kp⟩
      with_reducible rename Fm _ _ _ _ _ _ _ => F0
      refine ⟨Fm.gdh F0, ?_⟩
      rename Fm _ _ _ _ _ _ _ => F
      refine @bisR_key2 _ _ _ _ _ _ _ _ _ _ _ _ (R'.le (by lia)) F.gdh ⟨_, F.get (.tail _ (.tail _ (.head _))), rfl, n, rfl⟩ (by simpa using hI) (by lia) (hcall.kp F.kp fun y hy => hy) fun t' s₇ g => ?_
      replace F := F.gr g
      obtain ⟨q, hq⟩ : ∃ q, q = bisR (fun i => LN T (S.w.getD i 0)) (LN T x) 0 S.w.length := ⟨_, rfl⟩
      have hql : q ≤ S.w.length := by rw [hq]; exact bisR_le _ _ _ _ (Nat.zero_le _)
      rw [show bisR (fun i => LN T (S.w.getD i 0)) (leadOf (sOf (T.getD x.toNat []))).n 0 S.w.length = q from hq.symm]
      have hvl : vs.length = S.w.length := hI.length
      have hpl : ps.length = S.p.length := by have := hP.length; rw [List.length_map] at this; exact this.symm
      have hcl : cs.length = S.c.length := hC.length
      with_reducible rename Fm _ _ _ _ _ _ _ => F0
      refine @st_local _ _ _ _ _ _ _ _ _ _ _ _ _ _ _ F0 (by rfl) ?_ (by rfl) (by rfl)
      clear F0
      intro _ _
      refine @s_if _ _ _ _ _ _ _ _ _ _ _ ?_
      refine wpAny_isTrue_Compare1 ?_ (by rfl)
      with_reducible rename Fm _ _ _ _ _ _ _ => F0
      refine @nm_local _ _ _ _ _ _ _ _ _ _ _ _ _ _ _ _ F0 (by rfl) (by rfl) ?_ (by rfl) (by rfl) (by decide)
      refine @e_call _ _ _ _ _ _ _ _ _ _ _ ?_
      with_reducible rename Fm _ _ _ _ _ _ _ => F0
      refine @nm_bi _ _ _ _ _ _ _ _ _ _ _ _ _ _ _ _ F0 (by rfl) (by rfl) (by exact bb_len) ?_ (by rfl) (by rfl) (by rfl) (by decide) (by decide)
      refine @cw_bi1 _ _ _ _ _ _ _ _ _ _ ?_ (by rfl)
      with_reducible rename Fm _ _ _ _ _ _ _ => F0
      refine @nm_local _ _ _ _ _ _ _ _ _ _ _ _ _ _ _ _ F0 (by rfl) (by rfl) ?_ (by rfl) (by rfl) (by decide)
      rename Fm _ _ _ _ _ _ _ => F
      refine @b_len_list _ _ _ _ _ _ _ _ _ _ _ _ _ _ F ⟨_, F.get (.tail _ (.tail _ (.head _))), rfl, _, rfl⟩ (by simp; lia) fun u s₈ F => ?_
      rw [List.size_toArray, hvl]
      refine @c_lt _ _ _ _ _ _ _ _ _ _ ?_
      refine wpAny_truthy_bool ?_
      refine @ite_d _ _ _ _ (fun c2 => ?_) (fun c2 => ?_)
      · have hq0 : q < S.w.length := by lia
        obtain ⟨ty, hyv⟩ := hI.get q (S.w.getD q 0) (by rw [List.getD_eq_getElem?_getD, List.getElem?_eq_getElem (by omega)]; rfl)
        refine @s_expr _ _ _ _ _ _ _ _ _ _ ?_ (by rfl) (by rfl)
        refine @e_meth _ _ _ _ _ _ _ _ _ _ _ _ ?_ (by rfl) (by rfl) (by rfl)
        with_reducible rename Fm _ _ _ _ _ _ _ => F0
        refine @nm_local _ _ _ _ _ _ _ _ _ _ _ _ _ _ _ _ F0 (by rfl) (by rfl) ?_ (by rfl) (by rfl) (by decide)
        with_reducible rename Fm _ _ _ _ _ _ _ => F0
        refine @gm_list _ _ _ _ _ _ _ _ _ _ _ _ (Fm.get F0 (by exact List.Mem.tail _ (List.Mem.head _))) PySem.F.slot_list_append PySem.F.type_list_append ?_
        refine @cwb_M1 _ _ _ _ _ _ _ _ _ _ _ ?_ (by rfl)
        refine @e_tuple _ _ _ _ _ _ _ _ _ _ ?_
        refine @sp_cons _ _ _ _ _ _ _ _ _ _ ?_ (by rfl)
        with_reducible rename Fm _ _ _ _ _ _ _ => F0
        refine @nm_local _ _ _ _ _ _ _ _ _ _ _ _ _ _ _ _ F0 (by rfl) (by rfl) ?_ (by rfl) (by rfl) (by decide)
        refine @sp_cons _ _ _ _ _ _ _ _ _ _ ?_ (by rfl)
        refine @e_meth _ _ _ _ _ _ _ _ _ _ _ _ ?_ (by rfl) (by rfl) (by rfl)
        with_reducible rename Fm _ _ _ _ _ _ _ => F0
        refine @nm_local _ _ _ _ _ _ _ _ _ _ _ _ _ _ _ _ F0 (by rfl) (by rfl) ?_ (by rfl) (by rfl) (by decide)
        rename Fm _ _ _ _ _ _ _ => F
        refine @gm_list _ _ _ _ _ _ _ _ _ _ _ _ (F.get (.tail _ (.tail _ (.head _)))) PySem.F.slot_list_pop PySem.F.type_list_pop ?_
        refine @cwb_M1 _ _ _ _ _ _ _ _ _ _ _ ?_ (by rfl)
        with_reducible rename Fm _ _ _ _ _ _ _ => F0
        refine @nm_local _ _ _ _ _ _ _ _ _ _ _ _ _ _ _ _ F0 (by rfl) (by rfl) ?_ (by rfl) (by rfl) (by decide)
        rename Fm _ _ _ _ _ _ _ => F
        refine @m_pop _ _ _ _ _ _ _ _ _ _ _ _ _ _ _ _ _ (.int (S.w.getD q 0) ty) _ F (by lia) (by lia) (by rw [sizeLine_eq]; lia) (by rw [Int.toNat_natCast]; exact hyv) (.tail _ (.tail _ (.head _))) fun s₈ F => ?_
        rw [Int.toNat_natCast] at F
        refine @sp_nil _ _ _ _ _ _ _ _ ?_
        with_reducible rename Fm _ _ _ _ _ _ _ => F0
        refine @n_tuple _ _ _ _ _ _ _ _ _ _ _ _ _ F0 (by simp [sizeLine_eq]) ?_
        clear F0
        intro _ _ _
        rename Fm _ _ _ _ _ _ _ => F
        obtain ⟨B3, k3, F, g3⟩ := F.freezeAt (.head _)
        refine @m_append _ _ _ _ _ _ _ _ _ _ _ _ _ _ _ _ _ F (.tail _ (.head _)) (by rw [sizeLine_eq]; lia) fun s₉ F => ?_
        refine @s_nil _ _ _ _ _ _ ?_
        with_reducible refine @then_next _ _ _ _ _ _ _ ?_
        refine @s_expr _ _ _ _ _ _ _ _ _ _ ?_ (by rfl) (by rfl)
        refine @e_meth _ _ _ _ _ _ _ _ _ _ _ _ ?_ (by rfl) (by rfl) (by rfl)
        with_reducible rename Fm _ _ _ _ _ _ _ => F0
        refine @nm_local _ _ _ _ _ _ _ _ _ _ _ _ _ _ _ _ F0 (by rfl) (by rfl) ?_ (by rfl) (by rfl) (by decide)
        with_reducible rename Fm _ _ _ _ _ _ _ => F0
        refine @gm_list _ _ _ _ _ _ _ _ _ _ _ _ (Fm.get F0 (by exact List.Mem.head _)) PySem.F.slot_list_append PySem.F.type_list_append ?_
        refine @cwb_M1 _ _ _ _ _ _ _ _ _ _ _ ?_ (by rfl)
        refine @e_call _ _ _ _ _ _ _ _ _ _ _ ?_
        with_reducible rename Fm _ _ _ _ _ _ _ => F0
        refine @nm_bi _ _ _ _ _ _ _ _ _ _ _ _ _ _ _ _ F0 (by rfl) (by rfl) (by exact bb_len) ?_ (by rfl) (by rfl) (by rfl) (by decide) (by decide)
        refine @cw_bi1 _ _ _ _ _ _ _ _ _ _ ?_ (by rfl)
        with_reducible rename Fm _ _ _ _ _ _ _ => F0
        refine @nm_local _ _ _ _ _ _ _ _ _ _ _ _ _ _ _ _ F0 (by rfl) (by rfl) ?_ (by rfl) (by rfl) (by decide)
        rename Fm _ _ _ _ _ _ _ => F
        refine @b_len_list _ _ _ _ _ _ _ _ _ _ _ _ _ _ F ⟨_, F.get (.tail _ (.head _)), rfl, _, rfl⟩ (by simp; lia) fun u s₁₀ F => ?_
        refine @m_append _ _ _ _ _ _ _ _ _ _ _ _ _ _ _ _ _ F (.head _) (by rw [sizeLine_eq]; lia) fun s₁₁ F => ?_
        refine @s_nil _ _ _ _ _ _ ?_
        with_reducible refine @then_next _ _ _ _ _ _ _ ?_
        refine @s_nil _ _ _ _ _ _ ?_
        with_reducible refine @lp_next _ _ _ ?_
        rename Fm _ _ _ _ _ _ _ => F
        refine ⟨B3, _, _, k2.trans k3, ⟨rfl, _, _, _, _, _, _, tb2, rfl, ?_, ?_, ?_, (htk1.other tk2.1 (hps _ (by simp)) k2).kp k3, tk2.kp k3⟩, F.sub ⟨rfl, rfl, rfl, rfl, trivial⟩⟩
        · unfold endStep; rw [if_neg c1, ← hq, if_pos hq0]; exact ints_erase hI _
        · unfold endStep; rw [if_neg c1, ← hq, if_pos hq0]
          show RdL B3 ((S.p ++ [_]).map dP) _
          rw [List.map_append]
          exact (hP.kp (k2.trans k3)).append (.cons (Rd.tup g3 (.cons Rd.int (.cons Rd.int .nil))) .nil)
        · unfold endStep; rw [if_neg c1, ← hq, if_pos hq0]
          show IntsAre _ (S.c ++ [_])
          have e : ∀ v : Value, (((ps ++ [v]).toArray.size : Nat) : Int) = ((S.p.length + 1 : Nat) : Int) := by intro v; simp; lia
          rw [e]
          exact ints_snoc hC _ _
      · have hq0 : ¬ q < S.w.length := by lia
        refine @s_nil _ _ _ _ _ _ ?_
        with_reducible refine @then_next _ _ _ _ _ _ _ ?_
        refine @s_expr _ _ _ _ _ _ _ _ _ _ ?_ (by rfl) (by rfl)
        refine @e_meth _ _ _ _ _ _ _ _ _ _ _ _ ?_ (by rfl) (by rfl) (by rfl)
        with_reducible rename Fm _ _ _ _ _ _ _ => F0
        refine @nm_local _ _ _ _ _ _ _ _ _ _ _ _ _ _ _ _ F0 (by rfl) (by rfl) ?_ (by rfl) (by rfl) (by decide)
        with_reducible rename Fm _ _ _ _ _ _ _ => F0
        refine @gm_list _ _ _ _ _ _ _ _ _ _ _ _ (Fm.get F0 (by exact List.Mem.head _)) PySem.F.slot_list_append PySem.F.type_list_append ?_
        refine @cwb_M1 _ _ _ _ _ _ _ _ _ _ _ ?_ (by rfl)
        refine @e_call _ _ _ _ _ _ _ _ _ _ _ ?_
        with_reducible rename Fm _ _ _ _ _ _ _ => F0
        refine @nm_bi _ _ _ _ _ _ _ _ _ _ _ _ _ _ _ _ F0 (by rfl) (by rfl) (by exact bb_len) ?_ (by rfl) (by rfl) (by rfl) (by decide) (by decide)
        refine @cw_bi1 _ _ _ _ _ _ _ _ _ _ ?_ (by rfl)
        with_reducible rename Fm _ _ _ _ _ _ _ => F0
        refine @nm_local _ _ _ _ _ _ _ _ _ _ _ _ _ _ _ _ F0 (by rfl) (by rfl) ?_ (by rfl) (by rfl) (by decide)
        rename Fm _ _ _ _ _ _ _ => F
        refine @b_len_list _ _ _ _ _ _ _ _ _ _ _ _ _ _ F ⟨_, F.get (.tail _ (.head _)), rfl, _, rfl⟩ (by simp; lia) fun u s₁₀ F => ?_
        refine @m_append _ _ _ _ _ _ _ _ _ _ _ _ _ _ _ _ _ F (.head _) (by rw [sizeLine_eq]; lia) fun s₁₁ F => ?_
        refine @s_nil _ _ _ _ _ _ ?_
        with_reducible refine @then_next _ _ _ _ _ _ _ ?_
        refine @s_nil _ _ _ _ _ _ ?_
        with_reducible refine @lp_next _ _ _ ?_
        rename Fm _ _ _ _ _ _ _ => F
        refine ⟨B2, _, _, k2, ⟨rfl, _, _, _, _, _, _, tb2, rfl, ?_, ?_, ?_, htk1.other tk2.1 (hps _ (by simp)) k2, tk2⟩, F.sub ⟨rfl, rfl, rfl, rfl, trivial⟩⟩
        · unfold endStep; rw [if_neg c1, ← hq, if_neg hq0]; exact hI
        · unfold endStep; rw [if_neg c1, ← hq, if_neg hq0]; exact hP.kp k2
        · unfold endStep; rw [if_neg c1, ← hq, if_neg hq0]
          show IntsAre _ (S.c ++ [_])
          have e : ((ps.toArray.size : Nat) : Int) = ((S.p.length : Nat) : Int) := by simp; lia
          rw [e]
          exact ints_snoc hC _ _
  · rintro B₁ s₅ l₁ ob₁ kB ⟨rfl, vs, n, ps, np, cs, nc, tb, rfl, hI, hP, hC, htk⟩ F
    rw [List.take_length] at hI hP hC
    with_reducible refine @then_next _ _ _ _ _ _ _ ?_
    refine @s_ret _ _ _ _ _ _ _ _ _ ?_
    refine @e_tuple _ _ _ _ _ _ _ _ _ _ ?_
    refine @sp_cons _ _ _ _ _ _ _ _ _ _ ?_ (by rfl)
    with_reducible rename Fm _ _ _ _ _ _ _ => F0
    refine @nm_local _ _ _ _ _ _ _ _ _ _ _ _ _ _ _ _ F0 (by rfl) (by rfl) ?_ (by rfl) (by rfl) (by decide)
    refine @sp_cons _ _ _ _ _ _ _ _ _ _ ?_ (by rfl)
    with_reducible rename Fm _ _ _ _ _ _ _ => F0
    refine @nm_local _ _ _ _ _ _ _ _ _ _ _ _ _ _ _ _ F0 (by rfl) (by rfl) ?_ (by rfl) (by rfl) (by decide)
    refine @sp_nil _ _ _ _ _ _ _ _ ?_
    with_reducible rename Fm _ _ _ _ _ _ _ => F0
    refine @n_tuple _ _ _ _ _ _ _ _ _ _ _ _ _ F0 (by simp [sizeLine_eq]) ?_
    clear F0
    intro _ _ _
    with_reducible refine @retTo_ret _ _ _ ?_
    rename Fm _ _ _ _ _ _ _ => F
    obtain ⟨B2, k2, F, g2⟩ := F.freezeAt (.head _)
    obtain ⟨B3, k3, F, g3⟩ := F.freezeAt (.head _)
    obtain ⟨B4, k4, F, g4⟩ := F.freezeAt (.head _)
    obtain ⟨B5, k5, F, g5⟩ := F.freezeAt (.head _)
    have ka := k2.trans (k3.trans (k4.trans k5))
    have kk := k0.trans (kB.trans ka)
    refine h _ _ B5 tb kk (fin F (fun p hp => hp) kk) ⟨htk.1.kp ka, htk.2.kp ka⟩ (Rd.tup ((k3.trans (k4.trans k5)) _ _ g2) (.cons (Rd.list (k5 _ _ g4) (hP.kp ka)) (.cons (Rd.list ((k4.trans k5) _ _ g3) (RdL.ints hC)) .nil)))
end Mine
end
section
open PySem PySem.W PyProof.Rows PySem.Calls PySem.Spec
set_option maxRecDepth 100000
namespace Mine

/-- the reaches, the sizes, the lack, what is told -/
structure MS where
  r : List (List Int)
  c : List Nat
  k : Int
  t : List Int
def addIn (P R : List Int) : List Int := R ++ P.filter fun i => decide (i ∉ R)
def mIn (P : List Int) (S : MS) : Nat → MS
  | 0 => S
  | b + 1 => ⟨(mIn P S b).r ++ [addIn P ((mIn P S b).r.getD b [])], (mIn P S b).c ++ [(mIn P S b).c.getD b 0 + 1],
      max (mIn P S b).k ((((mIn P S b).c.getD b 0 + 1 : Nat) : Int) - ((addIn P ((mIn P S b).r.getD b [])).length : Nat)), S.t⟩
def mOut (ps : List (List Int)) : Nat → MS
  | 0 => ⟨[[]], [0], 0, []⟩
  | k + 1 => ⟨(mIn (ps.getD k []) (mOut ps k) (2 ^ k)).r, (mIn (ps.getD k []) (mOut ps k) (2 ^ k)).c, (mIn (ps.getD k []) (mOut ps k) (2 ^ k)).k, (mOut ps k).t ++ [((k : Nat) : Int) + 1 - (mIn (ps.getD k []) (mOut ps k) (2 ^ k)).k]⟩
theorem mIn_len (P : List Int) (S : MS) : ∀ b, (mIn P S b).r.length = S.r.length + b ∧ (mIn P S b).c.length = S.c.length + b
  | 0 => ⟨rfl, rfl⟩
  | b + 1 => by
    obtain ⟨h1, h2⟩ := mIn_len P S b
    simp only [mIn, List.length_append, List.length_cons, List.length_nil, h1, h2]
    lia
theorem mOut_len (ps : List (List Int)) : ∀ k, (mOut ps k).r.length = 2 ^ k ∧ (mOut ps k).c.length = 2 ^ k ∧ (mOut ps k).t.length = k
  | 0 => ⟨rfl, rfl, rfl⟩
  | k + 1 => by
    obtain ⟨h1, h2, h3⟩ := mOut_len ps k
    obtain ⟨g1, g2⟩ := mIn_len (ps.getD k []) (mOut ps k) (2 ^ k)
    have e : 2 ^ (k + 1) = 2 ^ k + 2 ^ k := by rw [Nat.pow_succ]; lia
    rw [h1] at g1
    rw [h2] at g2
    refine ⟨g1.trans e.symm, g2.trans e.symm, ?_⟩
    show ((mOut ps k).t ++ [_]).length = _
    rw [List.length_append, h3]; rfl
theorem addIn_len {P R : List Int} : (addIn P R).length ≤ R.length + P.length := by
  unfold addIn
  rw [List.length_append]
  have := List.length_filter_le (fun i => decide (i ∉ R)) P
  lia
theorem mIn_sz {P : List Int} {S : MS} {m : Nat} (hP : P.length ≤ 10) (hS : ∀ r ∈ S.r, r.length ≤ m) (hk : ∀ b, b < S.r.length → True) : ∀ b, b ≤ S.r.length → (∀ r ∈ (mIn P S b).r, r.length ≤ m + 10) ∧ (mIn P S b).r.take S.r.length = S.r
  | 0, _ => ⟨fun r hr => by have := hS r hr; lia, List.take_length⟩
  | b + 1, hb => by
    obtain ⟨h1, h2⟩ := mIn_sz hP hS hk b (by lia)
    have hl := (mIn_len P S b).1
    have hm : (mIn P S b).r.getD b [] ∈ S.r := by
      rw [← h2, List.getD_eq_getElem?_getD, List.getElem?_eq_getElem (by lia)]
      show (mIn P S b).r[b] ∈ _
      have : ((mIn P S b).r.take S.r.length)[b]? = some (mIn P S b).r[b] := by
        rw [List.getElem?_take_of_lt (by lia)]; exact List.getElem?_eq_getElem (by lia)
      exact List.mem_of_getElem? this
    refine ⟨fun r hr => ?_, ?_⟩
    · rcases List.mem_append.mp hr with hr | hr
      · exact h1 r hr
      · rw [List.mem_singleton.mp hr]
        have := addIn_len (P := P) (R := (mIn P S b).r.getD b [])
        have := hS _ hm
        lia
    · show ((mIn P S b).r ++ [_]).take S.r.length = _
      rw [List.take_append_of_le_length (by lia)]; exact h2
theorem mOut_sz {ps : List (List Int)} (hp : ∀ p ∈ ps, p.length ≤ 10) : ∀ k, ∀ r ∈ (mOut ps k).r, r.length ≤ 10 * k
  | 0, r, hr => by rw [List.mem_singleton.mp hr]; exact Nat.le_refl _
  | k + 1, r, hr => by
    have hP : (ps.getD k []).length ≤ 10 := by
      rw [List.getD_eq_getElem?_getD]
      cases e : ps[k]? with
      | none => simp
      | some p => exact hp p (List.mem_of_getElem? e)
    have hl := (mOut_len ps k).1
    have := (mIn_sz (S := mOut ps k) hP (mOut_sz hp k) (fun _ _ => trivial) (2 ^ k) (by lia)).1 r hr
    omega
theorem rd_ints {h : Heap} : ∀ {xs : List Int} {ys : List Value}, All2 (fun (n : Int) v => ∃ t, v = Value.int n t) xs ys → IntsAre ys xs
  | _, _, .nil => .nil
  | _, _, .cons ⟨t, e⟩ r => by subst e; exact .cons _ t (rd_ints (h := h) r)
set_option maxHeartbeats 4000000 in
theorem most_spec {w : World} {A : Around} {s₀ s : Shared} {B : Heap} {L : Addr} {l : Ls} {ob : Ob} {pv : Value} {ps : List (List Int)} {Q E} (F : Fm (KK w) s₀ B L s l ob) (R : Rm A 15) (hpv : Rd B pv (.list (ps.map dIs))) (hn : ps.length ≤ 6) (hps : ∀ p ∈ ps, p.length ≤ 10)
    (h : ∀ v' s' B', Kp B B' → Fm (KK w) s₀ B' L s' l ob → Rd B' v' (dIs (mOut ps ps.length).t) → Q v' s') : wpAny (model PP w) A (call (.ref 154) [pv]) Q E s := by
  refine @call_fnG _ _ _ _ _ _ _ _ _ _ _ _ [("partners", pv)] _ _ _ _ _ _ _ _ _ _ _ _ _ _ _ _ _ _ _ _ F R (by rfl) (by rfl) (BindsTo.of_eq (by rfl)) (fun L' s₁ A' A₁ oL hL F' R' => ?_) (by rfl) (by rfl)
  have fin : ∀ {B₂ : Heap} {s'' : Shared} {l'' : Ls} {ob'' : Ob}, Fm (KK w) s B₂ L' s'' l'' ob'' → (∀ p ∈ (L, oL) :: ob, p ∈ ob'') → Kp B B₂ → Fm (KK w) s₀ B₂ L s'' l ob := fun F' hm k => F.leave hL F' hm k
  clear F
  have hh := R'.h
  replace F' : Fm (KK w) s B L' s₁ [] ((L' + 2, cellO none) :: (L' + 1, cellO none) :: (L, oL) :: ob) := F'
  refine @binds_cons _ _ _ _ _ _ _ _ _ ?_
  with_reducible rename Fm _ _ _ _ _ _ _ => F0
  refine @st_local _ _ _ _ _ _ _ _ _ _ _ _ _ _ _ F0 (by rfl) ?_ (by rfl) (by rfl)
  clear F0
  intro _ _
  refine @binds_nil _ _ _ _ _ _ ?_
  with_reducible rename Fm _ _ _ _ _ _ _ => F0
  refine ⟨Fm.gdh F0, ?_⟩
  refine @s_assign _ _ _ _ _ _ _ _ _ _ _ ?_ (by rfl)
  refine @e_list _ _ _ _ _ _ _ _ _ ?_
  refine @sp_cons _ _ _ _ _ _ _ _ _ _ ?_ (by rfl)
  refine @e_list _ _ _ _ _ _ _ _ _ ?_
  refine @sp_nil _ _ _ _ _ _ _ _ ?_
  with_reducible rename Fm _ _ _ _ _ _ _ => F0
  refine @n_list _ _ _ _ _ _ _ _ _ _ _ _ _ F0 (by simp [sizeLine_eq]) ?_
  clear F0
  intro _ _ _
  refine @sp_nil _ _ _ _ _ _ _ _ ?_
  with_reducible rename Fm _ _ _ _ _ _ _ => F0
  refine @n_list _ _ _ _ _ _ _ _ _ _ _ _ _ F0 (by simp [sizeLine_eq]) ?_
  clear F0
  intro _ _ _
  with_reducible rename Fm _ _ _ _ _ _ _ => F0
  refine @st_cell _ _ _ _ _ _ _ _ _ _ _ _ _ _ _ _ _ _ F0 (by rfl) (by rfl) (by exact UpO.tail _ (UpO.tail _ (UpO.tail _ (UpO.head _)))) ?_ (by rfl)
  clear F0
  intro _ _
  refine @s_assign _ _ _ _ _ _ _ _ _ _ _ ?_ (by rfl)
  refine @e_list _ _ _ _ _ _ _ _ _ ?_
  refine @sp_cons _ _ _ _ _ _ _ _ _ _ ?_ (by rfl)
  with_reducible rename Fm _ _ _ _ _ _ _ => F0
  refine @e_int _ _ _ _ _ _ _ _ _ _ _ _ _ _ _ _ F0 ?_
  clear F0
  intro _ _ _
  refine @sp_nil _ _ _ _ _ _ _ _ ?_
  with_reducible rename Fm _ _ _ _ _ _ _ => F0
  refine @n_list _ _ _ _ _ _ _ _ _ _ _ _ _ F0 (by simp [sizeLine_eq]) ?_
  clear F0
  intro _ _ _
  with_reducible rename Fm _ _ _ _ _ _ _ => F0
  refine @st_local _ _ _ _ _ _ _ _ _ _ _ _ _ _ _ F0 (by rfl) ?_ (by rfl) (by rfl)
  clear F0
  intro _ _
  refine @s_assign _ _ _ _ _ _ _ _ _ _ _ ?_ (by rfl)
  with_reducible rename Fm _ _ _ _ _ _ _ => F0
  refine @e_int _ _ _ _ _ _ _ _ _ _ _ _ _ _ _ _ F0 ?_
  clear F0
  intro _ _ _
  with_reducible rename Fm _ _ _ _ _ _ _ => F0
  refine @st_local _ _ _ _ _ _ _ _ _ _ _ _ _ _ _ F0 (by rfl) ?_ (by rfl) (by rfl)
  clear F0
  intro _ _
  refine @s_assign _ _ _ _ _ _ _ _ _ _ _ ?_ (by rfl)
  refine @e_list _ _ _ _ _ _ _ _ _ ?_
  refine @sp_nil _ _ _ _ _ _ _ _ ?_
  with_reducible rename Fm _ _ _ _ _ _ _ => F0
  refine @n_list _ _ _ _ _ _ _ _ _ _ _ _ _ F0 (by simp [sizeLine_eq]) ?_
  clear F0
  intro _ _ _
  with_reducible rename Fm _ _ _ _ _ _ _ => F0
  refine @st_local _ _ _ _ _ _ _ _ _ _ _ _ _ _ _ F0 (by rfl) ?_ (by rfl) (by rfl)
  clear F0
  intro _ _
  refine @s_for _ _ _ _ _ _ _ _ _ _ _ _ ?_ (by intro _; rfl)
  refine @e_call _ _ _ _ _ _ _ _ _ _ _ ?_
  with_reducible rename Fm _ _ _ _ _ _ _ => F0
  refine @nm_bi _ _ _ _ _ _ _ _ _ _ _ _ _ _ _ _ F0 (by rfl) (by rfl) (by exact bb_range) ?_ (by rfl) (by rfl) (by rfl) (by decide) (by decide)
  refine @cw_ty1 _ _ _ _ _ _ _ _ _ _ ?_ (by rfl)
  refine @e_call _ _ _ _ _ _ _ _ _ _ _ ?_
  with_reducible rename Fm _ _ _ _ _ _ _ => F0
  refine @nm_bi _ _ _ _ _ _ _ _ _ _ _ _ _ _ _ _ F0 (by rfl) (by rfl) (by exact bb_len) ?_ (by rfl) (by rfl) (by rfl) (by decide) (by decide)
  refine @cw_bi1 _ _ _ _ _ _ _ _ _ _ ?_ (by rfl)
  with_reducible rename Fm _ _ _ _ _ _ _ => F0
  refine @nm_local _ _ _ _ _ _ _ _ _ _ _ _ _ _ _ _ F0 (by rfl) (by rfl) ?_ (by rfl) (by rfl) (by decide)
  rename Fm _ _ _ _ _ _ _ => F
  obtain ⟨Ba, ka, F, ge⟩ := F.freezeAt (.tail _ (.tail _ (.tail _ (.head _))))
  obtain ⟨B0, kb, F, g1⟩ := F.freezeAt (.tail _ (.tail _ (.tail _ (.tail _ (.head _)))))
  have k0 := ka.trans kb
  obtain ⟨Ra, Ca, Ta, ea, t1, t2, hRe, F⟩ : ∃ Ra Ca Ta ea t1 t2, (B0.get? ea = some (lsO [] 0) ∧ B0.get? (L' + 1) = some (cellO (some (.ref Ra)))) ∧ Fm (KK w) s B0 L' _ [("partners", pv), ("chosen", .ref Ca), ("told", .ref Ta), ("lack", .int 0 t1)] ((Ta, lsO [] 0) :: (Ca, lsO [.int 0 t2] 0) :: (Ra, lsO [.ref ea] 0) :: (L' + 2, cellO none) :: (L, oL) :: ob) :=
    ⟨_, _, _, _, _, _, ⟨kb _ _ ge, g1⟩, F.sub ⟨rfl, rfl, rfl, rfl, trivial⟩⟩
  clear ge g1
  obtain ⟨ge, g1⟩ := hRe
  refine @b_lenD _ _ _ _ _ _ _ _ _ _ _ _ _ _ F ((hpv.kp k0).kp F.kp) (by simp; lia) fun u s₂ F => ?_
  rw [List.length_map]
  refine @b_range1 _ _ _ _ _ _ _ _ _ _ _ _ _ _ hh F (by lia) (by lia) fun r s₃ F it => ?_
  rw [Int.toNat_natCast] at it
  have hp6 : ∀ {i}, i ≤ 6 → 2 ^ i ≤ 64 := fun {i} hi => Nat.pow_le_pow_right (n := 2) (by lia) hi
  refine @for_iterB _ _ _ _ _ _ _ _ _ _ _ _ _ _ _ _ _ _ _ F (it _) (fun i B₁ l₁ ob₁ => ∃ t, l₁ = ([("partners", pv), ("chosen", .ref Ca), ("told", .ref Ta), ("lack", .int (mOut ps i).k t)] : Ls) ∧ ∃ vt nt vc nc vr nr vb, ob₁ = (Ta, lsO vt nt) :: (Ca, lsO vc nc) :: (Ra, lsO vr nr) :: (L' + 2, cellO vb) :: (L, oL) :: ob ∧
    RdL B₁ ((mOut ps i).r.map dIs) vr ∧ IntsAre vc (nI (mOut ps i).c) ∧ IntsAre vt (mOut ps i).t) ⟨_, rfl, [], 0, _, 0, _, 0, none, rfl, .cons (Rd.list ge .nil) .nil, .cons _ _ .nil, .nil⟩ ?_ ?_
  · rintro i B₁ s₅ l₁ ob₁ ex xv hi kB ⟨t, rfl, vt, nt, vc, nc, vr, nr, vb, rfl, hR, hC, hTt⟩ ⟨ti, rfl⟩ F
    have hi6 : i < 6 := by lia
    have hpi := hp6 (i := i) (by lia)
    have kk1 := k0.trans kB
    have hP : (ps.getD i []).length ≤ 10 := by
      rw [List.getD_eq_getElem?_getD, List.getElem?_eq_getElem hi]; exact hps _ (List.getElem_mem hi)
    obtain ⟨w1, w2, w3⟩ := mOut_len ps i
    have hsz := mOut_sz hps i
    with_reducible rename Fm _ _ _ _ _ _ _ => F0
    refine @st_local _ _ _ _ _ _ _ _ _ _ _ _ _ _ _ F0 (by rfl) ?_ (by rfl) (by rfl)
    clear F0
    intro _ _
    refine @s_for _ _ _ _ _ _ _ _ _ _ _ _ ?_ (by intro _; rfl)
    refine @e_call _ _ _ _ _ _ _ _ _ _ _ ?_
    with_reducible rename Fm _ _ _ _ _ _ _ => F0
    refine @nm_bi _ _ _ _ _ _ _ _ _ _ _ _ _ _ _ _ F0 (by rfl) (by rfl) (by exact bb_range) ?_ (by rfl) (by rfl) (by rfl) (by decide) (by decide)
    refine @cw_ty1 _ _ _ _ _ _ _ _ _ _ ?_ (by rfl)
    refine wpAny_BinOp ?_
    with_reducible rename Fm _ _ _ _ _ _ _ => F0
    refine @e_int _ _ _ _ _ _ _ _ _ _ _ _ _ _ _ _ F0 ?_
    clear F0
    intro _ _ _
    with_reducible rename Fm _ _ _ _ _ _ _ => F0
    refine @nm_local _ _ _ _ _ _ _ _ _ _ _ _ _ _ _ _ F0 (by rfl) (by rfl) ?_ (by rfl) (by rfl) (by decide)
    rename Fm _ _ _ _ _ _ _ => F
    refine @o_pow _ _ _ _ _ _ _ _ _ _ _ _ _ _ _ _ F (by lia) (by rw [show Builtin.Int.intBits 2 = 2 from by decide +kernel]; lia) fun _ _ F => ?_
    rw [Int.toNat_natCast, show (2 : Int) ^ i = ((2 ^ i : Nat) : Int) by simp]
    obtain ⟨P2, hP2⟩ : ∃ P, P = 2 ^ i := ⟨_, rfl⟩
    rw [← hP2] at hpi w1 w2 ⊢
    refine @b_range1 _ _ _ _ _ _ _ _ _ _ _ _ _ _ hh F (by lia) (by lia) fun r s₆ F it => ?_
    rw [Int.toNat_natCast] at it
    obtain ⟨S, hS⟩ : ∃ S, S = mOut ps i := ⟨_, rfl⟩
    obtain ⟨P, hPe⟩ : ∃ P, P = ps.getD i [] := ⟨_, rfl⟩
    rw [← hS] at hR hC hTt w1 w2 w3 hsz
    rw [← hPe] at hP
    obtain ⟨t', F⟩ : ∃ t', Fm (KK w) s B₁ L' s₆ [("partners", pv), ("chosen", .ref Ca), ("told", .ref Ta), ("k", .int (i : Int) ti), ("lack", .int S.k t')] ((Ta, lsO vt nt) :: (Ca, lsO vc nc) :: (Ra, lsO vr nr) :: (L' + 2, cellO vb) :: (L, oL) :: ob ++ ex) :=
      ⟨t, by rw [hS]; exact F.sub ⟨rfl, rfl, rfl, rfl, rfl, trivial⟩⟩
    refine @for_iterB _ _ _ _ _ _ _ _ _ _ _ _ _ _ _ _ _ _ _ F (it _) (fun b B₂ l₂ ob₂ => ∃ t, l₂ = ([("partners", pv), ("chosen", .ref Ca), ("told", .ref Ta), ("k", .int (i : Int) ti), ("lack", .int (mIn P S b).k t)] : Ls) ∧ ∃ vc nc vr nr vb, ob₂ = (Ta, lsO vt nt) :: (Ca, lsO vc nc) :: (Ra, lsO vr nr) :: (L' + 2, cellO vb) :: (L, oL) :: ob ++ ex ∧
      RdL B₂ ((mIn P S b).r.map dIs) vr ∧ IntsAre vc (nI (mIn P S b).c)) ⟨t', rfl, vc, nc, vr, nr, vb, rfl, hR, hC⟩ ?_ ?_
    · rintro b B₂ s₇ l₂ ob₂ ex' xv hb kB2 ⟨t, rfl, vc, nc, vr, nr, vb, rfl, hR, hC⟩ ⟨tb, rfl⟩ F
      have kk2 := kk1.trans kB2
      have g1' := kB2 _ _ (kB _ _ g1)
      obtain ⟨x1, x2⟩ := mIn_len P S b
      obtain ⟨y1, y2⟩ := mIn_sz (S := S) hP hsz (fun _ _ => trivial) b (by lia)
      rw [w1] at x1
      rw [w2] at x2
      have hrb : ((mIn P S b).r.map dIs)[b]? = some (dIs ((mIn P S b).r.getD b [])) := by
        rw [List.getElem?_map, List.getD_eq_getElem?_getD, List.getElem?_eq_getElem (by lia)]; rfl
      with_reducible rename Fm _ _ _ _ _ _ _ => F0
      refine @st_cell _ _ _ _ _ _ _ _ _ _ _ _ _ _ _ _ _ _ F0 (by rfl) (by rfl) (by exact UpO.tail _ (UpO.tail _ (UpO.tail _ (UpO.head _)))) ?_ (by rfl)
      clear F0
      intro _ _
      refine @s_expr _ _ _ _ _ _ _ _ _ _ ?_ (by rfl) (by rfl)
      refine @e_meth _ _ _ _ _ _ _ _ _ _ _ _ ?_ (by rfl) (by rfl) (by rfl)
      with_reducible rename Fm _ _ _ _ _ _ _ => F0
      refine @nm_cellB _ _ _ _ _ _ _ _ _ _ _ _ _ _ _ _ _ F0 (by rfl) (by rfl) (by assumption) ?_ (by rfl) (by decide)
      with_reducible rename Fm _ _ _ _ _ _ _ => F0
      refine @gm_list _ _ _ _ _ _ _ _ _ _ _ _ (Fm.get F0 (by exact List.Mem.tail _ (List.Mem.tail _ (List.Mem.head _)))) PySem.F.slot_list_append PySem.F.type_list_append ?_
      refine @cwb_M1 _ _ _ _ _ _ _ _ _ _ _ ?_ (by rfl)
      refine wpAny_BinOp ?_
      refine Subscript_ ?_
      with_reducible rename Fm _ _ _ _ _ _ _ => F0
      refine @nm_cellB _ _ _ _ _ _ _ _ _ _ _ _ _ _ _ _ _ F0 (by rfl) (by rfl) (by assumption) ?_ (by rfl) (by decide)
      with_reducible rename Fm _ _ _ _ _ _ _ => F0
      refine @nm_cellO _ _ _ _ _ _ _ _ _ _ _ _ _ _ _ _ _ F0 (by rfl) (by rfl) (by exact List.Mem.tail _ (List.Mem.tail _ (List.Mem.tail _ (List.Mem.head _)))) ?_ (by rfl) (by decide)
      rename Fm _ _ _ _ _ _ _ => F
      obtain ⟨Rb, hRb⟩ : ∃ Rb, Rb = (mIn P S b).r.getD b [] := ⟨_, rfl⟩
      rw [← hRb] at hrb
      have hRl : Rb.length ≤ 60 := by
        have := y1 Rb (by rw [hRb, List.getD_eq_getElem?_getD, List.getElem?_eq_getElem (by lia)]; exact List.getElem_mem _)
        lia
      refine @sub_ref _ _ _ _ _ _ _ _ _ _ _ _ _ _ _ _ _ _ _ _ _ F (.tail _ (.tail _ (.head _))) hR (by lia) hrb (fun x rx => ?_) (by with_unfolding_all rfl)
      refine @e_compC _ _ _ _ _ _ _ _ _ _ _ _ _ _ ?_ (by rfl) (by rfl) (by decide +kernel) (by intro _; rfl)
      refine Subscript_ ?_
      with_reducible rename Fm _ _ _ _ _ _ _ => F0
      refine @nm_local _ _ _ _ _ _ _ _ _ _ _ _ _ _ _ _ F0 (by rfl) (by rfl) ?_ (by rfl) (by rfl) (by decide)
      with_reducible rename Fm _ _ _ _ _ _ _ => F0
      refine @nm_local _ _ _ _ _ _ _ _ _ _ _ _ _ _ _ _ F0 (by rfl) (by rfl) ?_ (by rfl) (by rfl) (by decide)
      rename Fm _ _ _ _ _ _ _ => F
      refine @sub_D _ _ _ _ _ _ _ _ _ _ _ _ _ _ _ _ _ _ (dIs P) F (hpv.kp kk2) (by lia) (by lia) (by rw [Int.toNat_natCast, List.getElem?_map, hPe, List.getD_eq_getElem?_getD, List.getElem?_eq_getElem hi]; rfl) (fun y ry => ?_) (by intro _; with_unfolding_all rfl)
      refine @comp_if _ _ _ _ _ _ _ _ _ _ _ _ _ _ _ _ _ _ _ _ _ _ _ _ _ F (it_ints hh F.kp ry) (by rw [sizeLine_eq]; lia) (fun i => i) (fun i => decide (i ∉ Rb)) (fun _ n v => ∃ t, v = Value.int n t) (fun _ _ _ _ _ h => h) (fun _ ob => ob = []) (fun _ => rfl) ?_ ?_ (fun _ _ => rfl)
      · rintro C B₃ s' ob₁ ex2 j xv hj kB3 ⟨tj, rfl⟩ rfl hob F
        have hcR : (Ra, lsO vr nr) ∈ [] ++ ex2 := hob _ (.tail _ (.tail _ (.head _)))
        have hcb : (L' + 2, cellO (some (.int (b : Int) tb))) ∈ [] ++ ex2 := hob _ (.tail _ (.tail _ (.tail _ (.head _))))
        have G1 := kB3 _ _ g1'
        refine @a_name _ _ _ _ _ _ _ _ _ _ ?_
        with_reducible rename Fm _ _ _ _ _ _ _ => F0
        refine @st_local _ _ _ _ _ _ _ _ _ _ _ _ _ _ _ F0 (by rfl) ?_ (by rfl) (by rfl)
        clear F0
        intro _ _
        refine wpAny_isTrue_Compare1 ?_ (by rfl)
        with_reducible rename Fm _ _ _ _ _ _ _ => F0
        refine @nm_local _ _ _ _ _ _ _ _ _ _ _ _ _ _ _ _ F0 (by rfl) (by rfl) ?_ (by rfl) (by rfl) (by decide)
        refine Subscript_ ?_
        with_reducible rename Fm _ _ _ _ _ _ _ => F0
        refine @nm_cellB _ _ _ _ _ _ _ _ _ _ _ _ _ _ _ _ _ F0 (by rfl) (by rfl) (by assumption) ?_ (by rfl) (by decide)
        with_reducible rename Fm _ _ _ _ _ _ _ => F0
        refine @nm_cellO _ _ _ _ _ _ _ _ _ _ _ _ _ _ _ _ _ F0 (by rfl) (by rfl) (by assumption) ?_ (by rfl) (by decide)
        rename Fm _ _ _ _ _ _ _ => F
        refine @sub_ref _ _ _ _ _ _ _ _ _ _ _ _ _ _ _ _ _ _ _ _ _ F hcR (hR.kp kB3) (by lia) hrb (fun x2 rx2 => ?_) (by with_unfolding_all rfl)
        refine @notin_D _ _ _ _ _ _ _ _ _ _ _ _ _ _ _ _ (8) F (rx2.kp F.kp) Rd.int (shaped1 _) (shapedI _) (R'.le (by lia)) ?_
        rw [any_ints]
        refine wpAny_truthy_bool ?_
        rename Fm _ _ _ _ _ _ _ => F
        refine ⟨by simp, ?_⟩
        refine @ite_b _ _ _ (fun c => ?_) (fun c => ?_)
        · with_reducible rename Fm _ _ _ _ _ _ _ => F0
          refine @nm_local _ _ _ _ _ _ _ _ _ _ _ _ _ _ _ _ F0 (by rfl) (by rfl) ?_ (by rfl) (by rfl) (by decide)
          rename Fm _ _ _ _ _ _ _ => F
          exact ⟨B₃, [], _, Kp.rfl, rfl, ⟨_, rfl⟩, F⟩
        · exact ⟨[], _, rfl, F⟩
      · intro D s' B₃ ys kd k3 F hD hall
        rw [List.map_id'] at hall
        have hI3 := rd_ints (h := B₃) hall
        obtain ⟨xa, xvs, rfl, hxa, hxI⟩ := rx.isList
        replace hxI := hxI.toInts
        have hxl := hxI.length
        have hyl := hI3.length
        have hfl := List.length_filter_le (fun i => decide (i ∉ Rb)) P
        skip
        rename Fm _ _ _ _ _ _ _ => F
        refine @o_addLI _ _ _ _ _ _ _ _ _ _ _ _ _ _ (xvs.toList) (ys) F (isList_L (isList_kp hxa (k3.trans F.kp))) ⟨_, F.kp _ _ hD, rfl, kd, rfl⟩ (by rw [sizeLine_eq]; lia) fun c s₈ F => ?_
        obtain ⟨B4, k4, F, g4⟩ := F.freezeAt (.head _)
        have rc : Rd B4 (.ref c) (dIs (addIn P Rb)) := by
          refine Rd.list g4 (RdL.ints ?_)
          unfold addIn
          exact hxI.append hI3
        have hR4 := hR.kp (k3.trans k4)
        have hvl : vr.length = P2 + b := by have := hR.length; rw [List.length_map] at this; lia
        have hcl : vc.length = P2 + b := by have := hC.length; rw [List.length_map] at this; lia
        have G1 := (k3.trans k4) _ _ g1'
        refine @m_append _ _ _ _ _ _ _ _ _ _ _ _ _ _ _ _ _ F (.tail _ (.tail _ (.head _))) (by rw [sizeLine_eq]; lia) fun s₉ F => ?_
        have hR5 : RdL B4 (((mIn P S b).r ++ [addIn P Rb]).map dIs) (vr ++ [Value.ref c]) := by
          rw [List.map_append]
          exact hR4.append (.cons rc .nil)
        refine @s_expr _ _ _ _ _ _ _ _ _ _ ?_ (by rfl) (by rfl)
        refine @e_meth _ _ _ _ _ _ _ _ _ _ _ _ ?_ (by rfl) (by rfl) (by rfl)
        with_reducible rename Fm _ _ _ _ _ _ _ => F0
        refine @nm_local _ _ _ _ _ _ _ _ _ _ _ _ _ _ _ _ F0 (by rfl) (by rfl) ?_ (by rfl) (by rfl) (by decide)
        with_reducible rename Fm _ _ _ _ _ _ _ => F0
        refine @gm_list _ _ _ _ _ _ _ _ _ _ _ _ (Fm.get F0 (by exact List.Mem.tail _ (List.Mem.head _))) PySem.F.slot_list_append PySem.F.type_list_append ?_
        refine @cwb_M1 _ _ _ _ _ _ _ _ _ _ _ ?_ (by rfl)
        refine wpAny_BinOp ?_
        refine Subscript_ ?_
        with_reducible rename Fm _ _ _ _ _ _ _ => F0
        refine @nm_local _ _ _ _ _ _ _ _ _ _ _ _ _ _ _ _ F0 (by rfl) (by rfl) ?_ (by rfl) (by rfl) (by decide)
        with_reducible rename Fm _ _ _ _ _ _ _ => F0
        refine @nm_cellO _ _ _ _ _ _ _ _ _ _ _ _ _ _ _ _ _ F0 (by rfl) (by rfl) (by exact List.Mem.tail _ (List.Mem.tail _ (List.Mem.tail _ (List.Mem.head _)))) ?_ (by rfl) (by decide)
        rename Fm _ _ _ _ _ _ _ => F
        refine @sub_nat _ _ _ _ _ _ _ _ _ _ _ _ _ _ _ _ _ _ _ _ F (.tail _ (.head _)) hC (by lia) (by lia) (fun t1 => ?_) (by with_unfolding_all rfl)
        with_reducible rename Fm _ _ _ _ _ _ _ => F0
        refine @e_int _ _ _ _ _ _ _ _ _ _ _ _ _ _ _ _ F0 ?_
        clear F0
        intro _ _ _
        with_reducible rename Fm _ _ _ _ _ _ _ => F0
        refine @o_add _ _ _ _ _ _ _ _ _ _ _ _ _ _ _ _ F0 ?_
        clear F0
        intro _ _ _
        rename Fm _ _ _ _ _ _ _ => F
        rw [show (((mIn P S b).c.getD b 0 : Nat) : Int) + 1 = (((mIn P S b).c.getD b 0 + 1 : Nat) : Int) by lia]
        refine @m_append _ _ _ _ _ _ _ _ _ _ _ _ _ _ _ _ _ F (.tail _ (.head _)) (by rw [sizeLine_eq]; lia) fun s₁₀ F => ?_
        obtain ⟨tc, F⟩ : ∃ tc, Fm (KK w) s B4 L' s₁₀ [("partners", pv), ("chosen", .ref Ca), ("told", .ref Ta), ("k", .int (i : Int) ti), ("lack", .int (mIn P S b).k t)] ((Ta, lsO vt nt) :: (Ca, lsO (vc ++ [Value.int (((mIn P S b).c.getD b 0 + 1 : Nat) : Int) tc]) (nc + 1)) :: (Ra, lsO (vr ++ [Value.ref c]) (nr + 1)) :: (L' + 2, cellO (some (.int (b : Int) tb))) :: (L, oL) :: ob ++ ex ++ ex') :=
          ⟨_, F⟩
        have hC5 := nI_snoc hC ((mIn P S b).c.getD b 0 + 1) tc
        have hlast : ((mIn P S b).c ++ [(mIn P S b).c.getD b 0 + 1]).getD (((mIn P S b).c ++ [(mIn P S b).c.getD b 0 + 1]).length - 1) 0 = (mIn P S b).c.getD b 0 + 1 := by
          rw [List.getD_eq_getElem?_getD, List.length_append]; simp
        refine @s_assign _ _ _ _ _ _ _ _ _ _ _ ?_ (by rfl)
        refine @e_call _ _ _ _ _ _ _ _ _ _ _ ?_
        with_reducible rename Fm _ _ _ _ _ _ _ => F0
        refine @nm_bi _ _ _ _ _ _ _ _ _ _ _ _ _ _ _ _ F0 (by rfl) (by rfl) (by exact bb_max) ?_ (by rfl) (by rfl) (by rfl) (by decide) (by decide)
        refine @cw_bi2 _ _ _ _ _ _ _ _ _ _ _ ?_ (by rfl)
        with_reducible rename Fm _ _ _ _ _ _ _ => F0
        refine @nm_local _ _ _ _ _ _ _ _ _ _ _ _ _ _ _ _ F0 (by rfl) (by rfl) ?_ (by rfl) (by rfl) (by decide)
        refine wpAny_BinOp ?_
        refine Subscript_ ?_
        with_reducible rename Fm _ _ _ _ _ _ _ => F0
        refine @nm_local _ _ _ _ _ _ _ _ _ _ _ _ _ _ _ _ F0 (by rfl) (by rfl) ?_ (by rfl) (by rfl) (by decide)
        refine wpAny_UnaryOp ?_
        with_reducible rename Fm _ _ _ _ _ _ _ => F0
        refine @e_int _ _ _ _ _ _ _ _ _ _ _ _ _ _ _ _ F0 ?_
        clear F0
        intro _ _ _
        rename Fm _ _ _ _ _ _ _ => F
        refine @o_neg _ _ _ _ _ _ _ _ _ _ _ _ _ _ F fun _ _ F => ?_
        refine @sub_last _ _ _ _ _ _ _ _ _ _ _ _ _ _ _ _ _ _ _ F (.tail _ (.head _)) hC5 (by simp) (fun t2 => ?_) (by with_unfolding_all rfl)
        rw [hlast]
        refine @e_call _ _ _ _ _ _ _ _ _ _ _ ?_
        with_reducible rename Fm _ _ _ _ _ _ _ => F0
        refine @nm_bi _ _ _ _ _ _ _ _ _ _ _ _ _ _ _ _ F0 (by rfl) (by rfl) (by exact bb_len) ?_ (by rfl) (by rfl) (by rfl) (by decide) (by decide)
        refine @cw_bi1 _ _ _ _ _ _ _ _ _ _ ?_ (by rfl)
        refine Subscript_ ?_
        with_reducible rename Fm _ _ _ _ _ _ _ => F0
        refine @nm_cellB _ _ _ _ _ _ _ _ _ _ _ _ _ _ _ _ _ F0 (by rfl) (by rfl) (by assumption) ?_ (by rfl) (by decide)
        refine wpAny_UnaryOp ?_
        with_reducible rename Fm _ _ _ _ _ _ _ => F0
        refine @e_int _ _ _ _ _ _ _ _ _ _ _ _ _ _ _ _ F0 ?_
        clear F0
        intro _ _ _
        rename Fm _ _ _ _ _ _ _ => F
        refine @o_neg _ _ _ _ _ _ _ _ _ _ _ _ _ _ F fun _ _ F => ?_
        refine @sub_refLast _ _ _ _ _ _ _ _ _ _ _ _ _ _ _ _ _ _ (dIs (addIn P Rb)) _ F (.tail _ (.tail _ (.head _))) hR5 (by simp) (fun z rz => ?_) (by with_unfolding_all rfl)
        have hal := addIn_len (P := P) (R := Rb)
        refine @b_lenD _ _ _ _ _ _ _ _ _ _ _ _ _ _ F (rz.kp F.kp) (by simp; lia) fun u s₁₁ F => ?_
        rw [List.length_map]
        with_reducible rename Fm _ _ _ _ _ _ _ => F0
        refine @o_sub _ _ _ _ _ _ _ _ _ _ _ _ _ _ _ _ F0 ?_
        clear F0
        intro _ _ _
        rename Fm _ _ _ _ _ _ _ => F
        refine @b_max _ _ _ _ _ _ _ _ _ _ _ _ _ _ _ _ F hh fun t5 _ F => ?_
        with_reducible rename Fm _ _ _ _ _ _ _ => F0
        refine @st_local _ _ _ _ _ _ _ _ _ _ _ _ _ _ _ F0 (by rfl) ?_ (by rfl) (by rfl)
        clear F0
        intro _ _
        refine @s_nil _ _ _ _ _ _ ?_
        with_reducible refine @lp_next _ _ _ ?_
        rename Fm _ _ _ _ _ _ _ => F
        have hk : max (mIn P S b).k ((((mIn P S b).c.getD b 0 + 1 : Nat) : Int) - ((addIn P Rb).length : Nat)) = (mIn P S (b + 1)).k := by rw [hRb]; rfl
        rw [hk] at F
        refine ⟨B4, [("partners", pv), ("chosen", .ref Ca), ("told", .ref Ta), ("k", .int (i : Int) ti), ("lack", .int (mIn P S (b + 1)).k t5)], _, k3.trans k4, ⟨t5, rfl, _, _, _, _, _, rfl, ?_, hC5⟩, F.sub ⟨rfl, rfl, rfl, rfl, rfl, trivial⟩⟩
        rw [hRb] at hR5
        exact hR5
    · rintro B₂ s₇ l₂ ob₂ kB2 ⟨t, rfl, vc, nc, vr, nr, vb, rfl, hR, hC⟩ F
      have htl : vt.length = i := by have := hTt.length; rw [this, w3]
      with_reducible refine @then_next _ _ _ _ _ _ _ ?_
      refine @s_expr _ _ _ _ _ _ _ _ _ _ ?_ (by rfl) (by rfl)
      refine @e_meth _ _ _ _ _ _ _ _ _ _ _ _ ?_ (by rfl) (by rfl) (by rfl)
      with_reducible rename Fm _ _ _ _ _ _ _ => F0
      refine @nm_local _ _ _ _ _ _ _ _ _ _ _ _ _ _ _ _ F0 (by rfl) (by rfl) ?_ (by rfl) (by rfl) (by decide)
      with_reducible rename Fm _ _ _ _ _ _ _ => F0
      refine @gm_list _ _ _ _ _ _ _ _ _ _ _ _ (Fm.get F0 (by exact List.Mem.head _)) PySem.F.slot_list_append PySem.F.type_list_append ?_
      refine @cwb_M1 _ _ _ _ _ _ _ _ _ _ _ ?_ (by rfl)
      refine wpAny_BinOp ?_
      refine wpAny_BinOp ?_
      with_reducible rename Fm _ _ _ _ _ _ _ => F0
      refine @nm_local _ _ _ _ _ _ _ _ _ _ _ _ _ _ _ _ F0 (by rfl) (by rfl) ?_ (by rfl) (by rfl) (by decide)
      with_reducible rename Fm _ _ _ _ _ _ _ => F0
      refine @e_int _ _ _ _ _ _ _ _ _ _ _ _ _ _ _ _ F0 ?_
      clear F0
      intro _ _ _
      with_reducible rename Fm _ _ _ _ _ _ _ => F0
      refine @o_add _ _ _ _ _ _ _ _ _ _ _ _ _ _ _ _ F0 ?_
      clear F0
      intro _ _ _
      with_reducible rename Fm _ _ _ _ _ _ _ => F0
      refine @nm_local _ _ _ _ _ _ _ _ _ _ _ _ _ _ _ _ F0 (by rfl) (by rfl) ?_ (by rfl) (by rfl) (by decide)
      with_reducible rename Fm _ _ _ _ _ _ _ => F0
      refine @o_sub _ _ _ _ _ _ _ _ _ _ _ _ _ _ _ _ F0 ?_
      clear F0
      intro _ _ _
      rename Fm _ _ _ _ _ _ _ => F
      refine @m_append _ _ _ _ _ _ _ _ _ _ _ _ _ _ _ _ _ F (.head _) (by rw [sizeLine_eq]; lia) fun s₉ F => ?_
      refine @s_nil _ _ _ _ _ _ ?_
      with_reducible refine @lp_next _ _ _ ?_
      rename Fm _ _ _ _ _ _ _ => F
      have er : (mOut ps (i + 1)).r = (mIn P S P2).r := by rw [hPe, hS, hP2]; rfl
      have ec : (mOut ps (i + 1)).c = (mIn P S P2).c := by rw [hPe, hS, hP2]; rfl
      have ek : (mOut ps (i + 1)).k = (mIn P S P2).k := by rw [hPe, hS, hP2]; rfl
      have et : (mOut ps (i + 1)).t = S.t ++ [(i : Int) + 1 - (mIn P S P2).k] := by rw [hPe, hS, hP2]; rfl
      rw [er, ec, ek, et]
      exact ⟨B₂, _, _, kB2, ⟨t, rfl, _, _, _, _, _, _, _, rfl, hR, hC, ints_snoc hTt _ _⟩, F.sub ⟨rfl, rfl, rfl, rfl, trivial⟩⟩
  · rintro B₁ s₅ l₁ ob₁ kB ⟨t, rfl, vt, nt, vc, nc, vr, nr, vb, rfl, hR, hC, hTt⟩ F
    with_reducible refine @then_next _ _ _ _ _ _ _ ?_
    refine @s_ret _ _ _ _ _ _ _ _ _ ?_
    with_reducible rename Fm _ _ _ _ _ _ _ => F0
    refine @nm_local _ _ _ _ _ _ _ _ _ _ _ _ _ _ _ _ F0 (by rfl) (by rfl) ?_ (by rfl) (by rfl) (by decide)
    with_reducible refine @retTo_ret _ _ _ ?_
    rename Fm _ _ _ _ _ _ _ => F
    obtain ⟨B2, k2, F, g2⟩ := F.freezeAt (.head _)
    have kk := k0.trans (kB.trans k2)
    exact h _ _ B2 kk (fin F (fun p hp => .tail _ (.tail _ (.tail _ hp))) kk) (Rd.list g2 (RdL.ints hTt))
end Mine
end
section
open PySem PySem.W PyProof.Rows PySem.Calls PySem.Spec
set_option maxRecDepth 100000
namespace Mine

noncomputable def bodyOf (w : World) (f : Addr) : List Stmt := match (fdOf w f).body with | .stmts b => b | _ => []
noncomputable abbrev envOf' (w : World) (f : Addr) (L : Addr) : Env := envX (fdOf w f).qualname (fdOf w f).scope L f (fdOf w f).code (cellsFrom (L + 1) (fdOf w f).scope.names [])
/-- the texts of a run -/
structure Tx (T : List (List Nat)) : Prop where
  is : ∃ N : List Int, N.length = 10 ∧ T = N.map txtOf
abbrev cellN (c : Addr) : Addr × Obj := (c, cellO none)
theorem txtOf_len (N : Int) : (txtOf N).length < 20 := by
  have h1 := runTxt_len (rs := bitsOf N) fun r hr => bitsOf_mem hr
  have h2 := bitsOf_len N
  unfold txtOf leadTxt
  simp only [List.length_append, List.length_replicate, List.length_cons, List.length_nil]
  lia
theorem Tx.len {T : List (List Nat)} (t : Tx T) : T.length = 10 := by
  obtain ⟨N, h1, rfl⟩ := t; rw [List.length_map, h1]
theorem Tx.short {T : List (List Nat)} (t : Tx T) {x : List Nat} (hx : x ∈ T) : x.length < 20 := by
  obtain ⟨N, h1, rfl⟩ := t
  obtain ⟨n, _, rfl⟩ := List.mem_map.mp hx
  exact txtOf_len n
theorem txts_of : ∀ {us : List Unit} {ys : List Value}, All2 (fun _ v => ∃ N t, v = Value.str (sOf (txtOf N)) t) us ys → ∃ Ns : List Int, Ns.length = us.length ∧ All2 (fun x v => ∃ t, v = Value.str (sOf x) t) (Ns.map txtOf) ys
  | _, _, .nil => ⟨[], rfl, .nil⟩
  | _, _, .cons ⟨N, t, e⟩ r => by
    obtain ⟨Ns, h1, h2⟩ := txts_of r
    exact ⟨N :: Ns, by simp [h1], .cons ⟨t, e⟩ h2⟩
set_option maxHeartbeats 4000000 in
theorem partA {w : World} {A : Around} {s₀ s : Shared} {B : Heap} {L : Addr} {ob : Ob} {v : Value} {ns : List Int} {Q E} (R : Rm A 20) (hv : Rd B v (dIs ns)) (hn : ns.length < 1000)
    (F : Fm (KK w) s₀ B L s [] (cellN (L + 6) :: cellN (L + 5) :: cellN (L + 4) :: cellN (L + 3) :: cellN (L + 2) :: (L + 1, cellO (some v)) :: ob))
    (next : ∀ s' B' T v1 lv, Tx T → Kp B B' → Rd B' v1 (.list (T.map fun x => .str (sOf x))) → LeadsAt B' lv T → B'.get? (L + 6) = some (cellO (some lv)) →
      Fm (KK w) s₀ B' L s' [("texts", v1)] (cellN (L + 5) :: cellN (L + 4) :: cellN (L + 3) :: ob) → wpAny (model PP w) A (execs ((bodyOf w 159).drop 3) (envOf' w 159 L)) Q E s') :
    wpAny (model PP w) A (execs (bodyOf w 159) (envOf' w 159 L)) Q E s := by
  show wpAny _ _ (execs (_ :: _) (envX "law" ⟨_, [_, _, _, _, _, _, _, _, _, _, _, _, _, _, _, _, _, _, _, _, _, _, _, _, _], _, _, _⟩ L 159 (.ref 158) (cellsFrom (L + 1) [_, _, _, _, _, _, _, _, _, _, _, _, _, _, _, _, _, _, _, _, _, _, _, _, _] []))) _ _ _
  have hh := R.h
  obtain ⟨sa, svs, rfl, hsa, hsI⟩ := hv.isList
  replace hsI := hsI.toInts
  have hsl := hsI.length
  obtain ⟨B0, k0, F, g1⟩ := F.freezeAt (.tail _ (.tail _ (.tail _ (.tail _ (.tail _ (.head _))))))
  refine @s_assign _ _ _ _ _ _ _ _ _ _ _ ?_ (by rfl)
  refine @e_list _ _ _ _ _ _ _ _ _ ?_
  refine @sp_cons _ _ _ _ _ _ _ _ _ _ ?_ (by rfl)
  with_reducible rename Fm _ _ _ _ _ _ _ => F0
  refine @e_int _ _ _ _ _ _ _ _ _ _ _ _ _ _ _ _ F0 ?_
  clear F0
  intro _ _ _
  refine @sp_cons _ _ _ _ _ _ _ _ _ _ ?_ (by rfl)
  with_reducible rename Fm _ _ _ _ _ _ _ => F0
  refine @e_int _ _ _ _ _ _ _ _ _ _ _ _ _ _ _ _ F0 ?_
  clear F0
  intro _ _ _
  refine @sp_cons _ _ _ _ _ _ _ _ _ _ ?_ (by rfl)
  with_reducible rename Fm _ _ _ _ _ _ _ => F0
  refine @e_int _ _ _ _ _ _ _ _ _ _ _ _ _ _ _ _ F0 ?_
  clear F0
  intro _ _ _
  refine @sp_cons _ _ _ _ _ _ _ _ _ _ ?_ (by rfl)
  with_reducible rename Fm _ _ _ _ _ _ _ => F0
  refine @e_int _ _ _ _ _ _ _ _ _ _ _ _ _ _ _ _ F0 ?_
  clear F0
  intro _ _ _
  refine @sp_cons _ _ _ _ _ _ _ _ _ _ ?_ (by rfl)
  with_reducible rename Fm _ _ _ _ _ _ _ => F0
  refine @e_int _ _ _ _ _ _ _ _ _ _ _ _ _ _ _ _ F0 ?_
  clear F0
  intro _ _ _
  refine @sp_cons _ _ _ _ _ _ _ _ _ _ ?_ (by rfl)
  with_reducible rename Fm _ _ _ _ _ _ _ => F0
  refine @e_int _ _ _ _ _ _ _ _ _ _ _ _ _ _ _ _ F0 ?_
  clear F0
  intro _ _ _
  refine @sp_cons _ _ _ _ _ _ _ _ _ _ ?_ (by rfl)
  with_reducible rename Fm _ _ _ _ _ _ _ => F0
  refine @e_int _ _ _ _ _ _ _ _ _ _ _ _ _ _ _ _ F0 ?_
  clear F0
  intro _ _ _
  refine @sp_cons _ _ _ _ _ _ _ _ _ _ ?_ (by rfl)
  with_reducible rename Fm _ _ _ _ _ _ _ => F0
  refine @e_int _ _ _ _ _ _ _ _ _ _ _ _ _ _ _ _ F0 ?_
  clear F0
  intro _ _ _
  refine @sp_cons _ _ _ _ _ _ _ _ _ _ ?_ (by rfl)
  with_reducible rename Fm _ _ _ _ _ _ _ => F0
  refine @e_int _ _ _ _ _ _ _ _ _ _ _ _ _ _ _ _ F0 ?_
  clear F0
  intro _ _ _
  refine @sp_cons _ _ _ _ _ _ _ _ _ _ ?_ (by rfl)
  with_reducible rename Fm _ _ _ _ _ _ _ => F0
  refine @e_int _ _ _ _ _ _ _ _ _ _ _ _ _ _ _ _ F0 ?_
  clear F0
  intro _ _ _
  refine @sp_nil _ _ _ _ _ _ _ _ ?_
  with_reducible rename Fm _ _ _ _ _ _ _ => F0
  refine @n_list _ _ _ _ _ _ _ _ _ _ _ _ _ F0 (by simp [sizeLine_eq]) ?_
  clear F0
  intro _ _ _
  with_reducible rename Fm _ _ _ _ _ _ _ => F0
  refine @st_cell _ _ _ _ _ _ _ _ _ _ _ _ _ _ _ _ _ _ F0 (by rfl) (by rfl) (by exact UpO.tail _ (UpO.tail _ (UpO.tail _ (UpO.tail _ (UpO.tail _ (UpO.head _)))))) ?_ (by rfl)
  clear F0
  intro _ _
  rename Fm _ _ _ _ _ _ _ => F
  obtain ⟨B1, k1, F, g2⟩ := F.freezeAt (.head _)
  obtain ⟨B2, k2, F, g3⟩ := F.freezeAt (.tail _ (.tail _ (.tail _ (.tail _ (.head _)))))
  have rown := Rd.list (k2 _ _ g2) (ds := [.int 86, .int 17, .int 1, .int 3, .int 38, .int 38, .int 13, .int 4, .int 79, .int 24]) (.cons Rd.int (.cons Rd.int (.cons Rd.int (.cons Rd.int (.cons Rd.int (.cons Rd.int (.cons Rd.int (.cons Rd.int (.cons Rd.int (.cons Rd.int .nil))))))))))
  refine @s_assignU _ _ _ _ _ _ _ _ _ _ _ _ _ _ _ _ _ _ ?_ (by rfl) (by rfl) (by decide +kernel) (by intro _; rfl) (by rfl)
  refine @e_call _ _ _ _ _ _ _ _ _ _ _ ?_
  with_reducible rename Fm _ _ _ _ _ _ _ => F0
  refine @nm_bi _ _ _ _ _ _ _ _ _ _ _ _ _ _ _ _ F0 (by rfl) (by rfl) (by exact bb_range) ?_ (by rfl) (by rfl) (by rfl) (by decide) (by decide)
  refine @cw_ty1 _ _ _ _ _ _ _ _ _ _ ?_ (by rfl)
  with_reducible rename Fm _ _ _ _ _ _ _ => F0
  refine @e_int _ _ _ _ _ _ _ _ _ _ _ _ _ _ _ _ F0 ?_
  clear F0
  intro _ _ _
  rename Fm _ _ _ _ _ _ _ => F
  have hk02 : Kp B B2 := k0.trans (k1.trans k2)
  have G1 := (k1.trans k2) _ _ g1
  refine @b_range1 _ _ _ _ _ _ _ _ _ _ _ _ _ _ hh F (by lia) (by lia) fun r s₃ F it => ?_
  refine comp_mapU (α := Nat) (by rfl) (by rfl) (by rfl) F (itl_range (it _)) (by rw [sizeLine_eq, List.length_range]; lia) (fun _ => ()) (fun _ _ v => ∃ N t, v = Value.str (sOf (txtOf N)) t) (fun _ _ _ _ _ h => h) (fun _ ob => ob = []) (fun _ => rfl) ?_ ?_ (fun _ _ => rfl)
  · rintro C B₁ s' ob₁ ex k xv hk kB ⟨tk, rfl⟩ rfl hob F
    have hk10 : k < 10 := by have := List.mem_range.mp hk; lia
    have H1 := kB _ _ G1
    have H2 := kB _ _ g3
    have rown' := rown.kp kB
    refine @a_name _ _ _ _ _ _ _ _ _ _ ?_
    with_reducible rename Fm _ _ _ _ _ _ _ => F0
    refine @st_local _ _ _ _ _ _ _ _ _ _ _ _ _ _ _ F0 (by rfl) ?_ (by rfl) (by rfl)
    clear F0
    intro _ _
    refine @e_call _ _ _ _ _ _ _ _ _ _ _ ?_
    with_reducible rename Fm _ _ _ _ _ _ _ => F0
    refine @nm_glob _ _ _ _ _ _ _ _ _ _ _ _ _ _ _ _ F0 (by rfl) (by exact kn_law_text _) ?_ (by rfl) (by rfl) (by decide)
    with_reducible rename Fm _ _ _ _ _ _ _ => F0
    refine @cw_F1 _ _ _ _ _ _ _ _ _ _ _ (Fm.gdh F0) (by rfl) ?_ (by rfl)
    refine wpAny_BinOp ?_
    refine @e_call _ _ _ _ _ _ _ _ _ _ _ ?_
    with_reducible rename Fm _ _ _ _ _ _ _ => F0
    refine @nm_bi _ _ _ _ _ _ _ _ _ _ _ _ _ _ _ _ F0 (by rfl) (by rfl) (by exact bb_sum) ?_ (by rfl) (by rfl) (by rfl) (by decide) (by decide)
    refine @cw_bi1 _ _ _ _ _ _ _ _ _ _ ?_ (by rfl)
    refine Subscript_ ?_
    with_reducible rename Fm _ _ _ _ _ _ _ => F0
    refine @nm_cellB _ _ _ _ _ _ _ _ _ _ _ _ _ _ _ _ _ F0 (by rfl) (by rfl) (by assumption) ?_ (by rfl) (by decide)
    refine @e_slice _ _ _ _ _ _ _ _ _ _ _ ?_
    refine @ep_some _ _ _ _ _ _ _ _ ?_
    with_reducible rename Fm _ _ _ _ _ _ _ => F0
    refine @nm_local _ _ _ _ _ _ _ _ _ _ _ _ _ _ _ _ F0 (by rfl) (by rfl) ?_ (by rfl) (by rfl) (by decide)
    refine @ep_none _ _ _ _ _ _ _ ?_
    refine @ep_some _ _ _ _ _ _ _ _ ?_
    with_reducible rename Fm _ _ _ _ _ _ _ => F0
    refine @e_int _ _ _ _ _ _ _ _ _ _ _ _ _ _ _ _ F0 ?_
    clear F0
    intro _ _ _
    rename Fm _ _ _ _ _ _ _ => F
    intro S s₆ gS hS
    replace F := F.gr gS
    refine @sub_slice _ _ _ _ _ _ _ _ _ _ _ _ _ _ _ _ _ _ _ _ _ _ _ _ F (isList_kp hsa (hk02.trans (kB.trans F.kp))) hS (.int _ _) .none (.int _ _) (by simp) (by rw [sizeLine_eq]; simp at hsl; lia) (fun D s₇ F => ?_) (by with_unfolding_all rfl)
    obtain ⟨ms, hms⟩ := ints_of (vs := (slicePick svs (some (k : Int)) none (some 10)).toList) fun v hv => ints_mem hsI v (pick_mem hv)
    refine @b_sum _ _ _ _ _ _ _ _ _ _ _ _ _ _ _ F hh ⟨_, F.get (.head _), rfl, 0, rfl⟩ (by simpa using hms) fun t s₈ F => ?_
    replace F := F.drop (List.sublist_cons_self _ _)
    refine Subscript_ ?_
    with_reducible rename Fm _ _ _ _ _ _ _ => F0
    refine @nm_cellB _ _ _ _ _ _ _ _ _ _ _ _ _ _ _ _ _ F0 (by rfl) (by rfl) (by assumption) ?_ (by rfl) (by decide)
    with_reducible rename Fm _ _ _ _ _ _ _ => F0
    refine @nm_local _ _ _ _ _ _ _ _ _ _ _ _ _ _ _ _ F0 (by rfl) (by rfl) ?_ (by rfl) (by rfl) (by decide)
    rename Fm _ _ _ _ _ _ _ => F
    refine @sub_D _ _ _ _ _ _ _ _ _ _ _ _ _ _ _ _ _ _ (.int (([86, 17, 1, 3, 38, 38, 13, 4, 79, 24] : List Int).getD k 0)) F rown' (by lia) (by lia) (by
      rw [Int.toNat_natCast]
      rcases (by lia : k = 0 ∨ k = 1 ∨ k = 2 ∨ k = 3 ∨ k = 4 ∨ k = 5 ∨ k = 6 ∨ k = 7 ∨ k = 8 ∨ k = 9) with rfl | rfl | rfl | rfl | rfl | rfl | rfl | rfl | rfl | rfl <;> rfl) (fun x rx => ?_) (by intro _; with_unfolding_all rfl)
    obtain ⟨tx, rfl⟩ := rx.int_inv
    with_reducible rename Fm _ _ _ _ _ _ _ => F0
    refine @o_add _ _ _ _ _ _ _ _ _ _ _ _ _ _ _ _ F0 ?_
    clear F0
    intro _ _ _
    with_reducible rename Fm _ _ _ _ _ _ _ => F0
    refine ⟨Fm.gdh F0, ?_⟩
    rename Fm _ _ _ _ _ _ _ => F
    refine @text_spec _ _ _ _ _ _ _ _ _ _ _ _ F (R.le (by lia)) fun t s₉ B3 k3 F => ?_
    exact ⟨B3, [], _, k3, rfl, ⟨_, _, rfl⟩, F⟩
  · intro D s' B3 ys k kB F hD hall
    obtain ⟨Ns, hN1, hN2⟩ := txts_of hall
    obtain ⟨T, hT⟩ : ∃ T, T = Ns.map txtOf := ⟨_, rfl⟩
    have tx : Tx T := ⟨Ns, by rw [hN1]; simp, hT⟩
    rw [← hT] at hN2
    have hTl := tx.len
    have hr : Rd B3 (.ref D) (.list (T.map fun x => .str (sOf x))) := Rd.list hD (All2.mapI hN2 fun x v ⟨t, e⟩ => by rw [e]; exact Rd.str)
    refine @s_assign _ _ _ _ _ _ _ _ _ _ _ ?_ (by rfl)
    refine @e_compC _ _ _ _ _ _ _ _ _ _ _ _ _ _ ?_ (by rfl) (by rfl) (by decide +kernel) (by intro _; rfl)
    with_reducible rename Fm _ _ _ _ _ _ _ => F0
    refine @nm_local _ _ _ _ _ _ _ _ _ _ _ _ _ _ _ _ F0 (by rfl) (by rfl) ?_ (by rfl) (by rfl) (by decide)
    rename Fm _ _ _ _ _ _ _ => F
    refine @comp_map _ _ _ _ _ _ _ _ _ _ _ _ _ _ _ _ _ _ _ _ _ _ (T) (fun x v => ∃ t, v = Value.str (sOf x) t) F (it_all hh F.kp (⟨_, hD, rfl, k, rfl⟩ : B3.IsList D ys.toArray) (by simpa using hN2)) (by rw [sizeLine_eq, hTl]; lia) id (fun h x v => ∃ a, v = Value.ref a ∧ LeadAt 83 h a (leadOf (sOf x))) (fun h h' b v k ⟨a, e, x⟩ => ⟨a, e, x.kp k⟩) (fun _ ob => ob = []) (fun _ => rfl) ?_ ?_ (fun _ _ => rfl)
    · rintro C B₁ s' ob₁ ex x xv hx kB' ⟨t, rfl⟩ rfl hob F
      have hxs := tx.short hx
      refine @a_name _ _ _ _ _ _ _ _ _ _ ?_
      with_reducible rename Fm _ _ _ _ _ _ _ => F0
      refine @st_local _ _ _ _ _ _ _ _ _ _ _ _ _ _ _ F0 (by rfl) ?_ (by rfl) (by rfl)
      clear F0
      intro _ _
      refine @e_call _ _ _ _ _ _ _ _ _ _ _ ?_
      with_reducible rename Fm _ _ _ _ _ _ _ => F0
      refine @nm_glob _ _ _ _ _ _ _ _ _ _ _ _ _ _ _ _ F0 (by rfl) (by exact kn_Whitespace _) ?_ (by rfl) (by rfl) (by decide)
      with_reducible rename Fm _ _ _ _ _ _ _ => F0
      refine @cw_F1 _ _ _ _ _ _ _ _ _ _ _ (Fm.gdh F0) (by rfl) ?_ (by rfl)
      with_reducible rename Fm _ _ _ _ _ _ _ => F0
      refine @nm_local _ _ _ _ _ _ _ _ _ _ _ _ _ _ _ _ F0 (by rfl) (by rfl) ?_ (by rfl) (by rfl) (by decide)
      with_reducible rename Fm _ _ _ _ _ _ _ => F0
      refine ⟨Fm.gdh F0, ?_⟩
      rename Fm _ _ _ _ _ _ _ => F
      refine @init_spec _ _ _ _ _ _ _ (R.le (by lia)) F.gdh (by show x.toArray.size < 500; simp; lia) fun a s₂ gr la => ?_
      obtain ⟨B5, k5, kn, F⟩ := F.grow gr
      exact ⟨B5, [], _, k5, rfl, ⟨a, rfl, la.kp kn⟩, F⟩
    · intro D2 s' B4 ys2 k2' k4 F hD2 hall2
      rw [List.map_id] at hall2
      with_reducible rename Fm _ _ _ _ _ _ _ => F0
      refine @st_cell _ _ _ _ _ _ _ _ _ _ _ _ _ _ _ _ _ _ F0 (by rfl) (by rfl) (by exact UpO.head _) ?_ (by rfl)
      clear F0
      intro _ _
      rename Fm _ _ _ _ _ _ _ => F
      obtain ⟨B5, k5, F, g5⟩ := F.freezeAt (.head _)
      have kf : Kp B B5 := hk02.trans (kB.trans (k4.trans k5))
      exact next _ B5 T (.ref D) (.ref D2) tx kf (hr.kp (k4.trans k5)) ⟨D2, ys2, k2', rfl, k5 _ _ hD2, hall2.imp fun x v ⟨a, e, la⟩ => ⟨a, e, la.kp k5⟩⟩ g5 (F.sub ⟨rfl, trivial⟩)
end Mine
end
section
open PySem PySem.W PyProof.Rows PySem.Calls PySem.Spec
set_option maxRecDepth 100000
namespace Mine

/-- one text's columns at the sizes 1, 2 and 3 -/
def colsOf (x : List Nat) : List Int := [1, 2, 3].map fun t => colOf t x 0
set_option maxHeartbeats 4000000 in
theorem partB {w : World} {A : Around} {s₀ s : Shared} {B : Heap} {L : Addr} {ob : Ob} {v1 lv : Value} {T : List (List Nat)} {Q E} (R : Rm A 20) (tx : Tx T) (hr : Rd B v1 (.list (T.map fun x => .str (sOf x)))) (hl : LeadsAt B lv T) (g6 : B.get? (L + 6) = some (cellO (some lv)))
    (hcol : ∀ x ∈ T, (leadOf (sOf x)).n = colOf 1 x 0 ∧ (leadOf (sOf x)).level 2 = colOf 2 x 0 ∧ (leadOf (sOf x)).level 3 = colOf 3 x 0)
    (F : Fm (KK w) s₀ B L s [("texts", v1)] (cellN (L + 5) :: cellN (L + 4) :: cellN (L + 3) :: ob))
    (next : ∀ s' B' cv, Kp B B' → Rd B' cv (.list ((T.map colsOf).map dIs)) → B'.get? (L + 3) = some (cellO (some cv)) →
      Fm (KK w) s₀ B' L s' [] (cellN (L + 5) :: cellN (L + 4) :: ob) → wpAny (model PP w) A (execs ((bodyOf w 159).drop 5) (envOf' w 159 L)) Q E s') :
    wpAny (model PP w) A (execs ((bodyOf w 159).drop 3) (envOf' w 159 L)) Q E s := by
  show wpAny _ _ (execs (_ :: _) (envX "law" ⟨_, [_, _, _, _, _, _, _, _, _, _, _, _, _, _, _, _, _, _, _, _, _, _, _, _, _], _, _, _⟩ L 159 (.ref 158) (cellsFrom (L + 1) [_, _, _, _, _, _, _, _, _, _, _, _, _, _, _, _, _, _, _, _, _, _, _, _, _] []))) _ _ _
  have hh := R.h
  have hTl := tx.len
  refine @s_assign _ _ _ _ _ _ _ _ _ _ _ ?_ (by rfl)
  refine @e_compC _ _ _ _ _ _ _ _ _ _ _ _ _ _ ?_ (by rfl) (by rfl) (by decide +kernel) (by intro _; rfl)
  with_reducible rename Fm _ _ _ _ _ _ _ => F0
  refine @nm_local _ _ _ _ _ _ _ _ _ _ _ _ _ _ _ _ F0 (by rfl) (by rfl) ?_ (by rfl) (by rfl) (by decide)
  rename Fm _ _ _ _ _ _ _ => F
  obtain ⟨va, vvs, e1, ha1, ha2⟩ := hr.isList
  refine @comp_map _ _ _ _ _ _ _ _ _ _ _ _ _ _ _ _ _ _ _ _ _ _ (T) (fun x v => ∃ t, v = Value.str (sOf x) t) F (by rw [e1]; exact it_all hh F.kp ha1 (ha2.unmap.imp fun _ _ x => x.str_inv)) (by rw [sizeLine_eq, hTl]; lia) colsOf (fun h r v => Rd h v (dIs r)) (fun h h' b v k x => x.kp k) (fun C ob => ∃ v, ob = [(C + 1, cellO v)]) (fun _ => ⟨_, rfl⟩) ?_ ?_ (fun _ _ => rfl)
  · rintro C B₁ s' ob₁ ex x xv hx kB ⟨t, rfl⟩ ⟨v0, rfl⟩ hob F
    have hxs := tx.short hx
    refine @a_name _ _ _ _ _ _ _ _ _ _ ?_
    with_reducible rename Fm _ _ _ _ _ _ _ => F0
    refine @st_cell _ _ _ _ _ _ _ _ _ _ _ _ _ _ _ _ _ _ F0 (by rfl) (by rfl) (by exact UpO.head _) ?_ (by rfl)
    clear F0
    intro _ _
    refine @e_compC _ _ _ _ _ _ _ _ _ _ _ _ _ _ ?_ (by rfl) (by rfl) (by decide +kernel) (by intro _; rfl)
    refine @e_list _ _ _ _ _ _ _ _ _ ?_
    refine @sp_cons _ _ _ _ _ _ _ _ _ _ ?_ (by rfl)
    with_reducible rename Fm _ _ _ _ _ _ _ => F0
    refine @e_int _ _ _ _ _ _ _ _ _ _ _ _ _ _ _ _ F0 ?_
    clear F0
    intro _ _ _
    refine @sp_cons _ _ _ _ _ _ _ _ _ _ ?_ (by rfl)
    with_reducible rename Fm _ _ _ _ _ _ _ => F0
    refine @e_int _ _ _ _ _ _ _ _ _ _ _ _ _ _ _ _ F0 ?_
    clear F0
    intro _ _ _
    refine @sp_cons _ _ _ _ _ _ _ _ _ _ ?_ (by rfl)
    with_reducible rename Fm _ _ _ _ _ _ _ => F0
    refine @e_int _ _ _ _ _ _ _ _ _ _ _ _ _ _ _ _ F0 ?_
    clear F0
    intro _ _ _
    refine @sp_nil _ _ _ _ _ _ _ _ ?_
    with_reducible rename Fm _ _ _ _ _ _ _ => F0
    refine @n_list _ _ _ _ _ _ _ _ _ _ _ _ _ F0 (by simp [sizeLine_eq]) ?_
    clear F0
    intro _ _ _
    rename Fm _ _ _ _ _ _ _ => F
    obtain ⟨B₂, k2, F, g2⟩ := F.freezeAt (.head _)
    have rsz : Rd B₂ _ (dIs [1, 2, 3]) := Rd.list g2 (.cons Rd.int (.cons Rd.int (.cons Rd.int .nil)))
    refine @comp_map _ _ _ _ _ _ _ _ _ _ _ _ _ _ _ _ _ _ _ _ _ _ _ _ F (it_ints hh F.kp rsz) (by rw [sizeLine_eq]; simp) (fun t => colOf t x 0) (fun _ n v => ∃ t, v = Value.int n t) (fun _ _ _ _ _ h => h) (fun _ ob => ob = []) (fun _ => rfl) ?_ ?_ (fun _ _ => rfl)
    · rintro C' B₁' s' ob₁' ex' sz xv' hsz kB' ⟨t', rfl⟩ rfl hob' F
      have hcell : (C + 1, cellO (some (.str (sOf x) t))) ∈ [] ++ ex' := hob' _ (.head _)
      have hpos : 0 < sz := by
        simp only [List.mem_cons, List.not_mem_nil, or_false] at hsz
        omega
      refine @a_name _ _ _ _ _ _ _ _ _ _ ?_
      with_reducible rename Fm _ _ _ _ _ _ _ => F0
      refine @st_local _ _ _ _ _ _ _ _ _ _ _ _ _ _ _ F0 (by rfl) ?_ (by rfl) (by rfl)
      clear F0
      intro _ _
      refine @e_call _ _ _ _ _ _ _ _ _ _ _ ?_
      with_reducible rename Fm _ _ _ _ _ _ _ => F0
      refine @nm_glob _ _ _ _ _ _ _ _ _ _ _ _ _ _ _ _ F0 (by rfl) (by exact kn_law_column _) ?_ (by rfl) (by rfl) (by decide)
      with_reducible rename Fm _ _ _ _ _ _ _ => F0
      refine @cw_F2 _ _ _ _ _ _ _ _ _ _ _ _ (Fm.gdh F0) (by rfl) ?_ (by rfl)
      with_reducible rename Fm _ _ _ _ _ _ _ => F0
      refine @nm_cellO _ _ _ _ _ _ _ _ _ _ _ _ _ _ _ _ _ F0 (by rfl) (by rfl) (by assumption) ?_ (by rfl) (by decide)
      with_reducible rename Fm _ _ _ _ _ _ _ => F0
      refine @nm_local _ _ _ _ _ _ _ _ _ _ _ _ _ _ _ _ F0 (by rfl) (by rfl) ?_ (by rfl) (by rfl) (by decide)
      with_reducible rename Fm _ _ _ _ _ _ _ => F0
      refine ⟨Fm.gdh F0, ?_⟩
      rename Fm _ _ _ _ _ _ _ => F
      refine @column_spec _ _ _ _ _ _ _ _ _ (R.le (by lia)) F.gdh hpos fun t s₂ gr => ?_
      replace F := F.gr gr
      exact ⟨B₁', [], _, Kp.rfl, rfl, ⟨t, rfl⟩, F⟩
    · intro D s' B3 ys k k3 F hD hall
      exact ⟨B3, _, _, k2.trans k3, ⟨_, rfl⟩, Rd.list hD (RdL.ints (rd_ints (h := B3) hall)), F⟩
  · intro D s' B2 ys k k2 F hD hall
    with_reducible rename Fm _ _ _ _ _ _ _ => F0
    refine @st_cell _ _ _ _ _ _ _ _ _ _ _ _ _ _ _ _ _ _ F0 (by rfl) (by rfl) (by exact UpO.tail _ (UpO.tail _ (UpO.head _))) ?_ (by rfl)
    clear F0
    intro _ _
    rename Fm _ _ _ _ _ _ _ => F
    obtain ⟨B3, k3, F, g3⟩ := F.freezeAt (.tail _ (.tail _ (.head _)))
    have hcv : Rd B3 (.ref D) (.list ((T.map colsOf).map dIs)) := (Rd.list hD (rdL_of hall)).kp k3
    have kk := k2.trans k3
    replace g6 := kk _ _ g6
    obtain ⟨Dl, yl, kl, rfl, hDl, hal⟩ := hl
    replace hDl := kk _ _ hDl
    replace hal := hal.imp fun x v ⟨a, e, la⟩ => (⟨a, e, la.kp kk⟩ : ∃ a, v = Value.ref a ∧ LeadAt 83 B3 a (leadOf (sOf x)))
    refine @s_if _ _ _ _ _ _ _ _ _ _ _ ?_
    refine wpAny_isTrue_Compare1 ?_ (by rfl)
    refine @e_compC _ _ _ _ _ _ _ _ _ _ _ _ _ _ ?_ (by rfl) (by rfl) (by decide +kernel) (by intro _; rfl)
    with_reducible rename Fm _ _ _ _ _ _ _ => F0
    refine @nm_cellB _ _ _ _ _ _ _ _ _ _ _ _ _ _ _ _ _ F0 (by rfl) (by rfl) (by assumption) ?_ (by rfl) (by decide)
    rename Fm _ _ _ _ _ _ _ => F
    refine @comp_map _ _ _ _ _ _ _ _ _ _ _ _ _ _ _ _ _ _ _ _ _ _ (T) (fun x v => ∃ a, v = Value.ref a ∧ LeadAt 83 B3 a (leadOf (sOf x))) F (it_all hh F.kp (⟨_, hDl, rfl, kl, rfl⟩ : B3.IsList Dl yl.toArray) (by simpa using hal)) (by rw [sizeLine_eq, hTl]; lia) (fun x => [(leadOf (sOf x)).n, (leadOf (sOf x)).level 2, (leadOf (sOf x)).level 3]) (fun h r v => Rd h v (dIs r)) (fun _ _ _ _ k h => h.kp k) (fun C ob => ob = []) (fun _ => rfl) ?_ ?_ (fun _ _ => rfl)
    · rintro C B₁ s' ob₁ ex x xv hx kB ⟨a, rfl, la⟩ rfl hob F
      have la1 := la.kp kB
      refine @a_name _ _ _ _ _ _ _ _ _ _ ?_
      with_reducible rename Fm _ _ _ _ _ _ _ => F0
      refine @st_local _ _ _ _ _ _ _ _ _ _ _ _ _ _ _ F0 (by rfl) ?_ (by rfl) (by rfl)
      clear F0
      intro _ _
      refine @e_list _ _ _ _ _ _ _ _ _ ?_
      refine @sp_cons _ _ _ _ _ _ _ _ _ _ ?_ (by rfl)
      refine Attribute_any_ ?_
      with_reducible rename Fm _ _ _ _ _ _ _ => F0
      refine @nm_local _ _ _ _ _ _ _ _ _ _ _ _ _ _ _ _ F0 (by rfl) (by rfl) ?_ (by rfl) (by rfl) (by decide)
      with_reducible rename Fm _ _ _ _ _ _ _ => F0
      refine @ga_n _ _ _ _ _ _ _ _ _ _ _ _ _ _ _ _ _ _ _ (leadK _) F0 (by assumption) ?_
      clear F0
      intro _ _ _
      refine @sp_cons _ _ _ _ _ _ _ _ _ _ ?_ (by rfl)
      refine @e_meth _ _ _ _ _ _ _ _ _ _ _ _ ?_ (by rfl) (by rfl) (by rfl)
      with_reducible rename Fm _ _ _ _ _ _ _ => F0
      refine @nm_local _ _ _ _ _ _ _ _ _ _ _ _ _ _ _ _ F0 (by rfl) (by rfl) ?_ (by rfl) (by rfl) (by decide)
      with_reducible rename Fm _ _ _ _ _ _ _ => F0
      refine @gm_lead _ _ _ _ _ _ _ _ _ _ _ _ _ _ _ _ (leadK _) (Fm.gdh F0) (LeadAt.kp (by assumption) (Fm.kp F0)) (.inr (.inl ⟨rfl, rfl⟩)) ?_
      with_reducible rename Fm _ _ _ _ _ _ _ => F0
      refine @cw_M1 _ _ _ _ _ _ _ _ _ _ _ _ (Fm.gdh F0) (by rfl) ?_ (by rfl)
      with_reducible rename Fm _ _ _ _ _ _ _ => F0
      refine @e_int _ _ _ _ _ _ _ _ _ _ _ _ _ _ _ _ F0 ?_
      clear F0
      intro _ _ _
      with_reducible rename Fm _ _ _ _ _ _ _ => F0
      refine ⟨Fm.gdh F0, ?_⟩
      rename Fm _ _ _ _ _ _ _ => F
      refine @indent_spec _ _ _ _ _ _ _ _ _ (R.le (by lia)) F.gdh (la1.kp F.kp) (by lia) (by lia) fun t s₂ gr => ?_
      replace F := F.gr gr
      refine @sp_cons _ _ _ _ _ _ _ _ _ _ ?_ (by rfl)
      refine @e_meth _ _ _ _ _ _ _ _ _ _ _ _ ?_ (by rfl) (by rfl) (by rfl)
      with_reducible rename Fm _ _ _ _ _ _ _ => F0
      refine @nm_local _ _ _ _ _ _ _ _ _ _ _ _ _ _ _ _ F0 (by rfl) (by rfl) ?_ (by rfl) (by rfl) (by decide)
      with_reducible rename Fm _ _ _ _ _ _ _ => F0
      refine @gm_lead _ _ _ _ _ _ _ _ _ _ _ _ _ _ _ _ (leadK _) (Fm.gdh F0) (LeadAt.kp (by assumption) (Fm.kp F0)) (.inr (.inl ⟨rfl, rfl⟩)) ?_
      with_reducible rename Fm _ _ _ _ _ _ _ => F0
      refine @cw_M1 _ _ _ _ _ _ _ _ _ _ _ _ (Fm.gdh F0) (by rfl) ?_ (by rfl)
      with_reducible rename Fm _ _ _ _ _ _ _ => F0
      refine @e_int _ _ _ _ _ _ _ _ _ _ _ _ _ _ _ _ F0 ?_
      clear F0
      intro _ _ _
      with_reducible rename Fm _ _ _ _ _ _ _ => F0
      refine ⟨Fm.gdh F0, ?_⟩
      rename Fm _ _ _ _ _ _ _ => F
      refine @indent_spec _ _ _ _ _ _ _ _ _ (R.le (by lia)) F.gdh (la1.kp F.kp) (by lia) (by lia) fun t s₃ gr => ?_
      replace F := F.gr gr
      refine @sp_nil _ _ _ _ _ _ _ _ ?_
      with_reducible rename Fm _ _ _ _ _ _ _ => F0
      refine @n_list _ _ _ _ _ _ _ _ _ _ _ _ _ F0 (by simp [sizeLine_eq]) ?_
      clear F0
      intro _ _ _
      rename Fm _ _ _ _ _ _ _ => F
      obtain ⟨B5, k5, F, g5⟩ := F.freezeAt (.head _)
      exact ⟨B5, [], _, k5, rfl, Rd.list g5 (.cons Rd.int (.cons Rd.int (.cons Rd.int .nil))), F⟩
    · intro D' s' B4 ys' k' k4 F hD' hall'
      have gc := k4 _ _ g3
      have hcv4 := hcv.kp k4
      with_reducible rename Fm _ _ _ _ _ _ _ => F0
      refine @nm_cellB _ _ _ _ _ _ _ _ _ _ _ _ _ _ _ _ _ F0 (by rfl) (by rfl) (by assumption) ?_ (by rfl) (by decide)
      rename Fm _ _ _ _ _ _ _ => F
      have q1 := rdL_of (f := dIs) hall'
      have e : (T.map fun x => [(leadOf (sOf x)).n, (leadOf (sOf x)).level 2, (leadOf (sOf x)).level 3]) = T.map colsOf := by
        refine List.map_congr_left fun x hx => ?_
        obtain ⟨h1, h2, h3⟩ := hcol x hx
        rw [h1, h2, h3]; rfl
      rw [e] at q1
      refine @ne_D _ _ _ _ _ _ _ _ _ _ _ _ _ _ _ _ (10) F ((Rd.list hD' q1).kp F.kp) (hcv4.kp F.kp) (shaped2 _) (shaped2 _) (R.le (by lia)) ?_
      rw [eqv_same (shaped2 _)]
      refine wpAny_truthy_bool ?_
      refine @ite_b _ _ _ (fun c => absurd c (by simp)) (fun _ => ?_)
      refine @s_nil _ _ _ _ _ _ ?_
      with_reducible refine @then_next _ _ _ _ _ _ _ ?_
      rename Fm _ _ _ _ _ _ _ => F
      exact next _ B4 (.ref D) (kk.trans k4) hcv4 gc (F.sub trivial)
end Mine
end
section
open PySem PySem.W PyProof.Rows PySem.Calls PySem.Spec
set_option maxRecDepth 100000
namespace Mine

abbrev colAt (T : List (List Nat)) (k : Int) (t : Nat) : Int := (colsOf (T.getD k.toNat [])).getD t 0
def bothL : List (Int × Int) := [0, 2, 4, 6, 8].flatMap fun o => [1, 3, 5, 7, 9].map fun c => (o, c)
def fitB (T : List (List Nat)) (x : Int × Int) : Bool := decide ((((List.range 3).filter fun t => decide (colAt T x.2 t ≤ colAt T x.1 t)).map fun (t : Nat) => (t : Int)) = [])
def fitsL (T : List (List Nat)) : List (Int × Int) := bothL.filter (fitB T)
theorem bothL_mem : ∀ x ∈ bothL, 0 ≤ x.1 ∧ x.1 < 10 ∧ 0 ≤ x.2 ∧ x.2 < 10 := by decide
theorem layP : ∀ L : List (Int × Int), PyData.canLayAll0 (L.map dP) = true ∧ PyData.depthAll (L.map dP) ≤ 1
  | [] => ⟨rfl, by simp [PyData.depthAll]⟩
  | x :: r => by
    have h := layP r
    have h1 : PyData.canLay0 (dP x) = true ∧ (dP x).depth = 1 := by
      simp [PyData.canLay0, PyData.depth, PyData.canLayAll0, PyData.depthAll]
    refine ⟨?_, ?_⟩
    · show (PyData.canLayAll0 (dP x :: r.map dP)) = true
      simp only [PyData.canLayAll0, h1.1, h.1, Bool.and_self]
    · show (PyData.depthAll (dP x :: r.map dP)) ≤ 1
      simp only [PyData.depthAll, h1.2]; lia
theorem shapedP (L : List (Int × Int)) : SeqAt.shaped (.list (L.map dP)) = true := by
  have h := layP L
  refine Bool.and_eq_true_iff.mpr ⟨h.1, decide_eq_true ?_⟩
  show PyData.depthAll (L.map dP) + 1 ≤ 64
  lia
theorem shapedP1 (x : Int × Int) : SeqAt.shaped (dP x) = true := by
  have h1 : PyData.canLay0 (dP x) = true ∧ (dP x).depth = 1 := by
    simp [PyData.canLay0, PyData.depth, PyData.canLayAll0, PyData.depthAll]
  refine Bool.and_eq_true_iff.mpr ⟨h1.1, decide_eq_true ?_⟩
  lia
theorem layB : ∀ L : List Bool, PyData.canLayAll0 (L.map PyData.bool) = true ∧ PyData.depthAll (L.map PyData.bool) = 0
  | [] => ⟨rfl, by simp [PyData.depthAll]⟩
  | x :: r => by
    have h := layB r
    refine ⟨?_, ?_⟩
    · show (PyData.canLayAll0 (PyData.bool x :: r.map PyData.bool)) = true
      simp [PyData.canLayAll0, PyData.canLay0, h.1]
    · show (PyData.depthAll (PyData.bool x :: r.map PyData.bool)) = 0
      simp [PyData.depthAll, PyData.depth, h.2]
theorem shapedB (L : List Bool) : SeqAt.shaped (.list (L.map PyData.bool)) = true := by
  have h := layB L
  refine Bool.and_eq_true_iff.mpr ⟨h.1, decide_eq_true ?_⟩
  show PyData.depthAll (L.map PyData.bool) + 1 ≤ 64
  lia
theorem eqvP (x y : Int × Int) : PyData.eqv (dP x) (dP y) = decide (x = y) := by
  have h : PyData.eqv (dP x) (dP y) = PyData.eqvAll ([x.1, x.2].map PyData.int) ([y.1, y.2].map PyData.int) := by
    simp [PyData.eqv]
  rw [h, eqv_ints]
  obtain ⟨a, b⟩ := x
  obtain ⟨c, d⟩ := y
  simp
theorem anyP (L : List (Int × Int)) (x : Int × Int) : ((L.map dP).any fun y => PyData.eqv y (dP x)) = decide (x ∈ L) := by
  induction L with
  | nil => simp
  | cons y r ih =>
    rw [List.map_cons, List.any_cons, ih, eqvP]
    by_cases c : y = x
    · subst c; simp
    · have c' : ¬ x = y := fun q => c q.symm
      simp [c, c']
theorem Fm.shrink {K : Frag} {s₀ s : Shared} {B B' : Heap} {L : Addr} {l : Ls} {ob : Ob} (F : Fm K s₀ B' L s l ob) (G : Gd K B) (k : Kp B B') : Fm K s₀ B L s l ob :=
  ⟨G, F.ns, k.trans F.kp, Kp.none k F.no, fun p hp => ⟨(F.obs p hp).1, (F.obs p hp).2.1, Kp.none k (F.obs p hp).2.2⟩, F.nd, F.sm⟩
set_option maxHeartbeats 4000000 in
theorem partC {w : World} {A : Around} {s₀ s : Shared} {B : Heap} {L : Addr} {ob : Ob} {lv cv : Value} {T : List (List Nat)} {Q E} (R : Rm A 20) (tx : Tx T) (hl : LeadsAt B lv T) (g6 : B.get? (L + 6) = some (cellO (some lv)))
    (hcv : Rd B cv (.list ((T.map colsOf).map dIs))) (g3 : B.get? (L + 3) = some (cellO (some cv))) (hans : ∀ x ∈ bothL, lessB (LD T x.1) (LD T x.2) = fitB T x)
    (F : Fm (KK w) s₀ B L s [] (cellN (L + 5) :: cellN (L + 4) :: ob))
    (next : ∀ s' B' fv, Kp B B' → Rd B' fv (.list ((fitsL T).map dP)) → B'.get? (L + 4) = some (cellO (some fv)) →
      Fm (KK w) s₀ B' L s' [] (cellN (L + 5) :: ob) → wpAny (model PP w) A (execs ((bodyOf w 159).drop 9) (envOf' w 159 L)) Q E s') :
    wpAny (model PP w) A (execs ((bodyOf w 159).drop 5) (envOf' w 159 L)) Q E s := by
  show wpAny _ _ (execs (_ :: _) (envX "law" ⟨_, [_, _, _, _, _, _, _, _, _, _, _, _, _, _, _, _, _, _, _, _, _, _, _, _, _], _, _, _⟩ L 159 (.ref 158) (cellsFrom (L + 1) [_, _, _, _, _, _, _, _, _, _, _, _, _, _, _, _, _, _, _, _, _, _, _, _, _] []))) _ _ _
  have hh := R.h
  have hTl := tx.len
  obtain ⟨Dl, yl, kl, rfl, hDl, hal⟩ := hl
  have hT6 : ∀ k : Int, 0 ≤ k → k < 10 → T[k.toNat]? = some (T.getD k.toNat []) := fun k h1 h2 => by
    rw [List.getD_eq_getElem?_getD, List.getElem?_eq_getElem (by lia)]; rfl
  refine @s_assignU2 _ _ _ _ _ _ _ _ _ _ _ _ _ _ _ _ _ _ _ ?_ (by rfl) (by rfl) (by decide +kernel) (by intro _; rfl) (by rfl)
  refine @e_call _ _ _ _ _ _ _ _ _ _ _ ?_
  with_reducible rename Fm _ _ _ _ _ _ _ => F0
  refine @nm_bi _ _ _ _ _ _ _ _ _ _ _ _ _ _ _ _ F0 (by rfl) (by rfl) (by exact bb_range) ?_ (by rfl) (by rfl) (by rfl) (by decide) (by decide)
  refine @cw_ty3 _ _ _ _ _ _ _ _ _ _ _ _ ?_ (by rfl)
  with_reducible rename Fm _ _ _ _ _ _ _ => F0
  refine @e_int _ _ _ _ _ _ _ _ _ _ _ _ _ _ _ _ F0 ?_
  clear F0
  intro _ _ _
  with_reducible rename Fm _ _ _ _ _ _ _ => F0
  refine @e_int _ _ _ _ _ _ _ _ _ _ _ _ _ _ _ _ F0 ?_
  clear F0
  intro _ _ _
  with_reducible rename Fm _ _ _ _ _ _ _ => F0
  refine @e_int _ _ _ _ _ _ _ _ _ _ _ _ _ _ _ _ F0 ?_
  clear F0
  intro _ _ _
  rename Fm _ _ _ _ _ _ _ => F
  refine @b_range3 _ _ _ _ _ _ _ _ _ _ _ _ _ _ _ _ _ _ (5) hh F (by decide) (by decide +kernel) (by decide +kernel) (by decide +kernel) fun r s₁ F it => ?_
  refine comp_prodU (xs := ([0, 2, 4, 6, 8] : List Int)) (us := ([1, 3, 5, 7, 9] : List Int)) (P := fun a v => ∃ t, v = Value.int a t) (P2 := fun a v => ∃ t, v = Value.int a t) (by rfl) (by rfl) (by rfl) (fun _ _ => rfl) F
    ((it _).mono (fun i v hi ⟨t, e⟩ => ⟨(0 : Int) + i * 2, by rcases (by lia : i = 0 ∨ i = 1 ∨ i = 2 ∨ i = 3 ∨ i = 4) with rfl | rfl | rfl | rfl | rfl <;> rfl, t, e⟩) Kp.rfl) (by rw [sizeLine_eq]; decide) (fun o c => (o, c)) (fun h x v => Rd h v (dP x)) (fun _ _ _ _ k h => h.kp k) (fun _ => rfl) ?_ ?_ ?_
  · rintro C B₁ s' ex o v ho kB ⟨t, rfl⟩ F
    refine @a_name _ _ _ _ _ _ _ _ _ _ ?_
    with_reducible rename Fm _ _ _ _ _ _ _ => F0
    refine @st_local _ _ _ _ _ _ _ _ _ _ _ _ _ _ _ F0 (by rfl) ?_ (by rfl) (by rfl)
    clear F0
    intro _ _
    refine @e_call _ _ _ _ _ _ _ _ _ _ _ ?_
    with_reducible rename Fm _ _ _ _ _ _ _ => F0
    refine @nm_bi _ _ _ _ _ _ _ _ _ _ _ _ _ _ _ _ F0 (by rfl) (by rfl) (by exact bb_range) ?_ (by rfl) (by rfl) (by rfl) (by decide) (by decide)
    refine @cw_ty3 _ _ _ _ _ _ _ _ _ _ _ _ ?_ (by rfl)
    with_reducible rename Fm _ _ _ _ _ _ _ => F0
    refine @e_int _ _ _ _ _ _ _ _ _ _ _ _ _ _ _ _ F0 ?_
    clear F0
    intro _ _ _
    with_reducible rename Fm _ _ _ _ _ _ _ => F0
    refine @e_int _ _ _ _ _ _ _ _ _ _ _ _ _ _ _ _ F0 ?_
    clear F0
    intro _ _ _
    with_reducible rename Fm _ _ _ _ _ _ _ => F0
    refine @e_int _ _ _ _ _ _ _ _ _ _ _ _ _ _ _ _ F0 ?_
    clear F0
    intro _ _ _
    rename Fm _ _ _ _ _ _ _ => F
    refine @b_range3 _ _ _ _ _ _ _ _ _ _ _ _ _ _ _ _ _ _ (5) hh F (by decide) (by decide +kernel) (by decide +kernel) (by decide +kernel) fun r s₁ F it => ?_
    exact ⟨F, fun B' => (it B').mono (fun i v hi ⟨t, e⟩ => ⟨(1 : Int) + i * 2, by rcases (by lia : i = 0 ∨ i = 1 ∨ i = 2 ∨ i = 3 ∨ i = 4) with rfl | rfl | rfl | rfl | rfl <;> rfl, t, e⟩) Kp.rfl⟩
  · rintro C B₁ s' ex o v c u ho hc kB ⟨t, rfl⟩ ⟨tu, rfl⟩ hob F
    refine @a_name _ _ _ _ _ _ _ _ _ _ ?_
    with_reducible rename Fm _ _ _ _ _ _ _ => F0
    refine @st_local _ _ _ _ _ _ _ _ _ _ _ _ _ _ _ F0 (by rfl) ?_ (by rfl) (by rfl)
    clear F0
    intro _ _
    refine @e_tuple _ _ _ _ _ _ _ _ _ _ ?_
    refine @sp_cons _ _ _ _ _ _ _ _ _ _ ?_ (by rfl)
    with_reducible rename Fm _ _ _ _ _ _ _ => F0
    refine @nm_local _ _ _ _ _ _ _ _ _ _ _ _ _ _ _ _ F0 (by rfl) (by rfl) ?_ (by rfl) (by rfl) (by decide)
    refine @sp_cons _ _ _ _ _ _ _ _ _ _ ?_ (by rfl)
    with_reducible rename Fm _ _ _ _ _ _ _ => F0
    refine @nm_local _ _ _ _ _ _ _ _ _ _ _ _ _ _ _ _ F0 (by rfl) (by rfl) ?_ (by rfl) (by rfl) (by decide)
    refine @sp_nil _ _ _ _ _ _ _ _ ?_
    with_reducible rename Fm _ _ _ _ _ _ _ => F0
    refine @n_tuple _ _ _ _ _ _ _ _ _ _ _ _ _ F0 (by simp [sizeLine_eq]) ?_
    clear F0
    intro _ _ _
    rename Fm _ _ _ _ _ _ _ => F
    obtain ⟨B₂, k2, F, g2⟩ := F.freezeAt (.head _)
    exact ⟨B₂, _, k2, Rd.tup g2 (.cons Rd.int (.cons Rd.int .nil)), rfl, F⟩
  · intro Db s' B1 yb kb k1 F hDb hallb
    replace hallb : All2 (fun x v => Rd B1 v (dP x)) bothL yb := hallb
    refine @s_assign _ _ _ _ _ _ _ _ _ _ _ ?_ (by rfl)
    refine @e_compC _ _ _ _ _ _ _ _ _ _ _ _ _ _ ?_ (by rfl) (by rfl) (by decide +kernel) (by intro _; rfl)
    with_reducible rename Fm _ _ _ _ _ _ _ => F0
    refine @nm_local _ _ _ _ _ _ _ _ _ _ _ _ _ _ _ _ F0 (by rfl) (by rfl) ?_ (by rfl) (by rfl) (by decide)
    rename Fm _ _ _ _ _ _ _ => F
    have gl6 := k1 _ _ g6
    have gl3 := k1 _ _ g3
    have hcv1 := hcv.kp k1
    refine @comp_listG _ _ _ _ _ _ _ _ _ _ _ _ _ _ _ _ _ _ _ _ _ _ _ _ _ F (it_allG hh F.kp (⟨_, hDb, rfl, kb, rfl⟩ : B1.IsList Db yb.toArray) (by simpa using hallb)) (by rw [sizeLine_eq]; decide) (fun x => x) (fitB T) (fun h x v => Rd h v (dP x)) (fun _ _ _ _ k h => h.kp k) (fun C ob => ∃ v v', ob = [(C + 2, cellO v'), (C + 1, cellO v)]) (fun _ => ⟨_, _, rfl⟩) ?_ ?_
    · rintro C B₁ s' ob₁ ex x v hx kB hxv ⟨v0, v0', rfl⟩ hob F
      obtain ⟨hx0, hx1, hx2, hx3⟩ := bothL_mem x hx
      refine @a_pair _ _ _ _ _ _ _ _ _ _ _ _ _ _ _ _ _ _ _ _ _ _ hh F (hxv.kp Kp.rfl |>.kp kB) fun s₁ to tc F => ?_
      with_reducible rename Fm _ _ _ _ _ _ _ => F0
      refine @st_cell _ _ _ _ _ _ _ _ _ _ _ _ _ _ _ _ _ _ F0 (by rfl) (by rfl) (by exact UpO.tail _ (UpO.head _)) ?_ (by rfl)
      clear F0
      intro _ _
      with_reducible rename Fm _ _ _ _ _ _ _ => F0
      refine @st_cell _ _ _ _ _ _ _ _ _ _ _ _ _ _ _ _ _ _ F0 (by rfl) (by rfl) (by exact UpO.head _) ?_ (by rfl)
      clear F0
      intro _ _
      refine @tests_one _ _ _ _ _ _ _ _ ?_
      refine wpAny_isTrue_Compare1 ?_ (by rfl)
      refine @e_compC _ _ _ _ _ _ _ _ _ _ _ _ _ _ ?_ (by rfl) (by rfl) (by decide +kernel) (by intro _; rfl)
      refine @e_call _ _ _ _ _ _ _ _ _ _ _ ?_
      with_reducible rename Fm _ _ _ _ _ _ _ => F0
      refine @nm_bi _ _ _ _ _ _ _ _ _ _ _ _ _ _ _ _ F0 (by rfl) (by rfl) (by exact bb_range) ?_ (by rfl) (by rfl) (by rfl) (by decide) (by decide)
      refine @cw_ty1 _ _ _ _ _ _ _ _ _ _ ?_ (by rfl)
      with_reducible rename Fm _ _ _ _ _ _ _ => F0
      refine @e_int _ _ _ _ _ _ _ _ _ _ _ _ _ _ _ _ F0 ?_
      clear F0
      intro _ _ _
      rename Fm _ _ _ _ _ _ _ => F
      refine @b_range1 _ _ _ _ _ _ _ _ _ _ _ _ _ _ hh F (by lia) (by lia) fun r s₂ F it => ?_
      have hcvB := hcv1.kp kB
      have GB := F.gd
      have G3 := kB _ _ gl3
      refine @comp_if _ _ _ _ _ _ _ _ _ _ _ _ _ _ _ _ _ _ _ _ _ _ _ _ _ F (itl_range (it _)) (by rw [sizeLine_eq]; simp) (fun t => ((t : Nat) : Int)) (fun t => decide (colAt T x.2 t ≤ colAt T x.1 t)) (fun _ n v => ∃ t, v = Value.int n t) (fun _ _ _ _ _ h => h) (fun _ ob => ob = []) (fun _ => rfl) ?_ ?_ (fun _ _ => rfl)
      · rintro C' B₃ s' ob₁ ex2 k xv hk kB3 ⟨tk, rfl⟩ rfl hob' F
        have hkm : k < 3 := List.mem_range.mp hk
        have hco : (C + 1, cellO (some (.int x.1 to))) ∈ [] ++ ex2 := hob' _ (.tail _ (.head _))
        have hcc : (C + 1 + 1, cellO (some (.int x.2 tc))) ∈ [] ++ ex2 := hob' _ (.head _)
        have H3 := kB3 _ _ G3
        have hcv3 := hcvB.kp kB3
        have row : ∀ {y : Int} {value slice : Expr} {u : Tok} {s : Shared} {l : Ls} {ob : Ob} {Q : Value → Shared → Prop} {E}, 0 ≤ y → y < 10 → Fm (KK w) s₂ B₃ C' s l ob → (∀ rv, Rd B₃ rv (dIs (colsOf (T.getD y.toNat []))) → Q rv s) →
            (∀ T, subscripted slice false (.ref T) (.int y u) = operate [.ref T, .int y u] (getItem (.ref T) (.int y u))) → wpAny (model PP w) A (subscriptTail value slice cv (.int y u)) Q E s := fun {y} _ _ _ _ _ _ _ _ h0 h1 F h hs =>
          sub_D F hcv3 h0 (by lia) (by rw [List.getElem?_map, List.getElem?_map, hT6 _ h0 h1]; rfl) h hs
        have itm : ∀ {y : Int} {value slice : Expr} {rv : Value} {u : Tok} {s : Shared} {l : Ls} {ob : Ob} {Q : Value → Shared → Prop} {E}, Fm (KK w) s₂ B₃ C' s l ob → Rd B₃ rv (dIs (colsOf (T.getD y.toNat []))) → (∀ t, Q (.int (colAt T y k) t) s) →
            (∀ T, subscripted slice false (.ref T) (.int (k : Int) u) = operate [.ref T, .int (k : Int) u] (getItem (.ref T) (.int (k : Int) u))) → wpAny (model PP w) A (subscriptTail value slice rv (.int (k : Int) u)) Q E s := fun {y} _ _ _ _ _ _ _ _ _ F hr h hs => by
          refine @sub_D _ _ _ _ _ _ _ _ _ _ _ _ _ _ _ _ _ _ _ F hr (by lia) (by lia) (getI (by simp [colsOf]; omega)) (fun z rz => ?_) hs
          obtain ⟨t, rfl⟩ := rz.int_inv
          rw [Int.toNat_natCast]; exact h t
        refine @a_name _ _ _ _ _ _ _ _ _ _ ?_
        with_reducible rename Fm _ _ _ _ _ _ _ => F0
        refine @st_local _ _ _ _ _ _ _ _ _ _ _ _ _ _ _ F0 (by rfl) ?_ (by rfl) (by rfl)
        clear F0
        intro _ _
        refine wpAny_isTrue_Compare1 ?_ (by rfl)
        refine Subscript_ ?_
        refine Subscript_ ?_
        with_reducible rename Fm _ _ _ _ _ _ _ => F0
        refine @nm_cellB _ _ _ _ _ _ _ _ _ _ _ _ _ _ _ _ _ F0 (by rfl) (by rfl) (by assumption) ?_ (by rfl) (by decide)
        with_reducible rename Fm _ _ _ _ _ _ _ => F0
        refine @nm_cellO _ _ _ _ _ _ _ _ _ _ _ _ _ _ _ _ _ F0 (by rfl) (by rfl) (by assumption) ?_ (by rfl) (by decide)
        rename Fm _ _ _ _ _ _ _ => F
        refine row hx0 hx1 F (fun r1 hr1 => ?_) (by intro _; with_unfolding_all rfl)
        with_reducible rename Fm _ _ _ _ _ _ _ => F0
        refine @nm_local _ _ _ _ _ _ _ _ _ _ _ _ _ _ _ _ F0 (by rfl) (by rfl) ?_ (by rfl) (by rfl) (by decide)
        rename Fm _ _ _ _ _ _ _ => F
        refine itm F hr1 (fun t2 => ?_) (by intro _; with_unfolding_all rfl)
        refine Subscript_ ?_
        refine Subscript_ ?_
        with_reducible rename Fm _ _ _ _ _ _ _ => F0
        refine @nm_cellB _ _ _ _ _ _ _ _ _ _ _ _ _ _ _ _ _ F0 (by rfl) (by rfl) (by assumption) ?_ (by rfl) (by decide)
        with_reducible rename Fm _ _ _ _ _ _ _ => F0
        refine @nm_cellO _ _ _ _ _ _ _ _ _ _ _ _ _ _ _ _ _ F0 (by rfl) (by rfl) (by assumption) ?_ (by rfl) (by decide)
        rename Fm _ _ _ _ _ _ _ => F
        refine row hx2 hx3 F (fun r2 hr2 => ?_) (by intro _; with_unfolding_all rfl)
        with_reducible rename Fm _ _ _ _ _ _ _ => F0
        refine @nm_local _ _ _ _ _ _ _ _ _ _ _ _ _ _ _ _ F0 (by rfl) (by rfl) ?_ (by rfl) (by rfl) (by decide)
        rename Fm _ _ _ _ _ _ _ => F
        refine itm F hr2 (fun t3 => ?_) (by intro _; with_unfolding_all rfl)
        refine @c_ge _ _ _ _ _ _ _ _ _ _ ?_
        refine wpAny_truthy_bool ?_
        rename Fm _ _ _ _ _ _ _ => F
        refine ⟨rfl, ?_⟩
        refine @ite_d _ _ _ _ (fun c => ?_) (fun c => ?_)
        · with_reducible rename Fm _ _ _ _ _ _ _ => F0
          refine @nm_local _ _ _ _ _ _ _ _ _ _ _ _ _ _ _ _ F0 (by rfl) (by rfl) ?_ (by rfl) (by rfl) (by decide)
          rename Fm _ _ _ _ _ _ _ => F
          exact ⟨B₃, [], _, Kp.rfl, rfl, ⟨_, rfl⟩, F⟩
        · exact ⟨[], _, rfl, F⟩
      · intro D s' B₃ ys kd k3 F hD hall
        have hI3 := rd_ints (h := B₃) hall
        refine @e_list _ _ _ _ _ _ _ _ _ ?_
        refine @sp_nil _ _ _ _ _ _ _ _ ?_
        with_reducible rename Fm _ _ _ _ _ _ _ => F0
        refine @n_list _ _ _ _ _ _ _ _ _ _ _ _ _ F0 (by simp [sizeLine_eq]) ?_
        clear F0
        intro _ _ _
        rename Fm _ _ _ _ _ _ _ => F
        refine @eq_D _ _ _ _ _ _ _ _ _ _ _ _ _ _ _ _ (10) F ((Rd.list hD (RdL.ints hI3)).kp F.kp) (Rd.list (ds := []) (F.get (.head _)) .nil) (shaped1 _) (shaped1 []) (R.le (by lia)) ?_
        rw [show PyData.list [] = dIs [] from rfl, eqv_dIs]
        replace F := F.drop (List.sublist_cons_self _ _)
        refine wpAny_truthy_bool ?_
        rename Fm _ _ _ _ _ _ _ => F
        refine ⟨rfl, ?_⟩
        refine @ite_d _ _ _ _ (fun c => ?_) (fun c => ?_)
        · refine @e_tuple _ _ _ _ _ _ _ _ _ _ ?_
          refine @sp_cons _ _ _ _ _ _ _ _ _ _ ?_ (by rfl)
          with_reducible rename Fm _ _ _ _ _ _ _ => F0
          refine @nm_cellO _ _ _ _ _ _ _ _ _ _ _ _ _ _ _ _ _ F0 (by rfl) (by rfl) (by exact List.Mem.tail _ (List.Mem.head _)) ?_ (by rfl) (by decide)
          refine @sp_cons _ _ _ _ _ _ _ _ _ _ ?_ (by rfl)
          with_reducible rename Fm _ _ _ _ _ _ _ => F0
          refine @nm_cellO _ _ _ _ _ _ _ _ _ _ _ _ _ _ _ _ _ F0 (by rfl) (by rfl) (by exact List.Mem.head _) ?_ (by rfl) (by decide)
          refine @sp_nil _ _ _ _ _ _ _ _ ?_
          with_reducible rename Fm _ _ _ _ _ _ _ => F0
          refine @n_tuple _ _ _ _ _ _ _ _ _ _ _ _ _ F0 (by simp [sizeLine_eq]) ?_
          clear F0
          intro _ _ _
          rename Fm _ _ _ _ _ _ _ => F
          obtain ⟨B₄, k4, F, g4⟩ := F.freezeAt (.head _)
          exact ⟨B₄, _, _, k3.trans k4, ⟨_, _, rfl⟩, Rd.tup g4 (.cons Rd.int (.cons Rd.int .nil)), F⟩
        · exact ⟨_, _, ⟨_, _, rfl⟩, F.shrink GB k3⟩
    · intro Df s' B2 yf kf k2 F hDf hallf
      rw [List.map_id'] at hallf
      replace hallf : All2 (fun x v => Rd B2 v (dP x)) (fitsL T) yf := hallf
      with_reducible rename Fm _ _ _ _ _ _ _ => F0
      refine @st_cell _ _ _ _ _ _ _ _ _ _ _ _ _ _ _ _ _ _ F0 (by rfl) (by rfl) (by exact UpO.tail _ (UpO.head _)) ?_ (by rfl)
      clear F0
      intro _ _
      rename Fm _ _ _ _ _ _ _ => F
      obtain ⟨B3, k3, F, g4⟩ := F.freezeAt (.tail _ (.head _))
      have kk := k1.trans (k2.trans k3)
      have g6' := kk _ _ g6
      have hfits : Rd B3 (.ref Df) (.list ((fitsL T).map dP)) := (Rd.list hDf (rdL_of hallf)).kp k3
      have hboth := hallb.imp fun _ _ x => x.kp (k2.trans k3)
      have hDb3 := (k2.trans k3) _ _ hDb
      refine @s_assignU _ _ _ _ _ _ _ _ _ _ _ _ _ _ _ _ _ _ ?_ (by rfl) (by rfl) (by decide +kernel) (by intro _; rfl) (by rfl)
      with_reducible rename Fm _ _ _ _ _ _ _ => F0
      refine @nm_local _ _ _ _ _ _ _ _ _ _ _ _ _ _ _ _ F0 (by rfl) (by rfl) ?_ (by rfl) (by rfl) (by decide)
      rename Fm _ _ _ _ _ _ _ => F
      refine comp_listGU (by rfl) (by rfl) (by rfl) F (it_allG hh F.kp (⟨_, hDb3, rfl, kb, rfl⟩ : B3.IsList Db yb.toArray) (by simpa using hboth)) (by rw [sizeLine_eq]; decide) (fitB T) (fun _ => true) (fun _ b v => v = Value.bool b) (fun _ _ _ _ _ h => h) (fun C ob => ob = []) (fun _ => rfl) ?_ ?_
      · rintro C B₁ s' ob₁ ex x v hx kB hxv rfl hob F
        obtain ⟨hx0, hx1, hx2, hx3⟩ := bothL_mem x hx
        obtain ⟨_, hyi, ai, rfl, lai⟩ := hal.get (hT6 _ hx0 hx1)
        obtain ⟨_, hyj, aj, rfl, laj⟩ := hal.get (hT6 _ hx2 hx3)
        have kk1 := kk.trans kB
        replace lai := lai.kp kk1
        replace laj := laj.kp kk1
        have H6 := kB _ _ g6'
        have hDl2 : B₁.IsList Dl yl.toArray := ⟨_, kk1 _ _ hDl, rfl, kl, rfl⟩
        refine @a_pair _ _ _ _ _ _ _ _ _ _ _ _ _ _ _ _ _ _ _ _ _ _ hh F (hxv.kp Kp.rfl |>.kp kB) fun s₁ to tc F => ?_
        with_reducible rename Fm _ _ _ _ _ _ _ => F0
        refine @st_local _ _ _ _ _ _ _ _ _ _ _ _ _ _ _ F0 (by rfl) ?_ (by rfl) (by rfl)
        clear F0
        intro _ _
        with_reducible rename Fm _ _ _ _ _ _ _ => F0
        refine @st_local _ _ _ _ _ _ _ _ _ _ _ _ _ _ _ F0 (by rfl) ?_ (by rfl) (by rfl)
        clear F0
        intro _ _
        refine @tests_nil _ _ _ _ _ _ _ ?_
        rename Fm _ _ _ _ _ _ _ => F
        refine ⟨rfl, ?_⟩
        rw [if_pos rfl]
        refine @e_meth _ _ _ _ _ _ _ _ _ _ _ _ ?_ (by rfl) (by rfl) (by rfl)
        refine Subscript_ ?_
        with_reducible rename Fm _ _ _ _ _ _ _ => F0
        refine @nm_cellB _ _ _ _ _ _ _ _ _ _ _ _ _ _ _ _ _ F0 (by rfl) (by rfl) (by assumption) ?_ (by rfl) (by decide)
        with_reducible rename Fm _ _ _ _ _ _ _ => F0
        refine @nm_local _ _ _ _ _ _ _ _ _ _ _ _ _ _ _ _ F0 (by rfl) (by rfl) ?_ (by rfl) (by rfl) (by decide)
        rename Fm _ _ _ _ _ _ _ => F
        refine @sub_list _ _ _ _ _ _ _ _ _ _ (yl.toArray) _ _ (isList_kp hDl2 F.kp) hx0 (by lia) (by simpa using hyi) ?_ (by with_unfolding_all rfl)
        with_reducible rename Fm _ _ _ _ _ _ _ => F0
        refine @gm_lead _ _ _ _ _ _ _ _ _ _ _ _ _ _ _ _ (leadK _) (Fm.gdh F0) (LeadAt.kp (by assumption) (Fm.kp F0)) (.inr (.inr ⟨rfl, rfl⟩)) ?_
        with_reducible rename Fm _ _ _ _ _ _ _ => F0
        refine @cw_M1 _ _ _ _ _ _ _ _ _ _ _ _ (Fm.gdh F0) (by rfl) ?_ (by rfl)
        refine Subscript_ ?_
        with_reducible rename Fm _ _ _ _ _ _ _ => F0
        refine @nm_cellB _ _ _ _ _ _ _ _ _ _ _ _ _ _ _ _ _ F0 (by rfl) (by rfl) (by assumption) ?_ (by rfl) (by decide)
        with_reducible rename Fm _ _ _ _ _ _ _ => F0
        refine @nm_local _ _ _ _ _ _ _ _ _ _ _ _ _ _ _ _ F0 (by rfl) (by rfl) ?_ (by rfl) (by rfl) (by decide)
        rename Fm _ _ _ _ _ _ _ => F
        refine @sub_list _ _ _ _ _ _ _ _ _ _ (yl.toArray) _ _ (isList_kp hDl2 F.kp) hx2 (by lia) (by simpa using hyj) ?_ (by with_unfolding_all rfl)
        with_reducible rename Fm _ _ _ _ _ _ _ => F0
        refine ⟨Fm.gdh F0, ?_⟩
        rename Fm _ _ _ _ _ _ _ => F
        refine @less_spec _ _ _ _ _ _ _ _ _ (R.le (by lia)) F.gdh (lai.kp F.kp) (laj.kp F.kp) fun s₈ gr => ?_
        replace F := F.gr gr
        rw [hans x hx]
        exact ⟨B₁, [], _, Kp.rfl, rfl, rfl, F⟩
      · intro Da s' B4 ya ka k4 F hDa halla
        rw [List.filter_eq_self.mpr (fun _ _ => rfl)] at halla
        have hfits4 := hfits.kp k4
        have hboth4 := hboth.imp fun _ _ x => x.kp k4
        have gF := k4 _ _ g4
        refine @s_if _ _ _ _ _ _ _ _ _ _ _ ?_
        refine @t_or _ _ _ _ _ _ _ _ _ _ ?_
        refine @or_cons _ _ _ _ _ _ _ _ _ ?_
        refine wpAny_isTrue_Compare1 ?_ (by rfl)
        with_reducible rename Fm _ _ _ _ _ _ _ => F0
        refine @nm_local _ _ _ _ _ _ _ _ _ _ _ _ _ _ _ _ F0 (by rfl) (by rfl) ?_ (by rfl) (by rfl) (by decide)
        refine @e_compC _ _ _ _ _ _ _ _ _ _ _ _ _ _ ?_ (by rfl) (by rfl) (by decide +kernel) (by intro _; rfl)
        with_reducible rename Fm _ _ _ _ _ _ _ => F0
        refine @nm_local _ _ _ _ _ _ _ _ _ _ _ _ _ _ _ _ F0 (by rfl) (by rfl) ?_ (by rfl) (by rfl) (by decide)
        rename Fm _ _ _ _ _ _ _ => F
        refine @comp_map _ _ _ _ _ _ _ _ _ _ _ _ _ _ _ _ _ _ _ _ _ _ _ _ F (it_all hh F.kp (⟨_, k4 _ _ hDb3, rfl, kb, rfl⟩ : B4.IsList Db yb.toArray) (by simpa using hboth4)) (by rw [sizeLine_eq]; decide) (fun x => decide (x ∈ fitsL T)) (fun _ b v => v = Value.bool b) (fun _ _ _ _ _ h => h) (fun C ob => ob = []) (fun _ => rfl) ?_ ?_ (fun _ _ => rfl)
        · rintro C B₁ s' ob₁ ex x v hx kB hxv rfl hob F
          have hf1 := hfits4.kp kB
          have G4 := kB _ _ gF
          refine @a_name _ _ _ _ _ _ _ _ _ _ ?_
          with_reducible rename Fm _ _ _ _ _ _ _ => F0
          refine @st_local _ _ _ _ _ _ _ _ _ _ _ _ _ _ _ F0 (by rfl) ?_ (by rfl) (by rfl)
          clear F0
          intro _ _
          refine wpAny_Compare1 ?_ (by rfl)
          with_reducible rename Fm _ _ _ _ _ _ _ => F0
          refine @nm_local _ _ _ _ _ _ _ _ _ _ _ _ _ _ _ _ F0 (by rfl) (by rfl) ?_ (by rfl) (by rfl) (by decide)
          with_reducible rename Fm _ _ _ _ _ _ _ => F0
          refine @nm_cellB _ _ _ _ _ _ _ _ _ _ _ _ _ _ _ _ _ F0 (by rfl) (by rfl) (by assumption) ?_ (by rfl) (by decide)
          rename Fm _ _ _ _ _ _ _ => F
          refine @in_D _ _ _ _ _ _ _ _ _ _ _ _ _ _ _ _ (10) F (hf1.kp F.kp) ((hxv.kp kB).kp F.kp) (shapedP _) (shapedP1 _) (R.le (by lia)) ?_
          rw [anyP]
          exact ⟨B₁, [], _, Kp.rfl, rfl, rfl, F⟩
        · intro Dp s' B5 yp kp' k5 F hDp hallp
          have e : bothL.map (fun x => decide (x ∈ fitsL T)) = bothL.map (fitB T) := by
            refine List.map_congr_left fun x hx => ?_
            have q : x ∈ fitsL T ↔ fitB T x = true := by
              unfold fitsL
              rw [List.mem_filter]
              exact ⟨fun h => h.2, fun h => ⟨hx, h⟩⟩
            rw [Bool.eq_iff_iff, decide_eq_true_iff]
            exact q
          rw [e] at hallp
          have q1 : Rd B5 (.ref Da) (.list ((bothL.map (fitB T)).map .bool)) := Rd.list (k5 _ _ hDa) (rdL_of (halla.imp fun _ _ e => by rw [e]; exact Rd.bool))
          have q2 : Rd B5 (.ref Dp) (.list ((bothL.map (fitB T)).map .bool)) := Rd.list hDp (rdL_of (hallp.imp fun _ _ e => by rw [e]; exact Rd.bool))
          skip
          rename Fm _ _ _ _ _ _ _ => F
          refine @ne_D _ _ _ _ _ _ _ _ _ _ _ _ _ _ _ _ (10) F (q1.kp F.kp) (q2.kp F.kp) (shapedB _) (shapedB _) (R.le (by lia)) ?_
          rw [eqv_same (shapedB _)]
          refine wpAny_truthy_bool ?_
          refine @ite_b _ _ _ (fun c => absurd c (by simp)) (fun _ => ?_)
          refine @or_cons _ _ _ _ _ _ _ _ _ ?_
          refine wpAny_isTrue_Compare1 ?_ (by rfl)
          refine @e_compC _ _ _ _ _ _ _ _ _ _ _ _ _ _ ?_ (by rfl) (by rfl) (by decide +kernel) (by intro _; rfl)
          with_reducible rename Fm _ _ _ _ _ _ _ => F0
          refine @nm_local _ _ _ _ _ _ _ _ _ _ _ _ _ _ _ _ F0 (by rfl) (by rfl) ?_ (by rfl) (by rfl) (by decide)
          rename Fm _ _ _ _ _ _ _ => F
          have halla5 := halla
          refine @comp_if _ _ _ _ _ _ _ _ _ _ _ _ _ _ _ _ _ _ _ _ _ _ _ (bothL.map (fitB T)) (fun b v => v = Value.bool b) F (it_all hh F.kp (⟨_, k5 _ _ hDa, rfl, ka, rfl⟩ : B5.IsList Da ya.toArray) (by simpa using halla)) (by rw [sizeLine_eq]; simp [bothL]) (fun b => b) (fun _ => false) (fun _ b v => v = Value.bool b) (fun _ _ _ _ _ h => h) (fun C ob => ob = []) (fun _ => rfl) ?_ ?_ (fun _ _ => rfl)
          · rintro C B₁ s' ob₁ ex b v hb kB rfl rfl hob F
            refine @a_name _ _ _ _ _ _ _ _ _ _ ?_
            with_reducible rename Fm _ _ _ _ _ _ _ => F0
            refine @st_local _ _ _ _ _ _ _ _ _ _ _ _ _ _ _ F0 (by rfl) ?_ (by rfl) (by rfl)
            clear F0
            intro _ _
            refine @t_not _ _ _ _ _ _ _ _ _ _ ?_
            refine isTrue_plain ?_ (by rfl)
            refine @e_call _ _ _ _ _ _ _ _ _ _ _ ?_
            with_reducible rename Fm _ _ _ _ _ _ _ => F0
            refine @nm_bi _ _ _ _ _ _ _ _ _ _ _ _ _ _ _ _ F0 (by rfl) (by rfl) (by exact bb_isi) ?_ (by rfl) (by rfl) (by rfl) (by decide) (by decide)
            refine @cw_bi2 _ _ _ _ _ _ _ _ _ _ _ ?_ (by rfl)
            with_reducible rename Fm _ _ _ _ _ _ _ => F0
            refine @nm_local _ _ _ _ _ _ _ _ _ _ _ _ _ _ _ _ F0 (by rfl) (by rfl) ?_ (by rfl) (by rfl) (by decide)
            with_reducible rename Fm _ _ _ _ _ _ _ => F0
            refine @nm_bi _ _ _ _ _ _ _ _ _ _ _ _ _ _ _ _ F0 (by rfl) (by rfl) (by exact bb_bool) ?_ (by rfl) (by rfl) (by rfl) (by decide) (by decide)
            refine @b_isiB _ _ _ _ _ _ _ ?_
            refine wpAny_truthy_bool ?_
            rename Fm _ _ _ _ _ _ _ => F
            refine ⟨rfl, ?_⟩
            exact ⟨[], _, rfl, F⟩
          · intro De s' B6 ye ke k6 F hDe halle
            rw [List.filter_eq_nil_iff.mpr (fun _ _ => by simp)] at halle
            refine @e_list _ _ _ _ _ _ _ _ _ ?_
            refine @sp_nil _ _ _ _ _ _ _ _ ?_
            with_reducible rename Fm _ _ _ _ _ _ _ => F0
            refine @n_list _ _ _ _ _ _ _ _ _ _ _ _ _ F0 (by simp [sizeLine_eq]) ?_
            clear F0
            intro _ _ _
            rename Fm _ _ _ _ _ _ _ => F
            cases halle
            refine @ne_D _ _ _ _ _ _ _ _ _ _ _ _ _ _ _ _ (10) F ((Rd.list (ds := []) hDe .nil).kp F.kp) (Rd.list (ds := []) (F.get (.head _)) .nil) (shaped1 []) (shaped1 []) (R.le (by lia)) ?_
            rw [show PyData.list [] = dIs [] from rfl, eqv_same (shaped1 [])]
            replace F := F.drop (List.sublist_cons_self _ _)
            refine wpAny_truthy_bool ?_
            refine @ite_b _ _ _ (fun c => absurd c (by simp)) (fun _ => ?_)
            refine @or_nil _ _ _ _ _ _ _ ?_
            refine @ite_b _ _ _ (fun c => absurd c (by simp)) (fun _ => ?_)
            refine @s_nil _ _ _ _ _ _ ?_
            with_reducible refine @then_next _ _ _ _ _ _ _ ?_
            rename Fm _ _ _ _ _ _ _ => F
            have kf := kk.trans (k4.trans (k5.trans k6))
            exact next _ B6 (.ref Df) kf (hfits4.kp (k5.trans k6)) ((k5.trans k6) _ _ gF) (F.sub trivial)
end Mine
end
section
open PySem PySem.W PyProof.Rows PySem.Calls PySem.Spec
set_option maxRecDepth 100000
namespace Mine

abbrev lv2 (T : List (List Nat)) (k : Int) : Int := (LD T k).level 2
def lineTo (f : Int → Int) : Nat → List Int
  | 0 => []
  | k + 1 => insI1 (decide ((k : Int) % 2 = 0)) f (lineTo f k) (k : Int)
theorem lineTo_mem {f : Int → Int} : ∀ {k : Nat} {y : Int}, y ∈ lineTo f k ↔ 0 ≤ y ∧ y < k
  | 0, y => by
    simp [lineTo]
    try omega
  | k + 1, y => by rw [lineTo, insI1_mem, lineTo_mem]; lia
theorem lineTo_len {f : Int → Int} : ∀ {k : Nat}, (lineTo f k).length = k
  | 0 => rfl
  | k + 1 => by rw [lineTo, insI1_len, lineTo_len]
def mkT (T : List (List Nat)) (k : Nat) : Int × Int × Int := (colAt T k 1, 1 - (k : Int) % 2, if (k : Int) % 2 = 0 then (k : Int) else -(k : Int))
abbrev mks (T : List (List Nat)) : List (Int × Int × Int) := (List.range 10).map (mkT T)
abbrev mlt (T : List (List Nat)) (i j : Nat) : Bool := lex3 ((mks T).getD i (0, 0, 0)) ((mks T).getD j (0, 0, 0))
theorem all2_self {α β : Type} {R : α → β → Prop} {g : α → β} : ∀ {xs : List α}, (∀ x ∈ xs, R x (g x)) → All2 R xs (xs.map g)
  | [], _ => .nil
  | x :: r, h => .cons (h x (.head _)) (all2_self fun y hy => h y (.tail _ hy))
set_option maxHeartbeats 4000000 in
theorem partD {w : World} {A : Around} {s₀ s : Shared} {B : Heap} {L : Addr} {ob : Ob} {lv cv : Value} {T : List (List Nat)} {Q E} (R : Rm A 20) (tx : Tx T) (hl : LeadsAt B lv T) (g6 : B.get? (L + 6) = some (cellO (some lv))) (bi : BI 156 B)
    (hcv : Rd B cv (.list ((T.map colsOf).map dIs))) (g3 : B.get? (L + 3) = some (cellO (some cv))) (hlt : LtO (mlt T) 10) (hline : ∀ p, Pm 10 p → Sd (mlt T) p 10 → lineTo (lv2 T) 10 = p.toList.map fun (i : Nat) => (i : Int))
    (F : Fm (KK w) s₀ B L s [] (cellN (L + 5) :: (156, tabObj #[]) :: ob))
    (next : ∀ s' B' fv ps, Kp B B' → Rd B' fv (dIs (lineTo (lv2 T) 10)) →
      Fm (KK w) s₀ B' L s' [("line", fv)] (cellN (L + 5) :: (156, tabObj ps) :: ob) → wpAny (model PP w) A (execs ((bodyOf w 159).drop 13) (envOf' w 159 L)) Q E s') :
    wpAny (model PP w) A (execs ((bodyOf w 159).drop 9) (envOf' w 159 L)) Q E s := by
  show wpAny _ _ (execs (_ :: _) (envX "law" ⟨_, [_, _, _, _, _, _, _, _, _, _, _, _, _, _, _, _, _, _, _, _, _, _, _, _, _], _, _, _⟩ L 159 (.ref 158) (cellsFrom (L + 1) [_, _, _, _, _, _, _, _, _, _, _, _, _, _, _, _, _, _, _, _, _, _, _, _, _] []))) _ _ _
  obtain ⟨Dl, yl, kl, rfl, hDl, hal⟩ := hl
  have hh := R.h
  have hTl := tx.len
  have hT6 : ∀ k : Int, 0 ≤ k → k < 10 → T[k.toNat]? = some (T.getD k.toNat []) := fun k h1 h2 => by
    rw [List.getD_eq_getElem?_getD, List.getElem?_eq_getElem (by lia)]; rfl
  have hKc : codeHdIn (KK w) 158 156 = true := by kernel_rfl
  refine @s_assign _ _ _ _ _ _ _ _ _ _ _ ?_ (by rfl)
  refine @e_list _ _ _ _ _ _ _ _ _ ?_
  refine @sp_nil _ _ _ _ _ _ _ _ ?_
  with_reducible rename Fm _ _ _ _ _ _ _ => F0
  refine @n_list _ _ _ _ _ _ _ _ _ _ _ _ _ F0 (by simp [sizeLine_eq]) ?_
  clear F0
  intro _ _ _
  with_reducible rename Fm _ _ _ _ _ _ _ => F0
  refine @st_local _ _ _ _ _ _ _ _ _ _ _ _ _ _ _ F0 (by rfl) ?_ (by rfl) (by rfl)
  clear F0
  intro _ _
  refine @s_for _ _ _ _ _ _ _ _ _ _ _ _ ?_ (by intro _; rfl)
  refine @e_call _ _ _ _ _ _ _ _ _ _ _ ?_
  with_reducible rename Fm _ _ _ _ _ _ _ => F0
  refine @nm_bi _ _ _ _ _ _ _ _ _ _ _ _ _ _ _ _ F0 (by rfl) (by rfl) (by exact bb_range) ?_ (by rfl) (by rfl) (by rfl) (by decide) (by decide)
  refine @cw_ty1 _ _ _ _ _ _ _ _ _ _ ?_ (by rfl)
  with_reducible rename Fm _ _ _ _ _ _ _ => F0
  refine @e_int _ _ _ _ _ _ _ _ _ _ _ _ _ _ _ _ F0 ?_
  clear F0
  intro _ _ _
  rename Fm _ _ _ _ _ _ _ => F
  refine @b_range1 _ _ _ _ _ _ _ _ _ _ _ _ _ _ hh F (by lia) (by lia) fun r s₃ F it => ?_
  obtain ⟨Fa, F⟩ : ∃ Fa, Fm (KK w) s₀ B L s₃ [("line", .ref Fa)] ((Fa, lsO [] 0) :: cellN (L + 5) :: (156, tabObj #[]) :: ob) := ⟨_, F⟩
  refine @for_iterB _ _ _ _ _ _ _ _ _ _ _ _ _ _ _ _ _ _ _ F (it _) (fun i B₁ l₁ ob₁ => l₁ = ([("line", .ref Fa)] : Ls) ∧ ∃ vs n ps, ob₁ = (Fa, lsO vs n) :: cellN (L + 5) :: (156, tabObj ps) :: ob ∧ IntsAre vs (lineTo (lv2 T) i) ∧
    tabs2 B₁ "law.<locals>.<lambda>" ⟨178, 38, 178, 76⟩ ⟨180, 37, 180, 75⟩ ps) ⟨rfl, [], 0, #[], rfl, .nil, ⟨trivial, .inl rfl⟩, ⟨trivial, .inl rfl⟩⟩ ?_ ?_
  · rintro i B₁ s₅ l₁ ob₁ ex xv hi kB ⟨rfl, vs, n, ps, rfl, hI, htk1, htk2⟩ ⟨t, rfl⟩ F
    have hi10 : i < 10 := hi
    have hmem : ∀ v ∈ (i : Int) :: lineTo (lv2 T) i, 0 ≤ v ∧ v < 10 := fun v hv => by
      rcases List.mem_cons.mp hv with rfl | hv
      · lia
      · have := lineTo_mem.mp hv; lia
    have hlt' := lineTo_len (f := lv2 T) (k := i)
    with_reducible rename Fm _ _ _ _ _ _ _ => F0
    refine @st_local _ _ _ _ _ _ _ _ _ _ _ _ _ _ _ F0 (by rfl) ?_ (by rfl) (by rfl)
    clear F0
    intro _ _
    refine @s_if _ _ _ _ _ _ _ _ _ _ _ ?_
    refine wpAny_isTrue_Compare1 ?_ (by rfl)
    refine wpAny_BinOp ?_
    with_reducible rename Fm _ _ _ _ _ _ _ => F0
    refine @nm_local _ _ _ _ _ _ _ _ _ _ _ _ _ _ _ _ F0 (by rfl) (by rfl) ?_ (by rfl) (by rfl) (by decide)
    with_reducible rename Fm _ _ _ _ _ _ _ => F0
    refine @e_int _ _ _ _ _ _ _ _ _ _ _ _ _ _ _ _ F0 ?_
    clear F0
    intro _ _ _
    rename Fm _ _ _ _ _ _ _ => F
    refine @o_mod _ _ _ _ _ _ _ _ _ _ _ _ _ _ _ _ F (by lia) fun _ _ F => ?_
    with_reducible rename Fm _ _ _ _ _ _ _ => F0
    refine @e_int _ _ _ _ _ _ _ _ _ _ _ _ _ _ _ _ F0 ?_
    clear F0
    intro _ _ _
    refine @c_eq _ _ _ _ _ _ _ _ _ _ ?_
    refine wpAny_truthy_bool ?_
    refine @ite_d _ _ _ _ (fun c1 => ?_) (fun c1 => ?_)
    · refine @s_expr _ _ _ _ _ _ _ _ _ _ ?_ (by rfl) (by rfl)
      refine @e_callkw _ _ _ _ _ _ _ _ _ _ _ _ ?_
      with_reducible rename Fm _ _ _ _ _ _ _ => F0
      refine @nm_glob _ _ _ _ _ _ _ _ _ _ _ _ _ _ _ _ F0 (by rfl) (by exact kn_insort_right _) ?_ (by rfl) (by rfl) (by decide)
      with_reducible rename Fm _ _ _ _ _ _ _ => F0
      refine @cw_KW _ _ _ _ _ _ _ _ _ _ _ _ _ _ _ _ (Fm.gdh F0) (by rfl) ?_ (by rfl) (by rfl)
      refine @sp_cons _ _ _ _ _ _ _ _ _ _ ?_ (by rfl)
      with_reducible rename Fm _ _ _ _ _ _ _ => F0
      refine @nm_local _ _ _ _ _ _ _ _ _ _ _ _ _ _ _ _ F0 (by rfl) (by rfl) ?_ (by rfl) (by rfl) (by decide)
      refine @sp_cons _ _ _ _ _ _ _ _ _ _ ?_ (by rfl)
      with_reducible rename Fm _ _ _ _ _ _ _ => F0
      refine @nm_local _ _ _ _ _ _ _ _ _ _ _ _ _ _ _ _ F0 (by rfl) (by rfl) ?_ (by rfl) (by rfl) (by decide)
      refine @sp_nil _ _ _ _ _ _ _ _ ?_
      rename Fm _ _ _ _ _ _ _ => F
      refine @e_lamB _ _ _ _ _ _ _ _ _ _ _ _ _ _ _ _ _ _ _ _ (fun o => (Fa, lsO vs n) :: cellN (L + 5) :: (156, o) :: ob ++ ex) _ F (bi.kp kB) htk1 (by rfl) (by rfl) (by rfl) (by rfl) hKc (fun o => .tail _ (.tail _ (.head _))) rfl fun f s₆ B2 ps2 k2 la tk2 hps F => ?_
      have hcall : KeyOk PP w B2 f ((i : Int) :: lineTo (lv2 T) i) (lv2 T) := by
        have G2 := F.gd
        refine ⟨let ⟨pm, cv, ctv, h1, _⟩ := la.is; ⟨_, _, h1, rfl⟩, fun A Q E s v t k R hv hq => ?_⟩
        have hv6 := hmem v hv
        refine @call_lam _ _ _ _ _ _ _ _ _ _ _ _ _ _ [("one", .int v t)] _ R (G2.kp k) (la.kp k) (by intro _ _ _; rfl) (by rfl) (by rfl) (fun L' s' A' cv' hL F' R' => ?_) (by rfl) (by rfl) (by rfl)
        have kk := kB.trans k2
        have gl := k _ _ (kk _ _ g6)
        obtain ⟨y, hy, a, rfl, lat⟩ := hal.get (hT6 v hv6.1 hv6.2)
        have lat' := lat.kp (kk.trans k)
        refine @e_meth _ _ _ _ _ _ _ _ _ _ _ _ ?_ (by rfl) (by rfl) (by rfl)
        refine Subscript_ ?_
        with_reducible rename Fm _ _ _ _ _ _ _ => F0
        refine @nm_freeB _ _ _ _ _ _ _ _ _ _ _ _ _ _ _ _ _ F0 (by rfl) (by rfl) (by assumption) ?_ (by rfl) (by decide) (by decide)
        with_reducible rename Fm _ _ _ _ _ _ _ => F0
        refine @nm_local _ _ _ _ _ _ _ _ _ _ _ _ _ _ _ _ F0 (by rfl) (by rfl) ?_ (by rfl) (by rfl) (by decide)
        rename Fm _ _ _ _ _ _ _ => F
        refine @sub_list _ _ _ _ _ _ _ _ _ _ (yl.toArray) _ _ (isList_kp (⟨_, hDl, rfl, kl, rfl⟩ : B.IsList Dl yl.toArray) ((kk.trans k).trans F.kp)) hv6.1 (by lia) (by simpa using hy) ?_ (by with_unfolding_all rfl)
        with_reducible rename Fm _ _ _ _ _ _ _ => F0
        refine @gm_lead _ _ _ _ _ _ _ _ _ _ _ _ _ _ _ _ (leadK _) (Fm.gdh F0) (LeadAt.kp (by assumption) (Fm.kp F0)) (.inr (.inl ⟨rfl, rfl⟩)) ?_
        with_reducible rename Fm _ _ _ _ _ _ _ => F0
        refine @cw_M1 _ _ _ _ _ _ _ _ _ _ _ _ (Fm.gdh F0) (by rfl) ?_ (by rfl)
        with_reducible rename Fm _ _ _ _ _ _ _ => F0
        refine @e_int _ _ _ _ _ _ _ _ _ _ _ _ _ _ _ _ F0 ?_
        clear F0
        intro _ _ _
        with_reducible rename Fm _ _ _ _ _ _ _ => F0
        refine ⟨Fm.gdh F0, ?_⟩
        rename Fm _ _ _ _ _ _ _ => F
        refine @indent_spec _ _ _ _ _ _ _ _ _ (R'.le (by lia)) F.gdh (lat'.kp F.kp) (by lia) (by lia) fun t' s₇ gr => ?_
        replace F := F.gr gr
        exact hq _ _ ⟨F.sm, F.kp⟩
      with_reducible rename Fm _ _ _ _ _ _ _ => F0
      refine ⟨Fm.gdh F0, ?_⟩
      rename Fm _ _ _ _ _ _ _ => F
      have kh : Kp B2 (Shared.heap _ |>.hide Fa) := F.kpHide (.head _)
      refine @insR_key _ _ _ _ _ _ _ _ _ _ _ _ _ (R.le (by lia)) (F.gd.kp kh) (F.get (.head _)) hI (by lia) (hcall.kp kh fun y hy => hy) fun s₇ hs hk ha => ?_
      replace F := F.upH (.head _) hk ha hs
      refine @s_nil _ _ _ _ _ _ ?_
      with_reducible refine @then_next _ _ _ _ _ _ _ ?_
      refine @s_nil _ _ _ _ _ _ ?_
      with_reducible refine @lp_next _ _ _ ?_
      rename Fm _ _ _ _ _ _ _ => F
      refine ⟨B2, [("line", .ref Fa)], _, k2, ⟨rfl, _, _, ps2, rfl, ?_, tk2, htk2.other tk2.1 (hps _ (by simp)) k2⟩, F.sub ⟨rfl, trivial⟩⟩
      rw [lineTo, decide_eq_true c1]; exact ints_ins hI _ _ _
    · refine @s_expr _ _ _ _ _ _ _ _ _ _ ?_ (by rfl) (by rfl)
      refine @e_callkw _ _ _ _ _ _ _ _ _ _ _ _ ?_
      with_reducible rename Fm _ _ _ _ _ _ _ => F0
      refine @nm_glob _ _ _ _ _ _ _ _ _ _ _ _ _ _ _ _ F0 (by rfl) (by exact kn_insort_left _) ?_ (by rfl) (by rfl) (by decide)
      with_reducible rename Fm _ _ _ _ _ _ _ => F0
      refine @cw_KW _ _ _ _ _ _ _ _ _ _ _ _ _ _ _ _ (Fm.gdh F0) (by rfl) ?_ (by rfl) (by rfl)
      refine @sp_cons _ _ _ _ _ _ _ _ _ _ ?_ (by rfl)
      with_reducible rename Fm _ _ _ _ _ _ _ => F0
      refine @nm_local _ _ _ _ _ _ _ _ _ _ _ _ _ _ _ _ F0 (by rfl) (by rfl) ?_ (by rfl) (by rfl) (by decide)
      refine @sp_cons _ _ _ _ _ _ _ _ _ _ ?_ (by rfl)
      with_reducible rename Fm _ _ _ _ _ _ _ => F0
      refine @nm_local _ _ _ _ _ _ _ _ _ _ _ _ _ _ _ _ F0 (by rfl) (by rfl) ?_ (by rfl) (by rfl) (by decide)
      refine @sp_nil _ _ _ _ _ _ _ _ ?_
      rename Fm _ _ _ _ _ _ _ => F
      refine @e_lamB _ _ _ _ _ _ _ _ _ _ _ _ _ _ _ _ _ _ _ _ (fun o => (Fa, lsO vs n) :: cellN (L + 5) :: (156, o) :: ob ++ ex) _ F (bi.kp kB) htk2 (by rfl) (by rfl) (by rfl) (by rfl) hKc (fun o => .tail _ (.tail _ (.head _))) rfl fun f s₆ B2 ps2 k2 la tk2 hps F => ?_
      have hcall : KeyOk PP w B2 f ((i : Int) :: lineTo (lv2 T) i) (lv2 T) := by
        have G2 := F.gd
        refine ⟨let ⟨pm, cv, ctv, h1, _⟩ := la.is; ⟨_, _, h1, rfl⟩, fun A Q E s v t k R hv hq => ?_⟩
        have hv6 := hmem v hv
        refine @call_lam _ _ _ _ _ _ _ _ _ _ _ _ _ _ [("one", .int v t)] _ R (G2.kp k) (la.kp k) (by intro _ _ _; rfl) (by rfl) (by rfl) (fun L' s' A' cv' hL F' R' => ?_) (by rfl) (by rfl) (by rfl)
        have kk := kB.trans k2
        have gl := k _ _ (kk _ _ g6)
        obtain ⟨y, hy, a, rfl, lat⟩ := hal.get (hT6 v hv6.1 hv6.2)
        have lat' := lat.kp (kk.trans k)
        refine @e_meth _ _ _ _ _ _ _ _ _ _ _ _ ?_ (by rfl) (by rfl) (by rfl)
        refine Subscript_ ?_
        with_reducible rename Fm _ _ _ _ _ _ _ => F0
        refine @nm_freeB _ _ _ _ _ _ _ _ _ _ _ _ _ _ _ _ _ F0 (by rfl) (by rfl) (by assumption) ?_ (by rfl) (by decide) (by decide)
        with_reducible rename Fm _ _ _ _ _ _ _ => F0
        refine @nm_local _ _ _ _ _ _ _ _ _ _ _ _ _ _ _ _ F0 (by rfl) (by rfl) ?_ (by rfl) (by rfl) (by decide)
        rename Fm _ _ _ _ _ _ _ => F
        refine @sub_list _ _ _ _ _ _ _ _ _ _ (yl.toArray) _ _ (isList_kp (⟨_, hDl, rfl, kl, rfl⟩ : B.IsList Dl yl.toArray) ((kk.trans k).trans F.kp)) hv6.1 (by lia) (by simpa using hy) ?_ (by with_unfolding_all rfl)
        with_reducible rename Fm _ _ _ _ _ _ _ => F0
        refine @gm_lead _ _ _ _ _ _ _ _ _ _ _ _ _ _ _ _ (leadK _) (Fm.gdh F0) (LeadAt.kp (by assumption) (Fm.kp F0)) (.inr (.inl ⟨rfl, rfl⟩)) ?_
        with_reducible rename Fm _ _ _ _ _ _ _ => F0
        refine @cw_M1 _ _ _ _ _ _ _ _ _ _ _ _ (Fm.gdh F0) (by rfl) ?_ (by rfl)
        with_reducible rename Fm _ _ _ _ _ _ _ => F0
        refine @e_int _ _ _ _ _ _ _ _ _ _ _ _ _ _ _ _ F0 ?_
        clear F0
        intro _ _ _
        with_reducible rename Fm _ _ _ _ _ _ _ => F0
        refine ⟨Fm.gdh F0, ?_⟩
        rename Fm _ _ _ _ _ _ _ => F
        refine @indent_spec _ _ _ _ _ _ _ _ _ (R'.le (by lia)) F.gdh (lat'.kp F.kp) (by lia) (by lia) fun t' s₇ gr => ?_
        replace F := F.gr gr
        exact hq _ _ ⟨F.sm, F.kp⟩
      with_reducible rename Fm _ _ _ _ _ _ _ => F0
      refine ⟨Fm.gdh F0, ?_⟩
      rename Fm _ _ _ _ _ _ _ => F
      have kh : Kp B2 (Shared.heap _ |>.hide Fa) := F.kpHide (.head _)
      refine @insL_key _ _ _ _ _ _ _ _ _ _ _ _ _ (R.le (by lia)) (F.gd.kp kh) (F.get (.head _)) hI (by omega) (hcall.kp kh fun y hy => hy) fun s₇ hs hk ha => ?_
      replace F := F.upH (.head _) hk ha hs
      refine @s_nil _ _ _ _ _ _ ?_
      with_reducible refine @then_next _ _ _ _ _ _ _ ?_
      refine @s_nil _ _ _ _ _ _ ?_
      with_reducible refine @lp_next _ _ _ ?_
      rename Fm _ _ _ _ _ _ _ => F
      refine ⟨B2, [("line", .ref Fa)], _, k2, ⟨rfl, _, _, ps2, rfl, ?_, htk1.other tk2.1 (hps _ (by simp)) k2, tk2⟩, F.sub ⟨rfl, trivial⟩⟩
      rw [lineTo, decide_eq_false c1]; exact ints_ins hI _ _ _
  · rintro B₁ s₅ l₁ ob₁ kB ⟨rfl, vs, n, ps, rfl, hI, htk⟩ F
    with_reducible refine @then_next _ _ _ _ _ _ _ ?_
    rename Fm _ _ _ _ _ _ _ => F
    obtain ⟨B2, k2, F, g2⟩ := F.freezeAt (.head _)
    have hline' : Rd B2 (.ref Fa) (dIs (lineTo (lv2 T) 10)) := Rd.list g2 (RdL.ints hI)
    have kk := kB.trans k2
    have g3' := kk _ _ g3
    have hcv' := hcv.kp kk
    refine @s_assignU _ _ _ _ _ _ _ _ _ _ _ _ _ _ _ _ _ _ ?_ (by rfl) (by rfl) (by decide +kernel) (by intro _; rfl) (by rfl)
    refine @e_call _ _ _ _ _ _ _ _ _ _ _ ?_
    with_reducible rename Fm _ _ _ _ _ _ _ => F0
    refine @nm_bi _ _ _ _ _ _ _ _ _ _ _ _ _ _ _ _ F0 (by rfl) (by rfl) (by exact bb_range) ?_ (by rfl) (by rfl) (by rfl) (by decide) (by decide)
    refine @cw_ty1 _ _ _ _ _ _ _ _ _ _ ?_ (by rfl)
    with_reducible rename Fm _ _ _ _ _ _ _ => F0
    refine @e_int _ _ _ _ _ _ _ _ _ _ _ _ _ _ _ _ F0 ?_
    clear F0
    intro _ _ _
    rename Fm _ _ _ _ _ _ _ => F
    refine @b_range1 _ _ _ _ _ _ _ _ _ _ _ _ _ _ hh F (by lia) (by lia) fun r s₃ F it => ?_
    refine comp_mapU (by rfl) (by rfl) (by rfl) F (itl_range (it _)) (by rw [sizeLine_eq]; simp) (mkT T) (fun h x v => Rd h v (dT3 x)) (fun _ _ _ _ k h => h.kp k) (fun _ ob => ob = []) (fun _ => rfl) ?_ ?_ (fun _ _ => rfl)
    · rintro C B₁ s' ob₁ ex k xv hk kB3 ⟨tk, rfl⟩ rfl hob F
      have hk10 : k < 10 := by have := List.mem_range.mp hk; lia
      have H3 := kB3 _ _ g3'
      have hcv3 := hcv'.kp kB3
      refine @a_name _ _ _ _ _ _ _ _ _ _ ?_
      with_reducible rename Fm _ _ _ _ _ _ _ => F0
      refine @st_local _ _ _ _ _ _ _ _ _ _ _ _ _ _ _ F0 (by rfl) ?_ (by rfl) (by rfl)
      clear F0
      intro _ _
      refine @e_tuple _ _ _ _ _ _ _ _ _ _ ?_
      refine @sp_cons _ _ _ _ _ _ _ _ _ _ ?_ (by rfl)
      refine Subscript_ ?_
      refine Subscript_ ?_
      with_reducible rename Fm _ _ _ _ _ _ _ => F0
      refine @nm_cellB _ _ _ _ _ _ _ _ _ _ _ _ _ _ _ _ _ F0 (by rfl) (by rfl) (by assumption) ?_ (by rfl) (by decide)
      with_reducible rename Fm _ _ _ _ _ _ _ => F0
      refine @nm_local _ _ _ _ _ _ _ _ _ _ _ _ _ _ _ _ F0 (by rfl) (by rfl) ?_ (by rfl) (by rfl) (by decide)
      rename Fm _ _ _ _ _ _ _ => F
      refine @sub_D _ _ _ _ _ _ _ _ _ _ _ _ _ _ _ _ _ _ (dIs (colsOf (T.getD k []))) F hcv3 (by lia) (by lia) (by rw [List.getElem?_map, List.getElem?_map, hT6 _ (by lia) (by lia)]; rfl) (fun rv hr => ?_) (by intro _; with_unfolding_all rfl)
      with_reducible rename Fm _ _ _ _ _ _ _ => F0
      refine @e_int _ _ _ _ _ _ _ _ _ _ _ _ _ _ _ _ F0 ?_
      clear F0
      intro _ _ _
      rename Fm _ _ _ _ _ _ _ => F
      refine @sub_D _ _ _ _ _ _ _ _ _ _ _ _ _ _ _ _ _ _ (.int ((colsOf (T.getD k [])).getD 1 0)) F hr (by lia) (by lia) (by simp [colsOf]) (fun z rz => ?_) (by intro _; with_unfolding_all rfl)
      obtain ⟨tz, rfl⟩ := rz.int_inv
      refine @sp_cons _ _ _ _ _ _ _ _ _ _ ?_ (by rfl)
      refine wpAny_BinOp ?_
      with_reducible rename Fm _ _ _ _ _ _ _ => F0
      refine @e_int _ _ _ _ _ _ _ _ _ _ _ _ _ _ _ _ F0 ?_
      clear F0
      intro _ _ _
      refine wpAny_BinOp ?_
      with_reducible rename Fm _ _ _ _ _ _ _ => F0
      refine @nm_local _ _ _ _ _ _ _ _ _ _ _ _ _ _ _ _ F0 (by rfl) (by rfl) ?_ (by rfl) (by rfl) (by decide)
      with_reducible rename Fm _ _ _ _ _ _ _ => F0
      refine @e_int _ _ _ _ _ _ _ _ _ _ _ _ _ _ _ _ F0 ?_
      clear F0
      intro _ _ _
      rename Fm _ _ _ _ _ _ _ => F
      refine @o_mod _ _ _ _ _ _ _ _ _ _ _ _ _ _ _ _ F (by lia) fun _ _ F => ?_
      with_reducible rename Fm _ _ _ _ _ _ _ => F0
      refine @o_sub _ _ _ _ _ _ _ _ _ _ _ _ _ _ _ _ F0 ?_
      clear F0
      intro _ _ _
      refine @sp_cons _ _ _ _ _ _ _ _ _ _ ?_ (by rfl)
      refine @e_ifexp _ _ _ _ _ _ _ _ _ _ _ ?_
      refine wpAny_isTrue_Compare1 ?_ (by rfl)
      refine wpAny_BinOp ?_
      with_reducible rename Fm _ _ _ _ _ _ _ => F0
      refine @nm_local _ _ _ _ _ _ _ _ _ _ _ _ _ _ _ _ F0 (by rfl) (by rfl) ?_ (by rfl) (by rfl) (by decide)
      with_reducible rename Fm _ _ _ _ _ _ _ => F0
      refine @e_int _ _ _ _ _ _ _ _ _ _ _ _ _ _ _ _ F0 ?_
      clear F0
      intro _ _ _
      rename Fm _ _ _ _ _ _ _ => F
      refine @o_mod _ _ _ _ _ _ _ _ _ _ _ _ _ _ _ _ F (by lia) fun _ _ F => ?_
      with_reducible rename Fm _ _ _ _ _ _ _ => F0
      refine @e_int _ _ _ _ _ _ _ _ _ _ _ _ _ _ _ _ F0 ?_
      clear F0
      intro _ _ _
      refine @c_eq _ _ _ _ _ _ _ _ _ _ ?_
      refine wpAny_truthy_bool ?_
      have fin2 : ∀ {s' : Shared} {l : Ls} {a c : Addr → Prop} {t1 t2 t3 : Tok} {m : Addr} {z : Int} {ob : Ob}, z = (if (k : Int) % 2 = 0 then (k : Int) else -(k : Int)) → Fm (KK w) s₃ B₁ C s' l ((m, tpO [.int ((colsOf (T.getD k [])).getD 1 0) t1, .int (1 - (k : Int) % 2) t2, .int z t3]) :: ([] ++ ex)) →
          ∃ B₂ ob' l', Kp B₁ B₂ ∧ ob' = ([] : Ob) ∧ Rd B₂ (.ref m) (dT3 (mkT T k)) ∧ Fm (KK w) s₃ B₂ C s' l' (ob' ++ ex) := by
        intro s' l a c t1 t2 t3 m z ob hz F
        subst hz
        obtain ⟨B₂, k2, F, g2⟩ := F.freezeAt (.head _)
        exact ⟨B₂, [], _, k2, rfl, Rd.tup g2 (.cons Rd.int (.cons Rd.int (.cons Rd.int .nil))), F⟩
      refine @ite_d _ _ _ _ (fun c1 => ?_) (fun c1 => ?_)
      · with_reducible rename Fm _ _ _ _ _ _ _ => F0
        refine @nm_local _ _ _ _ _ _ _ _ _ _ _ _ _ _ _ _ F0 (by rfl) (by rfl) ?_ (by rfl) (by rfl) (by decide)
        refine @sp_nil _ _ _ _ _ _ _ _ ?_
        with_reducible rename Fm _ _ _ _ _ _ _ => F0
        refine @n_tuple _ _ _ _ _ _ _ _ _ _ _ _ _ F0 (by simp [sizeLine_eq]) ?_
        clear F0
        intro _ _ _
        rename Fm _ _ _ _ _ _ _ => F
        exact fin2 (a := fun _ => True) (c := fun _ => True) (ob := []) (by rw [if_pos c1]) F
      · refine wpAny_UnaryOp ?_
        with_reducible rename Fm _ _ _ _ _ _ _ => F0
        refine @nm_local _ _ _ _ _ _ _ _ _ _ _ _ _ _ _ _ F0 (by rfl) (by rfl) ?_ (by rfl) (by rfl) (by decide)
        rename Fm _ _ _ _ _ _ _ => F
        refine @o_neg _ _ _ _ _ _ _ _ _ _ _ _ _ _ F fun _ _ F => ?_
        refine @sp_nil _ _ _ _ _ _ _ _ ?_
        with_reducible rename Fm _ _ _ _ _ _ _ => F0
        refine @n_tuple _ _ _ _ _ _ _ _ _ _ _ _ _ F0 (by simp [sizeLine_eq]) ?_
        clear F0
        intro _ _ _
        rename Fm _ _ _ _ _ _ _ => F
        exact fin2 (a := fun _ => True) (c := fun _ => True) (ob := []) (by rw [if_neg c1]) F
    · intro Dm s' B3 ym km k3 F hDm hallm
      have hl3 := hline'.kp k3
      have hyl : ym.length = 10 := by have := hallm.length; simpa using this.symm
      refine @s_if _ _ _ _ _ _ _ _ _ _ _ ?_
      refine wpAny_isTrue_Compare1 ?_ (by rfl)
      with_reducible rename Fm _ _ _ _ _ _ _ => F0
      refine @nm_local _ _ _ _ _ _ _ _ _ _ _ _ _ _ _ _ F0 (by rfl) (by rfl) ?_ (by rfl) (by rfl) (by decide)
      refine @e_compC _ _ _ _ _ _ _ _ _ _ _ _ _ _ ?_ (by rfl) (by rfl) (by decide +kernel) (by intro _; rfl)
      refine @e_call _ _ _ _ _ _ _ _ _ _ _ ?_
      with_reducible rename Fm _ _ _ _ _ _ _ => F0
      refine @nm_bi _ _ _ _ _ _ _ _ _ _ _ _ _ _ _ _ F0 (by rfl) (by rfl) (by exact bb_sorted) ?_ (by rfl) (by rfl) (by rfl) (by decide) (by decide)
      refine @cw_bi1 _ _ _ _ _ _ _ _ _ _ ?_ (by rfl)
      with_reducible rename Fm _ _ _ _ _ _ _ => F0
      refine @nm_local _ _ _ _ _ _ _ _ _ _ _ _ _ _ _ _ F0 (by rfl) (by rfl) ?_ (by rfl) (by rfl) (by decide)
      rename Fm _ _ _ _ _ _ _ => F
      replace hallm : All2 (fun x v => Rd B3 v (dT3 x)) (mks T) ym := hallm
      refine @b_sorted3 _ _ _ _ _ _ _ _ _ _ _ _ _ _ _ F ⟨_, F.kp _ _ hDm, rfl, km, rfl⟩ hallm (by lia) (by lia) (by rw [hyl]; exact hlt) fun Ds p k s₄ P Sp F => ?_
      rw [hyl] at P Sp
      have hle := hline p P Sp
      obtain ⟨B4, k4, F, g4⟩ := F.freezeAt (.head _)
      have hp10 : ∀ i ∈ p.toList, i < 10 := fun i hi => List.mem_range.mp (P.perm.mem_iff.mp hi)
      have hpl : p.toList.length = 10 := by have := P.perm.length_eq; simpa using this
      have hit : All2 (fun (i : Nat) v => Rd B4 v (dT3 (mkT T i))) p.toList (p.toList.map fun i => ym.getD i Value.none) := by
        refine all2_self fun i hi => ?_
        obtain ⟨v, hv, rv⟩ := hallm.get (i := i) (a := mkT T i) (by rw [List.getElem?_map, List.getElem?_range (hp10 i hi)]; rfl)
        rw [List.getD_eq_getElem?_getD, hv]
        exact rv.kp k4
      refine @comp_map _ _ _ _ _ _ _ _ _ _ _ _ _ _ _ _ _ _ _ _ _ _ (p.toList) (fun (i : Nat) v => Rd B4 v (dT3 (mkT T i))) F (it_all hh F.kp (⟨_, g4, rfl, k, rfl⟩ : B4.IsList Ds (p.toList.map fun i => ym.getD i Value.none).toArray) (by simpa using hit)) (by rw [sizeLine_eq, hpl]; lia) (fun (i : Nat) => (i : Int)) (fun _ n v => ∃ t, v = Value.int n t) (fun _ _ _ _ _ h => h) (fun _ ob => ob = []) (fun _ => rfl) ?_ ?_ (fun _ _ => rfl)
      · rintro C B₁ s' ob₁ ex i xv hi kB3 hxv rfl hob F
        have hi10 := hp10 i hi
        refine @a_name _ _ _ _ _ _ _ _ _ _ ?_
        with_reducible rename Fm _ _ _ _ _ _ _ => F0
        refine @st_local _ _ _ _ _ _ _ _ _ _ _ _ _ _ _ F0 (by rfl) ?_ (by rfl) (by rfl)
        clear F0
        intro _ _
        refine @e_call _ _ _ _ _ _ _ _ _ _ _ ?_
        with_reducible rename Fm _ _ _ _ _ _ _ => F0
        refine @nm_bi _ _ _ _ _ _ _ _ _ _ _ _ _ _ _ _ F0 (by rfl) (by rfl) (by exact bb_abs) ?_ (by rfl) (by rfl) (by rfl) (by decide) (by decide)
        refine @cw_bi1 _ _ _ _ _ _ _ _ _ _ ?_ (by rfl)
        refine Subscript_ ?_
        with_reducible rename Fm _ _ _ _ _ _ _ => F0
        refine @nm_local _ _ _ _ _ _ _ _ _ _ _ _ _ _ _ _ F0 (by rfl) (by rfl) ?_ (by rfl) (by rfl) (by decide)
        with_reducible rename Fm _ _ _ _ _ _ _ => F0
        refine @e_int _ _ _ _ _ _ _ _ _ _ _ _ _ _ _ _ F0 ?_
        clear F0
        intro _ _ _
        rename Fm _ _ _ _ _ _ _ => F
        refine @subt_D _ _ _ _ _ _ _ _ _ _ _ _ _ _ _ _ _ _ (.int (mkT T i).2.2) F (hxv.kp kB3) (by lia) (by lia) rfl (fun z rz => ?_) (by intro _; with_unfolding_all rfl)
        obtain ⟨tz, rfl⟩ := rz.int_inv
        refine @b_abs _ _ _ _ _ _ _ _ _ _ _ _ _ _ F fun u s₅ F => ?_
        have e : (if (mkT T i).2.2 < 0 then -(mkT T i).2.2 else (mkT T i).2.2) = (i : Int) := by
          by_cases c : (i : Int) % 2 = 0
          · have h3 : (mkT T i).2.2 = (i : Int) := if_pos c
            rw [h3, if_neg (by lia)]
          · have h3 : (mkT T i).2.2 = -(i : Int) := if_neg c
            rw [h3, if_pos (by lia)]; lia
        rw [e]
        exact ⟨B₁, [], _, Kp.rfl, rfl, ⟨_, rfl⟩, F⟩
      · intro De s' B5 ye ke k5 F hDe halle
        have hI := rd_ints (h := B5) halle
        skip
        rename Fm _ _ _ _ _ _ _ => F
        have hl5 := hl3.kp (k4.trans k5)
        refine @ne_D _ _ _ _ _ _ _ _ _ _ _ _ _ _ _ _ (10) F (hl5.kp F.kp) ((Rd.list hDe (RdL.ints hI)).kp F.kp) (shaped1 _) (shaped1 _) (R.le (by lia)) ?_
        rw [← hle, eqv_same (shaped1 _)]
        refine wpAny_truthy_bool ?_
        refine @ite_b _ _ _ (fun c => absurd c (by simp)) (fun _ => ?_)
        refine @s_nil _ _ _ _ _ _ ?_
        with_reducible refine @then_next _ _ _ _ _ _ _ ?_
        rename Fm _ _ _ _ _ _ _ => F
        exact next _ B5 (.ref Fa) ps (kk.trans (k3.trans (k4.trans k5))) hl5 (F.sub ⟨rfl, trivial⟩)
end Mine
end
section
open PySem PySem.W PyProof.Rows PySem.Calls PySem.Spec
set_option maxRecDepth 100000
namespace Mine

abbrev frA (T : List (List Nat)) (xs : List Int) : FS := frontOf (LN T) xs
abbrev enA (T : List (List Nat)) (xs : List Int) : FS := endOf (LN T) xs.reverse
def psF (T : List (List Nat)) (xs : List Int) : List (List Int) := (xs.filter fun k => decide (k % 2 = 1)).map fun k => ((fitsL T).filter fun x => decide (x.2 = k)).map (·.1)
def psB (T : List (List Nat)) (xs : List Int) : List (List Int) := (xs.reverse.filter fun k => decide (k % 2 = 0)).map fun k => ((fitsL T).filter fun x => decide (x.1 = k)).map (·.2)
theorem rd_pair {h : Heap} {v : Value} {a b : PyData} (r : Rd h v (.tuple [a, b])) : ∃ t v1 v2, v = .ref t ∧ IsTup h t #[v1, v2] ∧ Rd h v1 a ∧ Rd h v2 b := by
  obtain ⟨t, vs, rfl, h1, h2⟩ := r.isTup
  obtain ⟨vs⟩ := vs
  cases h2 with
  | cons ra h2 =>
    cases h2 with
    | cons rb h2 =>
      cases h2
      exact ⟨t, _, _, rfl, h1, ra, rb⟩
abbrev tF (B : Heap) (tb : Array Value) : Prop := tabs2 B "_law_front.<locals>.<lambda>" ⟨131, 41, 131, 65⟩ ⟨133, 57, 133, 81⟩ tb
abbrev tE (B : Heap) (tb : Array Value) : Prop := tabs2 B "_law_end.<locals>.<lambda>" ⟨144, 40, 144, 64⟩ ⟨146, 58, 146, 82⟩ tb
theorem leads_kp {h h' : Heap} {v : Value} {T : List (List Nat)} (l : LeadsAt h v T) (k : Kp h h') : LeadsAt h' v T :=
  let ⟨D, ys, n, e, a, b⟩ := l; ⟨D, ys, n, e, k _ _ a, b.imp fun _ _ ⟨a, e, la⟩ => ⟨a, e, la.kp k⟩⟩
set_option maxHeartbeats 4000000 in
theorem partE {w : World} {A : Around} {s₀ s : Shared} {B : Heap} {L : Addr} {ob : Ob} {lv fv xv : Value} {T : List (List Nat)} {xs : List Int} {t1 t2 : Array Value} {Q E} (R : Rm A 20) (tx : Tx T) (hl : LeadsAt B lv T) (g6 : B.get? (L + 6) = some (cellO (some lv))) (bi1 : BI 137 B) (bi2 : BI 144 B)
    (hfv : Rd B fv (.list ((fitsL T).map dP))) (g4 : B.get? (L + 4) = some (cellO (some fv))) (hxv : Rd B xv (dIs xs)) (hxs : xs.length = 10 ∧ ∀ x ∈ xs, 0 ≤ x ∧ x < 10) (ht1 : tF B t1) (ht2 : tE B t2)
    (hpair : ∀ x ∈ (frA T xs).p ++ (enA T xs).p, x ∈ fitsL T)
    (F : Fm (KK w) s₀ B L s [("line", xv)] ((137, tabObj t1) :: (144, tabObj t2) :: cellN (L + 5) :: ob))
    (next : ∀ s' B' av cv bv dv t1 t2, Kp B B' → Rd B' av (.list ((frA T xs).p.map dP)) → Rd B' cv (dIs (frA T xs).c) → Rd B' bv (.list ((enA T xs).p.map dP)) → Rd B' dv (dIs (enA T xs).c) → tF B' t1 →
      Fm (KK w) s₀ B' L s' [("line", xv), ("ahead", av), ("served", cv), ("behind", bv), ("given", dv)] ((137, tabObj t1) :: cellN (L + 5) :: (144, tabObj t2) :: ob) → wpAny (model PP w) A (execs ((bodyOf w 159).drop 16) (envOf' w 159 L)) Q E s') :
    wpAny (model PP w) A (execs ((bodyOf w 159).drop 13) (envOf' w 159 L)) Q E s := by
  show wpAny _ _ (execs (_ :: _) (envX "law" ⟨_, [_, _, _, _, _, _, _, _, _, _, _, _, _, _, _, _, _, _, _, _, _, _, _, _, _], _, _, _⟩ L 159 (.ref 158) (cellsFrom (L + 1) [_, _, _, _, _, _, _, _, _, _, _, _, _, _, _, _, _, _, _, _, _, _, _, _, _] []))) _ _ _
  have hh := R.h
  have hTl := tx.len
  refine @s_unpack2 _ _ _ _ _ _ _ _ _ _ _ _ _ _ _ _ hh ?_ (by rfl) (by rfl)
  refine @e_call _ _ _ _ _ _ _ _ _ _ _ ?_
  with_reducible rename Fm _ _ _ _ _ _ _ => F0
  refine @nm_glob _ _ _ _ _ _ _ _ _ _ _ _ _ _ _ _ F0 (by rfl) (by exact kn_law_front _) ?_ (by rfl) (by rfl) (by decide)
  with_reducible rename Fm _ _ _ _ _ _ _ => F0
  refine @cw_F2 _ _ _ _ _ _ _ _ _ _ _ _ (Fm.gdh F0) (by rfl) ?_ (by rfl)
  with_reducible rename Fm _ _ _ _ _ _ _ => F0
  refine @nm_local _ _ _ _ _ _ _ _ _ _ _ _ _ _ _ _ F0 (by rfl) (by rfl) ?_ (by rfl) (by rfl) (by decide)
  with_reducible rename Fm _ _ _ _ _ _ _ => F0
  refine @nm_cellB _ _ _ _ _ _ _ _ _ _ _ _ _ _ _ _ _ F0 (by rfl) (by rfl) (by assumption) ?_ (by rfl) (by decide)
  with_reducible rename Fm _ _ _ _ _ _ _ => F0
  refine ⟨Fm.gdh F0, ?_⟩
  rename Fm _ _ _ _ _ _ _ => F
  refine @front_spec _ _ _ _ _ _ _ _ _ _ _ _ _ _ _ F (R.le (by lia)) bi1 ht1 hxv hl hTl ⟨by omega, hxs.2⟩ fun v1 s₁ B1 t1 k1 F ht1 hr1 => ?_
  obtain ⟨tt, av, cv, rfl, hit, hav, hcv⟩ := rd_pair hr1
  refine ⟨tt, av, cv, rfl, hit.keeps F.kp, fun s₂ g => ?_⟩
  replace F := F.gr g
  with_reducible rename Fm _ _ _ _ _ _ _ => F0
  refine @st_local _ _ _ _ _ _ _ _ _ _ _ _ _ _ _ F0 (by rfl) ?_ (by rfl) (by rfl)
  clear F0
  intro _ _
  with_reducible rename Fm _ _ _ _ _ _ _ => F0
  refine @st_local _ _ _ _ _ _ _ _ _ _ _ _ _ _ _ F0 (by rfl) ?_ (by rfl) (by rfl)
  clear F0
  intro _ _
  rename Fm _ _ _ _ _ _ _ => F
  replace F := F.perm (List.Perm.swap _ _ _)
  have g6' := k1 _ _ g6
  refine @s_unpack2 _ _ _ _ _ _ _ _ _ _ _ _ _ _ _ _ hh ?_ (by rfl) (by rfl)
  refine @e_call _ _ _ _ _ _ _ _ _ _ _ ?_
  with_reducible rename Fm _ _ _ _ _ _ _ => F0
  refine @nm_glob _ _ _ _ _ _ _ _ _ _ _ _ _ _ _ _ F0 (by rfl) (by exact kn_law_end _) ?_ (by rfl) (by rfl) (by decide)
  with_reducible rename Fm _ _ _ _ _ _ _ => F0
  refine @cw_F2 _ _ _ _ _ _ _ _ _ _ _ _ (Fm.gdh F0) (by rfl) ?_ (by rfl)
  with_reducible rename Fm _ _ _ _ _ _ _ => F0
  refine @nm_local _ _ _ _ _ _ _ _ _ _ _ _ _ _ _ _ F0 (by rfl) (by rfl) ?_ (by rfl) (by rfl) (by decide)
  with_reducible rename Fm _ _ _ _ _ _ _ => F0
  refine @nm_cellB _ _ _ _ _ _ _ _ _ _ _ _ _ _ _ _ _ F0 (by rfl) (by rfl) (by assumption) ?_ (by rfl) (by decide)
  with_reducible rename Fm _ _ _ _ _ _ _ => F0
  refine ⟨Fm.gdh F0, ?_⟩
  rename Fm _ _ _ _ _ _ _ => F
  refine @end_spec _ _ _ _ _ _ _ _ _ _ _ _ _ _ _ F (R.le (by lia)) (bi2.kp k1) ⟨ht2.1.kp k1, ht2.2.kp k1⟩ (hxv.kp k1) (leads_kp hl k1) hTl ⟨by omega, hxs.2⟩ fun v2 s₃ B2 t2 k2 F ht2 hr2 => ?_
  obtain ⟨tt2, bv, dv, rfl, hit2, hbv, hdv⟩ := rd_pair hr2
  refine ⟨tt2, bv, dv, rfl, hit2.keeps F.kp, fun s₄ g => ?_⟩
  replace F := F.gr g
  with_reducible rename Fm _ _ _ _ _ _ _ => F0
  refine @st_local _ _ _ _ _ _ _ _ _ _ _ _ _ _ _ F0 (by rfl) ?_ (by rfl) (by rfl)
  clear F0
  intro _ _
  with_reducible rename Fm _ _ _ _ _ _ _ => F0
  refine @st_local _ _ _ _ _ _ _ _ _ _ _ _ _ _ _ F0 (by rfl) ?_ (by rfl) (by rfl)
  clear F0
  intro _ _
  rename Fm _ _ _ _ _ _ _ => F
  replace F := F.sub (l' := [("line", xv), ("ahead", av), ("served", cv), ("behind", bv), ("given", dv)]) ⟨rfl, rfl, rfl, rfl, rfl, trivial⟩
  have hav2 := hav.kp k2
  obtain ⟨aa, avs, rfl, haa, haI⟩ := hav2.isList
  obtain ⟨ba, bvs, rfl, hba, hbI⟩ := hbv.isList
  have hal := haI.length
  have hbl := hbI.length
  rw [List.length_map] at hal hbl
  obtain ⟨_, zp, _⟩ := frontOf_bd (f := LN T) xs
  obtain ⟨_, zq, _⟩ := endOf_bd (f := LN T) xs.reverse
  rw [List.length_reverse] at zq
  have G4 := (k1.trans k2) _ _ g4
  have hfv2 := hfv.kp (k1.trans k2)
  refine @s_if _ _ _ _ _ _ _ _ _ _ _ ?_
  refine wpAny_isTrue_Compare1 ?_ (by rfl)
  refine @e_compC _ _ _ _ _ _ _ _ _ _ _ _ _ _ ?_ (by rfl) (by rfl) (by decide +kernel) (by intro _; rfl)
  refine wpAny_BinOp ?_
  with_reducible rename Fm _ _ _ _ _ _ _ => F0
  refine @nm_local _ _ _ _ _ _ _ _ _ _ _ _ _ _ _ _ F0 (by rfl) (by rfl) ?_ (by rfl) (by rfl) (by decide)
  with_reducible rename Fm _ _ _ _ _ _ _ => F0
  refine @nm_local _ _ _ _ _ _ _ _ _ _ _ _ _ _ _ _ F0 (by rfl) (by rfl) ?_ (by rfl) (by rfl) (by decide)
  rename Fm _ _ _ _ _ _ _ => F
  refine @o_addLI _ _ _ _ _ _ _ _ _ _ _ _ _ _ (avs.toList) (bvs.toList) F (isList_L (isList_kp haa F.kp)) (isList_L (isList_kp hba F.kp)) (by rw [sizeLine_eq]; lia) fun c s₅ F => ?_
  obtain ⟨B3, k3, F, g3⟩ := F.freezeAt (.head _)
  have hap : All2 (fun x v => Rd B3 v (dP x)) ((frA T xs).p ++ (enA T xs).p) (avs.toList ++ bvs.toList) :=
    ((haI.kp k3).unmap).append ((hbI.kp k3).unmap)
  refine @comp_if _ _ _ _ _ _ _ _ _ _ _ _ _ _ _ _ _ _ _ _ _ _ _ ((frA T xs).p ++ (enA T xs).p) (fun x v => Rd B3 v (dP x)) F (it_all hh F.kp (⟨_, g3, rfl, 0, rfl⟩ : B3.IsList c (avs.toList ++ bvs.toList).toArray) (by simpa using hap)) (by rw [sizeLine_eq, List.length_append]; show (frontOf _ _).p.length + (endOf _ _).p.length ≤ _; lia) (fun x => x) (fun x => !decide (x ∈ fitsL T)) (fun h x v => Rd h v (dP x)) (fun _ _ _ _ k h => h.kp k) (fun _ ob => ob = []) (fun _ => rfl) ?_ ?_ (fun _ _ => rfl)
  · rintro C B₁ s' ob₁ ex x v hx kB hxv rfl hob F
    have H4 := kB _ _ (k3 _ _ G4)
    have hf1 := (hfv2.kp k3).kp kB
    have GB := F.gd
    refine @a_name _ _ _ _ _ _ _ _ _ _ ?_
    with_reducible rename Fm _ _ _ _ _ _ _ => F0
    refine @st_local _ _ _ _ _ _ _ _ _ _ _ _ _ _ _ F0 (by rfl) ?_ (by rfl) (by rfl)
    clear F0
    intro _ _
    refine wpAny_isTrue_Compare1 ?_ (by rfl)
    with_reducible rename Fm _ _ _ _ _ _ _ => F0
    refine @nm_local _ _ _ _ _ _ _ _ _ _ _ _ _ _ _ _ F0 (by rfl) (by rfl) ?_ (by rfl) (by rfl) (by decide)
    with_reducible rename Fm _ _ _ _ _ _ _ => F0
    refine @nm_cellB _ _ _ _ _ _ _ _ _ _ _ _ _ _ _ _ _ F0 (by rfl) (by rfl) (by assumption) ?_ (by rfl) (by decide)
    rename Fm _ _ _ _ _ _ _ => F
    refine @notin_D _ _ _ _ _ _ _ _ _ _ _ _ _ _ _ _ (10) F (hf1.kp F.kp) ((hxv.kp kB).kp F.kp) (shapedP _) (shapedP1 _) (R.le (by lia)) ?_
    rw [anyP]
    refine wpAny_truthy_bool ?_
    rename Fm _ _ _ _ _ _ _ => F
    refine ⟨rfl, ?_⟩
    rw [decide_eq_true (hpair x hx), if_neg (by simp)]
    exact ⟨[], _, rfl, F⟩
  · intro D s' B4 ys kd k4 F hD hall
    rw [List.filter_eq_nil_iff.mpr (fun x hx => by simp [hpair x hx])] at hall
    cases hall
    refine @e_list _ _ _ _ _ _ _ _ _ ?_
    refine @sp_nil _ _ _ _ _ _ _ _ ?_
    with_reducible rename Fm _ _ _ _ _ _ _ => F0
    refine @n_list _ _ _ _ _ _ _ _ _ _ _ _ _ F0 (by simp [sizeLine_eq]) ?_
    clear F0
    intro _ _ _
    rename Fm _ _ _ _ _ _ _ => F
    refine @ne_D _ _ _ _ _ _ _ _ _ _ _ _ _ _ _ _ (10) F ((Rd.list (ds := []) hD .nil).kp F.kp) (Rd.list (ds := []) (F.get (.head _)) .nil) (shaped1 []) (shaped1 []) (R.le (by lia)) ?_
    rw [show PyData.list [] = dIs [] from rfl, eqv_same (shaped1 [])]
    replace F := F.drop (List.sublist_cons_self _ _)
    refine wpAny_truthy_bool ?_
    refine @ite_b _ _ _ (fun c => absurd c (by simp)) (fun _ => ?_)
    refine @s_nil _ _ _ _ _ _ ?_
    with_reducible refine @then_next _ _ _ _ _ _ _ ?_
    rename Fm _ _ _ _ _ _ _ => F
    have k34 := k3.trans k4
    exact next _ B4 _ cv _ dv t1 t2 (k1.trans (k2.trans k34)) (hav2.kp k34) (hcv.kp (k2.trans k34)) (hbv.kp k34) (hdv.kp k34) ⟨(ht1.1.kp k2).kp k34, (ht1.2.kp k2).kp k34⟩
      ((F.perm (List.Perm.swap _ _ _)).perm (List.Perm.cons _ (List.Perm.swap _ _ _)))
end Mine
end
section
open PySem PySem.W PyProof.Rows PySem.Calls PySem.Spec
set_option maxRecDepth 100000
namespace Mine

theorem fitsL_len (T : List (List Nat)) : (fitsL T).length ≤ 25 := List.length_filter_le _ _
set_option maxHeartbeats 4000000 in
theorem partF {w : World} {A : Around} {s₀ s : Shared} {B : Heap} {L : Addr} {ob : Ob} {fv xv cv dv av bv : Value} {T : List (List Nat)} {xs : List Int} {Q E} (R : Rm A 20)
    (hfv : Rd B fv (.list ((fitsL T).map dP))) (g4 : B.get? (L + 4) = some (cellO (some fv))) (hxv : Rd B xv (dIs xs)) (hxs : xs.length = 10 ∧ ∀ x ∈ xs, 0 ≤ x ∧ x < 10)
    (hcv : Rd B cv (dIs (frA T xs).c)) (hdv : Rd B dv (dIs (enA T xs).c)) (hn1 : (psF T xs).length ≤ 6 ∧ ∀ p ∈ psF T xs, p.length ≤ 10) (hn2 : (psB T xs).length ≤ 6 ∧ ∀ p ∈ psB T xs, p.length ≤ 10)
    (he1 : (frA T xs).c = (mOut (psF T xs) (psF T xs).length).t) (he2 : (enA T xs).c = (mOut (psB T xs) (psB T xs).length).t)
    (F : Fm (KK w) s₀ B L s [("line", xv), ("ahead", av), ("served", cv), ("behind", bv), ("given", dv)] ob)
    (next : ∀ s' B', Kp B B' → Fm (KK w) s₀ B' L s' [("line", xv), ("ahead", av), ("behind", bv)] ob → wpAny (model PP w) A (execs ((bodyOf w 159).drop 18) (envOf' w 159 L)) Q E s') :
    wpAny (model PP w) A (execs ((bodyOf w 159).drop 16) (envOf' w 159 L)) Q E s := by
  show wpAny _ _ (execs (_ :: _) (envX "law" ⟨_, [_, _, _, _, _, _, _, _, _, _, _, _, _, _, _, _, _, _, _, _, _, _, _, _, _], _, _, _⟩ L 159 (.ref 158) (cellsFrom (L + 1) [_, _, _, _, _, _, _, _, _, _, _, _, _, _, _, _, _, _, _, _, _, _, _, _, _] []))) _ _ _
  have hh := R.h
  have hfl := fitsL_len T
  refine @s_if _ _ _ _ _ _ _ _ _ _ _ ?_
  refine wpAny_isTrue_Compare1 ?_ (by rfl)
  with_reducible rename Fm _ _ _ _ _ _ _ => F0
  refine @nm_local _ _ _ _ _ _ _ _ _ _ _ _ _ _ _ _ F0 (by rfl) (by rfl) ?_ (by rfl) (by rfl) (by decide)
  refine @e_call _ _ _ _ _ _ _ _ _ _ _ ?_
  with_reducible rename Fm _ _ _ _ _ _ _ => F0
  refine @nm_glob _ _ _ _ _ _ _ _ _ _ _ _ _ _ _ _ F0 (by rfl) (by exact kn_law_most _) ?_ (by rfl) (by rfl) (by decide)
  with_reducible rename Fm _ _ _ _ _ _ _ => F0
  refine @cw_F1 _ _ _ _ _ _ _ _ _ _ _ (Fm.gdh F0) (by rfl) ?_ (by rfl)
  refine @e_compC _ _ _ _ _ _ _ _ _ _ _ _ _ _ ?_ (by rfl) (by rfl) (by decide +kernel) (by intro _; rfl)
  with_reducible rename Fm _ _ _ _ _ _ _ => F0
  refine @nm_local _ _ _ _ _ _ _ _ _ _ _ _ _ _ _ _ F0 (by rfl) (by rfl) ?_ (by rfl) (by rfl) (by decide)
  rename Fm _ _ _ _ _ _ _ => F
  refine @comp_if _ _ _ _ _ _ _ _ _ _ _ _ _ _ _ _ _ _ _ _ _ _ _ _ _ F (it_ints hh F.kp hxv) (by rw [sizeLine_eq]; omega) (fun k => ((fitsL T).filter fun x => decide (x.2 = k)).map (·.1)) (fun k => decide (k % 2 = 1)) (fun h r v => Rd h v (dIs r)) (fun _ _ _ _ k h => h.kp k) (fun C ob => ∃ v, ob = [(C + 1, cellO v)]) (fun _ => ⟨_, rfl⟩) ?_ ?_ (fun _ _ => rfl)
  · rintro C B₁ s' ob₁ ex k v hk kB ⟨tk, rfl⟩ ⟨v0, rfl⟩ hob F
    have H4 := kB _ _ g4
    have hf1 := hfv.kp kB
    obtain ⟨fa, fvs, rfl, hfa, hfI⟩ := hf1.isList
    have GB := F.gd
    refine @a_name _ _ _ _ _ _ _ _ _ _ ?_
    with_reducible rename Fm _ _ _ _ _ _ _ => F0
    refine @st_cell _ _ _ _ _ _ _ _ _ _ _ _ _ _ _ _ _ _ F0 (by rfl) (by rfl) (by exact UpO.head _) ?_ (by rfl)
    clear F0
    intro _ _
    refine wpAny_isTrue_Compare1 ?_ (by rfl)
    refine wpAny_BinOp ?_
    with_reducible rename Fm _ _ _ _ _ _ _ => F0
    refine @nm_cellO _ _ _ _ _ _ _ _ _ _ _ _ _ _ _ _ _ F0 (by rfl) (by rfl) (by exact List.Mem.head _) ?_ (by rfl) (by decide)
    with_reducible rename Fm _ _ _ _ _ _ _ => F0
    refine @e_int _ _ _ _ _ _ _ _ _ _ _ _ _ _ _ _ F0 ?_
    clear F0
    intro _ _ _
    rename Fm _ _ _ _ _ _ _ => F
    refine @o_mod _ _ _ _ _ _ _ _ _ _ _ _ _ _ _ _ F (by lia) fun _ _ F => ?_
    with_reducible rename Fm _ _ _ _ _ _ _ => F0
    refine @e_int _ _ _ _ _ _ _ _ _ _ _ _ _ _ _ _ F0 ?_
    clear F0
    intro _ _ _
    refine @c_eq _ _ _ _ _ _ _ _ _ _ ?_
    refine wpAny_truthy_bool ?_
    refine ⟨rfl, ?_⟩
    refine @ite_d _ _ _ _ (fun c1 => ?_) (fun c1 => ?_)
    · refine @e_compC _ _ _ _ _ _ _ _ _ _ _ _ _ _ ?_ (by rfl) (by rfl) (by decide +kernel) (by intro _; rfl)
      with_reducible rename Fm _ _ _ _ _ _ _ => F0
      refine @nm_cellB _ _ _ _ _ _ _ _ _ _ _ _ _ _ _ _ _ F0 (by rfl) (by rfl) (by assumption) ?_ (by rfl) (by decide)
      rename Fm _ _ _ _ _ _ _ => F
      refine @comp_listG _ _ _ _ _ _ _ _ _ _ _ _ _ _ _ _ _ _ _ _ _ _ _ (fitsL T) (fun x v => Rd B₁ v (dP x)) F (it_allG hh F.kp hfa (hfI.unmap)) (by rw [sizeLine_eq]; lia) (fun x => x.1) (fun x => decide (x.2 = k)) (fun _ n v => ∃ t, v = Value.int n t) (fun _ _ _ _ _ h => h) (fun _ ob => ob = []) (fun _ => rfl) ?_ ?_
      · rintro C' B₃ s' ob₁ ex2 x xv hx kB3 hxv rfl hob' F
        have hck : (C + 1, cellO (some (.int k tk))) ∈ [] ++ ex2 := hob' _ (.head _)
        refine @a_pair _ _ _ _ _ _ _ _ _ _ _ _ _ _ _ _ _ _ _ _ _ _ hh F (hxv.kp kB3) fun s₁ to tc F => ?_
        with_reducible rename Fm _ _ _ _ _ _ _ => F0
        refine @st_local _ _ _ _ _ _ _ _ _ _ _ _ _ _ _ F0 (by rfl) ?_ (by rfl) (by rfl)
        clear F0
        intro _ _
        with_reducible rename Fm _ _ _ _ _ _ _ => F0
        refine @st_local _ _ _ _ _ _ _ _ _ _ _ _ _ _ _ F0 (by rfl) ?_ (by rfl) (by rfl)
        clear F0
        intro _ _
        refine @tests_one _ _ _ _ _ _ _ _ ?_
        refine wpAny_isTrue_Compare1 ?_ (by rfl)
        with_reducible rename Fm _ _ _ _ _ _ _ => F0
        refine @nm_local _ _ _ _ _ _ _ _ _ _ _ _ _ _ _ _ F0 (by rfl) (by rfl) ?_ (by rfl) (by rfl) (by decide)
        with_reducible rename Fm _ _ _ _ _ _ _ => F0
        refine @nm_cellO _ _ _ _ _ _ _ _ _ _ _ _ _ _ _ _ _ F0 (by rfl) (by rfl) (by assumption) ?_ (by rfl) (by decide)
        refine @c_eq _ _ _ _ _ _ _ _ _ _ ?_
        refine wpAny_truthy_bool ?_
        rename Fm _ _ _ _ _ _ _ => F
        refine ⟨rfl, ?_⟩
        refine @ite_d _ _ _ _ (fun c => ?_) (fun c => ?_)
        · with_reducible rename Fm _ _ _ _ _ _ _ => F0
          refine @nm_local _ _ _ _ _ _ _ _ _ _ _ _ _ _ _ _ F0 (by rfl) (by rfl) ?_ (by rfl) (by rfl) (by decide)
          rename Fm _ _ _ _ _ _ _ => F
          exact ⟨B₃, [], _, Kp.rfl, rfl, ⟨_, rfl⟩, F⟩
        · exact ⟨[], _, rfl, F⟩
      · intro D s' B₃ ys kd k3 F hD hall
        exact ⟨B₃, _, _, k3, ⟨_, rfl⟩, Rd.list hD (RdL.ints (rd_ints (h := B₃) hall)), F⟩
    · rename Fm _ _ _ _ _ _ _ => F
      exact ⟨_, _, ⟨_, rfl⟩, F⟩
  · intro D s' B2 ys kd k2 F hD hall
    have q1 : Rd B2 (.ref D) (.list ((psF T xs).map dIs)) := Rd.list hD (rdL_of hall)
    with_reducible rename Fm _ _ _ _ _ _ _ => F0
    refine ⟨Fm.gdh F0, ?_⟩
    rename Fm _ _ _ _ _ _ _ => F
    refine @most_spec _ _ _ _ _ _ _ _ _ _ _ _ F (R.le (by lia)) q1 hn1.1 hn1.2 fun v' s₁ B3 k3 F hv' => ?_
    have k23 := k2.trans k3
    refine @ne_D _ _ _ _ _ _ _ _ _ _ _ _ _ _ _ _ (10) F ((hcv.kp k23).kp F.kp) (hv'.kp F.kp) (shaped1 _) (shaped1 _) (R.le (by lia)) ?_
    rw [← he1, eqv_same (shaped1 _)]
    refine wpAny_truthy_bool ?_
    refine @ite_b _ _ _ (fun c => absurd c (by simp)) (fun _ => ?_)
    refine @s_nil _ _ _ _ _ _ ?_
    with_reducible refine @then_next _ _ _ _ _ _ _ ?_
    rename Fm _ _ _ _ _ _ _ => F
    obtain ⟨la, lvs, rfl, hla, hlI⟩ := hxv.isList
    replace hlI := hlI.toInts
    have hll := hlI.length
    refine @s_if _ _ _ _ _ _ _ _ _ _ _ ?_
    refine wpAny_isTrue_Compare1 ?_ (by rfl)
    with_reducible rename Fm _ _ _ _ _ _ _ => F0
    refine @nm_local _ _ _ _ _ _ _ _ _ _ _ _ _ _ _ _ F0 (by rfl) (by rfl) ?_ (by rfl) (by rfl) (by decide)
    refine @e_call _ _ _ _ _ _ _ _ _ _ _ ?_
    with_reducible rename Fm _ _ _ _ _ _ _ => F0
    refine @nm_glob _ _ _ _ _ _ _ _ _ _ _ _ _ _ _ _ F0 (by rfl) (by exact kn_law_most _) ?_ (by rfl) (by rfl) (by decide)
    with_reducible rename Fm _ _ _ _ _ _ _ => F0
    refine @cw_F1 _ _ _ _ _ _ _ _ _ _ _ (Fm.gdh F0) (by rfl) ?_ (by rfl)
    refine @e_compC _ _ _ _ _ _ _ _ _ _ _ _ _ _ ?_ (by rfl) (by rfl) (by decide +kernel) (by intro _; rfl)
    refine Subscript_ ?_
    with_reducible rename Fm _ _ _ _ _ _ _ => F0
    refine @nm_local _ _ _ _ _ _ _ _ _ _ _ _ _ _ _ _ F0 (by rfl) (by rfl) ?_ (by rfl) (by rfl) (by decide)
    refine @e_slice _ _ _ _ _ _ _ _ _ _ _ ?_
    refine @ep_none _ _ _ _ _ _ _ ?_
    refine @ep_none _ _ _ _ _ _ _ ?_
    refine @ep_some _ _ _ _ _ _ _ _ ?_
    refine wpAny_UnaryOp ?_
    with_reducible rename Fm _ _ _ _ _ _ _ => F0
    refine @e_int _ _ _ _ _ _ _ _ _ _ _ _ _ _ _ _ F0 ?_
    clear F0
    intro _ _ _
    rename Fm _ _ _ _ _ _ _ => F
    refine @o_neg _ _ _ _ _ _ _ _ _ _ _ _ _ _ F fun _ _ F => ?_
    intro S s₆ gS hS
    replace F := F.gr gS
    refine @sub_slice _ _ _ _ _ _ _ _ _ _ _ _ _ _ _ _ _ _ _ _ _ _ _ _ F (isList_kp hla (k23.trans F.kp)) hS .none .none (.int _ _) (by simp) (by rw [sizeLine_eq]; simp at hll; lia) (fun Dr s₇ F => ?_) (by with_unfolding_all rfl)
    obtain ⟨Br, kr, F, gr⟩ := F.freezeAt (.head _)
    have hrev : Rd Br (.ref Dr) (dIs xs.reverse) := by
      refine Rd.list gr (RdL.ints ?_)
      rw [pick_rev]
      exact IntsAre.rev hlI
    have kk := k23.trans kr
    have g4' := kk _ _ g4
    have hfv' := hfv.kp kk
    refine @comp_if _ _ _ _ _ _ _ _ _ _ _ _ _ _ _ _ _ _ _ _ _ _ _ _ _ F (it_ints hh F.kp hrev) (by rw [sizeLine_eq, List.length_reverse]; omega) (fun k => ((fitsL T).filter fun x => decide (x.1 = k)).map (·.2)) (fun k => decide (k % 2 = 0)) (fun h r v => Rd h v (dIs r)) (fun _ _ _ _ k h => h.kp k) (fun C ob => ∃ v, ob = [(C + 1, cellO v)]) (fun _ => ⟨_, rfl⟩) ?_ ?_ (fun _ _ => rfl)
    · rintro C B₁ s' ob₁ ex k v hk kB ⟨tk, rfl⟩ ⟨v0, rfl⟩ hob F
      have H4 := kB _ _ g4'
      have hf1 := hfv'.kp kB
      obtain ⟨fa, fvs, rfl, hfa, hfI⟩ := hf1.isList
      have GB := F.gd
      refine @a_name _ _ _ _ _ _ _ _ _ _ ?_
      with_reducible rename Fm _ _ _ _ _ _ _ => F0
      refine @st_cell _ _ _ _ _ _ _ _ _ _ _ _ _ _ _ _ _ _ F0 (by rfl) (by rfl) (by exact UpO.head _) ?_ (by rfl)
      clear F0
      intro _ _
      refine wpAny_isTrue_Compare1 ?_ (by rfl)
      refine wpAny_BinOp ?_
      with_reducible rename Fm _ _ _ _ _ _ _ => F0
      refine @nm_cellO _ _ _ _ _ _ _ _ _ _ _ _ _ _ _ _ _ F0 (by rfl) (by rfl) (by exact List.Mem.head _) ?_ (by rfl) (by decide)
      with_reducible rename Fm _ _ _ _ _ _ _ => F0
      refine @e_int _ _ _ _ _ _ _ _ _ _ _ _ _ _ _ _ F0 ?_
      clear F0
      intro _ _ _
      rename Fm _ _ _ _ _ _ _ => F
      refine @o_mod _ _ _ _ _ _ _ _ _ _ _ _ _ _ _ _ F (by lia) fun _ _ F => ?_
      with_reducible rename Fm _ _ _ _ _ _ _ => F0
      refine @e_int _ _ _ _ _ _ _ _ _ _ _ _ _ _ _ _ F0 ?_
      clear F0
      intro _ _ _
      refine @c_eq _ _ _ _ _ _ _ _ _ _ ?_
      refine wpAny_truthy_bool ?_
      refine ⟨rfl, ?_⟩
      refine @ite_d _ _ _ _ (fun c1 => ?_) (fun c1 => ?_)
      · refine @e_compC _ _ _ _ _ _ _ _ _ _ _ _ _ _ ?_ (by rfl) (by rfl) (by decide +kernel) (by intro _; rfl)
        with_reducible rename Fm _ _ _ _ _ _ _ => F0
        refine @nm_cellB _ _ _ _ _ _ _ _ _ _ _ _ _ _ _ _ _ F0 (by rfl) (by rfl) (by assumption) ?_ (by rfl) (by decide)
        rename Fm _ _ _ _ _ _ _ => F
        refine @comp_listG _ _ _ _ _ _ _ _ _ _ _ _ _ _ _ _ _ _ _ _ _ _ _ (fitsL T) (fun x v => Rd B₁ v (dP x)) F (it_allG hh F.kp hfa (hfI.unmap)) (by rw [sizeLine_eq]; lia) (fun x => x.2) (fun x => decide (x.1 = k)) (fun _ n v => ∃ t, v = Value.int n t) (fun _ _ _ _ _ h => h) (fun _ ob => ob = []) (fun _ => rfl) ?_ ?_
        · rintro C' B₃ s' ob₁ ex2 x xv hx kB3 hxv rfl hob' F
          have hck : (C + 1, cellO (some (.int k tk))) ∈ [] ++ ex2 := hob' _ (.head _)
          refine @a_pair _ _ _ _ _ _ _ _ _ _ _ _ _ _ _ _ _ _ _ _ _ _ hh F (hxv.kp kB3) fun s₁ to tc F => ?_
          with_reducible rename Fm _ _ _ _ _ _ _ => F0
          refine @st_local _ _ _ _ _ _ _ _ _ _ _ _ _ _ _ F0 (by rfl) ?_ (by rfl) (by rfl)
          clear F0
          intro _ _
          with_reducible rename Fm _ _ _ _ _ _ _ => F0
          refine @st_local _ _ _ _ _ _ _ _ _ _ _ _ _ _ _ F0 (by rfl) ?_ (by rfl) (by rfl)
          clear F0
          intro _ _
          refine @tests_one _ _ _ _ _ _ _ _ ?_
          refine wpAny_isTrue_Compare1 ?_ (by rfl)
          with_reducible rename Fm _ _ _ _ _ _ _ => F0
          refine @nm_local _ _ _ _ _ _ _ _ _ _ _ _ _ _ _ _ F0 (by rfl) (by rfl) ?_ (by rfl) (by rfl) (by decide)
          with_reducible rename Fm _ _ _ _ _ _ _ => F0
          refine @nm_cellO _ _ _ _ _ _ _ _ _ _ _ _ _ _ _ _ _ F0 (by rfl) (by rfl) (by assumption) ?_ (by rfl) (by decide)
          refine @c_eq _ _ _ _ _ _ _ _ _ _ ?_
          refine wpAny_truthy_bool ?_
          rename Fm _ _ _ _ _ _ _ => F
          refine ⟨rfl, ?_⟩
          refine @ite_d _ _ _ _ (fun c => ?_) (fun c => ?_)
          · with_reducible rename Fm _ _ _ _ _ _ _ => F0
            refine @nm_local _ _ _ _ _ _ _ _ _ _ _ _ _ _ _ _ F0 (by rfl) (by rfl) ?_ (by rfl) (by rfl) (by decide)
            rename Fm _ _ _ _ _ _ _ => F
            exact ⟨B₃, [], _, Kp.rfl, rfl, ⟨_, rfl⟩, F⟩
          · exact ⟨[], _, rfl, F⟩
        · intro D s' B₃ ys kd k3 F hD hall
          exact ⟨B₃, _, _, k3, ⟨_, rfl⟩, Rd.list hD (RdL.ints (rd_ints (h := B₃) hall)), F⟩
      · rename Fm _ _ _ _ _ _ _ => F
        exact ⟨_, _, ⟨_, rfl⟩, F⟩
    · intro D s' B5 ys kd k5 F hD hall
      have q1 : Rd B5 (.ref D) (.list ((psB T xs).map dIs)) := Rd.list hD (rdL_of hall)
      with_reducible rename Fm _ _ _ _ _ _ _ => F0
      refine ⟨Fm.gdh F0, ?_⟩
      rename Fm _ _ _ _ _ _ _ => F
      refine @most_spec _ _ _ _ _ _ _ _ _ _ _ _ F (R.le (by lia)) q1 hn2.1 hn2.2 fun v' s₁ B6 k6 F hv' => ?_
      have k56 := k5.trans k6
      refine @ne_D _ _ _ _ _ _ _ _ _ _ _ _ _ _ _ _ (10) F ((hdv.kp (kk.trans k56)).kp F.kp) (hv'.kp F.kp) (shaped1 _) (shaped1 _) (R.le (by lia)) ?_
      rw [← he2, eqv_same (shaped1 _)]
      refine wpAny_truthy_bool ?_
      refine @ite_b _ _ _ (fun c => absurd c (by simp)) (fun _ => ?_)
      refine @s_nil _ _ _ _ _ _ ?_
      with_reducible refine @then_next _ _ _ _ _ _ _ ?_
      rename Fm _ _ _ _ _ _ _ => F
      exact next _ B6 (kk.trans k56) (F.sub ⟨rfl, rfl, rfl, trivial⟩)
end Mine
end
section
open PySem PySem.W PyProof.Rows PySem.Calls PySem.Spec
set_option maxRecDepth 100000
namespace Mine

def keptA (T : List (List Nat)) (xs : List Int) : List Int := (frA T xs).p.map (·.2) ++ (enA T xs).p.map (·.1)
def agA (T : List (List Nat)) (xs : List Int) : FS := frontOf (LN T) (xs.filter fun k => decide (k ∈ keptA T xs))
set_option maxHeartbeats 4000000 in
theorem partG {w : World} {A : Around} {s₀ s : Shared} {B : Heap} {L : Addr} {ob : Ob} {fv xv av bv lv : Value} {T : List (List Nat)} {xs : List Int} {t1 : Array Value} {Q E} (R : Rm A 20) (tx : Tx T) (hl : LeadsAt B lv T) (g6 : B.get? (L + 6) = some (cellO (some lv))) (bi1 : BI 137 B)
    (hfv : Rd B fv (.list ((fitsL T).map dP))) (g4 : B.get? (L + 4) = some (cellO (some fv))) (hxv : Rd B xv (dIs xs)) (hxs : xs.length = 10 ∧ ∀ x ∈ xs, 0 ≤ x ∧ x < 10)
    (hav : Rd B av (.list ((frA T xs).p.map dP))) (hbv : Rd B bv (.list ((enA T xs).p.map dP))) (ht1 : tF B t1) (hag1 : (agA T xs).p.length = (frA T xs).p.length) (hag2 : ∀ x ∈ (agA T xs).p, x ∈ fitsL T)
    (F : Fm (KK w) s₀ B L s [("line", xv), ("ahead", av), ("behind", bv)] ((137, tabObj t1) :: cellN (L + 5) :: ob))
    (fin : ∀ s' B' t1 l, Kp B B' → Fm (KK w) s₀ B' L s' l ((137, tabObj t1) :: ob) → Q (.ret (.bool true)) s') :
    wpAny (model PP w) A (execs ((bodyOf w 159).drop 18) (envOf' w 159 L)) Q E s := by
  show wpAny _ _ (execs (_ :: _) (envX "law" ⟨_, [_, _, _, _, _, _, _, _, _, _, _, _, _, _, _, _, _, _, _, _, _, _, _, _, _], _, _, _⟩ L 159 (.ref 158) (cellsFrom (L + 1) [_, _, _, _, _, _, _, _, _, _, _, _, _, _, _, _, _, _, _, _, _, _, _, _, _] []))) _ _ _
  have hh := R.h
  have hTl := tx.len
  obtain ⟨_, zp, _⟩ := frontOf_bd (f := LN T) xs
  obtain ⟨_, zq, _⟩ := endOf_bd (f := LN T) xs.reverse
  rw [List.length_reverse] at zq
  obtain ⟨aa, avs, rfl, haa, haI⟩ := hav.isList
  obtain ⟨ba, bvs, rfl, hba, hbI⟩ := hbv.isList
  refine @s_assign _ _ _ _ _ _ _ _ _ _ _ ?_ (by rfl)
  refine wpAny_BinOp ?_
  refine @e_compC _ _ _ _ _ _ _ _ _ _ _ _ _ _ ?_ (by rfl) (by rfl) (by decide +kernel) (by intro _; rfl)
  with_reducible rename Fm _ _ _ _ _ _ _ => F0
  refine @nm_local _ _ _ _ _ _ _ _ _ _ _ _ _ _ _ _ F0 (by rfl) (by rfl) ?_ (by rfl) (by rfl) (by decide)
  rename Fm _ _ _ _ _ _ _ => F
  refine @comp_listG _ _ _ _ _ _ _ _ _ _ _ _ _ _ _ _ _ _ _ _ _ _ _ ((frA T xs).p) (fun x v => Rd B v (dP x)) F (it_allG hh F.kp haa haI.unmap) (by rw [sizeLine_eq]; show (frontOf _ _).p.length ≤ _; omega) (fun x => x.2) (fun _ => true) (fun _ n v => ∃ t, v = Value.int n t) (fun _ _ _ _ _ h => h) (fun _ ob => ob = []) (fun _ => rfl) ?_ ?_
  · rintro C B₁ s' ob₁ ex x xv hx kB hxv rfl hob F
    refine @a_pair _ _ _ _ _ _ _ _ _ _ _ _ _ _ _ _ _ _ _ _ _ _ hh F (hxv.kp kB) fun s₁ to tc F => ?_
    with_reducible rename Fm _ _ _ _ _ _ _ => F0
    refine @st_local _ _ _ _ _ _ _ _ _ _ _ _ _ _ _ F0 (by rfl) ?_ (by rfl) (by rfl)
    clear F0
    intro _ _
    with_reducible rename Fm _ _ _ _ _ _ _ => F0
    refine @st_local _ _ _ _ _ _ _ _ _ _ _ _ _ _ _ F0 (by rfl) ?_ (by rfl) (by rfl)
    clear F0
    intro _ _
    refine @tests_nil _ _ _ _ _ _ _ ?_
    rename Fm _ _ _ _ _ _ _ => F
    refine ⟨rfl, ?_⟩
    rw [if_pos rfl]
    with_reducible rename Fm _ _ _ _ _ _ _ => F0
    refine @nm_local _ _ _ _ _ _ _ _ _ _ _ _ _ _ _ _ F0 (by rfl) (by rfl) ?_ (by rfl) (by rfl) (by decide)
    rename Fm _ _ _ _ _ _ _ => F
    exact ⟨B₁, [], _, Kp.rfl, rfl, ⟨_, rfl⟩, F⟩
  intro D1 s' B1 y1 kd1 k1 F hD1 hall1
  rw [List.filter_eq_self.mpr (fun _ _ => rfl)] at hall1
  have hI1 := rd_ints (h := B1) hall1
  refine @e_compC _ _ _ _ _ _ _ _ _ _ _ _ _ _ ?_ (by rfl) (by rfl) (by decide +kernel) (by intro _; rfl)
  with_reducible rename Fm _ _ _ _ _ _ _ => F0
  refine @nm_local _ _ _ _ _ _ _ _ _ _ _ _ _ _ _ _ F0 (by rfl) (by rfl) ?_ (by rfl) (by rfl) (by decide)
  rename Fm _ _ _ _ _ _ _ => F
  refine @comp_listG _ _ _ _ _ _ _ _ _ _ _ _ _ _ _ _ _ _ _ _ _ _ _ ((enA T xs).p) (fun x v => Rd B v (dP x)) F (it_allG hh (k1.trans F.kp) hba hbI.unmap |>.mono (fun _ _ _ h => h) k1) (by rw [sizeLine_eq]; show (endOf _ _).p.length ≤ _; omega) (fun x => x.1) (fun _ => true) (fun _ n v => ∃ t, v = Value.int n t) (fun _ _ _ _ _ h => h) (fun _ ob => ob = []) (fun _ => rfl) ?_ ?_
  · rintro C B₁ s' ob₁ ex x xv hx kB hxv rfl hob F
    refine @a_pair _ _ _ _ _ _ _ _ _ _ _ _ _ _ _ _ _ _ _ _ _ _ hh F (hxv.kp (k1.trans kB)) fun s₁ to tc F => ?_
    with_reducible rename Fm _ _ _ _ _ _ _ => F0
    refine @st_local _ _ _ _ _ _ _ _ _ _ _ _ _ _ _ F0 (by rfl) ?_ (by rfl) (by rfl)
    clear F0
    intro _ _
    with_reducible rename Fm _ _ _ _ _ _ _ => F0
    refine @st_local _ _ _ _ _ _ _ _ _ _ _ _ _ _ _ F0 (by rfl) ?_ (by rfl) (by rfl)
    clear F0
    intro _ _
    refine @tests_nil _ _ _ _ _ _ _ ?_
    rename Fm _ _ _ _ _ _ _ => F
    refine ⟨rfl, ?_⟩
    rw [if_pos rfl]
    with_reducible rename Fm _ _ _ _ _ _ _ => F0
    refine @nm_local _ _ _ _ _ _ _ _ _ _ _ _ _ _ _ _ F0 (by rfl) (by rfl) ?_ (by rfl) (by rfl) (by decide)
    rename Fm _ _ _ _ _ _ _ => F
    exact ⟨B₁, [], _, Kp.rfl, rfl, ⟨_, rfl⟩, F⟩
  intro D2 s' B2 y2 kd2 k2 F hD2 hall2
  rw [List.filter_eq_self.mpr (fun _ _ => rfl)] at hall2
  have hI2 := rd_ints (h := B2) hall2
  have hl1 := hI1.length
  have hl2 := hI2.length
  rw [List.length_map] at hl1 hl2
  skip
  rename Fm _ _ _ _ _ _ _ => F
  refine @o_addL _ _ _ _ _ _ _ _ _ _ _ _ _ _ _ _ _ _ F (F.kp _ _ (k2 _ _ hD1)) (F.kp _ _ hD2) (by rw [sizeLine_eq]; show y1.length + y2.length ≤ _; rw [hl1, hl2]; show (frontOf _ _).p.length + (endOf _ _).p.length ≤ _; lia) fun c s₃ F => ?_
  with_reducible rename Fm _ _ _ _ _ _ _ => F0
  refine @st_cell _ _ _ _ _ _ _ _ _ _ _ _ _ _ _ _ _ _ F0 (by rfl) (by rfl) (by exact UpO.tail _ (UpO.tail _ (UpO.head _))) ?_ (by rfl)
  clear F0
  intro _ _
  rename Fm _ _ _ _ _ _ _ => F
  obtain ⟨B3, k3, F, g3⟩ := F.freezeAt (.head _)
  obtain ⟨B4, k4, F, g5⟩ := F.freezeAt (.tail _ (.head _))
  have hkept : Rd B4 (.ref c) (dIs (keptA T xs)) := (Rd.list g3 (RdL.ints (by unfold keptA; exact hI1.append hI2))).kp k4
  have kk : Kp B B4 := k1.trans (k2.trans (k3.trans k4))
  have g6' := kk _ _ g6
  refine @s_assign _ _ _ _ _ _ _ _ _ _ _ ?_ (by rfl)
  refine Subscript_ ?_
  refine @e_call _ _ _ _ _ _ _ _ _ _ _ ?_
  with_reducible rename Fm _ _ _ _ _ _ _ => F0
  refine @nm_glob _ _ _ _ _ _ _ _ _ _ _ _ _ _ _ _ F0 (by rfl) (by exact kn_law_front _) ?_ (by rfl) (by rfl) (by decide)
  with_reducible rename Fm _ _ _ _ _ _ _ => F0
  refine @cw_F2 _ _ _ _ _ _ _ _ _ _ _ _ (Fm.gdh F0) (by rfl) ?_ (by rfl)
  refine @e_compC _ _ _ _ _ _ _ _ _ _ _ _ _ _ ?_ (by rfl) (by rfl) (by decide +kernel) (by intro _; rfl)
  with_reducible rename Fm _ _ _ _ _ _ _ => F0
  refine @nm_local _ _ _ _ _ _ _ _ _ _ _ _ _ _ _ _ F0 (by rfl) (by rfl) ?_ (by rfl) (by rfl) (by decide)
  rename Fm _ _ _ _ _ _ _ => F
  refine @comp_if _ _ _ _ _ _ _ _ _ _ _ _ _ _ _ _ _ _ _ _ _ _ _ _ _ F (it_ints hh F.kp (hxv.kp kk)) (by rw [sizeLine_eq]; omega) (fun k => k) (fun k => decide (k ∈ keptA T xs)) (fun _ n v => ∃ t, v = Value.int n t) (fun _ _ _ _ _ h => h) (fun _ ob => ob = []) (fun _ => rfl) ?_ ?_ (fun _ _ => rfl)
  · rintro C B₁ s' ob₁ ex k v hk kB ⟨tk, rfl⟩ rfl hob F
    have H5 := kB _ _ g5
    refine @a_name _ _ _ _ _ _ _ _ _ _ ?_
    with_reducible rename Fm _ _ _ _ _ _ _ => F0
    refine @st_local _ _ _ _ _ _ _ _ _ _ _ _ _ _ _ F0 (by rfl) ?_ (by rfl) (by rfl)
    clear F0
    intro _ _
    refine wpAny_isTrue_Compare1 ?_ (by rfl)
    with_reducible rename Fm _ _ _ _ _ _ _ => F0
    refine @nm_local _ _ _ _ _ _ _ _ _ _ _ _ _ _ _ _ F0 (by rfl) (by rfl) ?_ (by rfl) (by rfl) (by decide)
    with_reducible rename Fm _ _ _ _ _ _ _ => F0
    refine @nm_cellB _ _ _ _ _ _ _ _ _ _ _ _ _ _ _ _ _ F0 (by rfl) (by rfl) (by assumption) ?_ (by rfl) (by decide)
    rename Fm _ _ _ _ _ _ _ => F
    refine @in_D _ _ _ _ _ _ _ _ _ _ _ _ _ _ _ _ (10) F ((hkept.kp kB).kp F.kp) Rd.int (shaped1 _) (shapedI _) (R.le (by lia)) ?_
    rw [any_ints]
    refine wpAny_truthy_bool ?_
    rename Fm _ _ _ _ _ _ _ => F
    refine ⟨rfl, ?_⟩
    refine @ite_d _ _ _ _ (fun c => ?_) (fun c => ?_)
    · with_reducible rename Fm _ _ _ _ _ _ _ => F0
      refine @nm_local _ _ _ _ _ _ _ _ _ _ _ _ _ _ _ _ F0 (by rfl) (by rfl) ?_ (by rfl) (by rfl) (by decide)
      rename Fm _ _ _ _ _ _ _ => F
      exact ⟨B₁, [], _, Kp.rfl, rfl, ⟨_, rfl⟩, F⟩
    · exact ⟨[], _, rfl, F⟩
  intro D3 s' B5 y3 kd3 k5 F hD3 hall3
  rw [List.map_id'] at hall3
  have hI3 := rd_ints (h := B5) hall3
  have hx3 : Rd B5 (.ref D3) (dIs (xs.filter fun k => decide (k ∈ keptA T xs))) := Rd.list hD3 (RdL.ints hI3)
  have g6'' := k5 _ _ g6'
  have k15 := kk.trans k5
  with_reducible rename Fm _ _ _ _ _ _ _ => F0
  refine @nm_cellB _ _ _ _ _ _ _ _ _ _ _ _ _ _ _ _ _ F0 (by rfl) (by rfl) (by assumption) ?_ (by rfl) (by decide)
  with_reducible rename Fm _ _ _ _ _ _ _ => F0
  refine ⟨Fm.gdh F0, ?_⟩
  rename Fm _ _ _ _ _ _ _ => F
  refine @front_spec _ _ _ _ _ _ _ _ _ _ _ _ _ _ _ F (R.le (by lia)) (bi1.kp k15) ⟨ht1.1.kp k15, ht1.2.kp k15⟩ hx3 (leads_kp hl k15) hTl ⟨by have := List.length_filter_le (fun k => decide (k ∈ keptA T xs)) xs; lia, fun x hx => hxs.2 x (List.mem_filter.mp hx).1⟩ fun v1 s₄ B6 t1 k6 F ht1 hr1 => ?_
  with_reducible rename Fm _ _ _ _ _ _ _ => F0
  refine @e_int _ _ _ _ _ _ _ _ _ _ _ _ _ _ _ _ F0 ?_
  clear F0
  intro _ _ _
  rename Fm _ _ _ _ _ _ _ => F
  refine @subt_D _ _ _ _ _ _ _ _ _ _ _ _ _ _ _ _ _ _ (.list ((agA T xs).p.map dP)) F hr1 (by lia) (by lia) rfl (fun gv hg => ?_) (by intro _; with_unfolding_all rfl)
  with_reducible rename Fm _ _ _ _ _ _ _ => F0
  refine @st_local _ _ _ _ _ _ _ _ _ _ _ _ _ _ _ F0 (by rfl) ?_ (by rfl) (by rfl)
  clear F0
  intro _ _
  rename Fm _ _ _ _ _ _ _ => F
  have k16 := k15.trans k6
  obtain ⟨ga, gvs, rfl, hga, hgI⟩ := hg.isList
  obtain ⟨_, zg, _⟩ := frontOf_bd (f := LN T) (xs.filter fun k => decide (k ∈ keptA T xs))
  have hfl := List.length_filter_le (fun k => decide (k ∈ keptA T xs)) xs
  have hagl : (agA T xs).p.length ≤ 10 := by
    show (frontOf _ _).p.length ≤ _
    lia
  have G4 := k16 _ _ g4
  have hfv6 := hfv.kp k16
  have hav6 := hav.kp k16
  refine @s_ret _ _ _ _ _ _ _ _ _ ?_
  refine @e_and2 _ _ _ _ _ _ _ _ _ _ ?_
  refine wpAny_Compare1 ?_ (by rfl)
  refine @e_call _ _ _ _ _ _ _ _ _ _ _ ?_
  with_reducible rename Fm _ _ _ _ _ _ _ => F0
  refine @nm_bi _ _ _ _ _ _ _ _ _ _ _ _ _ _ _ _ F0 (by rfl) (by rfl) (by exact bb_len) ?_ (by rfl) (by rfl) (by rfl) (by decide) (by decide)
  refine @cw_bi1 _ _ _ _ _ _ _ _ _ _ ?_ (by rfl)
  with_reducible rename Fm _ _ _ _ _ _ _ => F0
  refine @nm_local _ _ _ _ _ _ _ _ _ _ _ _ _ _ _ _ F0 (by rfl) (by rfl) ?_ (by rfl) (by rfl) (by decide)
  rename Fm _ _ _ _ _ _ _ => F
  refine @b_lenD _ _ _ _ _ _ _ _ _ _ _ _ _ _ F (hg.kp F.kp) (by simp; omega) fun u1 s₅ F => ?_
  refine @e_call _ _ _ _ _ _ _ _ _ _ _ ?_
  with_reducible rename Fm _ _ _ _ _ _ _ => F0
  refine @nm_bi _ _ _ _ _ _ _ _ _ _ _ _ _ _ _ _ F0 (by rfl) (by rfl) (by exact bb_len) ?_ (by rfl) (by rfl) (by rfl) (by decide) (by decide)
  refine @cw_bi1 _ _ _ _ _ _ _ _ _ _ ?_ (by rfl)
  with_reducible rename Fm _ _ _ _ _ _ _ => F0
  refine @nm_local _ _ _ _ _ _ _ _ _ _ _ _ _ _ _ _ F0 (by rfl) (by rfl) ?_ (by rfl) (by rfl) (by decide)
  rename Fm _ _ _ _ _ _ _ => F
  refine @b_lenD _ _ _ _ _ _ _ _ _ _ _ _ _ _ F (hav6.kp F.kp) (by simp; show (frontOf _ _).p.length < _; omega) fun u2 s₆ F => ?_
  rw [List.length_map, List.length_map]
  refine @c_eq _ _ _ _ _ _ _ _ _ _ ?_
  refine wpAny_truthy_bool ?_
  rw [decide_eq_true (by rw [hag1])]
  refine @ite_b _ _ _ (fun _ => ?_) (fun c => absurd c (by simp))
  refine wpAny_Compare1 ?_ (by rfl)
  refine @e_compC _ _ _ _ _ _ _ _ _ _ _ _ _ _ ?_ (by rfl) (by rfl) (by decide +kernel) (by intro _; rfl)
  with_reducible rename Fm _ _ _ _ _ _ _ => F0
  refine @nm_local _ _ _ _ _ _ _ _ _ _ _ _ _ _ _ _ F0 (by rfl) (by rfl) ?_ (by rfl) (by rfl) (by decide)
  rename Fm _ _ _ _ _ _ _ => F
  refine @comp_if _ _ _ _ _ _ _ _ _ _ _ _ _ _ _ _ _ _ _ _ _ _ _ ((agA T xs).p) (fun x v => Rd B6 v (dP x)) F (it_all hh F.kp hga (hgI.unmap)) (by rw [sizeLine_eq]; lia) (fun x => x) (fun x => !decide (x ∈ fitsL T)) (fun h x v => Rd h v (dP x)) (fun _ _ _ _ k h => h.kp k) (fun _ ob => ob = []) (fun _ => rfl) ?_ ?_ (fun _ _ => rfl)
  · rintro C B₁ s' ob₁ ex x v hx kB hxv rfl hob F
    have H4 := kB _ _ G4
    have hf1 := hfv6.kp kB
    refine @a_name _ _ _ _ _ _ _ _ _ _ ?_
    with_reducible rename Fm _ _ _ _ _ _ _ => F0
    refine @st_local _ _ _ _ _ _ _ _ _ _ _ _ _ _ _ F0 (by rfl) ?_ (by rfl) (by rfl)
    clear F0
    intro _ _
    refine wpAny_isTrue_Compare1 ?_ (by rfl)
    with_reducible rename Fm _ _ _ _ _ _ _ => F0
    refine @nm_local _ _ _ _ _ _ _ _ _ _ _ _ _ _ _ _ F0 (by rfl) (by rfl) ?_ (by rfl) (by rfl) (by decide)
    with_reducible rename Fm _ _ _ _ _ _ _ => F0
    refine @nm_cellB _ _ _ _ _ _ _ _ _ _ _ _ _ _ _ _ _ F0 (by rfl) (by rfl) (by assumption) ?_ (by rfl) (by decide)
    rename Fm _ _ _ _ _ _ _ => F
    refine @notin_D _ _ _ _ _ _ _ _ _ _ _ _ _ _ _ _ (10) F (hf1.kp F.kp) ((hxv.kp kB).kp F.kp) (shapedP _) (shapedP1 _) (R.le (by lia)) ?_
    rw [anyP]
    refine wpAny_truthy_bool ?_
    rename Fm _ _ _ _ _ _ _ => F
    refine ⟨rfl, ?_⟩
    rw [decide_eq_true (hag2 x hx), if_neg (by simp)]
    exact ⟨[], _, rfl, F⟩
  · intro D s' B7 ys kd k7 F hD hall
    rw [List.filter_eq_nil_iff.mpr (fun x hx => by simp [hag2 x hx])] at hall
    cases hall
    refine @e_list _ _ _ _ _ _ _ _ _ ?_
    refine @sp_nil _ _ _ _ _ _ _ _ ?_
    with_reducible rename Fm _ _ _ _ _ _ _ => F0
    refine @n_list _ _ _ _ _ _ _ _ _ _ _ _ _ F0 (by simp [sizeLine_eq]) ?_
    clear F0
    intro _ _ _
    rename Fm _ _ _ _ _ _ _ => F
    refine @eq_D _ _ _ _ _ _ _ _ _ _ _ _ _ _ _ _ (10) F ((Rd.list (ds := []) hD .nil).kp F.kp) (Rd.list (ds := []) (F.get (.head _)) .nil) (shaped1 []) (shaped1 []) (R.le (by lia)) ?_
    rw [show PyData.list [] = dIs [] from rfl, eqv_same (shaped1 [])]
    replace F := F.drop (List.sublist_cons_self _ _)
    skip
    rename Fm _ _ _ _ _ _ _ => F
    exact fin _ B7 t1 _ (k16.trans k7) F
end Mine
end
section
open PySem PySem.W PyProof.Rows PySem.Calls PySem.Spec
set_option maxRecDepth 100000
namespace Mine

/-- the plain law of one run -/
structure Plain (T : List (List Nat)) (xs : List Int) : Prop where
  hcol : ∀ x ∈ T, (leadOf (sOf x)).n = colOf 1 x 0 ∧ (leadOf (sOf x)).level 2 = colOf 2 x 0 ∧ (leadOf (sOf x)).level 3 = colOf 3 x 0
  hans : ∀ x ∈ bothL, lessB (LD T x.1) (LD T x.2) = fitB T x
  hlt : LtO (mlt T) 10
  hline : ∀ p, Pm 10 p → Sd (mlt T) p 10 → xs = p.toList.map fun (i : Nat) => (i : Int)
  hpair : ∀ x ∈ (frA T xs).p ++ (enA T xs).p, x ∈ fitsL T
  hn1 : (psF T xs).length ≤ 6 ∧ ∀ p ∈ psF T xs, p.length ≤ 10
  hn2 : (psB T xs).length ≤ 6 ∧ ∀ p ∈ psB T xs, p.length ≤ 10
  he1 : (frA T xs).c = (mOut (psF T xs) (psF T xs).length).t
  he2 : (enA T xs).c = (mOut (psB T xs) (psB T xs).length).t
  hag1 : (agA T xs).p.length = (frA T xs).p.length
  hag2 : ∀ x ∈ (agA T xs).p, x ∈ fitsL T
abbrev ob3 (t1 t2 t3 : Array Value) : Ob := [(137, tabObj t1), (144, tabObj t2), (156, tabObj t3)]
set_option maxHeartbeats 4000000 in
theorem law_run (HP : ∀ T, Tx T → Plain T (lineTo (lv2 T) 10))
    {w : World} {A : Around} {s : Shared} {B : Heap} {v : Value} {ns : List Int} {Q E} (G : Gd (KK w) B) (kB : Kp B s.heap) (bi1 : BI 137 B) (bi2 : BI 144 B) (bi : BI 156 B)
    (hob : ∀ p ∈ ob3 #[] #[] #[], s.heap.get? p.1 = some p.2 ∧ B.get? p.1 = none) (R : Rm A 21) (hv : Rd B v (dIs ns)) (hn : ns.length < 800)
    (h : ∀ s' t1 t2 t3, Sm s s' → Kp B s'.heap → (∀ p ∈ ob3 t1 t2 t3, s'.heap.get? p.1 = some p.2) → Q (.bool true) s') : wpAny (model PP w) A (call (.ref 159) [v]) Q E s := by
  refine @call_top _ _ _ _ _ _ _ (ob3 #[] #[] #[]) [("script", v)] _ _ _ _ _ _ _ _ _ _ _ _ _ _ _ _ _ _ _ _ _ G kB hob (by show List.Nodup [137, 144, 156]; decide) R (by rfl) (by rfl) (BindsTo.of_eq (by rfl)) (fun L s₁ A' A₁ F' R' => ?_) (by rfl) (by rfl)
  replace F' : Fm (KK w) s B L s₁ [] (cellN (L + 6) :: cellN (L + 5) :: cellN (L + 4) :: cellN (L + 3) :: cellN (L + 2) :: cellN (L + 1) :: ob3 #[] #[] #[]) := F'
  refine @binds_cons _ _ _ _ _ _ _ _ _ ?_
  with_reducible rename Fm _ _ _ _ _ _ _ => F0
  refine @st_cell _ _ _ _ _ _ _ _ _ _ _ _ _ _ _ _ _ _ F0 (by rfl) (by rfl) (by exact UpO.tail _ (UpO.tail _ (UpO.tail _ (UpO.tail _ (UpO.tail _ (UpO.head _)))))) ?_ (by rfl)
  clear F0
  intro _ _
  refine @binds_nil _ _ _ _ _ _ ?_
  with_reducible rename Fm _ _ _ _ _ _ _ => F0
  refine ⟨Fm.gdh F0, ?_⟩
  rename Fm _ _ _ _ _ _ _ => F
  refine @partA _ _ _ _ _ _ _ _ _ _ _ R' hv (by lia) F fun s₂ B1 T v1 lv tx k1 hr hl g6 F => ?_
  have P := HP T tx
  generalize hxs : lineTo (lv2 T) 10 = xs at P
  have hx6 : xs.length = 10 ∧ ∀ x ∈ xs, 0 ≤ x ∧ x < 10 := by rw [← hxs]; exact ⟨lineTo_len, fun x hx => by have := lineTo_mem.mp hx; omega⟩
  refine @partB _ _ _ _ _ _ _ _ _ _ _ _ R' tx hr hl g6 P.hcol F fun s₃ B2 cv k2 hcv g3 F => ?_
  replace hl := leads_kp hl k2
  have g62 := k2 _ _ g6
  refine @partC _ _ _ _ _ _ _ _ _ _ _ _ R' tx hl g62 hcv g3 P.hans F fun s₄ B3 fv k3 hfv g4 F => ?_
  replace hl := leads_kp hl k3
  have g63 := k3 _ _ g62
  have g33 := k3 _ _ g3
  have k13 := k1.trans (k2.trans k3)
  have e3 : ∀ t, List.Perm (cellN (L + 5) :: ob3 #[] #[] t) (cellN (L + 5) :: (156, tabObj t) :: [(137, tabObj #[]), (144, tabObj #[])]) := fun t =>
    List.Perm.cons _ (((List.Perm.swap _ _ _).cons _).trans (List.Perm.swap _ _ _))
  refine @partD _ _ _ _ _ _ _ _ _ _ _ _ R' tx hl g63 (bi.kp k13) (hcv.kp k3) g33 P.hlt (by rw [hxs]; exact P.hline) (F.perm (e3 _)) fun s₅ B4 xv t3 k4 hxv F => ?_
  rw [hxs] at hxv
  replace hl := leads_kp hl k4
  have k14 := k13.trans k4
  have g64 := k4 _ _ g63
  have g44 := k4 _ _ g4
  have hfv4 := hfv.kp k4
  have e4 : ∀ t t1 t2, List.Perm (cellN (L + 5) :: (156, tabObj t) :: [(137, tabObj t1), (144, tabObj t2)]) ((137, tabObj t1) :: (144, tabObj t2) :: cellN (L + 5) :: [(156, tabObj t)]) := fun t t1 t2 =>
    (List.perm_append_comm (l₁ := [cellN (L + 5), (156, tabObj t)]) (l₂ := [(137, tabObj t1), (144, tabObj t2)]))
  have z : ∀ q p1 p2, tabs2 B4 q p1 p2 #[] := fun _ _ _ => ⟨⟨trivial, .inl rfl⟩, ⟨trivial, .inl rfl⟩⟩
  refine @partE _ _ _ _ _ _ _ _ _ _ _ _ _ _ _ _ R' tx hl g64 (bi1.kp k14) (bi2.kp k14) hfv4 g44 hxv hx6 (z _ _ _) (z _ _ _) P.hpair (F.perm (e4 _ _ _)) fun s₆ B5 av cv' bv dv t1 t2 k5 hav hcv' hbv hdv ht1 F => ?_
  replace hl := leads_kp hl k5
  have k15 := k14.trans k5
  have g65 := k5 _ _ g64
  have g45 := k5 _ _ g44
  have hfv5 := hfv4.kp k5
  have hxv5 := hxv.kp k5
  refine @partF _ _ _ _ _ _ _ _ _ _ _ _ _ _ _ _ _ R' hfv5 g45 hxv5 hx6 hcv' hdv P.hn1 P.hn2 P.he1 P.he2 F fun s₇ B6 k6 F => ?_
  replace hl := leads_kp hl k6
  refine @partG _ _ _ _ _ _ _ _ _ _ _ _ _ _ _ _ _ R' tx hl (k6 _ _ g65) (bi1.kp (k15.trans k6)) (hfv5.kp k6) (k6 _ _ g45) (hxv5.kp k6) hx6 (hav.kp k6) (hbv.kp k6) ⟨ht1.1.kp k6, ht1.2.kp k6⟩ P.hag1 P.hag2 F fun s₈ B7 t1 l k7 F => ?_
  exact h _ t1 t2 t3 F.sm ((k15.trans (k6.trans k7)).trans F.kp) fun p hp => F.get hp
end Mine
end
section
open PySem PySem.W PyProof.Rows PySem.Calls PySem.Spec
set_option maxRecDepth 100000
namespace Mine
theorem bi_ghostL {tabs : List (Addr × Addr)} {P : Addr} {p : Program} {loose : List Str} {mean : ExcName → Option Value} {mg mb : Str → Option Value} {h : Heap} (hT : TabsAt tabs h) (hP : P ∈ tabs.map (·.2)) (T : Top p loose mean mg mb h) : BI P (ghostOf h tabs) := by
  have T' := ghost_top hT T
  obtain ⟨bm, o, a1, a2, a3, a4, a5, a6⟩ := T'.bmain
  refine ⟨mg, T'.g, bm, o, a1, a2, ?_, ?_, a3, a4, a5, a6⟩
  · rintro rfl
    obtain ⟨o', es, ep, e, hd, _⟩ := T'.g
    rw [a3] at e; cases e; rw [a6] at hd; cases hd
  · rintro rfl
    rw [hideAll_none _ hP] at a3; cases a3
theorem law_postL {cw : ClaimW} {cl : Str → Option Addr} {mean : ExcName → Option Value} {args : List WData} {s₁ s' : Shared} {tabs : List (Addr × Addr)} (hT : TabsAt tabs s₁.heap) (hr : ∀ x, cw.raises args x = false) (hp : cw.post args (.bool true) args = true)
    (hs : Sm s₁ s') (hg : s₁.gens = #[]) (hk : Kp (ghostOf s₁.heap tabs) s'.heap) (h1 : ∀ q ∈ tabs, ∃ ps, s'.heap.get? q.2 = some (tabObj ps)) : GoodWG cw cl mean args s₁ (.ok (.ret (.bool true))) s' := by
  have at' : ∀ b o, s₁.heap.get? b = some o → s'.heap.get? b = some o ∨ ∃ q ∈ tabs, b = q.2 ∧ o = tabObj #[] := fun b o e => by
    by_cases hb : b ∈ tabs.map (·.2)
    · obtain ⟨q, hq, rfl⟩ := List.mem_map.mp hb
      have e2 := (hT q hq).2
      rw [e] at e2
      exact .inr ⟨q, hq, rfl, Option.some.inj e2⟩
    · exact .inl (hk b o (ghost_ne e hb))
  refine ⟨.inl ⟨.bool true, .bool true, [], rfl, hr, .bool true, hp, fun _ => ⟨List.nodup_nil, by intro a ha; cases ha⟩⟩, ⟨fun b o e => ?_, fun b o e => ?_⟩, hs.os, .of_eq (hs.gens.trans hg)⟩
  · rcases at' b o e with h | ⟨q, hq, rfl, rfl⟩
    · exact .inl h
    · obtain ⟨ps, hps⟩ := h1 q hq
      exact .inr (.inl ⟨((hT q hq).1.tab (hT q hq).2).isCodeTable, rfl, #[], ps, rfl, by rw [Array.empty_append]; exact hps⟩)
  · rcases at' b o e with h | ⟨q, hq, rfl, rfl⟩
    · exact ⟨o, h⟩
    · obtain ⟨ps, hps⟩ := h1 q hq
      exact ⟨_, hps⟩
set_option maxHeartbeats 8000000 in
theorem goal0 (plain02 : ∀ T, Tx T → Plain T (lineTo (lv2 T) 10)) : PySem.Challenge.rw_pe0230_02.Holds := hd (by
  k_fill
  intro w s₀ s₁ mg mb G Y fa o pm cd doc dV kV ho hd hcd hD hmg hg args vals as hpre hlay hrd hwl hlo
  have X : (KK w).In s₁.heap := km_in_of Y
  have tb := km_tabs_of Y
  have T := G.T
  have hT : TabsAt [(141, 137), (148, 144), (158, 156)] s₁.heap := fun q hq => by
    rcases List.mem_cons.mp hq with rfl | hq
    · exact ⟨codeHd_of_K (K := KK w) X (by kernel_rfl), tb 137 (by decide)⟩
    rcases List.mem_cons.mp hq with rfl | hq
    · exact ⟨codeHd_of_K (K := KK w) X (by kernel_rfl), tb 144 (by decide)⟩
    rw [List.mem_singleton.mp hq]
    exact ⟨codeHd_of_K (K := KK w) X (by kernel_rfl), tb 156 (by decide)⟩
  have hfa : fa = 159 := by
    have e := mg_of X T.g (by kernel_rfl : nsIn (KK w) mainGlobals "law" = some (some (.ref 159)))
    have e2 : mg "law" = some (.ref fa) := hmg
    rw [e] at e2; cases e2; rfl
  subst hfa
  clear hmg ho hd hcd hD
  wrow_args hpre hlay hrd hwl hlo
  rename_i ns _ _ _ _ _ _ _ a vs _ hL _ _ _ hI _ hc _
  have hv : Rd (ghostOf s₁.heap [(141, 137), (148, 144), (158, 156)]) (.ref a) (dIs ns) := by
    obtain ⟨o, ho, hc, n, hd⟩ := ghost_list hT hL
    obtain ⟨bs, hb⟩ := (RdL.ints (h := ghostOf s₁.heap [(141, 137), (148, 144), (158, 156)]) hI).all
    exact ⟨_, .list ho hc hd (by simpa using hb)⟩
  show wpAny (model PP w) callerA (call (.ref 159) [.ref a]) _ _ s₁
  refine law_run plain02 (B := ghostOf s₁.heap [(141, 137), (148, 144), (158, 156)]) (gd_ghost hT X (by kernel_rfl) T) (fun b o e => of_hideAll _ e) (bi_ghostL hT (by decide) T) (bi_ghostL hT (by decide) T) (bi_ghostL hT (by decide) T) (fun p hp => ?_) ⟨rfl, by decide, by decide⟩ hv (by omega) fun s' t1 t2 t3 hs hk h1 => ?_
  · have q : ∀ P, P ∈ [(141, 137), (148, 144), (158, 156)].map (·.2) → s₁.heap.get? P = some (tabObj #[]) ∧ (ghostOf s₁.heap [(141, 137), (148, 144), (158, 156)]).get? P = none := fun P hP => by
      obtain ⟨q, hq, rfl⟩ := List.mem_map.mp hP
      exact ⟨(hT q hq).2, hideAll_none _ hP⟩
    rcases List.mem_cons.mp hp with rfl | hp
    · exact q 137 (by decide)
    rcases List.mem_cons.mp hp with rfl | hp
    · exact q 144 (by decide)
    rw [List.mem_singleton.mp hp]
    exact q 156 (by decide)
  · refine law_postL hT (fun _ => rfl) (by with_unfolding_all rfl) hs hg hk fun q hq => ?_
    rcases List.mem_cons.mp hq with rfl | hq
    · exact ⟨t1, h1 (137, tabObj t1) (.head _)⟩
    rcases List.mem_cons.mp hq with rfl | hq
    · exact ⟨t2, h1 (144, tabObj t2) (.tail _ (.head _))⟩
    rw [List.mem_singleton.mp hq]
    exact ⟨t3, h1 (156, tabObj t3) (.tail _ (.tail _ (.head _)))⟩)
end Mine
end
section
open PySem
set_option maxRecDepth 100000
namespace Mine
/-- a run of the greedy: W waits, E comes, P are the pairs; a taker takes the greatest below itself -/
inductive Grd (g : Int → Int) (iw : Int → Bool) : List Int → List Int → List (Int × Int) → Prop
  | nil (W : List Int) : Grd g iw W [] []
  | wait {W W' E : List Int} {k : Int} {P : List (Int × Int)} : iw k = true → List.Perm W' (k :: W) → Grd g iw W' E P → Grd g iw W (k :: E) P
  | take {W W' E : List Int} {k w : Int} {P : List (Int × Int)} : iw k = false → g w < g k → (∀ v ∈ W, g v < g k → g v ≤ g w) → List.Perm W (w :: W') → Grd g iw W' E P → Grd g iw W (k :: E) ((w, k) :: P)
  | miss {W E : List Int} {k : Int} {P : List (Int × Int)} : iw k = false → (∀ v ∈ W, ¬ g v < g k) → Grd g iw W E P → Grd g iw W (k :: E) P
/-- w is wanted by a chosen taker of E -/
def wants (g : Int → Int) (iw s : Int → Bool) (E : List Int) (w : Int) : Bool := E.any fun c => !iw c && s c && decide (g w < g c)
/-- the chosen takers of E -/
def chosenN (iw s : Int → Bool) (E : List Int) : Nat := E.countP fun c => !iw c && s c
def takersN (iw : Int → Bool) (E : List Int) : Nat := E.countP fun c => !iw c
/-- those that wait in E and are wanted by a chosen taker behind them -/
def reachN (g : Int → Int) (iw s : Int → Bool) : List Int → Nat
  | [] => 0
  | k :: E => (if iw k = true then (if wants g iw s E k = true then 1 else 0) else 0) + reachN g iw s E
abbrev nbN (g : Int → Int) (iw s : Int → Bool) (W E : List Int) : Nat := W.countP (wants g iw s E) + reachN g iw s E
section
variable {g : Int → Int} {iw s : Int → Bool} {W W' E : List Int} {k w : Int} {P : List (Int × Int)}
theorem wants_wait (h : iw k = true) : wants g iw s (k :: E) w = wants g iw s E w := by
  unfold wants; rw [List.any_cons, h]; simp
theorem wants_take (h : iw k = false) : wants g iw s (k :: E) w = ((s k && decide (g w < g k)) || wants g iw s E w) := by
  unfold wants; rw [List.any_cons, h]; simp
theorem nb_wait (h : iw k = true) (hp : List.Perm W' (k :: W)) : nbN g iw s W (k :: E) = nbN g iw s W' E := by
  have e : wants g iw s (k :: E) = wants g iw s E := funext fun w => wants_wait h
  unfold nbN
  rw [e, hp.countP_eq, List.countP_cons, reachN, if_pos h]
  lia
theorem greedy_le (r : Grd g iw W E P) (s : Int → Bool) : P.length ≤ takersN iw E ∧ chosenN iw s E + P.length ≤ nbN g iw s W E + takersN iw E := by
  induction r with
  | nil W => exact ⟨Nat.zero_le _, by simp [chosenN]⟩
  | @wait W W' E k P h hp _ ih =>
    have e1 : chosenN iw s (k :: E) = chosenN iw s E := by unfold chosenN; rw [List.countP_cons, h]; simp
    have e2 : takersN iw (k :: E) = takersN iw E := by unfold takersN; rw [List.countP_cons, h]; simp
    rw [e1, e2, nb_wait h hp]
    exact ih
  | @take W W' E k w P h hlt hmax hp _ ih =>
    rw [List.length_cons]
    have e2 : takersN iw (k :: E) = takersN iw E + 1 := by unfold takersN; rw [List.countP_cons, h]; simp
    have e1 : chosenN iw s (k :: E) = chosenN iw s E + (if s k = true then 1 else 0) := by unfold chosenN; rw [List.countP_cons, h]; simp
    have e3 : nbN g iw s W (k :: E) = (w :: W').countP (wants g iw s (k :: E)) + reachN g iw s E := by
      unfold nbN; rw [hp.countP_eq, reachN, h]; simp
    have m1 : W'.countP (wants g iw s E) ≤ W'.countP (wants g iw s (k :: E)) := List.countP_mono_left fun v _ hv => by rw [wants_take h, hv]; simp
    have m2 : s k = true → wants g iw s (k :: E) w = true := fun hs => by rw [wants_take h, hs, decide_eq_true hlt]; rfl
    rw [List.countP_cons] at e3
    unfold nbN at ih
    refine ⟨by lia, ?_⟩
    rw [e1, e2, e3]
    by_cases hs : s k = true
    · rw [if_pos hs, if_pos (m2 hs)]; lia
    · rw [if_neg hs]; split <;> lia
  | @miss W E k P h hno _ ih =>
    have e2 : takersN iw (k :: E) = takersN iw E + 1 := by unfold takersN; rw [List.countP_cons, h]; simp
    have e1 : chosenN iw s (k :: E) ≤ chosenN iw s E + 1 := by unfold chosenN; rw [List.countP_cons]; split <;> lia
    have m1 : W.countP (wants g iw s E) ≤ W.countP (wants g iw s (k :: E)) := List.countP_mono_left fun v _ hv => by rw [wants_take h, hv]; simp
    have e3 : reachN g iw s (k :: E) = reachN g iw s E := by rw [reachN, h]; simp
    unfold nbN at ih ⊢
    refine ⟨by lia, ?_⟩
    rw [e3, e2]
    lia
theorem wants_congr {s' : Int → Bool} (h : ∀ c ∈ E, s' c = s c) : wants g iw s' E w = wants g iw s E w := by
  unfold wants
  rw [Bool.eq_iff_iff, List.any_eq_true, List.any_eq_true]
  constructor
  · rintro ⟨c, hc, q⟩; exact ⟨c, hc, by rw [← h c hc]; exact q⟩
  · rintro ⟨c, hc, q⟩; exact ⟨c, hc, by rw [h c hc]; exact q⟩
theorem reach_congr {s' : Int → Bool} : ∀ {E : List Int}, (∀ c ∈ E, s' c = s c) → reachN g iw s' E = reachN g iw s E
  | [], _ => rfl
  | k :: E, h => by
    rw [reachN, reachN, wants_congr (fun c hc => h c (.tail _ hc)), reach_congr (E := E) fun c hc => h c (.tail _ hc)]
theorem chosen_congr {s' : Int → Bool} (h : ∀ c ∈ E, s' c = s c) : chosenN iw s' E = chosenN iw s E := by
  unfold chosenN
  exact List.countP_congr fun c hc => by rw [h c hc]
theorem greedy_ge (r : Grd g iw W E P) (nd : E.Nodup) : ∃ s : Int → Bool, nbN g iw s W E + takersN iw E ≤ chosenN iw s E + P.length := by
  induction r with
  | nil W =>
    refine ⟨fun _ => false, ?_⟩
    have : W.countP (wants g iw (fun _ => false) []) = 0 := by rw [List.countP_eq_zero]; intro v _; simp [wants]
    unfold nbN
    rw [this]
    simp [reachN, takersN]
  | @wait W W' E k P h hp _ ih =>
    obtain ⟨s, hs⟩ := ih (List.nodup_cons.mp nd).2
    have e1 : chosenN iw s (k :: E) = chosenN iw s E := by unfold chosenN; rw [List.countP_cons, h]; simp
    have e2 : takersN iw (k :: E) = takersN iw E := by unfold takersN; rw [List.countP_cons, h]; simp
    exact ⟨s, by rw [e1, e2, nb_wait h hp]; exact hs⟩
  | @take W W' E k w P h hlt hmax hp _ ih =>
    rw [List.length_cons]
    obtain ⟨hk, nd'⟩ := List.nodup_cons.mp nd
    obtain ⟨s, hs⟩ := ih nd'
    have e2 : takersN iw (k :: E) = takersN iw E + 1 := by unfold takersN; rw [List.countP_cons, h]; simp
    cases hw : wants g iw s E w with
    | false =>
      have ag : ∀ c ∈ E, (fun x => if x = k then false else s x) c = s c := fun c hc => if_neg (by rintro rfl; exact hk hc)
      have ek : (fun x => if x = k then false else s x) k = false := if_pos rfl
      refine ⟨fun x => if x = k then false else s x, ?_⟩
      generalize (fun x => if x = k then false else s x) = s' at ag ek
      have e1 : chosenN iw s' (k :: E) = chosenN iw s E := by rw [← chosen_congr ag]; unfold chosenN; rw [List.countP_cons, h, ek]; simp
      have ew : wants g iw s' (k :: E) = wants g iw s E := funext fun v => by rw [wants_take h, ek, wants_congr ag]; simp
      have er : reachN g iw s' (k :: E) = reachN g iw s E := by rw [reachN, h, reach_congr ag]; simp
      unfold nbN at hs ⊢
      rw [e1, e2, er, ew, hp.countP_eq, List.countP_cons, hw]
      simp only [Bool.false_eq_true, if_false]
      lia
    | true =>
      have ag : ∀ c ∈ E, (fun x => if x = k then true else s x) c = s c := fun c hc => if_neg (by rintro rfl; exact hk hc)
      have ek : (fun x => if x = k then true else s x) k = true := if_pos rfl
      refine ⟨fun x => if x = k then true else s x, ?_⟩
      generalize (fun x => if x = k then true else s x) = s' at ag ek
      have e1 : chosenN iw s' (k :: E) = chosenN iw s E + 1 := by rw [← chosen_congr ag]; unfold chosenN; rw [List.countP_cons, h, ek]; simp
      have er : reachN g iw s' (k :: E) = reachN g iw s E := by rw [reachN, h, reach_congr ag]; simp
      have ew : W'.countP (wants g iw s' (k :: E)) = W'.countP (wants g iw s E) := List.countP_congr fun v hv => by
        rw [wants_take h, ek, wants_congr ag]
        by_cases c : g v < g k
        · have hle := hmax v (hp.mem_iff.mpr (.tail _ hv)) c
          unfold wants at hw ⊢
          obtain ⟨x, hx, q⟩ := List.any_eq_true.mp hw
          have : (E.any fun c => !iw c && s c && decide (g v < g c)) = true := by
            refine List.any_eq_true.mpr ⟨x, hx, ?_⟩
            simp only [Bool.and_eq_true, decide_eq_true_eq] at q ⊢
            exact ⟨q.1, by lia⟩
          rw [this]; simp
        · rw [decide_eq_false c]; simp
      unfold nbN at hs ⊢
      rw [e1, e2, er, hp.countP_eq, List.countP_cons, ew]
      split <;> lia
  | @miss W E k P h hno _ ih =>
    obtain ⟨hk, nd'⟩ := List.nodup_cons.mp nd
    obtain ⟨s, hs⟩ := ih nd'
    have e2 : takersN iw (k :: E) = takersN iw E + 1 := by unfold takersN; rw [List.countP_cons, h]; simp
    have ag : ∀ c ∈ E, (fun x => if x = k then true else s x) c = s c := fun c hc => if_neg (by rintro rfl; exact hk hc)
    have ek : (fun x => if x = k then true else s x) k = true := if_pos rfl
    refine ⟨fun x => if x = k then true else s x, ?_⟩
    generalize (fun x => if x = k then true else s x) = s' at ag ek
    have e1 : chosenN iw s' (k :: E) = chosenN iw s E + 1 := by rw [← chosen_congr ag]; unfold chosenN; rw [List.countP_cons, h, ek]; simp
    have er : reachN g iw s' (k :: E) = reachN g iw s E := by rw [reachN, h, reach_congr ag]; simp
    have ew : W.countP (wants g iw s' (k :: E)) = W.countP (wants g iw s E) := List.countP_congr fun v hv => by
      rw [wants_take h, ek, wants_congr ag, decide_eq_false (hno v hv)]; simp
    unfold nbN at hs ⊢
    rw [e1, e2, er, ew]
    lia
end
end Mine
end
section
open PySem
set_option maxRecDepth 100000
namespace Mine
theorem bisR_spec (g : Nat → Int) (x : Int) (lo hi : Nat) (mono : ∀ i j, i ≤ j → j < hi → g i ≤ g j) (h : lo ≤ hi) : lo ≤ bisR g x lo hi ∧ bisR g x lo hi ≤ hi ∧ (∀ i, lo ≤ i → i < bisR g x lo hi → g i ≤ x) ∧ (∀ i, bisR g x lo hi ≤ i → i < hi → x < g i) := by
  induction hn : hi - lo using Nat.strongRecOn generalizing lo hi with
  | ind n ih =>
    rw [bisR]
    split
    · rename_i hlt
      split
      · rename_i hc
        have := ih ((lo + hi) / 2 - lo) (by lia) lo ((lo + hi) / 2) (fun i j a b => mono i j a (by lia)) (by lia) rfl
        refine ⟨this.1, by lia, this.2.2.1, fun i h1 h2 => ?_⟩
        by_cases q : i < (lo + hi) / 2
        · exact this.2.2.2 i h1 q
        · have := mono ((lo + hi) / 2) i (by lia) h2; lia
      · rename_i hc
        have := ih (hi - ((lo + hi) / 2 + 1)) (by lia) ((lo + hi) / 2 + 1) hi mono (by lia) rfl
        refine ⟨by lia, this.2.1, fun i h1 h2 => ?_, this.2.2.2⟩
        by_cases q : (lo + hi) / 2 + 1 ≤ i
        · exact this.2.2.1 i q h2
        · have := mono i ((lo + hi) / 2) (by lia) (by lia); lia
    · exact ⟨Nat.le_refl _, h, fun i h1 h2 => by lia, fun i h1 h2 => by lia⟩
theorem bisL_spec (g : Nat → Int) (x : Int) (lo hi : Nat) (mono : ∀ i j, i ≤ j → j < hi → g i ≤ g j) (h : lo ≤ hi) : lo ≤ bisL g x lo hi ∧ bisL g x lo hi ≤ hi ∧ (∀ i, lo ≤ i → i < bisL g x lo hi → g i < x) ∧ (∀ i, bisL g x lo hi ≤ i → i < hi → x ≤ g i) := by
  induction hn : hi - lo using Nat.strongRecOn generalizing lo hi with
  | ind n ih =>
    rw [bisL]
    split
    · rename_i hlt
      split
      · rename_i hc
        have := ih (hi - ((lo + hi) / 2 + 1)) (by lia) ((lo + hi) / 2 + 1) hi mono (by lia) rfl
        refine ⟨by lia, this.2.1, fun i h1 h2 => ?_, this.2.2.2⟩
        by_cases q : (lo + hi) / 2 + 1 ≤ i
        · exact this.2.2.1 i q h2
        · have := mono i ((lo + hi) / 2) (by lia) (by lia); lia
      · rename_i hc
        have := ih ((lo + hi) / 2 - lo) (by lia) lo ((lo + hi) / 2) (fun i j a b => mono i j a (by lia)) (by lia) rfl
        refine ⟨this.1, by lia, this.2.2.1, fun i h1 h2 => ?_⟩
        by_cases q : i < (lo + hi) / 2
        · exact this.2.2.2 i h1 q
        · have := mono ((lo + hi) / 2) i (by lia) h2; lia
    · exact ⟨Nat.le_refl _, h, fun i h1 h2 => by lia, fun i h1 h2 => by lia⟩
theorem pw_get {R : Int → Int → Prop} {ns : List Int} (h : ns.Pairwise R) {i j : Nat} (hij : i < j) (hj : j < ns.length) : R (ns.getD i 0) (ns.getD j 0) := by
  rw [List.getD_eq_getElem?_getD, List.getD_eq_getElem?_getD, List.getElem?_eq_getElem (by lia), List.getElem?_eq_getElem hj]
  exact List.pairwise_iff_getElem.mp h i j (by lia) hj hij
theorem mono_of {f : Int → Int} {ns : List Int} (h : ns.Pairwise fun u v => f u ≤ f v) : ∀ i j, i ≤ j → j < ns.length → f (ns.getD i 0) ≤ f (ns.getD j 0) := fun i j hij hj => by
  rcases Nat.lt_or_ge i j with h1 | h1
  · exact pw_get h h1 hj
  · rw [show i = j by lia]; exact Int.le_refl _
theorem mem_take_get {ns : List Int} {p : Nat} {y : Int} (h : y ∈ ns.take p) : ∃ i, i < p ∧ i < ns.length ∧ ns.getD i 0 = y := by
  obtain ⟨i, hi, e⟩ := List.mem_iff_getElem.mp h
  rw [List.length_take] at hi
  refine ⟨i, by lia, by lia, ?_⟩
  rw [List.getD_eq_getElem?_getD, List.getElem?_eq_getElem (by lia)]
  rw [List.getElem_take] at e; exact e
theorem mem_drop_get {ns : List Int} {p : Nat} {y : Int} (h : y ∈ ns.drop p) : ∃ i, p ≤ i ∧ i < ns.length ∧ ns.getD i 0 = y := by
  obtain ⟨i, hi, e⟩ := List.mem_iff_getElem.mp h
  rw [List.length_drop] at hi
  refine ⟨p + i, by lia, by omega, ?_⟩
  rw [List.getD_eq_getElem?_getD, List.getElem?_eq_getElem (by omega)]
  rw [List.getElem_drop] at e; exact e
theorem pw_ins {R : Int → Int → Prop} {ns : List Int} {p : Nat} {x : Int} (h : ns.Pairwise R) (h1 : ∀ y ∈ ns.take p, R y x) (h2 : ∀ y ∈ ns.drop p, R x y) : (ns.take p ++ x :: ns.drop p).Pairwise R := by
  have hh := h
  rw [← List.take_append_drop p ns, List.pairwise_append] at hh
  rw [List.pairwise_append, List.pairwise_cons]
  refine ⟨hh.1, ⟨h2, hh.2.1⟩, fun a ha b hb => ?_⟩
  rcases List.mem_cons.mp hb with rfl | hb
  · exact h1 a ha
  · exact hh.2.2 a ha b hb
abbrev evB (k : Int) : Bool := decide (k % 2 = 0)
abbrev odB (k : Int) : Bool := decide (k % 2 = 1)
theorem insI1_perm {rt : Bool} {f : Int → Int} {ns : List Int} {x : Int} : List.Perm (insI1 rt f ns x) (x :: ns) := by
  unfold insI1
  generalize (if rt = true then bisR (fun i => f (ns.getD i 0)) (f x) 0 ns.length else bisL (fun i => f (ns.getD i 0)) (f x) 0 ns.length) = p
  exact List.perm_middle.trans (by rw [List.take_append_drop])
theorem insI1_pw {rt : Bool} {f : Int → Int} {ns : List Int} {x : Int} (h : ns.Pairwise fun u v => f u ≤ f v) : (insI1 rt f ns x).Pairwise fun u v => f u ≤ f v := by
  unfold insI1
  cases rt with
  | true =>
    rw [if_pos rfl]
    obtain ⟨_, h2, h3, h4⟩ := bisR_spec (fun i => f (ns.getD i 0)) (f x) 0 ns.length (mono_of h) (Nat.zero_le _)
    refine pw_ins h (fun y hy => ?_) fun y hy => ?_
    · obtain ⟨i, hi, hl, rfl⟩ := mem_take_get hy; exact h3 i (Nat.zero_le _) hi
    · obtain ⟨i, hi, hl, rfl⟩ := mem_drop_get hy; have := h4 i hi hl; lia
  | false =>
    rw [if_neg (by simp)]
    obtain ⟨_, h2, h3, h4⟩ := bisL_spec (fun i => f (ns.getD i 0)) (f x) 0 ns.length (mono_of h) (Nat.zero_le _)
    refine pw_ins h (fun y hy => ?_) fun y hy => ?_
    · obtain ⟨i, hi, hl, rfl⟩ := mem_take_get hy; have := h3 i (Nat.zero_le _) hi; lia
    · obtain ⟨i, hi, hl, rfl⟩ := mem_drop_get hy; exact h4 i hi hl
theorem getD_erase {ns : List Int} {i : Nat} (h : i < ns.length) : List.Perm ns (ns.getD i 0 :: ns.eraseIdx i) := by
  rw [List.getD_eq_getElem?_getD, List.getElem?_eq_getElem h, List.eraseIdx_eq_take_drop_succ]
  show List.Perm ns (ns[i] :: (ns.take i ++ ns.drop (i + 1)))
  refine List.Perm.trans ?_ List.perm_middle
  rw [← List.drop_eq_getElem_cons h, List.take_append_drop]
theorem mem_get {ns : List Int} {y : Int} (h : y ∈ ns) : ∃ i, i < ns.length ∧ ns.getD i 0 = y := by
  obtain ⟨i, hi, e⟩ := List.getElem_of_mem h
  exact ⟨i, hi, by rw [List.getD_eq_getElem?_getD, List.getElem?_eq_getElem hi]; exact e⟩
theorem front_grd {f : Int → Int} : ∀ (E : List Int) (S : FS), (S.w.Pairwise fun u v => f u ≤ f v) → ∃ P, Grd f evB S.w E P ∧ (E.foldl (frontStep f) S).p = S.p ++ P
  | [], S, _ => ⟨[], .nil _, by simp⟩
  | k :: E, S, hw => by
    rw [List.foldl_cons]
    by_cases c : k % 2 = 0
    · have e : frontStep f S k = ⟨insI1 true f S.w k, S.p, S.c⟩ := if_pos c
      obtain ⟨n, h1, h2⟩ := front_grd E (frontStep f S k) (by rw [e]; exact insI1_pw hw)
      rw [e] at h1 h2
      exact ⟨n, .wait (decide_eq_true c) insI1_perm h1, by rw [e]; exact h2⟩
    · obtain ⟨_, q2, q3, q4⟩ := bisL_spec (fun i => f (S.w.getD i 0)) (f k) 0 S.w.length (mono_of hw) (Nat.zero_le _)
      by_cases hq : 0 < bisL (fun i => f (S.w.getD i 0)) (f k) 0 S.w.length
      · have e : frontStep f S k = ⟨S.w.eraseIdx (bisL (fun i => f (S.w.getD i 0)) (f k) 0 S.w.length - 1), S.p ++ [(S.w.getD (bisL (fun i => f (S.w.getD i 0)) (f k) 0 S.w.length - 1) 0, k)], S.c ++ [((S.p.length + 1 : Nat) : Int)]⟩ := by
          unfold frontStep; rw [if_neg c, if_pos hq]
        generalize bisL (fun i => f (S.w.getD i 0)) (f k) 0 S.w.length = q at *
        obtain ⟨n, h1, h2⟩ := front_grd E (frontStep f S k) (by rw [e]; exact hw.sublist (List.eraseIdx_sublist _ _))
        rw [e] at h1 h2
        refine ⟨_, .take (decide_eq_false c) (q3 (q - 1) (Nat.zero_le _) (by omega)) (fun v hv hlt => ?_) (getD_erase (by omega)) h1, ?_⟩
        · obtain ⟨i, hi, rfl⟩ := mem_get hv
          have hiq : i < q := Nat.lt_of_not_le fun hge => by have := q4 i hge hi; lia
          exact mono_of hw i (q - 1) (by lia) (by omega)
        · rw [e, h2, List.append_assoc]; rfl
      · have e : frontStep f S k = ⟨S.w, S.p, S.c ++ [((S.p.length : Nat) : Int)]⟩ := by
          unfold frontStep; rw [if_neg c, if_neg hq]
        obtain ⟨n, h1, h2⟩ := front_grd E (frontStep f S k) (by rw [e]; exact hw)
        rw [e] at h1 h2
        refine ⟨n, .miss (decide_eq_false c) (fun v hv hlt => ?_) h1, by rw [e]; exact h2⟩
        obtain ⟨i, hi, rfl⟩ := mem_get hv
        have := q4 i (by lia) hi
        lia
end Mine
end
section
open PySem
set_option maxRecDepth 100000
namespace Mine
theorem end_grd {f : Int → Int} : ∀ (E : List Int) (S : FS), (S.w.Pairwise fun u v => f u ≤ f v) → ∃ P, Grd (fun k => -(f k)) odB S.w E P ∧ (E.foldl (endStep f) S).p = S.p ++ P.map fun x => (x.2, x.1)
  | [], S, _ => ⟨[], .nil _, by simp⟩
  | k :: E, S, hw => by
    rw [List.foldl_cons]
    by_cases c : k % 2 = 1
    · have e : endStep f S k = ⟨insI1 false f S.w k, S.p, S.c⟩ := if_pos c
      obtain ⟨n, h1, h2⟩ := end_grd E (endStep f S k) (by rw [e]; exact insI1_pw hw)
      rw [e] at h1 h2
      exact ⟨n, .wait (decide_eq_true c) insI1_perm h1, by rw [e]; exact h2⟩
    · obtain ⟨_, q2, q3, q4⟩ := bisR_spec (fun i => f (S.w.getD i 0)) (f k) 0 S.w.length (mono_of hw) (Nat.zero_le _)
      by_cases hq : bisR (fun i => f (S.w.getD i 0)) (f k) 0 S.w.length < S.w.length
      · have e : endStep f S k = ⟨S.w.eraseIdx (bisR (fun i => f (S.w.getD i 0)) (f k) 0 S.w.length), S.p ++ [(k, S.w.getD (bisR (fun i => f (S.w.getD i 0)) (f k) 0 S.w.length) 0)], S.c ++ [((S.p.length + 1 : Nat) : Int)]⟩ := by
          unfold endStep; rw [if_neg c, if_pos hq]
        generalize bisR (fun i => f (S.w.getD i 0)) (f k) 0 S.w.length = q at *
        obtain ⟨n, h1, h2⟩ := end_grd E (endStep f S k) (by rw [e]; exact hw.sublist (List.eraseIdx_sublist _ _))
        rw [e] at h1 h2
        refine ⟨_, .take (decide_eq_false c) (by have := q4 q (Nat.le_refl _) hq; show -(f _) < -(f _); lia) (fun v hv hlt => ?_) (getD_erase (by omega)) h1, ?_⟩
        · obtain ⟨i, hi, rfl⟩ := mem_get hv
          have hiq : q ≤ i := Nat.le_of_not_lt fun hlt2 => by
            have := q3 i (Nat.zero_le _) hlt2
            have h3 : -(f (S.w.getD i 0)) < -(f k) := hlt
            lia
          have := mono_of hw q i hiq hi
          show -(f _) ≤ -(f _)
          lia
        · rw [e, h2, List.append_assoc]; rfl
      · have e : endStep f S k = ⟨S.w, S.p, S.c ++ [((S.p.length : Nat) : Int)]⟩ := by
          unfold endStep; rw [if_neg c, if_neg hq]
        obtain ⟨n, h1, h2⟩ := end_grd E (endStep f S k) (by rw [e]; exact hw)
        rw [e] at h1 h2
        refine ⟨n, .miss (decide_eq_false c) (fun v hv hlt => ?_) h1, by rw [e]; exact h2⟩
        obtain ⟨i, hi, rfl⟩ := mem_get hv
        have := q3 i (Nat.zero_le _) (by lia)
        have h3 : -(f (S.w.getD i 0)) < -(f k) := hlt
        lia
end Mine
end
section
open PySem
set_option maxRecDepth 100000
namespace Mine
/-- what a choice reaches -/
def uni (X : List (List Int)) : List Int := X.foldl (fun R P => addIn P R) []
theorem uni_snoc (X : List (List Int)) (P : List Int) : uni (X ++ [P]) = addIn P (uni X) := by unfold uni; rw [List.foldl_append]; rfl
theorem getD_app {α : Type} {a b : List α} {i : Nat} {d : α} (h : i < a.length) : (a ++ b).getD i d = a.getD i d := by
  rw [List.getD_eq_getElem?_getD, List.getD_eq_getElem?_getD, List.getElem?_append_left h]
theorem mIn_rc {P : List Int} {S : MS} (hc : S.c.length = S.r.length) : ∀ b, b ≤ S.r.length → (mIn P S b).r = S.r ++ ((List.range b).map fun i => addIn P (S.r.getD i [])) ∧ (mIn P S b).c = S.c ++ ((List.range b).map fun i => S.c.getD i 0 + 1)
  | 0, _ => ⟨by simp [mIn], by simp [mIn]⟩
  | b + 1, hb => by
    obtain ⟨h1, h2⟩ := mIn_rc hc b (by lia)
    have e1 : (mIn P S b).r.getD b [] = S.r.getD b [] := by rw [h1]; exact getD_app (by lia)
    have e2 : (mIn P S b).c.getD b 0 = S.c.getD b 0 := by rw [h2]; exact getD_app (by lia)
    refine ⟨?_, ?_⟩
    · show (mIn P S b).r ++ [addIn P ((mIn P S b).r.getD b [])] = _
      rw [e1, h1, List.range_succ, List.map_append, List.append_assoc]; rfl
    · show (mIn P S b).c ++ [(mIn P S b).c.getD b 0 + 1] = _
      rw [e2, h2, List.range_succ, List.map_append, List.append_assoc]; rfl
abbrev gap (P : List Int) (S : MS) (i : Nat) : Int := ((S.c.getD i 0 + 1 : Nat) : Int) - ((addIn P (S.r.getD i [])).length : Nat)
theorem mIn_k {P : List Int} {S : MS} (hc : S.c.length = S.r.length) : ∀ b, b ≤ S.r.length → S.k ≤ (mIn P S b).k ∧ (∀ i, i < b → gap P S i ≤ (mIn P S b).k) ∧ ((mIn P S b).k = S.k ∨ ∃ i, i < b ∧ (mIn P S b).k = gap P S i)
  | 0, _ => ⟨Int.le_refl _, fun i hi => absurd hi (Nat.not_lt_zero _), .inl rfl⟩
  | b + 1, hb => by
    obtain ⟨h1, h2, h3⟩ := mIn_k hc b (by lia)
    obtain ⟨g1, g2⟩ := mIn_rc (P := P) hc b (by lia)
    have e1 : (mIn P S b).r.getD b [] = S.r.getD b [] := by rw [g1]; exact getD_app (by lia)
    have e2 : (mIn P S b).c.getD b 0 = S.c.getD b 0 := by rw [g2]; exact getD_app (by lia)
    have e : (mIn P S (b + 1)).k = max (mIn P S b).k (gap P S b) := by
      show max (mIn P S b).k _ = _
      rw [e1, e2]
    rw [e]
    refine ⟨Int.le_trans h1 (Int.le_max_left _ _), fun i hi => ?_, ?_⟩
    · by_cases c : i = b
      · subst c; exact Int.le_max_right _ _
      · exact Int.le_trans (h2 i (by lia)) (Int.le_max_left _ _)
    · by_cases c : (mIn P S b).k ≤ gap P S b
      · exact .inr ⟨b, by lia, Int.max_eq_right c⟩
      · have c2 := Int.max_eq_left (Int.le_of_lt (Int.not_le.mp c))
        rcases h3 with h3 | ⟨i, hi, h3⟩
        · exact .inl (c2.trans h3)
        · exact .inr ⟨i, by lia, c2.trans h3⟩
theorem take_succ_getD {ps : List (List Int)} {k : Nat} (h : k < ps.length) : ps.take (k + 1) = ps.take k ++ [ps.getD k []] := by
  rw [List.take_add_one, List.getD_eq_getElem?_getD, List.getElem?_eq_getElem h]; rfl
theorem sub_snoc {X Y : List (List Int)} {P : List Int} (h : X.Sublist (Y ++ [P])) : X.Sublist Y ∨ ∃ X', X = X' ++ [P] ∧ X'.Sublist Y := by
  obtain ⟨l1, l2, rfl, h1, h2⟩ := List.sublist_append_iff.mp h
  cases h2 with
  | cons _ h2 => cases h2; exact .inl (by simpa using h1)
  | cons_cons _ h2 => cases h2; exact .inr ⟨l1, rfl, h1⟩
theorem mOut_ent {ps : List (List Int)} : ∀ k, k ≤ ps.length → (∀ b, b < 2 ^ k → ∃ X, X.Sublist (ps.take k) ∧ (mOut ps k).r.getD b [] = uni X ∧ (mOut ps k).c.getD b 0 = X.length) ∧ ∀ X, X.Sublist (ps.take k) → ∃ b, b < 2 ^ k ∧ (mOut ps k).r.getD b [] = uni X ∧ (mOut ps k).c.getD b 0 = X.length
  | 0, _ => by
    refine ⟨fun b hb => ⟨[], by simp, ?_, ?_⟩, fun X hX => ⟨0, by simp, ?_⟩⟩
    · have : b = 0 := by simpa using hb
      subst this; rfl
    · have : b = 0 := by simpa using hb
      subst this; rfl
    · have : X = [] := by simpa using hX
      subst this; exact ⟨rfl, rfl⟩
  | k + 1, hk => by
    obtain ⟨h1, h2⟩ := mOut_ent (ps := ps) k (by lia)
    obtain ⟨w1, w2, _⟩ := mOut_len ps k
    obtain ⟨g1, g2⟩ := mIn_rc (P := ps.getD k []) (S := mOut ps k) (by lia) (2 ^ k) (by lia)
    have e2 : 2 ^ (k + 1) = 2 ^ k + 2 ^ k := by rw [Nat.pow_succ]; lia
    have er : (mOut ps (k + 1)).r = (mOut ps k).r ++ ((List.range (2 ^ k)).map fun i => addIn (ps.getD k []) ((mOut ps k).r.getD i [])) := g1
    have ec : (mOut ps (k + 1)).c = (mOut ps k).c ++ ((List.range (2 ^ k)).map fun i => (mOut ps k).c.getD i 0 + 1) := g2
    have lo : ∀ b, b < 2 ^ k → (mOut ps (k + 1)).r.getD b [] = (mOut ps k).r.getD b [] ∧ (mOut ps (k + 1)).c.getD b 0 = (mOut ps k).c.getD b 0 := fun b hb => by
      rw [er, ec]; exact ⟨getD_app (by lia), getD_app (by lia)⟩
    have hi : ∀ b, b < 2 ^ k → (mOut ps (k + 1)).r.getD (2 ^ k + b) [] = addIn (ps.getD k []) ((mOut ps k).r.getD b []) ∧ (mOut ps (k + 1)).c.getD (2 ^ k + b) 0 = (mOut ps k).c.getD b 0 + 1 := fun b hb => by
      rw [er, ec]
      refine ⟨?_, ?_⟩
      · rw [List.getD_eq_getElem?_getD, List.getElem?_append_right (by lia), w1, show 2 ^ k + b - 2 ^ k = b by omega, List.getElem?_map, List.getElem?_range hb]; rfl
      · rw [List.getD_eq_getElem?_getD, List.getElem?_append_right (by lia), w2, show 2 ^ k + b - 2 ^ k = b by omega, List.getElem?_map, List.getElem?_range hb]; rfl
    rw [take_succ_getD (by lia)]
    refine ⟨fun b hb => ?_, fun X hX => ?_⟩
    · by_cases c : b < 2 ^ k
      · obtain ⟨X, x1, x2, x3⟩ := h1 b c
        exact ⟨X, x1.trans (List.sublist_append_left _ _), by rw [(lo b c).1, x2], by rw [(lo b c).2, x3]⟩
      · obtain ⟨X, x1, x2, x3⟩ := h1 (b - 2 ^ k) (by omega)
        have q := hi (b - 2 ^ k) (by omega)
        rw [show 2 ^ k + (b - 2 ^ k) = b by omega] at q
        exact ⟨X ++ [ps.getD k []], x1.append (List.Sublist.refl _), by rw [q.1, x2, uni_snoc], by rw [q.2, x3, List.length_append]; rfl⟩
    · rcases sub_snoc hX with hX | ⟨X', rfl, hX2⟩
      · obtain ⟨b, b1, b2, b3⟩ := h2 X hX
        exact ⟨b, by lia, by rw [(lo b b1).1, b2], by rw [(lo b b1).2, b3]⟩
      · obtain ⟨b, b1, b2, b3⟩ := h2 X' hX2
        exact ⟨2 ^ k + b, by lia, by rw [(hi b b1).1, b2, uni_snoc], by rw [(hi b b1).2, b3, List.length_append]; rfl⟩
/-- the lack is the greatest lack of all choices -/
theorem mOut_lack {ps : List (List Int)} : ∀ k, k ≤ ps.length → (∀ X, X.Sublist (ps.take k) → (X.length : Int) - ((uni X).length : Nat) ≤ (mOut ps k).k) ∧ ∃ X, X.Sublist (ps.take k) ∧ (mOut ps k).k = (X.length : Int) - ((uni X).length : Nat)
  | 0, _ => by
    refine ⟨fun X hX => ?_, [], by simp, rfl⟩
    have : X = [] := by simpa using hX
    subst this; exact Int.le_refl _
  | k + 1, hk => by
    obtain ⟨h1, Y, hY, h2⟩ := mOut_lack (ps := ps) k (by lia)
    obtain ⟨p1, p2⟩ := mOut_ent (ps := ps) k (by lia)
    obtain ⟨w1, w2, _⟩ := mOut_len ps k
    obtain ⟨g1, g2, g3⟩ := mIn_k (P := ps.getD k []) (S := mOut ps k) (by lia) (2 ^ k) (by lia)
    have ek : (mOut ps (k + 1)).k = (mIn (ps.getD k []) (mOut ps k) (2 ^ k)).k := rfl
    rw [ek, take_succ_getD (by lia)]
    refine ⟨fun X hX => ?_, ?_⟩
    · rcases sub_snoc hX with hX | ⟨X', rfl, hX2⟩
      · have := h1 X hX; lia
      · obtain ⟨b, b1, b2, b3⟩ := p2 X' hX2
        have := g2 b b1
        unfold gap at this
        rw [b2, b3] at this
        rw [uni_snoc, List.length_append]
        simp only [List.length_cons, List.length_nil]
        omega
    · rcases g3 with g3 | ⟨b, b1, g3⟩
      · exact ⟨Y, hY.trans (List.sublist_append_left _ _), by rw [g3, h2]⟩
      · obtain ⟨X, x1, x2, x3⟩ := p1 b b1
        refine ⟨X ++ [ps.getD k []], x1.append (List.Sublist.refl _), ?_⟩
        rw [g3, uni_snoc, List.length_append]
        unfold gap
        rw [x2, x3]; rfl
end Mine
end
section
open PySem
set_option maxRecDepth 100000
namespace Mine
theorem nd_le : ∀ {l m : List Int}, l.Nodup → (∀ x ∈ l, x ∈ m) → l.length ≤ m.length
  | [], _, _, _ => Nat.zero_le _
  | x :: l, m, nd, h => by
    obtain ⟨h1, h2⟩ := List.nodup_cons.mp nd
    have hx := h x (.head _)
    have ih := nd_le (m := m.erase x) h2 fun y hy => (List.mem_erase_of_ne (by rintro rfl; exact h1 hy)).mpr (h y (.tail _ hy))
    rw [List.length_erase_of_mem hx] at ih
    have : 0 < m.length := List.length_pos_of_mem hx
    rw [List.length_cons]; lia
theorem cnt_le {l m : List Int} {q q' : Int → Bool} (nd : l.Nodup) (h : ∀ x ∈ l, q x = true → x ∈ m ∧ q' x = true) : l.countP q ≤ m.countP q' := by
  rw [List.countP_eq_length_filter, List.countP_eq_length_filter]
  refine nd_le (nd.sublist List.filter_sublist) fun x hx => ?_
  obtain ⟨h1, h2⟩ := List.mem_filter.mp hx
  exact List.mem_filter.mpr (h x h1 h2)
theorem cnt2_le {a b c d : Int → Bool} : ∀ {m : List Int}, (∀ x ∈ m, (a x).toNat + (b x).toNat ≤ (c x).toNat + (d x).toNat) → m.countP a + m.countP b ≤ m.countP c + m.countP d
  | [], _ => Nat.le_refl _
  | x :: m, h => by
    have ih := cnt2_le (m := m) fun y hy => h y (.tail _ hy)
    have h1 := h x (.head _)
    rw [List.countP_cons, List.countP_cons, List.countP_cons, List.countP_cons]
    revert h1
    cases a x <;> cases b x <;> cases c x <;> cases d x <;> simp <;> (first | lia | omega)
section
variable {g : Int → Int} {iw s : Int → Bool} {lt : Int → Int → Prop} {W E : List Int} {P : List (Int × Int)}
theorem Grd.pairs (r : Grd g iw W E P) (hw : ∀ w ∈ W, iw w = true) (nd : (W ++ E).Nodup) (pw : E.Pairwise lt) (hb : ∀ w ∈ W, ∀ k ∈ E, lt w k) :
    (P.map (·.1)).Nodup ∧ (P.map (·.2)).Nodup ∧ ∀ x ∈ P, iw x.1 = true ∧ iw x.2 = false ∧ g x.1 < g x.2 ∧ lt x.1 x.2 ∧ x.1 ∈ W ++ E ∧ x.2 ∈ E := by
  induction r with
  | nil W => exact ⟨.nil, .nil, fun x hx => absurd hx (List.not_mem_nil)⟩
  | @wait W W' E k P h hp _ ih =>
    obtain ⟨p1, p2⟩ := List.pairwise_cons.mp pw
    have hpp : List.Perm (W' ++ E) (W ++ k :: E) := (hp.append_right E).trans List.perm_middle.symm
    obtain ⟨h1, h2, h3⟩ := ih (fun w hm => by rcases List.mem_cons.mp (hp.mem_iff.mp hm) with rfl | hm; exact h; exact hw w hm) (hpp.nodup_iff.mpr nd) p2 fun w hm c hc => by
      rcases List.mem_cons.mp (hp.mem_iff.mp hm) with rfl | hm
      · exact p1 c hc
      · exact hb w hm c (.tail _ hc)
    refine ⟨h1, h2, fun x hx => ?_⟩
    obtain ⟨q1, q2, q3, q4, q5, q6⟩ := h3 x hx
    exact ⟨q1, q2, q3, q4, hpp.mem_iff.mp q5, .tail _ q6⟩
  | @take W W' E k w P h hlt hmax hp _ ih =>
    obtain ⟨p1, p2⟩ := List.pairwise_cons.mp pw
    have hpp : List.Perm (W ++ k :: E) (w :: (W' ++ k :: E)) := hp.append_right _
    obtain ⟨n1, n2⟩ := List.nodup_cons.mp (hpp.nodup_iff.mp nd)
    have sub : (W' ++ E).Sublist (W' ++ k :: E) := (List.Sublist.refl _).append (List.sublist_cons_self _ _)
    obtain ⟨h1, h2, h3⟩ := ih (fun v hm => hw v (hp.mem_iff.mpr (.tail _ hm))) (n2.sublist sub) p2 fun v hm c hc => hb v (hp.mem_iff.mpr (.tail _ hm)) c (.tail _ hc)
    have kE : k ∉ E := (List.nodup_cons.mp (List.nodup_append.mp nd).2.1).1
    refine ⟨List.nodup_cons.mpr ⟨fun hm => ?_, h1⟩, List.nodup_cons.mpr ⟨fun hm => ?_, h2⟩, fun x hx => ?_⟩
    · obtain ⟨x, hx, e⟩ := List.mem_map.mp hm
      have e : x.1 = w := e
      exact n1 (e ▸ sub.subset (h3 x hx).2.2.2.2.1)
    · obtain ⟨x, hx, e⟩ := List.mem_map.mp hm
      have e : x.2 = k := e
      exact kE (e ▸ (h3 x hx).2.2.2.2.2)
    · rcases List.mem_cons.mp hx with rfl | hx
      · have wW : w ∈ W := hp.mem_iff.mpr (.head _)
        exact ⟨hw w wW, h, hlt, hb w wW k (.head _), List.mem_append_left _ wW, .head _⟩
      · obtain ⟨q1, q2, q3, q4, q5, q6⟩ := h3 x hx
        exact ⟨q1, q2, q3, q4, hpp.mem_iff.mpr (.tail _ (sub.subset q5)), .tail _ q6⟩
  | @miss W E k P h hno _ ih =>
    obtain ⟨p1, p2⟩ := List.pairwise_cons.mp pw
    have sub : (W ++ E).Sublist (W ++ k :: E) := (List.Sublist.refl _).append (List.sublist_cons_self _ _)
    obtain ⟨h1, h2, h3⟩ := ih hw (nd.sublist sub) p2 fun v hm c hc => hb v hm c (.tail _ hc)
    refine ⟨h1, h2, fun x hx => ?_⟩
    obtain ⟨q1, q2, q3, q4, q5, q6⟩ := h3 x hx
    exact ⟨q1, q2, q3, q4, sub.subset q5, .tail _ q6⟩
/-- a taker of E that is chosen, ahead of which w lies and above w -/
def asks (iw s : Int → Bool) (fits : Int → Int → Bool) (E : List Int) (o : Int) : Bool := iw o && E.any fun c => !iw c && s c && fits o c
theorem reach_eq {fits : Int → Int → Bool} : ∀ {E : List Int}, E.Pairwise lt → (∀ a b, lt a b → ¬ lt b a) → (∀ o ∈ E, ∀ c ∈ E, iw o = true → iw c = false → (fits o c = true ↔ lt o c ∧ g o < g c)) → reachN g iw s E = E.countP (asks iw s fits E)
  | [], _, _, _ => rfl
  | k :: E, pw, as, hf => by
    obtain ⟨p1, p2⟩ := List.pairwise_cons.mp pw
    have ih := reach_eq p2 as fun o ho c hc => hf o (.tail _ ho) c (.tail _ hc)
    have e1 : E.countP (asks iw s fits (k :: E)) = E.countP (asks iw s fits E) := List.countP_congr fun o ho => by
      unfold asks
      rw [List.any_cons]
      have : (iw o && (!iw k && s k && fits o k)) = false := by
        rw [Bool.eq_false_iff]
        intro hh
        simp only [Bool.and_eq_true, Bool.not_eq_true'] at hh
        exact as k o (p1 o ho) ((hf o (.tail _ ho) k (.head _) hh.1 hh.2.1.1).mp hh.2.2).1
      rw [Bool.and_or_distrib_left, this]; simp
    have e2 : asks iw s fits (k :: E) k = (iw k && wants g iw s E k) := by
      unfold asks wants
      cases hk : iw k with
      | false => rfl
      | true =>
        rw [List.any_cons, hk, Bool.true_and, Bool.true_and]
        simp only [Bool.not_true, Bool.false_and, Bool.false_or]
        rw [Bool.eq_iff_iff, List.any_eq_true, List.any_eq_true]
        constructor
        · rintro ⟨c, hc, q⟩
          simp only [Bool.and_eq_true, Bool.not_eq_true', decide_eq_true_eq] at q ⊢
          exact ⟨c, hc, q.1, ((hf k (.head _) c (.tail _ hc) hk q.1.1).mp q.2).2⟩
        · rintro ⟨c, hc, q⟩
          simp only [Bool.and_eq_true, Bool.not_eq_true', decide_eq_true_eq] at q ⊢
          exact ⟨c, hc, q.1, (hf k (.head _) c (.tail _ hc) hk q.1.1).mpr ⟨p1 c hc, q.2⟩⟩
    rw [reachN, List.countP_cons, e1, e2, ih]
    cases iw k <;> cases wants g iw s E k <;> simp <;> lia
end
end Mine
end
section
open PySem
set_option maxRecDepth 100000
namespace Mine
theorem addIn_mem {P R : List Int} {x : Int} : x ∈ addIn P R ↔ x ∈ R ∨ x ∈ P := by
  unfold addIn
  rw [List.mem_append, List.mem_filter, decide_eq_true_eq]
  constructor
  · rintro (h | h)
    · exact .inl h
    · exact .inr h.1
  · rintro (h | h)
    · exact .inl h
    · by_cases c : x ∈ R
      · exact .inl c
      · exact .inr ⟨h, c⟩
theorem addIn_nodup {P R : List Int} (h1 : P.Nodup) (h2 : R.Nodup) : (addIn P R).Nodup := by
  unfold addIn
  refine List.nodup_append.mpr ⟨h2, h1.sublist List.filter_sublist, fun a ha b hb e => ?_⟩
  have := (List.mem_filter.mp hb).2
  rw [decide_eq_true_eq] at this
  exact this (e ▸ ha)
theorem uni_gen : ∀ (X : List (List Int)) (R : List Int), R.Nodup → (∀ p ∈ X, p.Nodup) → (X.foldl (fun R P => addIn P R) R).Nodup ∧ ∀ x, x ∈ X.foldl (fun R P => addIn P R) R ↔ x ∈ R ∨ ∃ p ∈ X, x ∈ p
  | [], R, h, _ => ⟨h, fun x => by simp⟩
  | p :: X, R, h, hp => by
    obtain ⟨h1, h2⟩ := uni_gen X (addIn p R) (addIn_nodup (hp p (.head _)) h) fun q hq => hp q (.tail _ hq)
    refine ⟨h1, fun x => ?_⟩
    rw [List.foldl_cons, h2, addIn_mem, or_assoc]
    simp
theorem filter_mem_sub {l L : List Int} (h : l.Sublist L) (nd : L.Nodup) : L.filter (fun c => decide (c ∈ l)) = l := by
  induction h with
  | slnil => rfl
  | @cons l L a h ih =>
    obtain ⟨h1, h2⟩ := List.nodup_cons.mp nd
    rw [List.filter_cons_of_neg (by simpa using fun hm => h1 (h.subset hm)), ih h2]
  | @cons_cons l L a h ih =>
    obtain ⟨h1, h2⟩ := List.nodup_cons.mp nd
    rw [List.filter_cons_of_pos (by simp)]
    congr 1
    refine Eq.trans (List.filter_congr fun c hc => ?_) (ih h2)
    have : c ≠ a := by rintro rfl; exact h1 hc
    simp [this]
section
variable {g : Int → Int} {iw : Int → Bool} {lt : Int → Int → Prop} {E : List Int} {P : List (Int × Int)} {fits : Int → Int → Bool} {pt : Int → List Int}
/-- the takers' partners -/
abbrev ptl (iw : Int → Bool) (pt : Int → List Int) (E : List Int) : List (List Int) := (E.filter fun c => !iw c).map pt
theorem count_key (s : Int → Bool) (pw : E.Pairwise lt) (nd : E.Nodup) (as : ∀ a b, lt a b → ¬ lt b a) (hf : ∀ o ∈ E, ∀ c ∈ E, iw o = true → iw c = false → (fits o c = true ↔ lt o c ∧ g o < g c))
    (hn : ∀ c, (pt c).Nodup) (hp : ∀ c ∈ E, iw c = false → ∀ o, o ∈ pt c ↔ o ∈ E ∧ iw o = true ∧ fits o c = true) :
    (((E.filter fun c => !iw c && s c).map pt).length = chosenN iw s E) ∧ (uni ((E.filter fun c => !iw c && s c).map pt)).length = reachN g iw s E := by
  refine ⟨by rw [List.length_map, ← List.countP_eq_length_filter]; rfl, ?_⟩
  obtain ⟨u1, u2⟩ := uni_gen ((E.filter fun c => !iw c && s c).map pt) [] .nil (fun p hp => by obtain ⟨c, _, rfl⟩ := List.mem_map.mp hp; exact hn c)
  have um : ∀ x, x ∈ uni ((E.filter fun c => !iw c && s c).map pt) ↔ x ∈ E.filter (asks iw s fits E) := fun x => by
    refine (u2 x).trans ?_
    rw [List.mem_filter]
    constructor
    · rintro (h | ⟨p, hp', hx⟩)
      · exact absurd h List.not_mem_nil
      · obtain ⟨c, hc, rfl⟩ := List.mem_map.mp hp'
        obtain ⟨hc, q⟩ := List.mem_filter.mp hc
        simp only [Bool.and_eq_true, Bool.not_eq_true'] at q
        obtain ⟨h1, h2, h3⟩ := (hp c hc q.1 x).mp hx
        refine ⟨h1, ?_⟩
        unfold asks
        rw [h2, Bool.true_and, List.any_eq_true]
        exact ⟨c, hc, by rw [q.1, q.2, h3]; rfl⟩
    · rintro ⟨h1, h2⟩
      unfold asks at h2
      rw [Bool.and_eq_true, List.any_eq_true] at h2
      obtain ⟨h2, c, hc, q⟩ := h2
      simp only [Bool.and_eq_true, Bool.not_eq_true'] at q
      exact .inr ⟨pt c, List.mem_map_of_mem (List.mem_filter.mpr ⟨hc, by rw [q.1.1, q.1.2]; rfl⟩), (hp c hc q.1.1 x).mpr ⟨h1, h2, q.2⟩⟩
  rw [reach_eq pw as hf, List.countP_eq_length_filter]
  have n2 : (E.filter (asks iw s fits E)).Nodup := nd.sublist List.filter_sublist
  exact Nat.le_antisymm (nd_le u1 fun x hx => (um x).mp hx) (nd_le n2 fun x hx => (um x).mpr hx)
theorem count_lack (r : Grd g iw [] E P) (pw : E.Pairwise lt) (nd : E.Nodup) (as : ∀ a b, lt a b → ¬ lt b a) (hf : ∀ o ∈ E, ∀ c ∈ E, iw o = true → iw c = false → (fits o c = true ↔ lt o c ∧ g o < g c))
    (hn : ∀ c, (pt c).Nodup) (hp : ∀ c ∈ E, iw c = false → ∀ o, o ∈ pt c ↔ o ∈ E ∧ iw o = true ∧ fits o c = true) :
    (P.length : Int) = (ptl iw pt E).length - (mOut (ptl iw pt E) (ptl iw pt E).length).k := by
  obtain ⟨h1, Y, hY, h2⟩ := mOut_lack (ps := ptl iw pt E) (ptl iw pt E).length (Nat.le_refl _)
  rw [List.take_length] at h1 hY
  have tk : takersN iw E = (ptl iw pt E).length := by rw [List.length_map, ← List.countP_eq_length_filter]; rfl
  obtain ⟨s, hs⟩ := greedy_ge r nd
  obtain ⟨a1, a2⟩ := count_key s pw nd as hf hn hp
  have b1 := h1 ((E.filter fun c => !iw c && s c).map pt) (by
    refine List.Sublist.map _ ?_
    rw [← List.filter_filter, show (E.filter fun c => s c) = E.filter s from rfl]
    exact (List.filter_sublist).filter _)
  obtain ⟨l, hl, rfl⟩ := List.sublist_map_iff.mp hY
  obtain ⟨_, c1⟩ := greedy_le r (fun c => decide (c ∈ l))
  obtain ⟨a3, a4⟩ := count_key (fun c => decide (c ∈ l)) pw nd as hf hn hp
  have e : (E.filter fun c => !iw c && decide (c ∈ l)) = l := by
    have := filter_mem_sub hl (nd.sublist List.filter_sublist)
    rw [List.filter_filter] at this
    exact (List.filter_congr fun c _ => Bool.and_comm _ _).trans this
  rw [e] at a3 a4
  unfold nbN at hs c1
  rw [List.countP_nil] at hs c1
  rw [a1, a2] at b1
  rw [a3, a4] at h2
  lia
theorem mOut_pre {ps qs : List (List Int)} : ∀ k, k ≤ ps.length → mOut (ps ++ qs) k = mOut ps k
  | 0, _ => rfl
  | k + 1, hk => by
    have ih := mOut_pre (ps := ps) (qs := qs) k (by lia)
    unfold mOut
    rw [ih, getD_app (by lia)]
theorem told {step : FS → Int → FS} (h0 : ∀ S k, iw k = true → (step S k).c = S.c) (h1 : ∀ S k, iw k = false → (step S k).c = S.c ++ [(((step S k).p.length : Nat) : Int)]) :
    ∀ i, i ≤ E.length → (∀ i, i ≤ E.length → ((((E.take i).foldl step ⟨[], [], []⟩).p.length : Nat) : Int) = (ptl iw pt (E.take i)).length - (mOut (ptl iw pt (E.take i)) (ptl iw pt (E.take i)).length).k) → ((E.take i).foldl step ⟨[], [], []⟩).c = (mOut (ptl iw pt (E.take i)) (ptl iw pt (E.take i)).length).t
  | 0, _, _ => rfl
  | i + 1, hi, hc => by
    have ih := told h0 h1 i (by lia) hc
    have e : E.take (i + 1) = E.take i ++ [E[i]] := by rw [List.take_add_one, List.getElem?_eq_getElem (by lia)]; rfl
    have h2 := hc (i + 1) hi
    rw [e] at h2 ⊢
    generalize E[i] = k at h2 ⊢
    rw [List.foldl_append] at h2 ⊢
    simp only [List.foldl_cons, List.foldl_nil] at h2 ⊢
    unfold ptl at h2 ⊢
    rw [List.filter_append, List.map_append] at h2 ⊢
    cases hk : iw k with
    | true =>
      rw [h0 _ _ hk, ih, List.filter_cons_of_neg (by simp [hk])]
      simp only [List.filter_nil, List.map_nil, List.append_nil]
    | false =>
      rw [List.filter_cons_of_pos (by simp [hk]), List.filter_nil] at h2 ⊢
      simp only [List.map_cons, List.map_nil, List.length_append, List.length_cons, List.length_nil, Nat.zero_add] at h2 ⊢
      rw [h1 _ _ hk, ih, h2]
      have e2 : ∀ qs : List (List Int), ∀ k, (mOut qs (k + 1)).t = (mOut qs k).t ++ [((k : Nat) : Int) + 1 - (mOut qs (k + 1)).k] := fun _ _ => rfl
      rw [e2, mOut_pre _ (Nat.le_refl _)]
      congr 2
end
end Mine
end
section
open PySem
set_option maxRecDepth 100000
namespace Mine
theorem takers_split {iw s : Int → Bool} {E : List Int} : takersN iw E = chosenN iw s E + E.countP fun c => !iw c && !s c := by
  unfold takersN chosenN
  induction E with
  | nil => rfl
  | cons k E ih =>
    rw [List.countP_cons, List.countP_cons, List.countP_cons, ih]
    cases iw k <;> cases s k <;> simp <;> lia
theorem countP_map' {q : Int → Bool} {f : Int × Int → Int} {L : List (Int × Int)} : L.countP (fun x => q (f x)) = (L.map f).countP q := by
  rw [List.countP_map]; rfl
theorem cover {iw : Int → Bool} {fits : Int → Int → Bool} {xs : List Int} {L : List (Int × Int)} (s : Int → Bool) (n1 : (L.map (·.1)).Nodup) (n2 : (L.map (·.2)).Nodup)
    (h : ∀ x ∈ L, x.1 ∈ xs ∧ iw x.1 = true ∧ x.2 ∈ xs ∧ iw x.2 = false ∧ fits x.1 x.2 = true) :
    L.length ≤ (xs.countP fun c => (!iw c && !s c) && decide (c ∈ L.map (·.2))) + (xs.countP fun o => asks iw s fits xs o && decide (o ∈ L.map (·.1))) := by
  have e : L.length = L.countP (fun x => !s x.2) + L.countP (fun x => s x.2) := by
    clear n1 n2 h
    induction L with
    | nil => rfl
    | cons x L ih =>
      rw [List.countP_cons, List.countP_cons, List.length_cons, ih]
      cases s x.2 <;> simp <;> lia
  have a1 : L.countP (fun x => !s x.2) ≤ (xs.countP fun c => (!iw c && !s c) && decide (c ∈ L.map (·.2))) := by
    rw [countP_map' (q := fun c => !s c) (f := (·.2))]
    refine cnt_le n2 fun c hc q => ?_
    obtain ⟨x, hx, rfl⟩ := List.mem_map.mp hc
    obtain ⟨_, _, h3, h4, _⟩ := h x hx
    refine ⟨h3, ?_⟩
    rw [h4, q, decide_eq_true hc]; rfl
  have a2 : L.countP (fun x => s x.2) ≤ (xs.countP fun o => asks iw s fits xs o && decide (o ∈ L.map (·.1))) := by
    refine Nat.le_trans (List.countP_mono_left (q := fun x => asks iw s fits xs x.1 && decide (x.1 ∈ L.map (·.1))) fun x hx q => ?_) ?_
    · obtain ⟨_, h2, h3, h4, h5⟩ := h x hx
      rw [decide_eq_true (List.mem_map_of_mem hx), Bool.and_true]
      unfold asks
      rw [h2, Bool.true_and, List.any_eq_true]
      exact ⟨x.2, h3, by rw [h4, q, h5]; rfl⟩
    · rw [countP_map' (q := fun o => asks iw s fits xs o && decide (o ∈ L.map (·.1))) (f := (·.1))]
      refine cnt_le n1 fun o ho q => ⟨?_, q⟩
      obtain ⟨x, hx, rfl⟩ := List.mem_map.mp ho
      exact (h x hx).1
  lia
section
variable {g g' : Int → Int} {iw iw' kept : Int → Bool} {lt : Int → Int → Prop} {xs : List Int} {P Q R : List (Int × Int)} {fits : Int → Int → Bool}
theorem koenig_ge {E : List Int} (r : Grd g iw [] E P) (pw : E.Pairwise lt) (nd : E.Nodup) (as : ∀ a b, lt a b → ¬ lt b a) (hf : ∀ o ∈ E, ∀ c ∈ E, iw o = true → iw c = false → (fits o c = true ↔ lt o c ∧ g o < g c)) :
    ∃ s, E.countP (asks iw s fits E) + (E.countP fun c => !iw c && !s c) ≤ P.length := by
  obtain ⟨s, hs⟩ := greedy_ge r nd
  refine ⟨s, ?_⟩
  unfold nbN at hs
  rw [List.countP_nil, takers_split (s := s), reach_eq pw as hf] at hs
  lia
/-- the pairs of a run, told for the whole line -/
theorem Grd.fit {E : List Int} (r : Grd g iw [] E P) (pw : E.Pairwise lt) (nd : E.Nodup) (hf : ∀ o ∈ E, ∀ c ∈ E, iw o = true → iw c = false → (fits o c = true ↔ lt o c ∧ g o < g c)) :
    (P.map (·.1)).Nodup ∧ (P.map (·.2)).Nodup ∧ ∀ x ∈ P, x.1 ∈ E ∧ iw x.1 = true ∧ x.2 ∈ E ∧ iw x.2 = false ∧ fits x.1 x.2 = true := by
  obtain ⟨h1, h2, h3⟩ := r.pairs (fun w hw => absurd hw List.not_mem_nil) (by simpa using nd) pw (fun w hw => absurd hw List.not_mem_nil)
  refine ⟨h1, h2, fun x hx => ?_⟩
  obtain ⟨q1, q2, q3, q4, q5, q6⟩ := h3 x hx
  rw [List.nil_append] at q5
  exact ⟨q5, q1, q6, q2, (hf _ q5 _ q6 q1 q2).mpr ⟨q4, q3⟩⟩
theorem swap_fst (L : List (Int × Int)) : (L.map fun x => (x.2, x.1)).map (·.1) = L.map (·.2) := by rw [List.map_map]; rfl
theorem swap_snd (L : List (Int × Int)) : (L.map fun x => (x.2, x.1)).map (·.2) = L.map (·.1) := by rw [List.map_map]; rfl
theorem agree (rf : Grd g iw [] xs P) (re : Grd g' iw' [] xs.reverse Q) (ra : Grd g iw [] (xs.filter kept) R) (pw : xs.Pairwise lt) (nd : xs.Nodup) (as : ∀ a b, lt a b → ¬ lt b a)
    (hf : ∀ o ∈ xs, ∀ c ∈ xs, iw o = true → iw c = false → (fits o c = true ↔ lt o c ∧ g o < g c)) (hg : ∀ o c, g' c < g' o ↔ g o < g c) (hi : ∀ x ∈ xs, iw' x = !iw x) (hk : ∀ c, kept c = decide (c ∈ P.map (·.2) ++ Q.map (·.2))) : R.length = P.length := by
  have pw' : xs.reverse.Pairwise (fun a b => lt b a) := List.pairwise_reverse.mpr pw
  have nd' : xs.reverse.Nodup := (List.reverse_perm xs).nodup_iff.mpr nd
  have hf' : ∀ o ∈ xs.reverse, ∀ c ∈ xs.reverse, iw' o = true → iw' c = false → ((fun a b => fits b a) o c = true ↔ lt c o ∧ g' o < g' c) := fun o ho c hc h1 h2 => by
    rw [List.mem_reverse] at ho hc
    rw [hi o ho] at h1
    rw [hi c hc] at h2
    rw [hg]
    exact hf c hc o ho (by simpa using h2) (by simpa using h1)
  have sub : (xs.filter kept).Sublist xs := List.filter_sublist
  have hfa : ∀ o ∈ xs.filter kept, ∀ c ∈ xs.filter kept, iw o = true → iw c = false → (fits o c = true ↔ lt o c ∧ g o < g c) := fun o ho c hc => hf o (sub.subset ho) c (sub.subset hc)
  obtain ⟨f1, f2, f3⟩ := rf.fit pw nd hf
  obtain ⟨e1, e2, e3⟩ := re.fit (lt := fun a b => lt b a) (fits := fun a b => fits b a) pw' nd' hf'
  obtain ⟨A, hA⟩ := koenig_ge rf pw nd as hf
  obtain ⟨B, hB⟩ := koenig_ge (lt := fun a b => lt b a) (fits := fun a b => fits b a) re pw' nd' (fun a b => as b a) hf'
  obtain ⟨C, hC⟩ := koenig_ge ra (pw.sublist sub) (nd.sublist sub) as hfa
  -- the end pairs no fewer than the front
  have n21 : P.length ≤ Q.length := by
    have c := cover (iw := iw') (fits := fun a b => fits b a) (xs := xs.reverse) (L := P.map fun x => (x.2, x.1)) B (by rw [swap_fst]; exact f2) (by rw [swap_snd]; exact f1) fun y hy => by
      obtain ⟨x, hx, rfl⟩ := List.mem_map.mp hy
      obtain ⟨q1, q2, q3, q4, q5⟩ := f3 x hx
      exact ⟨List.mem_reverse.mpr q3, by rw [hi _ q3, q4]; rfl, List.mem_reverse.mpr q1, by rw [hi _ q1, q2]; rfl, q5⟩
    rw [List.length_map] at c
    have m1 : (xs.reverse.countP fun c => (!iw' c && !B c) && decide (c ∈ (P.map fun x => (x.2, x.1)).map (·.2))) ≤ xs.reverse.countP fun c => !iw' c && !B c := List.countP_mono_left fun x _ q => (Bool.and_eq_true_iff.mp q).1
    have m2 : (xs.reverse.countP fun o => asks iw' B (fun a b => fits b a) xs.reverse o && decide (o ∈ (P.map fun x => (x.2, x.1)).map (·.1))) ≤ xs.reverse.countP (asks iw' B (fun a b => fits b a) xs.reverse) := List.countP_mono_left fun x _ q => (Bool.and_eq_true_iff.mp q).1
    lia
  -- both covers
  have ca := cover (fun c => (kept c && C c) && A c) f1 f2 f3
  have cb := cover (iw := iw) (fits := fits) (xs := xs) (L := Q.map fun x => (x.2, x.1)) (fun c => (kept c && C c) || A c) (by rw [swap_fst]; exact e2) (by rw [swap_snd]; exact e1) fun y hy => by
    obtain ⟨x, hx, rfl⟩ := List.mem_map.mp hy
    obtain ⟨q1, q2, q3, q4, q5⟩ := e3 x hx
    rw [List.mem_reverse] at q1 q3
    rw [hi _ q1] at q2
    rw [hi _ q3] at q4
    exact ⟨q3, by simpa using q4, q1, by simpa using q2, q5⟩
  rw [List.length_map, swap_fst, swap_snd] at cb
  rw [List.countP_filter, List.countP_filter] at hC
  have s1 := cnt2_le (m := xs) (a := fun c => (!iw c && !((kept c && C c) && A c)) && decide (c ∈ P.map (·.2))) (b := fun c => (!iw c && !((kept c && C c) || A c)) && decide (c ∈ Q.map (·.1))) (c := fun c => (!iw c && !C c) && kept c) (d := fun c => !iw c && !A c) fun c hc => by
    have : decide (c ∈ P.map (·.2)) = true → kept c = true := fun h => by rw [hk, decide_eq_true_eq, List.mem_append]; exact .inl (by simpa using h)
    revert this
    cases decide (c ∈ P.map (·.2)) <;> cases decide (c ∈ Q.map (·.1)) <;> cases iw c <;> cases C c <;> cases A c <;> cases kept c <;> simp
  have s2 := cnt2_le (m := xs) (a := fun o => asks iw (fun c => (kept c && C c) && A c) fits xs o && decide (o ∈ P.map (·.1))) (b := fun o => asks iw (fun c => (kept c && C c) || A c) fits xs o && decide (o ∈ Q.map (·.2))) (c := fun o => asks iw C fits (xs.filter kept) o && kept o) (d := asks iw A fits xs) fun o ho => by
    have i1 : (asks iw (fun c => (kept c && C c) && A c) fits xs o && decide (o ∈ P.map (·.1))) = true → asks iw A fits xs o = true ∧ (kept o = true → (asks iw C fits (xs.filter kept) o && kept o) = true) := fun h => by
      have h := (Bool.and_eq_true_iff.mp h).1
      unfold asks at h ⊢
      simp only [Bool.and_eq_true, List.any_eq_true, Bool.not_eq_true'] at h ⊢
      obtain ⟨h1, c, hc, ⟨h2, ⟨h3, h4⟩, h5⟩, h6⟩ := h
      exact ⟨⟨h1, c, hc, ⟨h2, h5⟩, h6⟩, fun hk => ⟨⟨h1, c, List.mem_filter.mpr ⟨hc, h3⟩, ⟨h2, h4⟩, h6⟩, hk⟩⟩
    have i2 : (asks iw (fun c => (kept c && C c) || A c) fits xs o && decide (o ∈ Q.map (·.2))) = true → kept o = true ∧ (asks iw A fits xs o = true ∨ (asks iw C fits (xs.filter kept) o && kept o) = true) := fun h => by
      obtain ⟨h, hq⟩ := Bool.and_eq_true_iff.mp h
      have ko : kept o = true := by rw [hk, decide_eq_true_eq, List.mem_append]; exact .inr (by simpa using hq)
      refine ⟨ko, ?_⟩
      unfold asks at h ⊢
      simp only [Bool.and_eq_true, List.any_eq_true, Bool.not_eq_true', Bool.or_eq_true] at h ⊢
      obtain ⟨h1, c, hc, ⟨h2, h3⟩, h6⟩ := h
      rcases h3 with ⟨h3, h4⟩ | h3
      · exact .inr ⟨⟨h1, c, List.mem_filter.mpr ⟨hc, h3⟩, ⟨h2, h4⟩, h6⟩, ko⟩
      · exact .inl ⟨h1, c, hc, ⟨h2, h3⟩, h6⟩
    revert i1 i2
    generalize (asks iw (fun c => (kept c && C c) && A c) fits xs o && decide (o ∈ P.map (·.1))) = a
    generalize (asks iw (fun c => (kept c && C c) || A c) fits xs o && decide (o ∈ Q.map (·.2))) = b
    generalize (asks iw C fits (xs.filter kept) o && kept o) = c
    generalize asks iw A fits xs o = d
    cases a <;> cases b <;> cases c <;> cases d <;> cases kept o <;> simp
  have top : R.length ≤ P.length := by
    refine Nat.le_trans (greedy_le ra (fun _ => true)).1 ?_
    unfold takersN
    rw [List.countP_eq_length_filter, ← List.length_map (f := (·.2)) (as := P)]
    refine nd_le ((nd.sublist sub).sublist List.filter_sublist) fun c hc => ?_
    obtain ⟨h1, h2⟩ := List.mem_filter.mp hc
    obtain ⟨h1, h3⟩ := List.mem_filter.mp h1
    rw [hk, decide_eq_true_eq, List.mem_append] at h3
    rcases h3 with h3 | h3
    · exact h3
    · exfalso
      obtain ⟨x, hx, rfl⟩ := List.mem_map.mp h3
      obtain ⟨q1, q2, q3, q4, q5⟩ := e3 x hx
      rw [hi _ h1] at q4
      revert h2 q4
      cases iw x.2 <;> simp
  lia
end
end Mine
end
section
open PySem
set_option maxRecDepth 100000
namespace Mine
abbrev dN (N : Int) : Lead := leadOf (sOf (txtOf N))
theorem txt_mod (N : Int) : txtOf N = txtOf (N % 160) := by
  have h5 : N % 160 % 5 = N % 5 := by lia
  have h80 : N % 160 / 80 % 2 = N / 80 % 2 := by lia
  unfold txtOf
  rw [h80]
  congr 1
  unfold bitsOf
  rw [h5]
  refine List.map_congr_left fun i hi => ?_
  have hi := List.mem_range.mp hi
  rcases (by lia : i = 0 ∨ i = 1 ∨ i = 2 ∨ i = 3) with rfl | rfl | rfl | rfl <;> simp only [show (2 : Int) ^ 0 = 1 from rfl, show (2 : Int) ^ 1 = 2 from rfl, show (2 : Int) ^ 2 = 4 from rfl, show (2 : Int) ^ 3 = 8 from rfl] <;> lia
def chkN (N : Int) : Bool :=
  decide ((dN N).n = colOf 1 (txtOf N) 0) && decide ((dN N).level 2 = colOf 2 (txtOf N) 0) && decide ((dN N).level 3 = colOf 3 (txtOf N) 0) &&
  decide ((dN N).level 2 = (dN N).b + 2 * (dN N).nt) && decide ((dN N).level 3 = (dN N).b + 3 * (dN N).nt) &&
  decide ((dN N).nt + (dN N).b ≤ (dN N).n) && decide ((dN N).n ≤ 2 * (dN N).nt + (dN N).b) && decide (0 ≤ (dN N).b) && decide ((dN N).b ≤ 1) &&
  decide ((dN N).cnt.length ≤ 2) && (decide ((dN N).cnt.length ≤ 1) == decide ((dN N).n = (dN N).nt + (dN N).b))
set_option maxHeartbeats 4000000 in
theorem chkN_all : ∀ i < 160, chkN ((i : Nat) : Int) = true := by decide +kernel
structure Geo (d : Lead) (x : List Nat) : Prop where
  c1 : d.n = colOf 1 x 0
  c2 : d.level 2 = colOf 2 x 0
  c3 : d.level 3 = colOf 3 x 0
  l2 : d.level 2 = d.b + 2 * d.nt
  l3 : d.level 3 = d.b + 3 * d.nt
  q0 : d.nt + d.b ≤ d.n
  q1 : d.n ≤ 2 * d.nt + d.b
  b0 : 0 ≤ d.b
  b1 : d.b ≤ 1
  k2 : d.cnt.length ≤ 2
  k1 : d.cnt.length ≤ 1 ↔ d.n = d.nt + d.b
theorem geo_of (N : Int) : Geo (leadOf (sOf (txtOf N))) (txtOf N) := by
  rw [txt_mod N]
  obtain ⟨i, hi⟩ : ∃ i : Nat, N % 160 = i := ⟨(N % 160).toNat, by lia⟩
  have h := chkN_all i (by lia)
  rw [hi]
  unfold chkN at h
  simp only [Bool.and_eq_true, decide_eq_true_eq, beq_iff_eq, decide_eq_decide] at h
  obtain ⟨⟨⟨⟨⟨⟨⟨⟨⟨⟨h1, h2⟩, h3⟩, h4⟩, h5⟩, h6⟩, h7⟩, h8⟩, h9⟩, h10⟩, h11⟩ := h
  exact ⟨h1, h2, h3, h4, h5, h6, h7, h8, h9, h10, h11⟩
theorem less_geo {d e : Lead} {x y : List Nat} (D : Geo d x) (E : Geo e y) : lessB d e = decide (d.n < e.n ∧ d.level 2 < e.level 2) := by
  have d1 := D.l2
  have d2 := D.q0
  have d3 := D.q1
  have d4 := D.b0
  have d5 := D.b1
  have d6 := D.k1
  have d7 := D.k2
  have e1 := E.l2
  have e2 := E.q0
  have e3 := E.q1
  have e4 := E.b0
  have e5 := E.b1
  have e6 := E.k1
  have e7 := E.k2
  clear D E
  unfold lessB
  split
  · rename_i c
    rw [eq_comm, decide_eq_false_iff_not]; lia
  · rename_i c
    split
    · rename_i c1
      rw [decide_eq_decide]
      have := d6.mp c1.1
      have := e6.mp c1.2
      lia
    · rename_i c1
      have : (max d.longest e.longest).toNat = 1 := by unfold Lead.longest; omega
      rw [this]
      unfold lessTo
      unfold lessTo
      rw [Bool.true_and, decide_eq_decide]
      show d.level 2 < e.level 2 ↔ _
      lia
theorem txAt {T : List (List Nat)} (tx : Tx T) {k : Int} (h1 : 0 ≤ k) (h2 : k < 10) : Geo (LD T k) (T.getD k.toNat []) := by
  have hl := tx.len
  obtain ⟨N, hN, rfl⟩ := tx.is
  rw [List.length_map] at hl
  unfold LD
  rw [List.getD_eq_getElem?_getD, List.getElem?_map, List.getElem?_eq_getElem (by lia)]
  exact geo_of _
theorem fit_geo {T : List (List Nat)} (tx : Tx T) {o c : Int} (ho : 0 ≤ o ∧ o < 10) (hc : 0 ≤ c ∧ c < 10) : fitB T (o, c) = decide (LN T o < LN T c ∧ lv2 T o < lv2 T c) := by
  have D := txAt tx ho.1 ho.2
  have E := txAt tx hc.1 hc.2
  have e : ∀ k, colAt T k 0 = colOf 1 (T.getD k.toNat []) 0 ∧ colAt T k 1 = colOf 2 (T.getD k.toNat []) 0 ∧ colAt T k 2 = colOf 3 (T.getD k.toNat []) 0 := fun k => ⟨rfl, rfl, rfl⟩
  unfold fitB
  rw [decide_eq_decide, List.map_eq_nil_iff, List.filter_eq_nil_iff]
  have d1 := D.l2
  have d2 := D.l3
  have d4 := D.b0
  have d5 := D.b1
  have e1 := E.l2
  have e2 := E.l3
  have e4 := E.b0
  have e5 := E.b1
  have a1 := D.c1
  have a2 := D.c2
  have a3 := D.c3
  have b1 := E.c1
  have b2 := E.c2
  have b3 := E.c3
  obtain ⟨g1, g2, g3⟩ := e o
  obtain ⟨h1, h2, h3⟩ := e c
  clear e D E
  constructor
  · intro h
    have t0 := h 0 (by decide)
    have t1 := h 1 (by decide)
    rw [decide_eq_true_eq] at t0 t1
    replace t0 : ¬ colAt T c 0 ≤ colAt T o 0 := t0
    replace t1 : ¬ colAt T c 1 ≤ colAt T o 1 := t1
    refine ⟨?_, ?_⟩
    · show (LD T o).n < (LD T c).n
      rw [a1, b1, ← g1, ← h1]; lia
    · show (LD T o).level 2 < (LD T c).level 2
      rw [a2, b2, ← g2, ← h2]; lia
  · rintro ⟨h4, h5⟩ t ht
    replace h4 : (LD T o).n < (LD T c).n := h4
    replace h5 : (LD T o).level 2 < (LD T c).level 2 := h5
    have ht := List.mem_range.mp ht
    rw [decide_eq_true_eq]
    rcases (by lia : t = 0 ∨ t = 1 ∨ t = 2) with rfl | rfl | rfl
    · show ¬ colAt T c 0 ≤ colAt T o 0
      lia
    · show ¬ colAt T c 1 ≤ colAt T o 1
      lia
    · show ¬ colAt T c 2 ≤ colAt T o 2
      lia
end Mine
end
section
open PySem
set_option maxRecDepth 100000
namespace Mine
/-- a lies ahead of b in the line -/
def ah (V : Int → Int) (a b : Int) : Prop := V a < V b ∨ (V a = V b ∧ ((a % 2 = 1 ∧ b % 2 = 0) ∨ (a % 2 = 0 ∧ b % 2 = 0 ∧ a < b) ∨ (a % 2 = 1 ∧ b % 2 = 1 ∧ b < a)))
theorem ah_as {V : Int → Int} (a b : Int) (h : ah V a b) : ¬ ah V b a := by unfold ah at *; omega
theorem ah_tr {V : Int → Int} {a b c : Int} (h : ah V a b) (h2 : ah V b c) : ah V a c := by unfold ah at *; lia
theorem ah_tot {V : Int → Int} {a b : Int} (h : a ≠ b) : ah V a b ∨ ah V b a := by unfold ah; lia
theorem ah_le {V : Int → Int} {a b : Int} (h : ah V a b) : V a ≤ V b := by unfold ah at h; lia
/-- an owner lies ahead of a child just when it is the lower -/
theorem ah_oc {V : Int → Int} {o c : Int} (h1 : o % 2 = 0) (h2 : c % 2 = 1) : ah V o c ↔ V o < V c := by unfold ah; lia
theorem line_pw (V : Int → Int) : ∀ k : Nat, (lineTo V k).Pairwise (ah V)
  | 0 => .nil
  | k + 1 => by
    have ih := line_pw V k
    have hm : ∀ y ∈ lineTo V k, y < (k : Int) := fun y hy => (lineTo_mem.mp hy).2
    have mono := mono_of (f := V) (ih.imp fun h => ah_le h)
    rw [lineTo]
    unfold insI1
    by_cases c : (k : Int) % 2 = 0
    · rw [decide_eq_true c, if_pos rfl]
      obtain ⟨_, h2, h3, h4⟩ := bisR_spec (fun i => V ((lineTo V k).getD i 0)) (V k) 0 (lineTo V k).length mono (Nat.zero_le _)
      refine pw_ins ih (fun y hy => ?_) fun y hy => ?_
      · have hk := hm y (List.mem_of_mem_take hy)
        obtain ⟨i, hi, hl, rfl⟩ := mem_take_get hy
        have := h3 i (Nat.zero_le _) hi
        unfold ah; lia
      · obtain ⟨i, hi, hl, rfl⟩ := mem_drop_get hy
        exact .inl (h4 i hi hl)
    · rw [decide_eq_false c, if_neg (by simp)]
      obtain ⟨_, h2, h3, h4⟩ := bisL_spec (fun i => V ((lineTo V k).getD i 0)) (V k) 0 (lineTo V k).length mono (Nat.zero_le _)
      refine pw_ins ih (fun y hy => ?_) fun y hy => ?_
      · obtain ⟨i, hi, hl, rfl⟩ := mem_take_get hy
        exact .inl (h3 i (Nat.zero_le _) hi)
      · have hk := hm y (List.mem_of_mem_drop hy)
        obtain ⟨i, hi, hl, rfl⟩ := mem_drop_get hy
        have := h4 i hi hl
        unfold ah; lia
theorem pw_same {lt : Int → Int → Prop} (as : ∀ a b, lt a b → ¬ lt b a) : ∀ {l m : List Int}, l.Pairwise lt → m.Pairwise lt → (∀ x, x ∈ l ↔ x ∈ m) → l = m
  | [], [], _, _, _ => rfl
  | [], y :: m, _, _, h => absurd ((h y).mpr (.head _)) List.not_mem_nil
  | x :: l, [], _, _, h => absurd ((h x).mp (.head _)) List.not_mem_nil
  | x :: l, y :: m, hl, hm, h => by
    obtain ⟨l1, l2⟩ := List.pairwise_cons.mp hl
    obtain ⟨m1, m2⟩ := List.pairwise_cons.mp hm
    have ir : ∀ a, ¬ lt a a := fun a q => as a a q q
    have e : x = y := by
      rcases List.mem_cons.mp ((h x).mp (.head _)) with e | hx
      · exact e
      · rcases List.mem_cons.mp ((h y).mpr (.head _)) with e | hy
        · exact e.symm
        · exact absurd (m1 x hx) (as x y (l1 y hy))
    subst e
    refine congrArg (x :: ·) (pw_same as l2 m2 fun z => ?_)
    have hz := h z
    constructor
    · intro q
      rcases List.mem_cons.mp (hz.mp (.tail _ q)) with rfl | q2
      · exact absurd (l1 z q) (ir z)
      · exact q2
    · intro q
      rcases List.mem_cons.mp (hz.mpr (.tail _ q)) with rfl | q2
      · exact absurd (m1 z q) (ir z)
      · exact q2
theorem mlt_ah {T : List (List Nat)} (tx : Tx T) {i j : Nat} (hi : i < 10) (hj : j < 10) : mlt T i j = true ↔ ah (lv2 T) i j := by
  have e : ∀ k : Nat, k < 10 → (mks T).getD k (0, 0, 0) = (lv2 T k, 1 - (k : Int) % 2, if (k : Int) % 2 = 0 then (k : Int) else -(k : Int)) := fun k hk => by
    rw [List.getD_eq_getElem?_getD, List.getElem?_map, List.getElem?_range hk]
    show (colAt T k 1, _, _) = _
    rw [show colAt T k 1 = lv2 T k from (txAt tx (by lia) (by lia)).c2.symm]
  unfold mlt
  rw [e i hi, e j hj]
  unfold lex3 ah
  simp only []
  generalize lv2 T i = a
  generalize lv2 T j = b
  split
  · split
    · rw [decide_eq_true_eq]; split <;> split <;> lia
    · rw [decide_eq_true_eq]; lia
  · rw [decide_eq_true_eq]; omega
theorem mlt_lto {T : List (List Nat)} (tx : Tx T) : LtO (mlt T) 10 where
  tr i j k hi hj hk h1 h2 := (mlt_ah tx hi hk).mpr (ah_tr ((mlt_ah tx hi hj).mp h1) ((mlt_ah tx hj hk).mp h2))
  tot i j hi hj h := by
    rw [mlt_ah tx hi hj, mlt_ah tx hj hi]
    exact ah_tot (by lia)
  as i j hi hj h := by
    rw [Bool.eq_false_iff]
    intro h2
    exact ah_as _ _ ((mlt_ah tx hi hj).mp h) ((mlt_ah tx hj hi).mp h2)
theorem line_is {T : List (List Nat)} (tx : Tx T) {p : Array Nat} (P : Pm 10 p) (S : Sd (mlt T) p 10) : lineTo (lv2 T) 10 = p.toList.map fun (i : Nat) => (i : Int) := by
  have hs := P.size
  refine pw_same (lt := ah (lv2 T)) (fun a b => ah_as a b) (line_pw _ _) ?_ fun x => ?_
  · rw [List.pairwise_map, List.pairwise_iff_getElem]
    intro i j hi hj hij
    have e : ∀ k (hk : k < p.toList.length), p.toList[k] = gA p k := fun k hk => by
      have h := gA_some (p := p) (i := k) (by simpa using hk)
      rw [← Array.getElem?_toList, List.getElem?_eq_getElem hk] at h
      exact Option.some.inj h
    have hi' : i < 10 := by simp at hi; lia
    have hj' : j < 10 := by simp at hj; lia
    rw [e i hi, e j hj]
    exact (mlt_ah tx (P.bd hi') (P.bd hj')).mp (S i j hij hj')
  · rw [lineTo_mem]
    constructor
    · rintro ⟨h1, h2⟩
      exact List.mem_map.mpr ⟨x.toNat, P.perm.mem_iff.mpr (List.mem_range.mpr (by lia)), by lia⟩
    · intro h
      obtain ⟨k, hk, rfl⟩ := List.mem_map.mp h
      have := List.mem_range.mp (P.perm.mem_iff.mp hk)
      lia
end Mine
end
section
open PySem
set_option maxRecDepth 100000
namespace Mine
theorem evB_not (c : Int) : (!evB c) = odB c := by
  unfold evB odB
  rw [← decide_not, decide_eq_decide]; lia
theorem odB_not (c : Int) : (!odB c) = evB c := by rw [← evB_not, Bool.not_not]
theorem both_mem {o c : Int} (ho : 0 ≤ o ∧ o < 10) (hc : 0 ≤ c ∧ c < 10) (h1 : o % 2 = 0) (h2 : c % 2 = 1) : (o, c) ∈ bothL := by
  unfold bothL
  rw [List.mem_flatMap]
  refine ⟨o, ?_, List.mem_map.mpr ⟨c, ?_, rfl⟩⟩
  · simp only [List.mem_cons, List.not_mem_nil, or_false]; lia
  · simp only [List.mem_cons, List.not_mem_nil, or_false]; lia
theorem both_is : ∀ x ∈ bothL, (0 ≤ x.1 ∧ x.1 < 10) ∧ (0 ≤ x.2 ∧ x.2 < 10) ∧ x.1 % 2 = 0 ∧ x.2 % 2 = 1 := by decide
theorem both_nd : bothL.Nodup := by decide
/-- fits, by the two levels -/
def fit (T : List (List Nat)) (o c : Int) : Bool := decide (LN T o < LN T c ∧ lv2 T o < lv2 T c)
section
variable {T : List (List Nat)} (tx : Tx T)
include tx
theorem fitsL_mem {o c : Int} : (o, c) ∈ fitsL T ↔ (0 ≤ o ∧ o < 10) ∧ (0 ≤ c ∧ c < 10) ∧ o % 2 = 0 ∧ c % 2 = 1 ∧ fit T o c = true := by
  unfold fitsL fit
  rw [List.mem_filter]
  constructor
  · rintro ⟨h1, h2⟩
    obtain ⟨a, b, c1, d⟩ := both_is _ h1
    exact ⟨a, b, c1, d, by rw [← fit_geo tx a b]; exact h2⟩
  · rintro ⟨a, b, c1, d, e⟩
    exact ⟨both_mem a b c1 d, by rw [fit_geo tx a b]; exact e⟩
omit tx in
theorem fit_iff {o c : Int} (h1 : evB o = true) (h2 : evB c = false) : fit T o c = true ↔ ah (lv2 T) o c ∧ LN T o < LN T c := by
  unfold evB at h1 h2
  rw [decide_eq_true_eq] at h1
  rw [decide_eq_false_iff_not] at h2
  unfold fit
  rw [decide_eq_true_eq, ah_oc h1 (by lia), and_comm]
def ptF (T : List (List Nat)) (k : Int) : List Int := ((fitsL T).filter fun x => decide (x.2 = k)).map (·.1)
def ptB (T : List (List Nat)) (k : Int) : List Int := ((fitsL T).filter fun x => decide (x.1 = k)).map (·.2)
omit tx in
theorem ptF_nd (k : Int) : (ptF T k).Nodup := by
  have h : ((fitsL T).filter fun x => decide (x.2 = k)).Nodup := (both_nd.sublist List.filter_sublist).sublist List.filter_sublist
  refine List.pairwise_map.mpr (h.imp_of_mem fun {x y} hx hy hne e => hne ?_)
  have h1 := (List.mem_filter.mp hx).2
  have h2 := (List.mem_filter.mp hy).2
  rw [decide_eq_true_eq] at h1 h2
  exact Prod.ext e (h1.trans h2.symm)
omit tx in
theorem ptB_nd (k : Int) : (ptB T k).Nodup := by
  have h : ((fitsL T).filter fun x => decide (x.1 = k)).Nodup := (both_nd.sublist List.filter_sublist).sublist List.filter_sublist
  refine List.pairwise_map.mpr (h.imp_of_mem fun {x y} hx hy hne e => hne ?_)
  have h1 := (List.mem_filter.mp hx).2
  have h2 := (List.mem_filter.mp hy).2
  rw [decide_eq_true_eq] at h1 h2
  exact Prod.ext (h1.trans h2.symm) e
omit tx in
theorem ptF_mem {o k : Int} : o ∈ ptF T k ↔ (o, k) ∈ fitsL T := by
  unfold ptF
  rw [List.mem_map]
  constructor
  · rintro ⟨⟨a, b⟩, h, rfl⟩
    obtain ⟨h1, h2⟩ := List.mem_filter.mp h
    rw [decide_eq_true_eq] at h2
    exact h2 ▸ h1
  · intro h
    exact ⟨(o, k), List.mem_filter.mpr ⟨h, by simp⟩, rfl⟩
omit tx in
theorem ptB_mem {c k : Int} : c ∈ ptB T k ↔ (k, c) ∈ fitsL T := by
  unfold ptB
  rw [List.mem_map]
  constructor
  · rintro ⟨⟨a, b⟩, h, rfl⟩
    obtain ⟨h1, h2⟩ := List.mem_filter.mp h
    rw [decide_eq_true_eq] at h2
    exact h2 ▸ h1
  · intro h
    exact ⟨(k, c), List.mem_filter.mpr ⟨h, by simp⟩, rfl⟩
end
theorem take_ahead {lt : Int → Int → Prop} {xs : List Int} {i : Nat} {o c : Int} (pw : xs.Pairwise lt) (as : ∀ a b, lt a b → ¬ lt b a) (hc : c ∈ xs.take i) (ho : o ∈ xs) (h : lt o c) : o ∈ xs.take i := by
  rw [← List.take_append_drop i xs] at ho pw
  rcases List.mem_append.mp ho with ho | ho
  · exact ho
  · exact absurd ((List.pairwise_append.mp pw).2.2 c hc o ho) (as o c h)
theorem frontStep_c {f : Int → Int} (S : FS) (k : Int) : (evB k = true → (frontStep f S k).c = S.c) ∧ (evB k = false → (frontStep f S k).c = S.c ++ [(((frontStep f S k).p.length : Nat) : Int)]) := by
  refine ⟨fun h => ?_, fun h => ?_⟩
  · unfold frontStep; rw [if_pos (by simpa using h)]
  · unfold frontStep; rw [if_neg (by simpa using h)]
    split
    · show _ = S.c ++ [(((S.p ++ [_]).length : Nat) : Int)]
      rw [List.length_append]; rfl
    · rfl
theorem endStep_c {f : Int → Int} (S : FS) (k : Int) : (odB k = true → (endStep f S k).c = S.c) ∧ (odB k = false → (endStep f S k).c = S.c ++ [(((endStep f S k).p.length : Nat) : Int)]) := by
  refine ⟨fun h => ?_, fun h => ?_⟩
  · unfold endStep; rw [if_pos (by simpa using h)]
  · unfold endStep; rw [if_neg (by simpa using h)]
    split
    · show _ = S.c ++ [(((S.p ++ [_]).length : Nat) : Int)]
      rw [List.length_append]; rfl
    · rfl
end Mine
end
section
open PySem
set_option maxRecDepth 100000
namespace Mine
abbrev lin (T : List (List Nat)) : List Int := lineTo (lv2 T) 10
theorem lin_mem {T : List (List Nat)} {x : Int} : x ∈ lin T ↔ 0 ≤ x ∧ x < 10 := lineTo_mem
theorem lin_nd {T : List (List Nat)} : (lin T).Nodup := (line_pw (lv2 T) 10).imp fun {a b} h e => by subst e; exact ah_as _ _ h h
abbrev ha (T : List (List Nat)) (a b : Int) : Prop := ah (lv2 T) b a
abbrev tif (T : List (List Nat)) (a b : Int) : Bool := fit T b a
abbrev LM (T : List (List Nat)) (k : Int) : Int := -(LN T k)
theorem rev_pw {T : List (List Nat)} : (lin T).reverse.Pairwise (ha T) := List.pairwise_reverse.mpr (line_pw _ _)
theorem rev_nd {T : List (List Nat)} : (lin T).reverse.Nodup := (List.reverse_perm _).nodup_iff.mpr lin_nd
theorem rev_mem {T : List (List Nat)} {x : Int} : x ∈ (lin T).reverse ↔ 0 ≤ x ∧ x < 10 := by rw [List.mem_reverse, lin_mem]
theorem hfB {T : List (List Nat)} {c o : Int} (h1 : odB c = true) (h2 : odB o = false) : tif T c o = true ↔ ha T c o ∧ LM T c < LM T o := by
  have e1 : evB o = true := by rw [← odB_not, h2]; rfl
  have e2 : evB c = false := by rw [← odB_not, h1]; rfl
  refine (fit_iff e1 e2).trans ?_
  show _ ∧ LN T o < LN T c ↔ _ ∧ -(LN T c) < -(LN T o)
  constructor
  · rintro ⟨a, b⟩; exact ⟨a, by lia⟩
  · rintro ⟨a, b⟩; exact ⟨a, by lia⟩
theorem runF (T : List (List Nat)) (E : List Int) : Grd (LN T) evB [] E (frontOf (LN T) E).p := by
  obtain ⟨P, r, e⟩ := front_grd (f := LN T) E ⟨[], [], []⟩ .nil
  have e : (frontOf (LN T) E).p = P := e
  rw [e]; exact r
theorem runB (T : List (List Nat)) (E : List Int) : ∃ Q, Grd (LM T) odB [] E Q ∧ (endOf (LN T) E).p = Q.map fun x => (x.2, x.1) := end_grd (f := LN T) E ⟨[], [], []⟩ .nil
theorem psF_is {T : List (List Nat)} {xs : List Int} : psF T xs = ptl evB (ptF T) xs := by
  show (xs.filter odB).map (ptF T) = (xs.filter fun c => !evB c).map (ptF T)
  rw [List.filter_congr fun c _ => evB_not c]
theorem psB_is {T : List (List Nat)} {xs : List Int} : psB T xs = ptl odB (ptB T) xs.reverse := by
  show (xs.reverse.filter evB).map (ptB T) = (xs.reverse.filter fun c => !odB c).map (ptB T)
  rw [List.filter_congr fun c _ => odB_not c]
theorem ev_t {k : Int} : evB k = true ↔ k % 2 = 0 := by unfold evB; rw [decide_eq_true_eq]
theorem ev_f {k : Int} : evB k = false ↔ k % 2 = 1 := by unfold evB; rw [decide_eq_false_iff_not]; lia
theorem od_t {k : Int} : odB k = true ↔ k % 2 = 1 := by unfold odB; rw [decide_eq_true_eq]
theorem od_f {k : Int} : odB k = false ↔ k % 2 = 0 := by unfold odB; rw [decide_eq_false_iff_not]; lia
section
variable {T : List (List Nat)} (tx : Tx T)
include tx
theorem he1_is : (frA T (lin T)).c = (mOut (psF T (lin T)) (psF T (lin T)).length).t := by
  rw [psF_is]
  have h := told (iw := evB) (pt := ptF T) (E := lin T) (step := frontStep (LN T)) (fun S k => (frontStep_c S k).1) (fun S k => (frontStep_c S k).2) (lin T).length (Nat.le_refl _) fun i hi => by
    have sub : ((lin T).take i).Sublist (lin T) := List.take_sublist _ _
    refine count_lack (lt := ah (lv2 T)) (fits := fit T) (runF T ((lin T).take i)) ((line_pw _ _).sublist sub) (lin_nd.sublist sub) ah_as (fun o _ c _ h1 h2 => fit_iff h1 h2) ptF_nd fun c hc h o => ?_
    have hc2 := lin_mem.mp (sub.subset hc)
    rw [ptF_mem, fitsL_mem tx]
    constructor
    · rintro ⟨a1, a2, a3, a4, a5⟩
      exact ⟨take_ahead (line_pw _ _) ah_as hc (lin_mem.mpr a1) ((fit_iff (ev_t.mpr a3) h).mp a5).1, ev_t.mpr a3, a5⟩
    · rintro ⟨a1, a2, a3⟩
      exact ⟨lin_mem.mp (sub.subset a1), hc2, ev_t.mp a2, ev_f.mp h, a3⟩
  rw [List.take_length] at h
  exact h
theorem he2_is : (enA T (lin T)).c = (mOut (psB T (lin T)) (psB T (lin T)).length).t := by
  rw [psB_is]
  have h := told (iw := odB) (pt := ptB T) (E := (lin T).reverse) (step := endStep (LN T)) (fun S k => (endStep_c S k).1) (fun S k => (endStep_c S k).2) (lin T).reverse.length (Nat.le_refl _) fun i hi => by
    have sub : ((lin T).reverse.take i).Sublist (lin T).reverse := List.take_sublist _ _
    obtain ⟨Q, r, e⟩ := runB T ((lin T).reverse.take i)
    have e : (((lin T).reverse.take i).foldl (endStep (LN T)) ⟨[], [], []⟩).p = Q.map fun x => (x.2, x.1) := e
    rw [e, List.length_map]
    refine count_lack (lt := ha T) (fits := tif T) r (rev_pw.sublist sub) (rev_nd.sublist sub) (fun a b => ah_as b a) (fun c _ o _ h1 h2 => hfB h1 h2) ptB_nd fun o ho h c => ?_
    have ho2 := rev_mem.mp (sub.subset ho)
    rw [ptB_mem, fitsL_mem tx]
    constructor
    · rintro ⟨a1, a2, a3, a4, a5⟩
      exact ⟨take_ahead rev_pw (fun a b => ah_as b a) ho (rev_mem.mpr a2) ((hfB (od_t.mpr a4) h).mp a5).1, od_t.mpr a4, a5⟩
    · rintro ⟨a1, a2, a3⟩
      exact ⟨ho2, rev_mem.mp (sub.subset a1), od_f.mp h, od_t.mp a2, a3⟩
  rw [List.take_length] at h
  exact h
theorem hpair_is : ∀ x ∈ (frA T (lin T)).p ++ (enA T (lin T)).p, x ∈ fitsL T := by
  intro x hx
  rcases List.mem_append.mp hx with hx | hx
  · obtain ⟨_, _, h⟩ := (runF T (lin T)).fit (fits := fit T) (line_pw _ _) lin_nd fun o _ c _ h1 h2 => fit_iff h1 h2
    obtain ⟨a1, a2, a3, a4, a5⟩ := h x hx
    exact (fitsL_mem tx).mpr ⟨lin_mem.mp a1, lin_mem.mp a3, ev_t.mp a2, ev_f.mp a4, a5⟩
  · obtain ⟨Q, r, e⟩ := runB T (lin T).reverse
    obtain ⟨_, _, h⟩ := r.fit (fits := tif T) (lt := ha T) rev_pw rev_nd fun o _ c _ h1 h2 => hfB h1 h2
    have hx : x ∈ (endOf (LN T) (lin T).reverse).p := hx
    rw [e] at hx
    obtain ⟨y, hy, rfl⟩ := List.mem_map.mp hx
    obtain ⟨a1, a2, a3, a4, a5⟩ := h y hy
    exact (fitsL_mem tx).mpr ⟨rev_mem.mp a3, rev_mem.mp a1, od_f.mp a4, od_t.mp a2, a5⟩
theorem hag2_is : ∀ x ∈ (agA T (lin T)).p, x ∈ fitsL T := by
  intro x hx
  have sub : ((lin T).filter fun k => decide (k ∈ keptA T (lin T))).Sublist (lin T) := List.filter_sublist
  obtain ⟨_, _, h⟩ := (runF T ((lin T).filter fun k => decide (k ∈ keptA T (lin T)))).fit (fits := fit T) ((line_pw _ _).sublist sub) (lin_nd.sublist sub) fun o _ c _ h1 h2 => fit_iff h1 h2
  obtain ⟨a1, a2, a3, a4, a5⟩ := h x hx
  exact (fitsL_mem tx).mpr ⟨lin_mem.mp (sub.subset a1), lin_mem.mp (sub.subset a3), ev_t.mp a2, ev_f.mp a4, a5⟩
omit tx in
theorem hag1_is : (agA T (lin T)).p.length = (frA T (lin T)).p.length := by
  obtain ⟨Q, r, e⟩ := runB T (lin T).reverse
  refine agree (lt := ah (lv2 T)) (fits := fit T) (kept := fun k => decide (k ∈ keptA T (lin T))) (runF T (lin T)) r (runF T _) (line_pw _ _) lin_nd ah_as (fun o _ c _ h1 h2 => fit_iff h1 h2) (fun o c => ?_) (fun x _ => (evB_not x).symm) fun c => ?_
  · show -(LN T c) < -(LN T o) ↔ LN T o < LN T c
    lia
  · have e : (endOf (LN T) (lin T).reverse).p.map (·.1) = Q.map (·.2) := by rw [e, swap_fst]
    unfold keptA
    rw [← e]
theorem hn1_is : (psF T (lin T)).length ≤ 6 ∧ ∀ p ∈ psF T (lin T), p.length ≤ 10 := by
  rw [psF_is]
  refine ⟨?_, fun p hp => ?_⟩
  · rw [List.length_map]
    refine Nat.le_trans (nd_le (m := [1, 3, 5, 7, 9]) (lin_nd.sublist List.filter_sublist) fun x hx => ?_) (by decide)
    obtain ⟨h1, h2⟩ := List.mem_filter.mp hx
    have h1 := lin_mem.mp h1
    rw [evB_not, od_t] at h2
    simp only [List.mem_cons, List.not_mem_nil, or_false]; lia
  · obtain ⟨c, _, rfl⟩ := List.mem_map.mp hp
    refine Nat.le_trans (nd_le (m := [0, 2, 4, 6, 8]) (ptF_nd c) fun x hx => ?_) (by decide)
    obtain ⟨h1, _, h2, _⟩ := (fitsL_mem tx).mp (ptF_mem.mp hx)
    simp only [List.mem_cons, List.not_mem_nil, or_false]; lia
theorem hn2_is : (psB T (lin T)).length ≤ 6 ∧ ∀ p ∈ psB T (lin T), p.length ≤ 10 := by
  rw [psB_is]
  refine ⟨?_, fun p hp => ?_⟩
  · rw [List.length_map]
    refine Nat.le_trans (nd_le (m := [0, 2, 4, 6, 8]) (rev_nd.sublist List.filter_sublist) fun x hx => ?_) (by decide)
    obtain ⟨h1, h2⟩ := List.mem_filter.mp hx
    have h1 := rev_mem.mp h1
    rw [odB_not, ev_t] at h2
    simp only [List.mem_cons, List.not_mem_nil, or_false]; lia
  · obtain ⟨c, _, rfl⟩ := List.mem_map.mp hp
    refine Nat.le_trans (nd_le (m := [1, 3, 5, 7, 9]) (ptB_nd c) fun x hx => ?_) (by decide)
    obtain ⟨_, h1, _, h2, _⟩ := (fitsL_mem tx).mp (ptB_mem.mp hx)
    simp only [List.mem_cons, List.not_mem_nil, or_false]; lia
end
theorem plain02 (T : List (List Nat)) (tx : Tx T) : Plain T (lineTo (lv2 T) 10) where
  hcol x hx := by
    obtain ⟨N, hN, rfl⟩ := tx.is
    obtain ⟨k, _, rfl⟩ := List.mem_map.mp hx
    have G := geo_of k
    exact ⟨G.c1, G.c2, G.c3⟩
  hans x hx := by
    obtain ⟨h1, h2, _⟩ := both_is x hx
    rw [show x = (x.1, x.2) from rfl, fit_geo tx h1 h2]
    exact less_geo (txAt tx h1.1 h1.2) (txAt tx h2.1 h2.2)
  hlt := mlt_lto tx
  hline p P S := line_is tx P S
  hpair := hpair_is tx
  hn1 := hn1_is tx
  hn2 := hn2_is tx
  he1 := he1_is tx
  he2 := he2_is tx
  hag1 := hag1_is
  hag2 := hag2_is tx
theorem goal : PySem.Challenge.rw_pe0230_02.Holds := goal0 plain02
end Mine
end
set_option maxRecDepth 100000 in
theorem PySem.Challenge.cw_pe0230_02_holds : PySem.Challenge.rw_pe0230_02.Holds := by
  exact Mine.goal
