import PyProof.Rows.All
import Wide.All
import OpenK.AllK
import Wide.FinOn
import PySem.Challenge.RW_pe0230_01
set_option Elab.async false
section
open PySem PySem.W PyProof.Rows
namespace Mine
def view : Program := { PySem.Challenge.pw_pe0230_01 with main := { PySem.Challenge.pw_pe0230_01.main with body := [0, 7, 9, 10, 11, 12, 13, 14].filterMap fun i => PySem.Challenge.pw_pe0230_01.main.body[i]? } }
section
set_option hygiene false
local macro_rules | `(tactic| o_head $H) => `(tactic| (
  refine holds_open (q := view) (loose := [Str.ofString "insort_right", Str.ofString "bisect_right", Str.ofString "insort_left", Str.ofString "bisect_left", Str.ofString "Whitespace"]) (Xt := fun s => xlAt view [] s && recOk (PySem.Challenge.rw_pe0230_01.row.records) s) (XP := XL view []) (Yf := Hook.obs $H) (Ya := Hook.val $H) (YP := Hook.says $H) (N := 1910) ?hl (Hook.of $H) (Hook.keeps $H) (fun s e => xl_of s (Bool.and_eq_true_iff.mp e).1) XL.keeps (by rfl) (by rfl) (by rfl) (fun s e => recFacts_of (Bool.and_eq_true_iff.mp e).2) (by rfl) (by first | assumption | decide +kernel) (by decide +kernel) ⟨rfl, rfl, rfl, rfl, rfl, by decide +kernel⟩ ?hw ?hc
  case hl =>
    refine LeftO.of_split "special-get-raises" (fun w => ?_)
    change Option.map _ (fencedOpening treeTable PySem.Challenge.pw_pe0230_01 w 1910) = _
    unfold topFrom
    rewrite [PySem.W.Fast.te14082659384304107361, PySem.W.Fast.te14364793385576792824, PySem.W.Fast.te4187177175401517315, PySem.W.Fast.te9162657270142539306]
    kernel_rfl))
set_option maxRecDepth 100000 in
set_option maxHeartbeats 8000000 in
open_top hd for PySem.Challenge.rw_pe0230_01
end
end Mine
end
section
open PySem PySem.W PyProof.Rows PySem.Calls
set_option maxRecDepth 100000
namespace Mine

abbrev Kp (B h : Heap) : Prop := ∀ b o, B.get? b = some o → h.get? b = some o
theorem Kp.rfl {h : Heap} : Kp h h := fun _ _ e => e
theorem Kp.trans {a b c : Heap} (x : Kp a b) (y : Kp b c) : Kp a c := fun _ _ e => y _ _ (x _ _ e)
theorem Kp.push {h : Heap} (o : Obj) : Kp h (h.push o) := fun _ _ e => Heap.get?_push_of_some o e
theorem Kp.none {h h' : Heap} (k : Kp h h') {a : Addr} (e : h'.get? a = none) : h.get? a = none := by
  cases q : h.get? a with
  | none => exact Eq.refl _
  | some o => rw [k _ _ q] at e; cases e
theorem get_none_of_le {h : Heap} {a : Addr} (e : h.objs.size ≤ a) : h.get? a = none := by
  cases q : h.get? a with
  | none => rfl
  | some o => exact absurd (Heap.lt_size q) (Nat.not_lt.mpr e)

/-- the same but for the heap and the tokens -/
structure Sm (s s' : Shared) : Prop where
  gens : s'.gens = s.gens
  drawn : s'.drawn = s.drawn
  os : s'.os = s.os
theorem Sm.rfl {s : Shared} : Sm s s := ⟨Eq.refl _, Eq.refl _, Eq.refl _⟩
theorem Sm.trans {a b c : Shared} (x : Sm a b) (y : Sm b c) : Sm a c := ⟨y.1.trans x.1, y.2.trans x.2, y.3.trans x.3⟩
theorem Sm.mk' {s : Shared} {h : Heap} {tk : Nat} : Sm s { s with heap := h, toks := tk } := ⟨Eq.refl _, Eq.refl _, Eq.refl _⟩
structure Gr (s s' : Shared) : Prop where
  sm : Sm s s'
  kp : Kp s.heap s'.heap
theorem Gr.rfl {s : Shared} : Gr s s := ⟨Sm.rfl, Kp.rfl⟩
theorem Gr.trans {a b c : Shared} (x : Gr a b) (y : Gr b c) : Gr a c := ⟨x.1.trans y.1, x.2.trans y.2⟩
theorem Gr.tk {s : Shared} {tk : Nat} : Gr s { s with toks := tk } := ⟨Sm.mk', Kp.rfl⟩
theorem Gr.mk' {s : Shared} {h : Heap} {tk : Nat} (k : Kp s.heap h) : Gr s { s with heap := h, toks := tk } := ⟨Sm.mk', k⟩

def lk (l : List (Str × Value)) (x : Str) : Option Value := l.lookup x
def put (x : Str) (v : Value) : List (Str × Value) → List (Str × Value)
  | [] => [(x, v)]
  | (y, u) :: r => if x == y then (x, v) :: r else (y, u) :: put x v r
theorem lk_put (x : Str) (v : Value) : ∀ (l : List (Str × Value)) (y : Str), lk (put x v l) y = if y = x then some v else lk l y
  | [], y => by
    simp only [lk, put, List.lookup]
    by_cases h : y = x
    · subst h; simp
    · have : (y == x) = false := by simpa using h
      simp [h, this]
  | (z, u) :: r, y => by
    have ihy := lk_put x v r y
    simp only [lk, put] at ihy ⊢
    by_cases hxz : x = z
    · subst hxz
      simp only [beq_self_eq_true, if_true]
      by_cases hy : y = x
      · subst hy; simp [List.lookup]
      · have : (y == x) = false := by simpa using hy
        simp [List.lookup, hy, this]
    · have e : (x == z) = false := by simpa using hxz
      simp only [e, Bool.false_eq_true, if_false]
      by_cases hy : y = z
      · subst hy
        have : ¬ y = x := fun q => hxz q.symm
        simp [List.lookup, this]
      · have : (y == z) = false := by simpa using hy
        simp only [List.lookup, this]
        exact ihy
/-- what is known of a frame's names -/
def Nm (h : Heap) (L : Addr) (l : List (Str × Value)) : Prop := ∃ m, h.Ns L m ∧ ∀ x v, lk l x = some v → m x = some v
theorem Nm.keeps {h h' : Heap} {L : Addr} {l : List (Str × Value)} (x : Nm h L l) (k : ∀ o, h.get? L = some o → h'.get? L = some o) : Nm h' L l :=
  let ⟨m, ⟨o, es, ep, ho, r⟩, e⟩ := x; ⟨m, ⟨o, es, ep, k o ho, r⟩, e⟩
theorem Nm.lt {h : Heap} {L : Addr} {l : List (Str × Value)} (x : Nm h L l) : L < h.objs.size := let ⟨_, n, _⟩ := x; n.lt
theorem Nm.get {h : Heap} {L : Addr} {l : List (Str × Value)} (x : Nm h L l) : ∃ o, h.get? L = some o := let ⟨_, ⟨o, _, _, ho, _⟩, _⟩ := x; ⟨o, ho⟩
def AllIn (l : List (Str × Value)) : List (Str × Value) → Prop
  | [] => True
  | (x, v) :: r => lk l x = some v ∧ AllIn l r
theorem AllIn.all {l : List (Str × Value)} : ∀ {l' : List (Str × Value)}, AllIn l l' → ∀ x v, lk l' x = some v → lk l x = some v
  | (y, u) :: r, h, x, v, e => by
    unfold lk at e
    rw [List.lookup_cons] at e
    cases q : x == y with
    | true => rw [q] at e; cases e; rw [eq_of_beq q]; exact h.1
    | false => rw [q] at e; exact AllIn.all h.2 x v e

abbrev Ls := List (Str × Value)
abbrev Ob := List (Addr × Obj)
structure Gd (K : Frag) (h : Heap) : Prop where
  k : K.In h
  g : ∃ mg, h.Ns mainGlobals mg
  b : ∃ mb, h.Ns builtinsNs mb ∧ ∀ x : Str, x ≠ "__name__" → mb x = bootBuiltins x
  nl : h.NoLimit
theorem Gd.kp {K : Frag} {h h' : Heap} (G : Gd K h) (k : Kp h h') : Gd K h' :=
  ⟨G.k.keeps k, G.g.imp fun _ x => x.keeps k, G.b.imp fun _ x => ⟨x.1.keeps k, x.2⟩, G.nl.keeps k⟩

/-- the frame at hand: its ground B, its names, what it has made and may still turn -/
structure Fm (K : Frag) (s₀ : Shared) (B : Heap) (L : Addr) (s : Shared) (l : List (Str × Value)) (ob : List (Addr × Obj)) : Prop where
  gd : Gd K B
  ns : Nm s.heap L l
  kp : Kp B s.heap
  no : B.get? L = none
  obs : ∀ p ∈ ob, s.heap.get? p.1 = some p.2 ∧ p.1 ≠ L ∧ B.get? p.1 = none
  nd : (List.map Prod.fst ob).Nodup
  sm : Sm s₀ s

structure Rm (A : Around) (k : Nat) : Prop where
  h : A.handled = none
  d : A.depth + k < recursionLimit
  u : A.units + 16 * k < cLine
theorem Rm.le {A : Around} {k j : Nat} (R : Rm A k) (h : j ≤ k) : Rm A j := ⟨R.h, by have := R.d; lia, by have := R.u; lia⟩
theorem Rm.deeper {A : Around} {k : Nat} {env : Env} (R : Rm A (k + 1)) : Rm (A.deeper env) k :=
  ⟨R.h, by have := R.d; show A.depth + 1 + k < recursionLimit; lia, by have := R.u; show A.units + 3 + 16 * k < cLine; lia⟩
theorem Rm.in1 {A : Around} {k : Nat} (R : Rm A (k + 1)) : Rm A.in1 k :=
  ⟨R.h, by have := R.d; show A.depth + k < recursionLimit; lia, by have := R.u; show A.units + 1 + 16 * k < cLine; lia⟩
theorem Rm.room {A : Around} {k : Nat} (R : Rm A k) : A.depth < recursionLimit := by have := R.d; lia
theorem Rm.units {A : Around} {k : Nat} (R : Rm A k) : A.units < cLine := by have := R.u; lia

section
variable {K : Frag} {s₀ s s' : Shared} {B B' : Heap} {L : Addr} {l : List (Str × Value)} {ob : List (Addr × Obj)}
theorem Fm.gdh (F : Fm K s₀ B L s l ob) : Gd K s.heap := F.gd.kp F.kp
theorem Fm.gr (F : Fm K s₀ B L s l ob) (k : Gr s s') : Fm K s₀ B L s' l ob :=
  ⟨F.gd, F.ns.keeps (fun o e => k.kp _ o e), F.kp.trans k.kp, F.no, fun p hp => ⟨k.kp _ _ (F.obs p hp).1, (F.obs p hp).2⟩, F.nd, F.sm.trans k.sm⟩
theorem Fm.set {x : Str} {v : Value} {m : Str → Option Value} (F : Fm K s₀ B L s l ob) (hm₀ : ∀ x v, lk l x = some v → m x = some v) (hn : s'.heap.Ns L (fun y => if y = x then some v else m y)) (hs : Heap.SameBut L s.heap s'.heap) (hm : Sm s s') : Fm K s₀ B L s' (put x v l) ob :=
  ⟨F.gd, ⟨_, hn, fun y u e => by
    rw [lk_put] at e
    by_cases q : y = x
    · simp only [q, if_true] at e ⊢; exact e
    · simp only [q, if_false] at e ⊢; exact hm₀ y u e⟩, fun b o e => (hs.2 b (by rintro rfl; rw [F.no] at e; cases e)).trans (F.kp b o e), F.no, fun p hp => ⟨(hs.2 p.1 (F.obs p hp).2.1).trans (F.obs p hp).1, (F.obs p hp).2⟩, F.nd, F.sm.trans hm⟩
theorem Fm.sub {l' : List (Str × Value)} (F : Fm K s₀ B L s l ob) (h : AllIn l l') : Fm K s₀ B L s l' ob :=
  ⟨F.gd, let ⟨m, n, e⟩ := F.ns; ⟨m, n, fun x v q => e x v (h.all x v q)⟩, F.kp, F.no, F.obs, F.nd, F.sm⟩
theorem Fm.lt (F : Fm K s₀ B L s l ob) : L < s.heap.objs.size := F.ns.lt
theorem Fm.get {a : Addr} {o : Obj} (F : Fm K s₀ B L s l ob) (hm : (a, o) ∈ ob) : s.heap.get? a = some o := (F.obs _ hm).1
/-- a new thing joins the ledger -/
theorem Fm.join {a : Addr} {o : Obj} (F : Fm K s₀ B L s l ob) (k : Gr s s') (hn : s.heap.get? a = none) (ha : s'.heap.get? a = some o) : Fm K s₀ B L s' l ((a, o) :: ob) := by
  have F' := F.gr k
  refine ⟨F.gd, F'.ns, F'.kp, F.no, fun p hp => ?_, ?_, F'.sm⟩
  · rcases List.mem_cons.mp hp with rfl | hp
    · refine ⟨ha, fun q => ?_, Kp.none F.kp hn⟩
      obtain ⟨oL, hL⟩ := F.ns.get
      have q : a = L := q
      rw [q, hL] at hn; cases hn
    · exact F'.obs p hp
  · rw [List.map_cons, List.nodup_cons]
    refine ⟨fun q => ?_, F.nd⟩
    obtain ⟨p, hp, e⟩ := List.mem_map.mp q
    have e : p.1 = a := e
    have := (F.obs p hp).1
    rw [e, hn] at this; cases this
theorem Fm.push (F : Fm K s₀ B L s l ob) (o : Obj) (hf : o.isFreed = false) (tk : Nat) : Fm K s₀ B L { s with heap := s.heap.push o, toks := tk } l ((s.heap.objs.size, o) :: ob) :=
  F.join (Gr.mk' (Kp.push o)) (get_none_of_le (Nat.le_refl _)) (Heap.get?_push_size _ hf)
theorem Fm.drop {ob' : List (Addr × Obj)} (F : Fm K s₀ B L s l ob) (hs : List.Sublist ob' ob) : Fm K s₀ B L s l ob' :=
  ⟨F.gd, F.ns, F.kp, F.no, fun p hp => F.obs p (hs.subset hp), (hs.map _).nodup F.nd, F.sm⟩
theorem Fm.perm {ob' : List (Addr × Obj)} (F : Fm K s₀ B L s l ob) (hs : List.Perm ob ob') : Fm K s₀ B L s l ob' :=
  ⟨F.gd, F.ns, F.kp, F.no, fun p hp => F.obs p (hs.mem_iff.mpr hp), (hs.map _).nodup_iff.mp F.nd, F.sm⟩
/-- one thing of the ledger is turned -/
theorem Fm.upd {a : Addr} {o o' : Obj} {pre post : List (Addr × Obj)} (F : Fm K s₀ B L s l (pre ++ (a, o) :: post)) (hs : Heap.SameBut a s.heap s'.heap) (ha : s'.heap.get? a = some o') (hm : Sm s s') :
    Fm K s₀ B L s' l (pre ++ (a, o') :: post) := by
  have D := F.obs (a, o) (by simp)
  have nd := F.nd
  refine ⟨F.gd, F.ns.keeps fun o e => (hs.2 _ (Ne.symm D.2.1)).trans e, fun b x q => (hs.2 _ fun z => ?_).trans (F.kp b x q), F.no, fun p hp => ?_, ?_, F.sm.trans hm⟩
  · have := D.2.2; rw [← z, q] at this; cases this
  · rcases List.mem_append.mp hp with q | q
    · have P := F.obs p (List.mem_append_left _ q)
      refine ⟨(hs.2 _ fun e => ?_).trans P.1, P.2⟩
      rw [List.map_append, List.map_cons, List.nodup_append] at nd
      exact nd.2.2 p.1 (List.mem_map_of_mem q) a (.head _) e
    · rcases List.mem_cons.mp q with rfl | q
      · exact ⟨ha, D.2⟩
      · have P := F.obs p (List.mem_append_right _ (.tail _ q))
        refine ⟨(hs.2 _ fun e => ?_).trans P.1, P.2⟩
        rw [List.map_append, List.map_cons, List.nodup_append, List.nodup_cons] at nd
        exact nd.2.1.1 (e ▸ (List.mem_map_of_mem q : p.1 ∈ List.map Prod.fst post))
  · simpa using nd
theorem Fm.upd0 {a : Addr} {o o' : Obj} {post : List (Addr × Obj)} (F : Fm K s₀ B L s l ((a, o) :: post)) (hs : Heap.SameBut a s.heap s'.heap) (ha : s'.heap.get? a = some o') (hm : Sm s s') :
    Fm K s₀ B L s' l ((a, o') :: post) := Fm.upd (pre := []) F hs ha hm
theorem Fm.out {a : Addr} {o : Obj} {post : List (Addr × Obj)} (F : Fm K s₀ B L s l ((a, o) :: post)) (hs : Heap.ExtBut a s.heap s'.heap) (hm : Sm s s') : Fm K s₀ B L s' l post := by
  have D := F.obs (a, o) (by simp)
  have nd := F.nd
  rw [List.map_cons, List.nodup_cons] at nd
  refine ⟨F.gd, F.ns.keeps fun o e => hs _ _ (Ne.symm D.2.1) e, fun b x q => hs _ _ (fun z => ?_) (F.kp b x q), F.no, fun p hp => ?_, nd.2, F.sm.trans hm⟩
  · have := D.2.2; rw [← z, q] at this; cases this
  · have P := F.obs p (.tail _ hp)
    exact ⟨hs _ _ (fun e => nd.1 (e ▸ (List.mem_map_of_mem hp : p.1 ∈ List.map Prod.fst post))) P.1, P.2⟩
/-- all that is known and not turned any more goes into the ground -/
theorem Fm.freeze (F : Fm K s₀ B L s l ob) : ∃ B', Kp B B' ∧ Fm K s₀ B' L s l ob ∧ ∀ a o, s.heap.get? a = some o → a ≠ L → a ∉ List.map Prod.fst ob → B'.get? a = some o := by
  have hn : ∀ {a : Addr}, a ∉ List.map Prod.fst ob → a ≠ L → a ∉ L :: List.map Prod.fst ob := fun h1 h2 q => by
    rcases List.mem_cons.mp q with q | q
    · exact h2 q
    · exact h1 q
  have k : Kp B (hideAll s.heap (L :: List.map Prod.fst ob)) := fun b o e => hideAll_get _ (F.kp b o e) (hn (fun q => by
      obtain ⟨p, hp, rfl⟩ := List.mem_map.mp q
      rw [(F.obs p hp).2.2] at e; cases e) (by rintro rfl; rw [F.no] at e; cases e))
  refine ⟨_, k, ⟨F.gd.kp k, F.ns, fun b o e => of_hideAll _ e, hideAll_none _ (.head _), fun p hp => ⟨(F.obs p hp).1, (F.obs p hp).2.1, hideAll_none _ (.tail _ (List.mem_map_of_mem hp))⟩, F.nd, F.sm⟩, fun a o e h1 h2 => hideAll_get _ e (hn h2 h1)⟩
theorem Fm.freeze0 {a : Addr} {o : Obj} (F : Fm K s₀ B L s l ((a, o) :: ob)) : ∃ B', Kp B B' ∧ Fm K s₀ B' L s l ob ∧ B'.get? a = some o := by
  have nd := F.nd
  rw [List.map_cons, List.nodup_cons] at nd
  have D := F.obs (a, o) (.head _)
  obtain ⟨B', k, F', h⟩ := (F.drop (List.sublist_cons_self _ _)).freeze
  exact ⟨B', k, F', h a o D.1 D.2.1 nd.1⟩
end

section
variable {prog : Program} {w : World} {A : Around} {E : Value → Shared → Prop} {s₀ s : Shared} {env : Env}
  {K : Frag} {B : Heap} {L : Addr} {l : List (Str × Value)} {ob : List (Addr × Obj)}

theorem nm_local {x : Str} {pos : Pos} {v : Value} {Q : Value → Shared → Prop} (F : Fm K s₀ B L s l ob) (hl : env.kindOf x = some .local) (hv : lk l x = some v) (h : Q v s)
    (hL : env.locals = L) (hk : env.scope.kind = .function) (hd : (x == ("__debug__" : Str)) = false) :
    wpAny (model prog w) A (eval (.Name x pos) env) Q E s :=
  let ⟨_, n, e⟩ := F.ns
  wpAny_Name (wpAny_loadName_local hk hl (hL ▸ n) (e _ _ hv) h) hd

theorem st_local {x : Str} {v : Value} {Q : Unit → Shared → Prop} (F : Fm K s₀ B L s l ob) (hl : env.kindOf x = some .local)
    (h : ∀ s', Fm K s₀ B L s' (put x v l) ob → Q () s')
    (hL : env.locals = L) (hk : env.scope.kind = .function) :
    wpAny (model prog w) A (storeName env x v) Q E s := by
  subst hL
  obtain ⟨m, n, e⟩ := F.ns
  exact wpAny_storeName_local hl n (fun h' hn hs => h _ (F.set e hn hs Sm.mk')) (by rw [hk]; rfl)

theorem nm_glob {x : Str} {pos : Pos} {v : Value} {Q : Value → Shared → Prop} (F : Fm K s₀ B L s l ob) (hl : env.kindOf x = some .globalImplicit) (e : nsIn K mainGlobals x = some (some v)) (h : Q v s)
    (hg : env.globals = mainGlobals) (hk : env.scope.kind = .function) (hd : (x == ("__debug__" : Str)) = false) :
    wpAny (model prog w) A (eval (.Name x pos) env) Q E s := by
  obtain ⟨mg, g⟩ := F.gdh.g
  exact Name_function_global hk hl (loadGlobal_global (hg ▸ g) (mg_of F.gdh.k g e) h) hd
theorem nm_bi {x : Str} {pos : Pos} {v : Value} {Q : Value → Shared → Prop} (F : Fm K s₀ B L s l ob) (hl : env.kindOf x = some .globalImplicit) (e : nsIn K mainGlobals x = some none) (hv : bootBuiltins x = some v) (h : Q v s)
    (hg : env.globals = mainGlobals) (hb : env.builtins = builtinsNs) (hk : env.scope.kind = .function) (hd : (x == ("__debug__" : Str)) = false) (hn : x ≠ "__name__") :
    wpAny (model prog w) A (eval (.Name x pos) env) Q E s := by
  obtain ⟨mg, g⟩ := F.gdh.g
  obtain ⟨mb, b, bb⟩ := F.gdh.b
  exact Name_function_global hk hl (loadGlobal_builtin (hg ▸ g) (mg_none_of F.gdh.k g e) (hb ▸ b) ((bb x hn).trans hv) h) hd

def RetTo (Q : Value → Shared → Prop) : Flow → Shared → Prop := fun fl s' => Q (match fl with | .ret v => v | _ => .none) s'

/-- a call of a def without cells that raises nothing -/
theorem call_fn (binds : List (Str × Value)) {name qual : Str} {params : Arguments} {body : List Stmt} {scope : Scope} {cl : List (Str × Addr)} {dV kV doc pm cdv ct oc : Value} {an od : Option Addr} {osl : Array (Option Value)} {f : Addr} {pos : List Value} {kw : List (Str × Value)}
    {Q : Value → Shared → Prop} {k : Nat}
    (R : Rm A (k + 1)) (G : Gd K s.heap)
    (ho : K.lookup f = some ⟨oc, od, .func (fnX name qual params body scope cl dV kV doc pm an cdv ct), osl⟩) (hcd : codeIn K cdv qual = true)
    (hbind : BindsTo s (fnX name qual params body scope cl dV kV doc pm an cdv ct) ⟨pos, kw⟩ binds) (hloc : (binds.all fun x => decide (scope.names.lookup x.1 = some .local)) = true)
    (hcell : (scope.names.all fun x => decide (x.2 ≠ .cell)) = true)
    (h : ∀ L s' A', L = s.heap.objs.size → Fm K s s.heap L s' binds.reverse [] → Rm A' k →
      wpAny (model prog w) A' (execs body (envX qual scope L f cdv cl)) (RetTo Q) (fun _ _ => False) s')
    (hco : scope.isCoroutine = false) (hgen : scope.isGenerator = false) (hk : scope.kind = .function) : wpAny (model prog w) A (call (.ref f) pos kw) Q E s := by
  refine wpAny_call ?_
  refine codeAny_call_def (fd := fnX name qual params body scope cl dV kV doc pm an cdv ct) (body := body) (binds := binds) R.room (G.k _ _ ho) rfl G.nl (codeRec_of G.k hcd) rfl hbind
    (fun x hx => of_decide_eq_true (List.all_eq_true.mp hcell x hx)) (locs hloc) (fun h₁ hns hk₁ => ?_) hco hgen hk
  refine wpAny_mono (h s.heap.objs.size _ _ rfl ⟨G, ⟨_, hns, fun _ _ e => e⟩, hk₁, get_none_of_le (Nat.le_refl _), (by intro p hp; cases hp), List.nodup_nil, Sm.mk'⟩ R.deeper) (fun fl s' hq => ?_) fun _ _ x => x.elim
  cases fl <;> exact hq
end

end Mine
end
section
open PySem PySem.W PyProof.Rows PySem.Calls
set_option maxRecDepth 100000
namespace Mine

def Then (M : Model) (A : Around) (env : Env) (rest : List Stmt) (Q : Flow → Shared → Prop) (E : Value → Shared → Prop) : Flow → Shared → Prop :=
  fun f s' => match f with | .next => wpAny M A (execs rest env) Q E s' | f => Q f s'

section
variable {M : Model} {prog : Program} {w : World} {A : Around} {E : Value → Shared → Prop} {s₀ s : Shared} {env : Env}
  {K : Frag} {B : Heap} {L : Addr} {l : List (Str × Value)} {ob : List (Addr × Obj)} {rest : List Stmt} {Q : Flow → Shared → Prop}

theorem then_next (h : wpAny M A (execs rest env) Q E s) : Then M A env rest Q E .next s := h
theorem then_ret {v : Value} (h : Q (.ret v) s) : Then M A env rest Q E (.ret v) s := h
theorem then_brk (h : Q .brk s) : Then M A env rest Q E .brk s := h
theorem then_cont (h : Q .cont s) : Then M A env rest Q E .cont s := h
theorem retTo_ret {v : Value} {Q : Value → Shared → Prop} (h : Q v s) : RetTo Q (.ret v) s := h
theorem retTo_next {Q : Value → Shared → Prop} (h : Q .none s) : RetTo Q .next s := h

theorem s_nil (h : Q .next s) : wpAny M A (execs [] env) Q E s := wpAny_execs_nil h
theorem s_cons {st : Stmt} (h : wpAny M A (exec st env) (Then M A env rest Q E) E s) : wpAny M A (execs (st :: rest) env) Q E s := by
  refine wpAny_execs_cons (wpAny_mono h (fun f s' hf => ?_) fun _ _ x => x)
  cases f <;> exact hf
theorem s_assign {x : Str} {p pos : Pos} {value : Expr} (h : wpAny M A (eval value env) (fun v s₁ => wpAny M A (storeName env x v) (fun _ s₂ => wpAny M A (execs rest env) Q E s₂) E s₁) E s)
    (hs : swapsWith value (some (.Name x p)) pos.line env = pure false) : wpAny M A (execs (.Assign [.Name x p] value pos :: rest) env) Q E s :=
  s_cons (wpAny_Assign_Name h hs)
theorem s_ret {e : Expr} {pos : Pos} (h : wpAny M A (eval e env) (fun v => Q (.ret v)) E s) : wpAny M A (execs (.Return (some e) pos :: rest) env) Q E s :=
  s_cons (wpAny_Return_some (wpAny_mono h (fun _ _ x => x) fun _ _ x => x))
theorem s_brk {pos : Pos} (h : Q .brk s) : wpAny M A (execs (.Break pos :: rest) env) Q E s := s_cons (fun _ _ _ => h)
theorem s_if {test : Expr} {body orelse : List Stmt} {pos : Pos}
    (h : wpAny M A (isTrue test env (eval test env)) (fun b s₂ => if b = true then wpAny M A (execs body env) (Then M A env rest Q E) E s₂ else wpAny M A (execs orelse env) (Then M A env rest Q E) E s₂) E s) :
    wpAny M A (execs (.If test body orelse pos :: rest) env) Q E s := s_cons (wpAny_If (wpAny_mono h (fun b s₂ x => by cases b <;> exact x) fun _ _ x => x))
theorem ite_d {c : Prop} [Decidable c] {P R : Prop} (h1 : c → P) (h2 : ¬ c → R) : if decide c = true then P else R := by
  by_cases hc : c
  · simp [hc]; exact h1 hc
  · simp [hc]; exact h2 hc
theorem ite_b {b : Bool} {P R : Prop} (h1 : b = true → P) (h2 : b = false → R) : if b = true then P else R := by
  cases b
  · exact h2 rfl
  · exact h1 rfl
theorem s_aug {x : Str} {p pos : Pos} {op : Operator} {value : Expr} {v₀ : Value} (F : Fm K s₀ B L s l ob) (hl : env.kindOf x = some .local) (hv : lk l x = some v₀) (hL : env.locals = L) (hk : env.scope.kind = .function)
    (h : wpAny M A (eval value env) (fun v s₁ => wpAny M A (inplaceOp op v₀ v) (fun v' s₂ => wpAny M A (storeName env x v') (fun _ s₃ => wpAny M A (execs rest env) Q E s₃) E s₂) E s₁) E s) :
    wpAny M A (execs (.AugAssign (.Name x p) op value pos :: rest) env) Q E s :=
  let ⟨_, n, e⟩ := F.ns
  s_cons (wpAny_AugAssign_Name (wpAny_loadName_local hk hl (hL ▸ n) (e _ _ hv) h))
theorem s_while {test : Expr} {body orelse : List Stmt} {pos : Pos} (h : codeAny (model prog w) A (.whileLoop test body orelse env) (fun r s' => match r with | .ok f => Then (model prog w) A env rest Q E f s' | .error _ => False) s) :
    wpAny (model prog w) A (execs (.While test body orelse pos :: rest) env) Q E s :=
  s_cons (wpAny_While (codeAny_mono h fun r s' x => by cases r with | ok f => exact x | error e => exact x.elim))

theorem s_unpack2 {x y : Str} {p1 p2 p3 pos : Pos} {c : Nat} {value : Expr} (R : A.handled = none)
    (h : wpAny (model prog w) A (eval value env) (fun v s₁ => ∃ t v1 v2, v = .ref t ∧ IsTup s₁.heap t #[v1, v2] ∧ ∀ s₂, Gr s₁ s₂ →
      wpAny (model prog w) A (storeName env x v1) (fun _ s₂ => wpAny (model prog w) A (storeName env y v2) (fun _ s₃ => wpAny (model prog w) A (execs rest env) Q E s₃) E s₂) E s₂) E s)
    (hs : swapsWithSole [.Tuple [.Name x p1, .Name y p2] c p3] value pos.line env = pure false)
    (hw : swappedStores [.Tuple [.Name x p1, .Name y p2] c p3] value env = pure none) :
    wpAny (model prog w) A (execs (.Assign [.Tuple [.Name x p1, .Name y p2] c p3] value pos :: rest) env) Q E s := by
  refine s_cons (Assign_Tuple (wpAny_mono h (fun v s₁ h₁ => ?_) fun _ _ x => x) hs hw)
  obtain ⟨t, v1, v2, rfl, ht, hq⟩ := h₁
  refine wpAny_assign_Tuple R ht rfl rfl fun h' hx => ?_
  refine wpAny_assignInOrder_more (wpAny_assign_Name (wpAny_mono (hq _ ⟨⟨rfl, rfl, rfl⟩, fun b o e => hx b o (Nat.ne_of_lt (Heap.lt_size e)) e⟩) (fun _ s₂ h₂ => ?_) fun _ _ x => x))
  exact wpAny_assignInOrder_more (wpAny_assign_Name (wpAny_mono h₂ (fun _ s₃ h₃ => wpAny_assignInOrder_none h₃) fun _ _ x => x))
end

section
variable {prog : Program} {w : World} {A : Around} {E : Value → Shared → Prop} {s₀ s : Shared} {env : Env} {K : Frag} {B : Heap} {L : Addr} {l : List (Str × Value)} {ob : List (Addr × Obj)} {Q : Value → Shared → Prop}
theorem e_call {x : Str} {np pos : Pos} {args : List Expr}
    (h : wpAny (model prog w) A (eval (.Name x np) env) (fun f s₁ => wpAny (model prog w) A (callWith pos f [] (backTo pos (starEach args env)) []) Q E s₁) E s) :
    wpAny (model prog w) A (eval (.Call (.Name x np) args [] pos) env) Q E s := wpAny_Call_NameR h
theorem cw_bi1 {pos : Pos} {id : String} {e1 : Expr} (h : wpAny (model prog w) A (eval e1 env) (fun v s₁ => wpAny (model prog w) A (call (.builtin id) [v]) Q E s₁) E s)
    (he : starEach [e1] env = [(false, eval e1 env)]) : wpAny (model prog w) A (callWith pos (.builtin id) [] (backTo pos (starEach [e1] env)) []) Q E s := by
  rw [he]
  exact callWith_builtin rfl (evalArgs_plain (spliced_cons (wpAny_mono h (fun _ _ h₁ => spliced_nil h₁) fun _ _ x => x)))
theorem cw_bi2 {pos : Pos} {id : String} {e1 e2 : Expr}
    (h : wpAny (model prog w) A (eval e1 env) (fun v s₁ => wpAny (model prog w) A (eval e2 env) (fun v2 s₂ => wpAny (model prog w) A (call (.builtin id) [v, v2]) Q E s₂) E s₁) E s)
    (he : starEach [e1, e2] env = [(false, eval e1 env), (false, eval e2 env)]) : wpAny (model prog w) A (callWith pos (.builtin id) [] (backTo pos (starEach [e1, e2] env)) []) Q E s := by
  rw [he]
  exact callWith_builtin rfl (evalArgs_plain (spliced_cons (wpAny_mono h (fun _ _ h₁ => spliced_cons (wpAny_mono h₁ (fun _ _ h₂ => spliced_nil h₂) fun _ _ x => x)) fun _ _ x => x)))
theorem cw_ty1 {pos : Pos} {id : String} {e1 : Expr} (h : wpAny (model prog w) A (eval e1 env) (fun v s₁ => wpAny (model prog w) A (call (.type id) [v]) Q E s₁) E s)
    (he : starEach [e1] env = [(false, eval e1 env)]) : wpAny (model prog w) A (callWith pos (.type id) [] (backTo pos (starEach [e1] env)) []) Q E s := by
  rw [he]
  exact PyProof.Rows.callWith_type rfl (evalArgs_plain (spliced_cons (wpAny_mono h (fun _ _ h₁ => spliced_nil h₁) fun _ _ x => x)))
theorem cw_ty2 {pos : Pos} {id : String} {e1 e2 : Expr}
    (h : wpAny (model prog w) A (eval e1 env) (fun v s₁ => wpAny (model prog w) A (eval e2 env) (fun v2 s₂ => wpAny (model prog w) A (call (.type id) [v, v2]) Q E s₂) E s₁) E s)
    (he : starEach [e1, e2] env = [(false, eval e1 env), (false, eval e2 env)]) : wpAny (model prog w) A (callWith pos (.type id) [] (backTo pos (starEach [e1, e2] env)) []) Q E s := by
  rw [he]
  exact PyProof.Rows.callWith_type rfl (evalArgs_plain (spliced_cons (wpAny_mono h (fun _ _ h₁ => spliced_cons (wpAny_mono h₁ (fun _ _ h₂ => spliced_nil h₂) fun _ _ x => x)) fun _ _ x => x)))

theorem b_len_tup {t : Addr} {items : Array Value} (F : Fm K s₀ B L s l ob) (ht : IsTup s.heap t items) (hf : (items.size : Int) < 2 ^ 63)
    (h : ∀ u s', Fm K s₀ B L s' l ob → Q (.int items.size u) s') : wpAny (model prog w) A (call (.builtin "len") [.ref t]) Q E s := PyProof.Rows.len_tuple ht hf (h _ _ (F.gr Gr.tk))
theorem b_len_list {t : Addr} {items : Array Value} (F : Fm K s₀ B L s l ob) (ht : s.heap.IsList t items) (hf : (items.size : Int) < 2 ^ 63)
    (h : ∀ u s', Fm K s₀ B L s' l ob → Q (.int items.size u) s') : wpAny (model prog w) A (call (.builtin "len") [.ref t]) Q E s := PyProof.Rows.len_list ht hf (h _ _ (F.gr Gr.tk))
theorem b_max {a b : Int} {t u : Tok} (F : Fm K s₀ B L s l ob) (hh : A.handled = none)
    (h : ∀ t' s', Fm K s₀ B L s' l ob → Q (.int (max a b) t') s') : wpAny (model prog w) A (call (.builtin "max") [.int a t, .int b u]) Q E s :=
  max_two_ints hh fun h' tk hk => by
    split
    · rename_i c; have := h u _ (F.gr (Gr.mk' (tk := tk) hk)); rwa [Int.max_eq_right (Int.le_of_lt c)] at this
    · rename_i c; have := h t _ (F.gr (Gr.mk' (tk := tk) hk)); rwa [Int.max_eq_left (by lia)] at this
theorem o_sub {a b : Int} {t u : Tok} (F : Fm K s₀ B L s l ob) (h : ∀ t' s', Fm K s₀ B L s' l ob → Q (.int (a - b) t') s') : wpAny (model prog w) A (binaryOp .Sub (.int a t) (.int b u)) Q E s := PyProof.Rows.sub_int (h _ _ (F.gr Gr.tk))
theorem o_add {a b : Int} {t u : Tok} (F : Fm K s₀ B L s l ob) (h : ∀ t' s', Fm K s₀ B L s' l ob → Q (.int (a + b) t') s') : wpAny (model prog w) A (binaryOp .Add (.int a t) (.int b u)) Q E s := PyProof.Rows.add_int (h _ _ (F.gr Gr.tk))
theorem e_int {i : Int} {k : Nat} {pos : Pos} (F : Fm K s₀ B L s l ob) (h : ∀ t s', Fm K s₀ B L s' l ob → Q (.int i t) s') : wpAny (model prog w) A (eval (.Constant (.int i) k pos) env) Q E s := wpAny_Constant_int (h _ _ (F.gr Gr.tk))
theorem e_str {i : Str} {k : Nat} {pos : Pos} (F : Fm K s₀ B L s l ob) (h : ∀ t s', Fm K s₀ B L s' l ob → Q (.str i t) s') : wpAny (model prog w) A (eval (.Constant (.str i) k pos) env) Q E s := wpAny_Constant_str (h _ _ (F.gr Gr.tk))
end

theorem bb_len : bootBuiltins "len" = some (.builtin "len") := by decide +kernel
theorem bb_max : bootBuiltins "max" = some (.builtin "max") := by decide +kernel
theorem bb_sum : bootBuiltins "sum" = some (.builtin "sum") := by decide +kernel
theorem bb_abs : bootBuiltins "abs" = some (.builtin "abs") := by decide +kernel
theorem bb_isi : bootBuiltins "isinstance" = some (.builtin "isinstance") := by decide +kernel
theorem bb_sorted : bootBuiltins "sorted" = some (.builtin "sorted") := by decide +kernel
theorem bb_range : bootBuiltins "range" = some (.type "range") := by decide +kernel
theorem bb_list : bootBuiltins "list" = some (.type "list") := by decide +kernel
theorem bb_tuple : bootBuiltins "tuple" = some (.type "tuple") := by decide +kernel
theorem bb_bool : bootBuiltins "bool" = some (.type "bool") := by decide +kernel

structure Lead where
  n : Int
  nt : Int
  b : Int
  cnt : List Int

/-- a lead lies at a -/
structure LeadAt (C : Addr) (h : Heap) (a : Addr) (d : Lead) : Prop where
  is : ∃ dx es ep tn tc u1 u2 u3 vs, h.get? a = some (instObj C dx) ∧ h.get? dx = some (dictOf es ep) ∧
    getL "n" es = some (some (.int d.n u1)) ∧ getL "nt" es = some (some (.int d.nt u2)) ∧ getL "norm" es = some (some (.ref tn)) ∧ getL "is_simple" es = some (some (.bool (decide (d.cnt.length ≤ 1)))) ∧
    getL "longest_run_of_spaces" es = some none ∧ getL "indent_level" es = some none ∧ getL "less" es = some none ∧
    IsTup h tn #[.ref tc, .int d.b u3] ∧ IsTup h tc vs ∧ IntsAre vs.toList d.cnt
  sz : d.cnt.length < 900 ∧ 0 ≤ d.b ∧ d.b < 900
theorem LeadAt.kp {C : Addr} {h h' : Heap} {a : Addr} {d : Lead} (H : LeadAt C h a d) (k : Kp h h') : LeadAt C h' a d := by
  obtain ⟨⟨dx, es, ep, tn, tc, u1, u2, u3, vs, h1, h2, g1, g2, g3, g4, g5, g6, g7, t1, t2, i⟩, z⟩ := H
  exact ⟨⟨dx, es, ep, tn, tc, u1, u2, u3, vs, k _ _ h1, k _ _ h2, g1, g2, g3, g4, g5, g6, g7, t1.keeps k, t2.keeps k, i⟩, z⟩

/-- what the written part says of the class of leads -/
structure LeadK (K : Frag) (C fl fi fs : Addr) : Prop where
  hh : hasDictIn K C = true
  g1 : plainGet K C "n" = true
  a1 : findIn K (.ref C) "n" = some none
  a2 : findIn K (.ref C) "nt" = some none
  a3 : findIn K (.ref C) "norm" = some none
  a4 : findIn K (.ref C) "is_simple" = some none
  a5 : findIn K (.ref C) "longest_run_of_spaces" = some (some (.ref fl))
  a6 : findIn K (.ref C) "indent_level" = some (some (.ref fi))
  a7 : findIn K (.ref C) "less" = some (some (.ref fs))
  t5 : typeIn K (.ref fl) = some (.type "function")
  t6 : typeIn K (.ref fi) = some (.type "function")
  t7 : typeIn K (.ref fs) = some (.type "function")

section
variable {prog : Program} {w : World} {A : Around} {E : Value → Shared → Prop} {s₀ s : Shared} {env : Env} {K : Frag} {B : Heap} {L : Addr} {l : List (Str × Value)} {ob : List (Addr × Obj)} {C fl fi fs a : Addr} {d : Lead} {Q : Value → Shared → Prop} {ex : Bool}
theorem ga_n (LK : LeadK K C fl fi fs) (F : Fm K s₀ B L s l ob) (H : LeadAt C B a d) (h : ∀ t s', Fm K s₀ B L s' l ob → Q (.int d.n t) s') : wpAny (model prog w) A (getAttr (.ref a) "n" ex) Q E s := by
  obtain ⟨⟨dx, es, ep, tn, tc, u1, u2, u3, vs, h1, h2, g1, g2, g3, g4, g5, g6, g7, t1, t2, i⟩, z⟩ := H
  exact get_value F.gdh.k ⟨F.kp _ _ h1, rfl, rfl, F.kp _ _ h2⟩ (plainGet_of LK.g1).1 (findObj_own (od := dictOf es ep) LK.hh LK.a1 rfl g1) rfl (h _ _ (F.gr Gr.tk))
theorem ga_nt (LK : LeadK K C fl fi fs) (F : Fm K s₀ B L s l ob) (H : LeadAt C B a d) (h : ∀ t s', Fm K s₀ B L s' l ob → Q (.int d.nt t) s') : wpAny (model prog w) A (getAttr (.ref a) "nt" ex) Q E s := by
  obtain ⟨⟨dx, es, ep, tn, tc, u1, u2, u3, vs, h1, h2, g1, g2, g3, g4, g5, g6, g7, t1, t2, i⟩, z⟩ := H
  exact get_value F.gdh.k ⟨F.kp _ _ h1, rfl, rfl, F.kp _ _ h2⟩ (plainGet_of LK.g1).1 (findObj_own (od := dictOf es ep) LK.hh LK.a2 rfl g2) rfl (h _ _ (F.gr Gr.tk))
theorem ga_simple (LK : LeadK K C fl fi fs) (F : Fm K s₀ B L s l ob) (H : LeadAt C B a d) (h : ∀ s', Fm K s₀ B L s' l ob → Q (.bool (decide (d.cnt.length ≤ 1))) s') : wpAny (model prog w) A (getAttr (.ref a) "is_simple" ex) Q E s := by
  obtain ⟨⟨dx, es, ep, tn, tc, u1, u2, u3, vs, h1, h2, g1, g2, g3, g4, g5, g6, g7, t1, t2, i⟩, z⟩ := H
  exact get_value F.gdh.k ⟨F.kp _ _ h1, rfl, rfl, F.kp _ _ h2⟩ (plainGet_of LK.g1).1 (findObj_own (od := dictOf es ep) LK.hh LK.a4 rfl g4) rfl (h _ (F.gr Gr.tk))
theorem ga_norm (LK : LeadK K C fl fi fs) (F : Fm K s₀ B L s l ob) (H : LeadAt C B a d)
    (h : ∀ tn tc u vs s', IsTup B tn #[.ref tc, .int d.b u] → IsTup B tc vs → IntsAre vs.toList d.cnt → Fm K s₀ B L s' l ob → Q (.ref tn) s') : wpAny (model prog w) A (getAttr (.ref a) "norm" ex) Q E s := by
  obtain ⟨⟨dx, es, ep, tn, tc, u1, u2, u3, vs, h1, h2, g1, g2, g3, g4, g5, g6, g7, t1, t2, i⟩, z⟩ := H
  exact get_value F.gdh.k ⟨F.kp _ _ h1, rfl, rfl, F.kp _ _ h2⟩ (plainGet_of LK.g1).1 (findObj_own (od := dictOf es ep) LK.hh LK.a3 rfl g3) rfl (h _ _ _ _ _ t1 t2 i (F.gr Gr.tk))
theorem gm_lead {name : Str} {f : Addr} {pl : Sem Bool} {Q : Value × List Value → Shared → Prop} (LK : LeadK K C fl fi fs) (G : Gd K s.heap) (H : LeadAt C s.heap a d)
    (hc : (name = "longest_run_of_spaces" ∧ f = fl) ∨ (name = "indent_level" ∧ f = fi) ∨ (name = "less" ∧ f = fs)) (h : Q (.ref f, [.ref a]) s) :
    wpAny (model prog w) A (getMethod (.ref a) name pl) Q E s := by
  obtain ⟨⟨dx, es, ep, tn, tc, u1, u2, u3, vs, h1, h2, g1, g2, g3, g4, g5, g6, g7, t1, t2, i⟩, z⟩ := H
  have I : InstAt s.heap a (instObj C dx) C (some (dictOf es ep)) := ⟨h1, rfl, rfl, h2⟩
  rcases hc with ⟨rfl, rfl⟩ | ⟨rfl, rfl⟩ | ⟨rfl, rfl⟩
  · exact method_fn G.k I (plainGet_of LK.g1).1 (plainGet_of LK.g1).2 LK.a5 LK.t5 (by show (lookIn _ (dictOf es ep)).map _ = _; rw [lookIn_dict, g5]; rfl) h
  · exact method_fn G.k I (plainGet_of LK.g1).1 (plainGet_of LK.g1).2 LK.a6 LK.t6 (by show (lookIn _ (dictOf es ep)).map _ = _; rw [lookIn_dict, g6]; rfl) h
  · exact method_fn G.k I (plainGet_of LK.g1).1 (plainGet_of LK.g1).2 LK.a7 LK.t7 (by show (lookIn _ (dictOf es ep)).map _ = _; rw [lookIn_dict, g7]; rfl) h
end

section
variable {prog : Program} {w : World} {A : Around} {E : Value → Shared → Prop} {s : Shared} {env : Env} {K : Frag} {Q : Value → Shared → Prop}
theorem e_meth {o : Expr} {name : Str} {apos pos : Pos} {args : List Expr}
    (h : wpAny (model prog w) A (eval o env) (fun ov s₁ => wpAny (model prog w) A (getMethod ov name (do return (← importBound o env).getD true)) (fun fp s₂ =>
      wpAny (model prog w) A (callWith pos fp.1 fp.2 (backTo pos (starEach args env)) []) Q E s₂) E s₁) E s)
    (hb : attributeBase o name env (eval o env) = eval o env) (hf : methodCallForm (args.length + 0) (backTo pos (starEach args env)) [] = true) (hp : (apos.endLine == pos.line) = true) :
    wpAny (model prog w) A (eval (.Call (.Attribute o name apos) args [] pos) env) Q E s := by
  show wpAny _ _ (do
    let ov ← attributeBase o name env (eval o env)
    standAt apos.atName
    methodCall o name apos pos env ov (args.length + 0) (backTo pos (starEach args env)) []) _ _ _
  rw [hb]
  refine wpAny_bind (wpAny_mono h (fun ov s₁ h₁ => wpAny_bind (wpAny_standAt ?_)) fun _ _ x => x)
  unfold methodCall
  rw [hf]
  refine wpAny_bind (wpAny_holding (wpAny_mono h₁ (fun fp s₂ h₂ => ?_) fun _ _ x => x))
  obtain ⟨f, first⟩ := fp
  refine wpAny_bind ?_
  unfold methodCallPos
  simp only [hp, Bool.not_true, Bool.or_true, if_true]
  exact wpAny_pure h₂
theorem cw_K0 {pos : Pos} {f : Value} {first : List Value} (hk : keepIn K f = true) (G : Gd K s.heap) (h : wpAny (model prog w) A (call f first) Q E s) :
    wpAny (model prog w) A (callWith pos f first (backTo pos (starEach [] env)) []) Q E s :=
  callWith_K0 (K := K) G.k hk (by simpa using h)
theorem cw_K1 {pos : Pos} {f : Value} {first : List Value} {e1 : Expr} (hk : keepIn K f = true)
    (h : wpAny (model prog w) A (eval e1 env) (fun v s₁ => Gd K s₁.heap ∧ wpAny (model prog w) A (call f (first ++ [v])) Q E s₁) E s)
    (he : starEach [e1] env = [(false, eval e1 env)]) : wpAny (model prog w) A (callWith pos f first (backTo pos (starEach [e1] env)) []) Q E s := by
  rw [he]
  exact callWith_of (P := K.In) rfl (keeps_K hk) (evalArgs_plain (spliced_cons (wpAny_mono h (fun _ _ h₁ => spliced_nil ⟨h₁.1.k, h₁.2⟩) fun _ _ x => x)))
theorem cw_K2 {pos : Pos} {f : Value} {first : List Value} {e1 e2 : Expr} (hk : keepIn K f = true)
    (h : wpAny (model prog w) A (eval e1 env) (fun v s₁ => wpAny (model prog w) A (eval e2 env) (fun v2 s₂ => Gd K s₂.heap ∧ wpAny (model prog w) A (call f (first ++ [v, v2])) Q E s₂) E s₁) E s)
    (he : starEach [e1, e2] env = [(false, eval e1 env), (false, eval e2 env)]) : wpAny (model prog w) A (callWith pos f first (backTo pos (starEach [e1, e2] env)) []) Q E s := by
  rw [he]
  exact callWith_of (P := K.In) rfl (keeps_K hk) (evalArgs_plain (spliced_cons (wpAny_mono h (fun _ _ h₁ => spliced_cons (wpAny_mono h₁ (fun _ _ h₂ => spliced_nil ⟨h₂.1.k, h₂.2⟩) fun _ _ x => x)) fun _ _ x => x)))
theorem cw_M0 {pos : Pos} {f x : Value} (hk : keepIn K f = true) (G : Gd K s.heap) (h : wpAny (model prog w) A (call f [x]) Q E s) :
    wpAny (model prog w) A (callWith pos f [x] (backTo pos (starEach [] env)) []) Q E s := cw_K0 hk G h
theorem cw_F1 {pos : Pos} {f : Value} {e1 : Expr} (_G : Gd K s.heap) (hk : keepIn K f = true)
    (h : wpAny (model prog w) A (eval e1 env) (fun v s₁ => Gd K s₁.heap ∧ wpAny (model prog w) A (call f [v]) Q E s₁) E s)
    (he : starEach [e1] env = [(false, eval e1 env)]) : wpAny (model prog w) A (callWith pos f [] (backTo pos (starEach [e1] env)) []) Q E s := cw_K1 hk h he
theorem cw_M1 {pos : Pos} {f x : Value} {e1 : Expr} (_G : Gd K s.heap) (hk : keepIn K f = true)
    (h : wpAny (model prog w) A (eval e1 env) (fun v s₁ => Gd K s₁.heap ∧ wpAny (model prog w) A (call f [x, v]) Q E s₁) E s)
    (he : starEach [e1] env = [(false, eval e1 env)]) : wpAny (model prog w) A (callWith pos f [x] (backTo pos (starEach [e1] env)) []) Q E s := cw_K1 hk h he
theorem cw_F2 {pos : Pos} {f : Value} {e1 e2 : Expr} (_G : Gd K s.heap) (hk : keepIn K f = true)
    (h : wpAny (model prog w) A (eval e1 env) (fun v s₁ => wpAny (model prog w) A (eval e2 env) (fun v2 s₂ => Gd K s₂.heap ∧ wpAny (model prog w) A (call f [v, v2]) Q E s₂) E s₁) E s)
    (he : starEach [e1, e2] env = [(false, eval e1 env), (false, eval e2 env)]) : wpAny (model prog w) A (callWith pos f [] (backTo pos (starEach [e1, e2] env)) []) Q E s := cw_K2 hk h he
end

end Mine
end
section
open PySem PySem.W PyProof.Rows PySem.Calls
set_option maxRecDepth 100000
namespace Mine

/-- x may be walked: n items, the i-th as P says -/
def Iters (prog : Program) (w : World) (A : Around) (B : Heap) (s : Shared) (x : Value) (n : Nat) (P : Nat → Value → Prop) : Prop :=
  ∀ (Q : Value → Shared → Prop) (E : Value → Shared → Prop), (∀ I fp St s', Walks prog w A I fp [I] n P St → St 0 s'.heap → (∀ b ∈ fp, b = I ∨ ∃ o, B.get? b = some o) → (∀ i h, St i h → ∃ o, h.get? I = some o) → s.heap.get? I = none → Gr s s' → Q (.ref I) s') →
    wpAny (model prog w) A (pyIter x) Q E s

def LoopR (Q : Flow → Shared → Prop) : Result → Shared → Prop := fun r s' => match r with | .ok f => Q f s' | .error _ => False
def LpEnd (N : Shared → Prop) (Q : Flow → Shared → Prop) : Flow → Shared → Prop := fun f s => match f with | .next => N s | .cont => N s | .brk => Q .next s | .ret v => Q (.ret v) s

section
variable {prog : Program} {w : World} {A : Around} {E : Value → Shared → Prop} {s₀ s : Shared} {env : Env} {K : Frag} {B : Heap} {L : Addr} {l : List (Str × Value)} {ob : List (Addr × Obj)} {rest : List Stmt} {Q : Flow → Shared → Prop}

theorem lp_next {N : Shared → Prop} (h : N s) : LpEnd N Q .next s := h
theorem lp_cont {N : Shared → Prop} (h : N s) : LpEnd N Q .cont s := h
theorem lp_brk {N : Shared → Prop} (h : Q .next s) : LpEnd N Q .brk s := h
theorem lp_ret {N : Shared → Prop} {v : Value} (h : Q (.ret v) s) : LpEnd N Q (.ret v) s := h

theorem s_for {target iter : Expr} {body : List Stmt} {pos : Pos}
    (h : wpAny (model prog w) A (eval iter env) (fun x s₁ => wpAny (model prog w) A (pyIter x) (fun it s₂ =>
      codeAny (model prog w) A (.forLoop target it body [] env) (LoopR (Then (model prog w) A env rest Q E)) s₂) E s₁) E s)
    (hs : ∀ x, foldedSetIterable iter env x = pure x) : wpAny (model prog w) A (execs (.For target iter body [] pos :: rest) env) Q E s :=
  s_cons (wpAny_For (wpAny_mono h (fun x s₁ h₁ => wpAny_mono h₁ (fun it s₂ h₂ => codeAny_mono h₂ fun r s' hr => by
    cases r with
    | ok f => exact hr
    | error e => exact hr.elim) fun _ _ x => x) fun _ _ x => x) hs)

/-- the ledger's row for an iterator -/
def exOf (h : Heap) (I : Addr) : List (Addr × Obj) := match h.get? I with | some o => [(I, o)] | none => []
theorem exOf_mem {h : Heap} {I : Addr} {p : Addr × Obj} (hp : p ∈ exOf h I) : p.1 = I ∧ h.get? I = some p.2 := by
  unfold exOf at hp
  split at hp
  · rename_i o e
    rcases List.mem_cons.mp hp with rfl | hp
    · exact ⟨rfl, e⟩
    · cases hp
  · cases hp

theorem Fm.addEx {I : Addr} (F : Fm K s₀ B L s l ob) (h1 : B.get? I = none) (h2 : I ≠ L) (h3 : I ∉ List.map Prod.fst ob) : Fm K s₀ B L s l (ob ++ exOf s.heap I) := by
  refine ⟨F.gd, F.ns, F.kp, F.no, fun p hp => ?_, ?_, F.sm⟩
  · rcases List.mem_append.mp hp with hp | hp
    · exact F.obs p hp
    · obtain ⟨e, o⟩ := exOf_mem hp
      exact ⟨e ▸ o, e ▸ h2, e ▸ h1⟩
  · rw [List.map_append, List.nodup_append]
    refine ⟨F.nd, ?_, fun a ha b hb e => ?_⟩
    · unfold exOf
      split <;> simp
    · obtain ⟨p, hp, rfl⟩ := List.mem_map.mp hb
      exact h3 ((exOf_mem hp).1 ▸ e ▸ ha)
theorem Fm.subEx {ex : List (Addr × Obj)} (F : Fm K s₀ B L s l (ob ++ ex)) : Fm K s₀ B L s l ob := F.drop (List.sublist_append_left _ _)
theorem Fm.notEx {I : Addr} {ob' : List (Addr × Obj)} {h : Heap} (F : Fm K s₀ B L s l (ob' ++ exOf h I)) (hI : ∃ o, h.get? I = some o) : I ∉ List.map Prod.fst ob' := by
  have nd := F.nd
  rw [List.map_append, List.nodup_append] at nd
  obtain ⟨o, ho⟩ := hI
  intro q
  exact nd.2.2 I q I (by unfold exOf; rw [ho]; simp) rfl
/-- the iterator has turned -/
theorem Fm.turn {s' : Shared} {I : Addr} (F : Fm K s₀ B L s l ob) (h1 : B.get? I = none) (h2 : I ≠ L) (h3 : I ∉ List.map Prod.fst ob)
    (k : ∀ b o, b ∉ [I] → s.heap.get? b = some o → s'.heap.get? b = some o) (hm : Sm s s') : Fm K s₀ B L s' l ob := by
  have q : ∀ {b : Addr}, b ≠ I → b ∉ [I] := fun h => by simpa using h
  exact ⟨F.gd, F.ns.keeps fun o e => k _ _ (q (Ne.symm h2)) e, fun b o e => k _ _ (q (by rintro rfl; rw [h1] at e; cases e)) (F.kp b o e), F.no,
    fun p hp => ⟨k _ _ (q fun e => h3 (e ▸ List.mem_map_of_mem hp)) (F.obs p hp).1, (F.obs p hp).2⟩, F.nd, F.sm.trans hm⟩

theorem for_iter {x : Str} {p : Pos} {body : List Stmt} {xv : Value} {n : Nat} {P : Nat → Value → Prop} (F : Fm K s₀ B L s l ob) (it : Iters prog w A B s xv n P)
    (inv : Nat → List (Str × Value) → List (Addr × Obj) → Prop) (h0 : inv 0 l ob)
    (step : ∀ i s l ob ex v, i < n → inv i l ob → P i v → Fm K s₀ B L s l (ob ++ ex) →
      wpAny (model prog w) A (storeName env x v) (fun _ s₂ => wpAny (model prog w) A (execs body env)
        (LpEnd (fun s₃ => ∃ l' ob', inv (i + 1) l' ob' ∧ Fm K s₀ B L s₃ l' (ob' ++ ex)) Q) (fun _ _ => False) s₂) (fun _ _ => False) s)
    (fin : ∀ s l ob, inv n l ob → Fm K s₀ B L s l ob → Q .next s) :
    wpAny (model prog w) A (pyIter xv) (fun it s₂ => codeAny (model prog w) A (.forLoop (.Name x p) it body [] env) (LoopR Q) s₂) E s := by
  refine it _ _ fun I fp St s₁ W st hfp hal hI g => ?_
  have F₁ := F.gr g
  have hB : B.get? I = none := Kp.none F.kp hI
  have hL : I ≠ L := by
    rintro rfl
    obtain ⟨o, ho⟩ := F.ns.get
    rw [ho] at hI; cases hI
  have hob : I ∉ List.map Prod.fst ob := fun q => by
    obtain ⟨p, hp, e⟩ := List.mem_map.mp q
    have := (F.obs p hp).1
    rw [show p.1 = I from e, hI] at this; cases this
  refine codeAny_forLoop (fun m s => ∃ i l ob, m = n - i ∧ i ≤ n ∧ inv i l ob ∧ Fm K s₀ B L s l ob ∧ St i s.heap ∧ I ∉ List.map Prod.fst ob) (fun m s hm => ?_) n ⟨0, l, ob, by simp, Nat.zero_le _, h0, F₁, st, hob⟩
  obtain ⟨i, l, ob, rfl, hi, hinv, F, st, hob⟩ := hm
  rcases Nat.lt_or_ge i n with hlt | hge
  · refine W.item i s _ _ hlt st fun v h' tk hP st' hk => ?_
    have F' : Fm K s₀ B L { s with heap := h', toks := tk } l ob := F.turn hB hL hob hk Sm.mk'
    have F'' := F'.addEx hB hL hob
    refine wpAny_assign_Name (wpAny_mono (step i _ l ob _ v hlt hinv hP F'') (fun _ s₂ h₂ => wpAny_mono h₂ (fun f s₃ h₃ => ?_) fun _ _ z => z.elim) fun _ _ z => z.elim)
    have nxt : (∃ l' ob', inv (i + 1) l' ob' ∧ Fm K s₀ B L s₃ l' (ob' ++ exOf h' I)) → ∃ m, m < n - i ∧ ∃ i l ob, m = n - i ∧ i ≤ n ∧ inv i l ob ∧ Fm K s₀ B L s₃ l ob ∧ St i s₃.heap ∧ I ∉ List.map Prod.fst ob := by
      rintro ⟨l', ob', hin, F3⟩
      have fr : St (i + 1) s₃.heap := W.frame (i + 1) h' s₃.heap st' fun b hb o e => by
        rcases hfp b hb with rfl | ⟨o', ho'⟩
        · exact F3.get (List.mem_append_right _ (by unfold exOf; rw [e]; exact .head _))
        · have := F''.kp b o' ho'
          rw [show ({ s with heap := h', toks := tk } : Shared).heap = h' from rfl, e] at this
          cases this
          exact F3.kp b o ho'
      exact ⟨n - (i + 1), by omega, i + 1, l', ob', rfl, hlt, hin, F3.subEx, fr, F3.notEx (hal _ _ st')⟩
    cases f with
    | next => exact nxt h₃
    | cont => exact nxt h₃
    | brk => exact h₃
    | ret v => exact h₃
  · have e : i = n := Nat.le_antisymm hi hge
    subst e
    refine W.done s _ _ st fun h' tk hk => ?_
    exact wpAny_execs_nil (fin _ l ob hinv (F.turn hB hL hob hk Sm.mk'))

theorem it_list {B : Heap} {a : Addr} {items : Array Value} (hh : A.handled = none) (k : Kp B s.heap) (h : B.IsList a items) : Iters prog w A B s (.ref a) items.size (fun i v => items[i]? = some v) := by
  intro Q E hQ
  have hl : s.heap.IsList a items := let ⟨o, ho, r⟩ := h; ⟨o, k _ _ ho, r⟩
  have ha : a < s.heap.objs.size := let ⟨o, ho, _⟩ := hl; Heap.lt_size ho
  refine wpAny_pyIter_list hl (hQ s.heap.objs.size [s.heap.objs.size, a] (fun i h => h.IsListIter s.heap.objs.size a i ∧ h.IsList a items) _ (Walks.list hh _ a (Nat.ne_of_lt ha) items) ⟨⟨_, Heap.get?_push_size _ rfl, rfl, rfl⟩, hl.push _⟩ (fun b hb => ?_) (fun i h st => let ⟨o, ho, _⟩ := st.1; ⟨o, ho⟩) (get_none_of_le (Nat.le_refl _)) ⟨⟨rfl, rfl, rfl⟩, Kp.push _⟩)
  rcases List.mem_cons.mp hb with e | hb
  · exact .inl e
  · exact .inr (by rw [List.mem_singleton.mp hb]; let ⟨o, ho, _⟩ := h; exact ⟨o, ho⟩)
theorem it_tuple {B : Heap} {a : Addr} {items : Array Value} (hh : A.handled = none) (k : Kp B s.heap) (h : IsTup B a items) : Iters prog w A B s (.ref a) items.size (fun i v => items[i]? = some v) := by
  intro Q E hQ
  have hl : s.heap.IsTuple a items := let ⟨o, ho, r⟩ := h; ⟨o, k _ _ ho, r⟩
  have ha : a < s.heap.objs.size := let ⟨o, ho, _⟩ := hl; Heap.lt_size ho
  refine wpAny_pyIter_tuple hl (hQ s.heap.objs.size [s.heap.objs.size, a] (fun i h => h.IsTupleIter s.heap.objs.size a i ∧ h.IsTuple a items) _ (Walks.tuple hh _ a (Nat.ne_of_lt ha) items) ⟨⟨_, Heap.get?_push_size _ rfl, rfl, rfl⟩, hl.push _⟩ (fun b hb => ?_) (fun i h st => let ⟨o, ho, _⟩ := st.1; ⟨o, ho⟩) (get_none_of_le (Nat.le_refl _)) ⟨⟨rfl, rfl, rfl⟩, Kp.push _⟩)
  rcases List.mem_cons.mp hb with e | hb
  · exact .inl e
  · exact .inr (by rw [List.mem_singleton.mp hb]; let ⟨o, ho, _⟩ := h; exact ⟨o, ho⟩)
theorem it_str {B : Heap} {x : Str} {t : Tok} (hh : A.handled = none) : Iters prog w A B s (.str x t) x.cps.size (SignAt x) := by
  intro Q E hQ
  cases ha : x.cps.all (· < 128)
  · exact wpAny_pyIter_wide ha (hQ _ _ _ _ (Walks.strWide hh _ x t) ⟨_, Heap.get?_push_size _ rfl, rfl, rfl⟩ (fun b hb => .inl (List.mem_singleton.mp hb)) (fun i h st => let ⟨o, ho, _⟩ := st; ⟨o, ho⟩) (get_none_of_le (Nat.le_refl _)) ⟨⟨rfl, rfl, rfl⟩, Kp.push _⟩)
  · exact wpAny_pyIter_ascii ha (hQ _ _ _ _ (Walks.strAscii hh _ x t) ⟨_, Heap.get?_push_size _ rfl, rfl, rfl⟩ (fun b hb => .inl (List.mem_singleton.mp hb)) (fun i h st => let ⟨o, ho, _⟩ := st; ⟨o, ho⟩) (get_none_of_le (Nat.le_refl _)) ⟨⟨rfl, rfl, rfl⟩, Kp.push _⟩)
theorem it_range {B : Heap} {r : Addr} {a b c : Int} {t u v : Tok} {n : Nat} (hh : A.handled = none) (hr : IsRange s.heap r a b c t u v) (hsm : Builtin.Range.small a b c = true) (hn : Builtin.Range.rangeSize a b c = n) :
    Iters prog w A B s (.ref r) n (fun i v => ∃ t, v = .int (a + i * c) t) := by
  intro Q E hQ
  refine wpAny_pyIter_range hr hsm (hQ s.heap.objs.size _ _ _ (Walks.range hh _ a c n) ?_ (fun b hb => .inl (List.mem_singleton.mp hb)) (fun i h st => ⟨_, st⟩) (get_none_of_le (Nat.le_refl _)) ⟨⟨rfl, rfl, rfl⟩, Kp.push _⟩)
  have e1 : (a + ((0 : Nat) : Int) * c) = a := by simp
  have e2 : ((n : Int) - ((0 : Nat) : Int)) = Builtin.Range.rangeSize a b c := by rw [hn]; simp
  show IsRangeIter _ _ (a + ((0 : Nat) : Int) * c) ((n : Int) - ((0 : Nat) : Int)) c
  rw [e1, e2]
  exact Heap.get?_push_size _ rfl
end

section
variable {prog : Program} {w : World} {A : Around} {E : Value → Shared → Prop} {s₀ s : Shared} {K : Frag} {B : Heap} {L : Addr} {l : List (Str × Value)} {ob : List (Addr × Obj)} {Q : Value → Shared → Prop}
/-- range(..) that is walked at once -/
theorem b_range1 {n : Int} {t : Tok} (hh : A.handled = none) (F : Fm K s₀ B L s l ob) (h1 : -(2 ^ 62) ≤ n) (h2 : n < 2 ^ 62)
    (h : ∀ r s', Fm K s₀ B L s' l ob → (∀ B', Iters prog w A B' s' (.ref r) n.toNat (fun i v => ∃ t, v = .int i t)) → Q (.ref r) s') : wpAny (model prog w) A (call (.type "range") [.int n t]) Q E s := by
  refine call_range_1 (h _ _ (F.gr ⟨⟨rfl, rfl, rfl⟩, Kp.push _⟩) fun B' => ?_)
  have := it_range (prog := prog) (w := w) (A := A) (B := B') (s := { s with heap := s.heap.push { cls := .type "range", data := .fields #[.int 0 s.toks, .int n t, .int 1 (s.toks + 1)] }, toks := s.toks + 1 + 1 }) (n := n.toNat) hh (IsRange.new _ _ _ _ _ _ _)
    (small_one (by lia) (by lia) h1 h2) (by rw [rangeSize_one]; split <;> lia)
  simpa using this
theorem b_range2 {m n : Int} {t u : Tok} (hh : A.handled = none) (F : Fm K s₀ B L s l ob) (h1 : -(2 ^ 62) ≤ n) (h2 : n < 2 ^ 62) (h3 : -(2 ^ 62) ≤ m) (h4 : m < 2 ^ 62)
    (h : ∀ r s', Fm K s₀ B L s' l ob → (∀ B', Iters prog w A B' s' (.ref r) (n - m).toNat (fun i v => ∃ t, v = .int (m + i) t)) → Q (.ref r) s') : wpAny (model prog w) A (call (.type "range") [.int m t, .int n u]) Q E s := by
  refine call_range_2 (h _ _ (F.gr ⟨⟨rfl, rfl, rfl⟩, Kp.push _⟩) fun B' => ?_)
  have := it_range (prog := prog) (w := w) (A := A) (B := B') (s := { s with heap := s.heap.push { cls := .type "range", data := .fields #[.int m t, .int n u, .int 1 s.toks] }, toks := s.toks + 1 }) (n := (n - m).toNat) hh (IsRange.new _ _ _ _ _ _ _)
    (small_one h3 h4 h1 h2) (by rw [rangeSize_one]; split <;> lia)
  simpa using this
end
end Mine
end
section
open PySem PySem.W PyProof.Rows PySem.Calls
set_option maxRecDepth 100000
namespace Mine
section
variable {prog : Program} {w : World} {A : Around} {E : Value → Shared → Prop} {s₀ s : Shared} {env : Env} {K : Frag} {B : Heap} {L : Addr} {l : List (Str × Value)} {ob : List (Addr × Obj)} {Q : Value → Shared → Prop} {a b : Int} {t u : Tok}
theorem o_mul (F : Fm K s₀ B L s l ob) (hm : IntMulOk a b) (h : ∀ t' s', Fm K s₀ B L s' l ob → Q (.int (a * b) t') s') : wpAny (model prog w) A (binaryOp .Mult (.int a t) (.int b u)) Q E s :=
  PyProof.Rows.mul_int (h _ _ (F.gr Gr.tk)) hm
theorem mul_ok (ha : -(2 ^ 62) ≤ a) (hb : a < 2 ^ 62) : IntMulOk a b := IntMulOk.of_left (intBits_le_64 (by lia) (by lia))
theorem o_mod (F : Fm K s₀ B L s l ob) (hb : 0 < b) (h : ∀ t' s', Fm K s₀ B L s' l ob → Q (.int (a % b) t') s') : wpAny (model prog w) A (binaryOp .Mod (.int a t) (.int b u)) Q E s := by
  refine PyProof.Rows.mod_int (by lia) ?_
  rw [Int.fmod_eq_emod_of_nonneg _ (by lia)]
  exact h _ _ (F.gr Gr.tk)
theorem o_div (F : Fm K s₀ B L s l ob) (hb : 0 < b) (hp : Builtin.divisionGoesByPylong a b = false) (h : ∀ t' s', Fm K s₀ B L s' l ob → Q (.int (a / b) t') s') : wpAny (model prog w) A (binaryOp .FloorDiv (.int a t) (.int b u)) Q E s := by
  refine PyProof.Rows.floordiv_int (by lia) ?_ (.inl hp)
  rw [Int.fdiv_eq_ediv_of_nonneg _ (by lia)]
  exact h _ _ (F.gr Gr.tk)
theorem o_pow (F : Fm K s₀ B L s l ob) (hn : 0 ≤ b) (hsz : (Builtin.Int.intBits a : Int) * b ≤ 2 ^ 27) (h : ∀ t' s', Fm K s₀ B L s' l ob → Q (.int (a ^ b.toNat) t') s') : wpAny (model prog w) A (binaryOp .Pow (.int a t) (.int b u)) Q E s :=
  PyProof.Rows.pow_int hn hsz (h _ _ (F.gr Gr.tk))
theorem o_neg (F : Fm K s₀ B L s l ob) (h : ∀ t' s', Fm K s₀ B L s' l ob → Q (.int (-a) t') s') : wpAny (model prog w) A (unaryOp .USub (.int a t)) Q E s := PyProof.Rows.neg_int (h _ _ (F.gr Gr.tk))
theorem o_iadd (F : Fm K s₀ B L s l ob) (h : ∀ t' s', Fm K s₀ B L s' l ob → Q (.int (a + b) t') s') : wpAny (model prog w) A (inplaceOp .Add (.int a t) (.int b u)) Q E s := wpAny_iadd_int (h _ _ (F.gr Gr.tk))
theorem c_eq (h : Q (.bool (decide (a = b))) s) : wpAny (model prog w) A (compareOp .Eq (.int a t) (.int b u)) Q E s := PyProof.Rows.eq_int (by
  have e : (a == b) = decide (a = b) := by by_cases q : a = b <;> simp [q]
  rw [e]; exact h)
theorem c_ne (h : Q (.bool (decide (a ≠ b))) s) : wpAny (model prog w) A (compareOp .NotEq (.int a t) (.int b u)) Q E s := PyProof.Rows.ne_int (by
  have e : (a != b) = decide (a ≠ b) := by by_cases q : a = b <;> simp [q]
  rw [e]; exact h)
theorem c_lt (h : Q (.bool (decide (a < b))) s) : wpAny (model prog w) A (compareOp .Lt (.int a t) (.int b u)) Q E s := PyProof.Rows.lt_int h
theorem c_le (h : Q (.bool (decide (a ≤ b))) s) : wpAny (model prog w) A (compareOp .LtE (.int a t) (.int b u)) Q E s := PyProof.Rows.le_int h
theorem c_gt (h : Q (.bool (decide (b < a))) s) : wpAny (model prog w) A (compareOp .Gt (.int a t) (.int b u)) Q E s := PyProof.Rows.gt_int h
theorem c_ge (h : Q (.bool (decide (b ≤ a))) s) : wpAny (model prog w) A (compareOp .GtE (.int a t) (.int b u)) Q E s := PyProof.Rows.ge_int h
theorem c_is_none {v : Value} (hp : plainIs v .none = true) (h : Q (.bool (v == .none)) s) : wpAny (model prog w) A (compareOp .Is v .none) Q E s := wpAny_is_plain hp h
theorem c_eqs {x y : Str} (h : Q (.bool (decide (x = y))) s) : wpAny (model prog w) A (compareOp .Eq (.str x t) (.str y u)) Q E s := PyProof.Rows.eq_str (by
  have e : (x == y) = decide (x = y) := by by_cases q : x = y <;> simp [q]
  rw [e]; exact h)
theorem e_none {k : Nat} {pos : Pos} (h : Q .none s) : wpAny (model prog w) A (eval (.Constant .none k pos) env) Q E s := wpAny_Constant_none h
theorem e_bool {x : Bool} {k : Nat} {pos : Pos} (h : Q (.bool x) s) : wpAny (model prog w) A (eval (.Constant (.bool x) k pos) env) Q E s := fun _ _ _ => h
theorem e_ifexp {test body orelse : Expr} {pos : Pos}
    (h : wpAny (model prog w) A (isTrue test env (eval test env)) (fun b s₁ => if b = true then wpAny (model prog w) A (eval body env) Q E s₁ else wpAny (model prog w) A (eval orelse env) Q E s₁) E s) :
    wpAny (model prog w) A (eval (.IfExp test body orelse pos) env) Q E s := wpAny_IfExp (wpAny_mono h (fun b s₁ x => by cases b <;> exact x) fun _ _ x => x)
/-- an item of a tuple or list -/
theorem sub_tup {value slice : Expr} {T : Addr} {vs : List Value} {k : Int} {x : Value} (ht : IsTup s.heap T vs.toArray) (h0 : 0 ≤ k) (h1 : k < 2 ^ 62) (hx : vs[k.toNat]? = some x) (h : Q x s)
    (hs : subscripted slice false (.ref T) (.int k u) = operate [.ref T, .int k u] (getItem (.ref T) (.int k u))) : wpAny (model prog w) A (subscriptTail value slice (.ref T) (.int k u)) Q E s := by
  refine item_tupleT ht (by lia) (by lia) (j := k.toNat) ?_ hx h hs
  have hlt : k.toNat < vs.length := by
    rw [List.getElem?_eq_some_iff] at hx
    exact hx.1
  have hk : ¬ k < 0 := by lia
  have hk2 : (decide (0 ≤ k) && decide (k < (vs.length : Int))) = true := by simp; lia
  simp only [seqIndex?, hk, if_false, hk2, if_true]
theorem sub_list {value slice : Expr} {T : Addr} {vs : Array Value} {k : Int} {x : Value} (ht : s.heap.IsList T vs) (h0 : 0 ≤ k) (h1 : k < 2 ^ 62) (hx : vs[k.toNat]? = some x) (h : Q x s)
    (hs : subscripted slice false (.ref T) (.int k u) = operate [.ref T, .int k u] (getItem (.ref T) (.int k u))) : wpAny (model prog w) A (subscriptTail value slice (.ref T) (.int k u)) Q E s :=
  tail_any ht.typeIs slot_list_getitem.lookup (wpAny_getItem_list ht h0 (by lia) hx h) hs
end
section
variable {prog : Program} {w : World} {A : Around} {E : Value → Shared → Prop} {s₀ s : Shared} {env : Env} {Q : Bool → Shared → Prop}
theorem t_and {x y : Expr} {pos : Pos} {whole : Sem Value}
    (h : wpAny (model prog w) A (isTrue x env (eval x env)) (fun b s₁ => if b = true then wpAny (model prog w) A (isTrue y env (eval y env)) Q E s₁ else Q false s₁) E s) :
    wpAny (model prog w) A (isTrue (.BoolOp .And [x, y] pos) env whole) Q E s := by
  refine wpAny_isTrue_BoolOp (wpAny_allTrue_And_cons (wpAny_mono h (fun b s₁ hb => ?_) fun _ _ x => x))
  cases b
  · exact hb
  · exact wpAny_allTrue_And_cons (wpAny_mono hb (fun b s₂ hb => by
      cases b
      · exact hb
      · exact wpAny_allTrue_And_nil hb) fun _ _ x => x)
theorem t_not {x : Expr} {pos : Pos} {whole : Sem Value} (h : wpAny (model prog w) A (isTrue x env (eval x env)) (fun c s' => Q (!c) s') E s) :
    wpAny (model prog w) A (isTrue (.UnaryOp .Not x pos) env whole) Q E s := isTrue_not h
theorem cutB {K : Frag} {B : Heap} {L : Addr} {l : List (Str × Value)} {ob : List (Addr × Obj)} {t : Sem Bool} (_F : Fm K s₀ B L s l ob) (c : Prop) [Decidable c] (h1 : wpAny (model prog w) A t (fun b s' => b = decide c ∧ Fm K s₀ B L s' l ob) E s)
    (h2 : ∀ s', Fm K s₀ B L s' l ob → Q (decide c) s') : wpAny (model prog w) A t Q E s := wpAny_mono h1 (fun b s' ⟨e, F⟩ => by subst e; exact h2 s' F) fun _ _ x => x
theorem not_d {c : Prop} [Decidable c] {P : Bool → Prop} (h : P (decide (¬ c))) : P (!decide c) := by
  have e : (!decide c) = decide (¬ c) := by by_cases q : c <;> simp [q]
  rw [e]; exact h
end
end Mine
end
section
open PySem PySem.W PyProof.Rows PySem.Calls
set_option maxRecDepth 100000
namespace Mine

abbrev lsO (vs : List Value) (n : Nat) : Obj := listOf vs.toArray n
inductive UpO (a : Addr) (o o' : Obj) : Ob → Ob → Prop
  | head (r : Ob) : UpO a o o' ((a, o) :: r) ((a, o') :: r)
  | tail (p : Addr × Obj) {r r' : Ob} : UpO a o o' r r' → UpO a o o' (p :: r) (p :: r')
theorem UpO.split {a : Addr} {o o' : Obj} : ∀ {l l' : Ob}, UpO a o o' l l' → ∃ pre post, l = pre ++ (a, o) :: post ∧ l' = pre ++ (a, o') :: post
  | _, _, .head r => ⟨[], r, rfl, rfl⟩
  | _, _, .tail p r => let ⟨pre, post, a, b⟩ := r.split; ⟨p :: pre, post, by rw [a]; rfl, by rw [b]; rfl⟩
theorem UpO.app {a : Addr} {o o' : Obj} {l l' : Ob} (ex : Ob) (U : UpO a o o' l l') : UpO a o o' (l ++ ex) (l' ++ ex) := by
  induction U with
  | head r => exact .head _
  | tail p _ ih => exact .tail p ih

section
variable {K : Frag} {s₀ s s' : Shared} {B B' : Heap} {L : Addr} {l : List (Str × Value)} {ob ob' : List (Addr × Obj)}
theorem Fm.up {a : Addr} {o o' : Obj} (F : Fm K s₀ B L s l ob) (U : UpO a o o' ob ob') (hs : Heap.SameBut a s.heap s'.heap) (ha : s'.heap.get? a = some o') (hm : Sm s s') : Fm K s₀ B L s' l ob' := by
  obtain ⟨pre, post, rfl, rfl⟩ := U.split
  exact F.upd hs ha hm
theorem UpO.mem {a : Addr} {o o' : Obj} (U : UpO a o o' ob ob') : (a, o) ∈ ob := by
  obtain ⟨pre, post, rfl, rfl⟩ := U.split
  simp
/-- a callee has turned one thing -/
theorem Fm.upH {a : Addr} {o o' : Obj} (F : Fm K s₀ B L s l ob) (U : UpO a o o' ob ob') (hk : Kp (s.heap.hide a) s'.heap) (ha : s'.heap.get? a = some o') (hm : Sm s s') : Fm K s₀ B L s' l ob' := by
  obtain ⟨pre, post, rfl, rfl⟩ := U.split
  have D := F.obs (a, o) (by simp)
  have nd := F.nd
  have k : ∀ b o, b ≠ a → s.heap.get? b = some o → s'.heap.get? b = some o := fun b o hb e => hk b o ((Heap.hide_ne _ hb).trans e)
  refine ⟨F.gd, F.ns.keeps fun o e => k _ _ (Ne.symm D.2.1) e, fun b x q => k _ _ (fun z => ?_) (F.kp b x q), F.no, fun p hp => ?_, by simpa using nd, F.sm.trans hm⟩
  · have := D.2.2; rw [← z, q] at this; cases this
  · rcases List.mem_append.mp hp with q | q
    · have P := F.obs p (List.mem_append_left _ q)
      refine ⟨k _ _ (fun e => ?_) P.1, P.2⟩
      rw [List.map_append, List.map_cons, List.nodup_append] at nd
      exact nd.2.2 p.1 (List.mem_map_of_mem q) a (.head _) e
    · rcases List.mem_cons.mp q with rfl | q
      · exact ⟨ha, D.2⟩
      · have P := F.obs p (List.mem_append_right _ (.tail _ q))
        refine ⟨k _ _ (fun e => ?_) P.1, P.2⟩
        rw [List.map_append, List.map_cons, List.nodup_append, List.nodup_cons] at nd
        exact nd.2.1.1 (e ▸ (List.mem_map_of_mem q : p.1 ∈ List.map Prod.fst post))
theorem Fm.kpHide {a : Addr} {o : Obj} (F : Fm K s₀ B L s l ob) (hm : (a, o) ∈ ob) : Kp B (s.heap.hide a) := fun b x e =>
  (Heap.hide_ne _ (fun q => by have := (F.obs _ hm).2.2; rw [← q, e] at this; cases this)).trans (F.kp b x e)
end

section
variable {prog : Program} {w : World} {A : Around} {E : Value → Shared → Prop} {s₀ s : Shared} {env : Env}
  {K : Frag} {B : Heap} {L : Addr} {l : List (Str × Value)} {ob ob' : List (Addr × Obj)}
/-- a call of a def without cells that raises nothing and may turn one thing -/
theorem call_fnH (binds : List (Str × Value)) {name qual : Str} {params : Arguments} {body : List Stmt} {scope : Scope} {cl : List (Str × Addr)} {dV kV doc pm cdv ct oc : Value} {an od : Option Addr} {osl : Array (Option Value)} {f a : Addr} {o : Obj} {pos : List Value} {kw : List (Str × Value)}
    {Q : Value → Shared → Prop} {k : Nat}
    (R : Rm A (k + 1)) (G : Gd K (s.heap.hide a)) (ha : s.heap.get? a = some o)
    (ho : K.lookup f = some ⟨oc, od, .func (fnX name qual params body scope cl dV kV doc pm an cdv ct), osl⟩) (hcd : codeIn K cdv qual = true)
    (hbind : BindsTo s (fnX name qual params body scope cl dV kV doc pm an cdv ct) ⟨pos, kw⟩ binds) (hloc : (binds.all fun x => decide (scope.names.lookup x.1 = some .local)) = true)
    (hcell : (scope.names.all fun x => decide (x.2 ≠ .cell)) = true)
    (h : ∀ L s' A', L = s.heap.objs.size → Fm K s (s.heap.hide a) L s' binds.reverse [(a, o)] → Rm A' k →
      wpAny (model prog w) A' (execs body (envX qual scope L f cdv cl)) (RetTo Q) (fun _ _ => False) s')
    (hco : scope.isCoroutine = false) (hgen : scope.isGenerator = false) (hk : scope.kind = .function) : wpAny (model prog w) A (call (.ref f) pos kw) Q E s := by
  have kh : Kp (s.heap.hide a) s.heap := fun b x e => Heap.of_hide e
  have G' := G.kp kh
  refine call_fn binds R G' ho hcd hbind hloc hcell (fun L s' A' hL F R' => h L s' A' hL ?_ R') hco hgen hk
  refine ⟨G, F.ns, kh.trans F.kp, ?_, fun p hp => ?_, by simp, F.sm⟩
  · exact Kp.none kh F.no
  · rcases List.mem_cons.mp hp with rfl | hp
    · refine ⟨F.kp _ _ ha, fun q => ?_, Heap.hide_self _ _⟩
      have q : a = L := q
      rw [q, F.no] at ha; cases ha
    · cases hp
end
end Mine
end
section
open PySem PySem.W PyProof.Rows PySem.Calls
set_option maxRecDepth 100000
namespace Mine
section
variable {prog : Program} {w : World} {A : Around} {E : Value → Shared → Prop} {s₀ s : Shared} {env : Env}
  {K : Frag} {B : Heap} {L : Addr} {l : List (Str × Value)} {ob ob' : List (Addr × Obj)} {rest : List Stmt}

theorem s_whileR {test : Expr} {body : List Stmt} {pos : Pos} {Q : Flow → Shared → Prop} (h : codeAny (model prog w) A (.whileLoop test body [] env) (LoopR (Then (model prog w) A env rest Q E)) s) :
    wpAny (model prog w) A (execs (.While test body [] pos :: rest) env) Q E s :=
  s_while (codeAny_mono h fun r s' x => by cases r with | ok f => exact x | error e => exact x.elim)
theorem while_inv {test : Expr} {body : List Stmt} {Q : Flow → Shared → Prop} (n : Nat) (F : Fm K s₀ B L s l ob) (inv : Nat → Ls → Ob → Prop) (h0 : inv n l ob)
    (turn : ∀ n s l ob, inv n l ob → Fm K s₀ B L s l ob → wpAny (model prog w) A (isTrue test env (eval test env)) (fun b s₂ => if b = true
      then wpAny (model prog w) A (execs body env) (LpEnd (fun s₃ => ∃ m l' ob', m < n ∧ inv m l' ob' ∧ Fm K s₀ B L s₃ l' ob') Q) (fun _ _ => False) s₂
      else Q .next s₂) (fun _ _ => False) s) : codeAny (model prog w) A (.whileLoop test body [] env) (LoopR Q) s := by
  refine codeAny_whileLoop (fun n s => ∃ l ob, inv n l ob ∧ Fm K s₀ B L s l ob) (fun n s hI => ?_) n ⟨l, ob, h0, F⟩
  obtain ⟨l, ob, hi, F⟩ := hI
  refine wpAny_mono (turn n s l ob hi F) (fun b s₂ hb => ?_) fun _ _ x => x.elim
  cases b with
  | false => exact wpAny_execs_nil hb
  | true =>
    refine wpAny_mono hb (fun f s₃ hf => ?_) fun _ _ x => x.elim
    have nx : (∃ m l' ob', m < n ∧ inv m l' ob' ∧ Fm K s₀ B L s₃ l' ob') → ∃ m, m < n ∧ ∃ l ob, inv m l ob ∧ Fm K s₀ B L s₃ l ob := fun ⟨m, l', ob', h1, h2, h3⟩ => ⟨m, h1, l', ob', h2, h3⟩
    cases f with
    | next => exact nx hf
    | cont => exact nx hf
    | brk => exact hf
    | ret v => exact hf

theorem s_expr {value : Expr} {pos : Pos} {Q : Flow → Shared → Prop} (h : wpAny (model prog w) A (eval value env) (fun _ s₁ => wpAny (model prog w) A (execs rest env) Q E s₁) E s)
    (hi : interactive env = false) (hs : swapsWith value none pos.line env = pure false) : wpAny (model prog w) A (execs (.Expr value pos :: rest) env) Q E s :=
  s_cons (wpAny_Expr_any (wpAny_mono h (fun _ _ x => x) fun _ _ x => x) hi hs)
end

section
variable {prog : Program} {w : World} {A : Around} {E : Value → Shared → Prop} {s₀ s : Shared} {env : Env}
  {K : Frag} {B : Heap} {L : Addr} {l : List (Str × Value)} {ob ob' : List (Addr × Obj)} {Q : Value → Shared → Prop}
theorem sp_cons {e : Expr} {es : List Expr} {pos : Pos} {Q : List Value → Shared → Prop} (h : wpAny (model prog w) A (eval e env) (fun v s₁ => wpAny (model prog w) A (spliced (backTo pos (starEach es env))) (fun vs s₂ => Q (v :: vs) s₂) E s₁) E s)
    (he : starEach (e :: es) env = (false, eval e env) :: starEach es env) : wpAny (model prog w) A (spliced (backTo pos (starEach (e :: es) env))) Q E s := by
  rw [he]
  exact spliced_cons h
theorem sp_nil {pos : Pos} {Q : List Value → Shared → Prop} (h : Q [] s) : wpAny (model prog w) A (spliced (backTo pos (starEach [] env))) Q E s := spliced_nil h
theorem e_callkw {x : Str} {np pos : Pos} {args : List Expr} {kws : List Keyword}
    (h : wpAny (model prog w) A (eval (.Name x np) env) (fun f s₁ => wpAny (model prog w) A (callWith pos f [] (backTo pos (starEach args env)) (backToKw pos (keywordEach kws env))) Q E s₁) E s) :
    wpAny (model prog w) A (eval (.Call (.Name x np) args kws pos) env) Q E s := wpAny_Call_Name_kw h
/-- one keyword -/
theorem cw_KW {pos : Pos} {f : Value} {first : List Value} {e kv : Expr} {es : List Expr} {k : Str} {kp : Pos} (G : Gd K s.heap) (hk : keepIn K f = true)
    (h : wpAny (model prog w) A (spliced (backTo pos (starEach (e :: es) env))) (fun vs s₁ => wpAny (model prog w) A (eval kv env)
      (fun v s₂ => Gd K s₂.heap ∧ wpAny (model prog w) A (call f (first ++ vs) [(k, v)]) Q E s₂) E s₁) E s)
    (hplain : ((backTo pos (starEach (e :: es) env)).any (·.1) || (backToKw pos (keywordEach [⟨some k, kv, kp⟩] env)).any (·.1.isNone)) = false) (he : starEach (e :: es) env = (false, eval e env) :: starEach es env) :
    wpAny (model prog w) A (callWith pos f first (backTo pos (starEach (e :: es) env)) (backToKw pos (keywordEach [⟨some k, kv, kp⟩] env))) Q E s := by
  refine callWith_KW (h₀ := s.heap) G.k hk rfl (wpAny_mono h (fun vs s₁ h₁ => ?_) fun _ _ x => x) hplain he
  refine wpAny_evalAll_cons (wpAny_bind (wpAny_mono h₁ (fun v s₂ h₂ => wpAny_bind (wpAny_standAt (wpAny_pure ?_))) fun _ _ x => x))
  exact wpAny_evalAll_nil ⟨h₂.1.k, h₂.2⟩
/-- a function that the call has made -/
theorem cw_fn1 {pos : Pos} {f : Addr} {o : Obj} {fd : FuncData} {e1 : Expr}
    (h : wpAny (model prog w) A (eval e1 env) (fun v s₁ => (s₁.heap.get? f = some o ∧ o.data = .func fd) ∧ wpAny (model prog w) A (call (.ref f) [v]) Q E s₁) E s)
    (he : starEach [e1] env = [(false, eval e1 env)]) : wpAny (model prog w) A (callWith pos (.ref f) [] (backTo pos (starEach [e1] env)) []) Q E s := by
  rw [he]
  exact callWith_function_kw (o := o) (fd := fd) (evalArgs_plain (spliced_cons (wpAny_mono h (fun _ _ h₁ => spliced_nil h₁) fun _ _ x => x)))
/-- a list's method -/
theorem gm_list {a : Addr} {vs : List Value} {n : Nat} {name : Str} {id : String} {pl : Sem Bool} {Q : Value × List Value → Shared → Prop} (ha : s.heap.get? a = some (lsO vs n)) (slot : Slot "list" name id) (hty : typeOf (.builtin id) = pure (.type "method_descriptor"))
    (h : Q (.builtin id, [.ref a]) s) : wpAny (model prog w) A (getMethod (.ref a) name pl) Q E s :=
  getMethod_builtin ⟨_, ha, rfl⟩ PySem.F.plainAttrs_list slot hty (fun b e => by cases e; exact ⟨_, ha, rfl⟩) h
theorem cwb_M1 {pos : Pos} {id : String} {x : Value} {e1 : Expr} (h : wpAny (model prog w) A (eval e1 env) (fun v s₁ => wpAny (model prog w) A (call (.builtin id) [x, v]) Q E s₁) E s)
    (he : starEach [e1] env = [(false, eval e1 env)]) : wpAny (model prog w) A (callWith pos (.builtin id) [x] (backTo pos (starEach [e1] env)) []) Q E s := by
  rw [he]
  exact callWith_builtin rfl (evalArgs_plain (spliced_cons (wpAny_mono h (fun _ _ h₁ => spliced_nil h₁) fun _ _ x => x)))
theorem cwb_M2 {pos : Pos} {id : String} {x : Value} {e1 e2 : Expr}
    (h : wpAny (model prog w) A (eval e1 env) (fun v s₁ => wpAny (model prog w) A (eval e2 env) (fun v2 s₂ => wpAny (model prog w) A (call (.builtin id) [x, v, v2]) Q E s₂) E s₁) E s)
    (he : starEach [e1, e2] env = [(false, eval e1 env), (false, eval e2 env)]) : wpAny (model prog w) A (callWith pos (.builtin id) [x] (backTo pos (starEach [e1, e2] env)) []) Q E s := by
  rw [he]
  exact callWith_builtin rfl (evalArgs_plain (spliced_cons (wpAny_mono h (fun _ _ h₁ => spliced_cons (wpAny_mono h₁ (fun _ _ h₂ => spliced_nil h₂) fun _ _ x => x)) fun _ _ x => x)))
theorem m_append {a : Addr} {vs : List Value} {n : Nat} {x : Value} (F : Fm K s₀ B L s l ob) (U : UpO a (lsO vs n) (lsO (vs ++ [x]) (n + 1)) ob ob') (hz : vs.length ≤ sizeLine)
    (h : ∀ s', Fm K s₀ B L s' l ob' → Q .none s') : wpAny (model prog w) A (call (.builtin "list.append") [.ref a, x]) Q E s := by
  refine append_at (F.get U.mem) (fun h' hs ho => h _ (F.up (s' := { s with heap := h' }) U hs ?_ ⟨rfl, rfl, rfl⟩)) (by simpa using hz)
  rw [ho]; simp
def insAt (vs : List Value) (k : Nat) (y : Value) : List Value := vs.take k ++ y :: vs.drop k
theorem m_insert {a : Addr} {vs : List Value} {n : Nat} {k : Int} {u : Tok} {y : Value} (F : Fm K s₀ B L s l ob) (h0 : 0 ≤ k) (h1 : k ≤ vs.length) (hz : vs.length ≤ sizeLine) (U : UpO a (lsO vs n) (lsO (insAt vs k.toNat y) (n + 1)) ob ob')
    (h : ∀ s', Fm K s₀ B L s' l ob' → Q .none s') : wpAny (model prog w) A (call (.builtin "list.insert") [.ref a, .int k u, y]) Q E s := by
  have z := F.get U.mem
  have hf : Builtin.List.listFitsIndex k = true := by
    unfold Builtin.List.listFitsIndex
    have := sizeLine_eq
    simp; lia
  have hmin : min k.toNat vs.length = k.toNat := by lia
  refine call_meets PySem.F.slot_list_insert ⟨_, z, rfl⟩ PySem.F.entry_list_insert (PySem.F.args_list_insert_3 _ _ _) (PySem.AutoSeq1.list_insert_list_int_val_1 a _ n k u y (by simp [hf]) (by rw [List.size_toArray]; exact hz)) ⟨z, h _ (F.up (s' := { s with heap := _ }) U (Heap.SameBut.update ..) ?_ ⟨rfl, rfl, rfl⟩)⟩
  refine (PySem.IsL.update z _).trans ?_
  have e : (have j := if k < 0 then (k + ((vs.toArray.size : Nat) : Int)).toNat else min k.toNat vs.toArray.size; (vs.toArray.extract 0 j).push y ++ vs.toArray.extract j) = (insAt vs k.toNat y).toArray := by
    rw [if_neg (by lia), List.size_toArray, hmin]
    exact kl_ins_eq vs k.toNat y
  rw [e, if_neg (by simp [insAt]; lia)]
end
end Mine
end
section
open PySem PySem.W PyProof.Rows PySem.Calls
set_option maxRecDepth 100000
namespace Mine
section
variable {prog : Program} {w : World} {A : Around} {E : Value → Shared → Prop} {s₀ s : Shared} {env : Env}
  {K : Frag} {B : Heap} {L : Addr} {l : List (Str × Value)} {ob ob' : List (Addr × Obj)} {rest : List Stmt}

/-- the very heap, as frame and news of the library: every thing but L and a -/
def allBut (h : Heap) (L a : Addr) : Ob := (List.range h.objs.size).filterMap fun b => if b = L ∨ b = a then none else (h.get? b).map (b, ·)
theorem allBut_mem {h : Heap} {L a b : Addr} {o : Obj} (hb : h.get? b = some o) (h1 : b ≠ L) (h2 : b ≠ a) : (b, o) ∈ allBut h L a := by
  unfold allBut
  rw [List.mem_filterMap]
  refine ⟨b, List.mem_range.mpr (Heap.lt_size hb), ?_⟩
  rw [if_neg (by simp [h1, h2]), hb]; rfl
theorem allBut_of {h : Heap} {L a : Addr} {p : Addr × Obj} (hp : p ∈ allBut h L a) : h.get? p.1 = some p.2 ∧ p.1 ≠ L ∧ p.1 ≠ a := by
  unfold allBut at hp
  rw [List.mem_filterMap] at hp
  obtain ⟨b, _, e⟩ := hp
  split at e
  · cases e
  · rename_i q
    cases g : h.get? b with
    | none => rw [g] at e; cases e
    | some o =>
      rw [g] at e; cases e
      exact ⟨g, fun x => q (.inl x), fun x => q (.inr x)⟩
theorem get_empty (a : Addr) : ({} : Heap).get? a = none := get_none_of_le (Nat.zero_le _)
theorem Fm.adapt {a : Addr} {o : Obj} (F : Fm K s₀ B L s l ob) (hm : (a, o) ∈ ob) : ∃ m, Fr {} L s.heap m ∧ News {} L s.heap ([] ++ (a, o) :: allBut s.heap L a) ∧
    ∀ s' o', Fr {} L s'.heap m → News {} L s'.heap ([] ++ (a, o') :: allBut s.heap L a) → Sm s s' → ∀ ob', UpO a o o' ob ob' → Fm K s₀ B L s' l ob' := by
  obtain ⟨m, n, e⟩ := F.ns
  have D := F.obs _ hm
  refine ⟨m, ⟨n, fun b o q => (by rw [get_empty] at q; cases q), Nat.zero_le _⟩, fun p hp => ?_, fun s' o' F' N' sm ob' U => ?_⟩
  · rcases List.mem_cons.mp hp with rfl | hp
    · exact ⟨D.1, D.2.1, get_empty _⟩
    · exact ⟨(allBut_of hp).1, (allBut_of hp).2.1, get_empty _⟩
  · have k : ∀ b x, b ≠ L → b ≠ a → s.heap.get? b = some x → s'.heap.get? b = some x := fun b x h1 h2 q => (N' (b, x) (.tail _ (allBut_mem q h1 h2))).1
    have F1 : Fm K s₀ B L { s' with heap := s'.heap } l ob' := by
      obtain ⟨pre, post, rfl, rfl⟩ := U.split
      have nd := F.nd
      refine ⟨F.gd, ⟨m, F'.ns, e⟩, fun b x q => k b x (by rintro rfl; rw [F.no] at q; cases q) (by rintro rfl; rw [D.2.2] at q; cases q) (F.kp b x q), F.no, fun p hp => ?_, by simpa using nd, F.sm.trans sm⟩
      rcases List.mem_append.mp hp with q | q
      · have P := F.obs p (List.mem_append_left _ q)
        refine ⟨k _ _ P.2.1 (fun e => ?_) P.1, P.2⟩
        rw [List.map_append, List.map_cons, List.nodup_append] at nd
        exact nd.2.2 p.1 (List.mem_map_of_mem q) a (.head _) e
      · rcases List.mem_cons.mp q with rfl | q
        · exact ⟨(N' _ (.head _)).1, D.2⟩
        · have P := F.obs p (List.mem_append_right _ (.tail _ q))
          refine ⟨k _ _ P.2.1 (fun e => ?_) P.1, P.2⟩
          rw [List.map_append, List.map_cons, List.nodup_append, List.nodup_cons] at nd
          exact nd.2.1.1 (e ▸ (List.mem_map_of_mem q : p.1 ∈ List.map Prod.fst post))
    exact F1

theorem Fm.adaptN (F : Fm K s₀ B L s l ob) : ∃ m, Fr {} L s.heap m ∧ News {} L s.heap (allBut s.heap L L) ∧
    ∀ s' a o, Fr {} L s'.heap m → News {} L s'.heap ((a, o) :: allBut s.heap L L) → Sm s s' → s.heap.get? a = none → Fm K s₀ B L s' l ((a, o) :: ob) := by
  obtain ⟨m, n, e⟩ := F.ns
  refine ⟨m, ⟨n, fun b o q => (by rw [get_empty] at q; cases q), Nat.zero_le _⟩, fun p hp => ⟨(allBut_of hp).1, (allBut_of hp).2.1, get_empty _⟩, fun s' a o F' N' sm ha => ?_⟩
  have k : ∀ b x, b ≠ L → s.heap.get? b = some x → s'.heap.get? b = some x := fun b x h1 q => (N' (b, x) (.tail _ (allBut_mem q h1 h1))).1
  have D := N' (a, o) (.head _)
  refine ⟨F.gd, ⟨m, F'.ns, e⟩, fun b x q => k b x (by rintro rfl; rw [F.no] at q; cases q) (F.kp b x q), F.no, fun p hp => ?_, ?_, F.sm.trans sm⟩
  · rcases List.mem_cons.mp hp with rfl | hp
    · exact ⟨D.1, D.2.1, Kp.none F.kp ha⟩
    · have P := F.obs p hp
      exact ⟨k _ _ P.2.1 P.1, P.2⟩
  · rw [List.map_cons, List.nodup_cons]
    refine ⟨fun q => ?_, F.nd⟩
    obtain ⟨p, hp, e⟩ := List.mem_map.mp q
    have e : p.1 = a := e
    have := (F.obs p hp).1
    rw [e, ha] at this; cases this
/-- a value laid into an object's own dict -/
theorem sa_dict {x dx C : Addr} {es : List DictEntry} {n : Nat} {name : Str} {v : Value} {Q : Unit → Shared → Prop} (F : Fm K s₀ B L s l ob) (hx : s.heap.get? x = some (instObj C dx)) (hm : (dx, dictOf es n) ∈ ob)
    (hs : findIn K (.ref C) "__setattr__" = some (some (.builtin "object.__setattr__"))) (hp : plainOver K C = true) (ht : takerIn K C name = some none) (hh : hasDictIn K C = true) (hl : (getL name es).isSome = true)
    (hz : (putL name (PyData.keyHash w.params name) (.str name (s.toks + 1)) v es).length ≤ 1000)
    (h : ∀ tk s', (∀ ob', UpO dx (dictOf es n) (dictOf (putL name (PyData.keyHash w.params name) (.str name tk) v es) (putN name es n)) ob ob' → Fm K s₀ B L s' l ob') → Q () s') :
    wpAny (model prog w) A (setAttr (.ref x) name v) Q E s := by
  obtain ⟨m, Fr', N', back⟩ := F.adapt hm
  have X := F.gdh.k
  have I : InstAt s.heap x (instObj C dx) C (some (dictOf es n)) := ⟨hx, rfl, rfl, F.get hm⟩
  refine set_plain X I hs (osa_dict (s := { s with toks := s.toks + 1 }) (od := dictOf es n) (pre := []) (post := allBut s.heap L dx) Fr' N' X I rfl hp ht hh hl (by intro p hp; cases hp) (fun p hp => (allBut_of hp).2.2)
    (putName_dict ..) rfl hz fun h' F' N' => ?_)
  exact h _ _ fun ob' U => back _ _ F' N' Sm.mk' ob' U
theorem ga_dict {x dx C : Addr} {es : List DictEntry} {n : Nat} {name : Str} {v : Value} {attr : Option Value} {ex : Bool} {Q : Value → Shared → Prop} (F : Fm K s₀ B L s l ob) (hx : s.heap.get? x = some (instObj C dx)) (hm : (dx, dictOf es n) ∈ ob)
    (hg : plainGet K C name = true) (hh : hasDictIn K C = true) (ha : findIn K (.ref C) name = some attr) (hn : noGet K attr = true) (hl : getL name es = some (some v)) (hv : handedIn v = true)
    (h : ∀ s', Fm K s₀ B L s' l ob → Q v s') : wpAny (model prog w) A (getAttr (.ref x) name ex) Q E s :=
  get_value F.gdh.k ⟨hx, rfl, rfl, F.get hm⟩ (plainGet_of hg).1 (findObj_own (od := dictOf es n) hh ha hn hl) hv (h _ (F.gr Gr.tk))
theorem ga_cls {C : Addr} {mc v : Value} {name : Str} {ex : Bool} {Q : Value → Shared → Prop} (F : Fm K s₀ B L s l ob) (hr : readsIn K C mc = true) (e : findCls K (.ref C) mc name = some (.val v)) (hh : handedIn v = true)
    (h : ∀ s', Fm K s₀ B L s' l ob → Q v s') : wpAny (model prog w) A (getAttr (.ref C) name ex) Q E s := cls_value F.gdh.k hr e hh (h _ (F.gr Gr.tk))

/-- as call_fnH, for a code -/
theorem code_fnH (binds : List (Str × Value)) {name qual : Str} {params : Arguments} {body : List Stmt} {scope : Scope} {cl : List (Str × Addr)} {dV kV doc pm cdv ct oc : Value} {an od : Option Addr} {osl : Array (Option Value)} {f a : Addr} {o : Obj} {pos : List Value} {kw : List (Str × Value)}
    {R : Result → Shared → Prop} {k : Nat}
    (Ro : Rm A (k + 1)) (G : Gd K (s.heap.hide a)) (ha : s.heap.get? a = some o)
    (ho : K.lookup f = some ⟨oc, od, .func (fnX name qual params body scope cl dV kV doc pm an cdv ct), osl⟩) (hcd : codeIn K cdv qual = true)
    (hbind : BindsTo s (fnX name qual params body scope cl dV kV doc pm an cdv ct) ⟨pos, kw⟩ binds) (hloc : (binds.all fun x => decide (scope.names.lookup x.1 = some .local)) = true)
    (hcell : (scope.names.all fun x => decide (x.2 ≠ .cell)) = true)
    (h : ∀ L s' A', L = s.heap.objs.size → Fm K s (s.heap.hide a) L s' binds.reverse [(a, o)] → Rm A' k →
      wpAny (model prog w) A' (execs body (envX qual scope L f cdv cl)) (RetTo fun v s' => R (.ok (.ret v)) s') (fun _ _ => False) s')
    (hco : scope.isCoroutine = false) (hgen : scope.isGenerator = false) (hk : scope.kind = .function) : codeAny (model prog w) A (.call (.ref f) ⟨pos, kw⟩) R s := by
  have kh : Kp (s.heap.hide a) s.heap := fun b x e => Heap.of_hide e
  have G' := G.kp kh
  refine codeAny_call_def (fd := fnX name qual params body scope cl dV kV doc pm an cdv ct) (body := body) (binds := binds) Ro.room (G'.k _ _ ho) rfl G'.nl (codeRec_of G'.k hcd) rfl hbind
    (fun x hx => of_decide_eq_true (List.all_eq_true.mp hcell x hx)) (locs hloc) (fun h₁ hns hk₁ => ?_) hco hgen hk
  refine wpAny_mono (h s.heap.objs.size _ _ rfl ⟨G, ⟨_, hns, fun _ _ e => e⟩, kh.trans hk₁, Kp.none kh (get_none_of_le (Nat.le_refl _)), fun p hp => ?_, by simp, Sm.mk'⟩ Ro.deeper) (fun fl s' hq => ?_) fun _ _ x => x.elim
  · rcases List.mem_cons.mp hp with rfl | hp
    · exact ⟨hk₁ _ _ ha, Nat.ne_of_lt (Heap.lt_size ha), Heap.hide_self _ _⟩
    · cases hp
  · cases fl <;> exact hq
/-- an object is made -/
theorem call_new {C fI : Addr} {pos : List Value} {Q : Value → Shared → Prop} (G : Gd K s.heap) (hm : makesIn K C = true) (hi : findIn K (.ref C) "__init__" = some (some (.ref fI))) (hf : typeIn K (.ref fI) = some (.type "function"))
    (h : codeAny (model prog w) (A.under (.builtin "type.__call__" ⟨.ref C :: pos, []⟩)) (.call (.ref fI) ⟨.ref (s.heap.objs.size + 1) :: pos, []⟩) (InitBack (s.heap.objs.size + 1) fun r s' => match r with | .ok (.ret v) => Q v s' | .ok _ => False | .error e => E e s')
      { s with heap := (s.heap.push emptyDict).push (instObj C s.heap.objs.size) }) : wpAny (model prog w) A (call (.ref C) pos) Q E s := by
  refine wpAny_call ?_
  obtain ⟨hh, g, d, t, os⟩ := s
  exact make_core (makes_of G.k hm) (looks_findIn G.k hi) (fun self => bind_fn G.k self hf) (.inl rfl) h

theorem s_attr {o value : Expr} {attr : Str} {p pos : Pos} {Q : Flow → Shared → Prop} (h : wpAny (model prog w) A (eval value env) (fun v s₁ => wpAny (model prog w) A (eval o env) (fun ov s₂ => wpAny (model prog w) A (setAttr ov attr v) (fun _ s₃ => wpAny (model prog w) A (execs rest env) Q E s₃) E s₂) E s₁) E s)
    (hs : swapsWith value (some (.Attribute o attr p)) pos.line env = pure false) : wpAny (model prog w) A (execs (.Assign [.Attribute o attr p] value pos :: rest) env) Q E s := s_cons (plainObj_wpAny_Assign_Attribute h hs)
theorem s_item {o i value : Expr} {p pos : Pos} {Q : Flow → Shared → Prop} (h : wpAny (model prog w) A (eval value env) (fun v s₁ => wpAny (model prog w) A (eval o env) (fun ov s₂ => wpAny (model prog w) A (eval i env) (fun iv s₃ =>
      wpAny (model prog w) A (setItem ov iv v) (fun _ s₄ => wpAny (model prog w) A (execs rest env) Q E s₄) E s₃) E s₂) E s₁) E s)
    (hs : swapsWith value (some (.Subscript o i p)) pos.line env = pure false) : wpAny (model prog w) A (execs (.Assign [.Subscript o i p] value pos :: rest) env) Q E s := s_cons (wpAny_Assign_Subscript h hs)
theorem s_assign3 {x y z : Str} {p1 p2 p3 pos : Pos} {value : Expr} {Q : Flow → Shared → Prop} (h : wpAny (model prog w) A (eval value env) (fun v s₁ => wpAny (model prog w) A (storeName env x v) (fun _ s₂ => wpAny (model prog w) A (storeName env y v) (fun _ s₃ => wpAny (model prog w) A (storeName env z v) (fun _ s₄ =>
      wpAny (model prog w) A (execs rest env) Q E s₄) E s₃) E s₂) E s₁) E s) (hw : swappedStores [.Name x p1, .Name y p2, .Name z p3] value env = pure none) :
    wpAny (model prog w) A (execs (.Assign [.Name x p1, .Name y p2, .Name z p3] value pos :: rest) env) Q E s := by
  refine s_cons (wpAny_Assign_three (wpAny_mono h (fun v s₁ h₁ => wpAny_assign_Name (wpAny_mono h₁ (fun _ s₂ h₂ => wpAny_assign_Name (wpAny_mono h₂ (fun _ s₃ h₃ => wpAny_assign_Name (wpAny_mono h₃ (fun _ s₄ h₄ => h₄) fun _ _ x => x)) fun _ _ x => x)) fun _ _ x => x)) fun _ _ x => x) rfl ?_)
  exact hw
/-- x, y = e1, e2 : the stores go the other way round -/
theorem s_swap2 {x y : Str} {p1 p2 p3 p4 pos : Pos} {c1 c2 : Nat} {e1 e2 : Expr} {Q : Flow → Shared → Prop} (R : A.handled = none)
    (h : wpAny (model prog w) A (eval e1 env) (fun v1 s₁ => wpAny (model prog w) A (eval e2 env) (fun v2 s₂ => ∀ s₃, Gr s₂ s₃ →
      wpAny (model prog w) A (storeName env y v2) (fun _ s₄ => wpAny (model prog w) A (storeName env x v1) (fun _ s₅ => wpAny (model prog w) A (execs rest env) Q E s₅) E s₄) E s₃) E s₁) E s)
    (hs : swapsWithSole [.Tuple [.Name x p1, .Name y p2] c1 p3] (.Tuple [e1, e2] c2 p4) pos.line env = pure false)
    (hw : swappedStores [.Tuple [.Name x p1, .Name y p2] c1 p3] (.Tuple [e1, e2] c2 p4) env = pure (some [x, y]))
    (he : starEach [e1, e2] env = [(false, eval e1 env), (false, eval e2 env)]) :
    wpAny (model prog w) A (execs (.Assign [.Tuple [.Name x p1, .Name y p2] c1 p3] (.Tuple [e1, e2] c2 p4) pos :: rest) env) Q E s := by
  refine s_cons ?_
  rw [exec_Assign, hs, hw]
  refine wpAny_bind (wpAny_standAt (wpAny_bind (wpAny_pure ?_)))
  simp only [Bool.false_eq_true, if_false]
  refine wpAny_bind (wpAny_Tuple ?_)
  rw [he]
  refine spliced_cons (wpAny_mono h (fun v1 s₁ h₁ => spliced_cons (wpAny_mono h₁ (fun v2 s₂ h₂ => spliced_nil ⟨by show 2 ≤ sizeLine; rw [sizeLine_eq]; lia, wpAny_bind (wpAny_pure ?_)⟩) fun _ _ x => x)) fun _ _ x => x)
  unfold assignStores
  refine wpAny_bind (wpAny_rule (wpAny_bind ?_))
  refine wpAny_unpackItems_tuple (items := #[v1, v2]) R ⟨_, Heap.get?_push_size _ rfl, rfl, 0, rfl⟩ fun h' hx => ?_
  refine wpAny_bind (wpAny_assignInOrder_more (wpAny_bindName (wpAny_mono (h₂ _ ⟨⟨rfl, rfl, rfl⟩, fun b o e => hx b o (Nat.ne_of_lt ?_) (Heap.get?_push_of_some _ e)⟩) (fun _ s₄ h₄ => wpAny_assignInOrder_more (wpAny_bindName (wpAny_mono h₄ (fun _ s₅ h₅ => wpAny_assignInOrder_none (wpAny_pure h₅)) fun _ _ x => x))) fun _ _ x => x)))
  exact Nat.lt_trans (Heap.lt_size e) (by rw [Heap.size_push]; exact Nat.lt_succ_self _)
end

section
variable {prog : Program} {w : World} {A : Around} {E : Value → Shared → Prop} {s₀ s : Shared} {env : Env}
  {K : Frag} {B : Heap} {L : Addr} {l : List (Str × Value)} {ob ob' : List (Addr × Obj)} {Q : Value → Shared → Prop}
theorem e_list {elts : List Expr} {pos : Pos} (h : wpAny (model prog w) A (spliced (backTo pos (starEach elts env))) (fun vs s₁ => wpAny (model prog w) A (newList vs) Q E s₁) E s) : wpAny (model prog w) A (eval (.List elts pos) env) Q E s := List_ h
theorem e_tuple {elts : List Expr} {c : Nat} {pos : Pos} (h : wpAny (model prog w) A (spliced (backTo pos (starEach elts env))) (fun vs s₁ => wpAny (model prog w) A (newTuple vs) Q E s₁) E s) : wpAny (model prog w) A (eval (.Tuple elts c pos) env) Q E s := Tuple_ h
abbrev tpO (vs : List Value) : Obj := { cls := .type "tuple", data := .seq vs.toArray }
theorem n_list {vs : List Value} (F : Fm K s₀ B L s l ob) (hz : vs.length ≤ sizeLine) (h : ∀ a s', Fm K s₀ B L s' l ((a, lsO vs 0) :: ob) → Q (.ref a) s') : wpAny (model prog w) A (newList vs) Q E s :=
  wpAny_newObj_type (h _ _ (F.push _ rfl s.toks)) (by show vs.toArray.size ≤ sizeLine; rw [List.size_toArray]; exact hz)
theorem n_tuple {vs : List Value} (F : Fm K s₀ B L s l ob) (hz : vs.length ≤ sizeLine) (h : ∀ a s', Fm K s₀ B L s' l ((a, tpO vs) :: ob) → Q (.ref a) s') : wpAny (model prog w) A (newTuple vs) Q E s :=
  wpAny_newObj_type (h _ _ (F.push _ rfl s.toks)) (by show vs.toArray.size ≤ sizeLine; rw [List.size_toArray]; exact hz)
theorem o_addL {a b : Addr} {vs ws : List Value} {n m : Nat} (F : Fm K s₀ B L s l ob) (ha : s.heap.get? a = some (lsO vs n)) (hb : s.heap.get? b = some (lsO ws m)) (hz : vs.length + ws.length ≤ sizeLine)
    (h : ∀ c s', Fm K s₀ B L s' l ((c, lsO (vs ++ ws) 0) :: ob) → Q (.ref c) s') : wpAny (model prog w) A (binaryOp .Add (.ref a) (.ref b)) Q E s := by
  refine PySem.P.add_list ha hb ?_ (by simpa using hz)
  have e : (vs.toArray ++ ws.toArray) = (vs ++ ws).toArray := by simp
  rw [e]
  exact h _ _ (F.push _ rfl s.toks)
theorem o_mulL {a : Addr} {v : Value} {n : Nat} {k : Int} {u : Tok} (F : Fm K s₀ B L s l ob) (ha : s.heap.get? a = some (lsO [v] n)) (h0 : -(2 ^ 62) ≤ k) (hz : k ≤ 2 ^ 20)
    (h : ∀ c s', Fm K s₀ B L s' l ((c, lsO (List.replicate k.toNat v) 0) :: ob) → Q (.ref c) s') : wpAny (model prog w) A (binaryOp .Mult (.ref a) (.int k u)) Q E s := by
  obtain ⟨mm, F1, N1, back⟩ := F.adaptN
  refine PyProof.Rows.mul_list F1 N1 ha (by lia) (by lia) (by simp; lia) fun h' F' N' => ?_
  have e : (List.foldl (fun x1 x2 => x1 ++ x2) #[] (List.replicate (if ([v] : List Value).toArray.isEmpty = true then 0 else k.toNat) [v].toArray)) = (List.replicate k.toNat v).toArray := by
    have q : ∀ (n : Nat) (acc : Array Value), List.foldl (fun x1 x2 => x1 ++ x2) acc (List.replicate n [v].toArray) = acc ++ (List.replicate n v).toArray := by
      intro n
      induction n with
      | zero => intro acc; simp
      | succ n ih => intro acc; rw [List.replicate_succ, List.foldl_cons, ih, List.replicate_succ]; apply Array.toList_inj.mp; simp
    simpa using q k.toNat #[]
  rw [e] at N'
  exact h _ _ (back { s with heap := h' } _ _ F' N' ⟨rfl, rfl, rfl⟩ (get_none_of_le (Nat.le_refl _)))
theorem b_tuple {a : Addr} {vs : Array Value} (F : Fm K s₀ B L s l ob) (ha : s.heap.IsList a vs) (hz : vs.size ≤ sizeLine) (h : ∀ c s', Fm K s₀ B L s' l ((c, tpO vs.toList) :: ob) → Q (.ref c) s') : wpAny (model prog w) A (call (.type "tuple") [.ref a]) Q E s := by
  refine call_tuple_list ha (fun h' hk => ?_) hz
  have F1 : Fm K s₀ B L { s with heap := h' } l ob := F.gr ⟨⟨rfl, rfl, rfl⟩, hk⟩
  exact h _ _ (by simpa using F1.push (tpO vs.toList) rfl s.toks)
theorem i_set {a : Addr} {vs : List Value} {n : Nat} {k : Int} {t : Tok} {v : Value} {Q : Unit → Shared → Prop} (F : Fm K s₀ B L s l ob) (h0 : 0 ≤ k) (h1 : k < vs.length) (h2 : k < 2 ^ 62) (U : UpO a (lsO vs n) (lsO (vs.set k.toNat v) n) ob ob') (h : ∀ s', Fm K s₀ B L s' l ob' → Q () s') :
    wpAny (model prog w) A (setItem (.ref a) (.int k t) v) Q E s := by
  have z := F.get U.mem
  refine ki_setAt z h0 (by lia) (by simpa using h1) (h _ (F.up (s' := { s with heap := _ }) U (Heap.SameBut.update ..) ?_ ⟨rfl, rfl, rfl⟩))
  refine (PySem.IsL.update z _).trans ?_
  simp
end
end Mine
end
section
open PySem PySem.W PyProof.Rows PySem.Calls
set_option maxRecDepth 100000
namespace Mine
def LpEndP (N P : Shared → Prop) (Q : Flow → Shared → Prop) : Flow → Shared → Prop := fun f s => match f with | .next => N s | .cont => N s | .brk => P s | .ret v => Q (.ret v) s
section
variable {prog : Program} {w : World} {A : Around} {E : Value → Shared → Prop} {s₀ s : Shared} {env : Env} {K : Frag} {B : Heap} {L : Addr} {l : List (Str × Value)} {ob : List (Addr × Obj)} {rest : List Stmt} {Q : Flow → Shared → Prop}
theorem lpp_next {N P : Shared → Prop} (h : N s) : LpEndP N P Q .next s := h
theorem lpp_brk {N P : Shared → Prop} (h : P s) : LpEndP N P Q .brk s := h
theorem lpp_ret {N P : Shared → Prop} {v : Value} (h : Q (.ret v) s) : LpEndP N P Q (.ret v) s := h
/-- a for that may be left by break: behind it `post` either way -/
theorem for_iterP {x : Str} {p : Pos} {body : List Stmt} {xv : Value} {n : Nat} {P : Nat → Value → Prop} (F : Fm K s₀ B L s l ob) (it : Iters prog w A B s xv n P)
    (inv : Nat → Ls → Ob → Prop) (post : Ls → Ob → Prop) (h0 : inv 0 l ob)
    (step : ∀ i s l ob ex v, i < n → inv i l ob → P i v → Fm K s₀ B L s l (ob ++ ex) →
      wpAny (model prog w) A (storeName env x v) (fun _ s₂ => wpAny (model prog w) A (execs body env)
        (LpEndP (fun s₃ => ∃ l' ob', inv (i + 1) l' ob' ∧ Fm K s₀ B L s₃ l' (ob' ++ ex)) (fun s₃ => ∃ l' ob', post l' ob' ∧ Fm K s₀ B L s₃ l' (ob' ++ ex)) Q) (fun _ _ => False) s₂) (fun _ _ => False) s)
    (fin : ∀ l ob, inv n l ob → post l ob) (after : ∀ s l ob, post l ob → Fm K s₀ B L s l ob → Q .next s) :
    wpAny (model prog w) A (pyIter xv) (fun it s₂ => codeAny (model prog w) A (.forLoop (.Name x p) it body [] env) (LoopR Q) s₂) E s := by
  refine for_iter F it inv h0 (fun i s l ob ex v hi hinv hP F => ?_) fun s l ob h F => after s l ob (fin l ob h) F
  refine wpAny_mono (step i s l ob ex v hi hinv hP F) (fun _ s₂ h₂ => wpAny_mono h₂ (fun f s₃ h₃ => ?_) fun _ _ x => x) fun _ _ x => x
  cases f with
  | next => exact h₃
  | cont => exact h₃
  | brk => obtain ⟨l', ob', hp, F'⟩ := h₃; exact after _ l' ob' hp F'.subEx
  | ret v => exact h₃
/-- one statement by what holds behind it -/
theorem s_cut {st : Stmt} (P : Shared → Prop) (h1 : wpAny (model prog w) A (execs [st] env) (fun f s' => f = .next ∧ P s') E s) (h2 : ∀ s', P s' → wpAny (model prog w) A (execs rest env) Q E s') :
    wpAny (model prog w) A (execs (st :: rest) env) Q E s := by
  have e : execs (st :: rest) env = execs (st :: rest) env := rfl
  refine fun Γ p hΓ => ?_
  have h := h1 Γ p hΓ
  simp only [execs, Sem.wp_bind'] at h ⊢
  refine Sem.wp_mono _ Γ _ (fun f p' s' hf => ?_) (fun _ _ _ x => x) p s h
  cases f with
  | next => exact h2 s' hf.2 Γ p' hΓ
  | brk => exact absurd hf.1 (by simp)
  | cont => exact absurd hf.1 (by simp)
  | ret v => exact absurd hf.1 (by simp)
end
end Mine
end
section
open PySem PySem.W PyProof.Rows PySem.Calls
set_option maxRecDepth 100000
namespace Mine
/-- what h' has and h has not -/
def newPart (h h' : Heap) : Heap := hideAll h' ((List.range h.objs.size).filter fun b => (h.get? b).isSome)
theorem newPart_get {h h' : Heap} {b : Addr} {o : Obj} (h1 : h'.get? b = some o) (h2 : h.get? b = none) : (newPart h h').get? b = some o :=
  hideAll_get _ h1 fun q => by
    have := (List.mem_filter.mp q).2
    rw [h2] at this; cases this
theorem newPart_of {h h' : Heap} {b : Addr} {o : Obj} (e : (newPart h h').get? b = some o) : h'.get? b = some o ∧ h.get? b = none := by
  refine ⟨of_hideAll _ e, ?_⟩
  cases q : h.get? b with
  | none => rfl
  | some o' =>
    have := hideAll_none ((List.range h.objs.size).filter fun b => (h.get? b).isSome) (h := h') (b := b) (List.mem_filter.mpr ⟨List.mem_range.mpr (Heap.lt_size q), by rw [q]; rfl⟩)
    unfold newPart at e
    rw [this] at e; cases e
theorem newPart_kp {h h' h'' : Heap} (k : Kp h' h'') : Kp (newPart h h') (newPart h h'') := fun _ _ e => newPart_get (k _ _ (newPart_of e).1) (newPart_of e).2
theorem newPart_sub {g h h' : Heap} (k : Kp g h) : Kp (newPart h h') (newPart g h') := fun _ _ e => newPart_get (newPart_of e).1 (Kp.none k (newPart_of e).2)
theorem newPart_le {h h' : Heap} : Kp (newPart h h') h' := fun _ _ e => (newPart_of e).1
theorem newPart_tr {a b c : Heap} (k : Kp a b) (k' : Kp b c) : Kp (newPart a b) (newPart a c) ∧ Kp (newPart b c) (newPart a c) := ⟨newPart_kp k', newPart_sub k⟩
section
variable {K : Frag} {s₀ s s' : Shared} {B : Heap} {L : Addr} {l : List (Str × Value)} {ob : List (Addr × Obj)}
/-- a callee has made things: they go into the ground -/
theorem Fm.grow (F : Fm K s₀ B L s l ob) (g : Gr s s') : ∃ B', Kp B B' ∧ Kp (newPart s.heap s'.heap) B' ∧ Fm K s₀ B' L s' l ob := by
  obtain ⟨B', k, F', h⟩ := (F.gr g).freeze
  refine ⟨B', k, fun b o e => ?_, F'⟩
  obtain ⟨e1, e2⟩ := newPart_of e
  refine h b o e1 (fun q => ?_) fun q => ?_
  · obtain ⟨oL, hL⟩ := F.ns.get
    rw [q, hL] at e2; cases e2
  · obtain ⟨p, hp, rfl⟩ := List.mem_map.mp q
    rw [(F.obs p hp).1] at e2; cases e2
end

section
variable {prog : Program} {w : World} {A : Around} {E : Value → Shared → Prop} {s₀ s : Shared} {env : Env} {K : Frag} {B : Heap} {L : Addr} {l : List (Str × Value)} {ob : List (Addr × Obj)} {rest : List Stmt} {Q : Flow → Shared → Prop}
/-- for_iter with a ground that grows -/
theorem for_iterB {x : Str} {p : Pos} {body : List Stmt} {xv : Value} {n : Nat} {P : Nat → Value → Prop} (F : Fm K s₀ B L s l ob) (it : Iters prog w A B s xv n P)
    (inv : Nat → Heap → Ls → Ob → Prop) (h0 : inv 0 B l ob)
    (step : ∀ i B₁ s l ob ex v, i < n → Kp B B₁ → inv i B₁ l ob → P i v → Fm K s₀ B₁ L s l (ob ++ ex) →
      wpAny (model prog w) A (storeName env x v) (fun _ s₂ => wpAny (model prog w) A (execs body env)
        (LpEnd (fun s₃ => ∃ B₂ l' ob', Kp B₁ B₂ ∧ inv (i + 1) B₂ l' ob' ∧ Fm K s₀ B₂ L s₃ l' (ob' ++ ex)) Q) (fun _ _ => False) s₂) (fun _ _ => False) s)
    (fin : ∀ B₁ s l ob, Kp B B₁ → inv n B₁ l ob → Fm K s₀ B₁ L s l ob → Q .next s) :
    wpAny (model prog w) A (pyIter xv) (fun it s₂ => codeAny (model prog w) A (.forLoop (.Name x p) it body [] env) (LoopR Q) s₂) E s := by
  refine it _ _ fun I fp St s₁ W st hfp hal hI g => ?_
  have F₁ := F.gr g
  have hB : B.get? I = none := Kp.none F.kp hI
  have hL : I ≠ L := by
    rintro rfl
    obtain ⟨o, ho⟩ := F.ns.get
    rw [ho] at hI; cases hI
  have hob : I ∉ List.map Prod.fst ob := fun q => by
    obtain ⟨p, hp, e⟩ := List.mem_map.mp q
    have := (F.obs p hp).1
    rw [show p.1 = I from e, hI] at this; cases this
  refine codeAny_forLoop (fun m s => ∃ i B₁ l ob, m = n - i ∧ i ≤ n ∧ Kp B B₁ ∧ B₁.get? I = none ∧ inv i B₁ l ob ∧ Fm K s₀ B₁ L s l ob ∧ St i s.heap ∧ I ∉ List.map Prod.fst ob) (fun m s hm => ?_) n ⟨0, B, l, ob, by simp, Nat.zero_le _, Kp.rfl, hB, h0, F₁, st, hob⟩
  obtain ⟨i, B₁, l, ob, rfl, hi, kB, hB, hinv, F, st, hob⟩ := hm
  rcases Nat.lt_or_ge i n with hlt | hge
  · refine W.item i s _ _ hlt st fun v h' tk hP st' hk => ?_
    have F' : Fm K s₀ B₁ L { s with heap := h', toks := tk } l ob := F.turn hB hL hob hk Sm.mk'
    have F'' := F'.addEx hB hL hob
    refine wpAny_assign_Name (wpAny_mono (step i B₁ _ l ob _ v hlt kB hinv hP F'') (fun _ s₂ h₂ => wpAny_mono h₂ (fun f s₃ h₃ => ?_) fun _ _ z => z.elim) fun _ _ z => z.elim)
    have nxt : (∃ B₂ l' ob', Kp B₁ B₂ ∧ inv (i + 1) B₂ l' ob' ∧ Fm K s₀ B₂ L s₃ l' (ob' ++ exOf h' I)) →
        ∃ m, m < n - i ∧ ∃ i B₁ l ob, m = n - i ∧ i ≤ n ∧ Kp B B₁ ∧ B₁.get? I = none ∧ inv i B₁ l ob ∧ Fm K s₀ B₁ L s₃ l ob ∧ St i s₃.heap ∧ I ∉ List.map Prod.fst ob := by
      rintro ⟨B₂, l', ob', k2, hin, F3⟩
      obtain ⟨oI, hoI⟩ := hal _ _ st'
      have hmem : (I, oI) ∈ ob' ++ exOf h' I := List.mem_append_right _ (by unfold exOf; rw [hoI]; exact .head _)
      have fr : St (i + 1) s₃.heap := W.frame (i + 1) h' s₃.heap st' fun b hb o e => by
        rcases hfp b hb with rfl | ⟨o', ho'⟩
        · exact F3.get (List.mem_append_right _ (by unfold exOf; rw [e]; exact .head _))
        · have := F''.kp b o' (kB _ _ ho')
          rw [show ({ s with heap := h', toks := tk } : Shared).heap = h' from rfl, e] at this
          cases this
          exact F3.kp b o (k2 _ _ (kB _ _ ho'))
      exact ⟨n - (i + 1), by omega, i + 1, B₂, l', ob', rfl, hlt, kB.trans k2, (F3.obs _ hmem).2.2, hin, F3.subEx, fr, F3.notEx ⟨oI, hoI⟩⟩
    cases f with
    | next => exact nxt h₃
    | cont => exact nxt h₃
    | brk => exact h₃
    | ret v => exact h₃
  · have e : i = n := Nat.le_antisymm hi hge
    subst e
    refine W.done s _ _ st fun h' tk hk => ?_
    exact wpAny_execs_nil (fin B₁ _ l ob kB hinv (F.turn hB hL hob hk Sm.mk'))
end
end Mine
end
section
open PySem PySem.W PyProof.Rows PySem.Calls
set_option maxRecDepth 100000
namespace Mine
section
variable {prog : Program} {w : World} {A : Around} {E : Value → Shared → Prop} {s₀ s : Shared} {env : Env} {K : Frag} {B : Heap} {L C D : Addr} {l : Ls} {ob : Ob}
abbrev testsOf (ifs : List Expr) (env : Env) : Sem Bool := forIn ifs true fun c r => if r = true then do let ok ← isTrue c env (eval c env); pure (ForInStep.yield ok) else pure (ForInStep.yield r)
theorem comp_loop {elt target iter : Expr} {ifs : List Expr} {scope : Scope} {pos : Pos} {I : Addr} {fp : List Addr} {n : Nat} {P : Nat → Value → Prop} {St : Nat → Heap → Prop}
    (W : Walks prog w A I fp [I] n P St) (hfp : ∀ b ∈ fp, b = I ∨ ∃ o, B.get? b = some o) (hal : ∀ i h, St i h → ∃ o, h.get? I = some o) (hn : n ≤ sizeLine)
    (F : Fm K s₀ B C s l ((D, lsO [] 0) :: ob)) (st : St 0 s.heap) (hB : B.get? I = none) (hC : I ≠ C) (hob : I ∉ List.map Prod.fst ((D, lsO [] 0) :: ob))
    (inv : Nat → Heap → List Value → Ls → Ob → Prop) (h0 : inv 0 B [] l ob)
    (step : ∀ i B₁ s l ob ys k ex v, i < n → Kp B B₁ → inv i B₁ ys l ob → P i v → Fm K s₀ B₁ C s l ((D, lsO ys k) :: ob ++ ex) →
      wpAny (model prog w) A (assign target env v) (fun _ s₂ => wpAny (model prog w) A (testsOf ifs env) (fun ok s₃ => if ok = true
        then wpAny (model prog w) A (eval elt env) (fun y s₄ => ∃ B₂ l' ob', Kp B₁ B₂ ∧ inv (i + 1) B₂ (ys ++ [y]) l' ob' ∧ Fm K s₀ B₂ C s₄ l' ((D, lsO ys k) :: ob' ++ ex)) (fun _ _ => False) s₃
        else ∃ B₂ l' ob', Kp B₁ B₂ ∧ inv (i + 1) B₂ ys l' ob' ∧ Fm K s₀ B₂ C s₃ l' ((D, lsO ys k) :: ob' ++ ex)) (fun _ _ => False) s₂) (fun _ _ => False) s)
    {Q : Shared → Prop} (fin : ∀ B₁ s l ob ys k, Kp B B₁ → inv n B₁ ys l ob → Fm K s₀ B₁ C s l ((D, lsO ys k) :: ob) → Q s)
    (ht : ∀ v, letOwnedTupleGo target (.ref I) v = pure ()) :
    codeAny (model prog w) A (.compLoop (.ListComp elt [⟨target, iter, ifs, 0⟩] scope pos) 0 (.ref I) (.ref D) env) (fun r s' => r = .ok .next ∧ Q s') s := by
  refine codeAny_compLoop_tests (fun m s => ∃ i B₁ l ob ys k, m = n - i ∧ i ≤ n ∧ ys.length ≤ i ∧ Kp B B₁ ∧ B₁.get? I = none ∧ inv i B₁ ys l ob ∧ Fm K s₀ B₁ C s l ((D, lsO ys k) :: ob) ∧ St i s.heap ∧ I ∉ List.map Prod.fst ((D, lsO ys k) :: ob)) (fun m s hm => ?_) n
    ⟨0, B, l, ob, [], 0, by simp, Nat.zero_le _, Nat.le_refl _, Kp.rfl, hB, h0, F, st, hob⟩ ht
  obtain ⟨i, B₁, l, ob, ys, k, rfl, hi, hys, kB, hB, hinv, F, st, hob⟩ := hm
  rcases Nat.lt_or_ge i n with hlt | hge
  · refine W.item i s _ _ hlt st fun v h' tk hP st' hk => ?_
    have F' : Fm K s₀ B₁ C { s with heap := h', toks := tk } l ((D, lsO ys k) :: ob) := F.turn hB hC hob hk Sm.mk'
    have F'' := F'.addEx hB hC hob
    obtain ⟨oI, hoI⟩ := hal _ _ st'
    have fr : ∀ {B₂ : Heap} {s₃ : Shared} {l' : Ls} {zs : List Value} {k' : Nat} {ob' : Ob}, Kp B₁ B₂ → Fm K s₀ B₂ C s₃ l' ((D, lsO zs k') :: ob' ++ exOf h' I) → inv (i + 1) B₂ zs l' ob' → zs.length ≤ i + 1 →
        ∃ m, m < n - i ∧ ∃ i B₁ l ob ys k, m = n - i ∧ i ≤ n ∧ ys.length ≤ i ∧ Kp B B₁ ∧ B₁.get? I = none ∧ inv i B₁ ys l ob ∧ Fm K s₀ B₁ C s₃ l ((D, lsO ys k) :: ob) ∧ St i s₃.heap ∧ I ∉ List.map Prod.fst ((D, lsO ys k) :: ob) := by
      intro B₂ s₃ l' zs k' ob' k2 F3 hin hz
      have hmem : (I, oI) ∈ (D, lsO zs k') :: ob' ++ exOf h' I := List.mem_append_right _ (by unfold exOf; rw [hoI]; exact .head _)
      have fr : St (i + 1) s₃.heap := W.frame (i + 1) h' s₃.heap st' fun b hb o e => by
        rcases hfp b hb with rfl | ⟨o', ho'⟩
        · exact F3.get (List.mem_append_right _ (by unfold exOf; rw [e]; exact .head _))
        · have := F''.kp b o' (kB _ _ ho')
          rw [show ({ s with heap := h', toks := tk } : Shared).heap = h' from rfl, e] at this
          cases this
          exact F3.kp b o (k2 _ _ (kB _ _ ho'))
      exact ⟨n - (i + 1), by omega, i + 1, B₂, l', ob', zs, k', rfl, hlt, hz, kB.trans k2, (F3.obs _ hmem).2.2, hin, F3.subEx, fr, F3.notEx ⟨oI, hoI⟩⟩
    refine wpAny_mono (step i B₁ _ l ob ys k _ v hlt kB hinv hP F'') (fun _ s₂ h₂ => wpAny_mono h₂ (fun ok s₃ h₃ => ?_) fun _ _ z => z.elim) fun _ _ z => z.elim
    cases ok with
    | false =>
      obtain ⟨B₂, l', ob', k2, hin, F3⟩ := h₃
      exact fr k2 F3 hin (by lia)
    | true =>
      refine wpAny_mono h₃ (fun y s₄ h₄ => ?_) fun _ _ z => z.elim
      obtain ⟨B₂, l', ob', k2, hin, F3⟩ := h₄
      refine m_append F3 (.head _) (by lia) fun s₅ F4 => fr k2 F4 hin (by simp; omega)
  · have e : i = n := Nat.le_antisymm hi hge
    subst e
    refine W.done s _ _ st fun h' tk hk => ?_
    exact ⟨rfl, fin B₁ _ l ob ys k kB hinv (F.turn hB hC hob hk Sm.mk')⟩
end
end Mine
end
section
open PySem PySem.W PyProof.Rows PySem.Calls
set_option maxRecDepth 100000
namespace Mine
abbrev cellO (v : Option Value) : Obj := { cls := .type "cell", data := .cell v }
def cellOb (n : Nat) : List (Str × NameKind) → Ob → Ob
  | [], ob => ob
  | (_, kind) :: r, ob => if kind == .cell then cellOb (n + 1) r ((n, cellO none) :: ob) else cellOb n r ob
theorem Fm.cells {K : Frag} {s₀ : Shared} {B : Heap} {L : Addr} {l : Ls} : ∀ (names : List (Str × NameKind)) {s : Shared} {ob : Ob}, Fm K s₀ B L s l ob → Fm K s₀ B L { s with heap := pushCells s.heap names } l (cellOb s.heap.objs.size names ob)
  | [], _, _, F => F
  | (_, kind) :: r, s, ob, F => by
    unfold pushCells cellOb
    split
    · have F1 := F.push (cellO none) rfl s.toks
      have F2 := F1.cells r
      have hz : ({ s with heap := s.heap.push (cellO none), toks := s.toks } : Shared).heap.objs.size = s.heap.objs.size + 1 := Heap.size_push ..
      rw [hz] at F2
      exact F2
    · exact F.cells r
section
variable {prog : Program} {w : World} {A : Around} {E : Value → Shared → Prop} {s₀ s : Shared} {env : Env} {K : Frag} {Q : Value → Shared → Prop}
/-- a comprehension whose first iterable is told -/
def CompGo (prog : Program) (w : World) (A : Around) (elt target iter : Expr) (ifs : List Expr) (scope : Scope) (pos : Pos) (cl : List (Str × Addr)) (env : Env) (Q : Value → Shared → Prop) (E : Value → Shared → Prop) (xv : Value) (s₁ : Shared) : Prop :=
  wpAny (model prog w) A (pyIter xv) (fun it s₂ => wpAny (model prog w) A (newList []) (fun acc s₃ => wpAny (model prog w) A (newFunctionEnv scope env.globals cl [] env.qual none .none (some env)) (fun cenv s₄ =>
    codeAny (model prog w) A (.compStart (.ListComp elt [⟨target, iter, ifs, 0⟩] scope pos) 0 it acc { cenv with scope := relabel scope env }) (compPost (model prog w) A E none Q acc cenv.locals) s₄) E s₃) E s₂) E s₁
theorem e_comp {elt target iter : Expr} {ifs : List Expr} {scope : Scope} {pos : Pos} {cl : List (Str × Addr)} (h : wpAny (model prog w) A (eval iter env) (CompGo prog w A elt target iter ifs scope pos cl env Q E) E s) (hclos : closureFor scope env = pure cl) (hkind : scope.kind = .function)
    (hnames : (scope.names.all fun x => decide (x.2 = .local → scope.names.lookup x.1 = some .local)) = true)
    (hs : ∀ x, foldedSetIterable iter env x = pure x) : wpAny (model prog w) A (eval (.ListComp elt [⟨target, iter, ifs, 0⟩] scope pos) env) Q E s := by
  rw [eval_ListComp]
  exact wpAny_comprehension_free rfl hs hclos hkind (fun x hx => of_decide_eq_true (List.all_eq_true.mp hnames x hx)) h
abbrev cenvOf (scope : Scope) (cells : List (Str × Addr)) (C : Addr) (env : Env) : Env := { scope := relabel scope env, locals := C, globals := env.globals, cells := cells, qual := env.qual, func := none, code := env.code, frame := env.frame, builtins := env.builtins }
theorem comp_env {scope : Scope} {cl : List (Str × Addr)} {Q : Env → Shared → Prop}
    (h : Q { scope, locals := s.heap.objs.size, globals := env.globals, cells := cellsFrom (s.heap.objs.size + 1) scope.names cl, qual := env.qual, func := none, code := env.code, frame := env.frame, builtins := env.builtins }
      { s with heap := pushCells (s.heap.push { cls := .type "dict", data := .dict #[] }) scope.names }) :
    wpAny (model prog w) A (newFunctionEnv scope env.globals cl [] env.qual none .none (some env)) Q E s := by
  simp only [newFunctionEnv, Option.isSome_some, if_true]
  refine wpAny_bind (wpAny_alloc ?_)
  refine wpAny_bind (wpAny_layCells _ (fun name kind cells => by cases hkc : kind == NameKind.cell <;> simp [hkc]) _ _ _ _ ?_)
  rw [show ({ s with heap := s.heap.push { cls := .type "dict", data := .dict #[] } } : Shared).heap.objs.size = s.heap.objs.size + 1 from Heap.size_push ..]
  rw [List.forIn_nil]
  exact wpAny_bind (wpAny_pure (wpAny_pure h))
end
section
variable {K : Frag} {s₀ s s' : Shared} {B B₁ : Heap} {L C : Addr} {l l' : Ls} {ob ob' : Ob} {oL : Obj}
/-- a frame within: what the outer one may turn goes into its ledger -/
theorem Fm.enter (F : Fm K s₀ B L s l ob) (hL : s.heap.get? L = some oL) (k : Kp s.heap s'.heap) (hm : Sm s s') (hn : Nm s'.heap C l') (hC : s.heap.get? C = none) : Fm K s B C s' l' ((L, oL) :: ob) := by
  refine ⟨F.gd, hn, F.kp.trans k, Kp.none F.kp hC, fun p hp => ?_, ?_, hm⟩
  · rcases List.mem_cons.mp hp with rfl | hp
    · exact ⟨k _ _ hL, (fun q => by have q : L = C := q; rw [q, hC] at hL; cases hL), F.no⟩
    · exact ⟨k _ _ (F.obs p hp).1, (fun q => by have := (F.obs p hp).1; rw [q, hC] at this; cases this), (F.obs p hp).2.2⟩
  · rw [List.map_cons, List.nodup_cons]
    refine ⟨fun q => ?_, F.nd⟩
    obtain ⟨p, hp, e⟩ := List.mem_map.mp q
    exact (F.obs p hp).2.1 e
theorem Fm.leave (F : Fm K s₀ B L s l ob) (hL : s.heap.get? L = some oL) (F' : Fm K s B₁ C s' l' ob') (hm : ∀ p ∈ (L, oL) :: ob, p ∈ ob') (kB : Kp B B₁) : Fm K s₀ B₁ L s' l ob := by
  have D := F'.obs _ (hm _ (.head _))
  exact ⟨F.gd.kp kB, F.ns.keeps fun o e => by rw [hL] at e; cases e; exact D.1, F'.kp, D.2.2, fun p hp => ⟨(F'.obs p (hm p (.tail _ hp))).1, (F.obs p hp).2.1, (F'.obs p (hm p (.tail _ hp))).2.2⟩, F.nd, F.sm.trans F'.sm⟩
theorem cellOb_app : ∀ (names : List (Str × NameKind)) (n : Nat) (ob ob' : Ob), (cellOb n names (ob ++ ob')) = cellOb n names ob ++ ob'
  | [], n, ob, ob' => rfl
  | (x, k) :: r, n, ob, ob' => by
    unfold cellOb
    split
    · exact cellOb_app r (n + 1) ((n, cellO none) :: ob) ob'
    · exact cellOb_app r n ob ob'
theorem cellOb_lt {I : Nat} : ∀ (names : List (Str × NameKind)) (n : Nat) (ob : Ob), (∀ p ∈ ob, I < p.1) → I < n → ∀ p ∈ cellOb n names ob, I < p.1
  | [], n, ob, h, _ => h
  | (x, k) :: r, n, ob, h, hn => by
    unfold cellOb
    split
    · exact cellOb_lt r (n + 1) _ (fun p hp => by
        rcases List.mem_cons.mp hp with rfl | hp
        · exact hn
        · exact h p hp) (Nat.lt_succ_of_lt hn)
    · exact cellOb_lt r n ob h hn
end
section
variable {prog : Program} {w : World} {A : Around} {E : Value → Shared → Prop} {s₀ s : Shared} {env : Env} {K : Frag} {B : Heap} {L : Addr} {l : Ls} {ob : Ob} {Q : Value → Shared → Prop}
theorem comp_go {elt target iter : Expr} {ifs : List Expr} {scope : Scope} {pos : Pos} {cl : List (Str × Addr)} {xv : Value} {n : Nat} {P : Nat → Value → Prop} (F : Fm K s₀ B L s l ob) (it : Iters prog w A B s xv n P) (hn : n ≤ sizeLine)
    (inv : Addr → Nat → Heap → List Value → Ls → Ob → Prop) (h0 : ∀ C oL, s.heap.get? L = some oL → inv C 0 B [] [] (cellOb (C + 1) scope.names [] ++ (L, oL) :: ob))
    (step : ∀ C D i B₁ s' l ob ys k ex v, i < n → Kp B B₁ → inv C i B₁ ys l ob → P i v → Fm K s B₁ C s' l ((D, lsO ys k) :: ob ++ ex) →
      wpAny (model prog w) A (assign target (cenvOf scope (cellsFrom (C + 1) scope.names cl) C env) v) (fun _ s₂ => wpAny (model prog w) A (testsOf ifs (cenvOf scope (cellsFrom (C + 1) scope.names cl) C env)) (fun ok s₃ => if ok = true
        then wpAny (model prog w) A (eval elt (cenvOf scope (cellsFrom (C + 1) scope.names cl) C env)) (fun y s₄ => ∃ B₂ l' ob', Kp B₁ B₂ ∧ inv C (i + 1) B₂ (ys ++ [y]) l' ob' ∧ Fm K s B₂ C s₄ l' ((D, lsO ys k) :: ob' ++ ex)) (fun _ _ => False) s₃
        else ∃ B₂ l' ob', Kp B₁ B₂ ∧ inv C (i + 1) B₂ ys l' ob' ∧ Fm K s B₂ C s₃ l' ((D, lsO ys k) :: ob' ++ ex)) (fun _ _ => False) s₂) (fun _ _ => False) s')
    (fin : ∀ C D s' B₁ ys k l₁ ob₁, Kp B B₁ → inv C n B₁ ys l₁ ob₁ → (∀ oL, s.heap.get? L = some oL → (∀ p ∈ (L, oL) :: ob, p ∈ ob₁) → ∃ B₂, Kp B₁ B₂ ∧ Fm K s₀ B₂ L s' l ob ∧ B₂.get? D = some (lsO ys k)) → Q (.ref D) s')
    (ht : ∀ I v, letOwnedTupleGo target (.ref I) v = pure ()) : CompGo prog w A elt target iter ifs scope pos cl env Q E xv s := by
  obtain ⟨oL, hoL⟩ := F.ns.get
  refine it _ _ fun I fp St s₂ W st hfp hal hI g => ?_
  refine wpAny_newObj_type ?_ (Nat.zero_le _)
  obtain ⟨D, hD⟩ : ∃ D, D = s₂.heap.objs.size := ⟨_, rfl⟩
  refine comp_env ?_
  have hsz : (s₂.heap.push { cls := .type "list", data := .seq #[] }).objs.size = D + 1 := by rw [Heap.size_push, hD]
  show codeAny _ _ (.compStart _ _ _ (.ref s₂.heap.objs.size) (cenvOf scope (cellsFrom ((s₂.heap.push { cls := .type "list", data := .seq #[] }).objs.size + 1) scope.names cl) (s₂.heap.push { cls := .type "list", data := .seq #[] }).objs.size env)) (compPost _ _ _ _ _ (.ref s₂.heap.objs.size) (s₂.heap.push { cls := .type "list", data := .seq #[] }).objs.size)
    { s₂ with heap := pushCells ((s₂.heap.push { cls := .type "list", data := .seq #[] }).push { cls := .type "dict", data := .dict #[] }) scope.names }
  rw [hsz, ← hD]
  have hsz2 : ((s₂.heap.push { cls := .type "list", data := .seq #[] }).push { cls := .type "dict", data := .dict #[] }).objs.size = D + 1 + 1 := by rw [Heap.size_push, hsz]
  have k1 : Kp s₂.heap ((s₂.heap.push { cls := .type "list", data := .seq #[] }).push { cls := .type "dict", data := .dict #[] }) := (Kp.push _).trans (Kp.push _)
  have kD : ((s₂.heap.push { cls := .type "list", data := .seq #[] }).push { cls := .type "dict", data := .dict #[] }).get? D = some (lsO [] 0) := Kp.push _ _ _ (by rw [hD]; exact Heap.get?_push_size _ rfl)
  have hns : ((s₂.heap.push { cls := .type "list", data := .seq #[] }).push { cls := .type "dict", data := .dict #[] }).Ns (D + 1) (fun _ => none) := by
    have := Heap.Ns.new (s₂.heap.push { cls := .type "list", data := .seq #[] }) (.type "dict")
    rwa [hsz] at this
  generalize hh3 : (s₂.heap.push { cls := .type "list", data := .seq #[] }).push { cls := .type "dict", data := .dict #[] } = h3 at *
  have nD : s.heap.get? D = none := Kp.none g.kp (get_none_of_le (by lia))
  have nC : s.heap.get? (D + 1) = none := Kp.none g.kp (get_none_of_le (by lia))
  have F1 : Fm K s B (D + 1) { s₂ with heap := h3 } [] ((L, oL) :: ob) := F.enter (s' := { s₂ with heap := h3 }) hoL (g.kp.trans k1) ⟨g.sm.gens, g.sm.drawn, g.sm.os⟩ ⟨_, hns, fun x v e => by cases e⟩ nC
  have F2 : Fm K s B (D + 1) { s₂ with heap := h3 } [] ((D, lsO [] 0) :: (L, oL) :: ob) := by
    refine ⟨F1.gd, F1.ns, F1.kp, F1.no, fun p hp => ?_, ?_, F1.sm⟩
    · rcases List.mem_cons.mp hp with rfl | hp
      · exact ⟨kD, Nat.ne_of_lt (Nat.lt_succ_self _), Kp.none F.kp nD⟩
      · exact F1.obs p hp
    · rw [List.map_cons, List.nodup_cons]
      refine ⟨fun q => ?_, F1.nd⟩
      obtain ⟨p, hp, e⟩ := List.mem_map.mp q
      have e : p.1 = D := e
      have : s.heap.get? p.1 = some p.2 := by
        rcases List.mem_cons.mp hp with rfl | hp
        · exact hoL
        · exact (F.obs p hp).1
      rw [e, nD] at this; cases this
  have F4 := F2.cells scope.names
  rw [show ({ s₂ with heap := h3 } : Shared).heap.objs.size = D + 1 + 1 from hsz2] at F4
  have F5 : Fm K s B (D + 1) { s₂ with heap := pushCells h3 scope.names } [] ((D, lsO [] 0) :: (cellOb (D + 1 + 1) scope.names [] ++ (L, oL) :: ob)) := by
    rw [show ((D, lsO [] 0) :: (L, oL) :: ob) = [] ++ ((D, lsO [] 0) :: (L, oL) :: ob) from rfl, cellOb_app] at F4
    exact F4.perm List.perm_middle
  obtain ⟨oI, hoI⟩ := hal _ _ st
  have lI := Heap.lt_size hoI
  have k3 : Kp s₂.heap (pushCells h3 scope.names) := k1.trans (pushCells_keeps _ _)
  have st4 : St 0 (pushCells h3 scope.names) := W.frame 0 s₂.heap _ st fun b _ o e => k3 b o e
  have hobI : I ∉ List.map Prod.fst ((D, lsO [] 0) :: (cellOb (D + 1 + 1) scope.names [] ++ (L, oL) :: ob)) := fun q => by
    obtain ⟨p, hp, e⟩ := List.mem_map.mp q
    have e : p.1 = I := e
    rcases List.mem_cons.mp hp with rfl | hp
    · exact absurd lI (by rw [← e, hD]; exact Nat.lt_irrefl _)
    · rcases List.mem_append.mp hp with hp | hp
      · have := cellOb_lt (I := I) scope.names (D + 1 + 1) [] (by intro p hp; cases hp) (Nat.lt_succ_of_lt (Nat.lt_succ_of_lt (by rw [hD]; exact lI))) p hp
        exact absurd this (by rw [e]; exact Nat.lt_irrefl _)
      · have : s.heap.get? p.1 = some p.2 := by
          rcases List.mem_cons.mp hp with rfl | hp
          · exact hoL
          · exact (F.obs p hp).1
        rw [e, hI] at this; cases this
  have loop : codeAny (model prog w) A (.compLoop (.ListComp elt [⟨target, iter, ifs, 0⟩] scope pos) 0 (.ref I) (.ref D) (cenvOf scope (cellsFrom (D + 1 + 1) scope.names cl) (D + 1) env)) (compPost (model prog w) A E none Q (.ref D) (D + 1)) { s₂ with heap := pushCells h3 scope.names } := by
    refine codeAny_mono (comp_loop W hfp hal hn F5 st4 (Kp.none F.kp hI) (Nat.ne_of_lt (Nat.lt_succ_of_lt (by rw [hD]; exact lI))) hobI (inv (D + 1)) (h0 (D + 1) oL hoL) (fun i B₁ s' l ob ys k ex v => step (D + 1) D i B₁ s' l ob ys k ex v)
      (Q := fun s' => ∃ m, s'.heap.Ns (D + 1) m ∧ ∀ h', Heap.SameBut (D + 1) s'.heap h' → Q (.ref D) { s' with heap := h' }) (fun B₁ s' l₁ ob₁ ys k kB hinv F' => ?_) (ht I)) fun r s' hr => ?_
    · obtain ⟨m, n, _⟩ := F'.ns
      refine ⟨m, n, fun h' hs => fin (D + 1) D _ B₁ ys k l₁ ob₁ kB hinv fun oL' hoL' hm => ?_⟩
      have DL := F'.obs (L, oL') (.tail _ (hm _ (.head _)))
      have DD := F'.obs (D, lsO ys k) (.head _)
      have nd := F'.nd
      rw [List.map_cons, List.nodup_cons] at nd
      have F3 : Fm K s₀ B₁ L { s' with heap := h' } l ((D, lsO ys k) :: ob) := by
        refine ⟨F.gd.kp kB, F.ns.keeps fun o e => ?_, fun b o e => (hs.2 b (by rintro rfl; rw [F'.no] at e; cases e)).trans (F'.kp b o e), DL.2.2, fun p hp => ?_, ?_, F.sm.trans ⟨F'.sm.gens, F'.sm.drawn, F'.sm.os⟩⟩
        · rw [hoL'] at e; cases e; exact (hs.2 L DL.2.1).trans DL.1
        · rcases List.mem_cons.mp hp with rfl | hp
          · exact ⟨(hs.2 D DD.2.1).trans DD.1, fun q => nd.1 (by show D ∈ _; rw [show D = L from q]; exact (List.mem_map_of_mem (hm (L, oL') (.head _)) : L ∈ List.map Prod.fst ob₁)), DD.2.2⟩
          · have DP := F'.obs p (.tail _ (hm _ (.tail _ hp)))
            exact ⟨(hs.2 _ DP.2.1).trans DP.1, (F.obs p hp).2.1, DP.2.2⟩
        · rw [List.map_cons, List.nodup_cons]
          refine ⟨fun q => ?_, F.nd⟩
          obtain ⟨p, hp, e⟩ := List.mem_map.mp q
          exact nd.1 (by show D ∈ _; rw [show D = p.1 from e.symm]; exact (List.mem_map_of_mem (hm p (.tail _ hp)) : p.1 ∈ List.map Prod.fst ob₁))
      exact F3.freeze0
    · obtain ⟨rfl, hq⟩ := hr
      exact hq
  exact codeAny_compStart_list loop (W.self 0 _ _ _ st4 loop)
end
end Mine
end
section
open PySem PySem.W PyProof.Rows PySem.Calls PySem.Spec
set_option maxRecDepth 100000
namespace Mine
abbrev Rd (h : Heap) (v : Value) (d : PyData) : Prop := ∃ as, Reads h v d as
inductive All2 {α β : Type} (R : α → β → Prop) : List α → List β → Prop
  | nil : All2 R [] []
  | cons {a : α} {b : β} {r : List α} {t : List β} : R a b → All2 R r t → All2 R (a :: r) (b :: t)
section
variable {α β γ : Type} {R S : α → β → Prop} {xs : List α} {ys : List β}
theorem All2.imp (f : ∀ a b, R a b → S a b) : ∀ {xs : List α} {ys : List β}, All2 R xs ys → All2 S xs ys
  | _, _, .nil => .nil
  | _, _, .cons h r => .cons (f _ _ h) (r.imp f)
theorem All2.length : ∀ {xs : List α} {ys : List β}, All2 R xs ys → xs.length = ys.length
  | _, _, .nil => rfl
  | _, _, .cons _ r => by rw [List.length_cons, List.length_cons, r.length]
theorem All2.append : ∀ {xs xs' : List α} {ys ys' : List β}, All2 R xs ys → All2 R xs' ys' → All2 R (xs ++ xs') (ys ++ ys')
  | _, _, _, _, .nil, h => h
  | _, _, _, _, .cons h r, k => .cons h (r.append k)
theorem All2.get : ∀ {xs : List α} {ys : List β} {i : Nat} {a : α}, All2 R xs ys → xs[i]? = some a → ∃ b, ys[i]? = some b ∧ R a b
  | _, _, i, _, .nil, e => by simp at e
  | _, _, 0, _, .cons h r, e => by simp at e; subst e; exact ⟨_, rfl, h⟩
  | _, _, i + 1, _, .cons h r, e => by
    rw [List.getElem?_cons_succ] at e ⊢; exact r.get e
theorem All2.get' : ∀ {xs : List α} {ys : List β} {i : Nat} {b : β}, All2 R xs ys → ys[i]? = some b → ∃ a, xs[i]? = some a ∧ R a b
  | _, _, i, _, .nil, e => by simp at e
  | _, _, 0, _, .cons h r, e => by simp at e; subst e; exact ⟨_, rfl, h⟩
  | _, _, i + 1, _, .cons h r, e => by
    rw [List.getElem?_cons_succ] at e ⊢; exact r.get' e
theorem All2.take : ∀ {xs : List α} {ys : List β} (n : Nat), All2 R xs ys → All2 R (xs.take n) (ys.take n)
  | _, _, _, .nil => by simp; exact .nil
  | _, _, 0, .cons h r => .nil
  | _, _, n + 1, .cons h r => .cons h (r.take n)
theorem All2.drop : ∀ {xs : List α} {ys : List β} (n : Nat), All2 R xs ys → All2 R (xs.drop n) (ys.drop n)
  | _, _, _, .nil => by simp; exact .nil
  | _, _, 0, .cons h r => .cons h r
  | _, _, n + 1, .cons h r => r.drop n
theorem All2.reverse : ∀ {xs : List α} {ys : List β}, All2 R xs ys → All2 R xs.reverse ys.reverse
  | _, _, .nil => .nil
  | _, _, .cons h r => by rw [List.reverse_cons, List.reverse_cons]; exact r.reverse.append (.cons h .nil)
theorem All2.set : ∀ {xs : List α} {ys : List β} (i : Nat) {a : α} {b : β}, All2 R xs ys → R a b → All2 R (xs.set i a) (ys.set i b)
  | _, _, _, _, _, .nil, _ => .nil
  | _, _, 0, _, _, .cons _ r, h => .cons h r
  | _, _, i + 1, _, _, .cons h r, k => .cons h (r.set i k)
theorem All2.map {f : γ → α} : ∀ {xs : List γ} {ys : List β}, All2 (fun c b => R (f c) b) xs ys → All2 R (xs.map f) ys
  | _, _, .nil => .nil
  | _, _, .cons h r => .cons h r.map
theorem All2.unmap {f : γ → α} : ∀ {xs : List γ} {ys : List β}, All2 R (xs.map f) ys → All2 (fun c b => R (f c) b) xs ys
  | [], _, .nil => .nil
  | _ :: _, _, .cons h r => .cons h r.unmap
theorem All2.mapI {f : γ → α} {T : γ → β → Prop} : ∀ {xs : List γ} {ys : List β}, All2 T xs ys → (∀ c b, T c b → R (f c) b) → All2 R (xs.map f) ys
  | _, _, .nil, _ => .nil
  | _, _, .cons h r, g => .cons (g _ _ h) (r.mapI g)
end
abbrev RdL (h : Heap) (ds : List PyData) (vs : List Value) : Prop := All2 (fun d v => Rd h v d) ds vs
theorem Rd.kp {h h' : Heap} {v : Value} {d : PyData} (r : Rd h v d) (k : Kp h h') : Rd h' v d := let ⟨as, r⟩ := r; ⟨as, Reads.keeps k r⟩
theorem RdL.kp {h h' : Heap} {vs : List Value} {ds : List PyData} (r : RdL h ds vs) (k : Kp h h') : RdL h' ds vs := r.imp fun _ _ x => x.kp k
theorem Rd.int {h : Heap} {i : Int} {t : Tok} : Rd h (.int i t) (.int i) := ⟨_, .int i t⟩
theorem Rd.bool {h : Heap} {b : Bool} : Rd h (.bool b) (.bool b) := ⟨_, .bool b⟩
theorem Rd.str {h : Heap} {x : Str} {t : Tok} : Rd h (.str x t) (.str x) := ⟨_, .str x t⟩
theorem RdL.all {h : Heap} {vs : List Value} {ds : List PyData} (r : RdL h ds vs) : ∃ as, ReadsAll h vs ds as := by
  induction r with
  | nil => exact ⟨_, .nil⟩
  | cons h _ ih => obtain ⟨a, h⟩ := h; obtain ⟨b, k⟩ := ih; exact ⟨_, .cons h k⟩
theorem RdL.of {h : Heap} : ∀ {vs : List Value} {ds : List PyData} {as : List Addr}, ReadsAll h vs ds as → RdL h ds vs
  | _, _, _, .nil => .nil
  | _, _, _, .cons h r => .cons ⟨_, h⟩ (RdL.of r)
theorem Rd.list {h : Heap} {a : Addr} {vs : List Value} {n : Nat} {ds : List PyData} (ha : h.get? a = some (lsO vs n)) (r : RdL h ds vs) : Rd h (.ref a) (.list ds) :=
  let ⟨as, r⟩ := r.all; ⟨_, .list ha rfl rfl (by simpa using r)⟩
theorem Rd.tup {h : Heap} {a : Addr} {vs : List Value} {ds : List PyData} (ha : h.get? a = some (tpO vs)) (r : RdL h ds vs) : Rd h (.ref a) (.tuple ds) :=
  let ⟨as, r⟩ := r.all; ⟨_, .tuple ha rfl rfl (by simpa using r)⟩
theorem Rd.isList {h : Heap} {v : Value} {ds : List PyData} (r : Rd h v (.list ds)) : ∃ a vs, v = .ref a ∧ h.IsList a vs ∧ RdL h ds vs.toList := by
  obtain ⟨as, r⟩ := r
  obtain ⟨a, vs, bs, e, h1, h2, _⟩ := isList_of_reads r
  exact ⟨a, vs, e, h1, RdL.of h2⟩
theorem Rd.isTup {h : Heap} {v : Value} {ds : List PyData} (r : Rd h v (.tuple ds)) : ∃ a vs, v = .ref a ∧ IsTup h a vs ∧ RdL h ds vs.toList := by
  obtain ⟨as, r⟩ := r
  cases r with
  | tuple h1 h2 h3 h4 => exact ⟨_, _, rfl, ⟨_, h1, h2, _, h3⟩, RdL.of h4⟩
theorem Rd.int_inv {h : Heap} {v : Value} {i : Int} (r : Rd h v (.int i)) : ∃ t, v = .int i t := by obtain ⟨as, r⟩ := r; cases r; exact ⟨_, rfl⟩
theorem Rd.bool_inv {h : Heap} {v : Value} {i : Bool} (r : Rd h v (.bool i)) : v = .bool i := by obtain ⟨as, r⟩ := r; cases r; rfl
theorem Rd.str_inv {h : Heap} {v : Value} {i : Str} (r : Rd h v (.str i)) : ∃ t, v = .str i t := by obtain ⟨as, r⟩ := r; cases r; exact ⟨_, rfl⟩
theorem RdL.ints {h : Heap} : ∀ {vs : List Value} {ns : List Int}, IntsAre vs ns → RdL h (ns.map .int) vs
  | _, _, .nil => .nil
  | _, _, .cons i t r => .cons Rd.int (RdL.ints r)
theorem RdL.toInts {h : Heap} : ∀ {vs : List Value} {ns : List Int}, RdL h (ns.map .int) vs → IntsAre vs ns
  | _, [], .nil => .nil
  | _, _ :: _, .cons x r => by obtain ⟨t, rfl⟩ := x.int_inv; exact .cons _ _ (RdL.toInts r)
abbrev dIs (ns : List Int) : PyData := .list (ns.map .int)

inductive RmO (a : Addr) (o : Obj) : Ob → Ob → Prop
  | head (r : Ob) : RmO a o ((a, o) :: r) r
  | tail (p : Addr × Obj) {r r' : Ob} : RmO a o r r' → RmO a o (p :: r) (p :: r')
theorem RmO.perm {a : Addr} {o : Obj} : ∀ {l l' : Ob}, RmO a o l l' → List.Perm l ((a, o) :: l')
  | _, _, .head r => .refl _
  | _, _, .tail p r => (r.perm.cons p).trans (.swap _ _ _)
section
variable {K : Frag} {s₀ s : Shared} {B : Heap} {L : Addr} {l : Ls} {ob ob' : Ob}
theorem Fm.freezeAt {a : Addr} {o : Obj} (F : Fm K s₀ B L s l ob) (U : RmO a o ob ob') : ∃ B', Kp B B' ∧ Fm K s₀ B' L s l ob' ∧ B'.get? a = some o := (F.perm U.perm).freeze0
end

section
variable {prog : Program} {w : World} {A : Around} {E : Value → Shared → Prop} {s₀ s : Shared} {env : Env} {K : Frag} {B : Heap} {L : Addr} {l : Ls} {ob ob' : Ob}
theorem nm_freeB {x : Str} {pos : Pos} {c : Addr} {v : Value} {Q : Value → Shared → Prop} (F : Fm K s₀ B L s l ob) (hl : env.kindOf x = some .free) (hc : env.cells.lookup x = some c) (hv : B.get? c = some (cellO (some v))) (h : Q v s)
    (hk : env.scope.kind = .function) (hd : (x == ("__debug__" : Str)) = false) (hn : (x == ("__classdict__" : Str)) = false) : wpAny (model prog w) A (eval (.Name x pos) env) Q E s :=
  wpAny_Name (wpAny_loadName_free hk hl hc ⟨_, F.kp _ _ hv, rfl⟩ h hn) hd
theorem nm_cellB {x : Str} {pos : Pos} {c : Addr} {v : Value} {Q : Value → Shared → Prop} (F : Fm K s₀ B L s l ob) (hl : env.kindOf x = some .cell) (hc : env.cells.lookup x = some c) (hv : B.get? c = some (cellO (some v))) (h : Q v s)
    (hk : env.scope.kind = .function) (hd : (x == ("__debug__" : Str)) = false) : wpAny (model prog w) A (eval (.Name x pos) env) Q E s :=
  wpAny_Name (wpAny_loadName_cell hk hl hc ⟨_, F.kp _ _ hv, rfl⟩ h) hd
theorem nm_cellO {x : Str} {pos : Pos} {c : Addr} {v : Value} {Q : Value → Shared → Prop} (F : Fm K s₀ B L s l ob) (hl : env.kindOf x = some .cell) (hc : env.cells.lookup x = some c) (hv : (c, cellO (some v)) ∈ ob) (h : Q v s)
    (hk : env.scope.kind = .function) (hd : (x == ("__debug__" : Str)) = false) : wpAny (model prog w) A (eval (.Name x pos) env) Q E s :=
  wpAny_Name (wpAny_loadName_cell hk hl hc ⟨_, F.get hv, rfl⟩ h) hd
theorem st_cell {x : Str} {c : Addr} {v₀ : Option Value} {v : Value} {Q : Unit → Shared → Prop} (F : Fm K s₀ B L s l ob) (hl : env.kindOf x = some .cell) (hc : env.cells.lookup x = some c) (U : UpO c (cellO v₀) (cellO (some v)) ob ob')
    (h : ∀ s', Fm K s₀ B L s' l ob' → Q () s') (hk : env.scope.kind = .function) : wpAny (model prog w) A (storeName env x v) Q E s := by
  unfold storeName
  simp only [hl, hk]
  refine wpAny_bind (wpAny_cellOf hc ?_)
  have ho := F.get U.mem
  unfold cellSet
  refine wpAny_bind (wpAny_load ho ?_)
  exact wpAny_update ho (h _ (F.up (s' := { s with heap := _ }) U (Heap.SameBut.update ..) (Heap.get?_update_self _ ho rfl) ⟨rfl, rfl, rfl⟩))
end

/-- a value that may be walked: its items one by one -/
abbrev ItL {α : Type} (prog : Program) (w : World) (A : Around) (B : Heap) (s : Shared) (x : Value) (xs : List α) (P : α → Value → Prop) : Prop := Iters prog w A B s x xs.length (fun i v => ∃ a, xs[i]? = some a ∧ P a v)
section
variable {prog : Program} {w : World} {A : Around} {E : Value → Shared → Prop} {s₀ s : Shared} {env : Env} {K : Frag} {B : Heap} {L : Addr} {l : Ls} {ob : Ob} {Q : Value → Shared → Prop}
theorem Iters.mono {x : Value} {n : Nat} {P P' : Nat → Value → Prop} {B B' : Heap} (it : Iters prog w A B s x n P) (h : ∀ i v, i < n → P i v → P' i v) (k : Kp B B') : Iters prog w A B' s x n P' := by
  intro Q E hQ
  refine it Q E fun I fp St s' W st hfp hal hI g => hQ I fp St s' ?_ st (fun b hb => ?_) hal hI g
  · exact ⟨W.sub, W.frame, fun i s Q E hi hs hq => W.item i s Q E hi hs fun v h' tk hp => hq v h' tk (h i v hi hp), W.done, W.self⟩
  · rcases hfp b hb with e | ⟨o, e⟩
    · exact .inl e
    · exact .inr ⟨o, k _ _ e⟩
theorem it_all {α : Type} {B : Heap} {a : Addr} {vs : Array Value} {xs : List α} {P : α → Value → Prop} (hh : A.handled = none) (k : Kp B s.heap) (h : B.IsList a vs) (h2 : All2 P xs vs.toList) : ItL prog w A B s (.ref a) xs P := by
  have := it_list (prog := prog) (w := w) (A := A) hh k h
  rw [show vs.size = xs.length from by rw [h2.length]; simp] at this
  exact this.mono (fun i v _ e => h2.get' (by rw [Array.getElem?_toList]; exact e)) Kp.rfl
theorem it_D {B : Heap} {v : Value} {ds : List PyData} (hh : A.handled = none) (k : Kp B s.heap) (r : Rd B v (.list ds)) : ItL prog w A B s v ds (fun d v => Rd B v d) := by
  obtain ⟨a, vs, rfl, h1, h2⟩ := r.isList
  exact it_all hh k h1 h2
theorem itl_range {B : Heap} {r : Addr} {n : Nat} {f : Nat → Int} (it : Iters prog w A B s (.ref r) n (fun i v => ∃ t, v = .int (f i) t)) : ItL prog w A B s (.ref r) (List.range n) (fun i v => ∃ t, v = .int (f i) t) := by
  unfold ItL
  rw [List.length_range]
  exact it.mono (fun i v hi h => ⟨i, by rw [List.getElem?_range hi], h⟩) Kp.rfl

theorem comp_list {α β : Type} {elt target iter : Expr} {ifs : List Expr} {scope : Scope} {pos : Pos} {cl : List (Str × Addr)} {xv : Value} {xs : List α} {P : α → Value → Prop} (F : Fm K s₀ B L s l ob) (it : ItL prog w A B s xv xs P) (hn : xs.length ≤ sizeLine)
    (f : α → β) (t : α → Bool) (S : Heap → β → Value → Prop) (mono : ∀ h h' b v, Kp h h' → S h b v → S h' b v)
    (cobs : Addr → Ob → Prop) (hc0 : ∀ C, cobs C (cellOb (C + 1) scope.names []))
    (step : ∀ C B₁ s' ob₁ ex a v, a ∈ xs → Kp B B₁ → P a v → cobs C ob₁ → (∀ p ∈ ob, p ∈ ob₁ ++ ex) → Fm K s B₁ C s' [] (ob₁ ++ ex) →
      wpAny (model prog w) A (assign target (cenvOf scope (cellsFrom (C + 1) scope.names cl) C env) v) (fun _ s₂ => wpAny (model prog w) A (testsOf ifs (cenvOf scope (cellsFrom (C + 1) scope.names cl) C env)) (fun ok s₃ => ok = t a ∧ if ok = true
        then wpAny (model prog w) A (eval elt (cenvOf scope (cellsFrom (C + 1) scope.names cl) C env)) (fun y s₄ => ∃ B₂ ob' l', Kp B₁ B₂ ∧ cobs C ob' ∧ S B₂ (f a) y ∧ Fm K s B₂ C s₄ l' (ob' ++ ex)) (fun _ _ => False) s₃
        else ∃ ob' l', cobs C ob' ∧ Fm K s B₁ C s₃ l' (ob' ++ ex)) (fun _ _ => False) s₂) (fun _ _ => False) s')
    (fin : ∀ D s' B' ys k, Kp B B' → Fm K s₀ B' L s' l ob → B'.get? D = some (lsO ys k) → All2 (S B') ((xs.filter t).map f) ys → Q (.ref D) s')
    (ht : ∀ I v, letOwnedTupleGo target (.ref I) v = pure ()) : CompGo prog w A elt target iter ifs scope pos cl env Q E xv s := by
  refine comp_go F it hn (fun C i B₁ ys l₁ ob₁ => l₁ = [] ∧ (∃ ob₂ oL, s.heap.get? L = some oL ∧ ob₁ = ob₂ ++ (L, oL) :: ob ∧ cobs C ob₂) ∧ All2 (S B₁) (((xs.take i).filter t).map f) ys) (fun C oL hL => ⟨rfl, ⟨_, oL, hL, rfl, hc0 C⟩, by simp; exact .nil⟩) ?_ ?_ ht
  · rintro C D i B₁ s' l ob₁ ys k ex v hi kB ⟨rfl, ⟨ob₂, oL, hL, rfl, hcb⟩, hall⟩ ⟨a, ha, hP⟩ F'
    have hm : a ∈ xs := List.mem_of_getElem? ha
    have hp : ∀ ob₂ : Ob, List.Perm ((D, lsO ys k) :: (ob₂ ++ (L, oL) :: ob) ++ ex) (ob₂ ++ ((D, lsO ys k) :: (((L, oL) :: ob) ++ ex))) := fun ob₂ => by
      rw [List.cons_append, List.append_assoc]; exact List.perm_middle.symm
    have htk : xs.take (i + 1) = xs.take i ++ [a] := by rw [List.take_add_one, ha]; rfl
    refine wpAny_mono (step C B₁ s' ob₂ _ a v hm kB hP hcb (fun p hp => List.mem_append_right _ (.tail _ (.tail _ (List.mem_append_left _ hp)))) (F'.perm (hp ob₂))) (fun _ s₂ h₂ => wpAny_mono h₂ (fun ok s₃ h₃ => ?_) fun _ _ x => x) fun _ _ x => x
    obtain ⟨e, h₃⟩ := h₃
    cases ok with
    | false =>
      obtain ⟨ob', l', hc', F3⟩ := h₃
      refine ⟨B₁, [], _, Kp.rfl, ⟨rfl, ⟨ob', oL, hL, rfl, hc'⟩, ?_⟩, (F3.sub (l' := []) trivial).perm (hp ob').symm⟩
      rw [htk, List.filter_append]; simpa [← e] using hall
    | true =>
      refine wpAny_mono h₃ (fun y s₄ h₄ => ?_) fun _ _ x => x
      obtain ⟨B₂, ob', l', k2, hc', hS, F4⟩ := h₄
      refine ⟨B₂, [], _, k2, ⟨rfl, ⟨ob', oL, hL, rfl, hc'⟩, ?_⟩, (F4.sub (l' := []) trivial).perm (hp ob').symm⟩
      rw [htk, List.filter_append, List.map_append]
      refine (hall.imp fun _ _ z => mono _ _ _ _ k2 z).append ?_
      simp [← e]
      exact .cons hS .nil
  · rintro C D s' B₁ ys k l₁ ob₁ kB ⟨rfl, ⟨ob₂, oL, hL, rfl, _⟩, hall⟩ back
    rw [List.take_length] at hall
    obtain ⟨B₂, k2, F2, hD⟩ := back oL hL fun p hp => List.mem_append_right _ hp
    exact fin D s' B₂ ys k (kB.trans k2) F2 hD (hall.imp fun _ _ z => mono _ _ _ _ k2 z)
end
end Mine
end
section
open PySem PySem.W PyProof.Rows PySem.Calls PySem.Spec
set_option maxRecDepth 100000
namespace Mine
section
variable {prog : Program} {w : World} {A : Around} {E : Value → Shared → Prop} {s₀ s : Shared} {env : Env} {K : Frag} {B : Heap} {L : Addr} {l : Ls} {ob ob' : Ob} {Q : Value → Shared → Prop}
theorem moved_gr {s s₂ s' : Shared} {I : Addr} {G : Array GenState → Array GenState → Prop} (hG : ∀ a b, G a b → b = a) (g : Gr s s₂) (hI : s.heap.get? I = none) (m : Moved [I] G s₂ s') : Gr s s' :=
  ⟨g.sm.trans ⟨hG _ _ m.gens, m.drawn, m.os⟩, fun b o e => m.heap b o (by
    intro q
    rw [List.mem_singleton.mp q, hI] at e; cases e) (g.kp _ _ e)⟩
theorem moved_push {s s' : Shared} {o : Obj} (m : Moved [s.heap.objs.size] (fun a b => b = a) { s with heap := s.heap.push o } s') : Gr s s' :=
  moved_gr (s₂ := { s with heap := s.heap.push o }) (fun _ _ e => e) ⟨⟨rfl, rfl, rfl⟩, Kp.push _⟩ (get_none_of_le (Nat.le_refl _)) m
theorem preSum_ints (ns : List Int) : ∀ j, preSum (fun i => ns.getD i 0) j = (ns.take j).sum
  | 0 => by simp [preSum]
  | j + 1 => by rw [preSum, preSum_ints ns j, PySem.sum_take_succ]
theorem b_sum {a : Addr} {vs : Array Value} {ns : List Int} (F : Fm K s₀ B L s l ob) (hh : A.handled = none) (ha : s.heap.IsList a vs) (hI : IntsAre vs.toList ns)
    (h : ∀ t s', Fm K s₀ B L s' l ob → Q (.int ns.sum t) s') : wpAny (model prog w) A (call (.builtin "sum") [.ref a]) Q E s := by
  refine call_sum_walkAnyS ?_
  have hlt : a < s.heap.objs.size := let ⟨o, ho, _⟩ := ha; Heap.lt_size ho
  have hlen : vs.size = ns.length := by simpa using hI.length
  refine wpAny_pyIter_list ha ⟨s.heap.objs.size, _, _, _, _, _, _, fun i => ns.getD i 0, rfl, (Walks.list (A := A.in1) hh _ a (Nat.ne_of_lt hlt) vs).toS, ⟨⟨_, Heap.get?_push_size _ rfl, rfl, rfl⟩, ha.push _⟩, ?_, ?_, ?_⟩
  · intro b hb
    rw [Heap.size_push]
    rcases List.mem_cons.mp hb with e | hb
    · rw [e]; exact Nat.lt_succ_self _
    · rw [List.mem_singleton.mp hb]; exact Nat.lt_succ_of_lt hlt
  · intro i v e
    have hi : i < ns.length := by rw [← hlen]; exact (Array.getElem?_eq_some_iff.mp e).1
    obtain ⟨u, hx⟩ := hI.get i (ns.getD i 0) (by rw [List.getD_eq_getElem?_getD, List.getElem?_eq_getElem hi]; rfl)
    rw [Array.getElem?_toList] at hx
    have e : vs[i]? = some v := e
    rw [hx] at e; cases e
    exact ⟨u, rfl⟩
  · intro s' t' m
    rw [preSum_ints, hlen, List.take_length]
    exact h _ _ (F.gr (moved_push m))
theorem b_maxL {a : Addr} {vs : Array Value} {ns : List Int} (F : Fm K s₀ B L s l ob) (hh : A.handled = none) (ha : s.heap.IsList a vs) (hI : IntsAre vs.toList ns) (hne : 0 < ns.length)
    (h : ∀ m t s', Fm K s₀ B L s' l ob → m ∈ ns → (∀ x ∈ ns, x ≤ m) → Q (.int m t) s') : wpAny (model prog w) A (call (.builtin "max") [.ref a]) Q E s := by
  refine call_max_walkS ?_
  have hlt : a < s.heap.objs.size := let ⟨o, ho, _⟩ := ha; Heap.lt_size ho
  have hlen : vs.size = ns.length := by simpa using hI.length
  have hval : ∀ i v, vs[i]? = some v → ∃ t, v = Value.int (ns.getD i 0) t := by
    intro i v e
    have hi : i < ns.length := by rw [← hlen]; exact (Array.getElem?_eq_some_iff.mp e).1
    obtain ⟨u, hx⟩ := hI.get i (ns.getD i 0) (by rw [List.getD_eq_getElem?_getD, List.getElem?_eq_getElem hi]; rfl)
    rw [Array.getElem?_toList] at hx
    rw [hx] at e; cases e
    exact ⟨u, rfl⟩
  refine wpAny_pyIter_list ha ⟨s.heap.objs.size, _, _, _, _, _, _, fun i j => decide (ns.getD i 0 > ns.getD j 0), rfl, (Walks.list (A := A.in1) hh _ a (Nat.ne_of_lt hlt) vs).toS, ⟨⟨_, Heap.get?_push_size _ rfl, rfl, rfl⟩, ha.push _⟩, ?_, by lia, CmpOf.ints_gt _ hval, ?_⟩
  · intro b hb
    rw [Heap.size_push]
    rcases List.mem_cons.mp hb with e | hb
    · rw [e]; exact Nat.lt_succ_self _
    · rw [List.mem_singleton.mp hb]; exact Nat.lt_succ_of_lt hlt
  · intro v s' hv m
    obtain ⟨t, rfl⟩ := hval _ _ hv
    obtain ⟨h1, h2⟩ := argBest_gt (fun i => ns.getD i 0) (vs.size - 1)
    refine h _ _ _ (F.gr (moved_push m)) ?_ ?_
    · exact PySem.getD_mem (by omega)
    · intro x hx
      obtain ⟨j, hj, e⟩ := PySem.mem_getD hx
      rw [← e]
      exact h2 j (by lia)
/-- a part of a list -/
theorem e_slice {lower upper step : Option Expr} {p : Pos} (h : wpAny (model prog w) A (evalPart lower env) (fun v₁ s₁ => wpAny (model prog w) A (evalPart upper env) (fun v₂ s₂ => wpAny (model prog w) A (evalPart step env) (fun v₃ s₃ =>
      ∀ S s₄, Gr s₃ s₄ → s₄.heap.IsSliceOf S v₁ v₂ v₃ → Q (.ref S) s₄) E s₂) E s₁) E s) : wpAny (model prog w) A (eval (.Slice lower upper step p) env) Q E s :=
  wpAny_Slice (wpAny_mono h (fun _ _ h₁ => wpAny_mono h₁ (fun _ _ h₂ => wpAny_mono h₂ (fun _ _ h₃ => h₃ _ _ ⟨⟨rfl, rfl, rfl⟩, Kp.push _⟩ (Heap.IsSliceOf.new ..)) fun _ _ x => x) fun _ _ x => x) fun _ _ x => x)
theorem ep_none (h : Q .none s) : wpAny (model prog w) A (evalPart none env) Q E s := wpAny_pure h
theorem ep_some {e : Expr} (h : wpAny (model prog w) A (eval e env) Q E s) : wpAny (model prog w) A (evalPart (some e) env) Q E s := h
theorem sub_slice {value slice : Expr} {a S : Addr} {items : Array Value} {v₁ v₂ v₃ : Value} {lo hi st : Option Int} {ops : List Value} (F : Fm K s₀ B L s l ob) (ha : s.heap.IsList a items) (hS : s.heap.IsSliceOf S v₁ v₂ v₃) (p1 : IsPart v₁ lo) (p2 : IsPart v₂ hi) (p3 : IsPart v₃ st) (h0 : st ≠ some 0) (hz : items.size ≤ sizeLine)
    (h : ∀ D s', Fm K s₀ B L s' l ((D, lsO (slicePick items lo hi st).toList 0) :: ob) → Q (.ref D) s')
    (hs : subscripted slice false (.ref a) (.ref S) = operate ops (getItem (.ref a) (.ref S))) : wpAny (model prog w) A (subscriptTail value slice (.ref a) (.ref S)) Q E s :=
  tail_any ha.typeIs slot_list_getitem.lookup (wpAny_getItem_list_slice ha hS p1 p2 p3 h0 (h _ _ (by simpa using F.push (lsO (slicePick items lo hi st).toList 0) rfl s.toks)) hz) hs
theorem b_range2R {m n : Int} {t u : Tok} (F : Fm K s₀ B L s l ob)
    (h : ∀ r s' v, Fm K s₀ B L s' l ob → IsRange s'.heap r m n 1 t u v → Q (.ref r) s') : wpAny (model prog w) A (call (.type "range") [.int m t, .int n u]) Q E s :=
  call_range_2 (h _ _ _ (F.gr ⟨⟨rfl, rfl, rfl⟩, Kp.push _⟩) (IsRange.new _ _ _ _ _ _ _))
theorem l_range {r : Addr} {m n : Int} {t u v : Tok} (hh : A.handled = none) (F : Fm K s₀ B L s l ob) (hr : IsRange s.heap r m n 1 t u v) (h1 : -(2 ^ 62) ≤ n) (h2 : n < 2 ^ 62) (h3 : -(2 ^ 62) ≤ m) (h4 : m < 2 ^ 62) (h5 : (n - m).toNat ≤ 2 ^ 24)
    (h : ∀ D vs k s', Fm K s₀ B L s' l ((D, lsO vs k) :: ob) → IntsAre vs ((List.range (n - m).toNat).map fun (i : Nat) => m + (i : Int)) → Q (.ref D) s') : wpAny (model prog w) A (call (.type "list") [.ref r]) Q E s := by
  refine call_list_range (n := (n - m).toNat) hh hr (small_one h3 h4 h1 h2) (by rw [rangeSize_one]; split <;> lia) h5 fun h' tk acc' c' hk hS' hacc => ?_
  refine h _ acc'.toList c' _ (F.join (Gr.mk' (s := s) (h := h') (tk := tk) hk) (get_none_of_le (Nat.le_refl _)) (by simpa using hS')) ?_
  have q : ∀ (xs : List Value) (j N : Nat), xs.length = N → (∀ i v, xs[i]? = some v → ∃ t, v = Value.int (m + ((j + i : Nat) : Int)) t) → IntsAre xs ((List.range' j N).map fun (i : Nat) => m + (i : Int)) := by
    intro xs
    induction xs with
    | nil => intro j N e _; simp at e; subst e; exact .nil
    | cons x r ih =>
      intro j N e hx
      cases N with
      | zero => simp at e
      | succ N =>
        obtain ⟨t, rfl⟩ := hx 0 x rfl
        rw [List.range'_succ, List.map_cons]
        refine .cons _ _ (ih (j + 1) N (by simpa using e) fun i v hv => ?_)
        have := hx (i + 1) v (by simpa using hv)
        rwa [show j + 1 + i = j + (i + 1) from by lia]
  have := q acc'.toList 0 (n - m).toNat (by simpa using hacc.1) fun i v hv => by
    have := hacc.2 i v (by simpa using hv)
    simpa using this
  rwa [← List.range_eq_range'] at this
/-- == and != by data -/
theorem eq_D {a b : Value} {da db : PyData} {k : Nat} (F : Fm K s₀ B L s l ob) (ra : Rd s.heap a da) (rb : Rd s.heap b db) (ha : SeqAt.shaped da = true) (hb : SeqAt.shaped db = true) (R : Rm A (k + 5)) (h : Q (.bool (PyData.eqv da db)) s) : wpAny (model prog w) A (compareOp .Eq a b) Q E s :=
  let ⟨_, x⟩ := ra; let ⟨_, y⟩ := rb; eq_dataH x y ha hb (by have := R.u; lia) h
theorem ne_D {a b : Value} {da db : PyData} {k : Nat} (F : Fm K s₀ B L s l ob) (ra : Rd s.heap a da) (rb : Rd s.heap b db) (ha : SeqAt.shaped da = true) (hb : SeqAt.shaped db = true) (R : Rm A (k + 5)) (h : Q (.bool (!PyData.eqv da db)) s) : wpAny (model prog w) A (compareOp .NotEq a b) Q E s :=
  let ⟨_, x⟩ := ra; let ⟨_, y⟩ := rb; ne_dataH x y ha hb (by have := R.u; lia) h
theorem in_D {c x : Value} {xs : List PyData} {d : PyData} {k : Nat} (F : Fm K s₀ B L s l ob) (ra : Rd s.heap c (.list xs)) (rb : Rd s.heap x d) (ha : SeqAt.shaped (.list xs) = true) (hb : SeqAt.shaped d = true) (R : Rm A (k + 5)) (h : Q (.bool (xs.any fun y => PyData.eqv y d)) s) : wpAny (model prog w) A (compareOp .In x c) Q E s :=
  let ⟨_, p⟩ := ra; let ⟨_, q⟩ := rb; SeqAt.in_list_reads p q (SeqAt.canLay_of_shaped ha) (SeqAt.canLay_of_shaped hb) (room_in_shaped hb (by have := R.u; lia)) h
theorem notin_D {c x : Value} {xs : List PyData} {d : PyData} {k : Nat} (F : Fm K s₀ B L s l ob) (ra : Rd s.heap c (.list xs)) (rb : Rd s.heap x d) (ha : SeqAt.shaped (.list xs) = true) (hb : SeqAt.shaped d = true) (R : Rm A (k + 5)) (h : Q (.bool (!(xs.any fun y => PyData.eqv y d))) s) : wpAny (model prog w) A (compareOp .NotIn x c) Q E s :=
  let ⟨_, p⟩ := ra; let ⟨_, q⟩ := rb; SeqAt.notIn_list_reads p q (SeqAt.canLay_of_shaped ha) (SeqAt.canLay_of_shaped hb) (room_in_shaped hb (by have := R.u; lia)) h
theorem b_lenD {v : Value} {ds : List PyData} (F : Fm K s₀ B L s l ob) (r : Rd s.heap v (.list ds)) (hf : ds.length < 2 ^ 62)
    (h : ∀ u s', Fm K s₀ B L s' l ob → Q (.int ds.length u) s') : wpAny (model prog w) A (call (.builtin "len") [v]) Q E s := by
  obtain ⟨a, vs, rfl, h1, h2⟩ := r.isList
  have e : vs.size = ds.length := by rw [h2.length]; simp
  refine b_len_list F h1 (by lia) fun u s' F => ?_
  rw [e]; exact h u s' F
theorem sub_D {value slice : Expr} {v : Value} {ds : List PyData} {k : Int} {u : Tok} {d : PyData} (F : Fm K s₀ B L s l ob) (r : Rd B v (.list ds)) (h0 : 0 ≤ k) (h1 : k < 2 ^ 62) (hd : ds[k.toNat]? = some d) (h : ∀ x, Rd B x d → Q x s)
    (hs : ∀ T, subscripted slice false (.ref T) (.int k u) = operate [.ref T, .int k u] (getItem (.ref T) (.int k u))) : wpAny (model prog w) A (subscriptTail value slice v (.int k u)) Q E s := by
  obtain ⟨a, vs, rfl, h1', h2⟩ := r.isList
  obtain ⟨x, hx, rx⟩ := h2.get hd
  exact sub_list (let ⟨o, ho, q⟩ := h1'; ⟨o, F.kp _ _ ho, q⟩) h0 h1 (by rw [← Array.getElem?_toList]; exact hx) (h x rx) (hs a)
theorem subt_D {value slice : Expr} {v : Value} {ds : List PyData} {k : Int} {u : Tok} {d : PyData} (F : Fm K s₀ B L s l ob) (r : Rd B v (.tuple ds)) (h0 : 0 ≤ k) (h1 : k < 2 ^ 62) (hd : ds[k.toNat]? = some d) (h : ∀ x, Rd B x d → Q x s)
    (hs : ∀ T, subscripted slice false (.ref T) (.int k u) = operate [.ref T, .int k u] (getItem (.ref T) (.int k u))) : wpAny (model prog w) A (subscriptTail value slice v (.int k u)) Q E s := by
  obtain ⟨a, vs, rfl, h1', h2⟩ := r.isTup
  obtain ⟨x, hx, rx⟩ := h2.get hd
  exact sub_tup (vs := vs.toList) (by simpa using h1'.keeps F.kp) h0 h1 hx (h x rx) (hs a)
theorem b_index {a : Addr} {vs : List Value} {ns : List Int} {k : Int} {t : Tok} (F : Fm K s₀ B L s l ob) (ha : s.heap.IsList a vs.toArray) (hI : IntsAre vs ns) (hlay : PyData.layable0 (.list (ns.map .int)) = true) (hk : k ∈ ns)
    (h : ∀ t s', Fm K s₀ B L s' l ob → Q (.int (ns.idxOf k : Nat) t) s') : wpAny (model prog w) A (call (.builtin "list.index") [.ref a, .int k t]) Q E s :=
  index_list_ints ha hI hlay hk (h _ _ (F.gr Gr.tk))
theorem b_isiB {b : Bool} (h : Q (.bool true) s) : wpAny (model prog w) A (call (.builtin "isinstance") [.bool b, .type "bool"]) Q E s := by exact PySem.IsiPair.bool_bool h
/-- texts by their signs -/
abbrev sOf (l : List Nat) : Str := ⟨l.toArray⟩
theorem o_mulS {c : Nat} {n : Int} {t u : Tok} (F : Fm K s₀ B L s l ob) (h1 : -(2 ^ 62) ≤ n) (h2 : n ≤ 1000) (h : ∀ t' s', Fm K s₀ B L s' l ob → Q (.str (sOf (List.replicate n.toNat c)) t') s') : wpAny (model prog w) A (binaryOp .Mult (.str ⟨#[c]⟩ t) (.int n u)) Q E s := by
  refine SB.mul (mulOk_of 1 1000 (Nat.le_refl _) (by omega) (by lia) (by decide) (by decide)) fun t' k => ?_
  · have e : Txt.mul ⟨#[c]⟩ n = sOf (List.replicate n.toNat c) := by
      have := mul_one_list c n
      cases hm : Txt.mul ⟨#[c]⟩ n with
      | mk cps => rw [hm] at this; simp only [sOf]; rw [← this]
    rw [e]
    exact h _ _ (F.gr Gr.tk)
theorem o_addS {x y : List Nat} {t u : Tok} (F : Fm K s₀ B L s l ob) (hz : x.length + y.length ≤ 100000) (h : ∀ t' s', Fm K s₀ B L s' l ob → Q (.str (sOf (x ++ y)) t') s') : wpAny (model prog w) A (binaryOp .Add (.str (sOf x) t) (.str (sOf y) u)) Q E s := by
  refine PyProof.Rows.add_str (fun t' tk => ?_) (by show x.toArray.size + y.toArray.size ≤ sizeLine; rw [sizeLine_eq]; simp; lia)
  have e : (sOf x ++ sOf y) = sOf (x ++ y) := by
    show Str.append _ _ = _
    simp [Str.append]
  rw [e]
  exact h _ _ (F.gr Gr.tk)
end
end Mine
end
section
open PySem PySem.W PyProof.Rows PySem.Calls PySem.Spec
set_option maxRecDepth 100000
namespace Mine
def BindsGo (M : Model) (A : Around) (env : Env) (P : Shared → Prop) : List (Str × Value) → Shared → Prop
  | [], s => P s
  | (x, v) :: r, s => wpAny M A (storeName env x v) (fun _ s' => BindsGo M A env P r s') (fun _ _ => False) s
section
variable {prog : Program} {w : World} {A : Around} {E : Value → Shared → Prop} {s₀ s : Shared} {env : Env} {K : Frag} {B : Heap} {L : Addr} {l : Ls} {ob ob' : Ob} {Q : Value → Shared → Prop} {oL : Obj}
theorem binds_cons {P : Shared → Prop} {x : Str} {v : Value} {r : List (Str × Value)} (h : wpAny (model prog w) A (storeName env x v) (fun _ s' => BindsGo (model prog w) A env P r s') (fun _ _ => False) s) : BindsGo (model prog w) A env P ((x, v) :: r) s := h
theorem binds_nil {P : Shared → Prop} (h : P s) : BindsGo (model prog w) A env P [] s := h
theorem binds_run {P : Shared → Prop} (f : Str × Value → PUnit → Sem (ForInStep PUnit)) (hf : ∀ n v u, f (n, v) u = (do storeName env n v; pure (.yield ⟨⟩))) : ∀ (binds : List (Str × Value)) (s : Shared), BindsGo (model prog w) A env P binds s →
    wpAny (model prog w) A (forIn binds ⟨⟩ f) (fun _ s' => P s') E s
  | [], s, h => by rw [List.forIn_nil]; exact wpAny_pure h
  | (n, v) :: r, s, h => by
    rw [List.forIn_cons, hf]
    exact wpAny_bind (wpAny_bind (wpAny_mono h (fun _ s' h' => wpAny_pure (binds_run f hf r s' h')) fun _ _ x => x.elim))
theorem env_go {scope : Scope} {cl : List (Str × Addr)} {binds : List (Str × Value)} {qual : Str} {f : Addr} {cdv : Value} {Q : Env → Shared → Prop} (F : Fm K s₀ B L s l ob) (hL : s.heap.get? L = some oL)
    (h : ∀ s', Fm K s B s.heap.objs.size s' [] (cellOb (s.heap.objs.size + 1) scope.names [] ++ (L, oL) :: ob) →
      BindsGo (model prog w) A (envX qual scope s.heap.objs.size f cdv (cellsFrom (s.heap.objs.size + 1) scope.names cl)) (fun s'' => Q (envX qual scope s.heap.objs.size f cdv (cellsFrom (s.heap.objs.size + 1) scope.names cl)) s'') binds s') :
    wpAny (model prog w) A (newFunctionEnv scope mainGlobals cl binds (qual ++ ".<locals>.") (some f) cdv none builtinsNs) Q E s := by
  simp only [newFunctionEnv, Option.isSome_none, Bool.false_eq_true, if_false]
  refine wpAny_bind (wpAny_alloc ?_)
  refine wpAny_bind (wpAny_layCells _ (fun name kind cells => by cases hkc : kind == NameKind.cell <;> simp) _ _ _ _ ?_)
  have hz : ({ s with heap := s.heap.push { cls := .type "frame", data := .dict #[] } } : Shared).heap.objs.size = s.heap.objs.size + 1 := Heap.size_push ..
  rw [hz]
  refine wpAny_bind ?_
  have F1 : Fm K s B s.heap.objs.size { s with heap := s.heap.push { cls := .type "frame", data := .dict #[] } } [] ((L, oL) :: ob) :=
    F.enter (s' := { s with heap := s.heap.push { cls := .type "frame", data := .dict #[] } }) hL (Kp.push _) ⟨rfl, rfl, rfl⟩ ⟨_, Heap.Ns.new s.heap (.type "frame"), fun x v e => by cases e⟩ (get_none_of_le (Nat.le_refl _))
  have F2 := F1.cells scope.names
  rw [hz, show ((L, oL) :: ob) = [] ++ ((L, oL) :: ob) from rfl, cellOb_app] at F2
  exact wpAny_mono (binds_run _ (fun _ _ _ => rfl) binds _ (h _ F2)) (fun _ _ h' => wpAny_pure h') fun _ _ x => x
/-- a call of a def, what it makes goes into the ground -/
theorem call_fnG (binds : List (Str × Value)) {name qual : Str} {params : Arguments} {body : List Stmt} {scope : Scope} {cl : List (Str × Addr)} {dV kV doc pm cdv ct oc : Value} {an od : Option Addr} {osl : Array (Option Value)} {f : Addr} {pos : List Value} {kw : List (Str × Value)} {k : Nat}
    (F : Fm K s₀ B L s l ob) (R : Rm A (k + 1))
    (ho : K.lookup f = some ⟨oc, od, .func (fnX name qual params body scope cl dV kV doc pm an cdv ct), osl⟩) (hcd : codeIn K cdv qual = true)
    (hbind : BindsTo s (fnX name qual params body scope cl dV kV doc pm an cdv ct) ⟨pos, kw⟩ binds)
    (h : ∀ L' s' A' A₁ oL, s.heap.get? L = some oL → Fm K s B L' s' [] (cellOb (L' + 1) scope.names [] ++ (L, oL) :: ob) → Rm A' k →
      BindsGo (model prog w) A₁ (envX qual scope L' f cdv (cellsFrom (L' + 1) scope.names cl)) (fun s'' => Gd K s''.heap ∧ wpAny (model prog w) A' (execs body (envX qual scope L' f cdv (cellsFrom (L' + 1) scope.names cl))) (RetTo Q) (fun _ _ => False) s'') binds s')
    (hco : scope.isCoroutine = false) (hgen : scope.isGenerator = false) : wpAny (model prog w) A (call (.ref f) pos kw) Q E s := by
  obtain ⟨oL, hL⟩ := F.ns.get
  have G := F.gdh
  refine wpAny_call ?_
  refine codeAny_call_function (fd := fnX name qual params body scope cl dV kV doc pm an cdv ct) R.room (G.k _ _ ho) rfl hco hgen rfl (codeRec_of G.k hcd) (hbind _ _ _ _ ?_)
  refine env_go F hL fun s' F' => ?_
  have mono : ∀ (bs : List (Str × Value)) (s : Shared) (P P' : Shared → Prop) (A : Around) (env : Env), (∀ s, P s → P' s) → BindsGo (model prog w) A env P bs s → BindsGo (model prog w) A env P' bs s := by
    intro bs
    induction bs with
    | nil => intro s P P' A env hp h; exact hp _ h
    | cons x r ih => intro s P P' A env hp h; exact wpAny_mono h (fun _ s' h' => ih s' P P' A env hp h') fun _ _ x => x
  refine mono _ _ _ _ _ _ (fun s'' hs => ?_) (h _ s' (A.deeper (envX qual scope s.heap.objs.size f cdv (cellsFrom (s.heap.objs.size + 1) scope.names cl))) A.in1 oL hL F' R.deeper)
  refine ⟨hs.1.nl, codeAny_func (wpAny_mono hs.2 (fun fl s' hq => ?_) fun _ _ x => x.elim)⟩
  cases fl <;> exact hq

theorem glue_nil (ls : List (List Nat)) : Builtin.Str.glued (sOf []) (ls.map sOf) = sOf ls.flatten := by
  have q : ∀ (xs : List (List Nat)) (acc : List Nat), List.foldl (fun (acc : Array Nat) (p : Str) => acc ++ (#[] : Array Nat) ++ p.cps) acc.toArray (xs.map sOf) = (acc ++ xs.flatten).toArray := by
    intro xs
    induction xs with
    | nil => intro acc; simp
    | cons x r ih => intro acc; rw [List.map_cons, List.foldl_cons, List.flatten_cons]; have := ih (acc ++ x); simp only [← List.append_assoc] at this ⊢; rw [← this]; simp
  unfold Builtin.Str.glued
  cases ls with
  | nil => rfl
  | cons x r =>
    have := q r x
    simp only [List.map_cons, List.drop_succ_cons, List.drop_zero, List.headD_cons, List.flatten_cons]
    exact congrArg Str.mk this
theorem b_join {D : Addr} {items : Array Value} {t : Tok} {ls : List (List Nat)} (F : Fm K s₀ B L s l ob) (hl : s.heap.IsList D items) (hi : All2 (fun x v => ∃ t, v = Value.str (sOf x) t) ls items.toList) (hw : (ls.map List.length).sum + ls.length ≤ 1048576)
    (h : ∀ t' s', Fm K s₀ B L s' l ob → Q (.str (sOf ls.flatten) t') s') : wpAny (model prog w) A (call (.builtin "str.join") [.str (sOf []) t, .ref D]) Q E s := by
  have hs : ∀ (ls : List (List Nat)) (vs : List Value), All2 (fun x v => ∃ t, v = Value.str (sOf x) t) ls vs → StrsAre vs (ls.map sOf) := by
    intro ls vs h
    induction h with
    | nil => exact .nil
    | cons h _ ih => obtain ⟨t, rfl⟩ := h; exact .cons _ _ ih
  refine join_listW hl (hs _ _ hi) (by decide) ?_ fun t' k => ?_
  · rw [List.map_map, List.length_map]
    have e : ((fun x => Str.length x) ∘ sOf) = List.length := by funext x; show x.toArray.size = _; simp
    rw [show ((·.length) ∘ sOf : List Nat → Nat) = List.length from e]; exact hw
  · show Q (.str (Builtin.Str.glued _ _) t') _
    rw [glue_nil]
    exact h _ _ (F.gr Gr.tk)
theorem gm_join {x : Str} {t : Tok} {pl : Sem Bool} {Q : Value × List Value → Shared → Prop} (h : Q (.builtin "str.join", [.str x t]) s) : wpAny (model prog w) A (getMethod (.str x t) "join" pl) Q E s := by
  exact PySem.GM.join h
theorem tests_nil {Q : Bool → Shared → Prop} (h : Q true s) : wpAny (model prog w) A (testsOf [] env) Q E s := by
  unfold testsOf; rw [List.forIn_nil]; exact wpAny_pure h
theorem tests_one {c : Expr} {Q : Bool → Shared → Prop} (h : wpAny (model prog w) A (isTrue c env (eval c env)) Q E s) : wpAny (model prog w) A (testsOf [c] env) Q E s := by
  unfold testsOf
  rw [List.forIn_cons]
  simp only [if_true]
  refine wpAny_bind (wpAny_bind (wpAny_mono h (fun b s' h' => wpAny_pure ?_) fun _ _ x => x))
  show wpAny _ _ (forIn [] b _) _ _ _
  rw [List.forIn_nil]
  exact wpAny_pure h'
theorem a_name {x : Str} {p : Pos} {v : Value} {Q : Unit → Shared → Prop} (h : wpAny (model prog w) A (storeName env x v) Q E s) : wpAny (model prog w) A (assign (.Name x p) env v) Q E s := wpAny_assign_Name h
theorem it_ints {v : Value} {ns : List Int} (hh : A.handled = none) (k : Kp B s.heap) (r : Rd B v (dIs ns)) : ItL prog w A B s v ns (fun n v => ∃ t, v = .int n t) := by
  obtain ⟨a, vs, rfl, h1, h2⟩ := r.isList
  exact it_all hh k h1 (h2.unmap.imp fun _ _ x => x.int_inv)
theorem ints_of : ∀ {vs : List Value}, (∀ v ∈ vs, ∃ i t, v = .int i t) → ∃ ms, IntsAre vs ms
  | [], _ => ⟨[], .nil⟩
  | v :: r, h => by
    obtain ⟨i, t, rfl⟩ := h v (.head _)
    obtain ⟨ms, q⟩ := ints_of fun x hx => h x (.tail _ hx)
    exact ⟨i :: ms, .cons i t q⟩
theorem ints_mem : ∀ {vs : List Value} {ns : List Int}, IntsAre vs ns → ∀ v ∈ vs, ∃ i t, v = .int i t
  | _, _, .cons i t r, v, hm => by
    rcases List.mem_cons.mp hm with rfl | hm
    · exact ⟨i, t, rfl⟩
    · exact ints_mem r v hm
theorem pick_mem {items : Array Value} {lo hi st : Option Int} {v : Value} (h : v ∈ (slicePick items lo hi st).toList) : v ∈ items.toList := by
  unfold slicePick at h
  simp only [List.mem_filterMap] at h
  obtain ⟨i, _, e⟩ := h
  exact List.mem_of_getElem? (by rw [Array.getElem?_toList]; exact e)
theorem pick_rev (items : Array Value) : slicePick items none none (some (-1)) = items.toList.reverse.toArray := krv_pick items
theorem pick_from {items : Array Value} {x : Int} (h : 0 ≤ x) : (slicePick items (some x) none none).toList = items.toList.drop x.toNat := by
  have e : sliceBounds (some x) none none items.size = (((min x.toNat items.size : Nat) : Int), ((items.size : Nat) : Int), 1) := by
    simp only [sliceBounds, Option.getD_none, show (1 : Int) > 0 by decide, if_true, if_neg (show ¬ (x < 0) by lia)]
    congr 1
    lia
  rw [kmk_pick_nat _ e]
  show ((items.toList.drop (min x.toNat items.size)).take (items.size - min x.toNat items.size)) = _
  rw [show items.size = items.toList.length by simp, kmk_drop_min, List.take_of_length_le (by rw [List.length_drop]; omega)]
theorem pick_upto {items : Array Value} {y : Int} (h : 0 ≤ y) : (slicePick items none (some y) none).toList = items.toList.take y.toNat := by
  have e : sliceBounds none (some y) none items.size = (((0 : Nat) : Int), ((min y.toNat items.size : Nat) : Int), 1) := by
    simp only [sliceBounds, Option.getD_none, show (1 : Int) > 0 by decide, if_true, if_neg (show ¬ (y < 0) by lia)]
    congr 1
    congr 1
    lia
  rw [kmk_pick_nat _ e]
  show ((items.toList.drop 0).take (min y.toNat items.size - 0)) = _
  rw [List.drop_zero, Nat.sub_zero, show items.size = items.toList.length by simp, kmk_take_min]
theorem getI {ns : List Int} {i : Nat} (h : i < ns.length) : (ns.map PyData.int)[i]? = some (.int (ns.getD i 0)) := by
  rw [List.getElem?_map, List.getD_eq_getElem?_getD, List.getElem?_eq_getElem h]; rfl
def closGo (env : Env) : List (Str × NameKind) → List (Str × Addr) → Option (List (Str × Addr))
  | [], cs => some cs
  | (n, .free) :: r, cs => match env.cells.lookup n with | some c => closGo env r ((n, c) :: cs) | none => none
  | _ :: r, cs => closGo env r cs
theorem closureFor_of {scope : Scope} {cl : List (Str × Addr)} (h : closGo env scope.names [] = some cl) : closureFor scope env = pure cl := by
  unfold closureFor
  have q : ∀ (names : List (Str × NameKind)) (cs cl : List (Str × Addr)) (f : Str × NameKind → List (Str × Addr) → Sem (ForInStep (List (Str × Addr)))),
      (∀ n k cs, f (n, k) cs = if (k == .free) = true then (do let a ← cellOf env n; pure (.yield ((n, a) :: cs))) else pure (.yield cs)) → closGo env names cs = some cl → forIn names cs f = (pure cl : Sem _) := by
    intro names
    induction names with
    | nil => intro cs cl f hf h; cases h; rfl
    | cons x r ih =>
      intro cs cl f hf h
      obtain ⟨n, k⟩ := x
      rw [List.forIn_cons, hf]
      cases k with
      | free =>
        simp only [closGo] at h
        cases e : env.cells.lookup n with
        | none => rw [e] at h; cases h
        | some c =>
          rw [e] at h
          rw [if_pos (by decide : (NameKind.free == NameKind.free) = true)]
          unfold cellOf
          rw [e]
          simp only [pure_bind]
          exact ih _ cl f hf h
      | _ =>
        rw [if_neg (by decide)]
        simp only [pure_bind]
        exact ih cs cl f hf h
  refine Eq.trans (congrArg (fun m => m >>= fun cs => pure cs) (q scope.names [] cl _ (fun n k cs => ?_) h)) (pure_bind _ _)
  rfl
theorem e_compC {elt target iter : Expr} {ifs : List Expr} {scope : Scope} {pos : Pos} {cl : List (Str × Addr)} (h : wpAny (model prog w) A (eval iter env) (CompGo prog w A elt target iter ifs scope pos cl env Q E) E s) (hclos : closGo env scope.names [] = some cl) (hkind : scope.kind = .function)
    (hnames : (scope.names.all fun x => decide (x.2 = .local → scope.names.lookup x.1 = some .local)) = true)
    (hs : ∀ x, foldedSetIterable iter env x = pure x) : wpAny (model prog w) A (eval (.ListComp elt [⟨target, iter, ifs, 0⟩] scope pos) env) Q E s := e_comp h (closureFor_of hclos) hkind hnames hs
end
end Mine
end
section
open PySem PySem.W PyProof.Rows PySem.Calls PySem.Spec
set_option maxRecDepth 100000
namespace Mine
section
variable {prog : Program} {w : World} {A : Around} {E : Value → Shared → Prop} {s₀ s : Shared} {env : Env} {K : Frag} {B : Heap} {L : Addr} {l : Ls} {ob : Ob} {Q : Value → Shared → Prop}
theorem comp_map {α β : Type} {elt target iter : Expr} {scope : Scope} {pos : Pos} {cl : List (Str × Addr)} {xv : Value} {xs : List α} {P : α → Value → Prop} (F : Fm K s₀ B L s l ob) (it : ItL prog w A B s xv xs P) (hn : xs.length ≤ sizeLine)
    (f : α → β) (S : Heap → β → Value → Prop) (mono : ∀ h h' b v, Kp h h' → S h b v → S h' b v)
    (cobs : Addr → Ob → Prop) (hc0 : ∀ C, cobs C (cellOb (C + 1) scope.names []))
    (step : ∀ C B₁ s' ob₁ ex a v, a ∈ xs → Kp B B₁ → P a v → cobs C ob₁ → (∀ p ∈ ob, p ∈ ob₁ ++ ex) → Fm K s B₁ C s' [] (ob₁ ++ ex) →
      wpAny (model prog w) A (assign target (cenvOf scope (cellsFrom (C + 1) scope.names cl) C env) v) (fun _ s₂ =>
        wpAny (model prog w) A (eval elt (cenvOf scope (cellsFrom (C + 1) scope.names cl) C env)) (fun y s₄ => ∃ B₂ ob' l', Kp B₁ B₂ ∧ cobs C ob' ∧ S B₂ (f a) y ∧ Fm K s B₂ C s₄ l' (ob' ++ ex)) (fun _ _ => False) s₂) (fun _ _ => False) s')
    (fin : ∀ D s' B' ys k, Kp B B' → Fm K s₀ B' L s' l ob → B'.get? D = some (lsO ys k) → All2 (S B') (xs.map f) ys → Q (.ref D) s')
    (ht : ∀ I v, letOwnedTupleGo target (.ref I) v = pure ()) : CompGo prog w A elt target iter [] scope pos cl env Q E xv s := by
  refine comp_list F it hn f (fun _ => true) S mono cobs hc0 (fun C B₁ s' ob₁ ex a v hm kB hP hc hob F' => ?_) (fun D s' B' ys k kB F' hD h => fin D s' B' ys k kB F' hD (by rwa [List.filter_eq_self.mpr (fun _ _ => rfl)] at h)) ht
  refine wpAny_mono (step C B₁ s' ob₁ ex a v hm kB hP hc hob F') (fun _ s₂ h₂ => tests_nil ⟨rfl, ?_⟩) fun _ _ x => x
  rw [if_pos rfl]
  exact h₂
theorem comp_if {α β : Type} {elt target iter c : Expr} {scope : Scope} {pos : Pos} {cl : List (Str × Addr)} {xv : Value} {xs : List α} {P : α → Value → Prop} (F : Fm K s₀ B L s l ob) (it : ItL prog w A B s xv xs P) (hn : xs.length ≤ sizeLine)
    (f : α → β) (t : α → Bool) (S : Heap → β → Value → Prop) (mono : ∀ h h' b v, Kp h h' → S h b v → S h' b v)
    (cobs : Addr → Ob → Prop) (hc0 : ∀ C, cobs C (cellOb (C + 1) scope.names []))
    (step : ∀ C B₁ s' ob₁ ex a v, a ∈ xs → Kp B B₁ → P a v → cobs C ob₁ → (∀ p ∈ ob, p ∈ ob₁ ++ ex) → Fm K s B₁ C s' [] (ob₁ ++ ex) →
      wpAny (model prog w) A (assign target (cenvOf scope (cellsFrom (C + 1) scope.names cl) C env) v) (fun _ s₂ => wpAny (model prog w) A (isTrue c (cenvOf scope (cellsFrom (C + 1) scope.names cl) C env) (eval c (cenvOf scope (cellsFrom (C + 1) scope.names cl) C env))) (fun ok s₃ => ok = t a ∧ if ok = true
        then wpAny (model prog w) A (eval elt (cenvOf scope (cellsFrom (C + 1) scope.names cl) C env)) (fun y s₄ => ∃ B₂ ob' l', Kp B₁ B₂ ∧ cobs C ob' ∧ S B₂ (f a) y ∧ Fm K s B₂ C s₄ l' (ob' ++ ex)) (fun _ _ => False) s₃
        else ∃ ob' l', cobs C ob' ∧ Fm K s B₁ C s₃ l' (ob' ++ ex)) (fun _ _ => False) s₂) (fun _ _ => False) s')
    (fin : ∀ D s' B' ys k, Kp B B' → Fm K s₀ B' L s' l ob → B'.get? D = some (lsO ys k) → All2 (S B') ((xs.filter t).map f) ys → Q (.ref D) s')
    (ht : ∀ I v, letOwnedTupleGo target (.ref I) v = pure ()) : CompGo prog w A elt target iter [c] scope pos cl env Q E xv s := by
  refine comp_list F it hn f t S mono cobs hc0 (fun C B₁ s' ob₁ ex a v hm kB hP hc hob F' => ?_) fin ht
  exact wpAny_mono (step C B₁ s' ob₁ ex a v hm kB hP hc hob F') (fun _ s₂ h₂ => tests_one h₂) fun _ _ x => x
end
end Mine
end
section
open PySem PySem.W PyProof.Rows PySem.Calls PySem.Spec
set_option maxRecDepth 100000
namespace Mine
section
variable {prog : Program} {w : World} {A : Around} {E : Value → Shared → Prop} {s₀ s : Shared} {env : Env} {K : Frag} {B : Heap} {L C : Addr} {l : Ls} {ob : Ob} {Q : Value → Shared → Prop}
/-- a comprehension whose list a name takes while its frame still stands -/
def CompGoU (prog : Program) (w : World) (A : Around) (x : Str) (px : Pos) (elt target iter : Expr) (ifs : List Expr) (scope : Scope) (pos : Pos) (cl : List (Str × Addr)) (env : Env) (Q : Value → Shared → Prop) (E : Value → Shared → Prop) (xv : Value) (s₁ : Shared) : Prop :=
  wpAny (model prog w) A (pyIter xv) (fun it s₂ => wpAny (model prog w) A (newList []) (fun acc s₃ => wpAny (model prog w) A (newFunctionEnv scope env.globals cl [] env.qual none .none (some env)) (fun cenv s₄ =>
    codeAny (model prog w) A (.compStart (.ListComp elt [⟨target, iter, ifs, 0⟩] scope pos) 0 it acc { cenv with scope := relabel scope env }) (compPost (model prog w) A E (some (assign (.Name x px) env)) Q acc cenv.locals) s₄) E s₃) E s₂) E s₁
theorem s_assignU {x : Str} {p pos cp : Pos} {elt target iter : Expr} {ifs : List Expr} {scope : Scope} {cl : List (Str × Addr)} {rest : List Stmt} {Q : Flow → Shared → Prop}
    (h : wpAny (model prog w) A (eval iter env) (CompGoU prog w A x p elt target iter ifs scope cp cl env (fun _ s' => wpAny (model prog w) A (execs rest env) Q E s') E) E s)
    (hclos : closGo env scope.names [] = some cl) (hkind : scope.kind = .function)
    (hnames : (scope.names.all fun x => decide (x.2 = .local → scope.names.lookup x.1 = some .local)) = true)
    (hi : ∀ x, foldedSetIterable iter env x = pure x)
    (hs : swapsWith (.ListComp elt [⟨target, iter, ifs, 0⟩] scope cp) (some (.Name x p)) pos.line env = pure true) : wpAny (model prog w) A (execs (.Assign [.Name x p] (.ListComp elt [⟨target, iter, ifs, 0⟩] scope cp) pos :: rest) env) Q E s := by
  refine s_cons ?_
  rw [exec_Assign_Name_used _ _ _ _ hs]
  refine wpAny_bind (wpAny_standAt (wpAny_bind ?_))
  unfold evalThenUse
  refine wpAny_bind (wpAny_mono (wpAny_comprehension_free rfl hi (closureFor_of hclos) hkind (fun x hx => of_decide_eq_true (List.all_eq_true.mp hnames x hx)) h) (fun _ s' h' => wpAny_pure (wpAny_pure ?_)) fun _ _ x => x)
  exact h'
theorem comp_goU {x : Str} {px : Pos} (hl : env.kindOf x = some .local) (hloc : env.locals = L) (hkd : env.scope.kind = .function) {elt target iter : Expr} {ifs : List Expr} {scope : Scope} {pos : Pos} {cl : List (Str × Addr)} {xv : Value} {n : Nat} {P : Nat → Value → Prop} (F : Fm K s₀ B L s l ob) (it : Iters prog w A B s xv n P) (hn : n ≤ sizeLine)
    (inv : Addr → Nat → Heap → List Value → Ls → Ob → Prop) (h0 : ∀ C oL, s.heap.get? L = some oL → inv C 0 B [] [] (cellOb (C + 1) scope.names [] ++ (L, oL) :: ob))
    (step : ∀ C D i B₁ s' l ob ys k ex v, i < n → Kp B B₁ → inv C i B₁ ys l ob → P i v → Fm K s B₁ C s' l ((D, lsO ys k) :: ob ++ ex) →
      wpAny (model prog w) A (assign target (cenvOf scope (cellsFrom (C + 1) scope.names cl) C env) v) (fun _ s₂ => wpAny (model prog w) A (testsOf ifs (cenvOf scope (cellsFrom (C + 1) scope.names cl) C env)) (fun ok s₃ => if ok = true
        then wpAny (model prog w) A (eval elt (cenvOf scope (cellsFrom (C + 1) scope.names cl) C env)) (fun y s₄ => ∃ B₂ l' ob', Kp B₁ B₂ ∧ inv C (i + 1) B₂ (ys ++ [y]) l' ob' ∧ Fm K s B₂ C s₄ l' ((D, lsO ys k) :: ob' ++ ex)) (fun _ _ => False) s₃
        else ∃ B₂ l' ob', Kp B₁ B₂ ∧ inv C (i + 1) B₂ ys l' ob' ∧ Fm K s B₂ C s₃ l' ((D, lsO ys k) :: ob' ++ ex)) (fun _ _ => False) s₂) (fun _ _ => False) s')
    (hmem : ∀ C B₁ ys l₁ ob₁ oL, s.heap.get? L = some oL → inv C n B₁ ys l₁ ob₁ → ∀ p ∈ (L, oL) :: ob, p ∈ ob₁)
    (fin : ∀ C D s'' B₁ B₂ ys k l₁ ob₁, Kp B B₁ → inv C n B₁ ys l₁ ob₁ → Kp B₁ B₂ → Fm K s₀ B₂ L s'' (put x (.ref D) l) ob → B₂.get? D = some (lsO ys k) → Q .none s'')
    (ht : ∀ I v, letOwnedTupleGo target (.ref I) v = pure ()) : CompGoU prog w A x px elt target iter ifs scope pos cl env Q E xv s := by
  obtain ⟨oL, hoL⟩ := F.ns.get
  refine it _ _ fun I fp St s₂ W st hfp hal hI g => ?_
  refine wpAny_newObj_type ?_ (Nat.zero_le _)
  obtain ⟨D, hD⟩ : ∃ D, D = s₂.heap.objs.size := ⟨_, rfl⟩
  refine comp_env ?_
  have hsz : (s₂.heap.push { cls := .type "list", data := .seq #[] }).objs.size = D + 1 := by rw [Heap.size_push, hD]
  show codeAny _ _ (.compStart _ _ _ (.ref s₂.heap.objs.size) (cenvOf scope (cellsFrom ((s₂.heap.push { cls := .type "list", data := .seq #[] }).objs.size + 1) scope.names cl) (s₂.heap.push { cls := .type "list", data := .seq #[] }).objs.size env)) (compPost _ _ _ _ _ (.ref s₂.heap.objs.size) (s₂.heap.push { cls := .type "list", data := .seq #[] }).objs.size)
    { s₂ with heap := pushCells ((s₂.heap.push { cls := .type "list", data := .seq #[] }).push { cls := .type "dict", data := .dict #[] }) scope.names }
  rw [hsz, ← hD]
  have hsz2 : ((s₂.heap.push { cls := .type "list", data := .seq #[] }).push { cls := .type "dict", data := .dict #[] }).objs.size = D + 1 + 1 := by rw [Heap.size_push, hsz]
  have k1 : Kp s₂.heap ((s₂.heap.push { cls := .type "list", data := .seq #[] }).push { cls := .type "dict", data := .dict #[] }) := (Kp.push _).trans (Kp.push _)
  have kD : ((s₂.heap.push { cls := .type "list", data := .seq #[] }).push { cls := .type "dict", data := .dict #[] }).get? D = some (lsO [] 0) := Kp.push _ _ _ (by rw [hD]; exact Heap.get?_push_size _ rfl)
  have hns : ((s₂.heap.push { cls := .type "list", data := .seq #[] }).push { cls := .type "dict", data := .dict #[] }).Ns (D + 1) (fun _ => none) := by
    have := Heap.Ns.new (s₂.heap.push { cls := .type "list", data := .seq #[] }) (.type "dict")
    rwa [hsz] at this
  generalize hh3 : (s₂.heap.push { cls := .type "list", data := .seq #[] }).push { cls := .type "dict", data := .dict #[] } = h3 at *
  have nD : s.heap.get? D = none := Kp.none g.kp (get_none_of_le (by lia))
  have nC : s.heap.get? (D + 1) = none := Kp.none g.kp (get_none_of_le (by lia))
  have F1 : Fm K s B (D + 1) { s₂ with heap := h3 } [] ((L, oL) :: ob) := F.enter (s' := { s₂ with heap := h3 }) hoL (g.kp.trans k1) ⟨g.sm.gens, g.sm.drawn, g.sm.os⟩ ⟨_, hns, fun x v e => by cases e⟩ nC
  have F2 : Fm K s B (D + 1) { s₂ with heap := h3 } [] ((D, lsO [] 0) :: (L, oL) :: ob) := by
    refine ⟨F1.gd, F1.ns, F1.kp, F1.no, fun p hp => ?_, ?_, F1.sm⟩
    · rcases List.mem_cons.mp hp with rfl | hp
      · exact ⟨kD, Nat.ne_of_lt (Nat.lt_succ_self _), Kp.none F.kp nD⟩
      · exact F1.obs p hp
    · rw [List.map_cons, List.nodup_cons]
      refine ⟨fun q => ?_, F1.nd⟩
      obtain ⟨p, hp, e⟩ := List.mem_map.mp q
      have e : p.1 = D := e
      have : s.heap.get? p.1 = some p.2 := by
        rcases List.mem_cons.mp hp with rfl | hp
        · exact hoL
        · exact (F.obs p hp).1
      rw [e, nD] at this; cases this
  have F4 := F2.cells scope.names
  rw [show ({ s₂ with heap := h3 } : Shared).heap.objs.size = D + 1 + 1 from hsz2] at F4
  have F5 : Fm K s B (D + 1) { s₂ with heap := pushCells h3 scope.names } [] ((D, lsO [] 0) :: (cellOb (D + 1 + 1) scope.names [] ++ (L, oL) :: ob)) := by
    rw [show ((D, lsO [] 0) :: (L, oL) :: ob) = [] ++ ((D, lsO [] 0) :: (L, oL) :: ob) from rfl, cellOb_app] at F4
    exact F4.perm List.perm_middle
  obtain ⟨oI, hoI⟩ := hal _ _ st
  have lI := Heap.lt_size hoI
  have k3 : Kp s₂.heap (pushCells h3 scope.names) := k1.trans (pushCells_keeps _ _)
  have st4 : St 0 (pushCells h3 scope.names) := W.frame 0 s₂.heap _ st fun b _ o e => k3 b o e
  have hobI : I ∉ List.map Prod.fst ((D, lsO [] 0) :: (cellOb (D + 1 + 1) scope.names [] ++ (L, oL) :: ob)) := fun q => by
    obtain ⟨p, hp, e⟩ := List.mem_map.mp q
    have e : p.1 = I := e
    rcases List.mem_cons.mp hp with rfl | hp
    · exact absurd lI (by rw [← e, hD]; exact Nat.lt_irrefl _)
    · rcases List.mem_append.mp hp with hp | hp
      · have := cellOb_lt (I := I) scope.names (D + 1 + 1) [] (by intro p hp; cases hp) (Nat.lt_succ_of_lt (Nat.lt_succ_of_lt (by rw [hD]; exact lI))) p hp
        exact absurd this (by rw [e]; exact Nat.lt_irrefl _)
      · have : s.heap.get? p.1 = some p.2 := by
          rcases List.mem_cons.mp hp with rfl | hp
          · exact hoL
          · exact (F.obs p hp).1
        rw [e, hI] at this; cases this
  have loop : codeAny (model prog w) A (.compLoop (.ListComp elt [⟨target, iter, ifs, 0⟩] scope pos) 0 (.ref I) (.ref D) (cenvOf scope (cellsFrom (D + 1 + 1) scope.names cl) (D + 1) env)) (compPost (model prog w) A E (some (assign (.Name x px) env)) Q (.ref D) (D + 1)) { s₂ with heap := pushCells h3 scope.names } := by
    refine codeAny_mono (comp_loop W hfp hal hn F5 st4 (Kp.none F.kp hI) (Nat.ne_of_lt (Nat.lt_succ_of_lt (by rw [hD]; exact lI))) hobI (inv (D + 1)) (h0 (D + 1) oL hoL) (fun i B₁ s' l ob ys k ex v => step (D + 1) D i B₁ s' l ob ys k ex v)
      (Q := fun s' => wpAny (model prog w) A (assign (.Name x px) env (.ref D)) (fun _ s'' => ∃ m, s''.heap.Ns (D + 1) m ∧ ∀ h', Heap.SameBut (D + 1) s''.heap h' → Q .none { s'' with heap := h' }) E s') (fun B₁ s' l₁ ob₁ ys k kB hinv F' => ?_) (ht I)) fun r s' hr => ?_
    · obtain ⟨m, n, _⟩ := F'.ns
      obtain ⟨oC, es, ep, hoC, rC⟩ := n
      have hm := hmem _ _ _ _ _ oL hoL hinv
      have DL := F'.obs (L, oL) (.tail _ (hm _ (.head _)))
      have DD := F'.obs (D, lsO ys k) (.head _)
      have nd := F'.nd
      rw [List.map_cons, List.nodup_cons] at nd
      have hCD : ∀ p ∈ (D, lsO ys k) :: ob, p.1 ≠ D + 1 := fun p hp => by
        rcases List.mem_cons.mp hp with rfl | hp
        · exact DD.2.1
        · exact (F'.obs p (.tail _ (hm _ (.tail _ hp)))).2.1
      have F3 : Fm K s₀ B₁ L s' l ((D, lsO ys k) :: ob) := by
        refine ⟨F.gd.kp kB, F.ns.keeps fun o e => ?_, F'.kp, DL.2.2, fun p hp => ?_, ?_, F.sm.trans F'.sm⟩
        · rw [hoL] at e; cases e; exact DL.1
        · rcases List.mem_cons.mp hp with rfl | hp
          · exact ⟨DD.1, fun q => nd.1 (by show D ∈ _; rw [show D = L from q]; exact (List.mem_map_of_mem (hm (L, oL) (.head _)) : L ∈ List.map Prod.fst ob₁)), DD.2.2⟩
          · have DP := F'.obs p (.tail _ (hm _ (.tail _ hp)))
            exact ⟨DP.1, (F.obs p hp).2.1, DP.2.2⟩
        · rw [List.map_cons, List.nodup_cons]
          refine ⟨fun q => ?_, F.nd⟩
          obtain ⟨p, hp, e⟩ := List.mem_map.mp q
          exact nd.1 (by show D ∈ _; rw [show D = p.1 from e.symm]; exact (List.mem_map_of_mem (hm p (.tail _ hp)) : p.1 ∈ List.map Prod.fst ob₁))
      have F4 : Fm K s₀ B₁ L s' l ((D, lsO ys k) :: (D + 1, oC) :: ob) := by
        refine ⟨F3.gd, F3.ns, F3.kp, F3.no, fun p hp => ?_, ?_, F3.sm⟩
        · rcases List.mem_cons.mp hp with rfl | hp
          · exact F3.obs _ (.head _)
          · rcases List.mem_cons.mp hp with rfl | hp
            · exact ⟨hoC, fun q => DL.2.1 (Eq.symm q), F'.no⟩
            · exact F3.obs _ (.tail _ hp)
        · have nd3 := F3.nd
          rw [List.map_cons, List.nodup_cons] at nd3
          rw [List.map_cons, List.map_cons, List.nodup_cons, List.nodup_cons]
          refine ⟨fun q => ?_, fun q => ?_, nd3.2⟩
          · rcases List.mem_cons.mp q with q | q
            · exact hCD _ (.head _) q
            · exact nd3.1 q
          · obtain ⟨p, hp, e⟩ := List.mem_map.mp q
            exact hCD p (.tail _ hp) e
      obtain ⟨B₂, k2, F5, hD5⟩ := F4.freeze0
      refine a_name (st_local F5 hl (fun s'' F6 => ?_) hloc hkd)
      exact ⟨m, ⟨oC, es, ep, F6.get (.head _), rC⟩, fun h' hs => fin (D + 1) D _ B₁ B₂ ys k l₁ ob₁ kB hinv k2 (F6.out hs.extBut Sm.mk') hD5⟩
    · obtain ⟨rfl, hq⟩ := hr
      exact hq
  exact codeAny_compStart_list loop (W.self 0 _ _ _ st4 loop)
theorem comp_listU {x : Str} {px : Pos} (hlx : env.kindOf x = some .local) (hloc : env.locals = L) (hkd : env.scope.kind = .function) {α β : Type} {elt target iter : Expr} {ifs : List Expr} {scope : Scope} {pos : Pos} {cl : List (Str × Addr)} {xv : Value} {xs : List α} {P : α → Value → Prop} (F : Fm K s₀ B L s l ob) (it : ItL prog w A B s xv xs P) (hn : xs.length ≤ sizeLine)
    (f : α → β) (t : α → Bool) (S : Heap → β → Value → Prop) (mono : ∀ h h' b v, Kp h h' → S h b v → S h' b v)
    (cobs : Addr → Ob → Prop) (hc0 : ∀ C, cobs C (cellOb (C + 1) scope.names []))
    (step : ∀ C B₁ s' ob₁ ex a v, a ∈ xs → Kp B B₁ → P a v → cobs C ob₁ → (∀ p ∈ ob, p ∈ ob₁ ++ ex) → Fm K s B₁ C s' [] (ob₁ ++ ex) →
      wpAny (model prog w) A (assign target (cenvOf scope (cellsFrom (C + 1) scope.names cl) C env) v) (fun _ s₂ => wpAny (model prog w) A (testsOf ifs (cenvOf scope (cellsFrom (C + 1) scope.names cl) C env)) (fun ok s₃ => ok = t a ∧ if ok = true
        then wpAny (model prog w) A (eval elt (cenvOf scope (cellsFrom (C + 1) scope.names cl) C env)) (fun y s₄ => ∃ B₂ ob' l', Kp B₁ B₂ ∧ cobs C ob' ∧ S B₂ (f a) y ∧ Fm K s B₂ C s₄ l' (ob' ++ ex)) (fun _ _ => False) s₃
        else ∃ ob' l', cobs C ob' ∧ Fm K s B₁ C s₃ l' (ob' ++ ex)) (fun _ _ => False) s₂) (fun _ _ => False) s')
    (fin : ∀ D s' B' ys k, Kp B B' → Fm K s₀ B' L s' (put x (.ref D) l) ob → B'.get? D = some (lsO ys k) → All2 (S B') ((xs.filter t).map f) ys → Q .none s')
    (ht : ∀ I v, letOwnedTupleGo target (.ref I) v = pure ()) : CompGoU prog w A x px elt target iter ifs scope pos cl env Q E xv s := by
  refine comp_goU hlx hloc hkd F it hn (fun C i B₁ ys l₁ ob₁ => l₁ = [] ∧ (∃ ob₂ oL, s.heap.get? L = some oL ∧ ob₁ = ob₂ ++ (L, oL) :: ob ∧ cobs C ob₂) ∧ All2 (S B₁) (((xs.take i).filter t).map f) ys) (fun C oL hL => ⟨rfl, ⟨_, oL, hL, rfl, hc0 C⟩, by simp; exact .nil⟩) ?_ ?_ ?_ ht
  · rintro C D i B₁ s' l ob₁ ys k ex v hi kB ⟨rfl, ⟨ob₂, oL, hL, rfl, hcb⟩, hall⟩ ⟨a, ha, hP⟩ F'
    have hm : a ∈ xs := List.mem_of_getElem? ha
    have hp : ∀ ob₂ : Ob, List.Perm ((D, lsO ys k) :: (ob₂ ++ (L, oL) :: ob) ++ ex) (ob₂ ++ ((D, lsO ys k) :: (((L, oL) :: ob) ++ ex))) := fun ob₂ => by
      rw [List.cons_append, List.append_assoc]; exact List.perm_middle.symm
    have htk : xs.take (i + 1) = xs.take i ++ [a] := by rw [List.take_add_one, ha]; rfl
    refine wpAny_mono (step C B₁ s' ob₂ _ a v hm kB hP hcb (fun p hp => List.mem_append_right _ (.tail _ (.tail _ (List.mem_append_left _ hp)))) (F'.perm (hp ob₂))) (fun _ s₂ h₂ => wpAny_mono h₂ (fun ok s₃ h₃ => ?_) fun _ _ x => x) fun _ _ x => x
    obtain ⟨e, h₃⟩ := h₃
    cases ok with
    | false =>
      obtain ⟨ob', l', hc', F3⟩ := h₃
      refine ⟨B₁, [], _, Kp.rfl, ⟨rfl, ⟨ob', oL, hL, rfl, hc'⟩, ?_⟩, (F3.sub (l' := []) trivial).perm (hp ob').symm⟩
      rw [htk, List.filter_append]; simpa [← e] using hall
    | true =>
      refine wpAny_mono h₃ (fun y s₄ h₄ => ?_) fun _ _ x => x
      obtain ⟨B₂, ob', l', k2, hc', hS, F4⟩ := h₄
      refine ⟨B₂, [], _, k2, ⟨rfl, ⟨ob', oL, hL, rfl, hc'⟩, ?_⟩, (F4.sub (l' := []) trivial).perm (hp ob').symm⟩
      rw [htk, List.filter_append, List.map_append]
      refine (hall.imp fun _ _ z => mono _ _ _ _ k2 z).append ?_
      simp [← e]
      exact .cons hS .nil
  · rintro C B₁ ys l₁ ob₁ oL hL ⟨_, ⟨ob₂, oL', hL', rfl, _⟩, _⟩ p hp
    rw [hL] at hL'; cases hL'
    exact List.mem_append_right _ hp
  · rintro C D s'' B₁ B₂ ys k l₁ ob₁ kB ⟨rfl, ⟨ob₂, oL, hL, rfl, _⟩, hall⟩ k2 F2 hD
    rw [List.take_length] at hall
    exact fin D s'' B₂ ys k (kB.trans k2) F2 hD (hall.imp fun _ _ z => mono _ _ _ _ k2 z)
theorem comp_mapU {x : Str} {px : Pos} (hlx : env.kindOf x = some .local) (hloc : env.locals = L) (hkd : env.scope.kind = .function) {α β : Type} {elt target iter : Expr} {scope : Scope} {pos : Pos} {cl : List (Str × Addr)} {xv : Value} {xs : List α} {P : α → Value → Prop} (F : Fm K s₀ B L s l ob) (it : ItL prog w A B s xv xs P) (hn : xs.length ≤ sizeLine)
    (f : α → β) (S : Heap → β → Value → Prop) (mono : ∀ h h' b v, Kp h h' → S h b v → S h' b v)
    (cobs : Addr → Ob → Prop) (hc0 : ∀ C, cobs C (cellOb (C + 1) scope.names []))
    (step : ∀ C B₁ s' ob₁ ex a v, a ∈ xs → Kp B B₁ → P a v → cobs C ob₁ → (∀ p ∈ ob, p ∈ ob₁ ++ ex) → Fm K s B₁ C s' [] (ob₁ ++ ex) →
      wpAny (model prog w) A (assign target (cenvOf scope (cellsFrom (C + 1) scope.names cl) C env) v) (fun _ s₂ =>
        wpAny (model prog w) A (eval elt (cenvOf scope (cellsFrom (C + 1) scope.names cl) C env)) (fun y s₄ => ∃ B₂ ob' l', Kp B₁ B₂ ∧ cobs C ob' ∧ S B₂ (f a) y ∧ Fm K s B₂ C s₄ l' (ob' ++ ex)) (fun _ _ => False) s₂) (fun _ _ => False) s')
    (fin : ∀ D s' B' ys k, Kp B B' → Fm K s₀ B' L s' (put x (.ref D) l) ob → B'.get? D = some (lsO ys k) → All2 (S B') (xs.map f) ys → Q .none s')
    (ht : ∀ I v, letOwnedTupleGo target (.ref I) v = pure ()) : CompGoU prog w A x px elt target iter [] scope pos cl env Q E xv s := by
  refine comp_listU hlx hloc hkd F it hn f (fun _ => true) S mono cobs hc0 (fun C B₁ s' ob₁ ex a v hm kB hP hc hob F' => ?_) (fun D s' B' ys k kB F' hD h => fin D s' B' ys k kB F' hD (by rwa [List.filter_eq_self.mpr (fun _ _ => rfl)] at h)) ht
  refine wpAny_mono (step C B₁ s' ob₁ ex a v hm kB hP hc hob F') (fun _ s₂ h₂ => tests_nil ⟨rfl, ?_⟩) fun _ _ x => x
  rw [if_pos rfl]
  exact h₂
theorem comp_ifU {x : Str} {px : Pos} (hlx : env.kindOf x = some .local) (hloc : env.locals = L) (hkd : env.scope.kind = .function) {α β : Type} {elt target iter c : Expr} {scope : Scope} {pos : Pos} {cl : List (Str × Addr)} {xv : Value} {xs : List α} {P : α → Value → Prop} (F : Fm K s₀ B L s l ob) (it : ItL prog w A B s xv xs P) (hn : xs.length ≤ sizeLine)
    (f : α → β) (t : α → Bool) (S : Heap → β → Value → Prop) (mono : ∀ h h' b v, Kp h h' → S h b v → S h' b v)
    (cobs : Addr → Ob → Prop) (hc0 : ∀ C, cobs C (cellOb (C + 1) scope.names []))
    (step : ∀ C B₁ s' ob₁ ex a v, a ∈ xs → Kp B B₁ → P a v → cobs C ob₁ → (∀ p ∈ ob, p ∈ ob₁ ++ ex) → Fm K s B₁ C s' [] (ob₁ ++ ex) →
      wpAny (model prog w) A (assign target (cenvOf scope (cellsFrom (C + 1) scope.names cl) C env) v) (fun _ s₂ => wpAny (model prog w) A (isTrue c (cenvOf scope (cellsFrom (C + 1) scope.names cl) C env) (eval c (cenvOf scope (cellsFrom (C + 1) scope.names cl) C env))) (fun ok s₃ => ok = t a ∧ if ok = true
        then wpAny (model prog w) A (eval elt (cenvOf scope (cellsFrom (C + 1) scope.names cl) C env)) (fun y s₄ => ∃ B₂ ob' l', Kp B₁ B₂ ∧ cobs C ob' ∧ S B₂ (f a) y ∧ Fm K s B₂ C s₄ l' (ob' ++ ex)) (fun _ _ => False) s₃
        else ∃ ob' l', cobs C ob' ∧ Fm K s B₁ C s₃ l' (ob' ++ ex)) (fun _ _ => False) s₂) (fun _ _ => False) s')
    (fin : ∀ D s' B' ys k, Kp B B' → Fm K s₀ B' L s' (put x (.ref D) l) ob → B'.get? D = some (lsO ys k) → All2 (S B') ((xs.filter t).map f) ys → Q .none s')
    (ht : ∀ I v, letOwnedTupleGo target (.ref I) v = pure ()) : CompGoU prog w A x px elt target iter [c] scope pos cl env Q E xv s := by
  refine comp_listU hlx hloc hkd F it hn f t S mono cobs hc0 (fun C B₁ s' ob₁ ex a v hm kB hP hc hob F' => ?_) fin ht
  exact wpAny_mono (step C B₁ s' ob₁ ex a v hm kB hP hc hob F') (fun _ s₂ h₂ => tests_one h₂) fun _ _ x => x
end
end Mine
end
section
open PySem PySem.W PyProof.Rows PySem.Calls PySem.Spec
set_option maxRecDepth 100000
namespace Mine
section
variable {prog : Program} {w : World} {A : Around} {E : Value → Shared → Prop} {s₀ s : Shared} {env : Env} {K : Frag} {B : Heap} {L : Addr} {l : Ls} {ob : Ob}
theorem a_sub {o i : Expr} {pos : Pos} {v : Value} {Q : Unit → Shared → Prop}
    (h : wpAny (model prog w) A (eval o env) (fun ov s₂ => wpAny (model prog w) A (eval i env) (fun iv s₃ => wpAny (model prog w) A (setItem ov iv v) Q E s₃) E s₂) E s) :
    wpAny (model prog w) A (assign (.Subscript o i pos) env v) Q E s := fun Γ p hΓ => by
  simp only [assign_Subscript, Sem.wp_bind', Sem.wp_holding, Sem.wp_cmd_standAt, Sem.wp_release, Sem.wp_pure']
  exact Sem.wp_mono _ Γ _ (fun ov p₂ s₂ h₂ => Sem.wp_mono _ Γ _ (fun iv _ s₃ h₃ => h₃ Γ _ hΓ)
    (fun _ _ _ h' => h') _ _ (h₂ Γ p₂ hΓ)) (fun _ _ _ h' => h') _ _ (h Γ _ hΓ)
/-- o[i], y = e1, e2 -/
theorem s_swapIN {o i : Expr} {y : Str} {p1 p2 p3 p4 pos : Pos} {c1 c2 : Nat} {e1 e2 : Expr} {rest : List Stmt} {Q : Flow → Shared → Prop} (R : A.handled = none)
    (h : wpAny (model prog w) A (eval e1 env) (fun v1 s₁ => wpAny (model prog w) A (eval e2 env) (fun v2 s₂ => ∀ s₃, Gr s₂ s₃ →
      wpAny (model prog w) A (eval o env) (fun ov s₃ => wpAny (model prog w) A (eval i env) (fun iv s₃ => wpAny (model prog w) A (setItem ov iv v1) (fun _ s₄ => wpAny (model prog w) A (storeName env y v2) (fun _ s₅ => wpAny (model prog w) A (execs rest env) Q E s₅) E s₄) E s₃) E s₃) E s₃) E s₁) E s)
    (hs : swapsWithSole [.Tuple [.Subscript o i p1, .Name y p2] c1 p3] (.Tuple [e1, e2] c2 p4) pos.line env = pure false)
    (hw : swappedStores [.Tuple [.Subscript o i p1, .Name y p2] c1 p3] (.Tuple [e1, e2] c2 p4) env = pure none)
    (he : starEach [e1, e2] env = [(false, eval e1 env), (false, eval e2 env)]) :
    wpAny (model prog w) A (execs (.Assign [.Tuple [.Subscript o i p1, .Name y p2] c1 p3] (.Tuple [e1, e2] c2 p4) pos :: rest) env) Q E s := by
  refine s_cons (Assign_Tuple ?_ hs hw)
  refine wpAny_Tuple ?_
  rw [he]
  refine spliced_cons (wpAny_mono h (fun v1 s₁ h₁ => spliced_cons (wpAny_mono h₁ (fun v2 s₂ h₂ => spliced_nil ⟨by show 2 ≤ sizeLine; rw [sizeLine_eq]; lia, ?_⟩) fun _ _ x => x)) fun _ _ x => x)
  refine wpAny_assign_Tuple (items := #[v1, v2]) R ⟨_, Heap.get?_push_size _ rfl, rfl, 0, rfl⟩ rfl rfl fun h' hx => ?_
  refine wpAny_assignInOrder_more (a_sub (wpAny_mono (h₂ _ ⟨⟨rfl, rfl, rfl⟩, fun b o e => hx b o (Nat.ne_of_lt ?_) (Heap.get?_push_of_some _ e)⟩) (fun _ s₄ h₄ => wpAny_mono h₄ (fun _ s₅ h₅ => wpAny_mono h₅ (fun _ s₆ h₆ =>
    wpAny_assignInOrder_more (wpAny_assign_Name (wpAny_mono h₆ (fun _ s₇ h₇ => wpAny_assignInOrder_none h₇) fun _ _ x => x))) fun _ _ x => x) fun _ _ x => x) fun _ _ x => x))
  exact Nat.lt_trans (Heap.lt_size e) (by rw [Heap.size_push]; exact Nat.lt_succ_self _)
/-- many things of the ledger go into the ground -/
theorem Fm.freezeN {xs : Ob} (F : Fm K s₀ B L s l (xs ++ ob)) : ∃ B', Kp B B' ∧ Fm K s₀ B' L s l ob ∧ ∀ p ∈ xs, B'.get? p.1 = some p.2 := by
  obtain ⟨B', k, F', h⟩ := (F.drop (List.sublist_append_right xs ob)).freeze
  refine ⟨B', k, F', fun p hp => ?_⟩
  have D := F.obs p (List.mem_append_left _ hp)
  have nd := F.nd
  rw [List.map_append, List.nodup_append] at nd
  exact h _ _ D.1 D.2.1 fun q => nd.2.2 p.1 (List.mem_map_of_mem hp) p.1 q rfl
end
/-- rows: lists of ints that may still turn -/
abbrev RowS := List (Addr × List Value × Nat)
abbrev rOb (rs : RowS) : Ob := rs.map fun r => (r.1, lsO r.2.1 r.2.2)
abbrev rRef (rs : RowS) : List Value := rs.map fun r => .ref r.1
theorem UpO.mid {a : Addr} {o o' : Obj} (post : Ob) : ∀ (pre : Ob), UpO a o o' (pre ++ (a, o) :: post) (pre ++ (a, o') :: post)
  | [] => .head _
  | p :: r => .tail p (UpO.mid post r)
theorem UpO.row {a : Addr} {vs vs' : List Value} {n n' : Nat} {tl : Ob} : ∀ {rs : RowS} {k : Nat}, rs[k]? = some (a, vs, n) → UpO a (lsO vs n) (lsO vs' n') (rOb rs ++ tl) (rOb (rs.set k (a, vs', n')) ++ tl)
  | [], k, e => by simp at e
  | r :: t, 0, e => by simp at e; subst e; exact .head _
  | r :: t, k + 1, e => by rw [List.getElem?_cons_succ] at e; exact .tail _ (UpO.row e)
theorem rRef_set {a : Addr} {vs vs' : List Value} {n n' : Nat} : ∀ {rs : RowS} {k : Nat}, rs[k]? = some (a, vs, n) → rRef (rs.set k (a, vs', n')) = rRef rs
  | [], k, e => rfl
  | r :: t, 0, e => by simp at e; subst e; rfl
  | r :: t, k + 1, e => by
    rw [List.getElem?_cons_succ] at e
    show _ :: rRef (t.set k _) = _ :: rRef t
    rw [rRef_set e]
theorem mem_row {a : Addr} {vs : List Value} {n : Nat} {rs : RowS} {k : Nat} (e : rs[k]? = some (a, vs, n)) : (a, lsO vs n) ∈ rOb rs := List.mem_map.mpr ⟨_, List.mem_of_getElem? e, rfl⟩
theorem ints_snoc {vs : List Value} {ns : List Int} (h : IntsAre vs ns) (i : Int) (t : Tok) : IntsAre (vs ++ [.int i t]) (ns ++ [i]) := h.append (.cons i t .nil)
theorem ints_setI {vs : List Value} {ns : List Int} (i : Int) (t : Tok) : ∀ (k : Nat) {vs : List Value} {ns : List Int}, IntsAre vs ns → IntsAre (vs.set k (.int i t)) (ns.set k i)
  | _, _, _, .nil => .nil
  | 0, _, _, .cons _ _ r => .cons i t r
  | k + 1, _, _, .cons a b r => .cons a b (ints_setI (vs := vs) (ns := ns) i t k r)
end Mine
end
section
open PySem PySem.W PyProof.Rows PySem.Calls PySem.Spec
set_option maxRecDepth 100000
namespace Mine
abbrev nI (ns : List Nat) : List Int := ns.map fun (n : Nat) => (n : Int)
theorem nI_getD (ns : List Nat) (k : Nat) : (nI ns).getD k 0 = ((ns.getD k 0 : Nat) : Int) := by
  rw [List.getD_eq_getElem?_getD, List.getD_eq_getElem?_getD, List.getElem?_map]
  cases ns[k]? <;> rfl
section
variable {prog : Program} {w : World} {A : Around} {E : Value → Shared → Prop} {s₀ s : Shared} {env : Env} {K : Frag} {B : Heap} {L : Addr} {l : Ls} {ob ob' : Ob} {Q : Value → Shared → Prop}
theorem o_and {a b : Nat} {t u : Tok} (F : Fm K s₀ B L s l ob) (h : ∀ t' s', Fm K s₀ B L s' l ob → Q (.int ((a &&& b : Nat) : Int) t') s') : wpAny (model prog w) A (binaryOp .BitAnd (.int (a : Int) t) (.int (b : Int) u)) Q E s := by
  refine PyProof.Rows.and_int ?_
  have e : Builtin.bitAnd (a : Int) (b : Int) = ((a &&& b : Nat) : Int) := by simp [Builtin.bitAnd]
  rw [e]; exact h _ _ (F.gr Gr.tk)
theorem sub_nat {value slice : Expr} {a : Addr} {vs : List Value} {n : Nat} {ns : List Nat} {k : Nat} {u : Tok} (F : Fm K s₀ B L s l ob) (hm : (a, lsO vs n) ∈ ob) (hI : IntsAre vs (nI ns)) (hk : k < ns.length) (hz : ns.length < 2 ^ 62) (h : ∀ t, Q (.int ((ns.getD k 0 : Nat) : Int) t) s)
    (hs : subscripted slice false (.ref a) (.int (k : Int) u) = operate [.ref a, .int (k : Int) u] (getItem (.ref a) (.int (k : Int) u))) : wpAny (model prog w) A (subscriptTail value slice (.ref a) (.int (k : Int) u)) Q E s := by
  obtain ⟨u', hx⟩ := hI.get k ((nI ns).getD k 0) (by rw [List.getD_eq_getElem?_getD, List.getElem?_eq_getElem (by simpa using hk)]; rfl)
  rw [nI_getD] at hx
  exact sub_list (vs := vs.toArray) ⟨_, F.get hm, rfl, n, rfl⟩ (by lia) (by lia) (by rw [Int.toNat_natCast]; simpa using hx) (h u') hs
theorem subB_nat {value slice : Expr} {v : Value} {ns : List Nat} {k : Nat} {u : Tok} (F : Fm K s₀ B L s l ob) (hv : Rd B v (dIs (nI ns))) (hk : k < ns.length) (hz : ns.length < 2 ^ 62) (h : ∀ t, Q (.int ((ns.getD k 0 : Nat) : Int) t) s)
    (hs : ∀ T, subscripted slice false (.ref T) (.int (k : Int) u) = operate [.ref T, .int (k : Int) u] (getItem (.ref T) (.int (k : Int) u))) : wpAny (model prog w) A (subscriptTail value slice v (.int (k : Int) u)) Q E s := by
  refine sub_D F hv (by lia) (by lia) (getI (ns := nI ns) (by simpa using hk)) (fun x rx => ?_) hs
  obtain ⟨t, rfl⟩ := rx.int_inv
  rw [Int.toNat_natCast, nI_getD]
  exact h t
theorem sub_last {value slice : Expr} {a : Addr} {vs : List Value} {n : Nat} {ns : List Nat} {u : Tok} (F : Fm K s₀ B L s l ob) (hm : (a, lsO vs n) ∈ ob) (hI : IntsAre vs (nI ns)) (hk : 0 < ns.length) (h : ∀ t, Q (.int ((ns.getD (ns.length - 1) 0 : Nat) : Int) t) s)
    (hs : subscripted slice false (.ref a) (.int (-1) u) = operate [.ref a, .int (-1) u] (getItem (.ref a) (.int (-1) u))) : wpAny (model prog w) A (subscriptTail value slice (.ref a) (.int (-1) u)) Q E s := by
  have hlen : vs.length = ns.length := by simpa using hI.length
  obtain ⟨u', hx⟩ := hI.get (ns.length - 1) ((nI ns).getD (ns.length - 1) 0) (by rw [List.getD_eq_getElem?_getD, List.getElem?_eq_getElem (by simp; lia)]; rfl)
  rw [nI_getD] at hx
  have hl : s.heap.IsList a vs.toArray := ⟨_, F.get hm, rfl, n, rfl⟩
  refine tail_any hl.typeIs slot_list_getitem.lookup (wpAny_getItem_list_neg hl (by lia) (by simp; lia) (by lia) ?_ (h u')) hs
  rw [show ((-1 : Int) + vs.toArray.size).toNat = ns.length - 1 by simp; lia]
  simpa using hx
end
theorem nI_append (a b : List Nat) : nI (a ++ b) = nI a ++ nI b := by simp [nI]
theorem nI_snoc {vs : List Value} {ns : List Nat} (h : IntsAre vs (nI ns)) (i : Nat) (t : Tok) : IntsAre (vs ++ [.int (i : Int) t]) (nI (ns ++ [i])) := by
  rw [nI_append]; exact ints_snoc h _ t
theorem nI_set {vs : List Value} {ns : List Nat} (h : IntsAre vs (nI ns)) (k i : Nat) (t : Tok) : IntsAre (vs.set k (.int (i : Int) t)) (nI (ns.set k i)) := by
  have e : nI (ns.set k i) = (nI ns).set k (i : Int) := by simp [nI, List.map_set]
  rw [e]; exact ints_setI (vs := []) (ns := []) _ t k h
end Mine
end
section
open PySem PySem.W PyProof.Rows PySem.Calls PySem.Spec
set_option maxRecDepth 100000
namespace Mine
section
variable {K : Frag} {s₀ s s' : Shared} {B : Heap} {L : Addr} {l : Ls} {ob ob' : Ob}
theorem Fm.add {a : Addr} {o : Obj} (F : Fm K s₀ B L s l ob) (ha : s.heap.get? a = some o) (hL : a ≠ L) (hB : B.get? a = none) (hob : a ∉ List.map Prod.fst ob) : Fm K s₀ B L s l ((a, o) :: ob) := by
  refine ⟨F.gd, F.ns, F.kp, F.no, fun p hp => ?_, ?_, F.sm⟩
  · rcases List.mem_cons.mp hp with rfl | hp
    · exact ⟨ha, hL, hB⟩
    · exact F.obs p hp
  · rw [List.map_cons, List.nodup_cons]; exact ⟨hob, F.nd⟩
/-- what the maker of a function asks of the heap -/
def BI (P : Addr) (h : Heap) : Prop := ∃ mg, h.Ns mainGlobals mg ∧ h.BuiltinsAt mg P
theorem BI.kp {P : Addr} {h h' : Heap} (b : BI P h) (k : Kp h h') : BI P h' :=
  let ⟨mg, n, bm, o, b1, b2, b3, b4, b5, b6⟩ := b; ⟨mg, n.keeps k, bm, o, b1, b2, b3, b4, k _ _ b5, b6⟩
theorem codeRec_kp {h h' : Heap} {cd : Value} {q : Str} (c : h.CodeRec cd q) (k : Kp h h') : h'.CodeRec cd q := by
  obtain ⟨c, o, vs, t, e, ho, r⟩ := c
  exact ⟨c, o, vs, t, e, k _ _ ho, r⟩
end
section
variable {prog : Program} {w : World} {A : Around} {E : Value → Shared → Prop} {s₀ s : Shared} {K : Frag} {B : Heap} {L : Addr} {l : Ls} {ob ob' : Ob}
  {params : Arguments} {body : Expr} {scope : Scope} {env : Env} {clos : List (Str × Addr)} {c P : Addr} {ps : Array Value} {pos : Pos}
/-- a function stands at f -/
structure LamAt (h : Heap) (f : Addr) (params : Arguments) (body : Expr) (scope : Scope) (clos : List (Str × Addr)) (qual : Str) : Prop where
  is : ∃ pm cv ctv, h.get? f = some { cls := .type "function", data := .func (kla_fn "<lambda>" qual params body scope clos pm cv ctv) } ∧ h.CodeRec cv qual
theorem LamAt.kp {h h' : Heap} {f : Addr} {qual : Str} (x : LamAt h f params body scope clos qual) (k : Kp h h') : LamAt h' f params body scope clos qual :=
  let ⟨pm, cv, ctv, a, b⟩ := x; ⟨pm, cv, ctv, k _ _ a, codeRec_kp b k⟩
/-- the first time -/
theorem e_lam {ob' : Obj → Ob} {Q : Value → Shared → Prop} (F : Fm K s₀ B L s l ob) (bi : BI P B) (hdef : defaultsOf params env = ([], [])) (hcl : closGo env scope.names [] = some clos) (hge : env.globals = mainGlobals) (hcode : env.code = .ref c) (hK : codeHdIn K c P = true)
    (ht : TriplesOk ps.toList) (hnf : codeAmong pos ps.toList = none) (U : ∀ o, UpO P (tabObj ps) o ob (ob' o))
    (h : ∀ f cv s' B', Kp B B' → LamAt B' f params body scope clos (env.qual ++ "<lambda>") → Fm K s₀ B' L s' l (ob' (tabObj (ps ++ #[rawInt pos.line, rawInt pos.col, cv]))) → B'.CodeRec cv (env.qual ++ "<lambda>") → Q (.ref f) s') :
    wpAny (model prog w) A (eval (.Lambda params body scope pos) env) Q E s := by
  obtain ⟨mg, hg, hb⟩ := bi.kp F.kp
  have C := codeHd_of_K F.gdh.k hK
  have hP := F.get (U (tabObj ps)).mem
  have hgP : mainGlobals ≠ P := fun q => by
    obtain ⟨o, es, ep, e, hd, _⟩ := hg
    rw [q, hP] at e; cases e; cases hd
  refine kla_eval hdef (kla_makeFunction (closureFor_of hcl) hge hg hcode C hP ht hnf hgP hb fun c' ctv h' tk hx hge' hlt hrec htb => ?_)
  have F1 : Fm K s₀ B L { s with heap := h', toks := tk } l (ob' (tabObj (ps ++ #[rawInt pos.line, rawInt pos.col, .ref c']))) :=
    F.upH (U _) (fun b o e => hx b o (fun q => by rw [q, Heap.hide_self] at e; cases e) (Heap.of_hide e)) htb ⟨rfl, rfl, rfl⟩
  obtain ⟨c₂, oc, vs, t, e2, hoc, hd, hv⟩ := hrec
  cases e2
  have hnone : s.heap.get? c' = none := get_none_of_le hge'
  have hcL : c' ≠ L := by
    rintro rfl
    obtain ⟨o, ho⟩ := F.ns.get
    rw [ho] at hnone; cases hnone
  have F2 := F1.add (a := c') (o := oc) hoc hcL (Kp.none F.kp hnone) fun q => by
    obtain ⟨p, hp, e⟩ := List.mem_map.mp q
    have e : p.1 = c' := e
    obtain ⟨pre, post, h1, h2⟩ := (U (tabObj (ps ++ #[rawInt pos.line, rawInt pos.col, .ref c']))).split
    rw [h2] at hp
    have : ∃ o, s.heap.get? p.1 = some o := by
      rcases List.mem_append.mp hp with q | q
      · exact ⟨_, F.get (by rw [h1]; exact List.mem_append_left _ q)⟩
      · rcases List.mem_cons.mp q with rfl | q
        · exact ⟨_, hP⟩
        · exact ⟨_, F.get (by rw [h1]; exact List.mem_append_right _ (.tail _ q))⟩
    obtain ⟨o, ho⟩ := this
    rw [e, hnone] at ho; cases ho
  have F3 := F2.push (kla_obj "<lambda>" (env.qual ++ "<lambda>") params body scope clos ((mg "__name__").getD .none) c' ctv) rfl tk
  obtain ⟨B1, k1, F4, g1⟩ := F3.freezeAt (.head _)
  obtain ⟨B2, k2, F5, g2⟩ := F4.freezeAt (.head _)
  have cr : B2.CodeRec (.ref c') (env.qual ++ "<lambda>") := ⟨c', oc, vs, t, rfl, g2, hd, hv⟩
  exact h _ (.ref c') _ B2 (k1.trans k2) ⟨_, _, _, k2 _ _ g1, cr⟩ F5 cr
/-- and again -/
theorem e_lam2 {cv : Value} {Q : Value → Shared → Prop} (F : Fm K s₀ B L s l ob) (bi : BI P B) (hdef : defaultsOf params env = ([], [])) (hcl : closGo env scope.names [] = some clos) (hge : env.globals = mainGlobals) (hcode : env.code = .ref c) (hK : codeHdIn K c P = true)
    (ht : TriplesOk ps.toList) (hf : codeAmong pos ps.toList = some cv) (hm : (P, tabObj ps) ∈ ob) (hcr : B.CodeRec cv (env.qual ++ "<lambda>"))
    (h : ∀ f s' B', Kp B B' → LamAt B' f params body scope clos (env.qual ++ "<lambda>") → Fm K s₀ B' L s' l ob → Q (.ref f) s') :
    wpAny (model prog w) A (eval (.Lambda params body scope pos) env) Q E s := by
  obtain ⟨mg, hg, hb⟩ := bi.kp F.kp
  have C := codeHd_of_K F.gdh.k hK
  have hP := F.get hm
  refine kla_eval hdef (kla_makeFunctionHit (closureFor_of hcl) hge hg hcode C hP ht hf hb fun ctv h' tk hk hsz => ?_)
  have F1 : Fm K s₀ B L { s with heap := h', toks := tk } l ob := F.gr ⟨⟨rfl, rfl, rfl⟩, hk⟩
  have F3 := F1.push { cls := .type "function", data := .func (kla_fn "<lambda>" (env.qual ++ "<lambda>") params body scope clos ((mg "__name__").getD .none) cv ctv) } rfl tk
  obtain ⟨B1, k1, F4, g1⟩ := F3.freezeAt (.head _)
  exact h _ _ B1 k1 ⟨_, _, _, g1, codeRec_kp hcr k1⟩ F4
/-- the call of such a function -/
theorem call_lam {f : Addr} {qual : Str} {Q : Value → Shared → Prop} {k : Nat} (binds : List (Str × Value)) {args : List Value} (R : Rm A (k + 1)) (G : Gd K s.heap) (x : LamAt s.heap f params body scope clos qual)
    (hbind : ∀ pm cv ctv, bindArgs (kla_fn "<lambda>" qual params body scope clos pm cv ctv) ⟨args, []⟩ = pure binds) (hloc : (binds.all fun x => decide (scope.names.lookup x.1 = some .local)) = true)
    (hcell : (scope.names.all fun x => decide (x.2 ≠ .cell)) = true)
    (h : ∀ L s' A' cv, L = s.heap.objs.size → Fm K s s.heap L s' binds.reverse [] → Rm A' k → wpAny (model prog w) A' (eval body (envX qual scope L f cv clos)) Q (fun _ _ => False) s')
    (hco : scope.isCoroutine = false) (hgen : scope.isGenerator = false) (hk : scope.kind = .function) : wpAny (model prog w) A (call (.ref f) args) Q E s := by
  obtain ⟨pm, cv, ctv, ho, hcd⟩ := x
  refine wpAny_call ?_
  refine kla_callFunE R.room ho rfl hco hgen rfl hcd ?_
  rw [hbind]
  refine wpAny_pure (wpAny_newFunctionEnv (fun x hx => of_decide_eq_true (List.all_eq_true.mp hcell x hx)) (locs hloc) (fun h₁ hns hsb => ⟨G.nl.fresh _ hsb, ?_⟩) hk)
  have hk₁ : Kp s.heap h₁ := fun b o e => hsb.extBut b o (Nat.ne_of_lt (Heap.lt_size e)) (Heap.get?_push_of_some _ e)
  refine kla_codeExpr (wpAny_mono (h s.heap.objs.size _ _ cv rfl ⟨G, ⟨_, hns, fun _ _ e => e⟩, hk₁, get_none_of_le (Nat.le_refl _), (by intro p hp; cases hp), List.nodup_nil, Sm.mk'⟩ R.deeper) (fun v s' hv => hv) fun _ _ x => x.elim)
end
end Mine
end
section
open PySem PySem.W PyProof.Rows PySem.Calls PySem.Spec
set_option maxRecDepth 100000
namespace Mine
theorem dIs_lay (ns : List Int) : PyData.canLay0 (dIs ns) = true ∧ (dIs ns).depth = 1 := by
  simp [PyData.canLay0, PyData.depth, ke_canLayAll0, ke_depthAll]
theorem lay2 : ∀ L : List (List Int), PyData.canLayAll0 (L.map dIs) = true ∧ PyData.depthAll (L.map dIs) ≤ 1
  | [] => ⟨rfl, by simp [PyData.depthAll]⟩
  | x :: r => by
    have h := lay2 r
    have h1 := dIs_lay x
    refine ⟨?_, ?_⟩
    · show (PyData.canLayAll0 (dIs x :: r.map dIs)) = true
      simp only [PyData.canLayAll0, h1.1, h.1, Bool.and_self]
    · show (PyData.depthAll (dIs x :: r.map dIs)) ≤ 1
      simp only [PyData.depthAll, h1.2]; lia
theorem shaped1 (ns : List Int) : SeqAt.shaped (dIs ns) = true := ke_shaped_ints ns
theorem shaped2 (L : List (List Int)) : SeqAt.shaped (.list (L.map dIs)) = true := by
  have h := lay2 L
  refine Bool.and_eq_true_iff.mpr ⟨h.1, decide_eq_true ?_⟩
  show PyData.depthAll (L.map dIs) + 1 ≤ 64
  lia
theorem shapedT (a b : List Int) : SeqAt.shaped (.tuple [dIs a, dIs b]) = true := by
  have h := lay2 [a, b]
  refine Bool.and_eq_true_iff.mpr ⟨h.1, decide_eq_true ?_⟩
  show PyData.depthAll ([a, b].map dIs) + 1 ≤ 64
  lia
theorem eqv_same {d : PyData} (h : SeqAt.shaped d = true) : PyData.eqv d d = true := SeqAt.eqv_refl d (SeqAt.canLay_of_shaped h)
theorem rdL_of {h : Heap} {α : Type} {f : α → PyData} : ∀ {xs : List α} {ys : List Value}, All2 (fun x v => Rd h v (f x)) xs ys → RdL h (xs.map f) ys
  | _, _, .nil => .nil
  | _, _, .cons h r => .cons h (rdL_of r)
theorem isList_kp {h h' : Heap} {a : Addr} {vs : Array Value} (x : h.IsList a vs) (k : Kp h h') : h'.IsList a vs := let ⟨o, ho, r⟩ := x; ⟨o, k _ _ ho, r⟩
theorem isList_L {h : Heap} {a : Addr} {vs : Array Value} (x : h.IsList a vs) : h.IsList a vs.toList.toArray := by simpa using x
theorem ints_drop : ∀ {vs : List Value} {ns : List Int} (n : Nat), IntsAre vs ns → IntsAre (vs.drop n) (ns.drop n)
  | _, _, 0, h => h
  | _, _, _ + 1, .nil => .nil
  | _, _, n + 1, .cons _ _ r => ints_drop n r
theorem ints_take : ∀ {vs : List Value} {ns : List Int} (n : Nat), IntsAre vs ns → IntsAre (vs.take n) (ns.take n)
  | _, _, 0, _ => .nil
  | _, _, n + 1, .nil => .nil
  | _, _, n + 1, .cons i t r => .cons i t (ints_take n r)
section
variable {prog : Program} {w : World} {A : Around} {E : Value → Shared → Prop} {s₀ s : Shared} {K : Frag} {B : Heap} {L : Addr} {l : Ls} {ob ob' : Ob} {Q : Value → Shared → Prop}
theorem o_addLI {a b : Addr} {vs ws : List Value} (F : Fm K s₀ B L s l ob) (ha : s.heap.IsList a vs.toArray) (hb : s.heap.IsList b ws.toArray) (hz : vs.length + ws.length ≤ sizeLine)
    (h : ∀ c s', Fm K s₀ B L s' l ((c, lsO (vs ++ ws) 0) :: ob) → Q (.ref c) s') : wpAny (model prog w) A (binaryOp .Add (.ref a) (.ref b)) Q E s := by
  obtain ⟨mm, F1, N1, back⟩ := F.adaptN
  exact PyProof.Rows.add_lists (hsz := hz) F1 N1 ha hb fun h' F' N' => h _ _ (back { s with heap := h' } _ _ F' N' ⟨rfl, rfl, rfl⟩ (get_none_of_le (Nat.le_refl _)))
end
end Mine
end
section
open PySem PySem.W PyProof.Rows PySem.Calls PySem.Spec
set_option maxRecDepth 100000
namespace Mine
theorem triples_app {a b c : Value} {i j : Int} {t u : Tok} (ha : a = .int i t) (hb : b = .int j u) : ∀ {l : List Value}, TriplesOk l → TriplesOk (l ++ [a, b, c])
  | [], _ => by subst ha hb; exact trivial
  | .int _ _ :: .int _ _ :: _ :: rest, h => triples_app (l := rest) ha hb h
  | [.int _ _], h => h.elim
  | [.int _ _, .int _ _], h => h.elim
theorem among_app {i j : Int} {t u : Tok} {c : Value} {pos : Pos} : ∀ {l : List Value}, TriplesOk l → codeAmong pos (l ++ [.int i t, .int j u, c]) = match codeAmong pos l with | some x => some x | none => if (i == pos.line && j == pos.col) = true then some c else none
  | [], _ => by simp [codeAmong]
  | .int a _ :: .int b _ :: x :: rest, h => by
    have ih := among_app (i := i) (j := j) (t := t) (u := u) (c := c) (pos := pos) (l := rest) h
    simp only [List.cons_append, codeAmong]
    split
    · rfl
    · exact ih
  | [.int _ _], h => h.elim
  | [.int _ _, .int _ _], h => h.elim
/-- what is known of the table of codes for one lambda -/
def TabK (B : Heap) (pos : Pos) (qual : Str) (ps : Array Value) : Prop := TriplesOk ps.toList ∧ (codeAmong pos ps.toList = none ∨ ∃ cv, codeAmong pos ps.toList = some cv ∧ B.CodeRec cv qual)
theorem TabK.kp {B B' : Heap} {pos : Pos} {qual : Str} {ps : Array Value} (x : TabK B pos qual ps) (k : Kp B B') : TabK B' pos qual ps :=
  ⟨x.1, x.2.imp id fun ⟨cv, a, b⟩ => ⟨cv, a, codeRec_kp b k⟩⟩
section
variable {prog : Program} {w : World} {A : Around} {E : Value → Shared → Prop} {s₀ s : Shared} {K : Frag} {B : Heap} {L : Addr} {l : Ls} {ob ob' : Ob}
  {params : Arguments} {body : Expr} {scope : Scope} {env : Env} {clos : List (Str × Addr)} {c P : Addr} {ps : Array Value} {pos : Pos}
theorem e_lamB {ob' : Obj → Ob} {Q : Value → Shared → Prop} (F : Fm K s₀ B L s l ob) (bi : BI P B) (tk : TabK B pos (env.qual ++ "<lambda>") ps) (hdef : defaultsOf params env = ([], [])) (hcl : closGo env scope.names [] = some clos) (hge : env.globals = mainGlobals) (hcode : env.code = .ref c) (hK : codeHdIn K c P = true)
    (U : ∀ o, UpO P (tabObj ps) o ob (ob' o)) (hid : ob' (tabObj ps) = ob)
    (h : ∀ f s' B' ps', Kp B B' → LamAt B' f params body scope clos (env.qual ++ "<lambda>") → TabK B' pos (env.qual ++ "<lambda>") ps' → (∀ pos' : Pos, ¬ (pos.line = pos'.line ∧ pos.col = pos'.col) → codeAmong pos' ps'.toList = codeAmong pos' ps.toList) → Fm K s₀ B' L s' l (ob' (tabObj ps')) → Q (.ref f) s') :
    wpAny (model prog w) A (eval (.Lambda params body scope pos) env) Q E s := by
  obtain ⟨ht, hn | ⟨cv, hf, hcr⟩⟩ := tk
  · refine e_lam F bi hdef hcl hge hcode hK ht hn U fun f cv s' B' k la F' hcr => ?_
    have e : (ps ++ #[rawInt pos.line, rawInt pos.col, cv]).toList = ps.toList ++ [rawInt pos.line, rawInt pos.col, cv] := by simp
    refine h f s' B' _ k la ⟨?_, .inr ⟨cv, ?_, hcr⟩⟩ (fun pos' hp => ?_) F'
    · rw [e]; exact triples_app rfl rfl ht
    · rw [e]; unfold rawInt; rw [among_app ht, hn]; simp
    · rw [e]; unfold rawInt; rw [among_app ht]
      cases codeAmong pos' ps.toList with
      | some x => rfl
      | none =>
        simp only
        rw [if_neg]
        intro q
        simp only [Bool.and_eq_true, beq_iff_eq] at q
        exact hp ⟨by lia, by lia⟩
  · exact e_lam2 F bi hdef hcl hge hcode hK ht hf (U (tabObj ps)).mem hcr fun f s' B' k la F' => h f s' B' ps k la ⟨ht, .inr ⟨cv, hf, codeRec_kp hcr k⟩⟩ (fun _ _ => rfl) (hid ▸ F')
end
end Mine
end
section
open PySem PySem.W PyProof.Rows PySem.Calls PySem.Spec
set_option maxRecDepth 100000
namespace Mine
section
variable {prog : Program} {w : World} {A : Around} {E : Value → Shared → Prop} {s₀ s : Shared} {env : Env} {K : Frag} {B : Heap} {L : Addr} {l : Ls} {ob ob' : Ob}
theorem e_and2 {x y : Expr} {pos : Pos} {Q : Value → Shared → Prop} (h : wpAny (model prog w) A (eval x env) (fun v s₁ => wpAny (model prog w) A (truthy v) (fun c s₂ => if c = true then wpAny (model prog w) A (eval y env) Q E s₂ else Q v s₂) E s₁) E s) :
    wpAny (model prog w) A (eval (.BoolOp .And [x, y] pos) env) Q E s := BoolOp_and (wpAny_mono h (fun _ _ h₁ => wpAny_mono h₁ (fun c _ h₂ => by
      cases c
      · exact h₂
      · exact BoolOp_one h₂) fun _ _ x => x) fun _ _ x => x)
theorem t_or {xs : List Expr} {pos : Pos} {whole : Sem Value} {Q : Bool → Shared → Prop} (h : wpAny (model prog w) A (allTrue .Or xs env) Q E s) : wpAny (model prog w) A (isTrue (.BoolOp .Or xs pos) env whole) Q E s := wpAny_isTrue_BoolOp h
theorem or_nil {Q : Bool → Shared → Prop} (h : Q false s) : wpAny (model prog w) A (allTrue .Or [] env) Q E s := wpAny_allTrue_Or_nil h
theorem or_cons {x : Expr} {rest : List Expr} {Q : Bool → Shared → Prop}
    (h : wpAny (model prog w) A (isTrue x env (eval x env)) (fun b s₁ => if b = true then Q true s₁ else wpAny (model prog w) A (allTrue .Or rest env) Q E s₁) E s) : wpAny (model prog w) A (allTrue .Or (x :: rest) env) Q E s := by
  show wpAny _ A (do match BoolOp.Or, ← isTrue x env (eval x env) with | .And, false => pure false | .Or, true => pure true | _, _ => allTrue .Or rest env) Q E s
  refine wpAny_bind (wpAny_mono h (fun b s₁ h₁ => ?_) fun _ _ x => x)
  cases b
  · exact h₁
  · exact wpAny_pure h₁
theorem c_neb {a b : Bool} {Q : Value → Shared → Prop} (h : Q (.bool (a != b)) s) : wpAny (model prog w) A (compareOp .NotEq (.bool a) (.bool b)) Q E s := PyProof.Rows.ne_bool h
end
theorem eqv_ints : ∀ (a b : List Int), PyData.eqvAll (a.map .int) (b.map .int) = decide (a = b)
  | [], [] => by simp [PyData.eqvAll]
  | [], _ :: _ => by simp [PyData.eqvAll]
  | _ :: _, [] => by simp [PyData.eqvAll]
  | x :: r, y :: t => by
    simp only [List.map_cons, PyData.eqvAll, PyData.eqv, eqv_ints r t]
    by_cases h : x = y <;> by_cases h' : r = t <;> simp [h, h']
theorem eqv_dIs (a b : List Int) : PyData.eqv (dIs a) (dIs b) = decide (a = b) := by
  show PyData.eqvAll _ _ = _
  exact eqv_ints a b
theorem lay_small {ns : List Int} (hl : ns.length ≤ 1000) (h : ∀ x ∈ ns, 0 ≤ x ∧ x < 16) : PyData.layable0 (.list (ns.map .int)) = true := by
  have hw : ∀ (ns : List Int), (∀ x ∈ ns, 0 ≤ x ∧ x < 16) → PyData.weightAll (ns.map .int) ≤ 6 * ns.length := by
    intro ns
    induction ns with
    | nil => intro _; simp [PyData.weightAll]
    | cons x r ih =>
      intro h
      have h1 := h x (.head _)
      have h2 := ih fun y hy => h y (.tail _ hy)
      have h3 : PyData.weight (.int x) ≤ 5 := by
        simp only [PyData.weight]
        split
        · lia
        · have : x.natAbs < 16 := by lia
          have := Nat.log2_lt (n := x.natAbs) (k := 4) (by simp_all) |>.mpr (by omega)
          lia
      simp only [List.map_cons, PyData.weightAll, List.length_cons]
      lia
  have h2 := ke_shaped_ints ns
  have h3 := hw ns h
  refine Bool.and_eq_true_iff.mpr ⟨h2, decide_eq_true ?_⟩
  show PyData.weightAll (ns.map .int) ≤ 2 ^ 20
  lia
end Mine
end
section
open PySem PySem.W PyProof.Rows PySem.Calls PySem.Spec
set_option maxRecDepth 100000
namespace Mine
section
variable {prog : Program} {w : World} {A : Around} {E : Value → Shared → Prop} {s₀ s : Shared} {K : Frag} {B : Heap} {ob : Ob}
theorem env_go0 {scope : Scope} {cl : List (Str × Addr)} {binds : List (Str × Value)} {qual : Str} {f : Addr} {cdv : Value} {Q : Env → Shared → Prop} (G : Gd K B) (kB : Kp B s.heap) (hob : ∀ p ∈ ob, s.heap.get? p.1 = some p.2 ∧ B.get? p.1 = none) (nd : (List.map Prod.fst ob).Nodup)
    (h : ∀ s', Fm K s B s.heap.objs.size s' [] (cellOb (s.heap.objs.size + 1) scope.names [] ++ ob) →
      BindsGo (model prog w) A (envX qual scope s.heap.objs.size f cdv (cellsFrom (s.heap.objs.size + 1) scope.names cl)) (fun s'' => Q (envX qual scope s.heap.objs.size f cdv (cellsFrom (s.heap.objs.size + 1) scope.names cl)) s'') binds s') :
    wpAny (model prog w) A (newFunctionEnv scope mainGlobals cl binds (qual ++ ".<locals>.") (some f) cdv none builtinsNs) Q E s := by
  simp only [newFunctionEnv, Option.isSome_none, Bool.false_eq_true, if_false]
  refine wpAny_bind (wpAny_alloc ?_)
  refine wpAny_bind (wpAny_layCells _ (fun name kind cells => by cases hkc : kind == NameKind.cell <;> simp) _ _ _ _ ?_)
  have hz : ({ s with heap := s.heap.push { cls := .type "frame", data := .dict #[] } } : Shared).heap.objs.size = s.heap.objs.size + 1 := Heap.size_push ..
  rw [hz]
  refine wpAny_bind ?_
  have F1 : Fm K s B s.heap.objs.size { s with heap := s.heap.push { cls := .type "frame", data := .dict #[] } } [] ob := by
    refine ⟨G, ⟨_, Heap.Ns.new s.heap (.type "frame"), fun x v e => by cases e⟩, kB.trans (Kp.push _), Kp.none kB (get_none_of_le (Nat.le_refl _)), fun p hp => ⟨Kp.push _ _ _ (hob p hp).1, Nat.ne_of_lt (Heap.lt_size (hob p hp).1), (hob p hp).2⟩, nd, ⟨rfl, rfl, rfl⟩⟩
  have F2 := F1.cells scope.names
  rw [hz, show ob = [] ++ ob from rfl, cellOb_app] at F2
  exact wpAny_mono (binds_run _ (fun _ _ _ => rfl) binds _ (h _ F2)) (fun _ _ h' => wpAny_pure h') fun _ _ x => x
/-- a call of a def from outside -/
theorem call_top (binds : List (Str × Value)) {name qual : Str} {params : Arguments} {body : List Stmt} {scope : Scope} {cl : List (Str × Addr)} {dV kV doc pm cdv ct oc : Value} {an od : Option Addr} {osl : Array (Option Value)} {f : Addr} {pos : List Value} {kw : List (Str × Value)} {k : Nat} {Q : Value → Shared → Prop}
    (G : Gd K B) (kB : Kp B s.heap) (hob : ∀ p ∈ ob, s.heap.get? p.1 = some p.2 ∧ B.get? p.1 = none) (nd : (List.map Prod.fst ob).Nodup) (R : Rm A (k + 1))
    (ho : K.lookup f = some ⟨oc, od, .func (fnX name qual params body scope cl dV kV doc pm an cdv ct), osl⟩) (hcd : codeIn K cdv qual = true)
    (hbind : BindsTo s (fnX name qual params body scope cl dV kV doc pm an cdv ct) ⟨pos, kw⟩ binds)
    (h : ∀ L' s' A' A₁, Fm K s B L' s' [] (cellOb (L' + 1) scope.names [] ++ ob) → Rm A' k →
      BindsGo (model prog w) A₁ (envX qual scope L' f cdv (cellsFrom (L' + 1) scope.names cl)) (fun s'' => Gd K s''.heap ∧ wpAny (model prog w) A' (execs body (envX qual scope L' f cdv (cellsFrom (L' + 1) scope.names cl))) (RetTo Q) (fun _ _ => False) s'') binds s')
    (hco : scope.isCoroutine = false) (hgen : scope.isGenerator = false) : wpAny (model prog w) A (call (.ref f) pos kw) Q E s := by
  have GS := G.kp kB
  refine wpAny_call ?_
  refine codeAny_call_function (fd := fnX name qual params body scope cl dV kV doc pm an cdv ct) R.room (GS.k _ _ ho) rfl hco hgen rfl (codeRec_of GS.k hcd) (hbind _ _ _ _ ?_)
  refine env_go0 G kB hob nd fun s' F' => ?_
  have mono : ∀ (bs : List (Str × Value)) (s : Shared) (P P' : Shared → Prop) (A : Around) (env : Env), (∀ s, P s → P' s) → BindsGo (model prog w) A env P bs s → BindsGo (model prog w) A env P' bs s := by
    intro bs
    induction bs with
    | nil => intro s P P' A env hp h; exact hp _ h
    | cons x r ih => intro s P P' A env hp h; exact wpAny_mono h (fun _ s' h' => ih s' P P' A env hp h') fun _ _ x => x
  refine mono _ _ _ _ _ _ (fun s'' hs => ?_) (h _ s' (A.deeper (envX qual scope s.heap.objs.size f cdv (cellsFrom (s.heap.objs.size + 1) scope.names cl))) A.in1 F' R.deeper)
  refine ⟨hs.1.nl, codeAny_func (wpAny_mono hs.2 (fun fl s' hq => ?_) fun _ _ x => x.elim)⟩
  cases fl <;> exact hq
theorem gd_ghost {tabs : List (Addr × Addr)} {p : Program} {loose : List Str} {mean : ExcName → Option Value} {mg mb : Str → Option Value} {h : Heap} (hT : TabsAt tabs h) (X : K.In h) (hK : noTabs K = true) (T : Top p loose mean mg mb h) : Gd K (ghostOf h tabs) :=
  let T' := ghost_top hT T
  ⟨ghost_K hT X hK, ⟨mg, T'.g⟩, ⟨mb, T'.b, T'.builtins⟩, T'.nolimit⟩
theorem bi_ghost {c P : Addr} {p : Program} {loose : List Str} {mean : ExcName → Option Value} {mg mb : Str → Option Value} {h : Heap} (hT : TabsAt [(c, P)] h) (T : Top p loose mean mg mb h) : BI P (ghostOf h [(c, P)]) := by
  have T' := ghost_top hT T
  obtain ⟨bm, o, a1, a2, a3, a4, a5, a6⟩ := T'.bmain
  refine ⟨mg, T'.g, bm, o, a1, a2, ?_, ?_, a3, a4, a5, a6⟩
  · rintro rfl
    obtain ⟨o', es, ep, e, hd, _⟩ := T'.g
    rw [a3] at e; cases e; rw [a6] at hd; cases hd
  · rintro rfl
    rw [hideAll_none _ (by simp)] at a3; cases a3
end
theorem law_post {cw : ClaimW} {cl : Str → Option Addr} {mean : ExcName → Option Value} {args : List WData} {s₁ s' : Shared} {c P : Addr} {ps : Array Value} (hT : TabsAt [(c, P)] s₁.heap) (hr : ∀ x, cw.raises args x = false) (hp : cw.post args (.bool true) args = true)
    (hs : Sm s₁ s') (hg : s₁.gens = #[]) (hk : Kp (ghostOf s₁.heap [(c, P)]) s'.heap) (h1 : s'.heap.get? P = some (tabObj ps)) : GoodWG cw cl mean args s₁ (.ok (.ret (.bool true))) s' := by
  have t := hT (c, P) (.head _)
  have at' : ∀ b o, s₁.heap.get? b = some o → s'.heap.get? b = some o ∨ (b = P ∧ o = tabObj #[]) := fun b o e => by
    by_cases hb : b = P
    · subst hb
      have e2 : s₁.heap.get? b = some (tabObj #[]) := t.2
      rw [e] at e2
      exact .inr ⟨rfl, Option.some.inj e2⟩
    · exact .inl (hk b o (ghost_ne e (by simpa using hb)))
  refine ⟨.inl ⟨.bool true, .bool true, [], rfl, hr, .bool true, hp, fun _ => ⟨List.nodup_nil, by intro a ha; cases ha⟩⟩, ⟨fun b o e => ?_, fun b o e => ?_⟩, hs.os, .of_eq (hs.gens.trans hg)⟩
  · rcases at' b o e with h | ⟨rfl, rfl⟩
    · exact .inl h
    · exact .inr (.inl ⟨(t.1.tab t.2).isCodeTable, rfl, #[], ps, rfl, by rw [Array.empty_append]; exact h1⟩)
  · rcases at' b o e with h | ⟨rfl, rfl⟩
    · exact ⟨o, h⟩
    · exact ⟨_, h1⟩
end Mine
end
section
open PySem PySem.W PyProof.Rows PySem.Calls
set_option maxRecDepth 100000
namespace Mine
noncomputable abbrev KK (w : World) : Frag := Mine.hd.heap_39 w.params
abbrev PP : Program := PySem.Challenge.rw_pe0230_01.row.prog
theorem leadK (w : World) : LeadK (KK w) 119 81 88 109 where
  hh := by kernel_rfl
  g1 := by kernel_rfl
  a1 := by kernel_rfl
  a2 := by kernel_rfl
  a3 := by kernel_rfl
  a4 := by kernel_rfl
  a5 := by kernel_rfl
  a6 := by kernel_rfl
  a7 := by kernel_rfl
  t5 := by kernel_rfl
  t6 := by kernel_rfl
  t7 := by kernel_rfl

set_option maxHeartbeats 4000000 in
theorem longest_spec {w : World} {A : Around} {s : Shared} {a : Addr} {d : Lead} {Q E} (R : Rm A 3) (G : Gd (KK w) s.heap) (H : LeadAt 119 s.heap a d)
    (h : ∀ t s', Gr s s' → Q (.int (max ((d.cnt.length : Int) - 1) d.b) t) s') : wpAny (model PP w) A (call (.ref 81) [.ref a]) Q E s := by
  refine @call_fn _ _ _ _ _ _ [("self", .ref a)] _ _ _ _ _ _ _ _ _ _ _ _ _ _ _ _ _ _ _ _ _ R G (by rfl) (by rfl) (BindsTo.of_eq (by rfl)) (by rfl) (by rfl) (fun L s₁ A' hL F R' => ?_) (by rfl) (by rfl) (by rfl)
  refine @s_unpack2 _ _ _ _ _ _ _ _ _ _ _ _ _ _ _ _ R'.h ?_ (by rfl) (by rfl)
  refine Attribute_any_ ?_
  with_reducible rename Fm _ _ _ _ _ _ _ => F0
  refine @nm_local _ _ _ _ _ _ _ _ _ _ _ _ _ _ _ _ F0 (by rfl) (by rfl) ?_ (by rfl) (by rfl) (by decide)
  rename Fm _ _ _ _ _ _ _ => F
  refine @ga_norm _ _ _ _ _ _ _ _ _ _ _ _ _ _ _ _ _ _ _ (leadK w) F H fun tn tc u vs s₂ T1 T2 I F => ⟨_, _, _, rfl, T1.keeps F.kp, fun s₃ g => ?_⟩
  replace F := F.gr g
  with_reducible rename Fm _ _ _ _ _ _ _ => F0
  refine @st_local _ _ _ _ _ _ _ _ _ _ _ _ _ _ _ F0 (by rfl) ?_ (by rfl) (by rfl)
  clear F0
  intro _ _
  with_reducible rename Fm _ _ _ _ _ _ _ => F0
  refine @st_local _ _ _ _ _ _ _ _ _ _ _ _ _ _ _ F0 (by rfl) ?_ (by rfl) (by rfl)
  clear F0
  intro _ _
  refine @s_ret _ _ _ _ _ _ _ _ _ ?_
  refine @e_call _ _ _ _ _ _ _ _ _ _ _ ?_
  with_reducible rename Fm _ _ _ _ _ _ _ => F0
  refine @nm_bi _ _ _ _ _ _ _ _ _ _ _ _ _ _ _ _ F0 (by rfl) (by rfl) (by exact bb_max) ?_ (by rfl) (by rfl) (by rfl) (by decide) (by decide)
  refine @cw_bi2 _ _ _ _ _ _ _ _ _ _ _ ?_ (by rfl)
  refine wpAny_BinOp ?_
  refine @e_call _ _ _ _ _ _ _ _ _ _ _ ?_
  with_reducible rename Fm _ _ _ _ _ _ _ => F0
  refine @nm_bi _ _ _ _ _ _ _ _ _ _ _ _ _ _ _ _ F0 (by rfl) (by rfl) (by exact bb_len) ?_ (by rfl) (by rfl) (by rfl) (by decide) (by decide)
  refine @cw_bi1 _ _ _ _ _ _ _ _ _ _ ?_ (by rfl)
  with_reducible rename Fm _ _ _ _ _ _ _ => F0
  refine @nm_local _ _ _ _ _ _ _ _ _ _ _ _ _ _ _ _ F0 (by rfl) (by rfl) ?_ (by rfl) (by rfl) (by decide)
  rename Fm _ _ _ _ _ _ _ => F
  have hlen : vs.size = d.cnt.length := by simpa using I.length
  have hsz := H.sz
  refine @b_len_tup _ _ _ _ _ _ _ _ _ _ _ _ _ _ F (T2.keeps F.kp) (by omega) (fun _ _ F => ?_)
  rw [hlen]
  with_reducible rename Fm _ _ _ _ _ _ _ => F0
  refine @e_int _ _ _ _ _ _ _ _ _ _ _ _ _ _ _ _ F0 ?_
  clear F0
  intro _ _ _
  with_reducible rename Fm _ _ _ _ _ _ _ => F0
  refine @o_sub _ _ _ _ _ _ _ _ _ _ _ _ _ _ _ _ F0 ?_
  clear F0
  intro _ _ _
  with_reducible rename Fm _ _ _ _ _ _ _ => F0
  refine @nm_local _ _ _ _ _ _ _ _ _ _ _ _ _ _ _ _ F0 (by rfl) (by rfl) ?_ (by rfl) (by rfl) (by decide)
  rename Fm _ _ _ _ _ _ _ => F
  refine @b_max _ _ _ _ _ _ _ _ _ _ _ _ _ _ _ _ F R'.h fun _ _ F => ?_
  with_reducible refine @retTo_ret _ _ _ ?_
  exact h _ _ ⟨F.sm, F.kp⟩
end Mine
end
section
open PySem PySem.W PyProof.Rows PySem.Calls
set_option maxRecDepth 100000
namespace Mine

def ilTo (cnt : List Int) (ts : Int) : Nat → Int
  | 0 => 0
  | k + 1 => ilTo cnt ts k + (ts + k) / ts * cnt.getD (ts + k).toNat 0
def Lead.level (d : Lead) (ts : Int) : Int := d.b + ts * (ilTo d.cnt ts ((d.cnt.length : Int) - ts).toNat + d.nt)

set_option maxHeartbeats 4000000 in
theorem indent_spec {w : World} {A : Around} {s : Shared} {a : Addr} {d : Lead} {ts : Int} {tt : Tok} {Q E} (R : Rm A 3) (G : Gd (KK w) s.heap) (H : LeadAt 119 s.heap a d) (h1 : 0 < ts) (h2 : ts < 1000)
    (h : ∀ t s', Gr s s' → Q (.int (d.level ts) t) s') : wpAny (model PP w) A (call (.ref 88) [.ref a, .int ts tt]) Q E s := by
  refine @call_fn _ _ _ _ _ _ [("self", .ref a), ("tabsize", .int ts tt)] _ _ _ _ _ _ _ _ _ _ _ _ _ _ _ _ _ _ _ _ _ R G (by rfl) (by rfl) (BindsTo.of_eq (by rfl)) (by rfl) (by rfl) (fun L s₁ A' hL F R' => ?_) (by rfl) (by rfl) (by rfl)
  refine @s_unpack2 _ _ _ _ _ _ _ _ _ _ _ _ _ _ _ _ R'.h ?_ (by rfl) (by rfl)
  refine Attribute_any_ ?_
  with_reducible rename Fm _ _ _ _ _ _ _ => F0
  refine @nm_local _ _ _ _ _ _ _ _ _ _ _ _ _ _ _ _ F0 (by rfl) (by rfl) ?_ (by rfl) (by rfl) (by decide)
  rename Fm _ _ _ _ _ _ _ => F
  refine @ga_norm _ _ _ _ _ _ _ _ _ _ _ _ _ _ _ _ _ _ _ (leadK w) F H fun tn tc u vs s₂ T1 T2 I F => ⟨_, _, _, rfl, T1.keeps F.kp, fun s₃ g => ?_⟩
  replace F := F.gr g
  with_reducible rename Fm _ _ _ _ _ _ _ => F0
  refine @st_local _ _ _ _ _ _ _ _ _ _ _ _ _ _ _ F0 (by rfl) ?_ (by rfl) (by rfl)
  clear F0
  intro _ _
  with_reducible rename Fm _ _ _ _ _ _ _ => F0
  refine @st_local _ _ _ _ _ _ _ _ _ _ _ _ _ _ _ F0 (by rfl) ?_ (by rfl) (by rfl)
  clear F0
  intro _ _
  refine @s_assign _ _ _ _ _ _ _ _ _ _ _ ?_ (by rfl)
  with_reducible rename Fm _ _ _ _ _ _ _ => F0
  refine @e_int _ _ _ _ _ _ _ _ _ _ _ _ _ _ _ _ F0 ?_
  clear F0
  intro _ _ _
  with_reducible rename Fm _ _ _ _ _ _ _ => F0
  refine @st_local _ _ _ _ _ _ _ _ _ _ _ _ _ _ _ F0 (by rfl) ?_ (by rfl) (by rfl)
  clear F0
  intro _ _
  refine @s_for _ _ _ _ _ _ _ _ _ _ _ _ ?_ (by intro _; rfl)
  refine @e_call _ _ _ _ _ _ _ _ _ _ _ ?_
  with_reducible rename Fm _ _ _ _ _ _ _ => F0
  refine @nm_bi _ _ _ _ _ _ _ _ _ _ _ _ _ _ _ _ F0 (by rfl) (by rfl) (by exact bb_range) ?_ (by rfl) (by rfl) (by rfl) (by decide) (by decide)
  refine @cw_ty2 _ _ _ _ _ _ _ _ _ _ _ ?_ (by rfl)
  with_reducible rename Fm _ _ _ _ _ _ _ => F0
  refine @nm_local _ _ _ _ _ _ _ _ _ _ _ _ _ _ _ _ F0 (by rfl) (by rfl) ?_ (by rfl) (by rfl) (by decide)
  refine @e_call _ _ _ _ _ _ _ _ _ _ _ ?_
  with_reducible rename Fm _ _ _ _ _ _ _ => F0
  refine @nm_bi _ _ _ _ _ _ _ _ _ _ _ _ _ _ _ _ F0 (by rfl) (by rfl) (by exact bb_len) ?_ (by rfl) (by rfl) (by rfl) (by decide) (by decide)
  refine @cw_bi1 _ _ _ _ _ _ _ _ _ _ ?_ (by rfl)
  with_reducible rename Fm _ _ _ _ _ _ _ => F0
  refine @nm_local _ _ _ _ _ _ _ _ _ _ _ _ _ _ _ _ F0 (by rfl) (by rfl) ?_ (by rfl) (by rfl) (by decide)
  rename Fm _ _ _ _ _ _ _ => F
  have hlen : vs.size = d.cnt.length := by simpa using I.length
  have hsz := H.sz
  refine @b_len_tup _ _ _ _ _ _ _ _ _ _ _ _ _ _ F (T2.keeps F.kp) (by lia) (fun _ _ F => ?_)
  rw [hlen]
  refine @b_range2 _ _ _ _ _ _ _ _ _ _ _ _ _ _ _ _ R'.h F (by lia) (by lia) (by lia) (by lia) fun r s₄ F it => ?_
  replace F := F.sub (l' := [("self", .ref a), ("tabsize", .int ts tt), ("count", .ref tc), ("trailing", .int d.b u), ("il", .int 0 _)]) ⟨rfl, rfl, rfl, rfl, rfl, trivial⟩
  refine @for_iter _ _ _ _ _ _ _ _ _ _ _ _ _ _ _ _ _ _ _ F (it _) (fun k l ob => ob = [] ∧ ∃ t, l = ([("self", .ref a), ("tabsize", .int ts tt), ("count", .ref tc), ("trailing", .int d.b u), ("il", .int (ilTo d.cnt ts k) t)] : Ls)) ⟨rfl, _, rfl⟩ ?_ ?_
  · rintro i s₅ l ob ex v hi ⟨rfl, t, rfl⟩ ⟨t', rfl⟩ F
    with_reducible rename Fm _ _ _ _ _ _ _ => F0
    refine @st_local _ _ _ _ _ _ _ _ _ _ _ _ _ _ _ F0 (by rfl) ?_ (by rfl) (by rfl)
    clear F0
    intro _ _
    refine @s_assign _ _ _ _ _ _ _ _ _ _ _ ?_ (by rfl)
    refine wpAny_BinOp ?_
    with_reducible rename Fm _ _ _ _ _ _ _ => F0
    refine @nm_local _ _ _ _ _ _ _ _ _ _ _ _ _ _ _ _ F0 (by rfl) (by rfl) ?_ (by rfl) (by rfl) (by decide)
    refine wpAny_BinOp ?_
    refine wpAny_BinOp ?_
    with_reducible rename Fm _ _ _ _ _ _ _ => F0
    refine @nm_local _ _ _ _ _ _ _ _ _ _ _ _ _ _ _ _ F0 (by rfl) (by rfl) ?_ (by rfl) (by rfl) (by decide)
    with_reducible rename Fm _ _ _ _ _ _ _ => F0
    refine @nm_local _ _ _ _ _ _ _ _ _ _ _ _ _ _ _ _ F0 (by rfl) (by rfl) ?_ (by rfl) (by rfl) (by decide)
    rename Fm _ _ _ _ _ _ _ => F
    refine @o_div _ _ _ _ _ _ _ _ _ _ _ _ _ _ _ _ F (by omega) (PyProof.noPylong_small (by omega)) fun _ _ F => ?_
    refine Subscript_ ?_
    with_reducible rename Fm _ _ _ _ _ _ _ => F0
    refine @nm_local _ _ _ _ _ _ _ _ _ _ _ _ _ _ _ _ F0 (by rfl) (by rfl) ?_ (by rfl) (by rfl) (by decide)
    with_reducible rename Fm _ _ _ _ _ _ _ => F0
    refine @nm_local _ _ _ _ _ _ _ _ _ _ _ _ _ _ _ _ F0 (by rfl) (by rfl) ?_ (by rfl) (by rfl) (by decide)
    rename Fm _ _ _ _ _ _ _ => F
    obtain ⟨u', hx⟩ := I.get (ts + i).toNat (d.cnt.getD (ts + i).toNat 0) (by rw [List.getD_eq_getElem?_getD]; rw [List.getElem?_eq_getElem (by lia)]; rfl)
    refine @sub_tup _ _ _ _ _ _ _ _ _ _ (vs.toList) _ _ (by simpa using T2.keeps F.kp) (by lia) (by omega) hx ?_ (by with_unfolding_all rfl)
    have : 0 ≤ (ts + i) / ts := Int.ediv_nonneg (by lia) (by lia)
    have : (ts + i) / ts ≤ ts + i := Int.ediv_le_self _ (by lia)
    refine @o_mul _ _ _ _ _ _ _ _ _ _ _ _ _ _ _ _ F (mul_ok (by lia) (by lia)) fun _ _ F => ?_
    with_reducible rename Fm _ _ _ _ _ _ _ => F0
    refine @o_add _ _ _ _ _ _ _ _ _ _ _ _ _ _ _ _ F0 ?_
    clear F0
    intro _ _ _
    with_reducible rename Fm _ _ _ _ _ _ _ => F0
    refine @st_local _ _ _ _ _ _ _ _ _ _ _ _ _ _ _ F0 (by rfl) ?_ (by rfl) (by rfl)
    clear F0
    intro _ _
    refine @s_nil _ _ _ _ _ _ ?_
    with_reducible refine @lp_next _ _ _ ?_
    rename Fm _ _ _ _ _ _ _ => F
    exact ⟨_, [], ⟨rfl, _, rfl⟩, F.sub ⟨rfl, rfl, rfl, rfl, rfl, trivial⟩⟩
  · rintro s₅ l ob ⟨rfl, t, rfl⟩ F
    with_reducible refine @then_next _ _ _ _ _ _ _ ?_
    refine @s_ret _ _ _ _ _ _ _ _ _ ?_
    refine wpAny_BinOp ?_
    with_reducible rename Fm _ _ _ _ _ _ _ => F0
    refine @nm_local _ _ _ _ _ _ _ _ _ _ _ _ _ _ _ _ F0 (by rfl) (by rfl) ?_ (by rfl) (by rfl) (by decide)
    refine wpAny_BinOp ?_
    with_reducible rename Fm _ _ _ _ _ _ _ => F0
    refine @nm_local _ _ _ _ _ _ _ _ _ _ _ _ _ _ _ _ F0 (by rfl) (by rfl) ?_ (by rfl) (by rfl) (by decide)
    refine wpAny_BinOp ?_
    with_reducible rename Fm _ _ _ _ _ _ _ => F0
    refine @nm_local _ _ _ _ _ _ _ _ _ _ _ _ _ _ _ _ F0 (by rfl) (by rfl) ?_ (by rfl) (by rfl) (by decide)
    refine Attribute_any_ ?_
    with_reducible rename Fm _ _ _ _ _ _ _ => F0
    refine @nm_local _ _ _ _ _ _ _ _ _ _ _ _ _ _ _ _ F0 (by rfl) (by rfl) ?_ (by rfl) (by rfl) (by decide)
    with_reducible rename Fm _ _ _ _ _ _ _ => F0
    refine @ga_nt _ _ _ _ _ _ _ _ _ _ _ _ _ _ _ _ _ _ _ (leadK _) F0 (by assumption) ?_
    clear F0
    intro _ _ _
    with_reducible rename Fm _ _ _ _ _ _ _ => F0
    refine @o_add _ _ _ _ _ _ _ _ _ _ _ _ _ _ _ _ F0 ?_
    clear F0
    intro _ _ _
    rename Fm _ _ _ _ _ _ _ => F
    refine @o_mul _ _ _ _ _ _ _ _ _ _ _ _ _ _ _ _ F (mul_ok (by lia) (by lia)) fun _ _ F => ?_
    with_reducible rename Fm _ _ _ _ _ _ _ => F0
    refine @o_add _ _ _ _ _ _ _ _ _ _ _ _ _ _ _ _ F0 ?_
    clear F0
    intro _ _ _
    with_reducible refine @retTo_ret _ _ _ ?_
    rename Fm _ _ _ _ _ _ _ => F
    exact h _ _ ⟨F.sm, F.kp⟩
end Mine
end
section
open PySem PySem.W PyProof.Rows PySem.Calls
set_option maxRecDepth 100000
namespace Mine

def Lead.longest (d : Lead) : Int := max ((d.cnt.length : Int) - 1) d.b
def lessTo (d e : Lead) : Nat → Bool
  | 0 => true
  | k + 1 => lessTo d e k && decide (d.level (2 + k) < e.level (2 + k))
def lessB (d e : Lead) : Bool :=
  if e.n ≤ d.n then false else if d.cnt.length ≤ 1 ∧ e.cnt.length ≤ 1 then decide (d.nt ≤ e.nt) else lessTo d e (max d.longest e.longest).toNat
theorem lessTo_false {d e : Lead} {k : Nat} (h : ¬ d.level (2 + k) < e.level (2 + k)) : ∀ j, k < j → lessTo d e j = false
  | 0, hk => absurd hk (Nat.not_lt_zero _)
  | j + 1, hk => by
    unfold lessTo
    by_cases q : k = j
    · subst q; simp [h]
    · rw [lessTo_false h j (by lia)]; rfl

set_option maxHeartbeats 4000000 in
theorem less_spec {w : World} {A : Around} {s : Shared} {a b : Addr} {d e : Lead} {Q E} (R : Rm A 6) (G : Gd (KK w) s.heap) (H : LeadAt 119 s.heap a d) (H2 : LeadAt 119 s.heap b e)
    (h : ∀ s', Gr s s' → Q (.bool (lessB d e)) s') : wpAny (model PP w) A (call (.ref 109) [.ref a, .ref b]) Q E s := by
  refine @call_fn _ _ _ _ _ _ [("self", .ref a), ("other", .ref b)] _ _ _ _ _ _ _ _ _ _ _ _ _ _ _ _ _ _ _ _ _ R G (by rfl) (by rfl) (BindsTo.of_eq (by rfl)) (by rfl) (by rfl) (fun L s₁ A' hL F R' => ?_) (by rfl) (by rfl) (by rfl)
  have R3 : Rm A' 3 := R'.le (by lia)
  have hb := H.sz
  have hb2 := H2.sz
  have l1 : 0 ≤ d.longest ∧ d.longest < 900 := by unfold Lead.longest; omega
  have l2 : 0 ≤ e.longest ∧ e.longest < 900 := by unfold Lead.longest; omega
  refine @s_if _ _ _ _ _ _ _ _ _ _ _ ?_
  refine wpAny_isTrue_Compare1 ?_ (by rfl)
  refine Attribute_any_ ?_
  with_reducible rename Fm _ _ _ _ _ _ _ => F0
  refine @nm_local _ _ _ _ _ _ _ _ _ _ _ _ _ _ _ _ F0 (by rfl) (by rfl) ?_ (by rfl) (by rfl) (by decide)
  with_reducible rename Fm _ _ _ _ _ _ _ => F0
  refine @ga_n _ _ _ _ _ _ _ _ _ _ _ _ _ _ _ _ _ _ _ (leadK _) F0 (by assumption) ?_
  clear F0
  intro _ _ _
  refine Attribute_any_ ?_
  with_reducible rename Fm _ _ _ _ _ _ _ => F0
  refine @nm_local _ _ _ _ _ _ _ _ _ _ _ _ _ _ _ _ F0 (by rfl) (by rfl) ?_ (by rfl) (by rfl) (by decide)
  with_reducible rename Fm _ _ _ _ _ _ _ => F0
  refine @ga_n _ _ _ _ _ _ _ _ _ _ _ _ _ _ _ _ _ _ _ (leadK _) F0 (by assumption) ?_
  clear F0
  intro _ _ _
  refine @c_ge _ _ _ _ _ _ _ _ _ _ ?_
  refine wpAny_truthy_bool ?_
  refine @ite_d _ _ _ _ (fun c => ?_) (fun c => ?_)
  · refine @s_ret _ _ _ _ _ _ _ _ _ ?_
    refine @e_bool _ _ _ _ _ _ _ _ _ _ ?_
    with_reducible refine @then_ret _ _ _ _ _ _ _ _ ?_
    with_reducible refine @retTo_ret _ _ _ ?_
    rename Fm _ _ _ _ _ _ _ => F
    have := h _ ⟨F.sm, F.kp⟩
    rwa [show lessB d e = false from by unfold lessB; rw [if_pos c]] at this
  · refine @s_nil _ _ _ _ _ _ ?_
    with_reducible refine @then_next _ _ _ _ _ _ _ ?_
    refine @s_if _ _ _ _ _ _ _ _ _ _ _ ?_
    rename Fm _ _ _ _ _ _ _ => F
    refine @cutB _ _ _ _ _ _ _ _ _ _ _ _ _ F (d.cnt.length ≤ 1 ∧ e.cnt.length ≤ 1) _ ?_ fun s₂ F => ?_
    · refine @t_and _ _ _ _ _ _ _ _ _ _ _ ?_
      refine isTrue_plain ?_ (by rfl)
      refine Attribute_any_ ?_
      with_reducible rename Fm _ _ _ _ _ _ _ => F0
      refine @nm_local _ _ _ _ _ _ _ _ _ _ _ _ _ _ _ _ F0 (by rfl) (by rfl) ?_ (by rfl) (by rfl) (by decide)
      with_reducible rename Fm _ _ _ _ _ _ _ => F0
      refine @ga_simple _ _ _ _ _ _ _ _ _ _ _ _ _ _ _ _ _ _ _ (leadK _) F0 (by assumption) ?_
      clear F0
      intro _ _
      refine wpAny_truthy_bool ?_
      refine @ite_d _ _ _ _ (fun c1 => ?_) (fun c1 => ?_)
      refine isTrue_plain ?_ (by rfl)
      refine Attribute_any_ ?_
      with_reducible rename Fm _ _ _ _ _ _ _ => F0
      refine @nm_local _ _ _ _ _ _ _ _ _ _ _ _ _ _ _ _ F0 (by rfl) (by rfl) ?_ (by rfl) (by rfl) (by decide)
      with_reducible rename Fm _ _ _ _ _ _ _ => F0
      refine @ga_simple _ _ _ _ _ _ _ _ _ _ _ _ _ _ _ _ _ _ _ (leadK _) F0 (by assumption) ?_
      clear F0
      intro _ _
      refine wpAny_truthy_bool ?_
      all_goals rename Fm _ _ _ _ _ _ _ => F
      · exact ⟨by simp [c1], F⟩
      · exact ⟨by simp [c1], F⟩
    refine @ite_d _ _ _ _ (fun c1 => ?_) (fun c1 => ?_)
    · refine @s_ret _ _ _ _ _ _ _ _ _ ?_
      refine wpAny_Compare1 ?_ (by rfl)
      refine Attribute_any_ ?_
      with_reducible rename Fm _ _ _ _ _ _ _ => F0
      refine @nm_local _ _ _ _ _ _ _ _ _ _ _ _ _ _ _ _ F0 (by rfl) (by rfl) ?_ (by rfl) (by rfl) (by decide)
      with_reducible rename Fm _ _ _ _ _ _ _ => F0
      refine @ga_nt _ _ _ _ _ _ _ _ _ _ _ _ _ _ _ _ _ _ _ (leadK _) F0 (by assumption) ?_
      clear F0
      intro _ _ _
      refine Attribute_any_ ?_
      with_reducible rename Fm _ _ _ _ _ _ _ => F0
      refine @nm_local _ _ _ _ _ _ _ _ _ _ _ _ _ _ _ _ F0 (by rfl) (by rfl) ?_ (by rfl) (by rfl) (by decide)
      with_reducible rename Fm _ _ _ _ _ _ _ => F0
      refine @ga_nt _ _ _ _ _ _ _ _ _ _ _ _ _ _ _ _ _ _ _ (leadK _) F0 (by assumption) ?_
      clear F0
      intro _ _ _
      refine @c_le _ _ _ _ _ _ _ _ _ _ ?_
      with_reducible refine @then_ret _ _ _ _ _ _ _ _ ?_
      with_reducible refine @retTo_ret _ _ _ ?_
      rename Fm _ _ _ _ _ _ _ => F
      have := h _ ⟨F.sm, F.kp⟩
      rwa [show lessB d e = decide (d.nt ≤ e.nt) from by unfold lessB; rw [if_neg c, if_pos c1]] at this
    · refine @s_nil _ _ _ _ _ _ ?_
      with_reducible refine @then_next _ _ _ _ _ _ _ ?_
      refine @s_assign _ _ _ _ _ _ _ _ _ _ _ ?_ (by rfl)
      refine wpAny_BinOp ?_
      refine @e_call _ _ _ _ _ _ _ _ _ _ _ ?_
      with_reducible rename Fm _ _ _ _ _ _ _ => F0
      refine @nm_bi _ _ _ _ _ _ _ _ _ _ _ _ _ _ _ _ F0 (by rfl) (by rfl) (by exact bb_max) ?_ (by rfl) (by rfl) (by rfl) (by decide) (by decide)
      refine @cw_bi2 _ _ _ _ _ _ _ _ _ _ _ ?_ (by rfl)
      refine @e_meth _ _ _ _ _ _ _ _ _ _ _ _ ?_ (by rfl) (by rfl) (by rfl)
      with_reducible rename Fm _ _ _ _ _ _ _ => F0
      refine @nm_local _ _ _ _ _ _ _ _ _ _ _ _ _ _ _ _ F0 (by rfl) (by rfl) ?_ (by rfl) (by rfl) (by decide)
      with_reducible rename Fm _ _ _ _ _ _ _ => F0
      refine @gm_lead _ _ _ _ _ _ _ _ _ _ _ _ _ _ _ _ (leadK _) (Fm.gdh F0) (LeadAt.kp (by assumption) (Fm.kp F0)) (.inl ⟨rfl, rfl⟩) ?_
      with_reducible rename Fm _ _ _ _ _ _ _ => F0
      refine @cw_M0 _ _ _ _ _ _ _ _ _ _ _ (by rfl) (Fm.gdh F0) ?_
      rename Fm _ _ _ _ _ _ _ => F
      refine @longest_spec _ _ _ _ _ _ _ R3 F.gdh (H.kp F.kp) fun _ s₃ g => ?_
      replace F := F.gr g
      refine @e_meth _ _ _ _ _ _ _ _ _ _ _ _ ?_ (by rfl) (by rfl) (by rfl)
      with_reducible rename Fm _ _ _ _ _ _ _ => F0
      refine @nm_local _ _ _ _ _ _ _ _ _ _ _ _ _ _ _ _ F0 (by rfl) (by rfl) ?_ (by rfl) (by rfl) (by decide)
      with_reducible rename Fm _ _ _ _ _ _ _ => F0
      refine @gm_lead _ _ _ _ _ _ _ _ _ _ _ _ _ _ _ _ (leadK _) (Fm.gdh F0) (LeadAt.kp (by assumption) (Fm.kp F0)) (.inl ⟨rfl, rfl⟩) ?_
      with_reducible rename Fm _ _ _ _ _ _ _ => F0
      refine @cw_M0 _ _ _ _ _ _ _ _ _ _ _ (by rfl) (Fm.gdh F0) ?_
      rename Fm _ _ _ _ _ _ _ => F
      refine @longest_spec _ _ _ _ _ _ _ R3 F.gdh (H2.kp F.kp) fun _ s₃ g => ?_
      replace F := F.gr g
      refine @b_max _ _ _ _ _ _ _ _ _ _ _ _ _ _ _ _ F R'.h fun _ _ F => ?_
      with_reducible rename Fm _ _ _ _ _ _ _ => F0
      refine @e_int _ _ _ _ _ _ _ _ _ _ _ _ _ _ _ _ F0 ?_
      clear F0
      intro _ _ _
      with_reducible rename Fm _ _ _ _ _ _ _ => F0
      refine @o_add _ _ _ _ _ _ _ _ _ _ _ _ _ _ _ _ F0 ?_
      clear F0
      intro _ _ _
      with_reducible rename Fm _ _ _ _ _ _ _ => F0
      refine @st_local _ _ _ _ _ _ _ _ _ _ _ _ _ _ _ F0 (by rfl) ?_ (by rfl) (by rfl)
      clear F0
      intro _ _
      refine @s_for _ _ _ _ _ _ _ _ _ _ _ _ ?_ (by intro _; rfl)
      refine @e_call _ _ _ _ _ _ _ _ _ _ _ ?_
      with_reducible rename Fm _ _ _ _ _ _ _ => F0
      refine @nm_bi _ _ _ _ _ _ _ _ _ _ _ _ _ _ _ _ F0 (by rfl) (by rfl) (by exact bb_range) ?_ (by rfl) (by rfl) (by rfl) (by decide) (by decide)
      refine @cw_ty2 _ _ _ _ _ _ _ _ _ _ _ ?_ (by rfl)
      with_reducible rename Fm _ _ _ _ _ _ _ => F0
      refine @e_int _ _ _ _ _ _ _ _ _ _ _ _ _ _ _ _ F0 ?_
      clear F0
      intro _ _ _
      refine wpAny_BinOp ?_
      with_reducible rename Fm _ _ _ _ _ _ _ => F0
      refine @nm_local _ _ _ _ _ _ _ _ _ _ _ _ _ _ _ _ F0 (by rfl) (by rfl) ?_ (by rfl) (by rfl) (by decide)
      with_reducible rename Fm _ _ _ _ _ _ _ => F0
      refine @e_int _ _ _ _ _ _ _ _ _ _ _ _ _ _ _ _ F0 ?_
      clear F0
      intro _ _ _
      with_reducible rename Fm _ _ _ _ _ _ _ => F0
      refine @o_add _ _ _ _ _ _ _ _ _ _ _ _ _ _ _ _ F0 ?_
      clear F0
      intro _ _ _
      rename Fm _ _ _ _ _ _ _ => F
      refine @b_range2 _ _ _ _ _ _ _ _ _ _ _ _ _ _ _ _ R'.h F (by omega) (by omega) (by lia) (by lia) fun r s₄ F it => ?_
      replace F := F.sub (l' := [("self", .ref a), ("other", .ref b)]) ⟨rfl, rfl, trivial⟩
      have hn : (max (max ((d.cnt.length : Int) - 1) d.b) (max ((e.cnt.length : Int) - 1) e.b) + 1 + 1 - 2).toNat = (max d.longest e.longest).toNat := by unfold Lead.longest; lia
      rw [hn] at it
      refine @for_iter _ _ _ _ _ _ _ _ _ _ _ _ _ _ _ _ _ _ _ F (it _) (fun k l ob => ob = [] ∧ l = ([("self", .ref a), ("other", .ref b)] : Ls) ∧ lessTo d e k = true) ⟨rfl, rfl, rfl⟩ ?_ ?_
      · rintro i s₅ l ob ex v hi ⟨rfl, rfl, hl⟩ ⟨t', rfl⟩ F
        with_reducible rename Fm _ _ _ _ _ _ _ => F0
        refine @st_local _ _ _ _ _ _ _ _ _ _ _ _ _ _ _ F0 (by rfl) ?_ (by rfl) (by rfl)
        clear F0
        intro _ _
        refine @s_if _ _ _ _ _ _ _ _ _ _ _ ?_
        refine wpAny_isTrue_Compare1 ?_ (by rfl)
        refine @e_meth _ _ _ _ _ _ _ _ _ _ _ _ ?_ (by rfl) (by rfl) (by rfl)
        with_reducible rename Fm _ _ _ _ _ _ _ => F0
        refine @nm_local _ _ _ _ _ _ _ _ _ _ _ _ _ _ _ _ F0 (by rfl) (by rfl) ?_ (by rfl) (by rfl) (by decide)
        with_reducible rename Fm _ _ _ _ _ _ _ => F0
        refine @gm_lead _ _ _ _ _ _ _ _ _ _ _ _ _ _ _ _ (leadK _) (Fm.gdh F0) (LeadAt.kp (by assumption) (Fm.kp F0)) (.inr (.inl ⟨rfl, rfl⟩)) ?_
        with_reducible rename Fm _ _ _ _ _ _ _ => F0
        refine @cw_M1 _ _ _ _ _ _ _ _ _ _ _ _ (Fm.gdh F0) (by rfl) ?_ (by rfl)
        with_reducible rename Fm _ _ _ _ _ _ _ => F0
        refine @nm_local _ _ _ _ _ _ _ _ _ _ _ _ _ _ _ _ F0 (by rfl) (by rfl) ?_ (by rfl) (by rfl) (by decide)
        with_reducible rename Fm _ _ _ _ _ _ _ => F0
        refine ⟨Fm.gdh F0, ?_⟩
        rename Fm _ _ _ _ _ _ _ => F
        refine @indent_spec _ _ _ _ _ _ _ _ _ R3 F.gdh (H.kp F.kp) (by lia) (by omega) fun _ s₃ g => ?_
        replace F := F.gr g
        refine @e_meth _ _ _ _ _ _ _ _ _ _ _ _ ?_ (by rfl) (by rfl) (by rfl)
        with_reducible rename Fm _ _ _ _ _ _ _ => F0
        refine @nm_local _ _ _ _ _ _ _ _ _ _ _ _ _ _ _ _ F0 (by rfl) (by rfl) ?_ (by rfl) (by rfl) (by decide)
        with_reducible rename Fm _ _ _ _ _ _ _ => F0
        refine @gm_lead _ _ _ _ _ _ _ _ _ _ _ _ _ _ _ _ (leadK _) (Fm.gdh F0) (LeadAt.kp (by assumption) (Fm.kp F0)) (.inr (.inl ⟨rfl, rfl⟩)) ?_
        with_reducible rename Fm _ _ _ _ _ _ _ => F0
        refine @cw_M1 _ _ _ _ _ _ _ _ _ _ _ _ (Fm.gdh F0) (by rfl) ?_ (by rfl)
        with_reducible rename Fm _ _ _ _ _ _ _ => F0
        refine @nm_local _ _ _ _ _ _ _ _ _ _ _ _ _ _ _ _ F0 (by rfl) (by rfl) ?_ (by rfl) (by rfl) (by decide)
        with_reducible rename Fm _ _ _ _ _ _ _ => F0
        refine ⟨Fm.gdh F0, ?_⟩
        rename Fm _ _ _ _ _ _ _ => F
        refine @indent_spec _ _ _ _ _ _ _ _ _ R3 F.gdh (H2.kp F.kp) (by lia) (by omega) fun _ s₃ g => ?_
        replace F := F.gr g
        refine @c_ge _ _ _ _ _ _ _ _ _ _ ?_
        refine wpAny_truthy_bool ?_
        refine @ite_d _ _ _ _ (fun c2 => ?_) (fun c2 => ?_)
        · refine @s_ret _ _ _ _ _ _ _ _ _ ?_
          refine @e_bool _ _ _ _ _ _ _ _ _ _ ?_
          with_reducible refine @then_ret _ _ _ _ _ _ _ _ ?_
          with_reducible refine @lp_ret _ _ _ _ ?_
          with_reducible refine @then_ret _ _ _ _ _ _ _ _ ?_
          with_reducible refine @retTo_ret _ _ _ ?_
          rename Fm _ _ _ _ _ _ _ => F
          have := h _ ⟨F.sm, F.kp⟩
          rwa [show lessB d e = false from by unfold lessB; rw [if_neg c, if_neg c1]; exact lessTo_false (by lia) _ hi] at this
        · refine @s_nil _ _ _ _ _ _ ?_
          with_reducible refine @then_next _ _ _ _ _ _ _ ?_
          refine @s_nil _ _ _ _ _ _ ?_
          with_reducible refine @lp_next _ _ _ ?_
          rename Fm _ _ _ _ _ _ _ => F
          exact ⟨_, [], ⟨rfl, rfl, by unfold lessTo; rw [hl]; simp; lia⟩, F.sub ⟨rfl, rfl, trivial⟩⟩
      · rintro s₅ l ob ⟨rfl, rfl, hl⟩ F
        with_reducible refine @then_next _ _ _ _ _ _ _ ?_
        refine @s_ret _ _ _ _ _ _ _ _ _ ?_
        refine @e_bool _ _ _ _ _ _ _ _ _ _ ?_
        with_reducible refine @retTo_ret _ _ _ ?_
        rename Fm _ _ _ _ _ _ _ => F
        have := h _ ⟨F.sm, F.kp⟩
        rwa [show lessB d e = true from by unfold lessB; rw [if_neg c, if_neg c1]; exact hl] at this
end Mine
end
section
open PySem PySem.W PyProof.Rows PySem.Calls
set_option maxRecDepth 100000
namespace Mine

noncomputable def fdOf (w : World) (f : Addr) : FuncData := match (KK w).lookup f with | some ⟨_, _, .func fd, _⟩ => fd | _ => default
def tokOf : Option Value → Tok
  | some (.int _ t) => t
  | _ => 0
def seqOf : Option Obj → Array Value
  | some o => (match o.data with | .seq items _ => items | _ => #[])
  | _ => #[]
def refOf : Value → Addr
  | .ref a => a
  | _ => 0
noncomputable def dflT (w : World) (f : Addr) : Tok := tokOf ((seqOf ((KK w).lookup (refOf (fdOf w f).defaults)))[0]?)
def bisR (g : Nat → Int) (x : Int) (lo hi : Nat) : Nat := if lo < hi then (if x < g ((lo + hi) / 2) then bisR g x lo ((lo + hi) / 2) else bisR g x ((lo + hi) / 2 + 1) hi) else lo
  termination_by hi - lo
def bisL (g : Nat → Int) (x : Int) (lo hi : Nat) : Nat := if lo < hi then (if g ((lo + hi) / 2) < x then bisL g x ((lo + hi) / 2 + 1) hi else bisL g x lo ((lo + hi) / 2)) else lo
  termination_by hi - lo
/-- kf is a function that tells f of the ints in xs, on every heap that bears h -/
structure KeyOk (prog : Program) (w : World) (h : Heap) (kf : Addr) (xs : List Int) (f : Int → Int) : Prop where
  fn : ∃ o fd, h.get? kf = some o ∧ o.data = .func fd
  call : ∀ A Q E s v t, Kp h s.heap → Rm A 6 → v ∈ xs → (∀ t' s', Gr s s' → Q (.int (f v) t') s') → wpAny (model prog w) A (call (.ref kf) [.int v t]) Q E s
theorem KeyOk.kp {prog : Program} {w : World} {h h' : Heap} {kf : Addr} {xs ys : List Int} {f : Int → Int} (k : KeyOk prog w h kf xs f) (g : Kp h h') (hs : ∀ x ∈ ys, x ∈ xs) : KeyOk prog w h' kf ys f :=
  ⟨let ⟨o, fd, a, b⟩ := k.fn; ⟨o, fd, g _ _ a, b⟩, fun A Q E s v t e R m => k.call A Q E s v t (g.trans e) R (hs v m)⟩

theorem getD_mem {ns : List Int} {i : Nat} (h : i < ns.length) : ns.getD i 0 ∈ ns := by
  rw [List.getD_eq_getElem?_getD, List.getElem?_eq_getElem h]; exact List.getElem_mem _
set_option maxHeartbeats 4000000 in
theorem bindR2 {w : World} {s : Shared} {a : Addr} {x : Int} {t : Tok} {kf : Value} (G : Gd (KK w) s.heap) :
    ∃ tl, BindsTo s (fdOf w 39) ⟨[.ref a, .int x t], [("key", kf)]⟩ [("a", .ref a), ("x", .int x t), ("lo", .int 0 tl), ("hi", .none), ("key", kf)] :=
  ⟨dflT w 39, binds_K G.k (by rfl) (by rfl) (by rfl) (by rfl) (by kernel_rfl)⟩
set_option maxHeartbeats 4000000 in
theorem bindR4 {w : World} {s : Shared} {a : Addr} {x : Int} {t tl : Tok} {kf : Value} (G : Gd (KK w) s.heap) :
    BindsTo s (fdOf w 39) ⟨[.ref a, .int x t, .int 0 tl, .none], [("key", kf)]⟩ [("a", .ref a), ("x", .int x t), ("lo", .int 0 tl), ("hi", .none), ("key", kf)] :=
  binds_K G.k (by rfl) (by rfl) (by rfl) (by rfl) (by kernel_rfl)

set_option maxHeartbeats 4000000 in
theorem bisR_key {w : World} {A : Around} {s : Shared} {a kf : Addr} {x : Int} {tx tl : Tok} {vs : Array Value} {ns : List Int} {f : Int → Int} {pos : List Value} {kw : List (Str × Value)} {Q E} (R : Rm A 8) (G : Gd (KK w) s.heap)
    (ha : s.heap.IsList a vs) (hI : IntsAre vs.toList ns) (hz : ns.length < 1000) (hk : KeyOk PP w s.heap kf ns f)
    (hb : BindsTo s (fdOf w 39) ⟨pos, kw⟩ [("a", .ref a), ("x", .int x tx), ("lo", .int 0 tl), ("hi", .none), ("key", .ref kf)])
    (h : ∀ t s', Gr s s' → Q (.int (bisR (fun i => f (ns.getD i 0)) x 0 ns.length) t) s') : wpAny (model PP w) A (call (.ref 39) pos kw) Q E s := by
  refine @call_fn _ _ _ _ _ _ [("a", .ref a), ("x", .int x tx), ("lo", .int 0 tl), ("hi", .none), ("key", .ref kf)] _ _ _ _ _ _ _ _ _ _ _ _ _ _ _ _ _ _ _ _ _ R G (by rfl) (by rfl) hb (by rfl) (by rfl) (fun L s₁ A' hL F R' => ?_) (by rfl) (by rfl) (by rfl)
  have hlen : vs.size = ns.length := by simpa using hI.length
  obtain ⟨fo, ffd, hf1, hf2⟩ := hk.fn
  have R6 : Rm A' 6 := R'.le (by lia)
  refine @s_if _ _ _ _ _ _ _ _ _ _ _ ?_
  refine wpAny_isTrue_Compare1 ?_ (by rfl)
  with_reducible rename Fm _ _ _ _ _ _ _ => F0
  refine @nm_local _ _ _ _ _ _ _ _ _ _ _ _ _ _ _ _ F0 (by rfl) (by rfl) ?_ (by rfl) (by rfl) (by decide)
  with_reducible rename Fm _ _ _ _ _ _ _ => F0
  refine @e_int _ _ _ _ _ _ _ _ _ _ _ _ _ _ _ _ F0 ?_
  clear F0
  intro _ _ _
  refine @c_lt _ _ _ _ _ _ _ _ _ _ ?_
  refine wpAny_truthy_bool ?_
  refine @ite_d _ _ _ _ (fun c => absurd c (by lia)) (fun _ => ?_)
  refine @s_nil _ _ _ _ _ _ ?_
  with_reducible refine @then_next _ _ _ _ _ _ _ ?_
  refine @s_if _ _ _ _ _ _ _ _ _ _ _ ?_
  refine wpAny_isTrue_Compare1 ?_ (by rfl)
  with_reducible rename Fm _ _ _ _ _ _ _ => F0
  refine @nm_local _ _ _ _ _ _ _ _ _ _ _ _ _ _ _ _ F0 (by rfl) (by rfl) ?_ (by rfl) (by rfl) (by decide)
  refine @e_none _ _ _ _ _ _ _ _ _ ?_
  refine @c_is_none _ _ _ _ _ _ _ (by rfl) ?_
  refine wpAny_truthy_bool ?_
  refine @ite_b _ _ _ (fun _ => ?_) (fun c => absurd c (by decide))
  refine @s_assign _ _ _ _ _ _ _ _ _ _ _ ?_ (by rfl)
  refine @e_call _ _ _ _ _ _ _ _ _ _ _ ?_
  with_reducible rename Fm _ _ _ _ _ _ _ => F0
  refine @nm_bi _ _ _ _ _ _ _ _ _ _ _ _ _ _ _ _ F0 (by rfl) (by rfl) (by exact bb_len) ?_ (by rfl) (by rfl) (by rfl) (by decide) (by decide)
  refine @cw_bi1 _ _ _ _ _ _ _ _ _ _ ?_ (by rfl)
  with_reducible rename Fm _ _ _ _ _ _ _ => F0
  refine @nm_local _ _ _ _ _ _ _ _ _ _ _ _ _ _ _ _ F0 (by rfl) (by rfl) ?_ (by rfl) (by rfl) (by decide)
  rename Fm _ _ _ _ _ _ _ => F
  have kp := F.kp
  refine @b_len_list _ _ _ _ _ _ _ _ _ _ _ _ _ _ F (let ⟨o, ho, r⟩ := ha; ⟨o, kp _ _ ho, r⟩) (by lia) (fun _ _ F => ?_)
  rw [hlen]
  with_reducible rename Fm _ _ _ _ _ _ _ => F0
  refine @st_local _ _ _ _ _ _ _ _ _ _ _ _ _ _ _ F0 (by rfl) ?_ (by rfl) (by rfl)
  clear F0
  intro _ _
  refine @s_nil _ _ _ _ _ _ ?_
  with_reducible refine @then_next _ _ _ _ _ _ _ ?_
  refine @s_if _ _ _ _ _ _ _ _ _ _ _ ?_
  refine wpAny_isTrue_Compare1 ?_ (by rfl)
  with_reducible rename Fm _ _ _ _ _ _ _ => F0
  refine @nm_local _ _ _ _ _ _ _ _ _ _ _ _ _ _ _ _ F0 (by rfl) (by rfl) ?_ (by rfl) (by rfl) (by decide)
  refine @e_none _ _ _ _ _ _ _ _ _ ?_
  refine @c_is_none _ _ _ _ _ _ _ (by rfl) ?_
  refine wpAny_truthy_bool ?_
  refine @ite_b _ _ _ (fun c => absurd c (by simp)) (fun _ => ?_)
  refine @s_whileR _ _ _ _ _ _ _ _ _ _ _ ?_
  rename Fm _ _ _ _ _ _ _ => F
  replace F := F.sub (l' := [("a", .ref a), ("x", .int x tx), ("key", .ref kf), ("lo", .int 0 tl), ("hi", .int ns.length _)]) ⟨rfl, rfl, rfl, rfl, rfl, trivial⟩
  refine @while_inv _ _ _ _ _ _ _ _ _ _ _ _ _ _ ns.length F (fun n l ob => ob = [] ∧ ∃ (lo hi : Nat) (t1 t2 : Tok), n = hi - lo ∧ lo ≤ hi ∧ hi ≤ ns.length ∧ l = ([("a", .ref a), ("x", .int x tx), ("key", .ref kf), ("lo", .int lo t1), ("hi", .int hi t2)] : Ls) ∧
    bisR (fun i => f (ns.getD i 0)) x lo hi = bisR (fun i => f (ns.getD i 0)) x 0 ns.length) ⟨rfl, 0, ns.length, tl, _, rfl, Nat.zero_le _, Nat.le_refl _, rfl, rfl⟩ ?_
  rintro n s₂ l ob ⟨rfl, lo, hi, t1, t2, rfl, h1, h2, rfl, he⟩ F
  refine wpAny_isTrue_Compare1 ?_ (by rfl)
  with_reducible rename Fm _ _ _ _ _ _ _ => F0
  refine @nm_local _ _ _ _ _ _ _ _ _ _ _ _ _ _ _ _ F0 (by rfl) (by rfl) ?_ (by rfl) (by rfl) (by decide)
  with_reducible rename Fm _ _ _ _ _ _ _ => F0
  refine @nm_local _ _ _ _ _ _ _ _ _ _ _ _ _ _ _ _ F0 (by rfl) (by rfl) ?_ (by rfl) (by rfl) (by decide)
  refine @c_lt _ _ _ _ _ _ _ _ _ _ ?_
  refine wpAny_truthy_bool ?_
  refine @ite_d _ _ _ _ (fun c => ?_) (fun c => ?_)
  · refine @s_assign _ _ _ _ _ _ _ _ _ _ _ ?_ (by rfl)
    refine wpAny_BinOp ?_
    refine wpAny_BinOp ?_
    with_reducible rename Fm _ _ _ _ _ _ _ => F0
    refine @nm_local _ _ _ _ _ _ _ _ _ _ _ _ _ _ _ _ F0 (by rfl) (by rfl) ?_ (by rfl) (by rfl) (by decide)
    with_reducible rename Fm _ _ _ _ _ _ _ => F0
    refine @nm_local _ _ _ _ _ _ _ _ _ _ _ _ _ _ _ _ F0 (by rfl) (by rfl) ?_ (by rfl) (by rfl) (by decide)
    with_reducible rename Fm _ _ _ _ _ _ _ => F0
    refine @o_add _ _ _ _ _ _ _ _ _ _ _ _ _ _ _ _ F0 ?_
    clear F0
    intro _ _ _
    with_reducible rename Fm _ _ _ _ _ _ _ => F0
    refine @e_int _ _ _ _ _ _ _ _ _ _ _ _ _ _ _ _ F0 ?_
    clear F0
    intro _ _ _
    rename Fm _ _ _ _ _ _ _ => F
    refine @o_div _ _ _ _ _ _ _ _ _ _ _ _ _ _ _ _ F (by lia) (PyProof.noPylong_small (by lia)) fun _ _ F => ?_
    have hmid : ((lo : Int) + (hi : Int)) / 2 = (((lo + hi) / 2 : Nat) : Int) := by lia
    rw [hmid]
    rw [bisR, if_pos (by lia : lo < hi)] at he
    have hml : (lo + hi) / 2 < ns.length := by lia
    generalize hm : (lo + hi) / 2 = mid at he hml
    with_reducible rename Fm _ _ _ _ _ _ _ => F0
    refine @st_local _ _ _ _ _ _ _ _ _ _ _ _ _ _ _ F0 (by rfl) ?_ (by rfl) (by rfl)
    clear F0
    intro _ _
    refine @s_if _ _ _ _ _ _ _ _ _ _ _ ?_
    refine wpAny_isTrue_Compare1 ?_ (by rfl)
    with_reducible rename Fm _ _ _ _ _ _ _ => F0
    refine @nm_local _ _ _ _ _ _ _ _ _ _ _ _ _ _ _ _ F0 (by rfl) (by rfl) ?_ (by rfl) (by rfl) (by decide)
    refine @e_call _ _ _ _ _ _ _ _ _ _ _ ?_
    with_reducible rename Fm _ _ _ _ _ _ _ => F0
    refine @nm_local _ _ _ _ _ _ _ _ _ _ _ _ _ _ _ _ F0 (by rfl) (by rfl) ?_ (by rfl) (by rfl) (by decide)
    refine @cw_fn1 _ _ _ _ _ _ _ _ _ (fo) (ffd) _ ?_ (by rfl)
    refine Subscript_ ?_
    with_reducible rename Fm _ _ _ _ _ _ _ => F0
    refine @nm_local _ _ _ _ _ _ _ _ _ _ _ _ _ _ _ _ F0 (by rfl) (by rfl) ?_ (by rfl) (by rfl) (by decide)
    with_reducible rename Fm _ _ _ _ _ _ _ => F0
    refine @nm_local _ _ _ _ _ _ _ _ _ _ _ _ _ _ _ _ F0 (by rfl) (by rfl) ?_ (by rfl) (by rfl) (by decide)
    rename Fm _ _ _ _ _ _ _ => F
    have kp := F.kp
    obtain ⟨u', hx⟩ := hI.get mid (ns.getD mid 0) (by rw [List.getD_eq_getElem?_getD, List.getElem?_eq_getElem hml]; rfl)
    refine @sub_list _ _ _ _ _ _ _ _ _ _ _ _ _ (let ⟨o, ho, r⟩ := ha; ⟨o, kp _ _ ho, r⟩) (by lia) (by lia) (by rw [show ((mid : Int)).toNat = mid from rfl, ← Array.getElem?_toList]; exact hx) ?_ (by with_unfolding_all rfl)
    refine ⟨⟨kp _ _ hf1, hf2⟩, hk.call _ _ _ _ _ _ kp R6 (getD_mem hml) fun _ s₄ g => ?_⟩
    replace F := F.gr g
    refine @c_lt _ _ _ _ _ _ _ _ _ _ ?_
    refine wpAny_truthy_bool ?_
    refine @ite_d _ _ _ _ (fun c2 => ?_) (fun c2 => ?_)
    · refine @s_assign _ _ _ _ _ _ _ _ _ _ _ ?_ (by rfl)
      with_reducible rename Fm _ _ _ _ _ _ _ => F0
      refine @nm_local _ _ _ _ _ _ _ _ _ _ _ _ _ _ _ _ F0 (by rfl) (by rfl) ?_ (by rfl) (by rfl) (by decide)
      with_reducible rename Fm _ _ _ _ _ _ _ => F0
      refine @st_local _ _ _ _ _ _ _ _ _ _ _ _ _ _ _ F0 (by rfl) ?_ (by rfl) (by rfl)
      clear F0
      intro _ _
      refine @s_nil _ _ _ _ _ _ ?_
      with_reducible refine @then_next _ _ _ _ _ _ _ ?_
      refine @s_nil _ _ _ _ _ _ ?_
      with_reducible refine @lp_next _ _ _ ?_
      rename Fm _ _ _ _ _ _ _ => F
      rw [if_pos c2] at he
      exact ⟨mid - lo, _, [], by lia, ⟨rfl, lo, mid, _, _, rfl, by lia, by lia, rfl, he⟩, F.sub ⟨rfl, rfl, rfl, rfl, rfl, trivial⟩⟩
    · refine @s_assign _ _ _ _ _ _ _ _ _ _ _ ?_ (by rfl)
      refine wpAny_BinOp ?_
      with_reducible rename Fm _ _ _ _ _ _ _ => F0
      refine @nm_local _ _ _ _ _ _ _ _ _ _ _ _ _ _ _ _ F0 (by rfl) (by rfl) ?_ (by rfl) (by rfl) (by decide)
      with_reducible rename Fm _ _ _ _ _ _ _ => F0
      refine @e_int _ _ _ _ _ _ _ _ _ _ _ _ _ _ _ _ F0 ?_
      clear F0
      intro _ _ _
      with_reducible rename Fm _ _ _ _ _ _ _ => F0
      refine @o_add _ _ _ _ _ _ _ _ _ _ _ _ _ _ _ _ F0 ?_
      clear F0
      intro _ _ _
      with_reducible rename Fm _ _ _ _ _ _ _ => F0
      refine @st_local _ _ _ _ _ _ _ _ _ _ _ _ _ _ _ F0 (by rfl) ?_ (by rfl) (by rfl)
      clear F0
      intro _ _
      refine @s_nil _ _ _ _ _ _ ?_
      with_reducible refine @then_next _ _ _ _ _ _ _ ?_
      refine @s_nil _ _ _ _ _ _ ?_
      with_reducible refine @lp_next _ _ _ ?_
      rename Fm _ _ _ _ _ _ _ => F
      rw [if_neg c2] at he
      exact ⟨hi - (mid + 1), _, [], by lia, ⟨rfl, mid + 1, hi, _, _, rfl, by lia, by omega, rfl, he⟩, F.sub ⟨rfl, rfl, rfl, rfl, rfl, trivial⟩⟩
  · with_reducible refine @then_next _ _ _ _ _ _ _ ?_
    refine @s_nil _ _ _ _ _ _ ?_
    with_reducible refine @then_next _ _ _ _ _ _ _ ?_
    refine @s_ret _ _ _ _ _ _ _ _ _ ?_
    with_reducible rename Fm _ _ _ _ _ _ _ => F0
    refine @nm_local _ _ _ _ _ _ _ _ _ _ _ _ _ _ _ _ F0 (by rfl) (by rfl) ?_ (by rfl) (by rfl) (by decide)
    with_reducible refine @retTo_ret _ _ _ ?_
    rename Fm _ _ _ _ _ _ _ => F
    rw [bisR, if_neg (by lia : ¬ lo < hi)] at he
    rw [he]
    exact h _ _ ⟨F.sm, F.kp⟩
end Mine
end
section
open PySem PySem.W PyProof.Rows PySem.Calls
set_option maxRecDepth 100000
namespace Mine

set_option maxHeartbeats 4000000 in
theorem bindL2 {w : World} {s : Shared} {a : Addr} {x : Int} {t : Tok} {kf : Value} (G : Gd (KK w) s.heap) :
    ∃ tl, BindsTo s (fdOf w 57) ⟨[.ref a, .int x t], [("key", kf)]⟩ [("a", .ref a), ("x", .int x t), ("lo", .int 0 tl), ("hi", .none), ("key", kf)] :=
  ⟨dflT w 57, binds_K G.k (by rfl) (by rfl) (by rfl) (by rfl) (by kernel_rfl)⟩
set_option maxHeartbeats 4000000 in
theorem bindL4 {w : World} {s : Shared} {a : Addr} {x : Int} {t tl : Tok} {kf : Value} (G : Gd (KK w) s.heap) :
    BindsTo s (fdOf w 57) ⟨[.ref a, .int x t, .int 0 tl, .none], [("key", kf)]⟩ [("a", .ref a), ("x", .int x t), ("lo", .int 0 tl), ("hi", .none), ("key", kf)] :=
  binds_K G.k (by rfl) (by rfl) (by rfl) (by rfl) (by kernel_rfl)

set_option maxHeartbeats 4000000 in
theorem bisL_key {w : World} {A : Around} {s : Shared} {a kf : Addr} {x : Int} {tx tl : Tok} {vs : Array Value} {ns : List Int} {f : Int → Int} {pos : List Value} {kw : List (Str × Value)} {Q E} (R : Rm A 8) (G : Gd (KK w) s.heap)
    (ha : s.heap.IsList a vs) (hI : IntsAre vs.toList ns) (hz : ns.length < 1000) (hk : KeyOk PP w s.heap kf ns f)
    (hb : BindsTo s (fdOf w 57) ⟨pos, kw⟩ [("a", .ref a), ("x", .int x tx), ("lo", .int 0 tl), ("hi", .none), ("key", .ref kf)])
    (h : ∀ t s', Gr s s' → Q (.int (bisL (fun i => f (ns.getD i 0)) x 0 ns.length) t) s') : wpAny (model PP w) A (call (.ref 57) pos kw) Q E s := by
  refine @call_fn _ _ _ _ _ _ [("a", .ref a), ("x", .int x tx), ("lo", .int 0 tl), ("hi", .none), ("key", .ref kf)] _ _ _ _ _ _ _ _ _ _ _ _ _ _ _ _ _ _ _ _ _ R G (by rfl) (by rfl) hb (by rfl) (by rfl) (fun L s₁ A' hL F R' => ?_) (by rfl) (by rfl) (by rfl)
  have hlen : vs.size = ns.length := by simpa using hI.length
  obtain ⟨fo, ffd, hf1, hf2⟩ := hk.fn
  have R6 : Rm A' 6 := R'.le (by lia)
  refine @s_if _ _ _ _ _ _ _ _ _ _ _ ?_
  refine wpAny_isTrue_Compare1 ?_ (by rfl)
  with_reducible rename Fm _ _ _ _ _ _ _ => F0
  refine @nm_local _ _ _ _ _ _ _ _ _ _ _ _ _ _ _ _ F0 (by rfl) (by rfl) ?_ (by rfl) (by rfl) (by decide)
  with_reducible rename Fm _ _ _ _ _ _ _ => F0
  refine @e_int _ _ _ _ _ _ _ _ _ _ _ _ _ _ _ _ F0 ?_
  clear F0
  intro _ _ _
  refine @c_lt _ _ _ _ _ _ _ _ _ _ ?_
  refine wpAny_truthy_bool ?_
  refine @ite_d _ _ _ _ (fun c => absurd c (by lia)) (fun _ => ?_)
  refine @s_nil _ _ _ _ _ _ ?_
  with_reducible refine @then_next _ _ _ _ _ _ _ ?_
  refine @s_if _ _ _ _ _ _ _ _ _ _ _ ?_
  refine wpAny_isTrue_Compare1 ?_ (by rfl)
  with_reducible rename Fm _ _ _ _ _ _ _ => F0
  refine @nm_local _ _ _ _ _ _ _ _ _ _ _ _ _ _ _ _ F0 (by rfl) (by rfl) ?_ (by rfl) (by rfl) (by decide)
  refine @e_none _ _ _ _ _ _ _ _ _ ?_
  refine @c_is_none _ _ _ _ _ _ _ (by rfl) ?_
  refine wpAny_truthy_bool ?_
  refine @ite_b _ _ _ (fun _ => ?_) (fun c => absurd c (by decide))
  refine @s_assign _ _ _ _ _ _ _ _ _ _ _ ?_ (by rfl)
  refine @e_call _ _ _ _ _ _ _ _ _ _ _ ?_
  with_reducible rename Fm _ _ _ _ _ _ _ => F0
  refine @nm_bi _ _ _ _ _ _ _ _ _ _ _ _ _ _ _ _ F0 (by rfl) (by rfl) (by exact bb_len) ?_ (by rfl) (by rfl) (by rfl) (by decide) (by decide)
  refine @cw_bi1 _ _ _ _ _ _ _ _ _ _ ?_ (by rfl)
  with_reducible rename Fm _ _ _ _ _ _ _ => F0
  refine @nm_local _ _ _ _ _ _ _ _ _ _ _ _ _ _ _ _ F0 (by rfl) (by rfl) ?_ (by rfl) (by rfl) (by decide)
  rename Fm _ _ _ _ _ _ _ => F
  have kp := F.kp
  refine @b_len_list _ _ _ _ _ _ _ _ _ _ _ _ _ _ F (let ⟨o, ho, r⟩ := ha; ⟨o, kp _ _ ho, r⟩) (by lia) (fun _ _ F => ?_)
  rw [hlen]
  with_reducible rename Fm _ _ _ _ _ _ _ => F0
  refine @st_local _ _ _ _ _ _ _ _ _ _ _ _ _ _ _ F0 (by rfl) ?_ (by rfl) (by rfl)
  clear F0
  intro _ _
  refine @s_nil _ _ _ _ _ _ ?_
  with_reducible refine @then_next _ _ _ _ _ _ _ ?_
  refine @s_if _ _ _ _ _ _ _ _ _ _ _ ?_
  refine wpAny_isTrue_Compare1 ?_ (by rfl)
  with_reducible rename Fm _ _ _ _ _ _ _ => F0
  refine @nm_local _ _ _ _ _ _ _ _ _ _ _ _ _ _ _ _ F0 (by rfl) (by rfl) ?_ (by rfl) (by rfl) (by decide)
  refine @e_none _ _ _ _ _ _ _ _ _ ?_
  refine @c_is_none _ _ _ _ _ _ _ (by rfl) ?_
  refine wpAny_truthy_bool ?_
  refine @ite_b _ _ _ (fun c => absurd c (by simp)) (fun _ => ?_)
  refine @s_whileR _ _ _ _ _ _ _ _ _ _ _ ?_
  rename Fm _ _ _ _ _ _ _ => F
  replace F := F.sub (l' := [("a", .ref a), ("x", .int x tx), ("key", .ref kf), ("lo", .int 0 tl), ("hi", .int ns.length _)]) ⟨rfl, rfl, rfl, rfl, rfl, trivial⟩
  refine @while_inv _ _ _ _ _ _ _ _ _ _ _ _ _ _ ns.length F (fun n l ob => ob = [] ∧ ∃ (lo hi : Nat) (t1 t2 : Tok), n = hi - lo ∧ lo ≤ hi ∧ hi ≤ ns.length ∧ l = ([("a", .ref a), ("x", .int x tx), ("key", .ref kf), ("lo", .int lo t1), ("hi", .int hi t2)] : Ls) ∧
    bisL (fun i => f (ns.getD i 0)) x lo hi = bisL (fun i => f (ns.getD i 0)) x 0 ns.length) ⟨rfl, 0, ns.length, tl, _, rfl, Nat.zero_le _, Nat.le_refl _, rfl, rfl⟩ ?_
  rintro n s₂ l ob ⟨rfl, lo, hi, t1, t2, rfl, h1, h2, rfl, he⟩ F
  refine wpAny_isTrue_Compare1 ?_ (by rfl)
  with_reducible rename Fm _ _ _ _ _ _ _ => F0
  refine @nm_local _ _ _ _ _ _ _ _ _ _ _ _ _ _ _ _ F0 (by rfl) (by rfl) ?_ (by rfl) (by rfl) (by decide)
  with_reducible rename Fm _ _ _ _ _ _ _ => F0
  refine @nm_local _ _ _ _ _ _ _ _ _ _ _ _ _ _ _ _ F0 (by rfl) (by rfl) ?_ (by rfl) (by rfl) (by decide)
  refine @c_lt _ _ _ _ _ _ _ _ _ _ ?_
  refine wpAny_truthy_bool ?_
  refine @ite_d _ _ _ _ (fun c => ?_) (fun c => ?_)
  · refine @s_assign _ _ _ _ _ _ _ _ _ _ _ ?_ (by rfl)
    refine wpAny_BinOp ?_
    refine wpAny_BinOp ?_
    with_reducible rename Fm _ _ _ _ _ _ _ => F0
    refine @nm_local _ _ _ _ _ _ _ _ _ _ _ _ _ _ _ _ F0 (by rfl) (by rfl) ?_ (by rfl) (by rfl) (by decide)
    with_reducible rename Fm _ _ _ _ _ _ _ => F0
    refine @nm_local _ _ _ _ _ _ _ _ _ _ _ _ _ _ _ _ F0 (by rfl) (by rfl) ?_ (by rfl) (by rfl) (by decide)
    with_reducible rename Fm _ _ _ _ _ _ _ => F0
    refine @o_add _ _ _ _ _ _ _ _ _ _ _ _ _ _ _ _ F0 ?_
    clear F0
    intro _ _ _
    with_reducible rename Fm _ _ _ _ _ _ _ => F0
    refine @e_int _ _ _ _ _ _ _ _ _ _ _ _ _ _ _ _ F0 ?_
    clear F0
    intro _ _ _
    rename Fm _ _ _ _ _ _ _ => F
    refine @o_div _ _ _ _ _ _ _ _ _ _ _ _ _ _ _ _ F (by lia) (PyProof.noPylong_small (by lia)) fun _ _ F => ?_
    have hmid : ((lo : Int) + (hi : Int)) / 2 = (((lo + hi) / 2 : Nat) : Int) := by lia
    rw [hmid]
    rw [bisL, if_pos (by lia : lo < hi)] at he
    have hml : (lo + hi) / 2 < ns.length := by lia
    generalize hm : (lo + hi) / 2 = mid at he hml
    with_reducible rename Fm _ _ _ _ _ _ _ => F0
    refine @st_local _ _ _ _ _ _ _ _ _ _ _ _ _ _ _ F0 (by rfl) ?_ (by rfl) (by rfl)
    clear F0
    intro _ _
    refine @s_if _ _ _ _ _ _ _ _ _ _ _ ?_
    refine wpAny_isTrue_Compare1 ?_ (by rfl)
    refine @e_call _ _ _ _ _ _ _ _ _ _ _ ?_
    with_reducible rename Fm _ _ _ _ _ _ _ => F0
    refine @nm_local _ _ _ _ _ _ _ _ _ _ _ _ _ _ _ _ F0 (by rfl) (by rfl) ?_ (by rfl) (by rfl) (by decide)
    refine @cw_fn1 _ _ _ _ _ _ _ _ _ (fo) (ffd) _ ?_ (by rfl)
    refine Subscript_ ?_
    with_reducible rename Fm _ _ _ _ _ _ _ => F0
    refine @nm_local _ _ _ _ _ _ _ _ _ _ _ _ _ _ _ _ F0 (by rfl) (by rfl) ?_ (by rfl) (by rfl) (by decide)
    with_reducible rename Fm _ _ _ _ _ _ _ => F0
    refine @nm_local _ _ _ _ _ _ _ _ _ _ _ _ _ _ _ _ F0 (by rfl) (by rfl) ?_ (by rfl) (by rfl) (by decide)
    rename Fm _ _ _ _ _ _ _ => F
    have kp := F.kp
    obtain ⟨u', hx⟩ := hI.get mid (ns.getD mid 0) (by rw [List.getD_eq_getElem?_getD, List.getElem?_eq_getElem hml]; rfl)
    refine @sub_list _ _ _ _ _ _ _ _ _ _ _ _ _ (let ⟨o, ho, r⟩ := ha; ⟨o, kp _ _ ho, r⟩) (by lia) (by lia) (by rw [show ((mid : Int)).toNat = mid from rfl, ← Array.getElem?_toList]; exact hx) ?_ (by with_unfolding_all rfl)
    refine ⟨⟨kp _ _ hf1, hf2⟩, hk.call _ _ _ _ _ _ kp R6 (getD_mem hml) fun _ s₄ g => ?_⟩
    replace F := F.gr g
    with_reducible rename Fm _ _ _ _ _ _ _ => F0
    refine @nm_local _ _ _ _ _ _ _ _ _ _ _ _ _ _ _ _ F0 (by rfl) (by rfl) ?_ (by rfl) (by rfl) (by decide)
    refine @c_lt _ _ _ _ _ _ _ _ _ _ ?_
    refine wpAny_truthy_bool ?_
    refine @ite_d _ _ _ _ (fun c2 => ?_) (fun c2 => ?_)
    · refine @s_assign _ _ _ _ _ _ _ _ _ _ _ ?_ (by rfl)
      refine wpAny_BinOp ?_
      with_reducible rename Fm _ _ _ _ _ _ _ => F0
      refine @nm_local _ _ _ _ _ _ _ _ _ _ _ _ _ _ _ _ F0 (by rfl) (by rfl) ?_ (by rfl) (by rfl) (by decide)
      with_reducible rename Fm _ _ _ _ _ _ _ => F0
      refine @e_int _ _ _ _ _ _ _ _ _ _ _ _ _ _ _ _ F0 ?_
      clear F0
      intro _ _ _
      with_reducible rename Fm _ _ _ _ _ _ _ => F0
      refine @o_add _ _ _ _ _ _ _ _ _ _ _ _ _ _ _ _ F0 ?_
      clear F0
      intro _ _ _
      with_reducible rename Fm _ _ _ _ _ _ _ => F0
      refine @st_local _ _ _ _ _ _ _ _ _ _ _ _ _ _ _ F0 (by rfl) ?_ (by rfl) (by rfl)
      clear F0
      intro _ _
      refine @s_nil _ _ _ _ _ _ ?_
      with_reducible refine @then_next _ _ _ _ _ _ _ ?_
      refine @s_nil _ _ _ _ _ _ ?_
      with_reducible refine @lp_next _ _ _ ?_
      rename Fm _ _ _ _ _ _ _ => F
      rw [if_pos c2] at he
      exact ⟨hi - (mid + 1), _, [], by lia, ⟨rfl, mid + 1, hi, _, _, rfl, by lia, by omega, rfl, he⟩, F.sub ⟨rfl, rfl, rfl, rfl, rfl, trivial⟩⟩
    · refine @s_assign _ _ _ _ _ _ _ _ _ _ _ ?_ (by rfl)
      with_reducible rename Fm _ _ _ _ _ _ _ => F0
      refine @nm_local _ _ _ _ _ _ _ _ _ _ _ _ _ _ _ _ F0 (by rfl) (by rfl) ?_ (by rfl) (by rfl) (by decide)
      with_reducible rename Fm _ _ _ _ _ _ _ => F0
      refine @st_local _ _ _ _ _ _ _ _ _ _ _ _ _ _ _ F0 (by rfl) ?_ (by rfl) (by rfl)
      clear F0
      intro _ _
      refine @s_nil _ _ _ _ _ _ ?_
      with_reducible refine @then_next _ _ _ _ _ _ _ ?_
      refine @s_nil _ _ _ _ _ _ ?_
      with_reducible refine @lp_next _ _ _ ?_
      rename Fm _ _ _ _ _ _ _ => F
      rw [if_neg c2] at he
      exact ⟨mid - lo, _, [], by lia, ⟨rfl, lo, mid, _, _, rfl, by lia, by lia, rfl, he⟩, F.sub ⟨rfl, rfl, rfl, rfl, rfl, trivial⟩⟩
  · with_reducible refine @then_next _ _ _ _ _ _ _ ?_
    refine @s_nil _ _ _ _ _ _ ?_
    with_reducible refine @then_next _ _ _ _ _ _ _ ?_
    refine @s_ret _ _ _ _ _ _ _ _ _ ?_
    with_reducible rename Fm _ _ _ _ _ _ _ => F0
    refine @nm_local _ _ _ _ _ _ _ _ _ _ _ _ _ _ _ _ F0 (by rfl) (by rfl) ?_ (by rfl) (by rfl) (by decide)
    with_reducible refine @retTo_ret _ _ _ ?_
    rename Fm _ _ _ _ _ _ _ => F
    rw [bisL, if_neg (by lia : ¬ lo < hi)] at he
    rw [he]
    exact h _ _ ⟨F.sm, F.kp⟩
end Mine
end
section
open PySem PySem.W PyProof.Rows PySem.Calls
set_option maxRecDepth 100000
namespace Mine

theorem binds_K2 {K : Frag} {s : Shared} {fd : FuncData} {args : Args} {binds : List (Str × Value)} {T D : Addr} {o od : Obj} {items : Array Value} {n : Nat} {part : Option Value} {k : Option (Array Value) → Sem (List (Str × Value))} {k3 : Obj → Sem (List (Str × Value))}
    (X : K.In s.heap) (hd : fd.defaults = .ref T) (ho : K.lookup T = some o) (hs : o.data = .seq items n) (_hkd : fd.kwdefaults = .ref D) (hD : K.lookup D = some od)
    (h₁ : bindArgs fd args = seqItems? fd.defaults >>= k) (h₂ : k (some items) = Sem.load D part k3) (h₃ : k3 od = pure binds) : BindsTo s fd args binds := fun M A E Q hq => by
  rw [h₁, hd]
  refine wpAny_bind (wpAny_seqItems (X _ _ ho) hs ?_)
  rw [h₂]
  intro Γ p hΓ
  rw [Sem.wp_load]
  exact ⟨od, X _ _ hD, by rw [h₃]; exact hq⟩
set_option maxHeartbeats 4000000 in
theorem bindR0 {w : World} {s : Shared} {a : Addr} {x : Int} {t : Tok} (G : Gd (KK w) s.heap) :
    ∃ tl, BindsTo s (fdOf w 39) ⟨[.ref a, .int x t], []⟩ [("a", .ref a), ("x", .int x t), ("lo", .int 0 tl), ("hi", .none), ("key", .none)] :=
  ⟨dflT w 39, binds_K2 G.k (by rfl) (by rfl) (by rfl) (by rfl) (by rfl) (by rfl) (by rfl) (by kernel_rfl)⟩
set_option maxHeartbeats 4000000 in
theorem bindL0 {w : World} {s : Shared} {a : Addr} {x : Int} {t : Tok} (G : Gd (KK w) s.heap) :
    ∃ tl, BindsTo s (fdOf w 57) ⟨[.ref a, .int x t], []⟩ [("a", .ref a), ("x", .int x t), ("lo", .int 0 tl), ("hi", .none), ("key", .none)] :=
  ⟨dflT w 57, binds_K2 G.k (by rfl) (by rfl) (by rfl) (by rfl) (by rfl) (by rfl) (by rfl) (by kernel_rfl)⟩
set_option maxHeartbeats 4000000 in
theorem bisR_nok {w : World} {A : Around} {s : Shared} {a : Addr} {x : Int} {tx tl : Tok} {vs : Array Value} {ns : List Int} {pos : List Value} {kw : List (Str × Value)} {Q E} (R : Rm A 8) (G : Gd (KK w) s.heap)
    (ha : s.heap.IsList a vs) (hI : IntsAre vs.toList ns) (hz : ns.length < 1000)
    (hb : BindsTo s (fdOf w 39) ⟨pos, kw⟩ [("a", .ref a), ("x", .int x tx), ("lo", .int 0 tl), ("hi", .none), ("key", .none)])
    (h : ∀ t s', Gr s s' → Q (.int (bisR (fun i => ns.getD i 0) x 0 ns.length) t) s') : wpAny (model PP w) A (call (.ref 39) pos kw) Q E s := by
  refine @call_fn _ _ _ _ _ _ [("a", .ref a), ("x", .int x tx), ("lo", .int 0 tl), ("hi", .none), ("key", .none)] _ _ _ _ _ _ _ _ _ _ _ _ _ _ _ _ _ _ _ _ _ R G (by rfl) (by rfl) hb (by rfl) (by rfl) (fun L s₁ A' hL F R' => ?_) (by rfl) (by rfl) (by rfl)
  have hlen : vs.size = ns.length := by simpa using hI.length
  have R6 : Rm A' 6 := R'.le (by lia)
  refine @s_if _ _ _ _ _ _ _ _ _ _ _ ?_
  refine wpAny_isTrue_Compare1 ?_ (by rfl)
  with_reducible rename Fm _ _ _ _ _ _ _ => F0
  refine @nm_local _ _ _ _ _ _ _ _ _ _ _ _ _ _ _ _ F0 (by rfl) (by rfl) ?_ (by rfl) (by rfl) (by decide)
  with_reducible rename Fm _ _ _ _ _ _ _ => F0
  refine @e_int _ _ _ _ _ _ _ _ _ _ _ _ _ _ _ _ F0 ?_
  clear F0
  intro _ _ _
  refine @c_lt _ _ _ _ _ _ _ _ _ _ ?_
  refine wpAny_truthy_bool ?_
  refine @ite_d _ _ _ _ (fun c => absurd c (by lia)) (fun _ => ?_)
  refine @s_nil _ _ _ _ _ _ ?_
  with_reducible refine @then_next _ _ _ _ _ _ _ ?_
  refine @s_if _ _ _ _ _ _ _ _ _ _ _ ?_
  refine wpAny_isTrue_Compare1 ?_ (by rfl)
  with_reducible rename Fm _ _ _ _ _ _ _ => F0
  refine @nm_local _ _ _ _ _ _ _ _ _ _ _ _ _ _ _ _ F0 (by rfl) (by rfl) ?_ (by rfl) (by rfl) (by decide)
  refine @e_none _ _ _ _ _ _ _ _ _ ?_
  refine @c_is_none _ _ _ _ _ _ _ (by rfl) ?_
  refine wpAny_truthy_bool ?_
  refine @ite_b _ _ _ (fun _ => ?_) (fun c => absurd c (by decide))
  refine @s_assign _ _ _ _ _ _ _ _ _ _ _ ?_ (by rfl)
  refine @e_call _ _ _ _ _ _ _ _ _ _ _ ?_
  with_reducible rename Fm _ _ _ _ _ _ _ => F0
  refine @nm_bi _ _ _ _ _ _ _ _ _ _ _ _ _ _ _ _ F0 (by rfl) (by rfl) (by exact bb_len) ?_ (by rfl) (by rfl) (by rfl) (by decide) (by decide)
  refine @cw_bi1 _ _ _ _ _ _ _ _ _ _ ?_ (by rfl)
  with_reducible rename Fm _ _ _ _ _ _ _ => F0
  refine @nm_local _ _ _ _ _ _ _ _ _ _ _ _ _ _ _ _ F0 (by rfl) (by rfl) ?_ (by rfl) (by rfl) (by decide)
  rename Fm _ _ _ _ _ _ _ => F
  have kp := F.kp
  refine @b_len_list _ _ _ _ _ _ _ _ _ _ _ _ _ _ F (let ⟨o, ho, r⟩ := ha; ⟨o, kp _ _ ho, r⟩) (by lia) (fun _ _ F => ?_)
  rw [hlen]
  with_reducible rename Fm _ _ _ _ _ _ _ => F0
  refine @st_local _ _ _ _ _ _ _ _ _ _ _ _ _ _ _ F0 (by rfl) ?_ (by rfl) (by rfl)
  clear F0
  intro _ _
  refine @s_nil _ _ _ _ _ _ ?_
  with_reducible refine @then_next _ _ _ _ _ _ _ ?_
  refine @s_if _ _ _ _ _ _ _ _ _ _ _ ?_
  refine wpAny_isTrue_Compare1 ?_ (by rfl)
  with_reducible rename Fm _ _ _ _ _ _ _ => F0
  refine @nm_local _ _ _ _ _ _ _ _ _ _ _ _ _ _ _ _ F0 (by rfl) (by rfl) ?_ (by rfl) (by rfl) (by decide)
  refine @e_none _ _ _ _ _ _ _ _ _ ?_
  refine @c_is_none _ _ _ _ _ _ _ (by rfl) ?_
  refine wpAny_truthy_bool ?_
  refine @ite_b _ _ _ (fun _ => ?_) (fun c => absurd c (by decide))
  refine @s_whileR _ _ _ _ _ _ _ _ _ _ _ ?_
  rename Fm _ _ _ _ _ _ _ => F
  replace F := F.sub (l' := [("a", .ref a), ("x", .int x tx), ("key", .none), ("lo", .int 0 tl), ("hi", .int ns.length _)]) ⟨rfl, rfl, rfl, rfl, rfl, trivial⟩
  refine @while_inv _ _ _ _ _ _ _ _ _ _ _ _ _ _ ns.length F (fun n l ob => ob = [] ∧ ∃ (lo hi : Nat) (t1 t2 : Tok), n = hi - lo ∧ lo ≤ hi ∧ hi ≤ ns.length ∧ l = ([("a", .ref a), ("x", .int x tx), ("key", .none), ("lo", .int lo t1), ("hi", .int hi t2)] : Ls) ∧
    bisR (fun i => ns.getD i 0) x lo hi = bisR (fun i => ns.getD i 0) x 0 ns.length) ⟨rfl, 0, ns.length, tl, _, rfl, Nat.zero_le _, Nat.le_refl _, rfl, rfl⟩ ?_
  rintro n s₂ l ob ⟨rfl, lo, hi, t1, t2, rfl, h1, h2, rfl, he⟩ F
  refine wpAny_isTrue_Compare1 ?_ (by rfl)
  with_reducible rename Fm _ _ _ _ _ _ _ => F0
  refine @nm_local _ _ _ _ _ _ _ _ _ _ _ _ _ _ _ _ F0 (by rfl) (by rfl) ?_ (by rfl) (by rfl) (by decide)
  with_reducible rename Fm _ _ _ _ _ _ _ => F0
  refine @nm_local _ _ _ _ _ _ _ _ _ _ _ _ _ _ _ _ F0 (by rfl) (by rfl) ?_ (by rfl) (by rfl) (by decide)
  refine @c_lt _ _ _ _ _ _ _ _ _ _ ?_
  refine wpAny_truthy_bool ?_
  refine @ite_d _ _ _ _ (fun c => ?_) (fun c => ?_)
  · refine @s_assign _ _ _ _ _ _ _ _ _ _ _ ?_ (by rfl)
    refine wpAny_BinOp ?_
    refine wpAny_BinOp ?_
    with_reducible rename Fm _ _ _ _ _ _ _ => F0
    refine @nm_local _ _ _ _ _ _ _ _ _ _ _ _ _ _ _ _ F0 (by rfl) (by rfl) ?_ (by rfl) (by rfl) (by decide)
    with_reducible rename Fm _ _ _ _ _ _ _ => F0
    refine @nm_local _ _ _ _ _ _ _ _ _ _ _ _ _ _ _ _ F0 (by rfl) (by rfl) ?_ (by rfl) (by rfl) (by decide)
    with_reducible rename Fm _ _ _ _ _ _ _ => F0
    refine @o_add _ _ _ _ _ _ _ _ _ _ _ _ _ _ _ _ F0 ?_
    clear F0
    intro _ _ _
    with_reducible rename Fm _ _ _ _ _ _ _ => F0
    refine @e_int _ _ _ _ _ _ _ _ _ _ _ _ _ _ _ _ F0 ?_
    clear F0
    intro _ _ _
    rename Fm _ _ _ _ _ _ _ => F
    refine @o_div _ _ _ _ _ _ _ _ _ _ _ _ _ _ _ _ F (by lia) (PyProof.noPylong_small (by lia)) fun _ _ F => ?_
    have hmid : ((lo : Int) + (hi : Int)) / 2 = (((lo + hi) / 2 : Nat) : Int) := by lia
    rw [hmid]
    rw [bisR, if_pos (by lia : lo < hi)] at he
    have hml : (lo + hi) / 2 < ns.length := by lia
    generalize hm : (lo + hi) / 2 = mid at he hml
    with_reducible rename Fm _ _ _ _ _ _ _ => F0
    refine @st_local _ _ _ _ _ _ _ _ _ _ _ _ _ _ _ F0 (by rfl) ?_ (by rfl) (by rfl)
    clear F0
    intro _ _
    refine @s_if _ _ _ _ _ _ _ _ _ _ _ ?_
    refine wpAny_isTrue_Compare1 ?_ (by rfl)
    with_reducible rename Fm _ _ _ _ _ _ _ => F0
    refine @nm_local _ _ _ _ _ _ _ _ _ _ _ _ _ _ _ _ F0 (by rfl) (by rfl) ?_ (by rfl) (by rfl) (by decide)
    refine Subscript_ ?_
    with_reducible rename Fm _ _ _ _ _ _ _ => F0
    refine @nm_local _ _ _ _ _ _ _ _ _ _ _ _ _ _ _ _ F0 (by rfl) (by rfl) ?_ (by rfl) (by rfl) (by decide)
    with_reducible rename Fm _ _ _ _ _ _ _ => F0
    refine @nm_local _ _ _ _ _ _ _ _ _ _ _ _ _ _ _ _ F0 (by rfl) (by rfl) ?_ (by rfl) (by rfl) (by decide)
    rename Fm _ _ _ _ _ _ _ => F
    have kp := F.kp
    obtain ⟨u', hx⟩ := hI.get mid (ns.getD mid 0) (by rw [List.getD_eq_getElem?_getD, List.getElem?_eq_getElem hml]; rfl)
    refine @sub_list _ _ _ _ _ _ _ _ _ _ _ _ _ (let ⟨o, ho, r⟩ := ha; ⟨o, kp _ _ ho, r⟩) (by lia) (by lia) (by rw [show ((mid : Int)).toNat = mid from rfl, ← Array.getElem?_toList]; exact hx) ?_ (by with_unfolding_all rfl)
    refine @c_lt _ _ _ _ _ _ _ _ _ _ ?_
    refine wpAny_truthy_bool ?_
    refine @ite_d _ _ _ _ (fun c2 => ?_) (fun c2 => ?_)
    · refine @s_assign _ _ _ _ _ _ _ _ _ _ _ ?_ (by rfl)
      with_reducible rename Fm _ _ _ _ _ _ _ => F0
      refine @nm_local _ _ _ _ _ _ _ _ _ _ _ _ _ _ _ _ F0 (by rfl) (by rfl) ?_ (by rfl) (by rfl) (by decide)
      with_reducible rename Fm _ _ _ _ _ _ _ => F0
      refine @st_local _ _ _ _ _ _ _ _ _ _ _ _ _ _ _ F0 (by rfl) ?_ (by rfl) (by rfl)
      clear F0
      intro _ _
      refine @s_nil _ _ _ _ _ _ ?_
      with_reducible refine @then_next _ _ _ _ _ _ _ ?_
      refine @s_nil _ _ _ _ _ _ ?_
      with_reducible refine @lp_next _ _ _ ?_
      rename Fm _ _ _ _ _ _ _ => F
      rw [if_pos c2] at he
      exact ⟨mid - lo, _, [], by lia, ⟨rfl, lo, mid, _, _, rfl, by lia, by lia, rfl, he⟩, F.sub ⟨rfl, rfl, rfl, rfl, rfl, trivial⟩⟩
    · refine @s_assign _ _ _ _ _ _ _ _ _ _ _ ?_ (by rfl)
      refine wpAny_BinOp ?_
      with_reducible rename Fm _ _ _ _ _ _ _ => F0
      refine @nm_local _ _ _ _ _ _ _ _ _ _ _ _ _ _ _ _ F0 (by rfl) (by rfl) ?_ (by rfl) (by rfl) (by decide)
      with_reducible rename Fm _ _ _ _ _ _ _ => F0
      refine @e_int _ _ _ _ _ _ _ _ _ _ _ _ _ _ _ _ F0 ?_
      clear F0
      intro _ _ _
      with_reducible rename Fm _ _ _ _ _ _ _ => F0
      refine @o_add _ _ _ _ _ _ _ _ _ _ _ _ _ _ _ _ F0 ?_
      clear F0
      intro _ _ _
      with_reducible rename Fm _ _ _ _ _ _ _ => F0
      refine @st_local _ _ _ _ _ _ _ _ _ _ _ _ _ _ _ F0 (by rfl) ?_ (by rfl) (by rfl)
      clear F0
      intro _ _
      refine @s_nil _ _ _ _ _ _ ?_
      with_reducible refine @then_next _ _ _ _ _ _ _ ?_
      refine @s_nil _ _ _ _ _ _ ?_
      with_reducible refine @lp_next _ _ _ ?_
      rename Fm _ _ _ _ _ _ _ => F
      rw [if_neg c2] at he
      exact ⟨hi - (mid + 1), _, [], by lia, ⟨rfl, mid + 1, hi, _, _, rfl, by lia, by omega, rfl, he⟩, F.sub ⟨rfl, rfl, rfl, rfl, rfl, trivial⟩⟩
  · with_reducible refine @then_next _ _ _ _ _ _ _ ?_
    refine @s_nil _ _ _ _ _ _ ?_
    with_reducible refine @then_next _ _ _ _ _ _ _ ?_
    refine @s_ret _ _ _ _ _ _ _ _ _ ?_
    with_reducible rename Fm _ _ _ _ _ _ _ => F0
    refine @nm_local _ _ _ _ _ _ _ _ _ _ _ _ _ _ _ _ F0 (by rfl) (by rfl) ?_ (by rfl) (by rfl) (by decide)
    with_reducible refine @retTo_ret _ _ _ ?_
    rename Fm _ _ _ _ _ _ _ => F
    rw [bisR, if_neg (by lia : ¬ lo < hi)] at he
    rw [he]
    exact h _ _ ⟨F.sm, F.kp⟩
set_option maxHeartbeats 4000000 in
theorem bisL_nok {w : World} {A : Around} {s : Shared} {a : Addr} {x : Int} {tx tl : Tok} {vs : Array Value} {ns : List Int} {pos : List Value} {kw : List (Str × Value)} {Q E} (R : Rm A 8) (G : Gd (KK w) s.heap)
    (ha : s.heap.IsList a vs) (hI : IntsAre vs.toList ns) (hz : ns.length < 1000)
    (hb : BindsTo s (fdOf w 57) ⟨pos, kw⟩ [("a", .ref a), ("x", .int x tx), ("lo", .int 0 tl), ("hi", .none), ("key", .none)])
    (h : ∀ t s', Gr s s' → Q (.int (bisL (fun i => ns.getD i 0) x 0 ns.length) t) s') : wpAny (model PP w) A (call (.ref 57) pos kw) Q E s := by
  refine @call_fn _ _ _ _ _ _ [("a", .ref a), ("x", .int x tx), ("lo", .int 0 tl), ("hi", .none), ("key", .none)] _ _ _ _ _ _ _ _ _ _ _ _ _ _ _ _ _ _ _ _ _ R G (by rfl) (by rfl) hb (by rfl) (by rfl) (fun L s₁ A' hL F R' => ?_) (by rfl) (by rfl) (by rfl)
  have hlen : vs.size = ns.length := by simpa using hI.length
  have R6 : Rm A' 6 := R'.le (by lia)
  refine @s_if _ _ _ _ _ _ _ _ _ _ _ ?_
  refine wpAny_isTrue_Compare1 ?_ (by rfl)
  with_reducible rename Fm _ _ _ _ _ _ _ => F0
  refine @nm_local _ _ _ _ _ _ _ _ _ _ _ _ _ _ _ _ F0 (by rfl) (by rfl) ?_ (by rfl) (by rfl) (by decide)
  with_reducible rename Fm _ _ _ _ _ _ _ => F0
  refine @e_int _ _ _ _ _ _ _ _ _ _ _ _ _ _ _ _ F0 ?_
  clear F0
  intro _ _ _
  refine @c_lt _ _ _ _ _ _ _ _ _ _ ?_
  refine wpAny_truthy_bool ?_
  refine @ite_d _ _ _ _ (fun c => absurd c (by lia)) (fun _ => ?_)
  refine @s_nil _ _ _ _ _ _ ?_
  with_reducible refine @then_next _ _ _ _ _ _ _ ?_
  refine @s_if _ _ _ _ _ _ _ _ _ _ _ ?_
  refine wpAny_isTrue_Compare1 ?_ (by rfl)
  with_reducible rename Fm _ _ _ _ _ _ _ => F0
  refine @nm_local _ _ _ _ _ _ _ _ _ _ _ _ _ _ _ _ F0 (by rfl) (by rfl) ?_ (by rfl) (by rfl) (by decide)
  refine @e_none _ _ _ _ _ _ _ _ _ ?_
  refine @c_is_none _ _ _ _ _ _ _ (by rfl) ?_
  refine wpAny_truthy_bool ?_
  refine @ite_b _ _ _ (fun _ => ?_) (fun c => absurd c (by decide))
  refine @s_assign _ _ _ _ _ _ _ _ _ _ _ ?_ (by rfl)
  refine @e_call _ _ _ _ _ _ _ _ _ _ _ ?_
  with_reducible rename Fm _ _ _ _ _ _ _ => F0
  refine @nm_bi _ _ _ _ _ _ _ _ _ _ _ _ _ _ _ _ F0 (by rfl) (by rfl) (by exact bb_len) ?_ (by rfl) (by rfl) (by rfl) (by decide) (by decide)
  refine @cw_bi1 _ _ _ _ _ _ _ _ _ _ ?_ (by rfl)
  with_reducible rename Fm _ _ _ _ _ _ _ => F0
  refine @nm_local _ _ _ _ _ _ _ _ _ _ _ _ _ _ _ _ F0 (by rfl) (by rfl) ?_ (by rfl) (by rfl) (by decide)
  rename Fm _ _ _ _ _ _ _ => F
  have kp := F.kp
  refine @b_len_list _ _ _ _ _ _ _ _ _ _ _ _ _ _ F (let ⟨o, ho, r⟩ := ha; ⟨o, kp _ _ ho, r⟩) (by lia) (fun _ _ F => ?_)
  rw [hlen]
  with_reducible rename Fm _ _ _ _ _ _ _ => F0
  refine @st_local _ _ _ _ _ _ _ _ _ _ _ _ _ _ _ F0 (by rfl) ?_ (by rfl) (by rfl)
  clear F0
  intro _ _
  refine @s_nil _ _ _ _ _ _ ?_
  with_reducible refine @then_next _ _ _ _ _ _ _ ?_
  refine @s_if _ _ _ _ _ _ _ _ _ _ _ ?_
  refine wpAny_isTrue_Compare1 ?_ (by rfl)
  with_reducible rename Fm _ _ _ _ _ _ _ => F0
  refine @nm_local _ _ _ _ _ _ _ _ _ _ _ _ _ _ _ _ F0 (by rfl) (by rfl) ?_ (by rfl) (by rfl) (by decide)
  refine @e_none _ _ _ _ _ _ _ _ _ ?_
  refine @c_is_none _ _ _ _ _ _ _ (by rfl) ?_
  refine wpAny_truthy_bool ?_
  refine @ite_b _ _ _ (fun _ => ?_) (fun c => absurd c (by decide))
  refine @s_whileR _ _ _ _ _ _ _ _ _ _ _ ?_
  rename Fm _ _ _ _ _ _ _ => F
  replace F := F.sub (l' := [("a", .ref a), ("x", .int x tx), ("key", .none), ("lo", .int 0 tl), ("hi", .int ns.length _)]) ⟨rfl, rfl, rfl, rfl, rfl, trivial⟩
  refine @while_inv _ _ _ _ _ _ _ _ _ _ _ _ _ _ ns.length F (fun n l ob => ob = [] ∧ ∃ (lo hi : Nat) (t1 t2 : Tok), n = hi - lo ∧ lo ≤ hi ∧ hi ≤ ns.length ∧ l = ([("a", .ref a), ("x", .int x tx), ("key", .none), ("lo", .int lo t1), ("hi", .int hi t2)] : Ls) ∧
    bisL (fun i => ns.getD i 0) x lo hi = bisL (fun i => ns.getD i 0) x 0 ns.length) ⟨rfl, 0, ns.length, tl, _, rfl, Nat.zero_le _, Nat.le_refl _, rfl, rfl⟩ ?_
  rintro n s₂ l ob ⟨rfl, lo, hi, t1, t2, rfl, h1, h2, rfl, he⟩ F
  refine wpAny_isTrue_Compare1 ?_ (by rfl)
  with_reducible rename Fm _ _ _ _ _ _ _ => F0
  refine @nm_local _ _ _ _ _ _ _ _ _ _ _ _ _ _ _ _ F0 (by rfl) (by rfl) ?_ (by rfl) (by rfl) (by decide)
  with_reducible rename Fm _ _ _ _ _ _ _ => F0
  refine @nm_local _ _ _ _ _ _ _ _ _ _ _ _ _ _ _ _ F0 (by rfl) (by rfl) ?_ (by rfl) (by rfl) (by decide)
  refine @c_lt _ _ _ _ _ _ _ _ _ _ ?_
  refine wpAny_truthy_bool ?_
  refine @ite_d _ _ _ _ (fun c => ?_) (fun c => ?_)
  · refine @s_assign _ _ _ _ _ _ _ _ _ _ _ ?_ (by rfl)
    refine wpAny_BinOp ?_
    refine wpAny_BinOp ?_
    with_reducible rename Fm _ _ _ _ _ _ _ => F0
    refine @nm_local _ _ _ _ _ _ _ _ _ _ _ _ _ _ _ _ F0 (by rfl) (by rfl) ?_ (by rfl) (by rfl) (by decide)
    with_reducible rename Fm _ _ _ _ _ _ _ => F0
    refine @nm_local _ _ _ _ _ _ _ _ _ _ _ _ _ _ _ _ F0 (by rfl) (by rfl) ?_ (by rfl) (by rfl) (by decide)
    with_reducible rename Fm _ _ _ _ _ _ _ => F0
    refine @o_add _ _ _ _ _ _ _ _ _ _ _ _ _ _ _ _ F0 ?_
    clear F0
    intro _ _ _
    with_reducible rename Fm _ _ _ _ _ _ _ => F0
    refine @e_int _ _ _ _ _ _ _ _ _ _ _ _ _ _ _ _ F0 ?_
    clear F0
    intro _ _ _
    rename Fm _ _ _ _ _ _ _ => F
    refine @o_div _ _ _ _ _ _ _ _ _ _ _ _ _ _ _ _ F (by lia) (PyProof.noPylong_small (by lia)) fun _ _ F => ?_
    have hmid : ((lo : Int) + (hi : Int)) / 2 = (((lo + hi) / 2 : Nat) : Int) := by lia
    rw [hmid]
    rw [bisL, if_pos (by lia : lo < hi)] at he
    have hml : (lo + hi) / 2 < ns.length := by lia
    generalize hm : (lo + hi) / 2 = mid at he hml
    with_reducible rename Fm _ _ _ _ _ _ _ => F0
    refine @st_local _ _ _ _ _ _ _ _ _ _ _ _ _ _ _ F0 (by rfl) ?_ (by rfl) (by rfl)
    clear F0
    intro _ _
    refine @s_if _ _ _ _ _ _ _ _ _ _ _ ?_
    refine wpAny_isTrue_Compare1 ?_ (by rfl)
    refine Subscript_ ?_
    with_reducible rename Fm _ _ _ _ _ _ _ => F0
    refine @nm_local _ _ _ _ _ _ _ _ _ _ _ _ _ _ _ _ F0 (by rfl) (by rfl) ?_ (by rfl) (by rfl) (by decide)
    with_reducible rename Fm _ _ _ _ _ _ _ => F0
    refine @nm_local _ _ _ _ _ _ _ _ _ _ _ _ _ _ _ _ F0 (by rfl) (by rfl) ?_ (by rfl) (by rfl) (by decide)
    rename Fm _ _ _ _ _ _ _ => F
    have kp := F.kp
    obtain ⟨u', hx⟩ := hI.get mid (ns.getD mid 0) (by rw [List.getD_eq_getElem?_getD, List.getElem?_eq_getElem hml]; rfl)
    refine @sub_list _ _ _ _ _ _ _ _ _ _ _ _ _ (let ⟨o, ho, r⟩ := ha; ⟨o, kp _ _ ho, r⟩) (by lia) (by lia) (by rw [show ((mid : Int)).toNat = mid from rfl, ← Array.getElem?_toList]; exact hx) ?_ (by with_unfolding_all rfl)
    with_reducible rename Fm _ _ _ _ _ _ _ => F0
    refine @nm_local _ _ _ _ _ _ _ _ _ _ _ _ _ _ _ _ F0 (by rfl) (by rfl) ?_ (by rfl) (by rfl) (by decide)
    refine @c_lt _ _ _ _ _ _ _ _ _ _ ?_
    refine wpAny_truthy_bool ?_
    refine @ite_d _ _ _ _ (fun c2 => ?_) (fun c2 => ?_)
    · refine @s_assign _ _ _ _ _ _ _ _ _ _ _ ?_ (by rfl)
      refine wpAny_BinOp ?_
      with_reducible rename Fm _ _ _ _ _ _ _ => F0
      refine @nm_local _ _ _ _ _ _ _ _ _ _ _ _ _ _ _ _ F0 (by rfl) (by rfl) ?_ (by rfl) (by rfl) (by decide)
      with_reducible rename Fm _ _ _ _ _ _ _ => F0
      refine @e_int _ _ _ _ _ _ _ _ _ _ _ _ _ _ _ _ F0 ?_
      clear F0
      intro _ _ _
      with_reducible rename Fm _ _ _ _ _ _ _ => F0
      refine @o_add _ _ _ _ _ _ _ _ _ _ _ _ _ _ _ _ F0 ?_
      clear F0
      intro _ _ _
      with_reducible rename Fm _ _ _ _ _ _ _ => F0
      refine @st_local _ _ _ _ _ _ _ _ _ _ _ _ _ _ _ F0 (by rfl) ?_ (by rfl) (by rfl)
      clear F0
      intro _ _
      refine @s_nil _ _ _ _ _ _ ?_
      with_reducible refine @then_next _ _ _ _ _ _ _ ?_
      refine @s_nil _ _ _ _ _ _ ?_
      with_reducible refine @lp_next _ _ _ ?_
      rename Fm _ _ _ _ _ _ _ => F
      rw [if_pos c2] at he
      exact ⟨hi - (mid + 1), _, [], by lia, ⟨rfl, mid + 1, hi, _, _, rfl, by lia, by omega, rfl, he⟩, F.sub ⟨rfl, rfl, rfl, rfl, rfl, trivial⟩⟩
    · refine @s_assign _ _ _ _ _ _ _ _ _ _ _ ?_ (by rfl)
      with_reducible rename Fm _ _ _ _ _ _ _ => F0
      refine @nm_local _ _ _ _ _ _ _ _ _ _ _ _ _ _ _ _ F0 (by rfl) (by rfl) ?_ (by rfl) (by rfl) (by decide)
      with_reducible rename Fm _ _ _ _ _ _ _ => F0
      refine @st_local _ _ _ _ _ _ _ _ _ _ _ _ _ _ _ F0 (by rfl) ?_ (by rfl) (by rfl)
      clear F0
      intro _ _
      refine @s_nil _ _ _ _ _ _ ?_
      with_reducible refine @then_next _ _ _ _ _ _ _ ?_
      refine @s_nil _ _ _ _ _ _ ?_
      with_reducible refine @lp_next _ _ _ ?_
      rename Fm _ _ _ _ _ _ _ => F
      rw [if_neg c2] at he
      exact ⟨mid - lo, _, [], by lia, ⟨rfl, lo, mid, _, _, rfl, by lia, by lia, rfl, he⟩, F.sub ⟨rfl, rfl, rfl, rfl, rfl, trivial⟩⟩
  · with_reducible refine @then_next _ _ _ _ _ _ _ ?_
    refine @s_nil _ _ _ _ _ _ ?_
    with_reducible refine @then_next _ _ _ _ _ _ _ ?_
    refine @s_ret _ _ _ _ _ _ _ _ _ ?_
    with_reducible rename Fm _ _ _ _ _ _ _ => F0
    refine @nm_local _ _ _ _ _ _ _ _ _ _ _ _ _ _ _ _ F0 (by rfl) (by rfl) ?_ (by rfl) (by rfl) (by decide)
    with_reducible refine @retTo_ret _ _ _ ?_
    rename Fm _ _ _ _ _ _ _ => F
    rw [bisL, if_neg (by lia : ¬ lo < hi)] at he
    rw [he]
    exact h _ _ ⟨F.sm, F.kp⟩
end Mine
end
section
open PySem PySem.W PyProof.Rows PySem.Calls
set_option maxRecDepth 100000
namespace Mine
theorem kn_bisect_right (w : World) : nsIn (KK w) mainGlobals "bisect_right" = some (some (.ref 39)) := by kernel_rfl
theorem kn_bisect_left (w : World) : nsIn (KK w) mainGlobals "bisect_left" = some (some (.ref 57)) := by kernel_rfl
theorem kn_insort_right (w : World) : nsIn (KK w) mainGlobals "insort_right" = some (some (.ref 30)) := by kernel_rfl
theorem kn_insort_left (w : World) : nsIn (KK w) mainGlobals "insort_left" = some (some (.ref 48)) := by kernel_rfl
theorem kn_Whitespace (w : World) : nsIn (KK w) mainGlobals "Whitespace" = some (some (.ref 119)) := by kernel_rfl

theorem bisR_le (g : Nat → Int) (x : Int) (lo hi : Nat) (h : lo ≤ hi) : bisR g x lo hi ≤ hi := by
  induction hn : hi - lo using Nat.strongRecOn generalizing lo hi with
  | ind n ih =>
    rw [bisR]
    split
    · split
      · exact Nat.le_trans (ih ((lo + hi) / 2 - lo) (by lia) lo _ (by lia) rfl) (by lia)
      · exact ih (hi - ((lo + hi) / 2 + 1)) (by lia) _ hi (by lia) rfl
    · exact h
theorem bisL_le (g : Nat → Int) (x : Int) (lo hi : Nat) (h : lo ≤ hi) : bisL g x lo hi ≤ hi := by
  induction hn : hi - lo using Nat.strongRecOn generalizing lo hi with
  | ind n ih =>
    rw [bisL]
    split
    · split
      · exact ih (hi - ((lo + hi) / 2 + 1)) (by lia) _ hi (by lia) rfl
      · exact Nat.le_trans (ih ((lo + hi) / 2 - lo) (by lia) lo _ (by lia) rfl) (by lia)
    · exact h
set_option maxHeartbeats 4000000 in
theorem bindIR {w : World} {s : Shared} {a : Addr} {x : Int} {t : Tok} {kf : Value} (G : Gd (KK w) s.heap) :
    ∃ tl, BindsTo s (fdOf w 30) ⟨[.ref a, .int x t], [("key", kf)]⟩ [("a", .ref a), ("x", .int x t), ("lo", .int 0 tl), ("hi", .none), ("key", kf)] :=
  ⟨dflT w 30, binds_K G.k (by rfl) (by rfl) (by rfl) (by rfl) (by kernel_rfl)⟩
set_option maxHeartbeats 4000000 in
theorem insR_key {w : World} {A : Around} {s : Shared} {a kf : Addr} {x : Int} {tx : Tok} {vs : List Value} {n : Nat} {ns : List Int} {f : Int → Int} {Q E} (R : Rm A 10) (G : Gd (KK w) (s.heap.hide a))
    (ha : s.heap.get? a = some (lsO vs n)) (hI : IntsAre vs ns) (hz : ns.length < 900) (hk : KeyOk PP w (s.heap.hide a) kf (x :: ns) f)
    (h : ∀ s', Sm s s' → Kp (s.heap.hide a) s'.heap → s'.heap.get? a = some (lsO (insAt vs (bisR (fun i => f (ns.getD i 0)) (f x) 0 ns.length) (.int x tx)) (n + 1)) → Q .none s') :
    wpAny (model PP w) A (call (.ref 30) [.ref a, .int x tx] [("key", .ref kf)]) Q E s := by
  obtain ⟨tl, hb⟩ := bindIR (a := a) (x := x) (t := tx) (kf := .ref kf) (G.kp (fun b o e => Heap.of_hide e : Kp (s.heap.hide a) s.heap))
  refine @call_fnH _ _ _ _ _ _ [("a", .ref a), ("x", .int x tx), ("lo", .int 0 tl), ("hi", .none), ("key", .ref kf)] _ _ _ _ _ _ _ _ _ _ _ _ _ _ _ _ _ _ _ _ _ _ _ R G ha (by rfl) (by rfl) hb (by rfl) (by rfl) (fun L s₁ A' hL F R' => ?_) (by rfl) (by rfl) (by rfl)
  have hlen : vs.length = ns.length := by simpa using hI.length
  obtain ⟨fo, ffd, hf1, hf2⟩ := hk.fn
  have R6 : Rm A' 6 := R'.le (by lia)
  have R8 : Rm A' 8 := R'.le (by lia)
  refine @s_if _ _ _ _ _ _ _ _ _ _ _ ?_
  refine wpAny_isTrue_Compare1 ?_ (by rfl)
  with_reducible rename Fm _ _ _ _ _ _ _ => F0
  refine @nm_local _ _ _ _ _ _ _ _ _ _ _ _ _ _ _ _ F0 (by rfl) (by rfl) ?_ (by rfl) (by rfl) (by decide)
  refine @e_none _ _ _ _ _ _ _ _ _ ?_
  refine @c_is_none _ _ _ _ _ _ _ (by rfl) ?_
  refine wpAny_truthy_bool ?_
  refine @ite_b _ _ _ (fun c => absurd c (by simp)) (fun _ => ?_)
  refine @s_assign _ _ _ _ _ _ _ _ _ _ _ ?_ (by rfl)
  refine @e_callkw _ _ _ _ _ _ _ _ _ _ _ _ ?_
  with_reducible rename Fm _ _ _ _ _ _ _ => F0
  refine @nm_glob _ _ _ _ _ _ _ _ _ _ _ _ _ _ _ _ F0 (by rfl) (by exact kn_bisect_right _) ?_ (by rfl) (by rfl) (by decide)
  with_reducible rename Fm _ _ _ _ _ _ _ => F0
  refine @cw_KW _ _ _ _ _ _ _ _ _ _ _ _ _ _ _ _ (Fm.gdh F0) (by rfl) ?_ (by rfl) (by rfl)
  refine @sp_cons _ _ _ _ _ _ _ _ _ _ ?_ (by rfl)
  with_reducible rename Fm _ _ _ _ _ _ _ => F0
  refine @nm_local _ _ _ _ _ _ _ _ _ _ _ _ _ _ _ _ F0 (by rfl) (by rfl) ?_ (by rfl) (by rfl) (by decide)
  refine @sp_cons _ _ _ _ _ _ _ _ _ _ ?_ (by rfl)
  refine @e_call _ _ _ _ _ _ _ _ _ _ _ ?_
  with_reducible rename Fm _ _ _ _ _ _ _ => F0
  refine @nm_local _ _ _ _ _ _ _ _ _ _ _ _ _ _ _ _ F0 (by rfl) (by rfl) ?_ (by rfl) (by rfl) (by decide)
  refine @cw_fn1 _ _ _ _ _ _ _ _ _ (fo) (ffd) _ ?_ (by rfl)
  with_reducible rename Fm _ _ _ _ _ _ _ => F0
  refine @nm_local _ _ _ _ _ _ _ _ _ _ _ _ _ _ _ _ F0 (by rfl) (by rfl) ?_ (by rfl) (by rfl) (by decide)
  rename Fm _ _ _ _ _ _ _ => F
  refine ⟨⟨F.kp _ _ hf1, hf2⟩, hk.call _ _ _ _ _ _ F.kp R6 (.head _) fun _ s₄ g => ?_⟩
  replace F := F.gr g
  refine @sp_cons _ _ _ _ _ _ _ _ _ _ ?_ (by rfl)
  with_reducible rename Fm _ _ _ _ _ _ _ => F0
  refine @nm_local _ _ _ _ _ _ _ _ _ _ _ _ _ _ _ _ F0 (by rfl) (by rfl) ?_ (by rfl) (by rfl) (by decide)
  refine @sp_cons _ _ _ _ _ _ _ _ _ _ ?_ (by rfl)
  with_reducible rename Fm _ _ _ _ _ _ _ => F0
  refine @nm_local _ _ _ _ _ _ _ _ _ _ _ _ _ _ _ _ F0 (by rfl) (by rfl) ?_ (by rfl) (by rfl) (by decide)
  refine @sp_nil _ _ _ _ _ _ _ _ ?_
  with_reducible rename Fm _ _ _ _ _ _ _ => F0
  refine @nm_local _ _ _ _ _ _ _ _ _ _ _ _ _ _ _ _ F0 (by rfl) (by rfl) ?_ (by rfl) (by rfl) (by decide)
  with_reducible rename Fm _ _ _ _ _ _ _ => F0
  refine ⟨Fm.gdh F0, ?_⟩
  rename Fm _ _ _ _ _ _ _ => F
  refine @bisR_key _ _ _ _ _ _ _ _ _ _ _ _ _ _ _ R8 F.gdh ⟨_, F.get (.head _), rfl, n, rfl⟩ (by simpa using hI) (by lia) (hk.kp F.kp fun y hy => .tail _ hy) (bindR4 F.gdh) fun _ s₅ g => ?_
  replace F := F.gr g
  with_reducible rename Fm _ _ _ _ _ _ _ => F0
  refine @st_local _ _ _ _ _ _ _ _ _ _ _ _ _ _ _ F0 (by rfl) ?_ (by rfl) (by rfl)
  clear F0
  intro _ _
  refine @s_nil _ _ _ _ _ _ ?_
  with_reducible refine @then_next _ _ _ _ _ _ _ ?_
  refine @s_expr _ _ _ _ _ _ _ _ _ _ ?_ (by rfl) (by rfl)
  refine @e_meth _ _ _ _ _ _ _ _ _ _ _ _ ?_ (by rfl) (by rfl) (by rfl)
  with_reducible rename Fm _ _ _ _ _ _ _ => F0
  refine @nm_local _ _ _ _ _ _ _ _ _ _ _ _ _ _ _ _ F0 (by rfl) (by rfl) ?_ (by rfl) (by rfl) (by decide)
  rename Fm _ _ _ _ _ _ _ => F
  refine @gm_list _ _ _ _ _ _ _ _ _ _ _ _ (F.get (.head _)) PySem.F.slot_list_insert PySem.F.type_list_insert ?_
  refine @cwb_M2 _ _ _ _ _ _ _ _ _ _ _ _ ?_ (by rfl)
  with_reducible rename Fm _ _ _ _ _ _ _ => F0
  refine @nm_local _ _ _ _ _ _ _ _ _ _ _ _ _ _ _ _ F0 (by rfl) (by rfl) ?_ (by rfl) (by rfl) (by decide)
  with_reducible rename Fm _ _ _ _ _ _ _ => F0
  refine @nm_local _ _ _ _ _ _ _ _ _ _ _ _ _ _ _ _ F0 (by rfl) (by rfl) ?_ (by rfl) (by rfl) (by decide)
  rename Fm _ _ _ _ _ _ _ => F
  have hle := bisR_le (fun i => f (ns.getD i 0)) (f x) 0 ns.length (Nat.zero_le _)
  refine @m_insert _ _ _ _ _ _ _ _ _ _ _ _ _ _ _ _ _ _ _ F (by lia) (by lia) (by rw [sizeLine_eq]; lia) (.head _) fun s₆ F => ?_
  refine @s_nil _ _ _ _ _ _ ?_
  with_reducible refine @retTo_next _ _ ?_
  rename Fm _ _ _ _ _ _ _ => F
  exact h _ F.sm F.kp (F.get (.head _))
set_option maxHeartbeats 4000000 in
theorem bindIL {w : World} {s : Shared} {a : Addr} {x : Int} {t : Tok} {kf : Value} (G : Gd (KK w) s.heap) :
    ∃ tl, BindsTo s (fdOf w 48) ⟨[.ref a, .int x t], [("key", kf)]⟩ [("a", .ref a), ("x", .int x t), ("lo", .int 0 tl), ("hi", .none), ("key", kf)] :=
  ⟨dflT w 48, binds_K G.k (by rfl) (by rfl) (by rfl) (by rfl) (by kernel_rfl)⟩
set_option maxHeartbeats 4000000 in
theorem insL_key {w : World} {A : Around} {s : Shared} {a kf : Addr} {x : Int} {tx : Tok} {vs : List Value} {n : Nat} {ns : List Int} {f : Int → Int} {Q E} (R : Rm A 10) (G : Gd (KK w) (s.heap.hide a))
    (ha : s.heap.get? a = some (lsO vs n)) (hI : IntsAre vs ns) (hz : ns.length < 900) (hk : KeyOk PP w (s.heap.hide a) kf (x :: ns) f)
    (h : ∀ s', Sm s s' → Kp (s.heap.hide a) s'.heap → s'.heap.get? a = some (lsO (insAt vs (bisL (fun i => f (ns.getD i 0)) (f x) 0 ns.length) (.int x tx)) (n + 1)) → Q .none s') :
    wpAny (model PP w) A (call (.ref 48) [.ref a, .int x tx] [("key", .ref kf)]) Q E s := by
  obtain ⟨tl, hb⟩ := bindIL (a := a) (x := x) (t := tx) (kf := .ref kf) (G.kp (fun b o e => Heap.of_hide e : Kp (s.heap.hide a) s.heap))
  refine @call_fnH _ _ _ _ _ _ [("a", .ref a), ("x", .int x tx), ("lo", .int 0 tl), ("hi", .none), ("key", .ref kf)] _ _ _ _ _ _ _ _ _ _ _ _ _ _ _ _ _ _ _ _ _ _ _ R G ha (by rfl) (by rfl) hb (by rfl) (by rfl) (fun L s₁ A' hL F R' => ?_) (by rfl) (by rfl) (by rfl)
  have hlen : vs.length = ns.length := by simpa using hI.length
  obtain ⟨fo, ffd, hf1, hf2⟩ := hk.fn
  have R6 : Rm A' 6 := R'.le (by lia)
  have R8 : Rm A' 8 := R'.le (by lia)
  refine @s_if _ _ _ _ _ _ _ _ _ _ _ ?_
  refine wpAny_isTrue_Compare1 ?_ (by rfl)
  with_reducible rename Fm _ _ _ _ _ _ _ => F0
  refine @nm_local _ _ _ _ _ _ _ _ _ _ _ _ _ _ _ _ F0 (by rfl) (by rfl) ?_ (by rfl) (by rfl) (by decide)
  refine @e_none _ _ _ _ _ _ _ _ _ ?_
  refine @c_is_none _ _ _ _ _ _ _ (by rfl) ?_
  refine wpAny_truthy_bool ?_
  refine @ite_b _ _ _ (fun c => absurd c (by simp)) (fun _ => ?_)
  refine @s_assign _ _ _ _ _ _ _ _ _ _ _ ?_ (by rfl)
  refine @e_callkw _ _ _ _ _ _ _ _ _ _ _ _ ?_
  with_reducible rename Fm _ _ _ _ _ _ _ => F0
  refine @nm_glob _ _ _ _ _ _ _ _ _ _ _ _ _ _ _ _ F0 (by rfl) (by exact kn_bisect_left _) ?_ (by rfl) (by rfl) (by decide)
  with_reducible rename Fm _ _ _ _ _ _ _ => F0
  refine @cw_KW _ _ _ _ _ _ _ _ _ _ _ _ _ _ _ _ (Fm.gdh F0) (by rfl) ?_ (by rfl) (by rfl)
  refine @sp_cons _ _ _ _ _ _ _ _ _ _ ?_ (by rfl)
  with_reducible rename Fm _ _ _ _ _ _ _ => F0
  refine @nm_local _ _ _ _ _ _ _ _ _ _ _ _ _ _ _ _ F0 (by rfl) (by rfl) ?_ (by rfl) (by rfl) (by decide)
  refine @sp_cons _ _ _ _ _ _ _ _ _ _ ?_ (by rfl)
  refine @e_call _ _ _ _ _ _ _ _ _ _ _ ?_
  with_reducible rename Fm _ _ _ _ _ _ _ => F0
  refine @nm_local _ _ _ _ _ _ _ _ _ _ _ _ _ _ _ _ F0 (by rfl) (by rfl) ?_ (by rfl) (by rfl) (by decide)
  refine @cw_fn1 _ _ _ _ _ _ _ _ _ (fo) (ffd) _ ?_ (by rfl)
  with_reducible rename Fm _ _ _ _ _ _ _ => F0
  refine @nm_local _ _ _ _ _ _ _ _ _ _ _ _ _ _ _ _ F0 (by rfl) (by rfl) ?_ (by rfl) (by rfl) (by decide)
  rename Fm _ _ _ _ _ _ _ => F
  refine ⟨⟨F.kp _ _ hf1, hf2⟩, hk.call _ _ _ _ _ _ F.kp R6 (.head _) fun _ s₄ g => ?_⟩
  replace F := F.gr g
  refine @sp_cons _ _ _ _ _ _ _ _ _ _ ?_ (by rfl)
  with_reducible rename Fm _ _ _ _ _ _ _ => F0
  refine @nm_local _ _ _ _ _ _ _ _ _ _ _ _ _ _ _ _ F0 (by rfl) (by rfl) ?_ (by rfl) (by rfl) (by decide)
  refine @sp_cons _ _ _ _ _ _ _ _ _ _ ?_ (by rfl)
  with_reducible rename Fm _ _ _ _ _ _ _ => F0
  refine @nm_local _ _ _ _ _ _ _ _ _ _ _ _ _ _ _ _ F0 (by rfl) (by rfl) ?_ (by rfl) (by rfl) (by decide)
  refine @sp_nil _ _ _ _ _ _ _ _ ?_
  with_reducible rename Fm _ _ _ _ _ _ _ => F0
  refine @nm_local _ _ _ _ _ _ _ _ _ _ _ _ _ _ _ _ F0 (by rfl) (by rfl) ?_ (by rfl) (by rfl) (by decide)
  with_reducible rename Fm _ _ _ _ _ _ _ => F0
  refine ⟨Fm.gdh F0, ?_⟩
  rename Fm _ _ _ _ _ _ _ => F
  refine @bisL_key _ _ _ _ _ _ _ _ _ _ _ _ _ _ _ R8 F.gdh ⟨_, F.get (.head _), rfl, n, rfl⟩ (by simpa using hI) (by lia) (hk.kp F.kp fun y hy => .tail _ hy) (bindL4 F.gdh) fun _ s₅ g => ?_
  replace F := F.gr g
  with_reducible rename Fm _ _ _ _ _ _ _ => F0
  refine @st_local _ _ _ _ _ _ _ _ _ _ _ _ _ _ _ F0 (by rfl) ?_ (by rfl) (by rfl)
  clear F0
  intro _ _
  refine @s_nil _ _ _ _ _ _ ?_
  with_reducible refine @then_next _ _ _ _ _ _ _ ?_
  refine @s_expr _ _ _ _ _ _ _ _ _ _ ?_ (by rfl) (by rfl)
  refine @e_meth _ _ _ _ _ _ _ _ _ _ _ _ ?_ (by rfl) (by rfl) (by rfl)
  with_reducible rename Fm _ _ _ _ _ _ _ => F0
  refine @nm_local _ _ _ _ _ _ _ _ _ _ _ _ _ _ _ _ F0 (by rfl) (by rfl) ?_ (by rfl) (by rfl) (by decide)
  rename Fm _ _ _ _ _ _ _ => F
  refine @gm_list _ _ _ _ _ _ _ _ _ _ _ _ (F.get (.head _)) PySem.F.slot_list_insert PySem.F.type_list_insert ?_
  refine @cwb_M2 _ _ _ _ _ _ _ _ _ _ _ _ ?_ (by rfl)
  with_reducible rename Fm _ _ _ _ _ _ _ => F0
  refine @nm_local _ _ _ _ _ _ _ _ _ _ _ _ _ _ _ _ F0 (by rfl) (by rfl) ?_ (by rfl) (by rfl) (by decide)
  with_reducible rename Fm _ _ _ _ _ _ _ => F0
  refine @nm_local _ _ _ _ _ _ _ _ _ _ _ _ _ _ _ _ F0 (by rfl) (by rfl) ?_ (by rfl) (by rfl) (by decide)
  rename Fm _ _ _ _ _ _ _ => F
  have hle := bisL_le (fun i => f (ns.getD i 0)) (f x) 0 ns.length (Nat.zero_le _)
  refine @m_insert _ _ _ _ _ _ _ _ _ _ _ _ _ _ _ _ _ _ _ F (by lia) (by lia) (by rw [sizeLine_eq]; lia) (.head _) fun s₆ F => ?_
  refine @s_nil _ _ _ _ _ _ ?_
  with_reducible refine @retTo_next _ _ ?_
  rename Fm _ _ _ _ _ _ _ => F
  exact h _ F.sm F.kp (F.get (.head _))
end Mine
end
section
open PySem PySem.W PyProof.Rows PySem.Calls
set_option maxRecDepth 100000
namespace Mine

structure Sc where
  cnt : List Int
  b : Nat
  n : Nat
  nt : Nat
def padTo (cnt : List Int) (b : Nat) : List Int := if cnt.length ≤ b then cnt ++ List.replicate (b - cnt.length + 1) 0 else cnt
def bump (cnt : List Int) (b : Nat) : List Int := (padTo cnt b).set b ((padTo cnt b).getD b 0 + 1)
def scan : List Nat → Sc → Sc
  | [], st => st
  | c :: r, st => if c = 32 then scan r { st with b := st.b + 1, n := st.n + 1 } else if c = 9 then scan r { cnt := bump st.cnt st.b, b := 0, n := st.n + 1, nt := st.nt + 1 } else st
def Sc.lead (st : Sc) : Lead := ⟨st.n, st.nt, st.b, st.cnt⟩
def leadOf (x : Str) : Lead := (scan x.cps.toList ⟨[], 0, 0, 0⟩).lead
theorem padTo_len (cnt : List Int) (b : Nat) : b < (padTo cnt b).length ∧ (padTo cnt b).length ≤ max cnt.length (b + 1) := by
  unfold padTo; split
  · simp; lia
  · lia
theorem bump_len (cnt : List Int) (b : Nat) : (bump cnt b).length ≤ max cnt.length (b + 1) := by
  unfold bump; rw [List.length_set]; exact (padTo_len cnt b).2
theorem scan_bd : ∀ (l : List Nat) (st : Sc) (N : Nat), st.b + l.length ≤ N → st.cnt.length + l.length ≤ N → (scan l st).b ≤ N ∧ (scan l st).cnt.length ≤ N
  | [], st, N, h1, h2 => ⟨by simpa [scan] using h1, by simpa [scan] using h2⟩
  | c :: r, st, N, h1, h2 => by
    unfold scan
    simp only [List.length_cons] at h1 h2
    split
    · exact scan_bd r _ N (by simp; lia) (by simp; lia)
    · split
      · have := bump_len st.cnt st.b
        exact scan_bd r _ N (by simp; lia) (by simp; lia)
      · exact ⟨by lia, by lia⟩

theorem mk1 (w : World) : makesIn (KK w) 119 = true := by kernel_rfl
theorem mk2 (w : World) : findIn (KK w) (.ref 119) "__init__" = some (some (.ref 74)) := by kernel_rfl
theorem mk3 (w : World) : typeIn (KK w) (.ref 74) = some (.type "function") := by kernel_rfl
theorem mk4 (w : World) : findIn (KK w) (.ref 119) "__setattr__" = some (some (.builtin "object.__setattr__")) := by kernel_rfl
theorem mk5 (w : World) : plainOver (KK w) 119 = true := by kernel_rfl
theorem mk6 (w : World) : takerIn (KK w) 119 "raw" = some none ∧ takerIn (KK w) 119 "n" = some none ∧ takerIn (KK w) 119 "nt" = some none ∧ takerIn (KK w) 119 "norm" = some none ∧ takerIn (KK w) 119 "is_simple" = some none := ⟨by kernel_rfl, by kernel_rfl, by kernel_rfl, by kernel_rfl, by kernel_rfl⟩
theorem mk7 (w : World) : plainGet (KK w) 119 "raw" = true ∧ findIn (KK w) (.ref 119) "raw" = some none := ⟨by kernel_rfl, by kernel_rfl⟩
theorem mk8 (w : World) : readsIn (KK w) 119 (.type "type") = true := by kernel_rfl
theorem mk9 (w : World) : ∃ t u, findCls (KK w) (.ref 119) (.type "type") "S" = some (.val (.str " " t)) ∧ findCls (KK w) (.ref 119) (.type "type") "T" = some (.val (.str "\t" u)) := ⟨_, _, by rfl, by rfl⟩

theorem str1 (c d : Nat) : (⟨#[c]⟩ : Str) = ⟨#[d]⟩ ↔ c = d := by
  constructor
  · intro h; injection h with h; simpa using h
  · rintro rfl; rfl
theorem strS : (Str.ofString " ") = ⟨#[32]⟩ := by decide +kernel
theorem strT : (Str.ofString "\t") = ⟨#[9]⟩ := by decide +kernel
theorem drop_cons {l : List Nat} {i c : Nat} (h : l[i]? = some c) : l.drop i = c :: l.drop (i + 1) := by
  obtain ⟨hi, e⟩ := List.getElem?_eq_some_iff.mp h
  rw [List.drop_eq_getElem_cons hi, e]
theorem ints_rep (i : Int) (u : Tok) : ∀ n : Nat, IntsAre (List.replicate n (.int i u)) (List.replicate n i)
  | 0 => .nil
  | n + 1 => .cons i u (ints_rep i u n)
set_option maxHeartbeats 4000000 in
theorem init_spec {w : World} {A : Around} {s : Shared} {x : Str} {t : Tok} {Q E} (R : Rm A 4) (G : Gd (KK w) s.heap) (hx : x.cps.size < 500)
    (h : ∀ a s', Gr s s' → LeadAt 119 (newPart s.heap s'.heap) a (leadOf x) → Q (.ref a) s') : wpAny (model PP w) A (call (.ref 119) [.str x t]) Q E s := by
  refine @call_new _ _ _ _ _ _ _ _ _ _ G (mk1 w) (mk2 w) (mk3 w) ?_
  generalize hdx : s.heap.objs.size = dx
  have hs2 : Kp s.heap ((s.heap.push emptyDict).push (instObj 119 dx)) := (Kp.push _).trans (Kp.push _)
  have hdxn : s.heap.get? dx = none := get_none_of_le (by lia)
  have hdx2 : ((s.heap.push emptyDict).push (instObj 119 dx)).get? dx = some (dictOf [] 0) := Kp.push _ _ _ (by rw [← hdx]; exact Heap.get?_push_size _ rfl)
  have hx2 : ((s.heap.push emptyDict).push (instObj 119 dx)).get? (dx + 1) = some (instObj 119 dx) := by
    have := Heap.get?_push_size (s.heap.push emptyDict) (o := instObj 119 dx) rfl
    rwa [Heap.size_push, hdx] at this
  generalize hh2 : (s.heap.push emptyDict).push (instObj 119 dx) = h2 at hs2 hdx2 hx2
  have G2 : Gd (KK w) (h2.hide dx) := G.kp fun b o e => (Heap.hide_ne _ (by rintro rfl; rw [hdxn] at e; cases e)).trans (hs2 _ _ e)
  have R' : Rm (A.under (.builtin "type.__call__" ⟨[.ref 119, .str x t], []⟩)) (2 + 1) := ⟨R.h, by have := R.d; show A.depth + 1 + 3 < recursionLimit; omega, by have := R.u; show A.units + 1 + 16 * 3 < cLine; lia⟩
  refine @code_fnH _ _ _ ({ s with heap := h2 }) _ [("self", .ref (dx + 1)), ("ws", .str x t)] _ _ _ _ _ _ _ _ _ _ _ _ _ _ _ _ _ _ _ _ _ _ _ R' G2 hdx2 (by rfl) (by rfl) (BindsTo.of_eq (by rfl)) (by rfl) (by rfl) (fun L s₁ A' hL F R' => ?_) (by rfl) (by rfl) (by rfl)
  have hxB : (h2.hide dx).get? (dx + 1) = some (instObj 119 dx) := (Heap.hide_ne _ (Nat.ne_of_gt (Nat.lt_succ_self _))).trans hx2
  replace F : Fm (KK w) { s with heap := h2 } (h2.hide dx) L s₁ [("ws", .str x t), ("self", .ref (dx + 1))] [(dx, dictOf [] 0)] := F
  have kB : Kp s.heap (h2.hide dx) := fun b o e => (Heap.hide_ne _ (by rintro rfl; rw [hdxn] at e; cases e)).trans (hs2 _ _ e)
  generalize h2.hide dx = B at F hxB kB
  obtain ⟨tS, tT, hS, hT⟩ := mk9 w
  refine @s_attr _ _ _ _ _ _ _ _ _ _ _ _ _ ?_ (by rfl)
  with_reducible rename Fm _ _ _ _ _ _ _ => F0
  refine @nm_local _ _ _ _ _ _ _ _ _ _ _ _ _ _ _ _ F0 (by rfl) (by rfl) ?_ (by rfl) (by rfl) (by decide)
  with_reducible rename Fm _ _ _ _ _ _ _ => F0
  refine @nm_local _ _ _ _ _ _ _ _ _ _ _ _ _ _ _ _ F0 (by rfl) (by rfl) ?_ (by rfl) (by rfl) (by decide)
  rename Fm _ _ _ _ _ _ _ => F
  refine @sa_dict _ _ _ _ _ _ _ _ _ _ _ _ _ _ _ _ _ _ _ F (F.kp _ _ hxB) (.head _) (mk4 w) (mk5 w) (mk6 w).1 (leadK w).hh (by rfl) (by simp [putL]) fun k1 s₂ up => ?_
  replace F := up _ (.head _)
  clear up
  generalize hD1 : dictOf (putL "raw" (PyData.keyHash w.params "raw") (.str "raw" k1) (.str x t) []) (putN "raw" [] 0) = D1 at F
  refine @s_swap2 _ _ _ _ _ _ _ _ _ _ _ _ _ _ _ _ _ _ _ R'.h ?_ (by rfl) (by rfl) (by rfl)
  refine Attribute_any_ ?_
  with_reducible rename Fm _ _ _ _ _ _ _ => F0
  refine @nm_glob _ _ _ _ _ _ _ _ _ _ _ _ _ _ _ _ F0 (by rfl) (by exact kn_Whitespace _) ?_ (by rfl) (by rfl) (by decide)
  rename Fm _ _ _ _ _ _ _ => F
  refine @ga_cls _ _ _ _ _ _ _ _ _ _ _ _ _ _ _ _ _ F (mk8 w) hS rfl fun _ F => ?_
  refine Attribute_any_ ?_
  with_reducible rename Fm _ _ _ _ _ _ _ => F0
  refine @nm_glob _ _ _ _ _ _ _ _ _ _ _ _ _ _ _ _ F0 (by rfl) (by exact kn_Whitespace _) ?_ (by rfl) (by rfl) (by decide)
  rename Fm _ _ _ _ _ _ _ => F
  refine @ga_cls _ _ _ _ _ _ _ _ _ _ _ _ _ _ _ _ _ F (mk8 w) hT rfl fun _ F => ?_
  intro s₃ g
  replace F := F.gr g
  with_reducible rename Fm _ _ _ _ _ _ _ => F0
  refine @st_local _ _ _ _ _ _ _ _ _ _ _ _ _ _ _ F0 (by rfl) ?_ (by rfl) (by rfl)
  clear F0
  intro _ _
  with_reducible rename Fm _ _ _ _ _ _ _ => F0
  refine @st_local _ _ _ _ _ _ _ _ _ _ _ _ _ _ _ F0 (by rfl) ?_ (by rfl) (by rfl)
  clear F0
  intro _ _
  refine @s_assign _ _ _ _ _ _ _ _ _ _ _ ?_ (by rfl)
  refine @e_list _ _ _ _ _ _ _ _ _ ?_
  refine @sp_nil _ _ _ _ _ _ _ _ ?_
  with_reducible rename Fm _ _ _ _ _ _ _ => F0
  refine @n_list _ _ _ _ _ _ _ _ _ _ _ _ _ F0 (by simp [sizeLine_eq]) ?_
  clear F0
  intro _ _ _
  with_reducible rename Fm _ _ _ _ _ _ _ => F0
  refine @st_local _ _ _ _ _ _ _ _ _ _ _ _ _ _ _ F0 (by rfl) ?_ (by rfl) (by rfl)
  clear F0
  intro _ _
  refine @s_assign3 _ _ _ _ _ _ _ _ _ _ _ _ _ _ _ _ ?_ (by rfl)
  with_reducible rename Fm _ _ _ _ _ _ _ => F0
  refine @e_int _ _ _ _ _ _ _ _ _ _ _ _ _ _ _ _ F0 ?_
  clear F0
  intro _ _ _
  with_reducible rename Fm _ _ _ _ _ _ _ => F0
  refine @st_local _ _ _ _ _ _ _ _ _ _ _ _ _ _ _ F0 (by rfl) ?_ (by rfl) (by rfl)
  clear F0
  intro _ _
  with_reducible rename Fm _ _ _ _ _ _ _ => F0
  refine @st_local _ _ _ _ _ _ _ _ _ _ _ _ _ _ _ F0 (by rfl) ?_ (by rfl) (by rfl)
  clear F0
  intro _ _
  with_reducible rename Fm _ _ _ _ _ _ _ => F0
  refine @st_local _ _ _ _ _ _ _ _ _ _ _ _ _ _ _ F0 (by rfl) ?_ (by rfl) (by rfl)
  clear F0
  intro _ _
  refine @s_for _ _ _ _ _ _ _ _ _ _ _ _ ?_ (by intro _; rfl)
  refine Attribute_any_ ?_
  with_reducible rename Fm _ _ _ _ _ _ _ => F0
  refine @nm_local _ _ _ _ _ _ _ _ _ _ _ _ _ _ _ _ F0 (by rfl) (by rfl) ?_ (by rfl) (by rfl) (by decide)
  rename Fm _ _ _ _ _ _ _ => F
  refine @ga_dict _ _ _ _ _ _ _ _ _ _ _ _ _ _ _ _ _ (.str x t) _ _ _ F (F.kp _ _ hxB) (by rw [← hD1]; exact .tail _ (.head _)) (mk7 w).1 (leadK w).hh (mk7 w).2 rfl (by rfl) rfl fun s₄ F => ?_
  rw [strS, strT] at F
  replace F := F.sub (l' := [("self", .ref (dx + 1)), ("S", .str ⟨#[32]⟩ tS), ("T", .str ⟨#[9]⟩ tT), ("count", .ref _), ("b", .int 0 _), ("n", .int 0 _), ("nt", .int 0 _)]) ⟨rfl, rfl, rfl, rfl, rfl, rfl, rfl, trivial⟩
  generalize hfin : scan x.cps.toList ⟨[], 0, 0, 0⟩ = fin
  have hbd := scan_bd x.cps.toList ⟨[], 0, 0, 0⟩ x.cps.toList.length (by simp) (by simp)
  rw [hfin] at hbd
  have hle : leadOf x = fin.lead := by unfold leadOf; rw [hfin]
  rw [hle] at h
  refine @for_iterP _ _ _ _ _ _ _ _ _ _ _ _ _ _ _ _ _ _ _ F (it_str R'.h) (fun i l ob => ∃ (st : Sc) (c : Addr) (vs : List Value) (k : Nat) (tb tn tnt : Tok), l = ([("self", .ref (dx + 1)), ("S", .str ⟨#[32]⟩ tS), ("T", .str ⟨#[9]⟩ tT), ("count", .ref c), ("b", .int st.b tb), ("n", .int st.n tn), ("nt", .int st.nt tnt)] : Ls) ∧
      ob = [(c, lsO vs k), (dx, D1)] ∧ IntsAre vs st.cnt ∧ scan (x.cps.toList.drop i) st = fin ∧ st.b ≤ i ∧ st.cnt.length ≤ i) (fun l ob => ∃ (c : Addr) (vs : List Value) (k : Nat) (tb tn tnt : Tok), l = ([("self", .ref (dx + 1)), ("S", .str ⟨#[32]⟩ tS), ("T", .str ⟨#[9]⟩ tT), ("count", .ref c), ("b", .int fin.b tb), ("n", .int fin.n tn), ("nt", .int fin.nt tnt)] : Ls) ∧
      ob = [(c, lsO vs k), (dx, D1)] ∧ IntsAre vs fin.cnt) ⟨⟨[], 0, 0, 0⟩, _, [], 0, _, _, _, rfl, rfl, .nil, by simpa using hfin, by simp, by simp⟩ ?_ ?_ ?_
  · rintro i s₅ l ob ex v hi ⟨st, c, vs, k, tb, tn, tnt, rfl, rfl, hI, hsc, hb1, hc1⟩ ⟨ch, u, hch, rfl⟩ F
    have hlen := hI.length
    rw [drop_cons (by rw [Array.getElem?_toList]; exact hch)] at hsc
    unfold scan at hsc
    with_reducible rename Fm _ _ _ _ _ _ _ => F0
    refine @st_local _ _ _ _ _ _ _ _ _ _ _ _ _ _ _ F0 (by rfl) ?_ (by rfl) (by rfl)
    clear F0
    intro _ _
    refine @s_if _ _ _ _ _ _ _ _ _ _ _ ?_
    refine wpAny_isTrue_Compare1 ?_ (by rfl)
    with_reducible rename Fm _ _ _ _ _ _ _ => F0
    refine @nm_local _ _ _ _ _ _ _ _ _ _ _ _ _ _ _ _ F0 (by rfl) (by rfl) ?_ (by rfl) (by rfl) (by decide)
    with_reducible rename Fm _ _ _ _ _ _ _ => F0
    refine @nm_local _ _ _ _ _ _ _ _ _ _ _ _ _ _ _ _ F0 (by rfl) (by rfl) ?_ (by rfl) (by rfl) (by decide)
    refine @c_eqs _ _ _ _ _ _ _ _ _ _ ?_
    refine wpAny_truthy_bool ?_
    refine @ite_d _ _ _ _ (fun c1 => ?_) (fun c1 => ?_)
    · rw [str1] at c1
      rw [if_pos c1] at hsc
      refine @s_assign _ _ _ _ _ _ _ _ _ _ _ ?_ (by rfl)
      refine wpAny_BinOp ?_
      with_reducible rename Fm _ _ _ _ _ _ _ => F0
      refine @nm_local _ _ _ _ _ _ _ _ _ _ _ _ _ _ _ _ F0 (by rfl) (by rfl) ?_ (by rfl) (by rfl) (by decide)
      with_reducible rename Fm _ _ _ _ _ _ _ => F0
      refine @e_int _ _ _ _ _ _ _ _ _ _ _ _ _ _ _ _ F0 ?_
      clear F0
      intro _ _ _
      with_reducible rename Fm _ _ _ _ _ _ _ => F0
      refine @o_add _ _ _ _ _ _ _ _ _ _ _ _ _ _ _ _ F0 ?_
      clear F0
      intro _ _ _
      with_reducible rename Fm _ _ _ _ _ _ _ => F0
      refine @st_local _ _ _ _ _ _ _ _ _ _ _ _ _ _ _ F0 (by rfl) ?_ (by rfl) (by rfl)
      clear F0
      intro _ _
      refine @s_assign _ _ _ _ _ _ _ _ _ _ _ ?_ (by rfl)
      refine wpAny_BinOp ?_
      with_reducible rename Fm _ _ _ _ _ _ _ => F0
      refine @nm_local _ _ _ _ _ _ _ _ _ _ _ _ _ _ _ _ F0 (by rfl) (by rfl) ?_ (by rfl) (by rfl) (by decide)
      with_reducible rename Fm _ _ _ _ _ _ _ => F0
      refine @e_int _ _ _ _ _ _ _ _ _ _ _ _ _ _ _ _ F0 ?_
      clear F0
      intro _ _ _
      with_reducible rename Fm _ _ _ _ _ _ _ => F0
      refine @o_add _ _ _ _ _ _ _ _ _ _ _ _ _ _ _ _ F0 ?_
      clear F0
      intro _ _ _
      with_reducible rename Fm _ _ _ _ _ _ _ => F0
      refine @st_local _ _ _ _ _ _ _ _ _ _ _ _ _ _ _ F0 (by rfl) ?_ (by rfl) (by rfl)
      clear F0
      intro _ _
      refine @s_nil _ _ _ _ _ _ ?_
      with_reducible refine @then_next _ _ _ _ _ _ _ ?_
      refine @s_nil _ _ _ _ _ _ ?_
      with_reducible refine @lpp_next _ _ _ _ ?_
      rename Fm _ _ _ _ _ _ _ => F
      exact ⟨_, _, ⟨⟨st.cnt, st.b + 1, st.n + 1, st.nt⟩, c, vs, k, _, _, _, rfl, rfl, hI, hsc, by simp; omega, by simp; lia⟩, F.sub ⟨rfl, rfl, rfl, rfl, rfl, rfl, rfl, trivial⟩⟩
    · rw [str1] at c1
      rw [if_neg c1] at hsc
      refine @s_if _ _ _ _ _ _ _ _ _ _ _ ?_
      refine wpAny_isTrue_Compare1 ?_ (by rfl)
      with_reducible rename Fm _ _ _ _ _ _ _ => F0
      refine @nm_local _ _ _ _ _ _ _ _ _ _ _ _ _ _ _ _ F0 (by rfl) (by rfl) ?_ (by rfl) (by rfl) (by decide)
      with_reducible rename Fm _ _ _ _ _ _ _ => F0
      refine @nm_local _ _ _ _ _ _ _ _ _ _ _ _ _ _ _ _ F0 (by rfl) (by rfl) ?_ (by rfl) (by rfl) (by decide)
      refine @c_eqs _ _ _ _ _ _ _ _ _ _ ?_
      refine wpAny_truthy_bool ?_
      refine @ite_d _ _ _ _ (fun c2 => ?_) (fun c2 => ?_)
      · rw [str1] at c2
        rw [if_pos c2] at hsc
        refine @s_assign _ _ _ _ _ _ _ _ _ _ _ ?_ (by rfl)
        refine wpAny_BinOp ?_
        with_reducible rename Fm _ _ _ _ _ _ _ => F0
        refine @nm_local _ _ _ _ _ _ _ _ _ _ _ _ _ _ _ _ F0 (by rfl) (by rfl) ?_ (by rfl) (by rfl) (by decide)
        with_reducible rename Fm _ _ _ _ _ _ _ => F0
        refine @e_int _ _ _ _ _ _ _ _ _ _ _ _ _ _ _ _ F0 ?_
        clear F0
        intro _ _ _
        with_reducible rename Fm _ _ _ _ _ _ _ => F0
        refine @o_add _ _ _ _ _ _ _ _ _ _ _ _ _ _ _ _ F0 ?_
        clear F0
        intro _ _ _
        with_reducible rename Fm _ _ _ _ _ _ _ => F0
        refine @st_local _ _ _ _ _ _ _ _ _ _ _ _ _ _ _ F0 (by rfl) ?_ (by rfl) (by rfl)
        clear F0
        intro _ _
        refine @s_assign _ _ _ _ _ _ _ _ _ _ _ ?_ (by rfl)
        refine wpAny_BinOp ?_
        with_reducible rename Fm _ _ _ _ _ _ _ => F0
        refine @nm_local _ _ _ _ _ _ _ _ _ _ _ _ _ _ _ _ F0 (by rfl) (by rfl) ?_ (by rfl) (by rfl) (by decide)
        with_reducible rename Fm _ _ _ _ _ _ _ => F0
        refine @e_int _ _ _ _ _ _ _ _ _ _ _ _ _ _ _ _ F0 ?_
        clear F0
        intro _ _ _
        with_reducible rename Fm _ _ _ _ _ _ _ => F0
        refine @o_add _ _ _ _ _ _ _ _ _ _ _ _ _ _ _ _ F0 ?_
        clear F0
        intro _ _ _
        with_reducible rename Fm _ _ _ _ _ _ _ => F0
        refine @st_local _ _ _ _ _ _ _ _ _ _ _ _ _ _ _ F0 (by rfl) ?_ (by rfl) (by rfl)
        clear F0
        intro _ _
        rename Fm _ _ _ _ _ _ _ => F
        have hpl := padTo_len st.cnt st.b
        refine @s_cut _ _ _ _ _ _ _ _ _ (fun s' => ∃ (c' : Addr) (vs' : List Value) (k' : Nat) (tn' tnt' : Tok), IntsAre vs' (padTo st.cnt st.b) ∧
          Fm (KK w) { s with heap := h2 } B L s' [("self", .ref (dx + 1)), ("S", .str ⟨#[32]⟩ tS), ("T", .str ⟨#[9]⟩ tT), ("count", .ref c'), ("b", .int st.b tb), ("n", .int (st.n + 1 : Nat) tn'), ("nt", .int (st.nt + 1 : Nat) tnt')] ((c', lsO vs' k') :: (dx, D1) :: ex)) ?_ ?_
        · refine @s_if _ _ _ _ _ _ _ _ _ _ _ ?_
          refine wpAny_isTrue_Compare1 ?_ (by rfl)
          with_reducible rename Fm _ _ _ _ _ _ _ => F0
          refine @nm_local _ _ _ _ _ _ _ _ _ _ _ _ _ _ _ _ F0 (by rfl) (by rfl) ?_ (by rfl) (by rfl) (by decide)
          refine @e_call _ _ _ _ _ _ _ _ _ _ _ ?_
          with_reducible rename Fm _ _ _ _ _ _ _ => F0
          refine @nm_bi _ _ _ _ _ _ _ _ _ _ _ _ _ _ _ _ F0 (by rfl) (by rfl) (by exact bb_len) ?_ (by rfl) (by rfl) (by rfl) (by decide) (by decide)
          refine @cw_bi1 _ _ _ _ _ _ _ _ _ _ ?_ (by rfl)
          with_reducible rename Fm _ _ _ _ _ _ _ => F0
          refine @nm_local _ _ _ _ _ _ _ _ _ _ _ _ _ _ _ _ F0 (by rfl) (by rfl) ?_ (by rfl) (by rfl) (by decide)
          rename Fm _ _ _ _ _ _ _ => F
          refine @b_len_list _ _ _ _ _ _ _ _ _ _ _ _ _ _ F ⟨_, F.get (.head _), rfl, k, rfl⟩ (by simp; lia) fun _ _ F => ?_
          refine @c_ge _ _ _ _ _ _ _ _ _ _ ?_
          refine wpAny_truthy_bool ?_
          refine @ite_d _ _ _ _ (fun c3 => ?_) (fun c3 => ?_)
          · simp only [List.size_toArray] at c3
            refine @s_assign _ _ _ _ _ _ _ _ _ _ _ ?_ (by rfl)
            refine wpAny_BinOp ?_
            with_reducible rename Fm _ _ _ _ _ _ _ => F0
            refine @nm_local _ _ _ _ _ _ _ _ _ _ _ _ _ _ _ _ F0 (by rfl) (by rfl) ?_ (by rfl) (by rfl) (by decide)
            refine wpAny_BinOp ?_
            refine @e_list _ _ _ _ _ _ _ _ _ ?_
            refine @sp_cons _ _ _ _ _ _ _ _ _ _ ?_ (by rfl)
            with_reducible rename Fm _ _ _ _ _ _ _ => F0
            refine @e_int _ _ _ _ _ _ _ _ _ _ _ _ _ _ _ _ F0 ?_
            clear F0
            intro _ _ _
            refine @sp_nil _ _ _ _ _ _ _ _ ?_
            with_reducible rename Fm _ _ _ _ _ _ _ => F0
            refine @n_list _ _ _ _ _ _ _ _ _ _ _ _ _ F0 (by simp [sizeLine_eq]) ?_
            clear F0
            intro _ _ _
            refine wpAny_BinOp ?_
            refine wpAny_BinOp ?_
            with_reducible rename Fm _ _ _ _ _ _ _ => F0
            refine @nm_local _ _ _ _ _ _ _ _ _ _ _ _ _ _ _ _ F0 (by rfl) (by rfl) ?_ (by rfl) (by rfl) (by decide)
            refine @e_call _ _ _ _ _ _ _ _ _ _ _ ?_
            with_reducible rename Fm _ _ _ _ _ _ _ => F0
            refine @nm_bi _ _ _ _ _ _ _ _ _ _ _ _ _ _ _ _ F0 (by rfl) (by rfl) (by exact bb_len) ?_ (by rfl) (by rfl) (by rfl) (by decide) (by decide)
            refine @cw_bi1 _ _ _ _ _ _ _ _ _ _ ?_ (by rfl)
            with_reducible rename Fm _ _ _ _ _ _ _ => F0
            refine @nm_local _ _ _ _ _ _ _ _ _ _ _ _ _ _ _ _ F0 (by rfl) (by rfl) ?_ (by rfl) (by rfl) (by decide)
            rename Fm _ _ _ _ _ _ _ => F
            refine @b_len_list _ _ _ _ _ _ _ _ _ _ _ _ _ _ F ⟨_, F.get (.tail _ (.head _)), rfl, k, rfl⟩ (by simp; lia) fun _ _ F => ?_
            with_reducible rename Fm _ _ _ _ _ _ _ => F0
            refine @o_sub _ _ _ _ _ _ _ _ _ _ _ _ _ _ _ _ F0 ?_
            clear F0
            intro _ _ _
            with_reducible rename Fm _ _ _ _ _ _ _ => F0
            refine @e_int _ _ _ _ _ _ _ _ _ _ _ _ _ _ _ _ F0 ?_
            clear F0
            intro _ _ _
            with_reducible rename Fm _ _ _ _ _ _ _ => F0
            refine @o_add _ _ _ _ _ _ _ _ _ _ _ _ _ _ _ _ F0 ?_
            clear F0
            intro _ _ _
            rename Fm _ _ _ _ _ _ _ => F
            refine @o_mulL _ _ _ _ _ _ _ _ _ _ _ _ _ _ _ _ _ F (F.get (.head _)) (by simp; lia) (by simp; lia) fun z s₆ F => ?_
            refine @o_addL _ _ _ _ _ _ _ _ _ _ _ _ _ _ _ _ _ _ F (F.get (.tail _ (.tail _ (.head _)))) (F.get (.head _)) (by simp [sizeLine_eq]; lia) fun c' s₇ F => ?_
            with_reducible rename Fm _ _ _ _ _ _ _ => F0
            refine @st_local _ _ _ _ _ _ _ _ _ _ _ _ _ _ _ F0 (by rfl) ?_ (by rfl) (by rfl)
            clear F0
            intro _ _
            refine @s_nil _ _ _ _ _ _ ?_
            with_reducible refine @then_next _ _ _ _ _ _ _ ?_
            refine @s_nil _ _ _ _ _ _ ?_
            rename Fm _ _ _ _ _ _ _ => F
            refine ⟨rfl, c', _, 0, _, _, ?_, (F.drop (List.Sublist.cons_cons _ (.cons _ (.cons _ (.cons _ (.refl _)))))).sub ⟨rfl, rfl, rfl, rfl, rfl, rfl, rfl, trivial⟩⟩
            · have e : ((st.b : Int) - (vs.toArray.size : Nat) + 1).toNat = st.b - st.cnt.length + 1 := by simp; lia
              rw [e]
              unfold padTo
              rw [if_pos (by omega)]
              exact hI.append (ints_rep _ _ _)
          · simp only [List.size_toArray] at c3
            refine @s_nil _ _ _ _ _ _ ?_
            with_reducible refine @then_next _ _ _ _ _ _ _ ?_
            refine @s_nil _ _ _ _ _ _ ?_
            rename Fm _ _ _ _ _ _ _ => F
            refine ⟨rfl, c, vs, k, _, _, ?_, F.sub ⟨rfl, rfl, rfl, rfl, rfl, rfl, rfl, trivial⟩⟩
            unfold padTo
            rw [if_neg (by lia)]
            exact hI
        · rintro s₆ ⟨c', vs', k', tn', tnt', hI', F⟩
          have hl' := hI'.length
          refine @s_item _ _ _ _ _ _ _ _ _ _ _ _ _ ?_ (by rfl)
          refine wpAny_BinOp ?_
          refine Subscript_ ?_
          with_reducible rename Fm _ _ _ _ _ _ _ => F0
          refine @nm_local _ _ _ _ _ _ _ _ _ _ _ _ _ _ _ _ F0 (by rfl) (by rfl) ?_ (by rfl) (by rfl) (by decide)
          with_reducible rename Fm _ _ _ _ _ _ _ => F0
          refine @nm_local _ _ _ _ _ _ _ _ _ _ _ _ _ _ _ _ F0 (by rfl) (by rfl) ?_ (by rfl) (by rfl) (by decide)
          rename Fm _ _ _ _ _ _ _ => F
          obtain ⟨u', hx'⟩ := hI'.get st.b ((padTo st.cnt st.b).getD st.b 0) (by rw [List.getD_eq_getElem?_getD, List.getElem?_eq_getElem hpl.1]; rfl)
          refine @sub_list _ _ _ _ _ _ _ _ _ _ (vs'.toArray) _ _ ⟨_, F.get (.head _), rfl, k', rfl⟩ (by lia) (by lia) (by rw [show ((st.b : Int)).toNat = st.b from rfl]; simpa using hx') ?_ (by with_unfolding_all rfl)
          with_reducible rename Fm _ _ _ _ _ _ _ => F0
          refine @e_int _ _ _ _ _ _ _ _ _ _ _ _ _ _ _ _ F0 ?_
          clear F0
          intro _ _ _
          with_reducible rename Fm _ _ _ _ _ _ _ => F0
          refine @o_add _ _ _ _ _ _ _ _ _ _ _ _ _ _ _ _ F0 ?_
          clear F0
          intro _ _ _
          with_reducible rename Fm _ _ _ _ _ _ _ => F0
          refine @nm_local _ _ _ _ _ _ _ _ _ _ _ _ _ _ _ _ F0 (by rfl) (by rfl) ?_ (by rfl) (by rfl) (by decide)
          with_reducible rename Fm _ _ _ _ _ _ _ => F0
          refine @nm_local _ _ _ _ _ _ _ _ _ _ _ _ _ _ _ _ F0 (by rfl) (by rfl) ?_ (by rfl) (by rfl) (by decide)
          rename Fm _ _ _ _ _ _ _ => F
          refine @i_set _ _ _ _ _ _ _ _ _ _ _ _ _ _ _ _ _ _ _ F (by lia) (by lia) (by lia) (.head _) fun s₇ F => ?_
          refine @s_assign _ _ _ _ _ _ _ _ _ _ _ ?_ (by rfl)
          with_reducible rename Fm _ _ _ _ _ _ _ => F0
          refine @e_int _ _ _ _ _ _ _ _ _ _ _ _ _ _ _ _ F0 ?_
          clear F0
          intro _ _ _
          with_reducible rename Fm _ _ _ _ _ _ _ => F0
          refine @st_local _ _ _ _ _ _ _ _ _ _ _ _ _ _ _ F0 (by rfl) ?_ (by rfl) (by rfl)
          clear F0
          intro _ _
          refine @s_nil _ _ _ _ _ _ ?_
          with_reducible refine @then_next _ _ _ _ _ _ _ ?_
          refine @s_nil _ _ _ _ _ _ ?_
          with_reducible refine @then_next _ _ _ _ _ _ _ ?_
          refine @s_nil _ _ _ _ _ _ ?_
          with_reducible refine @lpp_next _ _ _ _ ?_
          rename Fm _ _ _ _ _ _ _ => F
          have hbl := bump_len st.cnt st.b
          refine ⟨_, _, ⟨⟨bump st.cnt st.b, 0, st.n + 1, st.nt + 1⟩, c', _, k', _, _, _, rfl, rfl, ?_, hsc, by simp, by simp; lia⟩, F.sub ⟨rfl, rfl, rfl, rfl, rfl, rfl, rfl, trivial⟩⟩
          exact ints_set hI' st.b
      · rw [str1] at c2
        rw [if_neg c2] at hsc
        refine @s_brk _ _ _ _ _ _ _ _ ?_
        with_reducible refine @then_brk _ _ _ _ _ _ _ ?_
        with_reducible refine @then_brk _ _ _ _ _ _ _ ?_
        with_reducible refine @lpp_brk _ _ _ _ ?_
        rename Fm _ _ _ _ _ _ _ => F
        subst hsc
        exact ⟨_, _, ⟨c, vs, k, _, _, _, rfl, rfl, hI⟩, F.sub ⟨rfl, rfl, rfl, rfl, rfl, rfl, rfl, trivial⟩⟩
  · rintro l ob ⟨st, c, vs, k, tb, tn, tnt, rfl, rfl, hI, hsc, hb1, hc1⟩
    have : st = fin := by
      rw [← hsc, List.drop_eq_nil_of_le (by simp)]; rfl
    subst this
    exact ⟨c, vs, k, _, _, _, rfl, rfl, hI⟩
  · rintro s₅ l ob ⟨c, vs, k, tb, tn, tnt, rfl, rfl, hI⟩ F
    subst hD1
    have hlen := hI.length
    have hsz : x.cps.toList.length = x.cps.size := by simp
    with_reducible refine @then_next _ _ _ _ _ _ _ ?_
    refine @s_attr _ _ _ _ _ _ _ _ _ _ _ _ _ ?_ (by rfl)
    with_reducible rename Fm _ _ _ _ _ _ _ => F0
    refine @nm_local _ _ _ _ _ _ _ _ _ _ _ _ _ _ _ _ F0 (by rfl) (by rfl) ?_ (by rfl) (by rfl) (by decide)
    with_reducible rename Fm _ _ _ _ _ _ _ => F0
    refine @nm_local _ _ _ _ _ _ _ _ _ _ _ _ _ _ _ _ F0 (by rfl) (by rfl) ?_ (by rfl) (by rfl) (by decide)
    rename Fm _ _ _ _ _ _ _ => F
    refine @sa_dict _ _ _ _ _ _ _ _ _ _ _ _ _ _ _ _ _ _ _ F (F.kp _ _ hxB) (.tail _ (.head _)) (mk4 w) (mk5 w) (mk6 w).2.1 (leadK w).hh (by rfl) (Nat.le_of_ble_eq_true rfl) fun k2 s₆ up => ?_
    replace F := up _ (.tail _ (.head _))
    clear up
    refine @s_attr _ _ _ _ _ _ _ _ _ _ _ _ _ ?_ (by rfl)
    with_reducible rename Fm _ _ _ _ _ _ _ => F0
    refine @nm_local _ _ _ _ _ _ _ _ _ _ _ _ _ _ _ _ F0 (by rfl) (by rfl) ?_ (by rfl) (by rfl) (by decide)
    with_reducible rename Fm _ _ _ _ _ _ _ => F0
    refine @nm_local _ _ _ _ _ _ _ _ _ _ _ _ _ _ _ _ F0 (by rfl) (by rfl) ?_ (by rfl) (by rfl) (by decide)
    rename Fm _ _ _ _ _ _ _ => F
    refine @sa_dict _ _ _ _ _ _ _ _ _ _ _ _ _ _ _ _ _ _ _ F (F.kp _ _ hxB) (.tail _ (.head _)) (mk4 w) (mk5 w) (mk6 w).2.2.1 (leadK w).hh (by rfl) (Nat.le_of_ble_eq_true rfl) fun k3 s₆ up => ?_
    replace F := up _ (.tail _ (.head _))
    clear up
    refine @s_attr _ _ _ _ _ _ _ _ _ _ _ _ _ ?_ (by rfl)
    refine @e_tuple _ _ _ _ _ _ _ _ _ _ ?_
    refine @sp_cons _ _ _ _ _ _ _ _ _ _ ?_ (by rfl)
    refine @e_call _ _ _ _ _ _ _ _ _ _ _ ?_
    with_reducible rename Fm _ _ _ _ _ _ _ => F0
    refine @nm_bi _ _ _ _ _ _ _ _ _ _ _ _ _ _ _ _ F0 (by rfl) (by rfl) (by exact bb_tuple) ?_ (by rfl) (by rfl) (by rfl) (by decide) (by decide)
    refine @cw_ty1 _ _ _ _ _ _ _ _ _ _ ?_ (by rfl)
    with_reducible rename Fm _ _ _ _ _ _ _ => F0
    refine @nm_local _ _ _ _ _ _ _ _ _ _ _ _ _ _ _ _ F0 (by rfl) (by rfl) ?_ (by rfl) (by rfl) (by decide)
    rename Fm _ _ _ _ _ _ _ => F
    refine @b_tuple _ _ _ _ _ _ _ _ _ _ _ _ _ _ F ⟨_, F.get (.head _), rfl, k, rfl⟩ (by simp [sizeLine_eq]; lia) fun tc s₆ F => ?_
    refine @sp_cons _ _ _ _ _ _ _ _ _ _ ?_ (by rfl)
    with_reducible rename Fm _ _ _ _ _ _ _ => F0
    refine @nm_local _ _ _ _ _ _ _ _ _ _ _ _ _ _ _ _ F0 (by rfl) (by rfl) ?_ (by rfl) (by rfl) (by decide)
    refine @sp_nil _ _ _ _ _ _ _ _ ?_
    with_reducible rename Fm _ _ _ _ _ _ _ => F0
    refine @n_tuple _ _ _ _ _ _ _ _ _ _ _ _ _ F0 (by simp [sizeLine_eq]) ?_
    clear F0
    intro _ _ _
    with_reducible rename Fm _ _ _ _ _ _ _ => F0
    refine @nm_local _ _ _ _ _ _ _ _ _ _ _ _ _ _ _ _ F0 (by rfl) (by rfl) ?_ (by rfl) (by rfl) (by decide)
    rename Fm _ _ _ _ _ _ _ => F
    refine @sa_dict _ _ _ _ _ _ _ _ _ _ _ _ _ _ _ _ _ _ _ F (F.kp _ _ hxB) (.tail _ (.tail _ (.tail _ (.head _)))) (mk4 w) (mk5 w) (mk6 w).2.2.2.1 (leadK w).hh (by rfl) (Nat.le_of_ble_eq_true rfl) fun k4 s₆ up => ?_
    replace F := up _ (.tail _ (.tail _ (.tail _ (.head _))))
    clear up
    refine @s_attr _ _ _ _ _ _ _ _ _ _ _ _ _ ?_ (by rfl)
    refine wpAny_Compare1 ?_ (by rfl)
    refine @e_call _ _ _ _ _ _ _ _ _ _ _ ?_
    with_reducible rename Fm _ _ _ _ _ _ _ => F0
    refine @nm_bi _ _ _ _ _ _ _ _ _ _ _ _ _ _ _ _ F0 (by rfl) (by rfl) (by exact bb_len) ?_ (by rfl) (by rfl) (by rfl) (by decide) (by decide)
    refine @cw_bi1 _ _ _ _ _ _ _ _ _ _ ?_ (by rfl)
    with_reducible rename Fm _ _ _ _ _ _ _ => F0
    refine @nm_local _ _ _ _ _ _ _ _ _ _ _ _ _ _ _ _ F0 (by rfl) (by rfl) ?_ (by rfl) (by rfl) (by decide)
    rename Fm _ _ _ _ _ _ _ => F
    refine @b_len_list _ _ _ _ _ _ _ _ _ _ _ _ _ _ F ⟨_, F.get (.tail _ (.tail _ (.head _))), rfl, k, rfl⟩ (by simp; lia) fun _ _ F => ?_
    with_reducible rename Fm _ _ _ _ _ _ _ => F0
    refine @e_int _ _ _ _ _ _ _ _ _ _ _ _ _ _ _ _ F0 ?_
    clear F0
    intro _ _ _
    refine @c_le _ _ _ _ _ _ _ _ _ _ ?_
    with_reducible rename Fm _ _ _ _ _ _ _ => F0
    refine @nm_local _ _ _ _ _ _ _ _ _ _ _ _ _ _ _ _ F0 (by rfl) (by rfl) ?_ (by rfl) (by rfl) (by decide)
    rename Fm _ _ _ _ _ _ _ => F
    refine @sa_dict _ _ _ _ _ _ _ _ _ _ _ _ _ _ _ _ _ _ _ F (F.kp _ _ hxB) (.tail _ (.tail _ (.tail _ (.head _)))) (mk4 w) (mk5 w) (mk6 w).2.2.2.2 (leadK w).hh (by rfl) (Nat.le_of_ble_eq_true rfl) fun k5 s₆ up => ?_
    replace F := up _ (.tail _ (.tail _ (.tail _ (.head _))))
    clear up
    refine @s_nil _ _ _ _ _ _ ?_
    with_reducible refine @retTo_next _ _ ?_
    rename Fm _ _ _ _ _ _ _ => F
    have nn : ∀ {a : Addr} {o : Obj}, (a, o) ∈ _ → (newPart s.heap _).get? a = some o := fun hm => newPart_get (F.get hm) (Kp.none kB (F.obs _ hm).2.2)
    refine ⟨rfl, h _ _ ⟨⟨F.sm.gens, F.sm.drawn, F.sm.os⟩, kB.trans F.kp⟩ ⟨⟨dx, _, _, _, tc, _, _, _, _, newPart_get (F.kp _ _ hxB) (get_none_of_le (by lia)), nn (.tail _ (.tail _ (.tail _ (.head _)))), rfl, rfl, rfl, ?_, rfl, rfl, rfl, ⟨_, nn (.head _), rfl, 0, rfl⟩, ⟨_, nn (.tail _ (.head _)), rfl, 0, rfl⟩, ?_⟩, ?_⟩⟩
    · show some (some (Value.bool (decide (((vs.toArray.size : Nat) : Int) ≤ 1)))) = some (some (.bool (decide (fin.cnt.length ≤ 1))))
      have e : (((vs.toArray.size : Nat) : Int) ≤ 1) ↔ fin.cnt.length ≤ 1 := by simp; lia
      simp only [e]
    · show IntsAre vs.toArray.toList.toArray.toList fin.cnt; simpa using hI
    · exact ⟨by show fin.cnt.length < 900; lia, by show (0 : Int) ≤ fin.b; lia, by show (fin.b : Int) < 900; lia⟩
end Mine
end
section
open PySem PySem.W PyProof.Rows PySem.Calls
set_option maxRecDepth 100000
namespace Mine

def colOf (size : Int) : List Nat → Int → Int
  | [], c => c
  | ch :: r, c => if ch = 120 then c else if ch = 32 then colOf size r (c + 1) else colOf size r (c + size - c % size)
theorem strX : (Str.ofString "x") = ⟨#[120]⟩ := by decide +kernel
set_option maxHeartbeats 4000000 in
theorem column_spec {w : World} {A : Around} {s : Shared} {x : Str} {t u : Tok} {size : Int} {Q E} (R : Rm A 2) (G : Gd (KK w) s.heap) (hs : 0 < size)
    (h : ∀ t s', Gr s s' → Q (.int (colOf size x.cps.toList 0) t) s') : wpAny (model PP w) A (call (.ref 135) [.str x t, .int size u]) Q E s := by
  refine @call_fn _ _ _ _ _ _ [("text", .str x t), ("size", .int size u)] _ _ _ _ _ _ _ _ _ _ _ _ _ _ _ _ _ _ _ _ _ R G (by rfl) (by rfl) (BindsTo.of_eq (by rfl)) (by rfl) (by rfl) (fun L s₁ A' hL F R' => ?_) (by rfl) (by rfl) (by rfl)
  refine @s_assign _ _ _ _ _ _ _ _ _ _ _ ?_ (by rfl)
  with_reducible rename Fm _ _ _ _ _ _ _ => F0
  refine @e_int _ _ _ _ _ _ _ _ _ _ _ _ _ _ _ _ F0 ?_
  clear F0
  intro _ _ _
  with_reducible rename Fm _ _ _ _ _ _ _ => F0
  refine @st_local _ _ _ _ _ _ _ _ _ _ _ _ _ _ _ F0 (by rfl) ?_ (by rfl) (by rfl)
  clear F0
  intro _ _
  refine @s_for _ _ _ _ _ _ _ _ _ _ _ _ ?_ (by intro _; rfl)
  with_reducible rename Fm _ _ _ _ _ _ _ => F0
  refine @nm_local _ _ _ _ _ _ _ _ _ _ _ _ _ _ _ _ F0 (by rfl) (by rfl) ?_ (by rfl) (by rfl) (by decide)
  rename Fm _ _ _ _ _ _ _ => F
  replace F := F.sub (l' := [("size", .int size u), ("column", .int 0 _)]) ⟨rfl, rfl, trivial⟩
  generalize hfin : colOf size x.cps.toList 0 = fin at h
  refine @for_iterP _ _ _ _ _ _ _ _ _ _ _ _ _ _ _ _ _ _ _ F (it_str R'.h) (fun i l ob => ob = [] ∧ ∃ (c : Int) (tc : Tok), l = ([("size", .int size u), ("column", .int c tc)] : Ls) ∧ colOf size (x.cps.toList.drop i) c = fin) (fun l ob => ob = [] ∧ ∃ (tc : Tok), l = ([("size", .int size u), ("column", .int fin tc)] : Ls)) ⟨rfl, 0, _, rfl, by simpa using hfin⟩ ?_ ?_ ?_
  · rintro i s₅ l ob ex v hi ⟨rfl, c, tc, rfl, hsc⟩ ⟨ch, u, hch, rfl⟩ F
    rw [drop_cons (by rw [Array.getElem?_toList]; exact hch)] at hsc
    unfold colOf at hsc
    with_reducible rename Fm _ _ _ _ _ _ _ => F0
    refine @st_local _ _ _ _ _ _ _ _ _ _ _ _ _ _ _ F0 (by rfl) ?_ (by rfl) (by rfl)
    clear F0
    intro _ _
    refine @s_if _ _ _ _ _ _ _ _ _ _ _ ?_
    refine wpAny_isTrue_Compare1 ?_ (by rfl)
    with_reducible rename Fm _ _ _ _ _ _ _ => F0
    refine @nm_local _ _ _ _ _ _ _ _ _ _ _ _ _ _ _ _ F0 (by rfl) (by rfl) ?_ (by rfl) (by rfl) (by decide)
    with_reducible rename Fm _ _ _ _ _ _ _ => F0
    refine @e_str _ _ _ _ _ _ _ _ _ _ _ _ _ _ _ _ F0 ?_
    clear F0
    intro _ _ _
    refine @c_eqs _ _ _ _ _ _ _ _ _ _ ?_
    refine wpAny_truthy_bool ?_
    refine @ite_d _ _ _ _ (fun c1 => ?_) (fun c1 => ?_)
    · rw [strX, str1] at c1
      rw [if_pos c1] at hsc
      refine @s_brk _ _ _ _ _ _ _ _ ?_
      with_reducible refine @then_brk _ _ _ _ _ _ _ ?_
      with_reducible refine @lpp_brk _ _ _ _ ?_
      rename Fm _ _ _ _ _ _ _ => F
      subst hsc
      exact ⟨_, [], ⟨rfl, _, rfl⟩, F.sub ⟨rfl, rfl, trivial⟩⟩
    · rw [strX, str1] at c1
      rw [if_neg c1] at hsc
      refine @s_nil _ _ _ _ _ _ ?_
      with_reducible refine @then_next _ _ _ _ _ _ _ ?_
      refine @s_assign _ _ _ _ _ _ _ _ _ _ _ ?_ (by rfl)
      refine @e_ifexp _ _ _ _ _ _ _ _ _ _ _ ?_
      refine wpAny_isTrue_Compare1 ?_ (by rfl)
      with_reducible rename Fm _ _ _ _ _ _ _ => F0
      refine @nm_local _ _ _ _ _ _ _ _ _ _ _ _ _ _ _ _ F0 (by rfl) (by rfl) ?_ (by rfl) (by rfl) (by decide)
      with_reducible rename Fm _ _ _ _ _ _ _ => F0
      refine @e_str _ _ _ _ _ _ _ _ _ _ _ _ _ _ _ _ F0 ?_
      clear F0
      intro _ _ _
      refine @c_eqs _ _ _ _ _ _ _ _ _ _ ?_
      refine wpAny_truthy_bool ?_
      refine @ite_d _ _ _ _ (fun c2 => ?_) (fun c2 => ?_)
      · rw [strS, str1] at c2
        rw [if_pos c2] at hsc
        refine wpAny_BinOp ?_
        with_reducible rename Fm _ _ _ _ _ _ _ => F0
        refine @nm_local _ _ _ _ _ _ _ _ _ _ _ _ _ _ _ _ F0 (by rfl) (by rfl) ?_ (by rfl) (by rfl) (by decide)
        with_reducible rename Fm _ _ _ _ _ _ _ => F0
        refine @e_int _ _ _ _ _ _ _ _ _ _ _ _ _ _ _ _ F0 ?_
        clear F0
        intro _ _ _
        with_reducible rename Fm _ _ _ _ _ _ _ => F0
        refine @o_add _ _ _ _ _ _ _ _ _ _ _ _ _ _ _ _ F0 ?_
        clear F0
        intro _ _ _
        with_reducible rename Fm _ _ _ _ _ _ _ => F0
        refine @st_local _ _ _ _ _ _ _ _ _ _ _ _ _ _ _ F0 (by rfl) ?_ (by rfl) (by rfl)
        clear F0
        intro _ _
        refine @s_nil _ _ _ _ _ _ ?_
        with_reducible refine @lpp_next _ _ _ _ ?_
        rename Fm _ _ _ _ _ _ _ => F
        exact ⟨_, [], ⟨rfl, _, _, rfl, hsc⟩, F.sub ⟨rfl, rfl, trivial⟩⟩
      · rw [strS, str1] at c2
        rw [if_neg c2] at hsc
        refine wpAny_BinOp ?_
        refine wpAny_BinOp ?_
        with_reducible rename Fm _ _ _ _ _ _ _ => F0
        refine @nm_local _ _ _ _ _ _ _ _ _ _ _ _ _ _ _ _ F0 (by rfl) (by rfl) ?_ (by rfl) (by rfl) (by decide)
        with_reducible rename Fm _ _ _ _ _ _ _ => F0
        refine @nm_local _ _ _ _ _ _ _ _ _ _ _ _ _ _ _ _ F0 (by rfl) (by rfl) ?_ (by rfl) (by rfl) (by decide)
        with_reducible rename Fm _ _ _ _ _ _ _ => F0
        refine @o_add _ _ _ _ _ _ _ _ _ _ _ _ _ _ _ _ F0 ?_
        clear F0
        intro _ _ _
        refine wpAny_BinOp ?_
        with_reducible rename Fm _ _ _ _ _ _ _ => F0
        refine @nm_local _ _ _ _ _ _ _ _ _ _ _ _ _ _ _ _ F0 (by rfl) (by rfl) ?_ (by rfl) (by rfl) (by decide)
        with_reducible rename Fm _ _ _ _ _ _ _ => F0
        refine @nm_local _ _ _ _ _ _ _ _ _ _ _ _ _ _ _ _ F0 (by rfl) (by rfl) ?_ (by rfl) (by rfl) (by decide)
        rename Fm _ _ _ _ _ _ _ => F
        refine @o_mod _ _ _ _ _ _ _ _ _ _ _ _ _ _ _ _ F hs fun _ _ F => ?_
        with_reducible rename Fm _ _ _ _ _ _ _ => F0
        refine @o_sub _ _ _ _ _ _ _ _ _ _ _ _ _ _ _ _ F0 ?_
        clear F0
        intro _ _ _
        with_reducible rename Fm _ _ _ _ _ _ _ => F0
        refine @st_local _ _ _ _ _ _ _ _ _ _ _ _ _ _ _ F0 (by rfl) ?_ (by rfl) (by rfl)
        clear F0
        intro _ _
        refine @s_nil _ _ _ _ _ _ ?_
        with_reducible refine @lpp_next _ _ _ _ ?_
        rename Fm _ _ _ _ _ _ _ => F
        exact ⟨_, [], ⟨rfl, _, _, rfl, hsc⟩, F.sub ⟨rfl, rfl, trivial⟩⟩
  · rintro l ob ⟨rfl, c, tc, rfl, hsc⟩
    have : c = fin := by
      rw [← hsc, List.drop_eq_nil_of_le (by simp)]; rfl
    subst this
    exact ⟨rfl, _, rfl⟩
  · rintro s₅ l ob ⟨rfl, tc, rfl⟩ F
    with_reducible refine @then_next _ _ _ _ _ _ _ ?_
    refine @s_ret _ _ _ _ _ _ _ _ _ ?_
    with_reducible rename Fm _ _ _ _ _ _ _ => F0
    refine @nm_local _ _ _ _ _ _ _ _ _ _ _ _ _ _ _ _ F0 (by rfl) (by rfl) ?_ (by rfl) (by rfl) (by decide)
    with_reducible refine @retTo_ret _ _ _ ?_
    rename Fm _ _ _ _ _ _ _ => F
    exact h _ _ ⟨F.sm, F.kp⟩
end Mine
end
section
open PySem PySem.W PyProof.Rows PySem.Calls PySem.Spec
set_option maxRecDepth 100000
namespace Mine

def frOf (c : Nat) : List Int := if c = 0 then [2, 0] else if c = 1 then [] else [1]
def runTxt (rs : List Int) : List Nat := (rs.map fun r => List.replicate r.toNat 32 ++ [9]).flatten
def frAt (c k : Nat) : List Int := if k % 2 = 0 then frOf c else (frOf c).reverse
def leadTxt (c k a b : Nat) : List Nat := runTxt (frAt c k) ++ List.replicate a 9 ++ List.replicate b 32 ++ [120, 32, 9]
def txts (c : Nat) : Nat → List (Nat × Nat) → List (List Nat)
  | _, [] => []
  | k, (a, b) :: r => leadTxt c k a b :: txts c (k + 1) r
theorem txts_app (c : Nat) : ∀ (k : Nat) (g : List (Nat × Nat)) (a b : Nat), txts c k (g ++ [(a, b)]) = txts c k g ++ [leadTxt c (k + g.length) a b]
  | k, [], a, b => rfl
  | k, (x, y) :: r, a, b => by
    rw [List.cons_append, txts, txts, txts_app c (k + 1) r a b, List.length_cons, show k + (r.length + 1) = k + 1 + r.length from by lia]; rfl
theorem txts_len (c : Nat) : ∀ (k : Nat) (g : List (Nat × Nat)), (txts c k g).length = g.length
  | _, [] => rfl
  | k, (a, b) :: r => by rw [txts, List.length_cons, txts_len c (k + 1) r, List.length_cons]
theorem strE : (Str.ofString "") = sOf [] := by decide +kernel
theorem strX3 : (Str.ofString "x \t") = sOf [120, 32, 9] := by decide +kernel
theorem frAt_mem {c k : Nat} {r : Int} (h : r ∈ frAt c k) : 0 ≤ r ∧ r ≤ 2 := by
  unfold frAt frOf at h
  split at h <;> (split at h; · (simp at h; lia)) <;> (split at h <;> simp at h <;> lia)
theorem frAt_len (c k : Nat) : (frAt c k).length ≤ 2 := by
  unfold frAt frOf
  split <;> (split; · simp) <;> (split <;> simp)
theorem runTxt_len (c k : Nat) : (runTxt (frAt c k)).length ≤ 4 := by
  unfold runTxt frAt frOf
  split <;> (split; · decide) <;> (split <;> decide)
set_option maxHeartbeats 4000000 in
theorem texts_spec {w : World} {A : Around} {s₀ s : Shared} {B : Heap} {L : Addr} {l : Ls} {ob : Ob} {v : Value} {ns : List Int} {Q E} (F : Fm (KK w) s₀ B L s l ob) (R : Rm A 3) (hv : Rd B v (dIs ns)) (hn : ns.length < 1000)
    (h : ∀ v' s' B' c g, Kp B B' → Fm (KK w) s₀ B' L s' l ob → c < 3 → g.length = 6 → (∀ p ∈ g, p.1 < 4 ∧ p.2 < 5) → Rd B' v' (.list ((txts c 0 g).map fun x => .str (sOf x))) → Q v' s') : wpAny (model PP w) A (call (.ref 128) [v]) Q E s := by
  refine @call_fnG _ _ _ _ _ _ _ _ _ _ _ _ [("script", v)] _ _ _ _ _ _ _ _ _ _ _ _ _ _ _ _ _ _ _ _ F R (by rfl) (by rfl) (BindsTo.of_eq (by rfl)) (fun L' s₁ A' A₁ oL hL F' R' => ?_) (by rfl) (by rfl)
  have fin : ∀ {B₂ : Heap} {s'' : Shared} {l'' : Ls} {ob'' : Ob}, Fm (KK w) s B₂ L' s'' l'' ob'' → (∀ p ∈ (L, oL) :: ob, p ∈ ob'') → Kp B B₂ → Fm (KK w) s₀ B₂ L s'' l ob := fun F' hm k => F.leave hL F' hm k
  clear F
  obtain ⟨a, vs, rfl, ha, hI⟩ := hv.isList
  replace hI := hI.toInts
  have hlen := hI.length
  replace F' : Fm (KK w) s B L' s₁ [] ((L, oL) :: ob) := F'
  refine @binds_cons _ _ _ _ _ _ _ _ _ ?_
  with_reducible rename Fm _ _ _ _ _ _ _ => F0
  refine @st_local _ _ _ _ _ _ _ _ _ _ _ _ _ _ _ F0 (by rfl) ?_ (by rfl) (by rfl)
  clear F0
  intro _ _
  refine @binds_nil _ _ _ _ _ _ ?_
  with_reducible rename Fm _ _ _ _ _ _ _ => F0
  refine ⟨Fm.gdh F0, ?_⟩
  refine @s_assign _ _ _ _ _ _ _ _ _ _ _ ?_ (by rfl)
  refine Subscript_ ?_
  refine @e_list _ _ _ _ _ _ _ _ _ ?_
  refine @sp_cons _ _ _ _ _ _ _ _ _ _ ?_ (by rfl)
  refine @e_list _ _ _ _ _ _ _ _ _ ?_
  refine @sp_cons _ _ _ _ _ _ _ _ _ _ ?_ (by rfl)
  with_reducible rename Fm _ _ _ _ _ _ _ => F0
  refine @e_int _ _ _ _ _ _ _ _ _ _ _ _ _ _ _ _ F0 ?_
  clear F0
  intro _ _ _
  refine @sp_cons _ _ _ _ _ _ _ _ _ _ ?_ (by rfl)
  with_reducible rename Fm _ _ _ _ _ _ _ => F0
  refine @e_int _ _ _ _ _ _ _ _ _ _ _ _ _ _ _ _ F0 ?_
  clear F0
  intro _ _ _
  refine @sp_nil _ _ _ _ _ _ _ _ ?_
  with_reducible rename Fm _ _ _ _ _ _ _ => F0
  refine @n_list _ _ _ _ _ _ _ _ _ _ _ _ _ F0 (by simp [sizeLine_eq]) ?_
  clear F0
  intro _ _ _
  refine @sp_cons _ _ _ _ _ _ _ _ _ _ ?_ (by rfl)
  refine @e_list _ _ _ _ _ _ _ _ _ ?_
  refine @sp_nil _ _ _ _ _ _ _ _ ?_
  with_reducible rename Fm _ _ _ _ _ _ _ => F0
  refine @n_list _ _ _ _ _ _ _ _ _ _ _ _ _ F0 (by simp [sizeLine_eq]) ?_
  clear F0
  intro _ _ _
  refine @sp_cons _ _ _ _ _ _ _ _ _ _ ?_ (by rfl)
  refine @e_list _ _ _ _ _ _ _ _ _ ?_
  refine @sp_cons _ _ _ _ _ _ _ _ _ _ ?_ (by rfl)
  with_reducible rename Fm _ _ _ _ _ _ _ => F0
  refine @e_int _ _ _ _ _ _ _ _ _ _ _ _ _ _ _ _ F0 ?_
  clear F0
  intro _ _ _
  refine @sp_nil _ _ _ _ _ _ _ _ ?_
  with_reducible rename Fm _ _ _ _ _ _ _ => F0
  refine @n_list _ _ _ _ _ _ _ _ _ _ _ _ _ F0 (by simp [sizeLine_eq]) ?_
  clear F0
  intro _ _ _
  refine @sp_nil _ _ _ _ _ _ _ _ ?_
  with_reducible rename Fm _ _ _ _ _ _ _ => F0
  refine @n_list _ _ _ _ _ _ _ _ _ _ _ _ _ F0 (by simp [sizeLine_eq]) ?_
  clear F0
  intro _ _ _
  refine wpAny_BinOp ?_
  refine @e_call _ _ _ _ _ _ _ _ _ _ _ ?_
  with_reducible rename Fm _ _ _ _ _ _ _ => F0
  refine @nm_bi _ _ _ _ _ _ _ _ _ _ _ _ _ _ _ _ F0 (by rfl) (by rfl) (by exact bb_sum) ?_ (by rfl) (by rfl) (by rfl) (by decide) (by decide)
  refine @cw_bi1 _ _ _ _ _ _ _ _ _ _ ?_ (by rfl)
  with_reducible rename Fm _ _ _ _ _ _ _ => F0
  refine @nm_local _ _ _ _ _ _ _ _ _ _ _ _ _ _ _ _ F0 (by rfl) (by rfl) ?_ (by rfl) (by rfl) (by decide)
  rename Fm _ _ _ _ _ _ _ => F
  refine @b_sum _ _ _ _ _ _ _ _ _ _ _ _ _ _ _ F R'.h (let ⟨o, ho, r⟩ := ha; ⟨o, F.kp _ _ ho, r⟩) hI fun t s₂ F => ?_
  with_reducible rename Fm _ _ _ _ _ _ _ => F0
  refine @e_int _ _ _ _ _ _ _ _ _ _ _ _ _ _ _ _ F0 ?_
  clear F0
  intro _ _ _
  rename Fm _ _ _ _ _ _ _ => F
  refine @o_mod _ _ _ _ _ _ _ _ _ _ _ _ _ _ _ _ F (by lia) fun t s₂ F => ?_
  obtain ⟨B1, k1, F, g1⟩ := F.freezeAt (.tail _ (.tail _ (.tail _ (.head _))))
  obtain ⟨B2, k2, F, g2⟩ := F.freezeAt (.tail _ (.tail _ (.head _)))
  obtain ⟨B3, k3, F, g3⟩ := F.freezeAt (.tail _ (.head _))
  obtain ⟨B4, k4, F, g4⟩ := F.freezeAt (.head _)
  have r1 : Rd B4 _ (dIs [2, 0]) := Rd.list (k4 _ _ (k3 _ _ (k2 _ _ g1))) (.cons Rd.int (.cons Rd.int .nil))
  have r2 : Rd B4 _ (dIs []) := Rd.list (k4 _ _ (k3 _ _ g2)) .nil
  have r3 : Rd B4 _ (dIs [1]) := Rd.list (k4 _ _ g3) (.cons Rd.int .nil)
  have r4 : Rd B4 _ (.list [dIs [2, 0], dIs [], dIs [1]]) := Rd.list g4 (.cons r1 (.cons r2 (.cons r3 .nil)))
  have kB : Kp B B4 := k1.trans (k2.trans (k3.trans k4))
  clear g1 g2 g3 g4 r1 r2 r3 k1 k2 k3 k4
  obtain ⟨c, hc⟩ : ∃ c : Nat, (c : Int) = ns.sum % 3 := ⟨(ns.sum % 3).toNat, by lia⟩
  have hc3 : c < 3 := by lia
  rw [← hc]
  refine @sub_D _ _ _ _ _ _ _ _ _ _ _ _ _ _ _ _ _ _ (dIs (frOf c)) F r4 (by lia) (by lia) ?_ (fun fv rf => ?_) (by intro _; with_unfolding_all rfl)
  · rcases (by lia : c = 0 ∨ c = 1 ∨ c = 2) with rfl | rfl | rfl <;> rfl
  clear r4
  with_reducible rename Fm _ _ _ _ _ _ _ => F0
  refine @st_local _ _ _ _ _ _ _ _ _ _ _ _ _ _ _ F0 (by rfl) ?_ (by rfl) (by rfl)
  clear F0
  intro _ _
  refine @s_assign _ _ _ _ _ _ _ _ _ _ _ ?_ (by rfl)
  refine @e_list _ _ _ _ _ _ _ _ _ ?_
  refine @sp_cons _ _ _ _ _ _ _ _ _ _ ?_ (by rfl)
  with_reducible rename Fm _ _ _ _ _ _ _ => F0
  refine @e_int _ _ _ _ _ _ _ _ _ _ _ _ _ _ _ _ F0 ?_
  clear F0
  intro _ _ _
  refine @sp_cons _ _ _ _ _ _ _ _ _ _ ?_ (by rfl)
  with_reducible rename Fm _ _ _ _ _ _ _ => F0
  refine @e_int _ _ _ _ _ _ _ _ _ _ _ _ _ _ _ _ F0 ?_
  clear F0
  intro _ _ _
  refine @sp_cons _ _ _ _ _ _ _ _ _ _ ?_ (by rfl)
  with_reducible rename Fm _ _ _ _ _ _ _ => F0
  refine @e_int _ _ _ _ _ _ _ _ _ _ _ _ _ _ _ _ F0 ?_
  clear F0
  intro _ _ _
  refine @sp_cons _ _ _ _ _ _ _ _ _ _ ?_ (by rfl)
  with_reducible rename Fm _ _ _ _ _ _ _ => F0
  refine @e_int _ _ _ _ _ _ _ _ _ _ _ _ _ _ _ _ F0 ?_
  clear F0
  intro _ _ _
  refine @sp_cons _ _ _ _ _ _ _ _ _ _ ?_ (by rfl)
  with_reducible rename Fm _ _ _ _ _ _ _ => F0
  refine @e_int _ _ _ _ _ _ _ _ _ _ _ _ _ _ _ _ F0 ?_
  clear F0
  intro _ _ _
  refine @sp_cons _ _ _ _ _ _ _ _ _ _ ?_ (by rfl)
  with_reducible rename Fm _ _ _ _ _ _ _ => F0
  refine @e_int _ _ _ _ _ _ _ _ _ _ _ _ _ _ _ _ F0 ?_
  clear F0
  intro _ _ _
  refine @sp_nil _ _ _ _ _ _ _ _ ?_
  with_reducible rename Fm _ _ _ _ _ _ _ => F0
  refine @n_list _ _ _ _ _ _ _ _ _ _ _ _ _ F0 (by simp [sizeLine_eq]) ?_
  clear F0
  intro _ _ _
  with_reducible rename Fm _ _ _ _ _ _ _ => F0
  refine @st_local _ _ _ _ _ _ _ _ _ _ _ _ _ _ _ F0 (by rfl) ?_ (by rfl) (by rfl)
  clear F0
  intro _ _
  refine @s_assign _ _ _ _ _ _ _ _ _ _ _ ?_ (by rfl)
  refine @e_list _ _ _ _ _ _ _ _ _ ?_
  refine @sp_nil _ _ _ _ _ _ _ _ ?_
  with_reducible rename Fm _ _ _ _ _ _ _ => F0
  refine @n_list _ _ _ _ _ _ _ _ _ _ _ _ _ F0 (by simp [sizeLine_eq]) ?_
  clear F0
  intro _ _ _
  with_reducible rename Fm _ _ _ _ _ _ _ => F0
  refine @st_local _ _ _ _ _ _ _ _ _ _ _ _ _ _ _ F0 (by rfl) ?_ (by rfl) (by rfl)
  clear F0
  intro _ _
  refine @s_for _ _ _ _ _ _ _ _ _ _ _ _ ?_ (by intro _; rfl)
  refine @e_call _ _ _ _ _ _ _ _ _ _ _ ?_
  with_reducible rename Fm _ _ _ _ _ _ _ => F0
  refine @nm_bi _ _ _ _ _ _ _ _ _ _ _ _ _ _ _ _ F0 (by rfl) (by rfl) (by exact bb_range) ?_ (by rfl) (by rfl) (by rfl) (by decide) (by decide)
  refine @cw_ty1 _ _ _ _ _ _ _ _ _ _ ?_ (by rfl)
  with_reducible rename Fm _ _ _ _ _ _ _ => F0
  refine @e_int _ _ _ _ _ _ _ _ _ _ _ _ _ _ _ _ F0 ?_
  clear F0
  intro _ _ _
  rename Fm _ _ _ _ _ _ _ => F
  obtain ⟨B5, k5, F, g5⟩ := F.freezeAt (.tail _ (.head _))
  have ro : Rd B5 _ (dIs [9, 16, 4, 13, 1, 8]) := Rd.list g5 (.cons Rd.int (.cons Rd.int (.cons Rd.int (.cons Rd.int (.cons Rd.int (.cons Rd.int .nil))))))
  replace kB := kB.trans k5
  obtain ⟨fa, fvs, rfl, hfa, hfI⟩ := (rf.kp k5).isList
  have rf5 := rf.kp k5
  refine @b_range1 _ _ _ _ _ _ _ _ _ _ _ _ _ _ R'.h F (by lia) (by lia) fun r s₃ F it => ?_
  obtain ⟨oa, T, ro, F⟩ : ∃ oa T, Rd B5 (.ref oa) (dIs [9, 16, 4, 13, 1, 8]) ∧ Fm (KK w) s B5 L' s₃ [("script", .ref a), ("front", .ref fa), ("own", .ref oa), ("texts", .ref T)] ((T, lsO [] 0) :: (L, oL) :: ob) := ⟨_, _, ro, F.sub ⟨rfl, rfl, rfl, rfl, trivial⟩⟩
  refine @for_iterB _ _ _ _ _ _ _ _ _ _ _ _ _ _ _ _ _ _ _ F (it _) (fun i B₁ l₁ ob₁ => l₁ = ([("script", .ref a), ("front", .ref fa), ("own", .ref oa), ("texts", .ref T)] : Ls) ∧ ∃ vs n g, ob₁ = (T, lsO vs n) :: (L, oL) :: ob ∧ g.length = i ∧ (∀ p ∈ g, p.1 < 4 ∧ p.2 < 5) ∧
    All2 (fun x v => ∃ t, v = Value.str (sOf x) t) (txts c 0 g) vs) ⟨rfl, [], 0, [], rfl, rfl, (by intro p hp; cases hp), .nil⟩ ?_ ?_
  · rintro i B₁ s₅ l₁ ob₁ ex v hi kB1 ⟨rfl, vs', n', g, rfl, hg, hgb, hall⟩ ⟨t', rfl⟩ F
    have hi6 : i < 6 := hi
    with_reducible rename Fm _ _ _ _ _ _ _ => F0
    refine @st_local _ _ _ _ _ _ _ _ _ _ _ _ _ _ _ F0 (by rfl) ?_ (by rfl) (by rfl)
    clear F0
    intro _ _
    refine @s_assign _ _ _ _ _ _ _ _ _ _ _ ?_ (by rfl)
    refine wpAny_BinOp ?_
    refine @e_call _ _ _ _ _ _ _ _ _ _ _ ?_
    with_reducible rename Fm _ _ _ _ _ _ _ => F0
    refine @nm_bi _ _ _ _ _ _ _ _ _ _ _ _ _ _ _ _ F0 (by rfl) (by rfl) (by exact bb_sum) ?_ (by rfl) (by rfl) (by rfl) (by decide) (by decide)
    refine @cw_bi1 _ _ _ _ _ _ _ _ _ _ ?_ (by rfl)
    refine Subscript_ ?_
    with_reducible rename Fm _ _ _ _ _ _ _ => F0
    refine @nm_local _ _ _ _ _ _ _ _ _ _ _ _ _ _ _ _ F0 (by rfl) (by rfl) ?_ (by rfl) (by rfl) (by decide)
    refine @e_slice _ _ _ _ _ _ _ _ _ _ _ ?_
    refine @ep_some _ _ _ _ _ _ _ _ ?_
    with_reducible rename Fm _ _ _ _ _ _ _ => F0
    refine @nm_local _ _ _ _ _ _ _ _ _ _ _ _ _ _ _ _ F0 (by rfl) (by rfl) ?_ (by rfl) (by rfl) (by decide)
    refine @ep_none _ _ _ _ _ _ _ ?_
    refine @ep_some _ _ _ _ _ _ _ _ ?_
    with_reducible rename Fm _ _ _ _ _ _ _ => F0
    refine @e_int _ _ _ _ _ _ _ _ _ _ _ _ _ _ _ _ F0 ?_
    clear F0
    intro _ _ _
    rename Fm _ _ _ _ _ _ _ => F
    intro S s₆ gS hS
    replace F := F.gr gS
    have kb := kB.trans kB1
    refine @sub_slice _ _ _ _ _ _ _ _ _ _ _ _ _ _ _ _ _ _ _ _ _ _ _ _ F (let ⟨o, ho, r⟩ := ha; ⟨o, F.kp _ _ (kb _ _ ho), r⟩) hS (.int _ _) .none (.int _ _) (by simp) (by rw [sizeLine_eq]; simp at hlen; lia) (fun D s₇ F => ?_) (by with_unfolding_all rfl)
    obtain ⟨ms, hms⟩ := ints_of (vs := (slicePick vs (some (i : Int)) none (some 6)).toList) fun v hv => ints_mem hI v (pick_mem hv)
    refine @b_sum _ _ _ _ _ _ _ _ _ _ _ _ _ _ _ F R'.h ⟨_, F.get (.head _), rfl, 0, rfl⟩ (by simpa using hms) fun t s₈ F => ?_
    replace F := F.drop (List.sublist_cons_self _ _)
    refine Subscript_ ?_
    with_reducible rename Fm _ _ _ _ _ _ _ => F0
    refine @nm_local _ _ _ _ _ _ _ _ _ _ _ _ _ _ _ _ F0 (by rfl) (by rfl) ?_ (by rfl) (by rfl) (by decide)
    with_reducible rename Fm _ _ _ _ _ _ _ => F0
    refine @nm_local _ _ _ _ _ _ _ _ _ _ _ _ _ _ _ _ F0 (by rfl) (by rfl) ?_ (by rfl) (by rfl) (by decide)
    rename Fm _ _ _ _ _ _ _ => F
    refine @sub_D _ _ _ _ _ _ _ _ _ _ _ _ _ _ _ _ _ _ _ F (ro.kp kB1) (by lia) (by lia) (getI (by simp; omega)) (fun x rx => ?_) (by intro _; with_unfolding_all rfl)
    obtain ⟨tx, rfl⟩ := rx.int_inv
    generalize hN : ms.sum + [(9 : Int), 16, 4, 13, 1, 8].getD ((i : Int)).toNat 0 = N
    with_reducible rename Fm _ _ _ _ _ _ _ => F0
    refine @o_add _ _ _ _ _ _ _ _ _ _ _ _ _ _ _ _ F0 ?_
    clear F0
    intro _ _ _
    with_reducible rename Fm _ _ _ _ _ _ _ => F0
    refine @st_local _ _ _ _ _ _ _ _ _ _ _ _ _ _ _ F0 (by rfl) ?_ (by rfl) (by rfl)
    clear F0
    intro _ _
    rename Fm _ _ _ _ _ _ _ => F
    rw [hN] at F
    refine @s_cut _ _ _ _ _ _ _ _ _ (fun s' => ∃ B₂ rv tN, Kp B₁ B₂ ∧ Rd B₂ rv (dIs (frAt c i)) ∧ Fm (KK w) s B₂ L' s' [("script", .ref a), ("front", .ref fa), ("own", .ref oa), ("texts", .ref T), ("number", .int N tN), ("runs", rv)] ((T, lsO vs' n') :: (L, oL) :: ob ++ ex)) ?_ ?_
    · refine @s_assign _ _ _ _ _ _ _ _ _ _ _ ?_ (by rfl)
      refine @e_ifexp _ _ _ _ _ _ _ _ _ _ _ ?_
      refine wpAny_isTrue_Compare1 ?_ (by rfl)
      refine wpAny_BinOp ?_
      with_reducible rename Fm _ _ _ _ _ _ _ => F0
      refine @nm_local _ _ _ _ _ _ _ _ _ _ _ _ _ _ _ _ F0 (by rfl) (by rfl) ?_ (by rfl) (by rfl) (by decide)
      with_reducible rename Fm _ _ _ _ _ _ _ => F0
      refine @e_int _ _ _ _ _ _ _ _ _ _ _ _ _ _ _ _ F0 ?_
      clear F0
      intro _ _ _
      rename Fm _ _ _ _ _ _ _ => F
      refine @o_mod _ _ _ _ _ _ _ _ _ _ _ _ _ _ _ _ F (by lia) fun _ _ F => ?_
      with_reducible rename Fm _ _ _ _ _ _ _ => F0
      refine @e_int _ _ _ _ _ _ _ _ _ _ _ _ _ _ _ _ F0 ?_
      clear F0
      intro _ _ _
      refine @c_eq _ _ _ _ _ _ _ _ _ _ ?_
      refine wpAny_truthy_bool ?_
      refine @ite_d _ _ _ _ (fun c1 => ?_) (fun c1 => ?_)
      · with_reducible rename Fm _ _ _ _ _ _ _ => F0
        refine @nm_local _ _ _ _ _ _ _ _ _ _ _ _ _ _ _ _ F0 (by rfl) (by rfl) ?_ (by rfl) (by rfl) (by decide)
        with_reducible rename Fm _ _ _ _ _ _ _ => F0
        refine @st_local _ _ _ _ _ _ _ _ _ _ _ _ _ _ _ F0 (by rfl) ?_ (by rfl) (by rfl)
        clear F0
        intro _ _
        refine @s_nil _ _ _ _ _ _ ?_
        rename Fm _ _ _ _ _ _ _ => F
        refine ⟨rfl, B₁, _, _, Kp.rfl, ?_, F.sub ⟨rfl, rfl, rfl, rfl, rfl, rfl, trivial⟩⟩
        unfold frAt
        rw [if_pos (by lia)]
        exact rf5.kp kB1
      · refine Subscript_ ?_
        with_reducible rename Fm _ _ _ _ _ _ _ => F0
        refine @nm_local _ _ _ _ _ _ _ _ _ _ _ _ _ _ _ _ F0 (by rfl) (by rfl) ?_ (by rfl) (by rfl) (by decide)
        refine @e_slice _ _ _ _ _ _ _ _ _ _ _ ?_
        refine @ep_none _ _ _ _ _ _ _ ?_
        refine @ep_none _ _ _ _ _ _ _ ?_
        refine @ep_some _ _ _ _ _ _ _ _ ?_
        refine wpAny_UnaryOp ?_
        with_reducible rename Fm _ _ _ _ _ _ _ => F0
        refine @e_int _ _ _ _ _ _ _ _ _ _ _ _ _ _ _ _ F0 ?_
        clear F0
        intro _ _ _
        rename Fm _ _ _ _ _ _ _ => F
        refine @o_neg _ _ _ _ _ _ _ _ _ _ _ _ _ _ F fun _ _ F => ?_
        intro S s₆ gS hS
        replace F := F.gr gS
        refine @sub_slice _ _ _ _ _ _ _ _ _ _ _ _ _ _ _ _ _ _ _ _ _ _ _ _ F (let ⟨o, ho, r⟩ := hfa; ⟨o, F.kp _ _ (kB1 _ _ ho), r⟩) hS .none .none (.int _ _) (by simp) (by have := hfI.length; have := frAt_len c 0; simp [frAt] at this; rw [sizeLine_eq]; simp at *; lia) (fun D s₇ F => ?_) (by with_unfolding_all rfl)
        obtain ⟨B₂, k2, F, gD⟩ := F.freezeAt (.head _)
        with_reducible rename Fm _ _ _ _ _ _ _ => F0
        refine @st_local _ _ _ _ _ _ _ _ _ _ _ _ _ _ _ F0 (by rfl) ?_ (by rfl) (by rfl)
        clear F0
        intro _ _
        refine @s_nil _ _ _ _ _ _ ?_
        rename Fm _ _ _ _ _ _ _ => F
        refine ⟨rfl, B₂, _, _, k2, ?_, F.sub ⟨rfl, rfl, rfl, rfl, rfl, rfl, trivial⟩⟩
        unfold frAt
        rw [if_neg (by lia)]
        refine Rd.list gD ?_
        rw [pick_rev, List.map_reverse]
        exact (hfI.kp (kB1.trans k2)).reverse
    · rintro s₆ ⟨B₂, rv, tN, k2, rr, F⟩
      refine @s_expr _ _ _ _ _ _ _ _ _ _ ?_ (by rfl) (by rfl)
      refine @e_meth _ _ _ _ _ _ _ _ _ _ _ _ ?_ (by rfl) (by rfl) (by rfl)
      with_reducible rename Fm _ _ _ _ _ _ _ => F0
      refine @nm_local _ _ _ _ _ _ _ _ _ _ _ _ _ _ _ _ F0 (by rfl) (by rfl) ?_ (by rfl) (by rfl) (by decide)
      with_reducible rename Fm _ _ _ _ _ _ _ => F0
      refine @gm_list _ _ _ _ _ _ _ _ _ _ _ _ (Fm.get F0 (by exact List.Mem.head _)) PySem.F.slot_list_append PySem.F.type_list_append ?_
      refine @cwb_M1 _ _ _ _ _ _ _ _ _ _ _ ?_ (by rfl)
      refine wpAny_BinOp ?_
      refine wpAny_BinOp ?_
      refine wpAny_BinOp ?_
      refine @e_meth _ _ _ _ _ _ _ _ _ _ _ _ ?_ (by rfl) (by rfl) (by rfl)
      with_reducible rename Fm _ _ _ _ _ _ _ => F0
      refine @e_str _ _ _ _ _ _ _ _ _ _ _ _ _ _ _ _ F0 ?_
      clear F0
      intro _ _ _
      refine @gm_join _ _ _ _ _ _ _ _ _ ?_
      refine @cwb_M1 _ _ _ _ _ _ _ _ _ _ _ ?_ (by rfl)
      refine @e_compC _ _ _ _ _ _ _ _ _ _ _ _ _ _ ?_ (by rfl) (by rfl) (by decide +kernel) (by intro _; rfl)
      with_reducible rename Fm _ _ _ _ _ _ _ => F0
      refine @nm_local _ _ _ _ _ _ _ _ _ _ _ _ _ _ _ _ F0 (by rfl) (by rfl) ?_ (by rfl) (by rfl) (by decide)
      rename Fm _ _ _ _ _ _ _ => F
      refine @comp_map _ _ _ _ _ _ _ _ _ _ _ _ _ _ _ _ _ _ _ _ _ _ _ _ F (it_ints R'.h F.kp rr) (by have := frAt_len c i; rw [sizeLine_eq]; lia) (fun r => List.replicate r.toNat 32 ++ [9]) (fun _ x v => ∃ t, v = Value.str (sOf x) t) (fun _ _ _ _ _ h => h) (fun _ ob => ob = []) (fun _ => rfl) ?_ ?_ (fun _ _ => rfl)
      · rintro C B₁' s' ob₁ ex' r v hm kB' ⟨tr, rfl⟩ rfl hob F
        have hr := frAt_mem hm
        refine @a_name _ _ _ _ _ _ _ _ _ _ ?_
        with_reducible rename Fm _ _ _ _ _ _ _ => F0
        refine @st_local _ _ _ _ _ _ _ _ _ _ _ _ _ _ _ F0 (by rfl) ?_ (by rfl) (by rfl)
        clear F0
        intro _ _
        refine wpAny_BinOp ?_
        refine wpAny_BinOp ?_
        with_reducible rename Fm _ _ _ _ _ _ _ => F0
        refine @e_str _ _ _ _ _ _ _ _ _ _ _ _ _ _ _ _ F0 ?_
        clear F0
        intro _ _ _
        with_reducible rename Fm _ _ _ _ _ _ _ => F0
        refine @nm_local _ _ _ _ _ _ _ _ _ _ _ _ _ _ _ _ F0 (by rfl) (by rfl) ?_ (by rfl) (by rfl) (by decide)
        rename Fm _ _ _ _ _ _ _ => F
        rw [strS]
        refine @o_mulS _ _ _ _ _ _ _ _ _ _ _ _ _ _ _ _ F (by lia) (by lia) fun _ _ F => ?_
        with_reducible rename Fm _ _ _ _ _ _ _ => F0
        refine @e_str _ _ _ _ _ _ _ _ _ _ _ _ _ _ _ _ F0 ?_
        clear F0
        intro _ _ _
        rename Fm _ _ _ _ _ _ _ => F
        rw [strT]
        refine @o_addS _ _ _ _ _ _ _ _ _ _ _ _ (List.replicate r.toNat 32) ([9]) _ _ F (by simp; lia) fun t' s₈ F => ?_
        exact ⟨B₁', [], _, Kp.rfl, rfl, ⟨_, rfl⟩, F⟩
      · intro D s' B₃ ys k kB3 F hD hall'
        have hfr := runTxt_len c i
        have hlr := frAt_len c i
        skip
        rename Fm _ _ _ _ _ _ _ => F
        rw [strE]
        refine @b_join _ _ _ _ _ _ _ _ _ _ _ _ _ _ _ _ F (let ⟨o, ho, r⟩ := (⟨_, hD, rfl, k, rfl⟩ : B₃.IsList D ys.toArray); ⟨o, F.kp _ _ ho, r⟩) (by simpa using hall') (by rw [← List.length_flatten, List.length_map]; unfold runTxt at hfr; lia) fun t' s₈ F => ?_
        refine wpAny_BinOp ?_
        with_reducible rename Fm _ _ _ _ _ _ _ => F0
        refine @e_str _ _ _ _ _ _ _ _ _ _ _ _ _ _ _ _ F0 ?_
        clear F0
        intro _ _ _
        refine wpAny_BinOp ?_
        with_reducible rename Fm _ _ _ _ _ _ _ => F0
        refine @nm_local _ _ _ _ _ _ _ _ _ _ _ _ _ _ _ _ F0 (by rfl) (by rfl) ?_ (by rfl) (by rfl) (by decide)
        with_reducible rename Fm _ _ _ _ _ _ _ => F0
        refine @e_int _ _ _ _ _ _ _ _ _ _ _ _ _ _ _ _ F0 ?_
        clear F0
        intro _ _ _
        rename Fm _ _ _ _ _ _ _ => F
        refine @o_mod _ _ _ _ _ _ _ _ _ _ _ _ _ _ _ _ F (by lia) fun _ _ F => ?_
        rw [strT]
        have hm4 : 0 ≤ N % 4 ∧ N % 4 < 4 := by omega
        refine @o_mulS _ _ _ _ _ _ _ _ _ _ _ _ _ _ _ _ F (by lia) (by lia) fun _ _ F => ?_
        refine @o_addS _ _ _ _ _ _ _ _ _ _ _ _ _ _ _ _ F (by unfold runTxt at hfr; simp at hfr ⊢; omega) fun t' s₈ F => ?_
        refine wpAny_BinOp ?_
        with_reducible rename Fm _ _ _ _ _ _ _ => F0
        refine @e_str _ _ _ _ _ _ _ _ _ _ _ _ _ _ _ _ F0 ?_
        clear F0
        intro _ _ _
        refine wpAny_BinOp ?_
        refine wpAny_BinOp ?_
        with_reducible rename Fm _ _ _ _ _ _ _ => F0
        refine @nm_local _ _ _ _ _ _ _ _ _ _ _ _ _ _ _ _ F0 (by rfl) (by rfl) ?_ (by rfl) (by rfl) (by decide)
        with_reducible rename Fm _ _ _ _ _ _ _ => F0
        refine @e_int _ _ _ _ _ _ _ _ _ _ _ _ _ _ _ _ F0 ?_
        clear F0
        intro _ _ _
        rename Fm _ _ _ _ _ _ _ => F
        refine @o_div _ _ _ _ _ _ _ _ _ _ _ _ _ _ _ _ F (by lia) (PyProof.noPylong_small (by lia)) fun _ _ F => ?_
        with_reducible rename Fm _ _ _ _ _ _ _ => F0
        refine @e_int _ _ _ _ _ _ _ _ _ _ _ _ _ _ _ _ F0 ?_
        clear F0
        intro _ _ _
        rename Fm _ _ _ _ _ _ _ => F
        refine @o_mod _ _ _ _ _ _ _ _ _ _ _ _ _ _ _ _ F (by lia) fun _ _ F => ?_
        rw [strS]
        have hm5 : 0 ≤ N / 4 % 5 ∧ N / 4 % 5 < 5 := by lia
        refine @o_mulS _ _ _ _ _ _ _ _ _ _ _ _ _ _ _ _ F (by lia) (by lia) fun _ _ F => ?_
        refine @o_addS _ _ _ _ _ _ _ _ _ _ _ _ _ _ _ _ F (by unfold runTxt at hfr; simp at hfr ⊢; omega) fun t' s₈ F => ?_
        with_reducible rename Fm _ _ _ _ _ _ _ => F0
        refine @e_str _ _ _ _ _ _ _ _ _ _ _ _ _ _ _ _ F0 ?_
        clear F0
        intro _ _ _
        rename Fm _ _ _ _ _ _ _ => F
        rw [strX3]
        refine @o_addS _ _ _ _ _ _ _ _ _ _ _ _ _ _ _ _ F (by unfold runTxt at hfr; simp at hfr ⊢; omega) fun t' s₈ F => ?_
        have hlv : vs'.length ≤ 6 := by have := hall.length; rw [txts_len] at this; lia
        refine @m_append _ _ _ _ _ _ _ _ _ _ _ _ _ _ _ _ _ F (.head _) (by rw [sizeLine_eq]; lia) fun s₉ F => ?_
        refine @s_nil _ _ _ _ _ _ ?_
        with_reducible refine @lp_next _ _ _ ?_
        rename Fm _ _ _ _ _ _ _ => F
        refine ⟨B₃, _, _, k2.trans kB3, ⟨rfl, _, _, g ++ [((N % 4).toNat, (N / 4 % 5).toNat)], rfl, by simp; omega, ?_, ?_⟩, F.sub ⟨rfl, rfl, rfl, rfl, trivial⟩⟩
        · intro p hp
          rcases List.mem_append.mp hp with hp | hp
          · exact hgb p hp
          · rw [List.mem_singleton.mp hp]; simp; omega
        · rw [txts_app, show 0 + g.length = i by lia]
          exact hall.append (.cons ⟨_, rfl⟩ .nil)
  · rintro B₁ s₅ l₁ ob₁ kB1 ⟨rfl, vs', n', g, rfl, hg, hgb, hall⟩ F
    with_reducible refine @then_next _ _ _ _ _ _ _ ?_
    refine @s_ret _ _ _ _ _ _ _ _ _ ?_
    with_reducible rename Fm _ _ _ _ _ _ _ => F0
    refine @nm_local _ _ _ _ _ _ _ _ _ _ _ _ _ _ _ _ F0 (by rfl) (by rfl) ?_ (by rfl) (by rfl) (by decide)
    with_reducible refine @retTo_ret _ _ _ ?_
    rename Fm _ _ _ _ _ _ _ => F
    obtain ⟨B₂, k2, F, gT⟩ := F.freezeAt (.head _)
    have kk := kB.trans (kB1.trans k2)
    refine h _ _ B₂ c g kk (fin F (fun p hp => hp) kk) hc3 hg hgb (Rd.list gT (All2.mapI hall ?_))
    rintro x v ⟨t, rfl⟩
    exact Rd.str
end Mine
end
section
open PySem PySem.W PyProof.Rows PySem.Calls PySem.Spec
set_option maxRecDepth 100000
namespace Mine

def place (b : Bool) (r : List Int) (x : Int) : Nat := if b = true then bisL (fun i => r.getD i 0) x 0 r.length else bisR (fun i => r.getD i 0) x 0 r.length
def insI (b : Bool) : List (List Int) → Int → List (List Int)
  | [], x => [[x]]
  | r :: rs, x => if place b r x = r.length then (r ++ [x]) :: rs else r.set (place b r x) x :: insI b rs (r.getD (place b r x) 0)
def rowsI (b : Bool) (ns : List Int) : List (List Int) := ns.foldl (insI b) []
theorem place_le (b : Bool) (r : List Int) (x : Int) : place b r x ≤ r.length := by
  unfold place; split
  · exact bisL_le _ _ _ _ (Nat.zero_le _)
  · exact bisR_le _ _ _ _ (Nat.zero_le _)
theorem insI_bd (b : Bool) (N : Nat) : ∀ (R : List (List Int)) (x : Int), (∀ r ∈ R, r.length ≤ N) → (insI b R x).length ≤ R.length + 1 ∧ ∀ r ∈ insI b R x, r.length ≤ N + 1
  | [], x, h => by simp [insI]
  | r :: rs, x, h => by
    have h1 := h r (.head _)
    have h2 : ∀ r ∈ rs, r.length ≤ N := fun q hq => h q (.tail _ hq)
    unfold insI
    split
    · refine ⟨by simp, fun q hq => ?_⟩
      rcases List.mem_cons.mp hq with rfl | hq
      · simp; exact h1
      · exact Nat.le_succ_of_le (h2 q hq)
    · have ih := insI_bd b N rs (r.getD (place b r x) 0) h2
      refine ⟨by simp; exact ih.1, fun q hq => ?_⟩
      rcases List.mem_cons.mp hq with rfl | hq
      · simp; lia
      · exact ih.2 q hq
theorem insI_snoc (b : Bool) {R : List (List Int)} {k : Nat} {r : List Int} {m : Int} (hr : R[k]? = some r) (hp : place b r m = r.length) : R.take k ++ insI b (R.drop k) m = R.set k (r ++ [m]) := by
  obtain ⟨hk, e⟩ := List.getElem?_eq_some_iff.mp hr
  rw [List.drop_eq_getElem_cons hk, e, insI, if_pos hp, List.set_eq_take_append_cons_drop, if_pos hk]
theorem insI_step (b : Bool) {R : List (List Int)} {k : Nat} {r : List Int} {m : Int} (hr : R[k]? = some r) (hp : place b r m ≠ r.length) :
    R.take k ++ insI b (R.drop k) m = (R.set k (r.set (place b r m) m)).take (k + 1) ++ insI b ((R.set k (r.set (place b r m) m)).drop (k + 1)) (r.getD (place b r m) 0) := by
  obtain ⟨hk, e⟩ := List.getElem?_eq_some_iff.mp hr
  rw [List.drop_eq_getElem_cons hk, e, insI, if_neg hp]
  generalize r.set (place b r m) m = r'
  rw [List.set_eq_take_append_cons_drop, if_pos hk]
  have h1 : (R.take k).length = k := by rw [List.length_take]; lia
  rw [List.take_append, List.drop_append, h1]
  have h2 : List.drop (k + 1) (List.take k R) = [] := List.drop_eq_nil_of_le (by lia)
  simp [List.take_take, h2]
set_option maxHeartbeats 4000000 in
theorem rows_spec {w : World} {A : Around} {s₀ s : Shared} {B : Heap} {L : Addr} {l : Ls} {ob : Ob} {v : Value} {ns : List Int} {b : Bool} {Q E} (F : Fm (KK w) s₀ B L s l ob) (R : Rm A 11) (hv : Rd B v (dIs ns)) (hn : ns.length < 800)
    (h : ∀ v' s' B', Kp B B' → Fm (KK w) s₀ B' L s' l ob → Rd B' v' (.list ((rowsI b ns).map dIs)) → Q v' s') : wpAny (model PP w) A (call (.ref 142) [v, .bool b]) Q E s := by
  refine @call_fnG _ _ _ _ _ _ _ _ _ _ _ _ [("numbers", v), ("strict", .bool b)] _ _ _ _ _ _ _ _ _ _ _ _ _ _ _ _ _ _ _ _ F R (by rfl) (by rfl) (BindsTo.of_eq (by rfl)) (fun L' s₁ A' A₁ oL hL F' R' => ?_) (by rfl) (by rfl)
  have fin : ∀ {B₂ : Heap} {s'' : Shared} {l'' : Ls} {ob'' : Ob}, Fm (KK w) s B₂ L' s'' l'' ob'' → (∀ p ∈ (L, oL) :: ob, p ∈ ob'') → Kp B B₂ → Fm (KK w) s₀ B₂ L s'' l ob := fun F' hm k => F.leave hL F' hm k
  clear F
  replace F' : Fm (KK w) s B L' s₁ [] ((L, oL) :: ob) := F'
  have R8 : Rm A' 8 := R'.le (by lia)
  have hh := R'.h
  refine @binds_cons _ _ _ _ _ _ _ _ _ ?_
  with_reducible rename Fm _ _ _ _ _ _ _ => F0
  refine @st_local _ _ _ _ _ _ _ _ _ _ _ _ _ _ _ F0 (by rfl) ?_ (by rfl) (by rfl)
  clear F0
  intro _ _
  refine @binds_cons _ _ _ _ _ _ _ _ _ ?_
  with_reducible rename Fm _ _ _ _ _ _ _ => F0
  refine @st_local _ _ _ _ _ _ _ _ _ _ _ _ _ _ _ F0 (by rfl) ?_ (by rfl) (by rfl)
  clear F0
  intro _ _
  refine @binds_nil _ _ _ _ _ _ ?_
  with_reducible rename Fm _ _ _ _ _ _ _ => F0
  refine ⟨Fm.gdh F0, ?_⟩
  refine @s_assign _ _ _ _ _ _ _ _ _ _ _ ?_ (by rfl)
  refine @e_list _ _ _ _ _ _ _ _ _ ?_
  refine @sp_nil _ _ _ _ _ _ _ _ ?_
  with_reducible rename Fm _ _ _ _ _ _ _ => F0
  refine @n_list _ _ _ _ _ _ _ _ _ _ _ _ _ F0 (by simp [sizeLine_eq]) ?_
  clear F0
  intro _ _ _
  with_reducible rename Fm _ _ _ _ _ _ _ => F0
  refine @st_local _ _ _ _ _ _ _ _ _ _ _ _ _ _ _ F0 (by rfl) ?_ (by rfl) (by rfl)
  clear F0
  intro _ _
  refine @s_for _ _ _ _ _ _ _ _ _ _ _ _ ?_ (by intro _; rfl)
  with_reducible rename Fm _ _ _ _ _ _ _ => F0
  refine @nm_local _ _ _ _ _ _ _ _ _ _ _ _ _ _ _ _ F0 (by rfl) (by rfl) ?_ (by rfl) (by rfl) (by decide)
  rename Fm _ _ _ _ _ _ _ => F
  obtain ⟨Ra, F⟩ : ∃ Ra, Fm (KK w) s B L' _ [("numbers", v), ("strict", .bool b), ("rows", .ref Ra)] ((Ra, lsO (rRef []) 0) :: (rOb [] ++ ((L, oL) :: ob))) := ⟨_, F.sub ⟨rfl, rfl, rfl, trivial⟩⟩
  refine @for_iter _ _ _ _ _ _ _ _ _ _ _ _ _ _ _ _ _ _ _ F (it_ints R'.h F.kp hv) (fun i l₁ ob₁ => l₁ = ([("numbers", v), ("strict", .bool b), ("rows", .ref Ra)] : Ls) ∧ ∃ rs n R, ob₁ = (Ra, lsO (rRef rs) n) :: (rOb rs ++ ((L, oL) :: ob)) ∧ All2 (fun r ns => IntsAre r.2.1 ns) rs R ∧ R = rowsI b (ns.take i) ∧ R.length ≤ i ∧ ∀ r ∈ R, r.length ≤ i) ⟨rfl, [], 0, [], rfl, .nil, rfl, Nat.le_refl _, by intro r hr; cases hr⟩ ?_ ?_
  · rintro i s₅ l₁ ob₁ ex xv hi ⟨rfl, rs, n, R, rfl, hall, hR, hRl, hRm⟩ ⟨x, hx, t, rfl⟩ F
    with_reducible rename Fm _ _ _ _ _ _ _ => F0
    refine @st_local _ _ _ _ _ _ _ _ _ _ _ _ _ _ _ F0 (by rfl) ?_ (by rfl) (by rfl)
    clear F0
    intro _ _
    refine @s_assign _ _ _ _ _ _ _ _ _ _ _ ?_ (by rfl)
    with_reducible rename Fm _ _ _ _ _ _ _ => F0
    refine @nm_local _ _ _ _ _ _ _ _ _ _ _ _ _ _ _ _ F0 (by rfl) (by rfl) ?_ (by rfl) (by rfl) (by decide)
    with_reducible rename Fm _ _ _ _ _ _ _ => F0
    refine @st_local _ _ _ _ _ _ _ _ _ _ _ _ _ _ _ F0 (by rfl) ?_ (by rfl) (by rfl)
    clear F0
    intro _ _
    refine @s_assign _ _ _ _ _ _ _ _ _ _ _ ?_ (by rfl)
    with_reducible rename Fm _ _ _ _ _ _ _ => F0
    refine @e_int _ _ _ _ _ _ _ _ _ _ _ _ _ _ _ _ F0 ?_
    clear F0
    intro _ _ _
    with_reducible rename Fm _ _ _ _ _ _ _ => F0
    refine @st_local _ _ _ _ _ _ _ _ _ _ _ _ _ _ _ F0 (by rfl) ?_ (by rfl) (by rfl)
    clear F0
    intro _ _
    rename Fm _ _ _ _ _ _ _ => F
    have hRi : rowsI b (ns.take (i + 1)) = insI b R x := by
      have : ns.take (i + 1) = ns.take i ++ [x] := by rw [List.take_add_one, hx]; rfl
      rw [this, hR]; unfold rowsI; rw [List.foldl_append]; rfl
    have hbd := insI_bd b i R x hRm
    refine @s_cut _ _ _ _ _ _ _ _ _ (fun s' => ∃ k m tk tm rs' R', Fm (KK w) s B L' s' [("numbers", v), ("strict", .bool b), ("rows", .ref Ra), ("moved", .int m tm), ("k", .int ((k : Nat) : Int) tk)] ((Ra, lsO (rRef rs') n) :: (rOb rs' ++ ((L, oL) :: ob)) ++ ex) ∧
      All2 (fun r ns => IntsAre r.2.1 ns) rs' R' ∧ R'.length = R.length ∧ (∀ r ∈ R', r.length ≤ i) ∧ k ≤ R'.length ∧ insI b R x = if k = R'.length then R' ++ [[m]] else R'.set k (R'.getD k [] ++ [m])) ?_ ?_
    · refine @s_whileR _ _ _ _ _ _ _ _ _ _ _ ?_
      replace F := F.sub (l' := [("numbers", v), ("strict", .bool b), ("rows", .ref Ra), ("moved", .int x t), ("k", .int ((0 : Nat) : Int) _)]) ⟨rfl, rfl, rfl, rfl, rfl, trivial⟩
      refine @while_inv _ _ _ _ _ _ _ _ _ _ _ _ _ _ R.length F (fun q l₂ ob₂ => ∃ k m tk tm rs' R', q = R.length - k ∧ l₂ = ([("numbers", v), ("strict", .bool b), ("rows", .ref Ra), ("moved", .int m tm), ("k", .int ((k : Nat) : Int) tk)] : Ls) ∧ ob₂ = (Ra, lsO (rRef rs') n) :: (rOb rs' ++ ((L, oL) :: ob)) ++ ex ∧
        All2 (fun r ns => IntsAre r.2.1 ns) rs' R' ∧ R'.length = R.length ∧ (∀ r ∈ R', r.length ≤ i) ∧ k ≤ R'.length ∧ insI b R x = R'.take k ++ insI b (R'.drop k) m) ⟨0, x, _, _, rs, R, rfl, rfl, rfl, hall, rfl, hRm, Nat.zero_le _, by simp⟩ ?_
      rintro q s₂ l₂ ob₂ ⟨k, m, tk, tm, rs', R', rfl, rfl, rfl, hall', hRl', hRm', hk, he⟩ F
      have hlr := hall'.length
      refine wpAny_isTrue_Compare1 ?_ (by rfl)
      with_reducible rename Fm _ _ _ _ _ _ _ => F0
      refine @nm_local _ _ _ _ _ _ _ _ _ _ _ _ _ _ _ _ F0 (by rfl) (by rfl) ?_ (by rfl) (by rfl) (by decide)
      refine @e_call _ _ _ _ _ _ _ _ _ _ _ ?_
      with_reducible rename Fm _ _ _ _ _ _ _ => F0
      refine @nm_bi _ _ _ _ _ _ _ _ _ _ _ _ _ _ _ _ F0 (by rfl) (by rfl) (by exact bb_len) ?_ (by rfl) (by rfl) (by rfl) (by decide) (by decide)
      refine @cw_bi1 _ _ _ _ _ _ _ _ _ _ ?_ (by rfl)
      with_reducible rename Fm _ _ _ _ _ _ _ => F0
      refine @nm_local _ _ _ _ _ _ _ _ _ _ _ _ _ _ _ _ F0 (by rfl) (by rfl) ?_ (by rfl) (by rfl) (by decide)
      rename Fm _ _ _ _ _ _ _ => F
      refine @b_len_list _ _ _ _ _ _ _ _ _ _ _ _ _ _ F ⟨_, F.get (.head _), rfl, n, rfl⟩ (by simp; lia) fun _ _ F => ?_
      refine @c_lt _ _ _ _ _ _ _ _ _ _ ?_
      refine wpAny_truthy_bool ?_
      rename Fm _ _ _ _ _ _ _ => F
      refine @ite_d _ _ _ _ (fun c => ?_) (fun c => ?_)
      · simp at c
        have hkl : k < R'.length := by lia
        obtain ⟨r, hr⟩ : ∃ r, R'[k]? = some r := ⟨_, List.getElem?_eq_getElem hkl⟩
        obtain ⟨⟨ra, rv, rn⟩, hrs, hri⟩ := hall'.get' hr
        have hrl : rv.length = r.length := hri.length
        have hri' := hRm' r (List.mem_of_getElem? hr)
        have hx1 : (rRef rs').toArray[k]? = some (.ref ra) := by simp [rRef, hrs]
        refine @s_cut _ _ _ _ _ _ _ _ _ (fun s' => ∃ tp, Fm (KK w) s B L' s' [("numbers", v), ("strict", .bool b), ("rows", .ref Ra), ("moved", .int m tm), ("k", .int ((k : Nat) : Int) tk), ("place", .int ((place b r m : Nat) : Int) tp)] ((Ra, lsO (rRef rs') n) :: (rOb rs' ++ ((L, oL) :: ob)) ++ ex)) ?_ ?_
        · refine @s_assign _ _ _ _ _ _ _ _ _ _ _ ?_ (by rfl)
          refine @e_ifexp _ _ _ _ _ _ _ _ _ _ _ ?_
          refine isTrue_plain ?_ (by rfl)
          with_reducible rename Fm _ _ _ _ _ _ _ => F0
          refine @nm_local _ _ _ _ _ _ _ _ _ _ _ _ _ _ _ _ F0 (by rfl) (by rfl) ?_ (by rfl) (by rfl) (by decide)
          refine wpAny_truthy_bool ?_
          refine @ite_b _ _ _ (fun cb => ?_) (fun cb => ?_)
          · refine @e_call _ _ _ _ _ _ _ _ _ _ _ ?_
            with_reducible rename Fm _ _ _ _ _ _ _ => F0
            refine @nm_glob _ _ _ _ _ _ _ _ _ _ _ _ _ _ _ _ F0 (by rfl) (by exact kn_bisect_left _) ?_ (by rfl) (by rfl) (by decide)
            with_reducible rename Fm _ _ _ _ _ _ _ => F0
            refine @cw_F2 _ _ _ _ _ _ _ _ _ _ _ _ (Fm.gdh F0) (by rfl) ?_ (by rfl)
            refine Subscript_ ?_
            with_reducible rename Fm _ _ _ _ _ _ _ => F0
            refine @nm_local _ _ _ _ _ _ _ _ _ _ _ _ _ _ _ _ F0 (by rfl) (by rfl) ?_ (by rfl) (by rfl) (by decide)
            with_reducible rename Fm _ _ _ _ _ _ _ => F0
            refine @nm_local _ _ _ _ _ _ _ _ _ _ _ _ _ _ _ _ F0 (by rfl) (by rfl) ?_ (by rfl) (by rfl) (by decide)
            rename Fm _ _ _ _ _ _ _ => F
            refine @sub_list _ _ _ _ _ _ _ _ _ _ ((rRef rs').toArray) _ _ ⟨_, F.get (.head _), rfl, n, rfl⟩ (by lia) (by lia) (by rw [Int.toNat_natCast]; exact hx1) ?_ (by with_unfolding_all rfl)
            with_reducible rename Fm _ _ _ _ _ _ _ => F0
            refine @nm_local _ _ _ _ _ _ _ _ _ _ _ _ _ _ _ _ F0 (by rfl) (by rfl) ?_ (by rfl) (by rfl) (by decide)
            with_reducible rename Fm _ _ _ _ _ _ _ => F0
            refine ⟨Fm.gdh F0, ?_⟩
            rename Fm _ _ _ _ _ _ _ => F
            obtain ⟨tl, hbd⟩ := bindL0 (a := ra) (x := m) (t := tm) F.gdh
            refine @bisL_nok _ _ _ _ _ _ _ _ _ _ _ _ _ R8 F.gdh ⟨_, F.get (.tail _ (List.mem_append_left _ (List.mem_append_left _ (mem_row hrs)))), rfl, rn, rfl⟩ (by simpa using hri) (by lia) hbd fun tp s₈ g => ?_
            replace F := F.gr g
            with_reducible rename Fm _ _ _ _ _ _ _ => F0
            refine @st_local _ _ _ _ _ _ _ _ _ _ _ _ _ _ _ F0 (by rfl) ?_ (by rfl) (by rfl)
            clear F0
            intro _ _
            refine @s_nil _ _ _ _ _ _ ?_
            rename Fm _ _ _ _ _ _ _ => F
            refine ⟨rfl, tp, ?_⟩
            rw [show place b r m = bisL (fun i => r.getD i 0) m 0 r.length from by unfold place; rw [if_pos cb]]
            exact F
          · refine @e_call _ _ _ _ _ _ _ _ _ _ _ ?_
            with_reducible rename Fm _ _ _ _ _ _ _ => F0
            refine @nm_glob _ _ _ _ _ _ _ _ _ _ _ _ _ _ _ _ F0 (by rfl) (by exact kn_bisect_right _) ?_ (by rfl) (by rfl) (by decide)
            with_reducible rename Fm _ _ _ _ _ _ _ => F0
            refine @cw_F2 _ _ _ _ _ _ _ _ _ _ _ _ (Fm.gdh F0) (by rfl) ?_ (by rfl)
            refine Subscript_ ?_
            with_reducible rename Fm _ _ _ _ _ _ _ => F0
            refine @nm_local _ _ _ _ _ _ _ _ _ _ _ _ _ _ _ _ F0 (by rfl) (by rfl) ?_ (by rfl) (by rfl) (by decide)
            with_reducible rename Fm _ _ _ _ _ _ _ => F0
            refine @nm_local _ _ _ _ _ _ _ _ _ _ _ _ _ _ _ _ F0 (by rfl) (by rfl) ?_ (by rfl) (by rfl) (by decide)
            rename Fm _ _ _ _ _ _ _ => F
            refine @sub_list _ _ _ _ _ _ _ _ _ _ ((rRef rs').toArray) _ _ ⟨_, F.get (.head _), rfl, n, rfl⟩ (by lia) (by lia) (by rw [Int.toNat_natCast]; exact hx1) ?_ (by with_unfolding_all rfl)
            with_reducible rename Fm _ _ _ _ _ _ _ => F0
            refine @nm_local _ _ _ _ _ _ _ _ _ _ _ _ _ _ _ _ F0 (by rfl) (by rfl) ?_ (by rfl) (by rfl) (by decide)
            with_reducible rename Fm _ _ _ _ _ _ _ => F0
            refine ⟨Fm.gdh F0, ?_⟩
            rename Fm _ _ _ _ _ _ _ => F
            obtain ⟨tl, hbd⟩ := bindR0 (a := ra) (x := m) (t := tm) F.gdh
            refine @bisR_nok _ _ _ _ _ _ _ _ _ _ _ _ _ R8 F.gdh ⟨_, F.get (.tail _ (List.mem_append_left _ (List.mem_append_left _ (mem_row hrs)))), rfl, rn, rfl⟩ (by simpa using hri) (by lia) hbd fun tp s₈ g => ?_
            replace F := F.gr g
            with_reducible rename Fm _ _ _ _ _ _ _ => F0
            refine @st_local _ _ _ _ _ _ _ _ _ _ _ _ _ _ _ F0 (by rfl) ?_ (by rfl) (by rfl)
            clear F0
            intro _ _
            refine @s_nil _ _ _ _ _ _ ?_
            rename Fm _ _ _ _ _ _ _ => F
            refine ⟨rfl, tp, ?_⟩
            rw [show place b r m = bisR (fun i => r.getD i 0) m 0 r.length from by unfold place; rw [if_neg (by simp [cb])]]
            exact F
        · rintro s₇ ⟨tp, F⟩
          have hpl := place_le b r m
          have hrow : ∀ {q : Shared} {l : Ls}, Fm (KK w) s B L' q l ((Ra, lsO (rRef rs') n) :: (rOb rs' ++ ((L, oL) :: ob)) ++ ex) → q.heap.get? ra = some (lsO rv rn) := fun F => F.get (.tail _ (List.mem_append_left _ (List.mem_append_left _ (mem_row hrs))))
          refine @s_if _ _ _ _ _ _ _ _ _ _ _ ?_
          refine wpAny_isTrue_Compare1 ?_ (by rfl)
          with_reducible rename Fm _ _ _ _ _ _ _ => F0
          refine @nm_local _ _ _ _ _ _ _ _ _ _ _ _ _ _ _ _ F0 (by rfl) (by rfl) ?_ (by rfl) (by rfl) (by decide)
          refine @e_call _ _ _ _ _ _ _ _ _ _ _ ?_
          with_reducible rename Fm _ _ _ _ _ _ _ => F0
          refine @nm_bi _ _ _ _ _ _ _ _ _ _ _ _ _ _ _ _ F0 (by rfl) (by rfl) (by exact bb_len) ?_ (by rfl) (by rfl) (by rfl) (by decide) (by decide)
          refine @cw_bi1 _ _ _ _ _ _ _ _ _ _ ?_ (by rfl)
          refine Subscript_ ?_
          with_reducible rename Fm _ _ _ _ _ _ _ => F0
          refine @nm_local _ _ _ _ _ _ _ _ _ _ _ _ _ _ _ _ F0 (by rfl) (by rfl) ?_ (by rfl) (by rfl) (by decide)
          with_reducible rename Fm _ _ _ _ _ _ _ => F0
          refine @nm_local _ _ _ _ _ _ _ _ _ _ _ _ _ _ _ _ F0 (by rfl) (by rfl) ?_ (by rfl) (by rfl) (by decide)
          rename Fm _ _ _ _ _ _ _ => F
          refine @sub_list _ _ _ _ _ _ _ _ _ _ ((rRef rs').toArray) _ _ ⟨_, F.get (.head _), rfl, n, rfl⟩ (by lia) (by lia) (by rw [Int.toNat_natCast]; exact hx1) ?_ (by with_unfolding_all rfl)
          skip
          rename Fm _ _ _ _ _ _ _ => F
          refine @b_len_list _ _ _ _ _ _ _ _ _ _ _ _ _ _ F ⟨_, hrow F, rfl, rn, rfl⟩ (by simp; lia) fun _ _ F => ?_
          refine @c_eq _ _ _ _ _ _ _ _ _ _ ?_
          refine wpAny_truthy_bool ?_
          refine @ite_d _ _ _ _ (fun cp => ?_) (fun cp => ?_)
          · simp at cp
            refine @s_brk _ _ _ _ _ _ _ _ ?_
            with_reducible refine @then_brk _ _ _ _ _ _ _ ?_
            with_reducible refine @lp_brk _ _ _ ?_
            with_reducible refine @then_next _ _ _ _ _ _ _ ?_
            refine @s_nil _ _ _ _ _ _ ?_
            rename Fm _ _ _ _ _ _ _ => F
            refine ⟨rfl, k, m, _, _, rs', R', F.sub ⟨rfl, rfl, rfl, rfl, rfl, trivial⟩, hall', hRl', hRm', hk, ?_⟩
            rw [he, if_neg (by lia), insI_snoc b hr (by lia), List.getD_eq_getElem?_getD, hr]; rfl
          · simp at cp
            have hpr : place b r m < r.length := by lia
            refine @s_nil _ _ _ _ _ _ ?_
            with_reducible refine @then_next _ _ _ _ _ _ _ ?_
            refine @s_swapIN _ _ _ _ _ _ _ _ _ _ _ _ _ _ _ _ _ _ _ _ hh ?_ (by rfl) (by rfl) (by rfl)
            with_reducible rename Fm _ _ _ _ _ _ _ => F0
            refine @nm_local _ _ _ _ _ _ _ _ _ _ _ _ _ _ _ _ F0 (by rfl) (by rfl) ?_ (by rfl) (by rfl) (by decide)
            refine Subscript_ ?_
            refine Subscript_ ?_
            with_reducible rename Fm _ _ _ _ _ _ _ => F0
            refine @nm_local _ _ _ _ _ _ _ _ _ _ _ _ _ _ _ _ F0 (by rfl) (by rfl) ?_ (by rfl) (by rfl) (by decide)
            with_reducible rename Fm _ _ _ _ _ _ _ => F0
            refine @nm_local _ _ _ _ _ _ _ _ _ _ _ _ _ _ _ _ F0 (by rfl) (by rfl) ?_ (by rfl) (by rfl) (by decide)
            rename Fm _ _ _ _ _ _ _ => F
            refine @sub_list _ _ _ _ _ _ _ _ _ _ ((rRef rs').toArray) _ _ ⟨_, F.get (.head _), rfl, n, rfl⟩ (by lia) (by lia) (by rw [Int.toNat_natCast]; exact hx1) ?_ (by with_unfolding_all rfl)
            with_reducible rename Fm _ _ _ _ _ _ _ => F0
            refine @nm_local _ _ _ _ _ _ _ _ _ _ _ _ _ _ _ _ F0 (by rfl) (by rfl) ?_ (by rfl) (by rfl) (by decide)
            rename Fm _ _ _ _ _ _ _ => F
            obtain ⟨u', hx2⟩ := hri.get (place b r m) (r.getD (place b r m) 0) (by rw [List.getD_eq_getElem?_getD, List.getElem?_eq_getElem hpr]; rfl)
            refine @sub_list _ _ _ _ _ _ _ _ _ _ (rv.toArray) _ _ ⟨_, hrow F, rfl, rn, rfl⟩ (by lia) (by lia) (by rw [Int.toNat_natCast]; simpa using hx2) ?_ (by with_unfolding_all rfl)
            intro s₈ g
            replace F := F.gr g
            refine Subscript_ ?_
            with_reducible rename Fm _ _ _ _ _ _ _ => F0
            refine @nm_local _ _ _ _ _ _ _ _ _ _ _ _ _ _ _ _ F0 (by rfl) (by rfl) ?_ (by rfl) (by rfl) (by decide)
            with_reducible rename Fm _ _ _ _ _ _ _ => F0
            refine @nm_local _ _ _ _ _ _ _ _ _ _ _ _ _ _ _ _ F0 (by rfl) (by rfl) ?_ (by rfl) (by rfl) (by decide)
            rename Fm _ _ _ _ _ _ _ => F
            refine @sub_list _ _ _ _ _ _ _ _ _ _ ((rRef rs').toArray) _ _ ⟨_, F.get (.head _), rfl, n, rfl⟩ (by lia) (by lia) (by rw [Int.toNat_natCast]; exact hx1) ?_ (by with_unfolding_all rfl)
            with_reducible rename Fm _ _ _ _ _ _ _ => F0
            refine @nm_local _ _ _ _ _ _ _ _ _ _ _ _ _ _ _ _ F0 (by rfl) (by rfl) ?_ (by rfl) (by rfl) (by decide)
            rename Fm _ _ _ _ _ _ _ => F
            refine @i_set _ _ _ _ _ _ _ _ _ _ _ _ _ _ _ _ _ _ _ F (by lia) (by lia) (by lia) (.tail _ (UpO.app _ (UpO.row hrs))) fun s₉ F => ?_
            with_reducible rename Fm _ _ _ _ _ _ _ => F0
            refine @st_local _ _ _ _ _ _ _ _ _ _ _ _ _ _ _ F0 (by rfl) ?_ (by rfl) (by rfl)
            clear F0
            intro _ _
            with_reducible rename Fm _ _ _ _ _ _ _ => F0
            refine @s_aug _ _ _ _ _ _ _ _ _ _ _ _ _ _ _ _ _ _ _ F0 (by rfl) (by rfl) (by rfl) (by rfl) ?_
            with_reducible rename Fm _ _ _ _ _ _ _ => F0
            refine @e_int _ _ _ _ _ _ _ _ _ _ _ _ _ _ _ _ F0 ?_
            clear F0
            intro _ _ _
            with_reducible rename Fm _ _ _ _ _ _ _ => F0
            refine @o_iadd _ _ _ _ _ _ _ _ _ _ _ _ _ _ _ _ F0 ?_
            clear F0
            intro _ _ _
            with_reducible rename Fm _ _ _ _ _ _ _ => F0
            refine @st_local _ _ _ _ _ _ _ _ _ _ _ _ _ _ _ F0 (by rfl) ?_ (by rfl) (by rfl)
            clear F0
            intro _ _
            refine @s_nil _ _ _ _ _ _ ?_
            with_reducible refine @lp_next _ _ _ ?_
            rename Fm _ _ _ _ _ _ _ => F
            rw [Int.toNat_natCast] at F
            replace F := F.sub (l' := [("numbers", v), ("strict", .bool b), ("rows", .ref Ra), ("moved", .int (r.getD (place b r m) 0) u'), ("k", .int ((k + 1 : Nat) : Int) _)]) ⟨rfl, rfl, rfl, rfl, rfl, trivial⟩
            rw [← rRef_set (vs' := rv.set (place b r m) (.int m tm)) (n' := rn) hrs] at F
            refine ⟨R.length - (k + 1), _, _, by lia, ⟨k + 1, r.getD (place b r m) 0, _, u', rs'.set k (ra, rv.set (place b r m) (.int m tm), rn), R'.set k (r.set (place b r m) m), rfl, rfl, rfl, ?_, ?_, ?_, ?_, ?_⟩, F⟩
            · have := hall'.set k (a := (ra, rv.set (place b r m) (.int m tm), rn)) (b := r.set (place b r m) m) (ints_setI (vs := []) (ns := []) m tm _ hri)
              exact this
            · simp; exact hRl'
            · intro q hq
              rcases List.mem_or_eq_of_mem_set hq with hq | rfl
              · exact hRm' q hq
              · simp; exact hri'
            · simp; lia
            · rw [he]; exact insI_step b hr (by lia)
      · simp at c
        have hkl : k = R'.length := by lia
        with_reducible refine @then_next _ _ _ _ _ _ _ ?_
        refine @s_nil _ _ _ _ _ _ ?_
        rename Fm _ _ _ _ _ _ _ => F
        refine ⟨rfl, k, m, _, _, rs', R', F.sub ⟨rfl, rfl, rfl, rfl, rfl, trivial⟩, hall', hRl', hRm', hk, ?_⟩
        rw [he, if_pos hkl, List.take_of_length_le (by lia), List.drop_eq_nil_of_le (by lia)]; rfl
    · rintro s₆ ⟨k, m, tk, tm, rs', R', F, hall', hRl', hRm', hk, he⟩
      have hlr := hall'.length
      refine @s_cut _ _ _ _ _ _ _ _ _ (fun s' => ∃ rs' n' R', Fm (KK w) s B L' s' [("numbers", v), ("strict", .bool b), ("rows", .ref Ra), ("moved", .int m tm), ("k", .int ((k : Nat) : Int) tk)] ((Ra, lsO (rRef rs') n') :: (rOb rs' ++ ((L, oL) :: ob)) ++ ex) ∧
        All2 (fun r ns => IntsAre r.2.1 ns) rs' R' ∧ R'.length ≤ i + 1 ∧ (∀ r ∈ R', r.length ≤ i) ∧ k < R'.length ∧ insI b R x = R'.set k (R'.getD k [] ++ [m])) ?_ ?_
      · refine @s_if _ _ _ _ _ _ _ _ _ _ _ ?_
        refine wpAny_isTrue_Compare1 ?_ (by rfl)
        with_reducible rename Fm _ _ _ _ _ _ _ => F0
        refine @nm_local _ _ _ _ _ _ _ _ _ _ _ _ _ _ _ _ F0 (by rfl) (by rfl) ?_ (by rfl) (by rfl) (by decide)
        refine @e_call _ _ _ _ _ _ _ _ _ _ _ ?_
        with_reducible rename Fm _ _ _ _ _ _ _ => F0
        refine @nm_bi _ _ _ _ _ _ _ _ _ _ _ _ _ _ _ _ F0 (by rfl) (by rfl) (by exact bb_len) ?_ (by rfl) (by rfl) (by rfl) (by decide) (by decide)
        refine @cw_bi1 _ _ _ _ _ _ _ _ _ _ ?_ (by rfl)
        with_reducible rename Fm _ _ _ _ _ _ _ => F0
        refine @nm_local _ _ _ _ _ _ _ _ _ _ _ _ _ _ _ _ F0 (by rfl) (by rfl) ?_ (by rfl) (by rfl) (by decide)
        rename Fm _ _ _ _ _ _ _ => F
        refine @b_len_list _ _ _ _ _ _ _ _ _ _ _ _ _ _ F ⟨_, F.get (.head _), rfl, n, rfl⟩ (by simp; lia) fun _ _ F => ?_
        refine @c_eq _ _ _ _ _ _ _ _ _ _ ?_
        refine wpAny_truthy_bool ?_
        refine @ite_d _ _ _ _ (fun c => ?_) (fun c => ?_)
        · simp at c
          refine @s_expr _ _ _ _ _ _ _ _ _ _ ?_ (by rfl) (by rfl)
          refine @e_meth _ _ _ _ _ _ _ _ _ _ _ _ ?_ (by rfl) (by rfl) (by rfl)
          with_reducible rename Fm _ _ _ _ _ _ _ => F0
          refine @nm_local _ _ _ _ _ _ _ _ _ _ _ _ _ _ _ _ F0 (by rfl) (by rfl) ?_ (by rfl) (by rfl) (by decide)
          with_reducible rename Fm _ _ _ _ _ _ _ => F0
          refine @gm_list _ _ _ _ _ _ _ _ _ _ _ _ (Fm.get F0 (by exact List.Mem.head _)) PySem.F.slot_list_append PySem.F.type_list_append ?_
          refine @cwb_M1 _ _ _ _ _ _ _ _ _ _ _ ?_ (by rfl)
          refine @e_list _ _ _ _ _ _ _ _ _ ?_
          refine @sp_nil _ _ _ _ _ _ _ _ ?_
          with_reducible rename Fm _ _ _ _ _ _ _ => F0
          refine @n_list _ _ _ _ _ _ _ _ _ _ _ _ _ F0 (by simp [sizeLine_eq]) ?_
          clear F0
          intro _ _ _
          rename Fm _ _ _ _ _ _ _ => F
          refine @m_append _ _ _ _ _ _ _ _ _ _ _ _ _ _ _ _ _ F (.tail _ (.head _)) (by rw [sizeLine_eq]; simp; lia) fun s₈ F => ?_
          rename Addr => na
          refine @s_nil _ _ _ _ _ _ ?_
          with_reducible refine @then_next _ _ _ _ _ _ _ ?_
          refine @s_nil _ _ _ _ _ _ ?_
          rename Fm _ _ _ _ _ _ _ => F
          refine ⟨rfl, rs' ++ [(na, [], 0)], n + 1, R' ++ [[]], ?_, hall'.append (.cons .nil .nil), by simp; lia, ?_, by simp; lia, ?_⟩
          · have := F.perm (ob' := (Ra, lsO (rRef (rs' ++ [(na, [], 0)])) (n + 1)) :: (rOb (rs' ++ [(na, [], 0)]) ++ ((L, oL) :: ob)) ++ ex) (by
              simp only [rOb, rRef, List.map_append, List.map_cons, List.map_nil, List.cons_append, List.append_assoc, List.nil_append]
              refine (List.Perm.swap _ _ _).trans (List.Perm.cons _ ?_)
              show ((na, lsO [] 0) :: ((rOb rs' ++ ((L, oL) :: ob)) ++ ex)).Perm _
              rw [List.append_assoc]
              exact List.perm_middle.symm)
            exact this
          · intro r hr
            rcases List.mem_append.mp hr with hr | hr
            · exact hRm' r hr
            · rw [List.mem_singleton.mp hr]; simp
          · rw [he, if_pos (by lia), show k = R'.length by lia]; simp
        · simp at c
          refine @s_nil _ _ _ _ _ _ ?_
          with_reducible refine @then_next _ _ _ _ _ _ _ ?_
          refine @s_nil _ _ _ _ _ _ ?_
          rename Fm _ _ _ _ _ _ _ => F
          exact ⟨rfl, rs', n, R', F, hall', by lia, hRm', by lia, by rw [he, if_neg (by lia)]⟩
      · rintro s₇ ⟨rs', n', R', F, hall', hRl', hRm', hk, he⟩
        have hlr := hall'.length
        obtain ⟨r, hr⟩ : ∃ r, R'[k]? = some r := ⟨_, List.getElem?_eq_getElem hk⟩
        obtain ⟨⟨ra, rv, rn⟩, hrs, hri⟩ := hall'.get' hr
        have hrl : rv.length = r.length := hri.length
        have hri' := hRm' r (List.mem_of_getElem? hr)
        have hx1 : (rRef rs').toArray[k]? = some (.ref ra) := by simp [rRef, hrs]
        refine @s_expr _ _ _ _ _ _ _ _ _ _ ?_ (by rfl) (by rfl)
        refine @e_meth _ _ _ _ _ _ _ _ _ _ _ _ ?_ (by rfl) (by rfl) (by rfl)
        refine Subscript_ ?_
        with_reducible rename Fm _ _ _ _ _ _ _ => F0
        refine @nm_local _ _ _ _ _ _ _ _ _ _ _ _ _ _ _ _ F0 (by rfl) (by rfl) ?_ (by rfl) (by rfl) (by decide)
        with_reducible rename Fm _ _ _ _ _ _ _ => F0
        refine @nm_local _ _ _ _ _ _ _ _ _ _ _ _ _ _ _ _ F0 (by rfl) (by rfl) ?_ (by rfl) (by rfl) (by decide)
        rename Fm _ _ _ _ _ _ _ => F
        refine @sub_list _ _ _ _ _ _ _ _ _ _ ((rRef rs').toArray) _ _ ⟨_, F.get (.head _), rfl, n', rfl⟩ (by lia) (by lia) (by rw [Int.toNat_natCast]; exact hx1) ?_ (by with_unfolding_all rfl)
        refine @gm_list _ _ _ _ _ _ _ _ _ _ _ _ (F.get (.tail _ (List.mem_append_left _ (List.mem_append_left _ (mem_row hrs))))) PySem.F.slot_list_append PySem.F.type_list_append ?_
        refine @cwb_M1 _ _ _ _ _ _ _ _ _ _ _ ?_ (by rfl)
        with_reducible rename Fm _ _ _ _ _ _ _ => F0
        refine @nm_local _ _ _ _ _ _ _ _ _ _ _ _ _ _ _ _ F0 (by rfl) (by rfl) ?_ (by rfl) (by rfl) (by decide)
        rename Fm _ _ _ _ _ _ _ => F
        refine @m_append _ _ _ _ _ _ _ _ _ _ _ _ _ _ _ _ _ F (.tail _ (UpO.app _ (UpO.row hrs))) (by rw [sizeLine_eq]; lia) fun s₈ F => ?_
        refine @s_nil _ _ _ _ _ _ ?_
        with_reducible refine @lp_next _ _ _ ?_
        rename Fm _ _ _ _ _ _ _ => F
        refine ⟨_, _, ⟨rfl, rs'.set k (ra, rv ++ [.int m tm], rn + 1), n', R'.set k (r ++ [m]), rfl, ?_, ?_, ?_, ?_⟩, ?_⟩
        · exact hall'.set k (a := (ra, rv ++ [.int m tm], rn + 1)) (b := r ++ [m]) (ints_snoc hri m tm)
        · rw [hRi, he, List.getD_eq_getElem?_getD, hr]; rfl
        · simp; exact hRl'
        · intro q hq
          rcases List.mem_or_eq_of_mem_set hq with hq | rfl
          · exact Nat.le_succ_of_le (hRm' q hq)
          · simp; exact hri'
        · rw [rRef_set hrs]
          exact F.sub ⟨rfl, rfl, rfl, trivial⟩
  · rintro s₅ l₁ ob₁ ⟨rfl, rs, n, R, rfl, hall, hR, hRl, hRm⟩ F
    with_reducible refine @then_next _ _ _ _ _ _ _ ?_
    refine @s_ret _ _ _ _ _ _ _ _ _ ?_
    with_reducible rename Fm _ _ _ _ _ _ _ => F0
    refine @nm_local _ _ _ _ _ _ _ _ _ _ _ _ _ _ _ _ F0 (by rfl) (by rfl) ?_ (by rfl) (by rfl) (by decide)
    with_reducible refine @retTo_ret _ _ _ ?_
    rename Fm _ _ _ _ _ _ _ => F
    obtain ⟨B₁, k1, F, gR⟩ := Fm.freezeN (xs := (Ra, lsO (rRef rs) n) :: rOb rs) (ob := (L, oL) :: ob) F
    refine h _ _ B₁ k1 (fin F (fun p hp => hp) k1) ?_
    rw [List.take_length] at hR
    rw [← hR]
    refine Rd.list (gR _ (.head _)) ?_
    have q : ∀ {rs : RowS} {R : List (List Int)}, (∀ p ∈ rOb rs, B₁.get? p.1 = some p.2) → All2 (fun r ns => IntsAre r.2.1 ns) rs R → RdL B₁ (R.map dIs) (rRef rs) := by
      intro rs R hg ha
      induction ha with
      | nil => exact .nil
      | cons h _ ih => exact .cons (Rd.list (hg _ (.head _)) (RdL.ints h)) (ih fun p hp => hg p (.tail _ hp))
    exact q (fun p hp => gR p (.tail _ hp)) hall
end Mine
end
section
open PySem PySem.W PyProof.Rows PySem.Calls PySem.Spec
set_option maxRecDepth 100000
namespace Mine

def gTo (low : Nat) (st : List Nat) : Nat → List Nat
  | 0 => st
  | i + 1 => gTo low st i ++ [max ((gTo low st i).getD i 0) (1 + (gTo low st i).getD (i &&& low) 0)]
def sTo (low : Nat) (st : List Nat) : Nat → List Nat
  | 0 => st
  | i + 1 => sTo low st i ++ [max ((sTo low st i).getD i 0) (1 + (sTo low st i).getD (i - (i &&& low)) 0)]
def cTo (st : List Nat) : Nat → List Nat
  | 0 => st
  | i + 1 => cTo st i ++ [(cTo st i).getD i 0 + 1]
def ladTo (low : List Nat) : Nat → List Nat
  | 0 => [0]
  | t + 1 => gTo (low.getD t 0) (ladTo low t) (2 ^ t)
def strTo (low : List Nat) : Nat → List Nat
  | 0 => [0]
  | t + 1 => sTo (low.getD t 0) (strTo low t) (2 ^ t)
def choTo : Nat → List Nat
  | 0 => [0]
  | t + 1 => cTo (choTo t) (2 ^ t)
def byTo (S C B : List Nat) : Nat → List Nat
  | 0 => B
  | m + 1 => (byTo S C B m).set (S.getD m 0) (max ((byTo S C B m).getD (S.getD m 0) 0) (C.getD m 0))
def byOf (S C : List Nat) : List Nat := byTo S C (List.replicate (S.getD (S.length - 1) 0 + 1) 0) C.length
theorem gTo_len (low : Nat) (st : List Nat) : ∀ i, (gTo low st i).length = st.length + i
  | 0 => rfl
  | i + 1 => by rw [gTo, List.length_append, gTo_len low st i]; rfl
theorem sTo_len (low : Nat) (st : List Nat) : ∀ i, (sTo low st i).length = st.length + i
  | 0 => rfl
  | i + 1 => by rw [sTo, List.length_append, sTo_len low st i]; rfl
theorem cTo_len (st : List Nat) : ∀ i, (cTo st i).length = st.length + i
  | 0 => rfl
  | i + 1 => by rw [cTo, List.length_append, cTo_len st i]; rfl
theorem ladTo_len (low : List Nat) : ∀ i, (ladTo low i).length = 2 ^ i
  | 0 => rfl
  | i + 1 => by rw [ladTo, gTo_len, ladTo_len low i, Nat.pow_succ]; lia
theorem strTo_len (low : List Nat) : ∀ i, (strTo low i).length = 2 ^ i
  | 0 => rfl
  | i + 1 => by rw [strTo, sTo_len, strTo_len low i, Nat.pow_succ]; lia
theorem choTo_len : ∀ i, (choTo i).length = 2 ^ i
  | 0 => rfl
  | i + 1 => by rw [choTo, cTo_len, choTo_len i, Nat.pow_succ]; lia
theorem byTo_len (S C B : List Nat) : ∀ i, (byTo S C B i).length = B.length
  | 0 => rfl
  | i + 1 => by rw [byTo, List.length_set, byTo_len S C B i]
set_option maxHeartbeats 4000000 in
theorem choices_spec {w : World} {A : Around} {s₀ s : Shared} {B : Heap} {L : Addr} {l : Ls} {ob : Ob} {v : Value} {low : List Nat} {Q E} (F : Fm (KK w) s₀ B L s l ob) (R : Rm A 3) (hv : Rd B v (dIs (nI low))) (hn : low.length ≤ 6)
    (hbS : ∀ m, m < 2 ^ low.length → (strTo low low.length).getD m 0 ≤ (strTo low low.length).getD (2 ^ low.length - 1) 0) (hbL : ∀ m, m < 2 ^ low.length → (ladTo low low.length).getD m 0 ≤ (ladTo low low.length).getD (2 ^ low.length - 1) 0)
    (hzS : (strTo low low.length).getD (2 ^ low.length - 1) 0 ≤ 100) (hzL : (ladTo low low.length).getD (2 ^ low.length - 1) 0 ≤ 100)
    (h : ∀ v' s' B', Kp B B' → Fm (KK w) s₀ B' L s' l ob → Rd B' v' (.tuple [dIs (nI ((byOf (strTo low low.length) (choTo low.length)).drop 1)), dIs (nI ((byOf (ladTo low low.length) (choTo low.length)).drop 1))]) → Q v' s') :
    wpAny (model PP w) A (call (.ref 149) [v]) Q E s := by
  refine @call_fnG _ _ _ _ _ _ _ _ _ _ _ _ [("lower", v)] _ _ _ _ _ _ _ _ _ _ _ _ _ _ _ _ _ _ _ _ F R (by rfl) (by rfl) (BindsTo.of_eq (by rfl)) (fun L' s₁ A' A₁ oL hL F' R' => ?_) (by rfl) (by rfl)
  have fin : ∀ {B₂ : Heap} {s'' : Shared} {l'' : Ls} {ob'' : Ob}, Fm (KK w) s B₂ L' s'' l'' ob'' → (∀ p ∈ (L, oL) :: ob, p ∈ ob'') → Kp B B₂ → Fm (KK w) s₀ B₂ L s'' l ob := fun F' hm k => F.leave hL F' hm k
  clear F
  replace F' : Fm (KK w) s B L' s₁ [] ((L, oL) :: ob) := F'
  have hh := R'.h
  refine @binds_cons _ _ _ _ _ _ _ _ _ ?_
  with_reducible rename Fm _ _ _ _ _ _ _ => F0
  refine @st_local _ _ _ _ _ _ _ _ _ _ _ _ _ _ _ F0 (by rfl) ?_ (by rfl) (by rfl)
  clear F0
  intro _ _
  refine @binds_nil _ _ _ _ _ _ ?_
  with_reducible rename Fm _ _ _ _ _ _ _ => F0
  refine ⟨Fm.gdh F0, ?_⟩
  refine @s_assign _ _ _ _ _ _ _ _ _ _ _ ?_ (by rfl)
  refine @e_list _ _ _ _ _ _ _ _ _ ?_
  refine @sp_cons _ _ _ _ _ _ _ _ _ _ ?_ (by rfl)
  with_reducible rename Fm _ _ _ _ _ _ _ => F0
  refine @e_int _ _ _ _ _ _ _ _ _ _ _ _ _ _ _ _ F0 ?_
  clear F0
  intro _ _ _
  refine @sp_nil _ _ _ _ _ _ _ _ ?_
  with_reducible rename Fm _ _ _ _ _ _ _ => F0
  refine @n_list _ _ _ _ _ _ _ _ _ _ _ _ _ F0 (by simp [sizeLine_eq]) ?_
  clear F0
  intro _ _ _
  with_reducible rename Fm _ _ _ _ _ _ _ => F0
  refine @st_local _ _ _ _ _ _ _ _ _ _ _ _ _ _ _ F0 (by rfl) ?_ (by rfl) (by rfl)
  clear F0
  intro _ _
  refine @s_assign _ _ _ _ _ _ _ _ _ _ _ ?_ (by rfl)
  refine @e_list _ _ _ _ _ _ _ _ _ ?_
  refine @sp_cons _ _ _ _ _ _ _ _ _ _ ?_ (by rfl)
  with_reducible rename Fm _ _ _ _ _ _ _ => F0
  refine @e_int _ _ _ _ _ _ _ _ _ _ _ _ _ _ _ _ F0 ?_
  clear F0
  intro _ _ _
  refine @sp_nil _ _ _ _ _ _ _ _ ?_
  with_reducible rename Fm _ _ _ _ _ _ _ => F0
  refine @n_list _ _ _ _ _ _ _ _ _ _ _ _ _ F0 (by simp [sizeLine_eq]) ?_
  clear F0
  intro _ _ _
  with_reducible rename Fm _ _ _ _ _ _ _ => F0
  refine @st_local _ _ _ _ _ _ _ _ _ _ _ _ _ _ _ F0 (by rfl) ?_ (by rfl) (by rfl)
  clear F0
  intro _ _
  refine @s_assign _ _ _ _ _ _ _ _ _ _ _ ?_ (by rfl)
  refine @e_list _ _ _ _ _ _ _ _ _ ?_
  refine @sp_cons _ _ _ _ _ _ _ _ _ _ ?_ (by rfl)
  with_reducible rename Fm _ _ _ _ _ _ _ => F0
  refine @e_int _ _ _ _ _ _ _ _ _ _ _ _ _ _ _ _ F0 ?_
  clear F0
  intro _ _ _
  refine @sp_nil _ _ _ _ _ _ _ _ ?_
  with_reducible rename Fm _ _ _ _ _ _ _ => F0
  refine @n_list _ _ _ _ _ _ _ _ _ _ _ _ _ F0 (by simp [sizeLine_eq]) ?_
  clear F0
  intro _ _ _
  with_reducible rename Fm _ _ _ _ _ _ _ => F0
  refine @st_local _ _ _ _ _ _ _ _ _ _ _ _ _ _ _ F0 (by rfl) ?_ (by rfl) (by rfl)
  clear F0
  intro _ _
  refine @s_for _ _ _ _ _ _ _ _ _ _ _ _ ?_ (by intro _; rfl)
  refine @e_call _ _ _ _ _ _ _ _ _ _ _ ?_
  with_reducible rename Fm _ _ _ _ _ _ _ => F0
  refine @nm_bi _ _ _ _ _ _ _ _ _ _ _ _ _ _ _ _ F0 (by rfl) (by rfl) (by exact bb_range) ?_ (by rfl) (by rfl) (by rfl) (by decide) (by decide)
  refine @cw_ty1 _ _ _ _ _ _ _ _ _ _ ?_ (by rfl)
  refine @e_call _ _ _ _ _ _ _ _ _ _ _ ?_
  with_reducible rename Fm _ _ _ _ _ _ _ => F0
  refine @nm_bi _ _ _ _ _ _ _ _ _ _ _ _ _ _ _ _ F0 (by rfl) (by rfl) (by exact bb_len) ?_ (by rfl) (by rfl) (by rfl) (by decide) (by decide)
  refine @cw_bi1 _ _ _ _ _ _ _ _ _ _ ?_ (by rfl)
  with_reducible rename Fm _ _ _ _ _ _ _ => F0
  refine @nm_local _ _ _ _ _ _ _ _ _ _ _ _ _ _ _ _ F0 (by rfl) (by rfl) ?_ (by rfl) (by rfl) (by decide)
  rename Fm _ _ _ _ _ _ _ => F
  obtain ⟨La, Sa, Ca, t1, t2, t3, F⟩ : ∃ La Sa Ca t1 t2 t3, Fm (KK w) s B L' _ [("lower", v), ("ladder", .ref La), ("strange", .ref Sa), ("chosen", .ref Ca)] ((Ca, lsO [.int 0 t3] 0) :: (Sa, lsO [.int 0 t2] 0) :: (La, lsO [.int 0 t1] 0) :: (L, oL) :: ob) :=
    ⟨_, _, _, _, _, _, F.sub ⟨rfl, rfl, rfl, rfl, trivial⟩⟩
  refine @b_lenD _ _ _ _ _ _ _ _ _ _ _ _ _ _ F (hv.kp F.kp) (by simp; lia) fun u s₂ F => ?_
  rw [List.length_map, List.length_map]
  refine @b_range1 _ _ _ _ _ _ _ _ _ _ _ _ _ _ hh F (by lia) (by lia) fun r s₃ F it => ?_
  rw [Int.toNat_natCast] at it
  have hp6 : ∀ {i}, i ≤ 6 → 2 ^ i ≤ 64 := fun {i} hi => Nat.pow_le_pow_right (n := 2) (by lia) hi
  refine @for_iter _ _ _ _ _ _ _ _ _ _ _ _ _ _ _ _ _ _ _ F (it _) (fun i l₁ ob₁ => l₁ = ([("lower", v), ("ladder", .ref La), ("strange", .ref Sa), ("chosen", .ref Ca)] : Ls) ∧ ∃ v1 v2 v3 n1 n2 n3, ob₁ = (Ca, lsO v3 n3) :: (Sa, lsO v2 n2) :: (La, lsO v1 n1) :: (L, oL) :: ob ∧
    IntsAre v1 (nI (ladTo low i)) ∧ IntsAre v2 (nI (strTo low i)) ∧ IntsAre v3 (nI (choTo i))) ⟨rfl, _, _, _, 0, 0, 0, rfl, .cons _ _ .nil, .cons _ _ .nil, .cons _ _ .nil⟩ ?_ ?_
  · rintro i s₅ l₁ ob₁ ex xv hi ⟨rfl, v1, v2, v3, n1, n2, n3, rfl, h1, h2, h3⟩ ⟨t, rfl⟩ F
    have hi6 : i < 6 := by lia
    have hpi := hp6 (i := i) (by lia)
    with_reducible rename Fm _ _ _ _ _ _ _ => F0
    refine @st_local _ _ _ _ _ _ _ _ _ _ _ _ _ _ _ F0 (by rfl) ?_ (by rfl) (by rfl)
    clear F0
    intro _ _
    refine @s_for _ _ _ _ _ _ _ _ _ _ _ _ ?_ (by intro _; rfl)
    refine @e_call _ _ _ _ _ _ _ _ _ _ _ ?_
    with_reducible rename Fm _ _ _ _ _ _ _ => F0
    refine @nm_bi _ _ _ _ _ _ _ _ _ _ _ _ _ _ _ _ F0 (by rfl) (by rfl) (by exact bb_range) ?_ (by rfl) (by rfl) (by rfl) (by decide) (by decide)
    refine @cw_ty1 _ _ _ _ _ _ _ _ _ _ ?_ (by rfl)
    refine wpAny_BinOp ?_
    with_reducible rename Fm _ _ _ _ _ _ _ => F0
    refine @e_int _ _ _ _ _ _ _ _ _ _ _ _ _ _ _ _ F0 ?_
    clear F0
    intro _ _ _
    with_reducible rename Fm _ _ _ _ _ _ _ => F0
    refine @nm_local _ _ _ _ _ _ _ _ _ _ _ _ _ _ _ _ F0 (by rfl) (by rfl) ?_ (by rfl) (by rfl) (by decide)
    rename Fm _ _ _ _ _ _ _ => F
    refine @o_pow _ _ _ _ _ _ _ _ _ _ _ _ _ _ _ _ F (by lia) (by rw [show Builtin.Int.intBits 2 = 2 from by decide +kernel]; lia) fun _ _ F => ?_
    rw [Int.toNat_natCast, show (2 : Int) ^ i = ((2 ^ i : Nat) : Int) by simp]
    obtain ⟨P, hP⟩ : ∃ P, P = 2 ^ i := ⟨_, rfl⟩
    rw [← hP] at hpi ⊢
    refine @b_range1 _ _ _ _ _ _ _ _ _ _ _ _ _ _ hh F (by lia) (by lia) fun r s₃ F it => ?_
    rw [Int.toNat_natCast] at it
    replace F := F.sub (l' := [("lower", v), ("ladder", .ref La), ("strange", .ref Sa), ("chosen", .ref Ca), ("t", .int (i : Int) t)]) ⟨rfl, rfl, rfl, rfl, rfl, trivial⟩
    refine @for_iter _ _ _ _ _ _ _ _ _ _ _ _ _ _ _ _ _ _ _ F (it _) (fun j l₁ ob₁ => l₁ = ([("lower", v), ("ladder", .ref La), ("strange", .ref Sa), ("chosen", .ref Ca), ("t", .int (i : Int) t)] : Ls) ∧ ∃ v1 v2 v3 n1 n2 n3, ob₁ = (Ca, lsO v3 n3) :: (Sa, lsO v2 n2) :: (La, lsO v1 n1) :: (L, oL) :: ob ++ ex ∧
      IntsAre v1 (nI (gTo (low.getD i 0) (ladTo low i) j)) ∧ IntsAre v2 (nI (sTo (low.getD i 0) (strTo low i) j)) ∧ IntsAre v3 (nI (cTo (choTo i) j))) ⟨rfl, v1, v2, v3, n1, n2, n3, rfl, h1, h2, h3⟩ ?_ ?_
    · rintro j s₆ l₂ ob₂ ex' xv hj ⟨rfl, v1, v2, v3, n1, n2, n3, rfl, h1, h2, h3⟩ ⟨tj, rfl⟩ F
      have hl1 := gTo_len (low.getD i 0) (ladTo low i) j
      have hl2 := sTo_len (low.getD i 0) (strTo low i) j
      have hl3 := cTo_len (choTo i) j
      rw [ladTo_len, ← hP] at hl1
      rw [strTo_len, ← hP] at hl2
      rw [choTo_len, ← hP] at hl3
      have hv1 : v1.length = _ := h1.length
      have hv2 : v2.length = _ := h2.length
      have hv3 : v3.length = _ := h3.length
      rw [List.length_map] at hv1 hv2 hv3
      have hand := Nat.and_le_left (n := j) (m := low.getD i 0)
      with_reducible rename Fm _ _ _ _ _ _ _ => F0
      refine @st_local _ _ _ _ _ _ _ _ _ _ _ _ _ _ _ F0 (by rfl) ?_ (by rfl) (by rfl)
      clear F0
      intro _ _
      refine @s_expr _ _ _ _ _ _ _ _ _ _ ?_ (by rfl) (by rfl)
      refine @e_meth _ _ _ _ _ _ _ _ _ _ _ _ ?_ (by rfl) (by rfl) (by rfl)
      with_reducible rename Fm _ _ _ _ _ _ _ => F0
      refine @nm_local _ _ _ _ _ _ _ _ _ _ _ _ _ _ _ _ F0 (by rfl) (by rfl) ?_ (by rfl) (by rfl) (by decide)
      with_reducible rename Fm _ _ _ _ _ _ _ => F0
      refine @gm_list _ _ _ _ _ _ _ _ _ _ _ _ (Fm.get F0 (by exact List.Mem.tail _ (List.Mem.tail _ (List.Mem.head _)))) PySem.F.slot_list_append PySem.F.type_list_append ?_
      refine @cwb_M1 _ _ _ _ _ _ _ _ _ _ _ ?_ (by rfl)
      refine @e_call _ _ _ _ _ _ _ _ _ _ _ ?_
      with_reducible rename Fm _ _ _ _ _ _ _ => F0
      refine @nm_bi _ _ _ _ _ _ _ _ _ _ _ _ _ _ _ _ F0 (by rfl) (by rfl) (by exact bb_max) ?_ (by rfl) (by rfl) (by rfl) (by decide) (by decide)
      refine @cw_bi2 _ _ _ _ _ _ _ _ _ _ _ ?_ (by rfl)
      refine Subscript_ ?_
      with_reducible rename Fm _ _ _ _ _ _ _ => F0
      refine @nm_local _ _ _ _ _ _ _ _ _ _ _ _ _ _ _ _ F0 (by rfl) (by rfl) ?_ (by rfl) (by rfl) (by decide)
      with_reducible rename Fm _ _ _ _ _ _ _ => F0
      refine @nm_local _ _ _ _ _ _ _ _ _ _ _ _ _ _ _ _ F0 (by rfl) (by rfl) ?_ (by rfl) (by rfl) (by decide)
      rename Fm _ _ _ _ _ _ _ => F
      refine @sub_nat _ _ _ _ _ _ _ _ _ _ _ _ _ _ _ _ _ _ _ _ F (.tail _ (.tail _ (.head _))) h1 (by lia) (by lia) (fun t1 => ?_) (by with_unfolding_all rfl)
      refine wpAny_BinOp ?_
      with_reducible rename Fm _ _ _ _ _ _ _ => F0
      refine @e_int _ _ _ _ _ _ _ _ _ _ _ _ _ _ _ _ F0 ?_
      clear F0
      intro _ _ _
      refine Subscript_ ?_
      with_reducible rename Fm _ _ _ _ _ _ _ => F0
      refine @nm_local _ _ _ _ _ _ _ _ _ _ _ _ _ _ _ _ F0 (by rfl) (by rfl) ?_ (by rfl) (by rfl) (by decide)
      refine wpAny_BinOp ?_
      with_reducible rename Fm _ _ _ _ _ _ _ => F0
      refine @nm_local _ _ _ _ _ _ _ _ _ _ _ _ _ _ _ _ F0 (by rfl) (by rfl) ?_ (by rfl) (by rfl) (by decide)
      refine Subscript_ ?_
      with_reducible rename Fm _ _ _ _ _ _ _ => F0
      refine @nm_local _ _ _ _ _ _ _ _ _ _ _ _ _ _ _ _ F0 (by rfl) (by rfl) ?_ (by rfl) (by rfl) (by decide)
      with_reducible rename Fm _ _ _ _ _ _ _ => F0
      refine @nm_local _ _ _ _ _ _ _ _ _ _ _ _ _ _ _ _ F0 (by rfl) (by rfl) ?_ (by rfl) (by rfl) (by decide)
      rename Fm _ _ _ _ _ _ _ => F
      refine @subB_nat _ _ _ _ _ _ _ _ _ _ _ _ _ _ _ _ _ _ F hv (by omega) (by lia) (fun t2 => ?_) (by intro _; with_unfolding_all rfl)
      with_reducible rename Fm _ _ _ _ _ _ _ => F0
      refine @o_and _ _ _ _ _ _ _ _ _ _ _ _ _ _ _ _ F0 ?_
      clear F0
      intro _ _ _
      rename Fm _ _ _ _ _ _ _ => F
      refine @sub_nat _ _ _ _ _ _ _ _ _ _ _ _ _ _ _ _ _ _ _ _ F (.tail _ (.tail _ (.head _))) h1 (by lia) (by lia) (fun t3 => ?_) (by with_unfolding_all rfl)
      with_reducible rename Fm _ _ _ _ _ _ _ => F0
      refine @o_add _ _ _ _ _ _ _ _ _ _ _ _ _ _ _ _ F0 ?_
      clear F0
      intro _ _ _
      rename Fm _ _ _ _ _ _ _ => F
      refine @b_max _ _ _ _ _ _ _ _ _ _ _ _ _ _ _ _ F hh fun t4 _ F => ?_
      generalize hg1 : max (((gTo (low.getD i 0) (ladTo low i) j).getD j 0 : Nat) : Int) (1 + (((gTo (low.getD i 0) (ladTo low i) j).getD (j &&& low.getD i 0) 0 : Nat) : Int)) = g1
      refine @m_append _ _ _ _ _ _ _ _ _ _ _ _ _ _ _ _ _ F (.tail _ (.tail _ (.head _))) (by rw [sizeLine_eq]; lia) fun s₉ F => ?_
      have w1 := nI_snoc h1 (max ((gTo (low.getD i 0) (ladTo low i) j).getD j 0) (1 + (gTo (low.getD i 0) (ladTo low i) j).getD (j &&& low.getD i 0) 0)) t4
      rw [show ((max ((gTo (low.getD i 0) (ladTo low i) j).getD j 0) (1 + (gTo (low.getD i 0) (ladTo low i) j).getD (j &&& low.getD i 0) 0) : Nat) : Int) = g1 by lia] at w1
      clear hg1
      refine @s_expr _ _ _ _ _ _ _ _ _ _ ?_ (by rfl) (by rfl)
      refine @e_meth _ _ _ _ _ _ _ _ _ _ _ _ ?_ (by rfl) (by rfl) (by rfl)
      with_reducible rename Fm _ _ _ _ _ _ _ => F0
      refine @nm_local _ _ _ _ _ _ _ _ _ _ _ _ _ _ _ _ F0 (by rfl) (by rfl) ?_ (by rfl) (by rfl) (by decide)
      with_reducible rename Fm _ _ _ _ _ _ _ => F0
      refine @gm_list _ _ _ _ _ _ _ _ _ _ _ _ (Fm.get F0 (by exact List.Mem.tail _ (List.Mem.head _))) PySem.F.slot_list_append PySem.F.type_list_append ?_
      refine @cwb_M1 _ _ _ _ _ _ _ _ _ _ _ ?_ (by rfl)
      refine @e_call _ _ _ _ _ _ _ _ _ _ _ ?_
      with_reducible rename Fm _ _ _ _ _ _ _ => F0
      refine @nm_bi _ _ _ _ _ _ _ _ _ _ _ _ _ _ _ _ F0 (by rfl) (by rfl) (by exact bb_max) ?_ (by rfl) (by rfl) (by rfl) (by decide) (by decide)
      refine @cw_bi2 _ _ _ _ _ _ _ _ _ _ _ ?_ (by rfl)
      refine Subscript_ ?_
      with_reducible rename Fm _ _ _ _ _ _ _ => F0
      refine @nm_local _ _ _ _ _ _ _ _ _ _ _ _ _ _ _ _ F0 (by rfl) (by rfl) ?_ (by rfl) (by rfl) (by decide)
      with_reducible rename Fm _ _ _ _ _ _ _ => F0
      refine @nm_local _ _ _ _ _ _ _ _ _ _ _ _ _ _ _ _ F0 (by rfl) (by rfl) ?_ (by rfl) (by rfl) (by decide)
      rename Fm _ _ _ _ _ _ _ => F
      refine @sub_nat _ _ _ _ _ _ _ _ _ _ _ _ _ _ _ _ _ _ _ _ F (.tail _ (.head _)) h2 (by lia) (by lia) (fun t1 => ?_) (by with_unfolding_all rfl)
      refine wpAny_BinOp ?_
      with_reducible rename Fm _ _ _ _ _ _ _ => F0
      refine @e_int _ _ _ _ _ _ _ _ _ _ _ _ _ _ _ _ F0 ?_
      clear F0
      intro _ _ _
      refine Subscript_ ?_
      with_reducible rename Fm _ _ _ _ _ _ _ => F0
      refine @nm_local _ _ _ _ _ _ _ _ _ _ _ _ _ _ _ _ F0 (by rfl) (by rfl) ?_ (by rfl) (by rfl) (by decide)
      refine wpAny_BinOp ?_
      with_reducible rename Fm _ _ _ _ _ _ _ => F0
      refine @nm_local _ _ _ _ _ _ _ _ _ _ _ _ _ _ _ _ F0 (by rfl) (by rfl) ?_ (by rfl) (by rfl) (by decide)
      refine wpAny_BinOp ?_
      with_reducible rename Fm _ _ _ _ _ _ _ => F0
      refine @nm_local _ _ _ _ _ _ _ _ _ _ _ _ _ _ _ _ F0 (by rfl) (by rfl) ?_ (by rfl) (by rfl) (by decide)
      refine Subscript_ ?_
      with_reducible rename Fm _ _ _ _ _ _ _ => F0
      refine @nm_local _ _ _ _ _ _ _ _ _ _ _ _ _ _ _ _ F0 (by rfl) (by rfl) ?_ (by rfl) (by rfl) (by decide)
      with_reducible rename Fm _ _ _ _ _ _ _ => F0
      refine @nm_local _ _ _ _ _ _ _ _ _ _ _ _ _ _ _ _ F0 (by rfl) (by rfl) ?_ (by rfl) (by rfl) (by decide)
      rename Fm _ _ _ _ _ _ _ => F
      refine @subB_nat _ _ _ _ _ _ _ _ _ _ _ _ _ _ _ _ _ _ F hv (by omega) (by lia) (fun t2 => ?_) (by intro _; with_unfolding_all rfl)
      with_reducible rename Fm _ _ _ _ _ _ _ => F0
      refine @o_and _ _ _ _ _ _ _ _ _ _ _ _ _ _ _ _ F0 ?_
      clear F0
      intro _ _ _
      with_reducible rename Fm _ _ _ _ _ _ _ => F0
      refine @o_sub _ _ _ _ _ _ _ _ _ _ _ _ _ _ _ _ F0 ?_
      clear F0
      intro _ _ _
      rename Fm _ _ _ _ _ _ _ => F
      rw [show ((j : Int) - ((j &&& low.getD i 0 : Nat) : Int)) = ((j - (j &&& low.getD i 0) : Nat) : Int) by lia]
      refine @sub_nat _ _ _ _ _ _ _ _ _ _ _ _ _ _ _ _ _ _ _ _ F (.tail _ (.head _)) h2 (by lia) (by lia) (fun t3 => ?_) (by with_unfolding_all rfl)
      with_reducible rename Fm _ _ _ _ _ _ _ => F0
      refine @o_add _ _ _ _ _ _ _ _ _ _ _ _ _ _ _ _ F0 ?_
      clear F0
      intro _ _ _
      rename Fm _ _ _ _ _ _ _ => F
      refine @b_max _ _ _ _ _ _ _ _ _ _ _ _ _ _ _ _ F hh fun t5 _ F => ?_
      generalize hg2 : max (((sTo (low.getD i 0) (strTo low i) j).getD j 0 : Nat) : Int) (1 + (((sTo (low.getD i 0) (strTo low i) j).getD (j - (j &&& low.getD i 0)) 0 : Nat) : Int)) = g2
      refine @m_append _ _ _ _ _ _ _ _ _ _ _ _ _ _ _ _ _ F (.tail _ (.head _)) (by rw [sizeLine_eq]; lia) fun s₉ F => ?_
      have w2 := nI_snoc h2 (max ((sTo (low.getD i 0) (strTo low i) j).getD j 0) (1 + (sTo (low.getD i 0) (strTo low i) j).getD (j - (j &&& low.getD i 0)) 0)) t5
      rw [show ((max ((sTo (low.getD i 0) (strTo low i) j).getD j 0) (1 + (sTo (low.getD i 0) (strTo low i) j).getD (j - (j &&& low.getD i 0)) 0) : Nat) : Int) = g2 by lia] at w2
      clear hg2
      refine @s_expr _ _ _ _ _ _ _ _ _ _ ?_ (by rfl) (by rfl)
      refine @e_meth _ _ _ _ _ _ _ _ _ _ _ _ ?_ (by rfl) (by rfl) (by rfl)
      with_reducible rename Fm _ _ _ _ _ _ _ => F0
      refine @nm_local _ _ _ _ _ _ _ _ _ _ _ _ _ _ _ _ F0 (by rfl) (by rfl) ?_ (by rfl) (by rfl) (by decide)
      with_reducible rename Fm _ _ _ _ _ _ _ => F0
      refine @gm_list _ _ _ _ _ _ _ _ _ _ _ _ (Fm.get F0 (by exact List.Mem.head _)) PySem.F.slot_list_append PySem.F.type_list_append ?_
      refine @cwb_M1 _ _ _ _ _ _ _ _ _ _ _ ?_ (by rfl)
      refine wpAny_BinOp ?_
      refine Subscript_ ?_
      with_reducible rename Fm _ _ _ _ _ _ _ => F0
      refine @nm_local _ _ _ _ _ _ _ _ _ _ _ _ _ _ _ _ F0 (by rfl) (by rfl) ?_ (by rfl) (by rfl) (by decide)
      with_reducible rename Fm _ _ _ _ _ _ _ => F0
      refine @nm_local _ _ _ _ _ _ _ _ _ _ _ _ _ _ _ _ F0 (by rfl) (by rfl) ?_ (by rfl) (by rfl) (by decide)
      rename Fm _ _ _ _ _ _ _ => F
      refine @sub_nat _ _ _ _ _ _ _ _ _ _ _ _ _ _ _ _ _ _ _ _ F (.head _) h3 (by lia) (by lia) (fun t1 => ?_) (by with_unfolding_all rfl)
      with_reducible rename Fm _ _ _ _ _ _ _ => F0
      refine @e_int _ _ _ _ _ _ _ _ _ _ _ _ _ _ _ _ F0 ?_
      clear F0
      intro _ _ _
      with_reducible rename Fm _ _ _ _ _ _ _ => F0
      refine @o_add _ _ _ _ _ _ _ _ _ _ _ _ _ _ _ _ F0 ?_
      clear F0
      intro _ _ _
      rename Fm _ _ _ _ _ _ _ => F
      refine @m_append _ _ _ _ _ _ _ _ _ _ _ _ _ _ _ _ _ F (.head _) (by rw [sizeLine_eq]; lia) fun s₉ F => ?_
      refine @s_nil _ _ _ _ _ _ ?_
      with_reducible refine @lp_next _ _ _ ?_
      rename Fm _ _ _ _ _ _ _ => F
      exact ⟨_, _, ⟨rfl, _, _, _, _, _, _, rfl, w1, w2, nI_snoc h3 _ _⟩, F.sub ⟨rfl, rfl, rfl, rfl, rfl, trivial⟩⟩
    · rintro s₆ l₂ ob₂ ⟨rfl, v1, v2, v3, n1, n2, n3, rfl, h1, h2, h3⟩ F
      with_reducible refine @then_next _ _ _ _ _ _ _ ?_
      refine @s_nil _ _ _ _ _ _ ?_
      with_reducible refine @lp_next _ _ _ ?_
      rename Fm _ _ _ _ _ _ _ => F
      rw [hP] at h1 h2 h3
      exact ⟨_, _, ⟨rfl, _, _, _, _, _, _, rfl, h1, h2, h3⟩, F.sub ⟨rfl, rfl, rfl, rfl, trivial⟩⟩
  · rintro s₅ l₁ ob₁ ⟨rfl, v1, v2, v3, n1, n2, n3, rfl, h1, h2, h3⟩ F
    have hl1 := ladTo_len low low.length
    have hl2 := strTo_len low low.length
    have hl3 := choTo_len low.length
    have hpi := hp6 hn
    generalize ladTo low low.length = LL at *
    generalize strTo low low.length = SS at *
    generalize choTo low.length = CC at *
    have hP0 : 0 < 2 ^ low.length := Nat.two_pow_pos _
    generalize 2 ^ low.length = P at *
    have hv1 : v1.length = _ := h1.length
    have hv2 : v2.length = _ := h2.length
    have hv3 : v3.length = _ := h3.length
    rw [List.length_map] at hv1 hv2 hv3
    with_reducible refine @then_next _ _ _ _ _ _ _ ?_
    refine @s_assign _ _ _ _ _ _ _ _ _ _ _ ?_ (by rfl)
    refine wpAny_BinOp ?_
    refine @e_list _ _ _ _ _ _ _ _ _ ?_
    refine @sp_cons _ _ _ _ _ _ _ _ _ _ ?_ (by rfl)
    with_reducible rename Fm _ _ _ _ _ _ _ => F0
    refine @e_int _ _ _ _ _ _ _ _ _ _ _ _ _ _ _ _ F0 ?_
    clear F0
    intro _ _ _
    refine @sp_nil _ _ _ _ _ _ _ _ ?_
    with_reducible rename Fm _ _ _ _ _ _ _ => F0
    refine @n_list _ _ _ _ _ _ _ _ _ _ _ _ _ F0 (by simp [sizeLine_eq]) ?_
    clear F0
    intro _ _ _
    refine wpAny_BinOp ?_
    refine Subscript_ ?_
    with_reducible rename Fm _ _ _ _ _ _ _ => F0
    refine @nm_local _ _ _ _ _ _ _ _ _ _ _ _ _ _ _ _ F0 (by rfl) (by rfl) ?_ (by rfl) (by rfl) (by decide)
    refine wpAny_UnaryOp ?_
    with_reducible rename Fm _ _ _ _ _ _ _ => F0
    refine @e_int _ _ _ _ _ _ _ _ _ _ _ _ _ _ _ _ F0 ?_
    clear F0
    intro _ _ _
    rename Fm _ _ _ _ _ _ _ => F
    refine @o_neg _ _ _ _ _ _ _ _ _ _ _ _ _ _ F fun _ _ F => ?_
    refine @sub_last _ _ _ _ _ _ _ _ _ _ _ _ _ _ _ _ _ _ _ F (.tail _ (.tail _ (.head _))) h2 (by lia) (fun t1 => ?_) (by with_unfolding_all rfl)
    rw [hl2]
    with_reducible rename Fm _ _ _ _ _ _ _ => F0
    refine @e_int _ _ _ _ _ _ _ _ _ _ _ _ _ _ _ _ F0 ?_
    clear F0
    intro _ _ _
    with_reducible rename Fm _ _ _ _ _ _ _ => F0
    refine @o_add _ _ _ _ _ _ _ _ _ _ _ _ _ _ _ _ F0 ?_
    clear F0
    intro _ _ _
    rename Fm _ _ _ _ _ _ _ => F
    refine @o_mulL _ _ _ _ _ _ _ _ _ _ _ _ _ _ _ _ _ F (F.get (.head _)) (by lia) (by lia) fun bl s₆ F => ?_
    with_reducible rename Fm _ _ _ _ _ _ _ => F0
    refine @st_local _ _ _ _ _ _ _ _ _ _ _ _ _ _ _ F0 (by rfl) ?_ (by rfl) (by rfl)
    clear F0
    intro _ _
    refine @s_assign _ _ _ _ _ _ _ _ _ _ _ ?_ (by rfl)
    refine wpAny_BinOp ?_
    refine @e_list _ _ _ _ _ _ _ _ _ ?_
    refine @sp_cons _ _ _ _ _ _ _ _ _ _ ?_ (by rfl)
    with_reducible rename Fm _ _ _ _ _ _ _ => F0
    refine @e_int _ _ _ _ _ _ _ _ _ _ _ _ _ _ _ _ F0 ?_
    clear F0
    intro _ _ _
    refine @sp_nil _ _ _ _ _ _ _ _ ?_
    with_reducible rename Fm _ _ _ _ _ _ _ => F0
    refine @n_list _ _ _ _ _ _ _ _ _ _ _ _ _ F0 (by simp [sizeLine_eq]) ?_
    clear F0
    intro _ _ _
    refine wpAny_BinOp ?_
    refine Subscript_ ?_
    with_reducible rename Fm _ _ _ _ _ _ _ => F0
    refine @nm_local _ _ _ _ _ _ _ _ _ _ _ _ _ _ _ _ F0 (by rfl) (by rfl) ?_ (by rfl) (by rfl) (by decide)
    refine wpAny_UnaryOp ?_
    with_reducible rename Fm _ _ _ _ _ _ _ => F0
    refine @e_int _ _ _ _ _ _ _ _ _ _ _ _ _ _ _ _ F0 ?_
    clear F0
    intro _ _ _
    rename Fm _ _ _ _ _ _ _ => F
    refine @o_neg _ _ _ _ _ _ _ _ _ _ _ _ _ _ F fun _ _ F => ?_
    refine @sub_last _ _ _ _ _ _ _ _ _ _ _ _ _ _ _ _ _ _ _ F (.tail _ (.tail _ (.tail _ (.tail _ (.tail _ (.head _)))))) h1 (by lia) (fun t1 => ?_) (by with_unfolding_all rfl)
    rw [hl1]
    with_reducible rename Fm _ _ _ _ _ _ _ => F0
    refine @e_int _ _ _ _ _ _ _ _ _ _ _ _ _ _ _ _ F0 ?_
    clear F0
    intro _ _ _
    with_reducible rename Fm _ _ _ _ _ _ _ => F0
    refine @o_add _ _ _ _ _ _ _ _ _ _ _ _ _ _ _ _ F0 ?_
    clear F0
    intro _ _ _
    rename Fm _ _ _ _ _ _ _ => F
    refine @o_mulL _ _ _ _ _ _ _ _ _ _ _ _ _ _ _ _ _ F (F.get (.head _)) (by lia) (by lia) fun bf s₆ F => ?_
    with_reducible rename Fm _ _ _ _ _ _ _ => F0
    refine @st_local _ _ _ _ _ _ _ _ _ _ _ _ _ _ _ F0 (by rfl) ?_ (by rfl) (by rfl)
    clear F0
    intro _ _
    refine @s_for _ _ _ _ _ _ _ _ _ _ _ _ ?_ (by intro _; rfl)
    refine @e_call _ _ _ _ _ _ _ _ _ _ _ ?_
    with_reducible rename Fm _ _ _ _ _ _ _ => F0
    refine @nm_bi _ _ _ _ _ _ _ _ _ _ _ _ _ _ _ _ F0 (by rfl) (by rfl) (by exact bb_range) ?_ (by rfl) (by rfl) (by rfl) (by decide) (by decide)
    refine @cw_ty1 _ _ _ _ _ _ _ _ _ _ ?_ (by rfl)
    refine @e_call _ _ _ _ _ _ _ _ _ _ _ ?_
    with_reducible rename Fm _ _ _ _ _ _ _ => F0
    refine @nm_bi _ _ _ _ _ _ _ _ _ _ _ _ _ _ _ _ F0 (by rfl) (by rfl) (by exact bb_len) ?_ (by rfl) (by rfl) (by rfl) (by decide) (by decide)
    refine @cw_bi1 _ _ _ _ _ _ _ _ _ _ ?_ (by rfl)
    with_reducible rename Fm _ _ _ _ _ _ _ => F0
    refine @nm_local _ _ _ _ _ _ _ _ _ _ _ _ _ _ _ _ F0 (by rfl) (by rfl) ?_ (by rfl) (by rfl) (by decide)
    rename Fm _ _ _ _ _ _ _ => F
    refine @b_len_list _ _ _ _ _ _ _ _ _ _ _ _ _ _ F ⟨_, F.get (.tail _ (.tail _ (.tail _ (.tail _ (.head _))))), rfl, n3, rfl⟩ (by simp; lia) fun _ _ F => ?_
    rw [show ((v3.toArray.size : Nat) : Int) = (CC.length : Int) by simp; lia]
    refine @b_range1 _ _ _ _ _ _ _ _ _ _ _ _ _ _ hh F (by lia) (by lia) fun r s₃ F it => ?_
    rw [Int.toNat_natCast] at it
    obtain ⟨Tf, Tl, F⟩ : ∃ Tf Tl, Fm (KK w) s B L' s₃ [("lower", v), ("ladder", .ref La), ("strange", .ref Sa), ("chosen", .ref Ca), ("by_ladders", .ref bl), ("by_floors", .ref bf)]
      ((bf, lsO (List.replicate (LL.getD (P - 1) 0 + 1) (.int ((0 : Nat) : Int) Tf)) 0) :: (bl, lsO (List.replicate (SS.getD (P - 1) 0 + 1) (.int ((0 : Nat) : Int) Tl)) 0) :: (Ca, lsO v3 n3) :: (Sa, lsO v2 n2) :: (La, lsO v1 n1) :: (L, oL) :: ob) := by
      have e1 : ((LL.getD (P - 1) 0 : Nat) : Int) + 1 = ((LL.getD (P - 1) 0 + 1 : Nat) : Int) := by lia
      have e2 : ((SS.getD (P - 1) 0 : Nat) : Int) + 1 = ((SS.getD (P - 1) 0 + 1 : Nat) : Int) := by lia
      rw [e1, e2, Int.toNat_natCast, Int.toNat_natCast] at F
      replace F := F.drop (.cons_cons _ (.cons _ (.cons_cons _ (.cons _ (.refl _)))))
      exact ⟨_, _, F.sub ⟨rfl, rfl, rfl, rfl, rfl, rfl, trivial⟩⟩
    have rep : ∀ (t : Tok) (n : Nat), IntsAre (List.replicate n (.int ((0 : Nat) : Int) t)) (nI (List.replicate n 0)) := fun t n => by
      rw [show nI (List.replicate n 0) = List.replicate n ((0 : Nat) : Int) by simp [nI]]; exact ints_rep _ t n
    refine @for_iter _ _ _ _ _ _ _ _ _ _ _ _ _ _ _ _ _ _ _ F (it _) (fun j l₁ ob₁ => l₁ = ([("lower", v), ("ladder", .ref La), ("strange", .ref Sa), ("chosen", .ref Ca), ("by_ladders", .ref bl), ("by_floors", .ref bf)] : Ls) ∧ ∃ v4 v5 n4 n5,
      ob₁ = (bf, lsO v5 n5) :: (bl, lsO v4 n4) :: (Ca, lsO v3 n3) :: (Sa, lsO v2 n2) :: (La, lsO v1 n1) :: (L, oL) :: ob ∧ IntsAre v4 (nI (byTo SS CC (List.replicate (SS.getD (P - 1) 0 + 1) 0) j)) ∧ IntsAre v5 (nI (byTo LL CC (List.replicate (LL.getD (P - 1) 0 + 1) 0) j))) ⟨rfl, _, _, 0, 0, rfl, rep _ _, rep _ _⟩ ?_ ?_
    · rintro j s₆ l₂ ob₂ ex' xv hj ⟨rfl, v4, v5, n4, n5, rfl, h4, h5⟩ ⟨tj, rfl⟩ F
      have hl4 := byTo_len SS CC (List.replicate (SS.getD (P - 1) 0 + 1) 0) j
      have hl5 := byTo_len LL CC (List.replicate (LL.getD (P - 1) 0 + 1) 0) j
      have hv4 : v4.length = _ := h4.length
      have hv5 : v5.length = _ := h5.length
      rw [List.length_map] at hv4 hv5
      rw [List.length_replicate] at hl4 hl5
      have hjS := hbS j (by lia)
      have hjL := hbL j (by lia)
      with_reducible rename Fm _ _ _ _ _ _ _ => F0
      refine @st_local _ _ _ _ _ _ _ _ _ _ _ _ _ _ _ F0 (by rfl) ?_ (by rfl) (by rfl)
      clear F0
      intro _ _
      refine @s_item _ _ _ _ _ _ _ _ _ _ _ _ _ ?_ (by rfl)
      refine @e_call _ _ _ _ _ _ _ _ _ _ _ ?_
      with_reducible rename Fm _ _ _ _ _ _ _ => F0
      refine @nm_bi _ _ _ _ _ _ _ _ _ _ _ _ _ _ _ _ F0 (by rfl) (by rfl) (by exact bb_max) ?_ (by rfl) (by rfl) (by rfl) (by decide) (by decide)
      refine @cw_bi2 _ _ _ _ _ _ _ _ _ _ _ ?_ (by rfl)
      refine Subscript_ ?_
      with_reducible rename Fm _ _ _ _ _ _ _ => F0
      refine @nm_local _ _ _ _ _ _ _ _ _ _ _ _ _ _ _ _ F0 (by rfl) (by rfl) ?_ (by rfl) (by rfl) (by decide)
      refine Subscript_ ?_
      with_reducible rename Fm _ _ _ _ _ _ _ => F0
      refine @nm_local _ _ _ _ _ _ _ _ _ _ _ _ _ _ _ _ F0 (by rfl) (by rfl) ?_ (by rfl) (by rfl) (by decide)
      with_reducible rename Fm _ _ _ _ _ _ _ => F0
      refine @nm_local _ _ _ _ _ _ _ _ _ _ _ _ _ _ _ _ F0 (by rfl) (by rfl) ?_ (by rfl) (by rfl) (by decide)
      rename Fm _ _ _ _ _ _ _ => F
      refine @sub_nat _ _ _ _ _ _ _ _ _ _ _ _ _ _ _ _ _ _ _ _ F (.tail _ (.tail _ (.tail _ (.head _)))) h2 (by lia) (by lia) (fun t2 => ?_) (by with_unfolding_all rfl)
      refine @sub_nat _ _ _ _ _ _ _ _ _ _ _ _ _ _ _ _ _ _ _ _ F (.tail _ (.head _)) h4 (by lia) (by lia) (fun t3 => ?_) (by with_unfolding_all rfl)
      refine Subscript_ ?_
      with_reducible rename Fm _ _ _ _ _ _ _ => F0
      refine @nm_local _ _ _ _ _ _ _ _ _ _ _ _ _ _ _ _ F0 (by rfl) (by rfl) ?_ (by rfl) (by rfl) (by decide)
      with_reducible rename Fm _ _ _ _ _ _ _ => F0
      refine @nm_local _ _ _ _ _ _ _ _ _ _ _ _ _ _ _ _ F0 (by rfl) (by rfl) ?_ (by rfl) (by rfl) (by decide)
      rename Fm _ _ _ _ _ _ _ => F
      refine @sub_nat _ _ _ _ _ _ _ _ _ _ _ _ _ _ _ _ _ _ _ _ F (.tail _ (.tail _ (.head _))) h3 (by omega) (by lia) (fun t4 => ?_) (by with_unfolding_all rfl)
      refine @b_max _ _ _ _ _ _ _ _ _ _ _ _ _ _ _ _ F hh fun t5 _ F => ?_
      with_reducible rename Fm _ _ _ _ _ _ _ => F0
      refine @nm_local _ _ _ _ _ _ _ _ _ _ _ _ _ _ _ _ F0 (by rfl) (by rfl) ?_ (by rfl) (by rfl) (by decide)
      refine Subscript_ ?_
      with_reducible rename Fm _ _ _ _ _ _ _ => F0
      refine @nm_local _ _ _ _ _ _ _ _ _ _ _ _ _ _ _ _ F0 (by rfl) (by rfl) ?_ (by rfl) (by rfl) (by decide)
      with_reducible rename Fm _ _ _ _ _ _ _ => F0
      refine @nm_local _ _ _ _ _ _ _ _ _ _ _ _ _ _ _ _ F0 (by rfl) (by rfl) ?_ (by rfl) (by rfl) (by decide)
      rename Fm _ _ _ _ _ _ _ => F
      refine @sub_nat _ _ _ _ _ _ _ _ _ _ _ _ _ _ _ _ _ _ _ _ F (.tail _ (.tail _ (.tail _ (.head _)))) h2 (by lia) (by lia) (fun t6 => ?_) (by with_unfolding_all rfl)
      refine @i_set _ _ _ _ _ _ _ _ _ _ _ _ _ _ _ _ _ _ _ F (by lia) (by lia) (by lia) (.tail _ (.head _)) fun s₉ F => ?_
      rw [Int.toNat_natCast] at F
      have w4 := nI_set h4 (SS.getD j 0) (max ((byTo SS CC (List.replicate (SS.getD (P - 1) 0 + 1) 0) j).getD (SS.getD j 0) 0) (CC.getD j 0)) t5
      rw [show ((max ((byTo SS CC (List.replicate (SS.getD (P - 1) 0 + 1) 0) j).getD (SS.getD j 0) 0) (CC.getD j 0) : Nat) : Int) = max (((byTo SS CC (List.replicate (SS.getD (P - 1) 0 + 1) 0) j).getD (SS.getD j 0) 0 : Nat) : Int) ((CC.getD j 0 : Nat) : Int) by omega] at w4
      refine @s_item _ _ _ _ _ _ _ _ _ _ _ _ _ ?_ (by rfl)
      refine @e_call _ _ _ _ _ _ _ _ _ _ _ ?_
      with_reducible rename Fm _ _ _ _ _ _ _ => F0
      refine @nm_bi _ _ _ _ _ _ _ _ _ _ _ _ _ _ _ _ F0 (by rfl) (by rfl) (by exact bb_max) ?_ (by rfl) (by rfl) (by rfl) (by decide) (by decide)
      refine @cw_bi2 _ _ _ _ _ _ _ _ _ _ _ ?_ (by rfl)
      refine Subscript_ ?_
      with_reducible rename Fm _ _ _ _ _ _ _ => F0
      refine @nm_local _ _ _ _ _ _ _ _ _ _ _ _ _ _ _ _ F0 (by rfl) (by rfl) ?_ (by rfl) (by rfl) (by decide)
      refine Subscript_ ?_
      with_reducible rename Fm _ _ _ _ _ _ _ => F0
      refine @nm_local _ _ _ _ _ _ _ _ _ _ _ _ _ _ _ _ F0 (by rfl) (by rfl) ?_ (by rfl) (by rfl) (by decide)
      with_reducible rename Fm _ _ _ _ _ _ _ => F0
      refine @nm_local _ _ _ _ _ _ _ _ _ _ _ _ _ _ _ _ F0 (by rfl) (by rfl) ?_ (by rfl) (by rfl) (by decide)
      rename Fm _ _ _ _ _ _ _ => F
      refine @sub_nat _ _ _ _ _ _ _ _ _ _ _ _ _ _ _ _ _ _ _ _ F (.tail _ (.tail _ (.tail _ (.tail _ (.head _))))) h1 (by lia) (by lia) (fun t2 => ?_) (by with_unfolding_all rfl)
      refine @sub_nat _ _ _ _ _ _ _ _ _ _ _ _ _ _ _ _ _ _ _ _ F (.head _) h5 (by lia) (by lia) (fun t3 => ?_) (by with_unfolding_all rfl)
      refine Subscript_ ?_
      with_reducible rename Fm _ _ _ _ _ _ _ => F0
      refine @nm_local _ _ _ _ _ _ _ _ _ _ _ _ _ _ _ _ F0 (by rfl) (by rfl) ?_ (by rfl) (by rfl) (by decide)
      with_reducible rename Fm _ _ _ _ _ _ _ => F0
      refine @nm_local _ _ _ _ _ _ _ _ _ _ _ _ _ _ _ _ F0 (by rfl) (by rfl) ?_ (by rfl) (by rfl) (by decide)
      rename Fm _ _ _ _ _ _ _ => F
      refine @sub_nat _ _ _ _ _ _ _ _ _ _ _ _ _ _ _ _ _ _ _ _ F (.tail _ (.tail _ (.head _))) h3 (by omega) (by lia) (fun t4 => ?_) (by with_unfolding_all rfl)
      refine @b_max _ _ _ _ _ _ _ _ _ _ _ _ _ _ _ _ F hh fun t5 _ F => ?_
      with_reducible rename Fm _ _ _ _ _ _ _ => F0
      refine @nm_local _ _ _ _ _ _ _ _ _ _ _ _ _ _ _ _ F0 (by rfl) (by rfl) ?_ (by rfl) (by rfl) (by decide)
      refine Subscript_ ?_
      with_reducible rename Fm _ _ _ _ _ _ _ => F0
      refine @nm_local _ _ _ _ _ _ _ _ _ _ _ _ _ _ _ _ F0 (by rfl) (by rfl) ?_ (by rfl) (by rfl) (by decide)
      with_reducible rename Fm _ _ _ _ _ _ _ => F0
      refine @nm_local _ _ _ _ _ _ _ _ _ _ _ _ _ _ _ _ F0 (by rfl) (by rfl) ?_ (by rfl) (by rfl) (by decide)
      rename Fm _ _ _ _ _ _ _ => F
      refine @sub_nat _ _ _ _ _ _ _ _ _ _ _ _ _ _ _ _ _ _ _ _ F (.tail _ (.tail _ (.tail _ (.tail _ (.head _))))) h1 (by lia) (by lia) (fun t6 => ?_) (by with_unfolding_all rfl)
      refine @i_set _ _ _ _ _ _ _ _ _ _ _ _ _ _ _ _ _ _ _ F (by lia) (by lia) (by lia) (.head _) fun s₉ F => ?_
      rw [Int.toNat_natCast] at F
      have w5 := nI_set h5 (LL.getD j 0) (max ((byTo LL CC (List.replicate (LL.getD (P - 1) 0 + 1) 0) j).getD (LL.getD j 0) 0) (CC.getD j 0)) t5
      rw [show ((max ((byTo LL CC (List.replicate (LL.getD (P - 1) 0 + 1) 0) j).getD (LL.getD j 0) 0) (CC.getD j 0) : Nat) : Int) = max (((byTo LL CC (List.replicate (LL.getD (P - 1) 0 + 1) 0) j).getD (LL.getD j 0) 0 : Nat) : Int) ((CC.getD j 0 : Nat) : Int) by omega] at w5
      refine @s_nil _ _ _ _ _ _ ?_
      with_reducible refine @lp_next _ _ _ ?_
      rename Fm _ _ _ _ _ _ _ => F
      exact ⟨_, _, ⟨rfl, _, _, _, _, rfl, w4, w5⟩, F.sub ⟨rfl, rfl, rfl, rfl, rfl, rfl, trivial⟩⟩
    · rintro s₆ l₂ ob₂ ⟨rfl, v4, v5, n4, n5, rfl, h4, h5⟩ F
      have hl4 := byTo_len SS CC (List.replicate (SS.getD (P - 1) 0 + 1) 0) CC.length
      have hl5 := byTo_len LL CC (List.replicate (LL.getD (P - 1) 0 + 1) 0) CC.length
      have hv4 : v4.length = _ := h4.length
      have hv5 : v5.length = _ := h5.length
      rw [List.length_map] at hv4 hv5
      rw [List.length_replicate] at hl4 hl5
      with_reducible refine @then_next _ _ _ _ _ _ _ ?_
      refine @s_ret _ _ _ _ _ _ _ _ _ ?_
      refine @e_tuple _ _ _ _ _ _ _ _ _ _ ?_
      refine @sp_cons _ _ _ _ _ _ _ _ _ _ ?_ (by rfl)
      refine Subscript_ ?_
      with_reducible rename Fm _ _ _ _ _ _ _ => F0
      refine @nm_local _ _ _ _ _ _ _ _ _ _ _ _ _ _ _ _ F0 (by rfl) (by rfl) ?_ (by rfl) (by rfl) (by decide)
      refine @e_slice _ _ _ _ _ _ _ _ _ _ _ ?_
      refine @ep_some _ _ _ _ _ _ _ _ ?_
      with_reducible rename Fm _ _ _ _ _ _ _ => F0
      refine @e_int _ _ _ _ _ _ _ _ _ _ _ _ _ _ _ _ F0 ?_
      clear F0
      intro _ _ _
      refine @ep_none _ _ _ _ _ _ _ ?_
      refine @ep_none _ _ _ _ _ _ _ ?_
      rename Fm _ _ _ _ _ _ _ => F
      intro S s₇ gS hS
      replace F := F.gr gS
      refine @sub_slice _ _ _ _ _ _ _ _ _ _ _ _ _ _ _ _ _ _ _ _ _ _ _ _ F ⟨_, F.get (.tail _ (.head _)), rfl, n4, rfl⟩ hS (.int _ _) .none .none (by simp) (by rw [sizeLine_eq]; simp; lia) (fun D1 s₈ F => ?_) (by with_unfolding_all rfl)
      refine @sp_cons _ _ _ _ _ _ _ _ _ _ ?_ (by rfl)
      refine Subscript_ ?_
      with_reducible rename Fm _ _ _ _ _ _ _ => F0
      refine @nm_local _ _ _ _ _ _ _ _ _ _ _ _ _ _ _ _ F0 (by rfl) (by rfl) ?_ (by rfl) (by rfl) (by decide)
      refine @e_slice _ _ _ _ _ _ _ _ _ _ _ ?_
      refine @ep_some _ _ _ _ _ _ _ _ ?_
      with_reducible rename Fm _ _ _ _ _ _ _ => F0
      refine @e_int _ _ _ _ _ _ _ _ _ _ _ _ _ _ _ _ F0 ?_
      clear F0
      intro _ _ _
      refine @ep_none _ _ _ _ _ _ _ ?_
      refine @ep_none _ _ _ _ _ _ _ ?_
      rename Fm _ _ _ _ _ _ _ => F
      intro S s₉ gS hS
      replace F := F.gr gS
      refine @sub_slice _ _ _ _ _ _ _ _ _ _ _ _ _ _ _ _ _ _ _ _ _ _ _ _ F ⟨_, F.get (.tail _ (.head _)), rfl, n5, rfl⟩ hS (.int _ _) .none .none (by simp) (by rw [sizeLine_eq]; simp; lia) (fun D2 s₈ F => ?_) (by with_unfolding_all rfl)
      refine @sp_nil _ _ _ _ _ _ _ _ ?_
      with_reducible rename Fm _ _ _ _ _ _ _ => F0
      refine @n_tuple _ _ _ _ _ _ _ _ _ _ _ _ _ F0 (by simp [sizeLine_eq]) ?_
      clear F0
      intro _ _ _
      with_reducible refine @retTo_ret _ _ _ ?_
      rename Fm _ _ _ _ _ _ _ => F
      obtain ⟨B1, k1, F, g1⟩ := F.freezeAt (.head _)
      obtain ⟨B2, k2, F, g2⟩ := F.freezeAt (.head _)
      obtain ⟨B3, k3, F, g3⟩ := F.freezeAt (.head _)
      have kk := k1.trans (k2.trans k3)
      have h4' := (RdL.ints (h := B3) h4)
      have h5' := (RdL.ints (h := B3) h5)
      refine h _ _ B3 kk (fin F (fun p hp => .tail _ (.tail _ (.tail _ (.tail _ (.tail _ hp))))) kk) (Rd.tup (k3 _ _ (k2 _ _ g1)) (.cons (Rd.list g3 ?_) (.cons (Rd.list (k3 _ _ g2) ?_) .nil)))
      · have := h4'.drop 1
        rw [pick_from (by lia)]
        unfold byOf
        rw [hl2, show ∀ l : List Nat, nI (l.drop 1) = (nI l).drop 1 from fun l => List.map_drop .., List.map_drop]
        exact this
      · have := h5'.drop 1
        rw [pick_from (by lia)]
        unfold byOf
        rw [hl1, show ∀ l : List Nat, nI (l.drop 1) = (nI l).drop 1 from fun l => List.map_drop .., List.map_drop]
        exact this
end Mine
end
section
open PySem PySem.W PyProof.Rows PySem.Calls PySem.Spec
set_option maxRecDepth 100000
namespace Mine

def countsI {α : Type} (R : List (List α)) : List Nat := (List.range R.length).map fun k => ((R.take (k + 1)).map List.length).sum
theorem sum_nI (l : List Nat) : (nI l).sum = ((l.sum : Nat) : Int) := by
  induction l with
  | nil => rfl
  | cons x r ih => rw [List.sum_cons]; show (x : Int) + (nI r).sum = _; rw [ih]; simp
set_option maxHeartbeats 4000000 in
theorem counts_spec {w : World} {A : Around} {s₀ s : Shared} {B : Heap} {L : Addr} {l : Ls} {ob : Ob} {v : Value} {RR : List (List Int)} {Q E} (F : Fm (KK w) s₀ B L s l ob) (R : Rm A 3) (hv : Rd B v (.list (RR.map dIs))) (hn : RR.length ≤ 1000) (hm : ∀ r ∈ RR, r.length ≤ 1000)
    (h : ∀ v' s' B', Kp B B' → Fm (KK w) s₀ B' L s' l ob → Rd B' v' (dIs (nI (countsI RR))) → Q v' s') :
    wpAny (model PP w) A (call (.ref 154) [v]) Q E s := by
  obtain ⟨ra, _, rfl, _, _⟩ := hv.isList
  refine @call_fnG _ _ _ _ _ _ _ _ _ _ _ _ [("rows", .ref ra)] _ _ _ _ _ _ _ _ _ _ _ _ _ _ _ _ _ _ _ _ F R (by rfl) (by rfl) (BindsTo.of_eq (by rfl)) (fun L' s₁ A' A₁ oL hL F' R' => ?_) (by rfl) (by rfl)
  have fin : ∀ {B₂ : Heap} {s'' : Shared} {l'' : Ls} {ob'' : Ob}, Fm (KK w) s B₂ L' s'' l'' ob'' → (∀ p ∈ (L, oL) :: ob, p ∈ ob'') → Kp B B₂ → Fm (KK w) s₀ B₂ L s'' l ob := fun F' hm k => F.leave hL F' hm k
  clear F
  replace F' : Fm (KK w) s B L' s₁ [] ((L' + 1, cellO none) :: (L, oL) :: ob) := F'
  have hh := R'.h
  refine @binds_cons _ _ _ _ _ _ _ _ _ ?_
  with_reducible rename Fm _ _ _ _ _ _ _ => F0
  refine @st_cell _ _ _ _ _ _ _ _ _ _ _ _ _ _ _ _ _ _ F0 (by rfl) (by rfl) (by exact UpO.head _) ?_ (by rfl)
  clear F0
  intro _ _
  rename Fm _ _ _ _ _ _ _ => F
  obtain ⟨B1, k1, F, g1⟩ := F.freezeAt (.head _)
  replace hv := hv.kp k1
  refine @binds_nil _ _ _ _ _ _ ?_
  with_reducible rename Fm _ _ _ _ _ _ _ => F0
  refine ⟨Fm.gdh F0, ?_⟩
  refine @s_ret _ _ _ _ _ _ _ _ _ ?_
  refine @e_compC _ _ _ _ _ _ _ _ _ _ _ _ _ _ ?_ (by rfl) (by rfl) (by decide +kernel) (by intro _; rfl)
  refine @e_call _ _ _ _ _ _ _ _ _ _ _ ?_
  with_reducible rename Fm _ _ _ _ _ _ _ => F0
  refine @nm_bi _ _ _ _ _ _ _ _ _ _ _ _ _ _ _ _ F0 (by rfl) (by rfl) (by exact bb_range) ?_ (by rfl) (by rfl) (by rfl) (by decide) (by decide)
  refine @cw_ty1 _ _ _ _ _ _ _ _ _ _ ?_ (by rfl)
  refine @e_call _ _ _ _ _ _ _ _ _ _ _ ?_
  with_reducible rename Fm _ _ _ _ _ _ _ => F0
  refine @nm_bi _ _ _ _ _ _ _ _ _ _ _ _ _ _ _ _ F0 (by rfl) (by rfl) (by exact bb_len) ?_ (by rfl) (by rfl) (by rfl) (by decide) (by decide)
  refine @cw_bi1 _ _ _ _ _ _ _ _ _ _ ?_ (by rfl)
  with_reducible rename Fm _ _ _ _ _ _ _ => F0
  refine @nm_cellB _ _ _ _ _ _ _ _ _ _ _ _ _ _ _ _ _ F0 (by rfl) (by rfl) (by assumption) ?_ (by rfl) (by decide)
  rename Fm _ _ _ _ _ _ _ => F
  refine @b_lenD _ _ _ _ _ _ _ _ _ _ _ _ _ _ F (hv.kp F.kp) (by simp; lia) fun u s₂ F => ?_
  rw [List.length_map]
  refine @b_range1 _ _ _ _ _ _ _ _ _ _ _ _ _ _ hh F (by lia) (by lia) fun r s₃ F it => ?_
  rw [Int.toNat_natCast] at it
  refine @comp_map _ _ _ _ _ _ _ _ _ _ _ _ _ _ _ _ _ _ _ _ _ _ _ _ F (itl_range (it _)) (by rw [sizeLine_eq]; simp; lia) (fun k => (((RR.take (k + 1)).map List.length).sum : Nat)) (fun _ n v => ∃ t, v = .int (n : Int) t) (fun _ _ _ _ _ h => h) (fun _ ob => ob = []) (fun _ => rfl) ?_ ?_ (fun _ _ => rfl)
  · rintro C B₁ s' ob₁ ex k xv hk kB ⟨t, rfl⟩ rfl hob F
    have hkl : k < RR.length := List.mem_range.mp hk
    have gc := kB _ _ g1
    have hv1 := hv.kp kB
    refine @a_name _ _ _ _ _ _ _ _ _ _ ?_
    with_reducible rename Fm _ _ _ _ _ _ _ => F0
    refine @st_local _ _ _ _ _ _ _ _ _ _ _ _ _ _ _ F0 (by rfl) ?_ (by rfl) (by rfl)
    clear F0
    intro _ _
    refine @e_call _ _ _ _ _ _ _ _ _ _ _ ?_
    with_reducible rename Fm _ _ _ _ _ _ _ => F0
    refine @nm_bi _ _ _ _ _ _ _ _ _ _ _ _ _ _ _ _ F0 (by rfl) (by rfl) (by exact bb_sum) ?_ (by rfl) (by rfl) (by rfl) (by decide) (by decide)
    refine @cw_bi1 _ _ _ _ _ _ _ _ _ _ ?_ (by rfl)
    refine @e_compC _ _ _ _ _ _ _ _ _ _ _ _ _ _ ?_ (by rfl) (by rfl) (by decide +kernel) (by intro _; rfl)
    refine Subscript_ ?_
    with_reducible rename Fm _ _ _ _ _ _ _ => F0
    refine @nm_cellB _ _ _ _ _ _ _ _ _ _ _ _ _ _ _ _ _ F0 (by rfl) (by rfl) (by assumption) ?_ (by rfl) (by decide)
    refine @e_slice _ _ _ _ _ _ _ _ _ _ _ ?_
    refine @ep_none _ _ _ _ _ _ _ ?_
    refine @ep_some _ _ _ _ _ _ _ _ ?_
    refine wpAny_BinOp ?_
    with_reducible rename Fm _ _ _ _ _ _ _ => F0
    refine @nm_local _ _ _ _ _ _ _ _ _ _ _ _ _ _ _ _ F0 (by rfl) (by rfl) ?_ (by rfl) (by rfl) (by decide)
    with_reducible rename Fm _ _ _ _ _ _ _ => F0
    refine @e_int _ _ _ _ _ _ _ _ _ _ _ _ _ _ _ _ F0 ?_
    clear F0
    intro _ _ _
    with_reducible rename Fm _ _ _ _ _ _ _ => F0
    refine @o_add _ _ _ _ _ _ _ _ _ _ _ _ _ _ _ _ F0 ?_
    clear F0
    intro _ _ _
    refine @ep_none _ _ _ _ _ _ _ ?_
    rename Fm _ _ _ _ _ _ _ => F
    intro S s₄ gS hS
    replace F := F.gr gS
    obtain ⟨ra', rvs, e, hra, hrI⟩ := hv1.isList
    cases e
    have hlen := hrI.length
    refine @sub_slice _ _ _ _ _ _ _ _ _ _ _ _ _ _ _ _ _ _ _ _ _ _ _ _ F (let ⟨o, ho, r⟩ := hra; ⟨o, F.kp _ _ ho, r⟩) hS .none (.int _ _) .none (by simp) (by rw [sizeLine_eq]; simp at hlen; lia) (fun D s₅ F => ?_) (by with_unfolding_all rfl)
    obtain ⟨B2, k2, F, gD⟩ := F.freezeAt (.head _)
    rw [pick_upto (by lia), show ((k : Int) + 1).toNat = k + 1 by lia] at gD
    have hall : All2 (fun (r : List Int) v => Rd B2 v (dIs r)) (RR.take (k + 1)) (rvs.toList.take (k + 1)) := ((hrI.kp k2).unmap).take (k + 1)
    refine @comp_map _ _ _ _ _ _ _ _ _ _ _ _ _ _ _ _ _ _ _ _ _ _ _ _ F (it_all hh F.kp (⟨_, gD, rfl, 0, rfl⟩ : B2.IsList D _) (by simpa using hall)) (by rw [sizeLine_eq]; simp; lia) List.length (fun _ n v => ∃ t, v = .int (n : Int) t) (fun _ _ _ _ _ h => h) (fun _ ob => ob = []) (fun _ => rfl) ?_ ?_ (fun _ _ => rfl)
    · rintro C' B₁' s' ob₁ ex' row xv hrow kB' hP rfl hob' F
      have hrl := hm row (List.mem_of_mem_take hrow)
      refine @a_name _ _ _ _ _ _ _ _ _ _ ?_
      with_reducible rename Fm _ _ _ _ _ _ _ => F0
      refine @st_local _ _ _ _ _ _ _ _ _ _ _ _ _ _ _ F0 (by rfl) ?_ (by rfl) (by rfl)
      clear F0
      intro _ _
      refine @e_call _ _ _ _ _ _ _ _ _ _ _ ?_
      with_reducible rename Fm _ _ _ _ _ _ _ => F0
      refine @nm_bi _ _ _ _ _ _ _ _ _ _ _ _ _ _ _ _ F0 (by rfl) (by rfl) (by exact bb_len) ?_ (by rfl) (by rfl) (by rfl) (by decide) (by decide)
      refine @cw_bi1 _ _ _ _ _ _ _ _ _ _ ?_ (by rfl)
      with_reducible rename Fm _ _ _ _ _ _ _ => F0
      refine @nm_local _ _ _ _ _ _ _ _ _ _ _ _ _ _ _ _ F0 (by rfl) (by rfl) ?_ (by rfl) (by rfl) (by decide)
      rename Fm _ _ _ _ _ _ _ => F
      refine @b_lenD _ _ _ _ _ _ _ _ _ _ _ _ _ _ F ((hP.kp kB').kp F.kp) (by simp; lia) fun u s₂ F => ?_
      rw [List.length_map]
      exact ⟨_, [], _, Kp.rfl, rfl, ⟨_, rfl⟩, F⟩
    · intro D' s' B3 ys k' kB3 F hD' hall'
      skip
      rename Fm _ _ _ _ _ _ _ => F
      have q : ∀ {xs : List Nat} {ys : List Value}, All2 (fun (n : Nat) v => ∃ t, v = Value.int (n : Int) t) xs ys → IntsAre ys (nI xs) := by
        intro xs ys h
        induction h with
        | nil => exact .nil
        | cons h _ ih => obtain ⟨t, rfl⟩ := h; exact .cons _ _ ih
      refine @b_sum _ _ _ _ _ _ _ _ _ _ _ _ _ _ (nI ((RR.take (k + 1)).map List.length)) F hh (let ⟨o, ho, r⟩ := (⟨_, hD', rfl, k', rfl⟩ : B3.IsList D' ys.toArray); ⟨o, F.kp _ _ ho, r⟩) (q hall') fun t s₆ F => ?_
      rw [sum_nI]
      exact ⟨B3, [], _, k2.trans kB3, rfl, ⟨_, rfl⟩, F⟩
  · intro D s' B' ys k kB F hD hall
    with_reducible refine @retTo_ret _ _ _ ?_
    rename Fm _ _ _ _ _ _ _ => F
    have kk := k1.trans kB
    refine h _ _ B' kk (fin F (fun p hp => hp) kk) (Rd.list hD ?_)
    have q : ∀ {xs : List Nat} {ys : List Value}, All2 (fun (n : Nat) v => ∃ t, v = Value.int (n : Int) t) xs ys → RdL B' ((nI xs).map .int) ys := by
      intro xs ys h
      induction h with
      | nil => exact .nil
      | cons h _ ih => obtain ⟨t, rfl⟩ := h; exact .cons Rd.int ih
    exact q hall
end Mine
end
section
open PySem PySem.W PyProof.Rows PySem.Calls PySem.Spec
set_option maxRecDepth 100000
namespace Mine
theorem kn_law_texts (w : World) : nsIn (KK w) mainGlobals "_law_texts" = some (some (.ref 128)) := by kernel_rfl
theorem kn_law_column (w : World) : nsIn (KK w) mainGlobals "_law_column" = some (some (.ref 135)) := by kernel_rfl
theorem kn_law_rows (w : World) : nsIn (KK w) mainGlobals "_law_rows" = some (some (.ref 142)) := by kernel_rfl
theorem kn_law_choices (w : World) : nsIn (KK w) mainGlobals "_law_choices" = some (some (.ref 149)) := by kernel_rfl
theorem kn_law_counts (w : World) : nsIn (KK w) mainGlobals "_law_counts" = some (some (.ref 154)) := by kernel_rfl

noncomputable def bodyOf (w : World) (f : Addr) : List Stmt := match (fdOf w f).body with | .stmts b => b | _ => []
noncomputable abbrev envOf' (w : World) (f : Addr) (L : Addr) : Env := envX (fdOf w f).qualname (fdOf w f).scope L f (fdOf w f).code (cellsFrom (L + 1) (fdOf w f).scope.names [])
/-- the texts of a run -/
structure Tx (T : List (List Nat)) : Prop where
  is : ∃ c g, c < 3 ∧ g.length = 6 ∧ (∀ p ∈ g, p.1 < 4 ∧ p.2 < 5) ∧ T = txts c 0 g
abbrev LeadsAt (h : Heap) (v : Value) (T : List (List Nat)) : Prop := ∃ D ys k, v = .ref D ∧ h.get? D = some (lsO ys k) ∧ All2 (fun x v => ∃ a, v = Value.ref a ∧ LeadAt 119 h a (leadOf (sOf x))) T ys
abbrev cellN (c : Addr) : Addr × Obj := (c, cellO none)
theorem leadTxt_len {c k a b : Nat} (ha : a < 4) (hb : b < 5) : (leadTxt c k a b).length < 20 := by
  unfold leadTxt
  have := runTxt_len c k
  simp; lia
theorem txts_mem {c : Nat} : ∀ {k : Nat} {g : List (Nat × Nat)} {x : List Nat}, (∀ p ∈ g, p.1 < 4 ∧ p.2 < 5) → x ∈ txts c k g → ∃ k' a b, a < 4 ∧ b < 5 ∧ x = leadTxt c k' a b
  | k, (a, b) :: r, x, h, hx => by
    rw [txts] at hx
    rcases List.mem_cons.mp hx with rfl | hx
    · exact ⟨k, a, b, (h _ (.head _)).1, (h _ (.head _)).2, rfl⟩
    · exact txts_mem (fun p hp => h p (.tail _ hp)) hx
theorem Tx.len {T : List (List Nat)} (t : Tx T) : T.length = 6 := by
  obtain ⟨c, g, h1, h2, h3, rfl⟩ := t; rw [txts_len, h2]
theorem Tx.short {T : List (List Nat)} (t : Tx T) {x : List Nat} (hx : x ∈ T) : x.length < 20 := by
  obtain ⟨c, g, h1, h2, h3, rfl⟩ := t
  obtain ⟨k, a, b, ha, hb, rfl⟩ := txts_mem h3 hx
  exact leadTxt_len ha hb
theorem rd_ints {h : Heap} : ∀ {xs : List Int} {ys : List Value}, All2 (fun (n : Int) v => ∃ t, v = Value.int n t) xs ys → IntsAre ys xs
  | _, _, .nil => .nil
  | _, _, .cons ⟨t, e⟩ r => by subst e; exact .cons _ t (rd_ints (h := h) r)
set_option maxHeartbeats 4000000 in
theorem partA {w : World} {A : Around} {s₀ s : Shared} {B : Heap} {L : Addr} {ob : Ob} {v : Value} {ns : List Int} {Q E} (R : Rm A 20) (hv : Rd B v (dIs ns)) (hn : ns.length < 1000)
    (F : Fm (KK w) s₀ B L s [("script", v)] (cellN (L + 8) :: cellN (L + 7) :: cellN (L + 6) :: cellN (L + 5) :: cellN (L + 4) :: cellN (L + 3) :: cellN (L + 2) :: cellN (L + 1) :: ob))
    (next : ∀ s' B' T v1 lv sv (m : Nat) tt, Tx T → Kp B B' → Rd B' v1 (.list (T.map fun x => .str (sOf x))) → LeadsAt B' lv T → (∀ x ∈ T, (leadOf (sOf x)).longest ≤ m) → (∃ x ∈ T, (leadOf (sOf x)).longest = m) → m < 900 →
      Rd B' sv (dIs (nI ((List.range (m + 1)).map (1 + ·)))) → B'.get? (L + 7) = some (cellO (some lv)) → B'.get? (L + 8) = some (cellO (some (.int ((m + 1 : Nat) : Int) tt))) → B'.get? (L + 1) = some (cellO (some sv)) →
      Fm (KK w) s₀ B' L s' [("script", v), ("texts", v1)] (cellN (L + 6) :: cellN (L + 5) :: cellN (L + 4) :: cellN (L + 3) :: cellN (L + 2) :: ob) → wpAny (model PP w) A (execs ((bodyOf w 159).drop 4) (envOf' w 159 L)) Q E s') :
    wpAny (model PP w) A (execs (bodyOf w 159) (envOf' w 159 L)) Q E s := by
  show wpAny _ _ (execs (_ :: _) (envX "law" ⟨_, ?n, _, _, _⟩ L 159 (.ref 158) (cellsFrom (L + 1) ?n []))) _ _ _
  have hh := R.h
  refine @s_assign _ _ _ _ _ _ _ _ _ _ _ ?_ (by rfl)
  refine @e_call _ _ _ _ _ _ _ _ _ _ _ ?_
  with_reducible rename Fm _ _ _ _ _ _ _ => F0
  refine @nm_glob _ _ _ _ _ _ _ _ _ _ _ _ _ _ _ _ F0 (by rfl) (by exact kn_law_texts _) ?_ (by rfl) (by rfl) (by decide)
  with_reducible rename Fm _ _ _ _ _ _ _ => F0
  refine @cw_F1 _ _ _ _ _ _ _ _ _ _ _ (Fm.gdh F0) (by rfl) ?_ (by rfl)
  with_reducible rename Fm _ _ _ _ _ _ _ => F0
  refine @nm_local _ _ _ _ _ _ _ _ _ _ _ _ _ _ _ _ F0 (by rfl) (by rfl) ?_ (by rfl) (by rfl) (by decide)
  with_reducible rename Fm _ _ _ _ _ _ _ => F0
  refine ⟨Fm.gdh F0, ?_⟩
  rename Fm _ _ _ _ _ _ _ => F
  refine @texts_spec _ _ _ _ _ _ _ _ _ _ _ _ F (R.le (by lia)) hv hn fun v1 s' B1 c g k1 F hc hg hgb hr => ?_
  obtain ⟨T, hT⟩ : ∃ T, T = txts c 0 g := ⟨_, rfl⟩
  have tx : Tx T := ⟨c, g, hc, hg, hgb, hT⟩
  rw [← hT] at hr
  have hTl := tx.len
  with_reducible rename Fm _ _ _ _ _ _ _ => F0
  refine @st_local _ _ _ _ _ _ _ _ _ _ _ _ _ _ _ F0 (by rfl) ?_ (by rfl) (by rfl)
  clear F0
  intro _ _
  refine @s_assign _ _ _ _ _ _ _ _ _ _ _ ?_ (by rfl)
  refine @e_compC _ _ _ _ _ _ _ _ _ _ _ _ _ _ ?_ (by rfl) (by rfl) (by decide +kernel) (by intro _; rfl)
  with_reducible rename Fm _ _ _ _ _ _ _ => F0
  refine @nm_local _ _ _ _ _ _ _ _ _ _ _ _ _ _ _ _ F0 (by rfl) (by rfl) ?_ (by rfl) (by rfl) (by decide)
  rename Fm _ _ _ _ _ _ _ => F
  obtain ⟨va, vvs, e1, ha1, ha2⟩ := hr.isList
  refine @comp_map _ _ _ _ _ _ _ _ _ _ _ _ _ _ _ _ _ _ _ _ _ _ (T) (fun x v => ∃ t, v = Value.str (sOf x) t) F (by rw [e1]; exact it_all hh F.kp ha1 (ha2.unmap.imp fun _ _ x => x.str_inv)) (by rw [sizeLine_eq, hTl]; lia) id (fun h x v => ∃ a, v = Value.ref a ∧ LeadAt 119 h a (leadOf (sOf x))) (fun h h' b v k ⟨a, e, x⟩ => ⟨a, e, x.kp k⟩) (fun _ ob => ob = []) (fun _ => rfl) ?_ ?_ (fun _ _ => rfl)
  · rintro C B₁ s' ob₁ ex x xv hx kB ⟨t, rfl⟩ rfl hob F
    have hxs := tx.short hx
    refine @a_name _ _ _ _ _ _ _ _ _ _ ?_
    with_reducible rename Fm _ _ _ _ _ _ _ => F0
    refine @st_local _ _ _ _ _ _ _ _ _ _ _ _ _ _ _ F0 (by rfl) ?_ (by rfl) (by rfl)
    clear F0
    intro _ _
    refine @e_call _ _ _ _ _ _ _ _ _ _ _ ?_
    with_reducible rename Fm _ _ _ _ _ _ _ => F0
    refine @nm_glob _ _ _ _ _ _ _ _ _ _ _ _ _ _ _ _ F0 (by rfl) (by exact kn_Whitespace _) ?_ (by rfl) (by rfl) (by decide)
    with_reducible rename Fm _ _ _ _ _ _ _ => F0
    refine @cw_F1 _ _ _ _ _ _ _ _ _ _ _ (Fm.gdh F0) (by rfl) ?_ (by rfl)
    with_reducible rename Fm _ _ _ _ _ _ _ => F0
    refine @nm_local _ _ _ _ _ _ _ _ _ _ _ _ _ _ _ _ F0 (by rfl) (by rfl) ?_ (by rfl) (by rfl) (by decide)
    with_reducible rename Fm _ _ _ _ _ _ _ => F0
    refine ⟨Fm.gdh F0, ?_⟩
    rename Fm _ _ _ _ _ _ _ => F
    refine @init_spec _ _ _ _ _ _ _ (R.le (by lia)) F.gdh (by show x.toArray.size < 500; simp; lia) fun a s₂ gr la => ?_
    obtain ⟨B2, k2, kn, F⟩ := F.grow gr
    exact ⟨B2, [], _, k2, rfl, ⟨a, rfl, la.kp kn⟩, F⟩
  · intro D s' B2 ys k k2 F hD hall
    rw [List.map_id] at hall
    with_reducible rename Fm _ _ _ _ _ _ _ => F0
    refine @st_cell _ _ _ _ _ _ _ _ _ _ _ _ _ _ _ _ _ _ F0 (by rfl) (by rfl) (by exact UpO.tail _ (UpO.head _)) ?_ (by rfl)
    clear F0
    intro _ _
    refine @s_assign _ _ _ _ _ _ _ _ _ _ _ ?_ (by rfl)
    refine wpAny_BinOp ?_
    with_reducible rename Fm _ _ _ _ _ _ _ => F0
    refine @e_int _ _ _ _ _ _ _ _ _ _ _ _ _ _ _ _ F0 ?_
    clear F0
    intro _ _ _
    refine @e_call _ _ _ _ _ _ _ _ _ _ _ ?_
    with_reducible rename Fm _ _ _ _ _ _ _ => F0
    refine @nm_bi _ _ _ _ _ _ _ _ _ _ _ _ _ _ _ _ F0 (by rfl) (by rfl) (by exact bb_max) ?_ (by rfl) (by rfl) (by rfl) (by decide) (by decide)
    refine @cw_bi1 _ _ _ _ _ _ _ _ _ _ ?_ (by rfl)
    refine @e_compC _ _ _ _ _ _ _ _ _ _ _ _ _ _ ?_ (by rfl) (by rfl) (by decide +kernel) (by intro _; rfl)
    with_reducible rename Fm _ _ _ _ _ _ _ => F0
    refine @nm_cellO _ _ _ _ _ _ _ _ _ _ _ _ _ _ _ _ _ F0 (by rfl) (by rfl) (by exact List.Mem.tail _ (List.Mem.head _)) ?_ (by rfl) (by decide)
    rename Fm _ _ _ _ _ _ _ => F
    refine @comp_map _ _ _ _ _ _ _ _ _ _ _ _ _ _ _ _ _ _ _ _ _ _ (T) (fun x v => ∃ a, v = Value.ref a ∧ LeadAt 119 B2 a (leadOf (sOf x))) F (it_all hh F.kp (⟨_, hD, rfl, k, rfl⟩ : B2.IsList D ys.toArray) (by simpa using hall)) (by rw [sizeLine_eq, hTl]; lia) (fun x => (leadOf (sOf x)).longest) (fun _ n v => ∃ t, v = Value.int n t) (fun _ _ _ _ _ h => h) (fun _ ob => ob = []) (fun _ => rfl) ?_ ?_ (fun _ _ => rfl)
    · rintro C B₁ s' ob₁ ex x xv hx kB ⟨a, rfl, la⟩ rfl hob F
      have la1 := la.kp kB
      refine @a_name _ _ _ _ _ _ _ _ _ _ ?_
      with_reducible rename Fm _ _ _ _ _ _ _ => F0
      refine @st_local _ _ _ _ _ _ _ _ _ _ _ _ _ _ _ F0 (by rfl) ?_ (by rfl) (by rfl)
      clear F0
      intro _ _
      refine @e_meth _ _ _ _ _ _ _ _ _ _ _ _ ?_ (by rfl) (by rfl) (by rfl)
      with_reducible rename Fm _ _ _ _ _ _ _ => F0
      refine @nm_local _ _ _ _ _ _ _ _ _ _ _ _ _ _ _ _ F0 (by rfl) (by rfl) ?_ (by rfl) (by rfl) (by decide)
      with_reducible rename Fm _ _ _ _ _ _ _ => F0
      refine @gm_lead _ _ _ _ _ _ _ _ _ _ _ _ _ _ _ _ (leadK _) (Fm.gdh F0) (LeadAt.kp (by assumption) (Fm.kp F0)) (.inl ⟨rfl, rfl⟩) ?_
      with_reducible rename Fm _ _ _ _ _ _ _ => F0
      refine @cw_M0 _ _ _ _ _ _ _ _ _ _ _ (by rfl) (Fm.gdh F0) ?_
      rename Fm _ _ _ _ _ _ _ => F
      refine @longest_spec _ _ _ _ _ _ _ (R.le (by lia)) F.gdh (la1.kp F.kp) fun t s₂ gr => ?_
      replace F := F.gr gr
      exact ⟨B₁, [], _, Kp.rfl, rfl, ⟨_, rfl⟩, F⟩
    · intro D2 s' B3 ys2 kk k3 F hD2 hall2
      skip
      rename Fm _ _ _ _ _ _ _ => F
      refine @b_maxL _ _ _ _ _ _ _ _ _ _ _ _ _ _ _ F hh (let ⟨o, ho, r⟩ := (⟨_, hD2, rfl, kk, rfl⟩ : B3.IsList D2 ys2.toArray); ⟨o, F.kp _ _ ho, r⟩) (rd_ints (h := B3) (by simpa using hall2)) (by rw [List.length_map, hTl]; lia) fun m t s₃ F hm hmx => ?_
      obtain ⟨x0, hx0, rfl⟩ := List.mem_map.mp hm
      have hsz : 0 ≤ (leadOf (sOf x0)).longest ∧ (leadOf (sOf x0)).longest < 900 := by
        obtain ⟨i, hi⟩ := List.getElem?_of_mem hx0
        obtain ⟨_, _, a, _, la⟩ := hall.get hi
        have := la.sz
        unfold Lead.longest; omega
      obtain ⟨m, hm0⟩ : ∃ m : Nat, (leadOf (sOf x0)).longest = m := ⟨(leadOf (sOf x0)).longest.toNat, by lia⟩
      have hm9 : m < 900 := by lia
      have hmT : ∀ x ∈ T, (leadOf (sOf x)).longest ≤ m := fun x hx => by rw [← hm0]; exact hmx _ (List.mem_map.mpr ⟨x, hx, rfl⟩)
      rw [hm0] at hmx ⊢
      with_reducible rename Fm _ _ _ _ _ _ _ => F0
      refine @o_add _ _ _ _ _ _ _ _ _ _ _ _ _ _ _ _ F0 ?_
      clear F0
      intro _ _ _
      with_reducible rename Fm _ _ _ _ _ _ _ => F0
      refine @st_cell _ _ _ _ _ _ _ _ _ _ _ _ _ _ _ _ _ _ F0 (by rfl) (by rfl) (by exact UpO.head _) ?_ (by rfl)
      clear F0
      intro _ _
      rename Fm _ _ _ _ _ _ _ => F
      refine @s_assign _ _ _ _ _ _ _ _ _ _ _ ?_ (by rfl)
      refine @e_call _ _ _ _ _ _ _ _ _ _ _ ?_
      with_reducible rename Fm _ _ _ _ _ _ _ => F0
      refine @nm_bi _ _ _ _ _ _ _ _ _ _ _ _ _ _ _ _ F0 (by rfl) (by rfl) (by exact bb_list) ?_ (by rfl) (by rfl) (by rfl) (by decide) (by decide)
      refine @cw_ty1 _ _ _ _ _ _ _ _ _ _ ?_ (by rfl)
      refine @e_call _ _ _ _ _ _ _ _ _ _ _ ?_
      with_reducible rename Fm _ _ _ _ _ _ _ => F0
      refine @nm_bi _ _ _ _ _ _ _ _ _ _ _ _ _ _ _ _ F0 (by rfl) (by rfl) (by exact bb_range) ?_ (by rfl) (by rfl) (by rfl) (by decide) (by decide)
      refine @cw_ty2 _ _ _ _ _ _ _ _ _ _ _ ?_ (by rfl)
      with_reducible rename Fm _ _ _ _ _ _ _ => F0
      refine @e_int _ _ _ _ _ _ _ _ _ _ _ _ _ _ _ _ F0 ?_
      clear F0
      intro _ _ _
      refine wpAny_BinOp ?_
      with_reducible rename Fm _ _ _ _ _ _ _ => F0
      refine @nm_cellO _ _ _ _ _ _ _ _ _ _ _ _ _ _ _ _ _ F0 (by rfl) (by rfl) (by exact List.Mem.head _) ?_ (by rfl) (by decide)
      with_reducible rename Fm _ _ _ _ _ _ _ => F0
      refine @e_int _ _ _ _ _ _ _ _ _ _ _ _ _ _ _ _ F0 ?_
      clear F0
      intro _ _ _
      with_reducible rename Fm _ _ _ _ _ _ _ => F0
      refine @o_add _ _ _ _ _ _ _ _ _ _ _ _ _ _ _ _ F0 ?_
      clear F0
      intro _ _ _
      rename Fm _ _ _ _ _ _ _ => F
      refine @b_range2R _ _ _ _ _ _ _ _ _ _ _ _ _ _ _ _ F fun r s₄ tv F hr2 => ?_
      refine @l_range _ _ _ _ _ _ _ _ _ _ _ _ _ _ _ _ _ _ hh F hr2 (by lia) (by lia) (by lia) (by lia) (by omega) fun Ds vs3 k3' s₅ F hI3 => ?_
      with_reducible rename Fm _ _ _ _ _ _ _ => F0
      refine @st_cell _ _ _ _ _ _ _ _ _ _ _ _ _ _ _ _ _ _ F0 (by rfl) (by rfl) (by exact UpO.tail _ (UpO.tail _ (UpO.tail _ (UpO.tail _ (UpO.tail _ (UpO.tail _ (UpO.tail _ (UpO.tail _ (UpO.head _))))))))) ?_ (by rfl)
      clear F0
      intro _ _
      rename Fm _ _ _ _ _ _ _ => F
      obtain ⟨B4, k4, F, g4⟩ := F.freezeAt (.head _)
      obtain ⟨B5, k5, F, g5⟩ := F.freezeAt (.head _)
      obtain ⟨B6, k6, F, g6⟩ := F.freezeAt (.head _)
      obtain ⟨B7, k7, F, g7⟩ := F.freezeAt (.tail _ (.tail _ (.tail _ (.tail _ (.tail _ (.head _))))))
      have ka := k4.trans (k5.trans (k6.trans k7))
      have kb := k2.trans (k3.trans ka)
      have e2 : (1 : Int) + m = ((m + 1 : Nat) : Int) := by lia
      rw [e2] at g5
      refine next _ B7 T v1 (.ref D) (.ref Ds) m _ tx (k1.trans kb) (hr.kp kb) ⟨D, ys, k, rfl, (k3.trans ka) _ _ hD, hall.imp fun x v ⟨a, e, la⟩ => ⟨a, e, la.kp (k3.trans ka)⟩⟩ hmT ⟨x0, hx0, hm0⟩ hm9 ?_ ((k7 _ _ g6)) (k6.trans k7 _ _ g5) g7 ?_
      · refine Rd.list ((k5.trans (k6.trans k7)) _ _ g4) (RdL.ints ?_)
        have e3 : nI ((List.range (m + 1)).map fun x => 1 + x) = (List.range (1 + (m : Int) + 1 - 1).toNat).map fun (i : Nat) => 1 + (i : Int) := by
          rw [show (1 + (m : Int) + 1 - 1).toNat = m + 1 by lia, nI, List.map_map]
          refine List.map_congr_left fun i _ => ?_
          show ((1 + i : Nat) : Int) = 1 + (i : Int)
          lia
        rw [e3]; exact hI3
      · exact F.sub ⟨rfl, rfl, trivial⟩
end Mine
end
section
open PySem PySem.W PyProof.Rows PySem.Calls PySem.Spec
set_option maxRecDepth 100000
namespace Mine

/-- one text's columns at the sizes 1 to m + 1 -/
def colsOf (m : Nat) (x : List Nat) : List Int := (nI ((List.range (m + 1)).map (1 + ·))).map fun t => colOf t x 0
set_option maxHeartbeats 4000000 in
theorem partB {w : World} {A : Around} {s₀ s : Shared} {B : Heap} {L : Addr} {ob : Ob} {v v1 lv sv : Value} {T : List (List Nat)} {m : Nat} {Q E} (R : Rm A 20) (tx : Tx T) (hr : Rd B v1 (.list (T.map fun x => .str (sOf x)))) (hl : LeadsAt B lv T) (hm9 : m < 900)
    (hsv : Rd B sv (dIs (nI ((List.range (m + 1)).map (1 + ·))))) (g7 : B.get? (L + 7) = some (cellO (some lv))) (g1 : B.get? (L + 1) = some (cellO (some sv)))
    (hcol : ∀ x ∈ T, (leadOf (sOf x)).n = colOf 1 x 0 ∧ ∀ t : Nat, 1 ≤ t → t ≤ m + 1 → (leadOf (sOf x)).level t = colOf t x 0)
    (F : Fm (KK w) s₀ B L s [("script", v), ("texts", v1)] (cellN (L + 6) :: cellN (L + 5) :: cellN (L + 4) :: cellN (L + 3) :: cellN (L + 2) :: ob))
    (next : ∀ s' B' cv, Kp B B' → Rd B' cv (.list ((T.map (colsOf m)).map dIs)) → B'.get? (L + 2) = some (cellO (some cv)) →
      Fm (KK w) s₀ B' L s' [] (cellN (L + 6) :: cellN (L + 5) :: cellN (L + 4) :: cellN (L + 3) :: ob) → wpAny (model PP w) A (execs ((bodyOf w 159).drop 6) (envOf' w 159 L)) Q E s') :
    wpAny (model PP w) A (execs ((bodyOf w 159).drop 4) (envOf' w 159 L)) Q E s := by
  show wpAny _ _ (execs (_ :: _) (envX "law" ⟨_, ?n, _, _, _⟩ L 159 (.ref 158) (cellsFrom (L + 1) ?n []))) _ _ _
  have hh := R.h
  have hTl := tx.len
  refine @s_assign _ _ _ _ _ _ _ _ _ _ _ ?_ (by rfl)
  refine @e_compC _ _ _ _ _ _ _ _ _ _ _ _ _ _ ?_ (by rfl) (by rfl) (by decide +kernel) (by intro _; rfl)
  with_reducible rename Fm _ _ _ _ _ _ _ => F0
  refine @nm_local _ _ _ _ _ _ _ _ _ _ _ _ _ _ _ _ F0 (by rfl) (by rfl) ?_ (by rfl) (by rfl) (by decide)
  rename Fm _ _ _ _ _ _ _ => F
  obtain ⟨va, vvs, e1, ha1, ha2⟩ := hr.isList
  refine @comp_map _ _ _ _ _ _ _ _ _ _ _ _ _ _ _ _ _ _ _ _ _ _ (T) (fun x v => ∃ t, v = Value.str (sOf x) t) F (by rw [e1]; exact it_all hh F.kp ha1 (ha2.unmap.imp fun _ _ x => x.str_inv)) (by rw [sizeLine_eq, hTl]; lia) (colsOf m) (fun h r v => Rd h v (dIs r)) (fun h h' b v k x => x.kp k) (fun C ob => ∃ v, ob = [(C + 1, cellO v)]) (fun _ => ⟨_, rfl⟩) ?_ ?_ (fun _ _ => rfl)
  · rintro C B₁ s' ob₁ ex x xv hx kB ⟨t, rfl⟩ ⟨v0, rfl⟩ hob F
    have hxs := tx.short hx
    have hsv1 := hsv.kp kB
    have gs := kB _ _ g1
    refine @a_name _ _ _ _ _ _ _ _ _ _ ?_
    with_reducible rename Fm _ _ _ _ _ _ _ => F0
    refine @st_cell _ _ _ _ _ _ _ _ _ _ _ _ _ _ _ _ _ _ F0 (by rfl) (by rfl) (by exact UpO.head _) ?_ (by rfl)
    clear F0
    intro _ _
    refine @e_compC _ _ _ _ _ _ _ _ _ _ _ _ _ _ ?_ (by rfl) (by rfl) (by decide +kernel) (by intro _; rfl)
    with_reducible rename Fm _ _ _ _ _ _ _ => F0
    refine @nm_cellB _ _ _ _ _ _ _ _ _ _ _ _ _ _ _ _ _ F0 (by rfl) (by rfl) (by assumption) ?_ (by rfl) (by decide)
    rename Fm _ _ _ _ _ _ _ => F
    refine @comp_map _ _ _ _ _ _ _ _ _ _ _ _ _ _ _ _ _ _ _ _ _ _ _ _ F (it_ints hh F.kp hsv1) (by rw [sizeLine_eq]; simp; lia) (fun t => colOf t x 0) (fun _ n v => ∃ t, v = Value.int n t) (fun _ _ _ _ _ h => h) (fun _ ob => ob = []) (fun _ => rfl) ?_ ?_ (fun _ _ => rfl)
    · rintro C' B₁' s' ob₁' ex' sz xv' hsz kB' ⟨t', rfl⟩ rfl hob' F
      have hcell : (C + 1, cellO (some (.str (sOf x) t))) ∈ [] ++ ex' := hob' _ (.head _)
      have hpos : 0 < sz := by
        obtain ⟨n, hn, rfl⟩ := List.mem_map.mp hsz
        obtain ⟨k, hk, rfl⟩ := List.mem_map.mp hn
        omega
      refine @a_name _ _ _ _ _ _ _ _ _ _ ?_
      with_reducible rename Fm _ _ _ _ _ _ _ => F0
      refine @st_local _ _ _ _ _ _ _ _ _ _ _ _ _ _ _ F0 (by rfl) ?_ (by rfl) (by rfl)
      clear F0
      intro _ _
      refine @e_call _ _ _ _ _ _ _ _ _ _ _ ?_
      with_reducible rename Fm _ _ _ _ _ _ _ => F0
      refine @nm_glob _ _ _ _ _ _ _ _ _ _ _ _ _ _ _ _ F0 (by rfl) (by exact kn_law_column _) ?_ (by rfl) (by rfl) (by decide)
      with_reducible rename Fm _ _ _ _ _ _ _ => F0
      refine @cw_F2 _ _ _ _ _ _ _ _ _ _ _ _ (Fm.gdh F0) (by rfl) ?_ (by rfl)
      with_reducible rename Fm _ _ _ _ _ _ _ => F0
      refine @nm_cellO _ _ _ _ _ _ _ _ _ _ _ _ _ _ _ _ _ F0 (by rfl) (by rfl) (by assumption) ?_ (by rfl) (by decide)
      with_reducible rename Fm _ _ _ _ _ _ _ => F0
      refine @nm_local _ _ _ _ _ _ _ _ _ _ _ _ _ _ _ _ F0 (by rfl) (by rfl) ?_ (by rfl) (by rfl) (by decide)
      with_reducible rename Fm _ _ _ _ _ _ _ => F0
      refine ⟨Fm.gdh F0, ?_⟩
      rename Fm _ _ _ _ _ _ _ => F
      refine @column_spec _ _ _ _ _ _ _ _ _ (R.le (by lia)) F.gdh hpos fun t s₂ gr => ?_
      replace F := F.gr gr
      exact ⟨B₁', [], _, Kp.rfl, rfl, ⟨t, rfl⟩, F⟩
    · intro D s' B3 ys k k3 F hD hall
      exact ⟨B3, _, _, k3, ⟨_, rfl⟩, Rd.list hD (RdL.ints (rd_ints (h := B3) hall)), F⟩
  · intro D s' B2 ys k k2 F hD hall
    with_reducible rename Fm _ _ _ _ _ _ _ => F0
    refine @st_cell _ _ _ _ _ _ _ _ _ _ _ _ _ _ _ _ _ _ F0 (by rfl) (by rfl) (by exact UpO.tail _ (UpO.tail _ (UpO.tail _ (UpO.tail _ (UpO.head _))))) ?_ (by rfl)
    clear F0
    intro _ _
    rename Fm _ _ _ _ _ _ _ => F
    obtain ⟨B3, k3, F, g3⟩ := F.freezeAt (.tail _ (.tail _ (.tail _ (.tail _ (.head _)))))
    have hcv : Rd B3 (.ref D) (.list ((T.map (colsOf m)).map dIs)) := (Rd.list hD (rdL_of hall)).kp k3
    have kk := k2.trans k3
    replace hsv := hsv.kp kk
    replace g1 := kk _ _ g1
    replace g7 := kk _ _ g7
    obtain ⟨Dl, yl, kl, rfl, hDl, hal⟩ := hl
    replace hDl := kk _ _ hDl
    replace hal := hal.imp fun x v ⟨a, e, la⟩ => (⟨a, e, la.kp kk⟩ : ∃ a, v = Value.ref a ∧ LeadAt 119 B3 a (leadOf (sOf x)))
    refine @s_if _ _ _ _ _ _ _ _ _ _ _ ?_
    refine wpAny_isTrue_Compare1 ?_ (by rfl)
    refine @e_compC _ _ _ _ _ _ _ _ _ _ _ _ _ _ ?_ (by rfl) (by rfl) (by decide +kernel) (by intro _; rfl)
    with_reducible rename Fm _ _ _ _ _ _ _ => F0
    refine @nm_cellB _ _ _ _ _ _ _ _ _ _ _ _ _ _ _ _ _ F0 (by rfl) (by rfl) (by assumption) ?_ (by rfl) (by decide)
    rename Fm _ _ _ _ _ _ _ => F
    refine @comp_map _ _ _ _ _ _ _ _ _ _ _ _ _ _ _ _ _ _ _ _ _ _ (T) (fun x v => ∃ a, v = Value.ref a ∧ LeadAt 119 B3 a (leadOf (sOf x))) F (it_all hh F.kp (⟨_, hDl, rfl, kl, rfl⟩ : B3.IsList Dl yl.toArray) (by simpa using hal)) (by rw [sizeLine_eq, hTl]; lia) (fun x => (leadOf (sOf x)).n :: (nI ((List.range (m + 1)).map (1 + ·))).map (leadOf (sOf x)).level) (fun h r v => Rd h v (dIs r)) (fun _ _ _ _ k h => h.kp k) (fun C ob => ∃ v, ob = [(C + 1, cellO v)]) (fun _ => ⟨_, rfl⟩) ?_ ?_ (fun _ _ => rfl)
    · rintro C B₁ s' ob₁ ex x xv hx kB ⟨a, rfl, la⟩ ⟨v0, rfl⟩ hob F
      have la1 := la.kp kB
      have hsv1 := hsv.kp kB
      have gs := kB _ _ g1
      refine @a_name _ _ _ _ _ _ _ _ _ _ ?_
      with_reducible rename Fm _ _ _ _ _ _ _ => F0
      refine @st_cell _ _ _ _ _ _ _ _ _ _ _ _ _ _ _ _ _ _ F0 (by rfl) (by rfl) (by exact UpO.head _) ?_ (by rfl)
      clear F0
      intro _ _
      refine wpAny_BinOp ?_
      refine @e_list _ _ _ _ _ _ _ _ _ ?_
      refine @sp_cons _ _ _ _ _ _ _ _ _ _ ?_ (by rfl)
      refine Attribute_any_ ?_
      with_reducible rename Fm _ _ _ _ _ _ _ => F0
      refine @nm_cellO _ _ _ _ _ _ _ _ _ _ _ _ _ _ _ _ _ F0 (by rfl) (by rfl) (by exact List.Mem.head _) ?_ (by rfl) (by decide)
      with_reducible rename Fm _ _ _ _ _ _ _ => F0
      refine @ga_n _ _ _ _ _ _ _ _ _ _ _ _ _ _ _ _ _ _ _ (leadK _) F0 (by assumption) ?_
      clear F0
      intro _ _ _
      refine @sp_nil _ _ _ _ _ _ _ _ ?_
      with_reducible rename Fm _ _ _ _ _ _ _ => F0
      refine @n_list _ _ _ _ _ _ _ _ _ _ _ _ _ F0 (by simp [sizeLine_eq]) ?_
      clear F0
      intro _ _ _
      refine @e_compC _ _ _ _ _ _ _ _ _ _ _ _ _ _ ?_ (by rfl) (by rfl) (by decide +kernel) (by intro _; rfl)
      with_reducible rename Fm _ _ _ _ _ _ _ => F0
      refine @nm_cellB _ _ _ _ _ _ _ _ _ _ _ _ _ _ _ _ _ F0 (by rfl) (by rfl) (by assumption) ?_ (by rfl) (by decide)
      rename Fm _ _ _ _ _ _ _ => F
      refine @comp_map _ _ _ _ _ _ _ _ _ _ _ _ _ _ _ _ _ _ _ _ _ _ _ _ F (it_ints hh F.kp hsv1) (by rw [sizeLine_eq]; simp; lia) (leadOf (sOf x)).level (fun _ n v => ∃ t, v = Value.int n t) (fun _ _ _ _ _ h => h) (fun _ ob => ob = []) (fun _ => rfl) ?_ ?_ (fun _ _ => rfl)
      · rintro C' B₁' s' ob₁' ex' sz xv' hsz kB' ⟨t', rfl⟩ rfl hob' F
        have hcell : (C + 1, cellO (some (.ref a))) ∈ [] ++ ex' := hob' _ (.tail _ (.head _))
        have la2 := la1.kp kB'
        have hpos : 0 < sz ∧ sz < 1000 := by
          obtain ⟨n, hn, rfl⟩ := List.mem_map.mp hsz
          obtain ⟨k, hk, rfl⟩ := List.mem_map.mp hn
          have := List.mem_range.mp hk
          omega
        refine @a_name _ _ _ _ _ _ _ _ _ _ ?_
        with_reducible rename Fm _ _ _ _ _ _ _ => F0
        refine @st_local _ _ _ _ _ _ _ _ _ _ _ _ _ _ _ F0 (by rfl) ?_ (by rfl) (by rfl)
        clear F0
        intro _ _
        refine @e_meth _ _ _ _ _ _ _ _ _ _ _ _ ?_ (by rfl) (by rfl) (by rfl)
        with_reducible rename Fm _ _ _ _ _ _ _ => F0
        refine @nm_cellO _ _ _ _ _ _ _ _ _ _ _ _ _ _ _ _ _ F0 (by rfl) (by rfl) (by assumption) ?_ (by rfl) (by decide)
        with_reducible rename Fm _ _ _ _ _ _ _ => F0
        refine @gm_lead _ _ _ _ _ _ _ _ _ _ _ _ _ _ _ _ (leadK _) (Fm.gdh F0) (LeadAt.kp (by assumption) (Fm.kp F0)) (.inr (.inl ⟨rfl, rfl⟩)) ?_
        with_reducible rename Fm _ _ _ _ _ _ _ => F0
        refine @cw_M1 _ _ _ _ _ _ _ _ _ _ _ _ (Fm.gdh F0) (by rfl) ?_ (by rfl)
        with_reducible rename Fm _ _ _ _ _ _ _ => F0
        refine @nm_local _ _ _ _ _ _ _ _ _ _ _ _ _ _ _ _ F0 (by rfl) (by rfl) ?_ (by rfl) (by rfl) (by decide)
        with_reducible rename Fm _ _ _ _ _ _ _ => F0
        refine ⟨Fm.gdh F0, ?_⟩
        rename Fm _ _ _ _ _ _ _ => F
        refine @indent_spec _ _ _ _ _ _ _ _ _ (R.le (by lia)) F.gdh (la2.kp F.kp) hpos.1 hpos.2 fun t s₂ gr => ?_
        replace F := F.gr gr
        exact ⟨B₁', [], _, Kp.rfl, rfl, ⟨t, rfl⟩, F⟩
      · intro D' s' B4 ys' k' k4 F hD' hall'
        skip
        rename Fm _ _ _ _ _ _ _ => F
        have hI := rd_ints (h := B4) hall'
        have hIl := hI.length
        refine @o_addL _ _ _ _ _ _ _ _ _ _ _ _ _ _ _ _ _ _ F (F.get (.head _)) (F.kp _ _ hD') (by rw [sizeLine_eq]; simp at hIl ⊢; lia) fun c s₃ F => ?_
        obtain ⟨B5, k5, F, g5⟩ := F.freezeAt (.head _)
        replace F := F.drop (List.sublist_cons_self _ _)
        exact ⟨B5, _, _, k4.trans k5, ⟨_, rfl⟩, Rd.list g5 (RdL.ints (.cons _ _ hI)), F⟩
    · intro D' s' B4 ys' k' k4 F hD' hall'
      refine @e_compC _ _ _ _ _ _ _ _ _ _ _ _ _ _ ?_ (by rfl) (by rfl) (by decide +kernel) (by intro _; rfl)
      rename Fm _ _ _ _ _ _ _ => F
      have hcv4 := hcv.kp k4
      have gc := k4 _ _ g3
      with_reducible rename Fm _ _ _ _ _ _ _ => F0
      refine @nm_cellB _ _ _ _ _ _ _ _ _ _ _ _ _ _ _ _ _ F0 (by rfl) (by rfl) (by assumption) ?_ (by rfl) (by decide)
      rename Fm _ _ _ _ _ _ _ => F
      obtain ⟨vc, vcs, e2, hc1, hc2⟩ := hcv4.isList
      refine @comp_map _ _ _ _ _ _ _ _ _ _ _ _ _ _ _ _ _ _ _ _ _ _ (T.map (colsOf m)) (fun r v => Rd B4 v (dIs r)) F (by rw [e2]; exact it_all hh F.kp hc1 hc2.unmap) (by rw [sizeLine_eq, List.length_map, hTl]; lia) (fun r => r.take 1 ++ r) (fun h r v => Rd h v (dIs r)) (fun _ _ _ _ k h => h.kp k) (fun _ ob => ob = []) (fun _ => rfl) ?_ ?_ (fun _ _ => rfl)
      · rintro C B₁ s' ob₁ ex r xv hrT kB hrv rfl hob F
        have hrl : r.length = m + 1 := by
          obtain ⟨x, hx, rfl⟩ := List.mem_map.mp hrT
          simp [colsOf]
        obtain ⟨ra, rvs, rfl, hra, hrI⟩ := (hrv.kp kB).isList
        have hrI' := hrI.toInts
        have hrl' := hrI'.length
        refine @a_name _ _ _ _ _ _ _ _ _ _ ?_
        with_reducible rename Fm _ _ _ _ _ _ _ => F0
        refine @st_local _ _ _ _ _ _ _ _ _ _ _ _ _ _ _ F0 (by rfl) ?_ (by rfl) (by rfl)
        clear F0
        intro _ _
        refine wpAny_BinOp ?_
        refine Subscript_ ?_
        with_reducible rename Fm _ _ _ _ _ _ _ => F0
        refine @nm_local _ _ _ _ _ _ _ _ _ _ _ _ _ _ _ _ F0 (by rfl) (by rfl) ?_ (by rfl) (by rfl) (by decide)
        refine @e_slice _ _ _ _ _ _ _ _ _ _ _ ?_
        refine @ep_none _ _ _ _ _ _ _ ?_
        refine @ep_some _ _ _ _ _ _ _ _ ?_
        with_reducible rename Fm _ _ _ _ _ _ _ => F0
        refine @e_int _ _ _ _ _ _ _ _ _ _ _ _ _ _ _ _ F0 ?_
        clear F0
        intro _ _ _
        refine @ep_none _ _ _ _ _ _ _ ?_
        rename Fm _ _ _ _ _ _ _ => F
        intro S s₄ gS hS
        replace F := F.gr gS
        refine @sub_slice _ _ _ _ _ _ _ _ _ _ _ _ _ _ _ _ _ _ _ _ _ _ _ _ F (let ⟨o, ho, r⟩ := hra; ⟨o, F.kp _ _ ho, r⟩) hS .none (.int _ _) .none (by simp) (by rw [sizeLine_eq]; simp at hrl'; lia) (fun D1 s₅ F => ?_) (by with_unfolding_all rfl)
        rw [pick_upto (by lia)] at F
        with_reducible rename Fm _ _ _ _ _ _ _ => F0
        refine @nm_local _ _ _ _ _ _ _ _ _ _ _ _ _ _ _ _ F0 (by rfl) (by rfl) ?_ (by rfl) (by rfl) (by decide)
        rename Fm _ _ _ _ _ _ _ => F
        refine @o_addLI _ _ _ _ _ _ _ _ _ _ _ _ _ _ (rvs.toList.take (1 : Int).toNat) (rvs.toList) F ⟨_, F.get (.head _), rfl, 0, rfl⟩ (isList_L (isList_kp hra F.kp)) (by rw [sizeLine_eq, List.length_take]; lia) fun c s₆ F => ?_
        obtain ⟨B5, k5, F, g5⟩ := F.freezeAt (.head _)
        replace F := F.drop (List.sublist_cons_self _ _)
        refine ⟨B5, _, _, k5, rfl, Rd.list g5 (RdL.ints ?_), F⟩
        exact (ints_take 1 hrI').append hrI'
      · intro D2 s' B5 ys2 kk2 k5 F hD2 hall2
        have q1 := rdL_of (f := dIs) hall'
        have q2 := rdL_of (f := dIs) hall2
        have e : (T.map fun x => (leadOf (sOf x)).n :: (nI ((List.range (m + 1)).map (1 + ·))).map (leadOf (sOf x)).level) = (T.map (colsOf m)).map fun r => r.take 1 ++ r := by
          rw [List.map_map]
          refine List.map_congr_left fun x hx => ?_
          obtain ⟨h1, h2⟩ := hcol x hx
          have h3 : (nI ((List.range (m + 1)).map (1 + ·))).map (leadOf (sOf x)).level = colsOf m x := by
            unfold colsOf
            refine List.map_congr_left fun t ht => ?_
            obtain ⟨n, hn, rfl⟩ := List.mem_map.mp ht
            obtain ⟨k, hk, rfl⟩ := List.mem_map.mp hn
            have := List.mem_range.mp hk
            exact h2 _ (by lia) (by lia)
          show _ :: _ = (colsOf m x).take 1 ++ colsOf m x
          rw [h3, h1]
          have : (colsOf m x).take 1 = [colOf 1 x 0] := by
            unfold colsOf
            rw [List.range_succ_eq_map]
            rfl
          rw [this]; rfl
        rw [e] at q1
        skip
        rename Fm _ _ _ _ _ _ _ => F
        refine @ne_D _ _ _ _ _ _ _ _ _ _ _ _ _ _ _ _ (10) F ((Rd.list hD' q1).kp (k5.trans F.kp)) ((Rd.list hD2 q2).kp F.kp) (shaped2 _) (shaped2 _) (R.le (by lia)) ?_
        rw [eqv_same (shaped2 _)]
        refine wpAny_truthy_bool ?_
        refine @ite_b _ _ _ (fun c => absurd c (by simp)) (fun _ => ?_)
        refine @s_nil _ _ _ _ _ _ ?_
        with_reducible refine @then_next _ _ _ _ _ _ _ ?_
        rename Fm _ _ _ _ _ _ _ => F
        have kf := kk.trans (k4.trans k5)
        exact next _ B5 (.ref D) kf (hcv.kp (k4.trans k5)) ((k4.trans k5) _ _ g3) (F.sub trivial)
end Mine
end
section
open PySem PySem.W PyProof.Rows PySem.Calls PySem.Spec
set_option maxRecDepth 100000
namespace Mine

def insI1 (rt : Bool) (f : Int → Int) (ns : List Int) (x : Int) : List Int :=
  ns.take (if rt = true then bisR (fun i => f (ns.getD i 0)) (f x) 0 ns.length else bisL (fun i => f (ns.getD i 0)) (f x) 0 ns.length) ++ x ::
  ns.drop (if rt = true then bisR (fun i => f (ns.getD i 0)) (f x) 0 ns.length else bisL (fun i => f (ns.getD i 0)) (f x) 0 ns.length)
def firstTo (f : Int → Int) : Nat → List Int
  | 0 => []
  | k + 1 => insI1 true f (firstTo f k) (k : Int)
def secondTo (f : Int → Int) (xs : List Int) : List Int := xs.foldl (insI1 false f) []
theorem ints_ins {vs : List Value} {ns : List Int} (h : IntsAre vs ns) (p : Nat) (i : Int) (t : Tok) : IntsAre (insAt vs p (.int i t)) (ns.take p ++ i :: ns.drop p) :=
  (ints_take p h).append (.cons i t (ints_drop p h))
theorem insI1_mem {rt : Bool} {f : Int → Int} {ns : List Int} {x y : Int} : y ∈ insI1 rt f ns x ↔ y = x ∨ y ∈ ns := by
  unfold insI1
  generalize (if rt = true then bisR (fun i => f (ns.getD i 0)) (f x) 0 ns.length else bisL (fun i => f (ns.getD i 0)) (f x) 0 ns.length) = p
  have e : y ∈ ns ↔ y ∈ ns.take p ∨ y ∈ ns.drop p := by rw [← List.mem_append, List.take_append_drop]
  rw [List.mem_append, List.mem_cons, e]
  constructor
  · rintro (h | h | h)
    · exact .inr (.inl h)
    · exact .inl h
    · exact .inr (.inr h)
  · rintro (h | h | h)
    · exact .inr (.inl h)
    · exact .inl h
    · exact .inr (.inr h)
theorem insI1_len {rt : Bool} {f : Int → Int} {ns : List Int} {x : Int} : (insI1 rt f ns x).length = ns.length + 1 := by
  unfold insI1
  generalize (if rt = true then bisR (fun i => f (ns.getD i 0)) (f x) 0 ns.length else bisL (fun i => f (ns.getD i 0)) (f x) 0 ns.length) = p
  simp; lia
theorem firstTo_mem {f : Int → Int} : ∀ {k : Nat} {y : Int}, y ∈ firstTo f k ↔ 0 ≤ y ∧ y < k
  | 0, y => by
    simp [firstTo]
    try omega
  | k + 1, y => by rw [firstTo, insI1_mem, firstTo_mem]; lia
theorem firstTo_len {f : Int → Int} : ∀ {k : Nat}, (firstTo f k).length = k
  | 0 => rfl
  | k + 1 => by rw [firstTo, insI1_len, firstTo_len]
/-- the level of a lead by its number -/
def lvl (T : List (List Nat)) (ts : Int) (k : Int) : Int := (leadOf (sOf (T.getD k.toNat []))).level ts
set_option maxHeartbeats 4000000 in
theorem partC {w : World} {A : Around} {s₀ s : Shared} {B : Heap} {L : Addr} {lv : Value} {T : List (List Nat)} {m : Nat} {tt : Tok} {Q E} (R : Rm A 20) (tx : Tx T) (hl : LeadsAt B lv T) (hm9 : m < 900) (bi : BI 156 B)
    (g7 : B.get? (L + 7) = some (cellO (some lv))) (g8 : B.get? (L + 8) = some (cellO (some (.int ((m + 1 : Nat) : Int) tt))))
    (F : Fm (KK w) s₀ B L s [] (cellN (L + 6) :: cellN (L + 5) :: cellN (L + 4) :: cellN (L + 3) :: [(156, tabObj #[])]))
    (next : ∀ s' B' fv ps, Kp B B' → Rd B' fv (dIs (firstTo (lvl T ((m + 1 : Nat) : Int)) 6)) → B'.get? (L + 3) = some (cellO (some fv)) → TriplesOk ps.toList → codeAmong ⟨176, 35, 176, 73⟩ ps.toList = none →
      Fm (KK w) s₀ B' L s' [] (cellN (L + 6) :: cellN (L + 5) :: cellN (L + 4) :: [(156, tabObj ps)]) → wpAny (model PP w) A (execs ((bodyOf w 159).drop 8) (envOf' w 159 L)) Q E s') :
    wpAny (model PP w) A (execs ((bodyOf w 159).drop 6) (envOf' w 159 L)) Q E s := by
  show wpAny _ _ (execs (_ :: _) (envX "law" ⟨_, ?n, _, _, _⟩ L 159 (.ref 158) (cellsFrom (L + 1) ?n []))) _ _ _
  have hh := R.h
  have hTl := tx.len
  obtain ⟨Dl, yl, kl, rfl, hDl, hal⟩ := hl
  have hKc : codeHdIn (KK w) 158 156 = true := by kernel_rfl
  refine @s_assign _ _ _ _ _ _ _ _ _ _ _ ?_ (by rfl)
  refine @e_list _ _ _ _ _ _ _ _ _ ?_
  refine @sp_nil _ _ _ _ _ _ _ _ ?_
  with_reducible rename Fm _ _ _ _ _ _ _ => F0
  refine @n_list _ _ _ _ _ _ _ _ _ _ _ _ _ F0 (by simp [sizeLine_eq]) ?_
  clear F0
  intro _ _ _
  with_reducible rename Fm _ _ _ _ _ _ _ => F0
  refine @st_cell _ _ _ _ _ _ _ _ _ _ _ _ _ _ _ _ _ _ F0 (by rfl) (by rfl) (by exact UpO.tail _ (UpO.tail _ (UpO.tail _ (UpO.tail _ (UpO.head _))))) ?_ (by rfl)
  clear F0
  intro _ _
  refine @s_for _ _ _ _ _ _ _ _ _ _ _ _ ?_ (by intro _; rfl)
  refine @e_call _ _ _ _ _ _ _ _ _ _ _ ?_
  with_reducible rename Fm _ _ _ _ _ _ _ => F0
  refine @nm_bi _ _ _ _ _ _ _ _ _ _ _ _ _ _ _ _ F0 (by rfl) (by rfl) (by exact bb_range) ?_ (by rfl) (by rfl) (by rfl) (by decide) (by decide)
  refine @cw_ty1 _ _ _ _ _ _ _ _ _ _ ?_ (by rfl)
  with_reducible rename Fm _ _ _ _ _ _ _ => F0
  refine @e_int _ _ _ _ _ _ _ _ _ _ _ _ _ _ _ _ F0 ?_
  clear F0
  intro _ _ _
  rename Fm _ _ _ _ _ _ _ => F
  refine @b_range1 _ _ _ _ _ _ _ _ _ _ _ _ _ _ hh F (by lia) (by lia) fun r s₃ F it => ?_
  obtain ⟨Fa, F⟩ : ∃ Fa, Fm (KK w) s₀ B L s₃ [] ((Fa, lsO [] 0) :: cellN (L + 6) :: cellN (L + 5) :: cellN (L + 4) :: (L + 3, cellO (some (.ref Fa))) :: [(156, tabObj #[])]) := ⟨_, F⟩
  refine @for_iterB _ _ _ _ _ _ _ _ _ _ _ _ _ _ _ _ _ _ _ F (it _) (fun i B₁ l₁ ob₁ => l₁ = [] ∧ ∃ vs n ps, ob₁ = (Fa, lsO vs n) :: cellN (L + 6) :: cellN (L + 5) :: cellN (L + 4) :: (L + 3, cellO (some (.ref Fa))) :: [(156, tabObj ps)] ∧ IntsAre vs (firstTo (lvl T ((m + 1 : Nat) : Int)) i) ∧
    TabK B₁ ⟨173, 35, 173, 75⟩ "law.<locals>.<lambda>" ps ∧ codeAmong ⟨176, 35, 176, 73⟩ ps.toList = none) ⟨rfl, [], 0, #[], rfl, .nil, ⟨trivial, .inl rfl⟩, rfl⟩ ?_ ?_
  · rintro i B₁ s₅ l₁ ob₁ ex xv hi kB ⟨rfl, vs, n, ps, rfl, hI, htk, hp2⟩ ⟨t, rfl⟩ F
    have hi6 : i < 6 := hi
    with_reducible rename Fm _ _ _ _ _ _ _ => F0
    refine @st_local _ _ _ _ _ _ _ _ _ _ _ _ _ _ _ F0 (by rfl) ?_ (by rfl) (by rfl)
    clear F0
    intro _ _
    refine @s_expr _ _ _ _ _ _ _ _ _ _ ?_ (by rfl) (by rfl)
    refine @e_callkw _ _ _ _ _ _ _ _ _ _ _ _ ?_
    with_reducible rename Fm _ _ _ _ _ _ _ => F0
    refine @nm_glob _ _ _ _ _ _ _ _ _ _ _ _ _ _ _ _ F0 (by rfl) (by exact kn_insort_right _) ?_ (by rfl) (by rfl) (by decide)
    with_reducible rename Fm _ _ _ _ _ _ _ => F0
    refine @cw_KW _ _ _ _ _ _ _ _ _ _ _ _ _ _ _ _ (Fm.gdh F0) (by rfl) ?_ (by rfl) (by rfl)
    refine @sp_cons _ _ _ _ _ _ _ _ _ _ ?_ (by rfl)
    with_reducible rename Fm _ _ _ _ _ _ _ => F0
    refine @nm_cellO _ _ _ _ _ _ _ _ _ _ _ _ _ _ _ _ _ F0 (by rfl) (by rfl) (by exact List.Mem.tail _ (List.Mem.tail _ (List.Mem.tail _ (List.Mem.tail _ (List.Mem.head _))))) ?_ (by rfl) (by decide)
    refine @sp_cons _ _ _ _ _ _ _ _ _ _ ?_ (by rfl)
    with_reducible rename Fm _ _ _ _ _ _ _ => F0
    refine @nm_local _ _ _ _ _ _ _ _ _ _ _ _ _ _ _ _ F0 (by rfl) (by rfl) ?_ (by rfl) (by rfl) (by decide)
    refine @sp_nil _ _ _ _ _ _ _ _ ?_
    rename Fm _ _ _ _ _ _ _ => F
    refine @e_lamB _ _ _ _ _ _ _ _ _ _ _ _ _ _ _ _ _ _ _ _ (fun o => (Fa, lsO vs n) :: cellN (L + 6) :: cellN (L + 5) :: cellN (L + 4) :: (L + 3, cellO (some (.ref Fa))) :: (156, o) :: ex) _ F (bi.kp kB) htk (by rfl) (by rfl) (by rfl) (by rfl) hKc (fun o => .tail _ (.tail _ (.tail _ (.tail _ (.tail _ (.head _)))))) rfl fun f s₆ B2 ps2 k2 la tk2 hps F => ?_
    have kk := kB.trans k2
    have hcall : KeyOk PP w B2 f ((i : Int) :: firstTo (lvl T ((m + 1 : Nat) : Int)) i) (lvl T ((m + 1 : Nat) : Int)) := by
      have G2 := F.gd
      refine ⟨let ⟨pm, cv, ctv, h1, _⟩ := la.is; ⟨_, _, h1, rfl⟩, fun A Q E s v t k R hv hq => ?_⟩
      have hv6 : 0 ≤ v ∧ v < 6 := by
        rcases List.mem_cons.mp hv with rfl | hv
        · lia
        · have := firstTo_mem.mp hv; lia
      refine @call_lam _ _ _ _ _ _ _ _ _ _ _ _ _ _ [("one", .int v t)] _ R (G2.kp k) (la.kp k) (by intro _ _ _; rfl) (by rfl) (by rfl) (fun L' s' A' cv' hL F' R' => ?_) (by rfl) (by rfl) (by rfl)
      have gl := k _ _ (kk _ _ g7)
      have gt := k _ _ (kk _ _ g8)
      have hx0 : T[v.toNat]? = some (T.getD v.toNat []) := by
        rw [List.getD_eq_getElem?_getD, List.getElem?_eq_getElem (by lia)]; rfl
      obtain ⟨y, hy, a, rfl, lat⟩ := hal.get hx0
      have lat' := lat.kp (kk.trans k)
      refine @e_meth _ _ _ _ _ _ _ _ _ _ _ _ ?_ (by rfl) (by rfl) (by rfl)
      refine Subscript_ ?_
      with_reducible rename Fm _ _ _ _ _ _ _ => F0
      refine @nm_freeB _ _ _ _ _ _ _ _ _ _ _ _ _ _ _ _ _ F0 (by rfl) (by rfl) (by assumption) ?_ (by rfl) (by decide) (by decide)
      with_reducible rename Fm _ _ _ _ _ _ _ => F0
      refine @nm_local _ _ _ _ _ _ _ _ _ _ _ _ _ _ _ _ F0 (by rfl) (by rfl) ?_ (by rfl) (by rfl) (by decide)
      rename Fm _ _ _ _ _ _ _ => F
      refine @sub_list _ _ _ _ _ _ _ _ _ _ (yl.toArray) _ _ (isList_kp (⟨_, hDl, rfl, kl, rfl⟩ : B.IsList Dl yl.toArray) ((kk.trans k).trans F.kp)) hv6.1 (by lia) (by simpa using hy) ?_ (by with_unfolding_all rfl)
      with_reducible rename Fm _ _ _ _ _ _ _ => F0
      refine @gm_lead _ _ _ _ _ _ _ _ _ _ _ _ _ _ _ _ (leadK _) (Fm.gdh F0) (LeadAt.kp (by assumption) (Fm.kp F0)) (.inr (.inl ⟨rfl, rfl⟩)) ?_
      with_reducible rename Fm _ _ _ _ _ _ _ => F0
      refine @cw_M1 _ _ _ _ _ _ _ _ _ _ _ _ (Fm.gdh F0) (by rfl) ?_ (by rfl)
      with_reducible rename Fm _ _ _ _ _ _ _ => F0
      refine @nm_freeB _ _ _ _ _ _ _ _ _ _ _ _ _ _ _ _ _ F0 (by rfl) (by rfl) (by assumption) ?_ (by rfl) (by decide) (by decide)
      with_reducible rename Fm _ _ _ _ _ _ _ => F0
      refine ⟨Fm.gdh F0, ?_⟩
      rename Fm _ _ _ _ _ _ _ => F
      refine @indent_spec _ _ _ _ _ _ _ _ _ (R'.le (by lia)) F.gdh (lat'.kp F.kp) (by lia) (by lia) fun t' s₇ gr => ?_
      replace F := F.gr gr
      exact hq _ _ ⟨F.sm, F.kp⟩
    with_reducible rename Fm _ _ _ _ _ _ _ => F0
    refine ⟨Fm.gdh F0, ?_⟩
    rename Fm _ _ _ _ _ _ _ => F
    have kh : Kp B2 (Shared.heap _ |>.hide Fa) := F.kpHide (.head _)
    refine @insR_key _ _ _ _ _ _ _ _ _ _ _ _ _ (R.le (by lia)) (F.gd.kp kh) (F.get (.head _)) hI (by rw [firstTo_len]; lia) (hcall.kp kh fun y hy => hy) fun s₇ hs hk ha => ?_
    replace F := F.upH (.head _) hk ha hs
    refine @s_nil _ _ _ _ _ _ ?_
    with_reducible refine @lp_next _ _ _ ?_
    rename Fm _ _ _ _ _ _ _ => F
    refine ⟨B2, [], _, k2, ⟨rfl, _, _, ps2, rfl, ?_, tk2, ?_⟩, F.sub trivial⟩
    · rw [firstTo]; exact ints_ins hI _ _ _
    · rw [hps _ (by simp)]; exact hp2
  · rintro B₁ s₅ l₁ ob₁ kB ⟨rfl, vs, n, ps, rfl, hI, htk, hp2⟩ F
    with_reducible refine @then_next _ _ _ _ _ _ _ ?_
    rename Fm _ _ _ _ _ _ _ => F
    obtain ⟨B2, k2, F, g2⟩ := F.freezeAt (.head _)
    obtain ⟨B3, k3, F, g3⟩ := F.freezeAt (.tail _ (.tail _ (.tail _ (.head _))))
    exact next _ B3 (.ref Fa) ps (kB.trans (k2.trans k3)) (Rd.list (k3 _ _ g2) (RdL.ints hI)) g3 htk.1 hp2 F
end Mine
end
section
open PySem PySem.W PyProof.Rows PySem.Calls PySem.Spec
set_option maxRecDepth 100000
namespace Mine

theorem secondTo_snoc {f : Int → Int} {xs : List Int} {x : Int} : secondTo f (xs ++ [x]) = insI1 false f (secondTo f xs) x := by
  unfold secondTo; rw [List.foldl_append]; rfl
theorem foldIns {rt : Bool} {f : Int → Int} : ∀ (xs acc : List Int), (xs.foldl (insI1 rt f) acc).length = acc.length + xs.length ∧ ∀ y, y ∈ xs.foldl (insI1 rt f) acc ↔ y ∈ acc ∨ y ∈ xs
  | [], acc => ⟨rfl, fun y => by simp⟩
  | x :: r, acc => by
    have ih := foldIns (rt := rt) (f := f) r (insI1 rt f acc x)
    rw [List.foldl_cons]
    refine ⟨by rw [ih.1, insI1_len, List.length_cons]; lia, fun y => ?_⟩
    rw [ih.2, insI1_mem, List.mem_cons]
    constructor
    · rintro ((h | h) | h)
      · exact .inr (.inl h)
      · exact .inl h
      · exact .inr (.inr h)
    · rintro (h | h | h)
      · exact .inl (.inr h)
      · exact .inl (.inl h)
      · exact .inr h
theorem secondTo_mem {f : Int → Int} {xs : List Int} {y : Int} : y ∈ secondTo f xs ↔ y ∈ xs := by rw [secondTo, (foldIns xs []).2]; simp
theorem secondTo_len {f : Int → Int} {xs : List Int} : (secondTo f xs).length = xs.length := by rw [secondTo, (foldIns xs []).1]; simp
set_option maxHeartbeats 4000000 in
theorem partD {w : World} {A : Around} {s₀ s : Shared} {B : Heap} {L : Addr} {lv fv : Value} {T : List (List Nat)} {xs : List Int} {ps : Array Value} {Q E} (R : Rm A 20) (tx : Tx T) (hl : LeadsAt B lv T) (bi : BI 156 B)
    (g7 : B.get? (L + 7) = some (cellO (some lv))) (hfv : Rd B fv (dIs xs)) (hxs : xs.length = 6 ∧ ∀ x ∈ xs, 0 ≤ x ∧ x < 6) (g3 : B.get? (L + 3) = some (cellO (some fv))) (hps1 : TriplesOk ps.toList) (hps2 : codeAmong ⟨176, 35, 176, 73⟩ ps.toList = none)
    (F : Fm (KK w) s₀ B L s [] (cellN (L + 6) :: cellN (L + 5) :: cellN (L + 4) :: [(156, tabObj ps)]))
    (next : ∀ s' B' Sa vs n ps, Kp B B' → B'.get? Sa = some (lsO vs n) → IntsAre vs (secondTo (lvl T 1) xs) →
      Fm (KK w) s₀ B' L s' [("second", .ref Sa)] (cellN (L + 6) :: cellN (L + 5) :: cellN (L + 4) :: [(156, tabObj ps)]) → wpAny (model PP w) A (execs ((bodyOf w 159).drop 10) (envOf' w 159 L)) Q E s') :
    wpAny (model PP w) A (execs ((bodyOf w 159).drop 8) (envOf' w 159 L)) Q E s := by
  show wpAny _ _ (execs (_ :: _) (envX "law" ⟨_, ?n, _, _, _⟩ L 159 (.ref 158) (cellsFrom (L + 1) ?n []))) _ _ _
  have hh := R.h
  have hTl := tx.len
  obtain ⟨Dl, yl, kl, rfl, hDl, hal⟩ := hl
  have hKc : codeHdIn (KK w) 158 156 = true := by kernel_rfl
  refine @s_assign _ _ _ _ _ _ _ _ _ _ _ ?_ (by rfl)
  refine @e_list _ _ _ _ _ _ _ _ _ ?_
  refine @sp_nil _ _ _ _ _ _ _ _ ?_
  with_reducible rename Fm _ _ _ _ _ _ _ => F0
  refine @n_list _ _ _ _ _ _ _ _ _ _ _ _ _ F0 (by simp [sizeLine_eq]) ?_
  clear F0
  intro _ _ _
  with_reducible rename Fm _ _ _ _ _ _ _ => F0
  refine @st_local _ _ _ _ _ _ _ _ _ _ _ _ _ _ _ F0 (by rfl) ?_ (by rfl) (by rfl)
  clear F0
  intro _ _
  refine @s_for _ _ _ _ _ _ _ _ _ _ _ _ ?_ (by intro _; rfl)
  with_reducible rename Fm _ _ _ _ _ _ _ => F0
  refine @nm_cellB _ _ _ _ _ _ _ _ _ _ _ _ _ _ _ _ _ F0 (by rfl) (by rfl) (by assumption) ?_ (by rfl) (by decide)
  rename Fm _ _ _ _ _ _ _ => F
  obtain ⟨Sa, F⟩ : ∃ Sa, Fm (KK w) s₀ B L _ [("second", .ref Sa)] ((Sa, lsO [] 0) :: cellN (L + 6) :: cellN (L + 5) :: cellN (L + 4) :: [(156, tabObj ps)]) := ⟨_, F⟩
  refine @for_iterB _ _ _ _ _ _ _ _ _ _ _ _ _ _ _ _ _ _ _ F (it_ints hh F.kp hfv) (fun i B₁ l₁ ob₁ => l₁ = ([("second", .ref Sa)] : Ls) ∧ ∃ vs n ps, ob₁ = (Sa, lsO vs n) :: cellN (L + 6) :: cellN (L + 5) :: cellN (L + 4) :: [(156, tabObj ps)] ∧ IntsAre vs (secondTo (lvl T 1) (xs.take i)) ∧
    TabK B₁ ⟨176, 35, 176, 73⟩ "law.<locals>.<lambda>" ps) ⟨rfl, [], 0, ps, rfl, .nil, ⟨hps1, .inl hps2⟩⟩ ?_ ?_
  · rintro i B₁ s₅ l₁ ob₁ ex xv hi kB ⟨rfl, vs, n, ps, rfl, hI, htk⟩ ⟨x, hx, t, rfl⟩ F
    have hxm := hxs.2 x (List.mem_of_getElem? hx)
    have htk6 : (xs.take i).length ≤ 6 := by rw [List.length_take]; omega
    with_reducible rename Fm _ _ _ _ _ _ _ => F0
    refine @st_local _ _ _ _ _ _ _ _ _ _ _ _ _ _ _ F0 (by rfl) ?_ (by rfl) (by rfl)
    clear F0
    intro _ _
    refine @s_expr _ _ _ _ _ _ _ _ _ _ ?_ (by rfl) (by rfl)
    refine @e_callkw _ _ _ _ _ _ _ _ _ _ _ _ ?_
    with_reducible rename Fm _ _ _ _ _ _ _ => F0
    refine @nm_glob _ _ _ _ _ _ _ _ _ _ _ _ _ _ _ _ F0 (by rfl) (by exact kn_insort_left _) ?_ (by rfl) (by rfl) (by decide)
    with_reducible rename Fm _ _ _ _ _ _ _ => F0
    refine @cw_KW _ _ _ _ _ _ _ _ _ _ _ _ _ _ _ _ (Fm.gdh F0) (by rfl) ?_ (by rfl) (by rfl)
    refine @sp_cons _ _ _ _ _ _ _ _ _ _ ?_ (by rfl)
    with_reducible rename Fm _ _ _ _ _ _ _ => F0
    refine @nm_local _ _ _ _ _ _ _ _ _ _ _ _ _ _ _ _ F0 (by rfl) (by rfl) ?_ (by rfl) (by rfl) (by decide)
    refine @sp_cons _ _ _ _ _ _ _ _ _ _ ?_ (by rfl)
    with_reducible rename Fm _ _ _ _ _ _ _ => F0
    refine @nm_local _ _ _ _ _ _ _ _ _ _ _ _ _ _ _ _ F0 (by rfl) (by rfl) ?_ (by rfl) (by rfl) (by decide)
    refine @sp_nil _ _ _ _ _ _ _ _ ?_
    rename Fm _ _ _ _ _ _ _ => F
    refine @e_lamB _ _ _ _ _ _ _ _ _ _ _ _ _ _ _ _ _ _ _ _ (fun o => (Sa, lsO vs n) :: cellN (L + 6) :: cellN (L + 5) :: cellN (L + 4) :: (156, o) :: ex) _ F (bi.kp kB) htk (by rfl) (by rfl) (by rfl) (by rfl) hKc (fun o => .tail _ (.tail _ (.tail _ (.tail _ (.head _))))) rfl fun f s₆ B2 ps2 k2 la tk2 hps F => ?_
    have kk := kB.trans k2
    have hcall : KeyOk PP w B2 f (x :: secondTo (lvl T 1) (xs.take i)) (lvl T 1) := by
      have G2 := F.gd
      refine ⟨let ⟨pm, cv, ctv, h1, _⟩ := la.is; ⟨_, _, h1, rfl⟩, fun A Q E s v t k R hv hq => ?_⟩
      have hv6 : 0 ≤ v ∧ v < 6 := by
        rcases List.mem_cons.mp hv with rfl | hv
        · exact hxm
        · exact hxs.2 v (List.mem_of_mem_take (secondTo_mem.mp hv))
      refine @call_lam _ _ _ _ _ _ _ _ _ _ _ _ _ _ [("one", .int v t)] _ R (G2.kp k) (la.kp k) (by intro _ _ _; rfl) (by rfl) (by rfl) (fun L' s' A' cv' hL F' R' => ?_) (by rfl) (by rfl) (by rfl)
      have gl := k _ _ (kk _ _ g7)
      have hx0 : T[v.toNat]? = some (T.getD v.toNat []) := by
        rw [List.getD_eq_getElem?_getD, List.getElem?_eq_getElem (by lia)]; rfl
      obtain ⟨y, hy, a, rfl, lat⟩ := hal.get hx0
      have lat' := lat.kp (kk.trans k)
      refine @e_meth _ _ _ _ _ _ _ _ _ _ _ _ ?_ (by rfl) (by rfl) (by rfl)
      refine Subscript_ ?_
      with_reducible rename Fm _ _ _ _ _ _ _ => F0
      refine @nm_freeB _ _ _ _ _ _ _ _ _ _ _ _ _ _ _ _ _ F0 (by rfl) (by rfl) (by assumption) ?_ (by rfl) (by decide) (by decide)
      with_reducible rename Fm _ _ _ _ _ _ _ => F0
      refine @nm_local _ _ _ _ _ _ _ _ _ _ _ _ _ _ _ _ F0 (by rfl) (by rfl) ?_ (by rfl) (by rfl) (by decide)
      rename Fm _ _ _ _ _ _ _ => F
      refine @sub_list _ _ _ _ _ _ _ _ _ _ (yl.toArray) _ _ (isList_kp (⟨_, hDl, rfl, kl, rfl⟩ : B.IsList Dl yl.toArray) ((kk.trans k).trans F.kp)) hv6.1 (by lia) (by simpa using hy) ?_ (by with_unfolding_all rfl)
      with_reducible rename Fm _ _ _ _ _ _ _ => F0
      refine @gm_lead _ _ _ _ _ _ _ _ _ _ _ _ _ _ _ _ (leadK _) (Fm.gdh F0) (LeadAt.kp (by assumption) (Fm.kp F0)) (.inr (.inl ⟨rfl, rfl⟩)) ?_
      with_reducible rename Fm _ _ _ _ _ _ _ => F0
      refine @cw_M1 _ _ _ _ _ _ _ _ _ _ _ _ (Fm.gdh F0) (by rfl) ?_ (by rfl)
      with_reducible rename Fm _ _ _ _ _ _ _ => F0
      refine @e_int _ _ _ _ _ _ _ _ _ _ _ _ _ _ _ _ F0 ?_
      clear F0
      intro _ _ _
      with_reducible rename Fm _ _ _ _ _ _ _ => F0
      refine ⟨Fm.gdh F0, ?_⟩
      rename Fm _ _ _ _ _ _ _ => F
      refine @indent_spec _ _ _ _ _ _ _ _ _ (R'.le (by lia)) F.gdh (lat'.kp F.kp) (by lia) (by lia) fun t' s₇ gr => ?_
      replace F := F.gr gr
      exact hq _ _ ⟨F.sm, F.kp⟩
    with_reducible rename Fm _ _ _ _ _ _ _ => F0
    refine ⟨Fm.gdh F0, ?_⟩
    rename Fm _ _ _ _ _ _ _ => F
    have kh : Kp B2 (Shared.heap _ |>.hide Sa) := F.kpHide (.head _)
    refine @insL_key _ _ _ _ _ _ _ _ _ _ _ _ _ (R.le (by lia)) (F.gd.kp kh) (F.get (.head _)) hI (by rw [secondTo_len]; lia) (hcall.kp kh fun y hy => hy) fun s₇ hs hk ha => ?_
    replace F := F.upH (.head _) hk ha hs
    refine @s_nil _ _ _ _ _ _ ?_
    with_reducible refine @lp_next _ _ _ ?_
    rename Fm _ _ _ _ _ _ _ => F
    refine ⟨B2, [("second", .ref Sa)], _, k2, ⟨rfl, _, _, ps2, rfl, ?_, tk2⟩, F.sub ⟨rfl, trivial⟩⟩
    rw [List.take_add_one, hx]
    show IntsAre _ (secondTo (lvl T 1) (xs.take i ++ [x]))
    rw [secondTo_snoc]; exact ints_ins hI _ _ _
  · rintro B₁ s₅ l₁ ob₁ kB ⟨rfl, vs, n, ps, rfl, hI, htk⟩ F
    with_reducible refine @then_next _ _ _ _ _ _ _ ?_
    rename Fm _ _ _ _ _ _ _ => F
    obtain ⟨B2, k2, F, g2⟩ := F.freezeAt (.head _)
    rw [List.take_length] at hI
    exact next _ B2 Sa vs n ps (kB.trans k2) g2 hI F
end Mine
end
section
open PySem PySem.W PyProof.Rows PySem.Calls PySem.Spec
set_option maxRecDepth 100000
namespace Mine

def lowTo (ans : Nat → Nat → Bool) (j : Nat) : Nat → Nat
  | 0 => 0
  | i + 1 => lowTo ans j i + (if ans i j = true then 2 ^ i else 0)
def lowOf (ans : Nat → Nat → Bool) (n : Nat) : List Nat := (List.range n).map fun j => lowTo ans j 6
theorem lowOf_succ (ans : Nat → Nat → Bool) (n : Nat) : lowOf ans (n + 1) = lowOf ans n ++ [lowTo ans n 6] := by
  unfold lowOf; rw [List.range_succ, List.map_append]; rfl
abbrev LD (T : List (List Nat)) (k : Int) : Lead := leadOf (sOf (T.getD k.toNat []))
abbrev colAt (T : List (List Nat)) (m : Nat) (k : Int) (t : Nat) : Int := (colsOf m (T.getD k.toNat [])).getD t 0
abbrev dueL (T : List (List Nat)) (m : Nat) (x y : Int) : List Nat := (List.range (m + 1)).filter fun t => decide (colAt T m y t ≤ colAt T m x t)
set_option maxHeartbeats 4000000 in
theorem partE {w : World} {A : Around} {s₀ s : Shared} {B : Heap} {L Sa : Addr} {lv fv cv : Value} {T : List (List Nat)} {m : Nat} {tt : Tok} {xs ss : List Int} {vss : List Value} {nss : Nat} {ps : Array Value} {ans : Nat → Nat → Bool} {Q E} (R : Rm A 20) (tx : Tx T) (hl : LeadsAt B lv T) (hm9 : m < 900)
    (g7 : B.get? (L + 7) = some (cellO (some lv))) (g8 : B.get? (L + 8) = some (cellO (some (.int ((m + 1 : Nat) : Int) tt)))) (hcv : Rd B cv (.list ((T.map (colsOf m)).map dIs))) (g2 : B.get? (L + 2) = some (cellO (some cv)))
    (hfv : Rd B fv (dIs xs)) (hxs : xs.length = 6 ∧ ∀ x ∈ xs, 0 ≤ x ∧ x < 6) (g3 : B.get? (L + 3) = some (cellO (some fv))) (gS : B.get? Sa = some (lsO vss nss)) (hss : IntsAre vss ss) (hsx : ∀ x, x ∈ ss ↔ x ∈ xs) (hsl : ss.length ≤ 1000)
    (hans : ∀ i j, i < 6 → j < 6 → lessB (LD T (xs.getD i 0)) (LD T (xs.getD j 0)) = ans i j) (hdue : ∀ i j, i < 6 → j < 6 → decide (nI (dueL T m (xs.getD i 0) (xs.getD j 0)) = []) = ans i j)
    (hahead : ∀ i j, i < 6 → j < 6 → (decide (i < j) && decide (ss.idxOf (xs.getD i 0) < ss.idxOf (xs.getD j 0))) = ans i j)
    (F : Fm (KK w) s₀ B L s [("second", .ref Sa)] (cellN (L + 6) :: cellN (L + 5) :: cellN (L + 4) :: [(156, tabObj ps)]))
    (next : ∀ s' B' lw, Kp B B' → Rd B' lw (dIs (nI (lowOf ans 6))) →
      Fm (KK w) s₀ B' L s' [("lower", lw)] (cellN (L + 6) :: [(156, tabObj ps)]) → wpAny (model PP w) A (execs ((bodyOf w 159).drop 12) (envOf' w 159 L)) Q E s') :
    wpAny (model PP w) A (execs ((bodyOf w 159).drop 10) (envOf' w 159 L)) Q E s := by
  show wpAny _ _ (execs (_ :: _) (envX "law" ⟨_, ?n, _, _, _⟩ L 159 (.ref 158) (cellsFrom (L + 1) ?n []))) _ _ _
  have hh := R.h
  have hTl := tx.len
  obtain ⟨Dl, yl, kl, rfl, hDl, hal⟩ := hl
  have hx6 : ∀ i, i < 6 → 0 ≤ xs.getD i 0 ∧ xs.getD i 0 < 6 ∧ xs.getD i 0 ∈ xs := fun i hi => by
    have hm : xs.getD i 0 ∈ xs := getD_mem (by omega)
    exact ⟨(hxs.2 _ hm).1, (hxs.2 _ hm).2, hm⟩
  have hT6 : ∀ k : Int, 0 ≤ k → k < 6 → T[k.toNat]? = some (T.getD k.toNat []) := fun k h1 h2 => by
    rw [List.getD_eq_getElem?_getD, List.getElem?_eq_getElem (by lia)]; rfl
  refine @s_assign _ _ _ _ _ _ _ _ _ _ _ ?_ (by rfl)
  refine @e_list _ _ _ _ _ _ _ _ _ ?_
  refine @sp_nil _ _ _ _ _ _ _ _ ?_
  with_reducible rename Fm _ _ _ _ _ _ _ => F0
  refine @n_list _ _ _ _ _ _ _ _ _ _ _ _ _ F0 (by simp [sizeLine_eq]) ?_
  clear F0
  intro _ _ _
  with_reducible rename Fm _ _ _ _ _ _ _ => F0
  refine @st_local _ _ _ _ _ _ _ _ _ _ _ _ _ _ _ F0 (by rfl) ?_ (by rfl) (by rfl)
  clear F0
  intro _ _
  refine @s_for _ _ _ _ _ _ _ _ _ _ _ _ ?_ (by intro _; rfl)
  refine @e_call _ _ _ _ _ _ _ _ _ _ _ ?_
  with_reducible rename Fm _ _ _ _ _ _ _ => F0
  refine @nm_bi _ _ _ _ _ _ _ _ _ _ _ _ _ _ _ _ F0 (by rfl) (by rfl) (by exact bb_range) ?_ (by rfl) (by rfl) (by rfl) (by decide) (by decide)
  refine @cw_ty1 _ _ _ _ _ _ _ _ _ _ ?_ (by rfl)
  with_reducible rename Fm _ _ _ _ _ _ _ => F0
  refine @e_int _ _ _ _ _ _ _ _ _ _ _ _ _ _ _ _ F0 ?_
  clear F0
  intro _ _ _
  rename Fm _ _ _ _ _ _ _ => F
  refine @b_range1 _ _ _ _ _ _ _ _ _ _ _ _ _ _ hh F (by lia) (by lia) fun r s₃ F it => ?_
  obtain ⟨La, F⟩ : ∃ La, Fm (KK w) s₀ B L s₃ [("second", .ref Sa), ("lower", .ref La)] ((La, lsO [] 0) :: cellN (L + 6) :: cellN (L + 5) :: cellN (L + 4) :: [(156, tabObj ps)]) := ⟨_, F⟩
  refine @for_iterB _ _ _ _ _ _ _ _ _ _ _ _ _ _ _ _ _ _ _ F (it _) (fun j B₁ l₁ ob₁ => l₁ = ([("second", .ref Sa), ("lower", .ref La)] : Ls) ∧ ∃ vl nl v5 v4, ob₁ = (La, lsO vl nl) :: cellN (L + 6) :: (L + 5, cellO v5) :: (L + 4, cellO v4) :: [(156, tabObj ps)] ∧ IntsAre vl (nI (lowOf ans j))) ⟨rfl, [], 0, none, none, rfl, .nil⟩ ?_ ?_
  · rintro j B₁ s₅ l₁ ob₁ ex xv hj kB ⟨rfl, vl, nl, v5, v4, rfl, hI⟩ ⟨tj, rfl⟩ F
    have hj6 : j < 6 := hj
    with_reducible rename Fm _ _ _ _ _ _ _ => F0
    refine @st_cell _ _ _ _ _ _ _ _ _ _ _ _ _ _ _ _ _ _ F0 (by rfl) (by rfl) (by exact UpO.tail _ (UpO.tail _ (UpO.tail _ (UpO.head _)))) ?_ (by rfl)
    clear F0
    intro _ _
    refine @s_assign _ _ _ _ _ _ _ _ _ _ _ ?_ (by rfl)
    with_reducible rename Fm _ _ _ _ _ _ _ => F0
    refine @e_int _ _ _ _ _ _ _ _ _ _ _ _ _ _ _ _ F0 ?_
    clear F0
    intro _ _ _
    with_reducible rename Fm _ _ _ _ _ _ _ => F0
    refine @st_local _ _ _ _ _ _ _ _ _ _ _ _ _ _ _ F0 (by rfl) ?_ (by rfl) (by rfl)
    clear F0
    intro _ _
    refine @s_for _ _ _ _ _ _ _ _ _ _ _ _ ?_ (by intro _; rfl)
    refine @e_call _ _ _ _ _ _ _ _ _ _ _ ?_
    with_reducible rename Fm _ _ _ _ _ _ _ => F0
    refine @nm_bi _ _ _ _ _ _ _ _ _ _ _ _ _ _ _ _ F0 (by rfl) (by rfl) (by exact bb_range) ?_ (by rfl) (by rfl) (by rfl) (by decide) (by decide)
    refine @cw_ty1 _ _ _ _ _ _ _ _ _ _ ?_ (by rfl)
    with_reducible rename Fm _ _ _ _ _ _ _ => F0
    refine @e_int _ _ _ _ _ _ _ _ _ _ _ _ _ _ _ _ F0 ?_
    clear F0
    intro _ _ _
    rename Fm _ _ _ _ _ _ _ => F
    refine @b_range1 _ _ _ _ _ _ _ _ _ _ _ _ _ _ hh F (by lia) (by lia) fun r s₆ F it => ?_
    obtain ⟨t0, F⟩ : ∃ t0, Fm (KK w) s₀ B₁ L s₆ [("second", .ref Sa), ("lower", .ref La), ("less", .int ((0 : Nat) : Int) t0)] ((La, lsO vl nl) :: cellN (L + 6) :: (L + 5, cellO v5) :: (L + 4, cellO (some (.int j tj))) :: (156, tabObj ps) :: ex) := ⟨_, F.sub ⟨rfl, rfl, rfl, trivial⟩⟩
    refine @for_iterB _ _ _ _ _ _ _ _ _ _ _ _ _ _ _ _ _ _ _ F (it _) (fun i B₂ l₁ ob₁ => ∃ tl v5, l₁ = ([("second", .ref Sa), ("lower", .ref La), ("less", .int ((lowTo ans j i : Nat) : Int) tl)] : Ls) ∧ ob₁ = (La, lsO vl nl) :: cellN (L + 6) :: (L + 5, cellO v5) :: (L + 4, cellO (some (.int j tj))) :: (156, tabObj ps) :: ex) ⟨t0, v5, rfl, rfl⟩ ?_ ?_
    · rintro i B₂ s₇ l₂ ob₂ ex' xv hi kB2 ⟨tl, v5, rfl, rfl⟩ ⟨ti, rfl⟩ F
      have hi6 : i < 6 := hi
      have kk := kB.trans kB2
      have G7 := kk _ _ g7
      have G8 := kk _ _ g8
      have G2 := kk _ _ g2
      have G3 := kk _ _ g3
      have hfv2 := hfv.kp kk
      obtain ⟨hx0, hx1, hxm⟩ := hx6 i hi6
      obtain ⟨hy0, hy1, hym⟩ := hx6 j hj6
      obtain ⟨_, hyi, ai, rfl, lai⟩ := hal.get (hT6 _ hx0 hx1)
      obtain ⟨_, hyj, aj, rfl, laj⟩ := hal.get (hT6 _ hy0 hy1)
      replace lai := lai.kp kk
      replace laj := laj.kp kk
      have hDl2 : B₂.IsList Dl yl.toArray := ⟨_, kk _ _ hDl, rfl, kl, rfl⟩
      have fst : ∀ {k : Nat} {value slice : Expr} {u : Tok} {s : Shared} {l : Ls} {ob : Ob} {s₀' : Shared} {L' : Addr} {B' : Heap} {Q : Value → Shared → Prop} {E}, k < 6 → Fm (KK w) s₀' B' L' s l ob → Kp B₂ B' → (∀ t, Q (.int (xs.getD k 0) t) s) →
          (∀ T, subscripted slice false (.ref T) (.int (k : Int) u) = operate [.ref T, .int (k : Int) u] (getItem (.ref T) (.int (k : Int) u))) → wpAny (model PP w) A (subscriptTail value slice fv (.int (k : Int) u)) Q E s := fun {k} _ _ _ _ _ _ _ _ _ _ _ hk F k' h hs => by
        refine @sub_D _ _ _ _ _ _ _ _ _ _ _ _ _ _ _ _ _ _ _ F (hfv2.kp k') (by lia) (by lia) (getI (by rw [Int.toNat_natCast]; omega)) (fun x rx => ?_) hs
        obtain ⟨t, rfl⟩ := rx.int_inv
        rw [Int.toNat_natCast]; exact h t
      with_reducible rename Fm _ _ _ _ _ _ _ => F0
      refine @st_cell _ _ _ _ _ _ _ _ _ _ _ _ _ _ _ _ _ _ F0 (by rfl) (by rfl) (by exact UpO.tail _ (UpO.tail _ (UpO.head _))) ?_ (by rfl)
      clear F0
      intro _ _
      refine @s_assign _ _ _ _ _ _ _ _ _ _ _ ?_ (by rfl)
      refine @e_meth _ _ _ _ _ _ _ _ _ _ _ _ ?_ (by rfl) (by rfl) (by rfl)
      refine Subscript_ ?_
      with_reducible rename Fm _ _ _ _ _ _ _ => F0
      refine @nm_cellB _ _ _ _ _ _ _ _ _ _ _ _ _ _ _ _ _ F0 (by rfl) (by rfl) (by assumption) ?_ (by rfl) (by decide)
      refine Subscript_ ?_
      with_reducible rename Fm _ _ _ _ _ _ _ => F0
      refine @nm_cellB _ _ _ _ _ _ _ _ _ _ _ _ _ _ _ _ _ F0 (by rfl) (by rfl) (by assumption) ?_ (by rfl) (by decide)
      with_reducible rename Fm _ _ _ _ _ _ _ => F0
      refine @nm_cellO _ _ _ _ _ _ _ _ _ _ _ _ _ _ _ _ _ F0 (by rfl) (by rfl) (by exact List.Mem.tail _ (List.Mem.tail _ (List.Mem.head _))) ?_ (by rfl) (by decide)
      rename Fm _ _ _ _ _ _ _ => F
      refine fst hi6 F Kp.rfl (fun t1 => ?_) (by intro _; with_unfolding_all rfl)
      refine @sub_list _ _ _ _ _ _ _ _ _ _ (yl.toArray) _ _ (isList_kp hDl2 F.kp) hx0 (by lia) (by simpa using hyi) ?_ (by with_unfolding_all rfl)
      with_reducible rename Fm _ _ _ _ _ _ _ => F0
      refine @gm_lead _ _ _ _ _ _ _ _ _ _ _ _ _ _ _ _ (leadK _) (Fm.gdh F0) (LeadAt.kp (by assumption) (Fm.kp F0)) (.inr (.inr ⟨rfl, rfl⟩)) ?_
      with_reducible rename Fm _ _ _ _ _ _ _ => F0
      refine @cw_M1 _ _ _ _ _ _ _ _ _ _ _ _ (Fm.gdh F0) (by rfl) ?_ (by rfl)
      refine Subscript_ ?_
      with_reducible rename Fm _ _ _ _ _ _ _ => F0
      refine @nm_cellB _ _ _ _ _ _ _ _ _ _ _ _ _ _ _ _ _ F0 (by rfl) (by rfl) (by assumption) ?_ (by rfl) (by decide)
      refine Subscript_ ?_
      with_reducible rename Fm _ _ _ _ _ _ _ => F0
      refine @nm_cellB _ _ _ _ _ _ _ _ _ _ _ _ _ _ _ _ _ F0 (by rfl) (by rfl) (by assumption) ?_ (by rfl) (by decide)
      with_reducible rename Fm _ _ _ _ _ _ _ => F0
      refine @nm_cellO _ _ _ _ _ _ _ _ _ _ _ _ _ _ _ _ _ F0 (by rfl) (by rfl) (by exact List.Mem.tail _ (List.Mem.tail _ (List.Mem.tail _ (List.Mem.head _)))) ?_ (by rfl) (by decide)
      rename Fm _ _ _ _ _ _ _ => F
      refine fst hj6 F Kp.rfl (fun t1 => ?_) (by intro _; with_unfolding_all rfl)
      refine @sub_list _ _ _ _ _ _ _ _ _ _ (yl.toArray) _ _ (isList_kp hDl2 F.kp) hy0 (by lia) (by simpa using hyj) ?_ (by with_unfolding_all rfl)
      with_reducible rename Fm _ _ _ _ _ _ _ => F0
      refine ⟨Fm.gdh F0, ?_⟩
      rename Fm _ _ _ _ _ _ _ => F
      refine @less_spec _ _ _ _ _ _ _ _ _ (R.le (by lia)) F.gdh (lai.kp F.kp) (laj.kp F.kp) fun s₈ gr => ?_
      replace F := F.gr gr
      rw [hans i j hi6 hj6]
      with_reducible rename Fm _ _ _ _ _ _ _ => F0
      refine @st_local _ _ _ _ _ _ _ _ _ _ _ _ _ _ _ F0 (by rfl) ?_ (by rfl) (by rfl)
      clear F0
      intro _ _
      rename Fm _ _ _ _ _ _ _ => F
      replace F := F.sub (l' := [("second", .ref Sa), ("lower", .ref La), ("less", .int ((lowTo ans j i : Nat) : Int) tl), ("answer", .bool (ans i j))]) ⟨rfl, rfl, rfl, rfl, trivial⟩
      refine @s_assign _ _ _ _ _ _ _ _ _ _ _ ?_ (by rfl)
      refine wpAny_Compare1 ?_ (by rfl)
      refine @e_compC _ _ _ _ _ _ _ _ _ _ _ _ _ _ ?_ (by rfl) (by rfl) (by decide +kernel) (by intro _; rfl)
      refine @e_call _ _ _ _ _ _ _ _ _ _ _ ?_
      with_reducible rename Fm _ _ _ _ _ _ _ => F0
      refine @nm_bi _ _ _ _ _ _ _ _ _ _ _ _ _ _ _ _ F0 (by rfl) (by rfl) (by exact bb_range) ?_ (by rfl) (by rfl) (by rfl) (by decide) (by decide)
      refine @cw_ty1 _ _ _ _ _ _ _ _ _ _ ?_ (by rfl)
      with_reducible rename Fm _ _ _ _ _ _ _ => F0
      refine @nm_cellB _ _ _ _ _ _ _ _ _ _ _ _ _ _ _ _ _ F0 (by rfl) (by rfl) (by assumption) ?_ (by rfl) (by decide)
      rename Fm _ _ _ _ _ _ _ => F
      refine @b_range1 _ _ _ _ _ _ _ _ _ _ _ _ _ _ hh F (by lia) (by lia) fun r s₉ F it => ?_
      rw [Int.toNat_natCast] at it
      refine @comp_if _ _ _ _ _ _ _ _ _ _ _ _ _ _ _ _ _ _ _ _ _ _ _ _ _ F (itl_range (it _)) (by rw [sizeLine_eq]; simp; lia) (fun t => ((t : Nat) : Int)) (fun t => decide (colAt T m (xs.getD j 0) t ≤ colAt T m (xs.getD i 0) t)) (fun _ n v => ∃ t, v = Value.int n t) (fun _ _ _ _ _ h => h) (fun _ ob => ob = []) (fun _ => rfl) ?_ ?_ (fun _ _ => rfl)
      · rintro C B₃ s' ob₁ ex2 k xv hk kB3 ⟨tk, rfl⟩ rfl hob F
        have hkm := List.mem_range.mp hk
        have hci : (L + 5, cellO (some (.int (i : Int) ti))) ∈ [] ++ ex2 := hob _ (.tail _ (.tail _ (.head _)))
        have hcj : (L + 4, cellO (some (.int (j : Int) tj))) ∈ [] ++ ex2 := hob _ (.tail _ (.tail _ (.tail _ (.head _))))
        have H2 := kB3 _ _ G2
        have H3 := kB3 _ _ G3
        have hcv3 := (hcv.kp kk).kp kB3
        have row : ∀ {x : Int} {value slice : Expr} {u : Tok} {s : Shared} {l : Ls} {ob : Ob} {Q : Value → Shared → Prop} {E}, 0 ≤ x → x < 6 → Fm (KK w) s₉ B₃ C s l ob → (∀ rv, Rd B₃ rv (dIs (colsOf m (T.getD x.toNat []))) → Q rv s) →
            (∀ T, subscripted slice false (.ref T) (.int x u) = operate [.ref T, .int x u] (getItem (.ref T) (.int x u))) → wpAny (model PP w) A (subscriptTail value slice cv (.int x u)) Q E s := fun {x} _ _ _ _ _ _ _ _ h0 h1 F h hs =>
          sub_D F hcv3 h0 (by lia) (by rw [List.getElem?_map, List.getElem?_map, hT6 _ h0 h1]; rfl) h hs
        have itm : ∀ {x : Int} {value slice : Expr} {rv : Value} {u : Tok} {s : Shared} {l : Ls} {ob : Ob} {Q : Value → Shared → Prop} {E}, Fm (KK w) s₉ B₃ C s l ob → Rd B₃ rv (dIs (colsOf m (T.getD x.toNat []))) → (∀ t, Q (.int (colAt T m x k) t) s) →
            (∀ T, subscripted slice false (.ref T) (.int (k : Int) u) = operate [.ref T, .int (k : Int) u] (getItem (.ref T) (.int (k : Int) u))) → wpAny (model PP w) A (subscriptTail value slice rv (.int (k : Int) u)) Q E s := fun {x} _ _ _ _ _ _ _ _ _ F hr h hs => by
          refine @sub_D _ _ _ _ _ _ _ _ _ _ _ _ _ _ _ _ _ _ _ F hr (by lia) (by lia) (getI (by simp [colsOf]; omega)) (fun x rx => ?_) hs
          obtain ⟨t, rfl⟩ := rx.int_inv
          rw [Int.toNat_natCast]; exact h t
        refine @a_name _ _ _ _ _ _ _ _ _ _ ?_
        with_reducible rename Fm _ _ _ _ _ _ _ => F0
        refine @st_local _ _ _ _ _ _ _ _ _ _ _ _ _ _ _ F0 (by rfl) ?_ (by rfl) (by rfl)
        clear F0
        intro _ _
        refine wpAny_isTrue_Compare1 ?_ (by rfl)
        refine Subscript_ ?_
        refine Subscript_ ?_
        with_reducible rename Fm _ _ _ _ _ _ _ => F0
        refine @nm_cellB _ _ _ _ _ _ _ _ _ _ _ _ _ _ _ _ _ F0 (by rfl) (by rfl) (by assumption) ?_ (by rfl) (by decide)
        refine Subscript_ ?_
        with_reducible rename Fm _ _ _ _ _ _ _ => F0
        refine @nm_cellB _ _ _ _ _ _ _ _ _ _ _ _ _ _ _ _ _ F0 (by rfl) (by rfl) (by assumption) ?_ (by rfl) (by decide)
        with_reducible rename Fm _ _ _ _ _ _ _ => F0
        refine @nm_cellO _ _ _ _ _ _ _ _ _ _ _ _ _ _ _ _ _ F0 (by rfl) (by rfl) (by assumption) ?_ (by rfl) (by decide)
        rename Fm _ _ _ _ _ _ _ => F
        refine fst hi6 F kB3 (fun t1 => ?_) (by intro _; with_unfolding_all rfl)
        refine row hx0 hx1 F (fun r1 hr1 => ?_) (by intro _; with_unfolding_all rfl)
        with_reducible rename Fm _ _ _ _ _ _ _ => F0
        refine @nm_local _ _ _ _ _ _ _ _ _ _ _ _ _ _ _ _ F0 (by rfl) (by rfl) ?_ (by rfl) (by rfl) (by decide)
        rename Fm _ _ _ _ _ _ _ => F
        refine itm F hr1 (fun t2 => ?_) (by intro _; with_unfolding_all rfl)
        refine Subscript_ ?_
        refine Subscript_ ?_
        with_reducible rename Fm _ _ _ _ _ _ _ => F0
        refine @nm_cellB _ _ _ _ _ _ _ _ _ _ _ _ _ _ _ _ _ F0 (by rfl) (by rfl) (by assumption) ?_ (by rfl) (by decide)
        refine Subscript_ ?_
        with_reducible rename Fm _ _ _ _ _ _ _ => F0
        refine @nm_cellB _ _ _ _ _ _ _ _ _ _ _ _ _ _ _ _ _ F0 (by rfl) (by rfl) (by assumption) ?_ (by rfl) (by decide)
        with_reducible rename Fm _ _ _ _ _ _ _ => F0
        refine @nm_cellO _ _ _ _ _ _ _ _ _ _ _ _ _ _ _ _ _ F0 (by rfl) (by rfl) (by assumption) ?_ (by rfl) (by decide)
        rename Fm _ _ _ _ _ _ _ => F
        refine fst hj6 F kB3 (fun t1 => ?_) (by intro _; with_unfolding_all rfl)
        refine row hy0 hy1 F (fun r2 hr2 => ?_) (by intro _; with_unfolding_all rfl)
        with_reducible rename Fm _ _ _ _ _ _ _ => F0
        refine @nm_local _ _ _ _ _ _ _ _ _ _ _ _ _ _ _ _ F0 (by rfl) (by rfl) ?_ (by rfl) (by rfl) (by decide)
        rename Fm _ _ _ _ _ _ _ => F
        refine itm F hr2 (fun t3 => ?_) (by intro _; with_unfolding_all rfl)
        refine @c_ge _ _ _ _ _ _ _ _ _ _ ?_
        refine wpAny_truthy_bool ?_
        rename Fm _ _ _ _ _ _ _ => F
        refine ⟨rfl, ?_⟩
        refine @ite_d _ _ _ _ (fun c => ?_) (fun c => ?_)
        · with_reducible rename Fm _ _ _ _ _ _ _ => F0
          refine @nm_local _ _ _ _ _ _ _ _ _ _ _ _ _ _ _ _ F0 (by rfl) (by rfl) ?_ (by rfl) (by rfl) (by decide)
          rename Fm _ _ _ _ _ _ _ => F
          exact ⟨B₃, [], _, Kp.rfl, rfl, ⟨_, rfl⟩, F⟩
        · exact ⟨[], _, rfl, F⟩
      · intro D s' B₃ ys kd k3 F hD hall
        have hI3 : IntsAre ys (nI (dueL T m (xs.getD i 0) (xs.getD j 0))) := rd_ints (h := B₃) hall
        refine @e_list _ _ _ _ _ _ _ _ _ ?_
        refine @sp_nil _ _ _ _ _ _ _ _ ?_
        with_reducible rename Fm _ _ _ _ _ _ _ => F0
        refine @n_list _ _ _ _ _ _ _ _ _ _ _ _ _ F0 (by simp [sizeLine_eq]) ?_
        clear F0
        intro _ _ _
        rename Fm _ _ _ _ _ _ _ => F
        refine @eq_D _ _ _ _ _ _ _ _ _ _ _ _ _ _ _ _ (10) F ((Rd.list hD (RdL.ints hI3)).kp F.kp) (Rd.list (ds := []) (F.get (.head _)) .nil) (shaped1 _) (shaped1 []) (R.le (by lia)) ?_
        rw [show PyData.list [] = dIs [] from rfl, eqv_dIs, hdue i j hi6 hj6]
        replace F := F.drop (List.sublist_cons_self _ _)
        with_reducible rename Fm _ _ _ _ _ _ _ => F0
        refine @st_local _ _ _ _ _ _ _ _ _ _ _ _ _ _ _ F0 (by rfl) ?_ (by rfl) (by rfl)
        clear F0
        intro _ _
        rename Fm _ _ _ _ _ _ _ => F
        replace F := F.sub (l' := [("second", .ref Sa), ("lower", .ref La), ("less", .int ((lowTo ans j i : Nat) : Int) tl), ("answer", .bool (ans i j)), ("due", .bool (ans i j))]) ⟨rfl, rfl, rfl, rfl, rfl, trivial⟩
        have gS3 := k3 _ _ (kk _ _ gS)
        have K3 := k3 _ _ G3
        refine @s_cut _ _ _ _ _ _ _ _ _ (fun s' => Fm (KK w) s₀ B₃ L s' [("second", .ref Sa), ("lower", .ref La), ("less", .int ((lowTo ans j i : Nat) : Int) tl), ("answer", .bool (ans i j)), ("due", .bool (ans i j)), ("ahead", .bool (ans i j))]
          ((La, lsO vl nl) :: cellN (L + 6) :: (L + 5, cellO (some (.int (i : Int) ti))) :: (L + 4, cellO (some (.int j tj))) :: (156, tabObj ps) :: ex ++ ex')) ?_ ?_
        · have ha := hahead i j hi6 hj6
          refine @s_assign _ _ _ _ _ _ _ _ _ _ _ ?_ (by rfl)
          refine @e_and2 _ _ _ _ _ _ _ _ _ _ ?_
          refine wpAny_Compare1 ?_ (by rfl)
          with_reducible rename Fm _ _ _ _ _ _ _ => F0
          refine @nm_cellO _ _ _ _ _ _ _ _ _ _ _ _ _ _ _ _ _ F0 (by rfl) (by rfl) (by exact List.Mem.tail _ (List.Mem.tail _ (List.Mem.head _))) ?_ (by rfl) (by decide)
          with_reducible rename Fm _ _ _ _ _ _ _ => F0
          refine @nm_cellO _ _ _ _ _ _ _ _ _ _ _ _ _ _ _ _ _ F0 (by rfl) (by rfl) (by exact List.Mem.tail _ (List.Mem.tail _ (List.Mem.tail _ (List.Mem.head _)))) ?_ (by rfl) (by decide)
          refine @c_lt _ _ _ _ _ _ _ _ _ _ ?_
          refine wpAny_truthy_bool ?_
          refine @ite_d _ _ _ _ (fun c => ?_) (fun c => ?_)
          · rw [decide_eq_true (by lia : i < j), Bool.true_and] at ha
            refine wpAny_Compare1 ?_ (by rfl)
            refine @e_meth _ _ _ _ _ _ _ _ _ _ _ _ ?_ (by rfl) (by rfl) (by rfl)
            with_reducible rename Fm _ _ _ _ _ _ _ => F0
            refine @nm_local _ _ _ _ _ _ _ _ _ _ _ _ _ _ _ _ F0 (by rfl) (by rfl) ?_ (by rfl) (by rfl) (by decide)
            rename Fm _ _ _ _ _ _ _ => F
            refine @gm_list _ _ _ _ _ _ _ _ _ _ _ _ (F.kp _ _ gS3) PySem.F.slot_list_index PySem.F.type_list_index ?_
            refine @cwb_M1 _ _ _ _ _ _ _ _ _ _ _ ?_ (by rfl)
            refine Subscript_ ?_
            with_reducible rename Fm _ _ _ _ _ _ _ => F0
            refine @nm_cellB _ _ _ _ _ _ _ _ _ _ _ _ _ _ _ _ _ F0 (by rfl) (by rfl) (by assumption) ?_ (by rfl) (by decide)
            with_reducible rename Fm _ _ _ _ _ _ _ => F0
            refine @nm_cellO _ _ _ _ _ _ _ _ _ _ _ _ _ _ _ _ _ F0 (by rfl) (by rfl) (by exact List.Mem.tail _ (List.Mem.tail _ (List.Mem.head _))) ?_ (by rfl) (by decide)
            rename Fm _ _ _ _ _ _ _ => F
            refine fst hi6 F k3 (fun t1 => ?_) (by intro _; with_unfolding_all rfl)
            refine @b_index _ _ _ _ _ _ _ _ _ _ _ _ _ _ _ _ _ F ⟨_, F.kp _ _ gS3, rfl, nss, rfl⟩ hss (lay_small hsl fun x hx => ⟨(hxs.2 x ((hsx x).mp hx)).1, by have := (hxs.2 x ((hsx x).mp hx)).2; lia⟩) ((hsx _).mpr hxm) fun t2 s F => ?_
            refine @e_meth _ _ _ _ _ _ _ _ _ _ _ _ ?_ (by rfl) (by rfl) (by rfl)
            with_reducible rename Fm _ _ _ _ _ _ _ => F0
            refine @nm_local _ _ _ _ _ _ _ _ _ _ _ _ _ _ _ _ F0 (by rfl) (by rfl) ?_ (by rfl) (by rfl) (by decide)
            rename Fm _ _ _ _ _ _ _ => F
            refine @gm_list _ _ _ _ _ _ _ _ _ _ _ _ (F.kp _ _ gS3) PySem.F.slot_list_index PySem.F.type_list_index ?_
            refine @cwb_M1 _ _ _ _ _ _ _ _ _ _ _ ?_ (by rfl)
            refine Subscript_ ?_
            with_reducible rename Fm _ _ _ _ _ _ _ => F0
            refine @nm_cellB _ _ _ _ _ _ _ _ _ _ _ _ _ _ _ _ _ F0 (by rfl) (by rfl) (by assumption) ?_ (by rfl) (by decide)
            with_reducible rename Fm _ _ _ _ _ _ _ => F0
            refine @nm_cellO _ _ _ _ _ _ _ _ _ _ _ _ _ _ _ _ _ F0 (by rfl) (by rfl) (by exact List.Mem.tail _ (List.Mem.tail _ (List.Mem.tail _ (List.Mem.head _)))) ?_ (by rfl) (by decide)
            rename Fm _ _ _ _ _ _ _ => F
            refine fst hj6 F k3 (fun t1 => ?_) (by intro _; with_unfolding_all rfl)
            refine @b_index _ _ _ _ _ _ _ _ _ _ _ _ _ _ _ _ _ F ⟨_, F.kp _ _ gS3, rfl, nss, rfl⟩ hss (lay_small hsl fun x hx => ⟨(hxs.2 x ((hsx x).mp hx)).1, by have := (hxs.2 x ((hsx x).mp hx)).2; lia⟩) ((hsx _).mpr hym) fun t2 s F => ?_
            refine @c_lt _ _ _ _ _ _ _ _ _ _ ?_
            with_reducible rename Fm _ _ _ _ _ _ _ => F0
            refine @st_local _ _ _ _ _ _ _ _ _ _ _ _ _ _ _ F0 (by rfl) ?_ (by rfl) (by rfl)
            clear F0
            intro _ _
            refine @s_nil _ _ _ _ _ _ ?_
            rename Fm _ _ _ _ _ _ _ => F
            refine ⟨rfl, ?_⟩
            have e : decide ((((ss.idxOf (xs.getD i 0) : Nat) : Int)) < ((ss.idxOf (xs.getD j 0) : Nat) : Int)) = ans i j := by rw [← ha]; simp
            rw [e] at F
            exact F
          · rw [decide_eq_false (by lia : ¬ i < j), Bool.false_and] at ha
            with_reducible rename Fm _ _ _ _ _ _ _ => F0
            refine @st_local _ _ _ _ _ _ _ _ _ _ _ _ _ _ _ F0 (by rfl) ?_ (by rfl) (by rfl)
            clear F0
            intro _ _
            refine @s_nil _ _ _ _ _ _ ?_
            rename Fm _ _ _ _ _ _ _ => F
            refine ⟨rfl, ?_⟩
            rw [show decide ((i : Int) < (j : Int)) = ans i j by rw [← ha]; exact decide_eq_false c] at F
            exact F
        · intro s' F
          refine @s_if _ _ _ _ _ _ _ _ _ _ _ ?_
          refine @t_or _ _ _ _ _ _ _ _ _ _ ?_
          refine @or_cons _ _ _ _ _ _ _ _ _ ?_
          refine @t_not _ _ _ _ _ _ _ _ _ _ ?_
          refine isTrue_plain ?_ (by rfl)
          refine @e_call _ _ _ _ _ _ _ _ _ _ _ ?_
          with_reducible rename Fm _ _ _ _ _ _ _ => F0
          refine @nm_bi _ _ _ _ _ _ _ _ _ _ _ _ _ _ _ _ F0 (by rfl) (by rfl) (by exact bb_isi) ?_ (by rfl) (by rfl) (by rfl) (by decide) (by decide)
          refine @cw_bi2 _ _ _ _ _ _ _ _ _ _ _ ?_ (by rfl)
          with_reducible rename Fm _ _ _ _ _ _ _ => F0
          refine @nm_local _ _ _ _ _ _ _ _ _ _ _ _ _ _ _ _ F0 (by rfl) (by rfl) ?_ (by rfl) (by rfl) (by decide)
          with_reducible rename Fm _ _ _ _ _ _ _ => F0
          refine @nm_bi _ _ _ _ _ _ _ _ _ _ _ _ _ _ _ _ F0 (by rfl) (by rfl) (by exact bb_bool) ?_ (by rfl) (by rfl) (by rfl) (by decide) (by decide)
          refine @b_isiB _ _ _ _ _ _ _ ?_
          refine wpAny_truthy_bool ?_
          refine @ite_b _ _ _ (fun c => absurd c (by simp)) (fun _ => ?_)
          refine @or_cons _ _ _ _ _ _ _ _ _ ?_
          refine wpAny_isTrue_Compare1 ?_ (by rfl)
          with_reducible rename Fm _ _ _ _ _ _ _ => F0
          refine @nm_local _ _ _ _ _ _ _ _ _ _ _ _ _ _ _ _ F0 (by rfl) (by rfl) ?_ (by rfl) (by rfl) (by decide)
          with_reducible rename Fm _ _ _ _ _ _ _ => F0
          refine @nm_local _ _ _ _ _ _ _ _ _ _ _ _ _ _ _ _ F0 (by rfl) (by rfl) ?_ (by rfl) (by rfl) (by decide)
          refine @c_neb _ _ _ _ _ _ _ _ ?_
          refine wpAny_truthy_bool ?_
          refine @ite_b _ _ _ (fun c => absurd c (by simp)) (fun _ => ?_)
          refine @or_cons _ _ _ _ _ _ _ _ _ ?_
          refine wpAny_isTrue_Compare1 ?_ (by rfl)
          with_reducible rename Fm _ _ _ _ _ _ _ => F0
          refine @nm_local _ _ _ _ _ _ _ _ _ _ _ _ _ _ _ _ F0 (by rfl) (by rfl) ?_ (by rfl) (by rfl) (by decide)
          with_reducible rename Fm _ _ _ _ _ _ _ => F0
          refine @nm_local _ _ _ _ _ _ _ _ _ _ _ _ _ _ _ _ F0 (by rfl) (by rfl) ?_ (by rfl) (by rfl) (by decide)
          refine @c_neb _ _ _ _ _ _ _ _ ?_
          refine wpAny_truthy_bool ?_
          refine @ite_b _ _ _ (fun c => absurd c (by simp)) (fun _ => ?_)
          refine @or_nil _ _ _ _ _ _ _ ?_
          refine @ite_b _ _ _ (fun c => absurd c (by simp)) (fun _ => ?_)
          refine @s_nil _ _ _ _ _ _ ?_
          with_reducible refine @then_next _ _ _ _ _ _ _ ?_
          refine @s_if _ _ _ _ _ _ _ _ _ _ _ ?_
          refine isTrue_plain ?_ (by rfl)
          with_reducible rename Fm _ _ _ _ _ _ _ => F0
          refine @nm_local _ _ _ _ _ _ _ _ _ _ _ _ _ _ _ _ F0 (by rfl) (by rfl) ?_ (by rfl) (by rfl) (by decide)
          refine wpAny_truthy_bool ?_
          rename Fm _ _ _ _ _ _ _ => F
          refine @ite_b _ _ _ (fun c => ?_) (fun c => ?_)
          · with_reducible rename Fm _ _ _ _ _ _ _ => F0
            refine @s_aug _ _ _ _ _ _ _ _ _ _ _ _ _ _ _ _ _ _ _ F0 (by rfl) (by rfl) (by rfl) (by rfl) ?_
            refine wpAny_BinOp ?_
            with_reducible rename Fm _ _ _ _ _ _ _ => F0
            refine @e_int _ _ _ _ _ _ _ _ _ _ _ _ _ _ _ _ F0 ?_
            clear F0
            intro _ _ _
            with_reducible rename Fm _ _ _ _ _ _ _ => F0
            refine @nm_cellO _ _ _ _ _ _ _ _ _ _ _ _ _ _ _ _ _ F0 (by rfl) (by rfl) (by exact List.Mem.tail _ (List.Mem.tail _ (List.Mem.head _))) ?_ (by rfl) (by decide)
            rename Fm _ _ _ _ _ _ _ => F
            refine @o_pow _ _ _ _ _ _ _ _ _ _ _ _ _ _ _ _ F (by lia) (by rw [show Builtin.Int.intBits 2 = 2 from by decide +kernel]; lia) fun _ _ F => ?_
            with_reducible rename Fm _ _ _ _ _ _ _ => F0
            refine @o_iadd _ _ _ _ _ _ _ _ _ _ _ _ _ _ _ _ F0 ?_
            clear F0
            intro _ _ _
            with_reducible rename Fm _ _ _ _ _ _ _ => F0
            refine @st_local _ _ _ _ _ _ _ _ _ _ _ _ _ _ _ F0 (by rfl) ?_ (by rfl) (by rfl)
            clear F0
            intro _ _
            refine @s_nil _ _ _ _ _ _ ?_
            with_reducible refine @then_next _ _ _ _ _ _ _ ?_
            refine @s_nil _ _ _ _ _ _ ?_
            with_reducible refine @lp_next _ _ _ ?_
            rename Fm _ _ _ _ _ _ _ => F
            have e : ((lowTo ans j i : Nat) : Int) + 2 ^ (i : Int).toNat = ((lowTo ans j (i + 1) : Nat) : Int) := by
              rw [lowTo, if_pos c, Int.toNat_natCast]; simp
            rw [e] at F
            exact ⟨B₃, _, _, k3, ⟨_, _, rfl, rfl⟩, F.sub ⟨rfl, rfl, rfl, trivial⟩⟩
          · refine @s_nil _ _ _ _ _ _ ?_
            with_reducible refine @then_next _ _ _ _ _ _ _ ?_
            refine @s_nil _ _ _ _ _ _ ?_
            with_reducible refine @lp_next _ _ _ ?_
            rename Fm _ _ _ _ _ _ _ => F
            have e : lowTo ans j i = lowTo ans j (i + 1) := by rw [lowTo, if_neg (by simp [c])]; rfl
            rw [e] at F
            exact ⟨B₃, _, _, k3, ⟨_, _, rfl, rfl⟩, F.sub ⟨rfl, rfl, rfl, trivial⟩⟩
    · rintro B₂ s₇ l₂ ob₂ kB2 ⟨tl, v5, rfl, rfl⟩ F
      with_reducible refine @then_next _ _ _ _ _ _ _ ?_
      refine @s_expr _ _ _ _ _ _ _ _ _ _ ?_ (by rfl) (by rfl)
      refine @e_meth _ _ _ _ _ _ _ _ _ _ _ _ ?_ (by rfl) (by rfl) (by rfl)
      with_reducible rename Fm _ _ _ _ _ _ _ => F0
      refine @nm_local _ _ _ _ _ _ _ _ _ _ _ _ _ _ _ _ F0 (by rfl) (by rfl) ?_ (by rfl) (by rfl) (by decide)
      with_reducible rename Fm _ _ _ _ _ _ _ => F0
      refine @gm_list _ _ _ _ _ _ _ _ _ _ _ _ (Fm.get F0 (by exact List.Mem.head _)) PySem.F.slot_list_append PySem.F.type_list_append ?_
      refine @cwb_M1 _ _ _ _ _ _ _ _ _ _ _ ?_ (by rfl)
      with_reducible rename Fm _ _ _ _ _ _ _ => F0
      refine @nm_local _ _ _ _ _ _ _ _ _ _ _ _ _ _ _ _ F0 (by rfl) (by rfl) ?_ (by rfl) (by rfl) (by decide)
      rename Fm _ _ _ _ _ _ _ => F
      have hIl := hI.length
      refine @m_append _ _ _ _ _ _ _ _ _ _ _ _ _ _ _ _ _ F (.head _) (by rw [sizeLine_eq]; simp [lowOf] at hIl; lia) fun s₈ F => ?_
      refine @s_nil _ _ _ _ _ _ ?_
      with_reducible refine @lp_next _ _ _ ?_
      rename Fm _ _ _ _ _ _ _ => F
      refine ⟨B₂, _, _, kB2, ⟨rfl, _, _, _, _, rfl, ?_⟩, F.sub ⟨rfl, rfl, trivial⟩⟩
      rw [lowOf_succ]; exact nI_snoc hI _ _
  · rintro B₁ s₅ l₁ ob₁ kB ⟨rfl, vl, nl, v5, v4, rfl, hI⟩ F
    with_reducible refine @then_next _ _ _ _ _ _ _ ?_
    rename Fm _ _ _ _ _ _ _ => F
    obtain ⟨B2, k2, F, g2'⟩ := F.freezeAt (.head _)
    replace F := F.drop (.cons_cons _ (.cons _ (.cons _ (.refl _))))
    exact next _ B2 (.ref La) (kB.trans k2) (Rd.list g2' (RdL.ints hI)) (F.sub ⟨rfl, trivial⟩)
end Mine
end
section
open PySem PySem.W PyProof.Rows PySem.Calls PySem.Spec
set_option maxRecDepth 100000
namespace Mine

theorem rowsI_bd (b : Bool) : ∀ (ns : List Int) (R : List (List Int)) (N : Nat), (∀ r ∈ R, r.length ≤ N) → (ns.foldl (insI b) R).length ≤ R.length + ns.length ∧ ∀ r ∈ ns.foldl (insI b) R, r.length ≤ N + ns.length
  | [], R, N, h => ⟨Nat.le_refl _, h⟩
  | x :: t, R, N, h => by
    have h1 := insI_bd b N R x h
    have h2 := rowsI_bd b t (insI b R x) (N + 1) h1.2
    rw [List.foldl_cons]
    refine ⟨by rw [List.length_cons]; lia, fun r hr => ?_⟩
    have := h2.2 r hr
    rw [List.length_cons]; lia
def transI (R : List (List Int)) : List (List Int) := (List.range (R.getD 0 []).length).map fun c => (R.filter fun r => decide (c < r.length)).map fun r => r.getD c 0
set_option maxHeartbeats 4000000 in
theorem partF {w : World} {A : Around} {s₀ s : Shared} {B : Heap} {L : Addr} {lv fv lw : Value} {T : List (List Nat)} {xs ns : List Int} {low : List Nat} {ps : Array Value} {R1 R2 : List (List Int)} {Q E} (R : Rm A 20) (tx : Tx T) (hl : LeadsAt B lv T)
    (g7 : B.get? (L + 7) = some (cellO (some lv))) (hfv : Rd B fv (dIs xs)) (hxs : xs.length = 6 ∧ ∀ x ∈ xs, 0 ≤ x ∧ x < 6) (g3 : B.get? (L + 3) = some (cellO (some fv))) (hlw : Rd B lw (dIs (nI low))) (hlow : low.length = 6)
    (hns : xs.map (fun x => (LD T x).n) = ns) (hR1 : rowsI true ns = R1) (hR2 : rowsI false ns.reverse = R2)
    (hbS : ∀ m, m < 2 ^ low.length → (strTo low low.length).getD m 0 ≤ (strTo low low.length).getD (2 ^ low.length - 1) 0) (hbL : ∀ m, m < 2 ^ low.length → (ladTo low low.length).getD m 0 ≤ (ladTo low low.length).getD (2 ^ low.length - 1) 0)
    (hzS : (strTo low low.length).getD (2 ^ low.length - 1) 0 ≤ 100) (hzL : (ladTo low low.length).getD (2 ^ low.length - 1) 0 ≤ 100)
    (hc1 : countsI R1 = (byOf (strTo low low.length) (choTo low.length)).drop 1) (hc2 : countsI R2 = (byOf (ladTo low low.length) (choTo low.length)).drop 1) (htr : R2 = transI R1) (hne : 0 < R1.length)
    (F : Fm (KK w) s₀ B L s [("lower", lw)] (cellN (L + 6) :: [(156, tabObj ps)]))
    (next : ∀ s' B', Kp B B' → Fm (KK w) s₀ B' L s' [] [(156, tabObj ps)] → Q (.ret (.bool true)) s') :
    wpAny (model PP w) A (execs ((bodyOf w 159).drop 12) (envOf' w 159 L)) Q E s := by
  show wpAny _ _ (execs (_ :: _) (envX "law" ⟨_, ?n, _, _, _⟩ L 159 (.ref 158) (cellsFrom (L + 1) ?n []))) _ _ _
  have hh := R.h
  have hTl := tx.len
  obtain ⟨Dl, yl, kl, rfl, hDl, hal⟩ := hl
  have hT6 : ∀ k : Int, 0 ≤ k → k < 6 → T[k.toNat]? = some (T.getD k.toNat []) := fun k h1 h2 => by
    rw [List.getD_eq_getElem?_getD, List.getElem?_eq_getElem (by lia)]; rfl
  have hnl : ns.length = 6 := by rw [← hns, List.length_map]; exact hxs.1
  have hb1 := rowsI_bd true ns [] 0 (by simp)
  have hb2 := rowsI_bd false ns.reverse [] 0 (by simp)
  rw [show ns.foldl (insI true) [] = R1 from hR1] at hb1
  rw [show ns.reverse.foldl (insI false) [] = R2 from hR2] at hb2
  simp only [List.length_nil, List.length_reverse] at hb1 hb2
  refine @s_assignU _ _ _ _ _ _ _ _ _ _ _ _ _ _ _ _ _ _ ?_ (by rfl) (by rfl) (by decide +kernel) (by intro _; rfl) (by rfl)
  with_reducible rename Fm _ _ _ _ _ _ _ => F0
  refine @nm_cellB _ _ _ _ _ _ _ _ _ _ _ _ _ _ _ _ _ F0 (by rfl) (by rfl) (by assumption) ?_ (by rfl) (by decide)
  rename Fm _ _ _ _ _ _ _ => F
  refine comp_mapU (by rfl) (by rfl) (by rfl) F (it_ints hh F.kp hfv) (by rw [sizeLine_eq]; omega) (fun x => (LD T x).n) (fun _ n v => ∃ t, v = Value.int n t) (fun _ _ _ _ _ h => h) (fun _ ob => ob = []) (fun _ => rfl) ?_ ?_ (fun _ _ => rfl)
  · rintro C B₁ s' ob₁ ex x xv hx kB ⟨t, rfl⟩ rfl hob F
    obtain ⟨h0, h1⟩ := hxs.2 x hx
    obtain ⟨_, hyi, ai, rfl, lai⟩ := hal.get (hT6 _ h0 h1)
    replace lai := lai.kp kB
    have G7 := kB _ _ g7
    refine @a_name _ _ _ _ _ _ _ _ _ _ ?_
    with_reducible rename Fm _ _ _ _ _ _ _ => F0
    refine @st_local _ _ _ _ _ _ _ _ _ _ _ _ _ _ _ F0 (by rfl) ?_ (by rfl) (by rfl)
    clear F0
    intro _ _
    refine Attribute_any_ ?_
    refine Subscript_ ?_
    with_reducible rename Fm _ _ _ _ _ _ _ => F0
    refine @nm_cellB _ _ _ _ _ _ _ _ _ _ _ _ _ _ _ _ _ F0 (by rfl) (by rfl) (by assumption) ?_ (by rfl) (by decide)
    with_reducible rename Fm _ _ _ _ _ _ _ => F0
    refine @nm_local _ _ _ _ _ _ _ _ _ _ _ _ _ _ _ _ F0 (by rfl) (by rfl) ?_ (by rfl) (by rfl) (by decide)
    rename Fm _ _ _ _ _ _ _ => F
    refine @sub_list _ _ _ _ _ _ _ _ _ _ (yl.toArray) _ _ (isList_kp (⟨_, hDl, rfl, kl, rfl⟩ : B.IsList Dl yl.toArray) (kB.trans F.kp)) h0 (by lia) (by simpa using hyi) ?_ (by with_unfolding_all rfl)
    with_reducible rename Fm _ _ _ _ _ _ _ => F0
    refine @ga_n _ _ _ _ _ _ _ _ _ _ _ _ _ _ _ _ _ _ _ (leadK _) F0 (by assumption) ?_
    clear F0
    intro _ _ _
    rename Fm _ _ _ _ _ _ _ => F
    exact ⟨B₁, [], _, Kp.rfl, rfl, ⟨_, rfl⟩, F⟩
  · intro D s' B2 ys k k2 F hD hall
    have hI : IntsAre ys ns := by rw [← hns]; exact rd_ints (h := B2) hall
    have hnv : Rd B2 (.ref D) (dIs ns) := Rd.list hD (RdL.ints hI)
    refine @s_assign _ _ _ _ _ _ _ _ _ _ _ ?_ (by rfl)
    refine @e_call _ _ _ _ _ _ _ _ _ _ _ ?_
    with_reducible rename Fm _ _ _ _ _ _ _ => F0
    refine @nm_glob _ _ _ _ _ _ _ _ _ _ _ _ _ _ _ _ F0 (by rfl) (by exact kn_law_rows _) ?_ (by rfl) (by rfl) (by decide)
    with_reducible rename Fm _ _ _ _ _ _ _ => F0
    refine @cw_F2 _ _ _ _ _ _ _ _ _ _ _ _ (Fm.gdh F0) (by rfl) ?_ (by rfl)
    with_reducible rename Fm _ _ _ _ _ _ _ => F0
    refine @nm_local _ _ _ _ _ _ _ _ _ _ _ _ _ _ _ _ F0 (by rfl) (by rfl) ?_ (by rfl) (by rfl) (by decide)
    refine @e_bool _ _ _ _ _ _ _ _ _ _ ?_
    with_reducible rename Fm _ _ _ _ _ _ _ => F0
    refine ⟨Fm.gdh F0, ?_⟩
    rename Fm _ _ _ _ _ _ _ => F
    refine @rows_spec _ _ _ _ _ _ _ _ _ _ _ _ _ F (R.le (by lia)) hnv (by lia) fun rv s₃ B3 k3 F hrv => ?_
    rw [hR1] at hrv
    replace F := F.sub (l' := [("lower", lw), ("numbers", .ref D)]) ⟨rfl, rfl, trivial⟩
    with_reducible rename Fm _ _ _ _ _ _ _ => F0
    refine @st_cell _ _ _ _ _ _ _ _ _ _ _ _ _ _ _ _ _ _ F0 (by rfl) (by rfl) (by exact UpO.head _) ?_ (by rfl)
    clear F0
    intro _ _
    rename Fm _ _ _ _ _ _ _ => F
    obtain ⟨B4, k4, F, g6⟩ := F.freezeAt (.head _)
    refine @s_assign _ _ _ _ _ _ _ _ _ _ _ ?_ (by rfl)
    refine @e_call _ _ _ _ _ _ _ _ _ _ _ ?_
    with_reducible rename Fm _ _ _ _ _ _ _ => F0
    refine @nm_glob _ _ _ _ _ _ _ _ _ _ _ _ _ _ _ _ F0 (by rfl) (by exact kn_law_rows _) ?_ (by rfl) (by rfl) (by decide)
    with_reducible rename Fm _ _ _ _ _ _ _ => F0
    refine @cw_F2 _ _ _ _ _ _ _ _ _ _ _ _ (Fm.gdh F0) (by rfl) ?_ (by rfl)
    refine Subscript_ ?_
    with_reducible rename Fm _ _ _ _ _ _ _ => F0
    refine @nm_local _ _ _ _ _ _ _ _ _ _ _ _ _ _ _ _ F0 (by rfl) (by rfl) ?_ (by rfl) (by rfl) (by decide)
    refine @e_slice _ _ _ _ _ _ _ _ _ _ _ ?_
    refine @ep_none _ _ _ _ _ _ _ ?_
    refine @ep_none _ _ _ _ _ _ _ ?_
    refine @ep_some _ _ _ _ _ _ _ _ ?_
    refine wpAny_UnaryOp ?_
    with_reducible rename Fm _ _ _ _ _ _ _ => F0
    refine @e_int _ _ _ _ _ _ _ _ _ _ _ _ _ _ _ _ F0 ?_
    clear F0
    intro _ _ _
    rename Fm _ _ _ _ _ _ _ => F
    refine @o_neg _ _ _ _ _ _ _ _ _ _ _ _ _ _ F fun _ _ F => ?_
    intro S s₄ gS hS
    replace F := F.gr gS
    refine @sub_slice _ _ _ _ _ _ _ _ _ _ _ _ _ _ _ _ _ _ _ _ _ _ _ _ F ⟨_, F.kp _ _ (k4 _ _ (k3 _ _ hD)), rfl, k, rfl⟩ hS .none .none (.int _ _) (by simp) (by have := hI.length; rw [sizeLine_eq]; simp; lia) (fun D2 s₅ F => ?_) (by with_unfolding_all rfl)
    rw [pick_rev] at F
    obtain ⟨B5, k5, F, g5⟩ := F.freezeAt (.head _)
    refine @e_bool _ _ _ _ _ _ _ _ _ _ ?_
    with_reducible rename Fm _ _ _ _ _ _ _ => F0
    refine ⟨Fm.gdh F0, ?_⟩
    rename Fm _ _ _ _ _ _ _ => F
    refine @rows_spec _ _ _ _ _ _ _ _ _ (ns.reverse) _ _ _ F (R.le (by lia)) (Rd.list g5 (by have := (RdL.ints (h := B5) hI).reverse; rw [← List.map_reverse] at this; exact this)) (by simp; lia) fun tv s₆ B6 k6 F htv => ?_
    rw [hR2] at htv
    replace F := F.sub (l' := [("lower", lw)]) ⟨rfl, trivial⟩
    with_reducible rename Fm _ _ _ _ _ _ _ => F0
    refine @st_local _ _ _ _ _ _ _ _ _ _ _ _ _ _ _ F0 (by rfl) ?_ (by rfl) (by rfl)
    clear F0
    intro _ _
    have ka := k5.trans k6
    have kb := k3.trans (k4.trans ka)
    have hrv6 := hrv.kp (k4.trans ka)
    have G6 := ka _ _ g6
    have hlw6 := hlw.kp (k2.trans kb)
    refine @s_if _ _ _ _ _ _ _ _ _ _ _ ?_
    refine wpAny_isTrue_Compare1 ?_ (by rfl)
    refine @e_tuple _ _ _ _ _ _ _ _ _ _ ?_
    refine @sp_cons _ _ _ _ _ _ _ _ _ _ ?_ (by rfl)
    refine @e_call _ _ _ _ _ _ _ _ _ _ _ ?_
    with_reducible rename Fm _ _ _ _ _ _ _ => F0
    refine @nm_glob _ _ _ _ _ _ _ _ _ _ _ _ _ _ _ _ F0 (by rfl) (by exact kn_law_counts _) ?_ (by rfl) (by rfl) (by decide)
    with_reducible rename Fm _ _ _ _ _ _ _ => F0
    refine @cw_F1 _ _ _ _ _ _ _ _ _ _ _ (Fm.gdh F0) (by rfl) ?_ (by rfl)
    with_reducible rename Fm _ _ _ _ _ _ _ => F0
    refine @nm_cellB _ _ _ _ _ _ _ _ _ _ _ _ _ _ _ _ _ F0 (by rfl) (by rfl) (by assumption) ?_ (by rfl) (by decide)
    with_reducible rename Fm _ _ _ _ _ _ _ => F0
    refine ⟨Fm.gdh F0, ?_⟩
    rename Fm _ _ _ _ _ _ _ => F
    refine @counts_spec _ _ _ _ _ _ _ _ _ _ _ _ F (R.le (by lia)) hrv6 (by lia) (fun r hr => by have := hb1.2 r hr; lia) fun c1 s₇ B7 k7 F hc1v => ?_
    replace htv := htv.kp k7
    replace hlw6 := hlw6.kp k7
    refine @sp_cons _ _ _ _ _ _ _ _ _ _ ?_ (by rfl)
    refine @e_call _ _ _ _ _ _ _ _ _ _ _ ?_
    with_reducible rename Fm _ _ _ _ _ _ _ => F0
    refine @nm_glob _ _ _ _ _ _ _ _ _ _ _ _ _ _ _ _ F0 (by rfl) (by exact kn_law_counts _) ?_ (by rfl) (by rfl) (by decide)
    with_reducible rename Fm _ _ _ _ _ _ _ => F0
    refine @cw_F1 _ _ _ _ _ _ _ _ _ _ _ (Fm.gdh F0) (by rfl) ?_ (by rfl)
    with_reducible rename Fm _ _ _ _ _ _ _ => F0
    refine @nm_local _ _ _ _ _ _ _ _ _ _ _ _ _ _ _ _ F0 (by rfl) (by rfl) ?_ (by rfl) (by rfl) (by decide)
    with_reducible rename Fm _ _ _ _ _ _ _ => F0
    refine ⟨Fm.gdh F0, ?_⟩
    rename Fm _ _ _ _ _ _ _ => F
    refine @counts_spec _ _ _ _ _ _ _ _ _ _ _ _ F (R.le (by lia)) htv (by lia) (fun r hr => by have := hb2.2 r hr; lia) fun c2 s₈ B8 k8 F hc2v => ?_
    replace hlw6 := hlw6.kp k8
    refine @sp_nil _ _ _ _ _ _ _ _ ?_
    with_reducible rename Fm _ _ _ _ _ _ _ => F0
    refine @n_tuple _ _ _ _ _ _ _ _ _ _ _ _ _ F0 (by simp [sizeLine_eq]) ?_
    clear F0
    intro _ _ _
    refine @e_call _ _ _ _ _ _ _ _ _ _ _ ?_
    with_reducible rename Fm _ _ _ _ _ _ _ => F0
    refine @nm_glob _ _ _ _ _ _ _ _ _ _ _ _ _ _ _ _ F0 (by rfl) (by exact kn_law_choices _) ?_ (by rfl) (by rfl) (by decide)
    with_reducible rename Fm _ _ _ _ _ _ _ => F0
    refine @cw_F1 _ _ _ _ _ _ _ _ _ _ _ (Fm.gdh F0) (by rfl) ?_ (by rfl)
    with_reducible rename Fm _ _ _ _ _ _ _ => F0
    refine @nm_local _ _ _ _ _ _ _ _ _ _ _ _ _ _ _ _ F0 (by rfl) (by rfl) ?_ (by rfl) (by rfl) (by decide)
    with_reducible rename Fm _ _ _ _ _ _ _ => F0
    refine ⟨Fm.gdh F0, ?_⟩
    rename Fm _ _ _ _ _ _ _ => F
    obtain ⟨B9, k9, F, g9⟩ := F.freezeAt (.head _)
    replace hlw6 := hlw6.kp k9
    have htup : Rd B9 _ (.tuple [dIs (nI (countsI R1)), dIs (nI (countsI R2))]) := Rd.tup g9 (.cons (hc1v.kp (k8.trans k9)) (.cons (hc2v.kp k9) .nil))
    refine @choices_spec _ _ _ _ _ _ _ _ _ _ _ _ F (R.le (by lia)) hlw6 (by lia) hbS hbL hzS hzL fun cv s₉ B10 k10 F hcv => ?_
    rw [← hc1, ← hc2] at hcv
    refine @ne_D _ _ _ _ _ _ _ _ _ _ _ _ _ _ _ _ (10) F (htup.kp (k10.trans F.kp)) (hcv.kp F.kp) (shapedT _ _) (shapedT _ _) (R.le (by lia)) ?_
    rw [eqv_same (shapedT _ _)]
    refine wpAny_truthy_bool ?_
    refine @ite_b _ _ _ (fun c => absurd c (by simp)) (fun _ => ?_)
    have kc := k7.trans (k8.trans (k9.trans k10))
    have hrv10 := hrv6.kp kc
    have htv10 := htv.kp (k8.trans (k9.trans k10))
    have G10 := kc _ _ G6
    refine @s_nil _ _ _ _ _ _ ?_
    with_reducible refine @then_next _ _ _ _ _ _ _ ?_
    refine @s_ret _ _ _ _ _ _ _ _ _ ?_
    refine wpAny_Compare1 ?_ (by rfl)
    with_reducible rename Fm _ _ _ _ _ _ _ => F0
    refine @nm_local _ _ _ _ _ _ _ _ _ _ _ _ _ _ _ _ F0 (by rfl) (by rfl) ?_ (by rfl) (by rfl) (by decide)
    refine @e_compC _ _ _ _ _ _ _ _ _ _ _ _ _ _ ?_ (by rfl) (by rfl) (by decide +kernel) (by intro _; rfl)
    refine @e_call _ _ _ _ _ _ _ _ _ _ _ ?_
    with_reducible rename Fm _ _ _ _ _ _ _ => F0
    refine @nm_bi _ _ _ _ _ _ _ _ _ _ _ _ _ _ _ _ F0 (by rfl) (by rfl) (by exact bb_range) ?_ (by rfl) (by rfl) (by rfl) (by decide) (by decide)
    refine @cw_ty1 _ _ _ _ _ _ _ _ _ _ ?_ (by rfl)
    refine @e_call _ _ _ _ _ _ _ _ _ _ _ ?_
    with_reducible rename Fm _ _ _ _ _ _ _ => F0
    refine @nm_bi _ _ _ _ _ _ _ _ _ _ _ _ _ _ _ _ F0 (by rfl) (by rfl) (by exact bb_len) ?_ (by rfl) (by rfl) (by rfl) (by decide) (by decide)
    refine @cw_bi1 _ _ _ _ _ _ _ _ _ _ ?_ (by rfl)
    refine Subscript_ ?_
    with_reducible rename Fm _ _ _ _ _ _ _ => F0
    refine @nm_cellB _ _ _ _ _ _ _ _ _ _ _ _ _ _ _ _ _ F0 (by rfl) (by rfl) (by assumption) ?_ (by rfl) (by decide)
    with_reducible rename Fm _ _ _ _ _ _ _ => F0
    refine @e_int _ _ _ _ _ _ _ _ _ _ _ _ _ _ _ _ F0 ?_
    clear F0
    intro _ _ _
    rename Fm _ _ _ _ _ _ _ => F
    obtain ⟨r0, hr0⟩ : ∃ r0, R1[0]? = some r0 := ⟨_, List.getElem?_eq_getElem hne⟩
    have hr0l := hb1.2 r0 (List.mem_of_getElem? hr0)
    refine @sub_D _ _ _ _ _ _ _ _ _ _ _ _ _ _ _ _ _ _ (dIs r0) F hrv10 (by lia) (by lia) (by rw [List.getElem?_map, show (0 : Int).toNat = 0 from rfl, hr0]; rfl) (fun x0 hx0 => ?_) (by intro _; with_unfolding_all rfl)
    refine @b_lenD _ _ _ _ _ _ _ _ _ _ _ _ _ _ F (hx0.kp F.kp) (by simp; lia) fun u s₁₀ F => ?_
    rw [List.length_map]
    refine @b_range1 _ _ _ _ _ _ _ _ _ _ _ _ _ _ hh F (by lia) (by lia) fun rr s₁₁ F it => ?_
    rw [Int.toNat_natCast] at it
    refine @comp_map _ _ _ _ _ _ _ _ _ _ _ _ _ _ _ _ _ _ _ _ _ _ _ _ F (itl_range (it _)) (by rw [sizeLine_eq]; simp; lia) (fun c => (R1.filter fun r => decide (c < r.length)).map fun r => r.getD c 0) (fun h r v => Rd h v (dIs r)) (fun _ _ _ _ k h => h.kp k) (fun C ob => ∃ v, ob = [(C + 1, cellO v)]) (fun _ => ⟨_, rfl⟩) ?_ ?_ (fun _ _ => rfl)
    · rintro C B₁ s' ob₁ ex c xv hc kB ⟨tc, rfl⟩ ⟨v0, rfl⟩ hob F
      have hrv11 := hrv10.kp kB
      have G11 := kB _ _ G10
      obtain ⟨va, vvs, e1, ha1, ha2⟩ := hrv11.isList
      refine @a_name _ _ _ _ _ _ _ _ _ _ ?_
      with_reducible rename Fm _ _ _ _ _ _ _ => F0
      refine @st_cell _ _ _ _ _ _ _ _ _ _ _ _ _ _ _ _ _ _ F0 (by rfl) (by rfl) (by exact UpO.head _) ?_ (by rfl)
      clear F0
      intro _ _
      refine @e_compC _ _ _ _ _ _ _ _ _ _ _ _ _ _ ?_ (by rfl) (by rfl) (by decide +kernel) (by intro _; rfl)
      with_reducible rename Fm _ _ _ _ _ _ _ => F0
      refine @nm_cellB _ _ _ _ _ _ _ _ _ _ _ _ _ _ _ _ _ F0 (by rfl) (by rfl) (by assumption) ?_ (by rfl) (by decide)
      rename Fm _ _ _ _ _ _ _ => F
      refine @comp_if _ _ _ _ _ _ _ _ _ _ _ _ _ _ _ _ _ _ _ _ _ _ _ (R1) (fun r v => Rd B₁ v (dIs r)) F (by rw [e1]; exact it_all hh F.kp ha1 ha2.unmap) (by rw [sizeLine_eq]; lia) (fun r => r.getD c 0) (fun r => decide (c < r.length)) (fun _ n v => ∃ t, v = Value.int n t) (fun _ _ _ _ _ h => h) (fun _ ob => ob = []) (fun _ => rfl) ?_ ?_ (fun _ _ => rfl)
      · rintro C' B₂ s' ob₂ ex2 row xv hrow kB2 hrowv rfl hob2 F
        have hcell : (C + 1, cellO (some (.int (c : Int) tc))) ∈ [] ++ ex2 := hob2 _ (.head _)
        have hrl := hb1.2 row hrow
        replace hrowv := hrowv.kp kB2
        refine @a_name _ _ _ _ _ _ _ _ _ _ ?_
        with_reducible rename Fm _ _ _ _ _ _ _ => F0
        refine @st_local _ _ _ _ _ _ _ _ _ _ _ _ _ _ _ F0 (by rfl) ?_ (by rfl) (by rfl)
        clear F0
        intro _ _
        refine wpAny_isTrue_Compare1 ?_ (by rfl)
        with_reducible rename Fm _ _ _ _ _ _ _ => F0
        refine @nm_cellO _ _ _ _ _ _ _ _ _ _ _ _ _ _ _ _ _ F0 (by rfl) (by rfl) (by assumption) ?_ (by rfl) (by decide)
        refine @e_call _ _ _ _ _ _ _ _ _ _ _ ?_
        with_reducible rename Fm _ _ _ _ _ _ _ => F0
        refine @nm_bi _ _ _ _ _ _ _ _ _ _ _ _ _ _ _ _ F0 (by rfl) (by rfl) (by exact bb_len) ?_ (by rfl) (by rfl) (by rfl) (by decide) (by decide)
        refine @cw_bi1 _ _ _ _ _ _ _ _ _ _ ?_ (by rfl)
        with_reducible rename Fm _ _ _ _ _ _ _ => F0
        refine @nm_local _ _ _ _ _ _ _ _ _ _ _ _ _ _ _ _ F0 (by rfl) (by rfl) ?_ (by rfl) (by rfl) (by decide)
        rename Fm _ _ _ _ _ _ _ => F
        refine @b_lenD _ _ _ _ _ _ _ _ _ _ _ _ _ _ F (hrowv.kp F.kp) (by simp; lia) fun u s₁₂ F => ?_
        rw [List.length_map]
        refine @c_lt _ _ _ _ _ _ _ _ _ _ ?_
        refine wpAny_truthy_bool ?_
        rename Fm _ _ _ _ _ _ _ => F
        refine ⟨by simp, ?_⟩
        refine @ite_d _ _ _ _ (fun cc => ?_) (fun cc => ?_)
        · refine Subscript_ ?_
          with_reducible rename Fm _ _ _ _ _ _ _ => F0
          refine @nm_local _ _ _ _ _ _ _ _ _ _ _ _ _ _ _ _ F0 (by rfl) (by rfl) ?_ (by rfl) (by rfl) (by decide)
          with_reducible rename Fm _ _ _ _ _ _ _ => F0
          refine @nm_cellO _ _ _ _ _ _ _ _ _ _ _ _ _ _ _ _ _ F0 (by rfl) (by rfl) (by assumption) ?_ (by rfl) (by decide)
          rename Fm _ _ _ _ _ _ _ => F
          refine @sub_D _ _ _ _ _ _ _ _ _ _ _ _ _ _ _ _ _ _ _ F hrowv (by lia) (by lia) (getI (by rw [Int.toNat_natCast]; lia)) (fun y ry => ?_) (by intro _; with_unfolding_all rfl)
          obtain ⟨ty, rfl⟩ := ry.int_inv
          exact ⟨B₂, [], _, Kp.rfl, rfl, ⟨ty, by rw [Int.toNat_natCast]⟩, F⟩
        · exact ⟨[], _, rfl, F⟩
      · intro D' s' B₃ ys' k' k3' F hD' hall'
        exact ⟨B₃, _, _, k3', ⟨_, rfl⟩, Rd.list hD' (RdL.ints (rd_ints (h := B₃) hall')), F⟩
    · intro D' s' B11 ys' k' k11 F hD' hall'
      have q1 := rdL_of (f := dIs) hall'
      have e : (List.range r0.length).map (fun c => (R1.filter fun r => decide (c < r.length)).map fun r => r.getD c 0) = R2 := by
        rw [htr, transI, List.getD_eq_getElem?_getD, hr0]; rfl
      rw [e] at q1
      refine @eq_D _ _ _ _ _ _ _ _ _ _ _ _ _ _ _ _ (10) F ((htv10.kp k11).kp F.kp) ((Rd.list hD' q1).kp F.kp) (shaped2 _) (shaped2 _) (R.le (by lia)) ?_
      rw [eqv_same (shaped2 _)]
      exact next _ B11 (k2.trans (kb.trans (kc.trans k11))) (F.sub trivial)
end Mine
end
section
open PySem PySem.W PyProof.Rows PySem.Calls PySem.Spec
set_option maxRecDepth 100000
namespace Mine

/-- the plain law of one run -/
structure Plain (T : List (List Nat)) (m : Nat) (xs ss ns : List Int) (ans : Nat → Nat → Bool) : Prop where
  hcol : ∀ x ∈ T, (leadOf (sOf x)).n = colOf 1 x 0 ∧ ∀ t : Nat, 1 ≤ t → t ≤ m + 1 → (leadOf (sOf x)).level t = colOf t x 0
  hans : ∀ i j, i < 6 → j < 6 → lessB (LD T (xs.getD i 0)) (LD T (xs.getD j 0)) = ans i j
  hdue : ∀ i j, i < 6 → j < 6 → decide (nI (dueL T m (xs.getD i 0) (xs.getD j 0)) = []) = ans i j
  hahead : ∀ i j, i < 6 → j < 6 → (decide (i < j) && decide (ss.idxOf (xs.getD i 0) < ss.idxOf (xs.getD j 0))) = ans i j
  hbS : ∀ k, k < 2 ^ 6 → (strTo (lowOf ans 6) 6).getD k 0 ≤ (strTo (lowOf ans 6) 6).getD (2 ^ 6 - 1) 0
  hbL : ∀ k, k < 2 ^ 6 → (ladTo (lowOf ans 6) 6).getD k 0 ≤ (ladTo (lowOf ans 6) 6).getD (2 ^ 6 - 1) 0
  hzS : (strTo (lowOf ans 6) 6).getD (2 ^ 6 - 1) 0 ≤ 100
  hzL : (ladTo (lowOf ans 6) 6).getD (2 ^ 6 - 1) 0 ≤ 100
  hc1 : countsI (rowsI true ns) = (byOf (strTo (lowOf ans 6) 6) (choTo 6)).drop 1
  hc2 : countsI (rowsI false ns.reverse) = (byOf (ladTo (lowOf ans 6) 6) (choTo 6)).drop 1
  htr : rowsI false ns.reverse = transI (rowsI true ns)
  hne : 0 < (rowsI true ns).length
set_option maxHeartbeats 4000000 in
theorem law_run (HP : ∀ T m, Tx T → (∀ x ∈ T, (leadOf (sOf x)).longest ≤ (m : Nat)) → (∃ x ∈ T, (leadOf (sOf x)).longest = (m : Nat)) → ∃ ans, Plain T m (firstTo (lvl T ((m + 1 : Nat) : Int)) 6) (secondTo (lvl T 1) (firstTo (lvl T ((m + 1 : Nat) : Int)) 6)) ((firstTo (lvl T ((m + 1 : Nat) : Int)) 6).map fun x => (LD T x).n) ans)
    {w : World} {A : Around} {s : Shared} {B : Heap} {v : Value} {ns : List Int} {Q E} (G : Gd (KK w) B) (kB : Kp B s.heap) (bi : BI 156 B) (h156 : s.heap.get? 156 = some (tabObj #[])) (hB : B.get? 156 = none) (R : Rm A 21) (hv : Rd B v (dIs ns)) (hn : ns.length < 800)
    (h : ∀ s' ps, Sm s s' → Kp B s'.heap → s'.heap.get? 156 = some (tabObj ps) → Q (.bool true) s') : wpAny (model PP w) A (call (.ref 159) [v]) Q E s := by
  refine @call_top _ _ _ _ _ _ _ ([(156, tabObj #[])]) [("script", v)] _ _ _ _ _ _ _ _ _ _ _ _ _ _ _ _ _ _ _ _ _ G kB (fun p hp => by rw [List.mem_singleton.mp hp]; exact ⟨h156, hB⟩) (by simp) R (by rfl) (by rfl) (BindsTo.of_eq (by rfl)) (fun L s₁ A' A₁ F' R' => ?_) (by rfl) (by rfl)
  replace F' : Fm (KK w) s B L s₁ [] (cellN (L + 8) :: cellN (L + 7) :: cellN (L + 6) :: cellN (L + 5) :: cellN (L + 4) :: cellN (L + 3) :: cellN (L + 2) :: cellN (L + 1) :: [(156, tabObj #[])]) := F'
  refine @binds_cons _ _ _ _ _ _ _ _ _ ?_
  with_reducible rename Fm _ _ _ _ _ _ _ => F0
  refine @st_local _ _ _ _ _ _ _ _ _ _ _ _ _ _ _ F0 (by rfl) ?_ (by rfl) (by rfl)
  clear F0
  intro _ _
  refine @binds_nil _ _ _ _ _ _ ?_
  with_reducible rename Fm _ _ _ _ _ _ _ => F0
  refine ⟨Fm.gdh F0, ?_⟩
  rename Fm _ _ _ _ _ _ _ => F
  refine @partA _ _ _ _ _ _ _ _ _ _ _ R' hv (by lia) F fun s₂ B1 T v1 lv sv m tt tx k1 hr hl hmx hme hm9 hsv g7 g8 g1 F => ?_
  obtain ⟨ans, P⟩ := HP T m tx hmx hme
  generalize hxs : firstTo (lvl T ((m + 1 : Nat) : Int)) 6 = xs at P
  have hx6 : xs.length = 6 ∧ ∀ x ∈ xs, 0 ≤ x ∧ x < 6 := by rw [← hxs]; exact ⟨firstTo_len, fun x hx => by have := firstTo_mem.mp hx; omega⟩
  refine @partB _ _ _ _ _ _ _ _ _ _ _ _ _ _ _ R' tx hr hl hm9 hsv g7 g1 P.hcol F fun s₃ B2 cv k2 hcv g2 F => ?_
  replace hl : LeadsAt B2 lv T := let ⟨D, ys, k, e, a, b⟩ := hl; ⟨D, ys, k, e, k2 _ _ a, b.imp fun x v ⟨a, e, la⟩ => ⟨a, e, la.kp k2⟩⟩
  refine @partC _ _ _ _ _ _ _ _ _ _ _ _ R' tx hl hm9 (bi.kp (k1.trans k2)) (k2 _ _ g7) (k2 _ _ g8) F fun s₄ B3 fv ps k3 hfv g3 ht hn2 F => ?_
  rw [hxs] at hfv
  replace hl : LeadsAt B3 lv T := let ⟨D, ys, k, e, a, b⟩ := hl; ⟨D, ys, k, e, k3 _ _ a, b.imp fun x v ⟨a, e, la⟩ => ⟨a, e, la.kp k3⟩⟩
  refine @partD _ _ _ _ _ _ _ _ _ _ _ _ _ R' tx hl (bi.kp (k1.trans (k2.trans k3))) (k3 _ _ (k2 _ _ g7)) hfv hx6 g3 ht hn2 F fun s₅ B4 Sa vss nss ps k4 gS hss F => ?_
  replace hl : LeadsAt B4 lv T := let ⟨D, ys, k, e, a, b⟩ := hl; ⟨D, ys, k, e, k4 _ _ a, b.imp fun x v ⟨a, e, la⟩ => ⟨a, e, la.kp k4⟩⟩
  refine @partE _ _ _ _ _ _ _ _ _ _ _ _ _ _ _ _ _ _ _ _ _ R' tx hl hm9 (k4 _ _ (k3 _ _ (k2 _ _ g7))) (k4 _ _ (k3 _ _ (k2 _ _ g8))) (hcv.kp (k3.trans k4)) (k4 _ _ (k3 _ _ g2)) (hfv.kp k4) hx6 (k4 _ _ g3) gS hss (fun x => secondTo_mem) (by rw [secondTo_len]; omega) P.hans P.hdue P.hahead F fun s₆ B5 lw k5 hlw F => ?_
  replace hl : LeadsAt B5 lv T := let ⟨D, ys, k, e, a, b⟩ := hl; ⟨D, ys, k, e, k5 _ _ a, b.imp fun x v ⟨a, e, la⟩ => ⟨a, e, la.kp k5⟩⟩
  have hlen : (lowOf ans 6).length = 6 := by simp [lowOf]
  refine @partF _ _ _ _ _ _ _ _ _ _ _ _ _ _ _ _ _ _ R' tx hl (k5 _ _ (k4 _ _ (k3 _ _ (k2 _ _ g7)))) (hfv.kp (k4.trans k5)) hx6 (k5 _ _ (k4 _ _ g3)) hlw hlen rfl rfl rfl (by rw [hlen]; exact P.hbS) (by rw [hlen]; exact P.hbL) (by rw [hlen]; exact P.hzS) (by rw [hlen]; exact P.hzL) (by rw [hlen]; exact P.hc1) (by rw [hlen]; exact P.hc2) P.htr P.hne F fun s₇ B6 k6 F => ?_
  exact h _ ps F.sm ((k1.trans (k2.trans (k3.trans (k4.trans (k5.trans k6))))).trans F.kp) (F.get (.head _))
end Mine
end
section
open PySem
set_option maxRecDepth 100000
namespace Mine
abbrev dOf (c k a b : Nat) : Lead := leadOf (sOf (leadTxt c k a b))
/-- the level of the bare front -/
def K0 (c : Nat) (t : Int) : Int := (dOf c 0 0 0).level t
def NT0 (c : Nat) : Int := (dOf c 0 0 0).nt
def chkD (c k a b : Nat) : Bool :=
  (List.range 5).all (fun t => decide ((dOf c k a b).level ((t + 1 : Nat) : Int) = (b : Int) + ((t + 1 : Nat) : Int) * (a : Int) + K0 c ((t + 1 : Nat) : Int)) && decide ((dOf c k a b).level ((t + 1 : Nat) : Int) = colOf ((t + 1 : Nat) : Int) (leadTxt c k a b) 0)) &&
  decide ((dOf c k a b).n = colOf 1 (leadTxt c k a b) 0) && decide ((dOf c k a b).nt = (a : Int) + NT0 c) && decide ((b : Int) ≤ (dOf c k a b).longest) && decide ((dOf c k a b).longest ≤ 4) && (decide ((dOf c k a b).cnt.length ≤ 1) == decide (c = 1)) &&
  (decide (1 ≤ (dOf c k a b).longest) || decide (c = 1))
set_option maxHeartbeats 4000000 in
theorem chkD_all : ∀ c < 3, ∀ k < 2, ∀ a < 4, ∀ b < 5, chkD c k a b = true := by decide +kernel
end Mine
end
section
open PySem
set_option maxRecDepth 100000
namespace Mine
theorem bisR_spec (g : Nat → Int) (x : Int) (lo hi : Nat) (mono : ∀ i j, i ≤ j → j < hi → g i ≤ g j) (h : lo ≤ hi) : lo ≤ bisR g x lo hi ∧ bisR g x lo hi ≤ hi ∧ (∀ i, lo ≤ i → i < bisR g x lo hi → g i ≤ x) ∧ (∀ i, bisR g x lo hi ≤ i → i < hi → x < g i) := by
  induction hn : hi - lo using Nat.strongRecOn generalizing lo hi with
  | ind n ih =>
    rw [bisR]
    split
    · rename_i hlt
      split
      · rename_i hc
        have := ih ((lo + hi) / 2 - lo) (by lia) lo ((lo + hi) / 2) (fun i j a b => mono i j a (by lia)) (by lia) rfl
        refine ⟨this.1, by lia, this.2.2.1, fun i h1 h2 => ?_⟩
        by_cases q : i < (lo + hi) / 2
        · exact this.2.2.2 i h1 q
        · have := mono ((lo + hi) / 2) i (by lia) h2; lia
      · rename_i hc
        have := ih (hi - ((lo + hi) / 2 + 1)) (by lia) ((lo + hi) / 2 + 1) hi mono (by lia) rfl
        refine ⟨by lia, this.2.1, fun i h1 h2 => ?_, this.2.2.2⟩
        by_cases q : (lo + hi) / 2 + 1 ≤ i
        · exact this.2.2.1 i q h2
        · have := mono i ((lo + hi) / 2) (by lia) (by lia); lia
    · exact ⟨Nat.le_refl _, h, fun i h1 h2 => by lia, fun i h1 h2 => by lia⟩
theorem bisL_spec (g : Nat → Int) (x : Int) (lo hi : Nat) (mono : ∀ i j, i ≤ j → j < hi → g i ≤ g j) (h : lo ≤ hi) : lo ≤ bisL g x lo hi ∧ bisL g x lo hi ≤ hi ∧ (∀ i, lo ≤ i → i < bisL g x lo hi → g i < x) ∧ (∀ i, bisL g x lo hi ≤ i → i < hi → x ≤ g i) := by
  induction hn : hi - lo using Nat.strongRecOn generalizing lo hi with
  | ind n ih =>
    rw [bisL]
    split
    · rename_i hlt
      split
      · rename_i hc
        have := ih (hi - ((lo + hi) / 2 + 1)) (by lia) ((lo + hi) / 2 + 1) hi mono (by lia) rfl
        refine ⟨by lia, this.2.1, fun i h1 h2 => ?_, this.2.2.2⟩
        by_cases q : (lo + hi) / 2 + 1 ≤ i
        · exact this.2.2.1 i q h2
        · have := mono i ((lo + hi) / 2) (by lia) (by lia); lia
      · rename_i hc
        have := ih ((lo + hi) / 2 - lo) (by lia) lo ((lo + hi) / 2) (fun i j a b => mono i j a (by lia)) (by lia) rfl
        refine ⟨this.1, by lia, this.2.2.1, fun i h1 h2 => ?_⟩
        by_cases q : i < (lo + hi) / 2
        · exact this.2.2.2 i h1 q
        · have := mono ((lo + hi) / 2) i (by lia) h2; lia
    · exact ⟨Nat.le_refl _, h, fun i h1 h2 => by lia, fun i h1 h2 => by lia⟩
theorem pw_get {R : Int → Int → Prop} {ns : List Int} (h : ns.Pairwise R) {i j : Nat} (hij : i < j) (hj : j < ns.length) : R (ns.getD i 0) (ns.getD j 0) := by
  rw [List.getD_eq_getElem?_getD, List.getD_eq_getElem?_getD, List.getElem?_eq_getElem (by lia), List.getElem?_eq_getElem hj]
  exact List.pairwise_iff_getElem.mp h i j (by lia) hj hij
theorem mono_of {f : Int → Int} {ns : List Int} (h : ns.Pairwise fun u v => f u ≤ f v) : ∀ i j, i ≤ j → j < ns.length → f (ns.getD i 0) ≤ f (ns.getD j 0) := fun i j hij hj => by
  rcases Nat.lt_or_ge i j with h1 | h1
  · exact pw_get h h1 hj
  · rw [show i = j by lia]; exact Int.le_refl _
theorem mem_take_get {ns : List Int} {p : Nat} {y : Int} (h : y ∈ ns.take p) : ∃ i, i < p ∧ i < ns.length ∧ ns.getD i 0 = y := by
  obtain ⟨i, hi, e⟩ := List.mem_iff_getElem.mp h
  rw [List.length_take] at hi
  refine ⟨i, by lia, by lia, ?_⟩
  rw [List.getD_eq_getElem?_getD, List.getElem?_eq_getElem (by lia)]
  rw [List.getElem_take] at e; exact e
theorem mem_drop_get {ns : List Int} {p : Nat} {y : Int} (h : y ∈ ns.drop p) : ∃ i, p ≤ i ∧ i < ns.length ∧ ns.getD i 0 = y := by
  obtain ⟨i, hi, e⟩ := List.mem_iff_getElem.mp h
  rw [List.length_drop] at hi
  refine ⟨p + i, by lia, by omega, ?_⟩
  rw [List.getD_eq_getElem?_getD, List.getElem?_eq_getElem (by omega)]
  rw [List.getElem_drop] at e; exact e
theorem pw_ins {R : Int → Int → Prop} {ns : List Int} {p : Nat} {x : Int} (h : ns.Pairwise R) (h1 : ∀ y ∈ ns.take p, R y x) (h2 : ∀ y ∈ ns.drop p, R x y) : (ns.take p ++ x :: ns.drop p).Pairwise R := by
  have hh := h
  rw [← List.take_append_drop p ns, List.pairwise_append] at hh
  rw [List.pairwise_append, List.pairwise_cons]
  refine ⟨hh.1, ⟨h2, hh.2.1⟩, fun a ha b hb => ?_⟩
  rcases List.mem_cons.mp hb with rfl | hb
  · exact h1 a ha
  · exact hh.2.2 a ha b hb
theorem firstTo_sorted (f : Int → Int) : ∀ k, (firstTo f k).Pairwise fun u v => f u ≤ f v
  | 0 => .nil
  | k + 1 => by
    have ih := firstTo_sorted f k
    rw [firstTo, insI1, if_pos rfl]
    have sp := bisR_spec (fun i => f ((firstTo f k).getD i 0)) (f k) 0 (firstTo f k).length (mono_of ih) (Nat.zero_le _)
    refine pw_ins ih (fun y hy => ?_) (fun y hy => ?_)
    · obtain ⟨i, h1, h2, rfl⟩ := mem_take_get hy
      exact sp.2.2.1 i (Nat.zero_le _) h1
    · obtain ⟨i, h1, h2, rfl⟩ := mem_drop_get hy
      exact Int.le_of_lt (sp.2.2.2 i h1 h2)
theorem firstTo_nodup (f : Int → Int) : ∀ k, (firstTo f k).Nodup
  | 0 => .nil
  | k + 1 => by
    rw [firstTo, insI1]
    refine pw_ins (firstTo_nodup f k) (fun y hy => ?_) (fun y hy => ?_)
    · have := firstTo_mem.mp (List.mem_of_mem_take hy); lia
    · have := firstTo_mem.mp (List.mem_of_mem_drop hy); lia
/-- how the second row lies -/
def R2 (f : Int → Int) (xs : List Int) (u v : Int) : Prop := f u < f v ∨ (f u = f v ∧ xs.idxOf v < xs.idxOf u)
theorem second_pw (f : Int → Int) (xs : List Int) (hn : xs.Nodup) : ∀ i, i ≤ xs.length → (secondTo f (xs.take i)).Pairwise (R2 f xs)
  | 0, _ => by rw [List.take_zero]; exact .nil
  | i + 1, hi => by
    have ih := second_pw f xs hn i (by lia)
    have e : xs.take (i + 1) = xs.take i ++ [xs[i]] := by rw [List.take_add_one, List.getElem?_eq_getElem (by lia)]; rfl
    rw [e, secondTo_snoc]
    generalize hx : xs[i] = x
    have hix : xs.idxOf x = i := by rw [← hx]; exact hn.idxOf_getElem i (by lia)
    have hold : ∀ y ∈ secondTo f (xs.take i), xs.idxOf y < i := fun y hy => by
      obtain ⟨j, hj, e⟩ := List.mem_iff_getElem.mp (secondTo_mem.mp hy)
      rw [List.length_take] at hj
      rw [List.getElem_take] at e
      rw [← e, hn.idxOf_getElem j (by lia)]; lia
    rw [insI1, if_neg (by simp)]
    have sp := bisL_spec (fun i' => f ((secondTo f (xs.take i)).getD i' 0)) (f x) 0 (secondTo f (xs.take i)).length (mono_of (ih.imp fun h => by rcases h with h | h <;> lia)) (Nat.zero_le _)
    refine pw_ins ih (fun y hy => ?_) (fun y hy => ?_)
    · obtain ⟨j, h1, h2, rfl⟩ := mem_take_get hy
      exact .inl (sp.2.2.1 j (Nat.zero_le _) h1)
    · have := hold y (List.mem_of_mem_drop hy)
      obtain ⟨j, h1, h2, rfl⟩ := mem_drop_get hy
      have h3 := sp.2.2.2 j h1 h2
      unfold R2
      rcases Int.lt_or_eq_of_le h3 with h | h
      · exact .inl h
      · exact .inr ⟨h, by rw [hix]; exact this⟩
theorem idx_iff {f : Int → Int} {xs : List Int} (hn : xs.Nodup) {u v : Int} (hu : u ∈ xs) (hv : v ∈ xs) (hne : u ≠ v) : (secondTo f xs).idxOf u < (secondTo f xs).idxOf v ↔ R2 f xs u v := by
  have pw := second_pw f xs hn xs.length (Nat.le_refl _)
  rw [List.take_length] at pw
  have hu' := secondTo_mem (f := f).mpr hu
  have hv' := secondTo_mem (f := f).mpr hv
  have key : ∀ {u v : Int}, u ∈ secondTo f xs → v ∈ secondTo f xs → (secondTo f xs).idxOf u < (secondTo f xs).idxOf v → R2 f xs u v := fun {u v} hu hv h => by
    have h1 := List.idxOf_lt_length_iff.mpr hu
    have h2 := List.idxOf_lt_length_iff.mpr hv
    have := List.pairwise_iff_getElem.mp pw _ _ h1 h2 h
    rwa [List.getElem_idxOf, List.getElem_idxOf] at this
  refine ⟨key hu' hv', fun h => ?_⟩
  rcases Nat.lt_trichotomy ((secondTo f xs).idxOf u) ((secondTo f xs).idxOf v) with h1 | h1 | h1
  · exact h1
  · exfalso
    have h3 := List.idxOf_lt_length_iff.mpr hu'
    have h4 := List.idxOf_lt_length_iff.mpr hv'
    apply hne
    have e1 : (secondTo f xs)[(secondTo f xs).idxOf u] = u := List.getElem_idxOf h3
    have e2 : (secondTo f xs)[(secondTo f xs).idxOf v] = v := List.getElem_idxOf h4
    rw [← e1, ← e2]; simp only [h1]
  · have := key hv' hu' h1
    unfold R2 at this h
    lia
end Mine
end
section
open PySem
set_option maxRecDepth 100000
namespace Mine
theorem all_range {n : Nat} {p : Nat → Bool} (h : (List.range n).all p = true) {i : Nat} (hi : i < n) : p i = true := List.all_eq_true.mp h i (List.mem_range.mpr hi)
structure DF (c a b : Nat) (d : Lead) : Prop where
  lvl : ∀ t : Nat, 1 ≤ t → t ≤ 5 → d.level t = (b : Int) + (t : Int) * (a : Int) + K0 c t
  n : d.n = (b : Int) + (a : Int) + K0 c 1
  nt : d.nt = (a : Int) + NT0 c
  lo : (b : Int) ≤ d.longest
  hi : d.longest ≤ 4
  sm : d.cnt.length ≤ 1 ↔ c = 1
  l1 : c ≠ 1 → 1 ≤ d.longest
theorem leadTxt_mod (c k a b : Nat) : leadTxt c k a b = leadTxt c (k % 2) a b := by
  unfold leadTxt frAt; rw [Nat.mod_mod]
theorem dOf_facts {c k a b : Nat} (hc : c < 3) (ha : a < 4) (hb : b < 5) : DF c a b (dOf c k a b) ∧ ∀ t : Nat, 1 ≤ t → t ≤ 5 → (dOf c k a b).level t = colOf t (leadTxt c k a b) 0 ∧ (dOf c k a b).n = colOf 1 (leadTxt c k a b) 0 := by
  have e : dOf c k a b = dOf c (k % 2) a b := by unfold dOf; rw [leadTxt_mod]
  rw [e, leadTxt_mod]
  have h := chkD_all c hc (k % 2) (Nat.mod_lt _ (by lia)) a ha b hb
  unfold chkD at h
  simp only [Bool.and_eq_true, decide_eq_true_eq, beq_iff_eq, Bool.or_eq_true] at h
  obtain ⟨⟨⟨⟨⟨⟨h1, h2⟩, h3⟩, h4⟩, h5⟩, h6⟩, h7⟩ := h
  have hl : ∀ t : Nat, 1 ≤ t → t ≤ 5 → (dOf c (k % 2) a b).level t = (b : Int) + (t : Int) * (a : Int) + K0 c t ∧ (dOf c (k % 2) a b).level t = colOf t (leadTxt c (k % 2) a b) 0 := fun t ht1 ht2 => by
    have := all_range h1 (i := t - 1) (by lia)
    simp only [Bool.and_eq_true, decide_eq_true_eq] at this
    rw [show t - 1 + 1 = t by lia] at this
    exact this
  have hn : (dOf c (k % 2) a b).n = (b : Int) + (a : Int) + K0 c 1 := by
    have e1 := hl 1 (by lia) (by lia)
    have e2 := e1.1
    rw [e1.2] at e2
    rw [h2]
    have : ((1 : Nat) : Int) = 1 := rfl
    rw [this] at e2
    rw [e2]; lia
  refine ⟨⟨fun t h1 h2 => (hl t h1 h2).1, hn, h3, h4, h5, ?_, fun hc1 => ?_⟩, fun t ht1 ht2 => ⟨(hl t ht1 ht2).2, h2⟩⟩
  · exact decide_eq_decide.mp h6
  · rcases h7 with h | h
    · exact h
    · exact absurd h hc1
theorem lessTo_iff (d e : Lead) : ∀ k, lessTo d e k = true ↔ ∀ j : Nat, j < k → d.level (2 + (j : Int)) < e.level (2 + (j : Int))
  | 0 => by simp [lessTo]
  | k + 1 => by
    rw [lessTo, Bool.and_eq_true, lessTo_iff d e k, decide_eq_true_eq]
    constructor
    · rintro ⟨h1, h2⟩ j hj
      rcases Nat.lt_or_ge j k with h | h
      · exact h1 j h
      · rw [show j = k by lia]; exact h2
    · intro h
      exact ⟨fun j hj => h j (by lia), h k (by lia)⟩
/-- a linear look at two leads -/
theorem lin {a b a' b' t : Nat} (h5 : t ≤ 5) (h1 : 1 ≤ t) (hn : b + a < b' + a') (hlex : a < a' ∨ (a = a' ∧ b < b')) : (b : Int) + (t : Int) * a < (b' : Int) + (t : Int) * a' := by
  have : t = 1 ∨ t = 2 ∨ t = 3 ∨ t = 4 ∨ t = 5 := by lia
  rcases this with rfl | rfl | rfl | rfl | rfl <;> lia
theorem nil' {a b a' b' t : Nat} (h5 : t ≤ 5) (h1 : 1 ≤ t) (hb : b' < t ∨ b' ≤ b) (h : (b : Int) + (t : Int) * a < (b' : Int) + (t : Int) * a') : a < a' ∨ (a = a' ∧ b < b') := by
  have : t = 1 ∨ t = 2 ∨ t = 3 ∨ t = 4 ∨ t = 5 := by lia
  rcases this with rfl | rfl | rfl | rfl | rfl <;> lia
theorem less_iff {c a b a' b' : Nat} {d e : Lead} (hd : DF c a b d) (he : DF c a' b' e) : lessB d e = true ↔ b + a < b' + a' ∧ (a < a' ∨ (a = a' ∧ b < b')) := by
  have hn : e.n ≤ d.n ↔ ¬ b + a < b' + a' := by rw [hd.n, he.n]; lia
  unfold lessB
  by_cases q : b + a < b' + a'
  · rw [if_neg (by rw [hn]; simpa using q)]
    by_cases hc : c = 1
    · rw [if_pos ⟨hd.sm.mpr hc, he.sm.mpr hc⟩, decide_eq_true_eq, hd.nt, he.nt]
      omega
    · rw [if_neg (fun h => hc (hd.sm.mp h.1)), lessTo_iff]
      have m1 := hd.l1 hc
      have m2 := hd.hi
      have m3 := he.hi
      have m4 := he.lo
      have m5 := hd.lo
      constructor
      · intro h
        have := h ((max d.longest e.longest).toNat - 1) (by omega)
        have e1 : (2 : Int) + (((max d.longest e.longest).toNat - 1 : Nat) : Int) = (((max d.longest e.longest).toNat + 1 : Nat) : Int) := by lia
        rw [e1, hd.lvl _ (by lia) (by omega), he.lvl _ (by lia) (by omega)] at this
        exact ⟨q, nil' (t := (max d.longest e.longest).toNat + 1) (by omega) (by lia) (.inl (by omega)) (by omega)⟩
      · rintro ⟨_, hl⟩ j hj
        have e1 : (2 : Int) + (j : Int) = ((2 + j : Nat) : Int) := by lia
        rw [e1, hd.lvl _ (by lia) (by omega), he.lvl _ (by lia) (by omega)]
        have := lin (t := 2 + j) (by omega) (by lia) q hl
        omega
  · rw [if_pos (hn.mpr q)]
    exact ⟨fun h => absurd h (by simp), fun h => absurd h.1 q⟩
end Mine
end
section
open PySem
set_option maxRecDepth 100000
namespace Mine
theorem txts_get (c : Nat) : ∀ (j : Nat) (g : List (Nat × Nat)) (i : Nat), i < g.length → (txts c j g)[i]? = some (leadTxt c (j + i) (g.getD i (0, 0)).1 (g.getD i (0, 0)).2)
  | j, (a, b) :: r, 0, _ => rfl
  | j, (a, b) :: r, i + 1, h => by
    have := txts_get c (j + 1) r i (by simpa using h)
    rw [txts, List.getElem?_cons_succ, this, List.getD_cons_succ, show j + 1 + i = j + (i + 1) by lia]
def ansN (ns : List Int) (i j : Nat) : Bool := decide (i < j) && decide (ns.getD i 0 < ns.getD j 0)
theorem lex_lt {a b a' b' t : Nat} (h5 : t ≤ 5) (h1 : 1 ≤ t) (hb : b < t) (h : a < a' ∨ (a = a' ∧ b < b')) : (b : Int) + (t : Int) * a < (b' : Int) + (t : Int) * a' := by
  have : t = 1 ∨ t = 2 ∨ t = 3 ∨ t = 4 ∨ t = 5 := by lia
  rcases this with rfl | rfl | rfl | rfl | rfl <;> lia
theorem eq_lex {a b a' b' t : Nat} (h5 : t ≤ 5) (h1 : 1 ≤ t) (hb : b < t) (hb' : b' < t) (h : (b : Int) + (t : Int) * a = (b' : Int) + (t : Int) * a') : a = a' ∧ b = b' := by
  have : t = 1 ∨ t = 2 ∨ t = 3 ∨ t = 4 ∨ t = 5 := by lia
  rcases this with rfl | rfl | rfl | rfl | rfl <;> lia
theorem getD_map_i {xs : List Int} {f : Int → Int} {i : Nat} (h : i < xs.length) : (xs.map f).getD i 0 = f (xs.getD i 0) := by
  rw [List.getD_eq_getElem?_getD, List.getD_eq_getElem?_getD, List.getElem?_map, List.getElem?_eq_getElem h]; rfl
theorem geo {T : List (List Nat)} {m : Nat} (tx : Tx T) (hm : ∀ x ∈ T, (leadOf (sOf x)).longest ≤ (m : Nat)) (hme : ∃ x ∈ T, (leadOf (sOf x)).longest = (m : Nat))
    {xs ns : List Int} (hxs : firstTo (lvl T ((m + 1 : Nat) : Int)) 6 = xs) (hns : xs.map (fun x => (LD T x).n) = ns) :
    (∀ x ∈ T, (leadOf (sOf x)).n = colOf 1 x 0 ∧ ∀ t : Nat, 1 ≤ t → t ≤ m + 1 → (leadOf (sOf x)).level t = colOf t x 0) ∧
    (∀ i j, i < 6 → j < 6 → lessB (LD T (xs.getD i 0)) (LD T (xs.getD j 0)) = ansN ns i j) ∧
    (∀ i j, i < 6 → j < 6 → decide (nI (dueL T m (xs.getD i 0) (xs.getD j 0)) = []) = ansN ns i j) ∧
    (∀ i j, i < 6 → j < 6 → (decide (i < j) && decide ((secondTo (lvl T 1) xs).idxOf (xs.getD i 0) < (secondTo (lvl T 1) xs).idxOf (xs.getD j 0))) = ansN ns i j) := by
  obtain ⟨c, g, hc, hgl, hgb, rfl⟩ := tx
  have mem6 : ∀ x ∈ txts c 0 g, ∃ k a b, a < 4 ∧ b < 5 ∧ x = leadTxt c k a b := fun x hx => txts_mem hgb hx
  have hm4 : m ≤ 4 := by
    obtain ⟨x, hx, e⟩ := hme
    obtain ⟨k, a, b, ha, hb, rfl⟩ := mem6 x hx
    have := (dOf_facts (k := k) hc ha hb).1.hi
    unfold dOf at this; lia
  have gb : ∀ i, i < 6 → (g.getD i (0, 0)).1 < 4 ∧ (g.getD i (0, 0)).2 < 5 := fun i hi => by
    refine hgb _ ?_
    rw [List.getD_eq_getElem?_getD, List.getElem?_eq_getElem (by lia)]; exact List.getElem_mem _
  have tget : ∀ i : Nat, i < 6 → (txts c 0 g).getD i [] = leadTxt c i (g.getD i (0, 0)).1 (g.getD i (0, 0)).2 := fun i hi => by
    rw [List.getD_eq_getElem?_getD, txts_get c 0 g i (by lia), Nat.zero_add]; rfl
  have tmem : ∀ i : Nat, i < 6 → (txts c 0 g).getD i [] ∈ txts c 0 g := fun i hi => by
    rw [List.getD_eq_getElem?_getD, List.getElem?_eq_getElem (by rw [txts_len]; lia)]; exact List.getElem_mem _
  have hcol : ∀ x ∈ txts c 0 g, (leadOf (sOf x)).n = colOf 1 x 0 ∧ ∀ t : Nat, 1 ≤ t → t ≤ m + 1 → (leadOf (sOf x)).level t = colOf t x 0 := fun x hx => by
    obtain ⟨k, a, b, ha, hb, rfl⟩ := mem6 x hx
    have := (dOf_facts (k := k) hc ha hb).2
    exact ⟨(this 1 (by lia) (by lia)).2, fun t h1 h2 => (this t h1 (by lia)).1⟩
  -- the facts of one number
  have fact : ∀ v : Int, 0 ≤ v → v < 6 → DF c (g.getD v.toNat (0, 0)).1 (g.getD v.toNat (0, 0)).2 (LD (txts c 0 g) v) ∧ (g.getD v.toNat (0, 0)).2 ≤ m := fun v h0 h1 => by
    have hb := gb v.toNat (by lia)
    have e : LD (txts c 0 g) v = dOf c v.toNat (g.getD v.toNat (0, 0)).1 (g.getD v.toNat (0, 0)).2 := by
      show leadOf (sOf ((txts c 0 g).getD v.toNat [])) = _
      rw [tget v.toNat (by lia)]
    have F := (dOf_facts (k := v.toNat) hc hb.1 hb.2).1
    rw [← e] at F
    refine ⟨F, ?_⟩
    have h2 := hm _ (tmem v.toNat (by lia))
    have h3 : (LD (txts c 0 g) v).longest ≤ (m : Int) := h2
    have := F.lo
    lia
  have hx6 : ∀ i, i < 6 → 0 ≤ xs.getD i 0 ∧ xs.getD i 0 < 6 := fun i hi => by
    have : xs.getD i 0 ∈ xs := getD_mem (by rw [← hxs, firstTo_len]; omega)
    rw [← hxs, firstTo_mem, hxs] at this; exact ⟨this.1, by have := this.2; omega⟩
  have hxl : xs.length = 6 := by rw [← hxs, firstTo_len]
  have hnd : xs.Nodup := by rw [← hxs]; exact firstTo_nodup _ _
  have hst : ∀ i j, i < j → j < 6 → lvl (txts c 0 g) ((m + 1 : Nat) : Int) (xs.getD i 0) ≤ lvl (txts c 0 g) ((m + 1 : Nat) : Int) (xs.getD j 0) := fun i j hij hj => by
    have := firstTo_sorted (lvl (txts c 0 g) ((m + 1 : Nat) : Int)) 6
    rw [hxs] at this
    exact pw_get this hij (by lia)
  have hnsi : ∀ i, i < 6 → ns.getD i 0 = (LD (txts c 0 g) (xs.getD i 0)).n := fun i hi => by rw [← hns, getD_map_i (by lia)]
  -- the heart: n and the lexical order
  have heart : ∀ i j, i < 6 → j < 6 → (((g.getD (xs.getD i 0).toNat (0, 0)).2 + (g.getD (xs.getD i 0).toNat (0, 0)).1 < (g.getD (xs.getD j 0).toNat (0, 0)).2 + (g.getD (xs.getD j 0).toNat (0, 0)).1 ∧
      ((g.getD (xs.getD i 0).toNat (0, 0)).1 < (g.getD (xs.getD j 0).toNat (0, 0)).1 ∨ ((g.getD (xs.getD i 0).toNat (0, 0)).1 = (g.getD (xs.getD j 0).toNat (0, 0)).1 ∧ (g.getD (xs.getD i 0).toNat (0, 0)).2 < (g.getD (xs.getD j 0).toNat (0, 0)).2))) ↔ ansN ns i j = true) := fun i j hi hj => by
    obtain ⟨x0, x1⟩ := hx6 i hi
    obtain ⟨y0, y1⟩ := hx6 j hj
    obtain ⟨Fx, bx⟩ := fact _ x0 x1
    obtain ⟨Fy, by'⟩ := fact _ y0 y1
    unfold ansN
    rw [Bool.and_eq_true, decide_eq_true_eq, decide_eq_true_eq, hnsi i hi, hnsi j hj, Fx.n, Fy.n]
    have lx : lvl (txts c 0 g) ((m + 1 : Nat) : Int) (xs.getD i 0) = _ := Fx.lvl (m + 1) (by lia) (by lia)
    have ly : lvl (txts c 0 g) ((m + 1 : Nat) : Int) (xs.getD j 0) = _ := Fy.lvl (m + 1) (by lia) (by lia)
    constructor
    · rintro ⟨h1, h2⟩
      refine ⟨?_, by lia⟩
      rcases Nat.lt_trichotomy i j with h | h | h
      · exact h
      · subst h; lia
      · have h3 := hst j i h hi
        have h4 := lex_lt (t := m + 1) (by lia) (by lia) (by lia) h2
        rw [lx, ly] at h3; omega
    · rintro ⟨h1, h2⟩
      refine ⟨by lia, ?_⟩
      have h3 := hst i j h1 hj
      rw [lx, ly] at h3
      rcases Int.lt_or_eq_of_le h3 with h4 | h4
      · exact nil' (t := m + 1) (by lia) (by lia) (.inl (by lia)) (by omega)
      · exfalso
        have h5 := eq_lex (t := m + 1) (by lia) (by lia) (Nat.lt_succ_of_le bx) (Nat.lt_succ_of_le by') (a := (g.getD (xs.getD i 0).toNat (0, 0)).1) (a' := (g.getD (xs.getD j 0).toNat (0, 0)).1) (by lia)
        lia
  refine ⟨hcol, fun i j hi hj => ?_, fun i j hi hj => ?_, fun i j hi hj => ?_⟩
  · obtain ⟨x0, x1⟩ := hx6 i hi
    obtain ⟨y0, y1⟩ := hx6 j hj
    rw [Bool.eq_iff_iff, less_iff (fact _ x0 x1).1 (fact _ y0 y1).1]
    exact heart i j hi hj
  · obtain ⟨x0, x1⟩ := hx6 i hi
    obtain ⟨y0, y1⟩ := hx6 j hj
    obtain ⟨Fx, bx⟩ := fact _ x0 x1
    obtain ⟨Fy, by'⟩ := fact _ y0 y1
    rw [Bool.eq_iff_iff, decide_eq_true_eq, ← heart i j hi hj]
    have ca : ∀ v : Int, 0 ≤ v → v < 6 → ∀ t, t < m + 1 → colAt (txts c 0 g) m v t = (LD (txts c 0 g) v).level ((t + 1 : Nat) : Int) := fun v v0 v1 t ht => by
      have h := (hcol _ (tmem v.toNat (by lia))).2 (t + 1) (by lia) (by lia)
      show (colsOf m ((txts c 0 g).getD v.toNat [])).getD t 0 = _
      rw [show (LD (txts c 0 g) v).level ((t + 1 : Nat) : Int) = _ from h]
      unfold colsOf
      rw [List.map_map, List.getD_eq_getElem?_getD, List.getElem?_map, List.getElem?_map, List.getElem?_range ht]
      show colOf ((1 + t : Nat) : Int) _ 0 = _
      rw [Nat.add_comm]
    have e : nI (dueL (txts c 0 g) m (xs.getD i 0) (xs.getD j 0)) = [] ↔ ∀ t, t < m + 1 → colAt (txts c 0 g) m (xs.getD i 0) t < colAt (txts c 0 g) m (xs.getD j 0) t := by
      rw [List.map_eq_nil_iff, List.filter_eq_nil_iff]
      constructor
      · intro h t ht
        have := h t (List.mem_range.mpr ht)
        rw [decide_eq_true_eq] at this; lia
      · intro h t ht
        have := h t (List.mem_range.mp ht)
        rw [decide_eq_true_eq]; lia
    rw [e]
    constructor
    · intro h
      have h1 := h 0 (by lia)
      have h2 := h m (by lia)
      rw [ca _ x0 x1 0 (by lia), ca _ y0 y1 0 (by lia), Fx.lvl 1 (by lia) (by lia), Fy.lvl 1 (by lia) (by lia)] at h1
      rw [ca _ x0 x1 m (by lia), ca _ y0 y1 m (by lia), Fx.lvl (m + 1) (by lia) (by lia), Fy.lvl (m + 1) (by lia) (by lia)] at h2
      exact ⟨by lia, nil' (t := m + 1) (by lia) (by lia) (.inl (by lia)) (by omega)⟩
    · rintro ⟨h1, h2⟩ t ht
      rw [ca _ x0 x1 t ht, ca _ y0 y1 t ht, Fx.lvl (t + 1) (by lia) (by lia), Fy.lvl (t + 1) (by lia) (by lia)]
      have := lin (t := t + 1) (by lia) (by lia) h1 h2
      lia
  · by_cases hij : i < j
    · have hx : xs.getD i 0 ∈ xs := getD_mem (by lia)
      have hy : xs.getD j 0 ∈ xs := getD_mem (by lia)
      have ei : ∀ k, k < 6 → xs.idxOf (xs.getD k 0) = k := fun k hk => by
        rw [List.getD_eq_getElem?_getD, List.getElem?_eq_getElem (by lia)]
        exact hnd.idxOf_getElem k (by lia)
      have hne : xs.getD i 0 ≠ xs.getD j 0 := fun q => by
        have h1 := ei i hi
        rw [q, ei j hj] at h1; lia
      obtain ⟨x0, x1⟩ := hx6 i hi
      obtain ⟨y0, y1⟩ := hx6 j hj
      unfold ansN
      congr 1
      rw [decide_eq_decide, idx_iff hnd hx hy hne, R2, ei i hi, ei j hj, hnsi i hi, hnsi j hj]
      have l1 : lvl (txts c 0 g) 1 (xs.getD i 0) = (LD (txts c 0 g) (xs.getD i 0)).n := by
        have := (fact _ x0 x1).1.lvl 1 (by lia) (by lia)
        rw [(fact _ x0 x1).1.n]
        show (LD (txts c 0 g) (xs.getD i 0)).level ((1 : Nat) : Int) = _
        rw [this]
        show _ + (1 : Int) * _ + K0 c 1 = _
        lia
      have l2 : lvl (txts c 0 g) 1 (xs.getD j 0) = (LD (txts c 0 g) (xs.getD j 0)).n := by
        have := (fact _ y0 y1).1.lvl 1 (by lia) (by lia)
        rw [(fact _ y0 y1).1.n]
        show (LD (txts c 0 g) (xs.getD j 0)).level ((1 : Nat) : Int) = _
        rw [this]
        show _ + (1 : Int) * _ + K0 c 1 = _
        lia
      rw [l1, l2]
      omega
    · unfold ansN
      rw [decide_eq_false hij, Bool.false_and, Bool.false_and]
end Mine
end
section
open PySem
set_option maxRecDepth 100000
namespace Mine
/-- seven words of 64 bits: the places whose b-th figure is 0 -/
def M7 : Nat → Nat
  | 0 => 242279574765202296849774602629334844784547120229106020093830066393546429371132641108730350237921188520254173868755392644511533876204885
  | 1 => 145367744859121378109864761577600906870728272137463612056298039836127857622679584665238210142752713112152504321253235586706920325722931
  | 2 => 42755219076212170032313165169882619667861256511018709428322952892978781653729289607423002983162562680044854212133304584325564801683215
  | 3 => 2828166242395357550775579019019472896317670664152988561406576650508324078262248728895685022232543056656663508195588240986515959644415
  | 4 => 11090509548737459611354254968765804573807793470670278778117554956446576561536199754736882230095420381780711988743246989235616546815
  | _ => 169230327970901635144469834105934645106947681768883573476366378763754132517996195426256129352261181037989757156063900510191615
def clr (b X : Nat) : Nat := Nat.lor (Nat.land X (M7 b)) (Nat.shiftLeft (Nat.land X (M7 b)) (Nat.pow 2 b))
def resN (low X : Nat) (t : Nat) : Nat := Nat.rec X (fun b ih => cond (Nat.testBit low b) ih (clr b ih)) t
def updN (low N t : Nat) : Nat := Nat.lor N (Nat.shiftLeft (Nat.lor N (Nat.lor (Nat.shiftLeft (resN low N t) 64) (Nat.sub (Nat.pow 2 (Nat.pow 2 t)) 1))) (Nat.pow 2 t))
def clI (low m : Nat) : Nat → Nat
  | 0 => m
  | b + 1 => clI low (if low.testBit b then m else if m.testBit b then m - 2 ^ b else m) b
theorem M7_bit : ∀ b < 6, ∀ k < 7, ∀ m < 64, (M7 b).testBit (64 * k + m) = !(m.testBit b) := by decide +kernel
theorem bitF : ∀ b < 6, ∀ m < 64, (m.testBit b = false → m ≥ 2 ^ b → (m - 2 ^ b).testBit b = true) ∧ (m.testBit b = false → m < 2 ^ b → (64 + m - 2 ^ b).testBit b = true) ∧ (m.testBit b = true → m ≥ 2 ^ b ∧ (m - 2 ^ b).testBit b = false) := by decide +kernel
theorem clI_and : ∀ t < 6, ∀ low < 64, ∀ m < 2 ^ t, clI low m t = m &&& low := by decide +kernel
theorem sub_and : ∀ low < 64, ∀ m < 64, m - (m &&& low) = m &&& (63 - low) := by decide +kernel
theorem clr_bit {b X k m : Nat} (hb : b < 6) (hk : k < 7) (hm : m < 64) : (clr b X).testBit (64 * k + m) = X.testBit (64 * k + (if m.testBit b then m - 2 ^ b else m)) := by
  show ((X &&& M7 b) ||| ((X &&& M7 b) <<< (2 ^ b))).testBit _ = _
  rw [Nat.testBit_or, Nat.testBit_and, Nat.testBit_shiftLeft, Nat.testBit_and, M7_bit b hb k hk m hm]
  have h2 : 2 ^ b ≤ 32 := by
    have : b = 0 ∨ b = 1 ∨ b = 2 ∨ b = 3 ∨ b = 4 ∨ b = 5 := by lia
    rcases this with rfl | rfl | rfl | rfl | rfl | rfl <;> decide
  have hp := Nat.two_pow_pos b
  obtain ⟨f1, f2, f3⟩ := bitF b hb m hm
  cases hbit : m.testBit b with
  | false =>
    simp only [Bool.not_false, Bool.and_true, Bool.false_eq_true, if_false]
    have : (decide (64 * k + m ≥ 2 ^ b) && (X.testBit (64 * k + m - 2 ^ b) && (M7 b).testBit (64 * k + m - 2 ^ b))) = false := by
      by_cases h : m ≥ 2 ^ b
      · rw [show 64 * k + m - 2 ^ b = 64 * k + (m - 2 ^ b) by lia, M7_bit b hb k hk _ (by omega), f1 hbit h]; simp
      · cases k with
        | zero => rw [decide_eq_false (by lia)]; rfl
        | succ k => rw [show 64 * (k + 1) + m - 2 ^ b = 64 * k + (64 + m - 2 ^ b) by lia, M7_bit b hb k (by lia) _ (by omega), f2 hbit (by lia)]; simp
    rw [this, Bool.or_false]
  | true =>
    obtain ⟨h, h'⟩ := f3 hbit
    simp only [Bool.not_true, Bool.and_false, Bool.false_or, if_true]
    rw [decide_eq_true (by lia : 64 * k + m ≥ 2 ^ b), show 64 * k + m - 2 ^ b = 64 * k + (m - 2 ^ b) by lia, M7_bit b hb k hk _ (by omega), h']
    simp
theorem resN_bit {low X k : Nat} (hk : k < 7) : ∀ (t m : Nat), t ≤ 6 → m < 64 → (resN low X t).testBit (64 * k + m) = X.testBit (64 * k + clI low m t) ∧ clI low m t < 64
  | 0, m, _, hm => ⟨rfl, hm⟩
  | t + 1, m, ht, hm => by
    have e : resN low X (t + 1) = cond (Nat.testBit low t) (resN low X t) (clr t (resN low X t)) := rfl
    rw [e, clI]
    cases hb : Nat.testBit low t with
    | true => simp only [cond_true, if_true]; exact resN_bit hk t m (by lia) hm
    | false =>
      simp only [cond_false, Bool.false_eq_true, if_false]
      have hp := Nat.two_pow_pos t
      rw [clr_bit (by lia) hk hm]
      exact resN_bit hk t _ (by lia) (by split <;> omega)
theorem clI_geF : ∀ t < 6, ∀ b < t, ∀ m < 64, 2 ^ t ≤ m → 2 ^ t ≤ m - 2 ^ b ∨ m.testBit b = false := by decide +kernel
theorem clI_ge {t low : Nat} (ht : t < 6) {m : Nat} (hm : m < 64) (h : 2 ^ t ≤ m) : 2 ^ t ≤ clI low m t := by
  have key : ∀ b, b ≤ t → ∀ m, m < 64 → 2 ^ t ≤ m → 2 ^ t ≤ clI low m b := by
    intro b
    induction b with
    | zero => intro _ m _ h; exact h
    | succ b ih =>
      intro hb m hm h
      have hp := Nat.two_pow_pos b
      rw [clI]
      refine ih (by lia) _ (by split <;> (try split) <;> omega) ?_
      split
      · exact h
      · split
        · rcases clI_geF t ht b (by lia) m hm h with h' | h'
          · exact h'
          · rename_i h1; rw [h'] at h1; cases h1
        · exact h
  exact key t (Nat.le_refl _) _ hm h
/-- a table of values by its bits -/
structure Rep (N t : Nat) (L : List Nat) : Prop where
  len : L.length = 2 ^ t
  le : ∀ x ∈ L, x ≤ t
  bit : ∀ k m, k < 7 → m < 64 → N.testBit (64 * k + m) = (decide (m < 2 ^ t) && decide (k < L.getD m 0))
/-- both tables' step -/
def hTo (idx : Nat → Nat) (st : List Nat) : Nat → List Nat
  | 0 => st
  | i + 1 => hTo idx st i ++ [max ((hTo idx st i).getD i 0) (1 + (hTo idx st i).getD (idx i) 0)]
theorem gTo_h (low : Nat) (st : List Nat) : ∀ i, gTo low st i = hTo (fun i => i &&& low) st i
  | 0 => rfl
  | i + 1 => by rw [gTo, hTo, gTo_h low st i]
theorem sTo_h (low : Nat) (st : List Nat) : ∀ i, sTo low st i = hTo (fun i => i - (i &&& low)) st i
  | 0 => rfl
  | i + 1 => by rw [sTo, hTo, sTo_h low st i]
theorem hTo_eq (idx : Nat → Nat) (L : List Nat) (hidx : ∀ i, i < L.length → idx i < L.length) : ∀ n, n ≤ L.length → hTo idx L n = L ++ (List.range n).map fun i => max (L.getD i 0) (1 + L.getD (idx i) 0)
  | 0, _ => by simp [hTo]
  | n + 1, hn => by
    have app : ∀ (R : List Nat) i, i < L.length → (L ++ R).getD i 0 = L.getD i 0 := fun R i hi => by
      rw [List.getD_eq_getElem?_getD, List.getD_eq_getElem?_getD, List.getElem?_append_left hi]
    rw [hTo, hTo_eq idx L hidx n (by lia), List.range_succ, List.map_append, app _ _ (by lia), app _ _ (hidx n (by lia)), List.append_assoc]; rfl
theorem rep_step {N t low : Nat} {L : List Nat} {idx : Nat → Nat} (ht : t < 6) (hl : low < 64) (R : Rep N t L) (hi : ∀ i, i < 2 ^ t → idx i = i &&& low) : Rep (updN low N t) (t + 1) (hTo idx L (2 ^ t)) := by
  have p2 : 2 ^ (t + 1) = 2 ^ t + 2 ^ t := by rw [Nat.pow_succ]; lia
  have hp := Nat.two_pow_pos t
  have p64 : 2 ^ t ≤ 32 := by
    have : t = 0 ∨ t = 1 ∨ t = 2 ∨ t = 3 ∨ t = 4 ∨ t = 5 := by lia
    rcases this with rfl | rfl | rfl | rfl | rfl | rfl <;> decide
  have hidx : ∀ i, i < L.length → idx i < L.length := fun i h => by
    rw [R.len] at h ⊢
    rw [hi i h]
    exact Nat.lt_of_le_of_lt Nat.and_le_left h
  have eq := hTo_eq idx L hidx (2 ^ t) (by rw [R.len]; exact Nat.le_refl _)
  have Lle : ∀ i, L.getD i 0 ≤ t := fun i => by
    rw [List.getD_eq_getElem?_getD]
    cases h : L[i]? with
    | none => exact Nat.zero_le _
    | some x => exact R.le x (List.mem_of_getElem? h)
  refine ⟨by rw [eq, List.length_append, R.len, List.length_map, List.length_range]; lia, fun x hx => ?_, fun k m hk hm => ?_⟩
  · rw [eq] at hx
    rcases List.mem_append.mp hx with h | h
    · exact Nat.le_succ_of_le (R.le x h)
    · obtain ⟨i, _, rfl⟩ := List.mem_map.mp h
      have h1 := Lle i
      have h2 := Lle (idx i)
      lia
  · show (N ||| ((N ||| ((resN low N t <<< 64) ||| (2 ^ (2 ^ t) - 1))) <<< (2 ^ t))).testBit _ = _
    rw [Nat.testBit_or, Nat.testBit_shiftLeft, Nat.testBit_or, Nat.testBit_or, Nat.testBit_shiftLeft, Nat.testBit_two_pow_sub_one, R.bit k m hk hm]
    by_cases h1 : m < 2 ^ t
    · have g : (hTo idx L (2 ^ t)).getD m 0 = L.getD m 0 := by
        rw [eq, List.getD_eq_getElem?_getD, List.getD_eq_getElem?_getD, List.getElem?_append_left (by rw [R.len]; exact h1)]
      rw [g, decide_eq_true h1, decide_eq_true (by lia : m < 2 ^ (t + 1))]
      simp only [Bool.true_and]
      have z : (decide (64 * k + m ≥ 2 ^ t) && (N.testBit (64 * k + m - 2 ^ t) || (decide (64 * k + m - 2 ^ t ≥ 64) && (resN low N t).testBit (64 * k + m - 2 ^ t - 64) || decide (64 * k + m - 2 ^ t < 2 ^ t)))) = false := by
        cases k with
        | zero => rw [decide_eq_false (by lia)]; rfl
        | succ k =>
          have e1 : 64 * (k + 1) + m - 2 ^ t = 64 * k + (64 + m - 2 ^ t) := by lia
          rw [e1, R.bit k _ (by lia) (by omega), decide_eq_false (by omega : ¬ 64 + m - 2 ^ t < 2 ^ t), decide_eq_false (by omega : ¬ 64 * k + (64 + m - 2 ^ t) < 2 ^ t)]
          simp only [Bool.false_and, Bool.false_or, Bool.or_false]
          cases k with
          | zero => rw [decide_eq_false (by omega : ¬ 64 * 0 + (64 + m - 2 ^ t) ≥ 64)]; simp
          | succ k =>
            rw [show 64 * (k + 1) + (64 + m - 2 ^ t) - 64 = 64 * k + (64 + m - 2 ^ t) by lia]
            have hr := resN_bit (low := low) (X := N) (k := k) (by lia) t (64 + m - 2 ^ t) (by lia) (by omega)
            have hge : 2 ^ t ≤ clI low (64 + m - 2 ^ t) t := clI_ge ht (by omega) (by omega)
            rw [hr.1, R.bit k _ (by lia) hr.2, decide_eq_false (by lia : ¬ clI low (64 + m - 2 ^ t) t < 2 ^ t)]; simp
      rw [z, Bool.or_false]
    · rw [decide_eq_false h1, Bool.false_and, Bool.false_or, decide_eq_true (by lia : 64 * k + m ≥ 2 ^ t), Bool.true_and]
      by_cases h2 : m < 2 ^ (t + 1)
      · obtain ⟨i, rfl⟩ : ∃ i, m = 2 ^ t + i := ⟨m - 2 ^ t, by omega⟩
        have hi' : i < 2 ^ t := by omega
        have g : (hTo idx L (2 ^ t)).getD (2 ^ t + i) 0 = max (L.getD i 0) (1 + L.getD (i &&& low) 0) := by
          rw [eq, List.getD_eq_getElem?_getD, List.getElem?_append_right (by rw [R.len]; lia), R.len, show 2 ^ t + i - 2 ^ t = i by omega, List.getElem?_map, List.getElem?_range hi', ← hi i hi']; rfl
        rw [g, decide_eq_true h2, Bool.true_and, show 64 * k + (2 ^ t + i) - 2 ^ t = 64 * k + i by omega, R.bit k i hk (by lia), decide_eq_true hi', Bool.true_and]
        cases k with
        | zero =>
          rw [decide_eq_false (by lia : ¬ 64 * 0 + i ≥ 64), decide_eq_true (by omega : 64 * 0 + i < 2 ^ t)]
          simp
          lia
        | succ k =>
          rw [decide_eq_true (by lia : 64 * (k + 1) + i ≥ 64), decide_eq_false (by lia : ¬ 64 * (k + 1) + i < 2 ^ t), Bool.true_and, Bool.or_false, show 64 * (k + 1) + i - 64 = 64 * k + i by lia]
          have hr := resN_bit (low := low) (X := N) (k := k) (by lia) t i (by lia) (by lia)
          rw [hr.1, clI_and t (by omega) low hl i hi', R.bit k _ (by lia) (by have := Nat.and_le_left (n := i) (m := low); lia), decide_eq_true (Nat.lt_of_le_of_lt Nat.and_le_left hi'), Bool.true_and]
          rw [Bool.eq_iff_iff]
          simp only [Bool.or_eq_true, decide_eq_true_eq]
          lia
      · rw [decide_eq_false h2, Bool.false_and]
        have e1 : 64 * k + m - 2 ^ t = 64 * k + (m - 2 ^ t) := by lia
        rw [e1, R.bit k _ hk (by omega), decide_eq_false (by omega : ¬ m - 2 ^ t < 2 ^ t), decide_eq_false (by omega : ¬ 64 * k + (m - 2 ^ t) < 2 ^ t)]
        simp only [Bool.false_and, Bool.false_or, Bool.or_false]
        cases k with
        | zero => rw [decide_eq_false (by omega)]; rfl
        | succ k =>
          rw [show 64 * (k + 1) + (m - 2 ^ t) - 64 = 64 * k + (m - 2 ^ t) by lia]
          have hr := resN_bit (low := low) (X := N) (k := k) (by lia) t (m - 2 ^ t) (by lia) (by omega)
          have hge : 2 ^ t ≤ clI low (m - 2 ^ t) t := clI_ge ht (by omega) (by omega)
          rw [hr.1, R.bit k _ (by lia) hr.2, decide_eq_false (by lia : ¬ clI low (m - 2 ^ t) t < 2 ^ t)]; simp
end Mine
end
section
open PySem
set_option maxRecDepth 100000
namespace Mine
/-- the greatest C among the first k with S = v -/
def mx (S C : List Nat) (v : Nat) : Nat → Nat
  | 0 => 0
  | k + 1 => if S.getD k 0 = v then max (mx S C v k) (C.getD k 0) else mx S C v k
theorem byTo_get (S C : List Nat) (n : Nat) : ∀ k, (∀ m, m < k → S.getD m 0 < n) → ∀ v, v < n → (byTo S C (List.replicate n 0) k).getD v 0 = mx S C v k
  | 0, _, v, hv => by
    show (List.replicate n 0).getD v 0 = 0
    rw [List.getD_eq_getElem?_getD, List.getElem?_replicate]
    split <;> rfl
  | k + 1, h, v, hv => by
    have ih := byTo_get S C n k (fun m hm => h m (by lia))
    have hk := h k (by lia)
    have hl : (byTo S C (List.replicate n 0) k).length = n := by rw [byTo_len, List.length_replicate]
    rw [byTo, mx, List.getD_eq_getElem?_getD, List.getElem?_set]
    split
    · rename_i e
      subst e
      rw [if_pos (by rw [hl]; exact hk), ← ih _ hv]; rfl
    · rename_i e
      rw [← ih v hv, List.getD_eq_getElem?_getD]
theorem mx_le {S C : List Nat} {v e : Nat} : ∀ {k}, (∀ m, m < k → S.getD m 0 = v → C.getD m 0 ≤ e) → mx S C v k ≤ e
  | 0, _ => Nat.zero_le _
  | k + 1, h => by
    have ih := mx_le (k := k) fun m hm => h m (by lia)
    rw [mx]
    split
    · rename_i q; have := h k (by lia) q; lia
    · exact ih
theorem le_mx {S C : List Nat} {v : Nat} : ∀ {k m}, m < k → S.getD m 0 = v → C.getD m 0 ≤ mx S C v k
  | k + 1, m, hm, h => by
    rw [mx]
    by_cases q : m = k
    · subst q; rw [if_pos h]; lia
    · have := le_mx (C := C) (k := k) (m := m) (by lia) h
      split <;> (first | lia | omega)
/-- the masks of e figures, and of more -/
def Pe : Nat → Nat
  | 0 => 1
  | 1 => 4295033110
  | 2 => 282668995843688
  | 3 => 78274679833913472
  | 4 => 1614655367130677248
  | 5 => 7530159316599308288
  | _ => 9223372036854775808
def Ge : Nat → Nat
  | 0 => 18446744073709551614
  | 1 => 18446744069414518504
  | 2 => 18446461400418674816
  | 3 => 18368186720584761344
  | 4 => 16753531353454084096
  | 5 => 9223372036854775808
  | _ => 0
def ePart (N v : Nat) : Nat := Nat.mod (Nat.xor (Nat.shiftRight N (Nat.mul 64 v)) (Nat.shiftRight N (Nat.mul 64 (Nat.succ v)))) 18446744073709551616
/-- the greatest sizes are as told, from bucket v on -/
noncomputable def chkB (N : Nat) (cs : List Nat) : Nat → Bool := cs.rec (fun v => Nat.beq (Nat.shiftRight N (Nat.mul 64 v)) 0 && Nat.testBit N (Nat.sub (Nat.mul 64 v) 1)) fun e _ ih v =>
  Nat.ble e 6 && (!(Nat.beq (Nat.land (ePart N v) (Pe e)) 0)) && Nat.beq (Nat.land (ePart N v) (Ge e)) 0 && ih (Nat.succ v)
theorem pg_bit : ∀ e < 7, ∀ m < 64, (Pe e).testBit m = decide ((choTo 6).getD m 0 = e) ∧ (Ge e).testBit m = decide (e < (choTo 6).getD m 0) := by decide +kernel
theorem pg_lt : ∀ e < 7, Pe e < 2 ^ 64 := by decide +kernel
theorem eBit {N : Nat} {S : List Nat} (R : Rep N 6 S) {v m : Nat} (hv : v < 6) (hm : m < 64) : (ePart N v).testBit m = decide (S.getD m 0 = v + 1) := by
  show (((N >>> (64 * v)) ^^^ (N >>> (64 * (v + 1)))) % 2 ^ 64).testBit m = _
  rw [Nat.testBit_mod_two_pow, Nat.testBit_xor, Nat.testBit_shiftRight, Nat.testBit_shiftRight, R.bit v m (by lia) hm, R.bit (v + 1) m (by lia) hm, decide_eq_true hm]
  simp only [Bool.true_and]
  rcases Nat.lt_trichotomy (S.getD m 0) (v + 1) with h | h | h
  · rw [decide_eq_false (by lia : ¬ v < S.getD m 0), decide_eq_false (by lia : ¬ v + 1 < S.getD m 0), decide_eq_false (by lia : ¬ S.getD m 0 = v + 1)]; rfl
  · rw [decide_eq_true (by lia : v < S.getD m 0), decide_eq_false (by lia : ¬ v + 1 < S.getD m 0), decide_eq_true h]; rfl
  · rw [decide_eq_true (by lia : v < S.getD m 0), decide_eq_true (by omega : v + 1 < S.getD m 0), decide_eq_false (by lia : ¬ S.getD m 0 = v + 1)]; rfl
theorem chkB_spec {N : Nat} {S : List Nat} (R : Rep N 6 S) : ∀ (cs : List Nat) (v : Nat), v + cs.length ≤ 6 → 0 < v + cs.length → chkB N cs v = true →
    (∀ m, m < 64 → S.getD m 0 ≤ v + cs.length) ∧ S.getD 63 0 = v + cs.length ∧ ∀ i, i < cs.length → mx S (choTo 6) (v + i + 1) 64 = cs.getD i 0
  | [], v, h6, h0, h => by
    have h : (Nat.beq (N >>> (64 * v)) 0 && Nat.testBit N (64 * v - 1)) = true := h
    rw [Bool.and_eq_true] at h
    have h1 : N >>> (64 * v) = 0 := Nat.eq_of_beq_eq_true h.1
    simp only [List.length_nil, Nat.add_zero] at h6 h0 ⊢
    have hle : ∀ m, m < 64 → S.getD m 0 ≤ v := fun m hm => by
      by_cases q : v < S.getD m 0
      · exfalso
        have hv6 : S.getD m 0 ≤ 6 := by
          rw [List.getD_eq_getElem?_getD]
          cases e : S[m]? with
          | none => exact Nat.zero_le _
          | some x => exact R.le x (List.mem_of_getElem? e)
        have b := R.bit v m (by lia) hm
        rw [decide_eq_true (by omega : m < 2 ^ 6), decide_eq_true q] at b
        have z : (N >>> (64 * v)).testBit m = false := by rw [h1]; exact Nat.zero_testBit _
        rw [Nat.testBit_shiftRight, b] at z; cases z
      · lia
    refine ⟨hle, ?_, fun i hi => by lia⟩
    have b := R.bit (v - 1) 63 (by lia) (by lia)
    rw [show 64 * (v - 1) + 63 = 64 * v - 1 by lia, h.2] at b
    have : v - 1 < S.getD 63 0 := by
      by_cases q : v - 1 < S.getD 63 0
      · exact q
      · rw [decide_eq_false q, Bool.and_false] at b; cases b
    have := hle 63 (by lia)
    lia
  | e :: r, v, h6, h0, h => by
    have h : (Nat.ble e 6 && (!(Nat.beq (ePart N v &&& Pe e) 0)) && Nat.beq (ePart N v &&& Ge e) 0 && chkB N r (v + 1)) = true := h
    simp only [Bool.and_eq_true] at h
    obtain ⟨⟨⟨h1, h2⟩, h3⟩, h4⟩ := h
    rw [List.length_cons] at h6
    obtain ⟨i1, i2, i3⟩ := chkB_spec R r (v + 1) (by lia) (by lia) h4
    have he : e ≤ 6 := Nat.le_of_ble_eq_true h1
    have hz : ePart N v &&& Ge e = 0 := Nat.eq_of_beq_eq_true h3
    have hnz : ePart N v &&& Pe e ≠ 0 := fun q => by rw [q] at h2; cases h2
    obtain ⟨m, hm⟩ := Nat.exists_testBit_of_ne_zero hnz
    rw [Nat.testBit_and, Bool.and_eq_true] at hm
    have hm64 : m < 64 := by
      by_cases q : m < 64
      · exact q
      · have := Nat.testBit_lt_two_pow (Nat.lt_of_lt_of_le (pg_lt e (by lia)) (Nat.pow_le_pow_right (by lia) (by lia : 64 ≤ m)))
        rw [this] at hm; cases hm.2
    have e1 := hm.1
    have e2 := hm.2
    rw [eBit R (by lia) hm64, decide_eq_true_eq] at e1
    rw [(pg_bit e (by lia) m hm64).1, decide_eq_true_eq] at e2
    refine ⟨fun m hm => by have := i1 m hm; rw [List.length_cons]; lia, by rw [i2, List.length_cons]; lia, fun i hi => ?_⟩
    cases i with
    | zero =>
      show mx S (choTo 6) (v + 1) 64 = e
      refine Nat.le_antisymm (mx_le fun k hk hs => ?_) (e2 ▸ le_mx hm64 e1)
      by_cases q : (choTo 6).getD k 0 ≤ e
      · exact q
      · exfalso
        have z : (ePart N v &&& Ge e).testBit k = false := by rw [hz]; exact Nat.zero_testBit _
        rw [Nat.testBit_and, eBit R (by lia) hk, (pg_bit e (by lia) k hk).2, decide_eq_true hs, decide_eq_true (by lia)] at z
        cases z
    | succ i =>
      rw [List.getD_cons_succ, ← i3 i (by simpa using hi), show v + (i + 1) + 1 = v + 1 + i + 1 by lia]
end Mine
end
section
open PySem
set_option maxRecDepth 100000
namespace Mine
section
variable {α β : Type}
/-- insertion from the left -/
def insRow (sk : α → α → Bool) (x : α) : List α → List α × Option α
  | [] => ([x], none)
  | y :: r => if sk y x = true then (y :: (insRow sk x r).1, (insRow sk x r).2) else (x :: r, some y)
def insA (sk : α → α → Bool) : List (List α) → α → List (List α)
  | [], x => [[x]]
  | r :: rs, x => (insRow sk x r).1 :: (match (insRow sk x r).2 with | none => rs | some y => insA sk rs y)
def rowsA (sk : α → α → Bool) (xs : List α) : List (List α) := xs.foldl (insA sk) []
theorem insRow_map {sk : α → α → Bool} {sk' : β → β → Bool} {f : α → β} {x : α} : ∀ {r : List α}, (∀ y ∈ r, sk y x = sk' (f y) (f x)) → insRow sk' (f x) (r.map f) = ((insRow sk x r).1.map f, (insRow sk x r).2.map f)
  | [], _ => rfl
  | y :: r, h => by
    have ih := insRow_map (r := r) fun z hz => h z (.tail _ hz)
    rw [List.map_cons, insRow, insRow, ← h y (.head _), ih]
    split <;> rfl
theorem insRow_mem {sk : α → α → Bool} {x : α} : ∀ {r : List α}, (∀ u ∈ (insRow sk x r).1, u = x ∨ u ∈ r) ∧ (∀ y, (insRow sk x r).2 = some y → y ∈ r)
  | [] => ⟨fun u hu => .inl (List.mem_singleton.mp hu), fun y hy => by cases hy⟩
  | z :: r => by
    have ih := insRow_mem (sk := sk) (x := x) (r := r)
    rw [insRow]
    split
    · refine ⟨fun u hu => ?_, fun y hy => .tail _ (ih.2 y hy)⟩
      rcases List.mem_cons.mp hu with rfl | hu
      · exact .inr (.head _)
      · exact (ih.1 u hu).imp id fun h => .tail _ h
    · refine ⟨fun u hu => ?_, fun y hy => by cases hy; exact .head _⟩
      rcases List.mem_cons.mp hu with rfl | hu
      · exact .inl rfl
      · exact .inr (.tail _ hu)
theorem insA_mem {sk : α → α → Bool} : ∀ {rows : List (List α)} {x : α}, ∀ s ∈ insA sk rows x, ∀ z ∈ s, z = x ∨ ∃ r ∈ rows, z ∈ r
  | [], x, s, hs, z, hz => by
    rw [insA, List.mem_singleton] at hs; subst hs
    exact .inl (List.mem_singleton.mp hz)
  | r :: rs, x, s, hs, z, hz => by
    have hm := insRow_mem (sk := sk) (x := x) (r := r)
    rw [insA] at hs
    rcases List.mem_cons.mp hs with rfl | hs
    · exact (hm.1 z hz).imp id fun h => ⟨r, .head _, h⟩
    · cases e : (insRow sk x r).2 with
      | none => rw [e] at hs; exact .inr ⟨s, .tail _ hs, hz⟩
      | some y =>
        rw [e] at hs
        rcases insA_mem (rows := rs) s hs z hz with rfl | ⟨q, hq, hz⟩
        · exact .inr ⟨r, .head _, hm.2 _ e⟩
        · exact .inr ⟨q, .tail _ hq, hz⟩
theorem insA_map {sk : α → α → Bool} {sk' : β → β → Bool} {f : α → β} {p : α → Prop} (h : ∀ y x, p y → p x → sk y x = sk' (f y) (f x)) : ∀ {rows : List (List α)} {x : α}, (∀ r ∈ rows, ∀ y ∈ r, p y) → p x → insA sk' (rows.map (List.map f)) (f x) = (insA sk rows x).map (List.map f)
  | [], x, _, _ => rfl
  | r :: rs, x, hr, hx => by
    have e := insRow_map (sk := sk) (sk' := sk') (f := f) (x := x) (r := r) fun y hy => h y x (hr r (.head _) y hy) hx
    rw [List.map_cons, insA, insA, e, List.map_cons]
    cases e2 : (insRow sk x r).2 with
    | none => rfl
    | some y =>
      have := insA_map h (rows := rs) (x := y) (fun q hq => hr q (.tail _ hq)) (hr r (.head _) y (insRow_mem.2 y e2))
      simp only [Option.map_some]
      rw [this]
theorem rowsA_mem {sk : α → α → Bool} : ∀ {xs : List α} {rows : List (List α)}, ∀ s ∈ xs.foldl (insA sk) rows, ∀ z ∈ s, z ∈ xs ∨ ∃ r ∈ rows, z ∈ r
  | [], rows, s, hs, z, hz => .inr ⟨s, hs, hz⟩
  | x :: xs, rows, s, hs, z, hz => by
    rw [List.foldl_cons] at hs
    rcases rowsA_mem s hs z hz with h | ⟨r, hr, hz⟩
    · exact .inl (.tail _ h)
    · rcases insA_mem r hr z hz with rfl | h
      · exact .inl (.head _)
      · exact .inr h
theorem rowsA_map {sk : α → α → Bool} {sk' : β → β → Bool} {f : α → β} {p : α → Prop} (h : ∀ y x, p y → p x → sk y x = sk' (f y) (f x)) : ∀ {xs : List α} {rows : List (List α)}, (∀ r ∈ rows, ∀ y ∈ r, p y) → (∀ x ∈ xs, p x) → (xs.map f).foldl (insA sk') (rows.map (List.map f)) = (xs.foldl (insA sk) rows).map (List.map f)
  | [], rows, _, _ => rfl
  | x :: xs, rows, hr, hx => by
    rw [List.map_cons, List.foldl_cons, List.foldl_cons, insA_map h hr (hx x (.head _))]
    refine rowsA_map h (fun r hr' y hy => ?_) fun z hz => hx z (.tail _ hz)
    rcases insA_mem r hr' y hy with rfl | ⟨q, hq, hy⟩
    · exact hx _ (.head _)
    · exact hr q hq y hy
end
/-! first in, first out: equal values keep their order -/
section
variable (v : Nat → Int) (b : Bool)
def skW (y x : Nat) : Bool := decide (v y < v x) || (decide (v y = v x) && !b)
def skP (y x : Nat) : Bool := decide (v y < v x) || (decide (v y = v x) && (if b = true then decide (x < y) else decide (y < x)))
def Rb (u w : Nat) : Prop := v u < v w ∨ (v u = v w ∧ b = false ∧ u < w)
variable {v b}
theorem skW_iff {y x : Nat} : skW v b y x = true ↔ v y < v x ∨ (v y = v x ∧ b = false) := by
  unfold skW; cases b <;> simp
theorem sk_same {y x : Nat} (h : v y = v x → y < x) : skW v b y x = skP v b y x := by
  unfold skW skP
  by_cases e : v y = v x
  · have := h e
    cases b <;> simp [e, this, Nat.not_lt.mpr (Nat.le_of_lt this)]
  · simp [e]
theorem row_fifo {x : Nat} : ∀ {r : List Nat}, r.Pairwise (Rb v b) → (∀ z ∈ r, v z = v x → z < x) →
    insRow (skW v b) x r = insRow (skP v b) x r ∧ (insRow (skW v b) x r).1.Pairwise (Rb v b) ∧ ∀ y, (insRow (skW v b) x r).2 = some y → skW v b y x = false ∧ ∀ u ∈ (insRow (skW v b) x r).1, u = x ∨ (u ∈ r ∧ (v u = v y → y < u))
  | [], _, _ => ⟨rfl, List.pairwise_singleton _ _, fun y hy => by cases hy⟩
  | y :: r, hp, ht => by
    rw [List.pairwise_cons] at hp
    obtain ⟨i1, i2, i3⟩ := row_fifo (r := r) hp.2 fun z hz => ht z (.tail _ hz)
    have e := sk_same (b := b) (ht y (.head _))
    have hm := insRow_mem (sk := skW v b) (x := x) (r := r)
    rw [insRow, insRow, ← e, ← i1]
    cases hs : skW v b y x with
    | true =>
      simp only [if_true]
      have hs' := skW_iff.mp hs
      refine ⟨trivial, List.pairwise_cons.mpr ⟨fun w hw => ?_, i2⟩, fun z hz => ?_⟩
      · rcases hm.1 w hw with rfl | hw
        · rcases hs' with h | ⟨h1, h2⟩
          · exact .inl h
          · exact .inr ⟨h1, h2, ht y (.head _) h1⟩
        · exact hp.1 w hw
      · obtain ⟨j1, j2⟩ := i3 z hz
        refine ⟨j1, fun u hu => ?_⟩
        rcases List.mem_cons.mp hu with rfl | hu
        · refine .inr ⟨.head _, fun q => ?_⟩
          exfalso
          have : ¬ (v z < v x ∨ (v z = v x ∧ b = false)) := fun h => by rw [skW_iff.mpr h] at j1; cases j1
          cases b <;> simp_all <;> omega
        · exact (j2 u hu).imp id fun ⟨h1, h2⟩ => ⟨.tail _ h1, h2⟩
    | false =>
      simp only [Bool.false_eq_true, if_false]
      have hs' : ¬ (v y < v x ∨ (v y = v x ∧ b = false)) := fun h => by rw [skW_iff.mpr h] at hs; cases hs
      refine ⟨trivial, List.pairwise_cons.mpr ⟨fun w hw => ?_, hp.2⟩, fun z hz => ?_⟩
      · have := hp.1 w hw
        unfold Rb at this ⊢
        left
        cases b <;> simp_all <;> lia
      · cases hz
        refine ⟨hs, fun u hu => ?_⟩
        rcases List.mem_cons.mp hu with rfl | hu
        · exact .inl rfl
        · refine .inr ⟨.tail _ hu, fun q => ?_⟩
          rcases hp.1 u hu with h | ⟨h1, h2, h3⟩
          · lia
          · exact h3
/-- the rows' word -/
structure Fifo (rows : List (List Nat)) : Prop where
  row : ∀ r ∈ rows, r.Pairwise (Rb v b)
  up : rows.Pairwise fun r s => ∀ u ∈ r, ∀ z ∈ s, v u = v z → z < u
theorem ins_fifo : ∀ {rows : List (List Nat)} {x : Nat}, Fifo (v := v) (b := b) rows → (∀ r ∈ rows, ∀ z ∈ r, v z = v x → z < x) → insA (skW v b) rows x = insA (skP v b) rows x ∧ Fifo (v := v) (b := b) (insA (skW v b) rows x)
  | [], x, _, _ => ⟨rfl, ⟨fun r hr => by rw [insA, List.mem_singleton] at hr; subst hr; exact List.pairwise_singleton _ _, List.pairwise_singleton _ _⟩⟩
  | r :: rs, x, F, ht => by
    have hup := List.pairwise_cons.mp F.up
    obtain ⟨i1, i2, i3⟩ := row_fifo (b := b) (x := x) (F.row r (.head _)) (ht r (.head _))
    have hm := insRow_mem (sk := skW v b) (x := x) (r := r)
    rw [insA, insA, ← i1]
    cases e : (insRow (skW v b) x r).2 with
    | none =>
      refine ⟨rfl, ⟨fun s hs => ?_, List.pairwise_cons.mpr ⟨fun s hs u hu z hz q => ?_, hup.2⟩⟩⟩
      · rcases List.mem_cons.mp hs with rfl | hs
        · exact i2
        · exact F.row s (.tail _ hs)
      · rcases hm.1 u hu with rfl | hu
        · exact ht s (.tail _ hs) z hz q.symm
        · exact hup.1 s hs u hu z hz q
    | some y =>
      obtain ⟨j1, j2⟩ := i3 y e
      have hy := hm.2 y e
      obtain ⟨k1, k2⟩ := ins_fifo (rows := rs) (x := y) ⟨fun s hs => F.row s (.tail _ hs), hup.2⟩ fun s hs z hz q => hup.1 s hs y hy z hz q.symm
      refine ⟨by simp only; rw [k1], ⟨fun s hs => ?_, List.pairwise_cons.mpr ⟨fun s hs u hu z hz q => ?_, k2.up⟩⟩⟩
      · rcases List.mem_cons.mp hs with rfl | hs
        · exact i2
        · exact k2.row s hs
      · rcases insA_mem s hs z hz with rfl | ⟨t, ht', hz⟩
        · rcases j2 u hu with rfl | ⟨_, h⟩
          · exact ht r (.head _) _ hy q.symm
          · exact h q
        · rcases hm.1 u hu with rfl | hu
          · exact ht t (.tail _ ht') z hz q.symm
          · exact hup.1 t ht' u hu z hz q
theorem rows_fifo : ∀ n, rowsA (skW v b) (List.range n) = rowsA (skP v b) (List.range n) ∧ Fifo (v := v) (b := b) (rowsA (skW v b) (List.range n))
  | 0 => ⟨rfl, ⟨(fun r hr => by cases hr), List.Pairwise.nil⟩⟩
  | n + 1 => by
    obtain ⟨i1, i2⟩ := rows_fifo n
    have e : ∀ sk, rowsA sk (List.range (n + 1)) = insA sk (rowsA sk (List.range n)) n := fun sk => by
      unfold rowsA; rw [List.range_succ, List.foldl_append]; rfl
    have hlt : ∀ r ∈ rowsA (skW v b) (List.range n), ∀ z ∈ r, v z = v n → z < n := fun r hr z hz _ => by
      rcases rowsA_mem r hr z hz with h | ⟨_, h, _⟩
      · exact List.mem_range.mp h
      · cases h
    obtain ⟨k1, k2⟩ := ins_fifo i2 hlt
    rw [e, e]
    exact ⟨by rw [k1, i1], k2⟩
end
end Mine
end
section
open PySem
set_option maxRecDepth 100000
namespace Mine
theorem insRow_at {α : Type} {sk : α → α → Bool} {x d : α} : ∀ {r : List α} {p : Nat}, p ≤ r.length → (∀ i, i < p → sk (r.getD i d) x = true) → (p < r.length → sk (r.getD p d) x = false) →
    insRow sk x r = if p = r.length then (r ++ [x], none) else (r.set p x, some (r.getD p d))
  | [], p, hp, _, _ => by
    have : p = 0 := by simpa using hp
    subst this; rfl
  | y :: r, 0, _, _, h2 => by
    have := h2 (by simp)
    rw [List.getD_cons_zero] at this
    rw [insRow, this]; simp
  | y :: r, p + 1, hp, h1, h2 => by
    have h0 := h1 0 (by lia)
    rw [List.getD_cons_zero] at h0
    rw [insRow, if_pos h0, insRow_at (d := d) (r := r) (p := p) (by simpa using hp) (fun i hi => by have := h1 (i + 1) (by lia); rwa [List.getD_cons_succ] at this) (fun h => by have := h2 (by simpa using h); rwa [List.getD_cons_succ] at this)]
    simp only [List.length_cons, Nat.add_right_cancel_iff, List.getD_cons_succ]
    split <;> rfl
def skI (b : Bool) (y x : Int) : Bool := decide (y < x) || (decide (y = x) && !b)
theorem insI_A (b : Bool) : ∀ {R : List (List Int)} {x : Int}, (∀ r ∈ R, r.Pairwise (· ≤ ·)) → insI b R x = insA (skI b) R x
  | [], x, _ => rfl
  | r :: rs, x, h => by
    have hs := h r (.head _)
    have mono := mono_of (f := id) (ns := r) hs
    have hp : place b r x ≤ r.length ∧ (∀ i, i < place b r x → skI b (r.getD i 0) x = true) ∧ (place b r x < r.length → skI b (r.getD (place b r x) 0) x = false) := by
      refine ⟨place_le b r x, ?_, ?_⟩ <;> cases b
      · have sp := bisR_spec (fun i => r.getD i 0) x 0 r.length mono (Nat.zero_le _)
        intro i hi
        have := sp.2.2.1 i (Nat.zero_le _) hi
        show (decide (r.getD i 0 < x) || (decide (r.getD i 0 = x) && true)) = true
        rw [Bool.or_eq_true, Bool.and_true, decide_eq_true_eq, decide_eq_true_eq]; lia
      · have sp := bisL_spec (fun i => r.getD i 0) x 0 r.length mono (Nat.zero_le _)
        intro i hi
        have := sp.2.2.1 i (Nat.zero_le _) hi
        show (decide (r.getD i 0 < x) || (decide (r.getD i 0 = x) && false)) = true
        rw [Bool.and_false, Bool.or_false, decide_eq_true_eq]; omega
      · have sp := bisR_spec (fun i => r.getD i 0) x 0 r.length mono (Nat.zero_le _)
        intro hi
        have := sp.2.2.2 _ (Nat.le_refl _) hi
        simp only [place, Bool.false_eq_true, if_false] at *
        simp [skI]; simp at this; lia
      · have sp := bisL_spec (fun i => r.getD i 0) x 0 r.length mono (Nat.zero_le _)
        intro hi
        have := sp.2.2.2 _ (Nat.le_refl _) hi
        simp only [place, if_true] at *
        simp [skI]; simp at this; omega
    rw [insI, insA, insRow_at (d := 0) hp.1 hp.2.1 hp.2.2]
    split
    · rfl
    · rw [insI_A b fun q hq => h q (.tail _ hq)]
theorem rowsI_A (b : Bool) (v : Nat → Int) : ∀ n, rowsI b ((List.range n).map v) = (rowsA (skW v b) (List.range n)).map (List.map v)
  | 0 => rfl
  | n + 1 => by
    have ih := rowsI_A b v n
    have F := (rows_fifo (v := v) (b := b) n).2
    unfold rowsI at ih ⊢
    unfold rowsA at ih F ⊢
    rw [List.range_succ, List.map_append, List.foldl_append, List.foldl_append, ih]
    show insI b _ (v n) = List.map (List.map v) (insA (skW v b) _ n)
    rw [insI_A b, insA_map (sk := skW v b) (sk' := skI b) (f := v) (p := fun _ => True) (fun _ _ _ _ => rfl) (fun _ _ _ _ => trivial) trivial]
    intro r hr
    obtain ⟨r', hr', rfl⟩ := List.mem_map.mp hr
    rw [List.pairwise_map]
    exact (F.row r' hr').imp fun h => by rcases h with h | h <;> lia
/-! ranks -/
def rk (N : Nat → Int) (i : Nat) : Nat := ((List.range 6).filter fun j => decide (N j < N i)).length
theorem filt_le {p q : Nat → Bool} : ∀ {l : List Nat}, (∀ a ∈ l, p a = true → q a = true) → (l.filter p).length ≤ (l.filter q).length
  | [], _ => Nat.le_refl _
  | a :: l, h => by
    have ih := filt_le (l := l) fun b hb => h b (.tail _ hb)
    rw [List.filter_cons, List.filter_cons]
    have := h a (.head _)
    split <;> split <;> simp_all <;> lia
theorem filt_lt {p q : Nat → Bool} : ∀ {l : List Nat}, (∀ a ∈ l, p a = true → q a = true) → (∃ a ∈ l, q a = true ∧ p a = false) → (l.filter p).length < (l.filter q).length
  | [], _, h => by obtain ⟨a, h, _⟩ := h; cases h
  | a :: l, h, ⟨c, hc, h1, h2⟩ => by
    have hl : ∀ b ∈ l, p b = true → q b = true := fun b hb => h b (.tail _ hb)
    rw [List.filter_cons, List.filter_cons]
    rcases List.mem_cons.mp hc with rfl | hc
    · rw [if_neg (by simp [h2]), if_pos h1, List.length_cons]
      exact Nat.lt_succ_of_le (filt_le hl)
    · have ih := filt_lt hl ⟨c, hc, h1, h2⟩
      have := h a (.head _)
      split <;> split <;> simp_all <;> lia
theorem rk_lt {N : Nat → Int} {i j : Nat} (hi : i < 6) : N i < N j → rk N i < rk N j := fun h => by
  refine filt_lt (fun a _ ha => ?_) ⟨i, List.mem_range.mpr hi, by simpa using h, by simp⟩
  rw [decide_eq_true_eq] at ha ⊢; lia
theorem rk_iff {N : Nat → Int} {i j : Nat} (hi : i < 6) (hj : j < 6) : rk N i < rk N j ↔ N i < N j := by
  refine ⟨fun h => ?_, rk_lt hi⟩
  rcases Int.lt_trichotomy (N i) (N j) with q | q | q
  · exact q
  · unfold rk at h; rw [q] at h; lia
  · have := rk_lt (N := N) hj q; lia
theorem rk_6 {N : Nat → Int} {i : Nat} (hi : i < 6) : rk N i < 6 := by
  have : rk N i < ((List.range 6).filter fun _ => true).length := filt_lt (fun _ _ _ => rfl) ⟨i, List.mem_range.mpr hi, rfl, by simp⟩
  rw [List.filter_eq_self.mpr (fun _ _ => rfl)] at this
  simpa using this
end Mine
end
section
open PySem
set_option maxRecDepth 100000
namespace Mine
noncomputable section
/-! the same by recursors, for the kernel -/
def insR {R : Type} (p : Nat → Nat → Bool) (x : Nat) (row : List Nat) : (List Nat → R) → (List Nat → Nat → R) → R :=
  row.rec (fun k _ => k [x]) (fun y r ih k b => cond (p y x) (ih (fun r' => k (y :: r')) (fun r' z => b (y :: r') z)) (b (x :: r) y))
def insN (p : Nat → Nat → Bool) (rows : List (List Nat)) : Nat → List (List Nat) := rows.rec (fun x => [[x]]) (fun r rs ih x => insR p x r (fun r' => r' :: rs) (fun r' z => r' :: ih z))
def rowsN (p : Nat → Nat → Bool) (ns : List Nat) : List (List Nat) → List (List Nat) := ns.rec (fun acc => acc) (fun x _ ih acc => ih (insN p acc x))
def colK (rows : List (List Nat)) : List Nat → (List (List Nat) → Bool) → Bool :=
  rows.rec (fun c k => c.rec (k []) fun _ _ _ => false) (fun r _ ih c k => r.rec (ih c k) (fun x r' _ => c.rec false fun y c' _ => cond (Nat.beq x y) (ih c' fun ts => k (r' :: ts)) false))
def isTr (cols : List (List Nat)) : List (List Nat) → Bool :=
  cols.rec (fun _ => true) (fun c _ ih rows => colK rows c fun ts => ih ts)
def lenN {α : Type} (l : List α) : Nat := l.rec 0 fun _ _ n => Nat.succ n
def cntN (rows : List (List Nat)) : Nat → List Nat := rows.rec (fun _ => []) fun r _ ih acc => (Nat.add acc (lenN r)) :: ih (Nat.add acc (lenN r))
def hdN (rows : List (List Nat)) : List Nat := rows.rec [] fun r _ _ => r
def tab6 (a b c d e f : Nat) : Nat := updN f (updN e (updN d (updN c (updN b (updN a 0 0) 1) 2) 3) 4) 5
def bt (x : Bool) (n : Nat) : Nat := cond x n 0
def chkT (R T : List (List Nat)) (l0 l1 l2 l3 l4 l5 : Nat) : Bool :=
  isTr T R && Nat.beq (lenN T) (lenN (hdN R)) && Nat.ble (lenN R) 6 && Nat.ble 1 (lenN R) && Nat.ble (lenN T) 6 && Nat.ble 1 (lenN T) &&
  chkB (tab6 (Nat.sub 63 l0) (Nat.sub 63 l1) (Nat.sub 63 l2) (Nat.sub 63 l3) (Nat.sub 63 l4) (Nat.sub 63 l5)) (cntN R 0) 0 && chkB (tab6 l0 l1 l2 l3 l4 l5) (cntN T 0) 0
def chkP (a b c d e f : Nat) : Bool := chkT (rowsN Nat.blt [a, b, c, d, e, f] []) (rowsN Nat.blt [f, e, d, c, b, a] [])
  0 (bt (Nat.blt a b) 1) (Nat.add (bt (Nat.blt a c) 1) (bt (Nat.blt b c) 2)) (Nat.add (Nat.add (bt (Nat.blt a d) 1) (bt (Nat.blt b d) 2)) (bt (Nat.blt c d) 4))
  (Nat.add (Nat.add (Nat.add (bt (Nat.blt a e) 1) (bt (Nat.blt b e) 2)) (bt (Nat.blt c e) 4)) (bt (Nat.blt d e) 8))
  (Nat.add (Nat.add (Nat.add (Nat.add (bt (Nat.blt a f) 1) (bt (Nat.blt b f) 2)) (bt (Nat.blt c f) 4)) (bt (Nat.blt d f) 8)) (bt (Nat.blt e f) 16))
def all6 (p : Nat → Bool) : Bool := p 0 && p 1 && p 2 && p 3 && p 4 && p 5
def ne (x y : Nat) (r : Bool) : Bool := cond (Nat.beq x y) true r
def allP (p : Nat → Nat → Nat → Nat → Nat → Nat → Bool) (a : Nat) : Bool := all6 fun b => ne b a (all6 fun c => ne c a (ne c b (all6 fun d => ne d a (ne d b (ne d c (all6 fun e => ne e a (ne e b (ne e c (ne e d (all6 fun f => ne f a (ne f b (ne f c (ne f d (ne f e (p a b c d e f)))))))))))))))
end
theorem chk0 : allP chkP 0 = true := by decide +kernel
theorem chk1 : allP chkP 1 = true := by decide +kernel
theorem chk2 : allP chkP 2 = true := by decide +kernel
theorem chk3 : allP chkP 3 = true := by decide +kernel
theorem chk4 : allP chkP 4 = true := by decide +kernel
theorem chk5 : allP chkP 5 = true := by decide +kernel
end Mine
end
section
open PySem
set_option maxRecDepth 100000
namespace Mine
theorem insR_eq {R : Type} (p : Nat → Nat → Bool) (x : Nat) : ∀ (row : List Nat) (k : List Nat → R) (kb : List Nat → Nat → R), insR p x row k kb = match (insRow p x row).2 with | none => k (insRow p x row).1 | some z => kb (insRow p x row).1 z
  | [], k, kb => rfl
  | y :: r, k, kb => by
    have ih := insR_eq p x r (fun r' => k (y :: r')) (fun r' z => kb (y :: r') z)
    show cond (p y x) (insR p x r (fun r' => k (y :: r')) fun r' z => kb (y :: r') z) (kb (x :: r) y) = _
    rw [insRow, ih]
    cases p y x with
    | true => rfl
    | false => rfl
theorem insN_eq (p : Nat → Nat → Bool) : ∀ (rows : List (List Nat)) (x : Nat), insN p rows x = insA p rows x
  | [], x => rfl
  | r :: rs, x => by
    show insR p x r (fun r' => r' :: rs) (fun r' z => r' :: insN p rs z) = _
    rw [insR_eq, insA]
    cases (insRow p x r).2 with
    | none => rfl
    | some z => simp only; rw [insN_eq p rs z]
theorem rowsN_eq (p : Nat → Nat → Bool) : ∀ (ns : List Nat) (acc : List (List Nat)), rowsN p ns acc = ns.foldl (insA p) acc
  | [], acc => rfl
  | x :: r, acc => by
    show rowsN p r (insN p acc x) = _
    rw [rowsN_eq p r, insN_eq]; rfl
def colI {α : Type} (d : α) (i : Nat) (rows : List (List α)) : List α := (rows.filter fun r => decide (i < r.length)).map fun r => r.getD i d
def tlsL : List (List Nat) → List (List Nat)
  | [] => []
  | [] :: rs => tlsL rs
  | (_ :: t) :: rs => t :: tlsL rs
theorem colI_tls (i : Nat) : ∀ rows : List (List Nat), colI 0 (i + 1) rows = colI 0 i (tlsL rows)
  | [] => rfl
  | [] :: rs => by
    have := colI_tls i rs
    unfold colI at this ⊢
    rw [List.filter_cons, if_neg (by simp), this]; rfl
  | (x :: t) :: rs => by
    have := colI_tls i rs
    unfold colI at this ⊢
    rw [tlsL, List.filter_cons, List.filter_cons]
    by_cases h : i < t.length
    · rw [if_pos (by simpa using h), if_pos (by simpa using h), List.map_cons, List.map_cons, this, List.getD_cons_succ]
    · rw [if_neg (by simpa using h), if_neg (by simpa using h), this]
theorem colK_spec : ∀ (rows : List (List Nat)) (c : List Nat) (k : List (List Nat) → Bool), colK rows c k = true → c = colI 0 0 rows ∧ k (tlsL rows) = true
  | [], [], k, h => ⟨rfl, h⟩
  | [], _ :: _, k, h => by cases h
  | [] :: rs, c, k, h => by
    obtain ⟨h1, h2⟩ := colK_spec rs c k h
    refine ⟨?_, h2⟩
    rw [h1]; unfold colI; rw [List.filter_cons, if_neg (by simp)]
  | (x :: t) :: rs, [], k, h => by cases h
  | (x :: t) :: rs, y :: c, k, h => by
    have h : cond (Nat.beq x y) (colK rs c fun ts => k (t :: ts)) false = true := h
    cases e : Nat.beq x y with
    | false => rw [e] at h; cases h
    | true =>
      rw [e] at h
      obtain ⟨h1, h2⟩ := colK_spec rs c _ h
      have exy := Nat.eq_of_beq_eq_true e
      refine ⟨?_, h2⟩
      rw [h1, exy]; unfold colI; rw [List.filter_cons, if_pos (by simp)]; rfl
theorem isTr_spec : ∀ (cols rows : List (List Nat)), isTr cols rows = true → ∀ i, i < cols.length → cols[i]? = some (colI 0 i rows)
  | [], rows, _, i, hi => by simp at hi
  | c :: cs, rows, h, i, hi => by
    have h : colK rows c (fun ts => isTr cs ts) = true := h
    obtain ⟨h1, h2⟩ := colK_spec rows c _ h
    cases i with
    | zero => rw [h1]; rfl
    | succ i => rw [List.getElem?_cons_succ, colI_tls]; exact isTr_spec cs _ h2 i (by simpa using hi)
theorem lenN_eq {α : Type} : ∀ l : List α, lenN l = l.length
  | [] => rfl
  | _ :: r => by show Nat.succ (lenN r) = _; rw [lenN_eq r]; rfl
theorem cntN_eq : ∀ (rows : List (List Nat)) (acc : Nat), cntN rows acc = (List.range rows.length).map fun k => acc + ((rows.take (k + 1)).map List.length).sum
  | [], acc => rfl
  | r :: rs, acc => by
    show (acc + lenN r) :: cntN rs (acc + lenN r) = _
    rw [cntN_eq rs, lenN_eq, List.length_cons, List.range_succ_eq_map, List.map_cons, List.map_map]
    exact congr (congrArg List.cons (by simp)) (List.map_congr_left fun k _ => by simp [Nat.add_assoc])
theorem cntN_counts (rows : List (List Nat)) : cntN rows 0 = countsI rows := by
  rw [cntN_eq]; unfold countsI; simp
theorem all6_spec {p : Nat → Bool} (h : all6 p = true) {a : Nat} (ha : a < 6) : p a = true := by
  unfold all6 at h
  simp only [Bool.and_eq_true] at h
  obtain ⟨⟨⟨⟨⟨h0, h1⟩, h2⟩, h3⟩, h4⟩, h5⟩ := h
  have : a = 0 ∨ a = 1 ∨ a = 2 ∨ a = 3 ∨ a = 4 ∨ a = 5 := by lia
  rcases this with rfl | rfl | rfl | rfl | rfl | rfl <;> assumption
theorem ne_spec {x y : Nat} {r : Bool} (h : ne x y r = true) (hxy : x ≠ y) : r = true := by
  unfold ne at h
  cases e : Nat.beq x y with
  | true => exact absurd (Nat.eq_of_beq_eq_true e) hxy
  | false => rw [e] at h; exact h
theorem chk_all {a b c d e f : Nat} (ha : a < 6) (hb : b < 6) (hc : c < 6) (hd : d < 6) (he : e < 6) (hf : f < 6) (h : [a, b, c, d, e, f].Nodup) : chkP a b c d e f = true := by
  have h0 : allP chkP a = true := by
    have : a = 0 ∨ a = 1 ∨ a = 2 ∨ a = 3 ∨ a = 4 ∨ a = 5 := by lia
    rcases this with rfl | rfl | rfl | rfl | rfl | rfl
    · exact chk0
    · exact chk1
    · exact chk2
    · exact chk3
    · exact chk4
    · exact chk5
  simp only [List.nodup_cons, List.mem_cons, List.not_mem_nil, or_false, not_or] at h
  obtain ⟨⟨ab, ac, ad, ae, af⟩, ⟨bc, bd, be, bf⟩, ⟨cd, ce, cf⟩, ⟨de, df⟩, ef, _⟩ := h
  unfold allP at h0
  have h1 := ne_spec (all6_spec h0 hb) (Ne.symm ab)
  have h2 := ne_spec (ne_spec (all6_spec h1 hc) (Ne.symm ac)) (Ne.symm bc)
  have h3 := ne_spec (ne_spec (ne_spec (all6_spec h2 hd) (Ne.symm ad)) (Ne.symm bd)) (Ne.symm cd)
  have h4 := ne_spec (ne_spec (ne_spec (ne_spec (all6_spec h3 he) (Ne.symm ae)) (Ne.symm be)) (Ne.symm ce)) (Ne.symm de)
  exact ne_spec (ne_spec (ne_spec (ne_spec (ne_spec (all6_spec h4 hf) (Ne.symm af)) (Ne.symm bf)) (Ne.symm cf)) (Ne.symm df)) (Ne.symm ef)
end Mine
end
section
open PySem
set_option maxRecDepth 100000
namespace Mine
theorem rep0 : Rep 0 0 [0] := ⟨rfl, fun x hx => by rw [List.mem_singleton.mp hx]; exact Nat.le_refl _, fun k m _ _ => by
  rw [Nat.zero_testBit]
  cases m with
  | zero => rfl
  | succ m => rfl⟩
def NL (ms : List Nat) : Nat → Nat
  | 0 => 0
  | t + 1 => updN (ms.getD t 0) (NL ms t) t
theorem lad_rep {low : List Nat} (hl : ∀ t, t < 6 → low.getD t 0 < 64) : ∀ t, t ≤ 6 → Rep (NL low t) t (ladTo low t)
  | 0, _ => rep0
  | t + 1, ht => by
    rw [NL, ladTo, gTo_h]
    exact rep_step (by lia) (hl t (by lia)) (lad_rep hl t (by lia)) fun i _ => rfl
theorem str_rep {low ms : List Nat} (hl : ∀ t, t < 6 → low.getD t 0 < 64 ∧ ms.getD t 0 = 63 - low.getD t 0) : ∀ t, t ≤ 6 → Rep (NL ms t) t (strTo low t)
  | 0, _ => rep0
  | t + 1, ht => by
    obtain ⟨h1, h2⟩ := hl t (by lia)
    rw [NL, strTo, sTo_h]
    refine rep_step (by lia) (by omega) (str_rep hl t (by lia)) fun i hi => ?_
    have : 2 ^ t ≤ 2 ^ 5 := Nat.pow_le_pow_right (by lia) (by lia)
    rw [h2]
    exact sub_and _ h1 i (by lia)
theorem by_ok {N : Nat} {S cs : List Nat} (R : Rep N 6 S) (h6 : cs.length ≤ 6) (h0 : 0 < cs.length) (h : chkB N cs 0 = true) :
    (byOf S (choTo 6)).drop 1 = cs ∧ (∀ k, k < 2 ^ 6 → S.getD k 0 ≤ S.getD (2 ^ 6 - 1) 0) ∧ S.getD (2 ^ 6 - 1) 0 ≤ 100 := by
  obtain ⟨h1, h2, h3⟩ := chkB_spec R cs 0 (by lia) (by lia) h
  rw [Nat.zero_add] at h2
  refine ⟨?_, fun k hk => ?_, ?_⟩
  · have hl : (choTo 6).length = 64 := choTo_len 6
    have hS : S.length = 64 := R.len
    unfold byOf
    rw [hl, hS, h2]
    have hg := byTo_get S (choTo 6) (cs.length + 1) 64 (fun m hm => by have := h1 m hm; lia)
    refine List.ext_getElem (by rw [List.length_drop, byTo_len, List.length_replicate]; lia) fun i hi1 hi2 => ?_
    have := hg (i + 1) (by lia)
    have h4 := h3 i hi2
    rw [Nat.zero_add] at h4
    rw [h4, List.getD_eq_getElem?_getD, List.getD_eq_getElem?_getD, List.getElem?_eq_getElem hi2, List.getElem?_eq_getElem (by rw [byTo_len, List.length_replicate]; lia)] at this
    rw [List.getElem_drop]
    simpa [Nat.add_comm] using this
  · have := h1 k hk
    rw [show (2 ^ 6 - 1 : Nat) = 63 from rfl, h2]; lia
  · rw [show (2 ^ 6 - 1 : Nat) = 63 from rfl, h2]; lia
theorem lowTo6 (ans : Nat → Nat → Bool) (j : Nat) : lowTo ans j 6 = bt (ans 0 j) 1 + bt (ans 1 j) 2 + bt (ans 2 j) 4 + bt (ans 3 j) 8 + bt (ans 4 j) 16 + bt (ans 5 j) 32 := by
  have e : ∀ (x : Bool) n, (if x = true then n else 0) = bt x n := fun x n => by cases x <;> rfl
  simp only [lowTo, e, Nat.zero_add]
theorem bt_le (x : Bool) (n : Nat) : bt x n ≤ n := by cases x <;> simp [bt]
theorem counts_map {α β : Type} (f : α → β) (R : List (List α)) : countsI (R.map (List.map f)) = countsI R := by
  unfold countsI
  rw [List.length_map]
  refine List.map_congr_left fun k _ => ?_
  rw [← List.map_take, List.map_map]
  congr 2
  funext r
  simp
theorem colI_map (f : Nat → Int) (c : Nat) (R : List (List Nat)) : colI 0 c (R.map (List.map f)) = (colI 0 c R).map f := by
  unfold colI
  rw [List.filter_map, List.map_map, List.map_map]
  have : ((fun r => decide (c < r.length)) ∘ List.map f) = fun r : List Nat => decide (c < r.length) := by funext r; simp
  rw [this]
  refine List.map_congr_left fun r hr => ?_
  have hr : c < r.length := of_decide_eq_true (List.mem_filter.mp hr).2
  show (r.map f).getD c 0 = f (r.getD c 0)
  rw [List.getD_eq_getElem?_getD, List.getD_eq_getElem?_getD, List.getElem?_map, List.getElem?_eq_getElem hr]; rfl
theorem trans_map (f : Nat → Int) (R : List (List Nat)) : transI (R.map (List.map f)) = ((List.range (R.getD 0 []).length).map fun c => colI 0 c R).map (List.map f) := by
  show (List.range ((R.map (List.map f)).getD 0 []).length).map (fun c => colI 0 c (R.map (List.map f))) = _
  have : ((R.map (List.map f)).getD 0 []).length = (R.getD 0 []).length := by cases R <;> simp
  rw [this, List.map_map]
  exact List.map_congr_left fun c _ => colI_map f c R
end Mine
end
section
open PySem
set_option maxRecDepth 100000
namespace Mine
theorem rows_to_ranks (b : Bool) (v : Nat → Int) (ρ : Nat → Nat) (φ : Nat → Int) (h1 : ∀ y x, y < 6 → x < 6 → skP v b y x = Nat.blt (ρ y) (ρ x)) (h2 : ∀ t, t < 6 → φ (ρ t) = v t) :
    rowsI b ((List.range 6).map v) = (rowsA Nat.blt ((List.range 6).map ρ)).map (List.map φ) := by
  have e2 : rowsA Nat.blt ((List.range 6).map ρ) = (rowsA (skP v b) (List.range 6)).map (List.map ρ) :=
    rowsA_map (sk := skP v b) (sk' := Nat.blt) (f := ρ) (p := fun t => t < 6) h1 (rows := []) (fun r hr => by cases hr) fun x hx => List.mem_range.mp hx
  rw [rowsI_A, (rows_fifo 6).1, e2, List.map_map]
  refine List.map_congr_left fun r hr => ?_
  show r.map v = (r.map ρ).map φ
  rw [List.map_map]
  refine List.map_congr_left fun t ht => ?_
  rcases rowsA_mem r hr t ht with h | ⟨_, h, _⟩
  · exact (h2 t (List.mem_range.mp h)).symm
  · cases h
theorem range6 {α : Type} (f : Nat → α) : (List.range 6).map f = [f 0, f 1, f 2, f 3, f 4, f 5] := rfl
set_option maxHeartbeats 4000000 in
theorem comb {ns : List Int} (hl : ns.length = 6) :
    (∀ k, k < 2 ^ 6 → (strTo (lowOf (ansN ns) 6) 6).getD k 0 ≤ (strTo (lowOf (ansN ns) 6) 6).getD (2 ^ 6 - 1) 0) ∧ (∀ k, k < 2 ^ 6 → (ladTo (lowOf (ansN ns) 6) 6).getD k 0 ≤ (ladTo (lowOf (ansN ns) 6) 6).getD (2 ^ 6 - 1) 0) ∧
    (strTo (lowOf (ansN ns) 6) 6).getD (2 ^ 6 - 1) 0 ≤ 100 ∧ (ladTo (lowOf (ansN ns) 6) 6).getD (2 ^ 6 - 1) 0 ≤ 100 ∧
    countsI (rowsI true ns) = (byOf (strTo (lowOf (ansN ns) 6) 6) (choTo 6)).drop 1 ∧ countsI (rowsI false ns.reverse) = (byOf (ladTo (lowOf (ansN ns) 6) 6) (choTo 6)).drop 1 ∧
    rowsI false ns.reverse = transI (rowsI true ns) ∧ 0 < (rowsI true ns).length := by
  obtain ⟨N, hN⟩ : ∃ N : Nat → Int, N = fun i => 6 * ns.getD i 0 + (5 - (i : Int)) := ⟨_, rfl⟩
  have Nlt : ∀ i j, i < 6 → j < 6 → (N i < N j ↔ ns.getD i 0 < ns.getD j 0 ∨ (ns.getD i 0 = ns.getD j 0 ∧ j < i)) := fun i j hi hj => by rw [hN]; simp only; lia
  have rkd : ∀ i j, i < 6 → j < 6 → i ≠ j → rk N i ≠ rk N j := fun i j hi hj hij q => by
    have h1 := Nlt i j hi hj
    have h2 := Nlt j i hj hi
    rw [← rk_iff hi hj] at h1
    rw [← rk_iff hj hi] at h2
    rw [q] at h1 h2
    lia
  have hnd : ((List.range 6).map (rk N)).Nodup := by
    rw [range6]
    simp only [List.nodup_cons, List.mem_cons, List.not_mem_nil, or_false, not_or, not_false_eq_true, List.nodup_nil, and_true]
    refine ⟨⟨rkd 0 1 ?_ ?_ ?_, rkd 0 2 ?_ ?_ ?_, rkd 0 3 ?_ ?_ ?_, rkd 0 4 ?_ ?_ ?_, rkd 0 5 ?_ ?_ ?_⟩, ⟨rkd 1 2 ?_ ?_ ?_, rkd 1 3 ?_ ?_ ?_, rkd 1 4 ?_ ?_ ?_, rkd 1 5 ?_ ?_ ?_⟩, ⟨rkd 2 3 ?_ ?_ ?_, rkd 2 4 ?_ ?_ ?_, rkd 2 5 ?_ ?_ ?_⟩, ⟨rkd 3 4 ?_ ?_ ?_, rkd 3 5 ?_ ?_ ?_⟩, rkd 4 5 ?_ ?_ ?_⟩ <;> lia
  -- the pictures of the ranks
  obtain ⟨φ, hφ⟩ : ∃ φ : Nat → Int, ∀ t, t < 6 → φ (rk N t) = ns.getD t 0 := ⟨fun r => ns.getD (((List.range 6).map (rk N)).idxOf r) 0, fun t ht => by
    have := hnd.idxOf_getElem t (by simpa using ht)
    rw [List.getElem_map, List.getElem_range] at this
    simp only [this]⟩
  have hns : ns = (List.range 6).map fun i => ns.getD i 0 := by
    match ns, hl with
    | [a, b, c, d, e, f], _ => rfl
  have hnr : ns.reverse = (List.range 6).map fun i => ns.getD (5 - i) 0 := by
    match ns, hl with
    | [a, b, c, d, e, f], _ => rfl
  have r1 : rowsI true ns = (rowsA Nat.blt [rk N 0, rk N 1, rk N 2, rk N 3, rk N 4, rk N 5]).map (List.map φ) := by
    have := rows_to_ranks true (fun i => ns.getD i 0) (rk N) φ (fun y x hy hx => ?_) hφ
    · rwa [← hns, range6] at this
    · rw [Bool.eq_iff_iff, Nat.blt_eq, rk_iff hy hx, Nlt y x hy hx]
      simp [skP]
  have r2 : rowsI false ns.reverse = (rowsA Nat.blt [rk N 5, rk N 4, rk N 3, rk N 2, rk N 1, rk N 0]).map (List.map φ) := by
    have := rows_to_ranks false (fun i => ns.getD (5 - i) 0) (fun i => rk N (5 - i)) φ (fun y x hy hx => ?_) fun t ht => hφ (5 - t) (by omega)
    · rwa [← hnr, range6] at this
    · rw [Bool.eq_iff_iff, Nat.blt_eq, rk_iff (by omega) (by omega), Nlt (5 - y) (5 - x) (by omega) (by omega)]
      simp only [skP, Bool.false_eq_true, if_false, Bool.or_eq_true, Bool.and_eq_true, decide_eq_true_eq]
      lia
  have an : ∀ i j, i < 6 → j < 6 → ansN ns i j = (decide (i < j) && Nat.blt (rk N i) (rk N j)) := fun i j hi hj => by
    unfold ansN
    by_cases h : i < j
    · rw [decide_eq_true h, Bool.true_and, Bool.true_and, Bool.eq_iff_iff, Nat.blt_eq, rk_iff hi hj, Nlt i j hi hj, decide_eq_true_eq]; omega
    · rw [decide_eq_false h, Bool.false_and, Bool.false_and]
  have ck := chk_all (rk_6 (N := N) (by lia : 0 < 6)) (rk_6 (N := N) (by lia : 1 < 6)) (rk_6 (N := N) (by lia : 2 < 6)) (rk_6 (N := N) (by lia : 3 < 6)) (rk_6 (N := N) (by lia : 4 < 6)) (rk_6 (N := N) (by lia : 5 < 6)) (by rw [range6] at hnd; exact hnd)
  obtain ⟨low, hlow⟩ : ∃ low, low = lowOf (ansN ns) 6 := ⟨_, rfl⟩
  have hlow' : low = [0, bt (Nat.blt (rk N 0) (rk N 1)) 1, Nat.add (bt (Nat.blt (rk N 0) (rk N 2)) 1) (bt (Nat.blt (rk N 1) (rk N 2)) 2),
      Nat.add (Nat.add (bt (Nat.blt (rk N 0) (rk N 3)) 1) (bt (Nat.blt (rk N 1) (rk N 3)) 2)) (bt (Nat.blt (rk N 2) (rk N 3)) 4),
      Nat.add (Nat.add (Nat.add (bt (Nat.blt (rk N 0) (rk N 4)) 1) (bt (Nat.blt (rk N 1) (rk N 4)) 2)) (bt (Nat.blt (rk N 2) (rk N 4)) 4)) (bt (Nat.blt (rk N 3) (rk N 4)) 8),
      Nat.add (Nat.add (Nat.add (Nat.add (bt (Nat.blt (rk N 0) (rk N 5)) 1) (bt (Nat.blt (rk N 1) (rk N 5)) 2)) (bt (Nat.blt (rk N 2) (rk N 5)) 4)) (bt (Nat.blt (rk N 3) (rk N 5)) 8)) (bt (Nat.blt (rk N 4) (rk N 5)) 16)] := by
    rw [hlow, lowOf, range6]
    simp only [lowTo6]
    rw [an 0 0 (by lia) (by lia), an 1 0 (by lia) (by lia), an 2 0 (by lia) (by lia), an 3 0 (by lia) (by lia), an 4 0 (by lia) (by lia), an 5 0 (by lia) (by lia),
      an 0 1 (by lia) (by lia), an 1 1 (by lia) (by lia), an 2 1 (by lia) (by lia), an 3 1 (by lia) (by lia), an 4 1 (by lia) (by lia), an 5 1 (by lia) (by lia),
      an 0 2 (by lia) (by lia), an 1 2 (by lia) (by lia), an 2 2 (by lia) (by lia), an 3 2 (by lia) (by lia), an 4 2 (by lia) (by lia), an 5 2 (by lia) (by lia),
      an 0 3 (by lia) (by lia), an 1 3 (by lia) (by lia), an 2 3 (by lia) (by lia), an 3 3 (by lia) (by lia), an 4 3 (by lia) (by lia), an 5 3 (by lia) (by lia),
      an 0 4 (by lia) (by lia), an 1 4 (by lia) (by lia), an 2 4 (by lia) (by lia), an 3 4 (by lia) (by lia), an 4 4 (by lia) (by lia), an 5 4 (by lia) (by lia),
      an 0 5 (by lia) (by lia), an 1 5 (by lia) (by lia), an 2 5 (by lia) (by lia), an 3 5 (by lia) (by lia), an 4 5 (by lia) (by lia), an 5 5 (by lia) (by lia)]
    rfl
  rw [← hlow, r1, r2]
  unfold chkP at ck
  rw [rowsN_eq, rowsN_eq] at ck
  have eR : ([rk N 0, rk N 1, rk N 2, rk N 3, rk N 4, rk N 5].foldl (insA Nat.blt) []) = rowsA Nat.blt [rk N 0, rk N 1, rk N 2, rk N 3, rk N 4, rk N 5] := rfl
  have eT : ([rk N 5, rk N 4, rk N 3, rk N 2, rk N 1, rk N 0].foldl (insA Nat.blt) []) = rowsA Nat.blt [rk N 5, rk N 4, rk N 3, rk N 2, rk N 1, rk N 0] := rfl
  rw [eR, eT] at ck
  generalize rowsA Nat.blt [rk N 0, rk N 1, rk N 2, rk N 3, rk N 4, rk N 5] = R at ck ⊢
  generalize rowsA Nat.blt [rk N 5, rk N 4, rk N 3, rk N 2, rk N 1, rk N 0] = T at ck ⊢
  have b1 := fun x => bt_le x 1
  have b2 := fun x => bt_le x 2
  have b4 := fun x => bt_le x 4
  have b8 := fun x => bt_le x 8
  have b16 := fun x => bt_le x 16
  have q1 := b1 (Nat.blt (rk N 0) (rk N 1))
  have q2 : Nat.add (bt (Nat.blt (rk N 0) (rk N 2)) 1) (bt (Nat.blt (rk N 1) (rk N 2)) 2) ≤ 3 := Nat.add_le_add (b1 _) (b2 _)
  have q3 : Nat.add (Nat.add (bt (Nat.blt (rk N 0) (rk N 3)) 1) (bt (Nat.blt (rk N 1) (rk N 3)) 2)) (bt (Nat.blt (rk N 2) (rk N 3)) 4) ≤ 7 := Nat.add_le_add (Nat.add_le_add (b1 _) (b2 _)) (b4 _)
  have q4 : Nat.add (Nat.add (Nat.add (bt (Nat.blt (rk N 0) (rk N 4)) 1) (bt (Nat.blt (rk N 1) (rk N 4)) 2)) (bt (Nat.blt (rk N 2) (rk N 4)) 4)) (bt (Nat.blt (rk N 3) (rk N 4)) 8) ≤ 15 := Nat.add_le_add (Nat.add_le_add (Nat.add_le_add (b1 _) (b2 _)) (b4 _)) (b8 _)
  have q5 : Nat.add (Nat.add (Nat.add (Nat.add (bt (Nat.blt (rk N 0) (rk N 5)) 1) (bt (Nat.blt (rk N 1) (rk N 5)) 2)) (bt (Nat.blt (rk N 2) (rk N 5)) 4)) (bt (Nat.blt (rk N 3) (rk N 5)) 8)) (bt (Nat.blt (rk N 4) (rk N 5)) 16) ≤ 31 := Nat.add_le_add (Nat.add_le_add (Nat.add_le_add (Nat.add_le_add (b1 _) (b2 _)) (b4 _)) (b8 _)) (b16 _)
  clear b1 b2 b4 b8 b16 hlow an r1 r2 hns hnr hφ hnd rkd Nlt
  generalize bt (Nat.blt (rk N 0) (rk N 1)) 1 = l1 at *
  generalize Nat.add (bt (Nat.blt (rk N 0) (rk N 2)) 1) (bt (Nat.blt (rk N 1) (rk N 2)) 2) = l2 at *
  generalize Nat.add (Nat.add (bt (Nat.blt (rk N 0) (rk N 3)) 1) (bt (Nat.blt (rk N 1) (rk N 3)) 2)) (bt (Nat.blt (rk N 2) (rk N 3)) 4) = l3 at *
  generalize Nat.add (Nat.add (Nat.add (bt (Nat.blt (rk N 0) (rk N 4)) 1) (bt (Nat.blt (rk N 1) (rk N 4)) 2)) (bt (Nat.blt (rk N 2) (rk N 4)) 4)) (bt (Nat.blt (rk N 3) (rk N 4)) 8) = l4 at *
  generalize Nat.add (Nat.add (Nat.add (Nat.add (bt (Nat.blt (rk N 0) (rk N 5)) 1) (bt (Nat.blt (rk N 1) (rk N 5)) 2)) (bt (Nat.blt (rk N 2) (rk N 5)) 4)) (bt (Nat.blt (rk N 3) (rk N 5)) 8)) (bt (Nat.blt (rk N 4) (rk N 5)) 16) = l5 at *
  subst hlow'
  have hl64 : ∀ t, t < 6 → [0, l1, l2, l3, l4, l5].getD t 0 < 64 := fun t ht => by
    have : t = 0 ∨ t = 1 ∨ t = 2 ∨ t = 3 ∨ t = 4 ∨ t = 5 := by lia
    rcases this with rfl | rfl | rfl | rfl | rfl | rfl
    · show 0 < 64; lia
    · show l1 < 64; lia
    · show l2 < 64; lia
    · show l3 < 64; lia
    · show l4 < 64; lia
    · show l5 < 64; lia
  have hms : ∀ t, t < 6 → [0, l1, l2, l3, l4, l5].getD t 0 < 64 ∧ [63 - 0, 63 - l1, 63 - l2, 63 - l3, 63 - l4, 63 - l5].getD t 0 = 63 - [0, l1, l2, l3, l4, l5].getD t 0 := fun t ht => by
    refine ⟨hl64 t ht, ?_⟩
    have : t = 0 ∨ t = 1 ∨ t = 2 ∨ t = 3 ∨ t = 4 ∨ t = 5 := by lia
    rcases this with rfl | rfl | rfl | rfl | rfl | rfl <;> rfl
  have RL := lad_rep hl64 6 (by lia)
  have RS := str_rep hms 6 (by lia)
  unfold chkT at ck
  simp only [Bool.and_eq_true] at ck
  obtain ⟨⟨⟨⟨⟨⟨⟨c1, c2⟩, c3⟩, c4⟩, c5⟩, c6⟩, c7⟩, c8⟩ := ck
  rw [cntN_counts] at c7 c8
  have c2 := Nat.eq_of_beq_eq_true c2
  have c3 := Nat.le_of_ble_eq_true c3
  have c4 := Nat.le_of_ble_eq_true c4
  have c5 := Nat.le_of_ble_eq_true c5
  have c6 := Nat.le_of_ble_eq_true c6
  rw [lenN_eq] at c3 c4 c5 c6
  rw [lenN_eq, lenN_eq] at c2
  have hdR : hdN R = R.getD 0 [] := by cases R <;> rfl
  rw [hdR] at c2
  have lc : ∀ R : List (List Nat), (countsI R).length = R.length := fun R => by simp [countsI]
  obtain ⟨s1, s2, s3⟩ := by_ok (cs := countsI R) RS (by rw [lc]; exact c3) (by rw [lc]; lia) c7
  obtain ⟨t1, t2, t3⟩ := by_ok (cs := countsI T) RL (by rw [lc]; exact c5) (by rw [lc]; lia) c8
  refine ⟨s2, t2, s3, t3, ?_, ?_, ?_, ?_⟩
  · rw [counts_map, s1]
  · rw [counts_map, t1]
  · rw [trans_map]
    refine congrArg (List.map (List.map φ)) ?_
    refine List.ext_getElem? fun i => ?_
    by_cases hi : i < T.length
    · rw [isTr_spec T R c1 i hi, List.getElem?_map, List.getElem?_range (by lia)]; rfl
    · rw [List.getElem?_eq_none (by lia), List.getElem?_eq_none (by rw [List.length_map, List.length_range]; lia)]
  · rw [List.length_map]; lia
end Mine
end
section
open PySem
set_option maxRecDepth 100000
namespace Mine
theorem plain01 : ∀ T m, Tx T → (∀ x ∈ T, (leadOf (sOf x)).longest ≤ (m : Nat)) → (∃ x ∈ T, (leadOf (sOf x)).longest = (m : Nat)) → ∃ ans, Plain T m (firstTo (lvl T ((m + 1 : Nat) : Int)) 6) (secondTo (lvl T 1) (firstTo (lvl T ((m + 1 : Nat) : Int)) 6)) ((firstTo (lvl T ((m + 1 : Nat) : Int)) 6).map fun x => (LD T x).n) ans := by
  intro T m tx hm hme
  obtain ⟨g1, g2, g3, g4⟩ := geo tx hm hme rfl rfl
  obtain ⟨c1, c2, c3, c4, c5, c6, c7, c8⟩ := comb (ns := (firstTo (lvl T ((m + 1 : Nat) : Int)) 6).map fun x => (LD T x).n) (by rw [List.length_map, firstTo_len])
  exact ⟨_, g1, g2, g3, g4, c1, c2, c3, c4, c5, c6, c7, c8⟩
end Mine
end
section
open PySem PySem.W PyProof.Rows PySem.Calls PySem.Spec
set_option maxRecDepth 100000
namespace Mine
set_option maxHeartbeats 8000000 in
theorem goal : PySem.Challenge.rw_pe0230_01.Holds := hd (by
  k_fill
  intro w s₀ s₁ mg mb G Y fa o pm cd doc dV kV ho hd hcd hD hmg hg args vals as hpre hlay hrd hwl hlo
  have X : (KK w).In s₁.heap := km_in_of Y
  have tb := km_tabs_of Y
  have T := G.T
  have hT : TabsAt [(158, 156)] s₁.heap := fun q hq => by
    rw [List.mem_singleton.mp hq]
    exact ⟨codeHd_of_K (K := KK w) X (by kernel_rfl), tb 156 (List.mem_singleton.mpr rfl)⟩
  have hfa : fa = 159 := by
    have e := mg_of X T.g (by kernel_rfl : nsIn (KK w) mainGlobals "law" = some (some (.ref 159)))
    have e2 : mg "law" = some (.ref fa) := hmg
    rw [e] at e2; cases e2; rfl
  subst hfa
  clear hmg ho hd hcd hD
  wrow_args hpre hlay hrd hwl hlo
  rename_i ns _ _ _ _ _ _ _ a vs _ hL _ _ _ hI _ hc _
  have hv : Rd (ghostOf s₁.heap [(158, 156)]) (.ref a) (dIs ns) := by
    obtain ⟨o, ho, hc, n, hd⟩ := ghost_list hT hL
    obtain ⟨bs, hb⟩ := (RdL.ints (h := ghostOf s₁.heap [(158, 156)]) hI).all
    exact ⟨_, .list ho hc hd (by simpa using hb)⟩
  show wpAny (model PP w) callerA (call (.ref 159) [.ref a]) _ _ s₁
  refine law_run plain01 (B := ghostOf s₁.heap [(158, 156)]) (gd_ghost hT X (by kernel_rfl) T) (fun b o e => of_hideAll _ e) (bi_ghost hT T) (tb 156 (List.mem_singleton.mpr rfl)) (hideAll_none _ (List.mem_singleton.mpr rfl)) ⟨rfl, by decide, by decide⟩ hv (by omega) fun s' ps hs hk h1 => ?_
  exact law_post hT (fun _ => rfl) (by with_unfolding_all rfl) hs hg hk h1)
end Mine
end
set_option maxRecDepth 100000 in
theorem PySem.Challenge.cw_pe0230_01_holds : PySem.Challenge.rw_pe0230_01.Holds := by
  exact Mine.goal
