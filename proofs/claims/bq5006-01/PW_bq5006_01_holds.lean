import PyProof.Rows.All
import Wide.All
import OpenK.AllK
import Wide.FinOn
import PyProof.DictValues
import PySem.Challenge.RW_bq5006_01
open PySem PySem.W PyProof.Rows
set_option Elab.async false
set_option maxRecDepth 100000

section
set_option maxHeartbeats 0
namespace Mine
/-- a hook that tells of empty tables besides -/
def tHook (H : Hook) (ts : List Addr) : Hook where
  α := H.α × List (Option Obj)
  obs := fun s => (H.obs s, ts.map s.heap.get?)
  val := fun w => (H.val w, ts.map fun _ => some { cls := .none, data := .fields #[] })
  says := fun w h => H.says w h ∧ ∀ t ∈ ts, h.get? t = some { cls := .none, data := .fields #[] }
  of := fun w s x => ⟨H.of w s (Prod.mk.inj x).1, List.map_inj_left.mp (Prod.mk.inj x).2⟩
  keeps := fun w h h' x k => ⟨H.keeps w h h' x.1 k, fun t ht => k _ _ (x.2 t ht)⟩
local macro_rules | `(tactic| o_head ($h:term)) => `(tactic| o_head ((tHook $h [59, 93]) : Hook))
open_top hd for PySem.Challenge.rw_bq5006_01
end Mine
end
open PySem.Calls PySem.Spec
set_option maxHeartbeats 4000000

namespace Mine
abbrev PR : Program := PySem.Challenge.rw_bq5006_01.row.prog
noncomputable abbrev KF (w : World) : Frag := hd.heap_39 w.params
/-- only that the written part be known to the library's lines -/
theorem kf_fill (w : World) : (hd.heap_39 w.params) = (hd.heap_39 w.params) ∧ PySem.Challenge.rw_bq5006_01 = PySem.Challenge.rw_bq5006_01 := by
  k_fill
  exact ⟨rfl, rfl⟩

def Keep (h h' : Heap) : Prop := ∀ (a : Nat) o, a ≠ 93 → a ≠ 59 → h.get? a = some o → h'.get? a = some o
theorem Keep.refl (h : Heap) : Keep h h := fun _ _ _ _ e => e
theorem Keep.trans {h h' h'' : Heap} (a : Keep h h') (b : Keep h' h'') : Keep h h'' := fun x o h1 h2 e => b x o h1 h2 (a x o h1 h2 e)
theorem Keep.of_all {h h' : Heap} (k : ∀ a o, h.get? a = some o → h'.get? a = some o) : Keep h h' := fun a o _ _ e => k a o e

def tblObj (vs : Array Value) : Obj := { cls := .none, data := .fields vs }
def TabIs (t : Addr) (ln cl : Int) (h : Heap) : Prop :=
  ∃ ps, h.get? t = some (tblObj ps) ∧ (ps = #[] ∨ ∃ c, ps = #[rawInt ln, rawInt cl, .ref c])
def BMo (h : Heap) : Prop := ∃ ob, h.get? 4 = some ob ∧ ob.cls = .type "module" ∧ ob.dict = some builtinsNs ∧ ob.data = .plain
structure Tabs (h : Heap) : Prop where
  t93 : TabIs 93 104 25 h
  t59 : TabIs 59 62 32 h
  bm : BMo h
theorem TabIs.keeps {t ln cl} {h h' : Heap} (x : TabIs t ln cl h) (k : ∀ a o, h.get? a = some o → h'.get? a = some o) : TabIs t ln cl h' :=
  let ⟨ps, a, b⟩ := x; ⟨ps, k _ _ a, b⟩
theorem Tabs.keeps {h h' : Heap} (x : Tabs h) (k : ∀ a o, h.get? a = some o → h'.get? a = some o) : Tabs h' := ⟨x.t93.keeps k, x.t59.keeps k, let ⟨o, h1, h2⟩ := x.bm; ⟨o, k _ _ h1, h2⟩⟩

section
variable (w : World) (mg mb : Str → Option Value)
structure Ok (s : Shared) : Prop where
  kin : (KF w).In s.heap
  g : s.heap.Ns mainGlobals mg
  b : s.heap.Ns builtinsNs mb
  bi : ∀ x : Str, x ≠ "__name__" → mb x = bootBuiltins x
  nolim : s.heap.NoLimit
  nodig : ∃ mc, s.heap.Ns cStatics mc ∧ mc "sys.int_max_str_digits" = none
  tabs : Tabs s.heap
  bare : AllBare s.gens
  big : 218 ≤ s.heap.objs.size
end

structure Aft (s s' : Shared) : Prop where
  keep : Keep s.heap s'.heap
  drawn : s'.drawn = s.drawn
  os : s'.os = s.os
theorem Aft.refl (s : Shared) : Aft s s := ⟨.refl _, rfl, rfl⟩
theorem Aft.trans {s s' s'' : Shared} (a : Aft s s') (b : Aft s' s'') : Aft s s'' := ⟨a.keep.trans b.keep, b.drawn.trans a.drawn, b.os.trans a.os⟩

theorem kf_no93 (w : World) : (KF w).lookup 93 = none := by kernel_rfl
theorem kf_no59 (w : World) : (KF w).lookup 59 = none := by kernel_rfl
theorem kf_lt {w : World} {a : Nat} {o : Obj} (q : (KF w).lookup a = some o) : a < 218 := by
  have h1 : ∀ p ∈ (KF w), (p.1 : Nat) < 218 := by
    intro p hp
    have q : ((KF w).all fun p => Nat.blt p.1 218) = true := by kernel_rfl
    exact Nat.le_of_ble_eq_true (List.all_eq_true.mp q p hp)
  have lm : ∀ (l : Frag) (y : Nat) (o : Obj), l.lookup y = some o → ∃ p ∈ l, p.1 = y := by
    intro l y o
    induction l with
    | nil => intro h; cases h
    | cons z l ih =>
      obtain ⟨z1, z2⟩ := z
      intro h
      rw [List.lookup_cons] at h
      by_cases hz : y = z1
      · exact ⟨_, .head _, hz.symm⟩
      · have : (y == z1) = false := beq_eq_false_iff_ne.mpr hz
        rw [this] at h
        obtain ⟨p, hp, e⟩ := ih h
        exact ⟨p, .tail _ hp, e⟩
  obtain ⟨p, hp, e⟩ := lm _ _ _ q
  rw [← e]
  exact h1 p hp
theorem In.keep {w : World} {h h' : Heap} (X : (KF w).In h) (k : Keep h h') : (KF w).In h' := fun a o e =>
  k a o (fun q => by subst q; rw [kf_no93] at e; cases e) (fun q => by subst q; rw [kf_no59] at e; cases e) (X a o e)
theorem Ns.keep {h h' : Heap} {a : Nat} {m} (n : h.Ns a m) (k : Keep h h') (h1 : a ≠ 93) (h2 : a ≠ 59) : h'.Ns a m :=
  let ⟨o, es, ep, ho, r⟩ := n; ⟨o, es, ep, k a o h1 h2 ho, r⟩
section
variable {w : World} {mg mb : Str → Option Value}
theorem Ok.step {s s' : Shared} (O : Ok w mg mb s) (k : Keep s.heap s'.heap) (t : Tabs s'.heap) (g : AllBare s'.gens) (z : 218 ≤ s'.heap.objs.size) : Ok w mg mb s' where
  kin := In.keep O.kin k
  g := Ns.keep O.g k (by decide) (by decide)
  b := Ns.keep O.b k (by decide) (by decide)
  bi := O.bi
  nolim := let ⟨mc, a, b⟩ := O.nolim; ⟨mc, Ns.keep a k (by decide) (by decide), b⟩
  nodig := let ⟨mc, a, b⟩ := O.nodig; ⟨mc, Ns.keep a k (by decide) (by decide), b⟩
  tabs := t
  bare := g
  big := z
theorem Ok.keeps {s : Shared} (O : Ok w mg mb s) {h' : Heap} {tk : Nat} (k : ∀ a o, s.heap.get? a = some o → h'.get? a = some o) (z : s.heap.objs.size ≤ h'.objs.size) : Ok w mg mb { s with heap := h', toks := tk } :=
  O.step (.of_all k) (O.tabs.keeps k) O.bare (Nat.le_trans O.big z)
theorem Ok.tok {s : Shared} (O : Ok w mg mb s) {tk : Nat} : Ok w mg mb { s with toks := tk } := O.keeps (fun _ _ e => e) (Nat.le_refl _)

/-- the frame's state: locals m at L, own objects N, all of b kept -/
structure St (w : World) (mg mb : Str → Option Value) (b : Shared) (L : Nat) (m : List (Str × Value)) (N : List (Nat × Obj)) (s : Shared) : Prop where
  ok : Ok w mg mb s
  keep : Keep b.heap s.heap
  drawn : s.drawn = b.drawn
  os : s.os = b.os
  ns : ∃ f, s.heap.Ns L f ∧ ∀ x v, m.lookup x = some v → f x = some v
  off : b.heap.get? L = none
  hiL : 218 ≤ L
  nw : ∀ p ∈ N, s.heap.get? p.1 = some p.2 ∧ p.1 ≠ L ∧ b.heap.get? p.1 = none ∧ (218 : Nat) ≤ p.1
  nd : (N.map (·.1)).Nodup

variable {b s s' : Shared} {L : Nat} {m : List (Str × Value)} {N : List (Nat × Obj)}
theorem St.nsl (S : St w mg mb b L m N s) : L < s.heap.objs.size := let ⟨_, a, _⟩ := S.ns; a.lt
theorem St.aft0 (S : St w mg mb b L m N s) : Aft b s := ⟨S.keep, S.drawn, S.os⟩
theorem St.get (S : St w mg mb b L m N s) {p : Nat × Obj} (hp : p ∈ N) : s.heap.get? p.1 = some p.2 := (S.nw p hp).1
theorem St.aft (S : St w mg mb b L m N s) (a : Aft s s') (O : Ok w mg mb s') : St w mg mb b L m N s' where
  ok := O
  keep := S.keep.trans a.keep
  drawn := a.drawn.trans S.drawn
  os := a.os.trans S.os
  ns := let ⟨f, x, y⟩ := S.ns; ⟨f, Ns.keep x a.keep (fun e => by have := S.hiL; omega) (fun e => by have := S.hiL; omega), y⟩
  off := S.off
  hiL := S.hiL
  nw := fun p hp => ⟨a.keep _ _ (fun e => by have := (S.nw p hp).2.2.2; omega) (fun e => by have := (S.nw p hp).2.2.2; omega) (S.nw p hp).1, (S.nw p hp).2⟩
  nd := S.nd
theorem St.tok (S : St w mg mb b L m N s) {tk : Nat} : St w mg mb b L m N { s with toks := tk } :=
  S.aft ⟨.refl _, rfl, rfl⟩ S.ok.tok
theorem St.keeps (S : St w mg mb b L m N s) {h' : Heap} {tk : Nat} (k : ∀ a o, s.heap.get? a = some o → h'.get? a = some o) (z : s.heap.objs.size ≤ h'.objs.size) : St w mg mb b L m N { s with heap := h', toks := tk } :=
  S.aft ⟨.of_all k, rfl, rfl⟩ (S.ok.keeps k z)
theorem St.push (S : St w mg mb b L m N s) (o : Obj) {tk : Nat} : St w mg mb b L m N { s with heap := s.heap.push o, toks := tk } :=
  S.keeps (fun _ _ e => Heap.get?_push_of_some _ e) (by rw [Heap.size_push]; omega)
theorem St.none_size (S : St w mg mb b L m N s) {a : Nat} (h : s.heap.objs.size ≤ a) (h1 : a ≠ 93) (h2 : a ≠ 59) : b.heap.get? a = none := by
  cases q : b.heap.get? a with
  | none => rfl
  | some o => exact absurd (Heap.lt_size (S.keep a o h1 h2 q)) (Nat.not_lt.mpr h)
theorem St.pushN (S : St w mg mb b L m N s) (o : Obj) {tk : Nat} (hf : o.isFreed = false := by rfl) : St w mg mb b L m ((s.heap.objs.size, o) :: N) { s with heap := s.heap.push o, toks := tk } where
  ok := (S.push o).ok
  keep := (S.push o (tk := tk)).keep
  drawn := S.drawn
  os := S.os
  ns := (S.push o (tk := tk)).ns
  off := S.off
  hiL := S.hiL
  nw := fun p hp => by
    have big := S.ok.big
    rcases List.mem_cons.mp hp with rfl | hp
    · exact ⟨Heap.get?_push_size _ hf, fun e => absurd S.nsl (by rw [← e]; exact Nat.lt_irrefl _), S.none_size (Nat.le_refl _) (by omega) (by omega), big⟩
    · exact (S.push o (tk := tk)).nw p hp
  nd := by
    rw [List.map_cons, List.nodup_cons]
    refine ⟨fun h => ?_, S.nd⟩
    obtain ⟨p, hp, e⟩ := List.mem_map.mp h
    have := Heap.lt_size (S.nw p hp).1
    rw [e] at this
    exact Nat.lt_irrefl _ this
theorem St.drop (S : St w mg mb b L m N s) {N' : List (Nat × Obj)} (hs : N'.Sublist N) : St w mg mb b L m N' s where
  ok := S.ok
  keep := S.keep
  drawn := S.drawn
  os := S.os
  ns := S.ns
  off := S.off
  hiL := S.hiL
  nw := fun p hp => S.nw p (hs.subset hp)
  nd := S.nd.sublist (hs.map _)
/-- the object at a turned -/
theorem St.upd (S : St w mg mb b L m N s) {a : Nat} {o o' : Obj} {pre post : List (Nat × Obj)} (e : N = pre ++ (a, o) :: post) {h' : Heap} {tk : Nat} (hs : Heap.SameBut a s.heap h') (ho : h'.get? a = some o') :
    St w mg mb b L m (pre ++ (a, o') :: post) { s with heap := h', toks := tk } := by
  subst e
  have big := S.ok.big
  have ma : (a, o) ∈ pre ++ (a, o) :: post := List.mem_append.mpr (.inr (.head _))
  have na := S.nw _ ma
  have ha : 218 ≤ a := na.2.2.2
  have lo : ∀ x, x < 218 → x ≠ a := fun x hx e => by omega
  have kk : ∀ x ob, x ≠ a → s.heap.get? x = some ob → h'.get? x = some ob := fun x ob hx hg => (hs.2 x hx).trans hg
  have nsk : ∀ {x mm}, x < 218 → s.heap.Ns x mm → h'.Ns x mm := fun hx n => n.sameBut hs (lo _ hx)
  have nd : ((pre ++ (a, o) :: post).map (·.1)).Nodup := S.nd
  rw [List.map_append, List.map_cons] at nd
  have nd' := List.nodup_append.mp nd
  refine ⟨⟨fun x ob q => kk x ob (fun e => ?_) (S.ok.kin x ob q), nsk (by decide) S.ok.g, nsk (by decide) S.ok.b, S.ok.bi, ?_, ?_, ⟨?_, ?_, ?_⟩, S.ok.bare, ?_⟩, fun x ob h1 h2 q => ?_, S.drawn, S.os, ?_, S.off, S.hiL, fun p hp => ?_, ?_⟩
  · subst e
    have := kf_lt q
    omega
  · obtain ⟨mc, h1, h2⟩ := S.ok.nolim; exact ⟨mc, nsk (by decide) h1, h2⟩
  · obtain ⟨mc, h1, h2⟩ := S.ok.nodig; exact ⟨mc, nsk (by decide) h1, h2⟩
  · obtain ⟨ps, h1, h2⟩ := S.ok.tabs.t93; exact ⟨ps, kk _ _ (lo _ (by decide)) h1, h2⟩
  · obtain ⟨ps, h1, h2⟩ := S.ok.tabs.t59; exact ⟨ps, kk _ _ (lo _ (by decide)) h1, h2⟩
  · obtain ⟨ps, h1, h2⟩ := S.ok.tabs.bm; exact ⟨ps, kk _ _ (lo _ (by decide)) h1, h2⟩
  · show 218 ≤ h'.objs.size
    rw [hs.1]; exact big
  · exact kk x ob (fun e => by subst e; rw [na.2.2.1] at q; cases q) (S.keep x ob h1 h2 q)
  · obtain ⟨f, x, y⟩ := S.ns; exact ⟨f, x.sameBut hs (Ne.symm na.2.1), y⟩
  · have old : p ∈ pre ++ (a, o) :: post → p.1 ≠ a → h'.get? p.1 = some p.2 ∧ p.1 ≠ L ∧ b.heap.get? p.1 = none ∧ (218 : Nat) ≤ p.1 := fun hm hn => ⟨kk _ _ hn (S.nw p hm).1, (S.nw p hm).2⟩
    rcases List.mem_append.mp hp with hp | hp
    · exact old (List.mem_append.mpr (.inl hp)) fun e => nd'.2.2 p.1 (List.mem_map_of_mem hp) a (.head _) e
    · rcases List.mem_cons.mp hp with rfl | hp
      · exact ⟨ho, na.2⟩
      · exact old (List.mem_append.mpr (.inr (.tail _ hp))) fun e => (List.nodup_cons.mp nd'.2.1).1 (List.mem_map.mpr ⟨p, hp, e⟩)
  · rw [List.map_append, List.map_cons]; exact nd
/-- the locals turned -/
theorem St.stored (S : St w mg mb b L m N s) {x : Str} {v : Value} {h' : Heap} {tk : Nat} {f : Str → Option Value} (hf : ∀ x v, m.lookup x = some v → f x = some v) (hn : h'.Ns L (fun y => if y = x then some v else f y)) (hs : Heap.SameBut L s.heap h') :
    St w mg mb b L ((x, v) :: m) N { s with heap := h', toks := tk } := by
  have big := S.ok.big
  have hiL := S.hiL
  have lo : ∀ x, x < 218 → x ≠ L := fun x hx e => by omega
  have kk : ∀ x ob, x ≠ L → s.heap.get? x = some ob → h'.get? x = some ob := fun x ob hx hg => (hs.2 x hx).trans hg
  have nsk : ∀ {x mm}, x < 218 → s.heap.Ns x mm → h'.Ns x mm := fun hx n => n.sameBut hs (lo _ hx)
  refine ⟨⟨fun x ob q => kk x ob (fun e => ?_) (S.ok.kin x ob q), nsk (by decide) S.ok.g, nsk (by decide) S.ok.b, S.ok.bi, ?_, ?_, ⟨?_, ?_, ?_⟩, S.ok.bare, ?_⟩, fun x ob h1 h2 q => ?_, S.drawn, S.os, ?_, S.off, S.hiL, fun p hp => ⟨kk _ _ (S.nw p hp).2.1 (S.nw p hp).1, (S.nw p hp).2⟩, S.nd⟩
  · subst e
    have := kf_lt q
    omega
  · obtain ⟨mc, h1, h2⟩ := S.ok.nolim; exact ⟨mc, nsk (by decide) h1, h2⟩
  · obtain ⟨mc, h1, h2⟩ := S.ok.nodig; exact ⟨mc, nsk (by decide) h1, h2⟩
  · obtain ⟨ps, h1, h2⟩ := S.ok.tabs.t93; exact ⟨ps, kk _ _ (lo _ (by decide)) h1, h2⟩
  · obtain ⟨ps, h1, h2⟩ := S.ok.tabs.t59; exact ⟨ps, kk _ _ (lo _ (by decide)) h1, h2⟩
  · obtain ⟨ps, h1, h2⟩ := S.ok.tabs.bm; exact ⟨ps, kk _ _ (lo _ (by decide)) h1, h2⟩
  · show 218 ≤ h'.objs.size
    rw [hs.1]; exact big
  · exact kk x ob (fun e => by subst e; rw [S.off] at q; cases q) (S.keep x ob h1 h2 q)
  · refine ⟨_, hn, fun y u hy => ?_⟩
    rw [List.lookup_cons] at hy
    by_cases h : y = x
    · simp [h] at hy ⊢; exact hy
    · have : (y == x) = false := beq_eq_false_iff_ne.mpr h
      simp [this] at hy
      simp [h]; exact hf y u hy
end
end Mine

namespace Mine

/-- room for n more frames -/
structure Rm (A : Around) (n : Nat) : Prop where
  h : A.handled = none
  d : A.depth + n < 1000
  u : A.units + 10 * n < 9900
theorem Rm.deeper {A : Around} {n : Nat} (r : Rm A (n + 1)) (e : Env) : Rm (A.deeper e) n := ⟨r.h, by have := r.d; show A.depth + 1 + n < 1000; omega, by have := r.u; show A.units + 3 + 10 * n < 9900; omega⟩
theorem Rm.in1 {A : Around} {n : Nat} (r : Rm A (n + 1)) : Rm A.in1 n := ⟨r.h, by have := r.d; show A.depth + n < 1000; omega, by have := r.u; show A.units + 1 + 10 * n < 9900; omega⟩
theorem Rm.less {A : Around} {n k : Nat} (r : Rm A n) (h : k ≤ n) : Rm A k := ⟨r.h, by have := r.d; omega, by have := r.u; omega⟩
theorem Rm.room {A : Around} {n : Nat} (r : Rm A n) : A.depth < recursionLimit := by have := r.d; show A.depth < 1000; omega
theorem Rm.cl {A : Around} {n : Nat} (r : Rm A n) : A.units < cLine := by have := r.u; show A.units < 9900; omega

abbrev NoE : Value → Shared → Prop := fun _ _ => False

section
variable {w : World} {mg mb : Str → Option Value} {b s : Shared} {L : Nat} {m : List (Str × Value)} {N : List (Nat × Obj)} {A : Around} {E : Value → Shared → Prop} {env : Env}

theorem St.ld (S : St w mg mb b L m N s) {x : Str} {pos : Pos} {v : Value} {Q : Value → Shared → Prop} (hv : m.lookup x = some v) (h : Q v s)
    (he : env.locals = L := by rfl) (hk : env.scope.kind = .function := by rfl) (hl : env.kindOf x = some .local := by rfl) (hd : (x == ("__debug__" : Str)) = false := by decide) :
    wpAny (model PR w) A (eval (.Name x pos) env) Q E s := by
  subst he
  obtain ⟨f, n, y⟩ := S.ns
  exact wpAny_Name (wpAny_loadName_local hk hl n (y _ _ hv) h) hd
theorem St.ldn (S : St w mg mb b L m N s) {x : Str} {v : Value} {Q : Value → Shared → Prop} (hv : m.lookup x = some v) (h : Q v s)
    (he : env.locals = L := by rfl) (hk : env.scope.kind = .function := by rfl) (hl : env.kindOf x = some .local := by rfl) :
    wpAny (model PR w) A (loadName env x) Q E s := by
  subst he
  obtain ⟨f, n, y⟩ := S.ns
  exact wpAny_loadName_local hk hl n (y _ _ hv) h
theorem St.ldcell (S : St w mg mb b L m N s) {x : Str} {pos : Pos} {v : Value} {c : Nat} {Q : Value → Shared → Prop} (hm : (c, ({ cls := .type "cell", data := .cell (some v) } : Obj)) ∈ N) (h : Q v s)
    (hc : env.cells.lookup x = some c := by rfl) (hk : env.scope.kind = .function := by rfl) (hl : env.kindOf x = some .cell := by rfl) (hd : (x == ("__debug__" : Str)) = false := by decide) :
    wpAny (model PR w) A (eval (.Name x pos) env) Q E s := wpAny_Name (wpAny_loadName_cell hk hl hc ⟨_, S.get hm, rfl⟩ h) hd
theorem Ok.ldg (O : Ok w mg mb s) {x : Str} {pos : Pos} {v : Value} {Q : Value → Shared → Prop} (e : nsIn (KF w) mainGlobals x = some (some v)) (h : Q v s)
    (hg : env.globals = mainGlobals := by rfl) (hk : env.scope.kind = .function := by rfl) (hx : env.kindOf x = some .globalImplicit := by rfl) (hd : (x == ("__debug__" : Str)) = false := by decide) :
    wpAny (model PR w) A (eval (.Name x pos) env) Q E s :=
  Calls.Name_function_global hk hx (Calls.loadGlobal_global (by rw [hg]; exact O.g) (mg_of O.kin O.g e) h) hd
theorem Ok.ldb (O : Ok w mg mb s) {x : Str} {pos : Pos} {v : Value} {Q : Value → Shared → Prop} (e : nsIn (KF w) mainGlobals x = some none) (hv : bootBuiltins x = some v) (h : Q v s)
    (hn : x ≠ "__name__" := by decide) (hg : env.globals = mainGlobals := by rfl) (hb : env.builtins = builtinsNs := by rfl) (hk : env.scope.kind = .function := by rfl) (hx : env.kindOf x = some .globalImplicit := by rfl) (hd : (x == ("__debug__" : Str)) = false := by decide) :
    wpAny (model PR w) A (eval (.Name x pos) env) Q E s :=
  Calls.Name_function_global hk hx (Calls.loadGlobal_builtin (by rw [hg]; exact O.g) (mg_none_of O.kin O.g e) (by rw [hb]; exact O.b) ((O.bi x hn).trans hv) h) hd

theorem St.st (S : St w mg mb b L m N s) {x : Str} {v : Value} {Q : Unit → Shared → Prop} (h : ∀ s', St w mg mb b L ((x, v) :: m) N s' → Q () s')
    (he : env.locals = L := by rfl) (hk : env.scope.kind = .function := by rfl) (hl : env.kindOf x = some .local := by rfl) :
    wpAny (model PR w) A (storeName env x v) Q E s := by
  subst he
  obtain ⟨f, n, y⟩ := S.ns
  refine wpAny_storeName_local hl n (fun h' hn hs => h _ (S.stored y hn hs)) ?_
  rw [hk]; rfl

theorem St.cint (S : St w mg mb b L m N s) {i : Int} {k : Nat} {pos : Pos} {Q : Value → Shared → Prop} (h : ∀ t s', St w mg mb b L m N s' → Q (.int i t) s') :
    wpAny (model PR w) A (eval (.Constant (.int i) k pos) env) Q E s := wpAny_Constant_int (h _ _ S.tok)
theorem St.cstr (S : St w mg mb b L m N s) {x : Str} {k : Nat} {pos : Pos} {Q : Value → Shared → Prop} (h : ∀ t s', St w mg mb b L m N s' → Q (.str x t) s') :
    wpAny (model PR w) A (eval (.Constant (.str x) k pos) env) Q E s := wpAny_Constant_str (h _ _ S.tok)
/-- a step that makes an int | a text and turns the token alone -/
theorem St.i1 (S : St w mg mb b L m N s) {t : Sem Value} {i : Int} {Q : Value → Shared → Prop} (base : Q (.int i s.toks) { s with toks := s.toks + 1 } → wpAny (model PR w) A t Q E s) (h : ∀ t s', St w mg mb b L m N s' → Q (.int i t) s') :
    wpAny (model PR w) A t Q E s := base (h _ _ S.tok)
theorem St.s1 (S : St w mg mb b L m N s) {t : Sem Value} {x : Str} {Q : Value → Shared → Prop} (base : Q (.str x s.toks) { s with toks := s.toks + 1 } → wpAny (model PR w) A t Q E s) (h : ∀ t s', St w mg mb b L m N s' → Q (.str x t) s') :
    wpAny (model PR w) A t Q E s := base (h _ _ S.tok)
theorem St.ntup (S : St w mg mb b L m N s) {vs : List Value} {Q : Value → Shared → Prop} (h : ∀ (a : Nat) s', St w mg mb b L m ((a, { cls := .type "tuple", data := .seq vs.toArray }) :: N) s' → Q (.ref a) s') (hsz : vs.length ≤ sizeLine := by size_fits) :
    wpAny (model PR w) A (newTuple vs) Q E s := wpAny_newObj_type (h _ _ (S.pushN _)) (by show vs.toArray.size ≤ sizeLine; rw [List.size_toArray]; exact hsz)
theorem St.nlist (S : St w mg mb b L m N s) {vs : List Value} {Q : Value → Shared → Prop} (h : ∀ (a : Nat) s', St w mg mb b L m ((a, { cls := .type "list", data := .seq vs.toArray }) :: N) s' → Q (.ref a) s') (hsz : vs.length ≤ sizeLine := by size_fits) :
    wpAny (model PR w) A (newList vs) Q E s := wpAny_newObj_type (h _ _ (S.pushN _)) (by show vs.toArray.size ≤ sizeLine; rw [List.size_toArray]; exact hsz)

/-- entering a def without cells -/
theorem Ok.enter (O : Ok w mg mb s) {n : Nat} (R : Rm A (n + 1)) {f : Nat} {o : Obj} {fd : FuncData} {body : List Stmt} {vals : List Value} {binds : List (Str × Value)} {Q : Value → Shared → Prop}
    (ho : (KF w).lookup f = some o) (hd : o.data = .func fd) (hcd : s.heap.CodeRec fd.code fd.qualname) (hbody : fd.body = .stmts body) (hbind : bindArgs fd ⟨vals, []⟩ = pure binds)
    (hcell : ∀ x ∈ fd.scope.names, x.2 ≠ .cell) (hloc : ∀ x ∈ binds, fd.scope.names.lookup x.1 = some .local)
    (h : ∀ L s₁, St w mg mb s L binds.reverse [] s₁ → Rm (A.deeper (callEnv fd L f)) n →
      wpAny (model PR w) (A.deeper (callEnv fd L f)) (execs body (callEnv fd L f)) (fun fl s' => Q (match fl with | .ret v => v | _ => .none) s') NoE s₁)
    (hco : fd.scope.isCoroutine = false := by rfl) (hgen : fd.scope.isGenerator = false := by rfl) (hk : fd.scope.kind = .function := by rfl) :
    wpAny (model PR w) A (call (.ref f) vals) Q E s := by
  refine wpAny_call (codeAny_call_plain R.room (O.kin _ _ ho) hd O.nolim hcd hbody hbind hcell hloc (fun h₀ hns keep => ?_) hco hgen hk)
  have z : s.heap.objs.size < h₀.objs.size := hns.lt
  have big := O.big
  refine wpAny_mono (h s.heap.objs.size _ ⟨O.keeps keep (Nat.le_of_lt z), .of_all keep, rfl, rfl, ⟨_, hns, fun _ _ e => e⟩, ?_, big, fun _ hp => (nomatch hp), List.nodup_nil⟩ (R.deeper _)) (fun fl s' x => x) (fun _ _ x => x.elim)
  cases q : s.heap.get? s.heap.objs.size with
  | none => rfl
  | some o => exact absurd (Heap.lt_size q) (Nat.lt_irrefl _)
end
end Mine

namespace Mine
theorem kf_fill2 (w : World) : (hd.heap_39 w.params) = (hd.heap_39 w.params) ∧ PySem.Challenge.rw_bq5006_01 = PySem.Challenge.rw_bq5006_01 := by
  k_fill
  exact ⟨rfl, rfl⟩

noncomputable def o56 : {o : Obj // ∀ w : World, (hd.heap_39 w.params).lookup 56 = some o} := ⟨_, fun w => by k_is⟩
noncomputable def f56 : {f : FuncData // o56.1.data = .func f} := ⟨_, rfl⟩
theorem c56 {w : World} {h : Heap} (X : (KF w).In h) : h.CodeRec f56.1.code f56.1.qualname := ⟨55, _, _, _, rfl, X 55 _ (show (hd.heap_39 w.params).lookup 55 = some _ by k_is), rfl, rfl⟩

noncomputable def o64 : {o : Obj // ∀ w : World, (hd.heap_39 w.params).lookup 64 = some o} := ⟨_, fun w => by k_is⟩
noncomputable def f64 : {f : FuncData // o64.1.data = .func f} := ⟨_, rfl⟩
theorem c64 {w : World} {h : Heap} (X : (KF w).In h) : h.CodeRec f64.1.code f64.1.qualname := ⟨63, _, _, _, rfl, X 63 _ (show (hd.heap_39 w.params).lookup 63 = some _ by k_is), rfl, rfl⟩

noncomputable def o72 : {o : Obj // ∀ w : World, (hd.heap_39 w.params).lookup 72 = some o} := ⟨_, fun w => by k_is⟩
noncomputable def f72 : {f : FuncData // o72.1.data = .func f} := ⟨_, rfl⟩
theorem c72 {w : World} {h : Heap} (X : (KF w).In h) : h.CodeRec f72.1.code f72.1.qualname := ⟨71, _, _, _, rfl, X 71 _ (show (hd.heap_39 w.params).lookup 71 = some _ by k_is), rfl, rfl⟩

noncomputable def o98 : {o : Obj // ∀ w : World, (hd.heap_39 w.params).lookup 98 = some o} := ⟨_, fun w => by k_is⟩
noncomputable def f98 : {f : FuncData // o98.1.data = .func f} := ⟨_, rfl⟩
theorem c98 {w : World} {h : Heap} (X : (KF w).In h) : h.CodeRec f98.1.code f98.1.qualname := ⟨97, _, _, _, rfl, X 97 _ (show (hd.heap_39 w.params).lookup 97 = some _ by k_is), rfl, rfl⟩

noncomputable def o113 : {o : Obj // ∀ w : World, (hd.heap_39 w.params).lookup 113 = some o} := ⟨_, fun w => by k_is⟩
noncomputable def f113 : {f : FuncData // o113.1.data = .func f} := ⟨_, rfl⟩
theorem c113 {w : World} {h : Heap} (X : (KF w).In h) : h.CodeRec f113.1.code f113.1.qualname := ⟨112, _, _, _, rfl, X 112 _ (show (hd.heap_39 w.params).lookup 112 = some _ by k_is), rfl, rfl⟩

noncomputable def o120 : {o : Obj // ∀ w : World, (hd.heap_39 w.params).lookup 120 = some o} := ⟨_, fun w => by k_is⟩
noncomputable def f120 : {f : FuncData // o120.1.data = .func f} := ⟨_, rfl⟩
theorem c120 {w : World} {h : Heap} (X : (KF w).In h) : h.CodeRec f120.1.code f120.1.qualname := ⟨119, _, _, _, rfl, X 119 _ (show (hd.heap_39 w.params).lookup 119 = some _ by k_is), rfl, rfl⟩

noncomputable def o132 : {o : Obj // ∀ w : World, (hd.heap_39 w.params).lookup 132 = some o} := ⟨_, fun w => by k_is⟩
noncomputable def f132 : {f : FuncData // o132.1.data = .func f} := ⟨_, rfl⟩
theorem c132 {w : World} {h : Heap} (X : (KF w).In h) : h.CodeRec f132.1.code f132.1.qualname := ⟨131, _, _, _, rfl, X 131 _ (show (hd.heap_39 w.params).lookup 131 = some _ by k_is), rfl, rfl⟩

noncomputable def o139 : {o : Obj // ∀ w : World, (hd.heap_39 w.params).lookup 139 = some o} := ⟨_, fun w => by k_is⟩
noncomputable def f139 : {f : FuncData // o139.1.data = .func f} := ⟨_, rfl⟩
theorem c139 {w : World} {h : Heap} (X : (KF w).In h) : h.CodeRec f139.1.code f139.1.qualname := ⟨138, _, _, _, rfl, X 138 _ (show (hd.heap_39 w.params).lookup 138 = some _ by k_is), rfl, rfl⟩

noncomputable def o146 : {o : Obj // ∀ w : World, (hd.heap_39 w.params).lookup 146 = some o} := ⟨_, fun w => by k_is⟩
noncomputable def f146 : {f : FuncData // o146.1.data = .func f} := ⟨_, rfl⟩
theorem c146 {w : World} {h : Heap} (X : (KF w).In h) : h.CodeRec f146.1.code f146.1.qualname := ⟨145, _, _, _, rfl, X 145 _ (show (hd.heap_39 w.params).lookup 145 = some _ by k_is), rfl, rfl⟩

noncomputable def o161 : {o : Obj // ∀ w : World, (hd.heap_39 w.params).lookup 161 = some o} := ⟨_, fun w => by k_is⟩
noncomputable def f161 : {f : FuncData // o161.1.data = .func f} := ⟨_, rfl⟩
theorem c161 {w : World} {h : Heap} (X : (KF w).In h) : h.CodeRec f161.1.code f161.1.qualname := ⟨160, _, _, _, rfl, X 160 _ (show (hd.heap_39 w.params).lookup 160 = some _ by k_is), rfl, rfl⟩

noncomputable def o186 : {o : Obj // ∀ w : World, (hd.heap_39 w.params).lookup 186 = some o} := ⟨_, fun w => by k_is⟩
noncomputable def f186 : {f : FuncData // o186.1.data = .func f} := ⟨_, rfl⟩
theorem c186 {w : World} {h : Heap} (X : (KF w).In h) : h.CodeRec f186.1.code f186.1.qualname := ⟨185, _, _, _, rfl, X 185 _ (show (hd.heap_39 w.params).lookup 185 = some _ by k_is), rfl, rfl⟩

noncomputable def o193 : {o : Obj // ∀ w : World, (hd.heap_39 w.params).lookup 193 = some o} := ⟨_, fun w => by k_is⟩
noncomputable def f193 : {f : FuncData // o193.1.data = .func f} := ⟨_, rfl⟩
theorem c193 {w : World} {h : Heap} (X : (KF w).In h) : h.CodeRec f193.1.code f193.1.qualname := ⟨192, _, _, _, rfl, X 192 _ (show (hd.heap_39 w.params).lookup 192 = some _ by k_is), rfl, rfl⟩

noncomputable def o200 : {o : Obj // ∀ w : World, (hd.heap_39 w.params).lookup 200 = some o} := ⟨_, fun w => by k_is⟩
noncomputable def f200 : {f : FuncData // o200.1.data = .func f} := ⟨_, rfl⟩
theorem c200 {w : World} {h : Heap} (X : (KF w).In h) : h.CodeRec f200.1.code f200.1.qualname := ⟨199, _, _, _, rfl, X 199 _ (show (hd.heap_39 w.params).lookup 199 = some _ by k_is), rfl, rfl⟩

noncomputable def o205 : {o : Obj // ∀ w : World, (hd.heap_39 w.params).lookup 205 = some o} := ⟨_, fun w => by k_is⟩
noncomputable def f205 : {f : FuncData // o205.1.data = .func f} := ⟨_, rfl⟩
theorem c205 {w : World} {h : Heap} (X : (KF w).In h) : h.CodeRec f205.1.code f205.1.qualname := ⟨204, _, _, _, rfl, X 204 _ (show (hd.heap_39 w.params).lookup 204 = some _ by k_is), rfl, rfl⟩

noncomputable def o212 : {o : Obj // ∀ w : World, (hd.heap_39 w.params).lookup 212 = some o} := ⟨_, fun w => by k_is⟩
noncomputable def f212 : {f : FuncData // o212.1.data = .func f} := ⟨_, rfl⟩
theorem c212 {w : World} {h : Heap} (X : (KF w).In h) : h.CodeRec f212.1.code f212.1.qualname := ⟨211, _, _, _, rfl, X 211 _ (show (hd.heap_39 w.params).lookup 211 = some _ by k_is), rfl, rfl⟩

noncomputable def o217 : {o : Obj // ∀ w : World, (hd.heap_39 w.params).lookup 217 = some o} := ⟨_, fun w => by k_is⟩
noncomputable def f217 : {f : FuncData // o217.1.data = .func f} := ⟨_, rfl⟩
theorem c217 {w : World} {h : Heap} (X : (KF w).In h) : h.CodeRec f217.1.code f217.1.qualname := ⟨216, _, _, _, rfl, X 216 _ (show (hd.heap_39 w.params).lookup 216 = some _ by k_is), rfl, rfl⟩

noncomputable def o32 : {o : Obj // ∀ w : World, (hd.heap_39 w.params).lookup 32 = some o} := ⟨_, fun w => by k_is⟩

noncomputable def o91 : {o : Obj // ∀ w : World, (hd.heap_39 w.params).lookup 91 = some o} := ⟨_, fun w => by k_is⟩

noncomputable def o176 : {o : Obj // ∀ w : World, (hd.heap_39 w.params).lookup 176 = some o} := ⟨_, fun w => by k_is⟩

noncomputable def o177 : {o : Obj // ∀ w : World, (hd.heap_39 w.params).lookup 177 = some o} := ⟨_, fun w => by k_is⟩

noncomputable def o178 : {o : Obj // ∀ w : World, (hd.heap_39 w.params).lookup 178 = some o} := ⟨_, fun w => by k_is⟩

noncomputable def o179 : {o : Obj // ∀ w : World, (hd.heap_39 w.params).lookup 179 = some o} := ⟨_, fun w => by k_is⟩

noncomputable def o125 : {o : Obj // ∀ w : World, (hd.heap_39 w.params).lookup 125 = some o} := ⟨_, fun w => by k_is⟩

noncomputable def o124 : {o : Obj // ∀ w : World, (hd.heap_39 w.params).lookup 124 = some o} := ⟨_, fun w => by k_is⟩

noncomputable def o49 : {o : Obj // ∀ w : World, (hd.heap_39 w.params).lookup 49 = some o} := ⟨_, fun w => by k_is⟩

noncomputable def o57 : {o : Obj // ∀ w : World, (hd.heap_39 w.params).lookup 57 = some o} := ⟨_, fun w => by k_is⟩

noncomputable def o65 : {o : Obj // ∀ w : World, (hd.heap_39 w.params).lookup 65 = some o} := ⟨_, fun w => by k_is⟩

noncomputable def o154 : {o : Obj // ∀ w : World, (hd.heap_39 w.params).lookup 154 = some o} := ⟨_, fun w => by k_is⟩

noncomputable def o71 : {o : Obj // ∀ w : World, (hd.heap_39 w.params).lookup 71 = some o} := ⟨_, fun w => by k_is⟩

noncomputable def o97 : {o : Obj // ∀ w : World, (hd.heap_39 w.params).lookup 97 = some o} := ⟨_, fun w => by k_is⟩

noncomputable def o63 : {o : Obj // ∀ w : World, (hd.heap_39 w.params).lookup 63 = some o} := ⟨_, fun w => by k_is⟩

noncomputable def o74 : {o : Obj // ∀ w : World, (hd.heap_39 w.params).lookup 74 = some o} := ⟨_, fun w => by k_is⟩

noncomputable def o100 : {o : Obj // ∀ w : World, (hd.heap_39 w.params).lookup 100 = some o} := ⟨_, fun w => by k_is⟩

noncomputable def o78 : {o : Obj // ∀ w : World, (hd.heap_39 w.params).lookup 78 = some o} := ⟨_, fun w => by k_is⟩

noncomputable def o104 : {o : Obj // ∀ w : World, (hd.heap_39 w.params).lookup 104 = some o} := ⟨_, fun w => by k_is⟩

noncomputable def o171 : {o : Obj // ∀ w : World, (hd.heap_39 w.params).lookup 171 = some o} := ⟨_, fun w => by k_is⟩

theorem g_78 (w : World) : nsIn (hd.heap_39 w.params) mainGlobals "TableMetadata" = some (some (.ref 78)) := by k_is

theorem g_104 (w : World) : nsIn (hd.heap_39 w.params) mainGlobals "TableMetadataV3" = some (some (.ref 104)) := by k_is

theorem g_113 (w : World) : nsIn (hd.heap_39 w.params) mainGlobals "protect_name" = some (some (.ref 113)) := by k_is

theorem g_120 (w : World) : nsIn (hd.heap_39 w.params) mainGlobals "protect_value" = some (some (.ref 120)) := by k_is

theorem g_125 (w : World) : nsIn (hd.heap_39 w.params) mainGlobals "valid_cql3_word_re" = some (some (.ref 125)) := by k_is

theorem g_132 (w : World) : nsIn (hd.heap_39 w.params) mainGlobals "is_valid_name" = some (some (.ref 132)) := by k_is

theorem g_139 (w : World) : nsIn (hd.heap_39 w.params) mainGlobals "maybe_escape_name" = some (some (.ref 139)) := by k_is

theorem g_146 (w : World) : nsIn (hd.heap_39 w.params) mainGlobals "escape_name" = some (some (.ref 146)) := by k_is

theorem g_171 (w : World) : nsIn (hd.heap_39 w.params) mainGlobals "ColumnMetadata" = some (some (.ref 171)) := by k_is

theorem g_176 (w : World) : nsIn (hd.heap_39 w.params) mainGlobals "_law_maps" = some (some (.ref 176)) := by k_is

theorem g_177 (w : World) : nsIn (hd.heap_39 w.params) mainGlobals "_law_others" = some (some (.ref 177)) := by k_is

theorem g_178 (w : World) : nsIn (hd.heap_39 w.params) mainGlobals "_law_names" = some (some (.ref 178)) := by k_is

theorem g_179 (w : World) : nsIn (hd.heap_39 w.params) mainGlobals "_law_shown" = some (some (.ref 179)) := by k_is

theorem g_186 (w : World) : nsIn (hd.heap_39 w.params) mainGlobals "_law_text" = some (some (.ref 186)) := by k_is

theorem g_193 (w : World) : nsIn (hd.heap_39 w.params) mainGlobals "_law_options" = some (some (.ref 193)) := by k_is

theorem g_200 (w : World) : nsIn (hd.heap_39 w.params) mainGlobals "_law_quoted" = some (some (.ref 200)) := by k_is

theorem g_205 (w : World) : nsIn (hd.heap_39 w.params) mainGlobals "_law_lines" = some (some (.ref 205)) := by k_is

theorem g_212 (w : World) : nsIn (hd.heap_39 w.params) mainGlobals "_law_fresh" = some (some (.ref 212)) := by k_is

theorem g_32 (w : World) : nsIn (hd.heap_39 w.params) mainGlobals "cql_keywords_reserved" = some (some (.ref 32)) := by k_is

theorem n_len (w : World) : nsIn (hd.heap_39 w.params) mainGlobals "len" = some none := by k_is

theorem n_range (w : World) : nsIn (hd.heap_39 w.params) mainGlobals "range" = some none := by k_is

theorem n_isinstance (w : World) : nsIn (hd.heap_39 w.params) mainGlobals "isinstance" = some none := by k_is

theorem n_dict (w : World) : nsIn (hd.heap_39 w.params) mainGlobals "dict" = some none := by k_is

theorem n_str (w : World) : nsIn (hd.heap_39 w.params) mainGlobals "str" = some none := by k_is

theorem n_list (w : World) : nsIn (hd.heap_39 w.params) mainGlobals "list" = some none := by k_is

theorem n_sorted (w : World) : nsIn (hd.heap_39 w.params) mainGlobals "sorted" = some none := by k_is

theorem n_int (w : World) : nsIn (hd.heap_39 w.params) mainGlobals "int" = some none := by k_is

theorem n_float (w : World) : nsIn (hd.heap_39 w.params) mainGlobals "float" = some none := by k_is

theorem n_bool (w : World) : nsIn (hd.heap_39 w.params) mainGlobals "bool" = some none := by k_is

end Mine

namespace Mine
section
variable {w : World} {mg mb : Str → Option Value} {b s : Shared} {L : Nat} {m : List (Str × Value)} {N : List (Nat × Obj)} {A : Around} {E : Value → Shared → Prop} {env : Env} {M : Model}
abbrev Rest (M : Model) (A : Around) (env : Env) (rest : List Stmt) (Q : Flow → Shared → Prop) (E : Value → Shared → Prop) : Flow → Shared → Prop :=
  fun f s' => match f with | .next => wpAny M A (execs rest env) Q E s' | f => Q f s'
theorem x_assign {x : Str} {p p' : Pos} {value : Expr} {rest : List Stmt} {Q : Flow → Shared → Prop}
    (h : wpAny M A (eval value env) (fun v s₁ => wpAny M A (storeName env x v) (fun _ s' => wpAny M A (execs rest env) Q E s') E s₁) E s)
    (hs : swapsWith value (some (.Name x p')) p.line env = pure false := by rfl) :
    wpAny M A (execs (.Assign [.Name x p'] value p :: rest) env) Q E s := wpAny_execs_cons (wpAny_Assign_Name h hs)
theorem x_return {e : Expr} {p : Pos} {rest : List Stmt} {Q : Flow → Shared → Prop} (h : wpAny M A (eval e env) (fun v s' => Q (.ret v) s') E s) :
    wpAny M A (execs (.Return (some e) p :: rest) env) Q E s := wpAny_execs_cons (wpAny_Return_some h)
theorem x_if {test : Expr} {body orelse rest : List Stmt} {p : Pos} {Q : Flow → Shared → Prop}
    (h : wpAny M A (isTrue test env (eval test env)) (fun b s₂ => if b = true then wpAny M A (execs body env) (Rest M A env rest Q E) E s₂ else wpAny M A (execs orelse env) (Rest M A env rest Q E) E s₂) E s) :
    wpAny M A (execs (.If test body orelse p :: rest) env) Q E s := wpAny_execs_cons (wpAny_If h)
theorem x_expr {e : Expr} {p : Pos} {rest : List Stmt} {Q : Flow → Shared → Prop} (h : wpAny M A (eval e env) (fun v s' => v = .none ∧ wpAny M A (execs rest env) Q E s') E s)
    (hi : interactive env = false := by rfl) (hs : swapsWith e none p.line env = pure false := by rfl) :
    wpAny M A (execs (.Expr e p :: rest) env) Q E s :=
  wpAny_execs_cons (wpAny_Expr (wpAny_mono h (fun v s' h' => by obtain ⟨rfl, h'⟩ := h'; exact h') fun _ _ x => x) hi hs)
theorem x_aug {x : Str} {p p' : Pos} {op : Operator} {value : Expr} {rest : List Stmt} {Q : Flow → Shared → Prop}
    (h : wpAny M A (loadName env x) (fun old s₁ => wpAny M A (eval value env) (fun v s₂ => wpAny M A (inplaceOp op old v)
      (fun r s₃ => wpAny M A (storeName env x r) (fun _ s' => wpAny M A (execs rest env) Q E s') E s₃) E s₂) E s₁) E s) :
    wpAny M A (execs (.AugAssign (.Name x p') op value p :: rest) env) Q E s := wpAny_execs_cons (wpAny_AugAssign_Name h)
theorem x_nil {Q : Flow → Shared → Prop} (h : Q .next s) : wpAny M A (execs [] env) Q E s := wpAny_execs_nil h

theorem St.ld2 (S : St w mg mb b L m N s) {x : Str} {pos : Pos} {v : Value} {Q : Value → Shared → Prop} (hv : m.lookup x = some v) (h : Q v s)
    (he : env.locals = L := by rfl) (hk : env.scope.kind = .function := by rfl) (hl : env.kindOf x = some .local := by rfl) (hd : (x == ("__debug__" : Str)) = false := by decide) :
    wpAny (model PR w) A (eval (.Name x pos) env) Q E s := S.ld hv h he hk hl hd
end
end Mine

namespace Mine
def freedO : Obj := { cls := .none, data := .freed }
noncomputable def dropH (h : Heap) : List Nat → Heap
  | [] => h
  | a :: as => (dropH h as).update a fun _ => freedO
theorem get_freed (h : Heap) (a : Nat) : (h.update a fun _ => freedO).get? a = none := by
  obtain ⟨objs, l⟩ := h
  unfold Heap.get? Heap.update
  simp only [Array.getElem?_modify]
  simp only [if_true]
  cases objs[a]? <;> simp [freedO]
theorem dropH_get (h : Heap) (as : List Nat) (x : Nat) : (dropH h as).get? x = if x ∈ as then none else h.get? x := by
  induction as with
  | nil => simp [dropH]
  | cons a as ih =>
    unfold dropH
    by_cases e : x = a
    · subst e
      rw [get_freed]; simp
    · rw [Heap.get?_update_other _ _ (Ne.symm e), ih]
      simp [e]
section
variable {w : World} {mg mb : Str → Option Value} {b b' s s' : Shared} {L : Nat} {m : List (Str × Value)} {N : List (Nat × Obj)} {A : Around} {E : Value → Shared → Prop} {env : Env}

theorem St.upd' (S : St w mg mb b L m N s) {a : Nat} {o o' : Obj} {pre post : List (Nat × Obj)} (e : N = pre ++ (a, o) :: post) {h' : Heap} {tk : Nat} (kk : ∀ (x : Nat) ob, x ≠ a → s.heap.get? x = some ob → h'.get? x = some ob) (ho : h'.get? a = some o') :
    St w mg mb b L m (pre ++ (a, o') :: post) { s with heap := h', toks := tk } := by
  subst e
  have ma : (a, o) ∈ pre ++ (a, o) :: post := List.mem_append.mpr (.inr (.head _))
  have na := S.nw _ ma
  have ha : 218 ≤ a := na.2.2.2
  have lo : ∀ x, x < 218 → x ≠ a := fun x hx e => by omega
  have nsk : ∀ {x mm}, x < 218 → s.heap.Ns x mm → h'.Ns x mm := fun {x mm} hx n => let ⟨o, es, ep, ho, r⟩ := n; ⟨o, es, ep, kk _ _ (lo _ hx) ho, r⟩
  have nd : ((pre ++ (a, o) :: post).map (·.1)).Nodup := S.nd
  rw [List.map_append, List.map_cons] at nd
  have nd' := List.nodup_append.mp nd
  refine ⟨⟨fun x ob q => kk x ob (fun e => ?_) (S.ok.kin x ob q), nsk (by decide) S.ok.g, nsk (by decide) S.ok.b, S.ok.bi, ?_, ?_, ⟨?_, ?_, ?_⟩, S.ok.bare, ?_⟩, fun x ob h1 h2 q => ?_, S.drawn, S.os, ?_, S.off, S.hiL, fun p hp => ?_, ?_⟩
  · subst e
    have := kf_lt q
    omega
  · obtain ⟨mc, h1, h2⟩ := S.ok.nolim; exact ⟨mc, nsk (by decide) h1, h2⟩
  · obtain ⟨mc, h1, h2⟩ := S.ok.nodig; exact ⟨mc, nsk (by decide) h1, h2⟩
  · obtain ⟨ps, h1, h2⟩ := S.ok.tabs.t93; exact ⟨ps, kk _ _ (lo _ (by decide)) h1, h2⟩
  · obtain ⟨ps, h1, h2⟩ := S.ok.tabs.t59; exact ⟨ps, kk _ _ (lo _ (by decide)) h1, h2⟩
  · obtain ⟨ps, h1, h2⟩ := S.ok.tabs.bm; exact ⟨ps, kk _ _ (lo _ (by decide)) h1, h2⟩
  · have : a < h'.objs.size := Heap.lt_size ho
    show 218 ≤ h'.objs.size
    omega
  · exact kk x ob (fun e => by subst e; rw [na.2.2.1] at q; cases q) (S.keep x ob h1 h2 q)
  · obtain ⟨f, ⟨o, es, ep, ho, r⟩, y⟩ := S.ns
    exact ⟨f, ⟨o, es, ep, kk _ _ (Ne.symm na.2.1) ho, r⟩, y⟩
  · have old : p ∈ pre ++ (a, o) :: post → p.1 ≠ a → h'.get? p.1 = some p.2 ∧ p.1 ≠ L ∧ b.heap.get? p.1 = none ∧ (218 : Nat) ≤ p.1 := fun hm hn => ⟨kk _ _ hn (S.nw p hm).1, (S.nw p hm).2⟩
    rcases List.mem_append.mp hp with hp | hp
    · exact old (List.mem_append.mpr (.inl hp)) fun e => nd'.2.2 p.1 (List.mem_map_of_mem hp) a (.head _) e
    · rcases List.mem_cons.mp hp with rfl | hp
      · exact ⟨ho, na.2⟩
      · exact old (List.mem_append.mpr (.inr (.tail _ hp))) fun e => (List.nodup_cons.mp nd'.2.1).1 (List.mem_map.mpr ⟨p, hp, e⟩)
  · rw [List.map_append, List.map_cons]; exact nd

/-- what N₂ holds goes over to the base -/
theorem St.rebase {N₁ N₂ : List (Nat × Obj)} (S : St w mg mb b L m (N₁ ++ N₂) s) :
    ∃ b', Aft b b' ∧ (∀ p ∈ N₂, b'.heap.get? p.1 = some p.2) ∧ St w mg mb b' L m N₁ s ∧ (∀ a o, b'.heap.get? a = some o → s.heap.get? a = some o) := by
  refine ⟨{ s with heap := dropH s.heap (L :: N₁.map (·.1)) }, ⟨fun a o h1 h2 e => ?_, S.drawn, S.os⟩, fun p hp => ?_, ⟨S.ok, fun a o h1 h2 e => ?_, rfl, rfl, S.ns, ?_, S.hiL, fun p hp => ?_, ?_⟩, fun a o e => ?_⟩
  · show (dropH _ _).get? a = some o
    rw [dropH_get, if_neg, S.keep a o h1 h2 e]
    intro hm
    rcases List.mem_cons.mp hm with rfl | hm
    · rw [S.off] at e; cases e
    · obtain ⟨p, hp, rfl⟩ := List.mem_map.mp hm
      rw [(S.nw p (List.mem_append.mpr (.inl hp))).2.2.1] at e; cases e
  · show (dropH _ _).get? p.1 = some p.2
    rw [dropH_get, if_neg, (S.nw p (List.mem_append.mpr (.inr hp))).1]
    intro hm
    rcases List.mem_cons.mp hm with h | hm
    · exact (S.nw p (List.mem_append.mpr (.inr hp))).2.1 h
    · have nd := S.nd
      rw [List.map_append] at nd
      exact (List.nodup_append.mp nd).2.2 p.1 hm p.1 (List.mem_map_of_mem hp) rfl
  · have e' : (dropH s.heap (L :: N₁.map (·.1))).get? a = some o := e
    rw [dropH_get] at e'
    split at e'
    · cases e'
    · exact e'
  · show (dropH _ _).get? L = none
    rw [dropH_get, if_pos (.head _)]
  · have q := S.nw p (List.mem_append.mpr (.inl hp))
    refine ⟨q.1, q.2.1, ?_, q.2.2.2⟩
    show (dropH _ _).get? p.1 = none
    rw [dropH_get, if_pos (.tail _ (List.mem_map_of_mem hp))]
  · have nd := S.nd
    rw [List.map_append] at nd
    exact (List.nodup_append.mp nd).1
  · have e' : (dropH s.heap (L :: N₁.map (·.1))).get? a = some o := e
    rw [dropH_get] at e'
    split at e'
    · cases e'
    · exact e'
theorem St.weaken (S : St w mg mb b' L m N s) (a : Aft b b') : St w mg mb b L m N s := by
  have no : ∀ x : Nat, 218 ≤ x → b'.heap.get? x = none → b.heap.get? x = none := fun x hx hn => by
    cases q : b.heap.get? x with
    | none => rfl
    | some o => rw [a.keep x o (by omega) (by omega) q] at hn; cases hn
  exact ⟨S.ok, a.keep.trans S.keep, S.drawn.trans a.drawn, S.os.trans a.os, S.ns, no _ S.hiL S.off, S.hiL, fun p hp => let q := S.nw p hp; ⟨q.1, q.2.1, no _ q.2.2.2 q.2.2.1, q.2.2.2⟩, S.nd⟩
theorem St.perm (S : St w mg mb b L m N s) {N' : List (Nat × Obj)} (hp : N'.Perm N) : St w mg mb b L m N' s :=
  ⟨S.ok, S.keep, S.drawn, S.os, S.ns, S.off, S.hiL, fun p h => S.nw p (hp.mem_iff.mp h), (hp.map _).nodup_iff.mpr S.nd⟩
theorem St.locals (S : St w mg mb b L m N s) {m' : List (Str × Value)} (h : ∀ x v, m'.lookup x = some v → m.lookup x = some v) : St w mg mb b L m' N s :=
  ⟨S.ok, S.keep, S.drawn, S.os, let ⟨f, n, y⟩ := S.ns; ⟨f, n, fun x v e => y x v (h x v e)⟩, S.off, S.hiL, S.nw, S.nd⟩
theorem St.local1 (S : St w mg mb b L m N s) {x : Str} {v : Value} (h : m.lookup x = some v) : St w mg mb b L [(x, v)] N s := S.locals fun y u e => by
  rw [List.lookup_cons] at e
  by_cases q : y = x
  · subst q; simp at e; subst e; exact h
  · have : (y == x) = false := beq_eq_false_iff_ne.mpr q
    simp [this] at e
theorem St.local_cons {m' : List (Str × Value)} (S : St w mg mb b L m N s) {x : Str} {v : Value} (h : m.lookup x = some v) (h' : ∀ y u, m'.lookup y = some u → m.lookup y = some u) : St w mg mb b L ((x, v) :: m') N s := S.locals fun y u e => by
  rw [List.lookup_cons] at e
  by_cases q : y = x
  · subst q; simp at e; subst e; exact h
  · have : (y == x) = false := beq_eq_false_iff_ne.mpr q
    simp [this] at e
    exact h' y u e

/-- a for loop: it the iterator; J what holds between the turns -/
theorem for_loop {target : Expr} {body : List Stmt} {it : Nat} {oi : Obj} {n : Nat} {G : Nat → Obj → Prop} {P : Nat → Value → List (Nat × Obj) → Prop} {B : Shared → Prop} {J : Nat → Shared → List (Str × Value) → List (Nat × Obj) → Prop} {Q : Flow → Shared → Prop}
    (hB : ∀ b b', B b → Aft b b' → B b')
    (nxt : ∀ i b L m N oi s (Q : Value → Shared → Prop), i < n → G i oi → B b → St w mg mb b L m ((it, oi) :: N) s →
      (∀ v oi' N₁ s', P i v N₁ → G (i + 1) oi' → St w mg mb b L m ((it, oi') :: (N₁ ++ N)) s' → Q v s') →
      wpAny (model PR w) A (pyNext (.ref it)) (fun r s₁ => match r with | none => False | some v => wpAny (model PR w) A (letOwnedTupleGo target (.ref it) v) (fun _ s₂ => Q v s₂) NoE s₁) NoE s)
    (fin : ∀ b L m N oi s (Q : Shared → Prop), G n oi → B b → St w mg mb b L m ((it, oi) :: N) s → (∀ s', St w mg mb b L m N s' → Q s') →
      wpAny (model PR w) A (pyNext (.ref it)) (fun r s₁ => match r with | none => Q s₁ | some _ => False) NoE s)
    (S : St w mg mb b L m ((it, oi) :: N) s) (hG : G 0 oi) (b0 : B b) (hj : J 0 b m N)
    (turn : ∀ i v b' m' N' N₁ oi' s', i < n → P i v N₁ → Aft b b' → J i b' m' N' → St w mg mb b' L m' ((it, oi') :: (N₁ ++ N')) s' →
      wpAny (model PR w) A (assign target env v) (fun _ s₂ => wpAny (model PR w) A (execs body env) (fun f s₃ => match f with
        | .next | .cont => ∃ b'' m'' N'', Aft b' b'' ∧ J (i + 1) b'' m'' N'' ∧ St w mg mb b'' L m'' ((it, oi') :: N'') s₃
        | .brk => Q .next s₃
        | .ret v => Q (.ret v) s₃) NoE s₂) NoE s')
    (done : ∀ b' m' N' s', Aft b b' → J n b' m' N' → St w mg mb b' L m' N' s' → Q .next s') :
    codeAny (model PR w) A (.forLoop target (.ref it) body [] env) (fun r s' => match r with | .ok f => Q f s' | .error e => cameBackBy (model PR w) A env NoE e s') s := by
  refine codeAny_forLoop_any (fun k s' => ∃ i b' m' N' oi', k = n - i ∧ i ≤ n ∧ G i oi' ∧ Aft b b' ∧ J i b' m' N' ∧ St w mg mb b' L m' ((it, oi') :: N') s') ?_ n ⟨0, b, m, N, oi, rfl, Nat.zero_le _, hG, .refl _, hj, S⟩
  rintro k s' ⟨i, b', m', N', oi', rfl, hi, hg, ha, hJ, S'⟩
  by_cases hlt : i < n
  · refine wpAny_mono (nxt i b' L m' N' oi' s' (fun v s₁ => wpAny (model PR w) A (assign target env v) (fun _ s₂ => wpAny (model PR w) A (execs body env) (fun f s₃ => match f with
        | .next | .cont => ∃ k', k' < n - i ∧ ∃ i b' m' N' oi', k' = n - i ∧ i ≤ n ∧ G i oi' ∧ Aft b b' ∧ J i b' m' N' ∧ St w mg mb b' L m' ((it, oi') :: N') s₃
        | .brk => Q .next s₃
        | .ret v => Q (.ret v) s₃) (notedBy (model PR w) A env fun e s' => cameBackBy (model PR w) A env NoE e s') s₂) (notedBy (model PR w) A env fun e s' => cameBackBy (model PR w) A env NoE e s') s₁) hlt hg (hB _ _ b0 ha) S' ?_) (fun r s₁ h => ?_) (fun _ _ x => x.elim)
    · intro v oi'' N₁ s₂ hP hg' S₂
      refine wpAny_mono (turn i v b' m' N' N₁ oi'' s₂ hlt hP ha hJ S₂) (fun _ s₃ h₃ => wpAny_mono h₃ (fun f s₄ h₄ => ?_) fun _ _ x => x.elim) fun _ _ x => x.elim
      have nx : (∃ b'' m'' N'', Aft b' b'' ∧ J (i + 1) b'' m'' N'' ∧ St w mg mb b'' L m'' ((it, oi'') :: N'') s₄) → ∃ k', k' < n - i ∧ ∃ i b' m' N' oi', k' = n - i ∧ i ≤ n ∧ G i oi' ∧ Aft b b' ∧ J i b' m' N' ∧ St w mg mb b' L m' ((it, oi') :: N') s₄ := by
        rintro ⟨b'', m'', N'', a'', J'', S''⟩
        exact ⟨n - (i + 1), by omega, i + 1, b'', m'', N'', oi'', rfl, hlt, hg', ha.trans a'', J'', S''⟩
      cases f with
      | next => exact nx h₄
      | cont => exact nx h₄
      | brk => exact h₄
      | ret v => exact h₄
    · cases r with
      | none => exact h.elim
      | some v => exact wpAny_mono h (fun _ _ x => x) fun _ _ x => x.elim
  · have e : i = n := Nat.le_antisymm hi (Nat.not_lt.mp hlt)
    subst e
    refine wpAny_mono (fin b' L m' N' oi' s' (fun s₁ => Q .next s₁) hg (hB _ _ b0 ha) S' fun s₁ S₁ => done b' m' N' s₁ ha hJ S₁) (fun r s₁ h => ?_) fun _ _ x => x.elim
    cases r with
    | none => exact wpAny_execs_nil h
    | some v => exact h.elim
end
end Mine

namespace Mine
theorem letOwned_no {M : Model} {A : Around} {E : Value → Shared → Prop} {s : Shared} {target : Expr} {it : Nat} {v : Value} {o : Obj} {n : String} {Q : Unit → Shared → Prop} (ho : s.heap.get? it = some o) (hc : o.cls = .type n)
    (hn : (["enumerate", "zip", "dict_itemiterator", "dict_reverseitemiterator", "odict_iterator", "itertools.zip_longest", "itertools.pairwise"] : List String).contains n = false) (h : Q () s) :
    wpAny M A (letOwnedTupleGo target (.ref it) v) Q E s := by
  have key : ∀ a, wpAny M A (do
      let o ← load it
      match o.cls, o.data with
      | .type n, .fields vs =>
        if ["enumerate", "zip", "dict_itemiterator", "dict_reverseitemiterator", "odict_iterator", "itertools.zip_longest", "itertools.pairwise"].contains n && vs[0]? == some (rawInt a) then
          rule "for.unpacks-the-owned-tuple"
          updateField it 0 .none
      | _, _ => pure ()) Q E s := by
    intro a
    refine wpAny_bind (wpAny_load ho ?_)
    rw [hc]
    split
    · rename_i e1 e2
      cases e1
      rw [hn]
      exact wpAny_pure h
    · exact wpAny_pure h
  cases target <;> first | exact wpAny_pure h | (cases v <;> first | exact wpAny_pure h | exact key _)

section
variable {w : World} {mg mb : Str → Option Value} {b b' s s' : Shared} {L : Nat} {m : List (Str × Value)} {N : List (Nat × Obj)} {A : Around} {E : Value → Shared → Prop} {env : Env}
theorem x_for {M : Model} {target iter : Expr} {body orelse rest : List Stmt} {p : Pos} {Q : Flow → Shared → Prop}
    (h : wpAny M A (eval iter env) (fun x s₁ => wpAny M A (pyIter x) (fun it s₂ =>
      codeAny M A (.forLoop target it body orelse env) (fun r s' => match r with | .ok f => Rest M A env rest Q E f s' | .error e => cameBackBy M A env E e s') s₂) E s₁) E s)
    (hs : ∀ x, foldedSetIterable iter env x = pure x := by intro _; rfl) :
    wpAny M A (execs (.For target iter body orelse p :: rest) env) Q E s := wpAny_execs_cons (wpAny_For h hs)


/-- an own object that is not followed any more may turn -/
theorem St.lose (S : St w mg mb b L m N s) {a : Nat} {o : Obj} {N' : List (Nat × Obj)} (e : N = (a, o) :: N') {h' : Heap} {tk : Nat} (kk : ∀ (x : Nat) ob, x ≠ a → s.heap.get? x = some ob → h'.get? x = some ob) :
    St w mg mb b L m N' { s with heap := h', toks := tk } := by
  subst e
  have na := S.nw _ (.head _)
  have ha : 218 ≤ a := na.2.2.2
  have lo : ∀ x, x < 218 → x ≠ a := fun x hx e => by omega
  have nsk : ∀ {x mm}, x < 218 → s.heap.Ns x mm → h'.Ns x mm := fun {x mm} hx n => let ⟨o, es, ep, ho, r⟩ := n; ⟨o, es, ep, kk _ _ (lo _ hx) ho, r⟩
  have nL : ∃ f, h'.Ns L f ∧ ∀ x v, m.lookup x = some v → f x = some v := let ⟨f, ⟨o, es, ep, ho, r⟩, y⟩ := S.ns; ⟨f, ⟨o, es, ep, kk _ _ (Ne.symm na.2.1) ho, r⟩, y⟩
  have nd := List.nodup_cons.mp (show ((a, o).1 :: N'.map (·.1)).Nodup from S.nd)
  refine ⟨⟨fun x ob q => kk x ob (fun e => ?_) (S.ok.kin x ob q), nsk (by decide) S.ok.g, nsk (by decide) S.ok.b, S.ok.bi, ?_, ?_, ⟨?_, ?_, ?_⟩, S.ok.bare, ?_⟩, fun x ob h1 h2 q => ?_, S.drawn, S.os, nL, S.off, S.hiL, fun p hp => ?_, nd.2⟩
  · subst e
    have := kf_lt q
    omega
  · obtain ⟨mc, h1, h2⟩ := S.ok.nolim; exact ⟨mc, nsk (by decide) h1, h2⟩
  · obtain ⟨mc, h1, h2⟩ := S.ok.nodig; exact ⟨mc, nsk (by decide) h1, h2⟩
  · obtain ⟨ps, h1, h2⟩ := S.ok.tabs.t93; exact ⟨ps, kk _ _ (lo _ (by decide)) h1, h2⟩
  · obtain ⟨ps, h1, h2⟩ := S.ok.tabs.t59; exact ⟨ps, kk _ _ (lo _ (by decide)) h1, h2⟩
  · obtain ⟨ps, h1, h2⟩ := S.ok.tabs.bm; exact ⟨ps, kk _ _ (lo _ (by decide)) h1, h2⟩
  · have h1 : L < h'.objs.size := let ⟨_, a, _⟩ := nL; a.lt
    have := S.hiL
    show 218 ≤ h'.objs.size
    omega
  · exact kk x ob (fun e => by subst e; rw [na.2.2.1] at q; cases q) (S.keep x ob h1 h2 q)
  · refine ⟨kk _ _ (fun e => nd.1 (List.mem_map.mpr ⟨p, hp, e⟩)) (S.nw p (.tail _ hp)).1, (S.nw p (.tail _ hp)).2⟩

theorem St.add (S : St w mg mb b L m N s) {t : Nat} {o : Obj} (ho : s.heap.get? t = some o) (hb : b.heap.get? t = none) (hL : t ≠ L) (hN : ∀ p ∈ N, p.1 ≠ t) (h : 218 ≤ t) : St w mg mb b L m ((t, o) :: N) s :=
  ⟨S.ok, S.keep, S.drawn, S.os, S.ns, S.off, S.hiL, fun p hp => by
    rcases List.mem_cons.mp hp with rfl | hp
    · exact ⟨ho, hL, hb, h⟩
    · exact S.nw p hp, by
    rw [List.map_cons, List.nodup_cons]
    refine ⟨fun hm => ?_, S.nd⟩
    obtain ⟨p, hp, e⟩ := List.mem_map.mp hm
    exact hN p hp e⟩

def lstObj (vs : Array Value) (n : Nat) : Obj := { cls := .type "list", data := .seq vs n }
/-- over a list that stands -/
theorem for_list {k : Nat} (R : Rm A k) {target : Expr} {body : List Stmt} {l : Nat} {vs : List Value} {J : Nat → Shared → List (Str × Value) → List (Nat × Obj) → Prop} {Q : Flow → Shared → Prop}
    (S : St w mg mb b L m N s) (hl : b.heap.IsList l vs.toArray) (h1 : l ≠ 93) (h2 : l ≠ 59) (hj : J 0 b m N)
    (turn : ∀ i v b' m' N' it oi' s', vs[i]? = some v → Aft b b' → J i b' m' N' → St w mg mb b' L m' ((it, oi') :: N') s' →
      wpAny (model PR w) A (assign target env v) (fun _ s₂ => wpAny (model PR w) A (execs body env) (fun f s₃ => match f with
        | .next | .cont => ∃ b'' m'' N'', Aft b' b'' ∧ J (i + 1) b'' m'' N'' ∧ St w mg mb b'' L m'' ((it, oi') :: N'') s₃
        | .brk => Q .next s₃
        | .ret v => Q (.ret v) s₃) NoE s₂) NoE s')
    (done : ∀ b' m' N' s', Aft b b' → J vs.length b' m' N' → St w mg mb b' L m' N' s' → Q .next s') :
    wpAny (model PR w) A (pyIter (.ref l)) (fun it s₂ =>
      codeAny (model PR w) A (.forLoop target it body [] env) (fun r s' => match r with | .ok f => Q f s' | .error e => cameBackBy (model PR w) A env NoE e s') s₂) NoE s := by
  have hls : ∀ {b' L m N s'}, b'.heap.IsList l vs.toArray → St w mg mb b' L m N s' → s'.heap.IsList l vs.toArray := fun hl S => let ⟨o, ho, r⟩ := hl; ⟨o, S.keep _ _ h1 h2 ho, r⟩
  refine wpAny_pyIter_list (hls hl S) ?_
  refine for_loop (it := s.heap.objs.size) (n := vs.length) (G := fun i o => o.cls = .type "list_iterator" ∧ o.data = .fields #[.ref l, .int i 0]) (P := fun i v N₁ => vs[i]? = some v ∧ N₁ = []) (B := fun b => b.heap.IsList l vs.toArray) (J := J)
    (fun b b' hb a => let ⟨o, ho, r⟩ := hb; ⟨o, a.keep _ _ h1 h2 ho, r⟩) ?_ ?_ (S.pushN _) ⟨rfl, rfl⟩ hl hj ?_ (fun b' m' N' s' => done b' m' N' s')
  · intro i b L m N oi s Q hi hg hb S h
    refine wpAny_pyNext_list_item (i := i) (x := vs[i]) ⟨oi, S.get (.head _), hg.1, hg.2⟩ (hls hb S) (by simp [hi]) fun h' hit hs => ?_
    obtain ⟨o', ho', hc', hd'⟩ := hit
    have S' := S.upd' (pre := []) rfl (tk := s.toks) (fun x ob hx hg => (hs.2 x hx).trans hg) ho'
    exact letOwned_no (n := "list_iterator") (S'.get (.head _)) hc' (by decide) (h _ o' [] _ ⟨by simp [hi], rfl⟩ ⟨hc', hd'⟩ S')
  · intro b L m N oi s Q hg hb S h
    refine wpAny_pyNext_list_end R.h (i := vs.length) ⟨oi, S.get (.head _), hg.1, hg.2⟩ (hls hb S) (by simp) fun h' he => ?_
    exact h _ (S.lose rfl (tk := s.toks) fun x ob hx hg => he x ob hx hg)
  · rintro i v b' m' N' N₁ oi' s' hi ⟨hv, rfl⟩ ha hJ S'
    exact turn i v b' m' N' _ oi' s' hv ha hJ S'
/-- over a dict's items; the dict stands -/
theorem for_items {k : Nat} (R : Rm A k) {elts : List Expr} {x1 : Nat} {pt : Pos} {body : List Stmt} {v d : Nat} {kvs : List (Str × Value)} {ep : Nat} {J : Nat → Shared → List (Str × Value) → List (Nat × Obj) → Prop} {Q : Flow → Shared → Prop}
    (S : St w mg mb b L m N s) (hv : s.heap.IsItemsView v d) (hd : b.heap.DictAt (strKind PR w) d kvs ep) (h1 : d ≠ 93) (h2 : d ≠ 59) (hj : J 0 b m N)
    (turn : ∀ i x val b' m' N' it oi' t key s', kvs[i]? = some (x, val) → (strKind PR w).is x key = true → Aft b b' → J i b' m' N' → St w mg mb b' L m' ((it, oi') :: (t, { cls := .type "tuple", data := .seq #[key, val] }) :: N') s' →
      wpAny (model PR w) A (assign (.Tuple elts x1 pt) env (.ref t)) (fun _ s₂ => wpAny (model PR w) A (execs body env) (fun f s₃ => match f with
        | .next | .cont => ∃ b'' m'' N'', Aft b' b'' ∧ J (i + 1) b'' m'' N'' ∧ St w mg mb b'' L m'' ((it, oi') :: N'') s₃
        | .brk => Q .next s₃
        | .ret v => Q (.ret v) s₃) NoE s₂) NoE s')
    (done : ∀ b' m' N' s', Aft b b' → J kvs.length b' m' N' → St w mg mb b' L m' N' s' → Q .next s') :
    wpAny (model PR w) A (pyIter (.ref v)) (fun it s₂ =>
      codeAny (model PR w) A (.forLoop (.Tuple elts x1 pt) it body [] env) (fun r s' => match r with | .ok f => Q f s' | .error e => cameBackBy (model PR w) A env NoE e s') s₂) NoE s := by
  have hds : ∀ {b' L m N s'}, b'.heap.DictAt (strKind PR w) d kvs ep → St w mg mb b' L m N s' → s'.heap.DictAt (strKind PR w) d kvs ep := fun hl S => let ⟨o, es, ho, r⟩ := hl; ⟨o, es, S.keep _ _ h1 h2 ho, r⟩
  refine wpAny_pyIter_items hv (hds hd S) ?_
  have S0 := S.pushN (tk := s.toks) { cls := .type "dict_itemiterator", data := .fields #[.none, .bool false, .ref d, .int 0 0, .int kvs.length 0, .int ep 0, .none, .none] }
  have hj0 := hj
  clear hj hv
  generalize s.heap.objs.size = I at S0 ⊢
  refine for_loop (it := I) (n := kvs.length) (G := fun i o => ∃ ok ov, o = { cls := .type "dict_itemiterator", dict := none, data := .fields #[.none, .bool false, .ref d, .int i 0, .int kvs.length 0, .int ep 0, ok, ov], slots := #[] })
    (P := fun i v N₁ => ∃ x val key t, kvs[i]? = some (x, val) ∧ (strKind PR w).is x key = true ∧ v = .ref t ∧ N₁ = [(t, { cls := .type "tuple", data := .seq #[key, val] })]) (B := fun b => b.heap.DictAt (strKind PR w) d kvs ep) (J := J)
    (fun b b' hb a => let ⟨o, es, ho, r⟩ := hb; ⟨o, es, a.keep _ _ h1 h2 ho, r⟩) ?_ ?_ S0 ⟨_, _, rfl⟩ hd hj0 ?_ (fun b' m' N' s' => done b' m' N' s')
  · rintro i b L m N oi s Q hi ⟨ok, ov, rfl⟩ hb S h
    have hx : kvs[i]? = some (kvs[i].1, kvs[i].2) := by simp [hi]
    refine wpAny_pyNext_items_item (it := I) (k := kvs[i].1) (v := kvs[i].2) (S.get (.head _)) (hds hb S) hx fun key h' hkey hit ht hz hk => ?_
    refine wpAny_letOwnedTupleGo_items hit fun h'' hit' hs => ?_
    have big := S.ok.big
    have lt : ∀ p ∈ (_ :: N), p.1 < s.heap.objs.size := fun p hp => Heap.lt_size (S.nw p hp).1
    have nt : s.heap.objs.size ≠ I := Nat.ne_of_gt (lt _ (.head _))
    have S' := S.upd' (pre := []) rfl (tk := s.toks) (fun x ob hx hg => (hs.2 x hx).trans (hk x ob hx hg)) hit'
    have S'' := S'.add (t := s.heap.objs.size) ((hs.2 _ nt).trans ht) (S.none_size (Nat.le_refl _) (by omega) (by omega)) (Nat.ne_of_gt S.nsl) (fun p hp => by
      rcases List.mem_cons.mp hp with rfl | hp
      · exact Ne.symm nt
      · exact Nat.ne_of_lt (lt p (.tail _ hp))) big
    exact h _ _ [(_, _)] _ ⟨_, _, key, _, hx, hkey, rfl, rfl⟩ ⟨_, _, rfl⟩ (S''.perm (.swap ..))
  · rintro b L m N oi s Q ⟨ok, ov, rfl⟩ hb S h
    refine wpAny_pyNext_items_end (it := I) R.h (S.get (.head _)) (hds hb S) (by simp) fun h' he => ?_
    exact h _ (S.lose rfl (tk := s.toks) fun x ob hx hg => he x ob hx hg)
  · rintro i v b' m' N' N₁ oi' s' hi ⟨x, val, key, t, hx, hkey, rfl, rfl⟩ ha hJ S'
    exact turn i x val b' m' N' _ oi' t key s' hx hkey ha hJ S'
end
end Mine

namespace Mine
inductive Val where
  | non
  | boo (b : Bool)
  | num (i : Int)
  | txt (x : Str)
  | m0
  | m2 (x : Str) (n : Int)
def Val.isMap : Val → Bool
  | .m0 | .m2 .. => true
  | _ => false
abbrev SK (w : World) := PySem.strKind PR w
inductive ValIn (w : World) (h : Heap) : Value → Val → Prop
  | non : ValIn w h .none .non
  | boo (b : Bool) : ValIn w h (.bool b) (.boo b)
  | num (i : Int) (t : Tok) : ValIn w h (.int i t) (.num i)
  | txt (x : Str) (t : Tok) : ValIn w h (.str x t) (.txt x)
  | m0 {a : Nat} : 218 ≤ a → h.DictOf (SK w) a [] → ValIn w h (.ref a) .m0
  | m2 {a : Nat} {x : Str} {n : Int} {t t' : Tok} : 218 ≤ a → h.DictOf (SK w) a [("class", .str x t), ("size", .int n t')] → ValIn w h (.ref a) (.m2 x n)
theorem DictOf.keep {w : World} {h h' : Heap} (k : Keep h h') {a : Nat} (ha : 218 ≤ a) {kvs} (d : h.DictOf (SK w) a kvs) : h'.DictOf (SK w) a kvs :=
  let ⟨o, es, ep, ho, r⟩ := d; ⟨o, es, ep, k a o (by omega) (by omega) ho, r⟩
theorem ValIn.keep {w : World} {h h' : Heap} (k : Keep h h') {v : Value} {x : Val} (e : ValIn w h v x) : ValIn w h' v x := by
  cases e with
  | non => exact .non
  | boo b => exact .boo b
  | num i t => exact .num i t
  | txt x t => exact .txt x t
  | m0 ha d => exact .m0 ha (DictOf.keep k ha d)
  | m2 ha d => exact .m2 ha (DictOf.keep k ha d)
abbrev tupObj (vs : Array Value) : Obj := { cls := .type "tuple", data := .seq vs }
def RowIn (w : World) (h : Heap) (v : Value) (r : Str × Val) : Prop := ∃ (t : Nat) (tk : Tok) (v' : Value), v = .ref t ∧ 218 ≤ t ∧ h.get? t = some (tupObj #[.str r.1 tk, v']) ∧ ValIn w h v' r.2
theorem RowIn.keep {w : World} {h h' : Heap} (k : Keep h h') {v r} (e : RowIn w h v r) : RowIn w h' v r :=
  let ⟨t, tk, v', a, b, c, d⟩ := e; ⟨t, tk, v', a, b, k t _ (by omega) (by omega) c, d.keep k⟩
/-- two lists item by item -/
inductive All2 {α β : Type} (R : α → β → Prop) : List α → List β → Prop
  | nil : All2 R [] []
  | cons {a b l l'} : R a b → All2 R l l' → All2 R (a :: l) (b :: l')
theorem All2.mono {α β : Type} {R R' : α → β → Prop} (h : ∀ a b, R a b → R' a b) {l l'} (x : All2 R l l') : All2 R' l l' := by
  induction x with
  | nil => exact .nil
  | cons a _ ih => exact .cons (h _ _ a) ih
theorem All2.length {α β : Type} {R : α → β → Prop} {l l'} (x : All2 R l l') : l.length = l'.length := by
  induction x with
  | nil => rfl
  | cons _ _ ih => simp [ih]
theorem All2.get {α β : Type} {R : α → β → Prop} {l l'} (x : All2 R l l') {i : Nat} {a : α} (h : l[i]? = some a) : ∃ b, l'[i]? = some b ∧ R a b := by
  induction x generalizing i with
  | nil => simp at h
  | @cons a b l l' r _ ih =>
    cases i with
    | zero => simp at h; subst h; exact ⟨b, rfl, r⟩
    | succ i => exact ih (by simpa using h)
theorem All2.get' {α β : Type} {R : α → β → Prop} {l l'} (x : All2 R l l') {i : Nat} {b : β} (h : l'[i]? = some b) : ∃ a, l[i]? = some a ∧ R a b := by
  induction x generalizing i with
  | nil => simp at h
  | @cons a b l l' r _ ih =>
    cases i with
    | zero => simp at h; subst h; exact ⟨a, rfl, r⟩
    | succ i => exact ih (by simpa using h)
theorem All2.snoc {α β : Type} {R : α → β → Prop} {l l' a b} (x : All2 R l l') (r : R a b) : All2 R (l ++ [a]) (l' ++ [b]) := by
  induction x with
  | nil => exact .cons r .nil
  | cons q _ ih => exact .cons q ih
theorem All2.append {α β : Type} {R : α → β → Prop} {l l' k k'} (x : All2 R l l') (y : All2 R k k') : All2 R (l ++ k) (l' ++ k') := by
  induction x with
  | nil => exact y
  | cons q _ ih => exact .cons q ih
theorem All2.take {α β : Type} {R : α → β → Prop} {l l'} (x : All2 R l l') (i : Nat) : All2 R (l.take i) (l'.take i) := by
  induction x generalizing i with
  | nil => simp; exact .nil
  | cons q _ ih => cases i with
    | zero => exact .nil
    | succ i => exact .cons q (ih i)
theorem All2.drop {α β : Type} {R : α → β → Prop} {l l'} (x : All2 R l l') (i : Nat) : All2 R (l.drop i) (l'.drop i) := by
  induction x generalizing i with
  | nil => simp; exact .nil
  | cons q r ih => cases i with
    | zero => exact .cons q r
    | succ i => exact ih i
abbrev RowsIn (w : World) (h : Heap) := All2 (RowIn w h)
/-- a dict's pairs are the rows -/
abbrev EntsIn (w : World) (h : Heap) := All2 (fun (kv : Str × Value) (r : Str × Val) => kv.1 = r.1 ∧ ValIn w h kv.2 r.2)
theorem EntsIn.keep {w : World} {h h' : Heap} (k : Keep h h') {l r} (e : EntsIn w h l r) : EntsIn w h' l r := e.mono fun _ _ q => ⟨q.1, q.2.keep k⟩
theorem EntsIn.names {w : World} {h : Heap} {l r} (e : EntsIn w h l r) : l.map (·.1) = r.map (·.1) := by
  induction e with
  | nil => rfl
  | cons q _ ih => simp [q.1, ih]
theorem RowsIn.keep {w : World} {h h' : Heap} (k : Keep h h') {l r} (e : RowsIn w h l r) : RowsIn w h' l r := e.mono fun _ _ q => q.keep k
theorem sk_key {w : World} {x : Str} {v : Value} (h : (SK w).is x v = true) : ∃ t, v = .str x t := by
  cases v <;> simp [PySem.strKind, Value.isStrOf] at h
  rename_i y t
  exact ⟨t, by rw [h]⟩

theorem stored_new {kvs : List (Str × Value)} {x : Str} {v : Value} (h : x ∉ kvs.map (·.1)) : PySem.stored kvs x v = kvs ++ [(x, v)] := by
  unfold PySem.stored
  rw [if_neg]
  intro q
  obtain ⟨kv, hk, e⟩ := List.any_eq_true.mp q
  exact h (List.mem_map.mpr ⟨kv, hk, of_decide_eq_true e⟩)

section
variable {w : World} {mg mb : Str → Option Value} {b b' s s' : Shared} {L : Nat} {m : List (Str × Value)} {N : List (Nat × Obj)} {A : Around} {E : Value → Shared → Prop} {env : Env}
theorem St.kept (S : St w mg mb b L m N s) {h' : Heap} {tk : Nat} (k : ∀ (a : Nat) o, s.heap.get? a = some o → h'.get? a = some o) : St w mg mb b L m N { s with heap := h', toks := tk } :=
  S.aft ⟨.of_all k, rfl, rfl⟩ (S.ok.step (.of_all k) (S.ok.tabs.keeps k) S.ok.bare (by
    obtain ⟨_, ⟨_, _, _, ho, _⟩, _⟩ := S.ns
    have l1 : L < h'.objs.size := Heap.lt_size (k _ _ ho)
    have := S.hiL
    show 218 ≤ h'.objs.size
    omega))
theorem St.ndict (S : St w mg mb b L m N s) {pos : Pos} {Q : Value → Shared → Prop} (h : ∀ (a : Nat) s', St w mg mb b L m ((a, { cls := .type "dict", data := .dict #[] }) :: N) s' → Q (.ref a) s') :
    wpAny (model PR w) A (eval (.Dict [] [] pos) env) Q E s := wpAny_Dict_empty (h _ _ (S.pushN _))
theorem isDictOf_nil (w : World) : ({ cls := .type "dict", data := .dict #[] } : Obj).IsDictOf (SK w) [] := ⟨#[], 0, ⟨rfl, rfl, rfl⟩, rfl, fun _ h => by simp at h, .nil, List.nodup_nil⟩
theorem St.dictOf (S : St w mg mb b L m N s) {d : Nat} {o : Obj} {kvs} (hm : (d, o) ∈ N) (hd : o.IsDictOf (SK w) kvs) : s.heap.DictOf (SK w) d kvs := Heap.dictOf_iff.mpr ⟨o, S.get hm, hd⟩
/-- a pair laid into an own dict -/
theorem St.setitem (S : St w mg mb b L m N s) {d : Nat} {o : Obj} {kvs : List (Str × Value)} {x : Str} {t : Tok} {v : Value} {pre post : List (Nat × Obj)} {Q : Unit → Shared → Prop} (e : N = pre ++ (d, o) :: post) (hd : o.IsDictOf (SK w) kvs)
    (h : ∀ o' s', o'.IsDictOf (SK w) (PySem.stored kvs x v) → St w mg mb b L m (pre ++ (d, o') :: post) s' → Q () s') (hsz : kvs.length ≤ sizeLine := by size_fits) :
    wpAny (model PR w) A (setItem (.ref d) (.str x t) v) Q E s := by
  refine wpAny_setItem_pairs (knd := SK w) (k := x) (strKind_is PR w x t) (S.dictOf (by rw [e]; exact List.mem_append.mpr (.inr (.head _))) hd) (fun h' hd' hs => ?_) hsz
  obtain ⟨o', ho', hk⟩ := Heap.dictOf_iff.mp hd'
  exact h o' _ hk (S.upd' e (fun x ob hx hg => (hs.2 x hx).trans hg) ho')
/-- dict(d) -/
theorem St.dictcopy (S : St w mg mb b L m N s) {d : Nat} {kvs : List (Str × Value)} {Q : Value → Shared → Prop} (hd : s.heap.DictOf (SK w) d kvs) (h1 : 218 ≤ d) (hsz : kvs.length ≤ sizeLine)
    (h : ∀ (a : Nat) o s', o.IsDictOf (SK w) kvs → St w mg mb b L m ((a, o) :: N) s' → Q (.ref a) s') :
    wpAny (model PR w) A (call (.type "dict") [.ref d]) Q E s := by
  refine kt_call_dict (knd := SK w) (by have : d ≠ sysModules := by (show d ≠ 1); omega
                                        exact beq_eq_false_iff_ne.mpr this) hd hsz fun h' hd' hs => ?_
  obtain ⟨o', ho', hk⟩ := Heap.dictOf_iff.mp hd'
  exact h _ o' _ hk ((S.pushN (tk := s.toks) _).upd' (pre := []) rfl (tk := s.toks) (fun x ob hx hg => (hs.2 x hx).trans hg) ho')
theorem dictOf_cls {h : Heap} {d : Nat} {kvs} (hd : h.DictOf (SK w) d kvs) : ∃ o, h.get? d = some o ∧ o.cls = .type "dict" := let ⟨o, _, _, ho, hc, _⟩ := hd; ⟨o, ho, hc.1⟩
theorem St.isdict (S : St w mg mb b L m N s) {v : Value} {x : Val} {Q : Value → Shared → Prop} (hv : ValIn w s.heap v x) (h : ∀ s', St w mg mb b L m N s' → Q (.bool x.isMap) s') :
    wpAny (model PR w) A (call (.builtin "isinstance") [v, .type "dict"]) Q E s := by
  cases hv with
  | non => exact IsiPair.NoneType_dict (h _ S.tok)
  | boo c => exact IsiPair.bool_dict (h _ S.tok)
  | num i t => exact IsiPair.int_dict (h _ S.tok)
  | txt y t => exact IsiPair.str_dict (h _ S.tok)
  | m0 ha d => obtain ⟨o, ho, hc⟩ := dictOf_cls d; exact IsiPair.dict_dict ho hc (h _ S)
  | m2 ha d => obtain ⟨o, ho, hc⟩ := dictOf_cls d; exact IsiPair.dict_dict ho hc (h _ S)
/-- name, value = (..) -/
theorem St.two (S : St w mg mb b L m N s) {k : Nat} (R : Rm A k) {x y : Str} {p1 p2 p : Pos} {c : Nat} {t : Nat} {u v : Value} {Q : Unit → Shared → Prop} (ht : s.heap.get? t = some (tupObj #[u, v]))
    (h : ∀ s', St w mg mb b L ((y, v) :: (x, u) :: m) N s' → Q () s')
    (he : env.locals = L := by rfl) (hk : env.scope.kind = .function := by rfl) (hl : env.kindOf x = some .local := by rfl) (hl2 : env.kindOf y = some .local := by rfl) :
    wpAny (model PR w) A (assign (.Tuple [.Name x p1, .Name y p2] c p) env (.ref t)) Q E s := by
  refine assign_Tuple_tuple R.h (items := #[u, v]) ⟨_, ht, rfl, _, rfl⟩ rfl rfl fun h' hx => ?_
  have S' : St w mg mb b L m N { s with heap := h' } := S.kept (fun a o e => hx a o (Nat.ne_of_lt (Heap.lt_size e)) e)
  refine assignInOrder_cons ?_
  refine PyProof.Rows.assign_Name ?_
  refine S'.st (fun s1 S1 => ?_) he hk hl
  refine assignInOrder_cons ?_
  refine PyProof.Rows.assign_Name ?_
  refine S1.st (fun s2 S2 => ?_) he hk hl2
  exact assignInOrder_nil (h _ S2)
end
end Mine

namespace Mine
theorem bb_len : bootBuiltins "len" = some (.builtin "len") := by rfl
theorem bb_range : bootBuiltins "range" = some (.type "range") := by rfl
theorem bb_isinstance : bootBuiltins "isinstance" = some (.builtin "isinstance") := by rfl
theorem bb_dict : bootBuiltins "dict" = some (.type "dict") := by rfl
theorem bb_str : bootBuiltins "str" = some (.type "str") := by rfl
theorem bb_list : bootBuiltins "list" = some (.type "list") := by rfl
theorem bb_sorted : bootBuiltins "sorted" = some (.builtin "sorted") := by rfl
theorem bb_int : bootBuiltins "int" = some (.type "int") := by rfl
theorem bb_float : bootBuiltins "float" = some (.type "float") := by rfl
theorem bb_bool : bootBuiltins "bool" = some (.type "bool") := by rfl
theorem ite_t1 {P Q : Prop} {d : Decidable (true = true)} (h : P) : @ite Prop (true = true) d P Q := by rw [if_pos rfl]; exact h
theorem ite_f1 {P Q : Prop} {d : Decidable (false = true)} (h : Q) : @ite Prop (false = true) d P Q := by rw [if_neg Bool.false_ne_true]; exact h
section
variable {w : World} {mg mb : Str → Option Value} {b b' s s' : Shared} {L : Nat} {m : List (Str × Value)} {N : List (Nat × Obj)} {A : Around} {E : Value → Shared → Prop} {env : Env} {M : Model}
theorem x_assign_sub {o i : Expr} {p p' : Pos} {value : Expr} {rest : List Stmt} {Q : Flow → Shared → Prop}
    (h : wpAny M A (eval value env) (fun v s₁ => wpAny M A (eval o env) (fun ov s₂ => wpAny M A (eval i env) (fun iv s₃ => wpAny M A (setItem ov iv v) (fun _ s' => wpAny M A (execs rest env) Q E s') E s₃) E s₂) E s₁) E s)
    (hs : swapsWith value (some (.Subscript o i p')) p.line env = pure false := by rfl) :
    wpAny M A (execs (.Assign [.Subscript o i p'] value p :: rest) env) Q E s := wpAny_execs_cons (wpAny_Assign_Subscript h hs)
theorem cw_fn {f : Nat} {o : Obj} {fd : FuncData} {pos : Pos} {first : List Value} {e : Expr} {rest : List Expr} {Q : Value → Shared → Prop} (hdat : o.data = .func fd) (ho : (KF w).lookup f = some o)
    (h : wpAny (model PR w) A (spliced (backTo pos (starEach (e :: rest) env))) (fun vs s₁ => (KF w).In s₁.heap ∧ wpAny (model PR w) A (call (.ref f) (first ++ vs)) Q E s₁) E s)
    (he : starEach (e :: rest) env = (false, eval e env) :: starEach rest env := by rfl) :
    wpAny (model PR w) A (callWith pos (.ref f) first (backTo pos (starEach (e :: rest) env)) []) Q E s := by
  rw [he] at h ⊢
  exact Calls.callWith_function (o := o) (fd := fd) (Calls.evalArgs_plain (wpAny_mono h (fun vs s₁ h₁ => ⟨⟨h₁.1 _ _ ho, hdat⟩, h₁.2⟩) fun _ _ x => x))
end
end Mine

namespace Mine
section
variable {w : World} {mg mb : Str → Option Value} {b b' s s' : Shared} {L : Nat} {m : List (Str × Value)} {N : List (Nat × Obj)} {A : Around} {E : Value → Shared → Prop} {env : Env}

/-- what a walker looks at stands: the walker itself is followed, the rest is the base's -/
def Feet (it : Nat) (fp : List Addr) (b : Shared) : Prop := ∀ a ∈ fp, (a : Nat) = it ∨ ((a : Nat) ≠ 93 ∧ (a : Nat) ≠ 59 ∧ ∃ o, b.heap.get? a = some o)
theorem Feet.aft {it fp} (h : Feet it fp b) (a : Aft b b') : Feet it fp b' := fun x hx => by
  rcases h x hx with e | ⟨h1, h2, o, ho⟩
  · exact .inl e
  · exact .inr ⟨h1, h2, o, a.keep _ _ h1 h2 ho⟩
/-- the walker's state goes over between two states that both follow it -/
theorem feet_frame {it : Nat} {fp : List Addr} {n : Nat} {P : Nat → Value → Prop} {T : Nat → Heap → Prop} {A' : Around} (W : Walks PR w A' it fp [it] n P T) {b1 b2 s1 s2 : Shared} {L1 L2 : Nat} {m1 m2 : List (Str × Value)} {N1 N2 : List (Nat × Obj)} {oi : Obj}
    (S1 : St w mg mb b1 L1 m1 ((it, oi) :: N1) s1) (S2 : St w mg mb b2 L2 m2 ((it, oi) :: N2) s2) (f1 : Feet it fp b1) (a : Aft b1 b2) {i : Nat} (h : T i s1.heap) : T i s2.heap := by
  refine W.frame i _ _ h fun x hx o ho => ?_
  rcases f1 x hx with e | ⟨h1, h2, o', ho'⟩
  · rw [e] at ho ⊢
    have q := S1.get (.head _)
    rw [q] at ho
    cases ho
    exact S2.get (.head _)
  · have q := S1.keep _ _ h1 h2 ho'
    rw [q] at ho
    cases ho
    exact S2.keep _ _ h1 h2 (a.keep _ _ h1 h2 ho')

theorem walk_next {it : Nat} {fp : List Addr} {n : Nat} {P : Nat → Value → Prop} {T : Nat → Heap → Prop} (W : Walks PR w A it fp [it] n P T) {i : Nat} {oi : Obj} {Q : Option Value → Shared → Prop}
    (S : St w mg mb b L m ((it, oi) :: N) s) (hi : i < n) (h : T i s.heap) (hfp : it ∈ fp) (ex : ∀ h', T (i + 1) h' → ∃ o, h'.get? it = some o)
    (k : ∀ v oi' s', P i v → T (i + 1) s'.heap → St w mg mb b L m ((it, oi') :: N) s' → Q (some v) s') : wpAny (model PR w) A (pyNext (.ref it)) Q E s := by
  refine W.item i s Q E hi h fun v h' tk hP hT hk => ?_
  obtain ⟨o, ho⟩ := ex h' hT
  exact k v o _ hP hT (S.upd' (pre := []) rfl (tk := tk) (fun x ob hx hg => hk x ob (by simpa using hx) hg) ho)
theorem walk_end {it : Nat} {fp : List Addr} {n : Nat} {P : Nat → Value → Prop} {T : Nat → Heap → Prop} (W : Walks PR w A it fp [it] n P T) {oi : Obj} {Q : Option Value → Shared → Prop}
    (S : St w mg mb b L m ((it, oi) :: N) s) (h : T n s.heap) (k : ∀ s', St w mg mb b L m N s' → Q none s') : wpAny (model PR w) A (pyNext (.ref it)) Q E s := by
  refine W.done s Q E h fun h' tk hk => ?_
  exact k _ (S.lose rfl (tk := tk) fun x ob hx hg => hk x ob (by simpa using hx) hg)

theorem for_walks {target : Expr} {body : List Stmt} {it : Nat} {fp : List Addr} {n : Nat} {P : Nat → Value → Prop} {T : Nat → Heap → Prop} {J : Nat → Shared → List (Str × Value) → List (Nat × Obj) → Prop} {Q : Flow → Shared → Prop}
    (W : Walks PR w A it fp [it] n P T) (hfp : it ∈ fp) (ex : ∀ i h', T i h' → ∃ o, h'.get? it = some o) (hT : ∀ v, letOwnedTupleGo target (.ref it) v = pure ()) {oi : Obj}
    (S : St w mg mb b L m ((it, oi) :: N) s) (h0 : T 0 s.heap) (f0 : Feet it fp b) (hj : J 0 b m N)
    (turn : ∀ i v b' m' N' oi' s', i < n → P i v → Aft b b' → J i b' m' N' → St w mg mb b' L m' ((it, oi') :: N') s' →
      wpAny (model PR w) A (assign target env v) (fun _ s₂ => wpAny (model PR w) A (execs body env) (fun f s₃ => match f with
        | .next | .cont => ∃ b'' m'' N'', Aft b' b'' ∧ J (i + 1) b'' m'' N'' ∧ St w mg mb b'' L m'' ((it, oi') :: N'') s₃
        | .brk => Q .next s₃
        | .ret v => Q (.ret v) s₃) NoE s₂) NoE s')
    (done : ∀ b' m' N' s', Aft b b' → J n b' m' N' → St w mg mb b' L m' N' s' → Q .next s') :
    codeAny (model PR w) A (.forLoop target (.ref it) body [] env) (fun r s' => match r with | .ok f => Q f s' | .error e => cameBackBy (model PR w) A env NoE e s') s := by
  refine codeAny_forLoop_any (fun k s' => ∃ i b' m' N' oi', k = n - i ∧ i ≤ n ∧ T i s'.heap ∧ Aft b b' ∧ J i b' m' N' ∧ St w mg mb b' L m' ((it, oi') :: N') s') ?_ n ⟨0, b, m, N, oi, rfl, Nat.zero_le _, h0, .refl _, hj, S⟩
  rintro k s' ⟨i, b', m', N', oi', rfl, hi, hg, ha, hJ, S'⟩
  by_cases hlt : i < n
  · refine walk_next W S' hlt hg hfp (ex (i + 1)) fun v oi'' s₂ hP hT' S₂ => ?_
    refine wpAny_of_eq (hT v) ?_
    refine wpAny_mono (turn i v b' m' N' oi'' s₂ hlt hP ha hJ S₂) (fun _ s₃ h₃ => wpAny_mono h₃ (fun f s₄ h₄ => ?_) fun _ _ x => x.elim) fun _ _ x => x.elim
    have nx : (∃ b'' m'' N'', Aft b' b'' ∧ J (i + 1) b'' m'' N'' ∧ St w mg mb b'' L m'' ((it, oi'') :: N'') s₄) → ∃ k', k' < n - i ∧ ∃ i b' m' N' oi', k' = n - i ∧ i ≤ n ∧ T i s₄.heap ∧ Aft b b' ∧ J i b' m' N' ∧ St w mg mb b' L m' ((it, oi') :: N') s₄ := by
      rintro ⟨b'', m'', N'', a'', J'', S''⟩
      exact ⟨n - (i + 1), by omega, i + 1, b'', m'', N'', oi'', rfl, hlt, feet_frame W S₂ S'' (f0.aft ha) a'' hT', ha.trans a'', J'', S''⟩
    cases f with
    | next => exact nx h₄
    | cont => exact nx h₄
    | brk => exact h₄
    | ret v => exact h₄
  · have e : i = n := Nat.le_antisymm hi (Nat.not_lt.mp hlt)
    subst e
    exact walk_end W S' hg fun s₁ S₁ => wpAny_execs_nil (done b' m' N' s₁ ha hJ S₁)

/-- a list's object -/
theorem St.append (S : St w mg mb b L m N s) {d : Nat} {vs : List Value} {k : Nat} {v : Value} {pre post : List (Nat × Obj)} {Q : Value → Shared → Prop} (e : N = pre ++ (d, lstObj vs.toArray k) :: post)
    (h : ∀ k' s', St w mg mb b L m (pre ++ (d, lstObj (vs ++ [v]).toArray k') :: post) s' → Q .none s') (hsz : vs.length ≤ sizeLine := by size_fits) :
    wpAny (model PR w) A (call (.builtin "list.append") [.ref d, v]) Q E s := by
  have ho : s.heap.get? d = some (lstObj vs.toArray k) := S.get (p := (d, lstObj vs.toArray k)) (by rw [e]; exact List.mem_append.mpr (.inr (.head _)))
  refine wpAny_call_entry slot_list_append (T := "list") ⟨_, ho, rfl⟩ entry_list_append ?_ (args_list_append _ _)
  show wpAny _ _ (updateSeq d (·.push v) >>= fun _ => ret .none) _ _ s
  refine wpAny_bind ?_
  refine wpAny_updateSeq ho rfl (wpAny_pure ⟨.none, rfl, ?_⟩) (by simpa using hsz)
  have hu : (s.heap.update d (Obj.mapSeq (·.push v))).get? d = some (lstObj (vs ++ [v]).toArray (k + 1)) := by
    rw [Heap.get?_update_self _ ho rfl]
    simp [lstObj, Obj.mapSeq]
  exact h _ _ (S.upd' e (tk := s.toks) (fun x ob hx hg => (Heap.get?_update_other _ _ (Ne.symm hx)).trans hg) hu)

/-- a comprehension over one source without a test -/
theorem comp_walks {elt iter : Expr} {x : Str} {px : Pos} {scope : Scope} {pos : Pos} {cl : List (Str × Addr)} {it : Nat} {fp : List Addr} {n : Nat} {P : Nat → Value → Prop} {T : Nat → Heap → Prop} {F : Nat → Value → Shared → Prop} {R : Result → Shared → Prop} {acc : Nat}
    (W : Walks PR w A it fp [it] n P T) (hfp : it ∈ fp) (ex : ∀ i h', T i h' → ∃ o, h'.get? it = some o) (hx : scope.names.lookup x = some .local) (hkind : scope.kind = .function)
    (hF : ∀ i y s s', F i y s → Aft s s' → F i y s') (hn : n ≤ 1000000) {oi : Obj}
    (S : St w mg mb b L [] [(it, oi), (acc, lstObj #[] 0)] s) (h0 : T 0 s.heap) (f0 : Feet it fp b)
    (turn : ∀ i v b' N' s', i < n → P i v → Aft b b' → St w mg mb b' L [(x, v)] N' s' → wpAny (model PR w) A (eval elt (compEnvC scope cl L env)) (fun y s'' => ∃ m'' N₂, St w mg mb b' L m'' (N' ++ N₂) s'' ∧ ∀ b'', Aft b' b'' → (∀ p ∈ N₂, b''.heap.get? p.1 = some p.2) → F i y b'') NoE s')
    (done : ∀ (ys : List Value) k m' b' s', ys.length = n → Aft b b' → (∀ i y, ys[i]? = some y → F i y b') → St w mg mb b' L m' [(acc, lstObj ys.toArray k)] s' → R (.ok .next) s') :
    codeAny (model PR w) A (.compStart (.ListComp elt [⟨.Name x px, iter, [], 0⟩] scope pos) 0 (.ref it) (.ref acc) (compEnvC scope cl L env)) R s := by
  have loop : codeAny (model PR w) A (.compLoop (.ListComp elt [⟨.Name x px, iter, [], 0⟩] scope pos) 0 (.ref it) (.ref acc) (compEnvC scope cl L env)) R s := by
    refine codeAny_compLoop_list (fun k s' => ∃ i ys m' oi' k' b', k = n + 1 - i ∧ i ≤ n ∧ ys.length = i ∧ Aft b b' ∧ (∀ i y, ys[i]? = some y → F i y b') ∧ T i s'.heap ∧ St w mg mb b' L m' [(it, oi'), (acc, lstObj ys.toArray k')] s') ?_ (n + 1) ⟨0, [], [], oi, 0, b, rfl, Nat.zero_le _, rfl, .refl _, (fun i y h => by simp at h), h0, S⟩
    rintro k s' ⟨i, ys, m', oi', k', b', rfl, hi, hl, ha, hy, hT, S'⟩
    by_cases hlt : i < n
    · refine walk_next W S' hlt hT hfp (ex (i + 1)) fun v oi'' s₂ hP hT' S₂ => ?_
      refine PyProof.Rows.assign_Name ?_
      have S2' := S₂.locals (m' := []) (fun _ _ h => by simp at h)
      refine S2'.st (fun s₃ S₃ => ?_) rfl hkind (lookup_relabel_local hx)
      refine wpAny_mono (turn i v b' _ s₃ hlt hP ha S₃) (fun y s₄ h₄ => ?_) fun _ _ x => x.elim
      obtain ⟨m'', N₂, S₄, hFy⟩ := h₄
      refine S₄.append (pre := [(it, oi'')]) rfl (fun k'' s₅ S₅ => ?_) (Nat.le_trans (by omega : ys.length ≤ 1000000) (by decide))
      obtain ⟨b'', ab, hN, S₆, _⟩ := St.rebase (N₁ := [(it, oi''), (acc, lstObj (ys ++ [y]).toArray k'')]) (N₂ := N₂) S₅
      refine ⟨n + 1 - (i + 1), by omega, i + 1, ys ++ [y], _, oi'', k'', b'', rfl, hlt, by simp [hl], ha.trans ab, fun j z hz => ?_, feet_frame W S₂ S₆ (f0.aft ha) ab hT', S₆⟩
      by_cases hj : j < ys.length
      · rw [List.getElem?_append_left hj] at hz
        exact hF _ _ _ _ (hy j z hz) ab
      · rw [List.getElem?_append_right (Nat.not_lt.mp hj)] at hz
        have e : j - ys.length = 0 := by
          cases q : j - ys.length with
          | zero => rfl
          | succ q' => rw [q] at hz; simp at hz
        rw [e] at hz
        simp at hz
        have e2 : j = i := by omega
        subst hz e2
        exact hFy b'' ab hN
    · have e : i = n := Nat.le_antisymm hi (Nat.not_lt.mp hlt)
      subst e
      exact walk_end W S' hT fun s₁ S₁ => done ys k' m' b' s₁ hl ha hy S₁
  refine codeAny_compStart_list loop ?_
  exact W.self 0 _ _ _ h0 loop
end
end Mine

namespace Mine
section
variable {w : World} {mg mb : Str → Option Value} {b b' s s' : Shared} {L : Nat} {m : List (Str × Value)} {N : List (Nat × Obj)} {A : Around} {E : Value → Shared → Prop} {env : Env}

/-- what X holds is lent to a block whose names lie at C -/
theorem St.lend {X : List (Nat × Obj)} {mC : List (Str × Value)} {C : Nat} (S : St w mg mb b L m (X ++ N) s) (hC : ∃ f, s.heap.Ns C f ∧ ∀ x v, mC.lookup x = some v → f x = some v) (hb : b.heap.get? C = none) (hL : C ≠ L) (hN : ∀ p ∈ X ++ N, p.1 ≠ C) (hi : 218 ≤ C) :
    ∃ b₂, St w mg mb b₂ C mC X s ∧ (∀ a o, s.heap.get? a = some o → (a : Nat) ≠ C → (∀ p ∈ X, p.1 ≠ a) → b₂.heap.get? a = some o) ∧ (∀ b₃ X' mC' s₅ h', St w mg mb b₃ C mC' X' s₅ → Aft b₂ b₃ → Heap.SameBut C s₅.heap h' → St w mg mb b L m (X' ++ N) { s₅ with heap := h' }) := by
  have nd := S.nd
  rw [List.map_append] at nd
  have nd' := List.nodup_append.mp nd
  have inb : ∀ a o, s.heap.get? a = some o → (a : Nat) ≠ C → (∀ p ∈ X, p.1 ≠ a) → (dropH s.heap (C :: X.map (·.1))).get? a = some o := by
    intro a o ho h1 h2
    rw [dropH_get, if_neg]
    · exact ho
    · intro hm
      rcases List.mem_cons.mp hm with e | hm
      · exact h1 e
      · obtain ⟨p, hp, e⟩ := List.mem_map.mp hm
        exact h2 p hp e
  refine ⟨{ s with heap := dropH s.heap (C :: X.map (·.1)) }, ⟨S.ok, fun a o h1 h2 e => ?_, rfl, rfl, hC, ?_, hi, fun p hp => ?_, nd'.1⟩, inb, ?_⟩
  · have e' : (dropH s.heap (C :: X.map (·.1))).get? a = some o := e
    rw [dropH_get] at e'
    split at e'
    · cases e'
    · exact e'
  · show (dropH _ _).get? C = none
    rw [dropH_get, if_pos (.head _)]
  · have q := S.nw p (List.mem_append.mpr (.inl hp))
    refine ⟨q.1, hN p (List.mem_append.mpr (.inl hp)), ?_, q.2.2.2⟩
    show (dropH _ _).get? p.1 = none
    rw [dropH_get, if_pos (.tail _ (List.mem_map_of_mem hp))]
  · intro b₃ X' mC' s₅ h' S₅ a₃ hs
    have kk : ∀ (x : Nat) ob, x ≠ C → s₅.heap.get? x = some ob → h'.get? x = some ob := fun x ob hx hg => (hs.2 x hx).trans hg
    have lo : ∀ x : Nat, x < 218 → x ≠ C := fun x hx e => by omega
    have nsk : ∀ {x mm}, x < 218 → s₅.heap.Ns x mm → h'.Ns x mm := fun {x mm} hx n => n.sameBut hs (lo _ hx)
    have up : ∀ (a : Nat) o, a ≠ 93 → a ≠ 59 → s.heap.get? a = some o → a ≠ C → (∀ p ∈ X, p.1 ≠ a) → b₃.heap.get? a = some o := fun a o h1 h2 ho hc hx => a₃.keep a o h1 h2 (inb a o ho hc hx)
    have upL : ∃ oL, s.heap.get? L = some oL := let ⟨_, ⟨o, _, _, ho, _⟩, _⟩ := S.ns; ⟨o, ho⟩
    have nL : ∀ p ∈ X, p.1 ≠ L := fun p hp => (S.nw p (List.mem_append.mpr (.inl hp))).2.1
    have hiL := S.hiL
    have hXN : ∀ q ∈ N, ∀ p ∈ X, p.1 ≠ q.1 := fun q hq p hp => nd'.2.2 p.1 (List.mem_map_of_mem hp) q.1 (List.mem_map_of_mem hq)
    have inN : ∀ q ∈ N, b₃.heap.get? q.1 = some q.2 := fun q hq => by
      have z := S.nw q (List.mem_append.mpr (.inr hq))
      exact up q.1 q.2 (fun e => by have := z.2.2.2; omega) (fun e => by have := z.2.2.2; omega) z.1 (hN q (List.mem_append.mpr (.inr hq))) (hXN q hq)
    have inL : ∃ oL, b₃.heap.get? L = some oL := by
      obtain ⟨oL, h⟩ := upL
      exact ⟨oL, up L oL (by omega) (by omega) h (Ne.symm hL) nL⟩
    refine ⟨⟨fun x ob q => kk x ob (lo _ (kf_lt q)) (S₅.ok.kin x ob q), nsk (by decide) S₅.ok.g, nsk (by decide) S₅.ok.b, S₅.ok.bi, ?_, ?_, ⟨?_, ?_, ?_⟩, S₅.ok.bare, ?_⟩, fun x ob h1 h2 q => ?_, ?_, ?_, ?_, S.off, S.hiL, fun p hp => ?_, ?_⟩
    · obtain ⟨mc, h1, h2⟩ := S₅.ok.nolim; exact ⟨mc, nsk (by decide) h1, h2⟩
    · obtain ⟨mc, h1, h2⟩ := S₅.ok.nodig; exact ⟨mc, nsk (by decide) h1, h2⟩
    · obtain ⟨ps, h1, h2⟩ := S₅.ok.tabs.t93; exact ⟨ps, kk _ _ (lo _ (by decide)) h1, h2⟩
    · obtain ⟨ps, h1, h2⟩ := S₅.ok.tabs.t59; exact ⟨ps, kk _ _ (lo _ (by decide)) h1, h2⟩
    · obtain ⟨ps, h1, h2⟩ := S₅.ok.tabs.bm; exact ⟨ps, kk _ _ (lo _ (by decide)) h1, h2⟩
    · show 218 ≤ h'.objs.size
      rw [hs.1]; exact S₅.ok.big
    · refine kk x ob (fun e => by subst e; rw [hb] at q; cases q) (S₅.keep x ob h1 h2 (up x ob h1 h2 (S.keep x ob h1 h2 q) (fun e => by subst e; rw [hb] at q; cases q) fun p hp e => ?_))
      have z := (S.nw p (List.mem_append.mpr (.inl hp))).2.2.1
      rw [e, q] at z; cases z
    · exact (S₅.drawn.trans a₃.drawn).trans S.drawn
    · exact (S₅.os.trans a₃.os).trans S.os
    · obtain ⟨f, ⟨o, es, ep, ho, r⟩, y⟩ := S.ns
      exact ⟨f, ⟨o, es, ep, kk _ _ (Ne.symm hL) (S₅.keep _ _ (by omega) (by omega) (up L o (by omega) (by omega) ho (Ne.symm hL) nL)), r⟩, y⟩
    · rcases List.mem_append.mp hp with hp | hp
      · have z := S₅.nw p hp
        refine ⟨kk _ _ z.2.1 z.1, fun e => ?_, ?_, z.2.2.2⟩
        · obtain ⟨oL, h⟩ := inL
          rw [← e, z.2.2.1] at h; cases h
        · cases q : b.heap.get? p.1 with
          | none => rfl
          | some o =>
            exfalso
            have hh : 218 ≤ p.1 := z.2.2.2
            have := up p.1 o (by omega) (by omega) (S.keep _ _ (by omega) (by omega) q) z.2.1 (fun r hr e => by
              have z' := (S.nw r (List.mem_append.mpr (.inl hr))).2.2.1
              rw [e, q] at z'; cases z')
            rw [z.2.2.1] at this; cases this
      · have z := S.nw p (List.mem_append.mpr (.inr hp))
        have hh : 218 ≤ p.1 := z.2.2.2
        exact ⟨kk _ _ (hN p (List.mem_append.mpr (.inr hp))) (S₅.keep _ _ (by omega) (by omega) (inN p hp)), z.2⟩
    · rw [List.map_append]
      refine List.nodup_append.mpr ⟨S₅.nd, nd'.2.1, fun x hx y hy e => ?_⟩
      obtain ⟨p, hp, rfl⟩ := List.mem_map.mp hx
      obtain ⟨q, hq, rfl⟩ := List.mem_map.mp hy
      have z := (S₅.nw p hp).2.2.1
      rw [e, inN q hq] at z; cases z


def NsObj (o : Obj) : Prop := ∀ (h : Heap) (C : Nat), h.get? C = some o → ∃ f, h.Ns C f
theorem nsObj_of {h : Heap} {C : Nat} {f} (n : h.Ns C f) : ∃ o, h.get? C = some o ∧ NsObj o := by
  obtain ⟨o, es, ep, ho, r⟩ := n
  exact ⟨o, ho, fun h' C' e => ⟨f, o, es, ep, e, r⟩⟩

/-- a list comprehension's block, behind its source's iterator -/
theorem comp_block {elt iter : Expr} {x : Str} {px : Pos} {scope : Scope} {pos : Pos} {cl : List (Str × Addr)} {it : Nat} {fp : List Addr} {n : Nat} {P : Nat → Value → Prop} {T : Nat → Heap → Prop} {F : Nat → Value → Shared → Prop} {RR : Value → Addr → Result → Shared → Prop}
    (W : Walks PR w A it fp [it] n P T) (hfp : it ∈ fp) (ex : ∀ i h', T i h' → ∃ o, h'.get? it = some o) (hx : scope.names.lookup x = some .local) (hkind : scope.kind = .function) (hcell : ∀ y ∈ scope.names, y.2 ≠ .cell)
    (hF : ∀ i y s s', F i y s → Aft s s' → F i y s') (hn : n ≤ 1000000) {oi : Obj}
    (S : St w mg mb b L m ((it, oi) :: N) s) (h0 : T 0 s.heap) (f0 : ∀ a ∈ fp, (a : Nat) = it ∨ ((a : Nat) ≠ 93 ∧ (a : Nat) ≠ 59 ∧ ∃ o, s.heap.get? a = some o))
    (turn : ∀ i v b' C N' s', i < n → P i v → (∀ a o, s.heap.get? a = some o → (a : Nat) ≠ it → (a : Nat) ≠ 93 → (a : Nat) ≠ 59 → b'.heap.get? a = some o) → St w mg mb b' C [(x, v)] N' s' → wpAny (model PR w) A (eval elt (compEnvC scope cl C env)) (fun y s'' => ∃ m'' N₂, St w mg mb b' C m'' (N' ++ N₂) s'' ∧ ∀ b'', Aft b' b'' → (∀ p ∈ N₂, b''.heap.get? p.1 = some p.2) → F i y b'') NoE s')
    (done : ∀ (ys : List Value) k acc C oC s', ys.length = n → (∀ i y, ys[i]? = some y → F i y s') → NsObj oC → St w mg mb b L m ((C, oC) :: (acc, lstObj ys.toArray k) :: N) s' → RR (.ref acc) C (.ok .next) s') :
    wpAny (model PR w) A (newList []) (fun acc s₃ => wpAny (model PR w) A (newFunctionEnv scope env.globals cl [] env.qual none .none (some env)) (fun cenv s₄ =>
      codeAny (model PR w) A (.compStart (.ListComp elt [⟨.Name x px, iter, [], 0⟩] scope pos) 0 (.ref it) acc { cenv with scope := relabel scope env }) (RR acc cenv.locals) s₄) NoE s₃) NoE s := by
  refine wpAny_newObj_type ?_ (by size_fits)
  have accNone : ∀ (a : Nat) o, s.heap.get? a = some o → a ≠ s.heap.objs.size := fun a o e => Nat.ne_of_lt (Heap.lt_size e)
  have S₃ := S.pushN (tk := s.toks) ({ cls := .type "list", data := .seq ([] : List Value).toArray } : Obj)
  have k₃ : ∀ (a : Nat) o, s.heap.get? a = some o → (s.heap.push { cls := .type "list", data := .seq ([] : List Value).toArray }).get? a = some o := fun a o e => Heap.get?_push_of_some _ e
  generalize s.heap.push { cls := .type "list", data := .seq ([] : List Value).toArray } = h₃ at S₃ k₃ ⊢
  generalize s.heap.objs.size = acc at S₃ accNone ⊢
  refine wpAny_newFunctionEnv hcell (by intro y hy; simp at hy) (fun h₁ hns hsb => ?_) hkind
  dsimp only at hns hsb ⊢
  have kk : ∀ (a : Nat) o, h₃.get? a = some o → h₁.get? a = some o := fun a o e => (hsb.2 a (Nat.ne_of_lt (Heap.lt_size e))).trans (Heap.get?_push_of_some _ e)
  have S₄ := S₃.kept (h' := h₁) (tk := s.toks + ([] : List (Str × Value)).length) kk
  have hCN : ∀ p ∈ (acc, lstObj #[] 0) :: (it, oi) :: N, p.1 ≠ h₃.objs.size := fun p hp => Nat.ne_of_lt (Heap.lt_size (S₃.nw p hp).1)
  have hCL : h₃.objs.size ≠ L := Nat.ne_of_gt S₃.nsl
  have big : 218 ≤ h₃.objs.size := S₃.ok.big
  have hCb : b.heap.get? h₃.objs.size = none := S₃.none_size (Nat.le_refl _) (by omega) (by omega)
  have old : ∀ (a : Nat) o, s.heap.get? a = some o → a ≠ acc → a ≠ h₃.objs.size ∧ h₁.get? a = some o := fun a o e _ => ⟨Nat.ne_of_lt (Heap.lt_size (k₃ a o e)), kk a o (k₃ a o e)⟩
  generalize h₃.objs.size = C at *
  have pm : ([(it, oi), (acc, lstObj #[] 0)] ++ N).Perm ((acc, lstObj #[] 0) :: (it, oi) :: N) := .swap ..
  have S₅ := S₄.perm pm
  obtain ⟨b₂, SC, up, back⟩ := S₅.lend (mC := []) ⟨_, hns, fun _ _ h => by simp at h⟩ hCb hCL (fun p hp => hCN p (pm.mem_iff.mp hp)) big
  have inb : ∀ (a : Nat) o, s.heap.get? a = some o → a ≠ it → b₂.heap.get? a = some o := fun a o e h => by
    have q := old a o e (accNone a o e)
    refine up a o q.2 q.1 fun p hp e' => ?_
    rcases List.mem_cons.mp hp with rfl | hp
    · exact h e'.symm
    · rcases List.mem_cons.mp hp with rfl | hp
      · exact accNone a o e e'.symm
      · cases hp
  have fb : Feet it fp b₂ := fun a ha => by
    rcases f0 a ha with e | ⟨h1, h2, o, ho⟩
    · exact .inl e
    · by_cases e : (a : Nat) = it
      · exact .inl e
      · exact .inr ⟨h1, h2, o, inb a o ho e⟩
  have T0 : T 0 h₁ := W.frame 0 _ _ h0 fun a ha o ho => (old a o ho (accNone a o ho)).2
  refine comp_walks (F := F) (n := n) W hfp ex hx hkind hF hn SC T0 fb (fun i v b' N' s' hi hP ab S' => ?_) fun ys k m' b' s' hl ab hy S' => ?_
  · refine turn i v b' C N' s' hi hP (fun a o e h1 h2 h3 => ab.keep a o h2 h3 (inb a o e h1)) S'
  · have S6 := back b' [(acc, lstObj ys.toArray k)] m' s' s'.heap S' ab ⟨rfl, fun _ _ => rfl⟩
    obtain ⟨fC, nC, _⟩ := S'.ns
    obtain ⟨oC, hoC, nsC⟩ := nsObj_of nC
    refine done ys k acc C oC s' hl (fun i y h => hF i y _ _ (hy i y h) S'.aft0) nsC (S6.add hoC hCb hCL (fun p hp => ?_) big)
    rcases List.mem_append.mp hp with hp | hp
    · exact (S'.nw p hp).2.1
    · exact hCN p (.tail _ (.tail _ hp))
end
end Mine

namespace Mine
section
variable {w : World} {mg mb : Str → Option Value} {b b' s s' : Shared} {L : Nat} {m : List (Str × Value)} {N : List (Nat × Obj)} {A : Around} {E : Value → Shared → Prop} {env : Env}

theorem x_comp {elt iter : Expr} {x : Str} {px : Pos} {scope : Scope} {pos : Pos} {cl : List (Str × Addr)} {Q : Value → Shared → Prop} (hclos : closureFor scope env = pure cl)
    (h : wpAny (model PR w) A (eval iter env) (fun xv s₁ => wpAny (model PR w) A (pyIter xv) (fun it s₂ => wpAny (model PR w) A (newList []) (fun acc s₃ =>
      wpAny (model PR w) A (newFunctionEnv scope env.globals cl [] env.qual none .none (some env)) (fun cenv s₄ =>
        codeAny (model PR w) A (.compStart (.ListComp elt [⟨.Name x px, iter, [], 0⟩] scope pos) 0 it acc { cenv with scope := relabel scope env }) (compPost (model PR w) A NoE none Q acc cenv.locals) s₄) NoE s₃) NoE s₂) NoE s₁) NoE s)
    (hkind : scope.kind = .function := by rfl) (hnames : ∀ y ∈ scope.names, y.2 = .local → scope.names.lookup y.1 = some .local := by decide) (hs : ∀ x, foldedSetIterable iter env x = pure x := by intro _; rfl) :
    wpAny (model PR w) A (eval (.ListComp elt [⟨.Name x px, iter, [], 0⟩] scope pos) env) Q NoE s := by
  rw [eval_ListComp]
  exact wpAny_comprehension_free (use := none) rfl hs hclos hkind hnames h
theorem post_none {C acc : Nat} {oC : Obj} {Q : Value → Shared → Prop} (S : St w mg mb b L m ((C, oC) :: N) s) (nC : NsObj oC) (h : ∀ s'', St w mg mb b L m N s'' → Q (.ref acc) s'') : compPost (model PR w) A NoE none Q (.ref acc) C (.ok .next) s := by
  obtain ⟨f, n⟩ := nC s.heap C (S.get (.head _))
  exact ⟨f, n, fun h' hs => h _ (S.lose rfl (tk := s.toks) fun x ob hx hg => (hs.2 x hx).trans hg)⟩
theorem x_assign_comp {elt iter : Expr} {x y : Str} {px py : Pos} {scope : Scope} {pos spos : Pos} {cl : List (Str × Addr)} {rest : List Stmt} {Q : Flow → Shared → Prop} (hclos : closureFor scope env = pure cl)
    (h : wpAny (model PR w) A (eval iter env) (fun xv s₁ => wpAny (model PR w) A (pyIter xv) (fun it s₂ => wpAny (model PR w) A (newList []) (fun acc s₃ =>
      wpAny (model PR w) A (newFunctionEnv scope env.globals cl [] env.qual none .none (some env)) (fun cenv s₄ =>
        codeAny (model PR w) A (.compStart (.ListComp elt [⟨.Name x px, iter, [], 0⟩] scope pos) 0 it acc { cenv with scope := relabel scope env })
          (compPost (model PR w) A NoE (some (assign (.Name y py) env)) (fun _ s' => wpAny (model PR w) A (execs rest env) Q NoE s') acc cenv.locals) s₄) NoE s₃) NoE s₂) NoE s₁) NoE s)
    (hsw : swapsWith (.ListComp elt [⟨.Name x px, iter, [], 0⟩] scope pos) (some (.Name y py)) spos.line env = pure true := by rfl)
    (hkind : scope.kind = .function := by rfl) (hnames : ∀ y ∈ scope.names, y.2 = .local → scope.names.lookup y.1 = some .local := by decide) (hs : ∀ x, foldedSetIterable iter env x = pure x := by intro _; rfl) :
    wpAny (model PR w) A (execs (.Assign [.Name y py] (.ListComp elt [⟨.Name x px, iter, [], 0⟩] scope pos) spos :: rest) env) Q NoE s := by
  refine wpAny_execs_cons ?_
  rw [exec_Assign_Name_used _ _ _ _ hsw]
  refine wpAny_bind (wpAny_standAt (wpAny_bind ?_))
  show wpAny _ A (do let _ ← comprehension (.ListComp elt [⟨.Name x px, iter, [], 0⟩] scope pos) scope env _ (newList []) false (eval iter env) (some (assign (.Name y py) env))) _ _ s
  exact wpAny_bind (wpAny_mono (wpAny_comprehension_free (use := some (assign (.Name y py) env)) (Q := fun _ s' => wpAny (model PR w) A (execs rest env) Q NoE s') rfl hs hclos hkind hnames h) (fun _ s' hq => wpAny_pure (wpAny_pure hq)) fun _ _ e => e)
theorem post_some {C acc : Nat} {oC : Obj} {y : Str} {py : Pos} {Q : Value → Shared → Prop} (S : St w mg mb b L m ((C, oC) :: N) s) (nC : NsObj oC) (h : ∀ s'', St w mg mb b L ((y, .ref acc) :: m) N s'' → Q .none s'')
    (he : env.locals = L := by rfl) (hk : env.scope.kind = .function := by rfl) (hl : env.kindOf y = some .local := by rfl) : compPost (model PR w) A NoE (some (assign (.Name y py) env)) Q (.ref acc) C (.ok .next) s := by
  show wpAny _ A (assign (.Name y py) env (.ref acc)) _ _ _
  refine PyProof.Rows.assign_Name ?_
  refine S.st (fun s1 S1 => ?_) he hk hl
  obtain ⟨f, n⟩ := nC s1.heap C (S1.get (.head _))
  exact ⟨f, n, fun h' hs => h _ (S1.lose rfl (tk := s1.toks) fun x ob hx hg => (hs.2 x hx).trans hg)⟩

/-- entering a def with cells -/
theorem Ok.enterC (O : Ok w mg mb s) {n : Nat} (R : Rm A (n + 1)) {f : Nat} {o : Obj} {fd : FuncData} {body : List Stmt} {vals : List Value} {binds : List (Str × Value)} {Q : Value → Shared → Prop}
    (ho : (KF w).lookup f = some o) (hd : o.data = .func fd) (hcd : s.heap.CodeRec fd.code fd.qualname) (hbody : fd.body = .stmts body) (hbind : bindArgs fd ⟨vals, []⟩ = pure binds) (hclo : fd.closure = [])
    (hkind : ∀ L : Nat, ∀ x ∈ binds, fd.scope.names.lookup x.1 = some .local ∨ (fd.scope.names.lookup x.1 = some .cell ∧ ((cellsFrom (L + 1) fd.scope.names []).lookup x.1).isSome = true))
    (hnd : ((cellsFrom 0 fd.scope.names []).map (·.1)).Nodup)
    (hm : ∀ L x v, m.lookup x = some v → bindL (callEnvC fd L f).kindOf binds (fun _ => none) x = some v)
    (h : ∀ L s₁ cells, St w mg mb s L m cells s₁ → CellsAre (bindC (callEnvC fd L f).kindOf binds fun _ => none) (cellsFrom (L + 1) fd.scope.names []) cells → Rm (A.deeper (callEnvC fd L f)) n →
      wpAny (model PR w) (A.deeper (callEnvC fd L f)) (execs body (callEnvC fd L f)) (fun fl s' => Q (match fl with | .ret v => v | _ => .none) s') NoE s₁)
    (hco : fd.scope.isCoroutine = false := by rfl) (hgen : fd.scope.isGenerator = false := by rfl) (hk : fd.scope.kind = .function := by rfl) :
    wpAny (model PR w) A (call (.ref f) vals) Q E s := by
  refine wpAny_call (codeAny_call_cells R.room (O.kin _ _ ho) hd O.nolim hcd hbody hbind hclo (hkind _) (fun s₁ X => ?_) hco hgen hk)
  obtain ⟨⟨⟨h₁, tk, rfl⟩, hns, keep, fresh⟩, hcell, hap, hab⟩ := X
  obtain ⟨cells, NW, CA⟩ := Cl.news (h₀ := s.heap) (L := s.heap.objs.size) (cm := bindC (callEnvC fd s.heap.objs.size f).kindOf binds fun _ => none) (h := h₁) (Nat.le_refl _) (cs := cellsFrom (s.heap.objs.size + 1) fd.scope.names [])
    (fun n c hm => ⟨hcell n c (lookup_of_mem_nodup (cellsFrom_names fd.scope.names 0 (s.heap.objs.size + 1) [] [] rfl ▸ hnd) hm), hab n c hm⟩)
  have z : s.heap.objs.size < h₁.objs.size := hns.lt
  have big := O.big
  have none' : ∀ a : Nat, s.heap.objs.size ≤ a → s.heap.get? a = none := fun a ha => by
    cases q : s.heap.get? a with
    | none => rfl
    | some o => exact absurd (Heap.lt_size q) (Nat.not_lt.mpr ha)
  have above : ∀ p ∈ cells, ∃ n, (n, p.1) ∈ cellsFrom (s.heap.objs.size + 1) fd.scope.names [] := by
    have key : ∀ {cm : Str → Option Value} {cs : List (Str × Addr)} {cells : List (Addr × Obj)}, CellsAre cm cs cells → ∀ p ∈ cells, ∃ n, (n, p.1) ∈ cs := by
      intro cm cs cells X
      induction X with
      | nil => intro p hp; cases hp
      | cons hd _ ih =>
        intro p hp
        rcases List.mem_cons.mp hp with rfl | hp
        · exact ⟨_, .head _⟩
        · obtain ⟨n, hn⟩ := ih p hp; exact ⟨n, .tail _ hn⟩
    exact key CA
  have nd : (cells.map (·.1)).Nodup := by
    have key : ∀ {cm : Str → Option Value} {cs : List (Str × Addr)} {cells : List (Addr × Obj)}, CellsAre cm cs cells → cells.map (·.1) = cs.map (·.2) := by
      intro cm cs cells X
      induction X with
      | nil => rfl
      | cons hd _ ih => simp [ih]
    rw [key CA]
    exact List.pairwise_map.mpr hap
  refine wpAny_mono (h s.heap.objs.size _ cells ⟨O.keeps keep (Nat.le_of_lt z), .of_all keep, rfl, rfl, ⟨_, hns, fun x v e => hm _ x v e⟩, none' _ (Nat.le_refl _), big, fun p hp => ?_, nd⟩ CA (R.deeper _)) (fun fl s' x => x) (fun _ _ x => x.elim)
  obtain ⟨nm, hc⟩ := above p hp
  have lt := hab nm p.1 hc
  have lt' : s.heap.objs.size < p.1 := lt
  exact ⟨(NW p hp).1, Nat.ne_of_gt lt, none' _ (Nat.le_of_lt lt), by omega⟩

theorem St.ldc (S : St w mg mb b L m N s) {x : Str} {pos : Pos} {v : Value} {c : Nat} {o : Obj} {Q : Value → Shared → Prop} (hm : (c, o) ∈ N) (ho : o.data = .cell (some v)) (h : Q v s)
    (hc : env.cells.lookup x = some c := by rfl) (hk : env.scope.kind = .function := by rfl) (hl : env.kindOf x = some .cell := by rfl) (hd : (x == ("__debug__" : Str)) = false := by decide) :
    wpAny (model PR w) A (eval (.Name x pos) env) Q E s := wpAny_Name (wpAny_loadName_cell hk hl hc ⟨_, S.get hm, ho⟩ h) hd
/-- a cell of the base -/
theorem St.ldcb (S : St w mg mb b L m N s) {x : Str} {pos : Pos} {v : Value} {c : Nat} {o : Obj} {Q : Value → Shared → Prop} (hm : b.heap.get? c = some o) (hi : 218 ≤ c) (ho : o.data = .cell (some v)) (h : Q v s)
    (hc : env.cells.lookup x = some c := by rfl) (hk : env.scope.kind = .function := by rfl) (hl : env.kindOf x = some .cell := by rfl) (hd : (x == ("__debug__" : Str)) = false := by decide) :
    wpAny (model PR w) A (eval (.Name x pos) env) Q E s := wpAny_Name (wpAny_loadName_cell hk hl hc ⟨_, S.keep _ _ (by omega) (by omega) hm, ho⟩ h) hd
theorem St.stc (S : St w mg mb b L m N s) {x : Str} {v : Value} {c : Nat} {o : Obj} {v₀ : Option Value} {pre post : List (Nat × Obj)} {Q : Unit → Shared → Prop} (e : N = pre ++ (c, o) :: post) (ho : o.data = .cell v₀)
    (h : ∀ o' s', o'.data = .cell (some v) → St w mg mb b L m (pre ++ (c, o') :: post) s' → Q () s')
    (hc : env.cells.lookup x = some c := by rfl) (hk : env.scope.kind = .function := by rfl) (hl : env.kindOf x = some .cell := by rfl) :
    wpAny (model PR w) A (storeName env x v) Q E s := by
  refine wpAny_storeName_cell hk hl hc ⟨_, S.get (by rw [e]; exact List.mem_append.mpr (.inr (.head _))), ho⟩ fun h' hi hs => ?_
  obtain ⟨o', ho', hd'⟩ := hi
  exact h o' _ hd' (S.upd' e (tk := s.toks) (fun x ob hx hg => (hs.2 x hx).trans hg) ho')
end
end Mine

namespace Mine
section
variable {w : World} {mg mb : Str → Option Value} {b b' s s' : Shared} {L : Nat} {m : List (Str × Value)} {N : List (Nat × Obj)} {A : Around} {E : Value → Shared → Prop} {env : Env}
/-- a % with one text -/
theorem St.mods (S : St w mg mb b L m N s) {T : Str → Str} {X X' y : Str} {t u : Tok} {Q : Value → Shared → Prop}
    (hm : ∀ z : Str, z.length ≤ 1000000 → Meets (Builtin.«str.__mod__» ⟨[.str X' t, .str z u], []⟩) (fun _ R s => ∀ t' k, R (.ok (.ret (.str (T z) t'))) { s with toks := k })) (hy : y.length ≤ 1000000)
    (h : ∀ t' s', St w mg mb b L m N s' → Q (.str (T y) t') s') (hX : X = X' := by decide +kernel) : wpAny (model PR w) A (binaryOp .Mod (.str X t) (.str y u)) Q E s :=
  KPc.mod_str hX hy hm fun t' k => h t' _ S.tok
theorem St.modt (S : St w mg mb b L m N s) {T X X' : Str} {t : Tok} {c : Nat} {its : Array Value} {Q : Value → Shared → Prop} (hb : (c, tupObj its) ∈ N)
    (hm : Meets (Builtin.«str.__mod__» ⟨[.str X' t, .ref c], []⟩) (fun _ R s => IsTup s.heap c its ∧ ∀ t' k, R (.ok (.ret (.str T t'))) { s with toks := k }))
    (h : ∀ t' s', St w mg mb b L m N s' → Q (.str T t') s') (hX : X = X' := by decide +kernel) : wpAny (model PR w) A (binaryOp .Mod (.str X t) (.ref c)) Q E s := by
  subst hX
  have hg := S.get hb
  exact KPt.bin_left (T := "str") (U := "tuple") (op := .Mod) (by decide) (typeIs_str s X t) ⟨_, hg, rfl⟩ F.fills_str_mod KPt.fills_tuple F.slot_str_mod
    (call_meets F.slot_str_mod (typeIs_str s X t) F.entry_str_mod (F.args_str_mod_2 _ _) hm ⟨⟨_, hg, rfl, _, rfl⟩, fun t' k => ⟨(fun e => nomatch e), h t' _ S.tok⟩⟩)
/-- a decimal text is its own small form -/
theorem lower_int (i : Int) : Txt.lower (Str.ofString (toString i)) = Str.ofString (toString i) := by
  have hc : ∀ c ∈ (Str.ofString (toString i)).cps.toList, c < 65 := by
    intro c hc
    by_cases h1 : c < 65
    · exact h1
    · exact absurd hc (int_text_free' c ⟨by omega, .inr (by omega)⟩ i)
  rw [lower_ascii fun c h => by have := hc c h; omega]
  have e : (Str.ofString (toString i)).cps.map lo1 = (Str.ofString (toString i)).cps := by
    apply Array.toList_inj.mp
    rw [Array.toList_map]
    refine (List.map_congr_left fun c h => ?_).trans (List.map_id _)
    have := hc c h
    unfold lo1
    rw [if_neg (by omega)]; rfl
  rw [e]
theorem shown_small {i : Int} (h0 : -10000 ≤ i) (h1 : i ≤ 10000) : i.natAbs.log2 < 1920 := by
  by_cases h : i.natAbs = 0
  · rw [h]; decide
  · exact (Nat.log2_lt h).mpr (Nat.lt_of_lt_of_le (show i.natAbs < 2 ^ 20 by omega) (Nat.pow_le_pow_right (by decide) (by decide)))
end
end Mine

namespace Mine
/-- a piece's text -/
inductive FP : Value → Str → Prop
  | str (x : Str) (t : Tok) : x.length ≤ 1000000 → FP (.str x t) x
  | int (i : Int) (t : Tok) : -10000 ≤ i → i ≤ 10000 → FP (.int i t) (Str.ofString (toString i))
theorem FP.len {v : Value} {y : Str} (h : FP v y) : y.length ≤ 1000000 := by
  cases h with
  | str x t h => exact h
  | int i t h0 h1 => have := PyProof.Rows.int_text_len_1921 (shown_small h0 h1); omega
section
variable {w : World} {mg mb : Str → Option Value} {b b' s s' : Shared} {L : Nat} {m : List (Str × Value)} {N : List (Nat × Obj)} {A : Around} {E : Value → Shared → Prop} {env : Env}
def JJ (w : World) (A : Around) (E : Value → Shared → Prop) (es : List Expr) (env : Env) (acc : Str) (n : Nat) (Q : Str → Shared → Prop) (s : Shared) : Prop := acc.length ≤ n → n ≤ 16777216 → Joins (model PR w) A E (evalEach es env) acc Q s
theorem j_piece {e : Expr} {rest : List Expr} {acc : Str} {n : Nat} {Q : Str → Shared → Prop} (hn : n + 1000000 ≤ 16777216)
    (h : wpAny (model PR w) A (eval e env) (fun v s₁ => ∃ y t, v = .str y t ∧ y.length ≤ 1000000 ∧ JJ w A E rest env (acc ++ y) (n + 1000000) Q s₁) E s) : JJ w A E (e :: rest) env acc n Q s := fun ha hn' => by
  refine Joins_cons (wpAny_mono h (fun v s₁ ⟨y, t, e, hy, hj⟩ => ?_) fun _ _ x => x)
  have hl : (acc ++ y).length ≤ n + 1000000 := by rw [strLen_append]; omega
  exact ⟨y, t, e, Nat.le_trans hl (Nat.le_trans hn (by decide)), hj hl hn⟩
abbrev JE (Q : Value → Shared → Prop) : Str → Shared → Prop := fun out s₁ => out.length ≤ sizeLine ∧ Q (.str out s₁.toks) { s₁ with toks := s₁.toks + 1 }
theorem j_nil {acc : Str} {n : Nat} {Q : Value → Shared → Prop} (h : ∀ t tk, Q (.str acc t) { s with toks := tk }) : JJ w A E [] env acc n (JE Q) s := fun a b => Joins_nil ⟨Nat.le_trans a (Nat.le_trans b (by decide)), h _ _⟩
theorem j_const {x : Str} {k : Nat} {pos : Pos} {rest : List Expr} {acc : Str} {n : Nat} {Q : Str → Shared → Prop} (h : ∀ tk, JJ w A E rest env (acc ++ x) (n + 1000000) Q { s with toks := tk }) (hn : n + 1000000 ≤ 16777216 := by decide) (hx : x.length ≤ 1000000 := by decide +kernel) :
    JJ w A E (.Constant (.str x) k pos :: rest) env acc n Q s := j_piece hn (wpAny_Constant_str ⟨x, _, rfl, hx, h _⟩)
theorem j_fmt {e : Expr} {pos : Pos} {rest : List Expr} {acc : Str} {n : Nat} {Q : Str → Shared → Prop}
    (h : wpAny (model PR w) A (eval e env) (fun v s₁ => ∃ y, FP v y ∧ ∀ tk, JJ w A E rest env (acc ++ y) (n + 1000000) Q { s₁ with toks := tk }) E s) (hn : n + 1000000 ≤ 16777216 := by decide) :
    JJ w A E (.FormattedValue e 115 none pos :: rest) env acc n Q s := by
  refine j_piece hn (wpAny_FormattedValue_s (wpAny_mono h (fun v s₁ ⟨y, hy, hj⟩ => ?_) fun _ _ x => x))
  cases hy with
  | str _ t hx =>
    have hz := Nat.le_trans hx (show 1000000 ≤ sizeLine by decide)
    exact habitSame_str (fun t' tk => formatField_str (fun t'' tk' => ⟨_, _, rfl, hx, hj _⟩) hz) hz
  | int i t h0 h1 =>
    have hs := shown_small h0 h1
    refine pyStrObj_int hs ?_
    exact formatField_str (fun t'' tk' => ⟨_, _, rfl, (FP.int i t h0 h1).len, hj _⟩) (int_text_fits hs)
theorem x_js {e₁ e₂ : Expr} {rest : List Expr} {pos : Pos} {Q : Value → Shared → Prop} (h : JJ w A E (e₁ :: e₂ :: rest) env Str.empty 0 (JE Q) s) :
    wpAny (model PR w) A (eval (.JoinedStr (e₁ :: e₂ :: rest) pos) env) Q E s := wpAny_JoinedStr (h (Nat.zero_le _) (by decide))
end
end Mine

namespace Mine
theorem entry_itemiter_iter : entryFor table "dict_itemiterator.__iter__" = some Builtin.«dict_keyiterator.__iter__» :=
  entryFor_alias (id' := "dict_keyiterator.__iter__") (by kernel_rfl) rfl (by decide +kernel) (by kernel_rfl)
theorem iter_self_items {prog : Program} {w : World} {A : Around} {E : Value → Shared → Prop} {s : Shared} {it d : Addr} {i n ep : Nat} {ok ov : Value} {Q : Value → Shared → Prop} (hit : IsItemIter s.heap it d i n ep ok ov) (h : Q (.ref it) s) :
    wpAny (model prog w) A (pyIter (.ref it)) Q E s := by
  have hT : s.TypeIs (.ref it) "dict_itemiterator" := ⟨_, hit, rfl⟩
  refine wpAny_pyIter_slot hT F.slot_dict_itemiterator_iter (wpAny_call_entry F.slot_dict_itemiterator_iter hT entry_itemiter_iter ?_ (F.args_dict_itemiterator_iter_1 _))
  show wpAny _ _ (ret (.ref it)) _ _ s
  exact wpAny_pure ⟨_, rfl, "dict_itemiterator", _, hT, F.slot_dict_itemiterator_next.lookup, h⟩
theorem isItemIter_at {h h' : Heap} {it d : Addr} {i n ep : Nat} {ok ov : Value} (x : IsItemIter h it d i n ep ok ov) (k : ∀ o, h.get? it = some o → h'.get? it = some o) : IsItemIter h' it d i n ep ok ov := k _ x
theorem dictAt_at {w : World} {h h' : Heap} {d : Addr} {kvs : List (Str × Value)} {ep : Nat} (x : h.DictAt (SK w) d kvs ep) (k : ∀ o, h.get? d = some o → h'.get? d = some o) : h'.DictAt (SK w) d kvs ep :=
  let ⟨o, es, ho, r⟩ := x; ⟨o, es, k _ ho, r⟩
/-- a walk over a dict's pairs -/
theorem walksItems {w : World} {A : Around} (hh : A.handled = none) (I d : Addr) (hne : d ≠ I) (kvs : List (Str × Value)) (ep : Nat) :
    WalksU PR w A I [I, d] [I] kvs.length (fun i vals => ∃ x v key, kvs[i]? = some (x, v) ∧ (SK w).is x key = true ∧ vals = #[key, v])
      (fun i h => (∃ ok ov, IsItemIter h I d i kvs.length ep ok ov) ∧ h.DictAt (SK w) d kvs ep)
      (fun i T h => (T ≠ I ∧ ∃ ok ov, IsItemIterOut h I d (i + 1) kvs.length ep ok ov T) ∧ h.DictAt (SK w) d kvs ep) where
  sub := fun b hb => by simp at hb; simp [hb]
  frame := fun _ _ _ st hk => ⟨let ⟨ok, ov, x⟩ := st.1; ⟨ok, ov, hk I (by simp) _ x⟩, dictAt_at st.2 fun o e => hk d (by simp) o e⟩
  item := fun i s Q E hi st hQ => by
    obtain ⟨⟨ok, ov, x⟩, hd⟩ := st
    have hx : kvs[i]? = some (kvs[i].1, kvs[i].2) := by simp [hi]
    refine wpAny_pyNext_items_item x hd hx fun key h' hkey hit ht hz hk => ?_
    have hlt : I < s.heap.objs.size := Heap.lt_size x
    exact hQ _ #[key, kvs[i].2] h' s.toks ⟨_, _, key, hx, hkey, rfl⟩ ⟨_, ht, rfl, _, rfl⟩ ⟨⟨Nat.ne_of_gt hlt, _, _, hit⟩, dictAt_at hd fun o e => hk d o hne e⟩ fun b o hb e => hk b o (fun h => hb (by simp [h])) e
  go := fun _ _ _ i T s Q _ hm hQ => by
    obtain ⟨⟨hT, ok, ov, x⟩, hd⟩ := hm
    exact wpAny_letOwnedTupleGo_items x fun h' hit hs => hQ h' ⟨⟨ok, ov, hit⟩, dictAt_at hd fun o e => (hs.2 d hne).trans e⟩ fun b o hb e => (hs.2 b (fun h => hb (by simp [h]))).trans e
  apart := fun i T _ hm hmem => by simp at hmem; exact hm.1.1 hmem
  done := fun s Q E st hQ => by
    obtain ⟨⟨ok, ov, x⟩, hd⟩ := st
    exact wpAny_pyNext_items_end hh x hd (by simp) fun h' he => hQ h' s.toks fun b o hb e => he b o (fun h => hb (by simp [h])) e
  self := fun _ _ _ _ st hQ => let ⟨⟨ok, ov, x⟩, _⟩ := st; iter_self_items x hQ
end Mine

namespace Mine
def itObj (f0 f1 : Value) (d i n ep : Nat) (ok ov : Value) : Obj := { cls := .type "dict_itemiterator", dict := none, data := .fields #[f0, f1, .ref d, .int i 0, .int n 0, .int ep 0, ok, ov], slots := #[] }
section
variable {prog : Program} {w : World} {K : Type} [DecidableEq K] {knd : KeyKind prog w K} {A : Around} {E : Value → Shared → Prop} {s : Shared}
theorem wpAny_ifAlive {M : Model} {A : Around} {E : Value → Shared → Prop} {s : Shared} {a : Addr} {Q : Option Obj → Shared → Prop} (h : Q (s.heap.get? a) s) : wpAny M A (loadIfAlive a) Q E s := fun Γ p hΓ => by
  unfold loadIfAlive
  rw [Sem.wp_loadIfAlive]
  exact wpAny_pure (M := M) (A := A) (E := E) h Γ p hΓ
/-- the next pair where the last pair's tuple still stands -/
theorem next_owned {it d a : Nat} {i ep : Nat} {kvs : List (K × Value)} {k : K} {v ok ov : Value} {fl : Bool} {Q : Option Value → Shared → Prop} (hit : s.heap.get? it = some (itObj (rawInt a) (.bool fl) d i kvs.length ep ok ov)) (ha : ∃ o, s.heap.get? a = some o)
    (hm : s.heap.DictAt knd d kvs ep) (hx : kvs[i]? = some (k, v))
    (hQ : ∀ key h', knd.is k key = true → h'.get? it = some (itObj (rawInt a) (.bool true) d (i + 1) kvs.length ep ok ov) → h'.get? s.heap.objs.size = some { cls := .type "tuple", data := .seq #[key, v] } →
      (∀ (b : Nat) o, b ≠ it → s.heap.get? b = some o → h'.get? b = some o) → Q (some (.ref s.heap.objs.size)) { s with heap := h' }) :
    wpAny (model prog w) A (pyNext (.ref it)) Q E s := by
  obtain ⟨hp, g, dr, tk, os⟩ := s
  obtain ⟨od, es, hod, hcd, hdd, hk, hpr, hn⟩ := id hm
  have hT : Shared.TypeIs ⟨hp, g, dr, tk, os⟩ (.ref it) "dict_itemiterator" := ⟨_, hit, rfl⟩
  unfold pyNext
  refine wpAny_bind (wpAny_attempt (wpAny_callSpecial?_slot (name := Str.ofString "__next__") hT F.slot_dict_itemiterator_next
    (wpAny_call_entry F.slot_dict_itemiterator_next hT F.entry_dict_itemiterator_next ?_ (F.args_dict_itemiterator_next_1 _))))
  refine wpAny_bind (wpAny_pure ?_)
  refine wpAny_bind ?_
  refine wpAny_bind ?_
  first | refine wpAny_bind (wpAny_typeNameOfWhole_itemiter hT (wpAny_pure ?_)) | refine wpAny_bind (wpAny_typeNameOf_itemiter hT (wpAny_pure ?_))
  refine wpAny_bind (wpAny_fieldsOf hit rfl ?_)
  have hown : Builtin.Dict_items.ownsTuple "dict_itemiterator" = true := by decide
  simp only [hown, if_true]
  show wpAny _ _ (if (Value.ref d == Value.none) = true then _ else _) _ _ _
  rw [if_neg (show ¬ ((Value.ref d == Value.none) = true) from Bool.false_ne_true)]
  refine wpAny_bind (wpAny_pure ?_)
  refine wpAny_bind (wpAny_dictEntries hod hdd ?_)
  have hsz : es.size = kvs.length := by rw [← hpr.length]; simp
  rw [if_neg (by rw [hsz]; simp)]
  refine wpAny_bind (wpAny_pure ?_)
  refine wpAny_bind (wpAny_dictEpoch hod hdd ?_)
  rw [if_neg (by simp)]
  refine wpAny_pure ?_
  have hlt : i < kvs.length := by
    rcases Nat.lt_or_ge i kvs.length with h | h
    · exact h
    · simp [List.getElem?_eq_none h] at hx
  have hlt' : i < es.size := by rw [hsz]; exact hlt
  obtain ⟨hkey, hval⟩ := hpr.get? (e := es[i]) (by simp [hlt']) hx
  simp only [show ¬ ((i : Int) < 0) from by omega, if_false, Int.toNat_natCast, Array.getElem?_eq_getElem hlt']
  refine wpAny_bind ?_
  first | refine wpAny_bind (wpAny_typeNameOfWhole_itemiter hT (wpAny_pure ?_)) | refine wpAny_bind (wpAny_typeNameOf_itemiter hT (wpAny_pure ?_))
  refine wpAny_bind (wpAny_isOneOf_itemiter hT ?_)
  show wpAny _ _ (setField (.ref it) 3 (rawInt ((i : Int) + 1)) >>= _) _ _ ⟨hp, g, dr, tk, os⟩
  refine wpAny_bind (wpAny_setField_rec hit (by simp) fun h₁ he₁ hs₁ => ?_)
  replace hs₁ : Heap.SameBut it hp h₁ := hs₁
  replace he₁ : h₁.get? it = some (itObj (rawInt a) (.bool fl) d (i + 1) kvs.length ep ok ov) := by
    have e : ((i + 1 : Nat) : Int) = (i : Int) + 1 := by omega
    unfold itObj; rw [e]; simpa [rawInt] using he₁
  have hT₁ : Shared.TypeIs ⟨h₁, g, dr, tk, os⟩ (.ref it) "dict_itemiterator" := ⟨_, he₁, rfl⟩
  refine wpAny_bind (wpAny_holding ?_)
  refine wpAny_bind (wpAny_isOneOf_itemiter hT₁ ?_)
  refine wpAny_bind (wpAny_isOneOf_itemiter hT₁ ?_)
  show wpAny _ _ (Builtin.Dict_items.pairFromOwner (.ref it) 6 es[i].key es[i].val) _ _ ⟨h₁, g, dr, tk, os⟩
  unfold Builtin.Dict_items.pairFromOwner
  refine wpAny_bind (wpAny_newTuple ?_)
  have he₂ : (h₁.push { cls := .type "tuple", data := .seq #[es[i].key, es[i].val] }).get? it = some (itObj (rawInt a) (.bool fl) d (i + 1) kvs.length ep ok ov) := Heap.get?_push_of_some _ he₁
  have hz₁ : h₁.objs.size = hp.objs.size := hs₁.1
  have hil : it < hp.objs.size := Heap.lt_size hit
  have ht₂ : (h₁.push { cls := .type "tuple", data := .seq #[es[i].key, es[i].val] }).get? hp.objs.size = some { cls := .type "tuple", data := .seq #[es[i].key, es[i].val] } := by rw [← hz₁]; exact Heap.get?_push_size _ rfl
  have hk₂ : ∀ (b : Nat) o, b ≠ it → hp.get? b = some o → (h₁.push { cls := .type "tuple", data := .seq #[es[i].key, es[i].val] }).get? b = some o := fun b o hb e => Heap.get?_push_of_some _ (hs₁.extBut b o hb e)
  have ha₂ : ∃ o, (h₁.push { cls := .type "tuple", data := .seq #[es[i].key, es[i].val] }).get? a = some o := by
    by_cases e : a = it
    · rw [e]; exact ⟨_, he₂⟩
    · obtain ⟨o, ho⟩ := ha; exact ⟨o, hk₂ a o e ho⟩
  generalize h₁.push { cls := .type "tuple", data := .seq #[es[i].key, es[i].val] } = h₂ at he₂ ht₂ hk₂ ha₂ ⊢
  show wpAny _ _ (Builtin.Dict_items.ownedTupleIsFree (.ref it) >>= _) _ _ ⟨h₂, g, dr, tk, os⟩
  rw [hz₁]
  clear he₁ hs₁ hT₁ hz₁ h₁
  refine wpAny_bind ?_
  unfold Builtin.Dict_items.ownedTupleIsFree
  refine wpAny_bind (wpAny_field he₂ rfl (x := rawInt a) rfl ?_)
  obtain ⟨oa, hoa⟩ := ha₂
  show wpAny _ _ (loadIfAlive ((a : Int).toNat) >>= _) _ _ _
  rw [Int.toNat_natCast]
  refine wpAny_bind (wpAny_ifAlive ?_)
  show wpAny _ _ _ _ _ ⟨h₂, g, dr, tk, os⟩
  have hoa' : ({ heap := h₂, gens := g, drawn := dr, toks := tk, os := os } : Shared).heap.get? a = some oa := hoa
  rw [hoa']
  simp only [Option.isNone_some, Bool.false_eq_true, if_false]
  have fin : ∀ h', h'.get? it = some (itObj (rawInt a) (.bool true) d (i + 1) kvs.length ep ok ov) → h'.get? hp.objs.size = some { cls := .type "tuple", data := .seq #[es[i].key, es[i].val] } →
      (∀ (b : Nat) o, b ≠ it → hp.get? b = some o → h'.get? b = some o) → Q (some (.ref hp.objs.size)) ⟨h', g, dr, tk, os⟩ := fun h' e1 e2 e3 => hQ es[i].key h' hkey e1 (hval ▸ e2) e3
  refine wpAny_bind (wpAny_field he₂ rfl (x := .bool fl) rfl ?_)
  cases fl with
  | false =>
    rw [if_pos (by decide)]
    refine wpAny_bind (wpAny_setField_rec he₂ (by simp) fun h₃ he₃ hs₃ => ?_)
    replace hs₃ : Heap.SameBut it h₂ h₃ := hs₃
    refine wpAny_pure ?_
    simp only [Bool.false_eq_true, if_false]
    refine wpAny_pure (wpAny_pure ⟨_, rfl, wpAny_pure ?_⟩)
    exact fin h₃ he₃ (hs₃.extBut _ _ (Nat.ne_of_gt hil) ht₂) fun b o hb e => hs₃.extBut b o hb (hk₂ b o hb e)
  | true =>
    rw [if_neg (by decide)]
    refine wpAny_pure ?_
    simp only [Bool.false_eq_true, if_false]
    refine wpAny_pure (wpAny_pure ⟨_, rfl, wpAny_pure ?_⟩)
    exact fin h₂ he₂ ht₂ hk₂

theorem next_over {it d : Nat} {i ep : Nat} {kvs : List (K × Value)} {f0 f1 ok ov : Value} {Q : Option Value → Shared → Prop} (hh : A.handled = none) (hit : s.heap.get? it = some (itObj f0 f1 d i kvs.length ep ok ov))
    (hm : s.heap.DictAt knd d kvs ep) (hx : kvs[i]? = none) (hQ : ∀ h', Heap.ExtBut it s.heap h' → Q none { s with heap := h' }) : wpAny (model prog w) A (pyNext (.ref it)) Q E s := by
  obtain ⟨od, es, hod, hcd, hdd, hk, hpr, hn⟩ := id hm
  have hT : s.TypeIs (.ref it) "dict_itemiterator" := ⟨_, hit, rfl⟩
  unfold pyNext
  refine wpAny_bind (wpAny_attempt (wpAny_callSpecial?_slot (name := Str.ofString "__next__") hT F.slot_dict_itemiterator_next
    (wpAny_call_entry F.slot_dict_itemiterator_next hT F.entry_dict_itemiterator_next ?_ (F.args_dict_itemiterator_next_1 _))))
  refine wpAny_bind (wpAny_pure ?_)
  refine wpAny_bind ?_
  refine wpAny_bind ?_
  first | refine wpAny_bind (wpAny_typeNameOfWhole_itemiter hT (wpAny_pure ?_)) | refine wpAny_bind (wpAny_typeNameOf_itemiter hT (wpAny_pure ?_))
  refine wpAny_bind (wpAny_fieldsOf hit rfl ?_)
  have hown : Builtin.Dict_items.ownsTuple "dict_itemiterator" = true := by decide
  simp only [hown, if_true]
  show wpAny _ _ (if (Value.ref d == Value.none) = true then _ else _) _ _ s
  rw [if_neg (show ¬ ((Value.ref d == Value.none) = true) from Bool.false_ne_true)]
  refine wpAny_bind (wpAny_pure ?_)
  refine wpAny_bind (wpAny_dictEntries hod hdd ?_)
  have hsz : es.size = kvs.length := by rw [← hpr.length]; simp
  rw [if_neg (by rw [hsz]; simp)]
  refine wpAny_bind (wpAny_pure ?_)
  refine wpAny_bind (wpAny_dictEpoch hod hdd ?_)
  rw [if_neg (by simp)]
  refine wpAny_pure ?_
  have hge : es.size ≤ i := by rw [hsz]; simpa using hx
  simp only [show ¬ ((i : Int) < 0) from by omega, if_false, Int.toNat_natCast, Array.getElem?_eq_none hge]
  refine wpAny_bind ?_
  first | refine wpAny_bind (wpAny_typeNameOfWhole_itemiter hT (wpAny_pure ?_)) | refine wpAny_bind (wpAny_typeNameOf_itemiter hT (wpAny_pure ?_))
  show wpAny _ _ (setField (.ref it) 2 .none >>= _) _ _ s
  refine wpAny_bind (wpAny_setField hit rfl (by simp) ?_)
  show wpAny _ _ (newExc (.type "StopIteration") [] >>= _) _ _ _
  refine wpAny_bind ?_
  simp only [newExc, newTuple]
  refine wpAny_bind (wpAny_newObj_type ?_ (by size_fits))
  refine wpAny_bind (m := firstArgMember _ _) (wpAny_of_eq (a := Value.none) (by first | rfl | (simp only [firstArgMember]; rfl)) ?_)
  refine wpAny_newObj_type ?_ (by size_fits)
  simp only [raiseNew]
  refine wpAny_bind (wpAny_handled ?_)
  rw [show A.in1.handled = none from hh]
  refine wpAny_bind (wpAny_pure (wpAny_throw ?_))
  refine wpAny_bind (wpAny_isInstance (T := "StopIteration") (b := true) ⟨_, Heap.get?_push_size _ rfl, rfl⟩ isSubtype_stop ?_)
  exact wpAny_pure (hQ _ (((Heap.SameBut.update ..).extBut.push _).push _))

theorem view_getattr_none : typeLookup (.type "dict_items") "__getattr__" = pure none := by rw [typeLookup_type, builtinLookup_eq_fast]; kernel_rfl
theorem view_keys_none : typeLookup (.type "dict_items") "keys" = pure none := by rw [typeLookup_type, builtinLookup_eq_fast]; kernel_rfl
def viewObj (d : Nat) : Obj := { cls := .type "dict_items", dict := none, data := .fields #[.ref d], slots := #[] }
theorem meets_view_miss (a d : Nat) (name : Str) (u : Tok) (hmiss : typeLookup (.type "dict_items") name = pure none) (hname : (["__module__", "__name__", "__qualname__", "__doc__", "__annotations__"] : List Str).contains name = false) (hsz : name.length + 100 ≤ sizeLine) :
    Meets (Builtin.«object.__getattribute__» ⟨[.ref a, .str name u], []⟩) (fun A R s => s.heap.get? a = some { cls := .type "dict_items", dict := none, data := .fields #[.ref d], slots := #[] } ∧ raisesAttr (.ref a) name A R s) :=
  Meets.of_wp fun prog w A R s hs => by
    obtain ⟨hp, g, d, tk, os⟩ := s
    obtain ⟨hx, hs⟩ := hs
    have hT : (⟨hp, g, d, tk, os⟩ : Shared).TypeIs (.ref a) "dict_items" := ⟨_, hx, rfl⟩
    unfold Builtin.«object.__getattribute__»
    repeat (any_goals (first | assumption | wp_step))
    simp only [hname, Bool.false_eq_true, if_false]
    repeat (any_goals (first | assumption | wp_step))
    exact wpAny_raiseAttrError hs.1 hs.2 (attrMsg_fits (by decide +kernel) hsz)

/-- a view has no "keys" -/
theorem view_no_keys {a d : Nat} {Q : Option Value → Shared → Prop} (hx : s.heap.get? a = some (viewObj d)) (hA : A.handled = none) (h : ∀ h' tk, (∀ (b : Nat) o, s.heap.get? b = some o → h'.get? b = some o) → Q none { s with heap := h', toks := tk }) :
    wpAny (model prog w) A (getAttr? (.ref a) "keys") Q E s := by
  obtain ⟨hp, g, dd, tk, os⟩ := s
  unfold viewObj at hx
  have hT : ∀ tk', (⟨hp, g, dd, tk', os⟩ : Shared).TypeIs (.ref a) "dict_items" := fun _ => ⟨_, hx, rfl⟩
  have f1 := sub_AttributeError
  have f3 := F.slot_dict_items_getattribute.lookup
  have f4 := F.slot_dict_items_getattribute.bind (.ref a)
  have f5 := view_getattr_none
  unfold getAttr? getAttrBy? getAttrBy
  repeat (any_goals (first | assumption | exact hT _ | ((with_reducible show wpAny _ _ (call (Value.builtin "object.__getattribute__") _ _) _ _ _); refine call_meets F.slot_dict_items_getattribute (hT _) F.entry_object_getattribute (F.args_object_getattribute_2 _ _) (meets_view_miss a d "keys" _ view_keys_none (by decide) (by decide)) ⟨hx, hA, fun h' tk' e hx' => ?_⟩) | wp_step))
  obtain ⟨t', u', he⟩ := hx'.there
  show wpAny _ _ (getattributeRaised _ _ _ _ _ _ _) _ _ _
  unfold getattributeRaised
  repeat (any_goals (first | assumption | wp_step))
  exact h _ _ hx'.of.keeps
end
theorem entry_update_loop : entryFor table "dict.update.loop" = some Builtin.«dict.update.loop» := entryFor_of_tree (by kernel_rfl)
theorem plain_update_loop : plainId "dict.update.loop" = true := by decide +kernel
section
variable {w : World} {A : Around} {E : Value → Shared → Prop} {s : Shared}
/-- the iterator's two ways -/
def ItAt (h : Heap) (it d i n ep : Nat) : Prop := (i = 0 ∧ ∃ ok ov, h.get? it = some (itObj .none (.bool false) d i n ep ok ov)) ∨ ∃ a fl ok ov, h.get? it = some (itObj (rawInt ((a : Nat) : Int)) (.bool fl) d i n ep ok ov) ∧ ∃ o, h.get? a = some o
theorem ItAt.ob {h : Heap} {it d i n ep : Nat} (x : ItAt h it d i n ep) : ∃ f0 f1 ok ov, h.get? it = some (itObj f0 f1 d i n ep ok ov) := by
  rcases x with ⟨_, ok, ov, x⟩ | ⟨a, fl, ok, ov, x, _⟩
  · exact ⟨_, _, _, _, x⟩
  · exact ⟨_, _, _, _, x⟩
theorem ItAt.next {it d i ep : Nat} {kvs : List (Str × Value)} {x : Str} {v : Value} {Q : Option Value → Shared → Prop} (I : ItAt s.heap it d i kvs.length ep) (hm : s.heap.DictAt (SK w) d kvs ep) (hx : kvs[i]? = some (x, v))
    (hQ : ∀ key h', (SK w).is x key = true → ItAt h' it d (i + 1) kvs.length ep → h'.get? s.heap.objs.size = some { cls := .type "tuple", data := .seq #[key, v] } →
      (∀ (b : Nat) o, b ≠ it → s.heap.get? b = some o → h'.get? b = some o) → Q (some (.ref s.heap.objs.size)) { s with heap := h' }) :
    wpAny (model PR w) A (pyNext (.ref it)) Q E s := by
  rcases I with ⟨rfl, ok, ov, hit⟩ | ⟨a, fl, ok, ov, hit, ha⟩
  · refine wpAny_pyNext_items_item hit hm hx fun key h' hkey ho ht hz hk => hQ key h' hkey (.inr ⟨s.heap.objs.size, false, _, _, ho, _, ht⟩) ht hk
  · exact next_owned hit ha hm hx fun key h' hkey ho ht hk => hQ key h' hkey (.inr ⟨a, true, _, _, ho, by
      by_cases e : a = it
      · rw [e]; exact ⟨_, ho⟩
      · obtain ⟨o, h⟩ := ha; exact ⟨o, hk a o e h⟩⟩) ht hk
theorem update_loop (hA : A.handled = none) {it d D ep : Nat} {kvs : List (Str × Value)} (hz : kvs.length ≤ 1000) (hn : (kvs.map (·.1)).Nodup) (h1 : D ≠ it) (h2 : d ≠ it) (h3 : D ≠ d) {R : Result → Shared → Prop} :
    ∀ (k i : Nat) (s : Shared), kvs.length - i = k → i ≤ kvs.length → ItAt s.heap it d i kvs.length ep → s.heap.DictAt (SK w) d kvs ep → s.heap.DictOf (SK w) D (kvs.take i) →
      (∀ h' tk, h'.DictOf (SK w) D kvs → (∀ (b : Nat) o, b ≠ it → b ≠ D → s.heap.get? b = some o → h'.get? b = some o) → R (.ok (.ret .none)) { s with heap := h', toks := tk }) →
      codeAny (model PR w) A (.builtin "dict.update.loop" ⟨[.ref D, .ref it, rawInt i, .none], []⟩) R s := by
  intro k
  induction k with
  | zero =>
    intro i s hk hi I hd hD hR
    have e : i = kvs.length := by omega
    refine codeAny_builtin entry_update_loop ?_
    rw [Around.under_plainId plain_update_loop _]
    show wpAny _ A.in1 (pyNext (.ref it) >>= _) _ _ s
    obtain ⟨f0, f1, ok, ov, hit⟩ := I.ob
    refine wpAny_bind (next_over hA hit hd (by simp [e]) fun h' hx => ?_)
    refine wpAny_bind (wpAny_pure (wpAny_pure ?_))
    rw [e, List.take_length] at hD
    obtain ⟨o, es, epD, ho, r⟩ := hD
    exact hR h' s.toks ⟨o, es, epD, hx _ _ h1 ho, r⟩ fun b o hb _ e => hx b o hb e
  | succ k ih =>
    intro i s hk hi I hd hD hR
    have hlt : i < kvs.length := by omega
    have hx : kvs[i]? = some (kvs[i].1, kvs[i].2) := by simp [hlt]
    refine codeAny_builtin entry_update_loop ?_
    rw [Around.under_plainId plain_update_loop _]
    show wpAny _ A.in1 (pyNext (.ref it) >>= _) _ _ s
    refine wpAny_bind (I.next hd hx fun key h' hkey I' ht hk' => ?_)
    have hd' := dictAt_at hd fun o e => hk' d o h2 e
    have hD' : h'.DictOf (SK w) D (kvs.take i) := let ⟨o, es, epD, ho, r⟩ := hD; ⟨o, es, epD, hk' _ _ h1 ho, r⟩
    refine wpAny_bind (wpAny_holding ?_)
    refine wpAny_bind ?_
    refine wpAny_tryCatch ?_
    unfold Builtin.Dict.pairItems
    refine wpAny_bind (wpAny_typeOf (T := "tuple") ⟨_, ht, rfl⟩ ?_)
    rw [if_pos (by decide)]
    refine wpAny_bind (wpAny_seqItems ht rfl ?_)
    refine wpAny_pure ?_
    show wpAny _ _ (holding [key, kvs[i].2] (dictSet D key kvs[i].2)) _ _ _
    refine wpAny_holding ?_
    have hl : (kvs.take i).length = i := by rw [List.length_take]; omega
    have hnew : kvs[i].1 ∉ (kvs.take i).map (·.1) := by
      intro hm
      have q := hn
      have e : kvs.take i ++ kvs.drop i = kvs := List.take_append_drop ..
      rw [← e, List.map_append] at q
      refine (List.nodup_append.mp q).2.2 _ hm kvs[i].1 ?_ rfl
      refine List.mem_map.mpr ⟨kvs[i], List.mem_of_getElem? (i := 0) ?_, rfl⟩
      rw [List.getElem?_drop]
      simp [hlt]
    refine wpAny_dictSet_pairs (knd := SK w) (k := kvs[i].1) hkey hD' (fun h'' hD'' hs => ?_) (Nat.le_trans (by omega : (kvs.take i).length ≤ 1000) (by decide))
    rw [stored_new hnew, show kvs.take i ++ [(kvs[i].1, kvs[i].2)] = kvs.take (i + 1) by rw [List.take_add_one, hx]; rfl] at hD''
    have I'' : ItAt h'' it d (i + 1) kvs.length ep := by
      rcases I' with ⟨e, _⟩ | ⟨a, fl, ok, ov, hit, ha⟩
      · cases e
      · refine .inr ⟨a, fl, ok, ov, (hs.2 it (Ne.symm h1)).trans hit, ?_⟩
        by_cases e : a = D
        · rw [e]; obtain ⟨o, _, _, ho, _⟩ := hD''; exact ⟨o, ho⟩
        · obtain ⟨o, h⟩ := ha; exact ⟨o, (hs.2 a e).trans h⟩
    refine wpAny_pure ⟨plainId_quiet plain_update_loop _, ?_⟩
    have ei : (rawInt ((i : Int) + 1)) = rawInt ((i + 1 : Nat) : Int) := by rw [show ((i + 1 : Nat) : Int) = (i : Int) + 1 by omega]
    rw [ei]
    refine ih (i + 1) _ (by omega) hlt I'' (dictAt_at hd' fun o e => (hs.2 d (Ne.symm h3)).trans e) hD'' fun h3' tk' hDf hk3 => ?_
    exact hR h3' tk' hDf fun b o hb hbD e => hk3 b o hb hbD ((hs.2 b hbD).trans (hk' b o hb e))
end
end Mine

namespace Mine
section
variable {w : World} {mg mb : Str → Option Value} {b b' s s' : Shared} {L : Nat} {m : List (Str × Value)} {N : List (Nat × Obj)} {A : Around} {E : Value → Shared → Prop} {env : Env}
/-- dict(d.items()) -/
theorem dict_of_view {v d : Nat} {kvs : List (Str × Value)} {Q : Value → Shared → Prop} (hA : A.handled = none) (hv : s.heap.get? v = some (viewObj d)) (hd : s.heap.DictOf (SK w) d kvs) (hz : kvs.length ≤ 1000)
    (h : ∀ (D : Nat) h' tk, h'.DictOf (SK w) D kvs → s.heap.objs.size ≤ D → (∀ (b : Nat) o, s.heap.get? b = some o → h'.get? b = some o) → Q (.ref D) { s with heap := h', toks := tk }) :
    wpAny (model PR w) A (call (.type "dict") [.ref v]) Q E s := by
  refine callType_codes (Q₁ := fun obj s₁ => obj = .ref s.heap.objs.size ∧ s₁ = { s with heap := s.heap.push { cls := .type "dict", data := .dict #[] } }) F.kt_called_dict (F.kt_typeCall_dict_1 _) F.entry_dict_init (kt_code_dict_new _ ⟨rfl, rfl⟩) ?_
  rintro obj s₁ ⟨rfl, rfl⟩
  have hnew : (s.heap.push { cls := .type "dict", data := .dict #[] }).DictOf (SK w) s.heap.objs.size [] := Heap.DictOf.new s.heap
  have hd' : (s.heap.push { cls := .type "dict", data := .dict #[] }).DictOf (SK w) d kvs := hd.push _
  have hv' : (s.heap.push { cls := .type "dict", data := .dict #[] }).get? v = some (viewObj d) := Heap.get?_push_of_some _ hv
  have k1 : ∀ (b : Nat) o, s.heap.get? b = some o → (s.heap.push { cls := .type "dict", data := .dict #[] }).get? b = some o := fun b o e => Heap.get?_push_of_some _ e
  have hn : (kvs.map (·.1)).Nodup := let ⟨_, _, _, _, _, _, _, _, hn⟩ := hd; hn
  refine ⟨hnew.typeIs, F.args_dict_init_2 _ _, ?_⟩
  unfold Builtin.«dict.__init__»
  refine wpAny_bind ?_
  unfold Builtin.Dict.selfAndRest
  refine wpAny_bind (wpAny_notOrdered_dict hnew.typeIs ?_)
  show wpAny _ _ (pure (s.heap.objs.size, [Value.ref v])) _ _ _
  refine wpAny_pure ?_
  show wpAny _ _ (Builtin.Dict.updateFrom "dict.__init__" s.heap.objs.size (.ref v) [] .none) _ _ _
  unfold Builtin.Dict.updateFrom
  refine wpAny_bind (wpAny_typeOf (T := "dict_items") ⟨_, hv', rfl⟩ ?_)
  rw [if_pos (by decide)]
  have hds : s.heap.objs.size ≠ d := by
    obtain ⟨_, _, _, hg, _⟩ := hd
    exact Nat.ne_of_gt (Heap.lt_size hg)
  generalize s.heap.push { cls := .type "dict", data := .dict #[] } = h1 at hnew hd' hv' k1 ⊢
  refine wpAny_bind (view_no_keys hv' hA fun h2 tk k2 => ?_)
  have hnew2 : h2.DictOf (SK w) s.heap.objs.size [] := let ⟨o, es, ep, ho, r⟩ := hnew; ⟨o, es, ep, k2 _ _ ho, r⟩
  obtain ⟨o, es, ep, ho, r⟩ := hd'
  have hd2 : h2.DictAt (SK w) d kvs ep := ⟨o, es, k2 _ _ ho, r⟩
  have hlt : s.heap.objs.size < h2.objs.size := by obtain ⟨o, _, _, ho, _⟩ := hnew2; exact Heap.lt_size ho
  have hltd : d < h2.objs.size := by obtain ⟨o, _, ho, _⟩ := hd2; exact Heap.lt_size ho
  simp only [Option.isNone_none, if_true]
  refine wpAny_bind (wpAny_rule ?_)
  refine wpAny_bind (wpAny_pyIter_items ⟨_, k2 _ _ hv', rfl, rfl⟩ hd2 ?_)
  have k3 : ∀ (b : Nat) o, h2.get? b = some o → (h2.push (itObj .none (.bool false) d 0 kvs.length ep .none .none)).get? b = some o := fun b o e => Heap.get?_push_of_some _ e
  have hit : (h2.push (itObj .none (.bool false) d 0 kvs.length ep .none .none)).get? h2.objs.size = some (itObj .none (.bool false) d 0 kvs.length ep .none .none) := Heap.get?_push_size _ rfl
  have hdA : (h2.push (itObj .none (.bool false) d 0 kvs.length ep .none .none)).DictAt (SK w) d kvs ep := dictAt_at hd2 fun o e => k3 _ _ e
  refine wpAny_pure ⟨plainId_quiet plain_update_loop _, ?_⟩
  refine update_loop (w := w) (A := A.in1) (ep := ep) (kvs := kvs) (d := d) hA hz hn (Nat.ne_of_lt hlt) (Nat.ne_of_lt hltd) hds _ 0 { s with heap := h2.push (itObj .none (.bool false) d 0 kvs.length ep .none .none), toks := tk } rfl (Nat.zero_le _) (.inl ⟨rfl, _, _, hit⟩) hdA ?_ fun h' tk' hD hk => ?_
  · obtain ⟨o, es, ep, ho, r⟩ := hnew2
    exact ⟨o, es, ep, k3 _ _ ho, r⟩
  · refine ⟨rfl, h _ h' tk' hD (Nat.le_refl _) fun b o e => ?_⟩
    have lt := Heap.lt_size e
    exact hk b o (Nat.ne_of_lt (Heap.lt_size (k2 _ _ (k1 _ _ e)))) (Nat.ne_of_lt lt) (k3 _ _ (k2 _ _ (k1 _ _ e)))
theorem St.dictitems (S : St w mg mb b L m N s) {k : Nat} (R : Rm A k) {v d : Nat} {kvs : List (Str × Value)} {Q : Value → Shared → Prop} (hv : s.heap.get? v = some (viewObj d)) (hd : s.heap.DictOf (SK w) d kvs) (hz : kvs.length ≤ 1000)
    (h : ∀ (a : Nat) o s', o.IsDictOf (SK w) kvs → St w mg mb b L m ((a, o) :: N) s' → Q (.ref a) s') : wpAny (model PR w) A (call (.type "dict") [.ref v]) Q E s := by
  refine dict_of_view R.h hv hd hz fun D h' tk hD hle hk => ?_
  obtain ⟨o, ho, hO⟩ := Heap.dictOf_iff.mp hD
  have S1 := S.kept (h' := h') (tk := tk) hk
  have big := S.ok.big
  have hi : 218 ≤ D := Nat.le_trans big hle
  exact h D o _ hO (S1.add ho (S.none_size hle (by omega) (by omega)) (fun e => by have := S.nsl; omega) (fun p hp => Nat.ne_of_lt (Nat.lt_of_lt_of_le (Heap.lt_size (S.nw p hp).1) hle)) hi)
end
end Mine

namespace Mine
theorem kf_fillG (w : World) : (hd.heap_39 w.params) = (hd.heap_39 w.params) ∧ PySem.Challenge.rw_bq5006_01 = PySem.Challenge.rw_bq5006_01 := by
  k_fill
  exact ⟨rfl, rfl⟩
theorem gB4 (w : World) : nsIn (hd.heap_39 w.params) mainGlobals "__builtins__" = some (some (.ref 4)) := by k_is
section
variable {w : World} {mg mb : Str → Option Value} {b b' s s' : Shared} {L : Nat} {m : List (Str × Value)} {N : List (Nat × Obj)} {A : Around} {E : Value → Shared → Prop} {env : Env}
theorem St.bfor (S : St w mg mb b L m N s) {g r : Addr} {Q : Addr → Shared → Prop} (h : Q builtinsNs s) (hg : g = mainGlobals := by rfl) : wpAny (model PR w) A (builtinsFor g r) Q E s := by
  subst hg
  obtain ⟨ob, h1, h2, h3, h4⟩ := S.ok.tabs.bm
  exact wpAny_builtinsFor S.ok.g (mg_of S.ok.kin S.ok.g (gB4 w)) (by decide) h1 h2 h3 h4 h
/-- two own objects that are not followed any more may turn -/
theorem St.lose2 (S : St w mg mb b L m N s) {a c : Nat} {o o' : Obj} {N' : List (Nat × Obj)} (e : N = (a, o) :: (c, o') :: N') {h' : Heap} {tk : Nat} (kk : ∀ (x : Nat) ob, x ≠ a → x ≠ c → s.heap.get? x = some ob → h'.get? x = some ob) :
    St w mg mb b L m N' { s with heap := h', toks := tk } := by
  have S1 := S.lose (a := a) e (h' := dropH s.heap [a]) (tk := tk) (fun x ob hx hg => by rw [dropH_get, if_neg (by simpa using hx)]; exact hg)
  refine S1.lose rfl (tk := tk) fun x ob hx hg => ?_
  have hg' : (dropH s.heap [a]).get? x = some ob := hg
  rw [dropH_get] at hg'
  split at hg'
  · cases hg'
  · rename_i hxa
    exact kk x ob (by simpa using hxa) hx hg'
/-- the code of a generator expression: made once, then found -/
theorem St.gcode (S : St w mg mb b L m N s) {c P : Nat} {pos : Pos} {qual : Str} {scope : Scope} {Q : Value → Shared → Prop} (hc : env.code = .ref c) (hP : P = 93 ∨ P = 59)
    (isT : ∀ ps, s.heap.get? P = some (tblObj ps) → TriplesOk ps.toList → s.heap.IsCode c P ps ∧ s.heap.TableAt c P ps) (hT : TabIs P pos.line pos.col s.heap)
    (re : ∀ h', Heap.ExtBut P s.heap h' → TabIs P pos.line pos.col h' → Tabs h')
    (h : ∀ code s', St w mg mb b L m N s' → s'.gens = s.gens → Q code s') : wpAny (model PR w) A (genexprCode env pos qual scope) Q E s := by
  obtain ⟨ps, hps, hcase⟩ := hT
  rcases hcase with rfl | ⟨c', rfl⟩
  · obtain ⟨h1, h2⟩ := isT _ hps trivial
    refine wpAny_genexprCodeX hc h1 h2 rfl fun c' h' tk hx hge hlt hcode hrec htab _ => ?_
    have hk : Keep s.heap h' := fun a o n1 n2 e => hx a o (by rcases hP with rfl | rfl; exact n1; exact n2) e
    have z : 218 ≤ h'.objs.size := by have := S.ok.big; omega
    exact h _ _ (S.aft ⟨hk, rfl, rfl⟩ (S.ok.step hk (re h' hx ⟨_, htab.2, .inr ⟨c', rfl⟩⟩) S.ok.bare z)) rfl
  · obtain ⟨h1, _⟩ := isT _ hps trivial
    exact wpAny_genexprCode_hit hc h1 (c' := .ref c') (by simp [codeAmong, rawInt]) (h _ _ S rfl)

/-- a generator expression, behind its source's iterator -/
theorem St.gmake (S : St w mg mb b L m ((I, oi) :: N) s) {elt target iter : Expr} {scope : Scope} {cl : List (Str × Addr)} {pos : Pos} {c P : Nat} {Q : Value → Shared → Prop}
    (hc : env.code = .ref c) (hP : P = 93 ∨ P = 59)
    (isT : ∀ ps, s.heap.get? P = some (tblObj ps) → TriplesOk ps.toList → s.heap.IsCode c P ps ∧ s.heap.TableAt c P ps) (hT : TabIs P pos.line pos.col s.heap)
    (re : ∀ h', Heap.ExtBut P s.heap h' → TabIs P pos.line pos.col h' → Tabs h') (hg : env.globals = mainGlobals)
    (h : ∀ code (a C g : Nat) oa oC s', St w mg mb b L m ((a, oa) :: (C, oC) :: (I, oi) :: N) s' → s'.heap.IsGen a g → s'.gens[g]? = some (.fresh (.compStart (.GeneratorExp elt [⟨target, iter, [], 0⟩] scope pos) 0 (.ref I) .none (genEnv scope cl C code builtinsNs env))) →
      s'.heap.Ns C (fun y => if y = ".0" then some (.ref I) else none) → Q (.ref a) s') :
    s.heap.NoLimit ∧ wpAny (model PR w) A (genexprCode env pos (env.qual ++ "<genexpr>") scope) (fun code s₃ => wpAny (model PR w) A (builtinsFor env.globals env.builtins) (fun bi s₄ =>
        ∀ h', h'.Ns s₄.heap.objs.size (fun y => if y = ".0" then some (.ref I) else none) → Heap.SameBut s₄.heap.objs.size (s₄.heap.push { cls := .type "frame", data := .dict #[] }) h' →
          Q (.ref h'.objs.size) { s₄ with
            gens := s₄.gens.push (.fresh (.compStart (.GeneratorExp elt [⟨target, iter, [], 0⟩] scope pos) 0 (.ref I) .none (genEnv scope cl s₄.heap.objs.size code bi env))),
            toks := s₄.toks + 1 + 1 + 1,
            heap := h'.push { cls := .type "generator", data := .fields #[.int s₄.gens.size 0, .str "<genexpr>" (s₄.toks + 1), .str (env.qual ++ "<genexpr>") (s₄.toks + 1 + 1)] } }) E s₃) E s := by
  refine ⟨S.ok.nolim, ?_⟩
  refine S.gcode hc hP isT hT re fun code s₃ S₃ _ => ?_
  refine S₃.bfor ?_ hg
  intro h' hn hs
  have kk : ∀ (x : Nat) o, s₃.heap.get? x = some o → h'.get? x = some o := fun x o e => (hs.2 x (Nat.ne_of_lt (Heap.lt_size e))).trans (Heap.get?_push_of_some _ e)
  have S₄ := S₃.kept (h' := h') (tk := s₃.toks) kk
  obtain ⟨oC, hoC, _⟩ := nsObj_of hn
  have hC : 218 ≤ s₃.heap.objs.size := S₃.ok.big
  have S₅ := S₄.add (t := s₃.heap.objs.size) hoC (S₃.none_size (Nat.le_refl _) (by omega) (by omega)) (Nat.ne_of_gt S₃.nsl) (fun p hp => Nat.ne_of_lt (Heap.lt_size (S₃.nw p hp).1)) hC
  have S₆ := S₅.pushN (tk := s₃.toks + 1 + 1 + 1) { cls := .type "generator", data := .fields #[.int s₃.gens.size 0, .str "<genexpr>" (s₃.toks + 1), .str (env.qual ++ "<genexpr>") (s₃.toks + 1 + 1)] }
  refine h code _ s₃.heap.objs.size s₃.gens.size _ _ _ (S₆.aft (s' := { s₃ with
            gens := s₃.gens.push (.fresh (.compStart (.GeneratorExp elt [⟨target, iter, [], 0⟩] scope pos) 0 (.ref I) .none (genEnv scope cl s₃.heap.objs.size code builtinsNs env))),
            toks := s₃.toks + 1 + 1 + 1,
            heap := h'.push { cls := .type "generator", data := .fields #[.int s₃.gens.size 0, .str "<genexpr>" (s₃.toks + 1), .str (env.qual ++ "<genexpr>") (s₃.toks + 1 + 1)] } }) ⟨.refl _, rfl, rfl⟩ ?_) ?_ ?_ ?_
  · exact S₆.ok.step (.refl _) S₆.ok.tabs (S₆.ok.bare.push rfl) S₆.ok.big
  · exact ⟨_, _, _, Heap.get?_push_size _ rfl, rfl, rfl, rfl⟩
  · exact Array.getElem?_push_size ..
  · exact hn.push _
/-- ', '.join(..) of a generator that stands -/
theorem St.gjoin (S : St w mg mb b L m ((a, oa) :: (C, oC) :: (I, oi) :: N) s) {k : Nat} (R : Rm A (k + 1)) {g n : Nat} {fp : List Addr} {F : Nat → Value → Prop} {sep : Str} {t : Tok} {Q : Value → Shared → Prop}
    (G : GenAt PR w A.in1.in1 a g C fp [I] (fun _ => true) n F 0 s) (hfp : ∀ x ∈ fp, (x : Nat) = I ∨ (x ≠ a ∧ (x : Nat) ≠ C ∧ x < s.heap.objs.size)) (hI : I ∈ fp) (hcs : cStatics ∈ fp) (tx : Nat → Str) (hF : ∀ i v, i < n → F i v → ∃ u, v = .str (tx i) u)
    (hok : JoinOk sep ((List.range n).map tx) = true) (hn : n ≤ 1000)
    (h : ∀ t' s', St w mg mb b L m ((a, oa) :: N) s' → Q (.str (Txt.join sep ((List.range n).map tx)) t') s') : wpAny (model PR w) A (call (.builtin "str.join") [.str sep t, .ref a]) Q E s := by
  have na := S.nw _ (.head _)
  have nC := S.nw _ (.tail _ (.head _))
  have nI := S.nw _ (.tail _ (.tail _ (.head _)))
  have nd := S.nd
  simp only [List.map_cons, List.nodup_cons, List.mem_cons, not_or] at nd
  have la := Heap.lt_size na.1
  have lC := Heap.lt_size nC.1
  have lI := Heap.lt_size nI.1
  have c2 : (cStatics : Nat) < 218 := by decide
  have haf : (a : Nat) ∉ fp := fun h => by
    rcases hfp _ h with e | e
    · exact nd.1.2.1 e
    · exact e.1 rfl
  have W := WalksS.genexpQ (prog := PR) (w := w) (A := A.in1.in1) R.h a g C fp [I] (fun _ => true) n F nd.1.1 haf (fun x hx => by rw [List.mem_singleton] at hx; rw [hx]; exact hI) R.room hcs (fun e => by have := nC.2.2.2; rw [← e] at this; exact absurd (show (218 : Nat) ≤ cStatics from this) (by decide))
    (fun h => by rw [List.mem_singleton] at h; have := nI.2.2.2; rw [← h] at this; exact absurd (show (218 : Nat) ≤ cStatics from this) (by decide))
  have hp : passing (fun _ => true) n 0 = List.range n := by simp [passing]
  have hl : (passing (fun _ => true) n 0).length = n := by rw [hp]; simp
  rw [hl] at W
  refine SC.joinGen W (fun i s' st => st.1.typeIs) G (fun x hx => ?_) (List.mem_cons_self ..) (fun i v hv => ?_) (fun s' l hm hacc => ?_) (Nat.le_trans hn (by decide))
  · rcases List.mem_cons.mp hx with rfl | hx
    · exact la
    · rcases List.mem_cons.mp hx with rfl | hx
      · exact lC
      · rcases hfp _ hx with e | e
        · rw [e]; exact lI
        · exact e.2.2
  · obtain ⟨j, hj, hv⟩ := hv
    have hj' : j < n := by
      have := List.mem_of_getElem? hj
      rw [hp] at this
      exact List.mem_range.mp this
    obtain ⟨u, e⟩ := hF j v hj' hv
    exact ⟨_, u, e⟩
  · have hl : l.map (·.1) = (List.range n).map tx := by
      apply List.ext_getElem?
      intro j
      have hsz : l.length = n := by simpa [strValues] using hacc.1
      by_cases hj : j < n
      · have hj' : j < l.length := hsz ▸ hj
        obtain ⟨i, hi, hv⟩ := hacc.2 j (.str l[j].1 l[j].2) (by simp [strValues, List.getElem?_eq_getElem hj'])
        rw [hp, List.getElem?_range hj] at hi
        cases hi
        obtain ⟨u, hv⟩ := hF j _ hj hv
        injection hv with h1 _
        simp [List.getElem?_eq_getElem hj', hj, h1]
      · rw [List.getElem?_eq_none (by simpa [hsz] using Nat.le_of_not_lt hj), List.getElem?_eq_none (by simpa using Nat.le_of_not_lt hj)]
    rw [hl]
    refine ⟨hok, fun t' k => h t' _ ?_⟩
    have S1 := (S.perm (N' := (C, oC) :: (I, oi) :: (a, oa) :: N) (by
      refine List.Perm.trans ?_ (List.Perm.swap ..)
      exact .cons _ (.swap ..))).lose2 rfl (h' := s'.heap) (tk := k) (fun x ob h1 h2 e => hm.heap x ob (by simp; exact ⟨h1, h2⟩) e)
    exact S1.aft ⟨.refl _, hm.drawn, hm.os⟩ (S1.ok.step (.refl _) S1.ok.tabs (S.ok.bare.moved hm.gens) S1.ok.big)
end
end Mine

namespace Mine
section
variable {w : World} {mg mb : Str → Option Value} {b b' s s' : Shared} {L : Nat} {m : List (Str × Value)} {N : List (Nat × Obj)} {A : Around} {E : Value → Shared → Prop} {env : Env}
theorem nsys {d : Nat} (h : 218 ≤ d) : ((d : Addr) == sysModules) = false := beq_eq_false_iff_ne.mpr fun e => by rw [e] at h; exact absurd h (by decide)
theorem gm_dict {d : Nat} {kvs : List (Str × Value)} {name : Str} {id : String} {pl : Sem Bool} {Q : Value × List Value → Shared → Prop} (slot : Slot "dict" name id) (hty : typeOf (.builtin id) = pure (.type "method_descriptor"))
    (hd : s.heap.DictOf (SK w) d kvs) (h : Q (.builtin id, [.ref d]) s) : wpAny (model PR w) A (getMethod (.ref d) name pl) Q E s :=
  getMethod_builtin hd.typeIs PySem.F.plainAttrs_dict slot hty hd.mapOf.noDict h
theorem St.citems (S : St w mg mb b L m N s) {d : Nat} {kvs : List (Str × Value)} {Q : Value → Shared → Prop} (hd : s.heap.DictOf (SK w) d kvs) (hi : 218 ≤ d) (h : ∀ (v : Nat) s', St w mg mb b L m ((v, viewObj d) :: N) s' → Q (.ref v) s') :
    wpAny (model PR w) A (call (.builtin "dict.items") [.ref d]) Q E s :=
  call_meetsIn F.slot_dict_items hd.typeIs F.entry_dict_items (F.args_dict_items_1 _) (meets_dict_items (SK w) d (nsys hi)) ⟨⟨kvs, hd⟩, h _ _ (S.pushN (tk := s.toks) (viewObj d))⟩
theorem St.cget (S : St w mg mb b L m N s) {d : Nat} {kvs : List (Str × Value)} {x : Str} {t : Tok} {Q : Value → Shared → Prop} (hd : s.heap.DictOf (SK w) d kvs) (hi : 218 ≤ d) (h : ∀ s', St w mg mb b L m N s' → Q ((PySem.valueAt kvs x).getD .none) s') :
    wpAny (model PR w) A (call (.builtin "dict.get") [.ref d, .str x t]) Q E s :=
  call_meetsIn F.slot_dict_get hd.typeIs F.entry_dict_get (F.args_dict_get_2 _ _) (meets_dict_get (SK w) d (strKind_is PR w x t) (nsys hi)) ⟨_, hd.mapOf, h _ S.tok⟩
/-- del d[x] of an own dict -/
theorem St.delitem (S : St w mg mb b L m N s) {d : Nat} {o : Obj} {kvs : List (Str × Value)} {x : Str} {t : Tok} {pre post : List (Nat × Obj)} {Q : Unit → Shared → Prop} (e : N = pre ++ (d, o) :: post) (hd : o.IsDictOf (SK w) kvs) (hx : (PySem.valueAt kvs x).isSome = true) (hz : kvs.length ≤ 1000)
    (h : ∀ o' s', o'.IsDictOf (SK w) (PySem.without kvs x) → St w mg mb b L m (pre ++ (d, o') :: post) s' → Q () s') : wpAny (model PR w) A (delItem (.ref d) (.str x t)) Q E s := by
  have hD : s.heap.DictOf (SK w) d kvs := S.dictOf (by rw [e]; exact List.mem_append.mpr (.inr (.head _))) hd
  unfold delItem
  try with_reducible refine wpAny_holding ?_
  refine wpAny_bind (wpAny_sequenceKey hD.typeIs (by decide) ?_)
  refine wpAny_bind (wpAny_callSpecial?_slot (name := Str.ofString "__delitem__") hD.typeIs PySem.F.slot_dict_delitem
    (call_meetsIn PySem.F.slot_dict_delitem hD.typeIs PySem.F.entry_dict_delitem (PySem.F.args_dict_delitem_2 _ _) (meets_dict_delitem_pairs (SK w) d (strKind_is PR w x t)) ⟨kvs, hD, Nat.le_trans hz (by decide), hx, fun h' hmm hs => ?_⟩))
  obtain ⟨o', ho', hd'⟩ := Heap.dictOf_iff.mp hmm
  exact wpAny_pure (h o' _ hd' (S.upd' e (fun x ob hx hg => (hs.2 x hx).trans hg) ho'))
theorem x_del {o i : Expr} {p p' : Pos} {rest : List Stmt} {Q : Flow → Shared → Prop}
    (h : wpAny (model PR w) A (eval o env) (fun ov s₁ => wpAny (model PR w) A (eval i env) (fun iv s₂ => wpAny (model PR w) A (delItem ov iv) (fun _ s' => wpAny (model PR w) A (execs rest env) Q E s') E s₂) E s₁) E s) :
    wpAny (model PR w) A (execs (.Delete [.Subscript o i p'] p :: rest) env) Q E s :=
  wpAny_execs_cons (wpAny_Delete (wpAny_deleteEach_cons (delete_Subscript (wpAny_mono h (fun _ _ h => wpAny_mono h (fun _ _ h => wpAny_mono h (fun _ _ h => wpAny_deleteEach_nil h) fun _ _ x => x) fun _ _ x => x) fun _ _ x => x))))
/-- a class's own value -/
theorem St.clsval (S : St w mg mb b L m N s) {C : Nat} {mc v : Value} {name : Str} {expr : Bool} {Q : Value → Shared → Prop} (hr : readsIn (KF w) C mc = true) (e : findCls (KF w) (.ref C) mc name = some (.val v)) (hh : handedIn v = true)
    (h : ∀ s', St w mg mb b L m N s' → Q v s') : wpAny (model PR w) A (getAttr (.ref C) name expr) Q E s := cls_value S.ok.kin hr e hh (h _ S.tok)
end
end Mine

namespace Mine
def pairText (k v : Str) : Str := ((Str.ofString "'" ++ k) ++ Str.ofString "': '" ++ v) ++ Str.ofString "'"
section
variable {w : World} {mg mb : Str → Option Value} {b b' s s' : Shared} {L : Nat} {m : List (Str × Value)} {N : List (Nat × Obj)} {A : Around} {E : Value → Shared → Prop} {env : Env}
theorem ld_ns {C : Addr} {f : Str → Option Value} {x : Str} {pos : Pos} {v : Value} {Q : Value → Shared → Prop} (n : s.heap.Ns env.locals f) (hk : env.scope.kind = .function) (hl : env.kindOf x = some .local) (hv : f x = some v) (h : Q v s) (hd : (x == ("__debug__" : Str)) = false := by decide) :
    wpAny (model PR w) A (eval (.Name x pos) env) Q E s := wpAny_Name (wpAny_loadName_local hk hl n hv h) hd
theorem keeps_toks {s : Shared} {tk : Nat} : Keeps s { s with toks := tk } := ⟨_, _, rfl, fun _ _ e => e⟩
theorem elt_pair {cenv : Env} {p1 p2 p3 p4 p5 p6 p7 p8 : Pos} {fp wr : List Addr} {kvs : List (Str × Value)} {ts : Nat → Str} {href : Heap} (hk : cenv.scope.kind = .function) (h1 : cenv.kindOf (Str.ofString "k") = some .local) (h2 : cenv.kindOf (Str.ofString "v") = some .local)
    (hp : ∀ i x v, kvs[i]? = some (x, v) → x.length ≤ 1000 ∧ ∃ y, FP v y ∧ ts i = pairText x y) :
    QuietGenT PR w cenv (Str.ofString "k") (Str.ofString "v") [] (.JoinedStr [.Constant (.str (Str.ofString "'")) 0 p1, .FormattedValue (.Name (Str.ofString "k") p2) 115 none p3, .Constant (.str (Str.ofString "': '")) 0 p4, .FormattedValue (.Name (Str.ofString "v") p5) 115 none p6, .Constant (.str (Str.ofString "'")) 0 p7] p8)
      fp wr (fun i vals => ∃ x v key, kvs[i]? = some (x, v) ∧ (SK w).is x key = true ∧ vals = #[key, v]) (fun _ => true) (fun i v => ∃ u, v = .str (ts i) u) href where
  tests := fun A' E' i va vb s₂ m₂ _ _ _ _ _ _ => wpAny_pure ⟨rfl, ⟨_, _, rfl, fun _ _ e => e⟩⟩
  elt := fun A' E' i va vb s₂ m₂ _ hP _ hn ha hb _ => by
    obtain ⟨x, v, key, hx, hkey, e⟩ := hP
    simp only [Array.mk.injEq, List.cons.injEq, and_true] at e
    obtain ⟨rfl, rfl⟩ := e
    obtain ⟨t, rfl⟩ := sk_key hkey
    obtain ⟨hl, y, hy, et⟩ := hp i x _ hx
    refine x_js ?_
    refine j_const fun tk => ?_
    refine j_fmt (ld_ns (C := 0) hn hk h1 ha ⟨x, .str x t (Nat.le_trans hl (by decide)), fun tk2 => ?_⟩)
    refine j_const fun tk3 => ?_
    refine j_fmt (ld_ns (C := 0) hn hk h2 hb ⟨y, hy, fun tk4 => ?_⟩)
    refine j_const fun tk5 => ?_
    refine j_nil fun t' tk6 => ?_
    refine ⟨⟨t', ?_⟩, ⟨_, _, rfl, fun _ _ e => e⟩⟩
    rw [et, KPc.empty_app]
    rfl

theorem gat_items {a C I d ep g : Nat} {oa oC : Obj} {kvs : List (Str × Value)} (S : St w mg mb b L m ((a, oa) :: (C, oC) :: (I, itObj .none (.bool false) d 0 kvs.length ep .none .none) :: N) s) {k : Nat} (R : Rm A k) {elt iter : Expr} {pa pb pt pos : Pos} {kt : Nat} {scope : Scope} {cl : List (Str × Addr)} {code : Value} {F : Nat → Value → Prop} {xa xb : Str}
    (hd : s.heap.DictAt (SK w) d kvs ep) (h1 : d ≠ I) (h2 : d ≠ C) (hI : s.heap.IsGen a g)
    (hgs : s.gens[g]? = some (.fresh (.compStart (.GeneratorExp elt [⟨.Tuple [.Name xa pa, .Name xb pb] kt pt, iter, [], 0⟩] scope pos) 0 (.ref I) .none (genEnv scope cl C code builtinsNs env))))
    {f : Str → Option Value} (hn : s.heap.Ns C f) (hab : xa ≠ xb) (hk : scope.kind = .function) (hxa : scope.names.lookup xa = some .local) (hxb : scope.names.lookup xb = some .local) (hco : scope.isCoroutine = false)
    (hq : QuietGenT PR w (genEnv scope cl C code builtinsNs env) xa xb [] elt [I, d, cStatics] [I] (fun i vals => ∃ x v key, kvs[i]? = some (x, v) ∧ (SK w).is x key = true ∧ vals = #[key, v]) (fun _ => true) F s.heap) :
    GenAt PR w A.in1.in1 a g C [I, d, cStatics] [I] (fun _ => true) kvs.length F 0 s := by
  have nd := S.nd
  simp only [List.map_cons, List.nodup_cons, List.mem_cons, not_or] at nd
  have nC := (S.nw _ (.tail _ (.head _))).2.2.2
  have hI' := S.get (.tail _ (.tail _ (.head _)))
  refine GenAt.freshT (A := A.in1.in1) (cenv := genEnv scope cl C code builtinsNs env) R.h (fun A' hA => (walksItems hA I d h1 kvs ep).mono_fp (fun b hb => ?_)) (fun i vals ⟨x, v, key, _, _, e⟩ => ⟨_, _, e⟩) hab _ F hxa hxb (by simp [genEnv, hk]) hco (fun hm => ?_) hq hI hgs ⟨⟨_, _, hI'⟩, hd⟩ hn S.ok.nolim
  · simp only [List.mem_cons, List.not_mem_nil, or_false] at hb ⊢
    rcases hb with h | h
    · exact .inl h
    · exact .inr (.inl h)
  · have hm' : (C : Nat) ∈ [I, d, cStatics] := hm
    simp only [List.mem_cons, List.not_mem_nil, or_false] at hm'
    rcases hm' with h | h | h
    · exact nd.2.1.1 h
    · exact h2 h.symm
    · rw [h] at nC; exact absurd (show (218 : Nat) ≤ cStatics from nC) (by decide)

/-- a table of code objects that a generator expression's code goes into -/
structure TabOf (w : World) (mg mb : Str → Option Value) (c P : Nat) (pos : Pos) : Prop where
  hP : P = 93 ∨ P = 59
  isT : ∀ s, Ok w mg mb s → ∀ ps, s.heap.get? P = some (tblObj ps) → TriplesOk ps.toList → s.heap.IsCode c P ps ∧ s.heap.TableAt c P ps
  tab : ∀ s, Ok w mg mb s → TabIs P pos.line pos.col s.heap
  re : ∀ s, Ok w mg mb s → ∀ h', Heap.ExtBut P s.heap h' → TabIs P pos.line pos.col h' → Tabs h'
theorem x_gen {elt target iter : Expr} {scope : Scope} {cl : List (Str × Addr)} {pos : Pos} {c P n : Nat} {Q : Value → Shared → Prop} (R : Rm A n) (T : TabOf w mg mb c P pos) (hc : env.code = .ref c) (hclos : closureFor scope env = pure cl)
    (h : wpAny (model PR w) A (eval iter env) (fun xv s₁ => wpAny (model PR w) A (pyIter xv) (fun it s₂ => ∃ I oi m N b, it = .ref I ∧ St w mg mb b L m ((I, oi) :: N) s₂ ∧
      ∀ code (a C g : Nat) oa oC s', St w mg mb b L m ((a, oa) :: (C, oC) :: (I, oi) :: N) s' → s'.heap.IsGen a g → s'.gens[g]? = some (.fresh (.compStart (.GeneratorExp elt [⟨target, iter, [], 0⟩] scope pos) 0 (.ref I) .none (genEnv scope cl C code builtinsNs env))) →
      s'.heap.Ns C (fun y => if y = ".0" then some (.ref I) else none) → Q (.ref a) s') NoE s₁) NoE s)
    (hg : env.globals = mainGlobals := by rfl) (hco : scope.isCoroutine = false := by rfl) (hcell : ∀ y ∈ scope.names, y.2 ≠ .cell := by decide) (h0 : scope.names.lookup (".0" : Str) = some NameKind.local := by rfl) (hkind : scope.kind = .function := by rfl)
    (hs : ∀ x, genFold iter env x = pure x := by intro _; rfl) : wpAny (model PR w) A (eval (.GeneratorExp elt [⟨target, iter, [], 0⟩] scope pos) env) Q NoE s := by
  refine wpAny_GeneratorExp_make hco hclos hcell h0 hkind R.room (wpAny_mono h (fun xv s₁ h₁ => wpAny_mono h₁ (fun it s₂ ⟨I, oi, m, N, b, e, S, h₂⟩ => ?_) fun _ _ x => x) fun _ _ x => x) hs
  subst e
  exact S.gmake hc T.hP (T.isT _ S.ok) (T.tab _ S.ok) (T.re _ S.ok) hg h₂
end
end Mine

namespace Mine
open Builtin Builtin.Str
theorem f_q (x : PySem.Str) (hx : x.length ≤ 1000000) {t tx : Tok} : Meets («str.__mod__» ⟨[.str (⟨#[39,37,115,39]⟩ : PySem.Str) t, .str x tx], []⟩)
    (fun _ R s => ∀ t' k, R (.ok (.ret (.str ((⟨#[39]⟩ : PySem.Str) ++ x ++ (⟨#[39]⟩ : PySem.Str)) t'))) { s with toks := k }) := by
  kpc_run_s

theorem f_par (x : PySem.Str) (hx : x.length ≤ 1000000) {t tx : Tok} : Meets («str.__mod__» ⟨[.str (⟨#[40,37,115,41]⟩ : PySem.Str) t, .str x tx], []⟩)
    (fun _ R s => ∀ t' k, R (.ok (.ret (.str ((⟨#[40]⟩ : PySem.Str) ++ x ++ (⟨#[41]⟩ : PySem.Str)) t'))) { s with toks := k }) := by
  kpc_run_s

theorem f_with (x : PySem.Str) (hx : x.length ≤ 1000000) {t tx : Tok} : Meets («str.__mod__» ⟨[.str (⟨#[37,115,41,32,87,73,84,72,32]⟩ : PySem.Str) t, .str x tx], []⟩)
    (fun _ R s => ∀ t' k, R (.ok (.ret (.str (x ++ (⟨#[41,32,87,73,84,72,32]⟩ : PySem.Str)) t'))) { s with toks := k }) := by
  kpc_run_s

end Mine

namespace Mine
theorem kf_fill_C3 (w : World) : (hd.heap_39 w.params) = (hd.heap_39 w.params) ∧ PySem.Challenge.rw_bq5006_01 = PySem.Challenge.rw_bq5006_01 := by
  k_fill
  exact ⟨rfl, rfl⟩
local macro_rules | `(tactic| walk_at "kis") => `(tactic| (show nsIn (hd.heap_39 _) _ _ = _; k_is))
local macro_rules | `(tactic| walk_at "go1") => `(tactic| first
  | ((with_reducible show wpAny _ _ (eval _ _) _ _ _); first
    | ((with_reducible show wpAny _ _ (eval (Expr.Name _ _) _) _ _ _); rename St _ _ _ _ _ _ _ _ => S0; first | (refine S0.ld (by rfl) ?_) | (refine S0.ok.ldg (by walk_at "kis") ?_) | (refine S0.ok.ldb (by walk_at "kis") (by first | exact bb_len | exact bb_range | exact bb_isinstance | exact bb_dict | exact bb_str | exact bb_list | exact bb_sorted | exact bb_int | exact bb_float | exact bb_bool) ?_))
    | ((with_reducible show wpAny _ _ (eval (Expr.Constant (Const.int _) _ _) _) _ _ _); rename St _ _ _ _ _ _ _ _ => S0; refine S0.cint ?_; clear S0; unhygienic intros)
    | ((with_reducible show wpAny _ _ (eval (Expr.Constant (Const.str _) _ _) _) _ _ _); rename St _ _ _ _ _ _ _ _ => S0; refine S0.cstr ?_; clear S0; unhygienic intros)
    | ((with_reducible show wpAny _ _ (eval (Expr.Constant (Const.bool _) _ _) _) _ _ _); refine wpAny_Constant_bool ?_)
    | ((with_reducible show wpAny _ _ (eval (Expr.Constant (Const.none) _ _) _) _ _ _); refine wpAny_Constant_none ?_)
    | ((with_reducible show wpAny _ _ (eval (Expr.BinOp _ _ _ _) _) _ _ _); refine wpAny_BinOp ?_)
    | ((with_reducible show wpAny _ _ (eval (Expr.Subscript _ _ _) _) _ _ _); refine Subscript_ ?_)
    | ((with_reducible show wpAny _ _ (eval (Expr.Tuple _ _ _) _) _ _ _); refine Tuple_ ?_)
    | ((with_reducible show wpAny _ _ (eval (Expr.List _ _) _) _ _ _); refine List_ ?_)
    | ((with_reducible show wpAny _ _ (eval (Expr.Call (Expr.Attribute _ _ _) _ [] _) _) _ _ _); refine MethodCall_ ?_)
    | ((with_reducible show wpAny _ _ (eval (Expr.Call _ _ [] _) _) _ _ _); refine Call_ ?_)
    | ((with_reducible show wpAny _ _ (eval (Expr.IfExp _ _ _ _) _) _ _ _); refine wpAny_IfExp ?_)
    | ((with_reducible show wpAny _ _ (eval (Expr.Dict [] [] _) _) _ _ _); rename St _ _ _ _ _ _ _ _ => S0; refine S0.ndict ?_; clear S0; unhygienic intros)
    | ((with_reducible show wpAny _ _ (eval (Expr.Compare _ [_] [_] _) _) _ _ _); refine wpAny_Compare1 ?_)
    | ((with_reducible show wpAny _ _ (eval (Expr.Attribute _ _ _) _) _ _ _); refine Attribute_any_ ?_ (by rfl))
    | ((with_reducible show wpAny _ _ (eval (Expr.JoinedStr (_ :: _ :: _) _) _) _ _ _); refine x_js ?_))
  | ((with_reducible show wpAny _ _ (spliced _) _ _ _); first
    | ((with_reducible show wpAny _ _ (spliced (backTo _ (starEach [] _))) _ _ _); refine wpAny_items_nil ?_)
    | ((with_reducible show wpAny _ _ (spliced (backTo _ (starEach (_ :: _) _))) _ _ _); refine wpAny_items_cons ?_))
  | ((with_reducible show wpAny _ _ (newTuple _) _ _ _); rename St _ _ _ _ _ _ _ _ => S0; refine S0.ntup ?_; clear S0; unhygienic intros)
  | ((with_reducible show wpAny _ _ (newList _) _ _ _); rename St _ _ _ _ _ _ _ _ => S0; refine S0.nlist ?_; clear S0; unhygienic intros)
  | ((with_reducible show wpAny _ _ (storeName _ _ _) _ _ _); rename St _ _ _ _ _ _ _ _ => S0; refine S0.st ?_; clear S0; unhygienic intros)
  | ((with_reducible show wpAny _ _ (execs _ _) _ _ _); first
    | ((with_reducible show wpAny _ _ (execs (Stmt.Assign [Expr.Name _ _] _ _ :: _) _) _ _ _); refine x_assign ?_)
    | ((with_reducible show wpAny _ _ (execs (Stmt.Return (some _) _ :: _) _) _ _ _); refine x_return ?_)
    | ((with_reducible show wpAny _ _ (execs (Stmt.If _ _ _ _ :: _) _) _ _ _); refine x_if ?_)
    | ((with_reducible show wpAny _ _ (execs (Stmt.Expr _ _ :: _) _) _ _ _); refine x_expr ?_)
    | ((with_reducible show wpAny _ _ (execs (Stmt.AugAssign (Expr.Name _ _) _ _ _ :: _) _) _ _ _); refine x_aug ?_)
    | ((with_reducible show wpAny _ _ (execs [] _) _ _ _); refine x_nil ?_; try dsimp only)
    | ((with_reducible show wpAny _ _ (execs (Stmt.Assign [Expr.Subscript _ _ _] _ _ :: _) _) _ _ _); refine x_assign_sub ?_)
    | ((with_reducible show wpAny _ _ (execs (Stmt.For _ _ _ _ _ :: _) _) _ _ _); refine x_for ?_))
  | ((with_reducible show wpAny _ _ (isTrue _ _ _) _ _ _); first
    | ((with_reducible show wpAny _ _ (isTrue (Expr.Call _ _ _ _) _ _) _ _ _); refine wpAny_isTrue_value ?_)
    | ((with_reducible show wpAny _ _ (isTrue (Expr.Name _ _) _ _) _ _ _); refine wpAny_isTrue_value ?_)
    | ((with_reducible show wpAny _ _ (isTrue (Expr.Compare _ [_] [_] _) _ _) _ _ _); refine wpAny_isTrue_Compare1 ?_)
    | ((with_reducible show wpAny _ _ (isTrue (Expr.BoolOp _ _ _) _ _) _ _ _); refine wpAny_isTrue_BoolOp ?_))
  | ((with_reducible show wpAny _ _ (truthy (Value.bool _)) _ _ _); refine wpAny_truthy_bool ?_)
  | ((with_reducible show wpAny _ _ (callWith _ _ _ _ _) _ _ _); first
    | ((with_reducible show wpAny _ _ (callWith _ (Value.type _) _ (backTo _ (starEach (_ :: _) _)) []) _ _ _); refine PyProof.Rows.callWith_type1 ?_)
    | ((with_reducible show wpAny _ _ (callWith _ (Value.builtin _) [] (backTo _ (starEach (_ :: _) _)) []) _ _ _); refine PyProof.Rows.callWith_builtin1 ?_)
    | ((with_reducible show wpAny _ _ (callWith _ (Value.builtin _) (_ :: _) (backTo _ (starEach (_ :: _) _)) []) _ _ _); refine PyProof.Rows.callWith_method1 ?_)
    | ((with_reducible show wpAny _ _ (callWith _ (Value.builtin _) (_ :: _) (backTo _ (starEach [] _)) []) _ _ _); refine PyProof.Rows.callWith_method0 ?_))
  | ((with_reducible show wpAny _ _ (binaryOp _ _ _) _ _ _); first
    | ((with_reducible show wpAny _ _ (binaryOp Operator.Mod (Value.int _ _) (Value.int _ _)) _ _ _); rename St _ _ _ _ _ _ _ _ => S0; refine S0.i1 (fun h => mod_int (by decide) h) ?_; clear S0; unhygienic intros)
    | ((with_reducible show wpAny _ _ (binaryOp Operator.Add (Value.int _ _) (Value.int _ _)) _ _ _); rename St _ _ _ _ _ _ _ _ => S0; refine S0.i1 (fun h => add_int h) ?_; clear S0; unhygienic intros)
    | ((with_reducible show wpAny _ _ (binaryOp Operator.Sub (Value.int _ _) (Value.int _ _)) _ _ _); rename St _ _ _ _ _ _ _ _ => S0; refine S0.i1 (fun h => sub_int h) ?_; clear S0; unhygienic intros)
    | ((with_reducible show wpAny _ _ (binaryOp Operator.FloorDiv (Value.int _ _) (Value.int _ _)) _ _ _); rename St _ _ _ _ _ _ _ _ => S0; refine S0.i1 (fun h => floordiv_int (by decide) h) ?_; clear S0; unhygienic intros))
  | ((with_reducible show wpAny _ _ (allTrue _ _ _) _ _ _); first
    | ((with_reducible show wpAny _ _ (allTrue BoolOp.And (_ :: _) _) _ _ _); refine wpAny_allTrue_And_cons ?_)
    | ((with_reducible show wpAny _ _ (allTrue BoolOp.Or (_ :: _) _) _ _ _); refine wpAny_allTrue_Or_cons ?_)
    | ((with_reducible show wpAny _ _ (allTrue BoolOp.And [] _) _ _ _); refine wpAny_allTrue_And_nil ?_)
    | ((with_reducible show wpAny _ _ (allTrue BoolOp.Or [] _) _ _ _); refine wpAny_allTrue_Or_nil ?_))
  | (refine ite_t1 ?_)
  | (refine ite_f1 ?_))
local macro_rules | `(tactic| walk_at "go") => `(tactic| repeat walk_at "go1")

def qt (x : Str) : Str := (⟨#[39]⟩ : Str) ++ Txt.replace x ⟨#[39]⟩ ⟨#[39, 39]⟩ ++ (⟨#[39]⟩ : Str)
def Val.text : Val → Str
  | .boo c => if c then ("true" : Str) else ("false" : Str)
  | .num i => Str.ofString (toString i)
  | .txt x => qt x
  | _ => Str.empty
theorem len_dbl (c : Nat) : ∀ l : List Nat, (StrLaws.dbl c l).length ≤ 2 * l.length
  | [] => Nat.le_refl _
  | k :: r => by
    have ih := len_dbl c r
    unfold StrLaws.dbl
    split <;> simp <;> omega
theorem len_quoted (y : Str) (c : Nat) : (Txt.replace y ⟨#[c]⟩ ⟨#[c, c]⟩).length ≤ 2 * y.length := by
  have e := StrLaws.replace_double y c
  have h := len_dbl c y.cps.toList
  rw [← e] at h
  simpa [Str.length] using h
section
variable {w : World} {mg mb : Str → Option Value} {s : Shared} {A : Around} {E : Value → Shared → Prop}
theorem spec_pv (O : Ok w mg mb s) {k : Nat} (R : Rm A (k + 1)) {v : Value} {x : Val} {Q : Value → Shared → Prop}
    (hv : ValIn w s.heap v x) (h1 : x ≠ .non) (h2 : x.isMap = false) (h3 : ∀ y, x = .txt y → y.length ≤ 1000) (h4 : ∀ i, x = .num i → -10000 ≤ i ∧ i ≤ 10000)
    (h : ∀ t s', Aft s s' → Ok w mg mb s' → Q (.str x.text t) s') :
    wpAny (model PR w) A (call (.ref 120) [v]) Q E s := by
  refine O.enter R (o120.2 w) f120.2 (c120 O.kin) (by rfl) (binds := [("value", v)]) (by rfl) (by decide) (by simp; rfl) fun L s₁ S R => ?_
  clear O
  walk_at "go"
  refine is_none ?_
  have hb : (v == Value.none) = false := by
    cases hv with
    | non => exact absurd rfl h1
    | _ => rfl
  rw [hb]
  walk_at "go"
  rename St _ _ _ _ _ _ _ _ => S
  have hS := S.get (.head _)
  cases hv with
  | non => exact absurd rfl h1
  | m0 => exact absurd h2 (by decide)
  | m2 => exact absurd h2 (by simp [Val.isMap])
  | boo c =>
    refine IsiPair.tupleOfB (Tx := "bool") (vs := [true, false, true]) (cs := [.type "int", .type "float", .type "bool"]) (by pv_isi_answers) rfl hS (b := true) rfl fun tk => ?_
    have S := S.tok (tk := tk)
    walk_at "go"
    refine P.str_of_bool ?_
    have S := S.tok (tk := tk + 1)
    refine GM.lower ?_
    walk_at "go"
    cases c
    · refine SCL.lower (by decide) fun _ => ?_
      have S := S.tok (tk := tk + 1 + 1)
      exact (show Txt.lower (Str.ofString "False") = ("false" : Str) by decide +kernel) ▸ h _ _ S.aft0 S.ok
    · refine SCL.lower (by decide) fun _ => ?_
      have S := S.tok (tk := tk + 1 + 1)
      exact (show Txt.lower (Str.ofString "True") = ("true" : Str) by decide +kernel) ▸ h _ _ S.aft0 S.ok
  | num i t =>
    refine IsiPair.tupleOfB (Tx := "int") (vs := [true, false, false]) (cs := [.type "int", .type "float", .type "bool"]) (by pv_isi_answers) rfl hS (b := true) rfl fun tk => ?_
    have S := S.tok (tk := tk)
    walk_at "go"
    have hi := h4 i rfl
    have hl := shown_small hi.1 hi.2
    refine P.str_of_int hl ?_
    have S := S.tok (tk := tk + 1)
    refine GM.lower ?_
    walk_at "go"
    refine SCL.lower (by have := PyProof.Rows.int_text_len_1921 hl; omega) fun _ => ?_
    have S := S.tok (tk := tk + 1 + 1)
    rw [lower_int i]
    exact h _ _ S.aft0 S.ok
  | txt y t =>
    refine IsiPair.tupleOfB (Tx := "str") (vs := [false, false, false]) (cs := [.type "int", .type "float", .type "bool"]) (by pv_isi_answers) rfl hS (b := false) rfl fun tk => ?_
    have S := S.tok (tk := tk)
    iterate 3 walk_at "go1"
    refine x_return ?_
    refine wpAny_BinOp ?_
    refine wpAny_Constant_str ?_
    have S := S.tok (tk := tk + 1)
    walk_at "go1"
    refine S.ld (by rfl) ?_
    refine GM.replace ?_
    walk_at "go1"
    refine wpAny_items_cons ?_
    refine wpAny_Constant_str ?_
    refine wpAny_items_cons ?_
    refine wpAny_Constant_str ?_
    refine wpAny_items_nil ?_
    have hy := h3 y rfl
    refine SC.replaceW (by show tk + 1 ≠ 0; omega) (by show tk + 1 + 1 ≠ 0; omega) (by show tk + 1 ≠ tk + 1 + 1; omega) (by decide +kernel) (by omega) (by decide +kernel) fun t' k => ?_
    have S := S.tok (tk := k)
    rw [show Str.ofString "'" = ⟨#[39]⟩ by decide +kernel, show Str.ofString "''" = ⟨#[39, 39]⟩ by decide +kernel]
    exact S.mods (fun z hz => f_q z hz) (by have := len_quoted y 39; omega) fun t'' s'' S => h _ _ S.aft0 S.ok
end
end Mine

namespace Mine
theorem lk0 {m : List (Str × Value)} : ∀ x v, ([] : List (Str × Value)).lookup x = some v → m.lookup x = some v := fun _ _ h => by simp at h
theorem lkc {m m' : List (Str × Value)} {x : Str} {v : Value} (h : m.lookup x = some v) (h' : ∀ y u, m'.lookup y = some u → m.lookup y = some u) : ∀ y u, ((x, v) :: m').lookup y = some u → m.lookup y = some u := fun y u e => by
  rw [List.lookup_cons] at e
  by_cases q : y = x
  · subst q; simp at e; subst e; exact h
  · have : (y == x) = false := beq_eq_false_iff_ne.mpr q
    simp [this] at e
    exact h' y u e
theorem isGen_eq {h h' : Heap} {a : Addr} {g : Nat} (x : h.IsGen a g) (e : ∀ o, h.get? a = some o → h'.get? a = some o) : h'.IsGen a g := let ⟨o, nm, qn, ho, r⟩ := x; ⟨o, nm, qn, e o ho, r⟩
theorem ns_eq {h h' : Heap} {a : Addr} {f : Str → Option Value} (x : h.Ns a f) (e : ∀ o, h.get? a = some o → h'.get? a = some o) : h'.Ns a f := let ⟨o, es, ep, ho, r⟩ := x; ⟨o, es, ep, e o ho, r⟩
theorem St.same {w : World} {mg mb : Str → Option Value} {b b' s s' : Shared} {L L' : Nat} {m m' : List (Str × Value)} {N N' : List (Nat × Obj)} (S : St w mg mb b L m N s) (S' : St w mg mb b' L' m' N' s') {p : Nat × Obj} (h : p ∈ N) (h' : p ∈ N') : ∀ o, s.heap.get? p.1 = some o → s'.heap.get? p.1 = some o := fun o e => by
  rw [S.get h] at e; cases e; exact S'.get h'
def optMaps : List Str := [Str.ofString "compaction", Str.ofString "compression", Str.ofString "caching", Str.ofString "nodesync"]
def Val.falsy : Val → Bool
  | .boo c => !c
  | .num i => decide (i = 0)
  | .txt x => decide (x = Str.empty)
  | _ => false
def cval (x : Str) (v : Val) : Val := if x = Str.ofString "comment" ∧ v.falsy = true then .txt Str.empty else v
def mtext (x : Str) (ps : List Str) : Str := ((x ++ Str.ofString " = {") ++ Txt.join (Str.ofString ", ") ps) ++ Str.ofString "}"
def m2pairs (t : Str) (n : Int) : List Str := [pairText (Str.ofString "class") t, pairText (Str.ofString "size") (Str.ofString (toString n))]
def lineOf (r : Str × Val) : Option Str := match r.2 with
  | .non => none
  | .m0 => some (mtext r.1 [])
  | .m2 t n => some (mtext r.1 (m2pairs t n))
  | v => some ((r.1 ++ Str.ofString " = ") ++ (cval r.1 v).text)
def linesOf (rows : List (Str × Val)) : List Str := rows.filterMap lineOf
/-- what the rows keep to -/
structure RowsOk (rows : List (Str × Val)) : Prop where
  nd : (rows.map (·.1)).Nodup
  maps : ∀ r ∈ rows, r.2.isMap = true → r.1 ∈ optMaps
  len : ∀ r ∈ rows, r.1.length ≤ 100
  txt : ∀ r ∈ rows, ∀ x, r.2 = .txt x → x.length ≤ 100
  num : ∀ r ∈ rows, ∀ i, r.2 = .num i → -10000 ≤ i ∧ i ≤ 10000
  m2 : ∀ r ∈ rows, ∀ x n, r.2 = .m2 x n → x.length ≤ 100 ∧ 0 ≤ n ∧ n ≤ 100
  size : rows.length ≤ 20
theorem RowsOk.sub {rows rows' : List (Str × Val)} (h : RowsOk rows) (s : rows'.Sublist rows) : RowsOk rows' :=
  ⟨h.nd.sublist (s.map _), fun r m => h.maps r (s.subset m), fun r m => h.len r (s.subset m), fun r m => h.txt r (s.subset m), fun r m => h.num r (s.subset m), fun r m => h.m2 r (s.subset m), Nat.le_trans s.length_le h.size⟩
theorem val_at {w : World} {h : Heap} {kvs : List (Str × Value)} {rows : List (Str × Val)} (he : EntsIn w h kvs rows) (x : Str) :
    (PySem.valueAt kvs x = none ∧ x ∉ rows.map (·.1)) ∨ ∃ v val, PySem.valueAt kvs x = some v ∧ (x, val) ∈ rows ∧ ValIn w h v val := by
  induction he with
  | nil => exact .inl ⟨rfl, by simp⟩
  | @cons kv r l l' q _ ih =>
    obtain ⟨x1, v1⟩ := kv
    obtain ⟨x2, v2⟩ := r
    obtain ⟨e, hv⟩ := q
    simp only at e hv
    subst e
    by_cases hx : x1 = x
    · subst hx
      exact .inr ⟨v1, v2, by simp [PySem.valueAt], .head _, hv⟩
    · rcases ih with ⟨h1, h2⟩ | ⟨v, val, h1, h2, h3⟩
      · exact .inl ⟨by simpa [PySem.valueAt, hx] using h1, by simp [Ne.symm hx]; simpa using h2⟩
      · exact .inr ⟨v, val, by simpa [PySem.valueAt, hx] using h1, .tail _ h2, h3⟩
theorem ents_without {w : World} {h : Heap} {kvs : List (Str × Value)} {rows : List (Str × Val)} (he : EntsIn w h kvs rows) (x : Str) : EntsIn w h (PySem.without kvs x) (rows.filter fun r => decide (r.1 ≠ x)) := by
  induction he with
  | nil => exact .nil
  | @cons kv r l l' q _ ih =>
    unfold PySem.without at ih ⊢
    rw [List.filter_cons, List.filter_cons, q.1]
    split
    · exact .cons q ih
    · exact ih
theorem ents_row {w : World} {h : Heap} {kvs : List (Str × Value)} {rows : List (Str × Val)} (he : EntsIn w h kvs rows) {i : Nat} {x : Str} {v : Value} (hi : kvs[i]? = some (x, v)) : ∃ val, rows[i]? = some (x, val) ∧ ValIn w h v val := by
  obtain ⟨⟨x', val⟩, hr, e, hv⟩ := he.get hi
  simp only at e hv
  subst e
  exact ⟨val, hr, hv⟩
theorem perm_out {rows : List (Str × Val)} (nd : (rows.map (·.1)).Nodup) {x : Str} {v : Val} (h : (x, v) ∈ rows) : rows.Perm ((x, v) :: rows.filter fun r => decide (r.1 ≠ x)) := by
  induction rows with
  | nil => cases h
  | cons r l ih =>
    rw [List.map_cons, List.nodup_cons] at nd
    rcases List.mem_cons.mp h with rfl | h
    · rw [List.filter_cons, if_neg (by simp)]
      have e : (l.filter fun r => decide (r.1 ≠ x)) = l := List.filter_eq_self.mpr fun r hr => decide_eq_true fun e => nd.1 (by have := List.mem_map_of_mem (f := (·.1)) hr; rw [e] at this; exact this)
      rw [e]
    · have hx : r.1 ≠ x := fun e => nd.1 (by rw [e]; exact List.mem_map_of_mem (f := (·.1)) h)
      rw [List.filter_cons, if_pos (decide_eq_true hx)]
      exact (List.Perm.cons r (ih nd.2 h)).trans (.swap ..)
theorem nd_unique {rows : List (Str × Val)} (nd : (rows.map (·.1)).Nodup) {r r' : Str × Val} (h : r ∈ rows) (h' : r' ∈ rows) (e : r.1 = r'.1) : r = r' := by
  have p := perm_out nd (x := r.1) (v := r.2) h
  have h2 := p.mem_iff.mp h'
  rcases List.mem_cons.mp h2 with q | q
  · exact q.symm
  · have := of_decide_eq_true (List.mem_filter.mp q).2
    exact absurd e.symm this
theorem linesOf_out {rows : List (Str × Val)} (nd : (rows.map (·.1)).Nodup) {x : Str} {v : Val} (h : (x, v) ∈ rows) {l : Str} (hl : lineOf (x, v) = some l) : (linesOf rows).Perm (l :: linesOf (rows.filter fun r => decide (r.1 ≠ x))) := by
  have p := (perm_out nd h).filterMap lineOf
  rw [List.filterMap_cons, hl] at p
  exact p
theorem join_small {sep : Str} {ps : List Str} (h : ∀ y ∈ ps, y.length ≤ 10000) (hn : ps.length ≤ 50) (hs : sep.length ≤ 100) : JoinOk sep ps = true ∧ (Txt.join sep ps).length ≤ 600000 := by
  have h1 : ps.length * 10000 ≤ 50 * 10000 := Nat.mul_le_mul_right _ hn
  have h2 : ps.length * sep.length ≤ 50 * 100 := Nat.mul_le_mul hn hs
  refine ⟨?_, ?_⟩
  · have := StrLaws.joinFits (sep := sep) h (by omega)
    unfold JoinOk
    rw [this]; rfl
  · show (PySem.Builtin.Str.glued sep ps).length ≤ _
    rw [StrLaws.glued_eq_join]
    have q := StrLaws.join_length_le sep ps
    have r := StrLaws.sumLen_le ps h
    omega
theorem pairText_len (k v : Str) : (pairText k v).length = k.length + v.length + 6 := by
  unfold pairText
  rw [strLen_append, strLen_append, strLen_append, strLen_append]
  have e1 : (Str.ofString "'").length = 1 := by decide +kernel
  have e2 : (Str.ofString "': '").length = 4 := by decide +kernel
  omega
/-- a map's dict and its pairs' texts -/
theorem map_parts {w : World} {h : Heap} {x : Str} {v : Value} {val : Val} (hv : ValIn w h v val) (hb : val.isMap = true) (h2 : ∀ y n, val = .m2 y n → y.length ≤ 100 ∧ 0 ≤ n ∧ n ≤ 100) :
    ∃ (dd : Nat) (kvv : List (Str × Value)) (ps : List Str), v = .ref dd ∧ 218 ≤ dd ∧ h.DictOf (SK w) dd kvv ∧ kvv.length ≤ 1000 ∧ ps.length = kvv.length ∧ lineOf (x, val) = some (mtext x ps) ∧
      (∀ i y u, kvv[i]? = some (y, u) → y.length ≤ 1000 ∧ ∃ z, FP u z ∧ ps.getD i Str.empty = pairText y z) ∧ (∀ y ∈ ps, y.length ≤ 10000) ∧ ps.length ≤ 2 := by
  cases hv with
  | non | boo | num | txt => cases hb
  | @m0 a ha d => exact ⟨a, [], [], rfl, ha, d, by simp, rfl, rfl, fun i y u h => by simp at h, fun y h => by simp at h, by simp⟩
  | @m2 a y n t t' ha d =>
    obtain ⟨h1, h3, h4⟩ := h2 y n rfl
    have hn : FP (.int n t') (Str.ofString (toString n)) := .int n t' (by omega) (by omega)
    have hnl : (Str.ofString (toString n)).length ≤ 1921 := PyProof.Rows.int_text_len_1921 (shown_small (by omega) (by omega))
    refine ⟨a, _, m2pairs y n, rfl, ha, d, by simp, rfl, rfl, fun i z u hi => ?_, fun z hz => ?_, by simp [m2pairs]⟩
    · rcases i with _ | _ | i
      · simp at hi; obtain ⟨rfl, rfl⟩ := hi
        exact ⟨by decide +kernel, y, .str y t (by omega), rfl⟩
      · simp at hi; obtain ⟨rfl, rfl⟩ := hi
        exact ⟨by decide +kernel, _, hn, rfl⟩
      · simp at hi
    · have e1 : (Str.ofString "class").length = 5 := by decide +kernel
      have e2 : (Str.ofString "size").length = 4 := by decide +kernel
      simp only [m2pairs, List.mem_cons, List.not_mem_nil, or_false] at hz
      rcases hz with rfl | rfl
      · rw [pairText_len]; omega
      · rw [pairText_len]; omega
theorem not_lt {a b : List Nat} : ltCps a b = false ↔ b ≤ a := by
  rw [ltCps_eq, decide_eq_false_iff_not]
  exact List.not_lt
theorem rising_pairwise : ∀ (p : Str) (l : List Str), risingS p l = true → (p :: l).Pairwise fun a b => a.cps.toList ≤ b.cps.toList
  | p, [], _ => by simp
  | p, x :: r, h => by
    have h' : (!ltCps x.cps.toList p.cps.toList && risingS x r) = true := h
    rw [Bool.and_eq_true, Bool.not_eq_true'] at h'
    have ih := rising_pairwise x r h'.2
    have h1 := not_lt.mp h'.1
    refine List.pairwise_cons.mpr ⟨fun y hy => ?_, ih⟩
    rcases List.mem_cons.mp hy with rfl | hy
    · exact h1
    · exact List.le_trans h1 ((List.pairwise_cons.mp ih).1 y hy)
theorem sorted_pairwise {l : List Str} (h : sortedS l = true) : l.Pairwise fun a b => a.cps.toList ≤ b.cps.toList := by
  cases l with
  | nil => simp
  | cons x r => exact rising_pairwise x r h
theorem str_ext {a b : Str} (h : a.cps.toList = b.cps.toList) : a = b := by
  obtain ⟨a⟩ := a
  obtain ⟨b⟩ := b
  congr
  exact Array.toList_inj.mp h
/-- two sorted lists of the same texts are the same -/
theorem sorted_same {a b : List Str} (p : a.Perm b) (ha : sortedS a = true) (hb : sortedS b = true) : a = b :=
  List.Perm.eq_of_pairwise (fun x y _ _ h1 h2 => str_ext (List.le_antisymm h1 h2)) (sorted_pairwise ha) (sorted_pairwise hb) p
end Mine

namespace Mine
abbrev StrV (v : Value) (x : Str) : Prop := ∃ t, v = .str x t
theorem strsAre_of {vs : List Value} {xs : List Str} (h : All2 StrV vs xs) : StrsAre vs xs := by
  induction h with
  | nil => exact .nil
  | cons q _ ih => obtain ⟨t, rfl⟩ := q; exact .cons _ _ ih
theorem of_strsAre {vs : List Value} {xs : List Str} (h : StrsAre vs xs) : All2 StrV vs xs := by
  induction h with
  | nil => exact .nil
  | cons y t _ ih => exact .cons ⟨t, rfl⟩ ih
section
variable {w : World} {mg mb : Str → Option Value} {b b' s s' : Shared} {L : Nat} {m : List (Str × Value)} {N : List (Nat × Obj)} {A : Around} {E : Value → Shared → Prop} {env : Env}
theorem St.csorted (S : St w mg mb b L m N s) {l : Nat} {vs : List Value} {xs : List Str} {Q : Value → Shared → Prop} (hl : s.heap.IsList l vs.toArray) (hv : All2 StrV vs xs) (hz : vs.length < 64)
    (h : ∀ (a : Nat) vs' xs' k s', All2 StrV vs' xs' → xs'.Perm xs → sortedS xs' = true → St w mg mb b L m ((a, lstObj vs'.toArray k) :: N) s' → Q (.ref a) s') :
    wpAny (model PR w) A (call (.builtin "sorted") [.ref l]) Q E s := by
  refine sorted_strs hl (strsAre_of hv) hz fun out ss' h1 h2 h3 => ?_
  obtain ⟨e, he⟩ := sortedAll_at s.heap vs out
  have S1 := S.kept (h' := sortedAll s.heap vs out) (tk := s.toks) fun a o => sortedAll_old
  have big := S.ok.big
  refine h _ out.toList ss' e _ (of_strsAre h1) h2 h3 (S1.add (o := lstObj out.toList.toArray e) (by rw [Array.toArray_toList]; exact he) (S.none_size (Nat.le_succ _) (by omega) (by omega)) (by have := S.nsl; omega) (fun p hp => Nat.ne_of_lt (Nat.lt_succ_of_lt (Heap.lt_size (S.nw p hp).1))) (by omega))
theorem St.clist (S : St w mg mb b L m N s) {l : Nat} {vs : List Value} {k : Nat} {Q : Value → Shared → Prop} (hl : s.heap.get? l = some (lstObj vs.toArray k)) (hz : vs.length ≤ 1000)
    (h : ∀ (a k' : Nat) s', St w mg mb b L m ((a, lstObj vs.toArray k') :: N) s' → Q (.ref a) s') :
    wpAny (model PR w) A (call (.type "list") [.ref l]) Q E s := by
  refine call_list_seq l (.inl rfl) hl rfl rfl (fun h' c' hk hn => ?_) (by rw [List.size_toArray]; exact Nat.le_trans hz (by decide))
  have S1 := S.kept (h' := h') (tk := s.toks) hk
  have big := S.ok.big
  exact h _ c' _ (S1.add (o := lstObj vs.toArray c') hn (S.none_size (Nat.le_refl _) (by omega) (by omega)) (Nat.ne_of_gt S.nsl) (fun p hp => Nat.ne_of_lt (Heap.lt_size (S.nw p hp).1)) big)
/-- a truth value of the values at hand -/
theorem St.truth (S : St w mg mb b L m N s) {v : Value} {x : Val} {Q : Bool → Shared → Prop} (hv : ValIn w s.heap v x) (h1 : x ≠ .non) (h2 : x.isMap = false) (h3 : ∀ y, x = .txt y → y.length ≤ 1000) (h : ∀ s', St w mg mb b L m N s' → Q (!x.falsy) s') : wpAny (model PR w) A (truthy v) Q E s := by
  cases hv with
  | non => exact absurd rfl h1
  | m0 => exact absurd h2 (by decide)
  | m2 => exact absurd h2 (by simp [Val.isMap])
  | boo c => exact wpAny_truthy_bool (by simpa [Val.falsy] using h _ S)
  | num i t => exact P.truthy_int (by
      have := h _ S
      have e : (!(Val.num i).falsy) = (i != 0) := by by_cases q : i = 0 <;> simp [Val.falsy, q]
      rwa [e] at this)
  | txt y t =>
    refine P.truthy_str (by have := h3 y rfl; omega) ?_
    have := h _ (S.tok (tk := s.toks + 1 + 1))
    have e : (!(Val.txt y).falsy) = ((y.length : Int) != 0) := by
      by_cases q : y = Str.empty
      · subst q; rfl
      · have : y.length ≠ 0 := fun e => q (by obtain ⟨a⟩ := y; simp [Str.length] at e; rw [e]; rfl)
        simp [Val.falsy, q, this]
    rwa [e] at this
theorem St.sadd (S : St w mg mb b L m N s) {x y : Str} {t u : Tok} {Q : Value → Shared → Prop} (hz : x.length + y.length ≤ 1000000) (h : ∀ t' s', St w mg mb b L m N s' → Q (.str (x ++ y) t') s') : wpAny (model PR w) A (binaryOp .Add (.str x t) (.str y u)) Q E s :=
  SB.add (fun t' k => h t' _ S.tok) (Nat.le_trans hz (by decide))
end
end Mine

namespace Mine
theorem lit_0 : (Str.ofString "'").length = 1 := by decide +kernel
theorem lit_1 : (Str.ofString "': '").length = 4 := by decide +kernel
theorem lit_2 : (Str.ofString " = {").length = 4 := by decide +kernel
theorem lit_3 : (Str.ofString ", ").length = 2 := by decide +kernel
theorem lit_4 : (Str.ofString "}").length = 1 := by decide +kernel
theorem lit_5 : (Str.ofString "comment = ''").length = 12 := by decide +kernel
theorem lit_6 : (Str.ofString " = ").length = 3 := by decide +kernel
theorem lit_7 : (Str.ofString "true").length = 4 := by decide +kernel
theorem lit_8 : (Str.ofString "false").length = 5 := by decide +kernel
theorem lit_9 : (Str.ofString "").length = 0 := by decide +kernel
theorem lit_10 : (Str.ofString "comment").length = 7 := by decide +kernel
theorem all2_of_get {ys : List Value} {ps : List Str} (hl : ys.length = ps.length) (h : ∀ i y, ys[i]? = some y → ∃ u, y = Value.str (ps.getD i Str.empty) u) : All2 StrV ys ps := by
  induction ys generalizing ps with
  | nil => cases ps with
    | nil => exact .nil
    | cons => simp at hl
  | cons y ys ih => cases ps with
    | nil => simp at hl
    | cons p ps =>
      refine .cons ?_ (ih (by simpa using hl) fun i z hz => ?_)
      · obtain ⟨u, e⟩ := h 0 y rfl
        exact ⟨u, e⟩
      · obtain ⟨u, e⟩ := h (i + 1) z hz
        exact ⟨u, e⟩
theorem valueAt_get {kvs : List (Str × Value)} (nd : (kvs.map (·.1)).Nodup) {i : Nat} {x : Str} {v : Value} (h : kvs[i]? = some (x, v)) : PySem.valueAt kvs x = some v := by
  induction kvs generalizing i with
  | nil => simp at h
  | cons p l ih =>
    rw [List.map_cons, List.nodup_cons] at nd
    cases i with
    | zero => simp at h; subst h; simp [PySem.valueAt]
    | succ i =>
      have h' : l[i]? = some (x, v) := by simpa using h
      have hx : p.1 ≠ x := fun e => nd.1 (by rw [e]; exact List.mem_map.mpr ⟨(x, v), List.mem_of_getElem? h', rfl⟩)
      have := ih nd.2 h'
      simpa [PySem.valueAt, hx] using this
theorem bindL1 {kindOf : Str → Option NameKind} {n : Str} {v : Value} (hk : kindOf n = some .local) : ∀ x u, ([(n, v)] : List (Str × Value)).lookup x = some u → bindL kindOf [(n, v)] (fun _ => none) x = some u := by
  intro x u h
  show (if kindOf n = some .local then fun y => if y = n then some v else none else fun _ => none) x = some u
  rw [if_pos hk]
  rw [List.lookup_cons] at h
  by_cases e : x = n
  · subst e; simp at h; subst h; simp
  · have : (x == n) = false := beq_eq_false_iff_ne.mpr e
    simp [this] at h
theorem strValues_of {vs : List Value} {xs : List Str} (h : All2 StrV vs xs) : ∃ l : List (Str × Tok), vs = strValues l ∧ l.map (·.1) = xs := by
  induction h with
  | nil => exact ⟨[], rfl, rfl⟩
  | @cons a b l l' q _ ih =>
    obtain ⟨t, rfl⟩ := q
    obtain ⟨l2, rfl, e⟩ := ih
    exact ⟨(b, t) :: l2, rfl, by simp [e]⟩
section
variable {w : World} {mg mb : Str → Option Value} {b b' s s' : Shared} {L : Nat} {m : List (Str × Value)} {N : List (Nat × Obj)} {A : Around} {E : Value → Shared → Prop} {env : Env}
/-- sep.join(list) -/
theorem St.cjoin (S : St w mg mb b L m N s) {l : Nat} {vs : List Value} {xs : List Str} {sep : Str} {t : Tok} {Q : Value → Shared → Prop} (hl : s.heap.IsList l vs.toArray) (hv : All2 StrV vs xs) (hok : JoinOk sep xs = true)
    (h : ∀ t' s', St w mg mb b L m N s' → Q (.str (Txt.join sep xs) t') s') : wpAny (model PR w) A (call (.builtin "str.join") [.str sep t, .ref l]) Q E s := by
  obtain ⟨l2, rfl, e⟩ := strValues_of hv
  exact SC.join hl e hok fun t' k => h t' _ S.tok
theorem St.dgetitem (S : St w mg mb b L m N s) {d : Nat} {kvs : List (Str × Value)} {x : Str} {t : Tok} {v : Value} {Q : Value → Shared → Prop} (hd : s.heap.DictOf (SK w) d kvs) (hv : PySem.valueAt kvs x = some v) (h : ∀ s', St w mg mb b L m N s' → Q v s') :
    wpAny (model PR w) A (getItem (.ref d) (.str x t)) Q E s := wpAny_getItem_of (knd := SK w) (strKind_is PR w x t) hd.mapOf hv (h _ S.tok)
theorem St.cstrof (S : St w mg mb b L m N s) {v : Value} {y : Str} {Q : Value → Shared → Prop} (hv : FP v y) (h : ∀ t s', St w mg mb b L m N s' → Q (.str y t) s') : wpAny (model PR w) A (call (.type "str") [v]) Q E s := by
  cases hv with
  | str _ t _ => exact P.str_of_str (h _ _ S)
  | int i t h0 h1 => exact P.str_of_int (shown_small h0 h1) (h _ _ S.tok)
/-- name, value = (..): the second name a cell -/
theorem St.twoC (S : St w mg mb b L m N s) {k : Nat} (R : Rm A k) {x y : Str} {p1 p2 p : Pos} {c0 : Nat} {t c : Nat} {oc : Obj} {v₀ : Option Value} {u v : Value} {pre post : List (Nat × Obj)} {Q : Unit → Shared → Prop} (e : N = pre ++ (c, oc) :: post) (ho : oc.data = .cell v₀) (ht : s.heap.get? t = some (tupObj #[u, v]))
    (h : ∀ o' s', o'.data = .cell (some v) → St w mg mb b L ((x, u) :: m) (pre ++ (c, o') :: post) s' → Q () s')
    (he : env.locals = L := by rfl) (hk : env.scope.kind = .function := by rfl) (hl : env.kindOf x = some .local := by rfl) (hl2 : env.kindOf y = some .cell := by rfl) (hc : env.cells.lookup y = some c := by rfl) :
    wpAny (model PR w) A (assign (.Tuple [.Name x p1, .Name y p2] c0 p) env (.ref t)) Q E s := by
  refine assign_Tuple_tuple R.h (items := #[u, v]) ⟨_, ht, rfl, _, rfl⟩ rfl rfl fun h' hx => ?_
  have S' : St w mg mb b L m N { s with heap := h' } := S.kept (fun a o e => hx a o (Nat.ne_of_lt (Heap.lt_size e)) e)
  refine assignInOrder_cons ?_
  refine PyProof.Rows.assign_Name ?_
  refine S'.st (fun s1 S1 => ?_) he hk hl
  refine assignInOrder_cons ?_
  refine PyProof.Rows.assign_Name ?_
  refine S1.stc e ho (fun o' s2 ho' S2 => ?_) hc hk hl2
  exact assignInOrder_nil (h o' _ ho' S2)
theorem is_intB {M : Model} {i : Int} {t : Tok} {c : Bool} {Q : Value → Shared → Prop} (h : Q (.bool false) s) : wpAny M A (compareOp .Is (.int i t) (.bool c)) Q E s := wpAny_pure h
theorem is_strB {M : Model} {x : Str} {t : Tok} {c : Bool} {Q : Value → Shared → Prop} (h : Q (.bool false) s) : wpAny M A (compareOp .Is (.str x t) (.bool c)) Q E s := wpAny_pure h
/-- value in ('', 0) -/
theorem St.in00 (S : St w mg mb b L m N s) {v : Value} {val : Val} {c : Nat} {t1 t2 : Tok} {Q : Value → Shared → Prop} (hv : ValIn w s.heap v val) (h1 : val ≠ .non) (h2 : val.isMap = false) (hc : s.heap.get? c = some (tupObj #[.str Str.empty t1, .int 0 t2]))
    (h : ∀ s', St w mg mb b L m N s' → Q (.bool val.falsy) s') : wpAny (model PR w) A (compareOp .In v (.ref c)) Q E s := by
  have hl : s.heap.IsTuple c #[.str Str.empty t1, .int 0 t2] := ⟨_, hc, rfl, _, rfl⟩
  have key : ∀ (e1 e2 : Bool), SeqAt.EqAt A.in1 s (.str Str.empty t1) v e1 → SeqAt.EqAt A.in1 s (.int 0 t2) v e2 → (e1 || e2) = val.falsy → wpAny (model PR w) A (compareOp .In v (.ref c)) Q E s := fun e1 e2 q1 q2 e => by
    refine SeqAt.in_tupleAt (fun y => match y with | .str .. => e1 | _ => e2) hl (fun y hy => ?_) ?_
    · simp at hy
      rcases hy with rfl | rfl
      · exact q1
      · exact q2
    · have := h _ S
      rw [← e] at this
      simpa using this
  cases hv with
  | non => exact absurd rfl h1
  | m0 => exact absurd h2 (by decide)
  | m2 => exact absurd h2 (by simp [Val.isMap])
  | boo b0 => exact key _ _ (SeqAt.EqAt.str_bool _ _ _) (SeqAt.EqAt.int_bool _ _ _) (by cases b0 <;> rfl)
  | num i t => exact key _ _ (SeqAt.EqAt.str_int _ _ _ _) (SeqAt.EqAt.int_int _ _ _ _) (by
      by_cases q : i = 0
      · subst q; rfl
      · have : ((0 : Int) == i) = false := beq_eq_false_iff_ne.mpr (Ne.symm q)
        rw [this]; simp [Val.falsy, q])
  | txt x t => exact key _ _ (SeqAt.EqAt.str_str _ _ _ _) (SeqAt.EqAt.int_str _ _ _ _) (by
      by_cases q : x = Str.empty
      · subst q; rfl
      · have : (Str.empty == x) = false := beq_eq_false_iff_ne.mpr (Ne.symm q)
        rw [this]; simp [Val.falsy, q])
end
end Mine

namespace Mine
section
variable {w : World} {mg mb : Str → Option Value} {b b' s s' : Shared} {L : Nat} {m : List (Str × Value)} {N : List (Nat × Obj)} {A : Around} {E : Value → Shared → Prop} {env : Env}
/-- an item of a list -/
theorem litem {value slice : Expr} {l : Nat} {vs : List Value} {i : Int} {t : Tok} {v : Value} {Q : Value → Shared → Prop} (hl : s.heap.IsList l vs.toArray) (h0 : 0 ≤ i) (hz : i < 2 ^ 63) (hv : vs[i.toNat]? = some v) (h : Q v s)
    (hs : subscripted slice false (.ref l) (.int i t) = operate [.ref l, .int i t] (getItem (.ref l) (.int i t)) := by with_unfolding_all rfl) (hg : ∀ r, letTemporaryGo value (.ref l) r = pure () := by intro _; with_unfolding_all rfl) :
    wpAny (model PR w) A (subscriptTail value slice (.ref l) (.int i t)) Q E s :=
  subscriptTail_ops (Heap.IsList.typeIs hl) list_getitem_lookup (wpAny_getItem_list hl h0 hz (by simpa using hv) h) hs hg
/-- a slice of a list -/
theorem St.lslice (S : St w mg mb b L m N s) {value slice : Expr} {l sl : Nat} {vs : List Value} {vl vu : Value} {lo hi : Option Int} {Q : Value → Shared → Prop} (hl : s.heap.IsList l vs.toArray) (hsl : s.heap.IsSliceOf sl vl vu .none) (pl : IsPart vl lo) (pu : IsPart vu hi) (hz : vs.length ≤ 1000)
    (h : ∀ (a : Nat) s', St w mg mb b L m ((a, lstObj (slicePick vs.toArray lo hi none) 0) :: N) s' → Q (.ref a) s')
    (hs : subscripted slice false (.ref l) (.ref sl) = operate [.ref sl, .ref l] (getItem (.ref l) (.ref sl)) := by with_unfolding_all rfl) (hg : ∀ r, letTemporaryGo value (.ref l) r = pure () := by intro _; with_unfolding_all rfl) :
    wpAny (model PR w) A (subscriptTail value slice (.ref l) (.ref sl)) Q E s :=
  subscriptTail_ops (Heap.IsList.typeIs hl) list_getitem_lookup (wpAny_getItem_list_slice hl hsl pl pu .none (by simp) (h _ _ (S.pushN (tk := s.toks) (lstObj (slicePick vs.toArray lo hi none) 0))) (by rw [List.size_toArray]; exact Nat.le_trans hz (by decide))) hs hg
theorem St.ladd (S : St w mg mb b L m N s) {l c k1 k2 : Nat} {vs ws : List Value} {Q : Value → Shared → Prop} (hl : s.heap.get? l = some (lstObj vs.toArray k1)) (hb : s.heap.get? c = some (lstObj ws.toArray k2)) (hz : vs.length + ws.length ≤ 1000)
    (h : ∀ (a : Nat) s', St w mg mb b L m ((a, lstObj (vs ++ ws).toArray 0) :: N) s' → Q (.ref a) s') : wpAny (model PR w) A (binaryOp .Add (.ref l) (.ref c)) Q E s := by
  have e : vs.toArray ++ ws.toArray = (vs ++ ws).toArray := by simp
  refine concat_meets ⟨_, hl, rfl⟩ ⟨_, hb, rfl⟩ noFill_list_add seq_list_add PySem.F.slot_list_add PySem.F.entry_list_add (PySem.F.args_list_add_2 _ _) (list_addW l c vs.toArray ws.toArray k1 k2 none none #[] #[] (by simpa using Nat.le_trans hz (by decide))) ⟨hl, hb, ?_⟩
  rw [e]
  exact h _ _ (S.pushN (tk := s.toks) (lstObj (vs ++ ws).toArray 0))
theorem St.llen (S : St w mg mb b L m N s) {l : Nat} {vs : List Value} {Q : Value → Shared → Prop} (hl : s.heap.IsList l vs.toArray) (hz : vs.length ≤ 1000) (h : ∀ t s', St w mg mb b L m N s' → Q (.int vs.length t) s') : wpAny (model PR w) A (call (.builtin "len") [.ref l]) Q E s :=
  call_len_list hl (by rw [List.size_toArray]; omega) (by rw [List.size_toArray]; exact h _ _ S.tok)
def rangeObj (n : Int) (t u v : Tok) : Obj := { cls := .type "range", dict := none, data := .fields #[.int 0 t, .int n u, .int 1 v], slots := #[] }
theorem St.crange (S : St w mg mb b L m N s) {n : Int} {t : Tok} {Q : Value → Shared → Prop} (h : ∀ (r : Nat) t u v s', St w mg mb b L m ((r, rangeObj n t u v) :: N) s' → Q (.ref r) s') : wpAny (model PR w) A (call (.type "range") [.int n t]) Q E s :=
  call_range_1 (h _ _ _ _ _ (S.pushN (tk := s.toks + 1 + 1) (rangeObj n s.toks t (s.toks + 1))))
def rangeIt (x left : Int) : Obj := { cls := .type "range_iterator", dict := none, data := .fields #[rawInt x, rawInt left, rawInt 1], slots := #[] }
theorem St.irange (S : St w mg mb b L m N s) {n r : Nat} {t u v : Tok} {Q : Value → Shared → Prop} (hr : s.heap.get? r = some (rangeObj n t u v)) (hn : n ≤ 1000) (h : ∀ (I : Nat) s', St w mg mb b L m ((I, rangeIt 0 n) :: N) s' → Q (.ref I) s') : wpAny (model PR w) A (pyIter (.ref r)) Q E s := by
  have e : Builtin.Range.rangeSize 0 n 1 = n := by
    unfold Builtin.Range.rangeSize
    simp only [show (1 : Int) > 0 from by decide, if_true]
    by_cases q : (0 : Int) < n
    · rw [if_pos q]; omega
    · rw [if_neg q]; omega
  refine wpAny_pyIter_range hr ?_ ?_
  · unfold Builtin.Range.small
    rw [e]
    have f : ∀ i : Int, 0 ≤ i → i ≤ 1001 → Builtin.Range.rangeFitsLong i = true := fun i h0 h1 => by unfold Builtin.Range.rangeFitsLong; simp; omega
    rw [f 0 (by omega) (by omega), f n (by omega) (by omega), f 1 (by omega) (by omega), if_pos (by decide), f _ (by omega) (by omega)]
    simp
  · rw [e]
    exact h _ _ (S.pushN (tk := s.toks) (rangeIt 0 n))
/-- a walk over range(n) -/
theorem walksRange {A : Around} (hh : A.handled = none) (I n : Nat) : Walks PR w A I [I] [I] n (fun i v => ∃ t, v = .int i t) (fun i h => IsRangeIter h I (i : Nat) ((n : Int) - (i : Nat)) 1) := by
  have q := Walks.range (prog := PR) (w := w) hh I 0 1 n
  simpa using q
def sliceObj (x y : Value) : Obj := { cls := .type "slice", data := .fields #[x, y, .none] }
theorem x_slfrom {e : Expr} {p : Pos} {Q : Value → Shared → Prop} (h : wpAny (model PR w) A (eval e env) (fun v s1 => wpAny (model PR w) A (newFields "slice" [v, .none, .none]) Q E s1) E s) : wpAny (model PR w) A (eval (.Slice (some e) none none p) env) Q E s := by
  rw [arm_eval_Slice]
  exact wpAny_bind (wpAny_mono h (fun v s1 h1 => wpAny_bind (wpAny_holding (wpAny_pure (wpAny_bind (wpAny_holding (wpAny_pure h1)))))) fun _ _ x => x)
theorem x_slto {e : Expr} {p : Pos} {Q : Value → Shared → Prop} (h : wpAny (model PR w) A (eval e env) (fun v s1 => wpAny (model PR w) A (newFields "slice" [.none, v, .none]) Q E s1) E s) : wpAny (model PR w) A (eval (.Slice none (some e) none p) env) Q E s := by
  rw [arm_eval_Slice]
  exact wpAny_bind (wpAny_pure (wpAny_bind (wpAny_holding (wpAny_mono h (fun v s1 h1 => wpAny_bind (wpAny_holding (wpAny_pure h1))) fun _ _ x => x))))
theorem St.nslice (S : St w mg mb b L m N s) {x y : Value} {Q : Value → Shared → Prop} (h : ∀ (a : Nat) s', St w mg mb b L m ((a, sliceObj x y) :: N) s' → Q (.ref a) s') : wpAny (model PR w) A (newFields "slice" [x, y, .none]) Q E s :=
  wpAny_newObj_type (h _ _ (S.pushN (tk := s.toks) (sliceObj x y))) (by size_fits)
/-- a dict display of two texts -/
theorem St.ddisp2 (S : St w mg mb b L m N s) {k1 k2 : Str} {c1 c2 : Nat} {p1 p2 pos : Pos} {e1 e2 : Expr} {Q : Value → Shared → Prop} (hne : k1 ≠ k2)
    (h : ∀ (d : Nat) s1, St w mg mb b L m ((d, { cls := .type "dict", data := .dict #[] }) :: N) s1 → wpAny (model PR w) A (eval e1 env) (fun v1 s2 => St w mg mb b L m ((d, { cls := .type "dict", data := .dict #[] }) :: N) s2 ∧
      ∀ s3, St w mg mb b L m ((d, { cls := .type "dict", data := .dict #[] }) :: N) s3 → wpAny (model PR w) A (eval e2 env) (fun v2 s4 => St w mg mb b L m ((d, { cls := .type "dict", data := .dict #[] }) :: N) s4 ∧
        ∀ o s', o.IsDictOf (SK w) [(k1, v1), (k2, v2)] → St w mg mb b L m ((d, o) :: N) s' → Q (.ref d) s') E s3) E s1) :
    wpAny (model PR w) A (eval (.Dict [some (.Constant (.str k1) c1 p1), some (.Constant (.str k2) c2 p2)] [e1, e2] pos) env) Q E s := by
  refine wpAny_Dict_walk (knd := SK w) (by rfl) rfl (by simp) (by simp) ?_
  have S1 := S.pushN (tk := s.toks) { cls := .type "dict", data := .dict #[] }
  refine pairTrees_cons_walk (wpAny_Constant_str ?_)
  refine wpAny_mono (h s.heap.objs.size _ (S1.tok (tk := s.toks + 1))) (fun v1 s2 ⟨S2, h2⟩ => ?_) fun _ _ x => x
  refine pairTrees_cons_walk (wpAny_Constant_str ?_)
  refine wpAny_mono (h2 _ (S2.tok (tk := s2.toks + 1))) (fun v2 s4 ⟨S4, h4⟩ => ?_) fun _ _ x => x
  refine pairTrees_nil_walk ⟨[(k1, v1), (k2, v2)], ⟨strKind_is PR w k1 _, rfl, strKind_is PR w k2 _, rfl, trivial⟩, S4.dictOf (.head _) (isDictOf_nil w), fun h' hd hs => ?_⟩
  rw [merged_nil_of_nodup _ (by simp [hne])] at hd
  obtain ⟨o', ho', hk⟩ := Heap.dictOf_iff.mp hd
  exact h4 o' _ hk (S4.upd' (pre := []) rfl (fun x ob hx hg => (hs.2 x hx).trans hg) ho')
end
end Mine

namespace Mine
/-- what of h did not stand in h0 -/
noncomputable def anew (h0 h : Heap) : Heap := dropH h ((List.range h0.objs.size).filter fun a => (h0.get? a).isSome)
theorem anew_in {h0 h : Heap} {a : Nat} {o : Obj} (e : h.get? a = some o) (n : h0.get? a = none) : (anew h0 h).get? a = some o := by
  unfold anew
  rw [dropH_get, if_neg]
  · exact e
  · intro hm
    have := (List.mem_filter.mp hm).2
    rw [n] at this
    cases this
theorem anew_out {h0 h : Heap} {a : Nat} {o : Obj} (e : (anew h0 h).get? a = some o) : h.get? a = some o ∧ h0.get? a = none := by
  unfold anew at e
  rw [dropH_get] at e
  split at e
  · cases e
  · rename_i hn
    refine ⟨e, ?_⟩
    cases q : h0.get? a with
    | none => rfl
    | some o' => exact absurd (List.mem_filter.mpr ⟨List.mem_range.mpr (Heap.lt_size q), by rw [q]; rfl⟩) hn
theorem anew_to (h0 h : Heap) : Keep (anew h0 h) h := fun _ _ _ _ e => (anew_out e).1
theorem anew_keep {h0 h h' : Heap} (k : Keep h h') : Keep (anew h0 h) (anew h0 h') := fun a o h1 h2 e => anew_in (k a o h1 h2 (anew_out e).1) (anew_out e).2
theorem keep_none {h h' : Heap} (k : Keep h h') {a : Nat} (hi : 218 ≤ a) (n : h'.get? a = none) : h.get? a = none := by
  cases q : h.get? a with
  | none => rfl
  | some o => rw [k a o (by omega) (by omega) q] at n; cases n
section
variable {w : World} {mg mb : Str → Option Value} {b b' s s' : Shared} {L : Nat} {m : List (Str × Value)} {N : List (Nat × Obj)}
/-- all but the frame and what N₁ holds goes over to the base -/
theorem St.rebase2 {N₁ N₂ : List (Nat × Obj)} (S : St w mg mb b L m (N₁ ++ N₂) s) :
    ∃ b', Aft b b' ∧ (∀ (a : Nat) o, s.heap.get? a = some o → a ≠ L → (∀ p ∈ N₁, p.1 ≠ a) → b'.heap.get? a = some o) ∧ St w mg mb b' L m N₁ s ∧ (∀ p ∈ N₂, b'.heap.get? p.1 = some p.2) := by
  have inb : ∀ (a : Nat) o, s.heap.get? a = some o → a ≠ L → (∀ p ∈ N₁, p.1 ≠ a) → (dropH s.heap (L :: N₁.map (·.1))).get? a = some o := by
    intro a o ho h1 h2
    rw [dropH_get, if_neg]
    · exact ho
    · intro hm
      rcases List.mem_cons.mp hm with e | hm
      · exact h1 e
      · obtain ⟨p, hp, e⟩ := List.mem_map.mp hm
        exact h2 p hp e
  have nd := S.nd
  rw [List.map_append] at nd
  refine ⟨{ s with heap := dropH s.heap (L :: N₁.map (·.1)) }, ⟨fun a o h1 h2 e => ?_, S.drawn, S.os⟩, inb, ⟨S.ok, fun a o h1 h2 e => ?_, rfl, rfl, S.ns, ?_, S.hiL, fun p hp => ?_, (List.nodup_append.mp nd).1⟩, fun p hp => ?_⟩
  · refine inb a o (S.keep a o h1 h2 e) (fun h => ?_) fun p hp h => ?_
    · subst h; rw [S.off] at e; cases e
    · subst h; rw [(S.nw p (List.mem_append.mpr (.inl hp))).2.2.1] at e; cases e
  · have e' : (dropH s.heap (L :: N₁.map (·.1))).get? a = some o := e
    rw [dropH_get] at e'
    split at e'
    · cases e'
    · exact e'
  · show (dropH _ _).get? L = none
    rw [dropH_get, if_pos (.head _)]
  · have q := S.nw p (List.mem_append.mpr (.inl hp))
    refine ⟨q.1, q.2.1, ?_, q.2.2.2⟩
    show (dropH _ _).get? p.1 = none
    rw [dropH_get, if_pos (.tail _ (List.mem_map_of_mem hp))]
  · have q := S.nw p (List.mem_append.mpr (.inr hp))
    exact inb _ _ q.1 q.2.1 fun r hr e => (List.nodup_append.mp nd).2.2 r.1 (List.mem_map_of_mem hr) p.1 (List.mem_map_of_mem hp) e
/-- behind a call: what the call made goes over to the base -/
theorem St.called {N₁ N₂ : List (Nat × Obj)} (S : St w mg mb b L m (N₁ ++ N₂) s) (a : Aft s s') (O : Ok w mg mb s') :
    ∃ b', Aft b b' ∧ Keep (anew s.heap s'.heap) b'.heap ∧ St w mg mb b' L m N₁ s' ∧ (∀ p ∈ N₂, b'.heap.get? p.1 = some p.2) := by
  obtain ⟨b', h1, h2, h3, h4⟩ := (S.aft a O).rebase2
  obtain ⟨f, ⟨oL, es, ep, hoL, r⟩, y⟩ := S.ns
  refine ⟨b', h1, fun x o hx1 hx2 e => h2 x o (anew_out e).1 (fun q => ?_) (fun p hp q => ?_), h3, h4⟩
  · have := (anew_out e).2
    rw [q, hoL] at this; cases this
  · have := (anew_out e).2
    rw [← q, (S.nw p (List.mem_append.mpr (.inl hp))).1] at this; cases this
end
end Mine

namespace Mine
section
variable {w : World} {mg mb : Str → Option Value} {b b' s s' : Shared} {L : Nat} {m : List (Str × Value)} {N : List (Nat × Obj)} {A : Around} {E : Value → Shared → Prop} {env : Env}
/-- two values are told the same, in this world -/
def EqW (w : World) (A : Around) (s : Shared) (v y : Value) : Prop := ∀ (E : Value → Shared → Prop) (Q : Bool → Shared → Prop), Q true s → wpAny (model PR w) A (eqBool v y) Q E s
theorem not_sys {a : Nat} (h : 218 ≤ a) : ((a : Addr) == sysModules) = false := beq_eq_false_iff_ne.mpr (by show a ≠ 1; omega)
/-- the walk over two dicts that hold the same -/
theorem pairs_same {nm : String} {a b : Nat} {ka kb : List (Str × Value)} {Q : Bool → Shared → Prop} (ha : 218 ≤ a) (hb : 218 ≤ b) (da : s.heap.DictOf (SK w) a ka) (db : s.heap.DictOf (SK w) b kb) (hlen : ka.length = kb.length)
    (hits : ∀ k v, (k, v) ∈ ka → ∃ y, PySem.valueAt kb k = some y ∧ EqW w A s v y) (h : Q true s) : wpAny (model PR w) A (Builtin.Dict.samePairs nm a b) Q E s := by
  obtain ⟨oa, ea, na, ga, _, qa, ka1, pa, _⟩ := da
  obtain ⟨ob, eb, nb, gb, _, qb, kb1, pb, _⟩ := db
  have za : ea.size = ka.length := by rw [← pa.length, Array.length_toList]
  have zb : eb.size = kb.length := by rw [← pb.length, Array.length_toList]
  have look : ∀ k, findBy (SK w).is eb k = PySem.valueAt kb k := fun k => by
    rw [← pb.find k]
    cases eb
    simp [findBy]
  have zz : ea.size = eb.size := by omega
  unfold Builtin.Dict.samePairs Builtin.Dict.showsAll
  rw [not_sys ha, not_sys hb]
  refine wpAny_bind (wpAny_pure (wpAny_bind (wpAny_pure (wpAny_bind (wpAny_dictEntries ga qa ?_)))))
  refine wpAny_bind (wpAny_dictEntries gb qb ?_)
  rw [if_neg (by rw [zz]; simp)]
  refine wpAny_bind (wpAny_dictEpoch ga qa (wpAny_bind ?_))
  rw [Std.Legacy.Range.forIn_eq_forIn_range']
  simp only [Std.Legacy.Range.size, Nat.sub_zero, Nat.add_sub_cancel, Nat.div_one]
  refine wpAny_forIn_list _ (fun rest q s' => s' = s ∧ q = (none, ()) ∧ ∃ i, rest = List.range' i (ea.size - i) ∧ i ≤ ea.size) _ ?_ ?_ _ _ ⟨rfl, rfl, 0, by simp, Nat.zero_le _⟩
  · rintro x rest q s' ⟨rfl, rfl, i, hr, hi⟩
    have hlt : i < ea.size := by
      by_cases c : i < ea.size
      · exact c
      · rw [show ea.size - i = 0 by omega] at hr; cases hr
    rw [show ea.size - i = (ea.size - (i + 1)) + 1 by omega, List.range'_succ] at hr
    obtain ⟨rfl, hrest⟩ := List.cons.inj hr
    refine wpAny_bind (wpAny_dictEntries ga qa ?_)
    rw [Array.getElem?_eq_getElem hlt]
    have hk := List.getElem?_eq_getElem (l := ka) (i := x) (by omega)
    obtain ⟨kx, vx, hkv⟩ : ∃ kx vx, ka[x]'(by omega) = (kx, vx) := ⟨_, _, rfl⟩
    rw [hkv] at hk
    obtain ⟨hkey, hval⟩ := pa.get? (i := x) (e := ea[x]) (k := kx) (v := vx) (by rw [Array.getElem?_toList]; exact Array.getElem?_eq_getElem hlt) hk
    obtain ⟨y, hy, he⟩ := hits kx vx (List.mem_of_getElem? hk)
    obtain ⟨k', hk', hh⟩ := ka1 ea[x] (Array.getElem_mem hlt)
    obtain rfl : k' = kx := (SK w).inj _ _ _ hk' hkey
    show wpAny _ _ (holding [ea[x].key, ea[x].val] _ >>= _) _ _ _
    rw [hh]
    refine wpAny_bind (wpAny_holding (wpAny_bind (wpAny_dictFind_of hkey gb qb kb1 ?_)))
    cases hj : eb.findIdx? fun e => (SK w).is k' e.key with
    | none =>
      have : PySem.valueAt kb k' = none := by rw [← look k', findBy_of_findIdx?, hj]
      rw [this] at hy; cases hy
    | some j =>
      obtain ⟨jl, _, _⟩ := Array.findIdx?_eq_some_iff_getElem.mp hj
      have ej : eb[j].val = y := by
        have q : PySem.valueAt kb k' = some eb[j].val := by
          rw [← look k', findBy_of_findIdx?, hj]
          simp [Array.getElem?_eq_getElem jl]
        rw [q] at hy
        exact Option.some.inj hy
      refine wpAny_bind (wpAny_dictEntries gb qb ?_)
      rw [Array.getElem?_eq_getElem jl]
      rw [← ej, ← hval] at he
      refine wpAny_holding (he _ _ ?_)
      show wpAny _ _ (if (!true) = true then _ else _) _ _ _
      rw [if_neg (by decide)]
      refine wpAny_bind (wpAny_dictEpoch ga qa ?_)
      rw [if_neg (by simp)]
      exact wpAny_pure ⟨rfl, rfl, x + 1, hrest, hlt⟩
  · rintro q s' ⟨rfl, rfl, _⟩
    exact wpAny_pure h
/-- two dicts that hold the same: == inside -/
theorem dicts_eqW {a b : Nat} {ka kb : List (Str × Value)} (ha : 218 ≤ a) (hb : 218 ≤ b) (da : s.heap.DictOf (SK w) a ka) (db : s.heap.DictOf (SK w) b kb) (hu : A.units < cLine) (hlen : ka.length = kb.length)
    (hits : ∀ k v, (k, v) ∈ ka → ∃ y, PySem.valueAt kb k = some y ∧ EqW w A.in1 s v y) : EqW w A s (.ref a) (.ref b) := fun E Q h => by
  unfold eqBool
  refine wpAny_holding ?_
  refine wpAny_ite_split (fun _ => wpAny_bind (wpAny_rule (wpAny_pure h))) fun _ => ?_
  refine wpAny_bind ?_
  refine wpAny_richCompare_same_room (op := .Eq) da.typeIs db.typeIs PySem.F.slot_dict_eq (wpAny_call_entry PySem.F.slot_dict_eq da.typeIs PySem.F.entry_dict_eq ?_ (PySem.F.args_dict_eq_2 _ _)) hu
  show wpAny _ _ (Builtin.Dict.dictSlotArgs "__eq__" ⟨[.ref a, .ref b], []⟩ >>= _) _ _ s
  refine wpAny_bind ?_
  unfold Builtin.Dict.dictSlotArgs
  refine wpAny_bind (wpAny_notOrdered_dict da.typeIs ?_)
  show wpAny _ _ (pure (Value.ref a, Value.ref b)) _ _ s
  refine wpAny_pure (wpAny_bind (wpAny_isInstance (T := "dict") db.typeIs PySem.F.sub_dict_dict ?_))
  simp only [Bool.not_true, Bool.false_eq_true, if_false]
  refine wpAny_bind (wpAny_pure (wpAny_bind (wpAny_pure (wpAny_bind (pairs_same ha hb da db hlen hits ?_)))))
  exact wpAny_pure ⟨_, rfl, (fun x => by cases x), wpAny_truthy_bool h⟩
/-- two dicts that hold the same: != -/
theorem dicts_ne {a b : Nat} {ka kb : List (Str × Value)} {Q : Value → Shared → Prop} (ha : 218 ≤ a) (hb : 218 ≤ b) (da : s.heap.DictOf (SK w) a ka) (db : s.heap.DictOf (SK w) b kb) (hu : A.units < cLine) (hlen : ka.length = kb.length)
    (hits : ∀ k v, (k, v) ∈ ka → ∃ y, PySem.valueAt kb k = some y ∧ EqW w A.in1 s v y) (h : Q (.bool false) s) : wpAny (model PR w) A (compareOp .NotEq (.ref a) (.ref b)) Q E s := by
  refine wpAny_richCompare_same_room (op := .NotEq) da.typeIs db.typeIs PySem.F.slot_dict_ne (wpAny_call_entry PySem.F.slot_dict_ne da.typeIs PySem.F.entry_dict_ne ?_ (PySem.F.args_dict_ne_2 _ _)) hu
  show wpAny _ _ (Builtin.Dict.dictSlotArgs "__ne__" ⟨[.ref a, .ref b], []⟩ >>= _) _ _ s
  refine wpAny_bind ?_
  unfold Builtin.Dict.dictSlotArgs
  refine wpAny_bind (wpAny_notOrdered_dict da.typeIs ?_)
  show wpAny _ _ (pure (Value.ref a, Value.ref b)) _ _ s
  refine wpAny_pure (wpAny_bind (wpAny_isInstance (T := "dict") db.typeIs PySem.F.sub_dict_dict ?_))
  simp only [Bool.not_true, Bool.false_eq_true, if_false]
  refine wpAny_bind (wpAny_pure (wpAny_bind (wpAny_pure (wpAny_bind (pairs_same ha hb da db hlen hits ?_)))))
  exact wpAny_pure ⟨_, rfl, (fun x => by cases x), h⟩
theorem eqW_of {v y : Value} (e : SeqAt.EqAt A s v y true) : EqW w A s v y := fun E Q h => e PR w E Q h
theorem eqW_str (x : Str) (t u : Tok) : EqW w A s (.str x t) (.str x u) := eqW_of (by
  have q := SeqAt.EqAt.str_str (A := A) (s := s) x t x u
  rwa [beq_self_eq_true] at q)
theorem eqW_int (i : Int) (t u : Tok) : EqW w A s (.int i t) (.int i u) := eqW_of (by
  have q := SeqAt.EqAt.int_int (A := A) (s := s) i t i u
  rwa [beq_self_eq_true] at q)
/-- the values of a row are told the same -/
theorem vals_eqW {v y : Value} {x : Val} (h1 : ValIn w s.heap v x) (h2 : ValIn w s.heap y x) (hu : A.units < cLine) : EqW w A s v y := by
  cases h1 with
  | non => cases h2; exact eqW_of (.same _)
  | boo c => cases h2; exact eqW_of (.same _)
  | num i t => cases h2; exact eqW_int _ _ _
  | txt z t => cases h2; exact eqW_str _ _ _
  | m0 ha da => cases h2 with | m0 hb db => exact dicts_eqW ha hb da db hu rfl fun k v h => by cases h
  | m2 ha da => cases h2 with
    | m2 hb db =>
      refine dicts_eqW ha hb da db hu rfl fun k v h => ?_
      simp only [List.mem_cons, Prod.mk.injEq, List.not_mem_nil, or_false] at h
      rcases h with ⟨rfl, rfl⟩ | ⟨rfl, rfl⟩
      · exact ⟨_, rfl, eqW_str _ _ _⟩
      · exact ⟨_, by rfl, eqW_int _ _ _⟩
theorem ents_hit {h : Heap} {ka kb : List (Str × Value)} {rows : List (Str × Val)} (ea : EntsIn w h ka rows) (eb : EntsIn w h kb rows) (nd : (rows.map (·.1)).Nodup) {k : Str} {v : Value} (hm : (k, v) ∈ ka) :
    ∃ y x, PySem.valueAt kb k = some y ∧ ValIn w h v x ∧ ValIn w h y x := by
  obtain ⟨i, hi⟩ := List.getElem?_of_mem hm
  obtain ⟨⟨r1, r2⟩, hr, e1, hv⟩ := ea.get hi
  simp only at e1 hv
  subst e1
  obtain ⟨⟨k2, y⟩, hk2, e2, hy⟩ := eb.get' hr
  simp only at e2 hy
  subst e2
  rw [← eb.names] at nd
  exact ⟨y, r2, valueAt_get nd hk2, hv, hy⟩
/-- two copies of the rows: != is False -/
theorem copies_ne {a b : Nat} {ka kb : List (Str × Value)} {rows : List (Str × Val)} {Q : Value → Shared → Prop} {k : Nat} (R : Rm A k) (ha : 218 ≤ a) (hb : 218 ≤ b) (da : s.heap.DictOf (SK w) a ka) (db : s.heap.DictOf (SK w) b kb)
    (ea : EntsIn w s.heap ka rows) (eb : EntsIn w s.heap kb rows) (nd : (rows.map (·.1)).Nodup) (hu : A.in1.units < cLine) (h : Q (.bool false) s) : wpAny (model PR w) A (compareOp .NotEq (.ref a) (.ref b)) Q E s :=
  dicts_ne ha hb da db R.cl (ea.length.trans eb.length.symm) (fun k v hm => let ⟨y, _, h1, h2, h3⟩ := ents_hit ea eb nd hm; ⟨y, h1, vals_eqW h2 h3 hu⟩) h
/-- two lists of the same texts: != is False -/
theorem strs_at {vs ws : List Value} {xs : List Str} (h1 : All2 StrV vs xs) (h2 : All2 StrV ws xs) {j : Nat} {v u : Value} (hv : vs[j]? = some v) (hu : ws[j]? = some u) : ∃ x t t', v = .str x t ∧ u = .str x t' := by
  obtain ⟨x, hx, t, rfl⟩ := h1.get hv
  obtain ⟨y, hy, t', rfl⟩ := h2.get hu
  rw [hx] at hy
  cases hy
  exact ⟨x, t, t', rfl, rfl⟩
theorem lists_ne {a b : Nat} {vs ws : List Value} {xs : List Str} {Q : Value → Shared → Prop} (ha : s.heap.IsList a vs.toArray) (hb : s.heap.IsList b ws.toArray) (h1 : All2 StrV vs xs) (h2 : All2 StrV ws xs) (hu : A.units < cLine)
    (h : Q (.bool false) s) : wpAny (model PR w) A (compareOp .NotEq (.ref a) (.ref b)) Q E s := by
  refine SeqAt.RcNeAt.lists (e := fun _ => true) ha hb ?_ hu ?_ PR w E Q ?_
  · simp only [List.size_toArray]; rw [h1.length, h2.length]
  · intro j j1 j2
    simp only [List.size_toArray] at j1 j2
    obtain ⟨x, t, t', e1, e2⟩ := strs_at h1 h2 (List.getElem?_eq_getElem j1) (List.getElem?_eq_getElem j2)
    simp only [List.getElem_toArray]
    rw [e1, e2]
    have q := SeqAt.EqAt.str_str (A := A.in1) (s := s) x t x t'
    rwa [beq_self_eq_true] at q
  · rw [List.all_eq_true.mpr fun _ _ => rfl]
    exact h
end
end Mine

namespace Mine
theorem kf_fill_W0 (w : World) : (hd.heap_39 w.params) = (hd.heap_39 w.params) ∧ PySem.Challenge.rw_bq5006_01 = PySem.Challenge.rw_bq5006_01 := by
  k_fill
  exact ⟨rfl, rfl⟩
local macro_rules | `(tactic| walk_at "kis") => `(tactic| (show nsIn (hd.heap_39 _) _ _ = _; k_is))
local macro_rules | `(tactic| walk_at "go1") => `(tactic| first
  | ((with_reducible show wpAny _ _ (eval _ _) _ _ _); first
    | ((with_reducible show wpAny _ _ (eval (Expr.Name _ _) _) _ _ _); rename St _ _ _ _ _ _ _ _ => S0; first | (refine S0.ld (by rfl) ?_) | (refine S0.ok.ldg (by walk_at "kis") ?_) | (refine S0.ok.ldb (by walk_at "kis") (by first | exact bb_len | exact bb_range | exact bb_isinstance | exact bb_dict | exact bb_str | exact bb_list | exact bb_sorted | exact bb_int | exact bb_float | exact bb_bool) ?_))
    | ((with_reducible show wpAny _ _ (eval (Expr.Constant (Const.int _) _ _) _) _ _ _); rename St _ _ _ _ _ _ _ _ => S0; refine S0.cint ?_; clear S0; unhygienic intros)
    | ((with_reducible show wpAny _ _ (eval (Expr.Constant (Const.str _) _ _) _) _ _ _); rename St _ _ _ _ _ _ _ _ => S0; refine S0.cstr ?_; clear S0; unhygienic intros)
    | ((with_reducible show wpAny _ _ (eval (Expr.Constant (Const.bool _) _ _) _) _ _ _); refine wpAny_Constant_bool ?_)
    | ((with_reducible show wpAny _ _ (eval (Expr.Constant (Const.none) _ _) _) _ _ _); refine wpAny_Constant_none ?_)
    | ((with_reducible show wpAny _ _ (eval (Expr.BinOp _ _ _ _) _) _ _ _); refine wpAny_BinOp ?_)
    | ((with_reducible show wpAny _ _ (eval (Expr.Subscript _ _ _) _) _ _ _); refine Subscript_ ?_)
    | ((with_reducible show wpAny _ _ (eval (Expr.Tuple _ _ _) _) _ _ _); refine Tuple_ ?_)
    | ((with_reducible show wpAny _ _ (eval (Expr.List _ _) _) _ _ _); refine List_ ?_)
    | ((with_reducible show wpAny _ _ (eval (Expr.Call (Expr.Attribute _ _ _) _ [] _) _) _ _ _); refine MethodCall_ ?_)
    | ((with_reducible show wpAny _ _ (eval (Expr.Call _ _ [] _) _) _ _ _); refine Call_ ?_)
    | ((with_reducible show wpAny _ _ (eval (Expr.IfExp _ _ _ _) _) _ _ _); refine wpAny_IfExp ?_)
    | ((with_reducible show wpAny _ _ (eval (Expr.Dict [] [] _) _) _ _ _); rename St _ _ _ _ _ _ _ _ => S0; refine S0.ndict ?_; clear S0; unhygienic intros)
    | ((with_reducible show wpAny _ _ (eval (Expr.Compare _ [_] [_] _) _) _ _ _); refine wpAny_Compare1 ?_)
    | ((with_reducible show wpAny _ _ (eval (Expr.Attribute _ _ _) _) _ _ _); refine Attribute_any_ ?_ (by rfl))
    | ((with_reducible show wpAny _ _ (eval (Expr.JoinedStr (_ :: _ :: _) _) _) _ _ _); refine x_js ?_))
  | ((with_reducible show wpAny _ _ (spliced _) _ _ _); first
    | ((with_reducible show wpAny _ _ (spliced (backTo _ (starEach [] _))) _ _ _); refine wpAny_items_nil ?_)
    | ((with_reducible show wpAny _ _ (spliced (backTo _ (starEach (_ :: _) _))) _ _ _); refine wpAny_items_cons ?_))
  | ((with_reducible show wpAny _ _ (newTuple _) _ _ _); rename St _ _ _ _ _ _ _ _ => S0; refine S0.ntup ?_; clear S0; unhygienic intros)
  | ((with_reducible show wpAny _ _ (newList _) _ _ _); rename St _ _ _ _ _ _ _ _ => S0; refine S0.nlist ?_; clear S0; unhygienic intros)
  | ((with_reducible show wpAny _ _ (storeName _ _ _) _ _ _); rename St _ _ _ _ _ _ _ _ => S0; refine S0.st ?_; clear S0; unhygienic intros)
  | ((with_reducible show wpAny _ _ (execs _ _) _ _ _); first
    | ((with_reducible show wpAny _ _ (execs (Stmt.Assign [Expr.Name _ _] _ _ :: _) _) _ _ _); refine x_assign ?_)
    | ((with_reducible show wpAny _ _ (execs (Stmt.Return (some _) _ :: _) _) _ _ _); refine x_return ?_)
    | ((with_reducible show wpAny _ _ (execs (Stmt.If _ _ _ _ :: _) _) _ _ _); refine x_if ?_)
    | ((with_reducible show wpAny _ _ (execs (Stmt.Expr _ _ :: _) _) _ _ _); refine x_expr ?_)
    | ((with_reducible show wpAny _ _ (execs (Stmt.AugAssign (Expr.Name _ _) _ _ _ :: _) _) _ _ _); refine x_aug ?_)
    | ((with_reducible show wpAny _ _ (execs [] _) _ _ _); refine x_nil ?_; try dsimp only)
    | ((with_reducible show wpAny _ _ (execs (Stmt.Assign [Expr.Subscript _ _ _] _ _ :: _) _) _ _ _); refine x_assign_sub ?_)
    | ((with_reducible show wpAny _ _ (execs (Stmt.For _ _ _ _ _ :: _) _) _ _ _); refine x_for ?_))
  | ((with_reducible show wpAny _ _ (isTrue _ _ _) _ _ _); first
    | ((with_reducible show wpAny _ _ (isTrue (Expr.Call _ _ _ _) _ _) _ _ _); refine wpAny_isTrue_value ?_)
    | ((with_reducible show wpAny _ _ (isTrue (Expr.Name _ _) _ _) _ _ _); refine wpAny_isTrue_value ?_)
    | ((with_reducible show wpAny _ _ (isTrue (Expr.Compare _ [_] [_] _) _ _) _ _ _); refine wpAny_isTrue_Compare1 ?_)
    | ((with_reducible show wpAny _ _ (isTrue (Expr.BoolOp _ _ _) _ _) _ _ _); refine wpAny_isTrue_BoolOp ?_))
  | ((with_reducible show wpAny _ _ (truthy (Value.bool _)) _ _ _); refine wpAny_truthy_bool ?_)
  | ((with_reducible show wpAny _ _ (callWith _ _ _ _ _) _ _ _); first
    | ((with_reducible show wpAny _ _ (callWith _ (Value.type _) _ (backTo _ (starEach (_ :: _) _)) []) _ _ _); refine PyProof.Rows.callWith_type1 ?_)
    | ((with_reducible show wpAny _ _ (callWith _ (Value.builtin _) [] (backTo _ (starEach (_ :: _) _)) []) _ _ _); refine PyProof.Rows.callWith_builtin1 ?_)
    | ((with_reducible show wpAny _ _ (callWith _ (Value.builtin _) (_ :: _) (backTo _ (starEach (_ :: _) _)) []) _ _ _); refine PyProof.Rows.callWith_method1 ?_)
    | ((with_reducible show wpAny _ _ (callWith _ (Value.builtin _) (_ :: _) (backTo _ (starEach [] _)) []) _ _ _); refine PyProof.Rows.callWith_method0 ?_))
  | ((with_reducible show wpAny _ _ (binaryOp _ _ _) _ _ _); first
    | ((with_reducible show wpAny _ _ (binaryOp Operator.Mod (Value.int _ _) (Value.int _ _)) _ _ _); rename St _ _ _ _ _ _ _ _ => S0; refine S0.i1 (fun h => mod_int (by decide) h) ?_; clear S0; unhygienic intros)
    | ((with_reducible show wpAny _ _ (binaryOp Operator.Add (Value.int _ _) (Value.int _ _)) _ _ _); rename St _ _ _ _ _ _ _ _ => S0; refine S0.i1 (fun h => add_int h) ?_; clear S0; unhygienic intros)
    | ((with_reducible show wpAny _ _ (binaryOp Operator.Sub (Value.int _ _) (Value.int _ _)) _ _ _); rename St _ _ _ _ _ _ _ _ => S0; refine S0.i1 (fun h => sub_int h) ?_; clear S0; unhygienic intros)
    | ((with_reducible show wpAny _ _ (binaryOp Operator.FloorDiv (Value.int _ _) (Value.int _ _)) _ _ _); rename St _ _ _ _ _ _ _ _ => S0; refine S0.i1 (fun h => floordiv_int (by decide) h) ?_; clear S0; unhygienic intros))
  | ((with_reducible show wpAny _ _ (allTrue _ _ _) _ _ _); first
    | ((with_reducible show wpAny _ _ (allTrue BoolOp.And (_ :: _) _) _ _ _); refine wpAny_allTrue_And_cons ?_)
    | ((with_reducible show wpAny _ _ (allTrue BoolOp.Or (_ :: _) _) _ _ _); refine wpAny_allTrue_Or_cons ?_)
    | ((with_reducible show wpAny _ _ (allTrue BoolOp.And [] _) _ _ _); refine wpAny_allTrue_And_nil ?_)
    | ((with_reducible show wpAny _ _ (allTrue BoolOp.Or [] _) _ _ _); refine wpAny_allTrue_Or_nil ?_))
  | (refine ite_t1 ?_)
  | (refine ite_f1 ?_))
local macro_rules | `(tactic| walk_at "go") => `(tactic| repeat walk_at "go1")

section
variable {w : World} {mg mb : Str → Option Value} {b b' s s' : Shared} {L : Nat} {m : List (Str × Value)} {N : List (Nat × Obj)} {A : Around} {E : Value → Shared → Prop} {env : Env}
noncomputable abbrev lenv (L : Nat) : Env := callEnvC f217.1 L 217
abbrev lcl : Nat → List (Str × Addr) := fun L => [("script", L + 1)]
noncomputable def lawA : {l : List Stmt // f217.1.body = .stmts l} := ⟨_, rfl⟩
noncomputable def lawB : {l : List Stmt // ∃ a, lawA.1 = a :: l} := ⟨_, _, rfl⟩
theorem hi_ne {a : Nat} (h : 218 ≤ a) : a ≠ 93 ∧ a ≠ 59 := ⟨by omega, by omega⟩
/-- an int at each place -/
def Int13 (nvs : List Value) : Prop := ∀ j, j < 13 → ∃ i t, nvs[j]? = some (.int i t)
theorem ints_get {vs : List Value} {ns : List Int} (h : IntsAre vs ns) {j : Nat} (hj : j < vs.length) : ∃ i t, vs[j]? = some (.int i t) := by
  induction h generalizing j with
  | nil => simp at hj
  | cons n t r ih =>
    cases j with
    | zero => exact ⟨n, t, rfl⟩
    | succ j => exact ih (by simpa using hj)
/-- numbers = [..] -/
theorem law0 {k : Nat} (R : Rm A k) {l : Nat} {vs : List Value} {ns : List Int} {o1 o2 : Obj} {T : List (Nat × Obj)} {Q : Flow → Shared → Prop} (S : St w mg mb b L [] ((L + 1, o1) :: (L + 2, o2) :: T) s) (h1 : o1.data = .cell (some (.ref l))) (h2 : o2.data = .cell none)
    (hl : b.heap.IsList l vs.toArray) (hne : l ≠ 93 ∧ l ≠ 59) (hI : IntsAre vs ns) (hz : vs.length ≤ 1000)
    (h : ∀ (nl kk : Nat) nvs o' s', Int13 nvs → o'.data = .cell (some (.ref nl)) → St w mg mb b L [] ((nl, lstObj nvs.toArray kk) :: (L + 1, o1) :: (L + 2, o') :: T) s' → wpAny (model PR w) A (execs lawB.1 (lenv L)) Q NoE s') :
    wpAny (model PR w) A (execs lawA.1 (lenv L)) Q NoE s := by
  refine x_assign ?_
  refine x_comp (cl := [("script", L + 1)]) (by rfl) ?_
  walk_at "go"
  rename St _ _ _ _ _ _ _ _ => S
  refine S.crange fun r t2 u2 v2 s2 S => ?_
  refine S.irange (n := 13) (S.get (.head _)) (by decide) fun I s3 S => ?_
  have S := S.drop (N' := (I, rangeIt 0 (13 : Nat)) :: (L + 1, o1) :: (L + 2, o2) :: T) (.cons_cons _ (.cons _ (.refl _)))
  have hc := S.get (p := (L + 1, o1)) (by simp)
  have nd := S.nd
  simp only [List.map_cons, List.nodup_cons, List.mem_cons, not_or] at nd
  have hL := S.hiL
  have hc1 := (S.nw (L + 1, o1) (by simp)).2.2.2
  obtain ⟨ol, hol, rl⟩ := hl
  have hlI : l ≠ I := fun e => by
    have q := (S.nw _ (.head _)).2.2.1
    rw [← e, hol] at q; cases q
  refine comp_block (F := fun i y _ => ∃ n t, y = Value.int n t) (walksRange R.h I 13) (by simp) (fun i h' ho => ⟨_, ho⟩) (by rfl) rfl (by decide) (fun i y s s' e _ => e) (by decide) S (S.get (.head _)) (fun x hx => .inl (by simpa using hx)) (fun i v b' C N' s' hi hP hup S' => ?_) (fun ys k2 acc C oC s' hys hF nC S' => ?_)
  · obtain ⟨ti, rfl⟩ := hP
    have hcb := hup (L + 1) o1 hc (fun e => nd.1.1 e.symm) (hi_ne hc1).1 (hi_ne hc1).2
    have hlb : ∀ {m N s9}, St w mg mb b' C m N s9 → s9.heap.IsList l vs.toArray := fun S9 => ⟨ol, S9.keep _ _ hne.1 hne.2 (hup l ol (S.keep _ _ hne.1 hne.2 hol) hlI hne.1 hne.2), rl⟩
    clear S
    walk_at "go"
    rename St _ _ _ _ _ _ _ _ => S
    refine S.ldcb hcb (by omega) h1 ?_
    walk_at "go"
    rename St _ _ _ _ _ _ _ _ => S
    refine S.llen (hlb S) hz fun tl s9 S => ?_
    walk_at "go"
    rename St _ _ _ _ _ _ _ _ => S
    refine P.lt_int ?_
    by_cases hlt : i < vs.length
    · rw [show decide ((i : Int) < (vs.length : Int)) = true from decide_eq_true (by omega)]
      obtain ⟨n, t, hn⟩ := ints_get hI hlt
      walk_at "go"
      rename St _ _ _ _ _ _ _ _ => S
      refine S.ldcb hcb (by omega) h1 ?_
      walk_at "go"
      rename St _ _ _ _ _ _ _ _ => S
      refine litem (hlb S) (by omega) (by omega) (by simpa using hn) ?_
      exact ⟨_, [], by rw [List.append_nil]; exact S, fun _ _ _ => ⟨_, _, rfl⟩⟩
    · rw [show decide ((i : Int) < (vs.length : Int)) = false from decide_eq_false (by omega)]
      walk_at "go"
      rename St _ _ _ _ _ _ _ _ => S
      refine S.i1 (fun h => P.mul_int h) fun t3 s9 S => ?_
      walk_at "go"
      rename St _ _ _ _ _ _ _ _ => S
      exact ⟨_, [], by rw [List.append_nil]; exact S, fun _ _ _ => ⟨_, _, rfl⟩⟩
  · refine post_none S' nC fun s7 S => ?_
    refine S.stc (pre := [(acc, lstObj ys.toArray k2), (L + 1, o1)]) rfl h2 fun o' s8 ho' S => ?_
    exact h acc k2 ys o' s8 (fun j hj => by
      obtain ⟨n, t, e⟩ := hF j (ys[j]'(by omega)) (List.getElem?_eq_getElem (by omega))
      exact ⟨n, t, by rw [List.getElem?_eq_getElem (by omega), e]⟩) ho' S
end
end Mine

namespace Mine
theorem kf_fill_C1 (w : World) : (hd.heap_39 w.params) = (hd.heap_39 w.params) ∧ PySem.Challenge.rw_bq5006_01 = PySem.Challenge.rw_bq5006_01 := by
  k_fill
  exact ⟨rfl, rfl⟩
local macro_rules | `(tactic| walk_at "kis") => `(tactic| (show nsIn (hd.heap_39 _) _ _ = _; k_is))
local macro_rules | `(tactic| walk_at "go1") => `(tactic| first
  | ((with_reducible show wpAny _ _ (eval _ _) _ _ _); first
    | ((with_reducible show wpAny _ _ (eval (Expr.Name _ _) _) _ _ _); rename St _ _ _ _ _ _ _ _ => S0; first | (refine S0.ld (by rfl) ?_) | (refine S0.ok.ldg (by walk_at "kis") ?_) | (refine S0.ok.ldb (by walk_at "kis") (by first | exact bb_len | exact bb_range | exact bb_isinstance | exact bb_dict | exact bb_str | exact bb_list | exact bb_sorted | exact bb_int | exact bb_float | exact bb_bool) ?_))
    | ((with_reducible show wpAny _ _ (eval (Expr.Constant (Const.int _) _ _) _) _ _ _); rename St _ _ _ _ _ _ _ _ => S0; refine S0.cint ?_; clear S0; unhygienic intros)
    | ((with_reducible show wpAny _ _ (eval (Expr.Constant (Const.str _) _ _) _) _ _ _); rename St _ _ _ _ _ _ _ _ => S0; refine S0.cstr ?_; clear S0; unhygienic intros)
    | ((with_reducible show wpAny _ _ (eval (Expr.Constant (Const.bool _) _ _) _) _ _ _); refine wpAny_Constant_bool ?_)
    | ((with_reducible show wpAny _ _ (eval (Expr.Constant (Const.none) _ _) _) _ _ _); refine wpAny_Constant_none ?_)
    | ((with_reducible show wpAny _ _ (eval (Expr.BinOp _ _ _ _) _) _ _ _); refine wpAny_BinOp ?_)
    | ((with_reducible show wpAny _ _ (eval (Expr.Subscript _ _ _) _) _ _ _); refine Subscript_ ?_)
    | ((with_reducible show wpAny _ _ (eval (Expr.Tuple _ _ _) _) _ _ _); refine Tuple_ ?_)
    | ((with_reducible show wpAny _ _ (eval (Expr.List _ _) _) _ _ _); refine List_ ?_)
    | ((with_reducible show wpAny _ _ (eval (Expr.Call (Expr.Attribute _ _ _) _ [] _) _) _ _ _); refine MethodCall_ ?_)
    | ((with_reducible show wpAny _ _ (eval (Expr.Call _ _ [] _) _) _ _ _); refine Call_ ?_)
    | ((with_reducible show wpAny _ _ (eval (Expr.IfExp _ _ _ _) _) _ _ _); refine wpAny_IfExp ?_)
    | ((with_reducible show wpAny _ _ (eval (Expr.Dict [] [] _) _) _ _ _); rename St _ _ _ _ _ _ _ _ => S0; refine S0.ndict ?_; clear S0; unhygienic intros)
    | ((with_reducible show wpAny _ _ (eval (Expr.Compare _ [_] [_] _) _) _ _ _); refine wpAny_Compare1 ?_)
    | ((with_reducible show wpAny _ _ (eval (Expr.Attribute _ _ _) _) _ _ _); refine Attribute_any_ ?_ (by rfl))
    | ((with_reducible show wpAny _ _ (eval (Expr.JoinedStr (_ :: _ :: _) _) _) _ _ _); refine x_js ?_))
  | ((with_reducible show wpAny _ _ (spliced _) _ _ _); first
    | ((with_reducible show wpAny _ _ (spliced (backTo _ (starEach [] _))) _ _ _); refine wpAny_items_nil ?_)
    | ((with_reducible show wpAny _ _ (spliced (backTo _ (starEach (_ :: _) _))) _ _ _); refine wpAny_items_cons ?_))
  | ((with_reducible show wpAny _ _ (newTuple _) _ _ _); rename St _ _ _ _ _ _ _ _ => S0; refine S0.ntup ?_; clear S0; unhygienic intros)
  | ((with_reducible show wpAny _ _ (newList _) _ _ _); rename St _ _ _ _ _ _ _ _ => S0; refine S0.nlist ?_; clear S0; unhygienic intros)
  | ((with_reducible show wpAny _ _ (storeName _ _ _) _ _ _); rename St _ _ _ _ _ _ _ _ => S0; refine S0.st ?_; clear S0; unhygienic intros)
  | ((with_reducible show wpAny _ _ (execs _ _) _ _ _); first
    | ((with_reducible show wpAny _ _ (execs (Stmt.Assign [Expr.Name _ _] _ _ :: _) _) _ _ _); refine x_assign ?_)
    | ((with_reducible show wpAny _ _ (execs (Stmt.Return (some _) _ :: _) _) _ _ _); refine x_return ?_)
    | ((with_reducible show wpAny _ _ (execs (Stmt.If _ _ _ _ :: _) _) _ _ _); refine x_if ?_)
    | ((with_reducible show wpAny _ _ (execs (Stmt.Expr _ _ :: _) _) _ _ _); refine x_expr ?_)
    | ((with_reducible show wpAny _ _ (execs (Stmt.AugAssign (Expr.Name _ _) _ _ _ :: _) _) _ _ _); refine x_aug ?_)
    | ((with_reducible show wpAny _ _ (execs [] _) _ _ _); refine x_nil ?_; try dsimp only)
    | ((with_reducible show wpAny _ _ (execs (Stmt.Assign [Expr.Subscript _ _ _] _ _ :: _) _) _ _ _); refine x_assign_sub ?_)
    | ((with_reducible show wpAny _ _ (execs (Stmt.For _ _ _ _ _ :: _) _) _ _ _); refine x_for ?_))
  | ((with_reducible show wpAny _ _ (isTrue _ _ _) _ _ _); first
    | ((with_reducible show wpAny _ _ (isTrue (Expr.Call _ _ _ _) _ _) _ _ _); refine wpAny_isTrue_value ?_)
    | ((with_reducible show wpAny _ _ (isTrue (Expr.Name _ _) _ _) _ _ _); refine wpAny_isTrue_value ?_)
    | ((with_reducible show wpAny _ _ (isTrue (Expr.Compare _ [_] [_] _) _ _) _ _ _); refine wpAny_isTrue_Compare1 ?_)
    | ((with_reducible show wpAny _ _ (isTrue (Expr.BoolOp _ _ _) _ _) _ _ _); refine wpAny_isTrue_BoolOp ?_))
  | ((with_reducible show wpAny _ _ (truthy (Value.bool _)) _ _ _); refine wpAny_truthy_bool ?_)
  | ((with_reducible show wpAny _ _ (callWith _ _ _ _ _) _ _ _); first
    | ((with_reducible show wpAny _ _ (callWith _ (Value.type _) _ (backTo _ (starEach (_ :: _) _)) []) _ _ _); refine PyProof.Rows.callWith_type1 ?_)
    | ((with_reducible show wpAny _ _ (callWith _ (Value.builtin _) [] (backTo _ (starEach (_ :: _) _)) []) _ _ _); refine PyProof.Rows.callWith_builtin1 ?_)
    | ((with_reducible show wpAny _ _ (callWith _ (Value.builtin _) (_ :: _) (backTo _ (starEach (_ :: _) _)) []) _ _ _); refine PyProof.Rows.callWith_method1 ?_)
    | ((with_reducible show wpAny _ _ (callWith _ (Value.builtin _) (_ :: _) (backTo _ (starEach [] _)) []) _ _ _); refine PyProof.Rows.callWith_method0 ?_))
  | ((with_reducible show wpAny _ _ (binaryOp _ _ _) _ _ _); first
    | ((with_reducible show wpAny _ _ (binaryOp Operator.Mod (Value.int _ _) (Value.int _ _)) _ _ _); rename St _ _ _ _ _ _ _ _ => S0; refine S0.i1 (fun h => mod_int (by decide) h) ?_; clear S0; unhygienic intros)
    | ((with_reducible show wpAny _ _ (binaryOp Operator.Add (Value.int _ _) (Value.int _ _)) _ _ _); rename St _ _ _ _ _ _ _ _ => S0; refine S0.i1 (fun h => add_int h) ?_; clear S0; unhygienic intros)
    | ((with_reducible show wpAny _ _ (binaryOp Operator.Sub (Value.int _ _) (Value.int _ _)) _ _ _); rename St _ _ _ _ _ _ _ _ => S0; refine S0.i1 (fun h => sub_int h) ?_; clear S0; unhygienic intros)
    | ((with_reducible show wpAny _ _ (binaryOp Operator.FloorDiv (Value.int _ _) (Value.int _ _)) _ _ _); rename St _ _ _ _ _ _ _ _ => S0; refine S0.i1 (fun h => floordiv_int (by decide) h) ?_; clear S0; unhygienic intros))
  | ((with_reducible show wpAny _ _ (allTrue _ _ _) _ _ _); first
    | ((with_reducible show wpAny _ _ (allTrue BoolOp.And (_ :: _) _) _ _ _); refine wpAny_allTrue_And_cons ?_)
    | ((with_reducible show wpAny _ _ (allTrue BoolOp.Or (_ :: _) _) _ _ _); refine wpAny_allTrue_Or_cons ?_)
    | ((with_reducible show wpAny _ _ (allTrue BoolOp.And [] _) _ _ _); refine wpAny_allTrue_And_nil ?_)
    | ((with_reducible show wpAny _ _ (allTrue BoolOp.Or [] _) _ _ _); refine wpAny_allTrue_Or_nil ?_))
  | (refine ite_t1 ?_)
  | (refine ite_f1 ?_))
local macro_rules | `(tactic| walk_at "go") => `(tactic| repeat walk_at "go1")

def texts : List Str := ["", "it's", "plain", "two '' quotes", "{x}", "é"]
def textOf (n : Int) : Str := (texts[(n.fmod 6).toNat]?).getD ""

section
variable {w : World} {mg mb : Str → Option Value} {s : Shared} {A : Around} {E : Value → Shared → Prop}
theorem text_pick {t0 t1 t2 t3 t4 t5 : Tok} {j : Nat} (h : j < 6) : ∃ t, ([.str "" t0, .str "it's" t1, .str "plain" t2, .str "two '' quotes" t3, .str "{x}" t4, .str "é" t5] : List Value)[j]? = some (.str ((texts[j]?).getD "") t) := by
  match j, h with
  | 0, _ => exact ⟨_, rfl⟩
  | 1, _ => exact ⟨_, rfl⟩
  | 2, _ => exact ⟨_, rfl⟩
  | 3, _ => exact ⟨_, rfl⟩
  | 4, _ => exact ⟨_, rfl⟩
  | 5, _ => exact ⟨_, rfl⟩
theorem fmod_range (n : Int) (k : Int) (hk : 0 < k) : 0 ≤ n.fmod k ∧ n.fmod k < k := ⟨Int.fmod_nonneg_of_pos n hk, Int.fmod_lt_of_pos n hk⟩
theorem spec_text (O : Ok w mg mb s) {k : Nat} (R : Rm A (k + 1)) {n : Int} {t : Tok} {Q : Value → Shared → Prop}
    (h : ∀ t' s', Aft s s' → Ok w mg mb s' → Q (.str (textOf n) t') s') : wpAny (model PR w) A (call (.ref 186) [.int n t]) Q E s := by
  refine O.enter R (o186.2 w) f186.2 (c186 O.kin) (by rfl) (binds := [("n", .int n t)]) (by rfl) (by decide) (by simp; rfl) fun L s₁ S R => ?_
  clear O
  walk_at "go"
  have hr := fmod_range n 6 (by decide)
  obtain ⟨j, hj⟩ := Int.eq_ofNat_of_zero_le hr.1
  obtain ⟨tt, ht⟩ := text_pick (t0 := t_1) (t1 := t_2) (t2 := t_3) (t3 := t_4) (t4 := t_5) (t5 := t_6) (j := j) (by omega)
  rename St _ _ _ _ _ _ _ _ => S
  refine item_tupleT ⟨_, S.get (.head _), rfl, ⟨_, rfl⟩⟩ (by omega) (by omega) (j := j) ?_ ht ?_
  · unfold seqIndex?
    rw [hj]
    simp
    omega
  · dsimp only
    have e : (texts[j]?).getD "" = textOf n := by unfold textOf; rw [hj]; rfl
    rw [e]
    exact h _ _ S.aft0 S.ok
end
end Mine

namespace Mine
theorem kf_fill_M3 (w : World) : (hd.heap_39 w.params) = (hd.heap_39 w.params) ∧ PySem.Challenge.rw_bq5006_01 = PySem.Challenge.rw_bq5006_01 := by
  k_fill
  exact ⟨rfl, rfl⟩
local macro_rules | `(tactic| walk_at "kis") => `(tactic| (show nsIn (hd.heap_39 _) _ _ = _; k_is))
local macro_rules | `(tactic| walk_at "go1") => `(tactic| first
  | ((with_reducible show wpAny _ _ (eval _ _) _ _ _); first
    | ((with_reducible show wpAny _ _ (eval (Expr.Name _ _) _) _ _ _); rename St _ _ _ _ _ _ _ _ => S0; first | (refine S0.ld (by rfl) ?_) | (refine S0.ok.ldg (by walk_at "kis") ?_) | (refine S0.ok.ldb (by walk_at "kis") (by first | exact bb_len | exact bb_range | exact bb_isinstance | exact bb_dict | exact bb_str | exact bb_list | exact bb_sorted | exact bb_int | exact bb_float | exact bb_bool) ?_))
    | ((with_reducible show wpAny _ _ (eval (Expr.Constant (Const.int _) _ _) _) _ _ _); rename St _ _ _ _ _ _ _ _ => S0; refine S0.cint ?_; clear S0; unhygienic intros)
    | ((with_reducible show wpAny _ _ (eval (Expr.Constant (Const.str _) _ _) _) _ _ _); rename St _ _ _ _ _ _ _ _ => S0; refine S0.cstr ?_; clear S0; unhygienic intros)
    | ((with_reducible show wpAny _ _ (eval (Expr.Constant (Const.bool _) _ _) _) _ _ _); refine wpAny_Constant_bool ?_)
    | ((with_reducible show wpAny _ _ (eval (Expr.Constant (Const.none) _ _) _) _ _ _); refine wpAny_Constant_none ?_)
    | ((with_reducible show wpAny _ _ (eval (Expr.BinOp _ _ _ _) _) _ _ _); refine wpAny_BinOp ?_)
    | ((with_reducible show wpAny _ _ (eval (Expr.Subscript _ _ _) _) _ _ _); refine Subscript_ ?_)
    | ((with_reducible show wpAny _ _ (eval (Expr.Tuple _ _ _) _) _ _ _); refine Tuple_ ?_)
    | ((with_reducible show wpAny _ _ (eval (Expr.List _ _) _) _ _ _); refine List_ ?_)
    | ((with_reducible show wpAny _ _ (eval (Expr.Call (Expr.Attribute _ _ _) _ [] _) _) _ _ _); refine MethodCall_ ?_)
    | ((with_reducible show wpAny _ _ (eval (Expr.Call _ _ [] _) _) _ _ _); refine Call_ ?_)
    | ((with_reducible show wpAny _ _ (eval (Expr.IfExp _ _ _ _) _) _ _ _); refine wpAny_IfExp ?_)
    | ((with_reducible show wpAny _ _ (eval (Expr.Dict [] [] _) _) _ _ _); rename St _ _ _ _ _ _ _ _ => S0; refine S0.ndict ?_; clear S0; unhygienic intros)
    | ((with_reducible show wpAny _ _ (eval (Expr.Compare _ [_] [_] _) _) _ _ _); refine wpAny_Compare1 ?_)
    | ((with_reducible show wpAny _ _ (eval (Expr.Attribute _ _ _) _) _ _ _); refine Attribute_any_ ?_ (by rfl))
    | ((with_reducible show wpAny _ _ (eval (Expr.JoinedStr (_ :: _ :: _) _) _) _ _ _); refine x_js ?_))
  | ((with_reducible show wpAny _ _ (spliced _) _ _ _); first
    | ((with_reducible show wpAny _ _ (spliced (backTo _ (starEach [] _))) _ _ _); refine wpAny_items_nil ?_)
    | ((with_reducible show wpAny _ _ (spliced (backTo _ (starEach (_ :: _) _))) _ _ _); refine wpAny_items_cons ?_))
  | ((with_reducible show wpAny _ _ (newTuple _) _ _ _); rename St _ _ _ _ _ _ _ _ => S0; refine S0.ntup ?_; clear S0; unhygienic intros)
  | ((with_reducible show wpAny _ _ (newList _) _ _ _); rename St _ _ _ _ _ _ _ _ => S0; refine S0.nlist ?_; clear S0; unhygienic intros)
  | ((with_reducible show wpAny _ _ (storeName _ _ _) _ _ _); rename St _ _ _ _ _ _ _ _ => S0; refine S0.st ?_; clear S0; unhygienic intros)
  | ((with_reducible show wpAny _ _ (execs _ _) _ _ _); first
    | ((with_reducible show wpAny _ _ (execs (Stmt.Assign [Expr.Name _ _] _ _ :: _) _) _ _ _); refine x_assign ?_)
    | ((with_reducible show wpAny _ _ (execs (Stmt.Return (some _) _ :: _) _) _ _ _); refine x_return ?_)
    | ((with_reducible show wpAny _ _ (execs (Stmt.If _ _ _ _ :: _) _) _ _ _); refine x_if ?_)
    | ((with_reducible show wpAny _ _ (execs (Stmt.Expr _ _ :: _) _) _ _ _); refine x_expr ?_)
    | ((with_reducible show wpAny _ _ (execs (Stmt.AugAssign (Expr.Name _ _) _ _ _ :: _) _) _ _ _); refine x_aug ?_)
    | ((with_reducible show wpAny _ _ (execs [] _) _ _ _); refine x_nil ?_; try dsimp only)
    | ((with_reducible show wpAny _ _ (execs (Stmt.Assign [Expr.Subscript _ _ _] _ _ :: _) _) _ _ _); refine x_assign_sub ?_)
    | ((with_reducible show wpAny _ _ (execs (Stmt.For _ _ _ _ _ :: _) _) _ _ _); refine x_for ?_))
  | ((with_reducible show wpAny _ _ (isTrue _ _ _) _ _ _); first
    | ((with_reducible show wpAny _ _ (isTrue (Expr.Call _ _ _ _) _ _) _ _ _); refine wpAny_isTrue_value ?_)
    | ((with_reducible show wpAny _ _ (isTrue (Expr.Name _ _) _ _) _ _ _); refine wpAny_isTrue_value ?_)
    | ((with_reducible show wpAny _ _ (isTrue (Expr.Compare _ [_] [_] _) _ _) _ _ _); refine wpAny_isTrue_Compare1 ?_)
    | ((with_reducible show wpAny _ _ (isTrue (Expr.BoolOp _ _ _) _ _) _ _ _); refine wpAny_isTrue_BoolOp ?_))
  | ((with_reducible show wpAny _ _ (truthy (Value.bool _)) _ _ _); refine wpAny_truthy_bool ?_)
  | ((with_reducible show wpAny _ _ (callWith _ _ _ _ _) _ _ _); first
    | ((with_reducible show wpAny _ _ (callWith _ (Value.type _) _ (backTo _ (starEach (_ :: _) _)) []) _ _ _); refine PyProof.Rows.callWith_type1 ?_)
    | ((with_reducible show wpAny _ _ (callWith _ (Value.builtin _) [] (backTo _ (starEach (_ :: _) _)) []) _ _ _); refine PyProof.Rows.callWith_builtin1 ?_)
    | ((with_reducible show wpAny _ _ (callWith _ (Value.builtin _) (_ :: _) (backTo _ (starEach (_ :: _) _)) []) _ _ _); refine PyProof.Rows.callWith_method1 ?_)
    | ((with_reducible show wpAny _ _ (callWith _ (Value.builtin _) (_ :: _) (backTo _ (starEach [] _)) []) _ _ _); refine PyProof.Rows.callWith_method0 ?_))
  | ((with_reducible show wpAny _ _ (binaryOp _ _ _) _ _ _); first
    | ((with_reducible show wpAny _ _ (binaryOp Operator.Mod (Value.int _ _) (Value.int _ _)) _ _ _); rename St _ _ _ _ _ _ _ _ => S0; refine S0.i1 (fun h => mod_int (by decide) h) ?_; clear S0; unhygienic intros)
    | ((with_reducible show wpAny _ _ (binaryOp Operator.Add (Value.int _ _) (Value.int _ _)) _ _ _); rename St _ _ _ _ _ _ _ _ => S0; refine S0.i1 (fun h => add_int h) ?_; clear S0; unhygienic intros)
    | ((with_reducible show wpAny _ _ (binaryOp Operator.Sub (Value.int _ _) (Value.int _ _)) _ _ _); rename St _ _ _ _ _ _ _ _ => S0; refine S0.i1 (fun h => sub_int h) ?_; clear S0; unhygienic intros)
    | ((with_reducible show wpAny _ _ (binaryOp Operator.FloorDiv (Value.int _ _) (Value.int _ _)) _ _ _); rename St _ _ _ _ _ _ _ _ => S0; refine S0.i1 (fun h => floordiv_int (by decide) h) ?_; clear S0; unhygienic intros))
  | ((with_reducible show wpAny _ _ (allTrue _ _ _) _ _ _); first
    | ((with_reducible show wpAny _ _ (allTrue BoolOp.And (_ :: _) _) _ _ _); refine wpAny_allTrue_And_cons ?_)
    | ((with_reducible show wpAny _ _ (allTrue BoolOp.Or (_ :: _) _) _ _ _); refine wpAny_allTrue_Or_cons ?_)
    | ((with_reducible show wpAny _ _ (allTrue BoolOp.And [] _) _ _ _); refine wpAny_allTrue_And_nil ?_)
    | ((with_reducible show wpAny _ _ (allTrue BoolOp.Or [] _) _ _ _); refine wpAny_allTrue_Or_nil ?_))
  | (refine ite_t1 ?_)
  | (refine ite_f1 ?_))
local macro_rules | `(tactic| walk_at "go") => `(tactic| repeat walk_at "go1")

def othNames : List Str := [Str.ofString "gc_grace_seconds", Str.ofString "a_first", Str.ofString "speculative_retry", Str.ofString "z_last", Str.ofString "read_repair"]
def allNames : List Str := optMaps ++ Str.ofString "comment" :: othNames
structure GoodR (r : Str × Val) : Prop where
  maps : r.2.isMap = true → r.1 ∈ optMaps
  txt : ∀ x, r.2 = .txt x → x.length ≤ 100
  num : ∀ i, r.2 = .num i → -10000 ≤ i ∧ i ≤ 10000
  m2 : ∀ x n, r.2 = .m2 x n → x.length ≤ 100 ∧ 0 ≤ n ∧ n ≤ 100
structure RowsP (w : World) (h : Heap) (vs : List Value) (rws : List (Str × Val)) (names : List Str) : Prop where
  inn : RowsIn w h vs rws
  sub : (rws.map (·.1)).Sublist names
  good : ∀ r ∈ rws, GoodR r
theorem RowsP.keep {w : World} {h h' : Heap} {vs rws names} (k : Keep h h') (p : RowsP w h vs rws names) : RowsP w h' vs rws names := ⟨p.inn.keep k, p.sub, p.good⟩
theorem all_ok {rws : List (Str × Val)} (hs : (rws.map (·.1)).Sublist allNames) (hg : ∀ r ∈ rws, GoodR r) : RowsOk rws where
  nd := (show allNames.Nodup by decide +kernel).sublist hs
  maps := fun r h => (hg r h).maps
  len := fun r h => by
    have q : ∀ x ∈ allNames, x.length ≤ 100 := by decide +kernel
    exact q _ (hs.subset (List.mem_map_of_mem (f := (·.1)) h))
  txt := fun r h => (hg r h).txt
  num := fun r h => (hg r h).num
  m2 := fun r h => (hg r h).m2
  size := by
    have h1 := hs.length_le
    rw [List.length_map] at h1
    have h2 : allNames.length = 10 := by rfl
    omega
theorem RowsOk.perm {rows rows' : List (Str × Val)} (h : RowsOk rows) (p : rows'.Perm rows) : RowsOk rows' :=
  ⟨(p.map _).nodup_iff.mpr h.nd, fun r m => h.maps r (p.mem_iff.mp m), fun r m => h.len r (p.mem_iff.mp m), fun r m => h.txt r (p.mem_iff.mp m), fun r m => h.num r (p.mem_iff.mp m), fun r m => h.m2 r (p.mem_iff.mp m), p.length_eq ▸ h.size⟩
theorem text_len (n : Int) : (textOf n).length ≤ 100 := by
  unfold textOf
  have q : ∀ j : Nat, ((texts[j]?).getD "").length ≤ 100 := by
    intro j
    by_cases h : j < texts.length
    · rw [List.getElem?_eq_getElem h]
      have : ∀ x ∈ texts, x.length ≤ 100 := by decide +kernel
      exact this _ (List.getElem_mem h)
    · rw [List.getElem?_eq_none (Nat.not_lt.mp h)]; decide
  exact q _
section
variable {w : World} {mg mb : Str → Option Value} {s : Shared} {A : Around} {E : Value → Shared → Prop}
abbrev RowJ (w : World) (h0 : Heap) (nl a : Nat) (names : List Str) (b : Shared) (m : List (Str × Value)) (N : List (Nat × Obj)) : Prop := ∃ vs k rws, m = [(Str.ofString "numbers", Value.ref nl), (Str.ofString "rows", Value.ref a)] ∧ N = [(a, lstObj vs.toArray k)] ∧ RowsP w (anew h0 b.heap) vs rws names
theorem rows_next {h0 : Heap} {b : Shared} (hk0 : Keep h0 b.heap) {L a nl k : Nat} {T : List (Nat × Obj)} {m : List (Str × Value)} {N₂ : List (Nat × Obj)} {vs : List Value} {v : Value} {rws : List (Str × Val)} {names names' : List Str} {x : Str} {val : Val} (S : St w mg mb b L m (N₂ ++ (T ++ [(a, lstObj (vs ++ [v]).toArray k)])) s)
    (h1 : m.lookup (Str.ofString "numbers") = some (.ref nl)) (h2 : m.lookup (Str.ofString "rows") = some (.ref a)) (hp : RowsP w (anew h0 b.heap) vs rws names) (hin : ∀ b', Aft b b' → (∀ p ∈ N₂, (anew h0 b'.heap).get? p.1 = some p.2) → RowIn w (anew h0 b'.heap) v (x, val)) (hg : GoodR (x, val)) (hn : names' = names ++ [x]) :
    ∃ b'' m'' N'', Aft b b'' ∧ RowJ w h0 nl a names' b'' m'' N'' ∧ St w mg mb b'' L m'' (T ++ N'') s := by
  obtain ⟨b2, ab, hN, S2, _⟩ := (S.perm (List.perm_append_comm (l₁ := T ++ [(a, lstObj (vs ++ [v]).toArray k)]) (l₂ := N₂))).rebase
  refine ⟨b2, _, _, ab, ⟨_, _, rws ++ [(x, val)], rfl, rfl, ⟨(hp.inn.keep (anew_keep ab.keep)).snoc (hin b2 ab fun p hp => anew_in (hN p hp) (keep_none hk0 (S.nw p (List.mem_append.mpr (.inl hp))).2.2.2 (S.nw p (List.mem_append.mpr (.inl hp))).2.2.1)), ?_, ?_⟩⟩, S2.locals (lkc h1 (lkc h2 lk0))⟩
  · rw [hn, List.map_append]; exact hp.sub.append (.refl _)
  · intro r hr
    rcases List.mem_append.mp hr with hr | hr
    · exact hp.good r hr
    · simp at hr; subst hr; exact hg
theorem spec_options (O : Ok w mg mb s) {k : Nat} (R : Rm A (k + 2)) {nl : Nat} {nvs : List Value} {Q : Value → Shared → Prop} (hl : s.heap.IsList nl nvs.toArray) (h1 : 218 ≤ nl) (hn : ∀ j, j < 13 → ∃ i t, nvs[j]? = some (.int i t))
    (h : ∀ (l : Nat) vs rows k s', Aft s s' → Ok w mg mb s' → s'.heap.get? l = some (lstObj vs.toArray k) → 218 ≤ l → RowsIn w (anew s.heap s'.heap) vs rows → RowsOk rows → s.heap.get? l = none → Q (.ref l) s') :
    wpAny (model PR w) A (call (.ref 193) [.ref nl]) Q E s := by
  refine O.enter R (o193.2 w) f193.2 (c193 O.kin) (by rfl) (binds := [("numbers", .ref nl)]) (by rfl) (by decide) (by simp; rfl) fun L s₁ S R => ?_
  clear O
  walk_at "go"
  rename St _ _ _ _ _ _ _ _ => S
  refine S.crange fun r t2 u2 v2 s2 S => ?_
  refine S.irange (n := 4) (S.get (.head _)) (by decide) fun I s3 S => ?_
  have S := S.drop (N' := [(I, rangeIt 0 (4 : Nat)), (a, lstObj #[] 0)]) (.cons_cons _ (.cons _ (.refl _)))
  refine for_walks (J := fun i b m N => RowJ w s.heap nl a (allNames.take i) b m N) (walksRange R.h I 4) (by simp) (fun i h' ho => ⟨_, ho⟩) (fun v => by rfl) (S.locals (m' := [(Str.ofString "numbers", Value.ref nl), (Str.ofString "rows", Value.ref a)]) (lkc (by rfl) (lkc (by rfl) lk0))) (S.get (.head _)) (fun x hx => .inl (by simpa using hx)) ?_ ?_ ?_
  · exact ⟨[], 0, [], rfl, rfl, ⟨.nil, List.nil_sublist _, fun r h => by cases h⟩⟩
  · rintro i v b' m' N' oi s4 hi ⟨ti, rfl⟩ ab ⟨vs, k2, rws, rfl, rfl, hp⟩ S
    have hvl := hp.inn.length
    have hsl := hp.sub.length_le
    rw [List.length_map, List.length_take] at hsl
    have hvz : vs.length ≤ sizeLine := Nat.le_trans (by omega : vs.length ≤ 20) (by decide)
    obtain ⟨n, tn, hnn⟩ := hn i (by omega)
    have hlk : ∀ {s9 : Shared} {m9 N9}, St w mg mb b' L m9 N9 s9 → s9.heap.IsList nl nvs.toArray := fun S9 => let ⟨o, ho, r⟩ := hl; ⟨o, S9.keep _ _ (by omega) (by omega) (ab.keep _ _ (by omega) (by omega) ho), r⟩
    have htk : allNames.take (i + 1) = allNames.take i ++ [optMaps.getD i Str.empty] := by
      match i, hi with
      | 0, _ => rfl
      | 1, _ => rfl
      | 2, _ => rfl
      | 3, _ => rfl
    have hmx : optMaps.getD i Str.empty ∈ optMaps := by
      match i, hi with
      | 0, _ => decide
      | 1, _ => decide
      | 2, _ => decide
      | 3, _ => decide
    obtain ⟨tm, htm⟩ : ∃ tm, ∃ l : List Value, o176.1.cls = .type "tuple" ∧ o176.1.data = .seq l.toArray 0 ∧ l.length = 4 ∧ l[i]? = some (.str (optMaps.getD i Str.empty) tm) := by
      match i, hi with
      | 0, _ => exact ⟨_, [_, _, _, _], rfl, rfl, rfl, rfl⟩
      | 1, _ => exact ⟨_, [_, _, _, _], rfl, rfl, rfl, rfl⟩
      | 2, _ => exact ⟨_, [_, _, _, _], rfl, rfl, rfl, rfl⟩
      | 3, _ => exact ⟨_, [_, _, _, _], rfl, rfl, rfl, rfl⟩
    obtain ⟨lm, hm1, hm2, hm3, hm4⟩ := htm
    have hmt : ∀ {s9 : Shared}, Ok w mg mb s9 → IsTup s9.heap 176 lm.toArray := fun O9 => ⟨_, O9.kin _ _ (o176.2 w), hm1, _, hm2⟩
    refine PyProof.Rows.assign_Name ?_
    walk_at "go"
    rename St _ _ _ _ _ _ _ _ => S
    refine litem (hlk S) (by omega) (by omega) (by simpa using hnn) ?_
    walk_at "go"
    rename St _ _ _ _ _ _ _ _ => S
    have hf := fmod_range n 5 (by decide)
    refine P.eq_int ?_
    have hcase : n.fmod 5 = 0 ∨ n.fmod 5 = 1 ∨ n.fmod 5 = 2 ∨ n.fmod 5 = 3 ∨ n.fmod 5 = 4 := by omega
    have skip : ∀ {s9 : Shared} {m2 : List (Str × Value)}, m2.lookup (Str.ofString "numbers") = some (.ref nl) → m2.lookup (Str.ofString "rows") = some (.ref a) → St w mg mb b' L m2 [(I, oi), (a, lstObj vs.toArray k2)] s9 →
        ∃ b'' m'' N'', Aft b' b'' ∧ RowJ w s.heap nl a (allNames.take (i + 1)) b'' m'' N'' ∧ St w mg mb b'' L m'' ((I, oi) :: N'') s9 := fun h1 h2 S9 =>
      ⟨b', _, _, .refl _, ⟨vs, k2, rws, rfl, rfl, ⟨hp.inn, hp.sub.trans (by rw [htk]; exact List.sublist_append_left _ _), hp.good⟩⟩, S9.locals (lkc h1 (lkc h2 lk0))⟩
    have dn : ∀ {s9 : Shared} {m2 : List (Str × Value)} {t k' : Nat} {N3 : List (Nat × Obj)} {u : Value} {val : Val}, m2.lookup (Str.ofString "numbers") = some (.ref nl) → m2.lookup (Str.ofString "rows") = some (.ref a) →
        St w mg mb b' L m2 (((t, tupObj #[.str (optMaps.getD i Str.empty) tm, u]) :: N3) ++ [(I, oi), (a, lstObj (vs ++ [Value.ref t]).toArray k')]) s9 → (∀ b'', Aft b' b'' → (∀ p ∈ N3, (anew s.heap b''.heap).get? p.1 = some p.2) → ValIn w (anew s.heap b''.heap) u val) → GoodR (optMaps.getD i Str.empty, val) →
        ∃ b'' m'' N'', Aft b' b'' ∧ RowJ w s.heap nl a (allNames.take (i + 1)) b'' m'' N'' ∧ St w mg mb b'' L m'' ((I, oi) :: N'') s9 := fun h1 h2 S9 hv hg =>
      rows_next ab.keep (T := [(I, oi)]) S9 h1 h2 hp (fun b'' ab2 hN => ⟨_, tm, _, rfl, (S9.nw _ (.head _)).2.2.2, hN _ (.head _), hv b'' ab2 fun p hp => hN p (.tail _ hp)⟩) hg htk
    rcases hcase with e | e | e | e | e
    all_goals rw [e] at S ⊢
    · rw [show ((0 : Int) == 1) = false by decide]
      walk_at "go"
      rename St _ _ _ _ _ _ _ _ => S
      refine P.eq_int ?_
      rw [show ((0 : Int) == 2) = false by decide]
      walk_at "go"
      rename St _ _ _ _ _ _ _ _ => S
      refine P.eq_int ?_
      rw [show ((0 : Int) == 3) = false by decide]
      walk_at "go"
      rename St _ _ _ _ _ _ _ _ => S
      refine P.eq_int ?_
      rw [show ((0 : Int) == 4) = false by decide]
      walk_at "go"
      rename St _ _ _ _ _ _ _ _ => S
      exact skip (by rfl) (by rfl) S
    · rw [show ((1 : Int) == 1) = true by decide]
      walk_at "go"
      rename St _ _ _ _ _ _ _ _ => S
      refine getMethod_list_append (S.get (p := (a, lstObj vs.toArray k2)) (by simp)) rfl rfl ?_
      walk_at "go"
      rename St _ _ _ _ _ _ _ _ => S
      refine item_tupleT (hmt S.ok) (by omega) (by omega) (j := i) (by unfold seqIndex?; simp; omega) hm4 ?_
      walk_at "go"
      rename St _ _ _ _ _ _ _ _ => S
      refine S.append (k := k2) (pre := [(a_1, _), (I, oi)]) rfl (fun k3 s12 S => ?_) hvz
      refine ⟨rfl, ?_⟩
      repeat refine x_nil ?_
      exact dn (N3 := []) (by rfl) (by rfl) S (fun _ _ _ => .non) ⟨fun h => (by cases h), fun x h => (by cases h), fun x h => (by cases h), fun x n h => (by cases h)⟩
    · rw [show ((2 : Int) == 1) = false by decide]
      walk_at "go"
      rename St _ _ _ _ _ _ _ _ => S
      refine P.eq_int ?_
      rw [show ((2 : Int) == 2) = true by decide]
      walk_at "go"
      rename St _ _ _ _ _ _ _ _ => S
      refine getMethod_list_append (S.get (p := (a, lstObj vs.toArray k2)) (by simp)) rfl rfl ?_
      walk_at "go"
      rename St _ _ _ _ _ _ _ _ => S
      refine item_tupleT (hmt S.ok) (by omega) (by omega) (j := i) (by unfold seqIndex?; simp; omega) hm4 ?_
      walk_at "go"
      rename St _ _ _ _ _ _ _ _ => S
      refine cw_fn f186.2 (o186.2 w) ?_
      walk_at "go"
      rename St _ _ _ _ _ _ _ _ => S
      refine ⟨S.ok.kin, ?_⟩
      refine spec_text S.ok R fun t8 s8 a8 O8 => ?_
      have S := S.aft a8 O8
      walk_at "go"
      rename St _ _ _ _ _ _ _ _ => S
      refine S.append (k := k2) (pre := [(_, _), (I, oi)]) rfl (fun k3 s12 S => ?_) hvz
      refine ⟨rfl, ?_⟩
      repeat refine x_nil ?_
      exact dn (N3 := []) (by rfl) (by rfl) S (fun _ _ _ => .txt _ _) ⟨fun h => (by cases h), fun x h => (by cases h; exact text_len _), fun x h => (by cases h), fun x n h => (by cases h)⟩
    · rw [show ((3 : Int) == 1) = false by decide]
      walk_at "go"
      rename St _ _ _ _ _ _ _ _ => S
      refine P.eq_int ?_
      rw [show ((3 : Int) == 2) = false by decide]
      walk_at "go"
      rename St _ _ _ _ _ _ _ _ => S
      refine P.eq_int ?_
      rw [show ((3 : Int) == 3) = true by decide]
      walk_at "go"
      rename St _ _ _ _ _ _ _ _ => S
      refine getMethod_list_append (S.get (p := (a, lstObj vs.toArray k2)) (by simp)) rfl rfl ?_
      walk_at "go"
      rename St _ _ _ _ _ _ _ _ => S
      refine item_tupleT (hmt S.ok) (by omega) (by omega) (j := i) (by unfold seqIndex?; simp; omega) hm4 ?_
      walk_at "go"
      rename St _ _ _ _ _ _ _ _ => S
      refine S.ddisp2 (by decide +kernel) fun d s8 S => ?_
      walk_at "go"
      rename St _ _ _ _ _ _ _ _ => S
      refine cw_fn f186.2 (o186.2 w) ?_
      walk_at "go"
      rename St _ _ _ _ _ _ _ _ => S
      refine ⟨S.ok.kin, ?_⟩
      refine spec_text S.ok R fun t8 s9 a8 O8 => ?_
      have S := S.aft a8 O8
      refine ⟨S, fun s10 S => ?_⟩
      walk_at "go"
      rename St _ _ _ _ _ _ _ _ => S
      refine ⟨S, fun o s11 ho S => ?_⟩
      walk_at "go"
      rename St _ _ _ _ _ _ _ _ => S
      have hdi := (S.nw _ (.tail _ (.head _))).2.2.2
      have hq := fmod_range (n.fdiv 30) 100 (by decide)
      refine S.append (k := k2) (pre := [(_, _), (_, _), (I, oi)]) rfl (fun k3 s12 S => ?_) hvz
      refine ⟨rfl, ?_⟩
      repeat refine x_nil ?_
      exact dn (N3 := [(_, _)]) (by rfl) (by rfl) S (fun b'' _ hN => .m2 hdi (Heap.dictOf_iff.mpr ⟨_, hN _ (.head _), ho⟩)) ⟨fun _ => hmx, fun x h => (by cases h), fun x h => (by cases h), fun x n h => (by cases h; exact ⟨text_len _, hq.1, by omega⟩)⟩
    · rw [show ((4 : Int) == 1) = false by decide]
      walk_at "go"
      rename St _ _ _ _ _ _ _ _ => S
      refine P.eq_int ?_
      rw [show ((4 : Int) == 2) = false by decide]
      walk_at "go"
      rename St _ _ _ _ _ _ _ _ => S
      refine P.eq_int ?_
      rw [show ((4 : Int) == 3) = false by decide]
      walk_at "go"
      rename St _ _ _ _ _ _ _ _ => S
      refine P.eq_int ?_
      rw [show ((4 : Int) == 4) = true by decide]
      walk_at "go"
      rename St _ _ _ _ _ _ _ _ => S
      refine getMethod_list_append (S.get (p := (a, lstObj vs.toArray k2)) (by simp)) rfl rfl ?_
      walk_at "go"
      rename St _ _ _ _ _ _ _ _ => S
      refine item_tupleT (hmt S.ok) (by omega) (by omega) (j := i) (by unfold seqIndex?; simp; omega) hm4 ?_
      walk_at "go"
      rename St _ _ _ _ _ _ _ _ => S
      have hdi := (S.nw _ (.tail _ (.head _))).2.2.2
      refine S.append (k := k2) (pre := [(_, _), (_, _), (I, oi)]) rfl (fun k3 s12 S => ?_) hvz
      refine ⟨rfl, ?_⟩
      repeat refine x_nil ?_
      exact dn (N3 := [(_, _)]) (by rfl) (by rfl) S (fun b'' _ hN => .m0 hdi (Heap.dictOf_iff.mpr ⟨_, hN _ (.head _), isDictOf_nil w⟩)) ⟨fun _ => hmx, fun x h => (by cases h), fun x h => (by cases h), fun x n h => (by cases h)⟩
  · rintro b' m' N' s4 ab ⟨vs, k2, rws, rfl, rfl, hp⟩ S
    have hlk : ∀ {b2 s9 : Shared} {m9 N9}, Aft b' b2 → St w mg mb b2 L m9 N9 s9 → s9.heap.IsList nl nvs.toArray := fun ab2 S9 => let ⟨o, ho, r⟩ := hl; ⟨o, S9.keep _ _ (by omega) (by omega) (ab2.keep _ _ (by omega) (by omega) (ab.keep _ _ (by omega) (by omega) ho)), r⟩
    have hvl := hp.inn.length
    have hsl := hp.sub.length_le
    rw [List.length_map, List.length_take] at hsl
    have hvz : vs.length ≤ sizeLine := Nat.le_trans (by omega : vs.length ≤ 20) (by decide)
    obtain ⟨n4, t4, hn4⟩ := hn 4 (by omega)
    walk_at "go"
    rename St _ _ _ _ _ _ _ _ => S
    refine litem (hlk (.refl _) S) (by omega) (by omega) (by simpa using hn4) ?_
    iterate 3 walk_at "go1"
    rename St _ _ _ _ _ _ _ _ => S
    refine wpAny_execs_cons (wpAny_mono (E := NoE) (Q := fun f s' => f = .next ∧ ∃ b'' m'' N'', Aft b' b'' ∧ RowJ w s.heap nl a (allNames.take 5) b'' m'' N'' ∧ St w mg mb b'' L m'' N'' s') (wpAny_If ?_) (fun f s5 ⟨e, b2, m2, N2, ab2, hJ, S⟩ => ?_) fun _ _ x => x.elim)
    · walk_at "go"
      rename St _ _ _ _ _ _ _ _ => S
      refine P.gt_int ?_
      have hf := fmod_range n4 6 (by decide)
      have htk : allNames.take 5 = allNames.take 4 ++ [Str.ofString "comment"] := by rfl
      by_cases h0 : n4.fmod 6 = 0
      · rw [h0] at S ⊢
        rw [show decide ((0 : Int) > 0) = false by decide]
        iterate 2 walk_at "go1"
        rename St _ _ _ _ _ _ _ _ => S
        refine wpAny_execs_nil ⟨rfl, b', _, _, .refl _, ⟨vs, k2, rws, rfl, rfl, ⟨hp.inn, hp.sub.trans (by rw [htk]; exact List.sublist_append_left _ _), hp.good⟩⟩, S.locals (lkc (by rfl) (lkc (by rfl) lk0))⟩
      · rw [show decide (n4.fmod 6 > 0) = true by exact decide_eq_true (by omega)]
        walk_at "go"
        rename St _ _ _ _ _ _ _ _ => S
        refine getMethod_list_append (S.get (p := (a, lstObj vs.toArray k2)) (by simp)) rfl rfl ?_
        walk_at "go"
        rename St _ _ _ _ _ _ _ _ => S
        have key : ∀ (tA tB tC : Tok), ∃ v val, ([Value.none, .none, .str (Str.ofString "") tA, .str (Str.ofString "it's") tB, .int 0 tC, .bool false] : List Value)[(n4.fmod 6).toNat]? = some v ∧ (∀ h : Heap, ValIn w h v val) ∧ GoodR (Str.ofString "comment", val) := by
          intro tA tB tC
          have hc : n4.fmod 6 = 1 ∨ n4.fmod 6 = 2 ∨ n4.fmod 6 = 3 ∨ n4.fmod 6 = 4 ∨ n4.fmod 6 = 5 := by omega
          rcases hc with e | e | e | e | e <;> rw [e]
          · exact ⟨_, _, rfl, fun _ => .non, ⟨fun h => (by cases h), fun x h => (by cases h), fun x h => (by cases h), fun x n h => (by cases h)⟩⟩
          · exact ⟨_, _, rfl, fun _ => .txt _ _, ⟨fun h => (by cases h), fun x h => (by cases h; decide +kernel), fun x h => (by cases h), fun x n h => (by cases h)⟩⟩
          · exact ⟨_, _, rfl, fun _ => .txt _ _, ⟨fun h => (by cases h), fun x h => (by cases h; decide +kernel), fun x h => (by cases h), fun x n h => (by cases h)⟩⟩
          · exact ⟨_, _, rfl, fun _ => .num _ _, ⟨fun h => (by cases h), fun x h => (by cases h), fun x h => (by cases h; decide), fun x n h => (by cases h)⟩⟩
          · exact ⟨_, _, rfl, fun _ => .boo _, ⟨fun h => (by cases h), fun x h => (by cases h), fun x h => (by cases h), fun x n h => (by cases h)⟩⟩
        obtain ⟨v, val, hpick, hvin, hg⟩ := key t_6 t_7 t_8
        refine tail_any (T := "list") ⟨_, S.get (.head _), rfl⟩ list_getitem_lookup (wpAny_getItem_list ⟨_, S.get (.head _), rfl, _, rfl⟩ hf.1 (by omega) (by simpa using hpick) ?_) rfl
        walk_at "go"
        rename St _ _ _ _ _ _ _ _ => S
        refine S.append (k := k2) (pre := [(_, _), (_, _)]) rfl (fun k3 s12 S => ?_) hvz
        refine ⟨rfl, x_nil ⟨rfl, ?_⟩⟩
        have ht := (S.nw _ (.head _)).2.2.2
        have S := S.drop (N' := [(_, _), (a, _)]) (.cons_cons _ (.cons _ (.refl _)))
        exact rows_next ab.keep (T := []) (N₂ := [(_, _)]) S (by rfl) (by rfl) hp (fun b'' ab2 hN => ⟨_, t_5, _, rfl, ht, hN _ (.head _), hvin _⟩) hg htk
    · subst e
      obtain ⟨vs, k2, rws, rfl, rfl, hp⟩ := hJ
      have ab1 := ab.trans ab2
      have hlk : ∀ {b3 s9 : Shared} {m9 N9}, Aft b2 b3 → St w mg mb b3 L m9 N9 s9 → s9.heap.IsList nl nvs.toArray := fun ab3 S9 => hlk (ab2.trans ab3) S9
      show wpAny _ _ (execs _ _) _ _ _
      walk_at "go"
      rename St _ _ _ _ _ _ _ _ => S
      refine S.crange fun r t2 u2 v2 s6 S => ?_
      refine S.irange (n := 5) (S.get (.head _)) (by decide) fun I s7 S => ?_
      have S := S.drop (N' := [(I, rangeIt 0 (5 : Nat)), (a, lstObj vs.toArray k2)]) (.cons_cons _ (.cons _ (.refl _)))
      refine for_walks (J := fun i b m N => RowJ w s.heap nl a (allNames.take (5 + i)) b m N) (walksRange R.h I 5) (by simp) (fun i h' ho => ⟨_, ho⟩) (fun v => by rfl) S (S.get (.head _)) (fun x hx => .inl (by simpa using hx)) ?_ ?_ ?_
      · exact ⟨vs, k2, rws, rfl, rfl, hp⟩
      · clear S hp
        rintro i v b' m' N' oi s4 hi ⟨ti, rfl⟩ ab ⟨vs, k2, rws, rfl, rfl, hp⟩ S
        have hvl := hp.inn.length
        have hsl := hp.sub.length_le
        rw [List.length_map, List.length_take] at hsl
        have hvz : vs.length ≤ sizeLine := Nat.le_trans (by omega : vs.length ≤ 20) (by decide)
        obtain ⟨n, tn, hnn⟩ := hn (5 + i) (by omega)
        have htk : allNames.take (5 + (i + 1)) = allNames.take (5 + i) ++ [othNames.getD i Str.empty] := by
          match i, hi with
          | 0, _ => rfl
          | 1, _ => rfl
          | 2, _ => rfl
          | 3, _ => rfl
          | 4, _ => rfl
        obtain ⟨tm, htm⟩ : ∃ tm, ∃ l : List Value, o177.1.cls = .type "tuple" ∧ o177.1.data = .seq l.toArray 0 ∧ l.length = 5 ∧ l[i]? = some (.str (othNames.getD i Str.empty) tm) := by
          match i, hi with
          | 0, _ => exact ⟨_, [_, _, _, _, _], rfl, rfl, rfl, rfl⟩
          | 1, _ => exact ⟨_, [_, _, _, _, _], rfl, rfl, rfl, rfl⟩
          | 2, _ => exact ⟨_, [_, _, _, _, _], rfl, rfl, rfl, rfl⟩
          | 3, _ => exact ⟨_, [_, _, _, _, _], rfl, rfl, rfl, rfl⟩
          | 4, _ => exact ⟨_, [_, _, _, _, _], rfl, rfl, rfl, rfl⟩
        obtain ⟨lm, hm1, hm2, hm3, hm4⟩ := htm
        have hmt : ∀ {s9 : Shared}, Ok w mg mb s9 → IsTup s9.heap 177 lm.toArray := fun O9 => ⟨_, O9.kin _ _ (o177.2 w), hm1, _, hm2⟩
        refine PyProof.Rows.assign_Name ?_
        walk_at "go"
        rename St _ _ _ _ _ _ _ _ => S
        refine litem (hlk ab S) (by omega) (by omega) (v := .int n tn) (by rw [show ((5 : Int) + (i : Int)).toNat = 5 + i by omega]; exact hnn) ?_
        walk_at "go"
        rename St _ _ _ _ _ _ _ _ => S
        have hf := fmod_range n 5 (by decide)
        refine P.gt_int ?_
        by_cases h0 : n.fmod 5 = 0
        · rw [h0]
          rw [show decide ((0 : Int) > 0) = false by decide]
          walk_at "go"
          rename St _ _ _ _ _ _ _ _ => S
          exact ⟨b', _, _, .refl _, ⟨vs, k2, rws, rfl, rfl, ⟨hp.inn, hp.sub.trans (by rw [htk]; exact List.sublist_append_left _ _), hp.good⟩⟩, S.locals (lkc (by rfl) (lkc (by rfl) lk0))⟩
        · rw [show decide (n.fmod 5 > 0) = true by exact decide_eq_true (by omega)]
          walk_at "go"
          rename St _ _ _ _ _ _ _ _ => S
          refine getMethod_list_append (S.get (p := (a, lstObj vs.toArray k2)) (by simp)) rfl rfl ?_
          walk_at "go"
          rename St _ _ _ _ _ _ _ _ => S
          refine item_tupleT (hmt S.ok) (by omega) (by omega) (j := i) (by unfold seqIndex?; simp; omega) hm4 ?_
          walk_at "go"
          rename St _ _ _ _ _ _ _ _ => S
          refine P.eq_int ?_
          walk_at "go"
          rename St _ _ _ _ _ _ _ _ => S
          refine cw_fn f186.2 (o186.2 w) ?_
          walk_at "go"
          rename St _ _ _ _ _ _ _ _ => S
          refine ⟨S.ok.kin, ?_⟩
          refine spec_text S.ok R fun t8 s8 a8 O8 => ?_
          have S := S.aft a8 O8
          walk_at "go"
          rename St _ _ _ _ _ _ _ _ => S
          have key : ∀ (tA : Tok), ∃ v val, ([Value.none, .none, .int ((n.fdiv 5).fmod 2000 - 1000) tA, .bool ((n.fdiv 5).fmod 2 == 0), .str (textOf (n.fdiv 5)) t8] : List Value)[(n.fmod 5).toNat]? = some v ∧ (∀ h : Heap, ValIn w h v val) ∧ GoodR (othNames.getD i Str.empty, val) := by
            intro tA
            have hc : n.fmod 5 = 1 ∨ n.fmod 5 = 2 ∨ n.fmod 5 = 3 ∨ n.fmod 5 = 4 := by omega
            have hq := fmod_range (n.fdiv 5) 2000 (by decide)
            rcases hc with e | e | e | e <;> rw [e]
            · exact ⟨_, _, rfl, fun _ => .non, ⟨fun h => (by cases h), fun x h => (by cases h), fun x h => (by cases h), fun x n h => (by cases h)⟩⟩
            · exact ⟨_, _, rfl, fun _ => .num _ _, ⟨fun h => (by cases h), fun x h => (by cases h), fun x h => (by cases h; omega), fun x n h => (by cases h)⟩⟩
            · exact ⟨_, _, rfl, fun _ => .boo _, ⟨fun h => (by cases h), fun x h => (by cases h), fun x h => (by cases h), fun x n h => (by cases h)⟩⟩
            · exact ⟨_, _, rfl, fun _ => .txt _ _, ⟨fun h => (by cases h), fun x h => (by cases h; exact text_len _), fun x h => (by cases h), fun x n h => (by cases h)⟩⟩
          obtain ⟨v, val, hpick, hvin, hg⟩ := key t_15
          refine tail_any (T := "list") ⟨_, S.get (.head _), rfl⟩ list_getitem_lookup (wpAny_getItem_list ⟨_, S.get (.head _), rfl, _, rfl⟩ hf.1 (by omega) (by simpa using hpick) ?_) rfl
          walk_at "go"
          rename St _ _ _ _ _ _ _ _ => S
          refine S.append (k := k2) (pre := [(_, _), (_, _), (I, oi)]) rfl (fun k3 s12 S => ?_) hvz
          refine ⟨rfl, ?_⟩
          repeat refine x_nil ?_
          have ht := (S.nw _ (.head _)).2.2.2
          have S := S.drop (N' := [(_, _), (I, oi), (a, _)]) (.cons_cons _ (.cons _ (.refl _)))
          exact rows_next (ab1.trans ab).keep (T := [(I, oi)]) (N₂ := [(_, _)]) S (by rfl) (by rfl) hp (fun b'' ab2 hN => ⟨_, tm, _, rfl, ht, hN _ (.head _), hvin _⟩) hg htk
      · rintro b' m' N' s4 ab' ⟨vs, k2, rws, rfl, rfl, hp⟩ S
        have hvl := hp.inn.length
        have hok := all_ok (hp.sub.trans (List.take_sublist _ _)) hp.good
        have hsz := hok.size
        obtain ⟨n, tn, hnn⟩ := hn 10 (by omega)
        show wpAny _ _ (execs _ _) _ _ _
        walk_at "go"
        rename St _ _ _ _ _ _ _ _ => S
        refine litem (hlk ab' S) (by omega) (by omega) (by simpa using hnn) ?_
        walk_at "go"
        rename St _ _ _ _ _ _ _ _ => S
        refine S.llen ⟨_, S.get (.head _), rfl, _, rfl⟩ (by omega) fun t9 s9 S => ?_
        walk_at "go"
        rename St _ _ _ _ _ _ _ _ => S
        refine S.i1 (fun h => mod_int (by omega) h) fun t10 s10 S => ?_
        have hf := fmod_range n ((vs.length : Int) + 1) (by omega)
        obtain ⟨p, hpp⟩ := Int.eq_ofNat_of_zero_le hf.1
        rw [hpp]
        walk_at "go"
        rename St _ _ _ _ _ _ _ _ => S
        refine x_slfrom ?_
        walk_at "go"
        rename St _ _ _ _ _ _ _ _ => S
        refine S.nslice fun sl s11 S => ?_
        refine S.lslice (vs := vs) ⟨_, S.get (p := (a, lstObj vs.toArray k2)) (by simp), rfl, _, rfl⟩ ⟨_, S.get (.head _), rfl, rfl⟩ (.int _ _) .none (by omega) fun l1 s12 S => ?_
        rw [slicePick_from' vs.toArray p] at S
        walk_at "go"
        rename St _ _ _ _ _ _ _ _ => S
        refine x_slto ?_
        walk_at "go"
        rename St _ _ _ _ _ _ _ _ => S
        refine S.nslice fun sl2 s13 S => ?_
        refine S.lslice (vs := vs) ⟨_, S.get (p := (a, lstObj vs.toArray k2)) (by simp), rfl, _, rfl⟩ ⟨_, S.get (.head _), rfl, rfl⟩ .none (.int _ _) (by omega) fun l2 s14 S => ?_
        rw [slicePick_upto' vs.toArray p] at S
        refine S.ladd (vs := vs.drop p) (ws := vs.take p) (S.get (p := (l1, lstObj (vs.drop p).toArray 0)) (by simp)) (S.get (p := (l2, lstObj (vs.take p).toArray 0)) (by simp)) (by simp; omega) fun l s15 S => ?_
        have hin := hp.inn.keep (anew_keep S.keep)
        have S := S.weaken ((ab.trans ab2).trans ab')
        have q := S.nw _ (.head _)
        have hpm : (rws.drop p ++ rws.take p).Perm rws := by
          refine List.perm_append_comm.trans ?_
          rw [List.take_append_drop]
        exact h l _ _ 0 s15 S.aft0 S.ok q.1 q.2.2.2 ((hin.drop p).append (hin.take p)) (hok.perm hpm) q.2.2.1
end
end Mine

namespace Mine
theorem kf_fill_C4 (w : World) : (hd.heap_39 w.params) = (hd.heap_39 w.params) ∧ PySem.Challenge.rw_bq5006_01 = PySem.Challenge.rw_bq5006_01 := by
  k_fill
  exact ⟨rfl, rfl⟩
local macro_rules | `(tactic| walk_at "kis") => `(tactic| (show nsIn (hd.heap_39 _) _ _ = _; k_is))
local macro_rules | `(tactic| walk_at "go1") => `(tactic| first
  | ((with_reducible show wpAny _ _ (eval _ _) _ _ _); first
    | ((with_reducible show wpAny _ _ (eval (Expr.Name _ _) _) _ _ _); rename St _ _ _ _ _ _ _ _ => S0; first | (refine S0.ld (by rfl) ?_) | (refine S0.ok.ldg (by walk_at "kis") ?_) | (refine S0.ok.ldb (by walk_at "kis") (by first | exact bb_len | exact bb_range | exact bb_isinstance | exact bb_dict | exact bb_str | exact bb_list | exact bb_sorted | exact bb_int | exact bb_float | exact bb_bool) ?_))
    | ((with_reducible show wpAny _ _ (eval (Expr.Constant (Const.int _) _ _) _) _ _ _); rename St _ _ _ _ _ _ _ _ => S0; refine S0.cint ?_; clear S0; unhygienic intros)
    | ((with_reducible show wpAny _ _ (eval (Expr.Constant (Const.str _) _ _) _) _ _ _); rename St _ _ _ _ _ _ _ _ => S0; refine S0.cstr ?_; clear S0; unhygienic intros)
    | ((with_reducible show wpAny _ _ (eval (Expr.Constant (Const.bool _) _ _) _) _ _ _); refine wpAny_Constant_bool ?_)
    | ((with_reducible show wpAny _ _ (eval (Expr.Constant (Const.none) _ _) _) _ _ _); refine wpAny_Constant_none ?_)
    | ((with_reducible show wpAny _ _ (eval (Expr.BinOp _ _ _ _) _) _ _ _); refine wpAny_BinOp ?_)
    | ((with_reducible show wpAny _ _ (eval (Expr.Subscript _ _ _) _) _ _ _); refine Subscript_ ?_)
    | ((with_reducible show wpAny _ _ (eval (Expr.Tuple _ _ _) _) _ _ _); refine Tuple_ ?_)
    | ((with_reducible show wpAny _ _ (eval (Expr.List _ _) _) _ _ _); refine List_ ?_)
    | ((with_reducible show wpAny _ _ (eval (Expr.Call (Expr.Attribute _ _ _) _ [] _) _) _ _ _); refine MethodCall_ ?_)
    | ((with_reducible show wpAny _ _ (eval (Expr.Call _ _ [] _) _) _ _ _); refine Call_ ?_)
    | ((with_reducible show wpAny _ _ (eval (Expr.IfExp _ _ _ _) _) _ _ _); refine wpAny_IfExp ?_)
    | ((with_reducible show wpAny _ _ (eval (Expr.Dict [] [] _) _) _ _ _); rename St _ _ _ _ _ _ _ _ => S0; refine S0.ndict ?_; clear S0; unhygienic intros)
    | ((with_reducible show wpAny _ _ (eval (Expr.Compare _ [_] [_] _) _) _ _ _); refine wpAny_Compare1 ?_)
    | ((with_reducible show wpAny _ _ (eval (Expr.Attribute _ _ _) _) _ _ _); refine Attribute_any_ ?_ (by rfl))
    | ((with_reducible show wpAny _ _ (eval (Expr.JoinedStr (_ :: _ :: _) _) _) _ _ _); refine x_js ?_))
  | ((with_reducible show wpAny _ _ (spliced _) _ _ _); first
    | ((with_reducible show wpAny _ _ (spliced (backTo _ (starEach [] _))) _ _ _); refine wpAny_items_nil ?_)
    | ((with_reducible show wpAny _ _ (spliced (backTo _ (starEach (_ :: _) _))) _ _ _); refine wpAny_items_cons ?_))
  | ((with_reducible show wpAny _ _ (newTuple _) _ _ _); rename St _ _ _ _ _ _ _ _ => S0; refine S0.ntup ?_; clear S0; unhygienic intros)
  | ((with_reducible show wpAny _ _ (newList _) _ _ _); rename St _ _ _ _ _ _ _ _ => S0; refine S0.nlist ?_; clear S0; unhygienic intros)
  | ((with_reducible show wpAny _ _ (storeName _ _ _) _ _ _); rename St _ _ _ _ _ _ _ _ => S0; refine S0.st ?_; clear S0; unhygienic intros)
  | ((with_reducible show wpAny _ _ (execs _ _) _ _ _); first
    | ((with_reducible show wpAny _ _ (execs (Stmt.Assign [Expr.Name _ _] _ _ :: _) _) _ _ _); refine x_assign ?_)
    | ((with_reducible show wpAny _ _ (execs (Stmt.Return (some _) _ :: _) _) _ _ _); refine x_return ?_)
    | ((with_reducible show wpAny _ _ (execs (Stmt.If _ _ _ _ :: _) _) _ _ _); refine x_if ?_)
    | ((with_reducible show wpAny _ _ (execs (Stmt.Expr _ _ :: _) _) _ _ _); refine x_expr ?_)
    | ((with_reducible show wpAny _ _ (execs (Stmt.AugAssign (Expr.Name _ _) _ _ _ :: _) _) _ _ _); refine x_aug ?_)
    | ((with_reducible show wpAny _ _ (execs [] _) _ _ _); refine x_nil ?_; try dsimp only)
    | ((with_reducible show wpAny _ _ (execs (Stmt.Assign [Expr.Subscript _ _ _] _ _ :: _) _) _ _ _); refine x_assign_sub ?_)
    | ((with_reducible show wpAny _ _ (execs (Stmt.For _ _ _ _ _ :: _) _) _ _ _); refine x_for ?_))
  | ((with_reducible show wpAny _ _ (isTrue _ _ _) _ _ _); first
    | ((with_reducible show wpAny _ _ (isTrue (Expr.Call _ _ _ _) _ _) _ _ _); refine wpAny_isTrue_value ?_)
    | ((with_reducible show wpAny _ _ (isTrue (Expr.Name _ _) _ _) _ _ _); refine wpAny_isTrue_value ?_)
    | ((with_reducible show wpAny _ _ (isTrue (Expr.Compare _ [_] [_] _) _ _) _ _ _); refine wpAny_isTrue_Compare1 ?_)
    | ((with_reducible show wpAny _ _ (isTrue (Expr.BoolOp _ _ _) _ _) _ _ _); refine wpAny_isTrue_BoolOp ?_))
  | ((with_reducible show wpAny _ _ (truthy (Value.bool _)) _ _ _); refine wpAny_truthy_bool ?_)
  | ((with_reducible show wpAny _ _ (callWith _ _ _ _ _) _ _ _); first
    | ((with_reducible show wpAny _ _ (callWith _ (Value.type _) _ (backTo _ (starEach (_ :: _) _)) []) _ _ _); refine PyProof.Rows.callWith_type1 ?_)
    | ((with_reducible show wpAny _ _ (callWith _ (Value.builtin _) [] (backTo _ (starEach (_ :: _) _)) []) _ _ _); refine PyProof.Rows.callWith_builtin1 ?_)
    | ((with_reducible show wpAny _ _ (callWith _ (Value.builtin _) (_ :: _) (backTo _ (starEach (_ :: _) _)) []) _ _ _); refine PyProof.Rows.callWith_method1 ?_)
    | ((with_reducible show wpAny _ _ (callWith _ (Value.builtin _) (_ :: _) (backTo _ (starEach [] _)) []) _ _ _); refine PyProof.Rows.callWith_method0 ?_))
  | ((with_reducible show wpAny _ _ (binaryOp _ _ _) _ _ _); first
    | ((with_reducible show wpAny _ _ (binaryOp Operator.Mod (Value.int _ _) (Value.int _ _)) _ _ _); rename St _ _ _ _ _ _ _ _ => S0; refine S0.i1 (fun h => mod_int (by decide) h) ?_; clear S0; unhygienic intros)
    | ((with_reducible show wpAny _ _ (binaryOp Operator.Add (Value.int _ _) (Value.int _ _)) _ _ _); rename St _ _ _ _ _ _ _ _ => S0; refine S0.i1 (fun h => add_int h) ?_; clear S0; unhygienic intros)
    | ((with_reducible show wpAny _ _ (binaryOp Operator.Sub (Value.int _ _) (Value.int _ _)) _ _ _); rename St _ _ _ _ _ _ _ _ => S0; refine S0.i1 (fun h => sub_int h) ?_; clear S0; unhygienic intros)
    | ((with_reducible show wpAny _ _ (binaryOp Operator.FloorDiv (Value.int _ _) (Value.int _ _)) _ _ _); rename St _ _ _ _ _ _ _ _ => S0; refine S0.i1 (fun h => floordiv_int (by decide) h) ?_; clear S0; unhygienic intros))
  | ((with_reducible show wpAny _ _ (allTrue _ _ _) _ _ _); first
    | ((with_reducible show wpAny _ _ (allTrue BoolOp.And (_ :: _) _) _ _ _); refine wpAny_allTrue_And_cons ?_)
    | ((with_reducible show wpAny _ _ (allTrue BoolOp.Or (_ :: _) _) _ _ _); refine wpAny_allTrue_Or_cons ?_)
    | ((with_reducible show wpAny _ _ (allTrue BoolOp.And [] _) _ _ _); refine wpAny_allTrue_And_nil ?_)
    | ((with_reducible show wpAny _ _ (allTrue BoolOp.Or [] _) _ _ _); refine wpAny_allTrue_Or_nil ?_))
  | (refine ite_t1 ?_)
  | (refine ite_f1 ?_))
local macro_rules | `(tactic| walk_at "go") => `(tactic| repeat walk_at "go1")

def qAcc (x : Str) (i : Nat) : Str := ⟨#[39]⟩ ++ ⟨(StrLaws.dbl 39 (x.cps.toList.take i)).toArray⟩
theorem app_cps (x y : Str) : (x ++ y).cps.toList = x.cps.toList ++ y.cps.toList := by
  show (x.cps ++ y.cps).toList = _
  simp
theorem qAcc_len (x : Str) (i : Nat) : (qAcc x i).length ≤ 1 + 2 * x.length := by
  unfold qAcc
  rw [strLen_append]
  have h := len_dbl 39 (x.cps.toList.take i)
  have h2 : (x.cps.toList.take i).length ≤ x.length := by rw [List.length_take]; simp [Str.length]; omega
  have e : (⟨#[39]⟩ : Str).length = 1 := rfl
  have e2 : (⟨(StrLaws.dbl 39 (x.cps.toList.take i)).toArray⟩ : Str).length = (StrLaws.dbl 39 (x.cps.toList.take i)).length := by simp [Str.length]
  omega
theorem qAcc_step (x : Str) (i : Nat) (c : Nat) (h : x.cps[i]? = some c) : qAcc x (i + 1) = qAcc x i ++ (if c = 39 then (⟨#[39, 39]⟩ : Str) else ⟨#[c]⟩) := by
  apply str_ext
  unfold qAcc
  rw [app_cps, app_cps, app_cps]
  have hl : x.cps.toList[i]? = some c := by simpa using h
  rw [List.take_add_one, hl]
  rw [StrLaws.dbl_append]
  by_cases e : c = 39
  · subst e; simp [StrLaws.dbl]
  · simp [StrLaws.dbl, e]
theorem qAcc_end (x : Str) : qAcc x x.cps.size ++ (⟨#[39]⟩ : Str) = qt x := by
  apply str_ext
  unfold qAcc qt
  rw [app_cps, app_cps, app_cps, app_cps, StrLaws.replace_double]
  have e : x.cps.toList.take x.cps.size = x.cps.toList := List.take_of_length_le (by simp)
  rw [e]
section
variable {w : World} {mg mb : Str → Option Value} {s : Shared} {A : Around} {E : Value → Shared → Prop}
theorem spec_quoted (O : Ok w mg mb s) {k : Nat} (R : Rm A (k + 1)) {x : Str} {t : Tok} {Q : Value → Shared → Prop} (hx : x.length ≤ 1000)
    (h : ∀ t s', Aft s s' → Ok w mg mb s' → Q (.str (qt x) t) s') : wpAny (model PR w) A (call (.ref 200) [.str x t]) Q E s := by
  refine O.enter R (o200.2 w) f200.2 (c200 O.kin) (by rfl) (binds := [("text", .str x t)]) (by rfl) (by decide) (by simp; rfl) fun L s₁ S R => ?_
  clear O
  walk_at "go"
  rename St _ _ _ _ _ _ _ _ => S
  refine wpAny_pyIter_strU ?_
  have S1 := S.pushN (tk := s'_1.toks) { cls := .type (strIterType x), data := .fields #[.str x t, .int 0 0] }
  have W : Walks PR w (A.deeper (callEnv f200.1 L 200)) s'_1.heap.objs.size [s'_1.heap.objs.size] [s'_1.heap.objs.size] x.cps.size (SignAt x) (fun i h => h.IsStrIter s'_1.heap.objs.size (strIterType x) x t i) := by
    cases ha : x.cps.all (· < 128)
    · have := Walks.strWide (prog := PR) (w := w) R.h s'_1.heap.objs.size x t
      simpa [strIterType, ha] using this
    · have := Walks.strAscii (prog := PR) (w := w) R.h s'_1.heap.objs.size x t
      simpa [strIterType, ha] using this
  refine for_walks (J := fun i b' m' N' => ∃ tk, m' = [(Str.ofString "told", .str (qAcc x i) tk)] ∧ N' = []) W (by simp) (fun i h' ⟨o, ho, _⟩ => ⟨o, ho⟩) (fun v => by rfl) (S1.locals (m' := [(Str.ofString "told", .str (qAcc x 0) _)]) (lkc (by rfl) lk0)) ⟨_, S1.get (.head _), rfl, rfl⟩ (fun a ha => .inl (by simpa using ha)) ⟨_, rfl, rfl⟩ ?_ ?_
  · rintro i v b' m' N' oi' s2 hi ⟨c, u, hc, rfl⟩ ab ⟨tk, rfl, rfl⟩ S
    refine PyProof.Rows.assign_Name ?_
    walk_at "go"
    rename St _ _ _ _ _ _ _ _ => S
    refine P.eq_str ?_
    walk_at "go"
    rename St _ _ _ _ _ _ _ _ => S
    have hql := qAcc_len x i
    have fin : ∀ {s9 : Shared} {m2 : List (Str × Value)} {t5 : Tok}, m2.lookup (Str.ofString "told") = some (.str (qAcc x (i + 1)) t5) → St w mg mb b' L m2 [(s'_1.heap.objs.size, oi')] s9 →
        ∃ b'' m'' N'', Aft b' b'' ∧ (∃ tk, m'' = [(Str.ofString "told", Value.str (qAcc x (i + 1)) tk)] ∧ N'' = []) ∧ St w mg mb b'' L m'' ((s'_1.heap.objs.size, oi') :: N'') s9 := fun hm S9 => ⟨b', _, _, .refl _, ⟨_, rfl, rfl⟩, S9.locals (lkc hm lk0)⟩
    have hst := qAcc_step x i c hc
    by_cases e : c = 39
    · subst e
      rw [if_pos rfl] at hst
      rw [show ((⟨#[39]⟩ : Str).cps.toList == (Str.ofString "'").cps.toList) = true by decide +kernel]
      walk_at "go"
      rename St _ _ _ _ _ _ _ _ => S
      refine S.sadd (by have : (Str.ofString "''").length = 2 := by decide +kernel
                        omega) fun t6 s6 S => ?_
      walk_at "go"
      rename St _ _ _ _ _ _ _ _ => S
      rw [show Str.ofString "''" = ⟨#[39, 39]⟩ by decide +kernel, ← hst] at S
      exact fin (by rfl) S
    · rw [if_neg e] at hst
      rw [show ((⟨#[c]⟩ : Str).cps.toList == (Str.ofString "'").cps.toList) = false by
        rw [show Str.ofString "'" = ⟨#[39]⟩ by decide +kernel]
        exact beq_eq_false_iff_ne.mpr fun q => e (by simpa using q)]
      walk_at "go"
      rename St _ _ _ _ _ _ _ _ => S
      refine S.sadd (by have : (⟨#[c]⟩ : Str).length = 1 := rfl
                        omega) fun t6 s6 S => ?_
      walk_at "go"
      rename St _ _ _ _ _ _ _ _ => S
      rw [← hst] at S
      exact fin (by rfl) S
  · rintro b' m' N' s2 ab ⟨tk, rfl, rfl⟩ S
    have S := S.weaken ab
    have hql := qAcc_len x x.cps.size
    refine x_return ?_
    walk_at "go"
    rename St _ _ _ _ _ _ _ _ => S
    refine S.sadd (by have : (Str.ofString "'").length = 1 := by decide +kernel
                      omega) fun t6 s6 S => ?_
    rw [show Str.ofString "'" = ⟨#[39]⟩ by decide +kernel, qAcc_end]
    exact h _ _ S.aft0 S.ok
end
end Mine

namespace Mine
theorem kf_fill_M2 (w : World) : (hd.heap_39 w.params) = (hd.heap_39 w.params) ∧ PySem.Challenge.rw_bq5006_01 = PySem.Challenge.rw_bq5006_01 := by
  k_fill
  exact ⟨rfl, rfl⟩
local macro_rules | `(tactic| walk_at "kis") => `(tactic| (show nsIn (hd.heap_39 _) _ _ = _; k_is))
local macro_rules | `(tactic| walk_at "go1") => `(tactic| first
  | ((with_reducible show wpAny _ _ (eval _ _) _ _ _); first
    | ((with_reducible show wpAny _ _ (eval (Expr.Name _ _) _) _ _ _); rename St _ _ _ _ _ _ _ _ => S0; first | (refine S0.ld (by rfl) ?_) | (refine S0.ok.ldg (by walk_at "kis") ?_) | (refine S0.ok.ldb (by walk_at "kis") (by first | exact bb_len | exact bb_range | exact bb_isinstance | exact bb_dict | exact bb_str | exact bb_list | exact bb_sorted | exact bb_int | exact bb_float | exact bb_bool) ?_))
    | ((with_reducible show wpAny _ _ (eval (Expr.Constant (Const.int _) _ _) _) _ _ _); rename St _ _ _ _ _ _ _ _ => S0; refine S0.cint ?_; clear S0; unhygienic intros)
    | ((with_reducible show wpAny _ _ (eval (Expr.Constant (Const.str _) _ _) _) _ _ _); rename St _ _ _ _ _ _ _ _ => S0; refine S0.cstr ?_; clear S0; unhygienic intros)
    | ((with_reducible show wpAny _ _ (eval (Expr.Constant (Const.bool _) _ _) _) _ _ _); refine wpAny_Constant_bool ?_)
    | ((with_reducible show wpAny _ _ (eval (Expr.Constant (Const.none) _ _) _) _ _ _); refine wpAny_Constant_none ?_)
    | ((with_reducible show wpAny _ _ (eval (Expr.BinOp _ _ _ _) _) _ _ _); refine wpAny_BinOp ?_)
    | ((with_reducible show wpAny _ _ (eval (Expr.Subscript _ _ _) _) _ _ _); refine Subscript_ ?_)
    | ((with_reducible show wpAny _ _ (eval (Expr.Tuple _ _ _) _) _ _ _); refine Tuple_ ?_)
    | ((with_reducible show wpAny _ _ (eval (Expr.List _ _) _) _ _ _); refine List_ ?_)
    | ((with_reducible show wpAny _ _ (eval (Expr.Call (Expr.Attribute _ _ _) _ [] _) _) _ _ _); refine MethodCall_ ?_)
    | ((with_reducible show wpAny _ _ (eval (Expr.Call _ _ [] _) _) _ _ _); refine Call_ ?_)
    | ((with_reducible show wpAny _ _ (eval (Expr.IfExp _ _ _ _) _) _ _ _); refine wpAny_IfExp ?_)
    | ((with_reducible show wpAny _ _ (eval (Expr.Dict [] [] _) _) _ _ _); rename St _ _ _ _ _ _ _ _ => S0; refine S0.ndict ?_; clear S0; unhygienic intros)
    | ((with_reducible show wpAny _ _ (eval (Expr.Compare _ [_] [_] _) _) _ _ _); refine wpAny_Compare1 ?_)
    | ((with_reducible show wpAny _ _ (eval (Expr.Attribute _ _ _) _) _ _ _); refine Attribute_any_ ?_ (by rfl))
    | ((with_reducible show wpAny _ _ (eval (Expr.JoinedStr (_ :: _ :: _) _) _) _ _ _); refine x_js ?_))
  | ((with_reducible show wpAny _ _ (spliced _) _ _ _); first
    | ((with_reducible show wpAny _ _ (spliced (backTo _ (starEach [] _))) _ _ _); refine wpAny_items_nil ?_)
    | ((with_reducible show wpAny _ _ (spliced (backTo _ (starEach (_ :: _) _))) _ _ _); refine wpAny_items_cons ?_))
  | ((with_reducible show wpAny _ _ (newTuple _) _ _ _); rename St _ _ _ _ _ _ _ _ => S0; refine S0.ntup ?_; clear S0; unhygienic intros)
  | ((with_reducible show wpAny _ _ (newList _) _ _ _); rename St _ _ _ _ _ _ _ _ => S0; refine S0.nlist ?_; clear S0; unhygienic intros)
  | ((with_reducible show wpAny _ _ (storeName _ _ _) _ _ _); rename St _ _ _ _ _ _ _ _ => S0; refine S0.st ?_; clear S0; unhygienic intros)
  | ((with_reducible show wpAny _ _ (execs _ _) _ _ _); first
    | ((with_reducible show wpAny _ _ (execs (Stmt.Assign [Expr.Name _ _] _ _ :: _) _) _ _ _); refine x_assign ?_)
    | ((with_reducible show wpAny _ _ (execs (Stmt.Return (some _) _ :: _) _) _ _ _); refine x_return ?_)
    | ((with_reducible show wpAny _ _ (execs (Stmt.If _ _ _ _ :: _) _) _ _ _); refine x_if ?_)
    | ((with_reducible show wpAny _ _ (execs (Stmt.Expr _ _ :: _) _) _ _ _); refine x_expr ?_)
    | ((with_reducible show wpAny _ _ (execs (Stmt.AugAssign (Expr.Name _ _) _ _ _ :: _) _) _ _ _); refine x_aug ?_)
    | ((with_reducible show wpAny _ _ (execs [] _) _ _ _); refine x_nil ?_; try dsimp only)
    | ((with_reducible show wpAny _ _ (execs (Stmt.Assign [Expr.Subscript _ _ _] _ _ :: _) _) _ _ _); refine x_assign_sub ?_)
    | ((with_reducible show wpAny _ _ (execs (Stmt.For _ _ _ _ _ :: _) _) _ _ _); refine x_for ?_))
  | ((with_reducible show wpAny _ _ (isTrue _ _ _) _ _ _); first
    | ((with_reducible show wpAny _ _ (isTrue (Expr.Call _ _ _ _) _ _) _ _ _); refine wpAny_isTrue_value ?_)
    | ((with_reducible show wpAny _ _ (isTrue (Expr.Name _ _) _ _) _ _ _); refine wpAny_isTrue_value ?_)
    | ((with_reducible show wpAny _ _ (isTrue (Expr.Compare _ [_] [_] _) _ _) _ _ _); refine wpAny_isTrue_Compare1 ?_)
    | ((with_reducible show wpAny _ _ (isTrue (Expr.BoolOp _ _ _) _ _) _ _ _); refine wpAny_isTrue_BoolOp ?_))
  | ((with_reducible show wpAny _ _ (truthy (Value.bool _)) _ _ _); refine wpAny_truthy_bool ?_)
  | ((with_reducible show wpAny _ _ (callWith _ _ _ _ _) _ _ _); first
    | ((with_reducible show wpAny _ _ (callWith _ (Value.type _) _ (backTo _ (starEach (_ :: _) _)) []) _ _ _); refine PyProof.Rows.callWith_type1 ?_)
    | ((with_reducible show wpAny _ _ (callWith _ (Value.builtin _) [] (backTo _ (starEach (_ :: _) _)) []) _ _ _); refine PyProof.Rows.callWith_builtin1 ?_)
    | ((with_reducible show wpAny _ _ (callWith _ (Value.builtin _) (_ :: _) (backTo _ (starEach (_ :: _) _)) []) _ _ _); refine PyProof.Rows.callWith_method1 ?_)
    | ((with_reducible show wpAny _ _ (callWith _ (Value.builtin _) (_ :: _) (backTo _ (starEach [] _)) []) _ _ _); refine PyProof.Rows.callWith_method0 ?_))
  | ((with_reducible show wpAny _ _ (binaryOp _ _ _) _ _ _); first
    | ((with_reducible show wpAny _ _ (binaryOp Operator.Mod (Value.int _ _) (Value.int _ _)) _ _ _); rename St _ _ _ _ _ _ _ _ => S0; refine S0.i1 (fun h => mod_int (by decide) h) ?_; clear S0; unhygienic intros)
    | ((with_reducible show wpAny _ _ (binaryOp Operator.Add (Value.int _ _) (Value.int _ _)) _ _ _); rename St _ _ _ _ _ _ _ _ => S0; refine S0.i1 (fun h => add_int h) ?_; clear S0; unhygienic intros)
    | ((with_reducible show wpAny _ _ (binaryOp Operator.Sub (Value.int _ _) (Value.int _ _)) _ _ _); rename St _ _ _ _ _ _ _ _ => S0; refine S0.i1 (fun h => sub_int h) ?_; clear S0; unhygienic intros)
    | ((with_reducible show wpAny _ _ (binaryOp Operator.FloorDiv (Value.int _ _) (Value.int _ _)) _ _ _); rename St _ _ _ _ _ _ _ _ => S0; refine S0.i1 (fun h => floordiv_int (by decide) h) ?_; clear S0; unhygienic intros))
  | ((with_reducible show wpAny _ _ (allTrue _ _ _) _ _ _); first
    | ((with_reducible show wpAny _ _ (allTrue BoolOp.And (_ :: _) _) _ _ _); refine wpAny_allTrue_And_cons ?_)
    | ((with_reducible show wpAny _ _ (allTrue BoolOp.Or (_ :: _) _) _ _ _); refine wpAny_allTrue_Or_cons ?_)
    | ((with_reducible show wpAny _ _ (allTrue BoolOp.And [] _) _ _ _); refine wpAny_allTrue_And_nil ?_)
    | ((with_reducible show wpAny _ _ (allTrue BoolOp.Or [] _) _ _ _); refine wpAny_allTrue_Or_nil ?_))
  | (refine ite_t1 ?_)
  | (refine ite_f1 ?_))
local macro_rules | `(tactic| walk_at "go") => `(tactic| repeat walk_at "go1")

section
variable {w : World} {mg mb : Str → Option Value} {s : Shared} {A : Around} {E : Value → Shared → Prop}
theorem spec_lines (O : Ok w mg mb s) {k : Nat} (R : Rm A (k + 2)) {a : Nat} {rvs : List Value} {rows : List (Str × Val)} {Q : Value → Shared → Prop}
    (ha : s.heap.IsList a rvs.toArray) (h1 : 218 ≤ a) (hr : RowsIn w s.heap rvs rows) (hk : RowsOk rows)
    (h : ∀ (l : Nat) vs xs k s', Aft s s' → Ok w mg mb s' → s'.heap.get? l = some (lstObj vs.toArray k) → 218 ≤ l → All2 StrV vs xs → xs.Perm (linesOf rows) → sortedS xs = true → s.heap.get? l = none → Q (.ref l) s') :
    wpAny (model PR w) A (call (.ref 205) [.ref a]) Q E s := by
  refine O.enterC R (o205.2 w) f205.2 (c205 O.kin) (by rfl) (binds := [("rows", .ref a)]) (by rfl) (by rfl) (fun L => by simp; exact .inl (by rfl)) (by decide) (m := [("rows", .ref a)]) (fun L => bindL1 (by rfl)) fun L s₁ cells S CA R => ?_
  obtain ⟨oc, rfl, hoc⟩ := CellsAre.one CA
  clear O
  walk_at "go"
  rename St _ _ _ _ _ _ _ _ => S
  refine for_list R (J := fun i b' m' N' => ∃ vs k lines oc cv, m' = [(Str.ofString "lines", Value.ref a_1)] ∧ N' = [(a_1, lstObj vs.toArray k), (L + 1, oc)] ∧ oc.data = .cell cv ∧ All2 StrV vs lines ∧ lines = linesOf (rows.take i) ∧ lines.length ≤ i)
    (S.locals (m' := [(Str.ofString "lines", Value.ref a_1)]) (lkc (by rfl) lk0)) ha (by omega) (by omega) ?_ ?_ ?_
  · exact ⟨[], 0, [], _, _, rfl, rfl, hoc, .nil, rfl, Nat.le_refl _⟩
  · rintro i v b' m' N' it oi s3 hv ab ⟨vs, k, lines, oc, cv, rfl, rfl, hoc, hvs, hln, hll⟩ S
    obtain ⟨⟨x, val⟩, hrow, t, tk, v', rfl, ht1, ht, hval⟩ := (hr.keep ab.keep).get hv
    dsimp only at ht hval
    have hts := S.keep t _ (by omega) (by omega) ht
    have hmem := List.mem_of_getElem? hrow
    have hi20 : i < 20 := by
      have := (List.getElem?_eq_some_iff.mp hrow).1
      have := hk.size
      omega
    have hvsl := hvs.length
    have hxl := hk.len _ hmem
    simp only at hxl
    have htake : rows.take (i + 1) = rows.take i ++ [(x, val)] := by rw [List.take_add_one, hrow]; rfl
    refine S.twoC R (pre := [(it, oi), (a_1, lstObj vs.toArray k)]) (c := L + 1) rfl hoc hts fun oc s4 hoc S => ?_
    have skip : ∀ {s9 : Shared} {m2 : List (Str × Value)}, lineOf (x, val) = none → m2.lookup (Str.ofString "lines") = some (.ref a_1) → St w mg mb b' L m2 [(it, oi), (a_1, lstObj vs.toArray k), (L + 1, oc)] s9 →
        ∃ b'' m'' N'', Aft b' b'' ∧ (∃ vs k lines oc cv, m'' = [(Str.ofString "lines", Value.ref a_1)] ∧ N'' = [(a_1, lstObj vs.toArray k), (L + 1, oc)] ∧ oc.data = .cell cv ∧ All2 StrV vs lines ∧ lines = linesOf (rows.take (i + 1)) ∧ lines.length ≤ i + 1) ∧ St w mg mb b'' L m'' ((it, oi) :: N'') s9 := fun hn hm S9 =>
      ⟨b', _, _, .refl _, ⟨vs, k, lines, oc, _, rfl, rfl, hoc, hvs, by rw [htake, hln]; unfold linesOf; rw [List.filterMap_append, List.filterMap_cons, hn]; simp, by omega⟩, S9.locals (lkc hm lk0)⟩
    have fin : ∀ {s9 : Shared} {m2 : List (Str × Value)} {k' : Nat} {t5 : Tok} {l : Str} {pre : List (Nat × Obj)}, lineOf (x, val) = some l → m2.lookup (Str.ofString "lines") = some (.ref a_1) → St w mg mb b' L m2 (pre ++ [(it, oi), (a_1, lstObj (vs ++ [Value.str l t5]).toArray k'), (L + 1, oc)]) s9 →
        ∃ b'' m'' N'', Aft b' b'' ∧ (∃ vs k lines oc cv, m'' = [(Str.ofString "lines", Value.ref a_1)] ∧ N'' = [(a_1, lstObj vs.toArray k), (L + 1, oc)] ∧ oc.data = .cell cv ∧ All2 StrV vs lines ∧ lines = linesOf (rows.take (i + 1)) ∧ lines.length ≤ i + 1) ∧ St w mg mb b'' L m'' ((it, oi) :: N'') s9 := fun hn hm S9 =>
      ⟨b', _, _, .refl _, ⟨_, _, _, oc, _, rfl, rfl, hoc, hvs.snoc ⟨_, rfl⟩, by rw [htake, hln]; unfold linesOf; rw [List.filterMap_append, List.filterMap_cons, hn]; simp, by simp; omega⟩, (S9.drop (List.sublist_append_right _ _)).locals (lkc hm lk0)⟩
    have hS := fun {s'} (S : St w mg mb b' L [(Str.ofString "name", .str x tk), (Str.ofString "lines", .ref a_1)] [(it, oi), (a_1, lstObj vs.toArray k), (L + 1, oc)] s') => S
    clear hS
    walk_at "go"
    rename St _ _ _ _ _ _ _ _ => S
    refine S.ldc (c := L + 1) (o := oc) (by simp) hoc ?_
    walk_at "go"
    rename St _ _ _ _ _ _ _ _ => S
    refine S.isdict (hval.keep S.keep) fun s5 S => ?_
    cases hb : val.isMap with
    | true =>
      walk_at "go"
      rename St _ _ _ _ _ _ _ _ => S
      obtain ⟨dd, kvv, ps, rfl, hdd1, hdd, hkz, hpl, hline, hps, hpb, hpn⟩ := map_parts (x := x) hval hb fun y n e => hk.m2 _ hmem y n e
      obtain ⟨hjo, hjl⟩ := join_small (sep := Str.ofString ", ") hpb (by omega) (by decide +kernel)
      obtain ⟨oo, es, ep, hoo, rr⟩ := hdd
      have hc1 := (S.nw (L + 1, oc) (by simp)).2.2.2
      refine x_assign_comp (cl := [(Str.ofString "value", L + 1)]) (by rfl) ?_
      refine S.ldc (c := L + 1) (o := oc) (by simp) hoc ?_
      have hdo := S.keep _ _ (by omega) (by omega) hoo
      have hdlt := Heap.lt_size hdo
      have hd93 : dd ≠ 93 := by omega
      have hd59 : dd ≠ 59 := by omega
      have hc93 : L + 1 ≠ 93 := by have : 218 ≤ L + 1 := hc1; omega
      have hc59 : L + 1 ≠ 59 := by have : 218 ≤ L + 1 := hc1; omega
      have hclt : L + 1 < s5.heap.objs.size := Heap.lt_size (S.get (p := (L + 1, oc)) (by simp))
      refine wpAny_pyIter_dict (nsys hdd1) ⟨oo, es, hdo, rr⟩ ?_
      have S1 := S.pushN (tk := s5.toks) { cls := .type "dict_keyiterator", data := .fields #[.ref dd, .int 0 0, .int kvv.length 0, .int ep 0] }
      refine comp_block (F := fun i y _ => ∃ u, y = Value.str (ps.getD i Str.empty) u) (Walks.dictKeys (knd := SK w) R.h s5.heap.objs.size dd (Nat.ne_of_lt hdlt) kvv ep) (by simp) (fun i h' st => let ⟨⟨o, ho, _⟩, _⟩ := st; ⟨o, ho⟩) (by rfl) rfl (by decide) (fun i y s s' e _ => e) (by omega) S1
        ⟨⟨_, S1.get (.head _), rfl, rfl⟩, ⟨oo, es, S1.keep _ _ (by omega) (by omega) hoo, rr⟩⟩ (fun a ha => ?_) (fun i2 v2 b2 C N2 s6 hi2 hP hup S => ?_) (fun ys k2 acc C oC s6 hys hF nC S => ?_)
      · simp only [List.mem_cons, List.not_mem_nil, or_false] at ha
        rcases ha with e | e
        · exact .inl e
        · rw [e]; exact .inr ⟨hd93, hd59, oo, S1.keep _ _ hd93 hd59 hoo⟩
      · obtain ⟨y, u, hyu, hkey⟩ := hP
        obtain ⟨t2, rfl⟩ := sk_key hkey
        obtain ⟨hyl, z, hz, hpt⟩ := hps i2 y u hyu
        have hzl := hz.len
        have hcb := hup (L + 1) oc (S1.get (p := (L + 1, oc)) (by simp)) (Nat.ne_of_lt hclt) hc93 hc59
        have hdb : b2.heap.DictOf (SK w) dd kvv := ⟨oo, es, ep, hup dd oo (S1.keep _ _ (by omega) (by omega) hoo) (Nat.ne_of_lt hdlt) hd93 hd59, rr⟩
        have hzb : z.length ≤ 10000 := by
          have hm : ps.getD i2 Str.empty ∈ ps := by rw [List.getD_eq_getElem?_getD, List.getElem?_eq_getElem (by omega)]; exact List.getElem_mem _
          have := hpb _ hm
          rw [hpt, pairText_len] at this
          omega
        have hva : PySem.valueAt kvv y = some u := valueAt_get (let ⟨_, _, _, _, nd⟩ := rr; nd) hyu
        walk_at "go"
        rename St _ _ _ _ _ _ _ _ => S
        refine S.sadd (by rw [lit_0]; omega) fun t3 s7 S => ?_
        walk_at "go"
        rename St _ _ _ _ _ _ _ _ => S
        refine S.sadd (by simp only [strLen_append, lit_0, lit_1]; omega) fun t4 s8 S => ?_
        walk_at "go"
        rename St _ _ _ _ _ _ _ _ => S
        refine S.ldcb hcb (by omega) hoc ?_
        walk_at "go"
        rename St _ _ _ _ _ _ _ _ => S
        refine tail_any (DictOf.keep S.keep hdd1 hdb).typeIs slot_dict_getitem.lookup ?_ rfl
        refine S.dgetitem (DictOf.keep S.keep hdd1 hdb) hva fun s9 S => ?_
        walk_at "go"
        rename St _ _ _ _ _ _ _ _ => S
        refine S.cstrof hz fun t5 s10 S => ?_
        refine S.sadd (by simp only [strLen_append, lit_0, lit_1]; omega) fun t6 s11 S => ?_
        walk_at "go"
        rename St _ _ _ _ _ _ _ _ => S
        refine S.sadd (by simp only [strLen_append, lit_0, lit_1]; omega) fun t7 s12 S => ?_
        exact ⟨_, [], by rw [List.append_nil]; exact S, fun b3 _ _ => ⟨t7, by rw [hpt]; rfl⟩⟩
      · refine post_some S nC fun s7 S => ?_
        walk_at "go"
        rename St _ _ _ _ _ _ _ _ => S
        refine getMethod_list_append (S.get (p := (a_1, lstObj vs.toArray k)) (by simp)) rfl rfl ?_
        walk_at "go"
        rename St _ _ _ _ _ _ _ _ => S
        refine S.sadd (by rw [lit_2]; omega) fun t3 s8 S => ?_
        walk_at "go"
        rename St _ _ _ _ _ _ _ _ => S
        refine GM.join ?_
        walk_at "go"
        rename St _ _ _ _ _ _ _ _ => S
        refine S.cjoin ⟨_, S.get (.head _), rfl, _, rfl⟩ (all2_of_get (by rw [hys, hpl]) fun i y hy => hF i y hy) hjo fun t4 s9 S => ?_
        refine S.sadd (by simp only [strLen_append, lit_2]; omega) fun t5 s10 S => ?_
        walk_at "go"
        rename St _ _ _ _ _ _ _ _ => S
        refine S.sadd (by simp only [strLen_append, lit_2, lit_4]; omega) fun t6 s11 S => ?_
        refine wpAny_items_nil ?_
        refine S.append (pre := [(acc, lstObj ys.toArray k2), (it, oi)]) rfl (fun k3 s12 S => ?_) (Nat.le_trans (by omega : vs.length ≤ 20) (by decide))
        refine ⟨rfl, x_nil ?_⟩
        refine x_nil ?_
        exact fin (pre := [_]) hline (by rfl) S
    | false =>
      walk_at "go"
      rename St _ _ _ _ _ _ _ _ => S
      refine S.ldc (c := L + 1) (o := oc) (by simp) hoc ?_
      walk_at "go"
      rename St _ _ _ _ _ _ _ _ => S
      refine isNot_none ?_
      by_cases hnon : val = .non
      · subst hnon
        cases hval
        rw [show (!(Value.none == Value.none)) = false from rfl]
        walk_at "go"
        rename St _ _ _ _ _ _ _ _ => S
        exact skip rfl (by rfl) S
      · have hnb : (!(v' == Value.none)) = true := by
          cases hval with
          | non => exact absurd rfl hnon
          | _ => rfl
        rw [hnb]
        iterate 2 walk_at "go1"
        refine x_if ?_
        rename St _ _ _ _ _ _ _ _ => S
        refine wpAny_mono (E := NoE) (Q := fun b s' => b = (decide (x = Str.ofString "comment") && val.falsy) ∧ ∃ N2, St w mg mb b' L [(Str.ofString "name", .str x tk), (Str.ofString "lines", .ref a_1)] (N2 ++ [(it, oi), (a_1, lstObj vs.toArray k), (L + 1, oc)]) s') ?_ (fun b s6 ⟨hb6, N2, S⟩ => ?_) fun _ _ x => x.elim
        · walk_at "go"
          rename St _ _ _ _ _ _ _ _ => S
          refine P.eq_str ?_
          by_cases hc : x = Str.ofString "comment"
          · rw [show (x.cps.toList == (Str.ofString "comment").cps.toList) = true by rw [hc]; exact beq_self_eq_true _]
            walk_at "go"
            rename St _ _ _ _ _ _ _ _ => S
            refine S.ldc (c := L + 1) (o := oc) (by simp) hoc ?_
            walk_at "go"
            rename St _ _ _ _ _ _ _ _ => S
            refine S.in00 (hval.keep S.keep) hnon hb (S.get (.head _)) fun s7 S => ?_
            refine wpAny_truthy_bool ?_
            cases hf : val.falsy
            · exact ⟨by simp, [_], S⟩
            · exact wpAny_allTrue_And_nil ⟨by simp [hc], [_], S⟩
          · rw [show (x.cps.toList == (Str.ofString "comment").cps.toList) = false by exact beq_eq_false_iff_ne.mpr fun e => hc (str_ext e)]
            refine wpAny_truthy_bool ?_
            exact ⟨by simp [hc], [], S⟩
        · have hvsz : vs.length ≤ sizeLine := Nat.le_trans (by omega : vs.length ≤ 20) (by decide)
          subst hb6
          by_cases hcf : x = Str.ofString "comment" ∧ val.falsy = true
          · obtain ⟨hc, hf⟩ := hcf
            rw [show (decide (x = Str.ofString "comment") && val.falsy) = true by rw [hf]; simp [hc]]
            walk_at "go"
            rename St _ _ _ _ _ _ _ _ => S
            refine getMethod_list_append (S.get (p := (a_1, lstObj vs.toArray k)) (by simp)) rfl rfl ?_
            walk_at "go"
            rename St _ _ _ _ _ _ _ _ => S
            refine S.append (k := k) (pre := N2 ++ [(it, oi)]) (post := [(L + 1, oc)]) (by simp) (fun k3 s12 S => ?_) hvsz
            refine ⟨rfl, ?_⟩
            repeat refine x_nil ?_
            rw [List.append_assoc] at S
            refine fin (pre := N2) (l := Str.ofString "comment = ''") ?_ (by rfl) S
            have e : (Str.ofString "comment" ++ Str.ofString " = ") ++ (Val.txt Str.empty).text = Str.ofString "comment = ''" := by decide +kernel
            rw [← e, hc]
            have ecv : cval (Str.ofString "comment") val = .txt Str.empty := by unfold cval; rw [if_pos ⟨rfl, hf⟩]
            cases val with
            | non => exact absurd rfl hnon
            | m0 => cases hb
            | m2 => cases hb
            | _ => rw [← ecv]; rfl
          · rw [show (decide (x = Str.ofString "comment") && val.falsy) = false by
              by_cases hc : x = Str.ofString "comment"
              · have : val.falsy = false := by
                  cases q : val.falsy
                  · rfl
                  · exact absurd ⟨hc, q⟩ hcf
                rw [this]; simp
              · simp [hc]]
            have ecv : cval x val = val := by unfold cval; rw [if_neg hcf]
            walk_at "go"
            rename St _ _ _ _ _ _ _ _ => S
            refine S.ldc (c := L + 1) (o := oc) (by simp) hoc ?_
            walk_at "go"
            rename St _ _ _ _ _ _ _ _ => S
            cases hval with
            | non => exact absurd rfl hnon
            | m0 => cases hb
            | m2 => cases hb
            | boo c0 =>
              have hline : lineOf (x, .boo c0) = some ((x ++ Str.ofString " = ") ++ (Val.boo c0).text) := by
                show some ((x ++ Str.ofString " = ") ++ (cval x (.boo c0)).text) = _
                rw [ecv]
              have push : ∀ {s9 : Shared} {t6 : Tok} {N3 : List (Nat × Obj)}, St w mg mb b' L [(Str.ofString "name", .str x tk), (Str.ofString "lines", .ref a_1)] (N3 ++ [(it, oi), (a_1, lstObj vs.toArray k), (L + 1, oc)]) s9 → True := fun _ => trivial
              clear push
              refine PyProof.Rows.is_bool ?_
              cases c0 with
              | true =>
                walk_at "go"
                rename St _ _ _ _ _ _ _ _ => S
                refine getMethod_list_append (S.get (p := (a_1, lstObj vs.toArray k)) (by simp)) rfl rfl ?_
                walk_at "go"
                rename St _ _ _ _ _ _ _ _ => S
                refine S.sadd (by rw [lit_6]; omega) fun t3 s8 S => ?_
                walk_at "go"
                rename St _ _ _ _ _ _ _ _ => S
                refine S.ldc (c := L + 1) (o := oc) (by simp) hoc ?_
                walk_at "go"
                rename St _ _ _ _ _ _ _ _ => S
                refine S.sadd (by simp only [strLen_append, lit_6, lit_7]; omega) fun t4 s9 S => ?_
                refine wpAny_items_nil ?_
                refine S.append (k := k) (pre := N2 ++ [(it, oi)]) (post := [(L + 1, oc)]) (by simp) (fun k3 s12 S => ?_) hvsz
                refine ⟨rfl, ?_⟩
                repeat refine x_nil ?_
                rw [List.append_assoc] at S
                exact fin (pre := N2) hline (by rfl) S
              | false =>
                walk_at "go"
                rename St _ _ _ _ _ _ _ _ => S
                refine S.ldc (c := L + 1) (o := oc) (by simp) hoc ?_
                walk_at "go"
                rename St _ _ _ _ _ _ _ _ => S
                refine PyProof.Rows.is_bool ?_
                walk_at "go"
                rename St _ _ _ _ _ _ _ _ => S
                refine getMethod_list_append (S.get (p := (a_1, lstObj vs.toArray k)) (by simp)) rfl rfl ?_
                walk_at "go"
                rename St _ _ _ _ _ _ _ _ => S
                refine S.sadd (by rw [lit_6]; omega) fun t3 s8 S => ?_
                walk_at "go"
                rename St _ _ _ _ _ _ _ _ => S
                refine S.ldc (c := L + 1) (o := oc) (by simp) hoc ?_
                walk_at "go"
                rename St _ _ _ _ _ _ _ _ => S
                refine S.sadd (by simp only [strLen_append, lit_6, lit_8]; omega) fun t4 s9 S => ?_
                refine wpAny_items_nil ?_
                refine S.append (k := k) (pre := N2 ++ [(it, oi)]) (post := [(L + 1, oc)]) (by simp) (fun k3 s12 S => ?_) hvsz
                refine ⟨rfl, ?_⟩
                repeat refine x_nil ?_
                rw [List.append_assoc] at S
                exact fin (pre := N2) hline (by rfl) S
            | num i0 t0 =>
              have hline : lineOf (x, .num i0) = some ((x ++ Str.ofString " = ") ++ (Val.num i0).text) := by
                show some ((x ++ Str.ofString " = ") ++ (cval x (.num i0)).text) = _
                rw [ecv]
              have hi := hk.num _ hmem i0 rfl
              have hil := (FP.int i0 t0 hi.1 hi.2).len
              refine is_intB ?_
              walk_at "go"
              rename St _ _ _ _ _ _ _ _ => S
              refine S.ldc (c := L + 1) (o := oc) (by simp) hoc ?_
              walk_at "go"
              rename St _ _ _ _ _ _ _ _ => S
              refine is_intB ?_
              walk_at "go"
              rename St _ _ _ _ _ _ _ _ => S
              refine S.ldc (c := L + 1) (o := oc) (by simp) hoc ?_
              walk_at "go"
              rename St _ _ _ _ _ _ _ _ => S
              refine IsiPair.int_str ?_
              have S := S.tok (tk := s6.toks + 1)
              walk_at "go"
              rename St _ _ _ _ _ _ _ _ => S
              refine getMethod_list_append (S.get (p := (a_1, lstObj vs.toArray k)) (by simp)) rfl rfl ?_
              walk_at "go"
              rename St _ _ _ _ _ _ _ _ => S
              refine S.sadd (by rw [lit_6]; omega) fun t3 s8 S => ?_
              walk_at "go"
              rename St _ _ _ _ _ _ _ _ => S
              refine S.ldc (c := L + 1) (o := oc) (by simp) hoc ?_
              walk_at "go"
              rename St _ _ _ _ _ _ _ _ => S
              refine S.cstrof (FP.int i0 t0 hi.1 hi.2) fun t4 s9 S => ?_
              refine S.sadd (by simp only [strLen_append, lit_6]; have := PyProof.Rows.int_text_len_1921 (shown_small hi.1 hi.2); omega) fun t5 s10 S => ?_
              refine wpAny_items_nil ?_
              refine S.append (k := k) (pre := N2 ++ [(it, oi)]) (post := [(L + 1, oc)]) (by simp) (fun k3 s12 S => ?_) hvsz
              refine ⟨rfl, ?_⟩
              repeat refine x_nil ?_
              rw [List.append_assoc] at S
              exact fin (pre := N2) hline (by rfl) S
            | txt y t0 =>
              have hline : lineOf (x, .txt y) = some ((x ++ Str.ofString " = ") ++ (Val.txt y).text) := by
                show some ((x ++ Str.ofString " = ") ++ (cval x (.txt y)).text) = _
                rw [ecv]
              have hyl := hk.txt _ hmem y rfl
              refine is_strB ?_
              walk_at "go"
              rename St _ _ _ _ _ _ _ _ => S
              refine S.ldc (c := L + 1) (o := oc) (by simp) hoc ?_
              walk_at "go"
              rename St _ _ _ _ _ _ _ _ => S
              refine is_strB ?_
              walk_at "go"
              rename St _ _ _ _ _ _ _ _ => S
              refine S.ldc (c := L + 1) (o := oc) (by simp) hoc ?_
              walk_at "go"
              rename St _ _ _ _ _ _ _ _ => S
              refine IsiPair.str_str ?_
              walk_at "go"
              rename St _ _ _ _ _ _ _ _ => S
              refine getMethod_list_append (S.get (p := (a_1, lstObj vs.toArray k)) (by simp)) rfl rfl ?_
              walk_at "go"
              rename St _ _ _ _ _ _ _ _ => S
              refine S.sadd (by rw [lit_6]; omega) fun t3 s8 S => ?_
              walk_at "go"
              rename St _ _ _ _ _ _ _ _ => S
              refine cw_fn f200.2 (o200.2 w) ?_
              walk_at "go"
              rename St _ _ _ _ _ _ _ _ => S
              refine S.ldc (c := L + 1) (o := oc) (by simp) hoc ?_
              refine wpAny_items_nil ?_
              refine ⟨S.ok.kin, ?_⟩
              refine spec_quoted S.ok R (Nat.le_trans hyl (by decide)) fun t4 s9 a9 O9 => ?_
              have S := S.aft a9 O9
              refine S.sadd (by
                simp only [strLen_append, lit_6]
                have q : (qt y).length ≤ 2 * y.length + 2 := by
                  unfold qt
                  rw [strLen_append, strLen_append]
                  have := len_quoted y 39
                  have e : (⟨#[39]⟩ : Str).length = 1 := rfl
                  omega
                omega) fun t5 s10 S => ?_
              refine wpAny_items_nil ?_
              refine S.append (k := k) (pre := N2 ++ [(it, oi)]) (post := [(L + 1, oc)]) (by simp) (fun k3 s12 S => ?_) hvsz
              refine ⟨rfl, ?_⟩
              repeat refine x_nil ?_
              rw [List.append_assoc] at S
              exact fin (pre := N2) hline (by rfl) S
  · rintro b' m' N' s3 ab ⟨vs, k, lines, oc, cv, rfl, rfl, hoc, hvs, hln, hll⟩ S
    have S := S.weaken ab
    have hvsl := hvs.length
    have hrl := hr.length
    have hks := hk.size
    refine x_return ?_
    walk_at "go"
    rename St _ _ _ _ _ _ _ _ => S
    refine S.csorted (l := a_1) (vs := vs) ⟨_, S.get (.head _), rfl, _, rfl⟩ hvs (by omega) fun a2 vs2 xs2 k2 s8 hvs2 hp2 hsort S => ?_
    have q := S.nw _ (.head _)
    refine h a2 vs2 xs2 k2 s8 S.aft0 S.ok q.1 q.2.2.2 hvs2 (hp2.trans ?_) hsort q.2.2.1
    rw [hln, hrl, List.take_length]
end
end Mine

namespace Mine
theorem kf_fill_C2 (w : World) : (hd.heap_39 w.params) = (hd.heap_39 w.params) ∧ PySem.Challenge.rw_bq5006_01 = PySem.Challenge.rw_bq5006_01 := by
  k_fill
  exact ⟨rfl, rfl⟩
local macro_rules | `(tactic| walk_at "kis") => `(tactic| (show nsIn (hd.heap_39 _) _ _ = _; k_is))
local macro_rules | `(tactic| walk_at "go1") => `(tactic| first
  | ((with_reducible show wpAny _ _ (eval _ _) _ _ _); first
    | ((with_reducible show wpAny _ _ (eval (Expr.Name _ _) _) _ _ _); rename St _ _ _ _ _ _ _ _ => S0; first | (refine S0.ld (by rfl) ?_) | (refine S0.ok.ldg (by walk_at "kis") ?_) | (refine S0.ok.ldb (by walk_at "kis") (by first | exact bb_len | exact bb_range | exact bb_isinstance | exact bb_dict | exact bb_str | exact bb_list | exact bb_sorted | exact bb_int | exact bb_float | exact bb_bool) ?_))
    | ((with_reducible show wpAny _ _ (eval (Expr.Constant (Const.int _) _ _) _) _ _ _); rename St _ _ _ _ _ _ _ _ => S0; refine S0.cint ?_; clear S0; unhygienic intros)
    | ((with_reducible show wpAny _ _ (eval (Expr.Constant (Const.str _) _ _) _) _ _ _); rename St _ _ _ _ _ _ _ _ => S0; refine S0.cstr ?_; clear S0; unhygienic intros)
    | ((with_reducible show wpAny _ _ (eval (Expr.Constant (Const.bool _) _ _) _) _ _ _); refine wpAny_Constant_bool ?_)
    | ((with_reducible show wpAny _ _ (eval (Expr.Constant (Const.none) _ _) _) _ _ _); refine wpAny_Constant_none ?_)
    | ((with_reducible show wpAny _ _ (eval (Expr.BinOp _ _ _ _) _) _ _ _); refine wpAny_BinOp ?_)
    | ((with_reducible show wpAny _ _ (eval (Expr.Subscript _ _ _) _) _ _ _); refine Subscript_ ?_)
    | ((with_reducible show wpAny _ _ (eval (Expr.Tuple _ _ _) _) _ _ _); refine Tuple_ ?_)
    | ((with_reducible show wpAny _ _ (eval (Expr.List _ _) _) _ _ _); refine List_ ?_)
    | ((with_reducible show wpAny _ _ (eval (Expr.Call (Expr.Attribute _ _ _) _ [] _) _) _ _ _); refine MethodCall_ ?_)
    | ((with_reducible show wpAny _ _ (eval (Expr.Call _ _ [] _) _) _ _ _); refine Call_ ?_)
    | ((with_reducible show wpAny _ _ (eval (Expr.IfExp _ _ _ _) _) _ _ _); refine wpAny_IfExp ?_)
    | ((with_reducible show wpAny _ _ (eval (Expr.Dict [] [] _) _) _ _ _); rename St _ _ _ _ _ _ _ _ => S0; refine S0.ndict ?_; clear S0; unhygienic intros)
    | ((with_reducible show wpAny _ _ (eval (Expr.Compare _ [_] [_] _) _) _ _ _); refine wpAny_Compare1 ?_)
    | ((with_reducible show wpAny _ _ (eval (Expr.Attribute _ _ _) _) _ _ _); refine Attribute_any_ ?_ (by rfl))
    | ((with_reducible show wpAny _ _ (eval (Expr.JoinedStr (_ :: _ :: _) _) _) _ _ _); refine x_js ?_))
  | ((with_reducible show wpAny _ _ (spliced _) _ _ _); first
    | ((with_reducible show wpAny _ _ (spliced (backTo _ (starEach [] _))) _ _ _); refine wpAny_items_nil ?_)
    | ((with_reducible show wpAny _ _ (spliced (backTo _ (starEach (_ :: _) _))) _ _ _); refine wpAny_items_cons ?_))
  | ((with_reducible show wpAny _ _ (newTuple _) _ _ _); rename St _ _ _ _ _ _ _ _ => S0; refine S0.ntup ?_; clear S0; unhygienic intros)
  | ((with_reducible show wpAny _ _ (newList _) _ _ _); rename St _ _ _ _ _ _ _ _ => S0; refine S0.nlist ?_; clear S0; unhygienic intros)
  | ((with_reducible show wpAny _ _ (storeName _ _ _) _ _ _); rename St _ _ _ _ _ _ _ _ => S0; refine S0.st ?_; clear S0; unhygienic intros)
  | ((with_reducible show wpAny _ _ (execs _ _) _ _ _); first
    | ((with_reducible show wpAny _ _ (execs (Stmt.Assign [Expr.Name _ _] _ _ :: _) _) _ _ _); refine x_assign ?_)
    | ((with_reducible show wpAny _ _ (execs (Stmt.Return (some _) _ :: _) _) _ _ _); refine x_return ?_)
    | ((with_reducible show wpAny _ _ (execs (Stmt.If _ _ _ _ :: _) _) _ _ _); refine x_if ?_)
    | ((with_reducible show wpAny _ _ (execs (Stmt.Expr _ _ :: _) _) _ _ _); refine x_expr ?_)
    | ((with_reducible show wpAny _ _ (execs (Stmt.AugAssign (Expr.Name _ _) _ _ _ :: _) _) _ _ _); refine x_aug ?_)
    | ((with_reducible show wpAny _ _ (execs [] _) _ _ _); refine x_nil ?_; try dsimp only)
    | ((with_reducible show wpAny _ _ (execs (Stmt.Assign [Expr.Subscript _ _ _] _ _ :: _) _) _ _ _); refine x_assign_sub ?_)
    | ((with_reducible show wpAny _ _ (execs (Stmt.For _ _ _ _ _ :: _) _) _ _ _); refine x_for ?_))
  | ((with_reducible show wpAny _ _ (isTrue _ _ _) _ _ _); first
    | ((with_reducible show wpAny _ _ (isTrue (Expr.Call _ _ _ _) _ _) _ _ _); refine wpAny_isTrue_value ?_)
    | ((with_reducible show wpAny _ _ (isTrue (Expr.Name _ _) _ _) _ _ _); refine wpAny_isTrue_value ?_)
    | ((with_reducible show wpAny _ _ (isTrue (Expr.Compare _ [_] [_] _) _ _) _ _ _); refine wpAny_isTrue_Compare1 ?_)
    | ((with_reducible show wpAny _ _ (isTrue (Expr.BoolOp _ _ _) _ _) _ _ _); refine wpAny_isTrue_BoolOp ?_))
  | ((with_reducible show wpAny _ _ (truthy (Value.bool _)) _ _ _); refine wpAny_truthy_bool ?_)
  | ((with_reducible show wpAny _ _ (callWith _ _ _ _ _) _ _ _); first
    | ((with_reducible show wpAny _ _ (callWith _ (Value.type _) _ (backTo _ (starEach (_ :: _) _)) []) _ _ _); refine PyProof.Rows.callWith_type1 ?_)
    | ((with_reducible show wpAny _ _ (callWith _ (Value.builtin _) [] (backTo _ (starEach (_ :: _) _)) []) _ _ _); refine PyProof.Rows.callWith_builtin1 ?_)
    | ((with_reducible show wpAny _ _ (callWith _ (Value.builtin _) (_ :: _) (backTo _ (starEach (_ :: _) _)) []) _ _ _); refine PyProof.Rows.callWith_method1 ?_)
    | ((with_reducible show wpAny _ _ (callWith _ (Value.builtin _) (_ :: _) (backTo _ (starEach [] _)) []) _ _ _); refine PyProof.Rows.callWith_method0 ?_))
  | ((with_reducible show wpAny _ _ (binaryOp _ _ _) _ _ _); first
    | ((with_reducible show wpAny _ _ (binaryOp Operator.Mod (Value.int _ _) (Value.int _ _)) _ _ _); rename St _ _ _ _ _ _ _ _ => S0; refine S0.i1 (fun h => mod_int (by decide) h) ?_; clear S0; unhygienic intros)
    | ((with_reducible show wpAny _ _ (binaryOp Operator.Add (Value.int _ _) (Value.int _ _)) _ _ _); rename St _ _ _ _ _ _ _ _ => S0; refine S0.i1 (fun h => add_int h) ?_; clear S0; unhygienic intros)
    | ((with_reducible show wpAny _ _ (binaryOp Operator.Sub (Value.int _ _) (Value.int _ _)) _ _ _); rename St _ _ _ _ _ _ _ _ => S0; refine S0.i1 (fun h => sub_int h) ?_; clear S0; unhygienic intros)
    | ((with_reducible show wpAny _ _ (binaryOp Operator.FloorDiv (Value.int _ _) (Value.int _ _)) _ _ _); rename St _ _ _ _ _ _ _ _ => S0; refine S0.i1 (fun h => floordiv_int (by decide) h) ?_; clear S0; unhygienic intros))
  | ((with_reducible show wpAny _ _ (allTrue _ _ _) _ _ _); first
    | ((with_reducible show wpAny _ _ (allTrue BoolOp.And (_ :: _) _) _ _ _); refine wpAny_allTrue_And_cons ?_)
    | ((with_reducible show wpAny _ _ (allTrue BoolOp.Or (_ :: _) _) _ _ _); refine wpAny_allTrue_Or_cons ?_)
    | ((with_reducible show wpAny _ _ (allTrue BoolOp.And [] _) _ _ _); refine wpAny_allTrue_And_nil ?_)
    | ((with_reducible show wpAny _ _ (allTrue BoolOp.Or [] _) _ _ _); refine wpAny_allTrue_Or_nil ?_))
  | (refine ite_t1 ?_)
  | (refine ite_f1 ?_))
local macro_rules | `(tactic| walk_at "go") => `(tactic| repeat walk_at "go1")

section
variable {w : World} {mg mb : Str → Option Value} {s : Shared} {A : Around} {E : Value → Shared → Prop}
theorem spec_fresh (O : Ok w mg mb s) {k : Nat} (R : Rm A (k + 1)) {a : Nat} {vs : List Value} {rows : List (Str × Val)} {Q : Value → Shared → Prop}
    (ha : s.heap.IsList a vs.toArray) (h1 : 218 ≤ a) (hr : RowsIn w s.heap vs rows) (hn : (rows.map (·.1)).Nodup) (hz : rows.length ≤ 1000)
    (h : ∀ (d : Nat) s' kvs, Aft s s' → Ok w mg mb s' → s'.heap.DictOf (SK w) d kvs → 218 ≤ d → EntsIn w (anew s.heap s'.heap) kvs rows → s.heap.get? d = none → Q (.ref d) s') :
    wpAny (model PR w) A (call (.ref 212) [.ref a]) Q E s := by
  refine O.enter R (o212.2 w) f212.2 (c212 O.kin) (by rfl) (binds := [("rows", .ref a)]) (by rfl) (by decide) (by simp; rfl) fun L s₁ S R => ?_
  clear O
  walk_at "go"
  rename St _ _ _ _ _ _ _ _ => S
  refine for_list R (vs := vs) (l := a) (J := fun i b' m' N' => ∃ o kvs, m' = [(("handed" : Str), Value.ref a_1)] ∧ N' = [(a_1, o)] ∧ o.IsDictOf (SK w) kvs ∧ EntsIn w (anew s.heap b'.heap) kvs (rows.take i)) (S.local1 (x := "handed") (by rfl)) ha (by omega) (by omega) ?_ ?_ ?_
  · exact ⟨_, [], rfl, rfl, isDictOf_nil w, .nil⟩
  · rintro i v b' m' N' it oi s3 hv ab ⟨o, kvs, rfl, rfl, hd, he⟩ S
    obtain ⟨⟨x, val⟩, hrow, t, tk, v', rfl, ht1, ht, hval⟩ := (hr.keep ab.keep).get hv
    have hts := S.keep t _ (by omega) (by omega) ht
    refine S.two R hts fun s4 S => ?_
    have hx : x ∉ kvs.map (·.1) := by
      rw [he.names]
      intro hm
      have q : (rows.map (·.1)).Nodup := hn
      have e : rows.take i ++ rows.drop i = rows := List.take_append_drop ..
      rw [← e, List.map_append] at q
      refine (List.nodup_append.mp q).2.2 x hm x ?_ rfl
      refine List.mem_map.mpr ⟨(x, val), List.mem_of_getElem? (i := 0) ?_, rfl⟩
      rw [List.getElem?_drop]
      exact hrow
    have ht2 : rows.take (i + 1) = rows.take i ++ [(x, val)] := by rw [List.take_add_one, hrow]; rfl
    have hkz : kvs.length ≤ 1000 := by
      have e1 := he.length
      have e2 : (rows.take i).length ≤ rows.length := by rw [List.length_take]; omega
      omega
    have hsz : kvs.length ≤ sizeLine := Nat.le_trans hkz (by decide)
    have fin : ∀ {v2 : Value} {s6 : Shared} {m2 : List (Str × Value)} {N2 : List (Nat × Obj)} {o2 : Obj}, m2.lookup ("handed" : Str) = some (.ref a_1) → o2.IsDictOf (SK w) (PySem.stored kvs x v2) → St w mg mb b' L m2 ([(it, oi), (a_1, o2)] ++ N2) s6 → (∀ b'' : Shared, Aft b' b'' → (∀ p ∈ N2, (anew s.heap b''.heap).get? p.1 = some p.2) → ValIn w (anew s.heap b''.heap) v2 val) →
        ∃ b'' m'' N'', Aft b' b'' ∧ (∃ o kvs, m'' = [(("handed" : Str), Value.ref a_1)] ∧ N'' = [(a_1, o)] ∧ o.IsDictOf (SK w) kvs ∧ EntsIn w (anew s.heap b''.heap) kvs (rows.take (i + 1))) ∧ St w mg mb b'' L m'' ((it, oi) :: N'') s6 := by
      intro v2 s6 m2 N2 o2 hm2 hd2 S2 hv2
      obtain ⟨b'', ab2, hN, S3, _⟩ := S2.rebase
      refine ⟨b'', _, [(a_1, o2)], ab2, ⟨o2, _, rfl, rfl, hd2, ?_⟩, S3.local1 hm2⟩
      rw [stored_new hx, ht2]
      exact (he.keep (anew_keep ab2.keep)).snoc ⟨rfl, hv2 b'' ab2 fun p hp => anew_in (hN p hp) (keep_none ab.keep (S2.nw p (List.mem_append.mpr (.inr hp))).2.2.2 (S2.nw p (List.mem_append.mpr (.inr hp))).2.2.1)⟩
    walk_at "go"
    rename St _ _ _ _ _ _ _ _ => S
    refine S.isdict (hval.keep S.keep) fun s5 S => ?_
    walk_at "go"
    cases hval with
    | m0 ha2 hd2 =>
      dsimp only [Val.isMap]
      walk_at "go"
      rename St _ _ _ _ _ _ _ _ => S
      refine S.dictcopy (DictOf.keep S.keep ha2 hd2) ha2 (by decide) fun a2 o2 s6 hk2 S => ?_
      walk_at "go"
      rename St _ _ _ _ _ _ _ _ => S
      refine S.setitem (pre := [(a2, o2), (it, oi)]) rfl hd (fun o' s7 ho' S => ?_) hsz
      walk_at "go"
      rename St _ _ _ _ _ _ _ _ => S
      have hi := (S.nw _ (.head _)).2.2.2
      exact fin (N2 := [(a2, o2)]) (by rfl) ho' (S.perm (List.perm_append_comm (l₁ := [(it, oi), (a_1, o')]) (l₂ := [(a2, o2)]))) fun b'' _ hN => .m0 hi (Heap.dictOf_iff.mpr ⟨o2, hN _ (.head _), hk2⟩)
    | m2 ha2 hd2 =>
      dsimp only [Val.isMap]
      walk_at "go"
      rename St _ _ _ _ _ _ _ _ => S
      refine S.dictcopy (DictOf.keep S.keep ha2 hd2) ha2 (by show 2 ≤ sizeLine; decide) fun a2 o2 s6 hk2 S => ?_
      walk_at "go"
      rename St _ _ _ _ _ _ _ _ => S
      refine S.setitem (pre := [(a2, o2), (it, oi)]) rfl hd (fun o' s7 ho' S => ?_) hsz
      walk_at "go"
      rename St _ _ _ _ _ _ _ _ => S
      have hi := (S.nw _ (.head _)).2.2.2
      exact fin (N2 := [(a2, o2)]) (by rfl) ho' (S.perm (List.perm_append_comm (l₁ := [(it, oi), (a_1, o')]) (l₂ := [(a2, o2)]))) fun b'' _ hN => .m2 hi (Heap.dictOf_iff.mpr ⟨o2, hN _ (.head _), hk2⟩)
    | _ =>
      dsimp only [Val.isMap]
      walk_at "go"
      rename St _ _ _ _ _ _ _ _ => S
      refine S.setitem (pre := [(it, oi)]) rfl hd (fun o' s7 ho' S => ?_) hsz
      walk_at "go"
      rename St _ _ _ _ _ _ _ _ => S
      exact fin (N2 := []) (by rfl) ho' S fun _ _ _ => by constructor
  · rintro b' m' N' s3 ab ⟨o, kvs, rfl, rfl, hd, he⟩ S
    refine x_return ?_
    refine S.ld (by rfl) ?_
    dsimp only
    have S0 := S.weaken ab
    have q := S0.nw _ (.head _)
    rw [hr.length, List.take_length] at he
    exact h a_1 s3 kvs S0.aft0 S0.ok (S.dictOf (.head _) hd) q.2.2.2 (he.keep (anew_keep S.keep)) q.2.2.1
end
end Mine

namespace Mine
section
variable {w : World} {mg mb : Str → Option Value} {b b' s s' : Shared} {L : Nat} {m : List (Str × Value)} {N : List (Nat × Obj)} {A : Around} {E : Value → Shared → Prop} {env : Env}
theorem call_plainB {R : Result → Shared → Prop} {f : Nat} {o : Obj} {fd : FuncData} {body : List Stmt} {args : Args} {binds : List (Str × Value)}
    (hroom : A.depth < recursionLimit) (ho : s.heap.get? f = some o) (hd : o.data = .func fd) (hlim : s.heap.NoLimit) (hcd : s.heap.CodeRec fd.code fd.qualname)
    (hbody : fd.body = .stmts body) (hbind : BindsTo s fd args binds)
    (hcell : ∀ x ∈ fd.scope.names, x.2 ≠ .cell) (hloc : ∀ x ∈ binds, fd.scope.names.lookup x.1 = some .local)
    (h : ∀ h₀, h₀.Ns s.heap.objs.size (fun x => binds.reverse.lookup x) → (∀ b o, s.heap.get? b = some o → h₀.get? b = some o) →
      wpAny (model PR w) (A.deeper (callEnv fd s.heap.objs.size f)) (execs body (callEnv fd s.heap.objs.size f)) (fun fl s' => R (.ok (.ret (match fl with | .ret v => v | _ => .none))) s') NoE
        { s with heap := h₀, toks := s.toks + binds.length })
    (hco : fd.scope.isCoroutine = false := by rfl) (hgen : fd.scope.isGenerator = false := by rfl) (hk : fd.scope.kind = .function := by rfl) :
    codeAny (model PR w) A (.call (.ref f) args) R s := by
  refine codeAny_call_function hroom ho hd hco hgen hbody hcd ?_
  refine hbind _ _ _ _ ?_
  refine wpAny_newFunctionEnv hcell hloc (fun h₀ hns₀ hsb₀ => ⟨hlim.fresh _ hsb₀, codeAny_func (wpAny_mono (h h₀ hns₀ fun b o e => ?_) (fun _ _ x => x) (fun _ _ x => x.elim))⟩) hk
  exact hsb₀.extBut b o (Nat.ne_of_lt (Heap.lt_size e)) (Heap.get?_push_of_some _ e)
theorem call_cellsB {R : Result → Shared → Prop} {f : Nat} {o : Obj} {fd : FuncData} {body : List Stmt} {args : Args} {binds : List (Str × Value)}
    (hroom : A.depth < recursionLimit) (ho : s.heap.get? f = some o) (hd : o.data = .func fd) (hlim : s.heap.NoLimit) (hcd : s.heap.CodeRec fd.code fd.qualname)
    (hbody : fd.body = .stmts body) (hbind : BindsTo s fd args binds) (hclo : fd.closure = [])
    (hkind : ∀ x ∈ binds, fd.scope.names.lookup x.1 = some .local ∨ (fd.scope.names.lookup x.1 = some .cell ∧ ((cellsFrom (s.heap.objs.size + 1) fd.scope.names []).lookup x.1).isSome = true))
    (h : ∀ s₁, InCallC s (callEnvC fd s.heap.objs.size f).locals (bindL (callEnvC fd s.heap.objs.size f).kindOf binds fun _ => none) (callEnvC fd s.heap.objs.size f).cells
        (bindC (callEnvC fd s.heap.objs.size f).kindOf binds fun _ => none) s₁ →
      wpAny (model PR w) (A.deeper (callEnvC fd s.heap.objs.size f)) (execs body (callEnvC fd s.heap.objs.size f)) (fun fl s' => R (.ok (.ret (match fl with | .ret v => v | _ => .none))) s') NoE s₁)
    (hco : fd.scope.isCoroutine = false := by rfl) (hgen : fd.scope.isGenerator = false := by rfl) (hk : fd.scope.kind = .function := by rfl) :
    codeAny (model PR w) A (.call (.ref f) args) R s := by
  refine codeAny_call_function hroom ho hd hco hgen hbody hcd ?_
  refine hbind _ _ _ _ ?_
  rw [hclo]
  refine wpAny_newFunctionEnv_cells hk hkind fun env he s' x => ?_
  subst he
  exact ⟨hlim.keeps x.toInCall.keep, codeAny_func (wpAny_mono (h s' x) (fun _ _ x => x) (fun _ _ x => x.elim))⟩
theorem Ok.enterB (O : Ok w mg mb s) {n : Nat} (R : Rm A (n + 1)) {f : Nat} {o : Obj} {fd : FuncData} {body : List Stmt} {vals : List Value} {binds : List (Str × Value)} {Q : Value → Shared → Prop}
    (ho : (KF w).lookup f = some o) (hd : o.data = .func fd) (hcd : s.heap.CodeRec fd.code fd.qualname) (hbody : fd.body = .stmts body) (hbind : BindsTo s fd ⟨vals, []⟩ binds)
    (hcell : ∀ x ∈ fd.scope.names, x.2 ≠ .cell) (hloc : ∀ x ∈ binds, fd.scope.names.lookup x.1 = some .local)
    (h : ∀ L s₁, St w mg mb s L binds.reverse [] s₁ → Rm (A.deeper (callEnv fd L f)) n →
      wpAny (model PR w) (A.deeper (callEnv fd L f)) (execs body (callEnv fd L f)) (fun fl s' => Q (match fl with | .ret v => v | _ => .none) s') NoE s₁)
    (hco : fd.scope.isCoroutine = false := by rfl) (hgen : fd.scope.isGenerator = false := by rfl) (hk : fd.scope.kind = .function := by rfl) :
    wpAny (model PR w) A (call (.ref f) vals) Q E s := by
  refine wpAny_call (call_plainB R.room (O.kin _ _ ho) hd O.nolim hcd hbody hbind hcell hloc (fun h₀ hns keep => ?_) hco hgen hk)
  have z : s.heap.objs.size < h₀.objs.size := hns.lt
  have big := O.big
  refine wpAny_mono (h s.heap.objs.size _ ⟨O.keeps keep (Nat.le_of_lt z), .of_all keep, rfl, rfl, ⟨_, hns, fun _ _ e => e⟩, ?_, big, fun _ hp => (nomatch hp), List.nodup_nil⟩ (R.deeper _)) (fun fl s' x => x) (fun _ _ x => x.elim)
  cases q : s.heap.get? s.heap.objs.size with
  | none => rfl
  | some o => exact absurd (Heap.lt_size q) (Nat.lt_irrefl _)
theorem Ok.enterCB (O : Ok w mg mb s) {n : Nat} (R : Rm A (n + 1)) {f : Nat} {o : Obj} {fd : FuncData} {body : List Stmt} {vals : List Value} {binds : List (Str × Value)} {Q : Value → Shared → Prop}
    (ho : (KF w).lookup f = some o) (hd : o.data = .func fd) (hcd : s.heap.CodeRec fd.code fd.qualname) (hbody : fd.body = .stmts body) (hbind : BindsTo s fd ⟨vals, []⟩ binds) (hclo : fd.closure = [])
    (hkind : ∀ L : Nat, ∀ x ∈ binds, fd.scope.names.lookup x.1 = some .local ∨ (fd.scope.names.lookup x.1 = some .cell ∧ ((cellsFrom (L + 1) fd.scope.names []).lookup x.1).isSome = true))
    (hnd : ((cellsFrom 0 fd.scope.names []).map (·.1)).Nodup)
    (hm : ∀ L x v, m.lookup x = some v → bindL (callEnvC fd L f).kindOf binds (fun _ => none) x = some v)
    (h : ∀ L s₁ cells, St w mg mb s L m cells s₁ → CellsAre (bindC (callEnvC fd L f).kindOf binds fun _ => none) (cellsFrom (L + 1) fd.scope.names []) cells → Rm (A.deeper (callEnvC fd L f)) n →
      wpAny (model PR w) (A.deeper (callEnvC fd L f)) (execs body (callEnvC fd L f)) (fun fl s' => Q (match fl with | .ret v => v | _ => .none) s') NoE s₁)
    (hco : fd.scope.isCoroutine = false := by rfl) (hgen : fd.scope.isGenerator = false := by rfl) (hk : fd.scope.kind = .function := by rfl) :
    wpAny (model PR w) A (call (.ref f) vals) Q E s := by
  refine wpAny_call (call_cellsB R.room (O.kin _ _ ho) hd O.nolim hcd hbody hbind hclo (hkind _) (fun s₁ X => ?_) hco hgen hk)
  obtain ⟨⟨⟨h₁, tk, rfl⟩, hns, keep, fresh⟩, hcell, hap, hab⟩ := X
  obtain ⟨cells, NW, CA⟩ := Cl.news (h₀ := s.heap) (L := s.heap.objs.size) (cm := bindC (callEnvC fd s.heap.objs.size f).kindOf binds fun _ => none) (h := h₁) (Nat.le_refl _) (cs := cellsFrom (s.heap.objs.size + 1) fd.scope.names [])
    (fun n c hm => ⟨hcell n c (lookup_of_mem_nodup (cellsFrom_names fd.scope.names 0 (s.heap.objs.size + 1) [] [] rfl ▸ hnd) hm), hab n c hm⟩)
  have z : s.heap.objs.size < h₁.objs.size := hns.lt
  have big := O.big
  have none' : ∀ a : Nat, s.heap.objs.size ≤ a → s.heap.get? a = none := fun a ha => by
    cases q : s.heap.get? a with
    | none => rfl
    | some o => exact absurd (Heap.lt_size q) (Nat.not_lt.mpr ha)
  have above : ∀ p ∈ cells, ∃ n, (n, p.1) ∈ cellsFrom (s.heap.objs.size + 1) fd.scope.names [] := by
    have key : ∀ {cm : Str → Option Value} {cs : List (Str × Addr)} {cells : List (Addr × Obj)}, CellsAre cm cs cells → ∀ p ∈ cells, ∃ n, (n, p.1) ∈ cs := by
      intro cm cs cells X
      induction X with
      | nil => intro p hp; cases hp
      | cons hd _ ih =>
        intro p hp
        rcases List.mem_cons.mp hp with rfl | hp
        · exact ⟨_, .head _⟩
        · obtain ⟨n, hn⟩ := ih p hp; exact ⟨n, .tail _ hn⟩
    exact key CA
  have nd : (cells.map (·.1)).Nodup := by
    have key : ∀ {cm : Str → Option Value} {cs : List (Str × Addr)} {cells : List (Addr × Obj)}, CellsAre cm cs cells → cells.map (·.1) = cs.map (·.2) := by
      intro cm cs cells X
      induction X with
      | nil => rfl
      | cons hd _ ih => simp [ih]
    rw [key CA]
    exact List.pairwise_map.mpr hap
  refine wpAny_mono (h s.heap.objs.size _ cells ⟨O.keeps keep (Nat.le_of_lt z), .of_all keep, rfl, rfl, ⟨_, hns, fun x v e => hm _ x v e⟩, none' _ (Nat.le_refl _), big, fun p hp => ?_, nd⟩ CA (R.deeper _)) (fun fl s' x => x) (fun _ _ x => x.elim)
  obtain ⟨nm, hc⟩ := above p hp
  have lt := hab nm p.1 hc
  have lt' : s.heap.objs.size < p.1 := lt
  exact ⟨(NW p hp).1, Nat.ne_of_gt lt, none' _ (Nat.le_of_lt lt), by omega⟩

theorem Ok.enterK (O : Ok w mg mb s) {n : Nat} (R : Rm A (n + 1)) {f : Nat} {o : Obj} {fd : FuncData} {body : List Stmt} {vals : List Value} {binds : List (Str × Value)} {Q : Value → Shared → Prop}
    (ho : (KF w).lookup f = some o) (hd : o.data = .func fd) (hcd : s.heap.CodeRec fd.code fd.qualname) (hbody : fd.body = .stmts body) (hbind : BindsTo s fd ⟨vals, []⟩ binds)
    (hcell : ∀ x ∈ fd.scope.names, x.2 ≠ .cell) (hloc : ∀ x ∈ binds, fd.scope.names.lookup x.1 = some .local)
    (h : ∀ L s₁, St w mg mb s L binds.reverse [] s₁ → Rm (A.deeper (callEnv fd L f)) n →
      wpAny (model PR w) (A.deeper (callEnv fd L f)) (execs body (callEnv fd L f)) (fun fl s' => Q (match fl with | .ret v => v | _ => .none) s') NoE s₁)
    (hco : fd.scope.isCoroutine = false := by rfl) (hgen : fd.scope.isGenerator = false := by rfl) (hk : fd.scope.kind = .function := by rfl) :
    codeAny (model PR w) A (.call (.ref f) ⟨vals, []⟩) (fun r s' => match r with | .ok (.ret v) => Q v s' | .ok _ => False | .error e => E e s') s := by
  refine (call_plainB R.room (O.kin _ _ ho) hd O.nolim hcd hbody hbind hcell hloc (fun h₀ hns keep => ?_) hco hgen hk)
  have z : s.heap.objs.size < h₀.objs.size := hns.lt
  have big := O.big
  refine wpAny_mono (h s.heap.objs.size _ ⟨O.keeps keep (Nat.le_of_lt z), .of_all keep, rfl, rfl, ⟨_, hns, fun _ _ e => e⟩, ?_, big, fun _ hp => (nomatch hp), List.nodup_nil⟩ (R.deeper _)) (fun fl s' x => x) (fun _ _ x => x.elim)
  cases q : s.heap.get? s.heap.objs.size with
  | none => rfl
  | some o => exact absurd (Heap.lt_size q) (Nat.lt_irrefl _)
theorem Ok.enterCK (O : Ok w mg mb s) {n : Nat} (R : Rm A (n + 1)) {f : Nat} {o : Obj} {fd : FuncData} {body : List Stmt} {vals : List Value} {binds : List (Str × Value)} {Q : Value → Shared → Prop}
    (ho : (KF w).lookup f = some o) (hd : o.data = .func fd) (hcd : s.heap.CodeRec fd.code fd.qualname) (hbody : fd.body = .stmts body) (hbind : BindsTo s fd ⟨vals, []⟩ binds) (hclo : fd.closure = [])
    (hkind : ∀ L : Nat, ∀ x ∈ binds, fd.scope.names.lookup x.1 = some .local ∨ (fd.scope.names.lookup x.1 = some .cell ∧ ((cellsFrom (L + 1) fd.scope.names []).lookup x.1).isSome = true))
    (hnd : ((cellsFrom 0 fd.scope.names []).map (·.1)).Nodup)
    (hm : ∀ L x v, m.lookup x = some v → bindL (callEnvC fd L f).kindOf binds (fun _ => none) x = some v)
    (h : ∀ L s₁ cells, St w mg mb s L m cells s₁ → CellsAre (bindC (callEnvC fd L f).kindOf binds fun _ => none) (cellsFrom (L + 1) fd.scope.names []) cells → Rm (A.deeper (callEnvC fd L f)) n →
      wpAny (model PR w) (A.deeper (callEnvC fd L f)) (execs body (callEnvC fd L f)) (fun fl s' => Q (match fl with | .ret v => v | _ => .none) s') NoE s₁)
    (hco : fd.scope.isCoroutine = false := by rfl) (hgen : fd.scope.isGenerator = false := by rfl) (hk : fd.scope.kind = .function := by rfl) :
    codeAny (model PR w) A (.call (.ref f) ⟨vals, []⟩) (fun r s' => match r with | .ok (.ret v) => Q v s' | .ok _ => False | .error e => E e s') s := by
  refine (call_cellsB R.room (O.kin _ _ ho) hd O.nolim hcd hbody hbind hclo (hkind _) (fun s₁ X => ?_) hco hgen hk)
  obtain ⟨⟨⟨h₁, tk, rfl⟩, hns, keep, fresh⟩, hcell, hap, hab⟩ := X
  obtain ⟨cells, NW, CA⟩ := Cl.news (h₀ := s.heap) (L := s.heap.objs.size) (cm := bindC (callEnvC fd s.heap.objs.size f).kindOf binds fun _ => none) (h := h₁) (Nat.le_refl _) (cs := cellsFrom (s.heap.objs.size + 1) fd.scope.names [])
    (fun n c hm => ⟨hcell n c (lookup_of_mem_nodup (cellsFrom_names fd.scope.names 0 (s.heap.objs.size + 1) [] [] rfl ▸ hnd) hm), hab n c hm⟩)
  have z : s.heap.objs.size < h₁.objs.size := hns.lt
  have big := O.big
  have none' : ∀ a : Nat, s.heap.objs.size ≤ a → s.heap.get? a = none := fun a ha => by
    cases q : s.heap.get? a with
    | none => rfl
    | some o => exact absurd (Heap.lt_size q) (Nat.not_lt.mpr ha)
  have above : ∀ p ∈ cells, ∃ n, (n, p.1) ∈ cellsFrom (s.heap.objs.size + 1) fd.scope.names [] := by
    have key : ∀ {cm : Str → Option Value} {cs : List (Str × Addr)} {cells : List (Addr × Obj)}, CellsAre cm cs cells → ∀ p ∈ cells, ∃ n, (n, p.1) ∈ cs := by
      intro cm cs cells X
      induction X with
      | nil => intro p hp; cases hp
      | cons hd _ ih =>
        intro p hp
        rcases List.mem_cons.mp hp with rfl | hp
        · exact ⟨_, .head _⟩
        · obtain ⟨n, hn⟩ := ih p hp; exact ⟨n, .tail _ hn⟩
    exact key CA
  have nd : (cells.map (·.1)).Nodup := by
    have key : ∀ {cm : Str → Option Value} {cs : List (Str × Addr)} {cells : List (Addr × Obj)}, CellsAre cm cs cells → cells.map (·.1) = cs.map (·.2) := by
      intro cm cs cells X
      induction X with
      | nil => rfl
      | cons hd _ ih => simp [ih]
    rw [key CA]
    exact List.pairwise_map.mpr hap
  refine wpAny_mono (h s.heap.objs.size _ cells ⟨O.keeps keep (Nat.le_of_lt z), .of_all keep, rfl, rfl, ⟨_, hns, fun x v e => hm _ x v e⟩, none' _ (Nat.le_refl _), big, fun p hp => ?_, nd⟩ CA (R.deeper _)) (fun fl s' x => x) (fun _ _ x => x.elim)
  obtain ⟨nm, hc⟩ := above p hp
  have lt := hab nm p.1 hc
  have lt' : s.heap.objs.size < p.1 := lt
  exact ⟨(NW p hp).1, Nat.ne_of_gt lt, none' _ (Nat.le_of_lt lt), by omega⟩

theorem meth_call {q f : Nat} {self : Value} {vals : List Value} {Q : Value → Shared → Prop} (ho : s.heap.get? q = some (methodObj (.ref f) self))
    (h : codeAny (model PR w) A (.call (.ref f) ⟨self :: vals, []⟩) (fun r s' => match r with | .ok (.ret v) => Q v s' | .ok _ => False | .error e => E e s') s) : wpAny (model PR w) A (call (.ref q) vals) Q E s :=
  wpAny_call (method_call ho h)
theorem cw_M {q g : Nat} {self : Value} {e : Expr} {rest : List Expr} {pos : Pos} {first : List Value} {Q : Value → Shared → Prop} (hf : fnIn (KF w) g = true) (h : wpAny (model PR w) A (spliced (backTo pos (starEach (e :: rest) env))) (fun vs s₁ => MethP (KF w) q g self s₁.heap ∧ wpAny (model PR w) A (call (.ref q) (first ++ vs)) Q E s₁) E s)
    (he : starEach (e :: rest) env = (false, eval e env) :: starEach rest env := by rfl) (hplain : (backTo pos (starEach rest env)).any (·.1) = false := by rfl) :
    wpAny (model PR w) A (callWith pos (.ref q) first (backTo pos (starEach (e :: rest) env)) []) Q E s := by
  rw [he] at h ⊢
  exact callWith_of (by show ((false || (backTo pos (starEach rest env)).any (·.1)) || false) = false; rw [hplain]; rfl) (keeps_M hf) (evalArgs_plain h)
end
end Mine

namespace Mine
section
variable {w : World} {mg mb : Str → Option Value} {b b' s s' : Shared} {L : Nat} {m : List (Str × Value)} {N : List (Nat × Obj)} {A : Around} {E : Value → Shared → Prop} {env : Env}
theorem Rm.make {n : Nat} (r : Rm A (n + 1)) (C : Nat) (args : List Value) : Rm (A.under (.builtin "type.__call__" ⟨.ref C :: args, []⟩)) n := by
  have hw : (Code.builtin "type.__call__" ⟨.ref C :: args, []⟩).weight ≤ 1 := Nat.le_of_ble_eq_true rfl
  have hu : (Code.builtin "type.__call__" ⟨.ref C :: args, []⟩).cUnits = 1 := rfl
  refine ⟨r.h, ?_, ?_⟩
  · have := r.d
    show A.depth + (Code.builtin "type.__call__" ⟨.ref C :: args, []⟩).weight + n < 1000
    omega
  · have := r.u
    show A.units + (Code.builtin "type.__call__" ⟨.ref C :: args, []⟩).cUnits + 10 * n < 9900
    omega
/-- a new object of a class, its __init__ entered: the object and its dict are the frame's own -/
theorem Ok.make (O : Ok w mg mb s) {n : Nat} (R : Rm A (n + 2)) {C fI : Nat} {o : Obj} {fd : FuncData} {body : List Stmt} {rest : List Value} {binds : Value → List (Str × Value)} {Q : Value → Shared → Prop}
    (hm : makesIn (KF w) C = true) (hi : findIn (KF w) (.ref C) "__init__" = some (some (.ref fI))) (hf : typeIn (KF w) (.ref fI) = some (.type "function"))
    (ho : (KF w).lookup fI = some o) (hd : o.data = .func fd) (hcd : ∀ h : Heap, (KF w).In h → h.CodeRec fd.code fd.qualname) (hbody : fd.body = .stmts body)
    (hbind : ∀ x (s' : Shared), (KF w).In s'.heap → BindsTo s' fd ⟨x :: rest, []⟩ (binds x))
    (hcell : ∀ x ∈ fd.scope.names, x.2 ≠ .cell) (hloc : ∀ y, ∀ x ∈ binds y, fd.scope.names.lookup x.1 = some .local)
    (h : ∀ (x dx L : Nat) A' s₁, St w mg mb s L (binds (.ref x)).reverse [(x, instObj C dx), (dx, emptyDict)] s₁ → Rm A' n →
      wpAny (model PR w) A' (execs body (callEnv fd L fI)) (fun fl s' => (match fl with | .ret v => v | _ => .none) = .none ∧ Q (.ref x) s') NoE s₁)
    (hco : fd.scope.isCoroutine = false := by rfl) (hgen : fd.scope.isGenerator = false := by rfl) (hk : fd.scope.kind = .function := by rfl) :
    wpAny (model PR w) A (call (.ref C) rest) Q E s := by
  obtain ⟨hh, g, d, t, os⟩ := s
  have k1 : ∀ a ob, hh.get? a = some ob → ((hh.push emptyDict).push (instObj C hh.objs.size)).get? a = some ob := fun _ _ e => Heap.get?_push_of_some _ (Heap.get?_push_of_some _ e)
  have z1 : hh.objs.size ≤ ((hh.push emptyDict).push (instObj C hh.objs.size)).objs.size := by simp only [Heap.size_push]; omega
  have O1 : Ok w mg mb ⟨(hh.push emptyDict).push (instObj C hh.objs.size), g, d, t, os⟩ := O.keeps k1 z1
  have gd : ((hh.push emptyDict).push (instObj C hh.objs.size)).get? hh.objs.size = some emptyDict := by heap_get
  have gx : ((hh.push emptyDict).push (instObj C hh.objs.size)).get? (hh.objs.size + 1) = some (instObj C hh.objs.size) := by heap_get
  have zz : ((hh.push emptyDict).push (instObj C hh.objs.size)).objs.size = hh.objs.size + 2 := by simp only [Heap.size_push]
  have big := O.big
  have no : ∀ a : Nat, hh.objs.size ≤ a → hh.get? a = none := fun a ha => by
    cases q : hh.get? a with
    | none => rfl
    | some o => exact absurd (Heap.lt_size q) (Nat.not_lt.mpr ha)
  refine wpAny_call (make_core (makes_of O.kin hm) (looks_findIn O.kin hi) (fun self => bind_fn O.kin self hf) (.inl rfl) ?_)
  refine call_plainB ((R.make C rest).room) (O1.kin _ _ ho) hd O1.nolim (hcd _ O1.kin) hbody (hbind _ _ O1.kin) hcell (hloc _) (fun h₀ hns keep => ?_) hco hgen hk
  have z : hh.objs.size + 2 < h₀.objs.size := by have := hns.lt; rw [zz] at this; exact this
  have S : St w mg mb ⟨hh, g, d, t, os⟩ ((hh.push emptyDict).push (instObj C hh.objs.size)).objs.size (binds (.ref (hh.objs.size + 1))).reverse [(hh.objs.size + 1, instObj C hh.objs.size), (hh.objs.size, emptyDict)]
      ⟨h₀, g, d, t + (binds (.ref (hh.objs.size + 1))).length, os⟩ := by
    refine ⟨O.keeps (fun a ob e => keep a ob (k1 a ob e)) (by show hh.objs.size ≤ h₀.objs.size; omega), .of_all (fun a ob e => keep a ob (k1 a ob e)), rfl, rfl, ⟨_, hns, fun _ _ e => e⟩, no _ (by omega), by have : (218 : Nat) ≤ hh.objs.size := big; omega, fun p hp => ?_, ?_⟩
    · have big' : (218 : Nat) ≤ hh.objs.size := big
      rcases List.mem_cons.mp hp with rfl | hp
      · exact ⟨keep _ _ gx, by show hh.objs.size + 1 ≠ _; omega, no _ (by show _ ≤ hh.objs.size + 1; omega), by show 218 ≤ hh.objs.size + 1; omega⟩
      · rcases List.mem_cons.mp hp with rfl | hp
        · exact ⟨keep _ _ gd, by show hh.objs.size ≠ _; omega, no _ (Nat.le_refl _), big'⟩
        · cases hp
    · simp
  refine wpAny_mono (h (hh.objs.size + 1) hh.objs.size _ _ _ S ((R.make C rest).deeper _)) (fun fl s' x => ?_) (fun _ _ x => x.elim)
  exact ⟨x.1, x.2⟩
end
end Mine

namespace Mine
section
variable {w : World} {mg mb : Str → Option Value} {b b' s s' : Shared} {L : Nat} {m : List (Str × Value)} {N : List (Nat × Obj)} {A : Around} {E : Value → Shared → Prop} {env : Env}
theorem St.setattr (S : St w mg mb b L m N s) {x dx C : Nat} {name : Str} {v : Value} {es : List DictEntry} {n : Nat} {pre post : List (Nat × Obj)} {Q : Unit → Shared → Prop}
    (hx : (x, instObj C dx) ∈ N) (e : N = pre ++ (dx, PySem.W.dictOf es n) :: post)
    (hs : findIn (KF w) (.ref C) "__setattr__" = some (some (.builtin "object.__setattr__"))) (hp : plainOver (KF w) C = true) (ht : takerIn (KF w) C name = some none) (hh : hasDictIn (KF w) C = true)
    (hl : (getL name es).isSome = true) (hz : (putL name 0 .none v es).length ≤ 1000)
    (h : ∀ tk s', St w mg mb b L m (pre ++ (dx, PySem.W.dictOf (putL name (PyData.keyHash w.params name) (.str name tk) v es) (putN name es n)) :: post) s' → Q () s') :
    wpAny (model PR w) A (setAttr (.ref x) name v) Q E s := by
  have gd := S.get (show (dx, PySem.W.dictOf es n) ∈ N by rw [e]; exact List.mem_append.mpr (.inr (.head _)))
  have gx := S.get hx
  have I : InstAt s.heap x (instObj C dx) C (some (PySem.W.dictOf es n)) := ⟨gx, rfl, rfl, gd⟩
  refine set_plain S.ok.kin I hs ?_
  refine osa_open (s := { s with toks := s.toks + 1 }) S.ok.kin I hp ht fun b0 => ?_
  obtain ⟨cd, hc, hd'⟩ := any_some hh
  refine wpAny_bind (wpAny_pure (wpAny_bind (wpAny_bind (wpAny_loadPart gx (wpAny_bind ((looks_clsIn (S.tok (tk := s.toks + 1)).ok.kin hc).here ?_))))))
  rw [hd']
  refine wpAny_pure (a := some dx) (wpAny_bind (wpAny_pure (wpAny_bind ?_)))
  unfold nsSet
  refine wpAny_bind (wpAny_bind (wpAny_askSetting (wpAny_pure (wpAny_bind (wpAny_mkText (wpAny_bind (wpAny_loadPart gd ?_)))))))
  have c : (!es.toArray.any (·.key.isStr name) && es.toArray.any (·.refKey)) = false := by
    rw [List.any_toArray, List.any_toArray]
    unfold getL at hl
    split at hl
    · rename_i en he
      rw [List.any_eq_true.mpr ⟨en, List.mem_of_find?_eq_some he, List.find?_some he⟩]; rfl
    · split at hl
      · cases hl
      · rename_i z; rw [Bool.not_eq_true] at z; rw [z, Bool.and_false]
  dsimp only
  rw [aRefKeyMayBeTheName_at, c]
  have ep := putName_dict name (PyData.keyHash w.params name) (.str name (s.toks + 1)) v es n
  have len : ∀ (h1 h2 : Int) (k1 k2 : Value) (l : List DictEntry), (putL name h1 k1 v l).length = (putL name h2 k2 v l).length := by
    intro h1 h2 k1 k2 l
    induction l with
    | nil => rfl
    | cons a l ih => unfold putL; split <;> simp [ih]
  refine wpAny_updatePart gd ?_
  have g' : (s.heap.update dx (Obj.putName name (PyData.keyHash w.params name) (.str name (s.toks + 1)) v)).get? dx = some (PySem.W.dictOf (putL name (PyData.keyHash w.params name) (.str name (s.toks + 1)) v es) (putN name es n)) := by
    rw [Heap.get?_update_self _ gd (by rw [ep]; rfl), ep]
  have pl : (PySem.W.dictOf (putL name (PyData.keyHash w.params name) (.str name (s.toks + 1)) v es) (putN name es n)).data.pastItsLine = none := pastItsLine_dict (by
    have := len (PyData.keyHash w.params name) 0 (.str name (s.toks + 1)) .none es
    rw [List.size_toArray, sizeLine_eq]; omega)
  refine wpAny_bind (wpAny_lookBehind (s := { s with heap := _, toks := s.toks + 1 + 1 }) g' pl ?_)
  exact wpAny_pure (h _ _ (S.upd' e (tk := s.toks + 1 + 1) (fun y ob hy hg => by rw [Heap.get?_update_other _ _ (Ne.symm hy)]; exact hg) g'))
theorem St.getattr (S : St w mg mb b L m N s) {x dx C : Nat} {name : Str} {expr : Bool} {v : Value} {es : List DictEntry} {n : Nat} {attr : Option Value} {Q : Value → Shared → Prop}
    (gx : s.heap.get? x = some (instObj C dx)) (gd : s.heap.get? dx = some (PySem.W.dictOf es n))
    (hg : plainGet (KF w) C name = true) (hh : hasDictIn (KF w) C = true) (ha : findIn (KF w) (.ref C) name = some attr) (hn : noGet (KF w) attr = true) (hl : getL name es = some (some v)) (hv : handedIn v = true)
    (h : ∀ s', St w mg mb b L m N s' → Q v s') : wpAny (model PR w) A (getAttr (.ref x) name expr) Q E s := by
  have I : InstAt s.heap x (instObj C dx) C (some (PySem.W.dictOf es n)) := ⟨gx, rfl, rfl, gd⟩
  exact get_value S.ok.kin I (plainGet_of hg).1 (findObj_own hh ha hn (by rw [lookIn_dict, hl])) hv (h _ S.tok)
/-- what the class holds, the object does not -/
theorem St.getattrC (S : St w mg mb b L m N s) {x dx C : Nat} {name : Str} {expr : Bool} {a : Value} {es : List DictEntry} {n : Nat} {Q : Value → Shared → Prop}
    (gx : s.heap.get? x = some (instObj C dx)) (gd : s.heap.get? dx = some (PySem.W.dictOf es n))
    (hg : plainGet (KF w) C name = true) (hh : hasDictIn (KF w) C = true) (ha : findIn (KF w) (.ref C) name = some (some a)) (hn : specialIn (KF w) a "__get__" = some none) (hv : handedIn a = true) (hc : copiedNames.contains name = false) (hl : getL name es = some none)
    (h : ∀ s', St w mg mb b L m N s' → Q a s') : wpAny (model PR w) A (getAttr (.ref x) name expr) Q E s := by
  have I : InstAt s.heap x (instObj C dx) C (some (PySem.W.dictOf es n)) := ⟨gx, rfl, rfl, gd⟩
  exact get_value S.ok.kin I (plainGet_of hg).1 (findObj_cls hh ha hn hv hc (by rw [lookIn_dict, hl])) hv (h _ S.tok)
theorem x_assign_attr {M : Model} {o : Expr} {attr : Str} {p p' : Pos} {value : Expr} {rest : List Stmt} {Q : Flow → Shared → Prop}
    (h : wpAny M A (eval value env) (fun v s₁ => wpAny M A (eval o env) (fun ov s₂ => wpAny M A (setAttr ov attr v) (fun _ s' => wpAny M A (execs rest env) Q E s') E s₂) E s₁) E s)
    (hs : swapsWith value (some (.Attribute o attr p')) p.line env = pure false := by rfl) :
    wpAny M A (execs (.Assign [.Attribute o attr p'] value p :: rest) env) Q E s := wpAny_execs_cons (plainObj_wpAny_Assign_Attribute h hs)
end
end Mine

namespace Mine
theorem kf_fill_K3 (w : World) : (hd.heap_39 w.params) = (hd.heap_39 w.params) ∧ PySem.Challenge.rw_bq5006_01 = PySem.Challenge.rw_bq5006_01 := by
  k_fill
  exact ⟨rfl, rfl⟩
local macro_rules | `(tactic| walk_at "kis") => `(tactic| (show nsIn (hd.heap_39 _) _ _ = _; k_is))
local macro_rules | `(tactic| walk_at "go1") => `(tactic| first
  | ((with_reducible show wpAny _ _ (eval _ _) _ _ _); first
    | ((with_reducible show wpAny _ _ (eval (Expr.Name _ _) _) _ _ _); rename St _ _ _ _ _ _ _ _ => S0; first | (refine S0.ld (by rfl) ?_) | (refine S0.ok.ldg (by walk_at "kis") ?_) | (refine S0.ok.ldb (by walk_at "kis") (by first | exact bb_len | exact bb_range | exact bb_isinstance | exact bb_dict | exact bb_str | exact bb_list | exact bb_sorted | exact bb_int | exact bb_float | exact bb_bool) ?_))
    | ((with_reducible show wpAny _ _ (eval (Expr.Constant (Const.int _) _ _) _) _ _ _); rename St _ _ _ _ _ _ _ _ => S0; refine S0.cint ?_; clear S0; unhygienic intros)
    | ((with_reducible show wpAny _ _ (eval (Expr.Constant (Const.str _) _ _) _) _ _ _); rename St _ _ _ _ _ _ _ _ => S0; refine S0.cstr ?_; clear S0; unhygienic intros)
    | ((with_reducible show wpAny _ _ (eval (Expr.Constant (Const.bool _) _ _) _) _ _ _); refine wpAny_Constant_bool ?_)
    | ((with_reducible show wpAny _ _ (eval (Expr.Constant (Const.none) _ _) _) _ _ _); refine wpAny_Constant_none ?_)
    | ((with_reducible show wpAny _ _ (eval (Expr.BinOp _ _ _ _) _) _ _ _); refine wpAny_BinOp ?_)
    | ((with_reducible show wpAny _ _ (eval (Expr.Subscript _ _ _) _) _ _ _); refine Subscript_ ?_)
    | ((with_reducible show wpAny _ _ (eval (Expr.Tuple _ _ _) _) _ _ _); refine Tuple_ ?_)
    | ((with_reducible show wpAny _ _ (eval (Expr.List _ _) _) _ _ _); refine List_ ?_)
    | ((with_reducible show wpAny _ _ (eval (Expr.Call (Expr.Attribute _ _ _) _ [] _) _) _ _ _); refine MethodCall_ ?_)
    | ((with_reducible show wpAny _ _ (eval (Expr.Call _ _ [] _) _) _ _ _); refine Call_ ?_)
    | ((with_reducible show wpAny _ _ (eval (Expr.IfExp _ _ _ _) _) _ _ _); refine wpAny_IfExp ?_)
    | ((with_reducible show wpAny _ _ (eval (Expr.Dict [] [] _) _) _ _ _); rename St _ _ _ _ _ _ _ _ => S0; refine S0.ndict ?_; clear S0; unhygienic intros)
    | ((with_reducible show wpAny _ _ (eval (Expr.Compare _ [_] [_] _) _) _ _ _); refine wpAny_Compare1 ?_)
    | ((with_reducible show wpAny _ _ (eval (Expr.Attribute _ _ _) _) _ _ _); refine Attribute_any_ ?_ (by rfl))
    | ((with_reducible show wpAny _ _ (eval (Expr.JoinedStr (_ :: _ :: _) _) _) _ _ _); refine x_js ?_))
  | ((with_reducible show wpAny _ _ (spliced _) _ _ _); first
    | ((with_reducible show wpAny _ _ (spliced (backTo _ (starEach [] _))) _ _ _); refine wpAny_items_nil ?_)
    | ((with_reducible show wpAny _ _ (spliced (backTo _ (starEach (_ :: _) _))) _ _ _); refine wpAny_items_cons ?_))
  | ((with_reducible show wpAny _ _ (newTuple _) _ _ _); rename St _ _ _ _ _ _ _ _ => S0; refine S0.ntup ?_; clear S0; unhygienic intros)
  | ((with_reducible show wpAny _ _ (newList _) _ _ _); rename St _ _ _ _ _ _ _ _ => S0; refine S0.nlist ?_; clear S0; unhygienic intros)
  | ((with_reducible show wpAny _ _ (storeName _ _ _) _ _ _); rename St _ _ _ _ _ _ _ _ => S0; refine S0.st ?_; clear S0; unhygienic intros)
  | ((with_reducible show wpAny _ _ (execs _ _) _ _ _); first
    | ((with_reducible show wpAny _ _ (execs (Stmt.Assign [Expr.Name _ _] _ _ :: _) _) _ _ _); refine x_assign ?_)
    | ((with_reducible show wpAny _ _ (execs (Stmt.Return (some _) _ :: _) _) _ _ _); refine x_return ?_)
    | ((with_reducible show wpAny _ _ (execs (Stmt.If _ _ _ _ :: _) _) _ _ _); refine x_if ?_)
    | ((with_reducible show wpAny _ _ (execs (Stmt.Expr _ _ :: _) _) _ _ _); refine x_expr ?_)
    | ((with_reducible show wpAny _ _ (execs (Stmt.AugAssign (Expr.Name _ _) _ _ _ :: _) _) _ _ _); refine x_aug ?_)
    | ((with_reducible show wpAny _ _ (execs [] _) _ _ _); refine x_nil ?_; try dsimp only)
    | ((with_reducible show wpAny _ _ (execs (Stmt.Assign [Expr.Subscript _ _ _] _ _ :: _) _) _ _ _); refine x_assign_sub ?_)
    | ((with_reducible show wpAny _ _ (execs (Stmt.For _ _ _ _ _ :: _) _) _ _ _); refine x_for ?_))
  | ((with_reducible show wpAny _ _ (isTrue _ _ _) _ _ _); first
    | ((with_reducible show wpAny _ _ (isTrue (Expr.Call _ _ _ _) _ _) _ _ _); refine wpAny_isTrue_value ?_)
    | ((with_reducible show wpAny _ _ (isTrue (Expr.Name _ _) _ _) _ _ _); refine wpAny_isTrue_value ?_)
    | ((with_reducible show wpAny _ _ (isTrue (Expr.Compare _ [_] [_] _) _ _) _ _ _); refine wpAny_isTrue_Compare1 ?_)
    | ((with_reducible show wpAny _ _ (isTrue (Expr.BoolOp _ _ _) _ _) _ _ _); refine wpAny_isTrue_BoolOp ?_))
  | ((with_reducible show wpAny _ _ (truthy (Value.bool _)) _ _ _); refine wpAny_truthy_bool ?_)
  | ((with_reducible show wpAny _ _ (callWith _ _ _ _ _) _ _ _); first
    | ((with_reducible show wpAny _ _ (callWith _ (Value.type _) _ (backTo _ (starEach (_ :: _) _)) []) _ _ _); refine PyProof.Rows.callWith_type1 ?_)
    | ((with_reducible show wpAny _ _ (callWith _ (Value.builtin _) [] (backTo _ (starEach (_ :: _) _)) []) _ _ _); refine PyProof.Rows.callWith_builtin1 ?_)
    | ((with_reducible show wpAny _ _ (callWith _ (Value.builtin _) (_ :: _) (backTo _ (starEach (_ :: _) _)) []) _ _ _); refine PyProof.Rows.callWith_method1 ?_)
    | ((with_reducible show wpAny _ _ (callWith _ (Value.builtin _) (_ :: _) (backTo _ (starEach [] _)) []) _ _ _); refine PyProof.Rows.callWith_method0 ?_))
  | ((with_reducible show wpAny _ _ (binaryOp _ _ _) _ _ _); first
    | ((with_reducible show wpAny _ _ (binaryOp Operator.Mod (Value.int _ _) (Value.int _ _)) _ _ _); rename St _ _ _ _ _ _ _ _ => S0; refine S0.i1 (fun h => mod_int (by decide) h) ?_; clear S0; unhygienic intros)
    | ((with_reducible show wpAny _ _ (binaryOp Operator.Add (Value.int _ _) (Value.int _ _)) _ _ _); rename St _ _ _ _ _ _ _ _ => S0; refine S0.i1 (fun h => add_int h) ?_; clear S0; unhygienic intros)
    | ((with_reducible show wpAny _ _ (binaryOp Operator.Sub (Value.int _ _) (Value.int _ _)) _ _ _); rename St _ _ _ _ _ _ _ _ => S0; refine S0.i1 (fun h => sub_int h) ?_; clear S0; unhygienic intros)
    | ((with_reducible show wpAny _ _ (binaryOp Operator.FloorDiv (Value.int _ _) (Value.int _ _)) _ _ _); rename St _ _ _ _ _ _ _ _ => S0; refine S0.i1 (fun h => floordiv_int (by decide) h) ?_; clear S0; unhygienic intros))
  | ((with_reducible show wpAny _ _ (allTrue _ _ _) _ _ _); first
    | ((with_reducible show wpAny _ _ (allTrue BoolOp.And (_ :: _) _) _ _ _); refine wpAny_allTrue_And_cons ?_)
    | ((with_reducible show wpAny _ _ (allTrue BoolOp.Or (_ :: _) _) _ _ _); refine wpAny_allTrue_Or_cons ?_)
    | ((with_reducible show wpAny _ _ (allTrue BoolOp.And [] _) _ _ _); refine wpAny_allTrue_And_nil ?_)
    | ((with_reducible show wpAny _ _ (allTrue BoolOp.Or [] _) _ _ _); refine wpAny_allTrue_Or_nil ?_))
  | (refine ite_t1 ?_)
  | (refine ite_f1 ?_))
local macro_rules | `(tactic| walk_at "go") => `(tactic| repeat walk_at "go1")

noncomputable def oI161 : {l : List Stmt // f161.1.body = .stmts l} := ⟨_, rfl⟩
theorem k171m (w : World) : makesIn (hd.heap_39 w.params) 171 = true := by k_is
theorem k171i (w : World) : findIn (hd.heap_39 w.params) (.ref 171) "__init__" = some (some (.ref 161)) := by k_is
theorem k161t (w : World) : typeIn (hd.heap_39 w.params) (.ref 161) = some (.type "function") := by k_is
theorem k171s (w : World) : findIn (hd.heap_39 w.params) (.ref 171) "__setattr__" = some (some (.builtin "object.__setattr__")) := by k_is
theorem k171p (w : World) : plainOver (hd.heap_39 w.params) 171 = true := by k_is
theorem k171h (w : World) : hasDictIn (hd.heap_39 w.params) 171 = true := by k_is
theorem k171g (w : World) (x : Str) : plainGet (hd.heap_39 w.params) 171 x = true := by show plainGet (hd.heap_39 w.params) 171 "" = true; k_is
theorem t171_table (w : World) : takerIn (hd.heap_39 w.params) 171 "table" = some none := by k_is
theorem t171_name (w : World) : takerIn (hd.heap_39 w.params) 171 "name" = some none := by k_is
theorem t171_cql_type (w : World) : takerIn (hd.heap_39 w.params) 171 "cql_type" = some none := by k_is
theorem t171_is_static (w : World) : takerIn (hd.heap_39 w.params) 171 "is_static" = some none := by k_is
theorem t171_is_reversed (w : World) : takerIn (hd.heap_39 w.params) 171 "is_reversed" = some none := by k_is
theorem a171_name (w : World) : findIn (hd.heap_39 w.params) (.ref 171) "name" = some (some .none) := by k_is
theorem a171_cql_type (w : World) : findIn (hd.heap_39 w.params) (.ref 171) "cql_type" = some (some .none) := by k_is
theorem a171_is_static (w : World) : findIn (hd.heap_39 w.params) (.ref 171) "is_static" = some (some (.bool false)) := by k_is
theorem a171_is_reversed (w : World) : findIn (hd.heap_39 w.params) (.ref 171) "is_reversed" = some (some (.bool false)) := by k_is
theorem ng_none (w : World) : noGet (hd.heap_39 w.params) (some .none) = true := by k_is
theorem ng_false (w : World) : noGet (hd.heap_39 w.params) (some (.bool false)) = true := by k_is
local macro_rules | `(tactic| walk_at "sa") => `(tactic| (rename St _ _ _ _ _ _ _ _ => S0; refine S0.setattr (C := 171) (pre := [_]) (post := []) (.head _) (by rfl) (k171s _) (k171p _) (by first | exact t171_table _ | exact t171_name _ | exact t171_cql_type _ | exact t171_is_static _ | exact t171_is_reversed _) (k171h _) (by rfl) (Nat.le_of_ble_eq_true (by rfl)) ?_; clear S0; unhygienic intros))
/-- a column -/
structure ColIs (h : Heap) (v : Value) (nm : Str) (rev : Bool) (x dx : Nat) (es : List DictEntry) (n : Nat) : Prop where
  v : v = .ref x
  hx : 218 ≤ x
  hd : 218 ≤ dx
  x : h.get? x = some (instObj 171 dx)
  dx : h.get? dx = some (dictOf es n)
  name : ∃ t, getL "name" es = some (some (.str nm t))
  typ : ∃ t, getL "cql_type" es = some (some (.str "int" t))
  stat : getL "is_static" es = some (some (.bool false))
  rev : getL "is_reversed" es = some (some (.bool rev))
def ColIn (h : Heap) (v : Value) (nm : Str) (rev : Bool) : Prop := ∃ x dx es n, ColIs h v nm rev x dx es n
theorem ColIn.keep {h h' : Heap} (k : Keep h h') {v nm rev} (c : ColIn h v nm rev) : ColIn h' v nm rev :=
  let ⟨x, dx, es, n, c⟩ := c
  ⟨x, dx, es, n, c.v, c.hx, c.hd, k _ _ (by have := c.hx; omega) (by have := c.hx; omega) c.x, k _ _ (by have := c.hd; omega) (by have := c.hd; omega) c.dx, c.name, c.typ, c.stat, c.rev⟩
section
variable {w : World} {mg mb : Str → Option Value} {s : Shared} {A : Around} {E : Value → Shared → Prop}
theorem spec_col_body {k : Nat} {nm : Str} {rev : Bool} {t1 t2 : Tok} {x dx L : Nat} {Q : Value → Shared → Prop} {s₁ : Shared} (R : Rm A k)
    (S : St w mg mb s L [("is_reversed", .bool rev), ("is_static", .bool false), ("cql_type", .str "int" t2), ("column_name", .str nm t1), ("table_metadata", .none), ("self", .ref x)] [(x, instObj 171 dx), (dx, emptyDict)] s₁)
    (h : ∀ x s', Aft s s' → Ok w mg mb s' → ColIn (anew s.heap s'.heap) (.ref x) nm rev → Q (.ref x) s') :
    wpAny (model PR w) A (execs oI161.1 (callEnv f161.1 L 161)) (fun fl s' => (match fl with | .ret v => v | _ => .none) = .none ∧ Q (.ref x) s') NoE s₁ := by
  refine x_assign_attr ?_
  walk_at "go"
  rename St _ _ _ _ _ _ _ _ => S
  walk_at "sa"
  iterate 4 (refine x_assign_attr ?_; (repeat walk_at "go1"); walk_at "sa")
  rename St _ _ _ _ _ _ _ _ => S
  refine x_nil ⟨rfl, ?_⟩
  have hx := S.nw _ (.head _)
  have hd := S.nw _ (.tail _ (.head _))
  exact h x _ S.aft0 S.ok ⟨x, dx, _, _, rfl, hx.2.2.2, hd.2.2.2, anew_in hx.1 hx.2.2.1, anew_in hd.1 hd.2.2.1, ⟨_, by rfl⟩, ⟨_, by rfl⟩, by rfl, by rfl⟩
theorem spec_col5 (O : Ok w mg mb s) {k : Nat} (R : Rm A (k + 2)) {nm : Str} {rev : Bool} {t1 t2 : Tok} {Q : Value → Shared → Prop}
    (h : ∀ x s', Aft s s' → Ok w mg mb s' → ColIn (anew s.heap s'.heap) (.ref x) nm rev → Q (.ref x) s') : wpAny (model PR w) A (call (.ref 171) [.none, .str nm t1, .str "int" t2, .bool false, .bool rev]) Q E s := by
  refine O.make R (k171m w) (k171i w) (k161t w) (o161.2 w) f161.2 (fun _ X => c161 X) oI161.2 (binds := fun x => [("self", x), ("table_metadata", .none), ("column_name", .str nm t1), ("cql_type", .str "int" t2), ("is_static", .bool false), ("is_reversed", .bool rev)]) (fun x s' X => binds_K X (by rfl) (o154.2 w) (by rfl) (by rfl) (by rfl)) (by decide) (by intro y x hx; simp at hx; rcases hx with rfl | rfl | rfl | rfl | rfl | rfl <;> rfl) fun x dx L A' s₁ S R => ?_
  exact spec_col_body R S h
theorem spec_col3 (O : Ok w mg mb s) {k : Nat} (R : Rm A (k + 2)) {nm : Str} {t1 t2 : Tok} {Q : Value → Shared → Prop}
    (h : ∀ x s', Aft s s' → Ok w mg mb s' → ColIn (anew s.heap s'.heap) (.ref x) nm false → Q (.ref x) s') : wpAny (model PR w) A (call (.ref 171) [.none, .str nm t1, .str "int" t2]) Q E s := by
  refine O.make R (k171m w) (k171i w) (k161t w) (o161.2 w) f161.2 (fun _ X => c161 X) oI161.2 (binds := fun x => [("self", x), ("table_metadata", .none), ("column_name", .str nm t1), ("cql_type", .str "int" t2), ("is_static", .bool false), ("is_reversed", .bool false)]) (fun x s' X => binds_K X (by rfl) (o154.2 w) (by rfl) (by rfl) (by rfl)) (by decide) (by intro y x hx; simp at hx; rcases hx with rfl | rfl | rfl | rfl | rfl | rfl <;> rfl) fun x dx L A' s₁ S R => ?_
  exact spec_col_body R S h
end
end Mine

namespace Mine
theorem kf_fill_K4 (w : World) : (hd.heap_39 w.params) = (hd.heap_39 w.params) ∧ PySem.Challenge.rw_bq5006_01 = PySem.Challenge.rw_bq5006_01 := by
  k_fill
  exact ⟨rfl, rfl⟩
local macro_rules | `(tactic| walk_at "kis") => `(tactic| (show nsIn (hd.heap_39 _) _ _ = _; k_is))
local macro_rules | `(tactic| walk_at "go1") => `(tactic| first
  | ((with_reducible show wpAny _ _ (eval _ _) _ _ _); first
    | ((with_reducible show wpAny _ _ (eval (Expr.Name _ _) _) _ _ _); rename St _ _ _ _ _ _ _ _ => S0; first | (refine S0.ld (by rfl) ?_) | (refine S0.ok.ldg (by walk_at "kis") ?_) | (refine S0.ok.ldb (by walk_at "kis") (by first | exact bb_len | exact bb_range | exact bb_isinstance | exact bb_dict | exact bb_str | exact bb_list | exact bb_sorted | exact bb_int | exact bb_float | exact bb_bool) ?_))
    | ((with_reducible show wpAny _ _ (eval (Expr.Constant (Const.int _) _ _) _) _ _ _); rename St _ _ _ _ _ _ _ _ => S0; refine S0.cint ?_; clear S0; unhygienic intros)
    | ((with_reducible show wpAny _ _ (eval (Expr.Constant (Const.str _) _ _) _) _ _ _); rename St _ _ _ _ _ _ _ _ => S0; refine S0.cstr ?_; clear S0; unhygienic intros)
    | ((with_reducible show wpAny _ _ (eval (Expr.Constant (Const.bool _) _ _) _) _ _ _); refine wpAny_Constant_bool ?_)
    | ((with_reducible show wpAny _ _ (eval (Expr.Constant (Const.none) _ _) _) _ _ _); refine wpAny_Constant_none ?_)
    | ((with_reducible show wpAny _ _ (eval (Expr.BinOp _ _ _ _) _) _ _ _); refine wpAny_BinOp ?_)
    | ((with_reducible show wpAny _ _ (eval (Expr.Subscript _ _ _) _) _ _ _); refine Subscript_ ?_)
    | ((with_reducible show wpAny _ _ (eval (Expr.Tuple _ _ _) _) _ _ _); refine Tuple_ ?_)
    | ((with_reducible show wpAny _ _ (eval (Expr.List _ _) _) _ _ _); refine List_ ?_)
    | ((with_reducible show wpAny _ _ (eval (Expr.Call (Expr.Attribute _ _ _) _ [] _) _) _ _ _); refine MethodCall_ ?_)
    | ((with_reducible show wpAny _ _ (eval (Expr.Call _ _ [] _) _) _ _ _); refine Call_ ?_)
    | ((with_reducible show wpAny _ _ (eval (Expr.IfExp _ _ _ _) _) _ _ _); refine wpAny_IfExp ?_)
    | ((with_reducible show wpAny _ _ (eval (Expr.Dict [] [] _) _) _ _ _); rename St _ _ _ _ _ _ _ _ => S0; refine S0.ndict ?_; clear S0; unhygienic intros)
    | ((with_reducible show wpAny _ _ (eval (Expr.Compare _ [_] [_] _) _) _ _ _); refine wpAny_Compare1 ?_)
    | ((with_reducible show wpAny _ _ (eval (Expr.Attribute _ _ _) _) _ _ _); refine Attribute_any_ ?_ (by rfl))
    | ((with_reducible show wpAny _ _ (eval (Expr.JoinedStr (_ :: _ :: _) _) _) _ _ _); refine x_js ?_))
  | ((with_reducible show wpAny _ _ (spliced _) _ _ _); first
    | ((with_reducible show wpAny _ _ (spliced (backTo _ (starEach [] _))) _ _ _); refine wpAny_items_nil ?_)
    | ((with_reducible show wpAny _ _ (spliced (backTo _ (starEach (_ :: _) _))) _ _ _); refine wpAny_items_cons ?_))
  | ((with_reducible show wpAny _ _ (newTuple _) _ _ _); rename St _ _ _ _ _ _ _ _ => S0; refine S0.ntup ?_; clear S0; unhygienic intros)
  | ((with_reducible show wpAny _ _ (newList _) _ _ _); rename St _ _ _ _ _ _ _ _ => S0; refine S0.nlist ?_; clear S0; unhygienic intros)
  | ((with_reducible show wpAny _ _ (storeName _ _ _) _ _ _); rename St _ _ _ _ _ _ _ _ => S0; refine S0.st ?_; clear S0; unhygienic intros)
  | ((with_reducible show wpAny _ _ (execs _ _) _ _ _); first
    | ((with_reducible show wpAny _ _ (execs (Stmt.Assign [Expr.Name _ _] _ _ :: _) _) _ _ _); refine x_assign ?_)
    | ((with_reducible show wpAny _ _ (execs (Stmt.Return (some _) _ :: _) _) _ _ _); refine x_return ?_)
    | ((with_reducible show wpAny _ _ (execs (Stmt.If _ _ _ _ :: _) _) _ _ _); refine x_if ?_)
    | ((with_reducible show wpAny _ _ (execs (Stmt.Expr _ _ :: _) _) _ _ _); refine x_expr ?_)
    | ((with_reducible show wpAny _ _ (execs (Stmt.AugAssign (Expr.Name _ _) _ _ _ :: _) _) _ _ _); refine x_aug ?_)
    | ((with_reducible show wpAny _ _ (execs [] _) _ _ _); refine x_nil ?_; try dsimp only)
    | ((with_reducible show wpAny _ _ (execs (Stmt.Assign [Expr.Subscript _ _ _] _ _ :: _) _) _ _ _); refine x_assign_sub ?_)
    | ((with_reducible show wpAny _ _ (execs (Stmt.For _ _ _ _ _ :: _) _) _ _ _); refine x_for ?_))
  | ((with_reducible show wpAny _ _ (isTrue _ _ _) _ _ _); first
    | ((with_reducible show wpAny _ _ (isTrue (Expr.Call _ _ _ _) _ _) _ _ _); refine wpAny_isTrue_value ?_)
    | ((with_reducible show wpAny _ _ (isTrue (Expr.Name _ _) _ _) _ _ _); refine wpAny_isTrue_value ?_)
    | ((with_reducible show wpAny _ _ (isTrue (Expr.Compare _ [_] [_] _) _ _) _ _ _); refine wpAny_isTrue_Compare1 ?_)
    | ((with_reducible show wpAny _ _ (isTrue (Expr.BoolOp _ _ _) _ _) _ _ _); refine wpAny_isTrue_BoolOp ?_))
  | ((with_reducible show wpAny _ _ (truthy (Value.bool _)) _ _ _); refine wpAny_truthy_bool ?_)
  | ((with_reducible show wpAny _ _ (callWith _ _ _ _ _) _ _ _); first
    | ((with_reducible show wpAny _ _ (callWith _ (Value.type _) _ (backTo _ (starEach (_ :: _) _)) []) _ _ _); refine PyProof.Rows.callWith_type1 ?_)
    | ((with_reducible show wpAny _ _ (callWith _ (Value.builtin _) [] (backTo _ (starEach (_ :: _) _)) []) _ _ _); refine PyProof.Rows.callWith_builtin1 ?_)
    | ((with_reducible show wpAny _ _ (callWith _ (Value.builtin _) (_ :: _) (backTo _ (starEach (_ :: _) _)) []) _ _ _); refine PyProof.Rows.callWith_method1 ?_)
    | ((with_reducible show wpAny _ _ (callWith _ (Value.builtin _) (_ :: _) (backTo _ (starEach [] _)) []) _ _ _); refine PyProof.Rows.callWith_method0 ?_))
  | ((with_reducible show wpAny _ _ (binaryOp _ _ _) _ _ _); first
    | ((with_reducible show wpAny _ _ (binaryOp Operator.Mod (Value.int _ _) (Value.int _ _)) _ _ _); rename St _ _ _ _ _ _ _ _ => S0; refine S0.i1 (fun h => mod_int (by decide) h) ?_; clear S0; unhygienic intros)
    | ((with_reducible show wpAny _ _ (binaryOp Operator.Add (Value.int _ _) (Value.int _ _)) _ _ _); rename St _ _ _ _ _ _ _ _ => S0; refine S0.i1 (fun h => add_int h) ?_; clear S0; unhygienic intros)
    | ((with_reducible show wpAny _ _ (binaryOp Operator.Sub (Value.int _ _) (Value.int _ _)) _ _ _); rename St _ _ _ _ _ _ _ _ => S0; refine S0.i1 (fun h => sub_int h) ?_; clear S0; unhygienic intros)
    | ((with_reducible show wpAny _ _ (binaryOp Operator.FloorDiv (Value.int _ _) (Value.int _ _)) _ _ _); rename St _ _ _ _ _ _ _ _ => S0; refine S0.i1 (fun h => floordiv_int (by decide) h) ?_; clear S0; unhygienic intros))
  | ((with_reducible show wpAny _ _ (allTrue _ _ _) _ _ _); first
    | ((with_reducible show wpAny _ _ (allTrue BoolOp.And (_ :: _) _) _ _ _); refine wpAny_allTrue_And_cons ?_)
    | ((with_reducible show wpAny _ _ (allTrue BoolOp.Or (_ :: _) _) _ _ _); refine wpAny_allTrue_Or_cons ?_)
    | ((with_reducible show wpAny _ _ (allTrue BoolOp.And [] _) _ _ _); refine wpAny_allTrue_And_nil ?_)
    | ((with_reducible show wpAny _ _ (allTrue BoolOp.Or [] _) _ _ _); refine wpAny_allTrue_Or_nil ?_))
  | (refine ite_t1 ?_)
  | (refine ite_f1 ?_))
local macro_rules | `(tactic| walk_at "go") => `(tactic| repeat walk_at "go1")

theorem find_put_ne {x y : Str} (hxy : x ≠ y) (hs : Int) (t : Tok) (v : Value) : ∀ es : List DictEntry, (putL x hs (.str x t) v es).find? (·.key.isStr y) = (es.find? (·.key.isStr y)).map id ∧ (putL x hs (.str x t) v es).any (·.refKey) = es.any (·.refKey)
  | [] => by
    have : (Value.str x t).isStr y = false := beq_eq_false_iff_ne.mpr hxy
    simp [putL, this]
    rfl
  | e :: r => by
    obtain ⟨ih1, ih2⟩ := find_put_ne hxy hs t v r
    unfold putL
    by_cases h : e.key.isStr x = true
    · rw [if_pos h]
      have hy : e.key.isStr y = false := by
        obtain ⟨eh, ek, ev⟩ := e
        cases ek <;> first | cases h | skip
        have q : _ = x := beq_iff_eq.mp h
        subst q
        exact beq_eq_false_iff_ne.mpr hxy
      simp only [List.find?_cons, hy, List.any_cons]
      exact ⟨by simp, by first | trivial | rfl⟩
    · rw [if_neg h]
      simp only [List.find?_cons, List.any_cons, ih2]
      refine ⟨?_, by first | trivial | rfl⟩
      cases e.key.isStr y with
      | true => rfl
      | false => exact ih1
theorem getL_put_ne {x y : Str} (hxy : x ≠ y) {hs : Int} {t : Tok} {v : Value} {es : List DictEntry} : getL y (putL x hs (.str x t) v es) = getL y es := by
  obtain ⟨a, b⟩ := find_put_ne hxy hs t v es
  unfold getL
  rw [a, b, Option.map_id]
  rfl
theorem getL_put {x : Str} {hs : Int} {t : Tok} {v : Value} : ∀ es : List DictEntry, getL x (putL x hs (.str x t) v es) = some (some v)
  | [] => by
    have : (Value.str x t).isStr x = true := beq_iff_eq.mpr rfl
    simp [putL, getL, this]
  | e :: r => by
    have ih := getL_put (x := x) (hs := hs) (t := t) (v := v) r
    unfold putL
    by_cases h : e.key.isStr x = true
    · rw [if_pos h]
      unfold getL
      simp only [List.find?_cons, h]
    · rw [if_neg h]
      have h' : e.key.isStr x = false := by simpa using h
      have : ∃ en, (putL x hs (.str x t) v r).find? (·.key.isStr x) = some en ∧ en.val = v := by
        unfold getL at ih
        split at ih
        · rename_i en he; cases ih; exact ⟨en, he, rfl⟩
        · split at ih <;> cases ih
      obtain ⟨en, h1, h2⟩ := this
      unfold getL
      simp only [List.find?_cons, h', h1, h2]
theorem len_put (x : Str) (h1 h2 : Int) (k1 k2 v : Value) : ∀ l : List DictEntry, (putL x h1 k1 v l).length ≤ l.length + 1
  | [] => by simp [putL]
  | a :: l => by
    have := len_put x h1 h2 k1 k2 v l
    unfold putL; split <;> simp <;> omega
noncomputable def oI56 : {l : List Stmt // f56.1.body = .stmts l} := ⟨_, rfl⟩
theorem k104m (w : World) : makesIn (hd.heap_39 w.params) 104 = true := by k_is
theorem k104i (w : World) : findIn (hd.heap_39 w.params) (.ref 104) "__init__" = some (some (.ref 56)) := by k_is
theorem k56t (w : World) : typeIn (hd.heap_39 w.params) (.ref 56) = some (.type "function") := by k_is
theorem k104s (w : World) : findIn (hd.heap_39 w.params) (.ref 104) "__setattr__" = some (some (.builtin "object.__setattr__")) := by k_is
theorem k104p (w : World) : plainOver (hd.heap_39 w.params) 104 = true := by k_is
theorem k104h (w : World) : hasDictIn (hd.heap_39 w.params) 104 = true := by k_is
theorem k104g (w : World) (x : Str) : plainGet (hd.heap_39 w.params) 104 x = true := by show plainGet (hd.heap_39 w.params) 104 "" = true; k_is
theorem t104_keyspace_name (w : World) : takerIn (hd.heap_39 w.params) 104 "keyspace_name" = some none := by k_is
theorem t104_name (w : World) : takerIn (hd.heap_39 w.params) 104 "name" = some none := by k_is
theorem t104_partition_key (w : World) : takerIn (hd.heap_39 w.params) 104 "partition_key" = some none := by k_is
theorem t104_clustering_key (w : World) : takerIn (hd.heap_39 w.params) 104 "clustering_key" = some none := by k_is
theorem t104_columns (w : World) : takerIn (hd.heap_39 w.params) 104 "columns" = some none := by k_is
theorem t104_indexes (w : World) : takerIn (hd.heap_39 w.params) 104 "indexes" = some none := by k_is
theorem t104_options (w : World) : takerIn (hd.heap_39 w.params) 104 "options" = some none := by k_is
theorem t104_comparator (w : World) : takerIn (hd.heap_39 w.params) 104 "comparator" = some none := by k_is
theorem t104_triggers (w : World) : takerIn (hd.heap_39 w.params) 104 "triggers" = some none := by k_is
theorem t104_views (w : World) : takerIn (hd.heap_39 w.params) 104 "views" = some none := by k_is
theorem t104_virtual (w : World) : takerIn (hd.heap_39 w.params) 104 "virtual" = some none := by k_is
theorem t104_is_compact_storage (w : World) : takerIn (hd.heap_39 w.params) 104 "is_compact_storage" = some none := by k_is
theorem a104_keyspace_name (w : World) : findIn (hd.heap_39 w.params) (.ref 104) "keyspace_name" = some (some .none) := by k_is
theorem a104_name (w : World) : findIn (hd.heap_39 w.params) (.ref 104) "name" = some (some .none) := by k_is
theorem a104_partition_key (w : World) : findIn (hd.heap_39 w.params) (.ref 104) "partition_key" = some (some .none) := by k_is
theorem a104_clustering_key (w : World) : findIn (hd.heap_39 w.params) (.ref 104) "clustering_key" = some (some .none) := by k_is
theorem a104_columns (w : World) : findIn (hd.heap_39 w.params) (.ref 104) "columns" = some (some .none) := by k_is
theorem a104_options (w : World) : findIn (hd.heap_39 w.params) (.ref 104) "options" = some (some .none) := by k_is
theorem a104_virtual (w : World) : findIn (hd.heap_39 w.params) (.ref 104) "virtual" = some (some (.bool false)) := by k_is
theorem a104_is_compact_storage (w : World) : findIn (hd.heap_39 w.params) (.ref 104) "is_compact_storage" = some (some (.bool false)) := by k_is
local macro_rules | `(tactic| walk_at "sa") => `(tactic| (rename St _ _ _ _ _ _ _ _ => S0; refine S0.setattr (C := 104) (pre := [_]) (post := []) (.head _) (by rfl) (k104s _) (k104p _) (by first | exact t104_keyspace_name _ | exact t104_name _ | exact t104_partition_key _ | exact t104_clustering_key _ | exact t104_columns _ | exact t104_indexes _ | exact t104_options _ | exact t104_comparator _ | exact t104_triggers _ | exact t104_views _ | exact t104_virtual _) (k104h _) (by rfl) (Nat.le_of_ble_eq_true (by rfl)) ?_; clear S0; unhygienic intros))
/-- the table -/
structure TabObj (h : Heap) (x dx : Nat) (es : List DictEntry) (n : Nat) (pk ck cs op : Nat) : Prop where
  hx : 218 ≤ x
  hd : 218 ≤ dx
  x : h.get? x = some (instObj 104 dx)
  dx : h.get? dx = some (dictOf es n)
  ks : ∃ t, getL "keyspace_name" es = some (some (.str "k" t))
  name : ∃ t, getL "name" es = some (some (.str "t" t))
  pk : getL "partition_key" es = some (some (.ref pk))
  ck : getL "clustering_key" es = some (some (.ref ck))
  cs : getL "columns" es = some (some (.ref cs))
  op : getL "options" es = some (some (.ref op))
  vi : getL "virtual" es = some (some (.bool false))
section
variable {w : World} {mg mb : Str → Option Value} {s : Shared} {A : Around} {E : Value → Shared → Prop}
theorem spec_table (O : Ok w mg mb s) {k : Nat} (R : Rm A (k + 2)) {pk ck cs op : Nat} {t1 t2 : Tok} {Q : Value → Shared → Prop}
    (h : ∀ (x dx : Nat) es n s', Aft s s' → Ok w mg mb s' → TabObj s'.heap x dx es n pk ck cs op → s.heap.get? x = none → s.heap.get? dx = none → x ≠ dx → es.length = 11 → (getL "is_compact_storage" es).isSome = true → getL "_property_string" es = some none → getL "as_cql_query" es = some none → Q (.ref x) s') :
    wpAny (model PR w) A (call (.ref 104) [.str "k" t1, .str "t" t2, .ref pk, .ref ck, .ref cs, .none, .ref op]) Q E s := by
  refine O.make R (k104m w) (k104i w) (k56t w) (o56.2 w) f56.2 (fun _ X => c56 X) oI56.2 (binds := fun x => [("self", x), ("keyspace_name", .str "k" t1), ("name", .str "t" t2), ("partition_key", .ref pk), ("clustering_key", .ref ck), ("columns", .ref cs), ("triggers", .none), ("options", .ref op), ("virtual", .bool false)]) (fun x s' X => binds_K X (by rfl) (o49.2 w) (by rfl) (by rfl) (by rfl)) (by decide) (by intro y x hx; simp at hx; rcases hx with rfl | rfl | rfl | rfl | rfl | rfl | rfl | rfl | rfl <;> rfl) fun x dx L A' s₁ S R => ?_
  refine x_assign_attr ?_
  walk_at "go"
  rename St _ _ _ _ _ _ _ _ => S
  walk_at "sa"
  refine x_assign_attr ?_
  walk_at "go"
  rename St _ _ _ _ _ _ _ _ => S
  walk_at "sa"
  iterate 3 (refine x_assign_attr ?_; (repeat walk_at "go1"); refine is_none ?_; rw [show (∀ a : Nat, (Value.ref a == Value.none) = false) from fun _ => rfl]; (repeat walk_at "go1"); walk_at "sa")
  refine x_assign_attr ?_
  walk_at "go"
  rename St _ _ _ _ _ _ _ _ => S
  replace S := S.drop (.cons _ (.refl _))
  walk_at "go"
  rename St _ _ _ _ _ _ _ _ => S
  walk_at "sa"
  refine x_assign_attr ?_
  walk_at "go"
  rename St _ _ _ _ _ _ _ _ => S
  refine is_none ?_
  rw [show (∀ a : Nat, (Value.ref a == Value.none) = false) from fun _ => rfl]
  walk_at "go"
  rename St _ _ _ _ _ _ _ _ => S
  walk_at "sa"
  refine x_assign_attr ?_
  walk_at "go"
  rename St _ _ _ _ _ _ _ _ => S
  walk_at "sa"
  refine x_assign_attr ?_
  walk_at "go"
  rename St _ _ _ _ _ _ _ _ => S
  refine is_none ?_
  rw [show (Value.none == Value.none) = true from rfl]
  walk_at "go"
  rename St _ _ _ _ _ _ _ _ => S
  replace S := S.drop (.cons _ (.refl _))
  walk_at "go"
  rename St _ _ _ _ _ _ _ _ => S
  walk_at "sa"
  refine x_assign_attr ?_
  walk_at "go"
  rename St _ _ _ _ _ _ _ _ => S
  replace S := S.drop (.cons _ (.refl _))
  walk_at "go"
  rename St _ _ _ _ _ _ _ _ => S
  walk_at "sa"
  refine x_assign_attr ?_
  walk_at "go"
  rename St _ _ _ _ _ _ _ _ => S
  walk_at "sa"
  rename St _ _ _ _ _ _ _ _ => S
  refine x_nil ⟨rfl, ?_⟩
  have hx := S.nw _ (.head _)
  have hd := S.nw _ (.tail _ (.head _))
  have nd := (List.nodup_cons.mp S.nd).1
  refine h x dx _ _ _ S.aft0 S.ok ⟨hx.2.2.2, hd.2.2.2, hx.1, hd.1, ⟨_, by rfl⟩, ⟨_, by rfl⟩, by rfl, by rfl, by rfl, by rfl, by rfl⟩ hx.2.2.1 hd.2.2.1 (fun e => nd (by rw [e]; exact .head _)) (by rfl) (by rfl) (by rfl) (by rfl)
end
end Mine

namespace Mine
theorem kf_fill_M1 (w : World) : (hd.heap_39 w.params) = (hd.heap_39 w.params) ∧ PySem.Challenge.rw_bq5006_01 = PySem.Challenge.rw_bq5006_01 := by
  k_fill
  exact ⟨rfl, rfl⟩
local macro_rules | `(tactic| walk_at "kis") => `(tactic| (show nsIn (hd.heap_39 _) _ _ = _; k_is))
local macro_rules | `(tactic| walk_at "go1") => `(tactic| first
  | ((with_reducible show wpAny _ _ (eval _ _) _ _ _); first
    | ((with_reducible show wpAny _ _ (eval (Expr.Name _ _) _) _ _ _); rename St _ _ _ _ _ _ _ _ => S0; first | (refine S0.ld (by rfl) ?_) | (refine S0.ok.ldg (by walk_at "kis") ?_) | (refine S0.ok.ldb (by walk_at "kis") (by first | exact bb_len | exact bb_range | exact bb_isinstance | exact bb_dict | exact bb_str | exact bb_list | exact bb_sorted | exact bb_int | exact bb_float | exact bb_bool) ?_))
    | ((with_reducible show wpAny _ _ (eval (Expr.Constant (Const.int _) _ _) _) _ _ _); rename St _ _ _ _ _ _ _ _ => S0; refine S0.cint ?_; clear S0; unhygienic intros)
    | ((with_reducible show wpAny _ _ (eval (Expr.Constant (Const.str _) _ _) _) _ _ _); rename St _ _ _ _ _ _ _ _ => S0; refine S0.cstr ?_; clear S0; unhygienic intros)
    | ((with_reducible show wpAny _ _ (eval (Expr.Constant (Const.bool _) _ _) _) _ _ _); refine wpAny_Constant_bool ?_)
    | ((with_reducible show wpAny _ _ (eval (Expr.Constant (Const.none) _ _) _) _ _ _); refine wpAny_Constant_none ?_)
    | ((with_reducible show wpAny _ _ (eval (Expr.BinOp _ _ _ _) _) _ _ _); refine wpAny_BinOp ?_)
    | ((with_reducible show wpAny _ _ (eval (Expr.Subscript _ _ _) _) _ _ _); refine Subscript_ ?_)
    | ((with_reducible show wpAny _ _ (eval (Expr.Tuple _ _ _) _) _ _ _); refine Tuple_ ?_)
    | ((with_reducible show wpAny _ _ (eval (Expr.List _ _) _) _ _ _); refine List_ ?_)
    | ((with_reducible show wpAny _ _ (eval (Expr.Call (Expr.Attribute _ _ _) _ [] _) _) _ _ _); refine MethodCall_ ?_)
    | ((with_reducible show wpAny _ _ (eval (Expr.Call _ _ [] _) _) _ _ _); refine Call_ ?_)
    | ((with_reducible show wpAny _ _ (eval (Expr.IfExp _ _ _ _) _) _ _ _); refine wpAny_IfExp ?_)
    | ((with_reducible show wpAny _ _ (eval (Expr.Dict [] [] _) _) _ _ _); rename St _ _ _ _ _ _ _ _ => S0; refine S0.ndict ?_; clear S0; unhygienic intros)
    | ((with_reducible show wpAny _ _ (eval (Expr.Compare _ [_] [_] _) _) _ _ _); refine wpAny_Compare1 ?_)
    | ((with_reducible show wpAny _ _ (eval (Expr.Attribute _ _ _) _) _ _ _); refine Attribute_any_ ?_ (by rfl))
    | ((with_reducible show wpAny _ _ (eval (Expr.JoinedStr (_ :: _ :: _) _) _) _ _ _); refine x_js ?_))
  | ((with_reducible show wpAny _ _ (spliced _) _ _ _); first
    | ((with_reducible show wpAny _ _ (spliced (backTo _ (starEach [] _))) _ _ _); refine wpAny_items_nil ?_)
    | ((with_reducible show wpAny _ _ (spliced (backTo _ (starEach (_ :: _) _))) _ _ _); refine wpAny_items_cons ?_))
  | ((with_reducible show wpAny _ _ (newTuple _) _ _ _); rename St _ _ _ _ _ _ _ _ => S0; refine S0.ntup ?_; clear S0; unhygienic intros)
  | ((with_reducible show wpAny _ _ (newList _) _ _ _); rename St _ _ _ _ _ _ _ _ => S0; refine S0.nlist ?_; clear S0; unhygienic intros)
  | ((with_reducible show wpAny _ _ (storeName _ _ _) _ _ _); rename St _ _ _ _ _ _ _ _ => S0; refine S0.st ?_; clear S0; unhygienic intros)
  | ((with_reducible show wpAny _ _ (execs _ _) _ _ _); first
    | ((with_reducible show wpAny _ _ (execs (Stmt.Assign [Expr.Name _ _] _ _ :: _) _) _ _ _); refine x_assign ?_)
    | ((with_reducible show wpAny _ _ (execs (Stmt.Return (some _) _ :: _) _) _ _ _); refine x_return ?_)
    | ((with_reducible show wpAny _ _ (execs (Stmt.If _ _ _ _ :: _) _) _ _ _); refine x_if ?_)
    | ((with_reducible show wpAny _ _ (execs (Stmt.Expr _ _ :: _) _) _ _ _); refine x_expr ?_)
    | ((with_reducible show wpAny _ _ (execs (Stmt.AugAssign (Expr.Name _ _) _ _ _ :: _) _) _ _ _); refine x_aug ?_)
    | ((with_reducible show wpAny _ _ (execs [] _) _ _ _); refine x_nil ?_; try dsimp only)
    | ((with_reducible show wpAny _ _ (execs (Stmt.Assign [Expr.Subscript _ _ _] _ _ :: _) _) _ _ _); refine x_assign_sub ?_)
    | ((with_reducible show wpAny _ _ (execs (Stmt.For _ _ _ _ _ :: _) _) _ _ _); refine x_for ?_))
  | ((with_reducible show wpAny _ _ (isTrue _ _ _) _ _ _); first
    | ((with_reducible show wpAny _ _ (isTrue (Expr.Call _ _ _ _) _ _) _ _ _); refine wpAny_isTrue_value ?_)
    | ((with_reducible show wpAny _ _ (isTrue (Expr.Name _ _) _ _) _ _ _); refine wpAny_isTrue_value ?_)
    | ((with_reducible show wpAny _ _ (isTrue (Expr.Compare _ [_] [_] _) _ _) _ _ _); refine wpAny_isTrue_Compare1 ?_)
    | ((with_reducible show wpAny _ _ (isTrue (Expr.BoolOp _ _ _) _ _) _ _ _); refine wpAny_isTrue_BoolOp ?_))
  | ((with_reducible show wpAny _ _ (truthy (Value.bool _)) _ _ _); refine wpAny_truthy_bool ?_)
  | ((with_reducible show wpAny _ _ (callWith _ _ _ _ _) _ _ _); first
    | ((with_reducible show wpAny _ _ (callWith _ (Value.type _) _ (backTo _ (starEach (_ :: _) _)) []) _ _ _); refine PyProof.Rows.callWith_type1 ?_)
    | ((with_reducible show wpAny _ _ (callWith _ (Value.builtin _) [] (backTo _ (starEach (_ :: _) _)) []) _ _ _); refine PyProof.Rows.callWith_builtin1 ?_)
    | ((with_reducible show wpAny _ _ (callWith _ (Value.builtin _) (_ :: _) (backTo _ (starEach (_ :: _) _)) []) _ _ _); refine PyProof.Rows.callWith_method1 ?_)
    | ((with_reducible show wpAny _ _ (callWith _ (Value.builtin _) (_ :: _) (backTo _ (starEach [] _)) []) _ _ _); refine PyProof.Rows.callWith_method0 ?_))
  | ((with_reducible show wpAny _ _ (binaryOp _ _ _) _ _ _); first
    | ((with_reducible show wpAny _ _ (binaryOp Operator.Mod (Value.int _ _) (Value.int _ _)) _ _ _); rename St _ _ _ _ _ _ _ _ => S0; refine S0.i1 (fun h => mod_int (by decide) h) ?_; clear S0; unhygienic intros)
    | ((with_reducible show wpAny _ _ (binaryOp Operator.Add (Value.int _ _) (Value.int _ _)) _ _ _); rename St _ _ _ _ _ _ _ _ => S0; refine S0.i1 (fun h => add_int h) ?_; clear S0; unhygienic intros)
    | ((with_reducible show wpAny _ _ (binaryOp Operator.Sub (Value.int _ _) (Value.int _ _)) _ _ _); rename St _ _ _ _ _ _ _ _ => S0; refine S0.i1 (fun h => sub_int h) ?_; clear S0; unhygienic intros)
    | ((with_reducible show wpAny _ _ (binaryOp Operator.FloorDiv (Value.int _ _) (Value.int _ _)) _ _ _); rename St _ _ _ _ _ _ _ _ => S0; refine S0.i1 (fun h => floordiv_int (by decide) h) ?_; clear S0; unhygienic intros))
  | ((with_reducible show wpAny _ _ (allTrue _ _ _) _ _ _); first
    | ((with_reducible show wpAny _ _ (allTrue BoolOp.And (_ :: _) _) _ _ _); refine wpAny_allTrue_And_cons ?_)
    | ((with_reducible show wpAny _ _ (allTrue BoolOp.Or (_ :: _) _) _ _ _); refine wpAny_allTrue_Or_cons ?_)
    | ((with_reducible show wpAny _ _ (allTrue BoolOp.And [] _) _ _ _); refine wpAny_allTrue_And_nil ?_)
    | ((with_reducible show wpAny _ _ (allTrue BoolOp.Or [] _) _ _ _); refine wpAny_allTrue_Or_nil ?_))
  | (refine ite_t1 ?_)
  | (refine ite_f1 ?_))
local macro_rules | `(tactic| walk_at "go") => `(tactic| repeat walk_at "go1")

noncomputable def oL91 : {o : Obj // ∀ w : World, (hd.heap_39 w.params).lookup 91 = some o} := ⟨_, fun w => by k_is⟩
theorem isT97 {w : World} {mg mb : Str → Option Value} {s : Shared} (O : Ok w mg mb s) (ps : Array Value) (h : s.heap.get? 93 = some (tblObj ps)) (ht : TriplesOk ps.toList) : s.heap.IsCode 97 93 ps ∧ s.heap.TableAt 97 93 ps :=
  ⟨⟨_, _, _, _, _, _, _, _, _, _, O.kin _ _ (o97.2 w), rfl, rfl, rfl, rfl, rfl, rfl, h, rfl, ht, by decide⟩, ⟨_, _, O.kin _ _ (o97.2 w), rfl, rfl, rfl⟩, h⟩
theorem tab97 {w : World} {mg mb : Str → Option Value} : TabOf w mg mb 97 93 ⟨104, 25, 104, 74⟩ where
  hP := .inl rfl
  isT := fun _ O => isT97 O
  tab := fun _ O => O.tabs.t93
  re := fun s O h' hx hT => ⟨hT, let ⟨ps, a, b⟩ := O.tabs.t59; ⟨ps, hx _ _ (by decide) a, b⟩, let ⟨o, a, b⟩ := O.tabs.bm; ⟨o, hx _ _ (by decide) a, b⟩⟩
theorem names91 : ∃ vs : List Value, oL91.1.cls = .type "list" ∧ oL91.1.data = .seq vs.toArray 0 ∧ All2 StrV vs optMaps := ⟨[_, _, _, _], rfl, rfl, .cons ⟨_, rfl⟩ (.cons ⟨_, rfl⟩ (.cons ⟨_, rfl⟩ (.cons ⟨_, rfl⟩ .nil)))⟩
section
variable {w : World} {mg mb : Str → Option Value} {s : Shared} {A : Around} {E : Value → Shared → Prop}
theorem rd104 : readsIn (KF w) 104 (.type "type") = true := by show readsIn (hd.heap_39 w.params) 104 (.type "type") = true; k_is
theorem fd104 : findCls (KF w) (.ref 104) (.type "type") (Str.ofString "option_maps") = some (.val (.ref 91)) := by show findCls (hd.heap_39 w.params) (.ref 104) (.type "type") (Str.ofString "option_maps") = _; k_is
theorem append_line {b : Shared} {L a k n : Nat} {m : List (Str × Value)} {pre post : List (Nat × Obj)} {vs : List Value} {x : Str} {tk : Tok} {v : Value} {val : Val} {rest : List Stmt} {Q : Flow → Shared → Prop}
    (R : Rm A (n + 1)) (S : St w mg mb b L m (pre ++ (a, lstObj vs.toArray k) :: post) s) (hret : m.lookup (Str.ofString "ret") = some (.ref a)) (hname : m.lookup (Str.ofString "name") = some (.str x tk)) (hvalue : m.lookup (Str.ofString "value") = some v)
    (hv : ∀ b', Aft b b' → ValIn w b'.heap v val) (h1 : val ≠ .non) (h2 : val.isMap = false) (h3 : ∀ y, val = .txt y → y.length ≤ 1000) (h4 : ∀ i, val = .num i → -10000 ≤ i ∧ i ≤ 10000) (hx : x.length ≤ 1000) (hz : vs.length ≤ 1000)
    (h : ∀ t k' s', St w mg mb b L m (pre ++ (a, lstObj (vs ++ [Value.str ((x ++ Str.ofString " = ") ++ val.text) t]).toArray k') :: post) s' → wpAny (model PR w) A (execs rest (callEnv f98.1 L 98)) Q NoE s') :
    wpAny (model PR w) A (execs (.Expr (.Call (.Attribute (.Name (Str.ofString "ret") ⟨110, 16, 110, 19⟩) (Str.ofString "append") ⟨110, 16, 110, 26⟩) [.JoinedStr [.FormattedValue (.Name (Str.ofString "name") ⟨110, 40, 110, 44⟩) 115 none ⟨110, 40, 110, 44⟩, .Constant (.str (Str.ofString " = ")) 0 ⟨110, 27, 110, 36⟩,
      .FormattedValue (.Call (.Name (Str.ofString "protect_value") ⟨110, 46, 110, 59⟩) [.Name (Str.ofString "value") ⟨110, 60, 110, 65⟩] [] ⟨110, 46, 110, 66⟩) 115 none ⟨110, 46, 110, 66⟩] ⟨110, 27, 110, 67⟩] [] ⟨110, 16, 110, 68⟩) ⟨110, 16, 110, 68⟩ :: rest) (callEnv f98.1 L 98)) Q NoE s := by
  have ma : (a, lstObj vs.toArray k) ∈ pre ++ (a, lstObj vs.toArray k) :: post := List.mem_append.mpr (.inr (.head _))
  have htl : val.text.length ≤ 1000000 := by
    cases val with
    | boo c => cases c <;> decide
    | num i => have q := h4 i rfl; exact (FP.int i 0 q.1 q.2).len
    | txt y =>
      have q := h3 y rfl
      show (qt y).length ≤ _
      unfold qt
      rw [strLen_append, strLen_append]
      have := len_quoted y 39
      have e : (⟨#[39]⟩ : Str).length = 1 := rfl
      omega
    | _ => exact Nat.zero_le _
  refine x_expr ?_
  refine MethodCall_ ?_
  refine S.ld hret ?_
  refine getMethod_list_append (S.get ma) rfl rfl ?_
  refine PyProof.Rows.callWith_method1 ?_
  refine wpAny_items_cons ?_
  first | refine x_js ?_ | skip
  refine j_fmt (S.ld hname ⟨x, .str x tk (by omega), fun tk1 => ?_⟩)
  have S := S.tok (tk := tk1)
  refine j_const fun tk2 => ?_
  have S := S.tok (tk := tk2)
  refine j_fmt ?_
  refine Call_ ?_
  refine S.ok.ldg (by walk_at "kis") ?_
  refine cw_fn f120.2 (o120.2 w) ?_
  refine wpAny_items_cons ?_
  refine S.ld hvalue ?_
  refine wpAny_items_nil ?_
  refine ⟨S.ok.kin, ?_⟩
  refine spec_pv S.ok R (x := val) ((hv b (.refl _)).keep S.keep) h1 h2 h3 h4 fun t' s' a' O' => ?_
  have S := S.aft a' O'
  refine ⟨val.text, .str _ _ htl, fun tk3 => ?_⟩
  have S := S.tok (tk := tk3)
  refine j_nil fun t'' tk4 => ?_
  have S := S.tok (tk := tk4)
  refine wpAny_items_nil ?_
  refine S.append rfl (fun k' s'' S => ?_) (Nat.le_trans hz (by decide))
  refine ⟨rfl, ?_⟩
  refine h t'' k' s'' ?_
  rw [KPc.empty_app] at S
  exact S
theorem spec_mosK (O : Ok w mg mb s) {k : Nat} (R : Rm A (k + 2)) {d : Nat} {kvs : List (Str × Value)} {rows : List (Str × Val)} {Q : Value → Shared → Prop}
    (hd : s.heap.DictOf (SK w) d kvs) (hd1 : 218 ≤ d) (he : EntsIn w s.heap kvs rows) (hr : RowsOk rows)
    (h : ∀ (l : Nat) vs xs k s', Aft s s' → Ok w mg mb s' → s'.heap.get? l = some (lstObj vs.toArray k) → 218 ≤ l → All2 StrV vs xs → xs.Perm (linesOf rows) → sortedS xs = true → s.heap.get? l = none → Q (.ref l) s') :
    codeAny (model PR w) A (.call (.ref 98) ⟨[.ref 104, .ref d], []⟩) (fun r s' => match r with | .ok (.ret v) => Q v s' | .ok _ => False | .error e => E e s') s := by
  refine O.enterK R (o98.2 w) f98.2 (c98 O.kin) (by rfl) (binds := [("cls", .ref 104), ("options_map", .ref d)]) (.of_eq (by rfl)) (by decide) (by simp; exact ⟨rfl, rfl⟩) fun L s₁ S R => ?_
  have hlen : kvs.length ≤ 1000 := by have := he.length; have := hr.size; omega
  obtain ⟨vs0, hc91, hd91, hn91⟩ := names91
  have hl91 : s.heap.IsList 91 vs0.toArray := ⟨_, O.kin _ _ (oL91.2 w), hc91, _, hd91⟩
  clear O
  walk_at "go"
  rename St _ _ _ _ _ _ _ _ => S
  have hds := DictOf.keep S.keep hd1 hd
  refine gm_dict PySem.F.slot_dict_items PySem.F.type_dict_items hds ?_
  walk_at "go"
  rename St _ _ _ _ _ _ _ _ => S
  refine S.citems hds hd1 fun v s2 S => ?_
  walk_at "go"
  rename St _ _ _ _ _ _ _ _ => S
  refine S.dictitems R (S.get (.head _)) (DictOf.keep S.keep hd1 hd) hlen fun D o s3 ho S => ?_
  walk_at "go"
  rename St _ _ _ _ _ _ _ _ => S
  refine S.clsval rd104 fd104 (by decide) fun s4 S => ?_
  have S := S.drop (N' := [(D, o), (a, lstObj #[] 0)]) (.cons_cons _ (.cons _ (.refl _)))
  refine for_list R (J := fun i b' m' N' => ∃ o kv vs k lines rws, m' = [(Str.ofString "options_copy", Value.ref D), (Str.ofString "ret", Value.ref a)] ∧ N' = [(D, o), (a, lstObj vs.toArray k)] ∧ o.IsDictOf (SK w) kv ∧ EntsIn w b'.heap kv rws ∧ All2 StrV vs lines ∧ RowsOk rws ∧
      (lines ++ linesOf rws).Perm (linesOf rows) ∧ (∀ r ∈ rws, r.2.isMap = true → r.1 ∈ optMaps.drop i) ∧ lines.length ≤ i) (S.locals (m' := [(Str.ofString "options_copy", Value.ref D), (Str.ofString "ret", Value.ref a)]) ?_) hl91 (by decide) (by decide) ?_ ?_ ?_
  · exact lkc (by rfl) (lkc (by rfl) lk0)
  · exact ⟨o, kvs, [], 0, [], rows, rfl, rfl, ho, he, .nil, hr, .refl _, hr.maps, Nat.le_refl _⟩
  · rintro i v b' m' N' it oi s5 hv ab ⟨o, kv, vs, k, lines, rws, rfl, rfl, ho, he, hvs, hr', hp, hm, hln⟩ S
    obtain ⟨x, hx, t, rfl⟩ := hn91.get hv
    refine PyProof.Rows.assign_Name ?_
    walk_at "go"
    rename St _ _ _ _ _ _ _ _ => S
    have hD := S.dictOf (d := D) (by simp) ho
    have hi := (S.nw (D, o) (by simp)).2.2.2
    refine gm_dict PySem.F.slot_dict_get PySem.F.type_dict_get hD ?_
    walk_at "go"
    rename St _ _ _ _ _ _ _ _ => S
    refine S.cget hD hi fun s6 S => ?_
    walk_at "go"
    rename St _ _ _ _ _ _ _ _ => S
    -- a turn that leaves all as it was
    have still : ∀ {s7 : Shared} {m2 : List (Str × Value)}, m2.lookup (Str.ofString "options_copy") = some (.ref D) → m2.lookup (Str.ofString "ret") = some (.ref a) → St w mg mb b' L m2 [(it, oi), (D, o), (a, lstObj vs.toArray k)] s7 →
        (∀ r ∈ rws, r.2.isMap = true → r.1 ≠ x) → ∃ b'' m'' N'', Aft b' b'' ∧ (∃ o kv vs k lines rws, m'' = [(Str.ofString "options_copy", Value.ref D), (Str.ofString "ret", Value.ref a)] ∧ N'' = [(D, o), (a, lstObj vs.toArray k)] ∧ o.IsDictOf (SK w) kv ∧ EntsIn w b''.heap kv rws ∧ All2 StrV vs lines ∧ RowsOk rws ∧
      (lines ++ linesOf rws).Perm (linesOf rows) ∧ (∀ r ∈ rws, r.2.isMap = true → r.1 ∈ optMaps.drop (i + 1)) ∧ lines.length ≤ i + 1) ∧ St w mg mb b'' L m'' ((it, oi) :: N'') s7 := fun h1 h2 S7 hno =>
      ⟨b', _, _, .refl _, ⟨o, kv, vs, k, lines, rws, rfl, rfl, ho, he, hvs, hr', hp, fun r hrm him => by
        have q := hm r hrm him
        have e : optMaps.drop i = x :: optMaps.drop (i + 1) := by
          obtain ⟨hlt, e⟩ := List.getElem?_eq_some_iff.mp hx
          rw [List.drop_eq_getElem_cons hlt, e]
        rw [e] at q
        rcases List.mem_cons.mp q with q | q
        · exact absurd q (hno r hrm him)
        · exact q, Nat.le_succ_of_le hln⟩, S7.locals (lkc h1 (lkc h2 lk0))⟩
    rcases val_at he x with ⟨hv0, hno⟩ | ⟨v, val, hv1, hmem, hvin⟩
    · rw [hv0] at S ⊢
      refine S.isdict .non fun s8 S => ?_
      dsimp only [Val.isMap]
      walk_at "go"
      rename St _ _ _ _ _ _ _ _ => S
      exact still (by rfl) (by rfl) S fun r hrm _ e => hno (by rw [← e]; exact List.mem_map_of_mem (f := (·.1)) hrm)
    · rw [hv1] at S ⊢
      refine S.isdict (hvin.keep S.keep) fun s8 S => ?_
      cases hb : val.isMap with
      | false =>
        walk_at "go"
        rename St _ _ _ _ _ _ _ _ => S
        refine still (by rfl) (by rfl) S fun r hrm him e => ?_
        have q := nd_unique hr'.nd hrm hmem e
        rw [q] at him
        rw [hb] at him
        cases him
      | true =>
        walk_at "go"
        rename St _ _ _ _ _ _ _ _ => S
        refine x_del ?_
        walk_at "go"
        rename St _ _ _ _ _ _ _ _ => S
        refine S.delitem (pre := [(it, oi)]) rfl ho (by rw [hv1]; rfl) (by have := he.length; have := hr'.size; omega) fun o2 s9 ho2 S => ?_
        obtain ⟨dd, kvv, ps, rfl, hdd1, hdd, hkz, hpl, hline, hps, hpb, hpn⟩ := map_parts (x := x) hvin hb fun y n e => hr'.m2 _ hmem y n e
        obtain ⟨hjo, hjl⟩ := join_small (sep := Str.ofString ", ") hpb (by omega) (by decide +kernel)
        refine x_assign ?_
        refine x_gen (mg := mg) (mb := mb) (L := L) (cl := []) R tab97 (by rfl) (by rfl) ?_
        walk_at "go"
        rename St _ _ _ _ _ _ _ _ => S
        refine gm_dict PySem.F.slot_dict_items PySem.F.type_dict_items (DictOf.keep S.keep hdd1 hdd) ?_
        walk_at "go"
        rename St _ _ _ _ _ _ _ _ => S
        refine S.citems (DictOf.keep S.keep hdd1 hdd) hdd1 fun vv s10 S => ?_
        have hdd' := hdd
        obtain ⟨oo, es, ep, hoo, rr⟩ := hdd'
        have hdA : s10.heap.DictAt (SK w) dd kvv ep := ⟨oo, es, S.keep _ _ (by omega) (by omega) hoo, rr⟩
        have hdlt : dd < s10.heap.objs.size := Heap.lt_size (S.keep _ _ (by omega) (by omega) hoo)
        refine wpAny_pyIter_items ⟨_, S.get (.head _), rfl, rfl⟩ hdA ?_
        have S1 := S.pushN (tk := s10.toks) (itObj .none (.bool false) dd 0 kvv.length ep .none .none)
        refine ⟨_, _, _, _, _, rfl, S1, fun code aG C g oa oC s11 S11 hIG hgs hns => ?_⟩
        obtain ⟨f, n, y⟩ := S11.ns
        refine wpAny_storeName_local (by rfl) n (fun h' hn hs => ?_) (by rfl)
        have S := S11.stored (tk := s11.toks + 1) y hn hs
        walk_at "go"
        rename St _ _ _ _ _ _ _ _ => S
        refine getMethod_list_append (S.get (p := (a, lstObj vs.toArray k)) (by simp)) rfl rfl ?_
        walk_at "go"
        rename St _ _ _ _ _ _ _ _ => S
        first | refine x_js ?_ | skip
        refine j_fmt (S.ld (by rfl) ⟨x, .str x t (Nat.le_trans (hr'.len _ hmem) (by decide)), fun tk => ?_⟩)
        have S := S.tok (tk := tk)
        refine j_const fun tk1 => ?_
        have S := S.tok (tk := tk1)
        refine j_fmt ?_
        refine MethodCall_ ?_
        refine wpAny_Constant_str ?_
        have S := S.tok (tk := tk1 + 1)
        refine GM.join ?_
        refine PyProof.Rows.callWith_method1 ?_
        refine wpAny_items_cons ?_
        refine S.ld (by rfl) ?_
        refine wpAny_items_nil ?_
        have hdC : dd ≠ C := fun e => by
          have q := (S.nw _ (.tail _ (.head _))).2.2.1
          rw [show ((C, oC) : Nat × Obj).1 = dd from e.symm, hoo] at q; cases q
        have hdG : dd ≠ aG := fun e => by
          have q := (S.nw _ (.head _)).2.2.1
          rw [show ((aG, oa) : Nat × Obj).1 = dd from e.symm, hoo] at q; cases q
        have G := gat_items (env := callEnv f98.1 L 98) (cl := []) S R (kvs := kvv) ⟨oo, es, S.keep _ _ (by omega) (by omega) hoo, rr⟩ (Nat.ne_of_lt hdlt) hdC (isGen_eq hIG (S11.same S (.head _) (.head _))) hgs (ns_eq hns (S11.same S (.tail _ (.head _)) (.tail _ (.head _)))) (by decide) rfl (by rfl) (by rfl) rfl (elt_pair rfl (by rfl) (by rfl) hps)
        have hmap : (List.range kvv.length).map (fun i => ps.getD i Str.empty) = ps := by rw [← hpl]; exact range_getD ps Str.empty
        have nG := (S.nw _ (.head _)).2.2.2
        have nC := (S.nw _ (.tail _ (.head _))).2.2.2
        have big := S.ok.big
        refine S.gjoin R G (fun z hz => ?_) (by simp) (by simp) (fun i => ps.getD i Str.empty) (fun i v _ ⟨u, e⟩ => ⟨u, e⟩) (by rw [hmap]; exact hjo) hkz fun t12 s12 S => ?_
        · simp only [List.mem_cons, List.not_mem_nil, or_false] at hz
          rcases hz with rfl | rfl | rfl
          · exact .inl rfl
          · exact .inr ⟨hdG, hdC, Heap.lt_size (S.keep _ _ (by omega) (by omega) hoo)⟩
          · have c2 : (cStatics : Nat) < 218 := by decide
            exact .inr ⟨fun e => by rw [← e] at nG; exact absurd nG (Nat.not_le.mpr c2), fun e => by rw [← e] at nC; exact absurd nC (Nat.not_le.mpr c2), Nat.lt_of_lt_of_le c2 big⟩
        rw [hmap]
        refine ⟨_, .str _ _ (Nat.le_trans hjl (by decide)), fun tk3 => ?_⟩
        have S := S.tok (tk := tk3)
        refine j_const fun tk4 => ?_
        have S := S.tok (tk := tk4)
        refine j_nil fun t5 tk5 => ?_
        have S := S.tok (tk := tk5)
        refine wpAny_items_nil ?_
        refine S.append (pre := [(aG, oa), (vv, viewObj dd), (it, oi), (D, o2)]) rfl (fun k' s13 S => ?_) ?_
        · refine ⟨rfl, x_nil ?_⟩
          refine x_nil ?_
          have hlt : i < 4 := (List.getElem?_eq_some_iff.mp hx).1
          have e : optMaps.drop i = x :: optMaps.drop (i + 1) := by
            obtain ⟨hlt, e⟩ := List.getElem?_eq_some_iff.mp hx
            rw [List.drop_eq_getElem_cons hlt, e]
          refine ⟨b', _, [(D, o2), (a, _)], .refl _, ⟨o2, _, _, k', _, rws.filter fun r => decide (r.1 ≠ x), rfl, rfl, ho2, ents_without he x, hvs.snoc ⟨t5, rfl⟩, hr'.sub (List.filter_sublist), ?_, ?_, by simp; omega⟩,
            (S.drop (.cons _ (.cons _ (.refl _)))).locals (lkc (by rfl) (lkc (by rfl) lk0))⟩
          · have p := linesOf_out hr'.nd hmem hline
            refine List.Perm.trans ?_ hp
            rw [List.append_assoc]
            refine List.Perm.append_left _ (List.Perm.trans ?_ p.symm)
            rw [show mtext x ps = Str.empty ++ x ++ Str.ofString " = {" ++ Txt.join (Str.ofString ", ") ps ++ Str.ofString "}" by rw [KPc.empty_app]; rfl]
            exact .refl _
          · intro r hrm him
            have hr2 := List.mem_filter.mp hrm
            have q := hm r hr2.1 him
            rw [e] at q
            rcases List.mem_cons.mp q with q | q
            · exact absurd q (of_decide_eq_true hr2.2)
            · exact q
        · have h1 := hvs.length
          have hlt : i < 4 := (List.getElem?_eq_some_iff.mp hx).1
          exact Nat.le_trans (by omega : vs.length ≤ 4) (by decide)
  · rintro b' m' N' s5 ab ⟨o, kv, vs, k, lines, rws, rfl, rfl, ho, he, hvs, hr', hp, hm, hln⟩ S
    rw [show vs0.length = 4 from hn91.length] at hm hln
    have hnm : ∀ r ∈ rws, r.2.isMap = false := fun r h => by
      cases q : r.2.isMap with
      | false => rfl
      | true => exact absurd (hm r h q) (by simp [optMaps])
    walk_at "go"
    rename St _ _ _ _ _ _ _ _ => S
    have hD := S.dictOf (d := D) (by simp) ho
    have hi := (S.nw (D, o) (by simp)).2.2.2
    refine gm_dict PySem.F.slot_dict_items PySem.F.type_dict_items hD ?_
    walk_at "go"
    rename St _ _ _ _ _ _ _ _ => S
    refine S.citems hD hi fun v2 s6 S => ?_
    have hv2 := (S.nw (v2, viewObj D) (.head _)).2.2.2
    obtain ⟨b2, ab2, hN2, S, _⟩ := (S.perm (N' := [(a, lstObj vs.toArray k)] ++ [(v2, viewObj D), (D, o)]) (List.perm_append_comm (l₁ := [(a, lstObj vs.toArray k)]) (l₂ := [(v2, viewObj D), (D, o)]))).rebase
    have hDo := hN2 (D, o) (by simp)
    obtain ⟨oo, es, ep, hoo, rr⟩ := Heap.dictOf_iff.mpr ⟨o, hDo, ho⟩
    refine for_items R (J := fun i b' m' N' => ∃ vs k lines, m' = [(Str.ofString "ret", Value.ref a)] ∧ N' = [(a, lstObj vs.toArray k)] ∧ All2 StrV vs lines ∧ (lines ++ linesOf (rws.drop i)).Perm (linesOf rows) ∧ lines.length ≤ 4 + i)
      (S.locals (m' := [(Str.ofString "ret", Value.ref a)]) (lkc (by rfl) lk0)) (v := v2) ⟨_, S.keep _ _ (by omega) (by omega) (hN2 (v2, viewObj D) (by simp)), rfl, rfl⟩ (d := D) (kvs := kv) (ep := ep) ⟨oo, es, hoo, rr⟩ (by omega) (by omega) ?_ ?_ ?_
    · exact ⟨vs, k, lines, rfl, rfl, hvs, by simpa using hp, by omega⟩
    · rintro i x val b3 m' N' it oi t key s7 hkv hkey ab3 ⟨vs, k, lines, rfl, rfl, hvs, hp, hln⟩ S
      obtain ⟨tk, rfl⟩ := sk_key hkey
      have ht := S.get (p := (t, { cls := .type "tuple", data := .seq #[.str x tk, val] })) (by simp)
      refine S.two R ht fun s8 S => ?_
      obtain ⟨vl, hrw, hval⟩ := ents_row (he.keep ab2.keep) hkv
      have hval3 := hval.keep ab3.keep
      have hmem := List.mem_of_getElem? hrw
      have hdrop : rws.drop i = (x, vl) :: rws.drop (i + 1) := by
        obtain ⟨hlt, e⟩ := List.getElem?_eq_some_iff.mp hrw
        rw [List.drop_eq_getElem_cons hlt, e]
      have hmp := hnm _ hmem
      have hi20 : i < 20 := by
        have := (List.getElem?_eq_some_iff.mp hrw).1
        have := hr'.size
        omega
      have hvsl := hvs.length
      walk_at "go"
      rename St _ _ _ _ _ _ _ _ => S
      refine isNot_none ?_
      by_cases hnon : vl = .non
      · subst hnon
        cases hval3
        rw [show (!(Value.none == Value.none)) = false from rfl]
        walk_at "go"
        rename St _ _ _ _ _ _ _ _ => S
        exact ⟨b3, _, _, .refl _, ⟨vs, k, lines, rfl, rfl, hvs, by rw [hdrop] at hp; rw [show linesOf ((x, Val.non) :: rws.drop (i + 1)) = linesOf (rws.drop (i + 1)) from rfl] at hp; exact hp, by omega⟩, (S.drop (N' := [(it, oi), (a, lstObj vs.toArray k)]) (.cons_cons _ (.cons _ (.refl _)))).locals (lkc (by rfl) lk0)⟩
      · have hnb : (!(val == Value.none)) = true := by
          cases hval3 with
          | non => exact absurd rfl hnon
          | _ => rfl
        rw [hnb]
        walk_at "go"
        rename St _ _ _ _ _ _ _ _ => S
        refine P.eq_str ?_
        have hline : lineOf (x, vl) = some ((x ++ Str.ofString " = ") ++ (cval x vl).text) := by
          cases vl with
          | non => exact absurd rfl hnon
          | m0 => cases hmp
          | m2 => cases hmp
          | _ => rfl
        have fin : ∀ {s9 : Shared} {m2 : List (Str × Value)} {k' : Nat} {t5 : Tok}, m2.lookup (Str.ofString "ret") = some (.ref a) →
            St w mg mb b3 L m2 ([(it, oi), (t, { cls := .type "tuple", data := .seq #[.str x tk, val] })] ++ (a, lstObj (vs ++ [Value.str ((x ++ Str.ofString " = ") ++ (cval x vl).text) t5]).toArray k') :: []) s9 →
            ∃ b'' m'' N'', Aft b3 b'' ∧ (∃ vs k lines, m'' = [(Str.ofString "ret", Value.ref a)] ∧ N'' = [(a, lstObj vs.toArray k)] ∧ All2 StrV vs lines ∧ (lines ++ linesOf (rws.drop (i + 1))).Perm (linesOf rows) ∧ lines.length ≤ 4 + (i + 1)) ∧ St w mg mb b'' L m'' ((it, oi) :: N'') s9 := fun hm2 S9 => by
          refine ⟨b3, _, _, .refl _, ⟨_, _, _, rfl, rfl, hvs.snoc ⟨_, rfl⟩, ?_, by simp; omega⟩, (S9.drop (.cons_cons _ (.cons _ (.refl _)))).locals (lkc hm2 lk0)⟩
          rw [hdrop, show linesOf ((x, vl) :: rws.drop (i + 1)) = ((x ++ Str.ofString " = ") ++ (cval x vl).text) :: linesOf (rws.drop (i + 1)) by unfold linesOf; rw [List.filterMap_cons, hline]] at hp
          rw [List.append_assoc]
          exact hp
        have hx1 : x.length ≤ 1000 := Nat.le_trans (hr'.len _ hmem) (by decide)
        have ht3 : ∀ y, vl = .txt y → y.length ≤ 1000 := fun y e => Nat.le_trans (hr'.txt _ hmem y e) (by decide)
        have ht4 : ∀ i, vl = .num i → -10000 ≤ i ∧ i ≤ 10000 := fun i e => hr'.num _ hmem i e
        by_cases hc : x = Str.ofString "comment"
        · rw [show (x.cps.toList == (Str.ofString "comment").cps.toList) = true by rw [hc]; exact beq_self_eq_true _]
          iterate 2 walk_at "go1"
          refine x_assign ?_
          refine wpAny_Or2 ?_
          walk_at "go"
          rename St _ _ _ _ _ _ _ _ => S
          refine S.truth (hval3.keep S.keep) hnon hmp ht3 fun s9 S => ?_
          cases hf : vl.falsy with
          | false =>
            rw [if_pos (by decide)]
            iterate 2 walk_at "go1"
            rename St _ _ _ _ _ _ _ _ => S
            have ecv : cval x vl = vl := by unfold cval; rw [if_neg (by rw [hf]; simp)]
            rw [ecv] at fin
            refine append_line (pre := [(it, oi), (t, { cls := .type "tuple", data := .seq #[.str x tk, val] })]) R S (by rfl) (by rfl) (by rfl) (fun b' ab => hval3.keep ab.keep) hnon hmp ht3 ht4 hx1 (by omega) fun t5 k' s10 S => ?_
            refine x_nil ?_
            refine x_nil ?_
            exact fin (by rfl) S
          | true =>
            rw [if_neg (by decide)]
            iterate 3 walk_at "go1"
            rename St _ _ _ _ _ _ _ _ => S
            have ecv : cval x vl = .txt Str.empty := by unfold cval; rw [if_pos ⟨hc, hf⟩]
            rw [ecv] at fin
            refine append_line (pre := [(it, oi), (t, { cls := .type "tuple", data := .seq #[.str x tk, val] })]) R S (by rfl) (by rfl) (by rfl) (fun b' ab => .txt _ _) (by simp) rfl (fun y e => by cases e; decide) (fun i e => by cases e) hx1 (by omega) fun t5 k' s10 S => ?_
            refine x_nil ?_
            refine x_nil ?_
            exact fin (by rfl) S
        · rw [show (x.cps.toList == (Str.ofString "comment").cps.toList) = false by exact beq_eq_false_iff_ne.mpr fun e => hc (str_ext e)]
          iterate 3 walk_at "go1"
          rename St _ _ _ _ _ _ _ _ => S
          have ecv : cval x vl = vl := by unfold cval; rw [if_neg (by simp [hc])]
          rw [ecv] at fin
          refine append_line (pre := [(it, oi), (t, { cls := .type "tuple", data := .seq #[.str x tk, val] })]) R S (by rfl) (by rfl) (by rfl) (fun b' ab => hval3.keep ab.keep) hnon hmp ht3 ht4 hx1 (by omega) fun t5 k' s10 S => ?_
          refine x_nil ?_
          refine x_nil ?_
          exact fin (by rfl) S
    · rintro b3 m' N' s7 ab3 ⟨vs, k, lines, rfl, rfl, hvs, hp, hln⟩ S
      have S := S.weaken ((ab.trans ab2).trans ab3)
      have hkl : rws.length ≤ 20 := hr'.size
      have hkv := he.length
      have hvsl := hvs.length
      refine x_return ?_
      walk_at "go"
      rename St _ _ _ _ _ _ _ _ => S
      refine S.csorted (l := a) (vs := vs) ⟨_, S.get (.head _), rfl, _, rfl⟩ hvs (by omega) fun a2 vs2 xs2 k2 s8 hvs2 hp2 hsort S => ?_
      walk_at "go"
      rename St _ _ _ _ _ _ _ _ => S
      have hvsl2 := hvs2.length
      have hpl2 := hp2.length_eq
      refine S.clist (S.get (.head _)) (by omega) fun a3 k3 s9 S => ?_
      have q := S.nw _ (.head _)
      refine h a3 vs2 xs2 k3 s9 S.aft0 S.ok q.1 q.2.2.2 hvs2 (hp2.trans ?_) hsort q.2.2.1
      rw [List.drop_of_length_le (by omega)] at hp
      simpa [linesOf] using hp
theorem spec_mos (O : Ok w mg mb s) {k : Nat} (R : Rm A (k + 2)) {d : Nat} {kvs : List (Str × Value)} {rows : List (Str × Val)} {Q : Value → Shared → Prop}
    (hd : s.heap.DictOf (SK w) d kvs) (hd1 : 218 ≤ d) (he : EntsIn w s.heap kvs rows) (hr : RowsOk rows)
    (h : ∀ (l : Nat) vs xs k s', Aft s s' → Ok w mg mb s' → s'.heap.get? l = some (lstObj vs.toArray k) → 218 ≤ l → All2 StrV vs xs → xs.Perm (linesOf rows) → sortedS xs = true → s.heap.get? l = none → Q (.ref l) s') :
    wpAny (model PR w) A (call (.ref 98) [.ref 104, .ref d]) Q E s := wpAny_call (spec_mosK O R hd hd1 he hr h)
end
end Mine

namespace Mine
theorem kf_fill_K5 (w : World) : (hd.heap_39 w.params) = (hd.heap_39 w.params) ∧ PySem.Challenge.rw_bq5006_01 = PySem.Challenge.rw_bq5006_01 := by
  k_fill
  exact ⟨rfl, rfl⟩
local macro_rules | `(tactic| walk_at "kis") => `(tactic| (show nsIn (hd.heap_39 _) _ _ = _; k_is))
local macro_rules | `(tactic| walk_at "go1") => `(tactic| first
  | ((with_reducible show wpAny _ _ (eval _ _) _ _ _); first
    | ((with_reducible show wpAny _ _ (eval (Expr.Name _ _) _) _ _ _); rename St _ _ _ _ _ _ _ _ => S0; first | (refine S0.ld (by rfl) ?_) | (refine S0.ok.ldg (by walk_at "kis") ?_) | (refine S0.ok.ldb (by walk_at "kis") (by first | exact bb_len | exact bb_range | exact bb_isinstance | exact bb_dict | exact bb_str | exact bb_list | exact bb_sorted | exact bb_int | exact bb_float | exact bb_bool) ?_))
    | ((with_reducible show wpAny _ _ (eval (Expr.Constant (Const.int _) _ _) _) _ _ _); rename St _ _ _ _ _ _ _ _ => S0; refine S0.cint ?_; clear S0; unhygienic intros)
    | ((with_reducible show wpAny _ _ (eval (Expr.Constant (Const.str _) _ _) _) _ _ _); rename St _ _ _ _ _ _ _ _ => S0; refine S0.cstr ?_; clear S0; unhygienic intros)
    | ((with_reducible show wpAny _ _ (eval (Expr.Constant (Const.bool _) _ _) _) _ _ _); refine wpAny_Constant_bool ?_)
    | ((with_reducible show wpAny _ _ (eval (Expr.Constant (Const.none) _ _) _) _ _ _); refine wpAny_Constant_none ?_)
    | ((with_reducible show wpAny _ _ (eval (Expr.BinOp _ _ _ _) _) _ _ _); refine wpAny_BinOp ?_)
    | ((with_reducible show wpAny _ _ (eval (Expr.Subscript _ _ _) _) _ _ _); refine Subscript_ ?_)
    | ((with_reducible show wpAny _ _ (eval (Expr.Tuple _ _ _) _) _ _ _); refine Tuple_ ?_)
    | ((with_reducible show wpAny _ _ (eval (Expr.List _ _) _) _ _ _); refine List_ ?_)
    | ((with_reducible show wpAny _ _ (eval (Expr.Call (Expr.Attribute _ _ _) _ [] _) _) _ _ _); refine MethodCall_ ?_)
    | ((with_reducible show wpAny _ _ (eval (Expr.Call _ _ [] _) _) _ _ _); refine Call_ ?_)
    | ((with_reducible show wpAny _ _ (eval (Expr.IfExp _ _ _ _) _) _ _ _); refine wpAny_IfExp ?_)
    | ((with_reducible show wpAny _ _ (eval (Expr.Dict [] [] _) _) _ _ _); rename St _ _ _ _ _ _ _ _ => S0; refine S0.ndict ?_; clear S0; unhygienic intros)
    | ((with_reducible show wpAny _ _ (eval (Expr.Compare _ [_] [_] _) _) _ _ _); refine wpAny_Compare1 ?_)
    | ((with_reducible show wpAny _ _ (eval (Expr.Attribute _ _ _) _) _ _ _); refine Attribute_any_ ?_ (by rfl))
    | ((with_reducible show wpAny _ _ (eval (Expr.JoinedStr (_ :: _ :: _) _) _) _ _ _); refine x_js ?_))
  | ((with_reducible show wpAny _ _ (spliced _) _ _ _); first
    | ((with_reducible show wpAny _ _ (spliced (backTo _ (starEach [] _))) _ _ _); refine wpAny_items_nil ?_)
    | ((with_reducible show wpAny _ _ (spliced (backTo _ (starEach (_ :: _) _))) _ _ _); refine wpAny_items_cons ?_))
  | ((with_reducible show wpAny _ _ (newTuple _) _ _ _); rename St _ _ _ _ _ _ _ _ => S0; refine S0.ntup ?_; clear S0; unhygienic intros)
  | ((with_reducible show wpAny _ _ (newList _) _ _ _); rename St _ _ _ _ _ _ _ _ => S0; refine S0.nlist ?_; clear S0; unhygienic intros)
  | ((with_reducible show wpAny _ _ (storeName _ _ _) _ _ _); rename St _ _ _ _ _ _ _ _ => S0; refine S0.st ?_; clear S0; unhygienic intros)
  | ((with_reducible show wpAny _ _ (execs _ _) _ _ _); first
    | ((with_reducible show wpAny _ _ (execs (Stmt.Assign [Expr.Name _ _] _ _ :: _) _) _ _ _); refine x_assign ?_)
    | ((with_reducible show wpAny _ _ (execs (Stmt.Return (some _) _ :: _) _) _ _ _); refine x_return ?_)
    | ((with_reducible show wpAny _ _ (execs (Stmt.If _ _ _ _ :: _) _) _ _ _); refine x_if ?_)
    | ((with_reducible show wpAny _ _ (execs (Stmt.Expr _ _ :: _) _) _ _ _); refine x_expr ?_)
    | ((with_reducible show wpAny _ _ (execs (Stmt.AugAssign (Expr.Name _ _) _ _ _ :: _) _) _ _ _); refine x_aug ?_)
    | ((with_reducible show wpAny _ _ (execs [] _) _ _ _); refine x_nil ?_; try dsimp only)
    | ((with_reducible show wpAny _ _ (execs (Stmt.Assign [Expr.Subscript _ _ _] _ _ :: _) _) _ _ _); refine x_assign_sub ?_)
    | ((with_reducible show wpAny _ _ (execs (Stmt.For _ _ _ _ _ :: _) _) _ _ _); refine x_for ?_))
  | ((with_reducible show wpAny _ _ (isTrue _ _ _) _ _ _); first
    | ((with_reducible show wpAny _ _ (isTrue (Expr.Call _ _ _ _) _ _) _ _ _); refine wpAny_isTrue_value ?_)
    | ((with_reducible show wpAny _ _ (isTrue (Expr.Name _ _) _ _) _ _ _); refine wpAny_isTrue_value ?_)
    | ((with_reducible show wpAny _ _ (isTrue (Expr.Compare _ [_] [_] _) _ _) _ _ _); refine wpAny_isTrue_Compare1 ?_)
    | ((with_reducible show wpAny _ _ (isTrue (Expr.BoolOp _ _ _) _ _) _ _ _); refine wpAny_isTrue_BoolOp ?_))
  | ((with_reducible show wpAny _ _ (truthy (Value.bool _)) _ _ _); refine wpAny_truthy_bool ?_)
  | ((with_reducible show wpAny _ _ (callWith _ _ _ _ _) _ _ _); first
    | ((with_reducible show wpAny _ _ (callWith _ (Value.type _) _ (backTo _ (starEach (_ :: _) _)) []) _ _ _); refine PyProof.Rows.callWith_type1 ?_)
    | ((with_reducible show wpAny _ _ (callWith _ (Value.builtin _) [] (backTo _ (starEach (_ :: _) _)) []) _ _ _); refine PyProof.Rows.callWith_builtin1 ?_)
    | ((with_reducible show wpAny _ _ (callWith _ (Value.builtin _) (_ :: _) (backTo _ (starEach (_ :: _) _)) []) _ _ _); refine PyProof.Rows.callWith_method1 ?_)
    | ((with_reducible show wpAny _ _ (callWith _ (Value.builtin _) (_ :: _) (backTo _ (starEach [] _)) []) _ _ _); refine PyProof.Rows.callWith_method0 ?_))
  | ((with_reducible show wpAny _ _ (binaryOp _ _ _) _ _ _); first
    | ((with_reducible show wpAny _ _ (binaryOp Operator.Mod (Value.int _ _) (Value.int _ _)) _ _ _); rename St _ _ _ _ _ _ _ _ => S0; refine S0.i1 (fun h => mod_int (by decide) h) ?_; clear S0; unhygienic intros)
    | ((with_reducible show wpAny _ _ (binaryOp Operator.Add (Value.int _ _) (Value.int _ _)) _ _ _); rename St _ _ _ _ _ _ _ _ => S0; refine S0.i1 (fun h => add_int h) ?_; clear S0; unhygienic intros)
    | ((with_reducible show wpAny _ _ (binaryOp Operator.Sub (Value.int _ _) (Value.int _ _)) _ _ _); rename St _ _ _ _ _ _ _ _ => S0; refine S0.i1 (fun h => sub_int h) ?_; clear S0; unhygienic intros)
    | ((with_reducible show wpAny _ _ (binaryOp Operator.FloorDiv (Value.int _ _) (Value.int _ _)) _ _ _); rename St _ _ _ _ _ _ _ _ => S0; refine S0.i1 (fun h => floordiv_int (by decide) h) ?_; clear S0; unhygienic intros))
  | ((with_reducible show wpAny _ _ (allTrue _ _ _) _ _ _); first
    | ((with_reducible show wpAny _ _ (allTrue BoolOp.And (_ :: _) _) _ _ _); refine wpAny_allTrue_And_cons ?_)
    | ((with_reducible show wpAny _ _ (allTrue BoolOp.Or (_ :: _) _) _ _ _); refine wpAny_allTrue_Or_cons ?_)
    | ((with_reducible show wpAny _ _ (allTrue BoolOp.And [] _) _ _ _); refine wpAny_allTrue_And_nil ?_)
    | ((with_reducible show wpAny _ _ (allTrue BoolOp.Or [] _) _ _ _); refine wpAny_allTrue_Or_nil ?_))
  | (refine ite_t1 ?_)
  | (refine ite_f1 ?_))
local macro_rules | `(tactic| walk_at "go") => `(tactic| repeat walk_at "go1")

theorem rd104' (w : World) : readsIn (hd.heap_39 w.params) 104 (.type "type") = true := by k_is
theorem ga104 (w : World) : specialIn (hd.heap_39 w.params) (.ref 104) "__getattribute__" = some (some (.builtin "type.__getattribute__")) := by k_is
theorem fc_mos (w : World) : findCls (hd.heap_39 w.params) (.ref 104) (.type "type") "_make_option_strings" = some (.get (.builtin "classmethod.__get__") (.ref 100) .none (.ref 104)) := by k_is
theorem fc_ps (w : World) : findCls (hd.heap_39 w.params) (.ref 104) (.type "type") "_property_string" = some (.get (.builtin "classmethod.__get__") (.ref 74) .none (.ref 104)) := by k_is
theorem rc_mos (w : World) : ∃ rest, recIn (hd.heap_39 w.params) 100 "classmethod" = some (.ref 98 :: rest) := ⟨_, by k_is⟩
theorem rc_ps (w : World) : ∃ rest, recIn (hd.heap_39 w.params) 74 "classmethod" = some (.ref 72 :: rest) := ⟨_, by k_is⟩
theorem fn98 (w : World) : fnIn (hd.heap_39 w.params) 98 = true := by k_is
theorem fn72 (w : World) : fnIn (hd.heap_39 w.params) 72 = true := by k_is
theorem a104_ps (w : World) : findIn (hd.heap_39 w.params) (.ref 104) "_property_string" = some (some (.ref 74)) := by k_is
theorem ty74 (w : World) : typeIn (hd.heap_39 w.params) (.ref 74) = some (.type "classmethod") := by k_is
theorem sp74 (w : World) : specialIn (hd.heap_39 w.params) (.ref 74) "__get__" = some (some (.builtin "classmethod.__get__")) := by k_is
theorem tk74 (w : World) : takesIn (hd.heap_39 w.params) (.ref 74) = some false := by k_is
section
variable {w : World} {mg mb : Str → Option Value} {b s : Shared} {L : Nat} {m : List (Str × Value)} {N : List (Nat × Obj)} {A : Around} {E : Value → Shared → Prop}
/-- a classmethod of the table's class, told from the class -/
theorem St.gmcls (S : St w mg mb b L m N s) {name : Str} {p f : Nat} {pl : Sem Bool} {Q : Value × List Value → Shared → Prop} (e : findCls (KF w) (.ref 104) (.type "type") name = some (.get (.builtin "classmethod.__get__") (.ref p) .none (.ref 104)))
    (hp : ∃ rest, recIn (KF w) p "classmethod" = some (.ref f :: rest))
    (h : ∀ (q : Nat) s', St w mg mb b L m ((q, methodObj (.ref f) (.ref 104)) :: N) s' → Q (.ref q, []) s') : wpAny (model PR w) A (getMethod (.ref 104) name pl) Q E s := by
  obtain ⟨rest, hp⟩ := hp
  refine method_cls S.ok.kin (ga104 w) ?_
  have S1 := S.tok (tk := s.toks + 1)
  refine cls_bind S.ok.kin (rd104' w) e (wpAny_call (cm_get (s := { s with toks := s.toks + 1 }) S1.ok.kin hp (handed_on (by rfl) ?_)))
  exact h _ _ (S.pushN (methodObj (.ref f) (.ref 104)) (tk := s.toks + 1))
/-- the same, told from an object -/
theorem St.gminst (S : St w mg mb b L m N s) {x dx : Nat} {es : List DictEntry} {n : Nat} {pl : Sem Bool} {Q : Value × List Value → Shared → Prop}
    (gx : s.heap.get? x = some (instObj 104 dx)) (gd : s.heap.get? dx = some (PySem.W.dictOf es n)) (hl : getL "_property_string" es = some none)
    (h : ∀ (q : Nat) s', St w mg mb b L m ((q, methodObj (.ref 72) (.ref 104)) :: N) s' → Q (.ref q, []) s') : wpAny (model PR w) A (getMethod (.ref x) "_property_string" pl) Q E s := by
  obtain ⟨rest, hp⟩ := rc_ps w
  have I : InstAt s.heap x (instObj 104 dx) 104 (some (PySem.W.dictOf es n)) := ⟨gx, rfl, rfl, gd⟩
  have hg := plainGet_of (k104g w "_property_string")
  have S1 := S.tok (tk := s.toks + 1)
  refine method_usual (r := some (.ref 74)) S.ok.kin I hg.1 hg.2 (a104_ps w) (by simp only [Option.all_some, show typeIn (KF w) (.ref 74) = _ from ty74 w, Option.any_some]; decide +kernel)
    (get_bind S.ok.kin I hg.1 (findObj_fn (k104h w) (a104_ps w) (sp74 w) (tk74 w) (by decide +kernel) (by rw [lookIn_dict, hl])) hg.2
      (wpAny_call (cm_get (s := { s with toks := s.toks + 1 }) S1.ok.kin hp (handed_on (by rfl) ?_))))
  exact h _ _ (S.pushN (methodObj (.ref 72) (.ref 104)) (tk := s.toks + 1))
end
end Mine

namespace Mine
noncomputable def goRe : Nat → Sre.M → Option Sre.M
  | 0, _ => none
  | k + 1, m => let m' := m.runFor 4; if m'.outcome.isSome then some m' else goRe k m'
def reCode : Array Nat := #[14, 4, 0, 1, 4294967295, 6, 0, 13, 5, 22, 97, 122, 0, 24, 16, 0, 4294967295, 13, 11, 9, 0, 67043328, 2147483648, 134217726, 0, 0, 0, 0, 0, 1, 6, 5, 1]
def reM (x : Str) : Sre.M := Sre.forMatch reCode x.cps 0 0 x.length false false
/-- the text is a plain word -/
noncomputable def reYes (x : Str) (b : Bool) : Bool := (goRe 30 (reM x)).any fun m => match m.outcome with | some .matched => b | some .failed => !b | _ => false
theorem slot_rem : Slot "re.Pattern" "match" "re.Pattern.match" :=
  .of (owner := "re.Pattern") (n := "match") (by rw [typeLookup_type, builtinLookup_eq_fast]; kernel_rfl) (by decide +kernel) (by decide +kernel) (by decide +kernel)
    (by first | exact .inl (by decide +kernel) | exact .inr (by decide +kernel)) (by rw [isSubtype_type]; kernel_rfl)
theorem type_rem : typeOf (.builtin "re.Pattern.match") = pure (.type "method_descriptor") := by show builtinType _ = _; rw [builtinType_eq_fast]; kernel_rfl
theorem entry_rem : entryFor table "re.Pattern.match" = some Builtin.«re.Pattern.match» := entryFor_of_tree (by kernel_rfl)
theorem args_rem (a b : Value) : argsOk "re.Pattern.match" ⟨[a, b], []⟩ := by unfold argsOk; kernel_rfl
section
variable {w : World} {mg mb : Str → Option Value} {b b' s s' : Shared} {L : Nat} {m : List (Str × Value)} {N : List (Nat × Obj)} {A : Around} {E : Value → Shared → Prop} {env : Env}
theorem wp_drive {M : Model} {Q : Sre.M → Shared → Prop} : ∀ (k n : Nat) (x y : Sre.M), goRe k x = some y → k ≤ n → Q y s → wpAny M A (Builtin.Re.reDrive n x) Q E s
  | 0, _, _, _, h, _, _ => by cases h
  | k + 1, 0, _, _, _, h, _ => by omega
  | k + 1, n + 1, x, y, h, hn, hQ => by
    unfold goRe at h
    unfold Builtin.Re.reDrive
    rw [show Builtin.Re.reTurnSteps = 4 from rfl]
    dsimp only at h ⊢
    split at h
    · rename_i q
      rw [if_pos q]
      cases h
      exact wpAny_pure hQ
    · rename_i q
      rw [if_neg q]
      exact wpAny_bind (wpAny_rule (wp_drive k n _ y h (by omega) hQ))
theorem wp_seen {M : Model} {f : Nat → PUnit → Sem (ForInStep PUnit)} {Q : PUnit → Shared → Prop} (hf : ∀ i u (Q : ForInStep PUnit → Shared → Prop), Q (.yield ⟨⟩) s → wpAny M A (f i u) Q E s) : ∀ (l : List Nat), Q ⟨⟩ s → wpAny M A (forIn l PUnit.unit f) Q E s
  | [], h => by rw [List.forIn_nil]; exact wpAny_pure h
  | i :: l, h => by
    rw [List.forIn_cons]
    exact wpAny_bind (hf i _ _ (wp_seen hf l h))
theorem wp_toEnd {M : Model} {x y : Sre.M} {Q : Option Sre.M → Shared → Prop} (h : goRe 30 x = some y) (c : Bool) (hy : y.outcome = some (if c then .matched else .failed)) (hQ : Q (if c then some y else none) s) : wpAny M A (Builtin.Re.reRunToEnd x) Q E s := by
  unfold Builtin.Re.reRunToEnd
  refine wpAny_bind (wp_drive 30 _ x y h (by decide) ?_)
  refine wpAny_bind (wp_seen (fun i u Q hQ => ?_) _ ?_)
  · by_cases q : y.seen.has i = true
    · simp only [q, if_true]
      first
        | exact wpAny_bind (wpAny_rule (wpAny_pure hQ))
        | exact wpAny_rule (wpAny_pure hQ)
    · simp only [q, if_false]
      first
        | exact wpAny_bind (wpAny_pure (wpAny_pure hQ))
        | exact wpAny_pure hQ
        | trace_state
  rw [hy]
  cases c
  · exact wpAny_pure hQ
  · exact wpAny_pure hQ
theorem reNamed_eq (v : Value) : Builtin.Re.reNamed "re.Pattern.match" "match" ["string", "pos", "endpos"] 1 [v] [] = pure [some v, none, none] := by rfl
theorem goRe_of {x : Str} {c : Bool} (h : reYes x c = true) : ∃ y, goRe 30 (reM x) = some y ∧ y.outcome = some (if c then .matched else .failed) := by
  unfold reYes at h
  cases q : goRe 30 (reM x) with
  | none => rw [q] at h; cases h
  | some y =>
    rw [q] at h
    refine ⟨y, rfl, ?_⟩
    have h' : (match y.outcome with | some .matched => c | some .failed => !c | _ => false) = true := h
    cases r : y.outcome with
    | none => rw [r] at h'; cases h'
    | some o =>
      rw [r] at h'
      cases o with
      | matched => simp at h'; rw [h']; rfl
      | failed => simp at h'; rw [h']; rfl
      | stuck => cases h'
theorem St.rematch (S : St w mg mb b L m N s) {x : Str} {t : Tok} {c : Bool} {Q : Value → Shared → Prop} (hc : reYes x c = true) (hx : x.length ≤ 1000) (h : ∀ v s', (v == Value.none) = !c → St w mg mb b L m N s' → Q v s') :
    wpAny (model PR w) A (call (.builtin "re.Pattern.match") [.ref 125, .str x t]) Q E s := by
  obtain ⟨y, hgo, hout⟩ := goRe_of hc
  have h125 := S.ok.kin _ _ (o125.2 w)
  have h124 := S.ok.kin _ _ (o124.2 w)
  have hT : s.TypeIs (.ref 125) "re.Pattern" := ⟨_, h125, rfl⟩
  refine wpAny_call_entry slot_rem hT entry_rem ?_ (args_rem _ _)
  unfold Builtin.«re.Pattern.match»
  refine wpAny_bind ?_
  unfold Builtin.Re.reTarget
  refine wpAny_bind (wpAny_of_eq (reNamed_eq _) ?_)
  refine wpAny_bind (wpAny_pure ?_)
  refine wpAny_bind (wpAny_pure ?_)
  refine wpAny_bind (wpAny_fieldsOf h125 rfl ?_)
  refine wpAny_bind ?_
  unfold Builtin.Re.reTextOf
  refine wpAny_bind (wpAny_pure ?_)
  refine wpAny_pure ?_
  dsimp only
  rw [if_neg (by decide), if_neg (by decide)]
  refine wpAny_bind (wpAny_pure ?_)
  refine wpAny_bind ?_
  refine wpAny_bind (wpAny_seqItems h124 rfl ?_)
  refine wpAny_pure ?_
  refine wpAny_pure ?_
  unfold Builtin.Re.reAnswer
  have e1 : min ((2 ^ 63 - 1 : Int)).toNat x.cps.size = x.length := by
    show min _ x.length = x.length
    have : ((2 ^ 63 - 1 : Int)).toNat = 9223372036854775807 := by decide
    omega
  have e0 : min ((0 : Int)).toNat x.cps.size = 0 := by simp
  refine wpAny_bind (wp_toEnd (y := y) ?_ c hout ?_)
  · rw [← hgo]
    congr 1
    dsimp only
    rw [e0, e1]
    exact congrArg (fun z => Sre.forMatch z x.cps 0 0 x.length false false) (show _ = reCode by decide +kernel)
  · cases c with
    | false =>
      show wpAny _ _ (ret Value.none) _ _ _
      exact wpAny_pure ⟨_, rfl, h _ _ rfl S⟩
    | true =>
      show wpAny _ _ (Builtin.Re.reNewMatch _ _ 0 _ _ y >>= fun v => ret v) _ _ _
      refine wpAny_bind ?_
      unfold Builtin.Re.reNewMatch
      show wpAny _ _ (newTuple [rawInt y.start, rawInt y.handed] >>= fun tp => newFields "re.Match" [.str x t, .ref 125, rawInt _, rawInt _, rawInt y.lastindex, tp]) _ _ _
      refine wpAny_bind ?_
      refine S.ntup (fun a1 s1 S => ?_) (by size_fits)
      refine wpAny_newObj_type ?_ (by size_fits)
      refine wpAny_pure ⟨_, rfl, h _ _ rfl ((S.drop (.cons _ (.refl _))).push _)⟩
theorem plain_re : PlainAttrs "re.Pattern" :=
  ⟨⟨"object.__getattribute__", by rw [typeLookup_type, builtinLookup_eq_fast]; kernel_rfl, by decide +kernel⟩, by rw [typeLookup_type, builtinLookup_eq_fast]; kernel_rfl⟩
theorem St.gmre (S : St w mg mb b L m N s) {pl : Sem Bool} {Q : Value × List Value → Shared → Prop} (h : Q (.builtin "re.Pattern.match", [.ref 125]) s) : wpAny (model PR w) A (getMethod (.ref 125) (Str.ofString "match") pl) Q E s := by
  have h125 := S.ok.kin _ _ (o125.2 w)
  exact getMethod_builtin ⟨_, h125, rfl⟩ plain_re slot_rem type_rem (fun a e => by cases e; exact ⟨_, h125, rfl⟩) h
theorem St.clower (S : St w mg mb b L m N s) {x : Str} {t : Tok} {Q : Value → Shared → Prop} (hx : x.length ≤ 100) (h : ∀ t s', St w mg mb b L m N s' → Q (.str (Txt.lower x) t) s') : wpAny (model PR w) A (call (.builtin "str.lower") [.str x t]) Q E s :=
  SCL.lower (by omega) fun _ => h _ _ S.tok
end
end Mine

namespace Mine
theorem kf_fill_N2 (w : World) : (hd.heap_39 w.params) = (hd.heap_39 w.params) ∧ PySem.Challenge.rw_bq5006_01 = PySem.Challenge.rw_bq5006_01 := by
  k_fill
  exact ⟨rfl, rfl⟩
local macro_rules | `(tactic| walk_at "kis") => `(tactic| (show nsIn (hd.heap_39 _) _ _ = _; k_is))
local macro_rules | `(tactic| walk_at "go1") => `(tactic| first
  | ((with_reducible show wpAny _ _ (eval _ _) _ _ _); first
    | ((with_reducible show wpAny _ _ (eval (Expr.Name _ _) _) _ _ _); rename St _ _ _ _ _ _ _ _ => S0; first | (refine S0.ld (by rfl) ?_) | (refine S0.ok.ldg (by walk_at "kis") ?_) | (refine S0.ok.ldb (by walk_at "kis") (by first | exact bb_len | exact bb_range | exact bb_isinstance | exact bb_dict | exact bb_str | exact bb_list | exact bb_sorted | exact bb_int | exact bb_float | exact bb_bool) ?_))
    | ((with_reducible show wpAny _ _ (eval (Expr.Constant (Const.int _) _ _) _) _ _ _); rename St _ _ _ _ _ _ _ _ => S0; refine S0.cint ?_; clear S0; unhygienic intros)
    | ((with_reducible show wpAny _ _ (eval (Expr.Constant (Const.str _) _ _) _) _ _ _); rename St _ _ _ _ _ _ _ _ => S0; refine S0.cstr ?_; clear S0; unhygienic intros)
    | ((with_reducible show wpAny _ _ (eval (Expr.Constant (Const.bool _) _ _) _) _ _ _); refine wpAny_Constant_bool ?_)
    | ((with_reducible show wpAny _ _ (eval (Expr.Constant (Const.none) _ _) _) _ _ _); refine wpAny_Constant_none ?_)
    | ((with_reducible show wpAny _ _ (eval (Expr.BinOp _ _ _ _) _) _ _ _); refine wpAny_BinOp ?_)
    | ((with_reducible show wpAny _ _ (eval (Expr.Subscript _ _ _) _) _ _ _); refine Subscript_ ?_)
    | ((with_reducible show wpAny _ _ (eval (Expr.Tuple _ _ _) _) _ _ _); refine Tuple_ ?_)
    | ((with_reducible show wpAny _ _ (eval (Expr.List _ _) _) _ _ _); refine List_ ?_)
    | ((with_reducible show wpAny _ _ (eval (Expr.Call (Expr.Attribute _ _ _) _ [] _) _) _ _ _); refine MethodCall_ ?_)
    | ((with_reducible show wpAny _ _ (eval (Expr.Call _ _ [] _) _) _ _ _); refine Call_ ?_)
    | ((with_reducible show wpAny _ _ (eval (Expr.IfExp _ _ _ _) _) _ _ _); refine wpAny_IfExp ?_)
    | ((with_reducible show wpAny _ _ (eval (Expr.Dict [] [] _) _) _ _ _); rename St _ _ _ _ _ _ _ _ => S0; refine S0.ndict ?_; clear S0; unhygienic intros)
    | ((with_reducible show wpAny _ _ (eval (Expr.Compare _ [_] [_] _) _) _ _ _); refine wpAny_Compare1 ?_)
    | ((with_reducible show wpAny _ _ (eval (Expr.Attribute _ _ _) _) _ _ _); refine Attribute_any_ ?_ (by rfl))
    | ((with_reducible show wpAny _ _ (eval (Expr.JoinedStr (_ :: _ :: _) _) _) _ _ _); refine x_js ?_))
  | ((with_reducible show wpAny _ _ (spliced _) _ _ _); first
    | ((with_reducible show wpAny _ _ (spliced (backTo _ (starEach [] _))) _ _ _); refine wpAny_items_nil ?_)
    | ((with_reducible show wpAny _ _ (spliced (backTo _ (starEach (_ :: _) _))) _ _ _); refine wpAny_items_cons ?_))
  | ((with_reducible show wpAny _ _ (newTuple _) _ _ _); rename St _ _ _ _ _ _ _ _ => S0; refine S0.ntup ?_; clear S0; unhygienic intros)
  | ((with_reducible show wpAny _ _ (newList _) _ _ _); rename St _ _ _ _ _ _ _ _ => S0; refine S0.nlist ?_; clear S0; unhygienic intros)
  | ((with_reducible show wpAny _ _ (storeName _ _ _) _ _ _); rename St _ _ _ _ _ _ _ _ => S0; refine S0.st ?_; clear S0; unhygienic intros)
  | ((with_reducible show wpAny _ _ (execs _ _) _ _ _); first
    | ((with_reducible show wpAny _ _ (execs (Stmt.Assign [Expr.Name _ _] _ _ :: _) _) _ _ _); refine x_assign ?_)
    | ((with_reducible show wpAny _ _ (execs (Stmt.Return (some _) _ :: _) _) _ _ _); refine x_return ?_)
    | ((with_reducible show wpAny _ _ (execs (Stmt.If _ _ _ _ :: _) _) _ _ _); refine x_if ?_)
    | ((with_reducible show wpAny _ _ (execs (Stmt.Expr _ _ :: _) _) _ _ _); refine x_expr ?_)
    | ((with_reducible show wpAny _ _ (execs (Stmt.AugAssign (Expr.Name _ _) _ _ _ :: _) _) _ _ _); refine x_aug ?_)
    | ((with_reducible show wpAny _ _ (execs [] _) _ _ _); refine x_nil ?_; try dsimp only)
    | ((with_reducible show wpAny _ _ (execs (Stmt.Assign [Expr.Subscript _ _ _] _ _ :: _) _) _ _ _); refine x_assign_sub ?_)
    | ((with_reducible show wpAny _ _ (execs (Stmt.For _ _ _ _ _ :: _) _) _ _ _); refine x_for ?_))
  | ((with_reducible show wpAny _ _ (isTrue _ _ _) _ _ _); first
    | ((with_reducible show wpAny _ _ (isTrue (Expr.Call _ _ _ _) _ _) _ _ _); refine wpAny_isTrue_value ?_)
    | ((with_reducible show wpAny _ _ (isTrue (Expr.Name _ _) _ _) _ _ _); refine wpAny_isTrue_value ?_)
    | ((with_reducible show wpAny _ _ (isTrue (Expr.Compare _ [_] [_] _) _ _) _ _ _); refine wpAny_isTrue_Compare1 ?_)
    | ((with_reducible show wpAny _ _ (isTrue (Expr.BoolOp _ _ _) _ _) _ _ _); refine wpAny_isTrue_BoolOp ?_))
  | ((with_reducible show wpAny _ _ (truthy (Value.bool _)) _ _ _); refine wpAny_truthy_bool ?_)
  | ((with_reducible show wpAny _ _ (callWith _ _ _ _ _) _ _ _); first
    | ((with_reducible show wpAny _ _ (callWith _ (Value.type _) _ (backTo _ (starEach (_ :: _) _)) []) _ _ _); refine PyProof.Rows.callWith_type1 ?_)
    | ((with_reducible show wpAny _ _ (callWith _ (Value.builtin _) [] (backTo _ (starEach (_ :: _) _)) []) _ _ _); refine PyProof.Rows.callWith_builtin1 ?_)
    | ((with_reducible show wpAny _ _ (callWith _ (Value.builtin _) (_ :: _) (backTo _ (starEach (_ :: _) _)) []) _ _ _); refine PyProof.Rows.callWith_method1 ?_)
    | ((with_reducible show wpAny _ _ (callWith _ (Value.builtin _) (_ :: _) (backTo _ (starEach [] _)) []) _ _ _); refine PyProof.Rows.callWith_method0 ?_))
  | ((with_reducible show wpAny _ _ (binaryOp _ _ _) _ _ _); first
    | ((with_reducible show wpAny _ _ (binaryOp Operator.Mod (Value.int _ _) (Value.int _ _)) _ _ _); rename St _ _ _ _ _ _ _ _ => S0; refine S0.i1 (fun h => mod_int (by decide) h) ?_; clear S0; unhygienic intros)
    | ((with_reducible show wpAny _ _ (binaryOp Operator.Add (Value.int _ _) (Value.int _ _)) _ _ _); rename St _ _ _ _ _ _ _ _ => S0; refine S0.i1 (fun h => add_int h) ?_; clear S0; unhygienic intros)
    | ((with_reducible show wpAny _ _ (binaryOp Operator.Sub (Value.int _ _) (Value.int _ _)) _ _ _); rename St _ _ _ _ _ _ _ _ => S0; refine S0.i1 (fun h => sub_int h) ?_; clear S0; unhygienic intros)
    | ((with_reducible show wpAny _ _ (binaryOp Operator.FloorDiv (Value.int _ _) (Value.int _ _)) _ _ _); rename St _ _ _ _ _ _ _ _ => S0; refine S0.i1 (fun h => floordiv_int (by decide) h) ?_; clear S0; unhygienic intros))
  | ((with_reducible show wpAny _ _ (allTrue _ _ _) _ _ _); first
    | ((with_reducible show wpAny _ _ (allTrue BoolOp.And (_ :: _) _) _ _ _); refine wpAny_allTrue_And_cons ?_)
    | ((with_reducible show wpAny _ _ (allTrue BoolOp.Or (_ :: _) _) _ _ _); refine wpAny_allTrue_Or_cons ?_)
    | ((with_reducible show wpAny _ _ (allTrue BoolOp.And [] _) _ _ _); refine wpAny_allTrue_And_nil ?_)
    | ((with_reducible show wpAny _ _ (allTrue BoolOp.Or [] _) _ _ _); refine wpAny_allTrue_Or_nil ?_))
  | (refine ite_t1 ?_)
  | (refine ite_f1 ?_))
local macro_rules | `(tactic| walk_at "go") => `(tactic| repeat walk_at "go1")

def resv : List Str := [Str.ofString "add", Str.ofString "allow", Str.ofString "alter", Str.ofString "and", Str.ofString "apply", Str.ofString "asc", Str.ofString "authorize", Str.ofString "batch", Str.ofString "begin", Str.ofString "by", Str.ofString "columnfamily", Str.ofString "create", Str.ofString "default", Str.ofString "delete", Str.ofString "desc", Str.ofString "describe", Str.ofString "drop", Str.ofString "entries", Str.ofString "execute", Str.ofString "from", Str.ofString "full", Str.ofString "grant", Str.ofString "if", Str.ofString "in", Str.ofString "index", Str.ofString "infinity", Str.ofString "insert", Str.ofString "into", Str.ofString "is", Str.ofString "keyspace", Str.ofString "limit", Str.ofString "materialized", Str.ofString "mbean", Str.ofString "mbeans", Str.ofString "modify", Str.ofString "nan", Str.ofString "norecursive", Str.ofString "not", Str.ofString "null", Str.ofString "of", Str.ofString "on", Str.ofString "or", Str.ofString "order", Str.ofString "primary", Str.ofString "rename", Str.ofString "replace", Str.ofString "revoke", Str.ofString "select", Str.ofString "set", Str.ofString "table", Str.ofString "to", Str.ofString "truncate", Str.ofString "unlogged", Str.ofString "unset", Str.ofString "update", Str.ofString "use", Str.ofString "using", Str.ofString "view", Str.ofString "where", Str.ofString "with", Str.ofString "node", Str.ofString "nodes", Str.ofString "plan", Str.ofString "active", Str.ofString "application", Str.ofString "applications", Str.ofString "java", Str.ofString "executor", Str.ofString "executors", Str.ofString "std_out", Str.ofString "std_err", Str.ofString "renew", Str.ofString "delegation", Str.ofString "no", Str.ofString "redact", Str.ofString "token", Str.ofString "lowercasestring", Str.ofString "cluster", Str.ofString "authentication", Str.ofString "schemes", Str.ofString "scheme", Str.ofString "internal", Str.ofString "ldap", Str.ofString "kerberos", Str.ofString "remote", Str.ofString "object", Str.ofString "method", Str.ofString "call", Str.ofString "calls", Str.ofString "search", Str.ofString "schema", Str.ofString "config", Str.ofString "rows", Str.ofString "columns", Str.ofString "profiles", Str.ofString "commit", Str.ofString "reload", Str.ofString "rebuild", Str.ofString "field", Str.ofString "workpool", Str.ofString "any", Str.ofString "submission", Str.ofString "indices", Str.ofString "restrict", Str.ofString "unrestrict"]
noncomputable def oR32 : {o : Obj // ∀ w : World, (hd.heap_39 w.params).lookup 32 = some o} := ⟨_, fun w => by k_is⟩
theorem strs32 : ∃ vs : List Value, oR32.1.cls = .type "tuple" ∧ oR32.1.data = .seq vs.toArray 0 ∧ StrsAre vs resv := ⟨_, rfl, rfl, by repeat (first | exact .nil | refine .cons _ _ ?_)⟩
inductive NameIs (x : Str) : Bool → Prop
  | res : (resv.any fun y => y == Txt.lower x) = true → NameIs x false
  | re (c : Bool) : (resv.any fun y => y == Txt.lower x) = false → reYes x c = true → NameIs x c
def pname (x : Str) (c : Bool) : Str := if c then x else (Str.ofString "\"" ++ Txt.replace x ⟨#[34]⟩ ⟨#[34, 34]⟩) ++ Str.ofString "\""
section
variable {w : World} {mg mb : Str → Option Value} {s : Shared} {A : Around} {E : Value → Shared → Prop}
theorem spec_valid (O : Ok w mg mb s) {k : Nat} (R : Rm A (k + 1)) {x : Str} {t : Tok} {c : Bool} {Q : Value → Shared → Prop} (hx : x.length ≤ 100) (hn : NameIs x c)
    (h : ∀ s', Aft s s' → Ok w mg mb s' → Q (.bool c) s') : wpAny (model PR w) A (call (.ref 132) [.str x t]) Q E s := by
  refine O.enter R (o132.2 w) f132.2 (c132 O.kin) (by rfl) (binds := [("name", .str x t)]) (by rfl) (by decide) (by simp; rfl) fun L s₁ S R => ?_
  clear O
  walk_at "go"
  rename St _ _ _ _ _ _ _ _ => S
  refine is_none ?_
  rw [show (Value.str x t == Value.none) = false from rfl]
  walk_at "go"
  rename St _ _ _ _ _ _ _ _ => S
  refine GM.lower ?_
  walk_at "go"
  rename St _ _ _ _ _ _ _ _ => S
  refine S.clower hx fun t2 s2 S => ?_
  walk_at "go"
  rename St _ _ _ _ _ _ _ _ => S
  obtain ⟨vs, h1, h2, h3⟩ := strs32
  refine in_tuple_strs (items := vs.toArray) ⟨_, S.ok.kin _ _ (oR32.2 w), h1, _, h2⟩ (by simpa using h3) ?_
  cases hn with
  | res hr =>
    rw [hr]
    walk_at "go"
    rename St _ _ _ _ _ _ _ _ => S
    exact h _ S.aft0 S.ok
  | re c hr hc =>
    rw [hr]
    walk_at "go"
    rename St _ _ _ _ _ _ _ _ => S
    refine S.gmre ?_
    walk_at "go"
    rename St _ _ _ _ _ _ _ _ => S
    refine S.rematch hc (by omega) fun v s3 hv S => ?_
    walk_at "go"
    rename St _ _ _ _ _ _ _ _ => S
    refine isNot_none ?_
    rw [hv, Bool.not_not]
    exact h _ S.aft0 S.ok
theorem spec_escape (O : Ok w mg mb s) {k : Nat} (R : Rm A (k + 1)) {x : Str} {t : Tok} {Q : Value → Shared → Prop} (hx : x.length ≤ 100)
    (h : ∀ t s', Aft s s' → Ok w mg mb s' → Q (.str (pname x false) t) s') : wpAny (model PR w) A (call (.ref 146) [.str x t]) Q E s := by
  refine O.enter R (o146.2 w) f146.2 (c146 O.kin) (by rfl) (binds := [("name", .str x t)]) (by rfl) (by decide) (by simp; rfl) fun L s₁ S R => ?_
  clear O
  refine x_return ?_
  refine x_js ?_
  refine j_piece (by decide) (wpAny_Constant_str ⟨_, _, rfl, by decide +kernel, ?_⟩)
  have S := S.tok (tk := s₁.toks + 1)
  refine j_fmt ?_
  refine MethodCall_ ?_
  refine S.ld (by rfl) ?_
  refine GM.replace ?_
  walk_at "go1"
  refine wpAny_items_cons ?_
  refine wpAny_Constant_str ?_
  refine wpAny_items_cons ?_
  refine wpAny_Constant_str ?_
  refine wpAny_items_nil ?_
  refine SC.replaceW (by show s₁.toks + 1 ≠ 0; omega) (by show s₁.toks + 1 + 1 ≠ 0; omega) (by show s₁.toks + 1 ≠ s₁.toks + 1 + 1; omega) (by decide +kernel) (by omega) (by decide +kernel) fun t' k => ?_
  have S := S.tok (tk := k)
  rw [show Str.ofString "\"" = ⟨#[34]⟩ by decide +kernel, show Str.ofString "\"\"" = ⟨#[34, 34]⟩ by decide +kernel]
  refine ⟨_, .str _ _ (by have := len_quoted x 34; omega), fun tk => ?_⟩
  have S := S.tok (tk := tk)
  refine j_const fun tk1 => ?_
  have S := S.tok (tk := tk1)
  refine j_nil fun t2 tk2 => ?_
  have S := S.tok (tk := tk2)
  have e : pname x false = Str.empty ++ ⟨#[34]⟩ ++ Txt.replace x ⟨#[34]⟩ ⟨#[34, 34]⟩ ++ ⟨#[34]⟩ := by
    rw [KPc.empty_app]
    unfold pname
    rw [if_neg (by decide), show Str.ofString "\"" = ⟨#[34]⟩ by decide +kernel]
  rw [← e]
  exact h _ _ S.aft0 S.ok
theorem spec_maybe (O : Ok w mg mb s) {k : Nat} (R : Rm A (k + 2)) {x : Str} {t : Tok} {c : Bool} {Q : Value → Shared → Prop} (hx : x.length ≤ 100) (hn : NameIs x c)
    (h : ∀ t s', Aft s s' → Ok w mg mb s' → Q (.str (pname x c) t) s') : wpAny (model PR w) A (call (.ref 139) [.str x t]) Q E s := by
  refine O.enter R (o139.2 w) f139.2 (c139 O.kin) (by rfl) (binds := [("name", .str x t)]) (by rfl) (by decide) (by simp; rfl) fun L s₁ S R => ?_
  clear O
  walk_at "go"
  rename St _ _ _ _ _ _ _ _ => S
  refine cw_fn f132.2 (o132.2 w) ?_
  walk_at "go"
  rename St _ _ _ _ _ _ _ _ => S
  refine ⟨S.ok.kin, ?_⟩
  refine spec_valid S.ok R hx hn fun s3 a3 O3 => ?_
  have S := S.aft a3 O3
  cases c with
  | true =>
    walk_at "go"
    rename St _ _ _ _ _ _ _ _ => S
    exact h _ _ S.aft0 S.ok
  | false =>
    walk_at "go"
    rename St _ _ _ _ _ _ _ _ => S
    refine cw_fn f146.2 (o146.2 w) ?_
    walk_at "go"
    rename St _ _ _ _ _ _ _ _ => S
    refine ⟨S.ok.kin, ?_⟩
    refine spec_escape S.ok R hx fun t4 s4 a4 O4 => ?_
    have S := S.aft a4 O4
    exact h _ _ S.aft0 S.ok
theorem spec_protect (O : Ok w mg mb s) {k : Nat} (R : Rm A (k + 3)) {x : Str} {t : Tok} {c : Bool} {Q : Value → Shared → Prop} (hx : x.length ≤ 100) (hn : NameIs x c)
    (h : ∀ t s', Aft s s' → Ok w mg mb s' → Q (.str (pname x c) t) s') : wpAny (model PR w) A (call (.ref 113) [.str x t]) Q E s := by
  refine O.enter R (o113.2 w) f113.2 (c113 O.kin) (by rfl) (binds := [("name", .str x t)]) (by rfl) (by decide) (by simp; rfl) fun L s₁ S R => ?_
  clear O
  walk_at "go"
  rename St _ _ _ _ _ _ _ _ => S
  refine cw_fn f139.2 (o139.2 w) ?_
  walk_at "go"
  rename St _ _ _ _ _ _ _ _ => S
  refine ⟨S.ok.kin, ?_⟩
  refine spec_maybe S.ok R hx hn fun t3 s3 a3 O3 => ?_
  have S := S.aft a3 O3
  exact h _ _ S.aft0 S.ok
/-- the law's five names, and the names of the small table -/
theorem nm_a : NameIs (Str.ofString "a") true := .re _ (by decide +kernel) (by decide +kernel)
theorem nm_sel : NameIs (Str.ofString "select") false := .res (by decide +kernel)
theorem nm_big : NameIs (Str.ofString "Big") false := .re _ (by decide +kernel) (by decide +kernel)
theorem nm_bc : NameIs (Str.ofString "b c") false := .re _ (by decide +kernel) (by decide +kernel)
theorem nm_qr : NameIs (Str.ofString "q\"r") false := .re _ (by decide +kernel) (by decide +kernel)
theorem nm_k : NameIs (Str.ofString "k") true := .re _ (by decide +kernel) (by decide +kernel)
theorem nm_t : NameIs (Str.ofString "t") true := .re _ (by decide +kernel) (by decide +kernel)
theorem pn_sel : pname (Str.ofString "select") false = Str.ofString "\"select\"" := by decide +kernel
theorem pn_big : pname (Str.ofString "Big") false = Str.ofString "\"Big\"" := by decide +kernel
theorem pn_bc : pname (Str.ofString "b c") false = Str.ofString "\"b c\"" := by decide +kernel
theorem pn_qr : pname (Str.ofString "q\"r") false = Str.ofString "\"q\"\"r\"" := by decide +kernel
end
end Mine

namespace Mine
abbrev Col := Str × Bool × Bool
def colText (c : Col) : Str := pname c.1 c.2.1 ++ (if c.2.2 then Str.ofString " DESC" else Str.ofString " ASC")
def clustOf (cols : List Col) : List Str := if cols = [] then [] else [(Str.ofString "CLUSTERING ORDER BY (" ++ Txt.join (Str.ofString ", ") (cols.map colText)) ++ Str.ofString ")"]
def compOf (c : Bool) : List Str := if c then [Str.ofString "COMPACT STORAGE"] else []
def sepOf (f : Bool) : Str := if f then Str.ofString "\n    AND " else Str.ofString " AND "
theorem join_len (sep : Str) (ps : List Str) (B : Nat) (h : ∀ y ∈ ps, y.length ≤ B) : (Txt.join sep ps).length ≤ ps.length * B + ps.length * sep.length := by
  show (PySem.Builtin.Str.glued sep ps).length ≤ _
  rw [StrLaws.glued_eq_join]
  have q := StrLaws.join_length_le sep ps
  have r := StrLaws.sumLen_le ps h
  omega
theorem line_len {r : Str × Val} {l : Str} (hl : lineOf r = some l) (h1 : r.1.length ≤ 100) (h2 : ∀ x, r.2 = .txt x → x.length ≤ 100) (h3 : ∀ i, r.2 = .num i → -10000 ≤ i ∧ i ≤ 10000) (h4 : ∀ x n, r.2 = .m2 x n → x.length ≤ 100 ∧ 0 ≤ n ∧ n ≤ 100) : l.length ≤ 10000 := by
  obtain ⟨x, v⟩ := r
  have e1 : (Str.ofString " = ").length = 3 := by decide +kernel
  have e2 : (Str.ofString " = {").length = 4 := by decide +kernel
  have e3 : (Str.ofString "}").length = 1 := by decide +kernel
  have e4 : (Str.ofString ", ").length = 2 := by decide +kernel
  have e5 : (Str.ofString "class").length = 5 := by decide +kernel
  have e6 : (Str.ofString "size").length = 4 := by decide +kernel
  have e7 : (Str.empty).length = 0 := rfl
  have q : ∀ y : Str, y.length ≤ 100 → (qt y).length ≤ 202 := fun y hy => by
    have := len_quoted y 39
    have e8 : ((⟨#[39]⟩ : Str)).length = 1 := rfl
    unfold qt
    rw [strLen_append, strLen_append]; omega
  have nl : ∀ i : Int, -10000 ≤ i → i ≤ 10000 → (Str.ofString (toString i)).length ≤ 1921 := fun i a b => PyProof.Rows.int_text_len_1921 (shown_small a b)
  have rest : (cval x v).text.length ≤ 2000 → lineOf (x, v) = some ((x ++ Str.ofString " = ") ++ (cval x v).text) → l.length ≤ 10000 := fun a b => by
    rw [b] at hl; cases hl
    rw [strLen_append, strLen_append]; dsimp only at h1; omega
  have em : (Val.txt Str.empty).text.length ≤ 2000 := by have := q Str.empty (by omega); show (qt Str.empty).length ≤ 2000; omega
  cases v with
  | non => cases hl
  | m0 =>
    cases hl
    have := join_len (Str.ofString ", ") [] 0 (by simp)
    show (mtext x []).length ≤ 10000
    unfold mtext
    rw [strLen_append, strLen_append, strLen_append]; dsimp only at h1; simp at this; omega
  | m2 t n =>
    cases hl
    obtain ⟨a, b, c⟩ := h4 t n rfl
    have := nl n (by omega) (by omega)
    have j := join_len (Str.ofString ", ") (m2pairs t n) 2000 (by
      intro y hy
      simp only [m2pairs, List.mem_cons, List.not_mem_nil, or_false] at hy
      rcases hy with rfl | rfl
      · rw [pairText_len]; omega
      · rw [pairText_len]; omega)
    have j2 : (m2pairs t n).length = 2 := rfl
    rw [j2, e4] at j
    show (mtext x (m2pairs t n)).length ≤ 10000
    unfold mtext
    rw [strLen_append, strLen_append, strLen_append]; dsimp only at h1; omega
  | boo c =>
    refine rest ?_ rfl
    unfold cval
    split
    · exact em
    · cases c <;> exact Nat.le_of_ble_eq_true (by decide +kernel)
  | num i =>
    refine rest ?_ rfl
    obtain ⟨a, b⟩ := h3 i rfl
    unfold cval
    split
    · exact em
    · exact Nat.le_trans (nl i a b) (by decide)
  | txt y =>
    refine rest ?_ rfl
    unfold cval
    split
    · exact em
    · exact Nat.le_trans (q y (h2 y rfl)) (by decide)
theorem lines_ok {rows : List (Str × Val)} (hr : RowsOk rows) : (∀ y ∈ linesOf rows, y.length ≤ 10000) ∧ (linesOf rows).length ≤ 20 := by
  refine ⟨fun y hy => ?_, Nat.le_trans (List.length_filterMap_le _ _) hr.size⟩
  obtain ⟨r, hm, hl⟩ := List.mem_filterMap.mp hy
  exact line_len hl (hr.len r hm) (fun x e => hr.txt r hm x e) (fun i e => hr.num r hm i e) (fun x n e => hr.m2 r hm x n e)
theorem pname_len {x : Str} (c : Bool) (h : x.length ≤ 100) : (pname x c).length ≤ 202 := by
  unfold pname
  split
  · omega
  · have := len_quoted x 34
    have e1 : (Str.ofString "\"").length = 1 := by decide +kernel
    rw [strLen_append, strLen_append]
    omega
theorem colText_len {c : Col} (h : c.1.length ≤ 100) : (colText c).length ≤ 210 := by
  unfold colText
  have := pname_len c.2.1 h
  have e1 : (Str.ofString " DESC").length = 5 := by decide +kernel
  have e2 : (Str.ofString " ASC").length = 4 := by decide +kernel
  rw [strLen_append]
  split <;> omega
theorem clust_len {cols : List Col} (h : ∀ c ∈ cols, c.1.length ≤ 100) (hz : cols.length ≤ 4) : (∀ y ∈ clustOf cols, y.length ≤ 10000) ∧ (clustOf cols).length ≤ 1 := by
  unfold clustOf
  split
  · simp
  · refine ⟨fun y hy => ?_, by simp⟩
    rw [List.mem_singleton] at hy
    subst hy
    have j := join_len (Str.ofString ", ") (cols.map colText) 210 (by
      intro y hy
      obtain ⟨c, hc, rfl⟩ := List.mem_map.mp hy
      exact colText_len (h c hc))
    have e4 : (Str.ofString ", ").length = 2 := by decide +kernel
    have e1 : (Str.ofString "CLUSTERING ORDER BY (").length = 21 := by decide +kernel
    have e2 : (Str.ofString ")").length = 1 := by decide +kernel
    rw [List.length_map, e4] at j
    rw [strLen_append, strLen_append]; omega
theorem parts_ok {rows : List (Str × Val)} (hr : RowsOk rows) {xs : List Str} (hx : xs.Perm (linesOf rows)) {cols : List Col} (h : ∀ c ∈ cols, c.1.length ≤ 100) (hz : cols.length ≤ 4) (cp fm : Bool) :
    JoinOk (sepOf fm) (compOf cp ++ clustOf cols ++ xs) = true ∧ (Txt.join (sepOf fm) (compOf cp ++ clustOf cols ++ xs)).length ≤ 600000 := by
  obtain ⟨a, b⟩ := lines_ok hr
  obtain ⟨c, d⟩ := clust_len h hz
  have e1 : (Str.ofString "COMPACT STORAGE").length = 15 := by decide +kernel
  refine join_small (fun y hy => ?_) ?_ (by unfold sepOf; split <;> exact Nat.le_of_ble_eq_true (by decide +kernel))
  · rcases List.mem_append.mp hy with hy | hy
    · rcases List.mem_append.mp hy with hy | hy
      · unfold compOf at hy
        split at hy
        · rw [List.mem_singleton] at hy; subst hy; omega
        · cases hy
      · exact c y hy
    · exact a y (hx.mem_iff.mp hy)
  · have := hx.length_eq
    have : (compOf cp).length ≤ 1 := by unfold compOf; split <;> simp
    simp only [List.length_append]; omega
end Mine

namespace Mine
section
variable {w : World} {mg mb : Str → Option Value} {b b' s s' : Shared} {L : Nat} {m : List (Str × Value)} {N : List (Nat × Obj)} {A : Around} {E : Value → Shared → Prop}
theorem St.gmext (S : St w mg mb b L m N s) {l k : Nat} {vs : Array Value} {pl : Sem Bool} {Q : Value × List Value → Shared → Prop} (ho : s.heap.get? l = some (lstObj vs k)) (h : Q (.builtin "list.extend", [.ref l]) s) :
    wpAny (model PR w) A (getMethod (.ref l) (Str.ofString "extend") pl) Q E s :=
  getMethod_builtin ⟨_, ho, rfl⟩ PySem.F.plainAttrs_list PySem.F.slot_list_extend PySem.F.type_list_extend (fun a e => by cases e; exact ⟨_, ho, rfl⟩) h
theorem St.extend (S : St w mg mb b L m N s) {d c : Nat} {vs ws : List Value} {k k2 : Nat} {pre post : List (Nat × Obj)} {Q : Value → Shared → Prop} (e : N = pre ++ (d, lstObj vs.toArray k) :: post)
    (hc : s.heap.get? c = some (lstObj ws.toArray k2)) (hz : vs.length + ws.length ≤ 1000)
    (h : ∀ k' s', St w mg mb b L m (pre ++ (d, lstObj (vs ++ ws).toArray k') :: post) s' → Q .none s') :
    wpAny (model PR w) A (call (.builtin "list.extend") [.ref d, .ref c]) Q E s := by
  have ho : s.heap.get? d = some (lstObj vs.toArray k) := S.get (p := (d, lstObj vs.toArray k)) (by rw [e]; exact List.mem_append.mpr (.inr (.head _)))
  have tl : ¬(!vs.toArray.isEmpty && Builtin.List.listTooLong (vs.toArray.size + ws.toArray.size)) = true := by
    have : Builtin.List.listTooLong (vs.toArray.size + ws.toArray.size) = false := by
      simp only [List.size_toArray]
      unfold Builtin.List.listTooLong
      exact decide_eq_false (by have := sizeLine_eq; omega)
    rw [this]; simp
  refine call_meets PySem.F.slot_list_extend ⟨_, ho, rfl⟩ PySem.F.entry_list_extend (PySem.F.args_list_extend_2 _ _) (PySem.AutoSeq1.list_extend_list_list_0 d vs.toArray k c ws.toArray k2 tl (by simp only [List.size_toArray, sizeLine_eq]; omega) (by simp only [List.size_toArray, sizeLine_eq]; omega)) ⟨ho, hc, ?_⟩
  have hu : ∃ k', (s.heap.update d (Obj.mapSeq fun x => x ++ ws.toArray)).get? d = some (lstObj (vs ++ ws).toArray k') := by
    rw [Heap.get?_update_self _ ho rfl]
    by_cases hw : ws = []
    · exact ⟨k, by simp [lstObj, Obj.mapSeq, hw]⟩
    · exact ⟨k + 1, by simp [lstObj, Obj.mapSeq, hw]⟩
  obtain ⟨k', hu⟩ := hu
  exact h _ _ (S.upd' e (tk := s.toks) (fun x ob hx hg => (Heap.get?_update_other _ _ (Ne.symm hx)).trans hg) hu)
theorem St.ltruth (S : St w mg mb b L m N s) {l : Nat} {vs : List Value} {Q : Bool → Shared → Prop} (hl : s.heap.IsList l vs.toArray) (hz : vs.length ≤ 1000) (h : ∀ s', St w mg mb b L m N s' → Q (!vs.isEmpty) s') : wpAny (model PR w) A (truthy (.ref l)) Q E s :=
  wpAny_truthy_list hl (by rw [List.size_toArray]; omega) (by rw [List.isEmpty_toArray]; exact h _ S.tok)
theorem ColIs.keep {h h' : Heap} (k : Keep h h') {v nm rev x dx es n} (c : ColIs h v nm rev x dx es n) : ColIs h' v nm rev x dx es n :=
  ⟨c.v, c.hx, c.hd, k _ _ (by have := c.hx; omega) (by have := c.hx; omega) c.x, k _ _ (by have := c.hd; omega) (by have := c.hd; omega) c.dx, c.name, c.typ, c.stat, c.rev⟩
theorem St.colrev (S : St w mg mb b L m N s) {v : Value} {nm : Str} {rev : Bool} {x dx : Nat} {es : List DictEntry} {n : Nat} {expr : Bool} {Q : Value → Shared → Prop} (c : ColIs b.heap v nm rev x dx es n)
    (h : ∀ s', St w mg mb b L m N s' → Q (.bool rev) s') : wpAny (model PR w) A (getAttr v (Str.ofString "is_reversed") expr) Q E s := by
  have C := c.keep S.keep
  rw [C.v]
  exact S.getattr C.x C.dx (k171g w _) (k171h w) (a171_is_reversed w) (ng_false w) C.rev (by rfl) h
theorem St.colstat (S : St w mg mb b L m N s) {v : Value} {nm : Str} {rev : Bool} {x dx : Nat} {es : List DictEntry} {n : Nat} {expr : Bool} {Q : Value → Shared → Prop} (c : ColIs b.heap v nm rev x dx es n)
    (h : ∀ s', St w mg mb b L m N s' → Q (.bool false) s') : wpAny (model PR w) A (getAttr v (Str.ofString "is_static") expr) Q E s := by
  have C := c.keep S.keep
  rw [C.v]
  exact S.getattr C.x C.dx (k171g w _) (k171h w) (a171_is_static w) (ng_false w) C.stat (by rfl) h
theorem St.colname (S : St w mg mb b L m N s) {v : Value} {nm : Str} {rev : Bool} {x dx : Nat} {es : List DictEntry} {n : Nat} {expr : Bool} {Q : Value → Shared → Prop} (c : ColIs b.heap v nm rev x dx es n)
    (h : ∀ t s', St w mg mb b L m N s' → Q (.str nm t) s') : wpAny (model PR w) A (getAttr v (Str.ofString "name") expr) Q E s := by
  have C := c.keep S.keep
  obtain ⟨t, ht⟩ := C.name
  rw [C.v]
  exact S.getattr C.x C.dx (k171g w _) (k171h w) (a171_name w) (ng_none w) ht (by rfl) (h t)
theorem St.coltype (S : St w mg mb b L m N s) {v : Value} {nm : Str} {rev : Bool} {x dx : Nat} {es : List DictEntry} {n : Nat} {expr : Bool} {Q : Value → Shared → Prop} (c : ColIs b.heap v nm rev x dx es n)
    (h : ∀ t s', St w mg mb b L m N s' → Q (.str "int" t) s') : wpAny (model PR w) A (getAttr v (Str.ofString "cql_type") expr) Q E s := by
  have C := c.keep S.keep
  obtain ⟨t, ht⟩ := C.typ
  rw [C.v]
  exact S.getattr C.x C.dx (k171g w _) (k171h w) (a171_cql_type w) (ng_none w) ht (by rfl) (h t)
end
end Mine

namespace Mine
theorem kf_fill_K6 (w : World) : (hd.heap_39 w.params) = (hd.heap_39 w.params) ∧ PySem.Challenge.rw_bq5006_01 = PySem.Challenge.rw_bq5006_01 := by
  k_fill
  exact ⟨rfl, rfl⟩
local macro_rules | `(tactic| walk_at "kis") => `(tactic| (show nsIn (hd.heap_39 _) _ _ = _; k_is))
local macro_rules | `(tactic| walk_at "go1") => `(tactic| first
  | ((with_reducible show wpAny _ _ (eval _ _) _ _ _); first
    | ((with_reducible show wpAny _ _ (eval (Expr.Name _ _) _) _ _ _); rename St _ _ _ _ _ _ _ _ => S0; first | (refine S0.ld (by rfl) ?_) | (refine S0.ok.ldg (by walk_at "kis") ?_) | (refine S0.ok.ldb (by walk_at "kis") (by first | exact bb_len | exact bb_range | exact bb_isinstance | exact bb_dict | exact bb_str | exact bb_list | exact bb_sorted | exact bb_int | exact bb_float | exact bb_bool) ?_))
    | ((with_reducible show wpAny _ _ (eval (Expr.Constant (Const.int _) _ _) _) _ _ _); rename St _ _ _ _ _ _ _ _ => S0; refine S0.cint ?_; clear S0; unhygienic intros)
    | ((with_reducible show wpAny _ _ (eval (Expr.Constant (Const.str _) _ _) _) _ _ _); rename St _ _ _ _ _ _ _ _ => S0; refine S0.cstr ?_; clear S0; unhygienic intros)
    | ((with_reducible show wpAny _ _ (eval (Expr.Constant (Const.bool _) _ _) _) _ _ _); refine wpAny_Constant_bool ?_)
    | ((with_reducible show wpAny _ _ (eval (Expr.Constant (Const.none) _ _) _) _ _ _); refine wpAny_Constant_none ?_)
    | ((with_reducible show wpAny _ _ (eval (Expr.BinOp _ _ _ _) _) _ _ _); refine wpAny_BinOp ?_)
    | ((with_reducible show wpAny _ _ (eval (Expr.Subscript _ _ _) _) _ _ _); refine Subscript_ ?_)
    | ((with_reducible show wpAny _ _ (eval (Expr.Tuple _ _ _) _) _ _ _); refine Tuple_ ?_)
    | ((with_reducible show wpAny _ _ (eval (Expr.List _ _) _) _ _ _); refine List_ ?_)
    | ((with_reducible show wpAny _ _ (eval (Expr.Call (Expr.Attribute _ _ _) _ [] _) _) _ _ _); refine MethodCall_ ?_)
    | ((with_reducible show wpAny _ _ (eval (Expr.Call _ _ [] _) _) _ _ _); refine Call_ ?_)
    | ((with_reducible show wpAny _ _ (eval (Expr.IfExp _ _ _ _) _) _ _ _); refine wpAny_IfExp ?_)
    | ((with_reducible show wpAny _ _ (eval (Expr.Dict [] [] _) _) _ _ _); rename St _ _ _ _ _ _ _ _ => S0; refine S0.ndict ?_; clear S0; unhygienic intros)
    | ((with_reducible show wpAny _ _ (eval (Expr.Compare _ [_] [_] _) _) _ _ _); refine wpAny_Compare1 ?_)
    | ((with_reducible show wpAny _ _ (eval (Expr.Attribute _ _ _) _) _ _ _); refine Attribute_any_ ?_ (by rfl))
    | ((with_reducible show wpAny _ _ (eval (Expr.JoinedStr (_ :: _ :: _) _) _) _ _ _); refine x_js ?_))
  | ((with_reducible show wpAny _ _ (spliced _) _ _ _); first
    | ((with_reducible show wpAny _ _ (spliced (backTo _ (starEach [] _))) _ _ _); refine wpAny_items_nil ?_)
    | ((with_reducible show wpAny _ _ (spliced (backTo _ (starEach (_ :: _) _))) _ _ _); refine wpAny_items_cons ?_))
  | ((with_reducible show wpAny _ _ (newTuple _) _ _ _); rename St _ _ _ _ _ _ _ _ => S0; refine S0.ntup ?_; clear S0; unhygienic intros)
  | ((with_reducible show wpAny _ _ (newList _) _ _ _); rename St _ _ _ _ _ _ _ _ => S0; refine S0.nlist ?_; clear S0; unhygienic intros)
  | ((with_reducible show wpAny _ _ (storeName _ _ _) _ _ _); rename St _ _ _ _ _ _ _ _ => S0; refine S0.st ?_; clear S0; unhygienic intros)
  | ((with_reducible show wpAny _ _ (execs _ _) _ _ _); first
    | ((with_reducible show wpAny _ _ (execs (Stmt.Assign [Expr.Name _ _] _ _ :: _) _) _ _ _); refine x_assign ?_)
    | ((with_reducible show wpAny _ _ (execs (Stmt.Return (some _) _ :: _) _) _ _ _); refine x_return ?_)
    | ((with_reducible show wpAny _ _ (execs (Stmt.If _ _ _ _ :: _) _) _ _ _); refine x_if ?_)
    | ((with_reducible show wpAny _ _ (execs (Stmt.Expr _ _ :: _) _) _ _ _); refine x_expr ?_)
    | ((with_reducible show wpAny _ _ (execs (Stmt.AugAssign (Expr.Name _ _) _ _ _ :: _) _) _ _ _); refine x_aug ?_)
    | ((with_reducible show wpAny _ _ (execs [] _) _ _ _); refine x_nil ?_; try dsimp only)
    | ((with_reducible show wpAny _ _ (execs (Stmt.Assign [Expr.Subscript _ _ _] _ _ :: _) _) _ _ _); refine x_assign_sub ?_)
    | ((with_reducible show wpAny _ _ (execs (Stmt.For _ _ _ _ _ :: _) _) _ _ _); refine x_for ?_))
  | ((with_reducible show wpAny _ _ (isTrue _ _ _) _ _ _); first
    | ((with_reducible show wpAny _ _ (isTrue (Expr.Call _ _ _ _) _ _) _ _ _); refine wpAny_isTrue_value ?_)
    | ((with_reducible show wpAny _ _ (isTrue (Expr.Name _ _) _ _) _ _ _); refine wpAny_isTrue_value ?_)
    | ((with_reducible show wpAny _ _ (isTrue (Expr.Compare _ [_] [_] _) _ _) _ _ _); refine wpAny_isTrue_Compare1 ?_)
    | ((with_reducible show wpAny _ _ (isTrue (Expr.BoolOp _ _ _) _ _) _ _ _); refine wpAny_isTrue_BoolOp ?_))
  | ((with_reducible show wpAny _ _ (truthy (Value.bool _)) _ _ _); refine wpAny_truthy_bool ?_)
  | ((with_reducible show wpAny _ _ (callWith _ _ _ _ _) _ _ _); first
    | ((with_reducible show wpAny _ _ (callWith _ (Value.type _) _ (backTo _ (starEach (_ :: _) _)) []) _ _ _); refine PyProof.Rows.callWith_type1 ?_)
    | ((with_reducible show wpAny _ _ (callWith _ (Value.builtin _) [] (backTo _ (starEach (_ :: _) _)) []) _ _ _); refine PyProof.Rows.callWith_builtin1 ?_)
    | ((with_reducible show wpAny _ _ (callWith _ (Value.builtin _) (_ :: _) (backTo _ (starEach (_ :: _) _)) []) _ _ _); refine PyProof.Rows.callWith_method1 ?_)
    | ((with_reducible show wpAny _ _ (callWith _ (Value.builtin _) (_ :: _) (backTo _ (starEach [] _)) []) _ _ _); refine PyProof.Rows.callWith_method0 ?_))
  | ((with_reducible show wpAny _ _ (binaryOp _ _ _) _ _ _); first
    | ((with_reducible show wpAny _ _ (binaryOp Operator.Mod (Value.int _ _) (Value.int _ _)) _ _ _); rename St _ _ _ _ _ _ _ _ => S0; refine S0.i1 (fun h => mod_int (by decide) h) ?_; clear S0; unhygienic intros)
    | ((with_reducible show wpAny _ _ (binaryOp Operator.Add (Value.int _ _) (Value.int _ _)) _ _ _); rename St _ _ _ _ _ _ _ _ => S0; refine S0.i1 (fun h => add_int h) ?_; clear S0; unhygienic intros)
    | ((with_reducible show wpAny _ _ (binaryOp Operator.Sub (Value.int _ _) (Value.int _ _)) _ _ _); rename St _ _ _ _ _ _ _ _ => S0; refine S0.i1 (fun h => sub_int h) ?_; clear S0; unhygienic intros)
    | ((with_reducible show wpAny _ _ (binaryOp Operator.FloorDiv (Value.int _ _) (Value.int _ _)) _ _ _); rename St _ _ _ _ _ _ _ _ => S0; refine S0.i1 (fun h => floordiv_int (by decide) h) ?_; clear S0; unhygienic intros))
  | ((with_reducible show wpAny _ _ (allTrue _ _ _) _ _ _); first
    | ((with_reducible show wpAny _ _ (allTrue BoolOp.And (_ :: _) _) _ _ _); refine wpAny_allTrue_And_cons ?_)
    | ((with_reducible show wpAny _ _ (allTrue BoolOp.Or (_ :: _) _) _ _ _); refine wpAny_allTrue_Or_cons ?_)
    | ((with_reducible show wpAny _ _ (allTrue BoolOp.And [] _) _ _ _); refine wpAny_allTrue_And_nil ?_)
    | ((with_reducible show wpAny _ _ (allTrue BoolOp.Or [] _) _ _ _); refine wpAny_allTrue_Or_nil ?_))
  | (refine ite_t1 ?_)
  | (refine ite_f1 ?_))
local macro_rules | `(tactic| walk_at "go") => `(tactic| repeat walk_at "go1")

section
variable {w : World} {mg mb : Str → Option Value} {s : Shared} {A : Around} {E : Value → Shared → Prop}
theorem toList_app (a b : Str) : (a ++ b).cps.toList = a.cps.toList ++ b.cps.toList := by
  show (a.cps ++ b.cps).toList = _
  exact Array.toList_append
theorem hcolT (nm : Str) (nc : Bool) (t : Tok) : ∀ rev : Bool, (Value.str (((Str.empty ++ pname nm nc) ++ Str.ofString " ") ++ (if rev then Str.ofString "DESC" else Str.ofString "ASC")) t) = Value.str (colText (nm, nc, rev)) t := by
  intro rev
  refine congrArg (fun z => Value.str z t) (str_ext ?_)
  unfold colText
  rw [KPc.empty_app]
  cases rev
  · have e : (Str.ofString " " : Str).cps.toList ++ (Str.ofString "ASC").cps.toList = (Str.ofString " ASC").cps.toList := by decide +kernel
    simp only [Bool.false_eq_true, if_false]
    rw [toList_app, toList_app, toList_app, List.append_assoc, e]
  · have e : (Str.ofString " " : Str).cps.toList ++ (Str.ofString "DESC").cps.toList = (Str.ofString " DESC").cps.toList := by decide +kernel
    simp only [if_true]
    rw [toList_app, toList_app, toList_app, List.append_assoc, e]
theorem clustT (z : Str) : Str.ofString "CLUSTERING ORDER BY " ++ ((⟨#[40]⟩ : Str) ++ z ++ (⟨#[41]⟩ : Str)) = (Str.ofString "CLUSTERING ORDER BY (" ++ z) ++ Str.ofString ")" := by
  refine str_ext ?_
  have e1 : (Str.ofString "CLUSTERING ORDER BY ").cps.toList ++ [40] = (Str.ofString "CLUSTERING ORDER BY (").cps.toList := by decide +kernel
  have e2 : (Str.ofString ")").cps.toList = [41] := by decide +kernel
  simp only [toList_app]
  rw [← e1, e2]
  simp
theorem if_join {M : Model} {env : Env} {c : Bool} {body orelse rest : List Stmt} {Q : Flow → Shared → Prop} {J : Shared → Prop} (h1 : c = true → wpAny M A (execs body env) (fun f s' => f = .next ∧ J s') E s) (h2 : c = false → wpAny M A (execs orelse env) (fun f s' => f = .next ∧ J s') E s)
    (h3 : ∀ s', J s' → wpAny M A (execs rest env) Q E s') : if c = true then wpAny M A (execs body env) (Rest M A env rest Q E) E s else wpAny M A (execs orelse env) (Rest M A env rest Q E) E s := by
  have k : ∀ l, wpAny M A (execs l env) (fun f s' => f = .next ∧ J s') E s → wpAny M A (execs l env) (Rest M A env rest Q E) E s := fun l h => wpAny_mono h (fun f s' x => by obtain ⟨rfl, x⟩ := x; exact h3 s' x) (fun _ _ x => x)
  cases c with
  | true => exact k _ (h1 rfl)
  | false => exact k _ (h2 rfl)
theorem spec_psK (O : Ok w mg mb s) {k : Nat} (R : Rm A (k + 5)) {d cl : Nat} {fm cp : Bool} {kvs : List (Str × Value)} {rows : List (Str × Val)} {cvs : List Value} {cols : List Col} {Q : Value → Shared → Prop}
    (hd : s.heap.DictOf (SK w) d kvs) (hd1 : 218 ≤ d) (he : EntsIn w s.heap kvs rows) (hr : RowsOk rows)
    (hcl : s.heap.IsList cl cvs.toArray) (hcl1 : 218 ≤ cl) (hcols : All2 (fun v (c : Col) => ColIn s.heap v c.1 c.2.2 ∧ NameIs c.1 c.2.1 ∧ c.1.length ≤ 100) cvs cols) (hcz : cols.length ≤ 4)
    (h : ∀ t xs s', Aft s s' → Ok w mg mb s' → xs.Perm (linesOf rows) → sortedS xs = true → Q (.str (Txt.join (sepOf fm) (compOf cp ++ clustOf cols ++ xs)) t) s') :
    codeAny (model PR w) A (.call (.ref 72) ⟨[.ref 104, .bool fm, .ref cl, .ref d, .bool cp], []⟩) (fun r s' => match r with | .ok (.ret v) => Q v s' | .ok _ => False | .error e => E e s') s := by
  refine O.enterK R (o72.2 w) f72.2 (c72 O.kin) (by rfl) (binds := [("cls", .ref 104), ("formatted", .bool fm), ("clustering_key", .ref cl), ("options_map", .ref d), ("is_compact_storage", .bool cp)]) (binds_K O.kin (by rfl) (o65.2 w) (by rfl) (by rfl) (by rfl)) (by decide) (by intro x hx; simp at hx; rcases hx with rfl | rfl | rfl | rfl | rfl <;> rfl) fun L s₁ S R => ?_
  clear O
  have cz : ∀ c ∈ cols, c.1.length ≤ 100 := fun c hc => by
    obtain ⟨i, hi⟩ := List.getElem?_of_mem hc
    obtain ⟨v, _, q⟩ := hcols.get' hi
    exact q.2.2
  walk_at "go"
  rename St _ _ _ _ _ _ _ _ => S
  have m0 : ∀ {s2 : Shared} {m' : List (Str × Value)} {vs : List Value} {k' : Nat}, St w mg mb s L m' [(a, lstObj vs.toArray k')] s2 → m'.lookup (Str.ofString "properties") = some (.ref a) → m'.lookup (Str.ofString "cls") = some (.ref 104) → m'.lookup (Str.ofString "formatted") = some (.bool fm) →
      m'.lookup (Str.ofString "clustering_key") = some (.ref cl) → m'.lookup (Str.ofString "options_map") = some (.ref d) →
      St w mg mb s L [(Str.ofString "properties", Value.ref a), (Str.ofString "cls", Value.ref 104), (Str.ofString "formatted", Value.bool fm), (Str.ofString "clustering_key", Value.ref cl), (Str.ofString "options_map", Value.ref d)] [(a, lstObj vs.toArray k')] s2 :=
    fun S a1 a2 a3 a4 a5 => S.locals (lkc a1 (lkc a2 (lkc a3 (lkc a4 (lkc a5 lk0)))))
  refine if_join (J := fun s2 => ∃ vs k', All2 StrV vs (compOf cp) ∧ St w mg mb s L [(Str.ofString "properties", Value.ref a), (Str.ofString "cls", Value.ref 104), (Str.ofString "formatted", Value.bool fm), (Str.ofString "clustering_key", Value.ref cl), (Str.ofString "options_map", Value.ref d)] [(a, lstObj vs.toArray k')] s2) ?_ ?_ ?_
  · rintro rfl
    walk_at "go"
    rename St _ _ _ _ _ _ _ _ => S
    refine getMethod_list_append (S.get (.head _)) rfl rfl ?_
    walk_at "go"
    rename St _ _ _ _ _ _ _ _ => S
    refine S.append (vs := []) (pre := []) (post := []) rfl fun k' s2 S => ?_
    refine ⟨rfl, ?_⟩
    refine x_nil ⟨rfl, _, _, .cons ⟨_, rfl⟩ .nil, m0 S (by rfl) (by rfl) (by rfl) (by rfl) (by rfl)⟩
  · rintro rfl
    exact x_nil ⟨rfl, [], 0, .nil, m0 S (by rfl) (by rfl) (by rfl) (by rfl) (by rfl)⟩
  rintro s2 ⟨vs, k', hvs, S⟩
  have hclS : s2.heap.IsList cl cvs.toArray := let ⟨o, h1, h2⟩ := hcl; ⟨o, S.keep _ _ (by omega) (by omega) h1, h2⟩
  have clen := hcols.length
  walk_at "go"
  rename St _ _ _ _ _ _ _ _ => S
  refine S.ltruth hclS (by omega) fun s3 S => ?_
  refine if_join (J := fun s2 => ∃ vs k', All2 StrV vs (compOf cp ++ clustOf cols) ∧ St w mg mb s L [(Str.ofString "properties", Value.ref a), (Str.ofString "cls", Value.ref 104), (Str.ofString "formatted", Value.bool fm), (Str.ofString "clustering_key", Value.ref cl), (Str.ofString "options_map", Value.ref d)] [(a, lstObj vs.toArray k')] s2) ?_ ?_ ?_
  · intro hne
    walk_at "go"
    rename St _ _ _ _ _ _ _ _ => S
    refine for_list (hl := hcl) R (J := fun i b' m' N' => ∃ xs k2, m' = [(Str.ofString "inner", Value.ref a_1), (Str.ofString "cluster_str", Value.str (Str.ofString "CLUSTERING ORDER BY ") t), (Str.ofString "properties", Value.ref a), (Str.ofString "cls", Value.ref 104), (Str.ofString "formatted", Value.bool fm), (Str.ofString "clustering_key", Value.ref cl), (Str.ofString "options_map", Value.ref d)] ∧
      N' = [(a_1, lstObj xs.toArray k2), (a, lstObj vs.toArray k')] ∧ All2 StrV xs ((cols.take i).map colText)) S (by omega) (by omega) ?_ ?_ ?_
    · exact ⟨[], 0, rfl, rfl, .nil⟩
    · rintro i v b' m' N' it oi s5 hv ab ⟨xs, k2, rfl, rfl, hxs⟩ S
      obtain ⟨⟨nm, nc, rev⟩, hc, ⟨x, dx, es, n, hcol⟩, hnm, hl⟩ := hcols.get hv
      have hcol := hcol.keep ab.keep
      refine PyProof.Rows.assign_Name ?_
      walk_at "go"
      rename St _ _ _ _ _ _ _ _ => S
      refine wpAny_isTrue_value ?_
      walk_at "go"
      rename St _ _ _ _ _ _ _ _ => S
      refine S.colrev hcol fun s6 S => ?_
      refine wpAny_truthy_bool ?_
      have htake : (cols.take (i + 1)).map colText = (cols.take i).map colText ++ [colText (nm, nc, rev)] := by
        rw [List.take_add_one, hc, List.map_append]; rfl
      cases rev
      all_goals
        dsimp only at *
        walk_at "go"
        rename St _ _ _ _ _ _ _ _ => S
        refine getMethod_list_append (S.get (p := (a_1, lstObj xs.toArray k2)) (by simp)) rfl rfl ?_
        walk_at "go"
        rename St _ _ _ _ _ _ _ _ => S
        refine j_fmt ?_
        walk_at "go"
        rename St _ _ _ _ _ _ _ _ => S
        refine cw_fn f113.2 (o113.2 w) ?_
        walk_at "go"
        rename St _ _ _ _ _ _ _ _ => S
        refine S.colname hcol fun t2 s7 S => ?_
        walk_at "go"
        rename St _ _ _ _ _ _ _ _ => S
        refine ⟨S.ok.kin, ?_⟩
        refine spec_protect S.ok (k := k + 1) R hl hnm fun t3 s8 a3 O3 => ?_
        have S := S.aft a3 O3
        refine ⟨_, .str _ _ (by have := pname_len nc hl; omega), fun tk => ?_⟩
        have S := S.tok (tk := tk)
        refine j_const fun tk1 => ?_
        have S := S.tok (tk := tk1)
        refine j_fmt (S.ld (by rfl) ⟨_, .str _ _ (Nat.le_of_ble_eq_true (by decide +kernel)), fun tk2 => ?_⟩)
        have S := S.tok (tk := tk2)
        refine j_nil fun t4 tk3 => ?_
        have S := S.tok (tk := tk3)
        walk_at "go"
        rename St _ _ _ _ _ _ _ _ => S
        refine S.append (pre := [(it, oi)]) rfl (fun k3 s9 S => ?_) ?_
        · refine ⟨rfl, ?_⟩
          walk_at "go"
          rename St _ _ _ _ _ _ _ _ => S
          refine ⟨b', _, _, .refl _, ⟨_, k3, rfl, rfl, ?_⟩, S.locals (lkc (by rfl) (lkc (by rfl) (lkc (by rfl) (lkc (by rfl) (lkc (by rfl) (lkc (by rfl) (lkc (by rfl) lk0)))))))⟩
          rw [htake]
          first | exact hxs.snoc ⟨t4, hcolT nm nc t4 false⟩ | exact hxs.snoc ⟨t4, hcolT nm nc t4 true⟩
        · have q := hxs.length
          rw [List.length_map, List.length_take] at q
          have := sizeLine_eq
          omega
    · rintro b' m' N' s5 ab ⟨xs, k2, rfl, rfl, hxs⟩ S
      rw [show cvs.length = cols.length from clen, List.take_length] at hxs
      walk_at "go"
      rename St _ _ _ _ _ _ _ _ => S
      refine S.ldn (by rfl) ?_
      walk_at "go"
      rename St _ _ _ _ _ _ _ _ => S
      refine GM.join ?_
      walk_at "go"
      rename St _ _ _ _ _ _ _ _ => S
      have hj := join_len (Str.ofString ", ") (cols.map colText) 210 (by
        intro y hy
        obtain ⟨c, hc, rfl⟩ := List.mem_map.mp hy
        exact colText_len (cz c hc))
      have e4 : (Str.ofString ", ").length = 2 := by decide +kernel
      rw [List.length_map, e4] at hj
      refine S.cjoin (xs := cols.map colText) ⟨_, S.get (.head _), rfl, _, rfl⟩ hxs (join_small (fun y hy => by
        obtain ⟨c, hc, rfl⟩ := List.mem_map.mp hy
        exact Nat.le_trans (colText_len (cz c hc)) (by decide)) (by rw [List.length_map]; omega) (by omega)).1 fun t5 s6 S => ?_
      walk_at "go"
      rename St _ _ _ _ _ _ _ _ => S
      refine S.mods (fun z hz => f_par z hz) (by omega) fun t6 s7 S => ?_
      refine SB.iadd (fun t7 tk => ?_) ?_
      · have S := S.tok (tk := tk)
        walk_at "go"
        rename St _ _ _ _ _ _ _ _ => S
        refine getMethod_list_append (S.get (p := (a, lstObj vs.toArray k')) (by simp)) rfl rfl ?_
        walk_at "go"
        rename St _ _ _ _ _ _ _ _ => S
        refine S.append (pre := [(a_1, lstObj xs.toArray k2)]) rfl (fun k3 s9 S => ?_) ?_
        · refine ⟨rfl, ?_⟩
          walk_at "go"
          rename St _ _ _ _ _ _ _ _ => S
          refine ⟨rfl, _, k3, ?_, ((S.weaken ab).drop (.cons _ (.refl _))).locals (lkc (by rfl) (lkc (by rfl) (lkc (by rfl) (lkc (by rfl) (lkc (by rfl) lk0)))))⟩
          have hnn : cols ≠ [] := by rintro rfl; cases cvs with | nil => simp at hne | cons v l => simp at clen
          rw [show compOf cp ++ clustOf cols = compOf cp ++ [(Str.ofString "CLUSTERING ORDER BY (" ++ Txt.join (Str.ofString ", ") (cols.map colText)) ++ Str.ofString ")"] by unfold clustOf; rw [if_neg hnn]]
          exact hvs.snoc ⟨t7, congrArg (fun z => Value.str z t7) (clustT _)⟩
        · have q := hvs.length
          have : (compOf cp).length ≤ 1 := by unfold compOf; split <;> simp
          have := sizeLine_eq
          omega
      · have e1 : (Str.ofString "CLUSTERING ORDER BY ").length = 20 := by decide +kernel
        have e2 : ((⟨#[40]⟩ : Str)).length = 1 := rfl
        have e3 : ((⟨#[41]⟩ : Str)).length = 1 := rfl
        have := sizeLine_eq
        rw [strLen_append, strLen_append]
        omega
  · intro he
    have : cols = [] := by
      cases cols with
      | nil => rfl
      | cons c l => cases cvs with
        | nil => simp at clen
        | cons v vs => simp at he
    subst this
    exact x_nil ⟨rfl, vs, k', by rw [show clustOf [] = [] from rfl, List.append_nil]; exact hvs, S⟩
  rintro s4 ⟨vs, k', hvs, S⟩
  walk_at "go"
  rename St _ _ _ _ _ _ _ _ => S
  refine S.gmext (S.get (.head _)) ?_
  walk_at "go"
  rename St _ _ _ _ _ _ _ _ => S
  refine S.gmcls (fc_mos w) (rc_mos w) fun q s5 S => ?_
  dsimp only
  refine cw_M (self := .ref 104) (fn98 w) ?_
  walk_at "go"
  rename St _ _ _ _ _ _ _ _ => S
  refine ⟨⟨S.get (.head _), S.ok.kin⟩, ?_⟩
  refine meth_call (S.get (.head _)) ?_
  refine spec_mosK S.ok (k := k + 2) R (DictOf.keep S.keep hd1 hd) hd1 (he.keep S.keep) hr fun l ws xs k2 s6 a6 O6 hl6 hl7 hws hpm hsd hfr => ?_
  have S := S.aft a6 O6
  walk_at "go"
  rename St _ _ _ _ _ _ _ _ => S
  refine S.extend (pre := [(q, methodObj (Value.ref 98) (Value.ref 104))]) rfl hl6 ?_ fun k3 s7 S => ?_
  · have q := hvs.length
    have q2 := (clust_len cz hcz).2
    have : (compOf cp).length ≤ 1 := by unfold compOf; split <;> simp
    have q3 := hws.length
    have q4 := (lines_ok hr).2
    have q5 := hpm.length_eq
    rw [List.length_append] at q
    omega
  refine ⟨rfl, ?_⟩
  walk_at "go"
  rename St _ _ _ _ _ _ _ _ => S
  have pok := parts_ok hr hpm cz hcz cp fm
  have hall := hvs.append hws
  cases fm
  all_goals
    walk_at "go"
    rename St _ _ _ _ _ _ _ _ => S
    refine GM.join ?_
    walk_at "go"
    rename St _ _ _ _ _ _ _ _ => S
    refine S.cjoin (xs := compOf cp ++ clustOf cols ++ xs) ⟨_, S.get (p := (a, lstObj (vs ++ ws).toArray k3)) (by simp), rfl, _, rfl⟩ hall pok.1 fun t5 s8 S => ?_
    walk_at "go"
    rename St _ _ _ _ _ _ _ _ => S
    exact h _ xs _ S.aft0 S.ok hpm hsd
theorem spec_psM (O : Ok w mg mb s) {k : Nat} (R : Rm A (k + 5)) {q d cl : Nat} {fm cp : Bool} {kvs : List (Str × Value)} {rows : List (Str × Val)} {cvs : List Value} {cols : List Col} {Q : Value → Shared → Prop} (hq : s.heap.get? q = some (methodObj (.ref 72) (.ref 104)))
    (hd : s.heap.DictOf (SK w) d kvs) (hd1 : 218 ≤ d) (he : EntsIn w s.heap kvs rows) (hr : RowsOk rows)
    (hcl : s.heap.IsList cl cvs.toArray) (hcl1 : 218 ≤ cl) (hcols : All2 (fun v (c : Col) => ColIn s.heap v c.1 c.2.2 ∧ NameIs c.1 c.2.1 ∧ c.1.length ≤ 100) cvs cols) (hcz : cols.length ≤ 4)
    (h : ∀ t xs s', Aft s s' → Ok w mg mb s' → xs.Perm (linesOf rows) → sortedS xs = true → Q (.str (Txt.join (sepOf fm) (compOf cp ++ clustOf cols ++ xs)) t) s') :
    wpAny (model PR w) A (call (.ref q) [.bool fm, .ref cl, .ref d, .bool cp]) Q E s := meth_call hq (spec_psK O R hd hd1 he hr hcl hcl1 hcols hcz h)
end
end Mine

namespace Mine
section
variable {w : World} {mg mb : Str → Option Value} {b b' s s' : Shared} {L : Nat} {m : List (Str × Value)} {N : List (Nat × Obj)} {A : Around} {E : Value → Shared → Prop} {env : Env}
def valView (d : Nat) : Obj := { cls := .type "dict_values", data := .fields #[.ref d] }
theorem St.cvalues (S : St w mg mb b L m N s) {d : Nat} {kvs : List (Str × Value)} {Q : Value → Shared → Prop} (hd : s.heap.DictOf (SK w) d kvs) (hi : 218 ≤ d) (h : ∀ (v : Nat) s', St w mg mb b L m ((v, valView d) :: N) s' → Q (.ref v) s') :
    wpAny (model PR w) A (call (.builtin "dict.values") [.ref d]) Q E s :=
  call_meetsIn F.slot_dict_values hd.typeIs F.entry_dict_values (F.args_dict_values_1 _) (meets_dict_values (SK w) d (nsys hi)) ⟨⟨kvs, hd⟩, h _ _ (S.pushN (tk := s.toks) (valView d))⟩
/-- over a dict's values; the dict stands -/
theorem for_values {k : Nat} (R : Rm A k) {target : Expr} {body : List Stmt} {v d : Nat} {kvs : List (Str × Value)} {ep : Nat} {J : Nat → Shared → List (Str × Value) → List (Nat × Obj) → Prop} {Q : Flow → Shared → Prop}
    (S : St w mg mb b L m N s) (hv : s.heap.get? v = some (valView d)) (hd : b.heap.DictAt (strKind PR w) d kvs ep) (h1 : d ≠ 93) (h2 : d ≠ 59) (hj : J 0 b m N)
    (turn : ∀ i val b' m' N' it oi' s', (kvs.map (·.2))[i]? = some val → Aft b b' → J i b' m' N' → St w mg mb b' L m' ((it, oi') :: N') s' →
      wpAny (model PR w) A (assign target env val) (fun _ s₂ => wpAny (model PR w) A (execs body env) (fun f s₃ => match f with
        | .next | .cont => ∃ b'' m'' N'', Aft b' b'' ∧ J (i + 1) b'' m'' N'' ∧ St w mg mb b'' L m'' ((it, oi') :: N'') s₃
        | .brk => Q .next s₃
        | .ret v => Q (.ret v) s₃) NoE s₂) NoE s')
    (done : ∀ b' m' N' s', Aft b b' → J kvs.length b' m' N' → St w mg mb b' L m' N' s' → Q .next s') :
    wpAny (model PR w) A (pyIter (.ref v)) (fun it s₂ =>
      codeAny (model PR w) A (.forLoop target it body [] env) (fun r s' => match r with | .ok f => Q f s' | .error e => cameBackBy (model PR w) A env NoE e s') s₂) NoE s := by
  have hds : ∀ {b' L m N s'}, b'.heap.DictAt (strKind PR w) d kvs ep → St w mg mb b' L m N s' → s'.heap.DictAt (strKind PR w) d kvs ep := fun hl S => let ⟨o, es, ho, r⟩ := hl; ⟨o, es, S.keep _ _ h1 h2 ho, r⟩
  refine wpAny_pyIter_values ⟨_, hv, rfl, rfl⟩ (hds hd S) ?_
  refine for_loop (it := s.heap.objs.size) (n := kvs.length) (G := fun i o => o.cls = .type "dict_valueiterator" ∧ o.data = .fields #[.ref d, .int i 0, .int kvs.length 0, .int ep 0]) (P := fun i v N₁ => (kvs.map (·.2))[i]? = some v ∧ N₁ = []) (B := fun b => b.heap.DictAt (strKind PR w) d kvs ep) (J := J)
    (fun b b' hb a => let ⟨o, es, ho, r⟩ := hb; ⟨o, es, a.keep _ _ h1 h2 ho, r⟩) ?_ ?_ (S.pushN _) ⟨rfl, rfl⟩ hd hj ?_ (fun b' m' N' s' => done b' m' N' s')
  · intro i b L m N oi s Q hi hg hb S h
    have hx : kvs[i]? = some (kvs[i].1, kvs[i].2) := by simp [hi]
    refine wpAny_pyNext_values_item ⟨oi, S.get (.head _), hg.1, hg.2⟩ (hds hb S) hx fun h' hit hs => ?_
    obtain ⟨o', ho', hc', hd'⟩ := hit
    have S' := S.upd' (pre := []) rfl (tk := s.toks) (fun x ob hx hg => (hs.2 x hx).trans hg) ho'
    exact letOwned_no (n := "dict_valueiterator") (S'.get (.head _)) hc' (by decide) (h _ o' [] _ ⟨by simp [hi], rfl⟩ ⟨hc', hd'⟩ S')
  · intro b L m N oi s Q hg hb S h
    refine wpAny_pyNext_values_end R.h ⟨oi, S.get (.head _), hg.1, hg.2⟩ (hds hb S) (by simp) fun h' he => ?_
    exact h _ (S.lose rfl (tk := s.toks) fun x ob hx hg => he x ob hx hg)
  · rintro i v b' m' N' N₁ oi' s' hi ⟨hv, rfl⟩ ha hJ S'
    exact turn i v b' m' N' _ oi' s' hv ha hJ S'
theorem St.lset (S : St w mg mb b L m N s) {d k i : Nat} {vs : List Value} {t : Tok} {v : Value} {pre post : List (Nat × Obj)} {Q : Unit → Shared → Prop} (e : N = pre ++ (d, lstObj vs.toArray k) :: post) (hi : i < vs.length) (hz : vs.length ≤ 1000)
    (h : ∀ o' s', s'.heap.IsList d (vs.set i v).toArray → St w mg mb b L m (pre ++ (d, o') :: post) s' → Q () s') : wpAny (model PR w) A (setItem (.ref d) (.int i t) v) Q E s := by
  have ho : s.heap.get? d = some (lstObj vs.toArray k) := S.get (p := (d, lstObj vs.toArray k)) (by rw [e]; exact List.mem_append.mpr (.inr (.head _)))
  refine wpAny_setItem_list ⟨_, ho, rfl, _, rfl⟩ (by omega) (by omega) (by rw [List.size_toArray]; omega) fun h' hl hs => ?_
  obtain ⟨o', ho', r⟩ := id hl
  refine h o' _ ?_ (S.upd' e (tk := s.toks) (fun x ob hx hg => (hs.2 x hx).trans hg) ho')
  have q : vs.toArray.setIfInBounds (i : Int).toNat v = (vs.set i v).toArray := by simp
  rw [← q]
  exact hl
theorem x_aug_sub {M : Model} {o i value : Expr} {p p' : Pos} {op : Operator} {rest : List Stmt} {Q : Flow → Shared → Prop}
    (h : wpAny M A (eval o env) (fun ov s₁ => wpAny M A (eval i env) (fun iv s₂ => wpAny M A (getItem ov iv) (fun old s₃ =>
          wpAny M A (eval value env) (fun v s₄ => wpAny M A (inplaceOp op old v) (fun new s₅ =>
            wpAny M A (setItem ov iv new) (fun _ s' => wpAny M A (execs rest env) Q E s') E s₅) E s₄) E s₃) E s₂) E s₁) E s)
    (hi : ∀ ov iv new, augStore i ov iv new = (do holding [new, ov, iv] (setItem ov iv new); release [new, ov, iv] []; pure .next) := by intros; rfl) :
    wpAny M A (execs (.AugAssign (.Subscript o i p) op value p' :: rest) env) Q E s := wpAny_execs_cons (wpAny_AugAssign_SubscriptAny h hi)
end
end Mine

namespace Mine
section
variable {w : World} {mg mb : Str → Option Value} {b b' s s' : Shared} {L : Nat} {m : List (Str × Value)} {N : List (Nat × Obj)} {A : Around} {E : Value → Shared → Prop} {env : Env}
theorem gat_list {a C I l g cell : Nat} {oa oC oi : Obj} {items : Array Value} (S : St w mg mb b L m ((a, oa) :: (C, oC) :: (I, oi) :: N) s) {k : Nat} (R : Rm A k) {elt iter : Expr} {px pos : Pos} {scope : Scope} {cl : List (Str × Addr)} {code : Value} {F : Nat → Value → Prop} {x : Str}
    (hit : s.heap.IsListIter I l 0) (hl : s.heap.IsList l items) (h1 : l ≠ I) (h2 : l ≠ C) (hcell : cell ≠ C) (hI : s.heap.IsGen a g)
    (hgs : s.gens[g]? = some (.fresh (.compStart (.GeneratorExp elt [⟨.Name x px, iter, [], 0⟩] scope pos) 0 (.ref I) .none (genEnv scope cl C code builtinsNs env))))
    {f : Str → Option Value} (hn : s.heap.Ns C f) (hk : scope.kind = .function) (hx : scope.names.lookup x = some .local) (hco : scope.isCoroutine = false)
    (hq : QuietGen PR w (genEnv scope cl C code builtinsNs env) x [] elt [I, l, cell, cStatics] [I] (fun i v => items[i]? = some v) (fun _ => true) F s.heap) :
    GenAt PR w A.in1.in1 a g C [I, l, cell, cStatics] [I] (fun _ => true) items.size F 0 s := by
  have nd := S.nd
  simp only [List.map_cons, List.nodup_cons, List.mem_cons, not_or] at nd
  have nC := (S.nw _ (.tail _ (.head _))).2.2.2
  refine GenAt.fresh (A := A.in1.in1) (cenv := genEnv scope cl C code builtinsNs env) R.h (fun A' hA => (Walks.list hA I l h1 items).mono_fp (fun b hb => ?_)) _ F hx (by simp [genEnv, hk]) hco (fun hm => ?_) hq hI hgs ⟨hit, hl⟩ hn S.ok.nolim
  · simp only [List.mem_cons, List.not_mem_nil, or_false] at hb ⊢
    rcases hb with h | h
    · exact .inl h
    · exact .inr (.inl h)
  · have hm' : (C : Nat) ∈ [I, l, cell, cStatics] := hm
    simp only [List.mem_cons, List.not_mem_nil, or_false] at hm'
    rcases hm' with h | h | h | h
    · exact nd.2.1.1 h
    · exact h2 h.symm
    · exact hcell h.symm
    · rw [h] at nC; exact absurd (show (218 : Nat) ≤ cStatics from nC) (by decide)
theorem elt_pad {cenv : Env} {p1 p2 p3 p4 p5 : Pos} {fp wr : List Addr} {items : Array Value} {pd : Str} {tpd : Tok} {cell : Nat} {ts : Nat → Str} {href : Heap} (hk : cenv.scope.kind = .function) (h1 : cenv.kindOf (Str.ofString "padding") = some .free) (hc : cenv.cells.lookup (Str.ofString "padding") = some cell)
    (h2 : cenv.kindOf (Str.ofString "col") = some .local) (hcf : cell ∈ fp) (hcw : cell ∉ wr) (hcv : href.IsCell cell (some (.str pd tpd))) (hpl : pd.length ≤ 1000) (hp : ∀ i v, items[i]? = some v → ∃ y, FP v y ∧ ts i = pd ++ y) :
    QuietGen PR w cenv (Str.ofString "col") [] (.JoinedStr [.FormattedValue (.Name (Str.ofString "padding") p1) 115 none p2, .FormattedValue (.Name (Str.ofString "col") p3) 115 none p4] p5)
      fp wr (fun i v => items[i]? = some v) (fun _ => true) (fun i v => ∃ u, v = .str (ts i) u) href where
  tests := fun A' E' i va s₂ m₂ _ _ _ _ _ => wpAny_pure ⟨rfl, ⟨_, _, rfl, fun _ _ e => e⟩⟩
  elt := fun A' E' i va s₂ m₂ _ hP _ hn ha hkeep => by
    obtain ⟨y, hy, et⟩ := hp i va hP
    obtain ⟨oc, hoc, hdc⟩ := hcv
    refine x_js ?_
    refine j_fmt (wpAny_Name (wpAny_loadName_free hk h1 hc ⟨oc, hkeep _ hcf hcw _ hoc, hdc⟩ ⟨pd, .str pd tpd (Nat.le_trans hpl (by decide)), fun tk => ?_⟩) (by decide))
    refine j_fmt (ld_ns (C := 0) hn hk h2 ha ⟨y, hy, fun tk2 => ?_⟩)
    refine j_nil fun t' tk6 => ?_
    refine ⟨⟨t', ?_⟩, ⟨_, _, rfl, fun _ _ e => e⟩⟩
    rw [et, KPc.empty_app]
end
end Mine

namespace Mine
theorem kf_fill_K7 (w : World) : (hd.heap_39 w.params) = (hd.heap_39 w.params) ∧ PySem.Challenge.rw_bq5006_01 = PySem.Challenge.rw_bq5006_01 := by
  k_fill
  exact ⟨rfl, rfl⟩
local macro_rules | `(tactic| walk_at "kis") => `(tactic| (show nsIn (hd.heap_39 _) _ _ = _; k_is))
local macro_rules | `(tactic| walk_at "go1") => `(tactic| first
  | ((with_reducible show wpAny _ _ (eval _ _) _ _ _); first
    | ((with_reducible show wpAny _ _ (eval (Expr.Name _ _) _) _ _ _); rename St _ _ _ _ _ _ _ _ => S0; first | (refine S0.ld (by rfl) ?_) | (refine S0.ok.ldg (by walk_at "kis") ?_) | (refine S0.ok.ldb (by walk_at "kis") (by first | exact bb_len | exact bb_range | exact bb_isinstance | exact bb_dict | exact bb_str | exact bb_list | exact bb_sorted | exact bb_int | exact bb_float | exact bb_bool) ?_))
    | ((with_reducible show wpAny _ _ (eval (Expr.Constant (Const.int _) _ _) _) _ _ _); rename St _ _ _ _ _ _ _ _ => S0; refine S0.cint ?_; clear S0; unhygienic intros)
    | ((with_reducible show wpAny _ _ (eval (Expr.Constant (Const.str _) _ _) _) _ _ _); rename St _ _ _ _ _ _ _ _ => S0; refine S0.cstr ?_; clear S0; unhygienic intros)
    | ((with_reducible show wpAny _ _ (eval (Expr.Constant (Const.bool _) _ _) _) _ _ _); refine wpAny_Constant_bool ?_)
    | ((with_reducible show wpAny _ _ (eval (Expr.Constant (Const.none) _ _) _) _ _ _); refine wpAny_Constant_none ?_)
    | ((with_reducible show wpAny _ _ (eval (Expr.BinOp _ _ _ _) _) _ _ _); refine wpAny_BinOp ?_)
    | ((with_reducible show wpAny _ _ (eval (Expr.Subscript _ _ _) _) _ _ _); refine Subscript_ ?_)
    | ((with_reducible show wpAny _ _ (eval (Expr.Tuple _ _ _) _) _ _ _); refine Tuple_ ?_)
    | ((with_reducible show wpAny _ _ (eval (Expr.List _ _) _) _ _ _); refine List_ ?_)
    | ((with_reducible show wpAny _ _ (eval (Expr.Call (Expr.Attribute _ _ _) _ [] _) _) _ _ _); refine MethodCall_ ?_)
    | ((with_reducible show wpAny _ _ (eval (Expr.Call _ _ [] _) _) _ _ _); refine Call_ ?_)
    | ((with_reducible show wpAny _ _ (eval (Expr.IfExp _ _ _ _) _) _ _ _); refine wpAny_IfExp ?_)
    | ((with_reducible show wpAny _ _ (eval (Expr.Dict [] [] _) _) _ _ _); rename St _ _ _ _ _ _ _ _ => S0; refine S0.ndict ?_; clear S0; unhygienic intros)
    | ((with_reducible show wpAny _ _ (eval (Expr.Compare _ [_] [_] _) _) _ _ _); refine wpAny_Compare1 ?_)
    | ((with_reducible show wpAny _ _ (eval (Expr.Attribute _ _ _) _) _ _ _); refine Attribute_any_ ?_ (by rfl))
    | ((with_reducible show wpAny _ _ (eval (Expr.JoinedStr (_ :: _ :: _) _) _) _ _ _); refine x_js ?_))
  | ((with_reducible show wpAny _ _ (spliced _) _ _ _); first
    | ((with_reducible show wpAny _ _ (spliced (backTo _ (starEach [] _))) _ _ _); refine wpAny_items_nil ?_)
    | ((with_reducible show wpAny _ _ (spliced (backTo _ (starEach (_ :: _) _))) _ _ _); refine wpAny_items_cons ?_))
  | ((with_reducible show wpAny _ _ (newTuple _) _ _ _); rename St _ _ _ _ _ _ _ _ => S0; refine S0.ntup ?_; clear S0; unhygienic intros)
  | ((with_reducible show wpAny _ _ (newList _) _ _ _); rename St _ _ _ _ _ _ _ _ => S0; refine S0.nlist ?_; clear S0; unhygienic intros)
  | ((with_reducible show wpAny _ _ (storeName _ _ _) _ _ _); rename St _ _ _ _ _ _ _ _ => S0; refine S0.st ?_; clear S0; unhygienic intros)
  | ((with_reducible show wpAny _ _ (execs _ _) _ _ _); first
    | ((with_reducible show wpAny _ _ (execs (Stmt.Assign [Expr.Name _ _] _ _ :: _) _) _ _ _); refine x_assign ?_)
    | ((with_reducible show wpAny _ _ (execs (Stmt.Return (some _) _ :: _) _) _ _ _); refine x_return ?_)
    | ((with_reducible show wpAny _ _ (execs (Stmt.If _ _ _ _ :: _) _) _ _ _); refine x_if ?_)
    | ((with_reducible show wpAny _ _ (execs (Stmt.Expr _ _ :: _) _) _ _ _); refine x_expr ?_)
    | ((with_reducible show wpAny _ _ (execs (Stmt.AugAssign (Expr.Name _ _) _ _ _ :: _) _) _ _ _); refine x_aug ?_)
    | ((with_reducible show wpAny _ _ (execs [] _) _ _ _); refine x_nil ?_; try dsimp only)
    | ((with_reducible show wpAny _ _ (execs (Stmt.Assign [Expr.Subscript _ _ _] _ _ :: _) _) _ _ _); refine x_assign_sub ?_)
    | ((with_reducible show wpAny _ _ (execs (Stmt.For _ _ _ _ _ :: _) _) _ _ _); refine x_for ?_))
  | ((with_reducible show wpAny _ _ (isTrue _ _ _) _ _ _); first
    | ((with_reducible show wpAny _ _ (isTrue (Expr.Call _ _ _ _) _ _) _ _ _); refine wpAny_isTrue_value ?_)
    | ((with_reducible show wpAny _ _ (isTrue (Expr.Name _ _) _ _) _ _ _); refine wpAny_isTrue_value ?_)
    | ((with_reducible show wpAny _ _ (isTrue (Expr.Compare _ [_] [_] _) _ _) _ _ _); refine wpAny_isTrue_Compare1 ?_)
    | ((with_reducible show wpAny _ _ (isTrue (Expr.BoolOp _ _ _) _ _) _ _ _); refine wpAny_isTrue_BoolOp ?_))
  | ((with_reducible show wpAny _ _ (truthy (Value.bool _)) _ _ _); refine wpAny_truthy_bool ?_)
  | ((with_reducible show wpAny _ _ (callWith _ _ _ _ _) _ _ _); first
    | ((with_reducible show wpAny _ _ (callWith _ (Value.type _) _ (backTo _ (starEach (_ :: _) _)) []) _ _ _); refine PyProof.Rows.callWith_type1 ?_)
    | ((with_reducible show wpAny _ _ (callWith _ (Value.builtin _) [] (backTo _ (starEach (_ :: _) _)) []) _ _ _); refine PyProof.Rows.callWith_builtin1 ?_)
    | ((with_reducible show wpAny _ _ (callWith _ (Value.builtin _) (_ :: _) (backTo _ (starEach (_ :: _) _)) []) _ _ _); refine PyProof.Rows.callWith_method1 ?_)
    | ((with_reducible show wpAny _ _ (callWith _ (Value.builtin _) (_ :: _) (backTo _ (starEach [] _)) []) _ _ _); refine PyProof.Rows.callWith_method0 ?_))
  | ((with_reducible show wpAny _ _ (binaryOp _ _ _) _ _ _); first
    | ((with_reducible show wpAny _ _ (binaryOp Operator.Mod (Value.int _ _) (Value.int _ _)) _ _ _); rename St _ _ _ _ _ _ _ _ => S0; refine S0.i1 (fun h => mod_int (by decide) h) ?_; clear S0; unhygienic intros)
    | ((with_reducible show wpAny _ _ (binaryOp Operator.Add (Value.int _ _) (Value.int _ _)) _ _ _); rename St _ _ _ _ _ _ _ _ => S0; refine S0.i1 (fun h => add_int h) ?_; clear S0; unhygienic intros)
    | ((with_reducible show wpAny _ _ (binaryOp Operator.Sub (Value.int _ _) (Value.int _ _)) _ _ _); rename St _ _ _ _ _ _ _ _ => S0; refine S0.i1 (fun h => sub_int h) ?_; clear S0; unhygienic intros)
    | ((with_reducible show wpAny _ _ (binaryOp Operator.FloorDiv (Value.int _ _) (Value.int _ _)) _ _ _); rename St _ _ _ _ _ _ _ _ => S0; refine S0.i1 (fun h => floordiv_int (by decide) h) ?_; clear S0; unhygienic intros))
  | ((with_reducible show wpAny _ _ (allTrue _ _ _) _ _ _); first
    | ((with_reducible show wpAny _ _ (allTrue BoolOp.And (_ :: _) _) _ _ _); refine wpAny_allTrue_And_cons ?_)
    | ((with_reducible show wpAny _ _ (allTrue BoolOp.Or (_ :: _) _) _ _ _); refine wpAny_allTrue_Or_cons ?_)
    | ((with_reducible show wpAny _ _ (allTrue BoolOp.And [] _) _ _ _); refine wpAny_allTrue_And_nil ?_)
    | ((with_reducible show wpAny _ _ (allTrue BoolOp.Or [] _) _ _ _); refine wpAny_allTrue_Or_nil ?_))
  | (refine ite_t1 ?_)
  | (refine ite_f1 ?_))
local macro_rules | `(tactic| walk_at "go") => `(tactic| repeat walk_at "go1")

local macro_rules | `(tactic| walk_at "go1") => `(tactic| first
  | ((with_reducible show wpAny _ _ (storeName _ (Str.ofString "padding") _) _ _ _); fail)
  | ((with_reducible show wpAny _ _ (eval (Expr.Name (Str.ofString "padding") _) _) _ _ _); fail))
theorem bindL2 {kindOf : Str → Option NameKind} {n n' : Str} {v v' : Value} (hk : kindOf n = some .local) (hk' : kindOf n' = some .local) : ∀ x u, ([(n', v'), (n, v)] : List (Str × Value)).lookup x = some u → bindL kindOf [(n, v), (n', v')] (fun _ => none) x = some u := by
  intro x u h
  show (if kindOf n' = some .local then fun y => if y = n' then some v' else (if kindOf n = some .local then fun y => if y = n then some v else none else fun _ => none) y else _) x = some u
  rw [if_pos hk', if_pos hk]
  rw [List.lookup_cons] at h
  by_cases q : x = n'
  · subst q; simp at h ⊢; exact h
  · have e : (x == n') = false := beq_eq_false_iff_ne.mpr q
    simp only [e, List.lookup_cons] at h
    simp only [q, if_false]
    by_cases q2 : x = n
    · subst q2; simp at h ⊢; exact h
    · have e : (x == n) = false := beq_eq_false_iff_ne.mpr q2
      simp [e] at h
section
variable {w : World} {mg mb : Str → Option Value} {b s : Shared} {L : Nat} {m : List (Str × Value)} {N : List (Nat × Obj)} {A : Around} {E : Value → Shared → Prop}
theorem TabObj.keep {h h' : Heap} (k : Keep h h') {x dx es n pk ck cs op} (c : TabObj h x dx es n pk ck cs op) : TabObj h' x dx es n pk ck cs op :=
  ⟨c.hx, c.hd, k _ _ (by have := c.hx; omega) (by have := c.hx; omega) c.x, k _ _ (by have := c.hd; omega) (by have := c.hd; omega) c.dx, c.ks, c.name, c.pk, c.ck, c.cs, c.op, c.vi⟩
theorem St.tattr (S : St w mg mb b L m N s) {x dx pk ck cs op : Nat} {es : List DictEntry} {n : Nat} {name : Str} {attr : Option Value} {v : Value} {expr : Bool} {Q : Value → Shared → Prop} (T : TabObj b.heap x dx es n pk ck cs op)
    (ha : findIn (KF w) (.ref 104) name = some attr) (hn : noGet (KF w) attr = true) (hl : getL name es = some (some v)) (hv : handedIn v = true) (h : ∀ s', St w mg mb b L m N s' → Q v s') : wpAny (model PR w) A (getAttr (.ref x) name expr) Q E s := by
  have T := T.keep S.keep
  exact S.getattr T.x T.dx (k104g w _) (k104h w) ha hn hl hv h
def cqlText (fm : Bool) (ps : List Str) : Str := (if fm then Str.ofString "CREATE TABLE k.t (\n    a int PRIMARY KEY\n) WITH " else Str.ofString "CREATE TABLE k.t (a int PRIMARY KEY) WITH ") ++ Txt.join (sepOf fm) ps
theorem isT63 {w : World} {mg mb : Str → Option Value} {s : Shared} (O : Ok w mg mb s) (ps : Array Value) (h : s.heap.get? 59 = some (tblObj ps)) (ht : TriplesOk ps.toList) : s.heap.IsCode 63 59 ps ∧ s.heap.TableAt 63 59 ps :=
  ⟨⟨_, _, _, _, _, _, _, _, _, _, O.kin _ _ (o63.2 w), rfl, rfl, rfl, rfl, rfl, rfl, h, rfl, ht, by decide⟩, ⟨_, _, O.kin _ _ (o63.2 w), rfl, rfl, rfl⟩, h⟩
theorem tab63 {w : World} {mg mb : Str → Option Value} : TabOf w mg mb 63 59 ⟨62, 32, 62, 76⟩ where
  hP := .inr rfl
  isT := fun _ O => isT63 O
  tab := fun _ O => O.tabs.t59
  re := fun s O h' hx hT => ⟨let ⟨ps, a, b⟩ := O.tabs.t93; ⟨ps, hx _ _ (by decide) a, b⟩, hT, let ⟨o, a, b⟩ := O.tabs.bm; ⟨o, hx _ _ (by decide) a, b⟩⟩
noncomputable def cqlRest : {l : List Stmt // ∃ a b, f64.1.body = .stmts (a :: b :: l)} := ⟨_, _, _, rfl⟩
theorem cql_tail {b0 : Shared} {k : Nat} {A : Around} (R : Rm A (k + 7)) {fm cp : Bool} {L x dx pk ck cs op : Nat} {es : List DictEntry} {n : Nat} {v : Value} {kvs : List (Str × Value)} {rows : List (Str × Val)} {ckv : List (Str × Value)} {oc : Obj} {cj r0 pd : Str} {tcj tr tpd : Tok} {Q : Flow → Shared → Prop}
    (S : St w mg mb b0 L [("column_join", .str cj tcj), ("ret", .str r0 tr), ("formatted", .bool fm), ("self", .ref x)] [(L + 1, oc)] s) (hoc : oc.data = .cell (some (.str pd tpd))) (hz : r0.length ≤ 100 ∧ pd.length ≤ 100 ∧ cj.length ≤ 100)
    (T : TabObj b0.heap x dx es n pk ck cs op) (hcomp : getL "is_compact_storage" es = some (some (.bool cp))) (hps : getL "_property_string" es = some none)
    (hd : b0.heap.DictOf (SK w) op kvs) (hd1 : 218 ≤ op) (he : EntsIn w b0.heap kvs rows) (hr : RowsOk rows)
    (hpk : b0.heap.IsList pk #[v]) (hpk1 : 218 ≤ pk) (hck : b0.heap.IsList ck #[]) (hck1 : 218 ≤ ck) (hcs : b0.heap.DictOf (SK w) cs ckv) (hcs1 : 218 ≤ cs) (hckv : ckv.map (·.2) = [v]) (hcol : ColIn b0.heap v "a" false)
    (h : ∀ t xs s', Aft b0 s' → Ok w mg mb s' → xs.Perm (linesOf rows) → sortedS xs = true → Q (.ret (.str (((r0 ++ (pd ++ Str.ofString "a int PRIMARY KEY")) ++ (if fm then Str.ofString "\n) WITH " else Str.ofString ") WITH ")) ++ Txt.join (sepOf fm) (compOf cp ++ xs)) t)) s') :
    wpAny (model PR w) A (execs cqlRest.1 (callEnvC f64.1 L 64)) Q NoE s := by
  refine x_assign ?_
  walk_at "go"
  rename St _ _ _ _ _ _ _ _ => S
  refine S.tattr T (a104_columns w) (ng_none w) T.cs (by rfl) fun s6 S => ?_
  walk_at "go"
  rename St _ _ _ _ _ _ _ _ => S
  refine gm_dict PySem.F.slot_dict_values PySem.F.type_dict_values (DictOf.keep S.keep hcs1 hcs) ?_
  walk_at "go"
  rename St _ _ _ _ _ _ _ _ => S
  refine S.cvalues (DictOf.keep S.keep hcs1 hcs) hcs1 fun vw s7 S => ?_
  have clen : ckv.length = 1 := by rw [← List.length_map (f := (·.2)), hckv]; rfl
  obtain ⟨ep, hcs⟩ : ∃ ep, b0.heap.DictAt (SK w) cs ckv ep := let ⟨o, es, ep, r⟩ := hcs; ⟨ep, o, es, r⟩
  obtain ⟨xc, dxc, esc, nc, hcol⟩ := hcol
  refine for_values (hd := hcs) R (J := fun i b' m' N' => ∃ xs k2, m' = [(Str.ofString "columns", Value.ref a), (Str.ofString "column_join", Value.str cj tcj), (Str.ofString "ret", Value.str r0 tr), (Str.ofString "formatted", Value.bool fm), (Str.ofString "self", Value.ref x)] ∧
      N' = [(a, lstObj xs.toArray k2), (L + 1, oc)] ∧ All2 StrV xs (List.replicate i (Str.ofString "a int"))) (S.drop (N' := [(a, lstObj #[] 0), (L + 1, oc)]) (.cons _ (.refl _))) (S.get (.head _)) (by omega) (by omega) ?_ ?_ ?_
  · exact ⟨[], 0, rfl, rfl, .nil⟩
  · rintro i u b' m' N' it oi s8 hu ab ⟨xs, k2, rfl, rfl, hxs⟩ S
    have hi : i = 0 ∧ u = v := by
      rw [hckv] at hu
      cases i with
      | zero => simp at hu; exact ⟨rfl, hu.symm⟩
      | succ i => simp at hu
    obtain ⟨rfl, rfl⟩ := hi
    have hcol := hcol.keep ab.keep
    refine PyProof.Rows.assign_Name ?_
    walk_at "go"
    rename St _ _ _ _ _ _ _ _ => S
    refine getMethod_list_append (S.get (p := (a, lstObj xs.toArray k2)) (by simp)) rfl rfl ?_
    walk_at "go"
    rename St _ _ _ _ _ _ _ _ => S
    refine j_fmt ?_
    walk_at "go"
    rename St _ _ _ _ _ _ _ _ => S
    refine cw_fn f113.2 (o113.2 w) ?_
    walk_at "go"
    rename St _ _ _ _ _ _ _ _ => S
    refine S.colname hcol fun t2 s7 S => ?_
    walk_at "go"
    rename St _ _ _ _ _ _ _ _ => S
    refine ⟨S.ok.kin, ?_⟩
    refine spec_protect S.ok (k := k + 4) R (by decide) nm_a fun t3 s8 a3 O3 => ?_
    replace S := S.aft a3 O3
    refine ⟨_, .str _ _ (by decide), fun tk => ?_⟩
    replace S := S.tok (tk := tk)
    refine j_const fun tk => ?_
    replace S := S.tok (tk := tk)
    refine j_fmt ?_
    walk_at "go"
    rename St _ _ _ _ _ _ _ _ => S
    refine S.coltype hcol fun t2 s7 S => ?_
    refine ⟨_, .str _ _ (Nat.le_of_ble_eq_true (by decide +kernel)), fun tk => ?_⟩
    replace S := S.tok (tk := tk)
    refine j_fmt ?_
    walk_at "go"
    rename St _ _ _ _ _ _ _ _ => S
    refine wpAny_isTrue_value ?_
    walk_at "go"
    rename St _ _ _ _ _ _ _ _ => S
    refine S.colstat hcol fun s7 S => ?_
    walk_at "go"
    rename St _ _ _ _ _ _ _ _ => S
    refine ⟨_, .str _ _ (Nat.le_of_ble_eq_true (by decide +kernel)), fun tk => ?_⟩
    replace S := S.tok (tk := tk)
    refine j_nil fun tj tk => ?_
    replace S := S.tok (tk := tk)
    walk_at "go"
    rename St _ _ _ _ _ _ _ _ => S
    refine S.append (pre := [(it, oi)]) rfl (fun k3 s9 S => ?_) ?_
    · refine ⟨rfl, ?_⟩
      walk_at "go"
      rename St _ _ _ _ _ _ _ _ => S
      refine ⟨b', _, _, .refl _, ⟨_, k3, rfl, rfl, ?_⟩, S.locals (lkc (by rfl) (lkc (by rfl) (lkc (by rfl) (lkc (by rfl) (lkc (by rfl) lk0)))))⟩
      rw [List.replicate_succ']
      refine hxs.snoc ⟨tj, ?_⟩
      exact congrArg (fun z => Value.str z tj) (by decide +kernel)
    · have q := hxs.length
      rw [List.length_replicate] at q
      have := sizeLine_eq
      omega
  · rintro b' m' N' s9 ab ⟨xs, k2, rfl, rfl, hxs⟩ S
    replace S := S.weaken ab
    rw [clen] at hxs
    obtain ⟨tx, rfl⟩ : ∃ tx, xs = [.str "a int" tx] := by
      cases hxs with
      | cons h1 h2 =>
        obtain ⟨t, rfl⟩ := h1
        cases h2
        exact ⟨t, rfl⟩
    have hpkS : ∀ {m N s'}, St w mg mb b0 L m N s' → s'.heap.IsList pk #[v] := fun S => let ⟨o, h1, h2⟩ := hpk; ⟨o, S.keep _ _ (by omega) (by omega) h1, h2⟩
    have hckS : ∀ {m N s'}, St w mg mb b0 L m N s' → s'.heap.IsList ck #[] := fun S => let ⟨o, h1, h2⟩ := hck; ⟨o, S.keep _ _ (by omega) (by omega) h1, h2⟩
    walk_at "go"
    rename St _ _ _ _ _ _ _ _ => S
    refine S.tattr T (a104_partition_key w) (ng_none w) T.pk (by rfl) fun s1 S => ?_
    walk_at "go"
    rename St _ _ _ _ _ _ _ _ => S
    refine S.llen (vs := [v]) (hpkS S) (by simp) fun tl s1 S => ?_
    walk_at "go"
    rename St _ _ _ _ _ _ _ _ => S
    refine P.eq_int ?_
    rw [show ((([v] : List Value).length : Int) == 1) = true from rfl]
    walk_at "go"
    rename St _ _ _ _ _ _ _ _ => S
    refine wpAny_isTrue_Not ?_
    refine wpAny_isTrue_value ?_
    walk_at "go"
    rename St _ _ _ _ _ _ _ _ => S
    refine S.tattr T (a104_clustering_key w) (ng_none w) T.ck (by rfl) fun s1 S => ?_
    refine S.ltruth (vs := []) (hckS S) (by simp) fun s1 S => ?_
    walk_at "go"
    rename St _ _ _ _ _ _ _ _ => S
    refine x_aug_sub ?_
    walk_at "go"
    rename St _ _ _ _ _ _ _ _ => S
    refine wpAny_getItem_list (items := #[.str "a int" tx]) ⟨_, S.get (.head _), rfl, _, rfl⟩ (by decide) (by decide) (by rfl) ?_
    walk_at "go"
    rename St _ _ _ _ _ _ _ _ => S
    refine SB.iadd (fun t5 tk => ?_) (Nat.le_of_ble_eq_true (by decide +kernel))
    replace S := S.tok (tk := tk)
    refine S.lset (pre := []) (i := 0) (vs := [.str "a int" tx]) rfl (by simp) (by simp) fun oA s1 hlA S => ?_
    walk_at "go"
    rename St _ _ _ _ _ _ _ _ => S
    refine S.ldn (by rfl) ?_
    walk_at "go"
    rename St _ _ _ _ _ _ _ _ => S
    refine GM.join ?_
    walk_at "go"
    rename St _ _ _ _ _ _ _ _ => S
    refine x_gen (mg := mg) (mb := mb) (L := L) (cl := [(Str.ofString "padding", L + 1)]) R tab63 (by rfl) (by rfl) ?_
    walk_at "go"
    rename St _ _ _ _ _ _ _ _ => S
    have Sp := S.get (p := (a, oA)) (by simp)
    have hlA' : s1.heap.IsList a #[.str (Str.ofString "a int" ++ Str.ofString " PRIMARY KEY") t5] := hlA
    refine wpAny_pyIter_list hlA' ?_
    have S1 := S.pushN (tk := s1.toks) { cls := .type "list_iterator", data := .fields #[.ref a, .int 0 0] }
    refine ⟨_, _, _, _, _, rfl, S1, fun code aG C g oa oC s11 S11 hIG hgs hns => ?_⟩
    clear S S1
    walk_at "go"
    rename St _ _ _ _ _ _ _ _ => S
    have S11 := S
    clear S
    have lc := S11.get (p := (L + 1, oc)) (by simp)
    have la := S11.get (p := (a, oA)) (by simp)
    have hlB : s11.heap.IsList a #[.str (Str.ofString "a int" ++ Str.ofString " PRIMARY KEY") t5] := by
      obtain ⟨o, h1, h2⟩ := hlA'
      have e : o = oA := by
        have q2 : s1.heap.get? a = some oA := Sp
        rw [h1] at q2
        exact Option.some.inj q2
      subst e
      exact ⟨o, la, h2⟩
    have nd := S11.nd
    simp only [List.map_cons, List.nodup_cons, List.mem_cons, List.nil_append, not_or, List.map_nil] at nd
    have hT : Txt.join cj ((List.range 1).map fun _ => pd ++ (Str.ofString "a int" ++ Str.ofString " PRIMARY KEY")) = pd ++ (Str.ofString "a int" ++ Str.ofString " PRIMARY KEY") := rfl
    have e12 : (Str.ofString "a int" ++ Str.ofString " PRIMARY KEY").length = 17 := by decide +kernel
    have G := gat_list (env := callEnvC f64.1 L 64) (cl := [(Str.ofString "padding", L + 1)]) (cell := L + 1) (l := a) S11 R ⟨_, S11.get (.tail _ (.tail _ (.head _))), rfl, rfl⟩ hlB (by omega) (by omega) (by omega) hIG hgs hns (by rfl) (by rfl) (by rfl)
      (elt_pad (ts := fun _ => pd ++ (Str.ofString "a int" ++ Str.ofString " PRIMARY KEY")) (pd := pd) (tpd := tpd) (cell := L + 1) (by rfl) (by rfl) (by rfl) (by rfl) (by simp) (by simp only [List.mem_singleton]; omega) ⟨oc, lc, hoc⟩ (by omega) (fun i v hv => by
        have : i = 0 := by
          obtain ⟨hlt, _⟩ := Array.getElem?_eq_some_iff.mp hv
          have : i < 1 := hlt
          omega
        subst this
        simp at hv
        subst hv
        exact ⟨_, .str _ _ (Nat.le_of_ble_eq_true (by decide +kernel)), rfl⟩))
    refine S11.gjoin R G (fun z hz => ?_) (by simp) (by simp) (fun _ => pd ++ (Str.ofString "a int" ++ Str.ofString " PRIMARY KEY")) (fun i v _ ⟨u, e⟩ => ⟨u, e⟩) ?_ (by simp) fun t12 s12 S => ?_
    · have nG := (S11.nw _ (.head _)).2.2.2
      have nC := (S11.nw _ (.tail _ (.head _))).2.2.2
      have big := S11.ok.big
      simp only [List.mem_cons, List.not_mem_nil, or_false] at hz
      rcases hz with rfl | rfl | rfl | rfl
      · exact .inl rfl
      · exact .inr ⟨fun e => nd.1.2.2.1 e.symm, fun e => nd.2.1.2.1 e.symm, Heap.lt_size la⟩
      · exact .inr ⟨fun e => nd.1.2.2.2.1 e.symm, fun e => nd.2.1.2.2.1 e.symm, Heap.lt_size lc⟩
      · have c2 : (cStatics : Nat) < 218 := by decide
        exact .inr ⟨fun e => by rw [← e] at nG; exact absurd nG (Nat.not_le.mpr c2), fun e => by rw [← e] at nC; exact absurd nC (Nat.not_le.mpr c2), Nat.lt_of_lt_of_le c2 big⟩
    · rw [show (#[Value.str (Str.ofString "a int" ++ Str.ofString " PRIMARY KEY") t5] : Array Value).size = 1 from rfl]
      refine (join_small (fun y hy => ?_) (by simp) (by omega)).1
      simp at hy
      subst hy
      rw [strLen_append, e12]
      omega
    clear S11
    rw [show (#[Value.str (Str.ofString "a int" ++ Str.ofString " PRIMARY KEY") t5] : Array Value).size = 1 from rfl, hT]
    refine SB.iadd (fun t6 tk => ?_) ?_
    · replace S := S.tok (tk := tk)
      walk_at "go"
      rename St _ _ _ _ _ _ _ _ => S
      refine S.tattr T (a104_partition_key w) (ng_none w) T.pk (by rfl) fun s1 S => ?_
      walk_at "go"
      rename St _ _ _ _ _ _ _ _ => S
      refine S.llen (vs := [v]) (hpkS S) (by simp) fun tl s1 S => ?_
      walk_at "go"
      rename St _ _ _ _ _ _ _ _ => S
      refine P.gt_int ?_
      rw [show decide ((1 : Int) < (([v] : List Value).length : Int)) = false from rfl]
      walk_at "go"
      rename St _ _ _ _ _ _ _ _ => S
      refine wpAny_isTrue_value ?_
      walk_at "go"
      rename St _ _ _ _ _ _ _ _ => S
      refine S.tattr T (a104_clustering_key w) (ng_none w) T.ck (by rfl) fun s1 S => ?_
      refine S.ltruth (vs := []) (hckS S) (by simp) fun s1 S => ?_
      walk_at "go"
      rename St _ _ _ _ _ _ _ _ => S
      have T' := T.keep S.keep
      cases fm
      all_goals
        refine S.ldn (by rfl) ?_
        walk_at "go"
        rename St _ _ _ _ _ _ _ _ => S
        refine S.mods (fun z hz => f_with z hz) (Nat.le_of_ble_eq_true (by decide +kernel)) fun t7 s3 S => ?_
        refine SB.iadd (fun t8 tk => ?_) ?_
        · replace S := S.tok (tk := tk)
          walk_at "go"
          rename St _ _ _ _ _ _ _ _ => S
          refine S.ldn (by rfl) ?_
          walk_at "go"
          rename St _ _ _ _ _ _ _ _ => S
          refine S.gminst (T.keep S.keep).x (T.keep S.keep).dx hps fun q s4 S => ?_
          dsimp only
          refine cw_M (self := .ref 104) (fn72 w) ?_
          walk_at "go"
          rename St _ _ _ _ _ _ _ _ => S
          refine S.tattr T (a104_clustering_key w) (ng_none w) T.ck (by rfl) fun s5 S => ?_
          walk_at "go"
          rename St _ _ _ _ _ _ _ _ => S
          refine S.tattr T (a104_options w) (ng_none w) T.op (by rfl) fun s5 S => ?_
          walk_at "go"
          rename St _ _ _ _ _ _ _ _ => S
          refine S.tattr T (a104_is_compact_storage w) (ng_false w) hcomp (by rfl) fun s5 S => ?_
          walk_at "go"
          rename St _ _ _ _ _ _ _ _ => S
          refine ⟨⟨S.get (.head _), S.ok.kin⟩, ?_⟩
          refine spec_psM S.ok (k := k + 2) R (S.get (.head _)) (DictOf.keep S.keep hd1 hd) hd1 (he.keep S.keep) hr (cvs := []) (cols := []) (hckS S) hck1 .nil (by simp) fun t9 xs s6 a6 O6 hpm hsd => ?_
          replace S := S.aft a6 O6
          refine SB.iadd (fun t10 tk => ?_) ?_
          · replace S := S.tok (tk := tk)
            walk_at "go"
            rename St _ _ _ _ _ _ _ _ => S
            have hf := h t10 xs _ S.aft0 S.ok hpm hsd
            rw [show clustOf [] = [] from rfl, List.append_nil]
            rw [show Str.ofString "a int" ++ Str.ofString " PRIMARY KEY" = Str.ofString "a int PRIMARY KEY" by decide +kernel]
            first
              | rw [show Str.ofString "" ++ (⟨#[41, 32, 87, 73, 84, 72, 32]⟩ : Str) = Str.ofString ") WITH " by decide +kernel]
              | rw [show Str.ofString "\n" ++ (⟨#[41, 32, 87, 73, 84, 72, 32]⟩ : Str) = Str.ofString "\n) WITH " by decide +kernel]
            exact hf
          · have pz := fun f : Bool => (parts_ok hr hpm (cols := []) (by simp) (by simp) cp f).2
            have z1 : ((⟨#[41, 32, 87, 73, 84, 72, 32]⟩ : Str)).length = 7 := rfl
            have z2 : (Str.ofString "").length = 0 := rfl
            have z3 : (Str.ofString "\n").length = 1 := by decide +kernel
            have := sizeLine_eq
            simp only [strLen_append] at e12 ⊢
            refine Nat.le_trans (Nat.add_le_add_left (pz _) _) ?_
            omega
        · have z1 : ((⟨#[41, 32, 87, 73, 84, 72, 32]⟩ : Str)).length = 7 := rfl
          have z2 : (Str.ofString "").length = 0 := rfl
          have z3 : (Str.ofString "\n").length = 1 := by decide +kernel
          have := sizeLine_eq
          simp only [strLen_append] at e12 ⊢
          omega
    · rw [strLen_append, e12]
      have := sizeLine_eq
      omega
/-- the walk, by the arguments told -/
theorem spec_cql (O : Ok w mg mb s) {k : Nat} (R : Rm A (k + 8)) {fm cp : Bool} {args : List Value} (hargs : args = [.bool fm] ∨ (args = [] ∧ fm = false)) {x dx pk ck cs op : Nat} {es : List DictEntry} {n : Nat} {v : Value} {kvs : List (Str × Value)} {rows : List (Str × Val)} {ckv : List (Str × Value)} {Q : Value → Shared → Prop}
    (T : TabObj s.heap x dx es n pk ck cs op) (hcomp : getL "is_compact_storage" es = some (some (.bool cp))) (hps : getL "_property_string" es = some none)
    (hd : s.heap.DictOf (SK w) op kvs) (hd1 : 218 ≤ op) (he : EntsIn w s.heap kvs rows) (hr : RowsOk rows)
    (hpk : s.heap.IsList pk #[v]) (hpk1 : 218 ≤ pk) (hck : s.heap.IsList ck #[]) (hck1 : 218 ≤ ck) (hcs : s.heap.DictOf (SK w) cs ckv) (hcs1 : 218 ≤ cs) (hckv : ckv.map (·.2) = [v]) (hcol : ColIn s.heap v "a" false)
    (h : ∀ t xs s', Aft s s' → Ok w mg mb s' → xs.Perm (linesOf rows) → sortedS xs = true → Q (.str (cqlText fm (compOf cp ++ xs)) t) s') :
    wpAny (model PR w) A (call (.ref 64) (.ref x :: args)) Q E s := by
  refine O.enterCB R (o64.2 w) f64.2 (c64 O.kin) (by rfl) (binds := [("self", .ref x), ("formatted", .bool fm)]) ?_ (by rfl) (fun L => by intro y hy; simp at hy; rcases hy with rfl | rfl <;> exact .inl (by rfl)) (by decide) (m := [("formatted", .bool fm), ("self", .ref x)]) (fun L => bindL2 (by rfl) (by rfl)) fun L s₁ cells S CA R => ?_
  · rcases hargs with rfl | ⟨rfl, rfl⟩
    · exact binds_K O.kin (by rfl) (o57.2 w) (by rfl) (by rfl) (by rfl)
    · exact binds_K O.kin (by rfl) (o57.2 w) (by rfl) (by rfl) (by rfl)
  obtain ⟨oc, rfl, hoc⟩ := CellsAre.one CA
  clear O
  obtain ⟨kt, hks⟩ := T.ks
  obtain ⟨nt, hnm⟩ := T.name
  walk_at "go"
  rename St _ _ _ _ _ _ _ _ => S
  refine j_fmt ?_
  walk_at "go"
  rename St _ _ _ _ _ _ _ _ => S
  refine wpAny_isTrue_value ?_
  walk_at "go"
  rename St _ _ _ _ _ _ _ _ => S
  refine S.tattr T (a104_virtual w) (ng_false w) T.vi (by rfl) fun s2 S => ?_
  walk_at "go"
  rename St _ _ _ _ _ _ _ _ => S
  refine ⟨_, .str _ _ (Nat.le_of_ble_eq_true (by decide +kernel)), fun tk => ?_⟩
  replace S := S.tok (tk := tk)
  refine j_const fun tk => ?_
  replace S := S.tok (tk := tk)
  refine j_fmt ?_
  walk_at "go"
  rename St _ _ _ _ _ _ _ _ => S
  refine cw_fn f113.2 (o113.2 w) ?_
  walk_at "go"
  rename St _ _ _ _ _ _ _ _ => S
  refine S.tattr T (a104_keyspace_name w) (ng_none w) hks (by rfl) fun s3 S => ?_
  walk_at "go"
  rename St _ _ _ _ _ _ _ _ => S
  refine ⟨S.ok.kin, ?_⟩
  refine spec_protect S.ok (k := k + 4) R (by decide) nm_k fun t3 s4 a3 O3 => ?_
  replace S := S.aft a3 O3
  refine ⟨_, .str _ _ (by decide), fun tk => ?_⟩
  replace S := S.tok (tk := tk)
  refine j_const fun tk => ?_
  replace S := S.tok (tk := tk)
  refine j_fmt ?_
  walk_at "go"
  rename St _ _ _ _ _ _ _ _ => S
  refine cw_fn f113.2 (o113.2 w) ?_
  walk_at "go"
  rename St _ _ _ _ _ _ _ _ => S
  refine S.tattr T (a104_name w) (ng_none w) hnm (by rfl) fun s3 S => ?_
  walk_at "go"
  rename St _ _ _ _ _ _ _ _ => S
  refine ⟨S.ok.kin, ?_⟩
  refine spec_protect S.ok (k := k + 4) R (by decide) nm_t fun t3 s4 a3 O3 => ?_
  replace S := S.aft a3 O3
  refine ⟨_, .str _ _ (by decide), fun tk => ?_⟩
  replace S := S.tok (tk := tk)
  refine j_const fun tk => ?_
  replace S := S.tok (tk := tk)
  refine j_fmt ?_
  cases fm
  all_goals
    walk_at "go"
    rename St _ _ _ _ _ _ _ _ => S
    refine ⟨_, .str _ _ (Nat.le_of_ble_eq_true (by decide +kernel)), fun tk => ?_⟩
    replace S := S.tok (tk := tk)
    refine j_nil fun tj tk => ?_
    replace S := S.tok (tk := tk)
    walk_at "go"
    rename St _ _ _ _ _ _ _ _ => S
    refine S.stc (pre := []) (post := []) rfl hoc fun o1 s5 ho1 S => ?_
    refine x_nil ?_
    refine cql_tail (k := k) R S ho1 ⟨Nat.le_of_ble_eq_true (by decide +kernel), Nat.le_of_ble_eq_true (by decide +kernel), Nat.le_of_ble_eq_true (by decide +kernel)⟩ T hcomp hps hd hd1 he hr hpk hpk1 hck hck1 hcs hcs1 hckv hcol fun t9 xs s9 a9 O9 hpm hsd => ?_
    have hf := h t9 xs s9 a9 O9 hpm hsd
    unfold cqlText at hf
    first
      | rw [show ((Str.empty ++ Str.ofString "CREATE" ++ Str.ofString " TABLE " ++ pname (Str.ofString "k") true ++ Str.ofString "." ++ pname (Str.ofString "t") true ++ Str.ofString " (" ++ Str.ofString "") ++ (Str.ofString "" ++ Str.ofString "a int PRIMARY KEY")) ++ Str.ofString ") WITH " = Str.ofString "CREATE TABLE k.t (a int PRIMARY KEY) WITH " by decide +kernel]
      | rw [show ((Str.empty ++ Str.ofString "CREATE" ++ Str.ofString " TABLE " ++ pname (Str.ofString "k") true ++ Str.ofString "." ++ pname (Str.ofString "t") true ++ Str.ofString " (" ++ Str.ofString "\n") ++ (Str.ofString "    " ++ Str.ofString "a int PRIMARY KEY")) ++ Str.ofString "\n) WITH " = Str.ofString "CREATE TABLE k.t (\n    a int PRIMARY KEY\n) WITH " by decide +kernel]
      | skip
    exact hf
end
end Mine

namespace Mine
theorem kf_fill_W1 (w : World) : (hd.heap_39 w.params) = (hd.heap_39 w.params) ∧ PySem.Challenge.rw_bq5006_01 = PySem.Challenge.rw_bq5006_01 := by
  k_fill
  exact ⟨rfl, rfl⟩
local macro_rules | `(tactic| walk_at "kis") => `(tactic| (show nsIn (hd.heap_39 _) _ _ = _; k_is))
local macro_rules | `(tactic| walk_at "go1") => `(tactic| first
  | ((with_reducible show wpAny _ _ (eval _ _) _ _ _); first
    | ((with_reducible show wpAny _ _ (eval (Expr.Name _ _) _) _ _ _); rename St _ _ _ _ _ _ _ _ => S0; first | (refine S0.ld (by rfl) ?_) | (refine S0.ok.ldg (by walk_at "kis") ?_) | (refine S0.ok.ldb (by walk_at "kis") (by first | exact bb_len | exact bb_range | exact bb_isinstance | exact bb_dict | exact bb_str | exact bb_list | exact bb_sorted | exact bb_int | exact bb_float | exact bb_bool) ?_))
    | ((with_reducible show wpAny _ _ (eval (Expr.Constant (Const.int _) _ _) _) _ _ _); rename St _ _ _ _ _ _ _ _ => S0; refine S0.cint ?_; clear S0; unhygienic intros)
    | ((with_reducible show wpAny _ _ (eval (Expr.Constant (Const.str _) _ _) _) _ _ _); rename St _ _ _ _ _ _ _ _ => S0; refine S0.cstr ?_; clear S0; unhygienic intros)
    | ((with_reducible show wpAny _ _ (eval (Expr.Constant (Const.bool _) _ _) _) _ _ _); refine wpAny_Constant_bool ?_)
    | ((with_reducible show wpAny _ _ (eval (Expr.Constant (Const.none) _ _) _) _ _ _); refine wpAny_Constant_none ?_)
    | ((with_reducible show wpAny _ _ (eval (Expr.BinOp _ _ _ _) _) _ _ _); refine wpAny_BinOp ?_)
    | ((with_reducible show wpAny _ _ (eval (Expr.Subscript _ _ _) _) _ _ _); refine Subscript_ ?_)
    | ((with_reducible show wpAny _ _ (eval (Expr.Tuple _ _ _) _) _ _ _); refine Tuple_ ?_)
    | ((with_reducible show wpAny _ _ (eval (Expr.List _ _) _) _ _ _); refine List_ ?_)
    | ((with_reducible show wpAny _ _ (eval (Expr.Call (Expr.Attribute _ _ _) _ [] _) _) _ _ _); refine MethodCall_ ?_)
    | ((with_reducible show wpAny _ _ (eval (Expr.Call _ _ [] _) _) _ _ _); refine Call_ ?_)
    | ((with_reducible show wpAny _ _ (eval (Expr.IfExp _ _ _ _) _) _ _ _); refine wpAny_IfExp ?_)
    | ((with_reducible show wpAny _ _ (eval (Expr.Dict [] [] _) _) _ _ _); rename St _ _ _ _ _ _ _ _ => S0; refine S0.ndict ?_; clear S0; unhygienic intros)
    | ((with_reducible show wpAny _ _ (eval (Expr.Compare _ [_] [_] _) _) _ _ _); refine wpAny_Compare1 ?_)
    | ((with_reducible show wpAny _ _ (eval (Expr.Attribute _ _ _) _) _ _ _); refine Attribute_any_ ?_ (by rfl))
    | ((with_reducible show wpAny _ _ (eval (Expr.JoinedStr (_ :: _ :: _) _) _) _ _ _); refine x_js ?_))
  | ((with_reducible show wpAny _ _ (spliced _) _ _ _); first
    | ((with_reducible show wpAny _ _ (spliced (backTo _ (starEach [] _))) _ _ _); refine wpAny_items_nil ?_)
    | ((with_reducible show wpAny _ _ (spliced (backTo _ (starEach (_ :: _) _))) _ _ _); refine wpAny_items_cons ?_))
  | ((with_reducible show wpAny _ _ (newTuple _) _ _ _); rename St _ _ _ _ _ _ _ _ => S0; refine S0.ntup ?_; clear S0; unhygienic intros)
  | ((with_reducible show wpAny _ _ (newList _) _ _ _); rename St _ _ _ _ _ _ _ _ => S0; refine S0.nlist ?_; clear S0; unhygienic intros)
  | ((with_reducible show wpAny _ _ (storeName _ _ _) _ _ _); rename St _ _ _ _ _ _ _ _ => S0; refine S0.st ?_; clear S0; unhygienic intros)
  | ((with_reducible show wpAny _ _ (execs _ _) _ _ _); first
    | ((with_reducible show wpAny _ _ (execs (Stmt.Assign [Expr.Name _ _] _ _ :: _) _) _ _ _); refine x_assign ?_)
    | ((with_reducible show wpAny _ _ (execs (Stmt.Return (some _) _ :: _) _) _ _ _); refine x_return ?_)
    | ((with_reducible show wpAny _ _ (execs (Stmt.If _ _ _ _ :: _) _) _ _ _); refine x_if ?_)
    | ((with_reducible show wpAny _ _ (execs (Stmt.Expr _ _ :: _) _) _ _ _); refine x_expr ?_)
    | ((with_reducible show wpAny _ _ (execs (Stmt.AugAssign (Expr.Name _ _) _ _ _ :: _) _) _ _ _); refine x_aug ?_)
    | ((with_reducible show wpAny _ _ (execs [] _) _ _ _); refine x_nil ?_; try dsimp only)
    | ((with_reducible show wpAny _ _ (execs (Stmt.Assign [Expr.Subscript _ _ _] _ _ :: _) _) _ _ _); refine x_assign_sub ?_)
    | ((with_reducible show wpAny _ _ (execs (Stmt.For _ _ _ _ _ :: _) _) _ _ _); refine x_for ?_))
  | ((with_reducible show wpAny _ _ (isTrue _ _ _) _ _ _); first
    | ((with_reducible show wpAny _ _ (isTrue (Expr.Call _ _ _ _) _ _) _ _ _); refine wpAny_isTrue_value ?_)
    | ((with_reducible show wpAny _ _ (isTrue (Expr.Name _ _) _ _) _ _ _); refine wpAny_isTrue_value ?_)
    | ((with_reducible show wpAny _ _ (isTrue (Expr.Compare _ [_] [_] _) _ _) _ _ _); refine wpAny_isTrue_Compare1 ?_)
    | ((with_reducible show wpAny _ _ (isTrue (Expr.BoolOp _ _ _) _ _) _ _ _); refine wpAny_isTrue_BoolOp ?_))
  | ((with_reducible show wpAny _ _ (truthy (Value.bool _)) _ _ _); refine wpAny_truthy_bool ?_)
  | ((with_reducible show wpAny _ _ (callWith _ _ _ _ _) _ _ _); first
    | ((with_reducible show wpAny _ _ (callWith _ (Value.type _) _ (backTo _ (starEach (_ :: _) _)) []) _ _ _); refine PyProof.Rows.callWith_type1 ?_)
    | ((with_reducible show wpAny _ _ (callWith _ (Value.builtin _) [] (backTo _ (starEach (_ :: _) _)) []) _ _ _); refine PyProof.Rows.callWith_builtin1 ?_)
    | ((with_reducible show wpAny _ _ (callWith _ (Value.builtin _) (_ :: _) (backTo _ (starEach (_ :: _) _)) []) _ _ _); refine PyProof.Rows.callWith_method1 ?_)
    | ((with_reducible show wpAny _ _ (callWith _ (Value.builtin _) (_ :: _) (backTo _ (starEach [] _)) []) _ _ _); refine PyProof.Rows.callWith_method0 ?_))
  | ((with_reducible show wpAny _ _ (binaryOp _ _ _) _ _ _); first
    | ((with_reducible show wpAny _ _ (binaryOp Operator.Mod (Value.int _ _) (Value.int _ _)) _ _ _); rename St _ _ _ _ _ _ _ _ => S0; refine S0.i1 (fun h => mod_int (by decide) h) ?_; clear S0; unhygienic intros)
    | ((with_reducible show wpAny _ _ (binaryOp Operator.Add (Value.int _ _) (Value.int _ _)) _ _ _); rename St _ _ _ _ _ _ _ _ => S0; refine S0.i1 (fun h => add_int h) ?_; clear S0; unhygienic intros)
    | ((with_reducible show wpAny _ _ (binaryOp Operator.Sub (Value.int _ _) (Value.int _ _)) _ _ _); rename St _ _ _ _ _ _ _ _ => S0; refine S0.i1 (fun h => sub_int h) ?_; clear S0; unhygienic intros)
    | ((with_reducible show wpAny _ _ (binaryOp Operator.FloorDiv (Value.int _ _) (Value.int _ _)) _ _ _); rename St _ _ _ _ _ _ _ _ => S0; refine S0.i1 (fun h => floordiv_int (by decide) h) ?_; clear S0; unhygienic intros))
  | ((with_reducible show wpAny _ _ (allTrue _ _ _) _ _ _); first
    | ((with_reducible show wpAny _ _ (allTrue BoolOp.And (_ :: _) _) _ _ _); refine wpAny_allTrue_And_cons ?_)
    | ((with_reducible show wpAny _ _ (allTrue BoolOp.Or (_ :: _) _) _ _ _); refine wpAny_allTrue_Or_cons ?_)
    | ((with_reducible show wpAny _ _ (allTrue BoolOp.And [] _) _ _ _); refine wpAny_allTrue_And_nil ?_)
    | ((with_reducible show wpAny _ _ (allTrue BoolOp.Or [] _) _ _ _); refine wpAny_allTrue_Or_nil ?_))
  | (refine ite_t1 ?_)
  | (refine ite_f1 ?_))
local macro_rules | `(tactic| walk_at "go") => `(tactic| repeat walk_at "go1")

noncomputable def lawC : {l : List Stmt // ∃ a1 a2 a3 a4 a5, lawB.1 = a1 :: a2 :: a3 :: a4 :: a5 :: l} := ⟨_, _, _, _, _, _, rfl⟩
/-- what law holds on to -/
structure LawK (w : World) (h : Heap) (nl : Nat) (nvs : List Value) (lr : Nat) (rvs : List Value) (rows : List (Str × Val)) (ll : Nat) (lvs : List Value) (xs : List Str) (kl : Nat) : Prop where
  hnl : h.IsList nl nvs.toArray
  nl1 : 218 ≤ nl
  n13 : Int13 nvs
  hlr : h.IsList lr rvs.toArray
  lr1 : 218 ≤ lr
  rin : RowsIn w h rvs rows
  rok : RowsOk rows
  hll : h.get? ll = some (lstObj lvs.toArray kl)
  ll1 : 218 ≤ ll
  lin : All2 StrV lvs xs
  perm : xs.Perm (linesOf rows)
  sorted : sortedS xs = true
theorem isList_keep {h h' : Heap} (k : Keep h h') {a : Nat} (ha : 218 ≤ a) {vs : Array Value} (x : h.IsList a vs) : h'.IsList a vs := let ⟨o, e, r⟩ := x; ⟨o, k a o (by omega) (by omega) e, r⟩
theorem LawK.keep {w : World} {h h' : Heap} (k : Keep h h') {nl nvs lr rvs rows ll lvs xs kl} (x : LawK w h nl nvs lr rvs rows ll lvs xs kl) : LawK w h' nl nvs lr rvs rows ll lvs xs kl :=
  ⟨isList_keep k x.nl1 x.hnl, x.nl1, x.n13, isList_keep k x.lr1 x.hlr, x.lr1, x.rin.keep k, x.rok, k _ _ (by have := x.ll1; omega) (by have := x.ll1; omega) x.hll, x.ll1, x.lin, x.perm, x.sorted⟩
section
variable {w : World} {mg mb : Str → Option Value} {b b' s s' : Shared} {L : Nat} {m : List (Str × Value)} {N : List (Nat × Obj)} {A : Around} {E : Value → Shared → Prop} {env : Env}
theorem St.called0 (S : St w mg mb b L m N s) (a : Aft s s') (O : Ok w mg mb s') : ∃ b', Aft b b' ∧ Keep (anew s.heap s'.heap) b'.heap ∧ St w mg mb b' L m N s' := by
  have S' : St w mg mb b L m (N ++ []) s := by rw [List.append_nil]; exact S
  obtain ⟨b', h1, h2, h3, _⟩ := S'.called a O
  exact ⟨b', h1, h2, h3⟩
theorem dict_new {h h' b : Heap} (k : Keep (anew h h') b) {d : Nat} (h1 : 218 ≤ d) {kvs : List (Str × Value)} (x : h'.DictOf (SK w) d kvs) (n : h.get? d = none) : b.DictOf (SK w) d kvs :=
  let ⟨o, es, ep, ho, r⟩ := x; ⟨o, es, ep, k _ _ (hi_ne h1).1 (hi_ne h1).2 (anew_in ho n), r⟩
theorem law1 {k : Nat} (R : Rm A (k + 10)) {nl kk : Nat} {nvs : List Value} {o1 o2 : Obj} {T : List (Nat × Obj)} {Q : Flow → Shared → Prop} (S : St w mg mb b L [] ((nl, lstObj nvs.toArray kk) :: (L + 1, o1) :: (L + 2, o2) :: T) s) (h2 : o2.data = .cell (some (.ref nl))) (hn : Int13 nvs)
    (h : ∀ b' lr rvs rows ll lvs xs kl s', Aft b b' → LawK w b'.heap nl nvs lr rvs rows ll lvs xs kl → St w mg mb b' L [("lines", .ref ll), ("rows", .ref lr)] ((L + 1, o1) :: (L + 2, o2) :: T) s' → wpAny (model PR w) A (execs lawC.1 (lenv L)) Q NoE s') :
    wpAny (model PR w) A (execs lawB.1 (lenv L)) Q NoE s := by
  have hnl1 := (S.nw _ (.head _)).2.2.2
  refine x_assign ?_
  walk_at "go"
  rename St _ _ _ _ _ _ _ _ => S
  refine cw_fn f193.2 (o193.2 w) ?_
  walk_at "go"
  rename St _ _ _ _ _ _ _ _ => S
  refine S.ldc (c := L + 2) (o := o2) (by simp) h2 ?_
  walk_at "go"
  rename St _ _ _ _ _ _ _ _ => S
  refine ⟨S.ok.kin, ?_⟩
  refine spec_options S.ok (k := k + 8) (R.less (by omega)) ⟨_, S.get (.head _), rfl, _, rfl⟩ hnl1 hn fun lr rvs rows kr s2 a2 O2 hlr hlr1 hrin hrok hlrn => ?_
  obtain ⟨b1, ab1, kp1, S, hN1⟩ := (S.perm (N' := ((L + 1, o1) :: (L + 2, o2) :: T) ++ [(nl, lstObj nvs.toArray kk)]) (List.perm_append_comm (l₁ := (L + 1, o1) :: (L + 2, o2) :: T) (l₂ := [(nl, lstObj nvs.toArray kk)]))).called a2 O2
  have gnl : b1.heap.get? nl = some (lstObj nvs.toArray kk) := hN1 _ (.head _)
  have glr : b1.heap.get? lr = some (lstObj rvs.toArray kr) := kp1 _ _ (hi_ne hlr1).1 (hi_ne hlr1).2 (anew_in hlr hlrn)
  have rin1 := hrin.keep kp1
  clear hlr hlrn hrin hN1 kp1 a2 O2
  walk_at "go"
  rename St _ _ _ _ _ _ _ _ => S
  refine cw_fn f205.2 (o205.2 w) ?_
  walk_at "go"
  rename St _ _ _ _ _ _ _ _ => S
  refine ⟨S.ok.kin, ?_⟩
  refine spec_lines S.ok (k := k + 8) (R.less (by omega)) (isList_keep S.keep hlr1 ⟨_, glr, rfl, _, rfl⟩) hlr1 (rin1.keep S.keep) hrok fun ll lvs xs kl s3 a3 O3 hll hll1 hlin hpm hsd hlln => ?_
  obtain ⟨b2, ab2, kp2, S⟩ := S.called0 a3 O3
  have gll : b2.heap.get? ll = some (lstObj lvs.toArray kl) := kp2 _ _ (hi_ne hll1).1 (hi_ne hll1).2 (anew_in hll hlln)
  have K2 : LawK w b2.heap nl nvs lr rvs rows ll lvs xs kl := ⟨isList_keep ab2.keep hnl1 ⟨_, gnl, rfl, _, rfl⟩, hnl1, hn, isList_keep ab2.keep hlr1 ⟨_, glr, rfl, _, rfl⟩, hlr1, rin1.keep ab2.keep, hrok, gll, hll1, hlin, hpm, hsd⟩
  clear gnl glr gll rin1 hll hlln kp2 a3 O3
  walk_at "go"
  rename St _ _ _ _ _ _ _ _ => S
  refine cw_fn f212.2 (o212.2 w) ?_
  walk_at "go"
  rename St _ _ _ _ _ _ _ _ => S
  refine ⟨S.ok.kin, ?_⟩
  refine spec_fresh S.ok (k := k + 9) R (isList_keep S.keep K2.lr1 K2.hlr) K2.lr1 (K2.rin.keep S.keep) hrok.nd (by have := hrok.size; omega) fun hd1 s4 kvs a4 O4 hdd hd2 hent hdn => ?_
  obtain ⟨b3, ab3, kp3, S⟩ := S.called0 a4 O4
  have K3 := K2.keep ab3.keep
  have dd3 := dict_new kp3 hd2 hdd hdn
  have en3 := hent.keep kp3
  clear K2 kp3 hdd hdn hent a4 O4
  walk_at "go"
  rename St _ _ _ _ _ _ _ _ => S
  refine S.gmcls (fc_mos w) (rc_mos w) fun q s5 S => ?_
  dsimp only
  refine cw_M (self := .ref 104) (fn98 w) ?_
  walk_at "go"
  rename St _ _ _ _ _ _ _ _ => S
  refine ⟨⟨S.get (.head _), S.ok.kin⟩, ?_⟩
  refine meth_call (S.get (.head _)) ?_
  refine spec_mosK S.ok (k := k + 8) R (DictOf.keep S.keep hd2 dd3) hd2 (en3.keep S.keep) hrok fun lt tvs txs k2 s6 a6 O6 htl htl1 htv htp hts htn => ?_
  have S := S.drop (N' := (L + 1, o1) :: (L + 2, o2) :: T) (.cons _ (.refl _))
  obtain ⟨b4, ab4, kp4, S⟩ := S.called0 a6 O6
  have K4 := K3.keep ab4.keep
  have dd4 := DictOf.keep ab4.keep hd2 dd3
  have en4 := en3.keep ab4.keep
  have gtl : b4.heap.get? lt = some (lstObj tvs.toArray k2) := kp4 _ _ (hi_ne htl1).1 (hi_ne htl1).2 (anew_in htl htn)
  obtain rfl : txs = xs := sorted_same (htp.trans hpm.symm) hts hsd
  clear K3 dd3 en3 kp4 htl htn a6 O6
  walk_at "go"
  rename St _ _ _ _ _ _ _ _ => S
  refine wpAny_isTrue_Not ?_
  walk_at "go"
  rename St _ _ _ _ _ _ _ _ => S
  refine IsiPair.list_list (S.keep _ _ (hi_ne htl1).1 (hi_ne htl1).2 gtl) rfl ?_
  walk_at "go"
  rename St _ _ _ _ _ _ _ _ => S
  refine lists_ne ⟨_, S.keep _ _ (hi_ne htl1).1 (hi_ne htl1).2 gtl, rfl, _, rfl⟩ ⟨_, S.keep _ _ (hi_ne K4.ll1).1 (hi_ne K4.ll1).2 K4.hll, rfl, _, rfl⟩ htv K4.lin R.cl ?_
  walk_at "go"
  rename St _ _ _ _ _ _ _ _ => S
  refine cw_fn f212.2 (o212.2 w) ?_
  walk_at "go"
  rename St _ _ _ _ _ _ _ _ => S
  refine ⟨S.ok.kin, ?_⟩
  refine spec_fresh S.ok (k := k + 9) R (isList_keep S.keep K4.lr1 K4.hlr) K4.lr1 (K4.rin.keep S.keep) hrok.nd (by have := hrok.size; omega) fun hd3 s7 kvs2 a7 O7 hdd hd4 hent hdn => ?_
  obtain ⟨b5, ab5, kp5, S⟩ := S.called0 a7 O7
  walk_at "go"
  rename St _ _ _ _ _ _ _ _ => S
  refine copies_ne R hd2 hd4 (DictOf.keep S.keep hd2 (DictOf.keep ab5.keep hd2 dd4)) (DictOf.keep S.keep hd4 (dict_new kp5 hd4 hdd hdn)) ((en4.keep ab5.keep).keep S.keep) ((hent.keep kp5).keep S.keep) hrok.nd (R.in1).cl ?_
  iterate 5 walk_at "go1"
  rename St _ _ _ _ _ _ _ _ => S
  have ab := (((ab1.trans ab2).trans ab3).trans ab4).trans ab5
  exact h b5 lr rvs rows ll lvs _ kl _ ab (K4.keep ab5.keep) ((S.weaken (.refl _)).locals (lkc (by rfl) (lkc (by rfl) lk0)))
end
end Mine

namespace Mine
theorem kf_fill_W2 (w : World) : (hd.heap_39 w.params) = (hd.heap_39 w.params) ∧ PySem.Challenge.rw_bq5006_01 = PySem.Challenge.rw_bq5006_01 := by
  k_fill
  exact ⟨rfl, rfl⟩
local macro_rules | `(tactic| walk_at "kis") => `(tactic| (show nsIn (hd.heap_39 _) _ _ = _; k_is))
local macro_rules | `(tactic| walk_at "go1") => `(tactic| first
  | ((with_reducible show wpAny _ _ (eval _ _) _ _ _); first
    | ((with_reducible show wpAny _ _ (eval (Expr.Name _ _) _) _ _ _); rename St _ _ _ _ _ _ _ _ => S0; first | (refine S0.ld (by rfl) ?_) | (refine S0.ok.ldg (by walk_at "kis") ?_) | (refine S0.ok.ldb (by walk_at "kis") (by first | exact bb_len | exact bb_range | exact bb_isinstance | exact bb_dict | exact bb_str | exact bb_list | exact bb_sorted | exact bb_int | exact bb_float | exact bb_bool) ?_))
    | ((with_reducible show wpAny _ _ (eval (Expr.Constant (Const.int _) _ _) _) _ _ _); rename St _ _ _ _ _ _ _ _ => S0; refine S0.cint ?_; clear S0; unhygienic intros)
    | ((with_reducible show wpAny _ _ (eval (Expr.Constant (Const.str _) _ _) _) _ _ _); rename St _ _ _ _ _ _ _ _ => S0; refine S0.cstr ?_; clear S0; unhygienic intros)
    | ((with_reducible show wpAny _ _ (eval (Expr.Constant (Const.bool _) _ _) _) _ _ _); refine wpAny_Constant_bool ?_)
    | ((with_reducible show wpAny _ _ (eval (Expr.Constant (Const.none) _ _) _) _ _ _); refine wpAny_Constant_none ?_)
    | ((with_reducible show wpAny _ _ (eval (Expr.BinOp _ _ _ _) _) _ _ _); refine wpAny_BinOp ?_)
    | ((with_reducible show wpAny _ _ (eval (Expr.Subscript _ _ _) _) _ _ _); refine Subscript_ ?_)
    | ((with_reducible show wpAny _ _ (eval (Expr.Tuple _ _ _) _) _ _ _); refine Tuple_ ?_)
    | ((with_reducible show wpAny _ _ (eval (Expr.List _ _) _) _ _ _); refine List_ ?_)
    | ((with_reducible show wpAny _ _ (eval (Expr.Call (Expr.Attribute _ _ _) _ [] _) _) _ _ _); refine MethodCall_ ?_)
    | ((with_reducible show wpAny _ _ (eval (Expr.Call _ _ [] _) _) _ _ _); refine Call_ ?_)
    | ((with_reducible show wpAny _ _ (eval (Expr.IfExp _ _ _ _) _) _ _ _); refine wpAny_IfExp ?_)
    | ((with_reducible show wpAny _ _ (eval (Expr.Dict [] [] _) _) _ _ _); rename St _ _ _ _ _ _ _ _ => S0; refine S0.ndict ?_; clear S0; unhygienic intros)
    | ((with_reducible show wpAny _ _ (eval (Expr.Compare _ [_] [_] _) _) _ _ _); refine wpAny_Compare1 ?_)
    | ((with_reducible show wpAny _ _ (eval (Expr.Attribute _ _ _) _) _ _ _); refine Attribute_any_ ?_ (by rfl))
    | ((with_reducible show wpAny _ _ (eval (Expr.JoinedStr (_ :: _ :: _) _) _) _ _ _); refine x_js ?_))
  | ((with_reducible show wpAny _ _ (spliced _) _ _ _); first
    | ((with_reducible show wpAny _ _ (spliced (backTo _ (starEach [] _))) _ _ _); refine wpAny_items_nil ?_)
    | ((with_reducible show wpAny _ _ (spliced (backTo _ (starEach (_ :: _) _))) _ _ _); refine wpAny_items_cons ?_))
  | ((with_reducible show wpAny _ _ (newTuple _) _ _ _); rename St _ _ _ _ _ _ _ _ => S0; refine S0.ntup ?_; clear S0; unhygienic intros)
  | ((with_reducible show wpAny _ _ (newList _) _ _ _); rename St _ _ _ _ _ _ _ _ => S0; refine S0.nlist ?_; clear S0; unhygienic intros)
  | ((with_reducible show wpAny _ _ (storeName _ _ _) _ _ _); rename St _ _ _ _ _ _ _ _ => S0; refine S0.st ?_; clear S0; unhygienic intros)
  | ((with_reducible show wpAny _ _ (execs _ _) _ _ _); first
    | ((with_reducible show wpAny _ _ (execs (Stmt.Assign [Expr.Name _ _] _ _ :: _) _) _ _ _); refine x_assign ?_)
    | ((with_reducible show wpAny _ _ (execs (Stmt.Return (some _) _ :: _) _) _ _ _); refine x_return ?_)
    | ((with_reducible show wpAny _ _ (execs (Stmt.If _ _ _ _ :: _) _) _ _ _); refine x_if ?_)
    | ((with_reducible show wpAny _ _ (execs (Stmt.Expr _ _ :: _) _) _ _ _); refine x_expr ?_)
    | ((with_reducible show wpAny _ _ (execs (Stmt.AugAssign (Expr.Name _ _) _ _ _ :: _) _) _ _ _); refine x_aug ?_)
    | ((with_reducible show wpAny _ _ (execs [] _) _ _ _); refine x_nil ?_; try dsimp only)
    | ((with_reducible show wpAny _ _ (execs (Stmt.Assign [Expr.Subscript _ _ _] _ _ :: _) _) _ _ _); refine x_assign_sub ?_)
    | ((with_reducible show wpAny _ _ (execs (Stmt.For _ _ _ _ _ :: _) _) _ _ _); refine x_for ?_))
  | ((with_reducible show wpAny _ _ (isTrue _ _ _) _ _ _); first
    | ((with_reducible show wpAny _ _ (isTrue (Expr.Call _ _ _ _) _ _) _ _ _); refine wpAny_isTrue_value ?_)
    | ((with_reducible show wpAny _ _ (isTrue (Expr.Name _ _) _ _) _ _ _); refine wpAny_isTrue_value ?_)
    | ((with_reducible show wpAny _ _ (isTrue (Expr.Compare _ [_] [_] _) _ _) _ _ _); refine wpAny_isTrue_Compare1 ?_)
    | ((with_reducible show wpAny _ _ (isTrue (Expr.BoolOp _ _ _) _ _) _ _ _); refine wpAny_isTrue_BoolOp ?_))
  | ((with_reducible show wpAny _ _ (truthy (Value.bool _)) _ _ _); refine wpAny_truthy_bool ?_)
  | ((with_reducible show wpAny _ _ (callWith _ _ _ _ _) _ _ _); first
    | ((with_reducible show wpAny _ _ (callWith _ (Value.type _) _ (backTo _ (starEach (_ :: _) _)) []) _ _ _); refine PyProof.Rows.callWith_type1 ?_)
    | ((with_reducible show wpAny _ _ (callWith _ (Value.builtin _) [] (backTo _ (starEach (_ :: _) _)) []) _ _ _); refine PyProof.Rows.callWith_builtin1 ?_)
    | ((with_reducible show wpAny _ _ (callWith _ (Value.builtin _) (_ :: _) (backTo _ (starEach (_ :: _) _)) []) _ _ _); refine PyProof.Rows.callWith_method1 ?_)
    | ((with_reducible show wpAny _ _ (callWith _ (Value.builtin _) (_ :: _) (backTo _ (starEach [] _)) []) _ _ _); refine PyProof.Rows.callWith_method0 ?_))
  | ((with_reducible show wpAny _ _ (binaryOp _ _ _) _ _ _); first
    | ((with_reducible show wpAny _ _ (binaryOp Operator.Mod (Value.int _ _) (Value.int _ _)) _ _ _); rename St _ _ _ _ _ _ _ _ => S0; refine S0.i1 (fun h => mod_int (by decide) h) ?_; clear S0; unhygienic intros)
    | ((with_reducible show wpAny _ _ (binaryOp Operator.Add (Value.int _ _) (Value.int _ _)) _ _ _); rename St _ _ _ _ _ _ _ _ => S0; refine S0.i1 (fun h => add_int h) ?_; clear S0; unhygienic intros)
    | ((with_reducible show wpAny _ _ (binaryOp Operator.Sub (Value.int _ _) (Value.int _ _)) _ _ _); rename St _ _ _ _ _ _ _ _ => S0; refine S0.i1 (fun h => sub_int h) ?_; clear S0; unhygienic intros)
    | ((with_reducible show wpAny _ _ (binaryOp Operator.FloorDiv (Value.int _ _) (Value.int _ _)) _ _ _); rename St _ _ _ _ _ _ _ _ => S0; refine S0.i1 (fun h => floordiv_int (by decide) h) ?_; clear S0; unhygienic intros))
  | ((with_reducible show wpAny _ _ (allTrue _ _ _) _ _ _); first
    | ((with_reducible show wpAny _ _ (allTrue BoolOp.And (_ :: _) _) _ _ _); refine wpAny_allTrue_And_cons ?_)
    | ((with_reducible show wpAny _ _ (allTrue BoolOp.Or (_ :: _) _) _ _ _); refine wpAny_allTrue_Or_cons ?_)
    | ((with_reducible show wpAny _ _ (allTrue BoolOp.And [] _) _ _ _); refine wpAny_allTrue_And_nil ?_)
    | ((with_reducible show wpAny _ _ (allTrue BoolOp.Or [] _) _ _ _); refine wpAny_allTrue_Or_nil ?_))
  | (refine ite_t1 ?_)
  | (refine ite_f1 ?_))
local macro_rules | `(tactic| walk_at "go") => `(tactic| repeat walk_at "go1")

noncomputable def lawD : {l : List Stmt // ∃ a1 a2 a3, lawC.1 = a1 :: a2 :: a3 :: l} := ⟨_, _, _, _, rfl⟩
def nameT : List (Str × Bool) := [(Str.ofString "a", true), (Str.ofString "select", false), (Str.ofString "Big", false), (Str.ofString "b c", false), (Str.ofString "q\"r", false)]
def pk (n : Int) (i : Nat) : Int := (n.fdiv (2 ^ i)).fmod 5
def bw (n : Int) (i : Nat) : Bool := (n.fdiv (2 ^ i)).fmod 2 == 1
def nmAt (n : Int) (i : Nat) : Str × Bool := nameT.getD (pk n i).toNat (Str.empty, true)
def colAt (n11 n12 : Int) (i : Nat) : Col := ((nmAt n11 i).1, (nmAt n11 i).2, bw n12 i)
def colsOf (n11 n12 : Int) : List Col := (List.range (n11.fmod 3).toNat).map (colAt n11 n12)
theorem pk_range (n : Int) (i : Nat) : 0 ≤ pk n i ∧ pk n i < 5 := fmod_range _ 5 (by decide)
theorem name_at (j : Nat) (hj : j < 5) : NameIs (nameT.getD j (Str.empty, true)).1 (nameT.getD j (Str.empty, true)).2 ∧ (nameT.getD j (Str.empty, true)).1.length ≤ 100 := by
  match j, hj with
  | 0, _ => exact ⟨nm_a, by decide +kernel⟩
  | 1, _ => exact ⟨nm_sel, by decide +kernel⟩
  | 2, _ => exact ⟨nm_big, by decide +kernel⟩
  | 3, _ => exact ⟨nm_bc, by decide +kernel⟩
  | 4, _ => exact ⟨nm_qr, by decide +kernel⟩
theorem tup_names (j : Nat) (hj : j < 5) : ∃ tm, ∃ l : List Value, o178.1.cls = .type "tuple" ∧ o178.1.data = .seq l.toArray 0 ∧ l.length = 5 ∧ l[j]? = some (.str (nameT.getD j (Str.empty, true)).1 tm) := by
  match j, hj with
  | 0, _ => exact ⟨_, [_, _, _, _, _], rfl, rfl, rfl, rfl⟩
  | 1, _ => exact ⟨_, [_, _, _, _, _], rfl, rfl, rfl, rfl⟩
  | 2, _ => exact ⟨_, [_, _, _, _, _], rfl, rfl, rfl, rfl⟩
  | 3, _ => exact ⟨_, [_, _, _, _, _], rfl, rfl, rfl, rfl⟩
  | 4, _ => exact ⟨_, [_, _, _, _, _], rfl, rfl, rfl, rfl⟩
theorem tup_shown (j : Nat) (hj : j < 5) : ∃ tm, ∃ l : List Value, o179.1.cls = .type "tuple" ∧ o179.1.data = .seq l.toArray 0 ∧ l.length = 5 ∧ l[j]? = some (.str (pname (nameT.getD j (Str.empty, true)).1 (nameT.getD j (Str.empty, true)).2) tm) := by
  have go : ∀ {sh sh' : Str}, sh' = sh → (∃ tm, ∃ l : List Value, o179.1.cls = .type "tuple" ∧ o179.1.data = .seq l.toArray 0 ∧ l.length = 5 ∧ l[j]? = some (.str sh tm)) → ∃ tm, ∃ l : List Value, o179.1.cls = .type "tuple" ∧ o179.1.data = .seq l.toArray 0 ∧ l.length = 5 ∧ l[j]? = some (.str sh' tm) := fun e h => by rw [e]; exact h
  match j, hj with
  | 0, _ => exact ⟨_, [_, _, _, _, _], rfl, rfl, rfl, rfl⟩
  | 1, _ => exact go pn_sel ⟨_, [_, _, _, _, _], rfl, rfl, rfl, rfl⟩
  | 2, _ => exact go pn_big ⟨_, [_, _, _, _, _], rfl, rfl, rfl, rfl⟩
  | 3, _ => exact go pn_bc ⟨_, [_, _, _, _, _], rfl, rfl, rfl, rfl⟩
  | 4, _ => exact go pn_qr ⟨_, [_, _, _, _, _], rfl, rfl, rfl, rfl⟩
theorem two_pow_ne (i : Nat) : (2 : Int) ^ i ≠ 0 := Int.ne_of_gt (Int.pow_pos (by decide))
theorem pow_small (i : Nat) (h : i < 3) : ((2 : Int) ^ ((i : Int).toNat)).natAbs < 1073741824 := by
  match i, h with
  | 0, _ => decide
  | 1, _ => decide
  | 2, _ => decide
section
variable {w : World} {mg mb : Str → Option Value} {b b' s s' : Shared} {L : Nat} {m : List (Str × Value)} {N : List (Nat × Obj)} {A : Around} {E : Value → Shared → Prop} {env : Env}
theorem law2a {k : Nat} (R : Rm A (k + 10)) {nl : Nat} {nvs : List Value} {o1 o2 o3 o4 : Obj} {n11 : Int} {t11 : Tok} {Q : Flow → Shared → Prop} (S : St w mg mb b L m ([(L + 1, o1), (L + 2, o2), (L + 3, o3), (L + 4, o4)]) s) (h2 : o2.data = .cell (some (.ref nl))) (h3 : o3.data = .cell none)
    (hnl : b.heap.IsList nl nvs.toArray) (hnl1 : 218 ≤ nl) (hn : nvs[11]? = some (.int n11 t11))
    {rest : List Stmt} {a : Stmt} (ha : lawC.1 = a :: rest)
    (h : ∀ (lp kp : Nat) (pvs : List Value) o' s', pvs.length = (n11.fmod 3).toNat → (∀ i y, pvs[i]? = some y → ∃ t, y = Value.int (pk n11 i) t) → o'.data = .cell (some (.ref lp)) → St w mg mb b L m ((lp, lstObj pvs.toArray kp) :: [(L + 1, o1), (L + 2, o2), (L + 3, o'), (L + 4, o4)]) s' → wpAny (model PR w) A (execs rest (lenv L)) Q NoE s') :
    wpAny (model PR w) A (execs lawC.1 (lenv L)) Q NoE s := by
  obtain ⟨-, rfl⟩ := List.cons.inj ha
  refine x_assign ?_
  refine x_comp (cl := [("numbers", L + 2)]) (by rfl) ?_
  walk_at "go"
  rename St _ _ _ _ _ _ _ _ => S
  refine S.ldc (c := L + 2) (o := o2) (by simp) h2 ?_
  walk_at "go"
  rename St _ _ _ _ _ _ _ _ => S
  refine litem (isList_keep S.keep hnl1 hnl) (by omega) (by omega) (by simpa using hn) ?_
  walk_at "go"
  rename St _ _ _ _ _ _ _ _ => S
  have hf := fmod_range n11 3 (by decide)
  obtain ⟨p, hp⟩ := Int.eq_ofNat_of_zero_le hf.1
  rw [hp] at hf h ⊢
  refine S.crange fun r t2 u2 v2 s2 S => ?_
  refine S.irange (n := p) (S.get (.head _)) (by omega) fun I s3 S => ?_
  have S := S.drop (N' := (I, rangeIt 0 (p : Nat)) :: [(L + 1, o1), (L + 2, o2), (L + 3, o3), (L + 4, o4)]) (.cons_cons _ (.cons _ (.refl _)))
  have hc := S.get (p := (L + 2, o2)) (by simp)
  have hc1 := (S.nw (L + 2, o2) (by simp)).2.2.2
  have nd := S.nd
  simp only [List.map_cons, List.nodup_cons, List.mem_cons, not_or] at nd
  have hnI : nl ≠ I := fun e => by
    obtain ⟨on, hon, _⟩ := hnl
    have q := (S.nw _ (.head _)).2.2.1
    rw [← e, hon] at q; cases q
  refine comp_block (F := fun i y _ => ∃ t, y = Value.int (pk n11 i) t) (walksRange R.h I p) (by simp) (fun i h' ho => ⟨_, ho⟩) (by rfl) rfl (by decide) (fun i y s s' e _ => e) (by omega) S (S.get (.head _)) (fun x hx => .inl (by simpa using hx)) (fun i v b' C N' s' hi hP hup S' => ?_) (fun ys k2 acc C oC s' hys hF nC S' => ?_)
  · obtain ⟨ti, rfl⟩ := hP
    have hcb := hup (L + 2) o2 hc (fun e => nd.1.2.1 e.symm) (hi_ne hc1).1 (hi_ne hc1).2
    have hlb : ∀ {m N s9}, St w mg mb b' C m N s9 → s9.heap.IsList nl nvs.toArray := fun S9 => by
      obtain ⟨on, hon, rn⟩ := hnl
      exact ⟨on, S9.keep _ _ (hi_ne hnl1).1 (hi_ne hnl1).2 (hup nl on (S.keep _ _ (hi_ne hnl1).1 (hi_ne hnl1).2 hon) hnI (hi_ne hnl1).1 (hi_ne hnl1).2), rn⟩
    clear S
    walk_at "go"
    rename St _ _ _ _ _ _ _ _ => S
    refine S.ldcb hcb (by omega) h2 ?_
    walk_at "go"
    rename St _ _ _ _ _ _ _ _ => S
    refine litem (hlb S) (by omega) (by omega) (by simpa using hn) ?_
    walk_at "go"
    rename St _ _ _ _ _ _ _ _ => S
    refine S.i1 (fun h => pow_int_small (by omega) (by omega) (by decide) h) fun t3 s9 S => ?_
    refine S.i1 (fun h => floordiv_int (two_pow_ne _) h (.inl (PyProof.noPylong_small (pow_small i (by omega))))) fun t4 s9 S => ?_
    walk_at "go"
    rename St _ _ _ _ _ _ _ _ => S
    exact ⟨_, [], by rw [List.append_nil]; exact S, fun _ _ _ => ⟨_, rfl⟩⟩
  · refine post_none S' nC fun s7 S => ?_
    refine S.stc (pre := [(acc, lstObj ys.toArray k2), (L + 1, o1), (L + 2, o2)]) rfl h3 fun o' s8 ho' S => ?_
    exact h acc k2 ys o' s8 (by rw [hys]; rfl) hF ho' S
end
end Mine

namespace Mine
theorem kf_fill_W3 (w : World) : (hd.heap_39 w.params) = (hd.heap_39 w.params) ∧ PySem.Challenge.rw_bq5006_01 = PySem.Challenge.rw_bq5006_01 := by
  k_fill
  exact ⟨rfl, rfl⟩
local macro_rules | `(tactic| walk_at "kis") => `(tactic| (show nsIn (hd.heap_39 _) _ _ = _; k_is))
local macro_rules | `(tactic| walk_at "go1") => `(tactic| first
  | ((with_reducible show wpAny _ _ (eval _ _) _ _ _); first
    | ((with_reducible show wpAny _ _ (eval (Expr.Name _ _) _) _ _ _); rename St _ _ _ _ _ _ _ _ => S0; first | (refine S0.ld (by rfl) ?_) | (refine S0.ok.ldg (by walk_at "kis") ?_) | (refine S0.ok.ldb (by walk_at "kis") (by first | exact bb_len | exact bb_range | exact bb_isinstance | exact bb_dict | exact bb_str | exact bb_list | exact bb_sorted | exact bb_int | exact bb_float | exact bb_bool) ?_))
    | ((with_reducible show wpAny _ _ (eval (Expr.Constant (Const.int _) _ _) _) _ _ _); rename St _ _ _ _ _ _ _ _ => S0; refine S0.cint ?_; clear S0; unhygienic intros)
    | ((with_reducible show wpAny _ _ (eval (Expr.Constant (Const.str _) _ _) _) _ _ _); rename St _ _ _ _ _ _ _ _ => S0; refine S0.cstr ?_; clear S0; unhygienic intros)
    | ((with_reducible show wpAny _ _ (eval (Expr.Constant (Const.bool _) _ _) _) _ _ _); refine wpAny_Constant_bool ?_)
    | ((with_reducible show wpAny _ _ (eval (Expr.Constant (Const.none) _ _) _) _ _ _); refine wpAny_Constant_none ?_)
    | ((with_reducible show wpAny _ _ (eval (Expr.BinOp _ _ _ _) _) _ _ _); refine wpAny_BinOp ?_)
    | ((with_reducible show wpAny _ _ (eval (Expr.Subscript _ _ _) _) _ _ _); refine Subscript_ ?_)
    | ((with_reducible show wpAny _ _ (eval (Expr.Tuple _ _ _) _) _ _ _); refine Tuple_ ?_)
    | ((with_reducible show wpAny _ _ (eval (Expr.List _ _) _) _ _ _); refine List_ ?_)
    | ((with_reducible show wpAny _ _ (eval (Expr.Call (Expr.Attribute _ _ _) _ [] _) _) _ _ _); refine MethodCall_ ?_)
    | ((with_reducible show wpAny _ _ (eval (Expr.Call _ _ [] _) _) _ _ _); refine Call_ ?_)
    | ((with_reducible show wpAny _ _ (eval (Expr.IfExp _ _ _ _) _) _ _ _); refine wpAny_IfExp ?_)
    | ((with_reducible show wpAny _ _ (eval (Expr.Dict [] [] _) _) _ _ _); rename St _ _ _ _ _ _ _ _ => S0; refine S0.ndict ?_; clear S0; unhygienic intros)
    | ((with_reducible show wpAny _ _ (eval (Expr.Compare _ [_] [_] _) _) _ _ _); refine wpAny_Compare1 ?_)
    | ((with_reducible show wpAny _ _ (eval (Expr.Attribute _ _ _) _) _ _ _); refine Attribute_any_ ?_ (by rfl))
    | ((with_reducible show wpAny _ _ (eval (Expr.JoinedStr (_ :: _ :: _) _) _) _ _ _); refine x_js ?_))
  | ((with_reducible show wpAny _ _ (spliced _) _ _ _); first
    | ((with_reducible show wpAny _ _ (spliced (backTo _ (starEach [] _))) _ _ _); refine wpAny_items_nil ?_)
    | ((with_reducible show wpAny _ _ (spliced (backTo _ (starEach (_ :: _) _))) _ _ _); refine wpAny_items_cons ?_))
  | ((with_reducible show wpAny _ _ (newTuple _) _ _ _); rename St _ _ _ _ _ _ _ _ => S0; refine S0.ntup ?_; clear S0; unhygienic intros)
  | ((with_reducible show wpAny _ _ (newList _) _ _ _); rename St _ _ _ _ _ _ _ _ => S0; refine S0.nlist ?_; clear S0; unhygienic intros)
  | ((with_reducible show wpAny _ _ (storeName _ _ _) _ _ _); rename St _ _ _ _ _ _ _ _ => S0; refine S0.st ?_; clear S0; unhygienic intros)
  | ((with_reducible show wpAny _ _ (execs _ _) _ _ _); first
    | ((with_reducible show wpAny _ _ (execs (Stmt.Assign [Expr.Name _ _] _ _ :: _) _) _ _ _); refine x_assign ?_)
    | ((with_reducible show wpAny _ _ (execs (Stmt.Return (some _) _ :: _) _) _ _ _); refine x_return ?_)
    | ((with_reducible show wpAny _ _ (execs (Stmt.If _ _ _ _ :: _) _) _ _ _); refine x_if ?_)
    | ((with_reducible show wpAny _ _ (execs (Stmt.Expr _ _ :: _) _) _ _ _); refine x_expr ?_)
    | ((with_reducible show wpAny _ _ (execs (Stmt.AugAssign (Expr.Name _ _) _ _ _ :: _) _) _ _ _); refine x_aug ?_)
    | ((with_reducible show wpAny _ _ (execs [] _) _ _ _); refine x_nil ?_; try dsimp only)
    | ((with_reducible show wpAny _ _ (execs (Stmt.Assign [Expr.Subscript _ _ _] _ _ :: _) _) _ _ _); refine x_assign_sub ?_)
    | ((with_reducible show wpAny _ _ (execs (Stmt.For _ _ _ _ _ :: _) _) _ _ _); refine x_for ?_))
  | ((with_reducible show wpAny _ _ (isTrue _ _ _) _ _ _); first
    | ((with_reducible show wpAny _ _ (isTrue (Expr.Call _ _ _ _) _ _) _ _ _); refine wpAny_isTrue_value ?_)
    | ((with_reducible show wpAny _ _ (isTrue (Expr.Name _ _) _ _) _ _ _); refine wpAny_isTrue_value ?_)
    | ((with_reducible show wpAny _ _ (isTrue (Expr.Compare _ [_] [_] _) _ _) _ _ _); refine wpAny_isTrue_Compare1 ?_)
    | ((with_reducible show wpAny _ _ (isTrue (Expr.BoolOp _ _ _) _ _) _ _ _); refine wpAny_isTrue_BoolOp ?_))
  | ((with_reducible show wpAny _ _ (truthy (Value.bool _)) _ _ _); refine wpAny_truthy_bool ?_)
  | ((with_reducible show wpAny _ _ (callWith _ _ _ _ _) _ _ _); first
    | ((with_reducible show wpAny _ _ (callWith _ (Value.type _) _ (backTo _ (starEach (_ :: _) _)) []) _ _ _); refine PyProof.Rows.callWith_type1 ?_)
    | ((with_reducible show wpAny _ _ (callWith _ (Value.builtin _) [] (backTo _ (starEach (_ :: _) _)) []) _ _ _); refine PyProof.Rows.callWith_builtin1 ?_)
    | ((with_reducible show wpAny _ _ (callWith _ (Value.builtin _) (_ :: _) (backTo _ (starEach (_ :: _) _)) []) _ _ _); refine PyProof.Rows.callWith_method1 ?_)
    | ((with_reducible show wpAny _ _ (callWith _ (Value.builtin _) (_ :: _) (backTo _ (starEach [] _)) []) _ _ _); refine PyProof.Rows.callWith_method0 ?_))
  | ((with_reducible show wpAny _ _ (binaryOp _ _ _) _ _ _); first
    | ((with_reducible show wpAny _ _ (binaryOp Operator.Mod (Value.int _ _) (Value.int _ _)) _ _ _); rename St _ _ _ _ _ _ _ _ => S0; refine S0.i1 (fun h => mod_int (by decide) h) ?_; clear S0; unhygienic intros)
    | ((with_reducible show wpAny _ _ (binaryOp Operator.Add (Value.int _ _) (Value.int _ _)) _ _ _); rename St _ _ _ _ _ _ _ _ => S0; refine S0.i1 (fun h => add_int h) ?_; clear S0; unhygienic intros)
    | ((with_reducible show wpAny _ _ (binaryOp Operator.Sub (Value.int _ _) (Value.int _ _)) _ _ _); rename St _ _ _ _ _ _ _ _ => S0; refine S0.i1 (fun h => sub_int h) ?_; clear S0; unhygienic intros)
    | ((with_reducible show wpAny _ _ (binaryOp Operator.FloorDiv (Value.int _ _) (Value.int _ _)) _ _ _); rename St _ _ _ _ _ _ _ _ => S0; refine S0.i1 (fun h => floordiv_int (by decide) h) ?_; clear S0; unhygienic intros))
  | ((with_reducible show wpAny _ _ (allTrue _ _ _) _ _ _); first
    | ((with_reducible show wpAny _ _ (allTrue BoolOp.And (_ :: _) _) _ _ _); refine wpAny_allTrue_And_cons ?_)
    | ((with_reducible show wpAny _ _ (allTrue BoolOp.Or (_ :: _) _) _ _ _); refine wpAny_allTrue_Or_cons ?_)
    | ((with_reducible show wpAny _ _ (allTrue BoolOp.And [] _) _ _ _); refine wpAny_allTrue_And_nil ?_)
    | ((with_reducible show wpAny _ _ (allTrue BoolOp.Or [] _) _ _ _); refine wpAny_allTrue_Or_nil ?_))
  | (refine ite_t1 ?_)
  | (refine ite_f1 ?_))
local macro_rules | `(tactic| walk_at "go") => `(tactic| repeat walk_at "go1")

noncomputable def lawC1 : {l : List Stmt // ∃ a, lawC.1 = a :: l} := ⟨_, _, rfl⟩
noncomputable def lawC2 : {l : List Stmt // ∃ a, lawC1.1 = a :: l} := ⟨_, _, rfl⟩
noncomputable def lawC3 : {l : List Stmt // ∃ a, lawC2.1 = a :: l} := ⟨_, _, rfl⟩
theorem keep171 (w : World) : keepIn (hd.heap_39 w.params) (.ref 171) = true := by k_is
section
variable {w : World} {mg mb : Str → Option Value} {b b' s s' : Shared} {L : Nat} {m : List (Str × Value)} {N : List (Nat × Obj)} {A : Around} {E : Value → Shared → Prop} {env : Env}
/-- a list comprehension's block, behind its source's iterator -/
theorem comp_block2 {elt iter : Expr} {x : Str} {px : Pos} {scope : Scope} {pos : Pos} {cl : List (Str × Addr)} {it : Nat} {fp : List Addr} {n : Nat} {P : Nat → Value → Prop} {T : Nat → Heap → Prop} {F : Nat → Value → Shared → Prop} {RR : Value → Addr → Result → Shared → Prop}
    (W : Walks PR w A it fp [it] n P T) (hfp : it ∈ fp) (ex : ∀ i h', T i h' → ∃ o, h'.get? it = some o) (hx : scope.names.lookup x = some .local) (hkind : scope.kind = .function) (hcell : ∀ y ∈ scope.names, y.2 ≠ .cell)
    (hF : ∀ i y s s', F i y s → Aft s s' → F i y s') (hn : n ≤ 1000000) {oi : Obj}
    (S : St w mg mb b L m ((it, oi) :: N) s) (h0 : T 0 s.heap) (f0 : ∀ a ∈ fp, (a : Nat) = it ∨ ((a : Nat) ≠ 93 ∧ (a : Nat) ≠ 59 ∧ ∃ o, s.heap.get? a = some o))
    (turn : ∀ i v b' C N' s', i < n → P i v → (∀ a o, s.heap.get? a = some o → (a : Nat) ≠ it → (a : Nat) ≠ 93 → (a : Nat) ≠ 59 → b'.heap.get? a = some o) → St w mg mb b' C [(x, v)] N' s' → wpAny (model PR w) A (eval elt (compEnvC scope cl C env)) (fun y s'' => ∃ m'' N₂, St w mg mb b' C m'' (N' ++ N₂) s'' ∧ ∀ b'', Aft b' b'' → (∀ p ∈ N₂, b''.heap.get? p.1 = some p.2) → F i y b'') NoE s')
    (done : ∀ (ys : List Value) k acc C oC (bb : Shared) s', ys.length = n → (∀ i y, ys[i]? = some y → F i y bb) → Keep bb.heap s'.heap → bb.heap.get? C = none → NsObj oC → St w mg mb b L m ((C, oC) :: (acc, lstObj ys.toArray k) :: N) s' → RR (.ref acc) C (.ok .next) s') :
    wpAny (model PR w) A (newList []) (fun acc s₃ => wpAny (model PR w) A (newFunctionEnv scope env.globals cl [] env.qual none .none (some env)) (fun cenv s₄ =>
      codeAny (model PR w) A (.compStart (.ListComp elt [⟨.Name x px, iter, [], 0⟩] scope pos) 0 (.ref it) acc { cenv with scope := relabel scope env }) (RR acc cenv.locals) s₄) NoE s₃) NoE s := by
  refine wpAny_newObj_type ?_ (by size_fits)
  have accNone : ∀ (a : Nat) o, s.heap.get? a = some o → a ≠ s.heap.objs.size := fun a o e => Nat.ne_of_lt (Heap.lt_size e)
  have S₃ := S.pushN (tk := s.toks) ({ cls := .type "list", data := .seq ([] : List Value).toArray } : Obj)
  have k₃ : ∀ (a : Nat) o, s.heap.get? a = some o → (s.heap.push { cls := .type "list", data := .seq ([] : List Value).toArray }).get? a = some o := fun a o e => Heap.get?_push_of_some _ e
  generalize s.heap.push { cls := .type "list", data := .seq ([] : List Value).toArray } = h₃ at S₃ k₃ ⊢
  generalize s.heap.objs.size = acc at S₃ accNone ⊢
  refine wpAny_newFunctionEnv hcell (by intro y hy; simp at hy) (fun h₁ hns hsb => ?_) hkind
  dsimp only at hns hsb ⊢
  have kk : ∀ (a : Nat) o, h₃.get? a = some o → h₁.get? a = some o := fun a o e => (hsb.2 a (Nat.ne_of_lt (Heap.lt_size e))).trans (Heap.get?_push_of_some _ e)
  have S₄ := S₃.kept (h' := h₁) (tk := s.toks + ([] : List (Str × Value)).length) kk
  have hCN : ∀ p ∈ (acc, lstObj #[] 0) :: (it, oi) :: N, p.1 ≠ h₃.objs.size := fun p hp => Nat.ne_of_lt (Heap.lt_size (S₃.nw p hp).1)
  have hCL : h₃.objs.size ≠ L := Nat.ne_of_gt S₃.nsl
  have big : 218 ≤ h₃.objs.size := S₃.ok.big
  have hCb : b.heap.get? h₃.objs.size = none := S₃.none_size (Nat.le_refl _) (by omega) (by omega)
  have old : ∀ (a : Nat) o, s.heap.get? a = some o → a ≠ acc → a ≠ h₃.objs.size ∧ h₁.get? a = some o := fun a o e _ => ⟨Nat.ne_of_lt (Heap.lt_size (k₃ a o e)), kk a o (k₃ a o e)⟩
  generalize h₃.objs.size = C at *
  have pm : ([(it, oi), (acc, lstObj #[] 0)] ++ N).Perm ((acc, lstObj #[] 0) :: (it, oi) :: N) := .swap ..
  have S₅ := S₄.perm pm
  obtain ⟨b₂, SC, up, back⟩ := S₅.lend (mC := []) ⟨_, hns, fun _ _ h => by simp at h⟩ hCb hCL (fun p hp => hCN p (pm.mem_iff.mp hp)) big
  have inb : ∀ (a : Nat) o, s.heap.get? a = some o → a ≠ it → b₂.heap.get? a = some o := fun a o e h => by
    have q := old a o e (accNone a o e)
    refine up a o q.2 q.1 fun p hp e' => ?_
    rcases List.mem_cons.mp hp with rfl | hp
    · exact h e'.symm
    · rcases List.mem_cons.mp hp with rfl | hp
      · exact accNone a o e e'.symm
      · cases hp
  have fb : Feet it fp b₂ := fun a ha => by
    rcases f0 a ha with e | ⟨h1, h2, o, ho⟩
    · exact .inl e
    · by_cases e : (a : Nat) = it
      · exact .inl e
      · exact .inr ⟨h1, h2, o, inb a o ho e⟩
  have T0 : T 0 h₁ := W.frame 0 _ _ h0 fun a ha o ho => (old a o ho (accNone a o ho)).2
  refine comp_walks (F := F) (n := n) W hfp ex hx hkind hF hn SC T0 fb (fun i v b' N' s' hi hP ab S' => ?_) fun ys k m' b' s' hl ab hy S' => ?_
  · refine turn i v b' C N' s' hi hP (fun a o e h1 h2 h3 => ab.keep a o h2 h3 (inb a o e h1)) S'
  · have S6 := back b' [(acc, lstObj ys.toArray k)] m' s' s'.heap S' ab ⟨rfl, fun _ _ => rfl⟩
    obtain ⟨fC, nC, _⟩ := S'.ns
    obtain ⟨oC, hoC, nsC⟩ := nsObj_of nC
    refine done ys k acc C oC b' s' hl hy S'.keep S'.off nsC (S6.add hoC hCb hCL (fun p hp => ?_) big)
    rcases List.mem_append.mp hp with hp | hp
    · exact (S'.nw p hp).2.1
    · exact hCN p (.tail _ (.tail _ hp))
theorem law2b {k : Nat} (R : Rm A (k + 10)) {nl : Nat} {nvs : List Value} {o1 o2 o3 o4 : Obj} {n12 : Int} {t12 : Tok} {Q : Flow → Shared → Prop} (S : St w mg mb b L m ([(L + 1, o1), (L + 2, o2), (L + 3, o3), (L + 4, o4)]) s) (h2 : o2.data = .cell (some (.ref nl))) (h4 : o4.data = .cell none)
    (hnl : b.heap.IsList nl nvs.toArray) (hnl1 : 218 ≤ nl) (hn : nvs[12]? = some (.int n12 t12))
    (h : ∀ (lb kb : Nat) (bvs : List Value) o' s', bvs.length = 2 → (∀ i y, bvs[i]? = some y → y = Value.bool (bw n12 i)) → o'.data = .cell (some (.ref lb)) → St w mg mb b L m ((lb, lstObj bvs.toArray kb) :: [(L + 1, o1), (L + 2, o2), (L + 3, o3), (L + 4, o')]) s' → wpAny (model PR w) A (execs lawC2.1 (lenv L)) Q NoE s') :
    wpAny (model PR w) A (execs lawC1.1 (lenv L)) Q NoE s := by
  refine x_assign ?_
  refine x_comp (cl := [("numbers", L + 2)]) (by rfl) ?_
  walk_at "go"
  rename St _ _ _ _ _ _ _ _ => S
  refine S.crange fun r t2 u2 v2 s2 S => ?_
  refine S.irange (n := 2) (S.get (.head _)) (by omega) fun I s3 S => ?_
  have S := S.drop (N' := (I, rangeIt 0 (2 : Nat)) :: [(L + 1, o1), (L + 2, o2), (L + 3, o3), (L + 4, o4)]) (.cons_cons _ (.cons _ (.refl _)))
  have hc := S.get (p := (L + 2, o2)) (by simp)
  have hc1 := (S.nw (L + 2, o2) (by simp)).2.2.2
  have nd := S.nd
  simp only [List.map_cons, List.nodup_cons, List.mem_cons, not_or] at nd
  have hnI : nl ≠ I := fun e => by
    obtain ⟨on, hon, _⟩ := hnl
    have q := (S.nw _ (.head _)).2.2.1
    rw [← e, hon] at q; cases q
  refine comp_block (F := fun i y _ => y = Value.bool (bw n12 i)) (walksRange R.h I 2) (by simp) (fun i h' ho => ⟨_, ho⟩) (by rfl) rfl (by decide) (fun i y s s' e _ => e) (by omega) S (S.get (.head _)) (fun x hx => .inl (by simpa using hx)) (fun i v b' C N' s' hi hP hup S' => ?_) (fun ys k2 acc C oC s' hys hF nC S' => ?_)
  · obtain ⟨ti, rfl⟩ := hP
    have hcb := hup (L + 2) o2 hc (fun e => nd.1.2.1 e.symm) (hi_ne hc1).1 (hi_ne hc1).2
    have hlb : ∀ {m N s9}, St w mg mb b' C m N s9 → s9.heap.IsList nl nvs.toArray := fun S9 => by
      obtain ⟨on, hon, rn⟩ := hnl
      exact ⟨on, S9.keep _ _ (hi_ne hnl1).1 (hi_ne hnl1).2 (hup nl on (S.keep _ _ (hi_ne hnl1).1 (hi_ne hnl1).2 hon) hnI (hi_ne hnl1).1 (hi_ne hnl1).2), rn⟩
    clear S
    walk_at "go"
    rename St _ _ _ _ _ _ _ _ => S
    refine S.ldcb hcb (by omega) h2 ?_
    walk_at "go"
    rename St _ _ _ _ _ _ _ _ => S
    refine litem (hlb S) (by omega) (by omega) (by simpa using hn) ?_
    walk_at "go"
    rename St _ _ _ _ _ _ _ _ => S
    refine S.i1 (fun h => pow_int_small (by omega) (by omega) (by decide) h) fun t3 s9 S => ?_
    refine S.i1 (fun h => floordiv_int (two_pow_ne _) h (.inl (PyProof.noPylong_small (pow_small i (by omega))))) fun t4 s9 S => ?_
    walk_at "go"
    rename St _ _ _ _ _ _ _ _ => S
    refine P.eq_int ?_
    exact ⟨_, [], by rw [List.append_nil]; exact S, fun _ _ _ => rfl⟩
  · refine post_none S' nC fun s7 S => ?_
    refine S.stc (pre := [(acc, lstObj ys.toArray k2), (L + 1, o1), (L + 2, o2), (L + 3, o3)]) rfl h4 fun o' s8 ho' S => ?_
    exact h acc k2 ys o' s8 hys hF ho' S
theorem St.rebase3 {N₁ N₂ : List (Nat × Obj)} (S : St w mg mb b L m (N₁ ++ N₂) s) {h0 : Heap} (hL : ∃ o, h0.get? L = some o) (hN : ∀ p ∈ N₁, ∃ o, h0.get? p.1 = some o) :
    ∃ b', Aft b b' ∧ Keep (anew h0 s.heap) b'.heap ∧ St w mg mb b' L m N₁ s ∧ (∀ p ∈ N₂, b'.heap.get? p.1 = some p.2) := by
  obtain ⟨b', h1, h2, h3, h4⟩ := S.rebase2
  refine ⟨b', h1, fun x o hx1 hx2 e => h2 x o (anew_out e).1 (fun q => ?_) (fun p hp q => ?_), h3, h4⟩
  · obtain ⟨oL, hoL⟩ := hL
    have := (anew_out e).2
    rw [q, hoL] at this; cases this
  · obtain ⟨op, hop⟩ := hN p hp
    have := (anew_out e).2
    rw [← q, hop] at this; cases this
/-- a column that a call made is the frame's own -/
theorem St.addcol (S : St w mg mb b L m N s) (a : Aft s s') (O : Ok w mg mb s') {y : Value} {nm : Str} {rev : Bool} (hc : ColIn (anew s.heap s'.heap) y nm rev) :
    ∃ N₂, St w mg mb b L m (N ++ N₂) s' ∧ ∀ h : Heap, (∀ p ∈ N₂, h.get? p.1 = some p.2) → ColIn h y nm rev := by
  obtain ⟨x, dx, es, n, c⟩ := hc
  have S' := S.aft a O
  have al : ∀ {z : Nat} {o : Obj}, (anew s.heap s'.heap).get? z = some o → z ≠ L ∧ ∀ p ∈ N, p.1 ≠ z := fun {z o} e => by
    obtain ⟨f, ⟨oL, _, _, hoL, _⟩, _⟩ := S.ns
    refine ⟨fun q => ?_, fun p hp q => ?_⟩
    · have := (anew_out e).2
      rw [q, hoL] at this; cases this
    · have := (anew_out e).2
      rw [← q, S.get hp] at this; cases this
  have hne : x ≠ dx := fun q => by
    have e1 := c.x
    rw [q, c.dx] at e1
    cases e1
  have S1 := S'.add (anew_out c.dx).1 (keep_none S.keep c.hd (anew_out c.dx).2) (al c.dx).1 (al c.dx).2 c.hd
  have S2 := S1.add (anew_out c.x).1 (keep_none S.keep c.hx (anew_out c.x).2) (al c.x).1 (fun p hp => by
    rcases List.mem_cons.mp hp with rfl | hp
    · exact fun q => hne q.symm
    · exact (al c.x).2 p hp) c.hx
  refine ⟨[(x, instObj 171 dx), (dx, PySem.W.dictOf es n)], S2.perm (List.perm_append_comm (l₁ := N) (l₂ := [_, _])), fun h hp => ⟨x, dx, es, n, c.v, c.hx, c.hd, hp (x, instObj 171 dx) (.head _), hp (dx, PySem.W.dictOf es n) (.tail _ (.head _)), c.name, c.typ, c.stat, c.rev⟩⟩
theorem law2c {k : Nat} (R : Rm A (k + 10)) {o1 o2 o3 o4 : Obj} {n11 n12 : Int} {lp lb : Nat} {pvs bvs : List Value} {Q : Flow → Shared → Prop} (S : St w mg mb b L m ([(L + 1, o1), (L + 2, o2), (L + 3, o3), (L + 4, o4)]) s) (h3 : o3.data = .cell (some (.ref lp))) (h4 : o4.data = .cell (some (.ref lb)))
    (hlp : b.heap.IsList lp pvs.toArray) (hlp1 : 218 ≤ lp) (hlb : b.heap.IsList lb bvs.toArray) (hlb1 : 218 ≤ lb) (hpl : pvs.length = (n11.fmod 3).toNat) (hpv : ∀ i y, pvs[i]? = some y → ∃ t, y = Value.int (pk n11 i) t) (hbl : bvs.length = 2) (hbv : ∀ i y, bvs[i]? = some y → y = Value.bool (bw n12 i))
    (h : ∀ (b' : Shared) (lc kc : Nat) (cvs : List Value) s', Aft b b' → 218 ≤ lc → b'.heap.get? lc = some (lstObj cvs.toArray kc) → cvs.length = pvs.length → (∀ i y, cvs[i]? = some y → ColIn b'.heap y (nmAt n11 i).1 (bw n12 i)) → St w mg mb b' L (("columns", .ref lc) :: m) [(L + 1, o1), (L + 2, o2), (L + 3, o3), (L + 4, o4)] s' → wpAny (model PR w) A (execs lawC3.1 (lenv L)) Q NoE s') :
    wpAny (model PR w) A (execs lawC2.1 (lenv L)) Q NoE s := by
  have hp2 : pvs.length ≤ 2 := by
    have := (fmod_range n11 3 (by decide)).2
    omega
  refine x_assign_comp (cl := [("picked", L + 3), ("backward", L + 4)]) (by rfl) ?_
  walk_at "go"
  rename St _ _ _ _ _ _ _ _ => S
  refine S.ldc (c := L + 3) (o := o3) (by simp) h3 ?_
  walk_at "go"
  rename St _ _ _ _ _ _ _ _ => S
  refine S.llen (isList_keep S.keep hlp1 hlp) (by omega) fun tl s2 S => ?_
  walk_at "go"
  rename St _ _ _ _ _ _ _ _ => S
  refine S.crange fun r t2 u2 v2 s2 S => ?_
  refine S.irange (n := pvs.length) (S.get (.head _)) (by omega) fun I s3 S => ?_
  have S := S.drop (N' := (I, rangeIt 0 (pvs.length : Nat)) :: [(L + 1, o1), (L + 2, o2), (L + 3, o3), (L + 4, o4)]) (.cons_cons _ (.cons _ (.refl _)))
  have hc3 := S.get (p := (L + 3, o3)) (by simp)
  have hc31 := (S.nw (L + 3, o3) (by simp)).2.2.2
  have hc4 := S.get (p := (L + 4, o4)) (by simp)
  have hc41 := (S.nw (L + 4, o4) (by simp)).2.2.2
  have nd := S.nd
  have ndI := (List.nodup_cons.mp nd).1
  have hbI : ∀ {z : Nat} {o : Obj}, b.heap.get? z = some o → z ≠ I := fun {z o} e q => by
    have q2 := (S.nw _ (.head _)).2.2.1
    rw [← q, e] at q2; cases q2
  refine comp_block2 (F := fun i y s'' => ColIn (anew (dropH s3.heap [I]) s''.heap) y (nmAt n11 i).1 (bw n12 i)) (walksRange R.h I pvs.length) (by simp) (fun i h' ho => ⟨_, ho⟩) (by rfl) rfl (by decide) (fun i y s s' e a => e.keep (anew_keep a.keep)) (by omega) S (S.get (.head _)) (fun x hx => .inl (by simpa using hx)) (fun i v b' C N' s' hi hP hup S' => ?_) (fun ys k2 acc C oC bb s' hys hF hbk hbC nC S' => ?_)
  · obtain ⟨ti, rfl⟩ := hP
    have hcb3 := hup (L + 3) o3 hc3 (fun e => ndI (by rw [← e]; simp)) (hi_ne hc31).1 (hi_ne hc31).2
    have hcb4 := hup (L + 4) o4 hc4 (fun e => ndI (by rw [← e]; simp)) (hi_ne hc41).1 (hi_ne hc41).2
    have up : ∀ {z : Nat} {vs : Array Value} {m N s9}, 218 ≤ z → b.heap.IsList z vs → St w mg mb b' C m N s9 → s9.heap.IsList z vs := fun {z vs m N s9} hz hl S9 => by
      obtain ⟨on, hon, rn⟩ := hl
      exact ⟨on, S9.keep _ _ (hi_ne hz).1 (hi_ne hz).2 (hup z on (S.keep _ _ (hi_ne hz).1 (hi_ne hz).2 hon) (hbI hon) (hi_ne hz).1 (hi_ne hz).2), rn⟩
    clear S
    obtain ⟨tp, hpi⟩ := hpv i _ (List.getElem?_eq_getElem hi)
    have hpi' : pvs[i]? = some (.int (pk n11 i) tp) := by rw [List.getElem?_eq_getElem hi, hpi]
    have hi2 : i < bvs.length := by omega
    have hbi' : bvs[i]? = some (.bool (bw n12 i)) := by rw [List.getElem?_eq_getElem hi2, hbv i _ (List.getElem?_eq_getElem hi2)]
    have hpr := pk_range n11 i
    obtain ⟨tm, lm, hm1, hm2, hm3, hm4⟩ := tup_names (pk n11 i).toNat (by omega)
    have hmt : ∀ {s9 : Shared}, Ok w mg mb s9 → IsTup s9.heap 178 lm.toArray := fun O9 => ⟨_, O9.kin _ _ (o178.2 w), hm1, _, hm2⟩
    walk_at "go"
    rename St _ _ _ _ _ _ _ _ => S
    refine callWith_K (K := KF w) S.ok.kin (keep171 w) ?_
    walk_at "go"
    rename St _ _ _ _ _ _ _ _ => S
    refine S.ldcb hcb3 (by omega) h3 ?_
    walk_at "go"
    rename St _ _ _ _ _ _ _ _ => S
    refine litem (up hlp1 hlp S) (by omega) (by omega) (by simpa using hpi') ?_
    refine item_tupleT (hmt S.ok) (by omega) (by omega) (j := (pk n11 i).toNat) (by unfold seqIndex?; simp; omega) hm4 ?_
    walk_at "go"
    rename St _ _ _ _ _ _ _ _ => S
    refine S.ldcb hcb4 (by omega) h4 ?_
    walk_at "go"
    rename St _ _ _ _ _ _ _ _ => S
    refine litem (up hlb1 hlb S) (by omega) (by omega) (by simpa using hbi') ?_
    walk_at "go"
    rename St _ _ _ _ _ _ _ _ => S
    refine ⟨S.ok.kin, ?_⟩
    refine spec_col5 S.ok (k := k + 8) R fun x s9 a9 O9 hcol => ?_
    obtain ⟨N₂, S2, hN2⟩ := S.addcol a9 O9 hcol
    refine ⟨_, N₂, S2, fun b'' ab hb => hN2 _ fun p hp => anew_in (hb p hp) ?_⟩
    have q := S2.nw p (List.mem_append.mpr (.inr hp))
    rw [dropH_get]
    split
    · rfl
    · rename_i hn
      cases q2 : s3.heap.get? p.1 with
      | none => rfl
      | some o =>
        have := hup p.1 o q2 (by simpa using hn) (hi_ne q.2.2.2).1 (hi_ne q.2.2.2).2
        rw [q.2.2.1] at this; cases this
  · have al : ∀ {z : Nat} {o : Obj}, s3.heap.get? z = some o → z ≠ I → ∃ o, (dropH s3.heap [I]).get? z = some o := fun {z o} e q => ⟨o, by rw [dropH_get, if_neg (by simpa using q)]; exact e⟩
    have alL : ∃ o, (dropH s3.heap [I]).get? L = some o := by
      obtain ⟨f, ⟨oL, _, _, hoL, _⟩, _⟩ := S.ns
      exact al hoL (fun q => (S.nw _ (.head _)).2.1 q.symm)
    have alN : ∀ p ∈ [(L + 1, o1), (L + 2, o2), (L + 3, o3), (L + 4, o4)], ∃ o, (dropH s3.heap [I]).get? p.1 = some o := fun p hp => al (S.get (.tail _ hp)) fun q => ndI (List.mem_map.mpr ⟨p, hp, q⟩)
    have S6 := S'.perm (N' := ((C, oC) :: [(L + 1, o1), (L + 2, o2), (L + 3, o3), (L + 4, o4)]) ++ [(acc, lstObj ys.toArray k2)]) (.cons _ (List.perm_append_comm (l₂ := [(acc, lstObj ys.toArray k2)])))
    obtain ⟨b', ab, hin, S7, hN⟩ := S6.rebase2
    have hcols : ∀ i y, ys[i]? = some y → ColIn b'.heap y (nmAt n11 i).1 (bw n12 i) := fun i y hy => (hF i y hy).keep fun x o h1 h2 e => by
      have e1 := anew_out e
      refine hin x o (hbk x o h1 h2 e1.1) (fun q => ?_) (fun p hp q => ?_)
      · obtain ⟨oL, hoL⟩ := alL
        rw [q, hoL] at e1; cases e1.2
      · rcases List.mem_cons.mp hp with rfl | hp
        · rw [← q, hbC] at e1; cases e1.1
        · obtain ⟨op, hop⟩ := alN p hp
          rw [← q, hop] at e1; cases e1.2
    have hacc := (S'.nw _ (.tail _ (.head _))).2.2.2
    refine post_some S7 nC fun s8 S8 => ?_
    exact h b' acc k2 ys s8 ab hacc (hN _ (.head _)) hys hcols S8
end
end Mine

namespace Mine
theorem kf_fill_W4 (w : World) : (hd.heap_39 w.params) = (hd.heap_39 w.params) ∧ PySem.Challenge.rw_bq5006_01 = PySem.Challenge.rw_bq5006_01 := by
  k_fill
  exact ⟨rfl, rfl⟩
local macro_rules | `(tactic| walk_at "kis") => `(tactic| (show nsIn (hd.heap_39 _) _ _ = _; k_is))
local macro_rules | `(tactic| walk_at "go1") => `(tactic| first
  | ((with_reducible show wpAny _ _ (eval _ _) _ _ _); first
    | ((with_reducible show wpAny _ _ (eval (Expr.Name _ _) _) _ _ _); rename St _ _ _ _ _ _ _ _ => S0; first | (refine S0.ld (by rfl) ?_) | (refine S0.ok.ldg (by walk_at "kis") ?_) | (refine S0.ok.ldb (by walk_at "kis") (by first | exact bb_len | exact bb_range | exact bb_isinstance | exact bb_dict | exact bb_str | exact bb_list | exact bb_sorted | exact bb_int | exact bb_float | exact bb_bool) ?_))
    | ((with_reducible show wpAny _ _ (eval (Expr.Constant (Const.int _) _ _) _) _ _ _); rename St _ _ _ _ _ _ _ _ => S0; refine S0.cint ?_; clear S0; unhygienic intros)
    | ((with_reducible show wpAny _ _ (eval (Expr.Constant (Const.str _) _ _) _) _ _ _); rename St _ _ _ _ _ _ _ _ => S0; refine S0.cstr ?_; clear S0; unhygienic intros)
    | ((with_reducible show wpAny _ _ (eval (Expr.Constant (Const.bool _) _ _) _) _ _ _); refine wpAny_Constant_bool ?_)
    | ((with_reducible show wpAny _ _ (eval (Expr.Constant (Const.none) _ _) _) _ _ _); refine wpAny_Constant_none ?_)
    | ((with_reducible show wpAny _ _ (eval (Expr.BinOp _ _ _ _) _) _ _ _); refine wpAny_BinOp ?_)
    | ((with_reducible show wpAny _ _ (eval (Expr.Subscript _ _ _) _) _ _ _); refine Subscript_ ?_)
    | ((with_reducible show wpAny _ _ (eval (Expr.Tuple _ _ _) _) _ _ _); refine Tuple_ ?_)
    | ((with_reducible show wpAny _ _ (eval (Expr.List _ _) _) _ _ _); refine List_ ?_)
    | ((with_reducible show wpAny _ _ (eval (Expr.Call (Expr.Attribute _ _ _) _ [] _) _) _ _ _); refine MethodCall_ ?_)
    | ((with_reducible show wpAny _ _ (eval (Expr.Call _ _ [] _) _) _ _ _); refine Call_ ?_)
    | ((with_reducible show wpAny _ _ (eval (Expr.IfExp _ _ _ _) _) _ _ _); refine wpAny_IfExp ?_)
    | ((with_reducible show wpAny _ _ (eval (Expr.Dict [] [] _) _) _ _ _); rename St _ _ _ _ _ _ _ _ => S0; refine S0.ndict ?_; clear S0; unhygienic intros)
    | ((with_reducible show wpAny _ _ (eval (Expr.Compare _ [_] [_] _) _) _ _ _); refine wpAny_Compare1 ?_)
    | ((with_reducible show wpAny _ _ (eval (Expr.Attribute _ _ _) _) _ _ _); refine Attribute_any_ ?_ (by rfl))
    | ((with_reducible show wpAny _ _ (eval (Expr.JoinedStr (_ :: _ :: _) _) _) _ _ _); refine x_js ?_))
  | ((with_reducible show wpAny _ _ (spliced _) _ _ _); first
    | ((with_reducible show wpAny _ _ (spliced (backTo _ (starEach [] _))) _ _ _); refine wpAny_items_nil ?_)
    | ((with_reducible show wpAny _ _ (spliced (backTo _ (starEach (_ :: _) _))) _ _ _); refine wpAny_items_cons ?_))
  | ((with_reducible show wpAny _ _ (newTuple _) _ _ _); rename St _ _ _ _ _ _ _ _ => S0; refine S0.ntup ?_; clear S0; unhygienic intros)
  | ((with_reducible show wpAny _ _ (newList _) _ _ _); rename St _ _ _ _ _ _ _ _ => S0; refine S0.nlist ?_; clear S0; unhygienic intros)
  | ((with_reducible show wpAny _ _ (storeName _ _ _) _ _ _); rename St _ _ _ _ _ _ _ _ => S0; refine S0.st ?_; clear S0; unhygienic intros)
  | ((with_reducible show wpAny _ _ (execs _ _) _ _ _); first
    | ((with_reducible show wpAny _ _ (execs (Stmt.Assign [Expr.Name _ _] _ _ :: _) _) _ _ _); refine x_assign ?_)
    | ((with_reducible show wpAny _ _ (execs (Stmt.Return (some _) _ :: _) _) _ _ _); refine x_return ?_)
    | ((with_reducible show wpAny _ _ (execs (Stmt.If _ _ _ _ :: _) _) _ _ _); refine x_if ?_)
    | ((with_reducible show wpAny _ _ (execs (Stmt.Expr _ _ :: _) _) _ _ _); refine x_expr ?_)
    | ((with_reducible show wpAny _ _ (execs (Stmt.AugAssign (Expr.Name _ _) _ _ _ :: _) _) _ _ _); refine x_aug ?_)
    | ((with_reducible show wpAny _ _ (execs [] _) _ _ _); refine x_nil ?_; try dsimp only)
    | ((with_reducible show wpAny _ _ (execs (Stmt.Assign [Expr.Subscript _ _ _] _ _ :: _) _) _ _ _); refine x_assign_sub ?_)
    | ((with_reducible show wpAny _ _ (execs (Stmt.For _ _ _ _ _ :: _) _) _ _ _); refine x_for ?_))
  | ((with_reducible show wpAny _ _ (isTrue _ _ _) _ _ _); first
    | ((with_reducible show wpAny _ _ (isTrue (Expr.Call _ _ _ _) _ _) _ _ _); refine wpAny_isTrue_value ?_)
    | ((with_reducible show wpAny _ _ (isTrue (Expr.Name _ _) _ _) _ _ _); refine wpAny_isTrue_value ?_)
    | ((with_reducible show wpAny _ _ (isTrue (Expr.Compare _ [_] [_] _) _ _) _ _ _); refine wpAny_isTrue_Compare1 ?_)
    | ((with_reducible show wpAny _ _ (isTrue (Expr.BoolOp _ _ _) _ _) _ _ _); refine wpAny_isTrue_BoolOp ?_))
  | ((with_reducible show wpAny _ _ (truthy (Value.bool _)) _ _ _); refine wpAny_truthy_bool ?_)
  | ((with_reducible show wpAny _ _ (callWith _ _ _ _ _) _ _ _); first
    | ((with_reducible show wpAny _ _ (callWith _ (Value.type _) _ (backTo _ (starEach (_ :: _) _)) []) _ _ _); refine PyProof.Rows.callWith_type1 ?_)
    | ((with_reducible show wpAny _ _ (callWith _ (Value.builtin _) [] (backTo _ (starEach (_ :: _) _)) []) _ _ _); refine PyProof.Rows.callWith_builtin1 ?_)
    | ((with_reducible show wpAny _ _ (callWith _ (Value.builtin _) (_ :: _) (backTo _ (starEach (_ :: _) _)) []) _ _ _); refine PyProof.Rows.callWith_method1 ?_)
    | ((with_reducible show wpAny _ _ (callWith _ (Value.builtin _) (_ :: _) (backTo _ (starEach [] _)) []) _ _ _); refine PyProof.Rows.callWith_method0 ?_))
  | ((with_reducible show wpAny _ _ (binaryOp _ _ _) _ _ _); first
    | ((with_reducible show wpAny _ _ (binaryOp Operator.Mod (Value.int _ _) (Value.int _ _)) _ _ _); rename St _ _ _ _ _ _ _ _ => S0; refine S0.i1 (fun h => mod_int (by decide) h) ?_; clear S0; unhygienic intros)
    | ((with_reducible show wpAny _ _ (binaryOp Operator.Add (Value.int _ _) (Value.int _ _)) _ _ _); rename St _ _ _ _ _ _ _ _ => S0; refine S0.i1 (fun h => add_int h) ?_; clear S0; unhygienic intros)
    | ((with_reducible show wpAny _ _ (binaryOp Operator.Sub (Value.int _ _) (Value.int _ _)) _ _ _); rename St _ _ _ _ _ _ _ _ => S0; refine S0.i1 (fun h => sub_int h) ?_; clear S0; unhygienic intros)
    | ((with_reducible show wpAny _ _ (binaryOp Operator.FloorDiv (Value.int _ _) (Value.int _ _)) _ _ _); rename St _ _ _ _ _ _ _ _ => S0; refine S0.i1 (fun h => floordiv_int (by decide) h) ?_; clear S0; unhygienic intros))
  | ((with_reducible show wpAny _ _ (allTrue _ _ _) _ _ _); first
    | ((with_reducible show wpAny _ _ (allTrue BoolOp.And (_ :: _) _) _ _ _); refine wpAny_allTrue_And_cons ?_)
    | ((with_reducible show wpAny _ _ (allTrue BoolOp.Or (_ :: _) _) _ _ _); refine wpAny_allTrue_Or_cons ?_)
    | ((with_reducible show wpAny _ _ (allTrue BoolOp.And [] _) _ _ _); refine wpAny_allTrue_And_nil ?_)
    | ((with_reducible show wpAny _ _ (allTrue BoolOp.Or [] _) _ _ _); refine wpAny_allTrue_Or_nil ?_))
  | (refine ite_t1 ?_)
  | (refine ite_f1 ?_))
local macro_rules | `(tactic| walk_at "go") => `(tactic| repeat walk_at "go1")

noncomputable def lawE : {l : List Stmt // ∃ a1 a2 a3, lawC3.1 = a1 :: a2 :: a3 :: l} := ⟨_, _, _, _, rfl⟩
noncomputable def lawD2 : {l : List Stmt // ∃ a1 a2, lawC3.1 = a1 :: a2 :: l} := ⟨_, _, _, rfl⟩
def cpOf (n : Int) : Bool := (n.fdiv 4).fmod 2 == 1
section
variable {w : World} {mg mb : Str → Option Value} {b b' s s' : Shared} {L : Nat} {m : List (Str × Value)} {N : List (Nat × Obj)} {A : Around} {E : Value → Shared → Prop} {env : Env}
theorem law3b {k : Nat} (R : Rm A (k + 10)) {o1 o2 o3 o4 : Obj} {n11 n12 : Int} {lt kt lp lb : Nat} {cv lcv llv lrv : Value} {pvs bvs tvs : List Value} {ps : List Str} {Q : Flow → Shared → Prop} (S : St w mg mb b L [("parts", .ref lt), ("compact", cv), ("columns", lcv), ("lines", llv), ("rows", lrv)] ((lt, lstObj tvs.toArray kt) :: [(L + 1, o1), (L + 2, o2), (L + 3, o3), (L + 4, o4)]) s) (h3 : o3.data = .cell (some (.ref lp))) (h4 : o4.data = .cell (some (.ref lb)))
    (hlp : b.heap.IsList lp pvs.toArray) (hlp1 : 218 ≤ lp) (hlb : b.heap.IsList lb bvs.toArray) (hlb1 : 218 ≤ lb) (hpl : pvs.length = (n11.fmod 3).toNat) (hpv : ∀ i y, pvs[i]? = some y → ∃ t, y = Value.int (pk n11 i) t) (hbl : bvs.length = 2) (hbv : ∀ i y, bvs[i]? = some y → y = Value.bool (bw n12 i))
    (hps : All2 StrV tvs ps) (hpsz : ps.length ≤ 2)
    (h : ∀ (kt : Nat) (tvs : List Value) s', All2 StrV tvs (ps ++ clustOf (colsOf n11 n12)) → St w mg mb b L [("parts", .ref lt), ("compact", cv), ("columns", lcv), ("lines", llv), ("rows", lrv)] ((lt, lstObj tvs.toArray kt) :: [(L + 1, o1), (L + 2, o2), (L + 3, o3), (L + 4, o4)]) s' → wpAny (model PR w) A (execs lawE.1 (lenv L)) Q NoE s') :
    wpAny (model PR w) A (execs lawD2.1 (lenv L)) Q NoE s := by
  have hp2 : pvs.length ≤ 2 := by
    have := (fmod_range n11 3 (by decide)).2
    omega
  refine x_if ?_
  walk_at "go"
  rename St _ _ _ _ _ _ _ _ => S
  refine S.ldc (c := L + 3) (o := o3) (by simp) h3 ?_
  walk_at "go"
  rename St _ _ _ _ _ _ _ _ => S
  have hnil : ∀ {m N s9} {z : Nat}, St w mg mb b L m ((z, { cls := .type "list", data := .seq #[] }) :: N) s9 → s9.heap.IsList z #[] := fun S9 => ⟨_, S9.get (.head _), rfl, _, rfl⟩
  by_cases h0 : pvs = []
  · subst h0
    have e0 : colsOf n11 n12 = [] := by
      unfold colsOf
      rw [← hpl]; rfl
    refine SeqAt.RcNeAt.lists (e := fun _ => true) (isList_keep S.keep hlp1 hlp) (hnil S) rfl R.cl (fun j j1 _ => absurd j1 (Nat.not_lt_zero j)) PR w _ _ ?_
    rw [show (!(List.range (([] : List Value).toArray).size).all fun _ => true) = false from rfl]
    iterate 3 walk_at "go1"
    rename St _ _ _ _ _ _ _ _ => S
    exact h kt tvs _ (by rw [e0]; simpa [clustOf] using hps) (S.drop (.cons _ (.refl _)))
  · have hpn : 0 < pvs.length := List.length_pos_iff.mpr h0
    have e1 : colsOf n11 n12 ≠ [] := fun e => by
      have q := congrArg List.length e
      unfold colsOf at q
      rw [List.length_map, List.length_range, ← hpl] at q
      simp at q
      exact h0 q
    refine SeqAt.RcNeAt.lists_lengths (isList_keep S.keep hlp1 hlp) (hnil S) (by simp; exact h0) R.cl PR w _ _ ?_
    iterate 2 walk_at "go1"
    rename St _ _ _ _ _ _ _ _ => S
    have S := S.drop (N' := (lt, lstObj tvs.toArray kt) :: [(L + 1, o1), (L + 2, o2), (L + 3, o3), (L + 4, o4)]) (.cons _ (.refl _))
    refine x_assign_comp (cl := [("picked", L + 3), ("backward", L + 4)]) (by rfl) ?_
    walk_at "go"
    rename St _ _ _ _ _ _ _ _ => S
    refine S.ldc (c := L + 3) (o := o3) (by simp) h3 ?_
    walk_at "go"
    rename St _ _ _ _ _ _ _ _ => S
    refine S.llen (isList_keep S.keep hlp1 hlp) (by omega) fun tl s2 S => ?_
    walk_at "go"
    rename St _ _ _ _ _ _ _ _ => S
    refine S.crange fun r t2 u2 v2 s2 S => ?_
    refine S.irange (n := pvs.length) (S.get (.head _)) (by omega) fun I s3 S => ?_
    have S := S.drop (N' := (I, rangeIt 0 (pvs.length : Nat)) :: (lt, lstObj tvs.toArray kt) :: [(L + 1, o1), (L + 2, o2), (L + 3, o3), (L + 4, o4)]) (.cons_cons _ (.cons _ (.refl _)))
    have hc3 := S.get (p := (L + 3, o3)) (by simp)
    have hc31 := (S.nw (L + 3, o3) (by simp)).2.2.2
    have hc4 := S.get (p := (L + 4, o4)) (by simp)
    have hc41 := (S.nw (L + 4, o4) (by simp)).2.2.2
    have ndI := (List.nodup_cons.mp S.nd).1
    have hbI : ∀ {z : Nat} {o : Obj}, b.heap.get? z = some o → z ≠ I := fun {z o} e q => by
      have q2 := (S.nw _ (.head _)).2.2.1
      rw [← q, e] at q2; cases q2
    refine comp_block (F := fun i y _ => ∃ t, y = Value.str (colText (colAt n11 n12 i)) t) (walksRange R.h I pvs.length) (by simp) (fun i h' ho => ⟨_, ho⟩) (by rfl) rfl (by decide) (fun i y s s' e _ => e) (by omega) S (S.get (.head _)) (fun x hx => .inl (by simpa using hx)) (fun i v b' C N' s' hi hP hup S' => ?_) (fun ys k2 acc C oC s' hys hF nC S' => ?_)
    · obtain ⟨ti, rfl⟩ := hP
      have hcb3 := hup (L + 3) o3 hc3 (fun e => ndI (by rw [← e]; simp)) (hi_ne hc31).1 (hi_ne hc31).2
      have hcb4 := hup (L + 4) o4 hc4 (fun e => ndI (by rw [← e]; simp)) (hi_ne hc41).1 (hi_ne hc41).2
      have up : ∀ {z : Nat} {vs : Array Value} {m N s9}, 218 ≤ z → b.heap.IsList z vs → St w mg mb b' C m N s9 → s9.heap.IsList z vs := fun {z vs m N s9} hz hl S9 => by
        obtain ⟨on, hon, rn⟩ := hl
        exact ⟨on, S9.keep _ _ (hi_ne hz).1 (hi_ne hz).2 (hup z on (S.keep _ _ (hi_ne hz).1 (hi_ne hz).2 hon) (hbI hon) (hi_ne hz).1 (hi_ne hz).2), rn⟩
      clear S
      obtain ⟨tp, hpi⟩ := hpv i _ (List.getElem?_eq_getElem hi)
      have hpi' : pvs[i]? = some (.int (pk n11 i) tp) := by rw [List.getElem?_eq_getElem hi, hpi]
      have hi2 : i < bvs.length := by omega
      have hbi' : bvs[i]? = some (.bool (bw n12 i)) := by rw [List.getElem?_eq_getElem hi2, hbv i _ (List.getElem?_eq_getElem hi2)]
      have hpr := pk_range n11 i
      have hnl := (name_at (pk n11 i).toNat (by omega)).2
      obtain ⟨tm, lm, hm1, hm2, hm3, hm4⟩ := tup_shown (pk n11 i).toNat (by omega)
      have hpnl := pname_len (nameT.getD (pk n11 i).toNat (Str.empty, true)).2 hnl
      have hmt : ∀ {s9 : Shared}, Ok w mg mb s9 → IsTup s9.heap 179 lm.toArray := fun O9 => ⟨_, O9.kin _ _ (o179.2 w), hm1, _, hm2⟩
      walk_at "go"
      rename St _ _ _ _ _ _ _ _ => S
      refine S.ldcb hcb3 (by omega) h3 ?_
      walk_at "go"
      rename St _ _ _ _ _ _ _ _ => S
      refine litem (up hlp1 hlp S) (by omega) (by omega) (by simpa using hpi') ?_
      refine item_tupleT (hmt S.ok) (by omega) (by omega) (j := (pk n11 i).toNat) (by unfold seqIndex?; simp; omega) hm4 ?_
      walk_at "go"
      rename St _ _ _ _ _ _ _ _ => S
      refine wpAny_isTrue_value ?_
      walk_at "go"
      rename St _ _ _ _ _ _ _ _ => S
      refine S.ldcb hcb4 (by omega) h4 ?_
      walk_at "go"
      rename St _ _ _ _ _ _ _ _ => S
      refine litem (up hlb1 hlb S) (by omega) (by omega) (by simpa using hbi') ?_
      walk_at "go"
      rename St _ _ _ _ _ _ _ _ => S
      have l1 : (Str.ofString " DESC").length = 5 := by decide +kernel
      have l2 : (Str.ofString " ASC").length = 4 := by decide +kernel
      cases hbw : bw n12 i
      all_goals
        iterate 2 walk_at "go1"
        rename St _ _ _ _ _ _ _ _ => S
        refine S.sadd (by omega) fun t7 s9 S => ?_
        exact ⟨_, [], by rw [List.append_nil]; exact S, fun _ _ _ => ⟨t7, by unfold colText colAt nmAt; rw [hbw]; rfl⟩⟩
    · have hq : ∀ i y, ys[i]? = some y → ∃ u, y = Value.str (((colsOf n11 n12).map colText).getD i Str.empty) u := fun i y hy => by
        have hi : i < pvs.length := by
          have := (List.getElem?_eq_some_iff.mp hy).1
          omega
        obtain ⟨t, e⟩ := hF i y hy
        refine ⟨t, ?_⟩
        have e3 : ((colsOf n11 n12).map colText)[i]? = some (colText (colAt n11 n12 i)) := by
          unfold colsOf
          rw [List.map_map, List.getElem?_map, List.getElem?_range (by omega)]
          rfl
        rw [List.getD_eq_getElem?_getD, e3]
        exact e
      have hln : ((colsOf n11 n12).map colText).length = pvs.length := by unfold colsOf; simp [hpl]
      have hcl : ∀ y ∈ (colsOf n11 n12).map colText, y.length ≤ 10000 := fun y hy => by
        obtain ⟨c, hc, rfl⟩ := List.mem_map.mp hy
        unfold colsOf at hc
        obtain ⟨i, _, rfl⟩ := List.mem_map.mp hc
        have hpr := pk_range n11 i
        exact Nat.le_trans (colText_len (c := colAt n11 n12 i) (name_at (pk n11 i).toNat (by omega)).2) (by decide)
      obtain ⟨hjo, hjl⟩ := join_small (sep := Str.ofString ", ") hcl (by omega) (by decide +kernel)
      have l1 : (Str.ofString "CLUSTERING ORDER BY (").length = 21 := by decide +kernel
      have l2 : (Str.ofString ")").length = 1 := by decide +kernel
      refine post_some S' nC fun s7 S => ?_
      walk_at "go"
      rename St _ _ _ _ _ _ _ _ => S
      refine getMethod_list_append (S.get (p := (lt, lstObj tvs.toArray kt)) (by simp)) rfl rfl ?_
      walk_at "go"
      rename St _ _ _ _ _ _ _ _ => S
      refine GM.join ?_
      walk_at "go"
      rename St _ _ _ _ _ _ _ _ => S
      refine S.cjoin ⟨_, S.get (.head _), rfl, _, rfl⟩ (all2_of_get (by rw [hys, hln]) hq) hjo fun t4 s9 S => ?_
      refine S.sadd (by omega) fun t5 s10 S => ?_
      walk_at "go"
      rename St _ _ _ _ _ _ _ _ => S
      refine S.sadd (by simp only [strLen_append]; omega) fun t6 s11 S => ?_
      refine wpAny_items_nil ?_
      have htl := hps.length
      refine S.append (pre := [(acc, lstObj ys.toArray k2)]) rfl (fun k3 s12 S => ?_) (Nat.le_trans (by omega : tvs.length ≤ 20) (by decide))
      refine ⟨rfl, x_nil ?_⟩
      refine h k3 _ _ ?_ ((S.drop (.cons _ (.refl _))).locals (lkc (by rfl) (lkc (by rfl) (lkc (by rfl) (lkc (by rfl) (lkc (by rfl) lk0))))))
      refine hps.append ?_
      unfold clustOf
      rw [if_neg e1]
      exact .cons ⟨_, rfl⟩ .nil
theorem law3 {k : Nat} (R : Rm A (k + 10)) {nl lc ll lr : Nat} {nvs : List Value} {o1 o2 o3 o4 : Obj} {n11 n12 : Int} {t12 : Tok} {lp lb : Nat} {pvs bvs : List Value} {Q : Flow → Shared → Prop} (S : St w mg mb b L [("columns", .ref lc), ("lines", .ref ll), ("rows", .ref lr)] ([(L + 1, o1), (L + 2, o2), (L + 3, o3), (L + 4, o4)]) s) (h2 : o2.data = .cell (some (.ref nl))) (h3 : o3.data = .cell (some (.ref lp))) (h4 : o4.data = .cell (some (.ref lb)))
    (hnl : b.heap.IsList nl nvs.toArray) (hnl1 : 218 ≤ nl) (hn : nvs[12]? = some (.int n12 t12))
    (hlp : b.heap.IsList lp pvs.toArray) (hlp1 : 218 ≤ lp) (hlb : b.heap.IsList lb bvs.toArray) (hlb1 : 218 ≤ lb) (hpl : pvs.length = (n11.fmod 3).toNat) (hpv : ∀ i y, pvs[i]? = some y → ∃ t, y = Value.int (pk n11 i) t) (hbl : bvs.length = 2) (hbv : ∀ i y, bvs[i]? = some y → y = Value.bool (bw n12 i))
    (h : ∀ (lt kt : Nat) (tvs : List Value) s', All2 StrV tvs (compOf (cpOf n12) ++ clustOf (colsOf n11 n12)) → St w mg mb b L [("parts", .ref lt), ("compact", .bool (cpOf n12)), ("columns", .ref lc), ("lines", .ref ll), ("rows", .ref lr)] ((lt, lstObj tvs.toArray kt) :: [(L + 1, o1), (L + 2, o2), (L + 3, o3), (L + 4, o4)]) s' → wpAny (model PR w) A (execs lawE.1 (lenv L)) Q NoE s') :
    wpAny (model PR w) A (execs lawC3.1 (lenv L)) Q NoE s := by
  have hp2 : pvs.length ≤ 2 := by
    have := (fmod_range n11 3 (by decide)).2
    omega
  refine x_assign ?_
  walk_at "go"
  rename St _ _ _ _ _ _ _ _ => S
  refine S.ldc (c := L + 2) (o := o2) (by simp) h2 ?_
  walk_at "go"
  rename St _ _ _ _ _ _ _ _ => S
  refine litem (isList_keep S.keep hnl1 hnl) (by omega) (by omega) (by simpa using hn) ?_
  walk_at "go"
  rename St _ _ _ _ _ _ _ _ => S
  refine P.eq_int ?_
  rw [show ((n12.fdiv 4).fmod 2 == 1) = cpOf n12 from rfl]
  walk_at "go"
  rename St _ _ _ _ _ _ _ _ => S
  cases hcp : cpOf n12
  · iterate 5 walk_at "go1"
    rename St _ _ _ _ _ _ _ _ => S
    rw [hcp] at S h
    exact law3b R (kt := 0) (tvs := []) S h3 h4 hlp hlp1 hlb hlb1 hpl hpv hbl hbv (ps := compOf false) .nil (by decide) fun kt tvs s' hv S => h _ kt tvs s' hv S
  · iterate 7 walk_at "go1"
    rename St _ _ _ _ _ _ _ _ => S
    rw [hcp] at S h
    exact law3b R (kt := 0) (tvs := [.str (Str.ofString "COMPACT STORAGE") _]) S h3 h4 hlp hlp1 hlb hlb1 hpl hpv hbl hbv (ps := compOf true) (.cons ⟨_, rfl⟩ .nil) (by decide) fun kt tvs s' hv S => h _ kt tvs s' hv S
end
end Mine

namespace Mine
theorem kf_fill_W5 (w : World) : (hd.heap_39 w.params) = (hd.heap_39 w.params) ∧ PySem.Challenge.rw_bq5006_01 = PySem.Challenge.rw_bq5006_01 := by
  k_fill
  exact ⟨rfl, rfl⟩
local macro_rules | `(tactic| walk_at "kis") => `(tactic| (show nsIn (hd.heap_39 _) _ _ = _; k_is))
local macro_rules | `(tactic| walk_at "go1") => `(tactic| first
  | ((with_reducible show wpAny _ _ (eval _ _) _ _ _); first
    | ((with_reducible show wpAny _ _ (eval (Expr.Name _ _) _) _ _ _); rename St _ _ _ _ _ _ _ _ => S0; first | (refine S0.ld (by rfl) ?_) | (refine S0.ok.ldg (by walk_at "kis") ?_) | (refine S0.ok.ldb (by walk_at "kis") (by first | exact bb_len | exact bb_range | exact bb_isinstance | exact bb_dict | exact bb_str | exact bb_list | exact bb_sorted | exact bb_int | exact bb_float | exact bb_bool) ?_))
    | ((with_reducible show wpAny _ _ (eval (Expr.Constant (Const.int _) _ _) _) _ _ _); rename St _ _ _ _ _ _ _ _ => S0; refine S0.cint ?_; clear S0; unhygienic intros)
    | ((with_reducible show wpAny _ _ (eval (Expr.Constant (Const.str _) _ _) _) _ _ _); rename St _ _ _ _ _ _ _ _ => S0; refine S0.cstr ?_; clear S0; unhygienic intros)
    | ((with_reducible show wpAny _ _ (eval (Expr.Constant (Const.bool _) _ _) _) _ _ _); refine wpAny_Constant_bool ?_)
    | ((with_reducible show wpAny _ _ (eval (Expr.Constant (Const.none) _ _) _) _ _ _); refine wpAny_Constant_none ?_)
    | ((with_reducible show wpAny _ _ (eval (Expr.BinOp _ _ _ _) _) _ _ _); refine wpAny_BinOp ?_)
    | ((with_reducible show wpAny _ _ (eval (Expr.Subscript _ _ _) _) _ _ _); refine Subscript_ ?_)
    | ((with_reducible show wpAny _ _ (eval (Expr.Tuple _ _ _) _) _ _ _); refine Tuple_ ?_)
    | ((with_reducible show wpAny _ _ (eval (Expr.List _ _) _) _ _ _); refine List_ ?_)
    | ((with_reducible show wpAny _ _ (eval (Expr.Call (Expr.Attribute _ _ _) _ [] _) _) _ _ _); refine MethodCall_ ?_)
    | ((with_reducible show wpAny _ _ (eval (Expr.Call _ _ [] _) _) _ _ _); refine Call_ ?_)
    | ((with_reducible show wpAny _ _ (eval (Expr.IfExp _ _ _ _) _) _ _ _); refine wpAny_IfExp ?_)
    | ((with_reducible show wpAny _ _ (eval (Expr.Dict [] [] _) _) _ _ _); rename St _ _ _ _ _ _ _ _ => S0; refine S0.ndict ?_; clear S0; unhygienic intros)
    | ((with_reducible show wpAny _ _ (eval (Expr.Compare _ [_] [_] _) _) _ _ _); refine wpAny_Compare1 ?_)
    | ((with_reducible show wpAny _ _ (eval (Expr.Attribute _ _ _) _) _ _ _); refine Attribute_any_ ?_ (by rfl))
    | ((with_reducible show wpAny _ _ (eval (Expr.JoinedStr (_ :: _ :: _) _) _) _ _ _); refine x_js ?_))
  | ((with_reducible show wpAny _ _ (spliced _) _ _ _); first
    | ((with_reducible show wpAny _ _ (spliced (backTo _ (starEach [] _))) _ _ _); refine wpAny_items_nil ?_)
    | ((with_reducible show wpAny _ _ (spliced (backTo _ (starEach (_ :: _) _))) _ _ _); refine wpAny_items_cons ?_))
  | ((with_reducible show wpAny _ _ (newTuple _) _ _ _); rename St _ _ _ _ _ _ _ _ => S0; refine S0.ntup ?_; clear S0; unhygienic intros)
  | ((with_reducible show wpAny _ _ (newList _) _ _ _); rename St _ _ _ _ _ _ _ _ => S0; refine S0.nlist ?_; clear S0; unhygienic intros)
  | ((with_reducible show wpAny _ _ (storeName _ _ _) _ _ _); rename St _ _ _ _ _ _ _ _ => S0; refine S0.st ?_; clear S0; unhygienic intros)
  | ((with_reducible show wpAny _ _ (execs _ _) _ _ _); first
    | ((with_reducible show wpAny _ _ (execs (Stmt.Assign [Expr.Name _ _] _ _ :: _) _) _ _ _); refine x_assign ?_)
    | ((with_reducible show wpAny _ _ (execs (Stmt.Return (some _) _ :: _) _) _ _ _); refine x_return ?_)
    | ((with_reducible show wpAny _ _ (execs (Stmt.If _ _ _ _ :: _) _) _ _ _); refine x_if ?_)
    | ((with_reducible show wpAny _ _ (execs (Stmt.Expr _ _ :: _) _) _ _ _); refine x_expr ?_)
    | ((with_reducible show wpAny _ _ (execs (Stmt.AugAssign (Expr.Name _ _) _ _ _ :: _) _) _ _ _); refine x_aug ?_)
    | ((with_reducible show wpAny _ _ (execs [] _) _ _ _); refine x_nil ?_; try dsimp only)
    | ((with_reducible show wpAny _ _ (execs (Stmt.Assign [Expr.Subscript _ _ _] _ _ :: _) _) _ _ _); refine x_assign_sub ?_)
    | ((with_reducible show wpAny _ _ (execs (Stmt.For _ _ _ _ _ :: _) _) _ _ _); refine x_for ?_))
  | ((with_reducible show wpAny _ _ (isTrue _ _ _) _ _ _); first
    | ((with_reducible show wpAny _ _ (isTrue (Expr.Call _ _ _ _) _ _) _ _ _); refine wpAny_isTrue_value ?_)
    | ((with_reducible show wpAny _ _ (isTrue (Expr.Name _ _) _ _) _ _ _); refine wpAny_isTrue_value ?_)
    | ((with_reducible show wpAny _ _ (isTrue (Expr.Compare _ [_] [_] _) _ _) _ _ _); refine wpAny_isTrue_Compare1 ?_)
    | ((with_reducible show wpAny _ _ (isTrue (Expr.BoolOp _ _ _) _ _) _ _ _); refine wpAny_isTrue_BoolOp ?_))
  | ((with_reducible show wpAny _ _ (truthy (Value.bool _)) _ _ _); refine wpAny_truthy_bool ?_)
  | ((with_reducible show wpAny _ _ (callWith _ _ _ _ _) _ _ _); first
    | ((with_reducible show wpAny _ _ (callWith _ (Value.type _) _ (backTo _ (starEach (_ :: _) _)) []) _ _ _); refine PyProof.Rows.callWith_type1 ?_)
    | ((with_reducible show wpAny _ _ (callWith _ (Value.builtin _) [] (backTo _ (starEach (_ :: _) _)) []) _ _ _); refine PyProof.Rows.callWith_builtin1 ?_)
    | ((with_reducible show wpAny _ _ (callWith _ (Value.builtin _) (_ :: _) (backTo _ (starEach (_ :: _) _)) []) _ _ _); refine PyProof.Rows.callWith_method1 ?_)
    | ((with_reducible show wpAny _ _ (callWith _ (Value.builtin _) (_ :: _) (backTo _ (starEach [] _)) []) _ _ _); refine PyProof.Rows.callWith_method0 ?_))
  | ((with_reducible show wpAny _ _ (binaryOp _ _ _) _ _ _); first
    | ((with_reducible show wpAny _ _ (binaryOp Operator.Mod (Value.int _ _) (Value.int _ _)) _ _ _); rename St _ _ _ _ _ _ _ _ => S0; refine S0.i1 (fun h => mod_int (by decide) h) ?_; clear S0; unhygienic intros)
    | ((with_reducible show wpAny _ _ (binaryOp Operator.Add (Value.int _ _) (Value.int _ _)) _ _ _); rename St _ _ _ _ _ _ _ _ => S0; refine S0.i1 (fun h => add_int h) ?_; clear S0; unhygienic intros)
    | ((with_reducible show wpAny _ _ (binaryOp Operator.Sub (Value.int _ _) (Value.int _ _)) _ _ _); rename St _ _ _ _ _ _ _ _ => S0; refine S0.i1 (fun h => sub_int h) ?_; clear S0; unhygienic intros)
    | ((with_reducible show wpAny _ _ (binaryOp Operator.FloorDiv (Value.int _ _) (Value.int _ _)) _ _ _); rename St _ _ _ _ _ _ _ _ => S0; refine S0.i1 (fun h => floordiv_int (by decide) h) ?_; clear S0; unhygienic intros))
  | ((with_reducible show wpAny _ _ (allTrue _ _ _) _ _ _); first
    | ((with_reducible show wpAny _ _ (allTrue BoolOp.And (_ :: _) _) _ _ _); refine wpAny_allTrue_And_cons ?_)
    | ((with_reducible show wpAny _ _ (allTrue BoolOp.Or (_ :: _) _) _ _ _); refine wpAny_allTrue_Or_cons ?_)
    | ((with_reducible show wpAny _ _ (allTrue BoolOp.And [] _) _ _ _); refine wpAny_allTrue_And_nil ?_)
    | ((with_reducible show wpAny _ _ (allTrue BoolOp.Or [] _) _ _ _); refine wpAny_allTrue_Or_nil ?_))
  | (refine ite_t1 ?_)
  | (refine ite_f1 ?_))
local macro_rules | `(tactic| walk_at "go") => `(tactic| repeat walk_at "go1")

noncomputable def lawF : {l : List Stmt // ∃ a1, lawE.1 = a1 :: l} := ⟨_, _, rfl⟩
theorem all2_of_idx {α β : Type} {R : α → β → Prop} {l : List α} {l' : List β} (hl : l.length = l'.length) (h : ∀ (i : Nat) a b, l[i]? = some a → l'[i]? = some b → R a b) : All2 R l l' := by
  induction l generalizing l' with
  | nil => cases l' with
    | nil => exact .nil
    | cons => simp at hl
  | cons a l ih => cases l' with
    | nil => simp at hl
    | cons b l' => exact .cons (h 0 a b rfl rfl) (ih (by simpa using hl) fun i x y h1 h2 => h (i + 1) x y h1 h2)
section
variable {w : World} {mg mb : Str → Option Value} {b b' s s' : Shared} {L : Nat} {m : List (Str × Value)} {N : List (Nat × Obj)} {A : Around} {E : Value → Shared → Prop} {env : Env}
theorem cols_in {h : Heap} {n11 n12 : Int} {cvs : List Value} (hl : cvs.length = (n11.fmod 3).toNat) (hc : ∀ i y, cvs[i]? = some y → ColIn h y (nmAt n11 i).1 (bw n12 i)) : All2 (fun v (c : Col) => ColIn h v c.1 c.2.2 ∧ NameIs c.1 c.2.1 ∧ c.1.length ≤ 100) cvs (colsOf n11 n12) ∧ (colsOf n11 n12).length ≤ 4 ∧ ∀ c ∈ colsOf n11 n12, c.1.length ≤ 100 := by
  have hr := fmod_range n11 3 (by decide)
  have nm : ∀ i, NameIs (nmAt n11 i).1 (nmAt n11 i).2 ∧ (nmAt n11 i).1.length ≤ 100 := fun i => by
    have := pk_range n11 i
    exact name_at _ (by omega)
  refine ⟨all2_of_idx (by unfold colsOf; simp [hl]) fun i v c h1 h2 => ?_, by unfold colsOf; simp; omega, fun c hm => ?_⟩
  · unfold colsOf at h2
    rw [List.getElem?_map] at h2
    obtain ⟨j, hj, rfl⟩ := Option.map_eq_some_iff.mp h2
    obtain ⟨hlt, hj⟩ := List.getElem?_eq_some_iff.mp hj
    rw [List.getElem_range] at hj
    subst hj
    exact ⟨hc _ _ h1, nm _⟩
  · unfold colsOf at hm
    obtain ⟨i, _, rfl⟩ := List.mem_map.mp hm
    exact (nm i).2
theorem St.ituple (S : St w mg mb b L m N s) {t : Nat} {items : Array Value} {Q : Value → Shared → Prop} (ht : s.heap.IsTuple t items) (h : ∀ (I : Nat) s', t ≠ I → St w mg mb b L m ((I, { cls := .type "tuple_iterator", data := .fields #[.ref t, .int 0 0] }) :: N) s' → Q (.ref I) s') : wpAny (model PR w) A (pyIter (.ref t)) Q E s :=
  wpAny_pyIter_tuple ht (h _ _ (Nat.ne_of_lt (let ⟨_, ho, _⟩ := ht; Heap.lt_size ho)) (S.pushN (tk := s.toks) _))
abbrev lawM (lt : Nat) (cp : Bool) (lc ll lr : Nat) : List (Str × Value) := [("parts", .ref lt), ("compact", .bool cp), ("columns", .ref lc), ("lines", .ref ll), ("rows", .ref lr)]
theorem law4 {k : Nat} (R : Rm A (k + 10)) {nl lc ll lr lt kt kl kc : Nat} {nvs rvs lvs tvs cvs : List Value} {rows : List (Str × Val)} {xs : List Str} {cp : Bool} {cols : List Col} {Q : Flow → Shared → Prop} (S : St w mg mb b L (lawM lt cp lc ll lr) ((lt, lstObj tvs.toArray kt) :: N) s)
    (K : LawK w b.heap nl nvs lr rvs rows ll lvs xs kl) (hlc1 : 218 ≤ lc) (hlc : b.heap.get? lc = some (lstObj cvs.toArray kc)) (hcols : All2 (fun v (c : Col) => ColIn b.heap v c.1 c.2.2 ∧ NameIs c.1 c.2.1 ∧ c.1.length ≤ 100) cvs cols) (hcz : cols.length ≤ 4) (hcl : ∀ c ∈ cols, c.1.length ≤ 100) (htv : All2 StrV tvs (compOf cp ++ clustOf cols))
    (h : ∀ (b' : Shared) s', Aft b b' → St w mg mb b' L (lawM lt cp lc ll lr) N s' → wpAny (model PR w) A (execs lawF.1 (lenv L)) Q NoE s') :
    wpAny (model PR w) A (execs lawE.1 (lenv L)) Q NoE s := by
  refine x_for ?_
  walk_at "go"
  rename St _ _ _ _ _ _ _ _ => S
  have hlt1 := (S.nw (lt, lstObj tvs.toArray kt) (by simp)).2.2.2
  have ha1 := (S.nw _ (.head _)).2.2.2
  obtain ⟨b1, ab1, _, S, hN⟩ := (S.perm (N' := N ++ [_, _]) (List.perm_append_comm (l₁ := N) (l₂ := [_, _]))).rebase2
  have gt := hN _ (.head _)
  have gl := hN _ (.tail _ (.head _))
  clear hN
  have K := K.keep ab1.keep
  have hlc := ab1.keep _ _ (hi_ne hlc1).1 (hi_ne hlc1).2 hlc
  have hcols := hcols.mono fun v c q => (⟨q.1.keep ab1.keep, q.2⟩ : ColIn b1.heap v c.1 c.2.2 ∧ NameIs c.1 c.2.1 ∧ c.1.length ≤ 100)
  have ht : ∀ {m N s9}, St w mg mb b1 L m N s9 → s9.heap.IsTuple a #[.bool false, .bool true] := fun S9 => ⟨_, S9.keep _ _ (hi_ne ha1).1 (hi_ne ha1).2 gt, rfl, _, rfl⟩
  refine S.ituple (ht S) fun I s2 hai S => ?_
  refine for_walks (J := fun i b' m' N' => m' = lawM lt cp lc ll lr ∧ N' = N) (Walks.tuple R.h I a hai #[.bool false, .bool true]) (by simp) (fun i h' ho => let ⟨⟨o, e, _⟩, _⟩ := ho; ⟨o, e⟩) (fun v => by rfl) S ⟨⟨_, S.get (.head _), rfl, rfl⟩, ht S⟩ (fun x hx => ?_) ⟨rfl, rfl⟩ ?_ ?_
  · simp only [List.mem_cons, List.not_mem_nil, or_false] at hx
    rcases hx with rfl | rfl
    · exact .inl rfl
    · exact .inr ⟨(hi_ne ha1).1, (hi_ne ha1).2, _, gt⟩
  · rintro i v b' m' N' oi s3 hi hv ab ⟨rfl, rfl⟩ S
    obtain ⟨fm, rfl⟩ : ∃ fm : Bool, v = .bool fm := by
      match i, hi with
      | 0, _ => simp at hv; exact ⟨false, hv.symm⟩
      | 1, _ => simp at hv; exact ⟨true, hv.symm⟩
    clear hv
    have K := K.keep ab.keep
    have hlc := ab.keep _ _ (hi_ne hlc1).1 (hi_ne hlc1).2 hlc
    have glt := ab.keep _ _ (hi_ne hlt1).1 (hi_ne hlt1).2 gl
    have hcols := hcols.mono fun v c q => (⟨q.1.keep ab.keep, q.2⟩ : ColIn b'.heap v c.1 c.2.2 ∧ NameIs c.1 c.2.1 ∧ c.1.length ≤ 100)
    have hxl := lines_ok K.rok
    have pz := parts_ok K.rok K.perm hcl hcz cp fm
    refine PyProof.Rows.assign_Name ?_
    refine S.st fun s4 S => ?_
    refine x_assign ?_
    refine wpAny_mono (E := NoE) (Q := fun v s5 => ∃ t, v = Value.str (sepOf fm) t ∧ St w mg mb b' L ((Str.ofString "formatted", .bool fm) :: lawM lt cp lc ll lr) ((I, oi) :: N') s5) ?_ (fun v s5 ⟨t5, e, S⟩ => ?_) fun _ _ x => x
    · walk_at "go"
      rename St _ _ _ _ _ _ _ _ => S
      cases fm
      all_goals
        walk_at "go"
        rename St _ _ _ _ _ _ _ _ => S
        exact ⟨_, rfl, S⟩
    subst e
    walk_at "go"
    rename St _ _ _ _ _ _ _ _ => S
    refine S.gmcls (fc_ps w) (rc_ps w) fun q s6 S => ?_
    dsimp only
    refine cw_M (self := .ref 104) (fn72 w) ?_
    walk_at "go"
    rename St _ _ _ _ _ _ _ _ => S
    refine S.clist (S.keep _ _ (hi_ne hlc1).1 (hi_ne hlc1).2 hlc) (by have := hcols.length; omega) fun lc2 kc2 s7 S => ?_
    walk_at "go"
    rename St _ _ _ _ _ _ _ _ => S
    refine cw_fn f212.2 (o212.2 w) ?_
    walk_at "go"
    rename St _ _ _ _ _ _ _ _ => S
    refine ⟨S.ok.kin, ?_⟩
    refine spec_fresh S.ok (k := k + 9) R (isList_keep S.keep K.lr1 K.hlr) K.lr1 (K.rin.keep S.keep) K.rok.nd (by have := K.rok.size; omega) fun hd1 s8 kvs a8 O8 hdd hd2 hent hdn => ?_
    have S := S.aft a8 O8
    have hent := hent.keep (anew_to _ _)
    have hlc21 := (S.nw (lc2, lstObj cvs.toArray kc2) (by simp)).2.2.2
    walk_at "go"
    rename St _ _ _ _ _ _ _ _ => S
    refine ⟨⟨S.get (p := (q, methodObj (.ref 72) (.ref 104))) (by simp), S.ok.kin⟩, ?_⟩
    refine spec_psM S.ok (k := k + 5) R (S.get (p := (q, methodObj (.ref 72) (.ref 104))) (by simp)) hdd hd2 hent K.rok (cvs := cvs) (cols := cols) ⟨_, S.get (p := (lc2, lstObj cvs.toArray kc2)) (by simp), rfl, _, rfl⟩ hlc21 (hcols.mono fun v c q => ⟨q.1.keep S.keep, q.2⟩) hcz fun t9 xs2 s9 a9 O9 hp9 hs9 => ?_
    obtain rfl : xs2 = xs := sorted_same (hp9.trans K.perm.symm) hs9 K.sorted
    have S := S.aft a9 O9
    have S := S.drop (N' := (I, oi) :: N') (.cons _ (.cons _ (.refl _)))
    walk_at "go"
    rename St _ _ _ _ _ _ _ _ => S
    refine GM.join ?_
    walk_at "go"
    rename St _ _ _ _ _ _ _ _ => S
    refine S.ladd (S.keep _ _ (hi_ne hlt1).1 (hi_ne hlt1).2 glt) (S.keep _ _ (hi_ne K.ll1).1 (hi_ne K.ll1).2 K.hll) ?_ fun ls s10 S => ?_
    · have q1 := htv.length
      have q2 := K.lin.length
      have q3 := (clust_len hcl hcz).2
      have q4 : (compOf cp).length ≤ 1 := by unfold compOf; split <;> simp
      have q5 := K.perm.length_eq
      rw [List.length_append] at q1
      omega
    walk_at "go"
    rename St _ _ _ _ _ _ _ _ => S
    refine S.cjoin ⟨_, S.get (.head _), rfl, _, rfl⟩ (htv.append K.lin) pz.1 fun t10 s11 S => ?_
    refine P.ne_str ?_
    rw [show ((Txt.join (sepOf fm) (compOf cp ++ clustOf cols ++ xs2)).cps.toList != (Txt.join (sepOf fm) (compOf cp ++ clustOf cols ++ xs2)).cps.toList) = false from bne_self_eq_false _]
    walk_at "go"
    rename St _ _ _ _ _ _ _ _ => S
    exact ⟨b', _, _, .refl _, ⟨rfl, rfl⟩, (S.drop (.cons _ (.refl _))).locals (lkc (by rfl) (lkc (by rfl) (lkc (by rfl) (lkc (by rfl) (lkc (by rfl) lk0)))))⟩
  · rintro b' m' N' s3 ab ⟨rfl, rfl⟩ S
    exact h b' s3 (ab1.trans ab) S
end
end Mine

namespace Mine
theorem kf_fill_W6 (w : World) : (hd.heap_39 w.params) = (hd.heap_39 w.params) ∧ PySem.Challenge.rw_bq5006_01 = PySem.Challenge.rw_bq5006_01 := by
  k_fill
  exact ⟨rfl, rfl⟩
local macro_rules | `(tactic| walk_at "kis") => `(tactic| (show nsIn (hd.heap_39 _) _ _ = _; k_is))
local macro_rules | `(tactic| walk_at "go1") => `(tactic| first
  | ((with_reducible show wpAny _ _ (eval _ _) _ _ _); first
    | ((with_reducible show wpAny _ _ (eval (Expr.Name _ _) _) _ _ _); rename St _ _ _ _ _ _ _ _ => S0; first | (refine S0.ld (by rfl) ?_) | (refine S0.ok.ldg (by walk_at "kis") ?_) | (refine S0.ok.ldb (by walk_at "kis") (by first | exact bb_len | exact bb_range | exact bb_isinstance | exact bb_dict | exact bb_str | exact bb_list | exact bb_sorted | exact bb_int | exact bb_float | exact bb_bool) ?_))
    | ((with_reducible show wpAny _ _ (eval (Expr.Constant (Const.int _) _ _) _) _ _ _); rename St _ _ _ _ _ _ _ _ => S0; refine S0.cint ?_; clear S0; unhygienic intros)
    | ((with_reducible show wpAny _ _ (eval (Expr.Constant (Const.str _) _ _) _) _ _ _); rename St _ _ _ _ _ _ _ _ => S0; refine S0.cstr ?_; clear S0; unhygienic intros)
    | ((with_reducible show wpAny _ _ (eval (Expr.Constant (Const.bool _) _ _) _) _ _ _); refine wpAny_Constant_bool ?_)
    | ((with_reducible show wpAny _ _ (eval (Expr.Constant (Const.none) _ _) _) _ _ _); refine wpAny_Constant_none ?_)
    | ((with_reducible show wpAny _ _ (eval (Expr.BinOp _ _ _ _) _) _ _ _); refine wpAny_BinOp ?_)
    | ((with_reducible show wpAny _ _ (eval (Expr.Subscript _ _ _) _) _ _ _); refine Subscript_ ?_)
    | ((with_reducible show wpAny _ _ (eval (Expr.Tuple _ _ _) _) _ _ _); refine Tuple_ ?_)
    | ((with_reducible show wpAny _ _ (eval (Expr.List _ _) _) _ _ _); refine List_ ?_)
    | ((with_reducible show wpAny _ _ (eval (Expr.Call (Expr.Attribute _ _ _) _ [] _) _) _ _ _); refine MethodCall_ ?_)
    | ((with_reducible show wpAny _ _ (eval (Expr.Call _ _ [] _) _) _ _ _); refine Call_ ?_)
    | ((with_reducible show wpAny _ _ (eval (Expr.IfExp _ _ _ _) _) _ _ _); refine wpAny_IfExp ?_)
    | ((with_reducible show wpAny _ _ (eval (Expr.Dict [] [] _) _) _ _ _); rename St _ _ _ _ _ _ _ _ => S0; refine S0.ndict ?_; clear S0; unhygienic intros)
    | ((with_reducible show wpAny _ _ (eval (Expr.Compare _ [_] [_] _) _) _ _ _); refine wpAny_Compare1 ?_)
    | ((with_reducible show wpAny _ _ (eval (Expr.Attribute _ _ _) _) _ _ _); refine Attribute_any_ ?_ (by rfl))
    | ((with_reducible show wpAny _ _ (eval (Expr.JoinedStr (_ :: _ :: _) _) _) _ _ _); refine x_js ?_))
  | ((with_reducible show wpAny _ _ (spliced _) _ _ _); first
    | ((with_reducible show wpAny _ _ (spliced (backTo _ (starEach [] _))) _ _ _); refine wpAny_items_nil ?_)
    | ((with_reducible show wpAny _ _ (spliced (backTo _ (starEach (_ :: _) _))) _ _ _); refine wpAny_items_cons ?_))
  | ((with_reducible show wpAny _ _ (newTuple _) _ _ _); rename St _ _ _ _ _ _ _ _ => S0; refine S0.ntup ?_; clear S0; unhygienic intros)
  | ((with_reducible show wpAny _ _ (newList _) _ _ _); rename St _ _ _ _ _ _ _ _ => S0; refine S0.nlist ?_; clear S0; unhygienic intros)
  | ((with_reducible show wpAny _ _ (storeName _ _ _) _ _ _); rename St _ _ _ _ _ _ _ _ => S0; refine S0.st ?_; clear S0; unhygienic intros)
  | ((with_reducible show wpAny _ _ (execs _ _) _ _ _); first
    | ((with_reducible show wpAny _ _ (execs (Stmt.Assign [Expr.Name _ _] _ _ :: _) _) _ _ _); refine x_assign ?_)
    | ((with_reducible show wpAny _ _ (execs (Stmt.Return (some _) _ :: _) _) _ _ _); refine x_return ?_)
    | ((with_reducible show wpAny _ _ (execs (Stmt.If _ _ _ _ :: _) _) _ _ _); refine x_if ?_)
    | ((with_reducible show wpAny _ _ (execs (Stmt.Expr _ _ :: _) _) _ _ _); refine x_expr ?_)
    | ((with_reducible show wpAny _ _ (execs (Stmt.AugAssign (Expr.Name _ _) _ _ _ :: _) _) _ _ _); refine x_aug ?_)
    | ((with_reducible show wpAny _ _ (execs [] _) _ _ _); refine x_nil ?_; try dsimp only)
    | ((with_reducible show wpAny _ _ (execs (Stmt.Assign [Expr.Subscript _ _ _] _ _ :: _) _) _ _ _); refine x_assign_sub ?_)
    | ((with_reducible show wpAny _ _ (execs (Stmt.For _ _ _ _ _ :: _) _) _ _ _); refine x_for ?_))
  | ((with_reducible show wpAny _ _ (isTrue _ _ _) _ _ _); first
    | ((with_reducible show wpAny _ _ (isTrue (Expr.Call _ _ _ _) _ _) _ _ _); refine wpAny_isTrue_value ?_)
    | ((with_reducible show wpAny _ _ (isTrue (Expr.Name _ _) _ _) _ _ _); refine wpAny_isTrue_value ?_)
    | ((with_reducible show wpAny _ _ (isTrue (Expr.Compare _ [_] [_] _) _ _) _ _ _); refine wpAny_isTrue_Compare1 ?_)
    | ((with_reducible show wpAny _ _ (isTrue (Expr.BoolOp _ _ _) _ _) _ _ _); refine wpAny_isTrue_BoolOp ?_))
  | ((with_reducible show wpAny _ _ (truthy (Value.bool _)) _ _ _); refine wpAny_truthy_bool ?_)
  | ((with_reducible show wpAny _ _ (callWith _ _ _ _ _) _ _ _); first
    | ((with_reducible show wpAny _ _ (callWith _ (Value.type _) _ (backTo _ (starEach (_ :: _) _)) []) _ _ _); refine PyProof.Rows.callWith_type1 ?_)
    | ((with_reducible show wpAny _ _ (callWith _ (Value.builtin _) [] (backTo _ (starEach (_ :: _) _)) []) _ _ _); refine PyProof.Rows.callWith_builtin1 ?_)
    | ((with_reducible show wpAny _ _ (callWith _ (Value.builtin _) (_ :: _) (backTo _ (starEach (_ :: _) _)) []) _ _ _); refine PyProof.Rows.callWith_method1 ?_)
    | ((with_reducible show wpAny _ _ (callWith _ (Value.builtin _) (_ :: _) (backTo _ (starEach [] _)) []) _ _ _); refine PyProof.Rows.callWith_method0 ?_))
  | ((with_reducible show wpAny _ _ (binaryOp _ _ _) _ _ _); first
    | ((with_reducible show wpAny _ _ (binaryOp Operator.Mod (Value.int _ _) (Value.int _ _)) _ _ _); rename St _ _ _ _ _ _ _ _ => S0; refine S0.i1 (fun h => mod_int (by decide) h) ?_; clear S0; unhygienic intros)
    | ((with_reducible show wpAny _ _ (binaryOp Operator.Add (Value.int _ _) (Value.int _ _)) _ _ _); rename St _ _ _ _ _ _ _ _ => S0; refine S0.i1 (fun h => add_int h) ?_; clear S0; unhygienic intros)
    | ((with_reducible show wpAny _ _ (binaryOp Operator.Sub (Value.int _ _) (Value.int _ _)) _ _ _); rename St _ _ _ _ _ _ _ _ => S0; refine S0.i1 (fun h => sub_int h) ?_; clear S0; unhygienic intros)
    | ((with_reducible show wpAny _ _ (binaryOp Operator.FloorDiv (Value.int _ _) (Value.int _ _)) _ _ _); rename St _ _ _ _ _ _ _ _ => S0; refine S0.i1 (fun h => floordiv_int (by decide) h) ?_; clear S0; unhygienic intros))
  | ((with_reducible show wpAny _ _ (allTrue _ _ _) _ _ _); first
    | ((with_reducible show wpAny _ _ (allTrue BoolOp.And (_ :: _) _) _ _ _); refine wpAny_allTrue_And_cons ?_)
    | ((with_reducible show wpAny _ _ (allTrue BoolOp.Or (_ :: _) _) _ _ _); refine wpAny_allTrue_Or_cons ?_)
    | ((with_reducible show wpAny _ _ (allTrue BoolOp.And [] _) _ _ _); refine wpAny_allTrue_And_nil ?_)
    | ((with_reducible show wpAny _ _ (allTrue BoolOp.Or [] _) _ _ _); refine wpAny_allTrue_Or_nil ?_))
  | (refine ite_t1 ?_)
  | (refine ite_f1 ?_))
local macro_rules | `(tactic| walk_at "go") => `(tactic| repeat walk_at "go1")

theorem keep104 (w : World) : keepIn (hd.heap_39 w.params) (.ref 104) = true := by k_is
theorem keep64 (w : World) : keepIn (hd.heap_39 w.params) (.ref 64) = true := by k_is
theorem a104_cql (w : World) : findIn (hd.heap_39 w.params) (.ref 104) "as_cql_query" = some (some (.ref 64)) := by k_is
theorem ty64 (w : World) : typeIn (hd.heap_39 w.params) (.ref 64) = some (.type "function") := by k_is
section
variable {w : World} {mg mb : Str → Option Value} {b b' s s' : Shared} {L : Nat} {m : List (Str × Value)} {N : List (Nat × Obj)} {A : Around} {E : Value → Shared → Prop} {env : Env}
theorem St.gmcql (S : St w mg mb b L m N s) {x dx : Nat} {es : List DictEntry} {n : Nat} {pl : Sem Bool} {Q : Value × List Value → Shared → Prop} (gx : s.heap.get? x = some (instObj 104 dx)) (gd : s.heap.get? dx = some (PySem.W.dictOf es n)) (hl : getL "as_cql_query" es = some none)
    (h : Q (.ref 64, [.ref x]) s) : wpAny (model PR w) A (getMethod (.ref x) "as_cql_query" pl) Q E s := by
  have I : InstAt s.heap x (instObj 104 dx) 104 (some (PySem.W.dictOf es n)) := ⟨gx, rfl, rfl, gd⟩
  have hg := plainGet_of (k104g w "as_cql_query")
  exact method_fn S.ok.kin I hg.1 hg.2 (a104_cql w) (ty64 w) (by show (lookIn _ _).map _ = _; rw [lookIn_dict, hl]; rfl) h
theorem St.ddisp1 (S : St w mg mb b L m N s) {k1 : Str} {c1 : Nat} {p1 pos : Pos} {e1 : Expr} {Q : Value → Shared → Prop}
    (h : ∀ (d : Nat) s1, St w mg mb b L m ((d, { cls := .type "dict", data := .dict #[] }) :: N) s1 → wpAny (model PR w) A (eval e1 env) (fun v1 s2 => St w mg mb b L m ((d, { cls := .type "dict", data := .dict #[] }) :: N) s2 ∧
      ∀ o s', o.IsDictOf (SK w) [(k1, v1)] → St w mg mb b L m ((d, o) :: N) s' → Q (.ref d) s') E s1) :
    wpAny (model PR w) A (eval (.Dict [some (.Constant (.str k1) c1 p1)] [e1] pos) env) Q E s := by
  refine wpAny_Dict_walk (knd := SK w) (by rfl) rfl (by simp) (by simp) ?_
  have S1 := S.pushN (tk := s.toks) { cls := .type "dict", data := .dict #[] }
  refine pairTrees_cons_walk (wpAny_Constant_str ?_)
  refine wpAny_mono (h s.heap.objs.size _ (S1.tok (tk := s.toks + 1))) (fun v1 s2 ⟨S4, h4⟩ => ?_) fun _ _ x => x
  refine pairTrees_nil_walk ⟨[(k1, v1)], ⟨strKind_is PR w k1 _, rfl, trivial⟩, S4.dictOf (.head _) (isDictOf_nil w), fun h' hd hs => ?_⟩
  rw [merged_nil_of_nodup _ (by simp)] at hd
  obtain ⟨o', ho', hk⟩ := Heap.dictOf_iff.mp hd
  exact h4 o' _ hk (S4.upd' (pre := []) rfl (fun x ob hx hg => (hs.2 x hx).trans hg) ho')
theorem St.fresh (S : St w mg mb b L m N s) {z : Nat} (hn : s.heap.get? z = none) : z ≠ L ∧ ∀ p ∈ N, p.1 ≠ z := by
  obtain ⟨f, ⟨oL, _, _, hoL, _⟩, _⟩ := S.ns
  refine ⟨fun q => ?_, fun p hp q => ?_⟩
  · rw [q, hoL] at hn; cases hn
  · rw [← q, S.get hp] at hn; cases hn
theorem parts_nil {rows : List (Str × Val)} (hr : RowsOk rows) {xs : List Str} (hx : xs.Perm (linesOf rows)) (cp fm : Bool) : JoinOk (sepOf fm) (compOf cp ++ xs) = true ∧ (Txt.join (sepOf fm) (compOf cp ++ xs)).length ≤ 600000 := by
  have q := parts_ok hr hx (cols := []) (by simp) (by simp) cp fm
  rw [show clustOf [] = [] from rfl, List.append_nil] at q
  exact q
theorem cql_f (ps : List Str) : cqlText false ps = Str.ofString "CREATE TABLE k.t (a int PRIMARY KEY) WITH " ++ Txt.join (Str.ofString " AND ") ps := rfl
theorem cql_t (ps : List Str) : cqlText true ps = Str.ofString "CREATE TABLE k.t (\n    a int PRIMARY KEY\n) WITH " ++ Txt.join (Str.ofString "\n    AND ") ps := rfl
theorem law5 {k : Nat} (R : Rm A (k + 10)) {nl lc ll lr lt kl : Nat} {nvs rvs lvs : List Value} {rows : List (Str × Val)} {xs : List Str} {cp : Bool} {Q : Flow → Shared → Prop} (S : St w mg mb b L (lawM lt cp lc ll lr) N s)
    (K : LawK w b.heap nl nvs lr rvs rows ll lvs xs kl) (h : ∀ s', Aft b s' → Ok w mg mb s' → Q (.ret (.bool true)) s') :
    wpAny (model PR w) A (execs lawF.1 (lenv L)) Q NoE s := by
  refine x_assign ?_
  walk_at "go"
  rename St _ _ _ _ _ _ _ _ => S
  refine callWith_K (K := KF w) S.ok.kin (keep171 w) ?_
  walk_at "go"
  rename St _ _ _ _ _ _ _ _ => S
  refine ⟨S.ok.kin, ?_⟩
  refine spec_col3 S.ok (k := k + 8) R fun xc s2 a2 O2 hcol => ?_
  obtain ⟨b1, ab1, kp1, S⟩ := S.called0 a2 O2
  have K := K.keep ab1.keep
  have hcol := hcol.keep kp1
  clear kp1 a2 O2
  walk_at "go"
  rename St _ _ _ _ _ _ _ _ => S
  refine callWith_K (K := KF w) S.ok.kin (keep104 w) ?_
  walk_at "go"
  rename St _ _ _ _ _ _ _ _ => S
  refine S.ddisp1 fun cs s3 S => ?_
  walk_at "go"
  rename St _ _ _ _ _ _ _ _ => S
  refine ⟨S, fun oc s4 hoc S => ?_⟩
  walk_at "go"
  rename St _ _ _ _ _ _ _ _ => S
  refine cw_fn f212.2 (o212.2 w) ?_
  walk_at "go"
  rename St _ _ _ _ _ _ _ _ => S
  refine ⟨S.ok.kin, ?_⟩
  refine spec_fresh S.ok (k := k + 9) R (isList_keep S.keep K.lr1 K.hlr) K.lr1 (K.rin.keep S.keep) K.rok.nd (by have := K.rok.size; omega) fun op s5 kvs a5 O5 hop hop1 hent hopn => ?_
  have hcs1 := (S.nw _ (.head _)).2.2.2
  have hck1 := (S.nw _ (.tail _ (.head _))).2.2.2
  have hpk1 := (S.nw _ (.tail _ (.tail _ (.head _)))).2.2.2
  obtain ⟨b2, ab2, kp2, S, hN⟩ := (S.perm (N' := N ++ [_, _, _]) (List.perm_append_comm (l₁ := N) (l₂ := [_, _, _]))).called a5 O5
  have gcs := hN _ (.head _)
  have gck := hN _ (.tail _ (.head _))
  have gpk := hN _ (.tail _ (.tail _ (.head _)))
  have K := K.keep ab2.keep
  have hcol := hcol.keep ab2.keep
  have hop := dict_new kp2 hop1 hop hopn
  have hent := hent.keep kp2
  clear hN kp2 hopn a5 O5
  walk_at "go"
  rename St _ _ _ _ _ _ _ _ => S
  refine ⟨S.ok.kin, ?_⟩
  refine spec_table S.ok (k := k + 8) R fun x dx es n s6 a6 O6 T hxn hdn hxd hel hic hps hcq => ?_
  have S := ((S.aft a6 O6).add T.dx (keep_none S.keep T.hd hdn) (S.fresh hdn).1 (S.fresh hdn).2 T.hd).add T.x (keep_none S.keep T.hx hxn) (S.fresh hxn).1 (fun p hp => by
    rcases List.mem_cons.mp hp with rfl | hp
    · exact fun q => hxd q.symm
    · exact (S.fresh hxn).2 p hp) T.hx
  walk_at "go"
  rename St _ _ _ _ _ _ _ _ => S
  refine x_assign_attr ?_
  walk_at "go"
  rename St _ _ _ _ _ _ _ _ => S
  refine S.setattr (C := 104) (pre := [(x, _)]) (post := N) (.head _) rfl (k104s w) (k104p w) (t104_is_compact_storage w) (k104h w) hic (Nat.le_trans (len_put _ _ 0 _ .none _ es) (by omega)) fun tk s7 S7 => ?_
  obtain ⟨b3, ab3, _, S, hN⟩ := (S7.perm (N' := N ++ [_, _]) (List.perm_append_comm (l₁ := N) (l₂ := [_, _]))).rebase2
  have gx := hN _ (.head _)
  have gd := hN _ (.tail _ (.head _))
  have K := K.keep ab3.keep
  have hcol := hcol.keep ab3.keep
  have hop := DictOf.keep ab3.keep hop1 hop
  have hent := hent.keep ab3.keep
  have gcs := ab3.keep _ _ (hi_ne hcs1).1 (hi_ne hcs1).2 gcs
  have gck := ab3.keep _ _ (hi_ne hck1).1 (hi_ne hck1).2 gck
  have gpk := ab3.keep _ _ (hi_ne hpk1).1 (hi_ne hpk1).2 gpk
  have abt := (ab1.trans ab2).trans ab3
  have hcp := getL_put (x := Str.ofString "is_compact_storage") (hs := PyData.keyHash w.params (Str.ofString "is_compact_storage")) (t := tk) (v := .bool cp) es
  have ne : ∀ {y : Str}, Str.ofString "is_compact_storage" ≠ y → getL y (putL (Str.ofString "is_compact_storage") (PyData.keyHash w.params (Str.ofString "is_compact_storage")) (.str (Str.ofString "is_compact_storage") tk) (.bool cp) es) = getL y es := fun h => getL_put_ne h
  have hps := (ne (y := Str.ofString "_property_string") (by decide +kernel)).trans hps
  have hcq := (ne (y := Str.ofString "as_cql_query") (by decide +kernel)).trans hcq
  have T : TabObj b3.heap x dx _ _ a a_1 cs op := ⟨T.hx, T.hd, gx, gd, let ⟨t, e⟩ := T.ks; ⟨t, (ne (by decide +kernel)).trans e⟩, let ⟨t, e⟩ := T.name; ⟨t, (ne (by decide +kernel)).trans e⟩,
    (ne (by decide +kernel)).trans T.pk, (ne (by decide +kernel)).trans T.ck, (ne (by decide +kernel)).trans T.cs, (ne (by decide +kernel)).trans T.op, (ne (by decide +kernel)).trans T.vi⟩
  clear hN ne gx gd ab1 ab2 ab3 S7
  generalize putL _ _ _ _ _ = es' at *
  generalize putN _ _ _ = n' at *
  have hxl := lines_ok K.rok
  have qlen : (compOf cp).length ≤ 1 := by unfold compOf; split <;> simp
  refine x_assign ?_
  refine wpAny_BinOp ?_
  refine wpAny_mono (E := NoE) (Q := fun v s5 => ∃ (lt2 kt2 : Nat) (tv2 : List Value), v = Value.ref lt2 ∧ All2 StrV tv2 (compOf cp) ∧ St w mg mb b3 L ((Str.ofString "table", Value.ref x) :: (Str.ofString "key", Value.ref xc) :: lawM lt cp lc ll lr) ((lt2, lstObj tv2.toArray kt2) :: N) s5) ?_ (fun v s8 ⟨lt2, kt2, tv2, e, htv2, S⟩ => ?_) fun _ _ x => x
  · walk_at "go"
    rename St _ _ _ _ _ _ _ _ => S
    cases cp
    · walk_at "go"
      rename St _ _ _ _ _ _ _ _ => S
      exact ⟨_, 0, [], rfl, .nil, S⟩
    · walk_at "go"
      rename St _ _ _ _ _ _ _ _ => S
      exact ⟨_, 0, [_], rfl, .cons ⟨_, rfl⟩ .nil, S⟩
  subst e
  walk_at "go"
  rename St _ _ _ _ _ _ _ _ => S
  refine S.ladd (S.get (.head _)) (S.keep _ _ (hi_ne K.ll1).1 (hi_ne K.ll1).2 K.hll) ?_ fun ls s10 S => ?_
  · have q1 := htv2.length
    have q2 := K.lin.length
    have q5 := K.perm.length_eq
    omega
  have hparts := htv2.append K.lin
  walk_at "go"
  rename St _ _ _ _ _ _ _ _ => S
  have T' := fun {m9 N9 s9} (S9 : St w mg mb b3 L m9 N9 s9) => T.keep S9.keep
  have hj := parts_nil K.rok K.perm cp
  refine S.gmcql (T' S).x (T' S).dx hcq ?_
  dsimp only
  refine callWith_K0 S.ok.kin (keep64 w) ?_
  refine spec_cql S.ok (k := k + 2) R (args := []) (.inr ⟨rfl, rfl⟩) (T' S) hcp hps (DictOf.keep S.keep hop1 hop) hop1 (hent.keep S.keep) K.rok (isList_keep S.keep hpk1 ⟨_, gpk, rfl, _, rfl⟩) hpk1 (isList_keep S.keep hck1 ⟨_, gck, rfl, _, rfl⟩) hck1 (DictOf.keep S.keep hcs1 (Heap.dictOf_iff.mpr ⟨_, gcs, hoc⟩)) hcs1 rfl (hcol.keep S.keep) fun t9 xs2 s9 a9 O9 hp9 hs9 => ?_
  obtain rfl : xs2 = xs := sorted_same (hp9.trans K.perm.symm) hs9 K.sorted
  have S := S.aft a9 O9
  walk_at "go"
  rename St _ _ _ _ _ _ _ _ => S
  refine GM.join ?_
  walk_at "go"
  rename St _ _ _ _ _ _ _ _ => S
  refine S.cjoin ⟨_, S.get (.head _), rfl, _, rfl⟩ hparts (hj false).1 fun t10 s11 S => ?_
  refine S.sadd (Nat.le_trans (Nat.add_le_add (Nat.le_of_ble_eq_true (by decide +kernel) : _ ≤ 100) (hj false).2) (by decide)) fun t11 s12 S => ?_
  refine P.ne_str ?_
  rw [cql_f, bne_self_eq_false]
  walk_at "go"
  rename St _ _ _ _ _ _ _ _ => S
  refine S.gmcql (T' S).x (T' S).dx hcq ?_
  dsimp only
  refine cw_fn f64.2 (o64.2 w) ?_
  walk_at "go"
  rename St _ _ _ _ _ _ _ _ => S
  refine ⟨S.ok.kin, ?_⟩
  refine spec_cql S.ok (k := k + 2) R (fm := true) (.inl rfl) (T' S) hcp hps (DictOf.keep S.keep hop1 hop) hop1 (hent.keep S.keep) K.rok (isList_keep S.keep hpk1 ⟨_, gpk, rfl, _, rfl⟩) hpk1 (isList_keep S.keep hck1 ⟨_, gck, rfl, _, rfl⟩) hck1 (DictOf.keep S.keep hcs1 (Heap.dictOf_iff.mpr ⟨_, gcs, hoc⟩)) hcs1 rfl (hcol.keep S.keep) fun t13 xs3 s13 a13 O13 hp13 hs13 => ?_
  obtain rfl : xs3 = xs2 := sorted_same (hp13.trans K.perm.symm) hs13 K.sorted
  have S := S.aft a13 O13
  walk_at "go"
  rename St _ _ _ _ _ _ _ _ => S
  refine GM.join ?_
  walk_at "go"
  rename St _ _ _ _ _ _ _ _ => S
  refine S.cjoin ⟨_, S.get (.head _), rfl, _, rfl⟩ hparts (hj true).1 fun t14 s14 S => ?_
  refine S.sadd (Nat.le_trans (Nat.add_le_add (Nat.le_of_ble_eq_true (by decide +kernel) : _ ≤ 100) (hj true).2) (by decide)) fun t15 s15 S => ?_
  refine P.eq_str ?_
  rw [cql_t, beq_self_eq_true]
  exact h _ (S.weaken abt).aft0 S.ok
end
end Mine

namespace Mine
section
variable {w : World} {mg mb : Str → Option Value} {b b' s s' : Shared} {L : Nat} {m : List (Str × Value)} {N : List (Nat × Obj)} {A : Around} {E : Value → Shared → Prop} {env : Env}
/-- law comes back with True -/
theorem spec_law (O : Ok w mg mb s) {k : Nat} (R : Rm A (k + 11)) {l : Nat} {vs : List Value} {ns : List Int} {Q : Value → Shared → Prop} (hl : s.heap.IsList l vs.toArray) (hI : IntsAre vs ns) (hz : vs.length ≤ 1000)
    (h : ∀ s', Aft s s' → Ok w mg mb s' → Q (.bool true) s') : wpAny (model PR w) A (call (.ref 217) [.ref l]) Q E s := by
  have hne : l ≠ 93 ∧ l ≠ 59 := by
    obtain ⟨o, ho, hc, _⟩ := hl
    obtain ⟨p1, e1, _⟩ := O.tabs.t93
    obtain ⟨p2, e2, _⟩ := O.tabs.t59
    refine ⟨fun q => ?_, fun q => ?_⟩
    · rw [q, e1] at ho; cases ho; cases hc
    · rw [q, e2] at ho; cases ho; cases hc
  refine O.enterC R (o217.2 w) f217.2 (c217 O.kin) lawA.2 (binds := [("script", .ref l)]) (by rfl) (by rfl) (fun L x hx => by rw [List.mem_singleton] at hx; subst hx; exact .inr ⟨by rfl, by rfl⟩) (by decide) (m := []) (fun L x v h => by simp at h) fun L s₁ cells S CA R => ?_
  obtain ⟨o4, o3, o2, o1, rfl, h4, h3, h2, h1⟩ := CellsAre.four CA
  have S := S.perm (N' := [(L + 1, o1), (L + 2, o2), (L + 3, o3), (L + 4, o4)]) (List.reverse_perm [(L + 1, o1), (L + 2, o2), (L + 3, o3), (L + 4, o4)]).symm
  refine law0 R S h1 h2 hl hne hI hz fun nl kk nvs o2' s2 hn h2 S => ?_
  refine law1 (k := k) R S h2 hn fun b1 lr rvs rows ll lvs xs kl s3 ab1 K S => ?_
  obtain ⟨n11, t11, e11⟩ := hn 11 (by decide)
  obtain ⟨n12, t12, e12⟩ := hn 12 (by decide)
  refine law2a (k := k) R S h2 h3 K.hnl K.nl1 e11 lawC1.2.choose_spec fun lp kp pvs o3' s4 hpl hpv h3 S => ?_
  have hlp1 := (S.nw _ (.head _)).2.2.2
  obtain ⟨b2, ab2, _, S, hN⟩ := (S.perm (N' := [(L + 1, o1), (L + 2, o2'), (L + 3, o3'), (L + 4, o4)] ++ [(lp, lstObj pvs.toArray kp)]) (List.perm_append_comm (l₁ := [(L + 1, o1), (L + 2, o2'), (L + 3, o3'), (L + 4, o4)]) (l₂ := [(lp, lstObj pvs.toArray kp)]))).rebase2
  have K := K.keep ab2.keep
  have glp := hN _ (.head _)
  clear hN
  refine law2b (k := k) R S h2 h4 K.hnl K.nl1 e12 fun lb kb bvs o4' s5 hbl hbv h4 S => ?_
  have hlb1 := (S.nw _ (.head _)).2.2.2
  obtain ⟨b3, ab3, _, S, hN⟩ := (S.perm (N' := [(L + 1, o1), (L + 2, o2'), (L + 3, o3'), (L + 4, o4')] ++ [(lb, lstObj bvs.toArray kb)]) (List.perm_append_comm (l₁ := [(L + 1, o1), (L + 2, o2'), (L + 3, o3'), (L + 4, o4')]) (l₂ := [(lb, lstObj bvs.toArray kb)]))).rebase2
  have K := K.keep ab3.keep
  have glp := ab3.keep _ _ (hi_ne hlp1).1 (hi_ne hlp1).2 glp
  have glb := hN _ (.head _)
  clear hN
  refine law2c (k := k) R S h3 h4 ⟨_, glp, rfl, _, rfl⟩ hlp1 ⟨_, glb, rfl, _, rfl⟩ hlb1 hpl hpv hbl hbv fun b4 lc kc cvs s6 ab4 hlc1 glc hcl hcv S => ?_
  have K := K.keep ab4.keep
  have glp := ab4.keep _ _ (hi_ne hlp1).1 (hi_ne hlp1).2 glp
  have glb := ab4.keep _ _ (hi_ne hlb1).1 (hi_ne hlb1).2 glb
  obtain ⟨hcols, hcz, hcll⟩ := cols_in (hcl.trans hpl) hcv
  refine law3 (k := k) R S h2 h3 h4 K.hnl K.nl1 e12 ⟨_, glp, rfl, _, rfl⟩ hlp1 ⟨_, glb, rfl, _, rfl⟩ hlb1 hpl hpv hbl hbv fun lt kt tvs s7 htv S => ?_
  refine law4 (k := k) R S K hlc1 glc hcols hcz hcll htv fun b5 s8 ab5 S => ?_
  refine law5 (k := k) R S (K.keep ab5.keep) fun s9 a9 O9 => ?_
  exact h s9 (((((ab1.trans ab2).trans ab3).trans ab4).trans ab5).trans a9) O9
end
end Mine

namespace Mine
theorem kf_fillW (w : World) : (hd.heap_39 w.params) = (hd.heap_39 w.params) ∧ PySem.Challenge.rw_bq5006_01 = PySem.Challenge.rw_bq5006_01 := by
  k_fill
  exact ⟨rfl, rfl⟩
theorem g_217 (w : World) : nsIn (hd.heap_39 w.params) mainGlobals "law" = some (some (.ref 217)) := by k_is
/-- the state in which law is called -/
theorem ok_top {p : Program} {loose : List Str} {mean : ExcName → Option Value} {w : World} {mg mb : Str → Option Value} {s : Shared} (X : (KF w).In s.heap) (T : Top p loose mean mg mb s.heap) (H : ∀ t ∈ [59, 93], s.heap.get? t = some { cls := .none, data := .fields #[] }) (g : s.gens = #[]) : Ok w mg mb s where
  kin := X
  g := T.g
  b := T.b
  bi := T.builtins
  nolim := T.nolimit
  nodig := T.nodigits
  tabs := ⟨⟨#[], H 93 (by simp), .inl rfl⟩, ⟨#[], H 59 (by simp), .inl rfl⟩, by
    obtain ⟨bm, ob, h1, _, h3, h4, h5, h6⟩ := T.bmain
    have e := (mg_of X T.g (gB4 w)).symm.trans h1
    injection e with e
    injection e with e
    exact ⟨ob, by rw [e]; exact h3, h4, h5, h6⟩⟩
  bare := .of_eq g
  big := Heap.lt_size (X 217 _ (o217.2 w))
theorem old_k {w : World} {mg mb : Str → Option Value} {s s' : Shared} (O : Ok w mg mb s) (H : ∀ t ∈ [59, 93], s.heap.get? t = some { cls := .none, data := .fields #[] }) (a : Aft s s') (O' : Ok w mg mb s') : OldK s.heap s'.heap := by
  obtain ⟨p1, e1, _⟩ := O'.tabs.t93
  obtain ⟨p2, e2, _⟩ := O'.tabs.t59
  have c1 : isCodeTable s.heap 93 := (isT97 O #[] (H 93 (by simp)) (by first | trivial | simp [TriplesOk])).2.isCodeTable
  have c2 : isCodeTable s.heap 59 := (isT63 O #[] (H 59 (by simp)) (by first | trivial | simp [TriplesOk])).2.isCodeTable
  have key : ∀ b o, s.heap.get? b = some o → asItWas s.heap s'.heap b o := fun b o e => by
    by_cases h1 : b = 93
    · subst h1
      rw [H 93 (by simp)] at e
      cases e
      exact .inr (.inl ⟨c1, rfl, #[], p1, rfl, by rw [e1, Array.empty_append]; rfl⟩)
    · by_cases h2 : b = 59
      · subst h2
        rw [H 59 (by simp)] at e
        cases e
        exact .inr (.inl ⟨c2, rfl, #[], p2, rfl, by rw [e2, Array.empty_append]; rfl⟩)
      · exact .inl (a.keep b o h1 h2 e)
  refine ⟨key, fun b o e => ?_⟩
  by_cases h1 : b = 93
  · exact ⟨_, by rw [h1]; exact e1⟩
  · by_cases h2 : b = 59
    · exact ⟨_, by rw [h2]; exact e2⟩
    · exact ⟨o, a.keep b o h1 h2 e⟩
end Mine
set_option maxHeartbeats 8000000 in
theorem PySem.Challenge.cw_bq5006_01_holds : PySem.Challenge.rw_bq5006_01.Holds := by
  refine Mine.hd ?_
  intro w s₀ s₁ mg mb G Y fa o pm cd doc dV kV ho hd' hcd hD hmg hg args vals as hpre hlay hrd hwl hlo
  have KX := kIn_of Y.1
  have T0 := Y.2
  refine Ground.open G ?_
  intro T B D TE TW
  wrow_args hpre hlay hrd hwl hlo
  rename Heap.IsList _ _ _ => hL
  rename IntsAre _ _ => hI
  rename ¬ _ < _ => hz
  have O := Mine.ok_top KX T T0 hg
  have e := hmg.symm.trans (mg_of KX T.g (Mine.g_217 w))
  injection e with e
  injection e with e
  subst e
  refine Mine.spec_law (k := 0) O ⟨rfl, by decide, by decide⟩ hL hI (by have := hI.length; omega) fun s' a O' => ?_
  refine ⟨.inl ⟨.bool true, .bool true, [], rfl, raisesW_false (by wrow_none_raised), .bool true, by wrow_post, fun _ => ⟨.nil, fun _ h => nomatch h⟩⟩, Mine.old_k O T0 a O', a.os, O'.bare⟩
