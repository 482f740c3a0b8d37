import PyProof.Rows.All
import Wide.All
import OpenK.AllK
import Wide.FinOn
import PySem.Challenge.RW_dp0041_01
open PySem PySem.W PyProof.Rows PySem.Calls PySem.Spec
set_option Elab.async false
set_option maxRecDepth 100000
set_option linter.unusedVariables false
set_option linter.unusedSimpArgs false
namespace Mine
set_option maxHeartbeats 8000000 in
open_top hd for PySem.Challenge.rw_dp0041_01
end Mine
namespace Mine
section
abbrev PR : Program := PySem.Challenge.rw_dp0041_01.row.prog
abbrev TopB (mean : ExcName → Option Value) (mg mb : Str → Option Value) (b : Heap) : Prop :=
  Top topProg (looseW Mine.hd.view_39 [] ++ List.map (fun x => x.name) (recsOf Mine.hd.view_39) ++ List.map (fun x => x.fst) (litsOf Mine.hd.view_39) ++ List.map (fun x => x.name) (clssOf Mine.hd.view_39 (looseW Mine.hd.view_39 []))) mean mg mb b

abbrev lst (vs : List Value) (n : Nat) : Obj := { cls := .type "list", data := .seq vs.toArray n }

def frs (l : List Env) : List Addr := l.filterMap (·.frame)

/-- the part of h that the entry heap h0 knew, less S -/
def cut (h h0 : Heap) (S : List Addr) : Heap :=
  ⟨Array.ofFn (n := h0.objs.size) fun i => if (h0.get? i.1).isSome && !S.contains i.1 then (h.get? i.1).getD { cls := .none, data := .freed } else { cls := .none, data := .freed }, h.life⟩

theorem cut_size (h h0 : Heap) (S : List Addr) : (cut h h0 S).objs.size = h0.objs.size := by simp [cut]

theorem cut_iff {h h0 : Heap} {S : List Addr} {a : Addr} {o : Obj} : (cut h h0 S).get? a = some o ↔ (∃ x, h0.get? a = some x) ∧ a ∉ S ∧ h.get? a = some o := by
  constructor
  · intro e
    rw [Heap.get?_some_iff] at e
    obtain ⟨e, hf⟩ := e
    have hlt : a < h0.objs.size := by
      have := (Array.getElem?_eq_some_iff.mp e).1
      simpa [cut] using this
    simp only [cut, Array.getElem?_ofFn, hlt, dif_pos, Option.some.injEq] at e
    split at e
    · rename_i c
      simp only [Bool.and_eq_true, Bool.not_eq_true'] at c
      refine ⟨Option.isSome_iff_exists.mp c.1, by simpa using c.2, ?_⟩
      cases q : h.get? a with
      | none => rw [q] at e; simp only [Option.getD_none] at e; subst e; simp [Obj.isFreed] at hf
      | some o' => rw [q] at e; simp only [Option.getD_some] at e; rw [e]
    · subst e; simp [Obj.isFreed] at hf
  · rintro ⟨⟨x, hx⟩, hS, ho⟩
    have hlt := Heap.lt_size hx
    refine Heap.get?_some_iff.mpr ⟨?_, (Heap.get?_some_iff.mp ho).2⟩
    simp only [cut, Array.getElem?_ofFn, hlt, dif_pos, hx, ho, Option.isSome_some, Option.getD_some, Bool.true_and]
    rw [if_pos (by simpa using hS)]

structure Rel (fs S : List Addr) (h h' : Heap) : Prop where
  same : ∀ a o, h.get? a = some o → a ∉ S → a ∉ fs → h'.get? a = some o
  fr : ∀ a o, h.get? a = some o → a ∈ fs → ∃ sl, h'.get? a = some { o with slots := sl }

theorem Rel.refl (fs S : List Addr) (h : Heap) : Rel fs S h h := ⟨fun _ _ e _ _ => e, fun _ o e _ => ⟨o.slots, e⟩⟩
theorem Rel.of_stays {fs S : List Addr} {h h' : Heap} (k : h.StaysIn h') : Rel fs S h h' := ⟨fun _ _ e _ _ => k _ _ e, fun _ o e _ => ⟨o.slots, k _ _ e⟩⟩
theorem Rel.mono {fs S S' : List Addr} {h h' : Heap} (x : Rel fs S h h') (k : ∀ a ∈ S, a ∈ S') : Rel fs S' h h' :=
  ⟨fun a o e n m => x.same a o e (fun q => n (k a q)) m, x.fr⟩

theorem Rel.there {fs : List Addr} {l : Addr} {h h' : Heap} {o : Obj} (R : Rel fs [l] h h') (hl : h'.get? l = some o) {a : Addr} {x : Obj} (q : h.get? a = some x) : ∃ y, h'.get? a = some y := by
  by_cases ha : a ∈ fs
  · obtain ⟨sl, hsl⟩ := R.fr a x q ha; exact ⟨_, hsl⟩
  · by_cases hal : a = l
    · exact ⟨o, by rw [hal]; exact hl⟩
    · exact ⟨x, R.same a x q (by simpa using hal) ha⟩
theorem Rel.fresh {fs : List Addr} {l : Addr} {h h' : Heap} {o : Obj} (R : Rel fs [l] h h') (hl : h'.get? l = some o) {a : Addr} (q : h'.get? a = none) : h.get? a = none := by
  cases e : h.get? a with
  | none => rfl
  | some x => obtain ⟨y, hy⟩ := R.there hl e; rw [q] at hy; cases hy

/-- frames carried from heap to heap -/
theorem funFrames_to {h h' b : Heap} : ∀ {l : List Env}, h.FunFrames b l → (∀ a ∈ frs l, ∀ o, h.get? a = some o → ∃ sl, h'.get? a = some { o with slots := sl }) → h'.FunFrames b l
  | [], _, _ => trivial
  | env :: rest, ⟨hk, ⟨L, o, hf, hn, ho, hd⟩, hr⟩, k => by
    obtain ⟨sl, hs⟩ := k L (List.mem_filterMap.mpr ⟨env, .head _, hf⟩) o ho
    exact ⟨hk, ⟨L, _, hf, hn, hs, hd⟩, funFrames_to hr fun a ha => k a (by
      obtain ⟨e, he, hfe⟩ := List.mem_filterMap.mp ha
      exact List.mem_filterMap.mpr ⟨e, .tail _ he, hfe⟩)⟩

structure Cx (w : World) (mean : ExcName → Option Value) (mg mb : Str → Option Value) (b : Heap) (A : Around) (envs : List Env) (k : Nat) (h : Heap) : Prop where
  X : (Mine.hd.heap_39 w.params).In b
  T : TopB mean mg mb b
  fr : A.frames = some envs
  hd : A.handled = none
  dp : A.depth + k < recursionLimit
  un : A.units + 10 * k + 100 < cLine
  hb : b.StaysIn h
  ff : h.FunFrames b envs

structure Body (w : World) (mean : ExcName → Option Value) (mg mb : Str → Option Value) (b : Heap) (A : Around) (env : Env) (envs : List Env) (k : Nat) (L : Addr) (S : List Addr) (h0 hr : Heap) : Prop where
  C : Cx w mean mg mb b A (env :: envs) k hr
  envF : env.frame = some L
  b0 : b.StaysIn h0
  f0 : ∀ a ∈ frs envs, ∃ o, h0.get? a = some o
  hS : ∀ a ∈ S, a ∉ frs envs ∧ b.get? a = none
  R : Rel (frs envs) S h0 hr
  h0L : h0.objs.size ≤ L

section
variable {w : World} {mean : ExcName → Option Value} {mg mb : Str → Option Value} {b : Heap} {A : Around} {env : Env} {envs : List Env} {k : Nat} {L : Addr} {S : List Addr} {h0 hr h : Heap} {m : Str → Option Value}

theorem frs_cons {env : Env} {envs : List Env} {L : Addr} (hf : env.frame = some L) : frs (env :: envs) = L :: frs envs := by
  simp [frs, List.filterMap_cons, hf]

theorem Body.stays (B : Body w mean mg mb b A env envs k L S h0 hr) : b.StaysIn (cut hr h0 S) := fun a o e =>
  cut_iff.mpr ⟨⟨o, B.b0 a o e⟩, (fun q => by rw [(B.hS a q).2] at e; cases e), B.C.hb a o e⟩
theorem Body.X (B : Body w mean mg mb b A env envs k L S h0 hr) : (Mine.hd.heap_39 w.params).In (cut hr h0 S) := B.C.X.keeps B.stays
theorem Body.T (B : Body w mean mg mb b A env envs k L S h0 hr) : TopB mean mg mb (cut hr h0 S) := B.C.T.keeps B.stays

theorem Body.noL (B : Body w mean mg mb b A env envs k L S h0 hr) : h0.get? L = none := Heap.get?_none_of_le B.h0L
theorem Body.notL (B : Body w mean mg mb b A env envs k L S h0 hr) : L ∉ frs envs := fun q => by
  obtain ⟨o, e⟩ := B.f0 L q
  rw [B.noL] at e; cases e

/-- an object of the entry heap, outside S, in the heap now -/
theorem Body.old (B : Body w mean mg mb b A env envs k L S h0 hr) (F : Fr (cut hr h0 S) L h m) {a : Addr} {o : Obj} (e : h0.get? a = some o) (hS : a ∉ S) : ∃ sl, h.get? a = some { o with slots := sl } ∧ (a ∉ frs envs → sl = o.slots) := by
  by_cases q : a ∈ frs envs
  · obtain ⟨sl, hs⟩ := B.R.fr a o e q
    exact ⟨sl, F.keep _ _ (cut_iff.mpr ⟨⟨o, e⟩, hS, hs⟩), fun n => absurd q n⟩
  · exact ⟨o.slots, F.keep _ _ (cut_iff.mpr ⟨⟨o, e⟩, hS, B.R.same a o e hS q⟩), fun _ => rfl⟩

theorem Body.rel (B : Body w mean mg mb b A env envs k L S h0 hr) (F : Fr (cut hr h0 S) L h m) : Rel (frs envs) S h0 h where
  same := fun a o e hS hf => by
    obtain ⟨sl, hs, q⟩ := B.old F e hS
    rw [q hf] at hs; exact hs
  fr := fun a o e hf => by
    obtain ⟨sl, hs, _⟩ := B.old F e fun q => (B.hS a q).1 hf
    exact ⟨sl, hs⟩

theorem Body.ffNow (B : Body w mean mg mb b A env envs k L S h0 hr) (F : Fr (cut hr h0 S) L h m) : h.FunFrames b (env :: envs) := by
  obtain ⟨hk, ⟨L', o, hf, hn, ho, hd⟩, hrest⟩ := B.C.ff
  obtain rfl : L = L' := Option.some.inj (B.envF.symm.trans hf)
  obtain ⟨oL, es, ep, hL, hLd, _⟩ := F.ns
  refine ⟨hk, ⟨L, oL, hf, hn, hL, fun vs q => by rw [hLd] at q; cases q⟩, funFrames_to hrest fun a ha o e => ⟨o.slots, F.keep _ _ (cut_iff.mpr ⟨B.f0 a ha, fun q => (B.hS a q).1 ha, e⟩)⟩⟩

theorem Body.now (B : Body w mean mg mb b A env envs k L S h0 hr) (F : Fr (cut hr h0 S) L h m) : Cx w mean mg mb b A (env :: envs) k h :=
  { B.C with hb := fun a o e => F.keep _ _ (B.stays a o e), ff := B.ffNow F }

theorem Body.rebase (B : Body w mean mg mb b A env envs k L S h0 hr) (F : Fr (cut hr h0 S) L h m) : Body w mean mg mb b A env envs k L S h0 h :=
  { B with C := B.now F, R := B.rel F }
theorem Body.frNow (B : Body w mean mg mb b A env envs k L S h0 hr) (F : Fr (cut hr h0 S) L h m) : Fr (cut h h0 S) L h m :=
  ⟨F.ns, fun _ _ e => (cut_iff.mp e).2.2, by rw [cut_size]; exact B.h0L⟩

theorem ns_slots {h h' : Heap} {a : Addr} {m : Str → Option Value} (hn : h.Ns a m) (k : ∀ o, h.get? a = some o → ∃ sl, h'.get? a = some { o with slots := sl }) : h'.Ns a m := by
  obtain ⟨o, es, ep, ho, hd, r⟩ := hn
  obtain ⟨sl, hs⟩ := k o ho
  exact ⟨_, es, ep, hs, hd, r⟩

theorem Body.hidden (B : Body w mean mg mb b A env envs k L S h0 hr) {a : Addr} (e : (cut hr h0 S).get? a = none) : a ∈ S ∨ h0.get? a = none := by
  by_cases q : a ∈ S
  · exact .inl q
  · refine .inr ?_
    cases h : h0.get? a with
    | none => rfl
    | some o =>
      exfalso
      by_cases hf : a ∈ frs envs
      · obtain ⟨sl, hs⟩ := B.R.fr a o h hf
        rw [cut_iff.mpr ⟨⟨o, h⟩, q, hs⟩] at e; cases e
      · rw [cut_iff.mpr ⟨⟨o, h⟩, q, B.R.same a o h q hf⟩] at e; cases e

theorem hid_cut {h' : Heap} {a : Addr} (x : a ∈ S ∨ h0.get? a = none) : (cut h' h0 S).get? a = none := by
  cases q : (cut h' h0 S).get? a with
  | none => rfl
  | some o =>
    obtain ⟨⟨y, hy⟩, hn, _⟩ := cut_iff.mp q
    rcases x with x | x
    · exact absurd x hn
    · rw [x] at hy; cases hy

theorem Body.relTo (B : Body w mean mg mb b A env envs k L S h0 hr) (F : Fr (cut hr h0 S) L h m) {S' : List Addr} {h' : Heap} (Q : Rel (frs (env :: envs)) S' h h') (hS' : ∀ a ∈ S', (cut hr h0 S).get? a = none) :
    Rel (frs envs) S h0 h' := by
  rw [frs_cons B.envF] at Q
  have nS : ∀ a o, h0.get? a = some o → a ∉ S → a ∉ S' := fun a o e hn q => by
    rcases B.hidden (hS' a q) with x | x
    · exact hn x
    · rw [x] at e; cases e
  refine ⟨fun a o e hn hf => Q.same a o ((B.rel F).same a o e hn hf) (nS a o e hn) ?_, fun a o e hf => ?_⟩
  · intro q
    rcases List.mem_cons.mp q with rfl | q
    · rw [B.noL] at e; cases e
    · exact hf q
  · obtain ⟨sl, hs⟩ := (B.rel F).fr a o e hf
    obtain ⟨sl', hs'⟩ := Q.fr a _ hs (.tail _ hf)
    exact ⟨sl', hs'⟩

theorem Body.after (B : Body w mean mg mb b A env envs k L S h0 hr) (F : Fr (cut hr h0 S) L h m) {S' : List Addr} {h' : Heap} (Q : Rel (frs (env :: envs)) S' h h') (hS' : ∀ a ∈ S', (cut hr h0 S).get? a = none) :
    Body w mean mg mb b A env envs k L S h0 h' ∧ Fr (cut h' h0 S) L h' m := by
  have R' := B.relTo F Q hS'
  rw [frs_cons B.envF] at Q
  have C := B.now F
  have hns : h'.Ns L m := ns_slots F.ns fun o ho => Q.fr L o ho (.head _)
  refine ⟨{ B with C := { C with hb := fun a o e => ?_, ff := ?_ }, R := R' }, ⟨hns, fun _ _ e => (cut_iff.mp e).2.2, by rw [cut_size]; exact B.h0L⟩⟩
  · refine Q.same a o (C.hb a o e) (fun q => ?_) fun q => ?_
    · have := B.stays a o e; rw [hS' a q] at this; cases this
    · have hm : a ∈ frs (env :: envs) := by rw [frs_cons B.envF]; exact q
      rw [(C.ff.mem hm).1] at e; cases e
  · exact funFrames_to C.ff fun a ha o e => Q.fr a o e (by rw [frs_cons B.envF] at ha; exact ha)

theorem Body.newsAfter (B : Body w mean mg mb b A env envs k L S h0 hr) (F : Fr (cut hr h0 S) L h m) {S' : List Addr} {h' : Heap} (Q : Rel (frs (env :: envs)) S' h h') {data : List (Addr × Obj)}
    (N : News (cut hr h0 S) L h data) (hd : ∀ p ∈ data, p.1 ∉ S') : News (cut h' h0 S) L h' data := fun p hp => by
  obtain ⟨h1, h2, h3⟩ := N p hp
  have hid := B.hidden h3
  refine ⟨Q.same _ _ h1 (hd p hp) fun q => ?_, h2, hid_cut hid⟩
  rw [frs_cons B.envF] at q
  rcases List.mem_cons.mp q with e | q
  · exact h2 e
  · rcases hid with x | x
    · exact (B.hS _ x).1 q
    · obtain ⟨o, e⟩ := B.f0 _ q
      rw [x] at e; cases e

theorem Body.newsOne (B : Body w mean mg mb b A env envs k L S h0 hr) (F : Fr (cut hr h0 S) L h m) {h' : Heap} {l : Addr} {o o' : Obj} {data : List (Addr × Obj)}
    (Q : Rel (frs (env :: envs)) [l] h h') (hl : h'.get? l = some o') (N : News (cut hr h0 S) L h ((l, o) :: data)) (hd : ∀ p ∈ data, p.1 ≠ l) : News (cut h' h0 S) L h' ((l, o') :: data) := fun p hp => by
  rcases List.mem_cons.mp hp with rfl | hp
  · obtain ⟨_, h2, h3⟩ := N (l, o) (.head _)
    exact ⟨hl, h2, hid_cut (B.hidden h3)⟩
  · exact B.newsAfter F Q (fun q hq => N q (.tail _ hq)) (fun q hq => by simpa using hd q hq) p hp

theorem Body.newsNow (B : Body w mean mg mb b A env envs k L S h0 hr) {data : List (Addr × Obj)} (N : News (cut hr h0 S) L h data) : News (cut h h0 S) L h data := fun p hp =>
  ⟨(N p hp).1, (N p hp).2.1, hid_cut (B.hidden (N p hp).2.2)⟩

/-- a new object of a callee's -/
theorem Body.newsNew (B : Body w mean mg mb b A env envs k L S h0 hr) (F : Fr (cut hr h0 S) L h m) {h' : Heap} {r : Addr} {o : Obj} (hn : h.get? r = none) (ho : h'.get? r = some o) : h'.get? r = some o ∧ r ≠ L ∧ (cut h' h0 S).get? r = none := by
  refine ⟨ho, fun q => ?_, hid_cut ?_⟩
  · obtain ⟨oL, _, _, hL, _⟩ := F.ns
    rw [← q, hn] at hL; cases hL
  · by_cases q : r ∈ S
    · exact .inl q
    · refine .inr ?_
      cases e : h0.get? r with
      | none => rfl
      | some x =>
        obtain ⟨sl, hs, _⟩ := B.old F e q
        rw [hn] at hs; cases hs
end

/-- entering a def without cells -/
theorem enter {w : World} {mean : ExcName → Option Value} {mg mb : Str → Option Value} {b : Heap} {A : Around} {envs : List Env} {k : Nat} {s : Shared} {Q E : Value → Shared → Prop} {name qual : Str} {params : Arguments} {body : List Stmt} {scope : Scope} {dV kV doc pm cdv ct oc : Value} {an od : Option Addr} {osl : Array (Option Value)} {f : Addr} {vals : List Value} {binds : List (Str × Value)}
    (C : Cx w mean mg mb b A envs (k + 1) s.heap) (S : List Addr) (hS : ∀ a ∈ S, a ∉ frs envs ∧ b.get? a = none)
    (ho : (Mine.hd.heap_39 w.params).lookup f = some ⟨oc, od, .func (fnOf name qual params body scope dV kV doc pm an cdv ct), osl⟩) (hcd : codeIn (Mine.hd.heap_39 w.params) cdv qual = true)
    (hbind : BindsTo s (fnOf name qual params body scope dV kV doc pm an cdv ct) ⟨vals, []⟩ binds) (hloc : ∀ y ∈ binds, scope.names.lookup y.1 = some .local)
    (hco : scope.isCoroutine = false) (hgen : scope.isGenerator = false) (hk : scope.kind = .function)
    (hcell : ∀ x ∈ scope.names, x.2 ≠ .cell)
    (h : ∀ L h₁, L = s.heap.objs.size → s.heap.StaysIn h₁ → Body w mean mg mb b (A.deeper (envOf qual scope L f cdv)) (envOf qual scope L f cdv) envs k L S s.heap h₁ →
      Fr (cut h₁ s.heap S) L h₁ (fun y => binds.reverse.lookup y) → (Mine.hd.heap_39 w.params).In (cut h₁ s.heap S) → TopB mean mg mb (cut h₁ s.heap S) →
      wpAny (model PR w) (A.deeper (envOf qual scope L f cdv)) (execs body (envOf qual scope L f cdv))
        (fun fl s' => Q (match fl with | .ret v => v | _ => .none) s')
        (fun e s' => wpAny (model PR w) (A.deeper (envOf qual scope L f cdv)) (leaving (envOf qual scope L f cdv) e) (fun _ s'' => E e s'') E s')
        { s with heap := h₁, toks := s.toks + binds.length }) : wpAny (model PR w) A (call (.ref f) vals) Q E s := by
  have X' := C.X.keeps C.hb
  refine wpAny_call (codeAny_call_def (fd := fnOf name qual params body scope dV kV doc pm an cdv ct) (body := body) (binds := binds) (by have := C.dp; omega) (X' _ _ ho) rfl (C.T.nolimit.keeps C.hb) (codeRec_of X' hcd) rfl hbind hcell hloc (fun h₁ hns hk₁ => ?_) hco hgen hk)
  have nb : b.get? s.heap.objs.size = none := by
    cases q : b.get? s.heap.objs.size with
    | none => rfl
    | some o => exact absurd (Heap.lt_size (C.hb _ _ q)) (Nat.lt_irrefl _)
  have hff : h₁.FunFrames b (envOf qual scope s.heap.objs.size f cdv :: envs) := by
    obtain ⟨oL, es, ep, hL, hLd, _⟩ := hns
    exact ⟨by show scope.kind ≠ .module; rw [hk]; decide, ⟨_, oL, rfl, nb, hL, fun vs q => by rw [hLd] at q; cases q⟩, funFrames_to C.ff fun a _ o e => ⟨o.slots, hk₁ _ _ e⟩⟩
  have B : Body w mean mg mb b (A.deeper (envOf qual scope s.heap.objs.size f cdv)) (envOf qual scope s.heap.objs.size f cdv) envs k s.heap.objs.size S s.heap h₁ :=
    { C := { X := C.X, T := C.T, fr := Around.frames_deeper C.fr, hd := C.hd, dp := by have := C.dp; show A.depth + 1 + k < _; omega, un := by have := C.un; show A.units + 3 + 10 * k + 100 < _; omega, hb := fun a o e => hk₁ _ _ (C.hb _ _ e), ff := hff }
      envF := rfl, b0 := C.hb, f0 := fun a ha => let ⟨_, o, ho, _⟩ := C.ff.mem ha; ⟨o, ho⟩, hS := hS, R := Rel.of_stays fun _ _ e => hk₁ _ _ e, h0L := Nat.le_refl _ }
  exact h _ h₁ rfl (fun _ _ e => hk₁ _ _ e) B ⟨hns, fun _ _ e => (cut_iff.mp e).2.2, by rw [cut_size]; exact Nat.le_refl _⟩ B.X B.T
end
section
section
variable {M : Model} {A : Around} {E : Value → Shared → Prop} {s : Shared}

theorem note_made {base h : Heap} {env : Env} {outer : List Env} {L e : Addr} {cls : Value} {args : List Value} {Q : Unit → Shared → Prop}
    (hfr : A.frames = some (env :: outer)) (hf : env.frame = some L) (hkb : base.StaysIn h) (hl : h.FunFrames base (env :: outer)) (hx : Heap.MadeExcOf h s.heap e cls args)
    (hQ : ∀ h' t, Heap.HeldW base (env :: outer) e cls (.ref t) L h' → h'.TupAt t args → h.get? t = none → s.heap.UpToSlots h' → Q () { s with heap := h' }) : wpAny M A (noteFrame (.ref e) env) Q E s := by
  obtain ⟨t, he, htn, ht⟩ := hx.there
  have fresh : ∀ b, h.get? b = none → base.get? b = none := fun b hb => by
    cases hq : base.get? b with
    | none => rfl
    | some o' => have := hkb b o' hq; rw [hb] at this; cases this
  unfold noteFrame
  simp only [hf]
  refine wpAny_bind (wpAny_field he rfl (x := Value.none) rfl ?_)
  rw [if_neg (by decide)]
  refine wpAny_entryW (a0 := .ref t) hfr (hl.of_keeps fun b o hb _ => ⟨o, hx.keeps b o hb, rfl⟩) hf he (fun b o hb => hx.keeps b o (hkb b o hb)) (fresh e hx.new) rfl (by simp) rfl fun h' hN => ?_
  obtain ⟨k1, k2, k3, k4⟩ := hN
  exact hQ h' t ⟨k1, fresh e hx.new, k2, k3⟩ (Heap.TupAt.of_slots ⟨_, _, ht, rfl, rfl⟩ k4) htn k4

theorem cameBack_held {base : Heap} {l : List Env} {env : Env} {L e : Addr} {cls a0 : Value} (hf : env.frame = some L) (hh : Heap.HeldW base l e cls a0 L s.heap)
    (hQ : ∀ h', Heap.HeldW base l e cls a0 L h' → s.heap.UpToSlots h' → E (.ref e) { s with heap := h' }) : cameBackBy M A env E (.ref e) s := by
  obtain ⟨f1, f2, f3, f4⟩ := hh
  obtain ⟨oe, vs, T, oT, ts, he, hcls, hd, h1, hnT, hTe, hT, hdT, h3⟩ := f4
  have hsz3 : 3 < ts.size := (Array.getElem?_eq_some_iff.mp h3).1
  have other : ∀ b, b ≠ T → (s.heap.update T (Obj.mapFields (·.setIfInBounds 3 ((some L : Option Addr).elim Value.none fun f => rawInt f)))).get? b = s.heap.get? b :=
    fun b hb => Heap.get?_update_other _ _ (Ne.symm hb)
  have noRecord : ∀ b o, s.heap.get? b = some o → (∀ vs, o.data ≠ .fields vs) → b ≠ T := fun b o hb hnf q => by
    rw [q, hT] at hb; injection hb with hb; subst hb; exact hnf ts hdT
  unfold cameBackBy
  refine wpAny_bind (wpAny_field he hd h1 ?_)
  rw [if_neg (show ¬ ((Value.ref T == Value.none) = true) from by simp)]
  unfold setFlight
  refine wpAny_bind (wpAny_field he hd h1 ?_)
  rw [if_pos (show (Value.ref T != Value.none) = true from by simp), hf]
  refine wpAny_setField hT hdT hsz3 (hQ _ ⟨fun b o hbo => (other b fun q => by rw [q, hnT] at hbo; cases hbo).trans (f1 b o hbo), f2,
    f3.of_keeps fun b o hb hnf => ⟨o, (other b (noRecord b o hb hnf)).trans hb, rfl⟩, ?_⟩ fun b o hb hnf => ⟨o.slots, (other b (noRecord b o hb hnf)).trans hb⟩)
  exact ⟨oe, vs, T, _, _, (other e (Ne.symm hTe)).trans he, hcls, hd, h1, hnT, hTe, Heap.get?_update_self _ hT (Obj.isFreed_of_fields (Obj.data_mapFields hdT _)), Obj.data_mapFields hdT _, by simp [hsz3]⟩

theorem leaves_held {base : Heap} {env : Env} {outer : List Env} {L e : Addr} {cls a0 : Value} {Q : Unit → Shared → Prop} (hf : env.frame = some L)
    (hh : Heap.HeldW base (env :: outer) e cls a0 L s.heap) (hQ : ∀ h', Heap.FlyingW base outer e cls a0 h' → s.heap.UpToSlots h' → Q () { s with heap := h' }) : wpAny M A (leaving env (.ref e)) Q E s := by
  unfold leaving
  refine wpAny_bind (wpAny_noteFrame_againW hf hh.2.2.2 ?_)
  refine wpAny_landsW hh fun h' hfl sm => ?_
  obtain ⟨k1, k2, ⟨_, _, k3⟩, k4⟩ := hfl
  exact hQ h' ⟨k1, k2, k3, k4⟩ sm
end

/-- an exception that has left a frame: what stays -/
structure Raised (envs : List Env) (h0 : Heap) (l : Addr) (o : Obj) (e : Addr) (cls : String) (msg : Str) (h' : Heap) : Prop where
  ex : ∃ B t tk, Heap.FlyingW B envs e (.type cls) (.ref t) h' ∧ h'.TupAt t [.str msg tk] ∧ (B.get? t = none ∧ t ∉ frs envs) ∧
    (∀ a x, h0.get? a = some x → a ∉ frs envs → a ≠ l → B.get? a = some x) ∧ B.get? l = some o
  fr : ∀ a x, h0.get? a = some x → a ∈ frs envs → ∃ sl, h'.get? a = some { x with slots := sl }

theorem Raised.rel {envs : List Env} {h0 : Heap} {l : Addr} {o : Obj} {e : Addr} {cls : String} {msg : Str} {h' : Heap} (r : Raised envs h0 l o e cls msg h') : Rel (frs envs) [l] h0 h' := by
  obtain ⟨B, t, tk, hfl, _, _, hB, _⟩ := r.ex
  exact ⟨fun a x q n m => hfl.1 _ _ (hB a x q m (by simpa using n)), r.fr⟩
theorem Raised.obj {envs : List Env} {h0 : Heap} {l : Addr} {o : Obj} {e : Addr} {cls : String} {msg : Str} {h' : Heap} (r : Raised envs h0 l o e cls msg h') : h'.get? l = some o := by
  obtain ⟨B, t, tk, hfl, _, _, _, hl⟩ := r.ex
  exact hfl.1 _ _ hl

section
variable {w : World} {mean : ExcName → Option Value} {mg mb : Str → Option Value} {b : Heap} {A : Around} {env : Env} {envs : List Env} {k : Nat} {L : Addr} {h0 hr h : Heap} {m : Str → Option Value} {l : Addr} {o : Obj}
  {cls : String} {msg : Str} {e : Addr} {E : Value → Shared → Prop} {E2 : Value → Shared → Prop} {s' : Shared}

theorem hidden_frames {h b : Heap} : ∀ {l : List Env} {fs : List Addr}, h.FunFrames b l → (∀ a ∈ frs l, a ∈ fs) → h.FunFrames (hideAll h fs) l
  | [], _, _, _ => trivial
  | env :: rest, fs, ⟨hk, ⟨L, o, hf, hn, ho, hd⟩, hr⟩, k =>
    ⟨hk, ⟨L, o, hf, hideAll_none _ (k L (List.mem_filterMap.mpr ⟨env, .head _, hf⟩)), ho, hd⟩, hidden_frames hr fun a ha => k a (by
      obtain ⟨e, he, hfe⟩ := List.mem_filterMap.mp ha
      exact List.mem_filterMap.mpr ⟨e, .tail _ he, hfe⟩)⟩

/-- what a way out of the frame brings -/
theorem Body.raised (B : Body w mean mg mb b A env envs k L [l] h0 hr) (F : Fr (cut hr h0 [l]) L h m) {h₁ h' : Heap} {B' : Heap} {t : Addr} {tk : Tok}
    (hfl : Heap.FlyingW B' envs e (.type cls) (.ref t) h') (ht : h'.TupAt t [.str msg tk]) (hnt : B'.get? t = none ∧ t ∉ frs (env :: envs)) (hB : ∀ a x, h.get? a = some x → a ∉ frs (env :: envs) → a ≠ l → B'.get? a = some x) (hl : B'.get? l = some o)
    (k₁ : ∀ a x, h.get? a = some x → a ∈ frs envs → ∃ sl, h₁.get? a = some { x with slots := sl }) (sm : h₁.UpToSlots h') : Raised envs h0 l o e cls msg h' := by
  refine ⟨⟨B', t, tk, hfl, ht, ⟨hnt.1, fun q => hnt.2 (by rw [frs_cons B.envF]; exact .tail _ q)⟩, fun a x q n m => ?_, hl⟩, fun a x q n => ?_⟩
  · refine hB a x ((B.rel F).same a x q (by simpa using m) n) (fun z => ?_) m
    rw [frs_cons B.envF] at z
    rcases List.mem_cons.mp z with rfl | z
    · rw [B.noL] at q; cases q
    · exact n z
  · obtain ⟨sl, hs⟩ := (B.rel F).fr a x q n
    obtain ⟨sl', hs'⟩ := k₁ a _ hs n
    have hd : ∀ vs, x.data ≠ .fields vs := by
      have ff := B.ffNow F
      obtain ⟨_, o', ho', hd'⟩ := ff.mem (b := a) (by show a ∈ frs (env :: envs); rw [frs_cons B.envF]; exact .tail _ n)
      rw [hs] at ho'; cases ho'; exact hd'
    obtain ⟨sl2, hs2⟩ := sm a _ hs' hd
    exact ⟨sl2, hs2⟩

theorem Body.freshT (B : Body w mean mg mb b A env envs k L [l] h0 hr) (F : Fr (cut hr h0 [l]) L h m) {t : Addr} (hn : h.get? t = none) : (hideAll h (frs (env :: envs))).get? t = none ∧ t ∉ frs (env :: envs) := by
  refine ⟨?_, fun q => ?_⟩
  · cases q : (hideAll h (frs (env :: envs))).get? t with
    | none => rfl
    | some o => have := of_hideAll _ q; rw [hn] at this; cases this
  · obtain ⟨_, o, ho, _⟩ := (B.ffNow F).mem q
    rw [hn] at ho; cases ho
theorem Body.lNot (B : Body w mean mg mb b A env envs k L [l] h0 hr) (hne : l ≠ L) : l ∉ frs (env :: envs) := by
  rw [frs_cons B.envF]
  intro q
  rcases List.mem_cons.mp q with q | q
  · exact hne q
  · exact (B.hS l (.head _)).1 q

/-- a new exception leaves the frame from outside any loop -/
theorem Body.leave_made (B : Body w mean mg mb b A env envs k L [l] h0 hr) (F : Fr (cut hr h0 [l]) L h m) (hl : h.get? l = some o) (hne : l ≠ L) {tk : Tok} (hx : Heap.MadeExcOf h s'.heap e (.type cls) [.str msg tk])
    (hE : ∀ h', Raised envs h0 l o e cls msg h' → E (.ref e) { s' with heap := h' }) :
    wpAny (model PR w) A (leaving env (.ref e)) (fun _ s'' => E (.ref e) s'') E2 s' := by
  have ff := B.ffNow F
  unfold leaving
  refine wpAny_bind (note_made (base := hideAll h (frs (env :: envs))) B.C.fr B.envF (fun _ _ q => of_hideAll _ q) (hidden_frames ff fun _ q => q) hx fun h₁ t hh ht hnt sm => ?_)
  refine wpAny_landsW hh fun h₂ hfl sm₂ => hE h₂ ?_
  obtain ⟨k1, k2, ⟨_, _, k3⟩, k4⟩ := hfl
  exact B.raised F ⟨k1, k2, k3, k4⟩ (ht.of_slots sm₂) (B.freshT F hnt) (fun a x q n _ => hideAll_get _ q n) (hideAll_get _ hl (B.lNot hne)) (fun a x q _ => ⟨x.slots, hx.keeps _ _ q⟩) (sm.trans sm₂)

/-- a new exception out of a loop -/
theorem Body.loop_made (B : Body w mean mg mb b A env envs k L [l] h0 hr) (F : Fr (cut hr h0 [l]) L h m) (hl : h.get? l = some o) (hne : l ≠ L) {tk : Tok} (hx : Heap.MadeExcOf h s'.heap e (.type cls) [.str msg tk])
    (hE : ∀ h', Raised envs h0 l o e cls msg h' → E (.ref e) { s' with heap := h' }) :
    notedBy (model PR w) A env (fun e s' => cameBackBy (model PR w) A env (fun e s' => wpAny (model PR w) A (leaving env e) (fun _ s'' => E e s'') E2 s') e s') (.ref e) s' := by
  have ff := B.ffNow F
  unfold notedBy
  refine note_made (base := hideAll h (frs (env :: envs))) B.C.fr B.envF (fun _ _ q => of_hideAll _ q) (hidden_frames ff fun _ q => q) hx fun h₁ t hh ht hnt sm => ?_
  refine cameBack_held B.envF hh fun h₂ hh₂ sm₂ => ?_
  refine leaves_held B.envF hh₂ fun h₃ hfl sm₃ => hE h₃ ?_
  exact B.raised F hfl ((ht.of_slots sm₂).of_slots sm₃) (B.freshT F hnt) (fun a x q n _ => hideAll_get _ q n) (hideAll_get _ hl (B.lNot hne)) (fun a x q _ => ⟨x.slots, hx.keeps _ _ q⟩) ((sm.trans sm₂).trans sm₃)

/-- a callee's exception leaves the frame from outside any loop -/
theorem Body.leave_on (B : Body w mean mg mb b A env envs k L [l] h0 hr) (F : Fr (cut hr h0 [l]) L h m) (hr' : Raised (env :: envs) h l o e cls msg s'.heap)
    (hE : ∀ h', Raised envs h0 l o e cls msg h' → E (.ref e) { s' with heap := h' }) :
    wpAny (model PR w) A (leaving env (.ref e)) (fun _ s'' => E (.ref e) s'') E2 s' := by
  obtain ⟨⟨B', t, tk, hfl, ht, hnt, hB, hl⟩, hfr⟩ := hr'
  refine wpAny_leaves_onW B.C.fr B.envF hfl fun h' hfl' sm => hE h' ?_
  exact B.raised F hfl' (ht.of_slots sm) hnt hB hl (fun a x q n => hfr a x q (by rw [frs_cons B.envF]; exact .tail _ n)) sm

/-- a callee's exception out of a loop -/
theorem Body.loop_on (B : Body w mean mg mb b A env envs k L [l] h0 hr) (F : Fr (cut hr h0 [l]) L h m) (hr' : Raised (env :: envs) h l o e cls msg s'.heap)
    (hE : ∀ h', Raised envs h0 l o e cls msg h' → E (.ref e) { s' with heap := h' }) :
    notedBy (model PR w) A env (fun e s' => cameBackBy (model PR w) A env (fun e s' => wpAny (model PR w) A (leaving env e) (fun _ s'' => E e s'') E2 s') e s') (.ref e) s' := by
  obtain ⟨⟨B', t, tk, hfl, ht, hnt, hB, hl⟩, hfr⟩ := hr'
  unfold notedBy
  refine wpAny_looks_onW B.C.fr B.envF hfl fun h₁ hh sm => ?_
  refine cameBack_held B.envF hh fun h₂ hh₂ sm₂ => ?_
  refine leaves_held B.envF hh₂ fun h₃ hfl' sm₃ => hE h₃ ?_
  exact B.raised F hfl' (((ht.of_slots sm).of_slots sm₂).of_slots sm₃) hnt hB hl (fun a x q n => hfr a x q (by rw [frs_cons B.envF]; exact .tail _ n)) ((sm.trans sm₂).trans sm₃)

/-- the exception is looked at and held by the frame's own try -/
theorem Raised.lands {envs : List Env} {env : Env} {h0 : Heap} {l : Addr} {o : Obj} {M : Model} {Q : Shared → Prop} (hfr : A.frames = some (env :: envs)) (hf : env.frame = some L) (r : Raised (env :: envs) h0 l o e cls msg s'.heap)
    (hd : h0.FunFrames b (env :: envs)) (hQ : ∀ h', Raised (env :: envs) h0 l o e cls msg h' → Q { s' with heap := h' }) :
    wpAny M A (noteFrame (.ref e) env) (fun _ s₂ => wpAny M A (setFlight (.ref e) none) (fun _ s₃ => Q s₃) E s₂) E s' := by
  obtain ⟨⟨B', t, tk, hfl, ht, hnt, hB, hl⟩, hfr'⟩ := r
  refine wpAny_looks_onW hfr hf hfl fun h₁ hh sm => ?_
  refine wpAny_landsW hh fun h₂ hfl₂ sm₂ => hQ h₂ ?_
  refine ⟨⟨B', t, tk, hfl₂, (ht.of_slots sm).of_slots sm₂, hnt, hB, hl⟩, fun a x q n => ?_⟩
  obtain ⟨sl, hs⟩ := hfr' a x q n
  have hdx : ∀ vs, x.data ≠ .fields vs := by
    obtain ⟨_, o', ho', hd'⟩ := hd.mem n
    rw [q] at ho'; cases ho'; exact hd'
  obtain ⟨sl', hs'⟩ := (sm.trans sm₂) a _ hs hdx
  exact ⟨sl', hs'⟩
theorem Raised.again {envs : List Env} {env : Env} {h0 : Heap} {l : Addr} {o : Obj} {M : Model} {Q : Unit → Shared → Prop} (r : Raised (env :: envs) h0 l o e cls msg s'.heap)
    (hd : h0.FunFrames b (env :: envs)) (hQ : ∀ h', Raised (env :: envs) h0 l o e cls msg h' → Q () { s' with heap := h' }) :
    wpAny M A (setFlight (.ref e) none) Q E s' := by
  obtain ⟨⟨B', t, tk, hfl, ht, hnt, hB, hl⟩, hfr'⟩ := r
  refine lands_againW hfl fun h₂ hfl₂ sm => hQ h₂ ?_
  refine ⟨⟨B', t, tk, hfl₂, ht.of_slots sm, hnt, hB, hl⟩, fun a x q n => ?_⟩
  obtain ⟨sl, hs⟩ := hfr' a x q n
  have hdx : ∀ vs, x.data ≠ .fields vs := by
    obtain ⟨_, o', ho', hd'⟩ := hd.mem n
    rw [q] at ho'; cases ho'; exact hd'
  obtain ⟨sl', hs'⟩ := sm a _ hs hdx
  exact ⟨sl', hs'⟩
/-- what the caught exception is -/
theorem Raised.what {envs : List Env} {h0 h' : Heap} {l : Addr} {o : Obj} (r : Raised envs h0 l o e cls msg h') : ∃ oe t ot vs n tk, h'.get? e = some oe ∧ oe.cls = .type cls ∧ oe.data = .fields vs ∧ vs[0]? = some (.ref t) ∧ h'.get? t = some ot ∧ ot.cls = .type "tuple" ∧ ot.data = .seq #[.str msg tk] n ∧
    h0.get? e = none ∧ h0.get? t = none ∧ e ≠ t := by
  obtain ⟨⟨B', t, tk, hfl, ht, hnt, hB, hl⟩, hfr⟩ := r
  obtain ⟨oe, vs, he, hc, hd, h0'⟩ := hfl.first
  obtain ⟨ot, n, hot, hcT, hdT⟩ := ht
  have hne : e ≠ t := fun q => by
    rw [q, hot] at he; cases he; rw [hdT] at hd; cases hd
  refine ⟨oe, t, ot, vs, n, tk, he, hc, hd, h0', hot, hcT, by simpa using hdT, ?_, ?_, hne⟩
  · cases q : h0.get? e with
    | none => rfl
    | some x =>
      exfalso
      by_cases hf : e ∈ frs envs
      · obtain ⟨_, o', ho', hd'⟩ := hfl.2.2.1.mem hf
        rw [he] at ho'; cases ho'; exact hd' _ hd
      · by_cases hel : e = l
        · have := hfl.2.1; rw [hel, hl] at this; cases this
        · have := hB e x q hf hel; rw [hfl.2.1] at this; cases this
  · cases q : h0.get? t with
    | none => rfl
    | some x =>
      exfalso
      by_cases htl : t = l
      · have := hnt.1; rw [htl, hl] at this; cases this
      · have := hB t x q hnt.2 htl; rw [hnt.1] at this; cases this
end
end
section

/-- the six strangers -/
inductive Kind (h : Heap) : Value → String → Prop
  | str (t : Tok) : Kind h (.str (Str.ofString "") t) "str"
  | tup {a : Addr} {o : Obj} {n : Nat} : h.get? a = some o → o.cls = .type "tuple" → o.data = .seq #[] n → Kind h (.ref a) "tuple"
  | lst {a : Addr} {o : Obj} {n : Nat} : h.get? a = some o → o.cls = .type "list" → o.data = .seq #[] n → Kind h (.ref a) "list"
  | none : Kind h .none "NoneType"
  | bytes (t : Tok) : Kind h (.bytes #[] t) "bytes"
  | dct {a : Addr} {o : Obj} {n : Nat} : h.get? a = some o → o.cls = .type "dict" → o.data = .dict #[] n → Kind h (.ref a) "dict"

theorem Kind.typeIs {s : Shared} {one : Value} {T : String} (k : Kind s.heap one T) : s.TypeIs one T := by
  cases k with
  | str t => rfl
  | tup h c d => exact ⟨_, h, c⟩
  | lst h c d => exact ⟨_, h, c⟩
  | none => rfl
  | bytes t => rfl
  | dct h c d => exact ⟨_, h, c⟩

theorem Kind.keeps {h h' : Heap} {one : Value} {T : String} (k : Kind h one T) (s : ∀ a o, one = .ref a → h.get? a = some o → ∃ sl, h'.get? a = some { o with slots := sl }) : Kind h' one T := by
  cases k with
  | str t => exact .str t
  | tup h c d => obtain ⟨sl, q⟩ := s _ _ rfl h; exact .tup q c d
  | lst h c d => obtain ⟨sl, q⟩ := s _ _ rfl h; exact .lst q c d
  | none => exact .none
  | bytes t => exact .bytes t
  | dct h c d => obtain ⟨sl, q⟩ := s _ _ rfl h; exact .dct q c d

theorem Kind.notInt {h : Heap} {one : Value} {T : String} (k : Kind h one T) : ∀ i t, one ≠ .int i t := by
  cases k <;> intro i t q <;> cases q

def ltMsg (f g : String) : String := s!"'{"<"}' not supported between instances of '{f}' and '{g}'"

section
variable {α : Type} {M : Model} {A : Around} {E : Value → Shared → Prop} {s : Shared}

theorem raise_made {cls msg : String} {Q : α → Shared → Prop} (hp : PlainExc cls) (hh : A.handled = none)
    (h : ∀ h' tk e tk', Heap.MadeExcOf s.heap h' e (.type cls) [.str (Str.ofString msg) tk'] → E (.ref e) { s with heap := h', toks := tk }) (hm : (Str.ofString msg).length ≤ sizeLine := by size_fits) :
    wpAny M A (raiseErrorMade cls msg : Sem α) Q E s := by
  unfold raiseErrorMade
  refine wpAny_bind (wpAny_mkStr (wpAny_bind ?_) hm)
  unfold newExc newTuple
  refine wpAny_bind (wpAny_newObj_type ?_)
  refine wpAny_bind (m := firstArgMember _ _) (wpAny_of_eq (a := Value.none) (by simp only [firstArgMember, hp.first]; rfl) ?_)
  rw [hp.own]
  refine wpAny_newObj_type ?_
  unfold raiseNew
  refine wpAny_bind (wpAny_handled ?_)
  rw [hh]
  first
    | refine wpAny_throw ?_
    | refine wpAny_bind (wpAny_pure (wpAny_throw ?_))
  refine h _ _ _ s.toks ⟨fun b o hb => Heap.get?_push_of_some _ (Heap.get?_push_of_some _ hb), Heap.get?_none_of_le (by simp), s.heap.objs.size, ?_, Heap.get?_none_of_le (Nat.le_refl _), ?_⟩
  · exact Heap.get?_push_size _ rfl
  · exact Heap.get?_push_of_some _ (Heap.get?_push_size _ rfl)

theorem raiseWords_made {cls msg : String} {Q : α → Shared → Prop} (hp : PlainExc cls) (hh : A.handled = none)
    (h : ∀ h' tk e tk', Heap.MadeExcOf s.heap h' e (.type cls) [.str (Str.ofString msg) tk'] → E (.ref e) { s with heap := h', toks := tk }) :
    wpAny M A (raiseErrorWords cls msg : Sem α) Q E s := by
  unfold raiseErrorWords
  refine wpAny_bind (wpAny_mkText (wpAny_bind ?_))
  unfold newExc newTuple
  refine wpAny_bind (wpAny_newObj_type ?_)
  refine wpAny_bind (m := firstArgMember _ _) (wpAny_of_eq (a := Value.none) (by simp only [firstArgMember, hp.first]; rfl) ?_)
  rw [hp.own]
  refine wpAny_newObj_type ?_
  unfold raiseNew
  refine wpAny_bind (wpAny_handled ?_)
  rw [hh]
  first
    | refine wpAny_throw ?_
    | refine wpAny_bind (wpAny_pure (wpAny_throw ?_))
  refine h _ _ _ s.toks ⟨fun b o hb => Heap.get?_push_of_some _ (Heap.get?_push_of_some _ hb), Heap.get?_none_of_le (by simp), s.heap.objs.size, ?_, Heap.get?_none_of_le (Nat.le_refl _), ?_⟩
  · exact Heap.get?_push_size _ rfl
  · exact Heap.get?_push_of_some _ (Heap.get?_push_size _ rfl)

theorem lt_declined {a b : Value} {Ta Tb ida idb : String} {Q : Value → Shared → Prop} (hh : A.handled = none) (ha : s.TypeIs a Ta) (hb : s.TypeIs b Tb)
    (hne : (Value.type Ta != Value.type Tb) = true) (hsub : isSubtype (.type Tb) (.type Ta) = pure false) (h1 : Slot Ta (cmpInfo .Lt).2.1 ida) (h2 : Slot Tb (cmpInfo .Lt).2.2 idb)
    (hna : (Value.type Ta == Value.type "builtin_function_or_method") = false) (hnb : (Value.type Tb == Value.type "builtin_function_or_method") = false)
    (hc1 : ∀ Q : Value → Shared → Prop, Q .notImplemented s → wpAny M A (call (.builtin ida) [a, b]) Q E s) (hc2 : ∀ Q : Value → Shared → Prop, Q .notImplemented s → wpAny M A (call (.builtin idb) [b, a]) Q E s)
    {na nb : String} (ea : shownName Ta = na) (eb : shownName Tb = nb)
    (h : ∀ h' tk e tk', Heap.MadeExcOf s.heap h' e (.type "TypeError") [.str (Str.ofString (ltMsg na nb)) tk'] → E (.ref e) { s with heap := h', toks := tk })
    (hu : A.units < cLine) (hTa : na.length ≤ 1000) (hTb : nb.length ≤ 1000) :
    wpAny M A (compareOp .Lt a b) Q E s := by
  subst ea eb
  show wpAny M A (richCompare .Lt a b) Q E s
  simp only [richCompare, cmpInfo, ha.oneThing_none] at h1 h2 ⊢
  refine wpAny_holding ?_
  refine wpAny_bind (wpAny_cRoomFor_or (.inr hu) ?_)
  refine wpAny_bind (wpAny_typeOf ha (wpAny_bind (wpAny_typeOf hb ?_)))
  simp only [hne, if_true]
  refine wpAny_bind (wpAny_of_eq hsub ?_)
  simp only [Bool.false_eq_true, if_false, Bool.not_false, if_true]
  refine wpAny_bind (m := tryCompare a _ b) (wpAny_tryCompare_declines ha h1 (hc1 _ ⟨rfl, ?_⟩))
  refine wpAny_bind (m := tryCompare b _ a) (wpAny_tryCompare_declines hb h2 (hc2 _ ⟨rfl, ?_⟩))
  refine wpAny_bind (wpAny_rule (wpAny_bind (wpAny_typeNameOf' ha hna (wpAny_bind (wpAny_typeNameOf' hb hnb (raise_made plainExc_TypeError hh h ?_))))))
  show (Str.ofString _).length ≤ sizeLine
  rw [PySem.ofString_length, sizeLine_eq]
  simp only [ltMsg, String.length_append, toString]
  have e1 : "'".length ≤ 100 := by decide
  have e2 : "<".length ≤ 100 := by decide
  have e3 : "' not supported between instances of '".length ≤ 100 := by decide
  have e4 : "' and '".length ≤ 100 := by decide
  omega
end

section
variable {w : World} {A : Around} {E : Value → Shared → Prop} {s : Shared} {i : Int} {t : Tok} {one : Value} {T : String}

theorem asInt_no (k : Kind s.heap one T) {Q : Option Int → Shared → Prop} (h : Q none s) {M : Model} : wpAny M A (asInt? one) Q E s := by
  cases k with
  | str u => exact wpAny_pure h
  | none => exact wpAny_pure h
  | bytes u => exact wpAny_pure h
  | tup ho c d => refine wpAny_bind (wpAny_load ho ?_); rw [d]; exact wpAny_pure h
  | lst ho c d => refine wpAny_bind (wpAny_load ho ?_); rw [d]; exact wpAny_pure h
  | dct ho c d => refine wpAny_bind (wpAny_load ho ?_); rw [d]; exact wpAny_pure h

theorem int_lt_no (k : Kind s.heap one T) (Q : Value → Shared → Prop) (h : Q .notImplemented s) : wpAny (model PR w) A (call (.builtin "int.__lt__") [.int i t, one]) Q E s := by
  refine wpAny_call_entry slot_int_lt (typeIs_int s i t) entry_int_lt ?_ (args_int_lt _ _)
  show wpAny _ _ (asInt? one >>= fun y => _) _ _ _
  refine wpAny_bind (asInt_no k ?_)
  exact wpAny_bind (wpAny_rule (wpAny_pure ⟨_, rfl, h⟩))
theorem int_gt_no (k : Kind s.heap one T) (Q : Value → Shared → Prop) (h : Q .notImplemented s) : wpAny (model PR w) A (call (.builtin "int.__gt__") [.int i t, one]) Q E s := by
  refine wpAny_call_entry SiftDown.slot_int_gt (typeIs_int s i t) SiftDown.entry_int_gt ?_ (SiftDown.args_int_gt _ _)
  show wpAny _ _ (asInt? one >>= fun y => _) _ _ _
  refine wpAny_bind (asInt_no k ?_)
  exact wpAny_bind (wpAny_rule (wpAny_pure ⟨_, rfl, h⟩))


theorem slot_bytes_lt : Slot "bytes" (cmpInfo .Lt).2.1 "bytes.__lt__" :=
  .of (owner := "bytes") (n := "__lt__") (by rw [typeLookup_type, builtinLookup_eq_fast]; kernel_rfl) (by decide +kernel) (by decide +kernel) (by decide +kernel)
    (by first | exact .inl (by decide +kernel) | exact .inr (by decide +kernel)) (by rw [isSubtype_type]; kernel_rfl)
theorem slot_bytes_gt : Slot "bytes" (cmpInfo .Lt).2.2 "bytes.__gt__" :=
  .of (owner := "bytes") (n := "__gt__") (by rw [typeLookup_type, builtinLookup_eq_fast]; kernel_rfl) (by decide +kernel) (by decide +kernel) (by decide +kernel)
    (by first | exact .inl (by decide +kernel) | exact .inr (by decide +kernel)) (by rw [isSubtype_type]; kernel_rfl)
theorem entry_bytes_lt : entryFor table "bytes.__lt__" = some Builtin.«bytes.__lt__» := entryFor_of_tree (by kernel_rfl)
theorem entry_bytes_gt : entryFor table "bytes.__gt__" = some Builtin.«bytes.__gt__» := entryFor_of_tree (by kernel_rfl)
theorem args_bytes_lt (a b : Value) : argsOk "bytes.__lt__" ⟨[a, b], []⟩ := by unfold argsOk; kernel_rfl
theorem args_bytes_gt (a b : Value) : argsOk "bytes.__gt__" ⟨[a, b], []⟩ := by unfold argsOk; kernel_rfl

theorem nm_int : shownName "int" = "int" := by decide +kernel
theorem nm_str : shownName "str" = "str" := by decide +kernel
theorem nm_tuple : shownName "tuple" = "tuple" := by decide +kernel
theorem nm_list : shownName "list" = "list" := by decide +kernel
theorem nm_none : shownName "NoneType" = "NoneType" := by decide +kernel
theorem nm_bytes : shownName "bytes" = "bytes" := by decide +kernel
theorem nm_dict : shownName "dict" = "dict" := by decide +kernel

theorem lt_stranger_int (k : Kind s.heap one T) (hh : A.handled = none) (hu : A.units < cLine) {Q : Value → Shared → Prop}
    (h : ∀ h' tk e tk', Heap.MadeExcOf s.heap h' e (.type "TypeError") [.str (Str.ofString (ltMsg T "int")) tk'] → E (.ref e) { s with heap := h', toks := tk }) :
    wpAny (model PR w) A (compareOp .Lt one (.int i t)) Q E s := by
  have kk := k
  cases k with
  | str u =>
    refine lt_declined hh (show s.TypeIs _ "str" from typeIs_str s _ u) (typeIs_int s i t) (by decide) (by rw [isSubtype_type]; kernel_rfl) F.slot_str_lt F.slot_int_gt_refl (by decide) (by decide) (fun Q hQ => ?_) (fun Q hQ => int_gt_no kk Q hQ) nm_str nm_int h hu (by decide) (by decide)
    refine wpAny_call_entry F.slot_str_lt (show s.TypeIs _ "str" from typeIs_str s _ u) F.entry_str_lt ?_ (F.args_str_lt_2 _ _)
    show wpAny _ _ (do rule _; ret .notImplemented) _ _ _
    exact wpAny_bind (wpAny_rule (wpAny_pure ⟨_, rfl, hQ⟩))
  | tup ho c d =>
    refine lt_declined hh (show s.TypeIs _ "tuple" from ⟨_, ho, c⟩) (typeIs_int s i t) (by decide) (by rw [isSubtype_type]; kernel_rfl) F.slot_tuple_lt F.slot_int_gt_refl (by decide) (by decide) (fun Q hQ => ?_) (fun Q hQ => int_gt_no kk Q hQ) nm_tuple nm_int h hu (by decide) (by decide)
    refine wpAny_call_entry F.slot_tuple_lt (show s.TypeIs _ "tuple" from ⟨_, ho, c⟩) F.entry_tuple_lt ?_ (F.args_tuple_lt_2 _ _)
    show wpAny _ _ (isInstance (.int i t) (.type "tuple") >>= fun y => _) _ _ _
    refine wpAny_bind (wpAny_isInstance (typeIs_int s i t) PySem.F.sub_int_tuple ?_)
    show wpAny _ _ (ret .notImplemented) _ _ _
    exact wpAny_pure ⟨_, rfl, hQ⟩
  | lst ho c d =>
    refine lt_declined hh (show s.TypeIs _ "list" from ⟨_, ho, c⟩) (typeIs_int s i t) (by decide) (by rw [isSubtype_type]; kernel_rfl) F.slot_list_lt F.slot_int_gt_refl (by decide) (by decide) (fun Q hQ => ?_) (fun Q hQ => int_gt_no kk Q hQ) nm_list nm_int h hu (by decide) (by decide)
    refine wpAny_call_entry F.slot_list_lt (show s.TypeIs _ "list" from ⟨_, ho, c⟩) F.entry_list_lt ?_ (F.args_list_lt_2 _ _)
    show wpAny _ _ (isInstance (.int i t) (.type "list") >>= fun y => _) _ _ _
    refine wpAny_bind (wpAny_isInstance (typeIs_int s i t) PySem.F.sub_int_list ?_)
    show wpAny _ _ (ret .notImplemented) _ _ _
    exact wpAny_pure ⟨_, rfl, hQ⟩
  | none =>
    refine lt_declined hh (show s.TypeIs _ "NoneType" from rfl) (typeIs_int s i t) (by decide) (by rw [isSubtype_type]; kernel_rfl) F.slot_NoneType_lt F.slot_int_gt_refl (by decide) (by decide) (fun Q hQ => ?_) (fun Q hQ => int_gt_no kk Q hQ) nm_none nm_int h hu (by decide) (by decide)
    refine wpAny_call_entry F.slot_NoneType_lt (show s.TypeIs _ "NoneType" from rfl) F.entry_NoneType_lt ?_ (F.args_NoneType_lt_2 _ _)
    exact wpAny_pure ⟨_, rfl, hQ⟩
  | bytes u =>
    refine lt_declined hh (show s.TypeIs _ "bytes" from rfl) (typeIs_int s i t) (by decide) (by rw [isSubtype_type]; kernel_rfl) slot_bytes_lt F.slot_int_gt_refl (by decide) (by decide) (fun Q hQ => ?_) (fun Q hQ => int_gt_no kk Q hQ) nm_bytes nm_int h hu (by decide) (by decide)
    refine wpAny_call_entry slot_bytes_lt (show s.TypeIs _ "bytes" from rfl) entry_bytes_lt ?_ (args_bytes_lt _ _)
    show wpAny _ _ (isInstance (.int i t) (.type "bytes") >>= fun y => _) _ _ _
    refine wpAny_bind (wpAny_isInstance (typeIs_int s i t) PySem.F.sub_int_bytes ?_)
    show wpAny _ _ (do rule _; ret .notImplemented) _ _ _
    exact wpAny_bind (wpAny_rule (wpAny_pure ⟨_, rfl, hQ⟩))
  | dct ho c d =>
    refine lt_declined hh (show s.TypeIs _ "dict" from ⟨_, ho, c⟩) (typeIs_int s i t) (by decide) (by rw [isSubtype_type]; kernel_rfl) F.slot_dict_lt F.slot_int_gt_refl (by decide) (by decide) (fun Q hQ => ?_) (fun Q hQ => int_gt_no kk Q hQ) nm_dict nm_int h hu (by decide) (by decide)
    refine wpAny_call_entry F.slot_dict_lt (show s.TypeIs _ "dict" from ⟨_, ho, c⟩) F.entry_dict_lt ?_ (F.args_dict_lt_2 _ _)
    exact wpAny_pure ⟨_, rfl, hQ⟩
theorem lt_int_stranger (k : Kind s.heap one T) (hh : A.handled = none) (hu : A.units < cLine) {Q : Value → Shared → Prop}
    (h : ∀ h' tk e tk', Heap.MadeExcOf s.heap h' e (.type "TypeError") [.str (Str.ofString (ltMsg "int" T)) tk'] → E (.ref e) { s with heap := h', toks := tk }) :
    wpAny (model PR w) A (compareOp .Lt (.int i t) one) Q E s := by
  have kk := k
  cases k with
  | str u =>
    refine lt_declined hh (typeIs_int s i t) (show s.TypeIs _ "str" from typeIs_str s _ u) (by decide) (by rw [isSubtype_type]; kernel_rfl) slot_int_lt F.slot_str_gt_refl (by decide) (by decide) (fun Q hQ => int_lt_no kk Q hQ) (fun Q hQ => ?_) nm_int nm_str h hu (by decide) (by decide)
    refine wpAny_call_entry F.slot_str_gt_refl (show s.TypeIs _ "str" from typeIs_str s _ u) F.entry_str_gt ?_ (F.args_str_gt_2 _ _)
    show wpAny _ _ (do rule _; ret .notImplemented) _ _ _
    exact wpAny_bind (wpAny_rule (wpAny_pure ⟨_, rfl, hQ⟩))
  | tup ho c d =>
    refine lt_declined hh (typeIs_int s i t) (show s.TypeIs _ "tuple" from ⟨_, ho, c⟩) (by decide) (by rw [isSubtype_type]; kernel_rfl) slot_int_lt F.slot_tuple_gt_refl (by decide) (by decide) (fun Q hQ => int_lt_no kk Q hQ) (fun Q hQ => ?_) nm_int nm_tuple h hu (by decide) (by decide)
    refine wpAny_call_entry F.slot_tuple_gt_refl (show s.TypeIs _ "tuple" from ⟨_, ho, c⟩) F.entry_tuple_gt ?_ (F.args_tuple_gt_2 _ _)
    show wpAny _ _ (isInstance (.int i t) (.type "tuple") >>= fun y => _) _ _ _
    refine wpAny_bind (wpAny_isInstance (typeIs_int s i t) PySem.F.sub_int_tuple ?_)
    show wpAny _ _ (ret .notImplemented) _ _ _
    exact wpAny_pure ⟨_, rfl, hQ⟩
  | lst ho c d =>
    refine lt_declined hh (typeIs_int s i t) (show s.TypeIs _ "list" from ⟨_, ho, c⟩) (by decide) (by rw [isSubtype_type]; kernel_rfl) slot_int_lt F.slot_list_gt_refl (by decide) (by decide) (fun Q hQ => int_lt_no kk Q hQ) (fun Q hQ => ?_) nm_int nm_list h hu (by decide) (by decide)
    refine wpAny_call_entry F.slot_list_gt_refl (show s.TypeIs _ "list" from ⟨_, ho, c⟩) F.entry_list_gt ?_ (F.args_list_gt_2 _ _)
    show wpAny _ _ (isInstance (.int i t) (.type "list") >>= fun y => _) _ _ _
    refine wpAny_bind (wpAny_isInstance (typeIs_int s i t) PySem.F.sub_int_list ?_)
    show wpAny _ _ (ret .notImplemented) _ _ _
    exact wpAny_pure ⟨_, rfl, hQ⟩
  | none =>
    refine lt_declined hh (typeIs_int s i t) (show s.TypeIs _ "NoneType" from rfl) (by decide) (by rw [isSubtype_type]; kernel_rfl) slot_int_lt F.slot_NoneType_gt_refl (by decide) (by decide) (fun Q hQ => int_lt_no kk Q hQ) (fun Q hQ => ?_) nm_int nm_none h hu (by decide) (by decide)
    refine wpAny_call_entry F.slot_NoneType_gt_refl (show s.TypeIs _ "NoneType" from rfl) F.entry_NoneType_gt ?_ (F.args_NoneType_gt_2 _ _)
    exact wpAny_pure ⟨_, rfl, hQ⟩
  | bytes u =>
    refine lt_declined hh (typeIs_int s i t) (show s.TypeIs _ "bytes" from rfl) (by decide) (by rw [isSubtype_type]; kernel_rfl) slot_int_lt slot_bytes_gt (by decide) (by decide) (fun Q hQ => int_lt_no kk Q hQ) (fun Q hQ => ?_) nm_int nm_bytes h hu (by decide) (by decide)
    refine wpAny_call_entry slot_bytes_gt (show s.TypeIs _ "bytes" from rfl) entry_bytes_gt ?_ (args_bytes_gt _ _)
    show wpAny _ _ (isInstance (.int i t) (.type "bytes") >>= fun y => _) _ _ _
    refine wpAny_bind (wpAny_isInstance (typeIs_int s i t) PySem.F.sub_int_bytes ?_)
    show wpAny _ _ (do rule _; ret .notImplemented) _ _ _
    exact wpAny_bind (wpAny_rule (wpAny_pure ⟨_, rfl, hQ⟩))
  | dct ho c d =>
    refine lt_declined hh (typeIs_int s i t) (show s.TypeIs _ "dict" from ⟨_, ho, c⟩) (by decide) (by rw [isSubtype_type]; kernel_rfl) slot_int_lt F.slot_dict_gt_refl (by decide) (by decide) (fun Q hQ => int_lt_no kk Q hQ) (fun Q hQ => ?_) nm_int nm_dict h hu (by decide) (by decide)
    refine wpAny_call_entry F.slot_dict_gt_refl (show s.TypeIs _ "dict" from ⟨_, ho, c⟩) F.entry_dict_gt ?_ (F.args_dict_gt_2 _ _)
    exact wpAny_pure ⟨_, rfl, hQ⟩
end
end
section
inductive Cm where
  | val (b : Bool)
  | first
  | second
  | stuck
def cm : Value → Value → Cm
  | .int i _, .int j _ => .val (decide (i < j))
  | .int _ _, _ => .second
  | _, .int _ _ => .first
  | _, _ => .stuck
def cmH (hi : Bool) (a b : Value) : Cm := if hi then cm b a else cm a b

inductive Out where
  | ok (vs : List Value)
  | bad (vs : List Value) (f : Bool)
  | stuck

def nth (vs : List Value) (i : Nat) : Value := vs.getD i .none

def sd (hi : Bool) (st : Nat) (x : Value) : Nat → List Value → Nat → Out
  | 0, vs, pos => .ok (vs.set pos x)
  | k + 1, vs, pos => if st < pos then match cmH hi x (nth vs ((pos - 1) / 2)) with
      | .val true => sd hi st x k (vs.set pos (nth vs ((pos - 1) / 2))) ((pos - 1) / 2)
      | .val false => .ok (vs.set pos x)
      | .first => .bad vs true
      | .second => .bad vs false
      | .stuck => .stuck
    else .ok (vs.set pos x)
def siftdown (hi : Bool) (vs : List Value) (st pos : Nat) : Out := sd hi st (nth vs pos) pos vs pos

inductive Up where
  | ok (vs : List Value) (p : Nat)
  | bad (vs : List Value) (f : Bool)
  | stuck
def su (hi : Bool) : Nat → List Value → Nat → Up
  | 0, vs, pos => .ok vs pos
  | k + 1, vs, pos => if 2 * pos + 1 < vs.length then
      if 2 * pos + 2 < vs.length then
        match cmH hi (nth vs (2 * pos + 1)) (nth vs (2 * pos + 2)) with
        | .val true => su hi k (vs.set pos (nth vs (2 * pos + 1))) (2 * pos + 1)
        | .val false => su hi k (vs.set pos (nth vs (2 * pos + 2))) (2 * pos + 2)
        | .first => .bad vs true
        | .second => .bad vs false
        | .stuck => .stuck
      else su hi k (vs.set pos (nth vs (2 * pos + 1))) (2 * pos + 1)
    else .ok vs pos
def siftup (hi : Bool) (vs : List Value) (pos : Nat) : Out :=
  match su hi vs.length vs pos with
  | .ok vs' p => siftdown hi (vs'.set p (nth vs pos)) pos p
  | .bad vs' f => .bad vs' f
  | .stuck => .stuck
def hp (hi : Bool) : Nat → List Value → Out
  | 0, vs => .ok vs
  | i + 1, vs => match siftup hi vs i with
    | .ok vs' => hp hi i vs'
    | r => r

def Els (one : Value) (vs : List Value) : Prop := ∀ v ∈ vs, (∃ i t, v = .int i t) ∨ v = one
def ltText (f : Bool) (T : String) : Str := Str.ofString (if f then ltMsg T "int" else ltMsg "int" T)

theorem nth_mem {vs : List Value} {i : Nat} (h : i < vs.length) : nth vs i ∈ vs := by
  have e : nth vs i = vs[i] := by simp [nth, List.getD, List.getElem?_eq_getElem h]
  rw [e]
  exact List.getElem_mem h
theorem nth_some {vs : List Value} {i : Nat} (h : i < vs.length) : vs[i]? = some (nth vs i) := by
  simp [nth, List.getD, List.getElem?_eq_getElem h]
theorem Els.set {one : Value} {vs : List Value} (e : Els one vs) {x : Value} (hx : (∃ i t, x = .int i t) ∨ x = one) (i : Nat) : Els one (vs.set i x) := fun v hv => by
  rcases List.mem_or_eq_of_mem_set hv with h | h
  · exact e v h
  · rw [h]; exact hx

theorem sd_keeps {hi : Bool} {st : Nat} {x one : Value} (hx : (∃ i t, x = .int i t) ∨ x = one) : ∀ (k : Nat) (vs : List Value) (pos : Nat) (vs' : List Value), sd hi st x k vs pos = .ok vs' → Els one vs → pos < vs.length → vs'.length = vs.length ∧ Els one vs'
  | 0, vs, pos, vs', h, e, hp => by
    simp only [sd, Out.ok.injEq] at h
    subst h
    exact ⟨by simp, e.set hx _⟩
  | k + 1, vs, pos, vs', h, e, hp => by
    simp only [sd] at h
    split at h
    · rename_i hlt
      have hpar : (pos - 1) / 2 < vs.length := by omega
      split at h
      · have := sd_keeps hx k _ _ vs' h (e.set (e _ (nth_mem hpar)) _) (by simpa using hpar)
        exact ⟨by simpa using this.1, this.2⟩
      · simp only [Out.ok.injEq] at h; subst h; exact ⟨by simp, e.set hx _⟩
      · cases h
      · cases h
      · cases h
    · simp only [Out.ok.injEq] at h; subst h; exact ⟨by simp, e.set hx _⟩
theorem su_keeps {hi : Bool} {one : Value} : ∀ (k : Nat) (vs : List Value) (pos : Nat) (vs' : List Value) (p : Nat), su hi k vs pos = .ok vs' p → Els one vs → pos < vs.length → vs'.length = vs.length ∧ Els one vs' ∧ p < vs'.length
  | 0, vs, pos, vs', p, h, e, hp => by
    simp only [su, Up.ok.injEq] at h
    obtain ⟨rfl, rfl⟩ := h
    exact ⟨rfl, e, hp⟩
  | k + 1, vs, pos, vs', p, h, e, hp => by
    simp only [su] at h
    split at h
    · rename_i h1
      split at h
      · rename_i h2
        split at h
        · have := su_keeps k _ _ vs' p h (e.set (e _ (nth_mem h1)) _) (by simpa using h1)
          exact ⟨by simpa using this.1, this.2⟩
        · have := su_keeps k _ _ vs' p h (e.set (e _ (nth_mem h2)) _) (by simpa using h2)
          exact ⟨by simpa using this.1, this.2⟩
        · cases h
        · cases h
        · cases h
      · have := su_keeps k _ _ vs' p h (e.set (e _ (nth_mem h1)) _) (by simpa using h1)
        exact ⟨by simpa using this.1, this.2⟩
    · simp only [Up.ok.injEq] at h
      obtain ⟨rfl, rfl⟩ := h
      exact ⟨rfl, e, hp⟩
theorem siftup_keeps {hi : Bool} {one : Value} {vs vs' : List Value} {pos : Nat} (h : siftup hi vs pos = .ok vs') (e : Els one vs) (hp : pos < vs.length) : vs'.length = vs.length ∧ Els one vs' := by
  unfold siftup at h
  split at h
  · rename_i v1 p h1
    have k1 := su_keeps vs.length vs pos v1 p h1 e hp
    have hx := e _ (nth_mem hp)
    unfold siftdown at h
    have hlen : (v1.set p (nth vs pos)).length = v1.length := by simp
    have hn : nth (v1.set p (nth vs pos)) p = nth vs pos := by simp [nth, List.getD, k1.2.2]
    rw [hn] at h
    have := sd_keeps hx p _ p vs' h (k1.2.1.set hx _) (by simpa using k1.2.2)
    exact ⟨by rw [this.1, hlen, k1.1], this.2⟩
  · cases h
  · cases h
end
section
section
variable {w : World} {A : Around} {E : Value → Shared → Prop} {s : Shared} {g : Heap} {L : Addr} {m : Str → Option Value}

theorem isList_lst {h : Heap} {l : Addr} {vs : List Value} {n : Nat} (hl : h.get? l = some (lst vs n)) : h.IsList l vs.toArray := ⟨_, hl, rfl, n, rfl⟩

/-- an item of a list, at a place in it -/
theorem item_at {value slice : Expr} {l : Addr} {vs : List Value} {n : Nat} {k : Nat} {u : Tok} {Q : Value → Shared → Prop} (hl : s.heap.get? l = some (lst vs n)) (hk : k < vs.length) (hz : vs.length < 2 ^ 62) (h : Q (nth vs k) s)
    (hs : subscripted slice false (.ref l) (.int (k : Int) u) = operate [.ref l, .int (k : Int) u] (getItem (.ref l) (.int (k : Int) u))) :
    wpAny (model PR w) A (subscriptTail value slice (.ref l) (.int (k : Int) u)) Q E s :=
  tail_any (isList_lst hl).typeIs slot_list_getitem.lookup (wpAny_getItem_list (isList_lst hl) (by omega) (by omega) (by simpa using nth_some hk) h) hs

theorem mapSeq_set (vs : List Value) (n k : Nat) (v : Value) : Obj.mapSeq (·.setIfInBounds k v) (lst vs n) = lst (vs.set k v) n := by
  simp [Obj.mapSeq, lst]

/-- a store into a list, at a place in it -/
theorem store_int {l : Addr} {vs : List Value} {n : Nat} {k : Int} {t : Tok} {v : Value} {Q : Unit → Shared → Prop} (hl : s.heap.get? l = some (lst vs n)) (h0 : 0 ≤ k) (hfit : k < 2 ^ 63) (hn : k < vs.length)
    (hQ : ∀ h', h'.get? l = some (lst (vs.set k.toNat v) n) → Heap.SameBut l s.heap h' → Q () { s with heap := h' }) :
    wpAny (model PR w) A (setItem (.ref l) (.int k t) v) Q E s := by
  have hI := isList_lst hl
  unfold setItem
  try with_reducible refine wpAny_holding ?_
  first | refine wpAny_bind (wpAny_pure ?_) | skip
  refine wpAny_bind (wpAny_sequenceKey hI.typeIs (by decide) ?_)
  refine wpAny_bind (wpAny_callSpecial?_slot (name := Str.ofString "__setitem__") hI.typeIs slot_list_setitem
    (wpAny_call_entry slot_list_setitem hI.typeIs entry_list_setitem ?_ (args_list_setitem _ _ _)))
  show wpAny _ _ (Builtin.List.listSubscript? (.int k t) >>= _) _ _ s
  refine wpAny_bind (wpAny_listSubscript_int (fitsIndex_of h0 hfit) ?_)
  clear hfit
  obtain ⟨j, rfl⟩ := Int.eq_ofNat_of_zero_le h0
  have hj : j < vs.length := by omega
  have hx' : vs.toArray[j]? = some (nth vs j) := by simpa using nth_some hj
  show wpAny _ _ ((seqItemAt l j >>= fun r => pure (r.map (j, ·))) >>= _) _ _ s
  refine wpAny_bind (wpAny_bind (wpAny_seqItemAt hl rfl (wpAny_pure ?_)))
  rw [hx']
  show wpAny _ _ (setSeqItemAt l j v >>= _) _ _ s
  have hfin : (s.heap.update l (Obj.mapSeq (·.setIfInBounds j v))).get? l = some (lst (vs.set j v) n) := by
    rw [Heap.get?_update_self _ hl (by rw [mapSeq_set]; rfl), mapSeq_set]
  refine wpAny_bind (wpAny_setSeqItemAt hl rfl ?_)
  first
    | exact wpAny_bind (wpAny_pure (wpAny_pure ⟨.none, rfl, wpAny_pure (hQ _ hfin (Heap.SameBut.update ..))⟩))
    | exact wpAny_pure ⟨.none, rfl, wpAny_pure (hQ _ hfin (Heap.SameBut.update ..))⟩
theorem store_at {l : Addr} {vs : List Value} {n k : Nat} {t : Tok} {v : Value} {Q : Unit → Shared → Prop} (hl : s.heap.get? l = some (lst vs n)) (hk : k < vs.length) (hz : vs.length < 2 ^ 62)
    (hQ : ∀ h', h'.get? l = some (lst (vs.set k v) n) → Heap.SameBut l s.heap h' → Q () { s with heap := h' }) :
    wpAny (model PR w) A (setItem (.ref l) (.int (k : Int) t) v) Q E s :=
  store_int hl (by omega) (by omega) (by omega) (by simpa using hQ)

theorem fr_same {h h' : Heap} {l : Addr} (F : Fr g L h m) (hs : Heap.SameBut l h h') (hne : l ≠ L) (hg : g.get? l = none) : Fr g L h' m :=
  ⟨F.ns.sameBut hs (Ne.symm hne), fun a o e => (hs.2 a (fun q => by rw [q, hg] at e; cases e)).trans (F.keep a o e), F.above⟩

theorem store_N {l : Addr} {vs : List Value} {n k : Nat} {t : Tok} {v : Value} {rest : List (Addr × Obj)} {Q : Unit → Shared → Prop} (F : Fr g L s.heap m) (N : News g L s.heap ((l, lst vs n) :: rest)) (hap : ∀ p ∈ rest, p.1 ≠ l) (hk : k < vs.length) (hz : vs.length < 2 ^ 62)
    (hQ : ∀ h', Fr g L h' m → News g L h' ((l, lst (vs.set k v) n) :: rest) → Q () { s with heap := h' }) :
    wpAny (model PR w) A (setItem (.ref l) (.int (k : Int) t) v) Q E s := by
  obtain ⟨h1, h2, h3⟩ := N _ (.head _)
  refine store_at h1 hk hz fun h' hl hs => hQ h' (fr_same F hs h2 h3) fun p hp => ?_
  rcases List.mem_cons.mp hp with rfl | hp
  · exact ⟨hl, h2, h3⟩
  · obtain ⟨q1, q2, q3⟩ := N p (.tail _ hp)
    exact ⟨(hs.2 _ (hap p hp)).trans q1, q2, q3⟩

/-- numbers of places -/
theorem half_N {p : Nat} {t u : Tok} {Q : Value → Shared → Prop} (hp : 0 < p) (h : Q (.int (((p - 1) / 2 : Nat) : Int) s.toks) { s with toks := s.toks + 1 }) : wpAny (model PR w) A (binaryOp .RShift (.int ((p : Int) - 1) t) (.int 1 u)) Q E s := by
  refine PyProof.Rows.rshift_int (n := 1) (by decide) ?_
  have e : Int.fdiv ((p : Int) - 1) (2 ^ (1 : Int).toNat) = (((p - 1) / 2 : Nat) : Int) := by
    rw [Int.fdiv_eq_ediv_of_nonneg _ (by decide)]
    show ((p : Int) - 1) / 2 = _
    omega
  rw [e]; exact h
theorem succ_N {p : Nat} {t u : Tok} {Q : Value → Shared → Prop} (h : Q (.int ((p + 1 : Nat) : Int) s.toks) { s with toks := s.toks + 1 }) : wpAny (model PR w) A (binaryOp .Add (.int (p : Int) t) (.int 1 u)) Q E s :=
  PyProof.Rows.add_int (by rw [show ((p : Int) + 1) = ((p + 1 : Nat) : Int) by omega]; exact h)
theorem twice_N {p : Nat} {t u : Tok} {Q : Value → Shared → Prop} (h : Q (.int ((2 * p : Nat) : Int) s.toks) { s with toks := s.toks + 1 }) : wpAny (model PR w) A (binaryOp .Mult (.int 2 t) (.int (p : Int) u)) Q E s :=
  PyProof.Rows.mul_int (by rw [show (2 * (p : Int)) = ((2 * p : Nat) : Int) by omega]; exact h)

theorem len_N {l : Addr} {vs : List Value} {n : Nat} {Q : Value → Shared → Prop} (hl : s.heap.get? l = some (lst vs n)) (hz : vs.length < 2 ^ 62) (h : Q (.int (vs.length : Int) (s.toks + 1)) { s with toks := s.toks + 1 + 1 }) :
    wpAny (model PR w) A (call (.builtin "len") [.ref l]) Q E s :=
  PyProof.Rows.len_list (isList_lst hl) (by simp only [List.size_toArray]; omega) (by simpa using h)

/-- the comparison of two items -/
theorem cmp_items {a c one : Value} {T : String} {Q : Value → Shared → Prop} (ha : (∃ i t, a = .int i t) ∨ a = one) (hc : (∃ i t, c = .int i t) ∨ c = one) (K : Kind s.heap one T) (hh : A.handled = none) (hu : A.units < cLine)
    (hs : cm a c ≠ .stuck) (hv : ∀ r, cm a c = .val r → Q (.bool r) s)
    (hE : ∀ f, (cm a c = if f then .first else .second) → ∀ h' tk e tk', Heap.MadeExcOf s.heap h' e (.type "TypeError") [.str (ltText f T) tk'] → E (.ref e) { s with heap := h', toks := tk }) :
    wpAny (model PR w) A (compareOp .Lt a c) Q E s := by
  have nI := K.notInt
  rcases ha with ⟨i, t, rfl⟩ | rfl
  · rcases hc with ⟨j, u, rfl⟩ | rfl
    · exact PyProof.Rows.lt_int (hv _ rfl)
    · refine lt_int_stranger K hh hu fun h' tk e tk' hx => hE false ?_ h' tk e tk' hx
      cases c <;> first | rfl | exact absurd rfl (nI _ _)
  · rcases hc with ⟨j, u, rfl⟩ | rfl
    · refine lt_stranger_int K hh hu fun h' tk e tk' hx => hE true ?_ h' tk e tk' hx
      cases a <;> first | rfl | exact absurd rfl (nI _ _)
    · exfalso
      refine hs ?_
      cases c <;> first | rfl | exact absurd rfl (nI _ _)
end
end
section
abbrev rngO (a b c : Int) (t u v : Tok) : Obj := { cls := .type "range", data := .fields #[.int a t, .int b u, .int c v] }
abbrev rngI (x left step : Int) : Obj := { cls := .type "range_iterator", data := .fields #[rawInt x, rawInt left, rawInt step] }
section
variable {w : World} {A : Around} {E : Value → Shared → Prop} {s : Shared} {g : Heap} {L : Addr} {m : Str → Option Value} {news : List (Addr × Obj)}


theorem range1_N {n : Int} {t : Tok} {Q : Value → Shared → Prop} (F : Fr g L s.heap m) (N : News g L s.heap news)
    (h : ∀ r h' t1 t2, Fr g L h' m → News g L h' ((r, rngO 0 n 1 t1 t t2) :: news) → (∀ p ∈ news, p.1 ≠ r) → s.heap.get? r = none → Q (.ref r) { s with heap := h', toks := s.toks + 1 + 1 }) : wpAny (model PR w) A (call (.type "range") [.int n t]) Q E s :=
  call_range_1 (h _ _ _ _ (F.push _) (N.push F _) (News.ne_size N) (Heap.get?_none_of_le (Nat.le_refl _)))
theorem range2_N {a n : Int} {t u : Tok} {Q : Value → Shared → Prop} (F : Fr g L s.heap m) (N : News g L s.heap news)
    (h : ∀ r h' t2, Fr g L h' m → News g L h' ((r, rngO a n 1 t u t2) :: news) → (∀ p ∈ news, p.1 ≠ r) → s.heap.get? r = none → Q (.ref r) { s with heap := h', toks := s.toks + 1 }) : wpAny (model PR w) A (call (.type "range") [.int a t, .int n u]) Q E s :=
  call_range_2 (h _ _ _ (F.push _) (N.push F _) (News.ne_size N) (Heap.get?_none_of_le (Nat.le_refl _)))

theorem sub_ri_reversed : isSubtype (.type "range_iterator") (.type "reversed") = pure false := by rw [isSubtype_type]; kernel_rfl

theorem fits_small {i : Int} (h : -(2 ^ 62) ≤ i) (h' : i < 2 ^ 62) : Builtin.Range.rangeFitsLong i = true := by
  unfold Builtin.Range.rangeFitsLong
  simp only [Bool.and_eq_true, decide_eq_true_eq]
  omega

theorem range_rev_call {r : Addr} {n : Nat} {t1 t2 t3 : Tok} {Q : Value → Shared → Prop} (hr : s.heap.get? r = some (rngO 0 (n : Int) 1 t1 t2 t3)) (hn : n < 2 ^ 60)
    (h : Q (.ref s.heap.objs.size) { s with heap := s.heap.push (rngI ((n : Int) - 1) n (-1)) }) : wpAny (model PR w) A (call (.builtin "range.__reversed__") [.ref r]) Q E s := by
  have hT : s.TypeIs (.ref r) "range" := ⟨_, hr, rfl⟩
  refine wpAny_call_entry F.slot_range_reversed hT F.entry_range_reversed ?_ (F.args_range_reversed_1 _)
  unfold Builtin.«range.__reversed__»
  refine wpAny_bind (wpAny_of_eq (a := Value.ref r) rfl ?_)
  have hf : ∀ {Q' : Int × Int × Int → Shared → Prop}, Q' (0, (n : Int), 1) s → wpAny (model PR w) A.in1 (Builtin.Range.rangeFields (.ref r)) Q' E s := fun {Q'} hq => by
    unfold Builtin.Range.rangeFields
    repeat (first | with_reducible refine wpAny_field hr rfl (x := .int 0 t1) rfl ?_ | wp_step)
    exact hq
  refine wpAny_bind (hf ?_)
  have hsz : Builtin.Range.rangeSize 0 (n : Int) 1 = n := by rw [rangeSize_one]; split <;> omega
  dsimp only
  rw [hsz, fits_small (i := 0) (by decide) (by decide), fits_small (i := (n : Int)) (by omega) (by omega), fits_small (i := 1) (by decide) (by decide), fits_small (i := -1) (by decide) (by decide), fits_small (i := 0 - 1) (by decide) (by decide)]
  simp only [Bool.and_self, Bool.not_true, Bool.false_eq_true, if_false, if_true]
  unfold newFields
  refine wpAny_bind (wpAny_newObj_type ?_ (by size_fits))
  have e : (0 : Int) + ((n : Int) - 1) * 1 = (n : Int) - 1 := by omega
  rw [e]
  exact wpAny_pure ⟨_, rfl, h⟩

theorem code_reversed_range {r : Addr} {n : Nat} {t1 t2 t3 : Tok} {Q₁ : Value → Shared → Prop} (hr : s.heap.get? r = some (rngO 0 (n : Int) 1 t1 t2 t3)) (hn : n < 2 ^ 60)
    (h : Q₁ (.ref s.heap.objs.size) { s with heap := s.heap.push (rngI ((n : Int) - 1) n (-1)) }) :
    codeAny (model PR w) A (.call (.builtin "reversed.__new__") ⟨[.type "reversed", .ref r], []⟩) (wants Q₁ E) s := by
  have hT : s.TypeIs (.ref r) "range" := ⟨_, hr, rfl⟩
  refine codeAny_of_tree ?_
  show wpAny _ A.in1 (do checkBuiltinCall "reversed.__new__" ⟨[.type "reversed", .ref r], []⟩; again (.builtin "reversed.__new__" ⟨[.type "reversed", .ref r], []⟩)) _ _ s
  refine wpAny_bind (wpAny_of_eq (F.newCall_reversed_1 _) (wpAny_pure ⟨plainId_quiet F.plain_reversed_new _, codeAny_builtin F.entry_reversed_new ?_⟩))
  rw [Around.under_plainId F.plain_reversed_new _]
  unfold Builtin.«reversed.__new__»
  refine wpAny_bind (wpAny_of_eq (newClass_reversed _) ?_)
  try dsimp only
  refine wpAny_bind (wpAny_of_eq (a := ()) (by first | rfl | kernel_rfl) ?_)
  refine wpAny_bind (wpAny_of_eq (a := ()) (by first | rfl | kernel_rfl) ?_)
  try dsimp only
  refine wpAny_bind (wpAny_specialOf hT F.slot_range_reversed.lookup ?_)
  try dsimp only
  refine wpAny_bind (wpAny_of_eq (F.slot_range_reversed.bind _) ?_)
  try dsimp only
  first
  | rw [if_neg (show ¬ ((Value.builtin "range.__reversed__" == Value.none) = true) from Bool.false_ne_true)]
  | (show wpAny _ _ (if (Value.builtin "range.__reversed__" == Value.none) = true then _ else _) _ _ _; rw [if_neg (show ¬ ((Value.builtin "range.__reversed__" == Value.none) = true) from Bool.false_ne_true)])
  refine wpAny_bind (wpAny_rule ?_)
  refine wpAny_bind (m := runValue (.call (.builtin "range.__reversed__") ⟨[.ref r], []⟩)) (show wpAny _ _ (call (.builtin "range.__reversed__") [.ref r]) _ _ _ from range_rev_call hr hn ?_)
  first
  | exact wpAny_pure h
  | exact wpAny_bind (wpAny_pure (wpAny_pure h))

theorem reversed_N {r : Addr} {n : Nat} {t1 t2 t3 : Tok} {Q : Value → Shared → Prop} (F : Fr g L s.heap m) (N : News g L s.heap news) (hr : s.heap.get? r = some (rngO 0 (n : Int) 1 t1 t2 t3)) (hn : n < 2 ^ 60)
    (h : ∀ it h', Fr g L h' m → News g L h' ((it, rngI ((n : Int) - 1) n (-1)) :: news) → (∀ p ∈ news, p.1 ≠ it) → s.heap.get? it = none → Q (.ref it) { s with heap := h' }) : wpAny (model PR w) A (call (.type "reversed") [.ref r]) Q E s := by
  refine callType_other (U := "range_iterator") (Q₁ := fun obj s₁ => obj = .ref s.heap.objs.size ∧ s₁ = { s with heap := s.heap.push (rngI ((n : Int) - 1) n (-1)) }) (by decide +kernel) PySem.F.create_reversed ⟨_, _, PySem.F.mro_reversed⟩ PySem.F.made_reversed sub_ri_reversed (PySem.F.typeCall_reversed_1 _) (code_reversed_range hr hn ⟨rfl, rfl⟩) ?_
  rintro obj s₁ ⟨rfl, rfl⟩
  exact ⟨⟨_, Heap.get?_push_size _ rfl, rfl⟩, h _ _ (F.push _) (N.push F _) (News.ne_size N) (Heap.get?_none_of_le (Nat.le_refl _))⟩

theorem iter_rngI {it : Addr} {x left step : Int} {Q : Value → Shared → Prop} (hit : s.heap.get? it = some (rngI x left step)) (h : Q (.ref it) s) : wpAny (model PR w) A (pyIter (.ref it)) Q E s :=
  wpAny_pyIter_rangeiter hit h
theorem iter_rngO {r : Addr} {a : Nat} {b : Nat} {t1 t2 t3 : Tok} {Q : Value → Shared → Prop} (F : Fr g L s.heap m) (N : News g L s.heap news) (hr : s.heap.get? r = some (rngO (a : Int) (b : Int) 1 t1 t2 t3)) (ha : a < 2 ^ 60) (hb : b < 2 ^ 60)
    (h : ∀ it h', Fr g L h' m → News g L h' ((it, rngI (a : Int) ((b - a : Nat) : Int) 1) :: news) → (∀ p ∈ news, p.1 ≠ it) → s.heap.get? it = none → Q (.ref it) { s with heap := h' }) : wpAny (model PR w) A (pyIter (.ref r)) Q E s := by
  refine wpAny_pyIter_range hr (small_one (by omega) (by omega) (by omega) (by omega)) ?_
  have e : Builtin.Range.rangeSize (a : Int) (b : Int) 1 = ((b - a : Nat) : Int) := by rw [rangeSize_one]; split <;> omega
  rw [e]
  exact h _ _ (F.push _) (N.push F _) (News.ne_size N) (Heap.get?_none_of_le (Nat.le_refl _))

theorem next_N {it : Addr} {x left step : Int} {Q : Option Value → Shared → Prop} (F : Fr g L s.heap m) (N : News g L s.heap ((it, rngI x left step) :: news)) (hap : ∀ p ∈ news, p.1 ≠ it) (hleft : 0 < left)
    (h : ∀ h', Fr g L h' m → News g L h' ((it, rngI (x + step) (left - 1) step) :: news) → Q (some (.int x s.toks)) { s with heap := h', toks := s.toks + 1 }) : wpAny (model PR w) A (pyNext (.ref it)) Q E s := by
  obtain ⟨h1, h2, h3⟩ := N _ (.head _)
  refine wpAny_pyNext_range_item h1 hleft fun h' hit hs => h h' (fr_same F hs h2 h3) fun p hp => ?_
  rcases List.mem_cons.mp hp with rfl | hp
  · exact ⟨hit, h2, h3⟩
  · obtain ⟨q1, q2, q3⟩ := N p (.tail _ hp)
    exact ⟨(hs.2 _ (hap p hp)).trans q1, q2, q3⟩
theorem fr_ext {h h' : Heap} {l : Addr} (F : Fr g L h m) (hs : Heap.ExtBut l h h') (hne : l ≠ L) (hg : g.get? l = none) : Fr g L h' m :=
  ⟨F.ns.extBut hs (Ne.symm hne), fun a o e => hs a o (fun q => by rw [q, hg] at e; cases e) (F.keep a o e), F.above⟩
theorem nextEnd_N {it : Addr} {x left step : Int} {Q : Option Value → Shared → Prop} (F : Fr g L s.heap m) (N : News g L s.heap ((it, rngI x left step) :: news)) (hap : ∀ p ∈ news, p.1 ≠ it) (hh : A.handled = none) (hleft : left ≤ 0)
    (h : ∀ h', Fr g L h' m → News g L h' news → Q none { s with heap := h' }) : wpAny (model PR w) A (pyNext (.ref it)) Q E s := by
  obtain ⟨h1, h2, h3⟩ := N _ (.head _)
  refine wpAny_pyNext_range_end hh h1 hleft fun h' hs => h h' (fr_ext F hs h2 h3) fun p hp => ?_
  obtain ⟨q1, q2, q3⟩ := N p (.tail _ hp)
  exact ⟨hs _ _ (hap p hp) q1, q2, q3⟩

theorem div2_N {p : Nat} {t u : Tok} {Q : Value → Shared → Prop} (hp : p < 2 ^ 60) (h : Q (.int ((p / 2 : Nat) : Int) s.toks) { s with toks := s.toks + 1 }) : wpAny (model PR w) A (binaryOp .FloorDiv (.int (p : Int) t) (.int 2 u)) Q E s := by
  refine PyProof.Rows.floordiv_int (b := 2) (by decide) ?_ (.inl (PyProof.noPylong_small (by omega)))
  have e : Int.fdiv (p : Int) 2 = ((p / 2 : Nat) : Int) := by rw [Int.fdiv_eq_ediv_of_nonneg _ (by decide)]; omega
  rw [e]; exact h
theorem news_swap {h : Heap} {a c : Addr × Obj} {r : List (Addr × Obj)} (N : News g L h (a :: c :: r)) : News g L h (c :: a :: r) := fun p hp => by
  rcases List.mem_cons.mp hp with rfl | hp
  · exact N _ (.tail _ (.head _))
  · rcases List.mem_cons.mp hp with rfl | hp
    · exact N _ (.head _)
    · exact N _ (.tail _ (.tail _ hp))
end
end
section
section
variable {w : World} {A : Around} {E : Value → Shared → Prop} {s : Shared} {g : Heap} {L : Addr} {m : Str → Option Value} {news : List (Addr × Obj)}

theorem item_outK {value slice : Expr} {l : Addr} {n : Nat} {k : Int} {u : Tok} {Q : Value → Shared → Prop} (hA : A.handled = none) (hl : s.heap.get? l = some (lst [] n)) (h0 : 0 ≤ k) (hfit : k < 2 ^ 63)
    (hE : ∀ h' tk e tk', Heap.MadeExcOf s.heap h' e (.type "IndexError") [.str (Str.ofString "list index out of range") tk'] → E (.ref e) { s with heap := h', toks := tk })
    (hs : subscripted slice false (.ref l) (.int k u) = operate [.ref l, .int k u] (getItem (.ref l) (.int k u))) :
    wpAny (model PR w) A (subscriptTail value slice (.ref l) (.int k u)) Q E s := by
  have hI := isList_lst hl
  refine tail_any hI.typeIs slot_list_getitem.lookup ?_ hs
  unfold getItem
  try with_reducible refine wpAny_holding ?_
  first | refine wpAny_bind (wpAny_pure ?_) | skip
  refine wpAny_bind (wpAny_sequenceKey hI.typeIs (by decide) ?_)
  refine wpAny_bind (wpAny_callSpecial?_slot (name := Str.ofString "__getitem__") hI.typeIs slot_list_getitem
    (wpAny_call_entry slot_list_getitem hI.typeIs entry_list_getitem ?_ (args_list_getitem _ _)))
  show wpAny _ _ (Builtin.List.listSubscript? (.int k u) >>= _) _ _ s
  refine wpAny_bind (wpAny_listSubscript_int (fitsIndex_of h0 hfit) ?_)
  clear hfit hs
  obtain ⟨j, rfl⟩ := Int.eq_ofNat_of_zero_le h0
  have hx : ([] : List Value).toArray[j]? = none := rfl
  show wpAny _ _ ((seqItemAt l j >>= fun r => pure (r.map (j, ·))) >>= _) _ _ s
  refine wpAny_bind (wpAny_bind (wpAny_seqItemAt hl rfl (wpAny_pure ?_)))
  rw [hx]
  first
    | exact wpAny_bind (wpAny_rule (raiseWords_made plainExc_IndexError hA hE))
    | exact wpAny_bind (wpAny_rule (wpAny_bind (raiseWords_made plainExc_IndexError hA hE)))
    | exact wpAny_bind (wpAny_bind (wpAny_rule (raiseWords_made plainExc_IndexError hA hE)))
    | exact wpAny_rule (raiseWords_made plainExc_IndexError hA hE)

theorem last_app : ∀ (vs : List Value) (y : Value), kl_last (vs ++ [y]) = some (vs, y)
  | [], _ => rfl
  | x :: r, y => by
    show (match kl_last (r ++ [y]) with | some (p, z) => some (x :: p, z) | none => some ([], x)) = _
    rw [last_app r y]
theorem pop_N {l : Addr} {vs : List Value} {y : Value} {n : Nat} {Q : Value → Shared → Prop} (F : Fr g L s.heap m) (N : News g L s.heap ((l, lst (vs ++ [y]) n) :: news)) (hap : ∀ p ∈ news, p.1 ≠ l) (hz : vs.length < 1000)
    (h : ∀ h', Fr g L h' m → News g L h' ((l, lst vs (n + 1)) :: news) → Q y { s with heap := h' }) : wpAny (model PR w) A (call (.builtin "list.pop") [.ref l]) Q E s :=
  kl_pop F N (p := vs) (y := y) (by simpa using last_app vs y) (.head hap) (by rw [sizeLine_eq]; simp; omega) h
theorem method_list {l : Addr} {vs : List Value} {n : Nat} {name : Str} {id : String} {pl : Sem Bool} {Q : Value × List Value → Shared → Prop} (hl : s.heap.get? l = some (lst vs n)) (slot : Slot "list" name id) (hty : typeOf (.builtin id) = pure (.type "method_descriptor"))
    (h : Q (.builtin id, [.ref l]) s) : wpAny (model PR w) A (getMethod (.ref l) name pl) Q E s :=
  getMethod_builtin ⟨_, hl, rfl⟩ PySem.F.plainAttrs_list slot hty (fun a e => by cases e; exact ⟨_, hl, rfl⟩) h
theorem truthy_N {l : Addr} {vs : List Value} {n : Nat} {Q : Bool → Shared → Prop} (hl : s.heap.get? l = some (lst vs n)) (hz : vs.length < 1000)
    (h : Q (decide (vs ≠ [])) { s with toks := s.toks + 1 + 1 }) : wpAny (model PR w) A (truthy (.ref l)) Q E s :=
  wpAny_truthy_list (isList_lst hl) (by simp only [List.size_toArray]; omega) (by
    have e : (!vs.toArray.isEmpty) = decide (vs ≠ []) := by cases vs <;> simp
    rw [e]; exact h)
end
end
section
abbrev tup (vs : List Value) : Obj := { cls := .type "tuple", data := .seq vs.toArray }
section
variable {w : World} {A : Around} {E : Value → Shared → Prop} {s : Shared} {g : Heap} {L : Addr} {m : Str → Option Value} {news : List (Addr × Obj)}

theorem str_of_exc {X n : String} (FX : ExcStrFacts X n) {e t0 : Addr} {x : Str} {tk : Tok} {Q : Value → Shared → Prop} (hu : A.units + 10 < cLine) (he : s.heap.ExcAt e X (.ref t0)) (ht : s.heap.TupAt t0 [.str x tk]) (h : Q (.str x tk) s) :
    wpAny (model PR w) A (call (.type "str") [.ref e]) Q E s :=
  callType_new PySem.F.called_str (by decide) (PySem.F.typeCall_str_1 _) (PySem.F.newCall_str_1 _) (fun obj => PySem.F.args_object_init_2 obj _) PySem.F.entry_str_new
    (meets_str_new (S := fun A R s => A.units + 5 < cLine ∧ s.heap.ExcAt e X (.ref t0) ∧ s.heap.TupAt t0 [.str x tk] ∧ R (.ok (.ret (.str x tk))) s) fun _ _ A _ s hq =>
      strOf_exc_one FX (by have := hq.1; show A.units + 1 < cLine; omega) hq.2.1 hq.2.2.1 hq.2.2.2) ⟨by show A.units + 1 + 5 < cLine; omega, he, ht, typeIs_str _ _ _, h⟩

def IsFn (fa : Addr) (h : Heap) : Prop := ∃ o fd, h.get? fa = some o ∧ o.data = .func fd
theorem keeps_fn {M : Model} {fa : Addr} (h : Heap) (x : IsFn fa h) : ∃ k, (k = Keeper.frame ∨ k = Keeper.machine ∨ k = Keeper.boundFrame) ∧ Looks M h (keeperOf (.ref fa)) k := by
  obtain ⟨o, fd, ho, hd⟩ := x
  obtain ⟨c, dd, dt, sl⟩ := o
  dsimp only at hd
  subst hd
  exact ⟨.frame, .inl rfl, (Looks.ld (part := none) ho).andThen .now⟩
theorem callWith_fn {M : Model} {env : Env} {pos : Pos} {fa : Addr} {first : List Value} {e : Expr} {rest : List Expr} {Q : Value → Shared → Prop}
    (h : wpAny M A (spliced (backTo pos (starEach (e :: rest) env))) (fun vs s₁ => IsFn fa s₁.heap ∧ wpAny M A (call (.ref fa) (first ++ vs)) Q E s₁) E s)
    (he : starEach (e :: rest) env = (false, eval e env) :: starEach rest env) (hplain : (backTo pos (starEach rest env)).any (·.1) = false) :
    wpAny M A (callWith pos (.ref fa) first (backTo pos (starEach (e :: rest) env)) []) Q E s := by
  rw [he] at h ⊢
  exact callWith_of (by show ((false || (backTo pos (starEach rest env)).any (·.1)) || false) = false; rw [hplain]; rfl) (keeps_fn (fa := fa)) (evalArgs_plain h)

theorem tup_N {vs : List Value} {Q : Value → Shared → Prop} (F : Fr g L s.heap m) (N : News g L s.heap news) (hz : vs.length ≤ 100)
    (h : ∀ r h', Fr g L h' m → News g L h' ((r, tup vs) :: news) → (∀ p ∈ news, p.1 ≠ r) → s.heap.get? r = none → Q (.ref r) { s with heap := h' }) : wpAny (model PR w) A (newTuple vs) Q E s :=
  newTuple_N F N (fun h' F' N' => h _ h' F' N' (News.ne_size N) (Heap.get?_none_of_le (Nat.le_refl _))) (by rw [sizeLine_eq]; omega)
theorem lst_N {vs : List Value} {Q : Value → Shared → Prop} (F : Fr g L s.heap m) (N : News g L s.heap news) (hz : vs.length ≤ 1000)
    (h : ∀ r h', Fr g L h' m → News g L h' ((r, lst vs 0) :: news) → (∀ p ∈ news, p.1 ≠ r) → s.heap.get? r = none → Q (.ref r) { s with heap := h' }) : wpAny (model PR w) A (newList vs) Q E s :=
  newList_N F N (fun h' F' N' => h _ h' F' N' (News.ne_size N) (Heap.get?_none_of_le (Nat.le_refl _))) (by rw [sizeLine_eq]; omega)
theorem cat_N {x y : Str} {t u : Tok} {Q : Value → Shared → Prop} (hx : x.length ≤ 1000) (hy : y.length ≤ 1000) (h : ∀ t' tk, Q (.str (x ++ y) t') { s with toks := tk }) : wpAny (model PR w) A (binaryOp .Add (.str x t) (.str y u)) Q E s :=
  PyProof.Rows.add_str h (by rw [sizeLine_eq]; omega)
end
def wordsS (f g : Str) : Str := Str.ofString "'<' not supported between instances of '" ++ f ++ Str.ofString "' and '" ++ g ++ Str.ofString "'"
end
section
theorem if_tt {p q : Prop} {inst : Decidable (true = true)} (h : p) : if true = true then p else q := by rw [if_pos rfl]; exact h
theorem if_ff {p q : Prop} {inst : Decidable (false = true)} (h : q) : if false = true then p else q := by rw [if_neg Bool.false_ne_true]; exact h
section
variable {w : World} {A : Around} {E : Value → Shared → Prop} {s : Shared} {g : Heap} {L : Addr} {m : Str → Option Value} {news : List (Addr × Obj)}
theorem sub1_N {p : Nat} {t u : Tok} {Q : Value → Shared → Prop} (hp : 0 < p) (h : Q (.int ((p - 1 : Nat) : Int) s.toks) { s with toks := s.toks + 1 }) : wpAny (model PR w) A (binaryOp .Sub (.int (p : Int) t) (.int 1 u)) Q E s :=
  PyProof.Rows.sub_int' (by rw [show ((p : Int) - 1) = ((p - 1 : Nat) : Int) by omega]; exact h)
theorem shr1_N {p : Nat} {t u : Tok} {Q : Value → Shared → Prop} (h : Q (.int ((p / 2 : Nat) : Int) s.toks) { s with toks := s.toks + 1 }) : wpAny (model PR w) A (binaryOp .RShift (.int (p : Int) t) (.int 1 u)) Q E s := by
  refine PyProof.Rows.rshift_int (n := 1) (by decide) ?_
  have e : Int.fdiv (p : Int) (2 ^ (1 : Int).toNat) = ((p / 2 : Nat) : Int) := by
    rw [Int.fdiv_eq_ediv_of_nonneg _ (by decide)]
    show (p : Int) / 2 = _
    omega
  rw [e]; exact h
theorem add_N {p q : Nat} {t u : Tok} {Q : Value → Shared → Prop} (h : Q (.int ((p + q : Nat) : Int) s.toks) { s with toks := s.toks + 1 }) : wpAny (model PR w) A (binaryOp .Add (.int (p : Int) t) (.int (q : Int) u)) Q E s :=
  PyProof.Rows.add_int (by rw [show ((p : Int) + (q : Int)) = ((p + q : Nat) : Int) by omega]; exact h)
theorem add2_N {p : Nat} {t u : Tok} {Q : Value → Shared → Prop} (h : Q (.int ((p + 2 : Nat) : Int) s.toks) { s with toks := s.toks + 1 }) : wpAny (model PR w) A (binaryOp .Add (.int (p : Int) t) (.int 2 u)) Q E s :=
  PyProof.Rows.add_int (by rw [show ((p : Int) + 2) = ((p + 2 : Nat) : Int) by omega]; exact h)
theorem add3_N {p : Nat} {t u : Tok} {Q : Value → Shared → Prop} (h : Q (.int ((p + 3 : Nat) : Int) s.toks) { s with toks := s.toks + 1 }) : wpAny (model PR w) A (binaryOp .Add (.int (p : Int) t) (.int 3 u)) Q E s :=
  PyProof.Rows.add_int (by rw [show ((p : Int) + 3) = ((p + 3 : Nat) : Int) by omega]; exact h)
theorem mod2_N {p : Nat} {t u : Tok} {Q : Value → Shared → Prop} (h : Q (.int ((p % 2 : Nat) : Int) s.toks) { s with toks := s.toks + 1 }) : wpAny (model PR w) A (binaryOp .Mod (.int (p : Int) t) (.int 2 u)) Q E s :=
  PyProof.Rows.mod_int' (by decide) (by rw [show Int.fmod (p : Int) 2 = ((p % 2 : Nat) : Int) by rw [Int.fmod_eq_emod_of_nonneg _ (by decide)]; omega]; exact h)
theorem mod6_N {p : Nat} {t u : Tok} {Q : Value → Shared → Prop} (h : Q (.int ((p % 6 : Nat) : Int) s.toks) { s with toks := s.toks + 1 }) : wpAny (model PR w) A (binaryOp .Mod (.int (p : Int) t) (.int 6 u)) Q E s :=
  PyProof.Rows.mod_int' (by decide) (by rw [show Int.fmod (p : Int) 6 = ((p % 6 : Nat) : Int) by rw [Int.fmod_eq_emod_of_nonneg _ (by decide)]; omega]; exact h)
theorem eq_N {p q : Nat} {t u : Tok} {Q : Value → Shared → Prop} (h : Q (.bool (decide (p = q))) s) : wpAny (model PR w) A (compareOp .Eq (.int (p : Int) t) (.int (q : Int) u)) Q E s := by
  refine PyProof.Rows.eq_int ?_
  rw [show ((p : Int) == (q : Int)) = decide (p = q) by by_cases e : p = q <;> simp [e] <;> omega]
  exact h
theorem eq1_N {p : Nat} {t u : Tok} {Q : Value → Shared → Prop} (h : Q (.bool (decide (p = 1))) s) : wpAny (model PR w) A (compareOp .Eq (.int (p : Int) t) (.int 1 u)) Q E s := by
  refine PyProof.Rows.eq_int ?_
  rw [show ((p : Int) == 1) = decide (p = 1) by by_cases e : p = 1 <;> simp [e]; omega]
  exact h
theorem lt_N {p q : Nat} {t u : Tok} {Q : Value → Shared → Prop} (h : Q (.bool (decide (p < q))) s) : wpAny (model PR w) A (compareOp .Lt (.int (p : Int) t) (.int (q : Int) u)) Q E s := by
  refine PyProof.Rows.lt_int ?_
  rw [show decide ((p : Int) < (q : Int)) = decide (p < q) by simp]
  exact h

theorem item_last {value slice : Expr} {l : Addr} {vs : List Value} {n : Nat} {u : Tok} {Q : Value → Shared → Prop} (hl : s.heap.get? l = some (lst vs n)) (hk : 0 < vs.length) (hz : vs.length < 1000) (h : Q (nth vs (vs.length - 1)) s)
    (hs : subscripted slice false (.ref l) (.int (-1) u) = operate [.ref l, .int (-1) u] (getItem (.ref l) (.int (-1) u))) :
    wpAny (model PR w) A (subscriptTail value slice (.ref l) (.int (-1) u)) Q E s := by
  have hI := isList_lst hl
  refine tail_any hI.typeIs slot_list_getitem.lookup (wpAny_getItem_list_neg hI (by decide) ?_ (by decide) ?_ h) hs
  · simp only [List.size_toArray]; omega
  · have e : ((-1 : Int) + (vs.toArray.size : Int)).toNat = vs.length - 1 := by simp only [List.size_toArray]; omega
    rw [e]
    simpa using nth_some (show vs.length - 1 < vs.length by omega)
theorem append_N {l : Addr} {vs : List Value} {n : Nat} {x : Value} {Q : Value → Shared → Prop} (F : Fr g L s.heap m) (N : News g L s.heap ((l, lst vs n) :: news)) (hap : ∀ p ∈ news, p.1 ≠ l) (hz : vs.length < 1000)
    (h : ∀ h', Fr g L h' m → News g L h' ((l, lst (vs ++ [x]) (n + 1)) :: news) → Q .none { s with heap := h' }) : wpAny (model PR w) A (call (.builtin "list.append") [.ref l, x]) Q E s :=
  append_K F N (.head hap) (fun h' F' N' => h h' F' (by simpa using N')) (by rw [sizeLine_eq]; simp; omega)
theorem copy_N {l : Addr} {vs : List Value} {n : Nat} {Q : Value → Shared → Prop} (F : Fr g L s.heap m) (N : News g L s.heap news) (hl : s.heap.get? l = some (lst vs n)) (hz : vs.length < 1000)
    (h : ∀ r c h', Fr g L h' m → News g L h' ((r, lst vs c) :: news) → (∀ p ∈ news, p.1 ≠ r) → s.heap.get? r = none → Q (.ref r) { s with heap := h' }) : wpAny (model PR w) A (call (.type "list") [.ref l]) Q E s :=
  call_list_seq l (.inl rfl) hl rfl rfl (fun h' c' hk hD => h s.heap.objs.size c' h' (F.keeps hk) (news_pushed F N hk hD rfl) (News.ne_size N) (Heap.get?_none_of_le (Nat.le_refl _))) (by rw [sizeLine_eq]; simp; omega)
end
/-- a list of places -/
def NA (ws : List Value) (ns : List Nat) : Prop := ws.length = ns.length ∧ ∀ i, i < ns.length → ∃ t, nth ws i = .int ((ns.getD i 0 : Nat) : Int) t
theorem nth_append_left {a c : List Value} {i : Nat} (h : i < a.length) : nth (a ++ c) i = nth a i := by simp [nth, List.getD, List.getElem?_append, h]
theorem nth_append_last {a : List Value} {x : Value} : nth (a ++ [x]) a.length = x := by simp [nth, List.getD]
theorem NA.append {ws : List Value} {ns : List Nat} (h : NA ws ns) (k : Nat) (t : Tok) : NA (ws ++ [.int (k : Int) t]) (ns ++ [k]) := by
  refine ⟨by simp [h.1], fun i hi => ?_⟩
  by_cases e : i < ns.length
  · obtain ⟨u, hu⟩ := h.2 i e
    refine ⟨u, ?_⟩
    rw [nth_append_left (by rw [h.1]; exact e), hu]
    simp [List.getD, List.getElem?_append, e]
  · have ei : i = ns.length := by simp at hi; omega
    subst ei
    refine ⟨t, ?_⟩
    rw [← h.1, nth_append_last]
    simp [List.getD, h.1]
end
section
def ltB (a c : Value) : Bool := match cm a c with
  | .val r => r
  | _ => false
def wayStep (hs : List Value) (way : List Nat) (k : Nat) : List Nat :=
  if (k - 1) / 2 = way.getD (way.length - 1) 0 ∧ (k - 1 + k % 2 + 1 = hs.length ∨ ltB (nth hs (k - 1 + k % 2 + 1)) (nth hs (k - 1 + k % 2)) = decide (k = k - 1 + k % 2)) then way ++ [k] else way
def wayTo (hs : List Value) : Nat → List Nat
  | 0 => [0]
  | j + 1 => wayStep hs (wayTo hs j) (j + 1)
def rowTo (hs : List Value) (way : List Nat) : Nat → List Value
  | 0 => hs
  | j + 1 => (rowTo hs way j).set (way.getD j 0) (nth hs (way.getD (j + 1) 0))
def lostRow (hs : List Value) (one : Value) : List Value :=
  (rowTo hs (wayTo hs (hs.length - 1)) ((wayTo hs (hs.length - 1)).length - 1)).set ((wayTo hs (hs.length - 1)).getD ((wayTo hs (hs.length - 1)).length - 1) 0) one

theorem wayTo_pos (hs : List Value) : ∀ j, 0 < (wayTo hs j).length
  | 0 => by simp [wayTo]
  | j + 1 => by
    have := wayTo_pos hs j
    simp only [wayTo, wayStep]
    split
    · simp
    · exact this
theorem wayTo_len (hs : List Value) : ∀ j, (wayTo hs j).length ≤ j + 1
  | 0 => by simp [wayTo]
  | j + 1 => by
    have := wayTo_len hs j
    simp only [wayTo, wayStep]
    split
    · simp; exact this
    · omega
theorem wayTo_le (hs : List Value) : ∀ j, ∀ p ∈ wayTo hs j, p ≤ j
  | 0, p, h => by simp [wayTo] at h; omega
  | j + 1, p, h => by
    simp only [wayTo, wayStep] at h
    split at h
    · rcases List.mem_append.mp h with h | h
      · have := wayTo_le hs j p h; omega
      · simp at h; omega
    · have := wayTo_le hs j p h; omega
theorem rowTo_len (hs : List Value) (way : List Nat) : ∀ j, (rowTo hs way j).length = hs.length
  | 0 => rfl
  | j + 1 => by simp [rowTo, rowTo_len hs way j]
theorem getD_lt {ns : List Nat} {n i : Nat} (h : ∀ p ∈ ns, p < n) (hi : i < ns.length) : ns.getD i 0 < n := by
  have e : ns.getD i 0 = ns[i] := by simp [List.getD, List.getElem?_eq_getElem hi]
  rw [e]; exact h _ (List.getElem_mem hi)
/-- all are ints -/
def Ints (vs : List Value) : Prop := ∀ v ∈ vs, ∃ i t, v = .int i t
theorem Ints.els {vs : List Value} (h : Ints vs) (one : Value) : Els one vs := fun v hv => .inl (h v hv)
theorem cm_ints {a c : Value} (ha : ∃ i t, a = .int i t) (hc : ∃ i t, c = .int i t) : cm a c = .val (ltB a c) := by
  obtain ⟨i, t, rfl⟩ := ha
  obtain ⟨j, u, rfl⟩ := hc
  rfl
theorem cmp_ints {w : World} {A : Around} {E : Value → Shared → Prop} {s : Shared} {a c : Value} {Q : Value → Shared → Prop} (ha : ∃ i t, a = .int i t) (hc : ∃ i t, c = .int i t) (h : Q (.bool (ltB a c)) s) : wpAny (model PR w) A (compareOp .Lt a c) Q E s := by
  obtain ⟨i, t, rfl⟩ := ha
  obtain ⟨j, u, rfl⟩ := hc
  exact PyProof.Rows.lt_int h
end
section
/-- entering a def with one cell -/
theorem enterC {w : World} {mean : ExcName → Option Value} {mg mb : Str → Option Value} {b : Heap} {A : Around} {envs : List Env} {k : Nat} {s : Shared} {Q E : Value → Shared → Prop} {name qual : Str} {params : Arguments} {body : List Stmt} {scope : Scope} {dV kV doc pm cdv ct oc : Value} {an od : Option Addr} {osl : Array (Option Value)} {f : Addr} {vals : List Value} {binds : List (Str × Value)}
    (C : Cx w mean mg mb b A envs (k + 1) s.heap) (S : List Addr) (hS : ∀ a ∈ S, a ∉ frs envs ∧ b.get? a = none) (cx : Str) (v0 : Value) (m0 : Str → Option Value)
    (ho : (Mine.hd.heap_39 w.params).lookup f = some ⟨oc, od, .func (fnOf name qual params body scope dV kV doc pm an cdv ct), osl⟩) (hcd : codeIn (Mine.hd.heap_39 w.params) cdv qual = true)
    (hbind : BindsTo s (fnOf name qual params body scope dV kV doc pm an cdv ct) ⟨vals, []⟩ binds)
    (hkinds : (binds.all fun y => scope.names.lookup y.1 == some .local || scope.names.lookup y.1 == some .cell) = true)
    (hcells : ∀ n, cellsFrom n scope.names [] = [(cx, n)]) (hm0 : ∀ L, bindL (envX qual scope L f cdv [(cx, L + 1)]).kindOf binds (fun _ => none) = m0) (hc0 : ∀ L, bindC (envX qual scope L f cdv [(cx, L + 1)]).kindOf binds (fun _ => none) cx = some v0)
    (hco : scope.isCoroutine = false) (hgen : scope.isGenerator = false) (hk : scope.kind = .function)
    (h : ∀ L h₁ tk o1, L = s.heap.objs.size → s.heap.StaysIn h₁ → Body w mean mg mb b (A.deeper (envX qual scope L f cdv [(cx, L + 1)])) (envX qual scope L f cdv [(cx, L + 1)]) envs k L S s.heap h₁ →
      Fr (cut h₁ s.heap S) L h₁ m0 → (Mine.hd.heap_39 w.params).In (cut h₁ s.heap S) → TopB mean mg mb (cut h₁ s.heap S) → o1.data = .cell (some v0) → News (cut h₁ s.heap S) L h₁ [(L + 1, o1)] →
      wpAny (model PR w) (A.deeper (envX qual scope L f cdv [(cx, L + 1)])) (execs body (envX qual scope L f cdv [(cx, L + 1)]))
        (fun fl s' => Q (match fl with | .ret v => v | _ => .none) s')
        (fun e s' => wpAny (model PR w) (A.deeper (envX qual scope L f cdv [(cx, L + 1)])) (leaving (envX qual scope L f cdv [(cx, L + 1)]) e) (fun _ s'' => E e s'') E s')
        { s with heap := h₁, toks := tk }) : wpAny (model PR w) A (call (.ref f) vals) Q E s := by
  have X' := C.X.keeps C.hb
  refine wpAny_call (codeAny_call_function (by have := C.dp; omega) (X' _ _ ho) rfl hco hgen rfl (codeRec_of X' hcd) (hbind _ _ _ _ ?_))
  refine wpAny_newFunctionEnv_cells hk (kindsX hkinds _) fun env' he s' x => ?_
  subst he
  obtain ⟨h₁, tk, rfl, _⟩ := x.done
  have hk₁ := x.toInCall.keep
  have hns := x.toInCall.ns
  have hcell := x.cell cx (s.heap.objs.size + 1) (by show (cellsFrom (s.heap.objs.size + 1) scope.names []).lookup cx = _; rw [hcells]; simp)
  refine ⟨(C.T.nolimit.keeps C.hb).keeps hk₁, codeAny_func ?_⟩
  have nb : b.get? s.heap.objs.size = none := by
    cases q : b.get? s.heap.objs.size with
    | none => rfl
    | some o => exact absurd (Heap.lt_size (C.hb _ _ q)) (Nat.lt_irrefl _)
  have eenv : newEnv scope s.heap.objs.size mainGlobals (cellsFrom (s.heap.objs.size + 1) scope.names []) (qual ++ ".<locals>.") (some f) cdv none builtinsNs = envX qual scope s.heap.objs.size f cdv [(cx, s.heap.objs.size + 1)] := by
    rw [hcells]; rfl
  dsimp only at hns hcell ⊢
  rw [eenv] at hns hcell ⊢
  have hns : h₁.Ns s.heap.objs.size m0 := by rw [← hm0 s.heap.objs.size]; exact hns
  rw [hc0] at hcell
  obtain ⟨o1, ho1, hd1⟩ := hcell
  have hff : h₁.FunFrames b (envX qual scope s.heap.objs.size f cdv [(cx, s.heap.objs.size + 1)] :: envs) := by
    obtain ⟨oL, es, ep, hL, hLd, _⟩ := hns
    exact ⟨by show scope.kind ≠ .module; rw [hk]; decide, ⟨_, oL, rfl, nb, hL, fun vs q => by rw [hLd] at q; cases q⟩, funFrames_to C.ff fun a _ o e => ⟨o.slots, hk₁ _ _ e⟩⟩
  have B : Body w mean mg mb b (A.deeper (envX qual scope s.heap.objs.size f cdv [(cx, s.heap.objs.size + 1)])) (envX qual scope s.heap.objs.size f cdv [(cx, s.heap.objs.size + 1)]) envs k s.heap.objs.size S s.heap h₁ :=
    { C := { X := C.X, T := C.T, fr := Around.frames_deeper C.fr, hd := C.hd, dp := by have := C.dp; show A.depth + 1 + k < _; omega, un := by have := C.un; show A.units + 3 + 10 * k + 100 < _; omega, hb := fun a o e => hk₁ _ _ (C.hb _ _ e), ff := hff }
      envF := rfl, b0 := C.hb, f0 := fun a ha => let ⟨_, o, ho, _⟩ := C.ff.mem ha; ⟨o, ho⟩, hS := hS, R := Rel.of_stays fun _ _ e => hk₁ _ _ e, h0L := Nat.le_refl _ }
  refine h _ h₁ tk o1 rfl (fun _ _ e => hk₁ _ _ e) B ⟨hns, fun _ _ e => (cut_iff.mp e).2.2, by rw [cut_size]; exact Nat.le_refl _⟩ B.X B.T hd1 fun p hp => ?_
  rcases List.mem_singleton.mp hp with rfl
  exact ⟨ho1, Nat.succ_ne_self _, hid_cut (.inr (Heap.get?_none_of_le (Nat.le_succ _)))⟩
end
section
section
variable {w : World} {A : Around} {E : Value → Shared → Prop} {s : Shared} {g : Heap} {L : Addr} {m : Str → Option Value} {news : List (Addr × Obj)}

/-- an iterator over a list -/
def IsLI (o : Obj) (l : Addr) (i : Nat) : Prop := o.cls = .type "list_iterator" ∧ o.data = .fields #[.ref l, .int i 0]
theorem iterL_N {l : Addr} {vs : List Value} {n : Nat} {Q : Value → Shared → Prop} (F : Fr g L s.heap m) (N : News g L s.heap news) (hl : s.heap.get? l = some (lst vs n))
    (h : ∀ it o h', IsLI o l 0 → Fr g L h' m → News g L h' ((it, o) :: news) → (∀ p ∈ news, p.1 ≠ it) → s.heap.get? it = none → Q (.ref it) { s with heap := h' }) : wpAny (model PR w) A (pyIter (.ref l)) Q E s :=
  wpAny_pyIter_list (isList_lst hl) (h _ _ _ ⟨rfl, rfl⟩ (F.push _) (N.push F _) (News.ne_size N) (Heap.get?_none_of_le (Nat.le_refl _)))
theorem nextL_N {it l : Addr} {o : Obj} {vs : List Value} {n i : Nat} {Q : Option Value → Shared → Prop} (F : Fr g L s.heap m) (N : News g L s.heap ((it, o) :: news)) (hap : ∀ p ∈ news, p.1 ≠ it) (ho : IsLI o l i) (hl : s.heap.get? l = some (lst vs n)) (hi : i < vs.length)
    (h : ∀ h' o', IsLI o' l (i + 1) → Fr g L h' m → News g L h' ((it, o') :: news) → Heap.SameBut it s.heap h' → Q (some (nth vs i)) { s with heap := h' }) : wpAny (model PR w) A (pyNext (.ref it)) Q E s := by
  obtain ⟨h1, h2, h3⟩ := N _ (.head _)
  refine wpAny_pyNext_list_item (l := l) (i := i) (items := vs.toArray) (x := nth vs i) ⟨o, h1, ho⟩ (isList_lst hl) (by simpa using nth_some hi) fun h' hit hs => ?_
  obtain ⟨o', e1, e2⟩ := hit
  refine h h' o' e2 (fr_same F hs h2 h3) (fun p hp => ?_) hs
  rcases List.mem_cons.mp hp with rfl | hp
  · exact ⟨e1, h2, h3⟩
  · obtain ⟨q1, q2, q3⟩ := N p (.tail _ hp)
    exact ⟨(hs.2 _ (hap p hp)).trans q1, q2, q3⟩
theorem nextLEnd_N {it l : Addr} {o : Obj} {vs : List Value} {n i : Nat} {Q : Option Value → Shared → Prop} (F : Fr g L s.heap m) (N : News g L s.heap ((it, o) :: news)) (hap : ∀ p ∈ news, p.1 ≠ it) (hh : A.handled = none) (ho : IsLI o l i) (hl : s.heap.get? l = some (lst vs n)) (hi : vs.length ≤ i)
    (h : ∀ h', Fr g L h' m → News g L h' news → Q none { s with heap := h' }) : wpAny (model PR w) A (pyNext (.ref it)) Q E s := by
  obtain ⟨h1, h2, h3⟩ := N _ (.head _)
  refine wpAny_pyNext_list_end hh (l := l) (i := i) (items := vs.toArray) ⟨o, h1, ho⟩ (isList_lst hl) (by simpa using hi) fun h' hs => h h' (fr_ext F hs h2 h3) fun p hp => ?_
  obtain ⟨q1, q2, q3⟩ := N p (.tail _ hp)
  exact ⟨hs _ _ (hap p hp) q1, q2, q3⟩

theorem kl_cut_at : ∀ (vs : List Value) (k : Nat), k < vs.length → kl_cut vs k = some (vs.take k, nth vs k, vs.drop (k + 1))
  | [], _, h => absurd h (Nat.not_lt_zero _)
  | x :: r, 0, _ => rfl
  | x :: r, k + 1, h => by
    show (match kl_cut r k with | some (p, y, q) => some (x :: p, y, q) | none => none) = _
    rw [kl_cut_at r k (by simpa using h)]
    simp [nth]
theorem popAt_N {l : Addr} {vs : List Value} {n k : Nat} {i : Int} {u : Tok} {Q : Value → Shared → Prop} (F : Fr g L s.heap m) (N : News g L s.heap ((l, lst vs n) :: news)) (hap : ∀ p ∈ news, p.1 ≠ l) (hk : k < vs.length) (hik : i = (k : Int)) (hz : vs.length < 1000)
    (h : ∀ h', Fr g L h' m → News g L h' ((l, lst (vs.take k ++ vs.drop (k + 1)) (n + 1)) :: news) → Q (nth vs k) { s with heap := h' }) : wpAny (model PR w) A (call (.builtin "list.pop") [.ref l, .int i u]) Q E s := by
  subst hik
  refine kl_popAt F N (k := k) (p := vs.take k) (y := nth vs k) (q := vs.drop (k + 1)) (fitsIndex_of (by omega) (by omega)) ?_ (by simpa using kl_cut_at vs k hk) (.head hap) (by rw [sizeLine_eq]; simp; omega) h
  unfold seqIndex?
  simp only [List.size_toArray]
  have e1 : ¬ ((k : Int) < 0) := by omega
  simp [e1, hk]
theorem ext_N {l b : Addr} {vs ws : List Value} {n c : Nat} {Q : Value → Shared → Prop} (F : Fr g L s.heap m) (N : News g L s.heap ((l, lst vs n) :: news)) (hap : ∀ p ∈ news, p.1 ≠ l) (hb : (b, lst ws c) ∈ news) (hz : vs.length + ws.length < 1000)
    (h : ∀ h' n', Fr g L h' m → News g L h' ((l, lst (vs ++ ws) n') :: news) → Q .none { s with heap := h' }) : wpAny (model PR w) A (call (.builtin "list.extend") [.ref l, .ref b]) Q E s := by
  have hno : ¬ ((!vs.toArray.isEmpty && Builtin.List.listTooLong (vs.toArray.size + ws.toArray.size)) = true) := by
    simp only [Builtin.List.listTooLong, Bool.and_eq_true, decide_eq_true_eq, sizeLine_eq, List.size_toArray]; omega
  by_cases e : ws = []
  · subst e
    exact kxn_extend F N (.tail _ hb) rfl (.head hap) hno (by rw [sizeLine_eq]; simp; omega) (by rw [sizeLine_eq]; simp; omega) fun h' F' N' => h h' _ F' (by simpa using N')
  · exact kl_extend F N (.tail _ hb) (l := vs ++ ws) (by simp) (by simpa using e) (.head hap) hno (by rw [sizeLine_eq]; simp; omega) (by rw [sizeLine_eq]; simp; omega) fun h' F' N' => h h' _ F' N'

/-- a comprehension over a row: its turns -/
theorem comp_row {ax : Addr} {vs : List Value} {env : Env} {scope : Scope} {cl : List (Str × Addr)} {x : Str} {ifs : List Expr} {elt : Expr} {p : Value → Bool} {Q : Value → Shared → Prop} (F : Fr g L s.heap m) (N : News g L s.heap news) (hh : A.handled = none)
    (hl : (∃ n, s.heap.get? ax = some (lst vs n)) ∨ s.heap.get? ax = some (tup vs)) (hz : vs.length < 1000)
    (htest : ∀ C v (s₃ : Shared) m₃ E', v ∈ vs → s₃.heap.Ns C m₃ → m₃ x = some v → Fr g L s₃.heap m → News g L s₃.heap news →
      wpAny (model PR w) A (forIn ifs true fun c r => if r = true then do let ok ← isTrue c (compEnvC scope cl C env) (eval c (compEnvC scope cl C env)); pure (ForInStep.yield ok) else pure (ForInStep.yield r)) (fun ok s₄ => ok = p v ∧ Keeps s₃ s₄) E' s₃)
    (helt : ∀ C v (s₃ : Shared) m₃ E', v ∈ vs → s₃.heap.Ns C m₃ → m₃ x = some v → wpAny (model PR w) A (eval elt (compEnvC scope cl C env)) (fun y s₄ => v = y ∧ Keeps s₃ s₄) E' s₃)
    (hQ : ∀ D c h' tk, Fr g L h' m → News g L h' ((D, lst (vs.filter p) c) :: news) → (∀ p ∈ news, p.1 ≠ D) → s.heap.get? D = none → Q (.ref D) { s with heap := h', toks := tk }) :
    wpAny (model PR w) A (pyIter (.ref ax)) (fun it s₂ => ∃ I fp wr n P St, it = .ref I ∧ Walks PR w A I fp wr n P St ∧ n ≤ sizeLine ∧ St 0 s₂.heap ∧ (∀ b ∈ fp, b < s₂.heap.objs.size) ∧
      QuietOnC PR w A env scope cl x ifs elt wr P p (fun v y => v = y) s₂ ∧
      (∀ D h' tk ys (vs : List Value), s₂.heap.get? D = none → h'.IsList D ys → h'.PlainList D ys → vs.length = n → (∀ j v, vs[j]? = some v → P j v) → Paired (fun v y => v = y) (vs.filter p) ys.toList →
        (∀ b o, b ∉ wr → s₂.heap.get? b = some o → h'.get? b = some o) → Q (.ref D) { s₂ with heap := h', toks := tk })) E s := by
  have hax : ax < s.heap.objs.size := by
    rcases hl with ⟨n, e⟩ | e
    · exact Heap.lt_size e
    · exact Heap.lt_size e
  have old : ∀ (oi : Obj) (h' : Heap), (∀ b o, b ∉ [s.heap.objs.size] → (s.heap.push oi).get? b = some o → h'.get? b = some o) → ∀ b o, s.heap.get? b = some o → h'.get? b = some o := fun oi h' k b o e =>
    k b o (by simpa using Nat.ne_of_lt (Heap.lt_size e)) (Heap.get?_push_of_some _ e)
  have paired : ∀ (l₁ l₂ : List Value), Paired (fun v y => v = y) l₁ l₂ → l₁ = l₂ := fun l₁ l₂ h => by
    induction h with
    | nil => rfl
    | cons a _ ih => rw [a, ih]
  have fin : ∀ (oi : Obj), oi.isFreed = false → (∀ D h' tk ys (vs' : List Value), (s.heap.push oi).get? D = none → h'.IsList D ys → h'.PlainList D ys → vs'.length = vs.toArray.size → (∀ j v, vs'[j]? = some v → vs.toArray[j]? = some v) → Paired (fun v y => v = y) (vs'.filter p) ys.toList →
        (∀ b o, b ∉ [s.heap.objs.size] → (s.heap.push oi).get? b = some o → h'.get? b = some o) → Q (.ref D) { s with heap := h', toks := tk }) := fun oi hoi D h' tk ys vs' hD hl' hpl hlen hP hF hk => by
    have e1 : vs' = vs := by simpa using list_of_places hlen hP
    subst e1
    have e2 := paired _ _ hF
    obtain ⟨c, ec⟩ := hpl
    have hy : ys = (vs'.filter p).toArray := by rw [e2]
    rw [hy] at ec
    have hD' : s.heap.get? D = none := by
      cases q : s.heap.get? D with
      | none => rfl
      | some o => rw [Heap.get?_push_of_some _ q] at hD; cases hD
    have kk := old oi h' hk
    refine hQ D c h' tk (F.kept kk) (fun q hq => ?_) (fun q hq e => ?_) hD'
    · rcases List.mem_cons.mp hq with rfl | hq
      · refine ⟨ec, fun e => ?_, ?_⟩
        · obtain ⟨oL, _, _, hL, _⟩ := F.ns
          rw [← e, hD'] at hL; cases hL
        · cases q : g.get? D with
          | none => rfl
          | some o => have := F.keep _ _ q; rw [hD'] at this; cases this
      · exact ⟨kk _ _ (N q hq).1, (N q hq).2⟩
    · have := (N q hq).1
      rw [e, hD'] at this; cases this
  have quiet : ∀ (oi : Obj), QuietOnC PR w A env scope cl x ifs elt [s.heap.objs.size] (fun i v => vs.toArray[i]? = some v) p (fun v y => v = y) { s with heap := s.heap.push oi } := fun oi =>
    { tests := fun C i v s₃ m₃ E' _ hv hn hm hk _ => htest C v s₃ m₃ E' (List.mem_of_getElem? (by simpa using hv)) hn hm (F.kept (old oi _ hk)) (fun p hp => ⟨old oi _ hk _ _ (N p hp).1, (N p hp).2⟩)
      elt := fun C i v s₃ m₃ E' _ hv _ hn hm hk _ => helt C v s₃ m₃ E' (List.mem_of_getElem? (by simpa using hv)) hn hm }
  rcases hl with ⟨n, e⟩ | e
  · refine wpAny_pyIter_list (isList_lst e) ?_
    refine ⟨s.heap.objs.size, _, _, _, _, _, rfl, Walks.list hh _ ax (Nat.ne_of_lt hax) vs.toArray, by rw [sizeLine_eq]; simp; omega, ⟨⟨_, Heap.get?_push_size _ rfl, rfl, rfl⟩, ⟨_, Heap.get?_push_of_some _ e, rfl, n, rfl⟩⟩, ?_, quiet _, fin _ rfl⟩
    intro b hb
    rw [Heap.size_push]
    rcases List.mem_cons.mp hb with rfl | hb
    · exact Nat.lt_succ_self _
    · rcases List.mem_singleton.mp hb with rfl
      exact Nat.lt_succ_of_lt hax
  · have hT : s.heap.IsTuple ax vs.toArray := ⟨_, e, rfl, 0, rfl⟩
    refine wpAny_pyIter_tuple hT ?_
    refine ⟨s.heap.objs.size, _, _, _, _, _, rfl, Walks.tuple hh _ ax (Nat.ne_of_lt hax) vs.toArray, by rw [sizeLine_eq]; simp; omega, ⟨⟨_, Heap.get?_push_size _ rfl, rfl, rfl⟩, ⟨_, Heap.get?_push_of_some _ e, rfl, 0, rfl⟩⟩, ?_, quiet _, fin _ rfl⟩
    intro b hb
    rw [Heap.size_push]
    rcases List.mem_cons.mp hb with rfl | hb
    · exact Nat.lt_succ_self _
    · rcases List.mem_singleton.mp hb with rfl
      exact Nat.lt_succ_of_lt hax
end
section
variable {M : Model} {w : World} {A : Around} {E : Value → Shared → Prop} {s : Shared} {g : Heap} {L C c : Addr} {m mg mb m₃ : Str → Option Value} {news : List (Addr × Obj)} {K : Frag} {scope : Scope} {cl : List (Str × Addr)} {env : Env} {x : Str} {pos : Pos} {v : Value} {o : Obj} {p : Program} {loose : List Str} {Q : Value → Shared → Prop}
theorem nameQ_L (hn : s.heap.Ns C m₃) (hv : m₃ x = some v) (h : Q v s) (hk : (compEnvC scope cl C env).scope.kind = .function) (hx : (compEnvC scope cl C env).kindOf x = some .local) (hd : (x == ("__debug__" : Str)) = false) :
    wpAny M A (eval (.Name x pos) (compEnvC scope cl C env)) Q E s := wpAny_Name (wpAny_loadName_local hk hx hn hv h) hd
theorem nameQ_B (F : Fr g L s.heap m) (X : K.In g) (T : TopRead p loose mg mb g) (e : nsIn K mainGlobals x = some none) (hv : bootBuiltins x = some v) (hn : x ≠ "__name__") (h : Q v s)
    (hg : env.globals = mainGlobals) (hb : env.builtins = builtinsNs) (hk : (compEnvC scope cl C env).scope.kind = .function) (hx : (compEnvC scope cl C env).kindOf x = some .globalImplicit) (hd : (x == ("__debug__" : Str)) = false) :
    wpAny M A (eval (.Name x pos) (compEnvC scope cl C env)) Q E s :=
  Name_function_global hk hx (loadGlobal_builtin (env := compEnvC scope cl C env) (by show s.heap.Ns env.globals mg; rw [hg]; exact T.g.keeps F.keep) (mg_none_of X T.g e) (by show s.heap.Ns env.builtins mb; rw [hb]; exact T.b.keeps F.keep) ((T.builtins x hn).trans hv) h) hd
end
section
variable {w : World} {A : Around} {E : Value → Shared → Prop} {s : Shared} {g : Heap} {L : Addr} {m : Str → Option Value} {news : List (Addr × Obj)}
theorem zeros_N {l : Addr} {x : Value} {c k : Nat} {u : Tok} {Q : Value → Shared → Prop} (F : Fr g L s.heap m) (N : News g L s.heap news) (hl : s.heap.get? l = some (lst [x] c)) (hk : k < 1000)
    (h : ∀ r h', Fr g L h' m → News g L h' ((r, lst (List.replicate k x) 0) :: news) → (∀ p ∈ news, p.1 ≠ r) → s.heap.get? r = none → Q (.ref r) { s with heap := h' }) : wpAny (model PR w) A (binaryOp .Mult (.ref l) (.int (k : Int) u)) Q E s := by
  have e : ∀ (n : Nat) (a : Array Value), List.foldl (fun x1 x2 => x1 ++ x2) a (List.replicate n [x].toArray) = a ++ (List.replicate n x).toArray := by
    intro n
    induction n with
    | zero => intro a; simp
    | succ n ih => intro a; rw [List.replicate_succ, List.foldl_cons, ih]; apply Array.toList_inj.mp; simp [List.replicate_succ]
  refine PyProof.Rows.mul_list F N hl (by omega) (by omega) (by simp; omega) fun h' F' N' => h _ h' F' ?_ (News.ne_size N) (Heap.get?_none_of_le (Nat.le_refl _))
  rw [e] at N'
  have e2 : (#[] : Array Value) ++ (List.replicate (if [x].toArray.isEmpty = true then 0 else (k : Int).toNat) x).toArray = (List.replicate k x).toArray := by
    apply Array.toList_inj.mp; simp
  rw [e2] at N'
  exact N'
theorem ints_are : ∀ {vs : List Value}, Ints vs → ∃ ns, IntsAre vs ns
  | [], _ => ⟨[], .nil⟩
  | v :: r, h => by
    obtain ⟨i, t, rfl⟩ := h v (.head _)
    obtain ⟨ns, hn⟩ := ints_are fun v hv => h v (.tail _ hv)
    exact ⟨i :: ns, .cons i t hn⟩
theorem are_ints : ∀ {vs : List Value} {ns : List Int}, IntsAre vs ns → Ints vs
  | _, _, .nil => fun v hv => nomatch hv
  | _, _, .cons i t h => fun v hv => by
    rcases List.mem_cons.mp hv with rfl | hv
    · exact ⟨i, t, rfl⟩
    · exact are_ints h v hv
theorem sorted_L {l : Addr} {vs : List Value} {n : Nat} {Q : Value → Shared → Prop} {ns : List Int} (F : Fr g L s.heap m) (N : News g L s.heap news) (hl : s.heap.get? l = some (lst vs n)) (hi : IntsAre vs ns) (hz : vs.length < 64)
    (h : ∀ r c h' vs' ns', Fr g L h' m → News g L h' ((r, lst vs' c) :: news) → (∀ p ∈ news, p.1 ≠ r) → s.heap.get? r = none → IntsAre vs' ns' → ns'.Perm ns → ns'.Pairwise (· ≤ ·) → Q (.ref r) { s with heap := h' }) : wpAny (model PR w) A (call (.builtin "sorted") [.ref l]) Q E s :=
  sorted_N F N (isList_lst hl) hi hz fun h' vs' ns' e F' N' a b c => h _ e h' vs' ns' F' N' (fun p hp q => by have := Heap.lt_size (N p hp).1; rw [q] at this; exact absurd this (Nat.not_lt.mpr (Nat.le_succ _))) (Heap.get?_none_of_le (Nat.le_succ _)) a b c
theorem slice_any {value slice : Expr} {l : Addr} {items : Array Value} {zs : List Value} {vl vu vk : Value} {lo hi st : Option Int} {ops : List Value} {Q : Value → Shared → Prop}
    (F : Fr g L s.heap m) (N : News g L s.heap news) (hl : s.heap.IsList l items) (pl : IsPart vl lo) (pu : IsPart vu hi) (pk : IsPart vk st) (h0 : st ≠ some 0) (e : slicePick items lo hi st = zs.toArray)
    (h : ∀ r h', Fr g L h' m → News g L h' ((r, lst zs 0) :: news) → (∀ p ∈ news, p.1 ≠ r) → s.heap.get? r = none → Q (.ref r) { s with heap := h' })
    (hs : subscripted slice false (.ref l) (.ref s.heap.objs.size) = operate ops (getItem (.ref l) (.ref s.heap.objs.size))) (hsz : items.size < 1000) :
    wpAny (model PR w) A (subscriptTail value slice (.ref l) (.ref s.heap.objs.size)) Q E { s with heap := s.heap.push { cls := .type "slice", data := .fields #[vl, vu, vk] } } := by
  refine tail_any (Heap.IsList.typeIs (s := { s with heap := s.heap.push { cls := .type "slice", data := .fields #[vl, vu, vk] } }) (hl.push _)) list_getitem_lookup
    (wpAny_getItem_list_slice (hl.push _) (Heap.IsSliceOf.new ..) pl pu pk h0 ?_ (by rw [sizeLine_eq]; omega)) hs
  have N1 := News.push (F.push { cls := .type "slice", data := .fields #[vl, vu, vk] }) (N.grown fun _ _ e => Heap.get?_push_of_some _ e) { cls := .type "list", data := .seq (slicePick items lo hi st) }
  rw [Heap.size_push] at N1
  show Q (.ref (s.heap.push _).objs.size) _
  rw [Heap.size_push]
  refine h _ _ ((F.push _).push _) (e ▸ N1) (fun p hp => Nat.ne_of_lt (Nat.lt_succ_of_lt (Heap.lt_size (N p hp).1))) (Heap.get?_none_of_le (Nat.le_succ _))
theorem rev_N {value slice : Expr} {l : Addr} {vs : List Value} {n : Nat} {u : Tok} {ops : List Value} {Q : Value → Shared → Prop} (F : Fr g L s.heap m) (N : News g L s.heap news) (hl : s.heap.get? l = some (lst vs n)) (hz : vs.length < 1000)
    (h : ∀ r h', Fr g L h' m → News g L h' ((r, lst vs.reverse 0) :: news) → (∀ p ∈ news, p.1 ≠ r) → s.heap.get? r = none → Q (.ref r) { s with heap := h' })
    (hs : subscripted slice false (.ref l) (.ref s.heap.objs.size) = operate ops (getItem (.ref l) (.ref s.heap.objs.size))) :
    wpAny (model PR w) A (subscriptTail value slice (.ref l) (.ref s.heap.objs.size)) Q E { s with heap := s.heap.push { cls := .type "slice", data := .fields #[.none, .none, .int (-1) u] } } :=
  slice_any F N (isList_lst hl) .none .none (IsPart.int _ _) (by decide) (krv_pick _) h hs (by simpa using hz)
theorem upto_N {value slice : Expr} {l : Addr} {vs : List Value} {n k : Nat} {u : Tok} {ops : List Value} {Q : Value → Shared → Prop} (F : Fr g L s.heap m) (N : News g L s.heap news) (hl : s.heap.get? l = some (lst vs n)) (hz : vs.length < 1000)
    (h : ∀ r h', Fr g L h' m → News g L h' ((r, lst (vs.take k) 0) :: news) → (∀ p ∈ news, p.1 ≠ r) → s.heap.get? r = none → Q (.ref r) { s with heap := h' })
    (hs : subscripted slice false (.ref l) (.ref s.heap.objs.size) = operate ops (getItem (.ref l) (.ref s.heap.objs.size))) :
    wpAny (model PR w) A (subscriptTail value slice (.ref l) (.ref s.heap.objs.size)) Q E { s with heap := s.heap.push { cls := .type "slice", data := .fields #[.none, .int (k : Int) u, .none] } } := by
  refine slice_any F N (isList_lst hl) .none (IsPart.int _ _) .none (by decide) ?_ h hs (by simpa using hz)
  have e : sliceBounds none (some (k : Int)) none vs.toArray.size = (((0 : Nat) : Int), ((min k vs.toArray.size : Nat) : Int), 1) := by
    simp only [sliceBounds, Option.getD_none, show (1 : Int) > 0 by decide, if_true, if_neg (show ¬ ((k : Int) < 0) by omega)]
    congr 1
    congr 1
    omega
  rw [kmk_pick_nat _ e]
  show (((vs.drop 0).take (min k vs.toArray.size - 0))).toArray = _
  rw [List.drop_zero, Nat.sub_zero, List.size_toArray, kmk_take_min]
theorem from_N {value slice : Expr} {l : Addr} {vs : List Value} {n k : Nat} {u : Tok} {ops : List Value} {Q : Value → Shared → Prop} (F : Fr g L s.heap m) (N : News g L s.heap news) (hl : s.heap.get? l = some (lst vs n)) (hz : vs.length < 1000)
    (h : ∀ r h', Fr g L h' m → News g L h' ((r, lst (vs.drop k) 0) :: news) → (∀ p ∈ news, p.1 ≠ r) → s.heap.get? r = none → Q (.ref r) { s with heap := h' })
    (hs : subscripted slice false (.ref l) (.ref s.heap.objs.size) = operate ops (getItem (.ref l) (.ref s.heap.objs.size))) :
    wpAny (model PR w) A (subscriptTail value slice (.ref l) (.ref s.heap.objs.size)) Q E { s with heap := s.heap.push { cls := .type "slice", data := .fields #[.int (k : Int) u, .none, .none] } } := by
  refine slice_any F N (isList_lst hl) (IsPart.int _ _) .none .none (by decide) ?_ h hs (by simpa using hz)
  have e : sliceBounds (some (k : Int)) none none vs.toArray.size = (((min k vs.toArray.size : Nat) : Int), ((vs.toArray.size : Nat) : Int), 1) := by
    simp only [sliceBounds, Option.getD_none, show (1 : Int) > 0 by decide, if_true, if_neg (show ¬ ((k : Int) < 0) by omega)]
    congr 1
    omega
  rw [kmk_pick_nat _ e]
  show ((vs.drop (min k vs.toArray.size)).take (vs.toArray.size - min k vs.toArray.size)).toArray = _
  rw [List.size_toArray, kmk_drop_min, List.take_of_length_le (by rw [List.length_drop]; omega)]
theorem join_N {l b : Addr} {vs ws : List Value} {n c : Nat} {Q : Value → Shared → Prop} (F : Fr g L s.heap m) (N : News g L s.heap news) (hl : s.heap.get? l = some (lst vs n)) (hb : s.heap.get? b = some (lst ws c)) (hz : vs.length + ws.length < 1000)
    (h : ∀ r h', Fr g L h' m → News g L h' ((r, lst (vs ++ ws) 0) :: news) → (∀ p ∈ news, p.1 ≠ r) → s.heap.get? r = none → Q (.ref r) { s with heap := h' }) : wpAny (model PR w) A (binaryOp .Add (.ref l) (.ref b)) Q E s :=
  add_lists F N (isList_lst hl) (isList_lst hb) (fun h' F' N' => h _ h' F' N' (News.ne_size N) (Heap.get?_none_of_le (Nat.le_refl _))) (by rw [sizeLine_eq]; omega)
theorem mod_N {x : Int} {k : Nat} {t u : Tok} {Q : Value → Shared → Prop} (hk : 0 < k) (h : ∀ r : Nat, r < k → Q (.int (r : Int) s.toks) { s with toks := s.toks + 1 }) : wpAny (model PR w) A (binaryOp .Mod (.int x t) (.int (k : Int) u)) Q E s := by
  refine PyProof.Rows.mod_int' (by omega) ?_
  have e : Int.fmod x (k : Int) = x % (k : Int) := Int.fmod_eq_emod_of_nonneg _ (by omega)
  have h1 := Int.emod_nonneg x (show (k : Int) ≠ 0 by omega)
  have h2 := Int.emod_lt_of_pos x (show (0 : Int) < k by omega)
  obtain ⟨r, hr⟩ := Int.eq_ofNat_of_zero_le h1
  rw [e, hr]
  exact h r (by omega)
end
end
section
def PlIn (ws : List Value) (j : Nat) : Prop := ∃ t, Value.int (j : Int) t ∈ ws
def ltN (n : Nat) (v : Value) : Bool := match v with
  | .int a _ => decide (a < (n : Int))
  | _ => false
structure FreeOk (n : Nat) (laid : List Nat) (ws : List Value) : Prop where
  els : ∀ v ∈ ws, ∃ (j : Nat) (t : Tok), v = .int (j : Int) t ∧ j < n
  inv : ∀ j, j < n → j ∈ laid ∨ PlIn ws j ∨ (0 < j ∧ (j - 1) / 2 ∉ laid)
theorem pigeon : ∀ (n : Nat) (l : List Nat), (∀ j, j < n → j ∈ l) → n ≤ l.length
  | 0, _, _ => Nat.zero_le _
  | n + 1, l, h => by
    have h1 := pigeon n (l.erase n) fun j hj => (List.mem_erase_of_ne (by omega)).mpr (h j (by omega))
    rw [List.length_erase_of_mem (h n (by omega))] at h1
    have : 0 < l.length := List.length_pos_of_mem (h n (by omega))
    omega
theorem FreeOk.more {n : Nat} {laid : List Nat} {ws : List Value} (h : FreeOk n laid ws) (hl : laid.length < n) : 0 < ws.length := by
  rcases Nat.eq_zero_or_pos ws.length with h0 | h0
  · exfalso
    have e : ws = [] := List.length_eq_zero_iff.mp h0
    subst e
    have all : ∀ k j, j < k → j < n → j ∈ laid := by
      intro k
      induction k with
      | zero => intro j hj; omega
      | succ k ih =>
        intro j hj hn
        rcases h.inv j hn with h1 | ⟨t, h1⟩ | ⟨h1, h2⟩
        · exact h1
        · cases h1
        · exact absurd (ih ((j - 1) / 2) (by omega) (by omega)) h2
    have := pigeon n laid fun j hj => all (j + 1) j (by omega) hj
    omega
  · exact h0
theorem FreeOk.step {n : Nat} {laid : List Nat} {ws : List Value} (h : FreeOk n laid ws) {r p : Nat} {t t1 t2 : Tok} (hr : r < ws.length) (hp : nth ws r = .int (p : Int) t) :
    FreeOk n (p :: laid) (ws.take r ++ ws.drop (r + 1) ++ [Value.int ((2 * p + 1 : Nat) : Int) t1, .int ((2 * p + 2 : Nat) : Int) t2].filter (ltN n)) := by
  have hws : ∀ v, v ∈ ws → v = nth ws r ∨ v ∈ ws.take r ++ ws.drop (r + 1) := fun v hv => by
    have e : ws = ws.take r ++ nth ws r :: ws.drop (r + 1) := by
      have e1 : nth ws r = ws[r] := by simp [nth, List.getD, List.getElem?_eq_getElem hr]
      rw [e1, List.getElem_cons_drop, List.take_append_drop]
    rw [e] at hv
    rcases List.mem_append.mp hv with hv | hv
    · exact .inr (List.mem_append_left _ hv)
    · rcases List.mem_cons.mp hv with hv | hv
      · exact .inl hv
      · exact .inr (List.mem_append_right _ hv)
  constructor
  · intro v hv
    rcases List.mem_append.mp hv with hv | hv
    · refine h.els v ?_
      rcases List.mem_append.mp hv with hv | hv
      · exact List.mem_of_mem_take hv
      · exact List.mem_of_mem_drop hv
    · obtain ⟨h1, h2⟩ := List.mem_filter.mp hv
      rcases List.mem_cons.mp h1 with rfl | h1
      · simp only [ltN, decide_eq_true_eq] at h2
        exact ⟨_, _, rfl, by omega⟩
      · rcases List.mem_singleton.mp h1 with rfl
        simp only [ltN, decide_eq_true_eq] at h2
        exact ⟨_, _, rfl, by omega⟩
  · intro j hj
    by_cases ep : j = p
    · exact .inl (ep ▸ .head _)
    rcases h.inv j hj with h1 | ⟨u, h1⟩ | ⟨h1, h2⟩
    · exact .inl (.tail _ h1)
    · refine .inr (.inl ⟨u, List.mem_append_left _ ?_⟩)
      rcases hws _ h1 with e | e
      · rw [hp] at e; simp only [Value.int.injEq] at e; omega
      · exact e
    · by_cases e : (j - 1) / 2 = p
      · have hjj : j = 2 * p + 1 ∨ j = 2 * p + 2 := by omega
        rcases hjj with rfl | rfl
        · exact .inr (.inl ⟨t1, List.mem_append_right _ (List.mem_filter.mpr ⟨.head _, by simp only [ltN, decide_eq_true_eq]; omega⟩)⟩)
        · exact .inr (.inl ⟨t2, List.mem_append_right _ (List.mem_filter.mpr ⟨.tail _ (.head _), by simp only [ltN, decide_eq_true_eq]; omega⟩)⟩)
      · refine .inr (.inr ⟨h1, fun q => ?_⟩)
        rcases List.mem_cons.mp q with q | q
        · exact e q
        · exact h2 q
theorem Ints.set {vs : List Value} (h : Ints vs) {v : Value} (hv : ∃ i t, v = .int i t) (k : Nat) : Ints (vs.set k v) := fun x hx => by
  rcases List.mem_or_eq_of_mem_set hx with e | e
  · exact h x e
  · rw [e]; exact hv
theorem nn {g h : Heap} {L : Addr} {p : Addr × Obj} {news rest : List (Addr × Obj)} (N : News g L h news) (hm : p ∈ news) (R : News g L h rest) : News g L h (p :: rest) := fun q hq => by
  rcases List.mem_cons.mp hq with rfl | hq
  · exact N _ hm
  · exact R q hq
theorem ap0 {l : Addr} : ∀ p ∈ ([] : List (Addr × Obj)), p.1 ≠ l := fun p hp => nomatch hp
theorem ap {l a : Addr} {o : Obj} {rest : List (Addr × Obj)} (h : a ≠ l) (r : ∀ p ∈ rest, p.1 ≠ l) : ∀ p ∈ (a, o) :: rest, p.1 ≠ l := fun q hq => by
  rcases List.mem_cons.mp hq with rfl | hq
  · exact h
  · exact r q hq
theorem comp_N {w : World} {A : Around} {E : Value → Shared → Prop} {s : Shared} {g : Heap} {L : Addr} {env : Env} {elt iter : Expr} {x : Str} {px : Pos} {ifs : List Expr} {scope : Scope} {cl : List (Str × Addr)} {pos : Pos} {Q : Value → Shared → Prop} (p : Value → Bool) (hh : A.handled = none)
    (hclos : closureFor scope env = pure cl) (hcell : ∀ y ∈ scope.names, y.2 ≠ .cell) (hkind : scope.kind = .function)
    (hnames : ∀ y ∈ scope.names, y.2 = .local → scope.names.lookup y.1 = some .local) (hx : scope.names.lookup x = some .local)
    (h : wpAny (model PR w) A (eval iter env) (fun xv s₁ => ∃ ax vs m news, xv = .ref ax ∧ Fr g L s₁.heap m ∧ News g L s₁.heap news ∧ ((∃ n, s₁.heap.get? ax = some (lst vs n)) ∨ s₁.heap.get? ax = some (tup vs)) ∧ vs.length < 1000 ∧
      (∀ C v (s₃ : Shared) m₃ E', v ∈ vs → s₃.heap.Ns C m₃ → m₃ x = some v → Fr g L s₃.heap m → News g L s₃.heap news →
        wpAny (model PR w) A (forIn ifs true fun c r => if r = true then do let ok ← isTrue c (compEnvC scope cl C env) (eval c (compEnvC scope cl C env)); pure (ForInStep.yield ok) else pure (ForInStep.yield r)) (fun ok s₄ => ok = p v ∧ Keeps s₃ s₄) E' s₃) ∧
      (∀ C v (s₃ : Shared) m₃ E', v ∈ vs → s₃.heap.Ns C m₃ → m₃ x = some v → wpAny (model PR w) A (eval elt (compEnvC scope cl C env)) (fun y s₄ => v = y ∧ Keeps s₃ s₄) E' s₃) ∧
      (∀ D c h' tk, Fr g L h' m → News g L h' ((D, lst (vs.filter p) c) :: news) → (∀ p ∈ news, p.1 ≠ D) → s₁.heap.get? D = none → Q (.ref D) { s₁ with heap := h', toks := tk })) E s)
    (hs : ∀ x, foldedSetIterable iter env x = pure x) :
    wpAny (model PR w) A (eval (.ListComp elt [⟨.Name x px, iter, ifs, 0⟩] scope pos) env) Q E s :=
  wpAny_ListComp_free p (fun v y => v = y) hclos hcell hkind hnames hx (wpAny_mono h (fun xv s₁ ⟨ax, vs, m, news, e, F, N, hl, hz, ht, he, hQ⟩ => by
    subst e
    exact comp_row (Q := Q) F N hh hl hz ht he hQ) fun _ _ e => e) hs
end
section
/-- equal as Python asks: the same value, or ints or texts of one content -/
inductive Same : Value → Value → Prop
  | refl (v : Value) : Same v v
  | int (i : Int) (t u : Tok) : Same (.int i t) (.int i u)
  | str (x : Str) (t u : Tok) : Same (.str x t) (.str x u)
theorem Same.eqAt {A : Around} {s : Shared} {v x : Value} (h : Same v x) : SeqAt.EqAt A s v x true := by
  cases h with
  | refl => exact SeqAt.EqAt.same _
  | int i t u => have := SeqAt.EqAt.int_int (A := A) (s := s) i t i u; rwa [beq_self_eq_true] at this
  | str y t u => have := SeqAt.EqAt.str_str (A := A) (s := s) y t y u; rwa [beq_self_eq_true] at this
def Sames (vs ws : List Value) : Prop := vs.length = ws.length ∧ ∀ i, i < vs.length → Same (nth vs i) (nth ws i)
theorem Sames.refl (vs : List Value) : Sames vs vs := ⟨rfl, fun i _ => .refl _⟩
theorem getElem_nth {vs : List Value} {i : Nat} (h : i < vs.toArray.size) : vs.toArray[i] = nth vs i := by
  have h' : i < vs.length := by simpa using h
  simp [nth, List.getD, List.getElem?_eq_getElem h']
theorem all_tt : ∀ (l : List Nat), (l.all fun _ => true) = true
  | [] => rfl
  | _ :: r => all_tt r
section
variable {w : World} {A : Around} {E : Value → Shared → Prop} {s : Shared} {g : Heap} {L : Addr} {m : Str → Option Value} {news : List (Addr × Obj)}
theorem of_ne {a b : Value} {k : Bool} {Q : Value → Shared → Prop} (h : SeqAt.RcNeAt A s a b k) (hq : Q (.bool k) s) : wpAny (model PR w) A (compareOp .NotEq a b) Q E s := h PR w E Q hq
theorem Sames.at {vs ws : List Value} (h : Sames vs ws) (j : Nat) (h1 : j < vs.toArray.size) (h2 : j < ws.toArray.size) : SeqAt.EqAt A.in1 s vs.toArray[j] ws.toArray[j] ((fun _ => true) j) := by
  rw [getElem_nth h1, getElem_nth h2]
  exact (h.2 j (by simpa using h1)).eqAt
theorem eqL_N {l c : Addr} {vs ws : List Value} {n n' : Nat} {Q : Value → Shared → Prop} (hl : s.heap.get? l = some (lst vs n)) (hc : s.heap.get? c = some (lst ws n')) (h : Sames vs ws) (hu : A.units < cLine) (hq : Q (.bool true) s) : wpAny (model PR w) A (compareOp .Eq (.ref l) (.ref c)) Q E s :=
  SeqAt.eq_listAt (isList_lst hl) (isList_lst hc) (by simpa using h.1) hu (fun j h1 h2 => h.at j h1 h2) (by rw [all_tt]; exact hq)
theorem neL_N {l c : Addr} {vs ws : List Value} {n n' : Nat} {Q : Value → Shared → Prop} (hl : s.heap.get? l = some (lst vs n)) (hc : s.heap.get? c = some (lst ws n')) (h : Sames vs ws) (hu : A.units < cLine) (hq : Q (.bool false) s) : wpAny (model PR w) A (compareOp .NotEq (.ref l) (.ref c)) Q E s :=
  of_ne (SeqAt.RcNeAt.lists (isList_lst hl) (isList_lst hc) (by simpa using h.1) hu (fun j h1 h2 => h.at j h1 h2)) (by rw [all_tt]; exact hq)
theorem eqNil_N {l c : Addr} {vs : List Value} {n n' : Nat} {Q : Value → Shared → Prop} (hl : s.heap.get? l = some (lst vs n)) (hc : s.heap.get? c = some (lst [] n')) (hu : A.units < cLine) (hq : Q (.bool (decide (vs = []))) s) : wpAny (model PR w) A (compareOp .Eq (.ref l) (.ref c)) Q E s := by
  by_cases e : vs = []
  · subst e; exact eqL_N hl hc (.refl _) hu (by simpa using hq)
  · exact SeqAt.eq_list_lengthsAt (isList_lst hl) (isList_lst hc) (by simpa using e) hu (by simpa [e] using hq)
theorem neNil_N {l c : Addr} {vs : List Value} {n n' : Nat} {Q : Value → Shared → Prop} (hl : s.heap.get? l = some (lst vs n)) (hc : s.heap.get? c = some (lst [] n')) (hu : A.units < cLine) (hq : Q (.bool (decide (vs ≠ []))) s) : wpAny (model PR w) A (compareOp .NotEq (.ref l) (.ref c)) Q E s := by
  by_cases e : vs = []
  · subst e; exact neL_N hl hc (.refl _) hu (by simpa using hq)
  · exact of_ne (SeqAt.RcNeAt.lists_lengths (isList_lst hl) (isList_lst hc) (by simpa using e) hu) (by simpa [e] using hq)
theorem isTup_tup {h : Heap} {l : Addr} {vs : List Value} (hl : h.get? l = some (tup vs)) : h.IsTuple l vs.toArray := ⟨_, hl, rfl, 0, rfl⟩
theorem eqT_N {l c : Addr} {vs ws : List Value} {Q : Value → Shared → Prop} (hl : s.heap.get? l = some (tup vs)) (hc : s.heap.get? c = some (tup ws)) (h : Sames vs ws) (hu : A.units < cLine) (hq : Q (.bool true) s) : wpAny (model PR w) A (compareOp .Eq (.ref l) (.ref c)) Q E s :=
  SeqAt.eq_tupleAt (isTup_tup hl) (isTup_tup hc) hu (fun j h1 h2 => h.at j h1 h2) (by rw [all_tt]; have e := h.1; simpa [e] using hq)
theorem neT_N {l c : Addr} {vs ws : List Value} {Q : Value → Shared → Prop} (hl : s.heap.get? l = some (tup vs)) (hc : s.heap.get? c = some (tup ws)) (h : Sames vs ws) (hu : A.units < cLine) (hq : Q (.bool false) s) : wpAny (model PR w) A (compareOp .NotEq (.ref l) (.ref c)) Q E s :=
  of_ne (SeqAt.RcNeAt.tuples (isTup_tup hl) (isTup_tup hc) hu (fun j h1 h2 => h.at j h1 h2)) (by rw [all_tt]; have e := h.1; simpa [e] using hq)
theorem ne_N {p : Nat} {t u : Tok} {Q : Value → Shared → Prop} (h : Q (.bool false) s) : wpAny (model PR w) A (compareOp .NotEq (.int (p : Int) t) (.int (p : Int) u)) Q E s :=
  PyProof.Rows.ne_int (by simpa using h)

def isI : Value → Bool
  | .int _ _ => true
  | _ => false
/-- a text's or a row of bytes' number is not 0 -/
def OneTok : Value → Prop
  | .str _ t => t ≠ 0
  | .bytes _ t => t ≠ 0
  | _ => True
theorem isNot_one {M : Model} {one : Value} {T : String} {h0 : Heap} {Q : Value → Shared → Prop} (K : Kind h0 one T) (ht : OneTok one) (h : Q (.bool false) s) : wpAny M A (compareOp .IsNot one one) Q E s := by
  cases K with
  | str t =>
    show wpAny M A (do return .bool (!(← isSame _ _))) Q E s
    refine wpAny_bind ?_
    show wpAny M A (isSame.created _ t t) _ E s
    unfold isSame.created
    have e : (t == 0 || t == 0) = false := by simpa [OneTok] using ht
    rw [e]
    simp only [Bool.false_eq_true, if_false, beq_self_eq_true, if_true]
    first
    | exact wpAny_pure (wpAny_pure h)
    | exact wpAny_bind (wpAny_pure (wpAny_pure (wpAny_pure h)))
    | exact wpAny_bind (wpAny_pure (wpAny_pure h))
  | bytes t =>
    show wpAny M A (do return .bool (!(← isSame _ _))) Q E s
    refine wpAny_bind ?_
    show wpAny M A (isSame.created _ t t) _ E s
    unfold isSame.created
    have e : (t == 0 || t == 0) = false := by simpa [OneTok] using ht
    rw [e]
    simp only [Bool.false_eq_true, if_false, beq_self_eq_true, if_true]
    first
    | exact wpAny_pure (wpAny_pure h)
    | exact wpAny_bind (wpAny_pure (wpAny_pure (wpAny_pure h)))
    | exact wpAny_bind (wpAny_pure (wpAny_pure h))
  | tup => exact wpAny_isNot_ref_self h
  | lst => exact wpAny_isNot_ref_self h
  | dct => exact wpAny_isNot_ref_self h
  | none => exact wpAny_isNot_self rfl h
theorem isNot_int {M : Model} {i : Int} {t : Tok} {one : Value} {T : String} {h0 : Heap} {Q : Value → Shared → Prop} (K : Kind h0 one T) (h : Q (.bool true) s) : wpAny M A (compareOp .IsNot (.int i t) one) Q E s := by
  refine wpAny_isNot_other ?_ (fun e => K.notInt i t e.symm) h
  cases K <;> rfl
end
end
section
/-- the number by which the heap is laid: its sign turned for a max heap -/
def ky (hi : Bool) : Value → Int
  | .int i _ => if hi then -i else i
  | _ => 0
theorem isI_iff {v : Value} : isI v = true ↔ ∃ i t, v = .int i t := by
  constructor
  · intro h; cases v <;> first | exact ⟨_, _, rfl⟩ | cases h
  · rintro ⟨i, t, rfl⟩; rfl
theorem cmH_ints {hi : Bool} {a c : Value} (ha : isI a = true) (hc : isI c = true) : cmH hi a c = .val (decide (ky hi a < ky hi c)) := by
  obtain ⟨i, t, rfl⟩ := isI_iff.mp ha
  obtain ⟨j, u, rfl⟩ := isI_iff.mp hc
  cases hi
  · simp [cmH, cm, ky]
  · simp [cmH, cm, ky]
theorem nth_set {vs : List Value} {p j : Nat} {x : Value} (hp : p < vs.length) : nth (vs.set p x) j = if j = p then x else nth vs j := by
  simp only [nth, List.getD, List.getElem?_set]
  by_cases e : j = p
  · subst e; simp [hp]
  · rw [if_neg (Ne.symm e), if_neg e]
theorem nth_set_ne {vs : List Value} {p j : Nat} {x : Value} (hp : p < vs.length) (e : j ≠ p) : nth (vs.set p x) j = nth vs j := by rw [nth_set hp, if_neg e]
theorem nth_set_eq {vs : List Value} {p : Nat} {x : Value} (hp : p < vs.length) : nth (vs.set p x) p = x := by rw [nth_set hp, if_pos rfl]

/-- in the tree under i -/
inductive Sub (i : Nat) : Nat → Prop
  | self : Sub i i
  | left {q : Nat} : Sub i q → Sub i (2 * q + 1)
  | right {q : Nat} : Sub i q → Sub i (2 * q + 2)
theorem Sub.le {i q : Nat} (h : Sub i q) : i ≤ q := by
  induction h with
  | self => exact Nat.le_refl _
  | left _ ih => omega
  | right _ ih => omega
theorem Sub.up {i q : Nat} (h : Sub i q) : q = i ∨ (1 ≤ q ∧ Sub i ((q - 1) / 2)) := by
  cases h with
  | self => exact .inl rfl
  | @left r h =>
    have e : (2 * r + 1 - 1) / 2 = r := by omega
    exact .inr ⟨by omega, e.symm ▸ h⟩
  | @right r h =>
    have e : (2 * r + 2 - 1) / 2 = r := by omega
    exact .inr ⟨by omega, e.symm ▸ h⟩

theorem set_perm {vs : List Value} {p c : Nat} {x : Value} (hp : p < vs.length) (hc : c < vs.length) (h : p ≠ c) : ((vs.set p (nth vs c)).set c x).Perm (vs.set p x) := by
  have e1 : vs[c] = nth vs c := by simp [nth, List.getD, List.getElem?_eq_getElem hc]
  have hc' : c < (vs.set p (nth vs c)).length := by simpa using hc
  refine List.perm_iff_count.mpr fun a => ?_
  rw [List.count_set hc', List.count_set hp, List.count_set hp]
  have e2 : (vs.set p (nth vs c))[c] = nth vs c := by
    rw [List.getElem_set, if_neg h, e1]
  rw [e2]
  have h1 : (if (vs[p] == a) = true then 1 else 0) ≤ vs.count a := by
    split
    · rename_i q
      have : a ∈ vs := by
        have e : vs[p] = a := by simpa using q
        rw [← e]; exact List.getElem_mem hp
      exact List.count_pos_iff.mpr this
    · exact Nat.zero_le _
  omega

structure Jv (hi : Bool) (n i z : Nat) (vs : List Value) (pos : Nat) : Prop where
  len : vs.length = n
  sub : Sub i pos
  lt : pos < n
  nums : ∀ j, j < n → j ≠ pos → j ≠ z → isI (nth vs j) = true
  edge : ∀ k, 1 ≤ k → k < n → i ≤ (k - 1) / 2 → k ≠ pos → (k - 1) / 2 ≠ pos → ky hi (nth vs ((k - 1) / 2)) ≤ ky hi (nth vs k)
  gap : pos ≠ i → ∀ k, k < n → k = 2 * pos + 1 ∨ k = 2 * pos + 2 → ky hi (nth vs ((pos - 1) / 2)) ≤ ky hi (nth vs k)

theorem Jv.down {hi : Bool} {n i z : Nat} {vs : List Value} {pos c : Nat} (J : Jv hi n i z vs pos) (hz : ∀ q, q < n → Sub i q → q ≠ z) (hc : c = 2 * pos + 1 ∨ c = 2 * pos + 2) (hcn : c < n)
    (hbest : ∀ d, d < n → d = 2 * pos + 1 ∨ d = 2 * pos + 2 → ky hi (nth vs c) ≤ ky hi (nth vs d)) : Jv hi n i z (vs.set pos (nth vs c)) c := by
  have hpl : pos < vs.length := by rw [J.len]; exact J.lt
  have hsc : Sub i c := by rcases hc with rfl | rfl; exact .left J.sub; exact .right J.sub
  refine ⟨by simpa using J.len, hsc, hcn, fun j hj hjc hjz => ?_, fun k hk1 hkn hki hkc hkp => ?_, fun _ k hkn hk => ?_⟩
  · by_cases e : j = pos
    · subst e; rw [nth_set_eq hpl]; exact J.nums c hcn (by omega) (hz c hcn hsc)
    · rw [nth_set_ne hpl e]; exact J.nums j hj e hjz
  · by_cases e : k = pos
    · subst e
      rw [nth_set_eq hpl, nth_set_ne hpl (by omega)]
      exact J.gap (fun q => by have := J.sub.le; omega) c hcn hc
    · rw [nth_set_ne hpl e]
      by_cases e2 : (k - 1) / 2 = pos
      · rw [e2, nth_set_eq hpl]
        exact hbest k hkn (by omega)
      · rw [nth_set_ne hpl e2]
        exact J.edge k hk1 hkn hki e e2
  · have e1 : (c - 1) / 2 = pos := by omega
    rw [e1, nth_set_eq hpl, nth_set_ne hpl (by omega)]
    have := J.edge k (by omega) hkn (by have := hsc.le; omega) (by omega) (by omega)
    rw [show (k - 1) / 2 = c by omega] at this
    exact this

theorem su_spec {hi : Bool} {n i z : Nat} (hz : ∀ q, q < n → Sub i q → q ≠ z) : ∀ (fuel : Nat) (vs : List Value) (pos : Nat), Jv hi n i z vs pos → n - pos ≤ fuel →
    ∃ vs' q, su hi fuel vs pos = .ok vs' q ∧ Jv hi n i z vs' q ∧ n ≤ 2 * q + 1 ∧ (∀ j, ¬ Sub i j → nth vs' j = nth vs j) ∧ (∀ x, (vs'.set q x).Perm (vs.set pos x)) ∧ pos ≤ q
  | 0, vs, pos, J, hf => by have := J.lt; omega
  | fuel + 1, vs, pos, J, hf => by
    have hpl : pos < vs.length := by rw [J.len]; exact J.lt
    have step : ∀ c, (c = 2 * pos + 1 ∨ c = 2 * pos + 2) → c < n → (∀ d, d < n → d = 2 * pos + 1 ∨ d = 2 * pos + 2 → ky hi (nth vs c) ≤ ky hi (nth vs d)) →
        ∃ vs' q, su hi fuel (vs.set pos (nth vs c)) c = .ok vs' q ∧ Jv hi n i z vs' q ∧ n ≤ 2 * q + 1 ∧ (∀ j, ¬ Sub i j → nth vs' j = nth vs j) ∧ (∀ x, (vs'.set q x).Perm (vs.set pos x)) ∧ pos ≤ q := fun c hc hcn hb => by
      obtain ⟨vs', q, h1, h2, h3, h4, h5, h6⟩ := su_spec hz fuel _ c (J.down hz hc hcn hb) (by omega)
      refine ⟨vs', q, h1, h2, h3, fun j hj => ?_, fun x => (h5 x).trans (set_perm hpl (by rw [J.len]; exact hcn) (by omega)), by omega⟩
      rw [h4 j hj, nth_set_ne hpl (fun e => by rw [e] at hj; exact hj J.sub)]
    simp only [su]
    rw [J.len]
    by_cases h1 : 2 * pos + 1 < n
    · rw [if_pos h1]
      have s1 : Sub i (2 * pos + 1) := .left J.sub
      have s2 : Sub i (2 * pos + 2) := .right J.sub
      by_cases h2 : 2 * pos + 2 < n
      · rw [if_pos h2, cmH_ints (J.nums _ h1 (by omega) (hz _ h1 s1)) (J.nums _ h2 (by omega) (hz _ h2 s2))]
        by_cases h3 : ky hi (nth vs (2 * pos + 1)) < ky hi (nth vs (2 * pos + 2))
        · rw [decide_eq_true h3]
          refine step _ (.inl rfl) h1 fun d hd hd' => ?_
          rcases hd' with rfl | rfl
          · exact Int.le_refl _
          · exact Int.le_of_lt h3
        · rw [decide_eq_false h3]
          refine step _ (.inr rfl) h2 fun d hd hd' => ?_
          rcases hd' with rfl | rfl
          · exact Int.not_lt.mp h3
          · exact Int.le_refl _
      · rw [if_neg h2]
        refine step _ (.inl rfl) h1 fun d hd hd' => ?_
        rcases hd' with rfl | rfl
        · exact Int.le_refl _
        · exact absurd hd h2
    · rw [if_neg h1]
      exact ⟨vs, pos, rfl, J, by omega, fun _ _ => rfl, fun _ => List.Perm.refl _, Nat.le_refl _⟩
end
section
/-- laid as a heap from place i on, the stranger at z -/
structure Dv (hi : Bool) (n i z : Nat) (vs : List Value) : Prop where
  len : vs.length = n
  nums : ∀ j, j < n → j ≠ z → isI (nth vs j) = true
  edge : ∀ k, 1 ≤ k → k < n → i ≤ (k - 1) / 2 → ky hi (nth vs ((k - 1) / 2)) ≤ ky hi (nth vs k)

theorem Jv.fill {hi : Bool} {n i z : Nat} {vs : List Value} {pos : Nat} {x : Value} (J : Jv hi n i z vs pos) (hx : isI x = true) (hd : ∀ k, k < n → k = 2 * pos + 1 ∨ k = 2 * pos + 2 → ky hi x ≤ ky hi (nth vs k))
    (hp : pos ≠ i → ky hi (nth vs ((pos - 1) / 2)) ≤ ky hi x) : Dv hi n i z (vs.set pos x) := by
  have hpl : pos < vs.length := by rw [J.len]; exact J.lt
  refine ⟨by simpa using J.len, fun j hj hjz => ?_, fun k hk1 hkn hki => ?_⟩
  · by_cases e : j = pos
    · subst e; rw [nth_set_eq hpl]; exact hx
    · rw [nth_set_ne hpl e]; exact J.nums j hj e hjz
  · by_cases e : k = pos
    · subst e
      rw [nth_set_eq hpl, nth_set_ne hpl (by omega)]
      exact hp (by omega)
    · rw [nth_set_ne hpl e]
      by_cases e2 : (k - 1) / 2 = pos
      · rw [e2, nth_set_eq hpl]; exact hd k hkn (by omega)
      · rw [nth_set_ne hpl e2]; exact J.edge k hk1 hkn hki e e2

theorem Jv.rise {hi : Bool} {n i z : Nat} {vs : List Value} {pos : Nat} {x : Value} (J : Jv hi n i z vs pos) (hz : ∀ q, q < n → Sub i q → q ≠ z) (hpi : pos ≠ i) (hlt : ky hi x < ky hi (nth vs ((pos - 1) / 2))) :
    Jv hi n i z (vs.set pos (nth vs ((pos - 1) / 2))) ((pos - 1) / 2) ∧ (∀ k, k < n → k = 2 * ((pos - 1) / 2) + 1 ∨ k = 2 * ((pos - 1) / 2) + 2 → ky hi x ≤ ky hi (nth (vs.set pos (nth vs ((pos - 1) / 2))) k)) := by
  have hpl : pos < vs.length := by rw [J.len]; exact J.lt
  have hlt' := J.lt
  obtain ⟨h1, hup⟩ : 1 ≤ pos ∧ Sub i ((pos - 1) / 2) := by
    rcases J.sub.up with e | e
    · exact absurd e hpi
    · exact e
  have hle := hup.le
  have sib : ∀ d, d < n → (d - 1) / 2 = (pos - 1) / 2 → 1 ≤ d → d ≠ pos → ky hi (nth vs ((pos - 1) / 2)) ≤ ky hi (nth vs d) := fun d hd e h1 hne => by
    have := J.edge d h1 hd (by omega) hne (by omega)
    rwa [e] at this
  refine ⟨⟨by simpa using J.len, hup, by omega, fun j hj hjp hjz => ?_, fun k hk1 hkn hki hkc hkp => ?_, fun hne k hkn hk => ?_⟩, fun k hkn hk => ?_⟩
  · by_cases e : j = pos
    · subst e; rw [nth_set_eq hpl]; exact J.nums _ (by omega) (by omega) (hz _ (by omega) hup)
    · rw [nth_set_ne hpl e]; exact J.nums j hj e hjz
  · by_cases e : k = pos
    · exact absurd (by rw [e]) hkp
    · rw [nth_set_ne hpl e]
      by_cases e2 : (k - 1) / 2 = pos
      · rw [e2, nth_set_eq hpl]; exact J.gap hpi k hkn (by omega)
      · rw [nth_set_ne hpl e2]; exact J.edge k hk1 hkn hki e e2
  · obtain ⟨g1, gup⟩ : 1 ≤ (pos - 1) / 2 ∧ Sub i (((pos - 1) / 2 - 1) / 2) := by
      rcases hup.up with e | e
      · exact absurd e hne
      · exact e
    have hge := gup.le
    have base := J.edge ((pos - 1) / 2) g1 (by omega) hge (by omega) (by omega)
    rw [nth_set_ne hpl (show ((pos - 1) / 2 - 1) / 2 ≠ pos by omega)]
    by_cases e : k = pos
    · subst e; rw [nth_set_eq hpl]; exact base
    · rw [nth_set_ne hpl e]
      exact Int.le_trans base (sib k hkn (by omega) (by omega) e)
  · by_cases e : k = pos
    · subst e; rw [nth_set_eq hpl]; exact Int.le_of_lt hlt
    · rw [nth_set_ne hpl e]
      exact Int.le_trans (Int.le_of_lt hlt) (sib k hkn (by omega) (by omega) e)

theorem sd_spec {hi : Bool} {n i z : Nat} {x : Value} (hz : ∀ q, q < n → Sub i q → q ≠ z) (hx : isI x = true) : ∀ (fuel : Nat) (vs : List Value) (pos : Nat), Jv hi n i z vs pos → pos ≤ fuel →
    (∀ k, k < n → k = 2 * pos + 1 ∨ k = 2 * pos + 2 → ky hi x ≤ ky hi (nth vs k)) →
    ∃ vs', sd hi i x fuel vs pos = .ok vs' ∧ Dv hi n i z vs' ∧ (∀ j, ¬ Sub i j → nth vs' j = nth vs j) ∧ vs'.Perm (vs.set pos x)
  | 0, vs, pos, J, hf, hd => by
    have hpl : pos < vs.length := by rw [J.len]; exact J.lt
    have h0 : pos = i := by have := J.sub.le; omega
    exact ⟨_, rfl, J.fill hx hd (fun q => absurd h0 q), fun j hj => nth_set_ne hpl (fun e => by rw [e] at hj; exact hj J.sub), List.Perm.refl _⟩
  | fuel + 1, vs, pos, J, hf, hd => by
    have hpl : pos < vs.length := by rw [J.len]; exact J.lt
    have hlt' := J.lt
    simp only [sd]
    by_cases h1 : i < pos
    · rw [if_pos h1]
      obtain ⟨h2, hup⟩ : 1 ≤ pos ∧ Sub i ((pos - 1) / 2) := by
        rcases J.sub.up with e | e
        · omega
        · exact e
      rw [cmH_ints hx (J.nums _ (by omega) (by omega) (hz _ (by omega) hup))]
      by_cases h3 : ky hi x < ky hi (nth vs ((pos - 1) / 2))
      · rw [decide_eq_true h3]
        obtain ⟨J', hd'⟩ := J.rise hz (by omega) h3
        obtain ⟨vs', r1, r2, r3, r4⟩ := sd_spec hz hx fuel _ _ J' (by omega) hd'
        refine ⟨vs', r1, r2, fun j hj => ?_, r4.trans (set_perm hpl (by rw [J.len]; omega) (by omega))⟩
        rw [r3 j hj, nth_set_ne hpl (fun e => by rw [e] at hj; exact hj J.sub)]
      · rw [decide_eq_false h3]
        exact ⟨_, rfl, J.fill hx hd (fun _ => Int.not_lt.mp h3), fun j hj => nth_set_ne hpl (fun e => by rw [e] at hj; exact hj J.sub), List.Perm.refl _⟩
    · rw [if_neg h1]
      have h0 : pos = i := by have := J.sub.le; omega
      exact ⟨_, rfl, J.fill hx hd (fun q => absurd h0 q), fun j hj => nth_set_ne hpl (fun e => by rw [e] at hj; exact hj J.sub), List.Perm.refl _⟩

theorem Dv.hole {hi : Bool} {n i z : Nat} {vs : List Value} (D : Dv hi n (i + 1) z vs) (hi' : i < n) : Jv hi n i z vs i :=
  ⟨D.len, .self, hi', fun j hj _ hz => D.nums j hj hz, fun k h1 h2 h3 h4 h5 => D.edge k h1 h2 (by omega), fun h => absurd rfl h⟩
theorem set_nth {vs : List Value} {p : Nat} (h : p < vs.length) : vs.set p (nth vs p) = vs := by
  have e : nth vs p = vs[p] := by simp [nth, List.getD, List.getElem?_eq_getElem h]
  rw [e, List.set_getElem_self]
theorem siftup_spec {hi : Bool} {n i z : Nat} {vs : List Value} (hz : ∀ q, q < n → Sub i q → q ≠ z) (D : Dv hi n (i + 1) z vs) (hn : i < n) :
    ∃ vs', siftup hi vs i = .ok vs' ∧ Dv hi n i z vs' ∧ (∀ j, ¬ Sub i j → nth vs' j = nth vs j) ∧ vs'.Perm vs := by
  have hil : i < vs.length := by rw [D.len]; exact hn
  obtain ⟨v1, q, h1, J1, h3, h4, h5, h6⟩ := su_spec hz vs.length vs i (D.hole hn) (by rw [D.len]; omega)
  have hql : q < v1.length := by rw [J1.len]; exact J1.lt
  have hx : isI (nth vs i) = true := D.nums i hn (hz i hn .self)
  have J2 : Jv hi n i z (v1.set q (nth vs i)) q := by
    refine ⟨by simpa using J1.len, J1.sub, J1.lt, fun j hj hjq hjz => ?_, fun k a1 a2 a3 a4 a5 => ?_, fun a1 k a2 a3 => ?_⟩
    · rw [nth_set_ne hql hjq]; exact J1.nums j hj hjq hjz
    · rw [nth_set_ne hql a4, nth_set_ne hql a5]; exact J1.edge k a1 a2 a3 a4 a5
    · omega
  obtain ⟨v2, r1, r2, r3, r4⟩ := sd_spec hz hx q _ q J2 (Nat.le_refl _) (fun k hk hk' => by omega)
  refine ⟨v2, ?_, r2, fun j hj => ?_, ?_⟩
  · unfold siftup
    rw [h1]
    show siftdown hi (v1.set q (nth vs i)) i q = _
    unfold siftdown
    rw [nth_set_eq hql]
    exact r1
  · rw [r3 j hj, nth_set_ne hql (fun e => by rw [e] at hj; exact hj J1.sub), h4 j hj]
  · refine r4.trans ?_
    rw [List.set_set]
    have := h5 (nth vs i)
    rwa [set_nth hil] at this

/-- the turns before the stranger's -/
theorem hp_before {hi : Bool} {n z t : Nat} (hzn : z < n) (hzs : ∀ i, t < i → i < n / 2 → ∀ q, q < n → Sub i q → q ≠ z) : ∀ (d : Nat) (vs : List Value), t + 1 + d ≤ n / 2 → Dv hi n (t + 1 + d) z vs →
    ∃ vs', hp hi (t + 1 + d) vs = hp hi (t + 1) vs' ∧ Dv hi n (t + 1) z vs' ∧ (∀ j, j ≤ t ∨ j = z → nth vs' j = nth vs j) ∧ vs'.Perm vs
  | 0, vs, _, D => ⟨vs, rfl, D, fun _ _ => rfl, List.Perm.refl _⟩
  | d + 1, vs, h, D => by
    obtain ⟨v1, h1, h2, h3, h4⟩ := siftup_spec (hzs (t + 1 + d) (by omega) (by omega)) D (by omega)
    obtain ⟨v2, r1, r2, r3, r4⟩ := hp_before hzn hzs d v1 (by omega) h2
    refine ⟨v2, ?_, r2, fun j hj => ?_, r4.trans h4⟩
    · rw [← r1]
      show (match siftup hi vs (t + 1 + d) with | .ok vs' => hp hi (t + 1 + d) vs' | r => r) = _
      rw [h1]
    · rw [r3 j hj]
      refine h3 j fun q => ?_
      rcases hj with hj | rfl
      · have := q.le; omega
      · exact hzs (t + 1 + d) (by omega) (by omega) _ hzn q rfl
end
section
theorem take_eq {a c : List Value} {t : Nat} (hl : a.length = c.length) (h : ∀ j, j < t → nth a j = nth c j) : a.take t = c.take t := by
  apply List.ext_getElem
  · simp [hl]
  · intro j h1 h2
    rw [List.getElem_take, List.getElem_take]
    simp only [List.length_take] at h1 h2
    have h3 := h j (by omega)
    have e1 : nth a j = a[j]'(by omega) := by simp [nth, List.getD, List.getElem?_eq_getElem (show j < a.length by omega)]
    have e2 : nth c j = c[j]'(by omega) := by simp [nth, List.getD, List.getElem?_eq_getElem (show j < c.length by omega)]
    rw [e1, e2] at h3
    exact h3
def startOf (sv : List Value) (one : Value) (p : Nat) : List Value := sv.take p ++ [one] ++ sv.drop p
theorem startOf_len {sv : List Value} {one : Value} {p : Nat} (hp : p ≤ sv.length) : (startOf sv one p).length = sv.length + 1 := by simp [startOf]; omega
theorem startOf_at {sv : List Value} {one : Value} {p : Nat} (hp : p ≤ sv.length) : nth (startOf sv one p) p = one := by
  simp [nth, List.getD, startOf, List.getElem?_append, hp]
theorem startOf_ne {sv : List Value} {one : Value} {p j : Nat} (hs : Ints sv) (hp : p ≤ sv.length) (hj : j < sv.length + 1) (hne : j ≠ p) : isI (nth (startOf sv one p) j) = true := by
  have hm : nth (startOf sv one p) j ∈ sv := by
    by_cases h : j < p
    · have e : nth (startOf sv one p) j = sv[j]'(by omega) := by
        have e1 : (startOf sv one p)[j]? = some (sv[j]'(by omega)) := by
          simp only [startOf, List.append_assoc]
          rw [List.getElem?_append_left (by simp; omega), List.getElem?_take, if_pos h, List.getElem?_eq_getElem]
        simp [nth, List.getD, e1]
      rw [e]; exact List.getElem_mem _
    · have e : nth (startOf sv one p) j = sv[j - 1]'(by omega) := by
        have e1 : (startOf sv one p)[j]? = some (sv[j - 1]'(by omega)) := by
          simp only [startOf]
          rw [List.getElem?_append_right (by simp; omega), List.getElem?_drop]
          have e2 : p + (j - (List.take p sv ++ [one]).length) = j - 1 := by simp; omega
          rw [e2, List.getElem?_eq_getElem]
        simp [nth, List.getD, e1]
      rw [e]; exact List.getElem_mem _
  exact isI_iff.mpr (hs _ hm)
theorem cm_one {one v : Value} (ho : isI one = false) (hv : isI v = true) : cm one v = .first ∧ cm v one = .second := by
  obtain ⟨i, t, rfl⟩ := isI_iff.mp hv
  cases one <;> first | exact ⟨rfl, rfl⟩ | cases ho
theorem cmH_one {hi : Bool} {one v : Value} (ho : isI one = false) (hv : isI v = true) : cmH hi one v = (if hi then .second else .first) ∧ cmH hi v one = (if hi then .first else .second) := by
  obtain ⟨h1, h2⟩ := cm_one ho hv
  cases hi <;> simp [cmH, h1, h2]

def turnOf (n p : Nat) : Nat := if p < n / 2 then p else (p - 1) / 2
def aheadOf (n p : Nat) : Bool := decide (p < n / 2) || (decide (p % 2 = 1) && decide (p + 1 < n))

structure Built (hi : Bool) (sv : List Value) (one : Value) (p : Nat) (row : List Value) : Prop where
  len : row.length = sv.length + 1
  perm : row.Perm (startOf sv one p)
  order : ∀ k, 2 * turnOf (sv.length + 1) p + 3 ≤ k → k < sv.length + 1 → isI (nth row k) = true → isI (nth row ((k - 1) / 2)) = true ∧ ky hi (nth row ((k - 1) / 2)) ≤ ky hi (nth row k)
  front : row.take (turnOf (sv.length + 1) p) = (startOf sv one p).take (turnOf (sv.length + 1) p)

theorem siftup_bad_top {hi : Bool} {n p : Nat} {v : List Value} {one : Value} (ho : isI one = false) (D : Dv hi n (p + 1) p v) (hp : nth v p = one) (hn : 2 * p + 1 < n) :
    ∃ row, siftup hi v p = .bad row (!hi) ∧ row.length = n ∧ row.Perm v ∧ (∀ k, 2 * p + 3 ≤ k → k < n → isI (nth row k) = true → isI (nth row ((k - 1) / 2)) = true ∧ ky hi (nth row ((k - 1) / 2)) ≤ ky hi (nth row k)) ∧ (∀ j, j < p → nth row j = nth v j) := by
  have hpl : p < v.length := by rw [D.len]; omega
  have J : Jv hi n p n v p := ⟨D.len, .self, by omega, fun j hj h1 _ => D.nums j hj h1, fun k h1 h2 h3 h4 h5 => D.edge k h1 h2 (by omega), fun h => absurd rfl h⟩
  obtain ⟨v1, q, h1, J1, h3, h4, h5, h6⟩ := su_spec (z := n) (fun q hq _ => by omega) v.length v p J (by rw [D.len]; omega)
  have hql : q < v1.length := by rw [J1.len]; exact J1.lt
  have hqp : p < q := by omega
  have hqn := J1.lt
  refine ⟨v1.set q one, ?_, by simpa using J1.len, ?_, fun k k1 k2 k3 => ?_, fun j hj => ?_⟩
  · unfold siftup
    rw [h1]
    show siftdown hi (v1.set q (nth v p)) p q = _
    rw [hp]
    unfold siftdown
    rw [nth_set_eq hql]
    obtain ⟨q', rfl⟩ : ∃ q', q = q' + 1 := ⟨q - 1, by omega⟩
    simp only [sd]
    rw [if_pos hqp, nth_set_ne hql (by omega), (cmH_one ho (J1.nums _ (by omega) (by omega) (by omega))).1]
    cases hi <;> rfl
  · have := h5 one
    rw [← hp, set_nth hpl] at this
    rw [← hp]; exact this
  · have kq : k ≠ q := fun e => by rw [e, nth_set_eq hql, ho] at k3; cases k3
    rw [nth_set_ne hql kq, nth_set_ne hql (by omega)]
    exact ⟨J1.nums _ (by omega) (by omega) (by omega), J1.edge k (by omega) k2 (by omega) kq (by omega)⟩
  · rw [nth_set_ne hql (by omega)]
    exact h4 j fun s => by have := s.le; omega

theorem siftup_bad_leaf {hi : Bool} {n t p : Nat} {v : List Value} {one : Value} (ho : isI one = false) (D : Dv hi n (t + 1) p v) (hp : nth v p = one) (hpn : p < n) (hpt : p = 2 * t + 1 ∨ p = 2 * t + 2) (hleaf : n ≤ 2 * p + 1) :
    ∃ row, siftup hi v t = .bad row ((decide (p % 2 = 1) && decide (p + 1 < n)) != hi) ∧ row.length = n ∧ row.Perm v ∧ (∀ k, 2 * t + 3 ≤ k → k < n → isI (nth row k) = true → isI (nth row ((k - 1) / 2)) = true ∧ ky hi (nth row ((k - 1) / 2)) ≤ ky hi (nth row k)) ∧ (∀ j, j < t → nth row j = nth v j) := by
  have hvl := D.len
  have same : ∀ k, 2 * t + 3 ≤ k → k < n → isI (nth v k) = true → isI (nth v ((k - 1) / 2)) = true ∧ ky hi (nth v ((k - 1) / 2)) ≤ ky hi (nth v k) := fun k k1 k2 _ =>
    ⟨D.nums _ (by omega) (by omega), D.edge k (by omega) k2 (by omega)⟩
  obtain ⟨m, hm⟩ : ∃ m, v.length = m + 1 + 1 := ⟨v.length - 2, by omega⟩
  rcases hpt with e | e
  · by_cases h2 : p + 1 < n
    · refine ⟨v, ?_, hvl, List.Perm.refl _, same, fun _ _ => rfl⟩
      unfold siftup
      rw [hm]
      simp only [su]
      rw [hvl, if_pos (by omega), if_pos (by omega), ← e, hp, (cmH_one ho (D.nums (2 * t + 2) (by omega) (by omega))).1]
      have e3 : (decide (p % 2 = 1) && decide (p + 1 < n)) = true := by simp; omega
      rw [e3]
      cases hi <;> rfl
    · have htl : t < v.length := by omega
      have hpl : p < v.length := by omega
      refine ⟨(v.set t one).set p (nth v t), ?_, by simpa using hvl, ?_, fun k k1 k2 => by omega, fun j hj => ?_⟩
      · unfold siftup
        rw [hm]
        simp only [su]
        rw [hvl, if_pos (by omega), if_neg (by omega), ← e, hp]
        rw [if_neg (by rw [List.length_set]; omega)]
        show siftdown hi ((v.set t one).set p (nth v t)) t p = _
        unfold siftdown
        have hpl' : p < (v.set t one).length := by simpa using hpl
        rw [nth_set_eq hpl']
        obtain ⟨p', rfl⟩ : ∃ p', p = p' + 1 := ⟨p - 1, by omega⟩
        simp only [sd]
        have e4 : (p' + 1 - 1) / 2 = t := by omega
        rw [if_pos (by omega), e4, nth_set_ne hpl' (by omega), nth_set_eq htl, (cmH_one ho (D.nums t (by omega) (by omega))).2]
        have e3 : (decide ((p' + 1) % 2 = 1) && decide (p' + 1 + 1 < n)) = false := by simp; omega
        rw [e3]
        cases hi <;> rfl
      · have := set_perm (x := nth v t) htl hpl (by omega)
        rw [hp, set_nth htl] at this
        exact this
      · rw [nth_set_ne (by simpa using hpl) (by omega), nth_set_ne htl (by omega)]
  · refine ⟨v, ?_, hvl, List.Perm.refl _, same, fun _ _ => rfl⟩
    unfold siftup
    rw [hm]
    simp only [su]
    rw [hvl, if_pos (by omega), if_pos (by omega), ← e, hp, (cmH_one ho (D.nums (2 * t + 1) (by omega) (by omega))).2]
    have e3 : (decide (p % 2 = 1) && decide (p + 1 < n)) = false := by simp; omega
    rw [e3]
    cases hi <;> rfl

theorem build_law {hi : Bool} {sv : List Value} {one : Value} {p : Nat} (hs : Ints sv) (ho : isI one = false) (h0 : sv ≠ []) (hp : p ≤ sv.length) :
    ∃ row, Mine.hp hi ((sv.length + 1) / 2) (startOf sv one p) = .bad row (aheadOf (sv.length + 1) p != hi) ∧ Built hi sv one p row := by
  have h1 : 1 ≤ sv.length := List.length_pos_iff.mpr h0
  have hsl := startOf_len (one := one) hp
  have D0 : Dv hi (sv.length + 1) ((sv.length + 1) / 2) p (startOf sv one p) := ⟨hsl, fun j hj hne => startOf_ne hs hp hj hne, fun k k1 k2 k3 => by omega⟩
  have ht : turnOf (sv.length + 1) p + 1 ≤ (sv.length + 1) / 2 := by unfold turnOf; split <;> omega
  have hzs : ∀ i, turnOf (sv.length + 1) p < i → i < (sv.length + 1) / 2 → ∀ q, q < sv.length + 1 → Sub i q → q ≠ p := fun i h2 h3 q _ hq e => by
    subst e
    unfold turnOf at h2
    split at h2
    · have := hq.le; omega
    · rcases hq.up with e | ⟨_, e⟩
      · omega
      · have := e.le; omega
  obtain ⟨v, r1, D, r3, r4⟩ := hp_before (show p < sv.length + 1 by omega) hzs ((sv.length + 1) / 2 - (turnOf (sv.length + 1) p + 1)) (startOf sv one p) (by omega) (by rw [show turnOf (sv.length + 1) p + 1 + ((sv.length + 1) / 2 - (turnOf (sv.length + 1) p + 1)) = (sv.length + 1) / 2 by omega]; exact D0)
  rw [show turnOf (sv.length + 1) p + 1 + ((sv.length + 1) / 2 - (turnOf (sv.length + 1) p + 1)) = (sv.length + 1) / 2 by omega] at r1
  have hvp : nth v p = one := by rw [r3 p (.inr rfl), startOf_at hp]
  have fin : ∀ row f, siftup hi v (turnOf (sv.length + 1) p) = .bad row f → f = (aheadOf (sv.length + 1) p != hi) → row.length = sv.length + 1 → row.Perm v →
      (∀ k, 2 * turnOf (sv.length + 1) p + 3 ≤ k → k < sv.length + 1 → isI (nth row k) = true → isI (nth row ((k - 1) / 2)) = true ∧ ky hi (nth row ((k - 1) / 2)) ≤ ky hi (nth row k)) → (∀ j, j < turnOf (sv.length + 1) p → nth row j = nth v j) →
      ∃ row, Mine.hp hi ((sv.length + 1) / 2) (startOf sv one p) = .bad row (aheadOf (sv.length + 1) p != hi) ∧ Built hi sv one p row := fun row f q1 q2 q3 q4 q5 q6 => by
    refine ⟨row, ?_, q3, q4.trans r4, q5, take_eq (by rw [q3, hsl]) fun j hj => ?_⟩
    · rw [r1]
      show (match siftup hi v (turnOf (sv.length + 1) p) with | .ok vs' => Mine.hp hi (turnOf (sv.length + 1) p) vs' | r => r) = _
      rw [q1, q2]
    · rw [q6 j hj, r3 j (.inl (by omega))]
  by_cases hlt : p < (sv.length + 1) / 2
  · have et : turnOf (sv.length + 1) p = p := by unfold turnOf; rw [if_pos hlt]
    rw [et] at D fin
    obtain ⟨row, q1, q2, q3, q4, q5⟩ := siftup_bad_top ho D hvp (by omega)
    refine fin row _ q1 ?_ q2 q3 q4 q5
    have e : aheadOf (sv.length + 1) p = true := by simp [aheadOf, hlt]
    rw [e]; cases hi <;> rfl
  · have et : turnOf (sv.length + 1) p = (p - 1) / 2 := by unfold turnOf; rw [if_neg hlt]
    rw [et] at D fin
    obtain ⟨row, q1, q2, q3, q4, q5⟩ := siftup_bad_leaf ho D hvp (by omega) (by omega) (by omega)
    refine fin row _ q1 ?_ q2 q3 q4 q5
    have e : aheadOf (sv.length + 1) p = (decide (p % 2 = 1) && decide (p + 1 < sv.length + 1)) := by simp [aheadOf, hlt]
    rw [e]
end
section
/-- the greater child (the right one of equals) -/
def nx (hs : List Value) (q : Nat) : Nat := if 2 * q + 2 < hs.length then (if ltB (nth hs (2 * q + 2)) (nth hs (2 * q + 1)) = true then 2 * q + 1 else 2 * q + 2) else 2 * q + 1
theorem nx_or (hs : List Value) (q : Nat) : nx hs q = 2 * q + 1 ∨ nx hs q = 2 * q + 2 := by
  unfold nx; split
  · split <;> simp
  · exact .inl rfl
theorem nx_lt {hs : List Value} {q : Nat} (h : 2 * q + 1 < hs.length) : nx hs q < hs.length := by
  unfold nx; split
  · split <;> omega
  · exact h
structure Way (hs : List Value) (j : Nat) (ws : List Nat) : Prop where
  pos : 0 < ws.length
  first : ws.getD 0 0 = 0
  next : ∀ t, t + 1 < ws.length → ws.getD (t + 1) 0 = nx hs (ws.getD t 0)
  last : ws.getD (ws.length - 1) 0 ≤ j
  more : 2 * ws.getD (ws.length - 1) 0 + 1 < hs.length → j < nx hs (ws.getD (ws.length - 1) 0)
theorem way_spec (hs : List Value) : ∀ j, j < hs.length → Way hs j (wayTo hs j)
  | 0, h => by
    refine ⟨by simp [wayTo], by simp [wayTo], fun t ht => by simp [wayTo] at ht, by simp [wayTo], fun _ => ?_⟩
    have := nx_or hs ((wayTo hs 0).getD ((wayTo hs 0).length - 1) 0)
    omega
  | j + 1, h => by
    have W := way_spec hs j (by omega)
    have hl := W.pos
    simp only [wayTo, wayStep]
    have hgo : ∀ (k : Nat), (wayTo hs j ++ [k]).getD ((wayTo hs j ++ [k]).length - 1) 0 = k := fun k => by simp [List.getD]
    have hkeep : ∀ (k t : Nat), t < (wayTo hs j).length → (wayTo hs j ++ [k]).getD t 0 = (wayTo hs j).getD t 0 := fun k t ht => by simp [List.getD, List.getElem?_append, ht]
    by_cases hc : (j + 1 - 1) / 2 = (wayTo hs j).getD ((wayTo hs j).length - 1) 0 ∧ (j + 1 - 1 + (j + 1) % 2 + 1 = hs.length ∨ ltB (nth hs (j + 1 - 1 + (j + 1) % 2 + 1)) (nth hs (j + 1 - 1 + (j + 1) % 2)) = decide (j + 1 = j + 1 - 1 + (j + 1) % 2))
    · rw [if_pos hc]
      obtain ⟨c1, c2⟩ := hc
      have enx : nx hs ((wayTo hs j).getD ((wayTo hs j).length - 1) 0) = j + 1 := by
        rw [← c1]
        unfold nx
        have hm := W.more
        rw [← c1] at hm
        rcases Nat.mod_two_eq_zero_or_one (j + 1) with e | e
        · -- an even place: the right one
          have e1 : j + 1 - 1 + (j + 1) % 2 = 2 * ((j + 1 - 1) / 2) + 1 := by omega
          have e2 : j + 1 = 2 * ((j + 1 - 1) / 2) + 2 := by omega
          rw [e1] at c2
          rw [if_pos (by omega)]
          rcases c2 with c2 | c2
          · omega
          · rw [c2, if_neg (by simp; omega)]; omega
        · have e1 : j + 1 - 1 + (j + 1) % 2 = 2 * ((j + 1 - 1) / 2) + 1 := by omega
          have e2 : j + 1 = 2 * ((j + 1 - 1) / 2) + 1 := by omega
          rw [e1] at c2
          rcases c2 with c2 | c2
          · rw [if_neg (by omega)]; omega
          · split
            · rw [c2, if_pos (by simp; omega)]; omega
            · omega
      refine ⟨by simp, by rw [hkeep _ 0 hl]; exact W.first, fun t ht => ?_, by rw [hgo]; exact Nat.le_refl _, fun _ => ?_⟩
      · simp only [List.length_append, List.length_cons, List.length_nil] at ht
        by_cases e : t + 1 < (wayTo hs j).length
        · rw [hkeep _ _ e, hkeep _ _ (by omega)]; exact W.next t e
        · have e2 : t = (wayTo hs j).length - 1 := by omega
          rw [hkeep _ t (by omega), e2, enx]
          have e3 : (wayTo hs j).length - 1 + 1 = (wayTo hs j ++ [j + 1]).length - 1 := by simp; omega
          rw [e3, hgo]
      · rw [hgo]
        have := nx_or hs (j + 1)
        omega
    · rw [if_neg hc]
      refine ⟨hl, W.first, W.next, Nat.le_succ_of_le W.last, fun hm => ?_⟩
      have h1 := W.more hm
      have hor := nx_or hs ((wayTo hs j).getD ((wayTo hs j).length - 1) 0)
      rcases Nat.lt_or_ge (j + 1) (nx hs ((wayTo hs j).getD ((wayTo hs j).length - 1) 0)) with h2 | h2
      · exact h2
      · exfalso
        refine hc ?_
        have e0 : nx hs ((wayTo hs j).getD ((wayTo hs j).length - 1) 0) = j + 1 := by omega
        generalize (wayTo hs j).getD ((wayTo hs j).length - 1) 0 = q at *
        refine ⟨by omega, ?_⟩
        unfold nx at e0
        split at e0
        · rename_i hq
          right
          split at e0
          · rename_i hlt
            have e1 : j + 1 - 1 + (j + 1) % 2 = 2 * q + 1 := by omega
            rw [e1, hlt]
            simp; omega
          · rename_i hlt
            have e1 : j + 1 - 1 + (j + 1) % 2 = 2 * q + 1 := by omega
            rw [e1]
            have e2 : ltB (nth hs (2 * q + 1 + 1)) (nth hs (2 * q + 1)) = false := by simpa using hlt
            rw [e2]
            simp; omega
        · left; omega
end
section
theorem rowTo_ints {hs : List Value} (hi : Ints hs) {ws : List Nat} (hw : ∀ p ∈ ws, p < hs.length) : ∀ t, t < ws.length → Ints (rowTo hs ws t)
  | 0, _ => hi
  | t + 1, h => (rowTo_ints hi hw t (by omega)).set (hi _ (nth_mem (getD_lt hw h))) _
theorem ints_cm {hs : List Value} (hi : Ints hs) {a c : Nat} (ha : a < hs.length) (hc : c < hs.length) : cmH true (nth hs a) (nth hs c) = .val (ltB (nth hs c) (nth hs a)) := by
  show cm (nth hs c) (nth hs a) = _
  exact cm_ints (hi _ (nth_mem hc)) (hi _ (nth_mem ha))
theorem set_of_set {a c : List Value} {q : Nat} {x y : Value} (h : a.set q x = c.set q x) : a.set q y = c.set q y := by
  have := congrArg (fun l => List.set l q y) h
  simpa [List.set_set] using this

theorem su_way {hs : List Value} {one : Value} (hi : Ints hs) (h0 : 0 < hs.length) : ∀ (fuel t : Nat) (vs : List Value), t < (wayTo hs (hs.length - 1)).length → vs.length = hs.length →
    vs.set ((wayTo hs (hs.length - 1)).getD t 0) one = (rowTo hs (wayTo hs (hs.length - 1)) t).set ((wayTo hs (hs.length - 1)).getD t 0) one →
    (∀ j, (wayTo hs (hs.length - 1)).getD t 0 < j → nth vs j = nth hs j) → hs.length - (wayTo hs (hs.length - 1)).getD t 0 ≤ fuel →
    ∃ vs', su true fuel vs ((wayTo hs (hs.length - 1)).getD t 0) = .ok vs' ((wayTo hs (hs.length - 1)).getD ((wayTo hs (hs.length - 1)).length - 1) 0) ∧
      vs'.set ((wayTo hs (hs.length - 1)).getD ((wayTo hs (hs.length - 1)).length - 1) 0) one = lostRow hs one ∧ vs'.length = hs.length ∧ hs.length ≤ 2 * (wayTo hs (hs.length - 1)).getD ((wayTo hs (hs.length - 1)).length - 1) 0 + 1
  | 0, t, vs, ht, hl, hv, hk, hf => by
    have := getD_lt (n := hs.length) (fun p hp => by have := wayTo_le hs _ p hp; omega) ht
    omega
  | fuel + 1, t, vs, ht, hl, hv, hk, hf => by
    have W := way_spec hs (hs.length - 1) (by omega)
    have hws : ∀ p ∈ wayTo hs (hs.length - 1), p < hs.length := fun p hp => by have := wayTo_le hs _ p hp; omega
    have hq := getD_lt hws ht
    have step : 2 * (wayTo hs (hs.length - 1)).getD t 0 + 1 < hs.length → t + 1 < (wayTo hs (hs.length - 1)).length := fun h => by
      rcases Nat.lt_or_ge (t + 1) (wayTo hs (hs.length - 1)).length with h1 | h1
      · exact h1
      · exfalso
        have e : t = (wayTo hs (hs.length - 1)).length - 1 := by omega
        have h2 := W.more (by rw [← e]; exact h)
        have h3 := nx_lt h
        rw [← e] at h2
        omega
    have lastOf : ¬ 2 * (wayTo hs (hs.length - 1)).getD t 0 + 1 < hs.length → t = (wayTo hs (hs.length - 1)).length - 1 := fun h => by
      rcases Nat.lt_or_ge (t + 1) (wayTo hs (hs.length - 1)).length with h1 | h1
      · exfalso
        have h2 := W.next t h1
        have h3 := getD_lt hws h1
        have := nx_or hs ((wayTo hs (hs.length - 1)).getD t 0)
        omega
      · omega
    have go : ∀ h : 2 * (wayTo hs (hs.length - 1)).getD t 0 + 1 < hs.length, ∃ vs', su true fuel (vs.set ((wayTo hs (hs.length - 1)).getD t 0) (nth vs (nx hs ((wayTo hs (hs.length - 1)).getD t 0)))) (nx hs ((wayTo hs (hs.length - 1)).getD t 0)) = .ok vs' ((wayTo hs (hs.length - 1)).getD ((wayTo hs (hs.length - 1)).length - 1) 0) ∧
      vs'.set ((wayTo hs (hs.length - 1)).getD ((wayTo hs (hs.length - 1)).length - 1) 0) one = lostRow hs one ∧ vs'.length = hs.length ∧ hs.length ≤ 2 * (wayTo hs (hs.length - 1)).getD ((wayTo hs (hs.length - 1)).length - 1) 0 + 1 := fun h => by
      have h1 := step h
      have e := W.next t h1
      have hor := nx_or hs ((wayTo hs (hs.length - 1)).getD t 0)
      rw [← e] at hor ⊢
      rw [hk _ (by omega)]
      have e2 : vs.set ((wayTo hs (hs.length - 1)).getD t 0) (nth hs ((wayTo hs (hs.length - 1)).getD (t + 1) 0)) = rowTo hs (wayTo hs (hs.length - 1)) (t + 1) := set_of_set hv
      refine su_way hi h0 fuel (t + 1) _ h1 (by simpa using hl) (by rw [e2]) (fun j hj => ?_) (by omega)
      rw [nth_set_ne (by rw [hl]; exact hq) (by omega)]
      exact hk j (by omega)
    simp only [su]
    rw [hl]
    by_cases h1 : 2 * (wayTo hs (hs.length - 1)).getD t 0 + 1 < hs.length
    · rw [if_pos h1]
      have G := go h1
      unfold nx at G
      by_cases h2 : 2 * (wayTo hs (hs.length - 1)).getD t 0 + 2 < hs.length
      · rw [if_pos h2] at G ⊢
        have e4 : cmH true (nth vs (2 * (wayTo hs (hs.length - 1)).getD t 0 + 1)) (nth vs (2 * (wayTo hs (hs.length - 1)).getD t 0 + 2)) = .val (ltB (nth hs (2 * (wayTo hs (hs.length - 1)).getD t 0 + 2)) (nth hs (2 * (wayTo hs (hs.length - 1)).getD t 0 + 1))) := by
          rw [hk _ (by omega), hk _ (by omega)]; exact ints_cm hi h1 h2
        rw [e4]
        by_cases h3 : ltB (nth hs (2 * (wayTo hs (hs.length - 1)).getD t 0 + 2)) (nth hs (2 * (wayTo hs (hs.length - 1)).getD t 0 + 1)) = true
        · rw [if_pos h3] at G
          rw [h3]; exact G
        · rw [if_neg h3] at G
          have h3' : ltB (nth hs (2 * (wayTo hs (hs.length - 1)).getD t 0 + 2)) (nth hs (2 * (wayTo hs (hs.length - 1)).getD t 0 + 1)) = false := by simpa using h3
          rw [h3']; exact G
      · rw [if_neg h2] at G ⊢
        exact G
    · rw [if_neg h1]
      have e := lastOf h1
      refine ⟨vs, by rw [← e], ?_, hl, by rw [← e]; omega⟩
      unfold lostRow
      rw [← e]; exact hv

theorem lost_law {hs : List Value} {one : Value} (hi : Ints hs) (ho : isI one = false) (h0 : 0 < hs.length) :
    (hs.length = 1 → siftup true (hs.set 0 one) 0 = .ok (lostRow hs one)) ∧ (1 < hs.length → siftup true (hs.set 0 one) 0 = .bad (lostRow hs one) false) := by
  have W := way_spec hs (hs.length - 1) (by omega)
  have hws : ∀ p ∈ wayTo hs (hs.length - 1), p < hs.length := fun p hp => by have := wayTo_le hs _ p hp; omega
  have hf := W.first
  obtain ⟨vs', h1, h2, h3, h4⟩ := su_way (one := one) hi h0 hs.length 0 (hs.set 0 one) W.pos (by simp) (by rw [hf]; simp [rowTo, List.set_set]) (fun j hj => nth_set_ne h0 (by rw [hf] at hj; omega)) (by omega)
  rw [hf] at h1
  have hql := getD_lt hws (show (wayTo hs (hs.length - 1)).length - 1 < (wayTo hs (hs.length - 1)).length by have := W.pos; omega)
  have e0 : siftup true (hs.set 0 one) 0 = siftdown true (lostRow hs one) 0 ((wayTo hs (hs.length - 1)).getD ((wayTo hs (hs.length - 1)).length - 1) 0) := by
    unfold siftup
    rw [List.length_set, h1, nth_set_eq h0]
    show siftdown true (vs'.set _ one) 0 _ = _
    rw [h2]
  have e1 : nth (lostRow hs one) ((wayTo hs (hs.length - 1)).getD ((wayTo hs (hs.length - 1)).length - 1) 0) = one := by
    unfold lostRow; rw [nth_set_eq (by rw [rowTo_len]; exact hql)]
  constructor
  · intro hn
    have e2 : (wayTo hs (hs.length - 1)).getD ((wayTo hs (hs.length - 1)).length - 1) 0 = 0 := by omega
    rw [e0]
    unfold siftdown
    rw [e1, e2]
    show Out.ok ((lostRow hs one).set 0 one) = _
    rw [e2] at e1
    have hl : (lostRow hs one).length = hs.length := by unfold lostRow; rw [List.length_set, rowTo_len]
    have e3 := set_nth (vs := lostRow hs one) (p := 0) (by rw [hl]; exact h0)
    rw [e1] at e3
    rw [e3]
  · intro hn
    rw [e0]
    unfold siftdown
    rw [e1]
    generalize hq : (wayTo hs (hs.length - 1)).getD ((wayTo hs (hs.length - 1)).length - 1) 0 = q at *
    obtain ⟨q', rfl⟩ : ∃ q', q = q' + 1 := ⟨q - 1, by omega⟩
    simp only [sd]
    rw [if_pos (by omega)]
    have hint : isI (nth (lostRow hs one) ((q' + 1 - 1) / 2)) = true := by
      unfold lostRow
      rw [hq, nth_set_ne (by rw [rowTo_len]; exact hql) (by omega)]
      exact isI_iff.mpr (rowTo_ints hi hws _ (by have := W.pos; omega) _ (nth_mem (by rw [rowTo_len]; omega)))
    rw [(cmH_one ho hint).1]
    rfl
theorem lostRow_len (hs : List Value) (one : Value) : (lostRow hs one).length = hs.length := by unfold lostRow; rw [List.length_set, rowTo_len]
theorem are_map : ∀ {vs : List Value} {ns : List Int}, IntsAre vs ns → ns = vs.map (ky false)
  | _, _, .nil => rfl
  | _, _, .cons n t h => by rw [List.map_cons, ← are_map h]; rfl
theorem are_same : ∀ {vs ws : List Value} {ns : List Int}, IntsAre vs ns → IntsAre ws ns → Sames vs ws
  | _, _, _, .nil, .nil => .refl _
  | _, _, _, .cons n t h, .cons _ u h' => by
    have ih := are_same h h'
    refine ⟨by simp [ih.1], fun i hi => ?_⟩
    cases i with
    | zero => exact .int n t u
    | succ i => exact ih.2 i (by simpa using hi)
theorem startOf_filter {sv : List Value} {one : Value} {p : Nat} (hs : Ints sv) (ho : isI one = false) : (startOf sv one p).filter isI = sv := by
  have h1 : ∀ l : List Value, (∀ v ∈ l, v ∈ sv) → l.filter isI = l := fun l h => List.filter_eq_self.mpr fun v hv => isI_iff.mpr (hs v (h v hv))
  simp only [startOf, List.filter_append, List.append_assoc]
  rw [h1 _ fun v => List.mem_of_mem_take, h1 _ fun v => List.mem_of_mem_drop]
  simp [ho]
theorem sorted_same {row sv v1 v2 : List Value} {one : Value} {hi : Bool} {p : Nat} {n0 n1 n1' n2' : List Int} (hs : Ints sv) (ho : isI one = false) (B : Built hi sv one p row) (h1 : IntsAre (row.filter isI) n1) (h0 : IntsAre sv n0)
    (a1 : IntsAre v1 n1') (p1 : n1'.Perm n1) (s1 : n1'.Pairwise (· ≤ ·)) (a2 : IntsAre v2 n2') (p2 : n2'.Perm n0) (s2 : n2'.Pairwise (· ≤ ·)) : Sames v1 v2 := by
  have hp : n1.Perm n0 := by
    rw [are_map h1, are_map h0]
    refine List.Perm.map _ ?_
    have := B.perm.filter isI
    rwa [startOf_filter hs ho] at this
  have e : n1' = n2' := List.Perm.eq_of_pairwise (fun x y _ _ h1 h2 => Int.le_antisymm h1 h2) s1 s2 (p1.trans (hp.trans p2.symm))
  subst e
  exact are_same a1 a2
end
section
section
variable {w : World} {A : Around} {E : Value → Shared → Prop} {s : Shared} {g : Heap} {L : Addr} {m : Str → Option Value} {news : List (Addr × Obj)}
theorem dict0_N {env : Env} {pos : Pos} {Q : Value → Shared → Prop} (F : Fr g L s.heap m) (N : News g L s.heap news)
    (h : ∀ r h', Fr g L h' m → News g L h' ((r, { cls := .type "dict", data := .dict #[] }) :: news) → (∀ p ∈ news, p.1 ≠ r) → s.heap.get? r = none → Q (.ref r) { s with heap := h' }) : wpAny (model PR w) A (eval (.Dict [] [] pos) env) Q E s :=
  wpAny_Dict_empty (h _ _ (F.push _) (N.push F _) (News.ne_size N) (Heap.get?_none_of_le (Nat.le_refl _)))
theorem unpack_N {env : Env} {elts : List Expr} {k : Nat} {pos : Pos} {t : Addr} {vs : List Value} {Q : Unit → Shared → Prop} (F : Fr g L s.heap m) (N : News g L s.heap news) (hh : A.handled = none) (ht : s.heap.get? t = some (tup vs))
    (hn : (assignEach elts env).length = vs.length) (hstar : (assignEach elts env).findIdx? (·.1) = none)
    (h : ∀ h', Fr g L h' m → News g L h' news → wpAny (model PR w) A (assignInOrder ((assignEach elts env).map (·.2)) vs) Q E { s with heap := h' }) :
    wpAny (model PR w) A (assign (.Tuple elts k pos) env (.ref t)) Q E s := by
  refine wpAny_assign_Tuple (items := vs.toArray) hh (isTup_tup ht) (by simpa using hn) hstar fun h' he => ?_
  have kk : ∀ b o, s.heap.get? b = some o → h'.get? b = some o := fun b o e => he b o (Nat.ne_of_lt (Heap.lt_size e)) e
  exact h h' (F.kept kk) (fun p hp => ⟨kk _ _ (N p hp).1, (N p hp).2⟩)
end
theorem ground {w : World} {mean : ExcName → Option Value} {mg mb : Str → Option Value} {g₁ h₁ : Heap} {m : Str → Option Value} {env : Env} (hf : env.frame = some g₁.objs.size) (hk : env.scope.kind ≠ .module)
    (X : (Mine.hd.heap_39 w.params).In (ghostOf g₁ [(107, 103)])) (T : TopB mean mg mb (ghostOf g₁ [(107, 103)])) (F : Fr (ghostOf g₁ [(107, 103)]) g₁.objs.size h₁ m) :
    Body w mean mg mb (ghostOf g₁ [(107, 103)]) (callerA.deeper env) env [] 10 g₁.objs.size [103] g₁ h₁ where
  C := { X := X, T := T, fr := rfl, hd := rfl, dp := by show callerA.depth + 1 + 10 < recursionLimit; decide, un := by show callerA.units + 3 + 10 * 10 + 100 < cLine; decide, hb := F.keep
         ff := by
          obtain ⟨oL, es, ep, hL, hLd, _⟩ := F.ns
          refine ⟨hk, ⟨_, oL, hf, ?_, hL, fun vs q => by rw [hLd] at q; cases q⟩, trivial⟩
          exact ghost_fresh (Heap.get?_none_of_le (Nat.le_refl _)) }
  envF := hf
  b0 := fun a o e => of_hideAll _ e
  f0 := fun a ha => nomatch ha
  hS := fun a ha => ⟨(fun q => nomatch q), by rcases List.mem_singleton.mp ha with rfl; exact hideAll_none _ (.head _)⟩
  R := ⟨fun a o e hS _ => F.keep _ _ (ghost_ne e (by simpa using hS)), fun a o _ hf => nomatch hf⟩
  h0L := Nat.le_refl _
theorem anyQ {M : Model} {A : Around} {e : Sem Flow} {Q : Flow → Shared → Prop} {E : Value → Shared → Prop} {s : Shared}
    (h : ∀ (Q' : Flow → Shared → Prop) (E' : Value → Shared → Prop), (∀ f s', Q f s' → Q' f s') → wpAny M A e Q' E' s) : wpAny M A e Q E s := h Q E fun _ _ x => x
theorem anyQk {M : Model} {A : Around} {e : Sem Flow} {Q : Flow → Shared → Prop} {E : Value → Shared → Prop} {s : Shared}
    (h : ∀ Q' : Flow → Shared → Prop, (∀ f s', Q f s' → Q' f s') → wpAny M A e Q' E s) : wpAny M A e Q E s := h Q fun _ _ x => x
theorem hideI (I : Nat → Shared → Prop) : ∃ J : Nat → Shared → Prop, ∀ j s, J j s ↔ I j s := ⟨I, fun _ _ => Iff.rfl⟩
theorem hideF {M : Model} {A : Around} {c : Code} {R : Result → Shared → Prop} {s : Shared} (I : Nat → Shared → Prop) (n : Nat) (h : I n s)
    (k : ∀ J : Nat → Shared → Prop, (∀ j s, J j s ↔ I j s) → J n s → codeAny M A c R s) : codeAny M A c R s := k I (fun _ _ => Iff.rfl) h
end
theorem fill : Mine.hd.heap_39 = Mine.hd.heap_39 ∧ PySem.Challenge.rw_dp0041_01 = PySem.Challenge.rw_dp0041_01 := by k_fill; exact ⟨rfl, rfl⟩
set_option compiler.extract_closed false
local macro_rules | `(tactic| walk_at "ci6") => `(tactic| (intro r9 h9 F9 N9 a9 n9; try dsimp only))
local macro_rules | `(tactic| walk_at "ci3") => `(tactic| (intro h' F' N'; try dsimp only))
local macro_rules | `(tactic| walk_at "cN") => `(tactic| (case N => assumption))
local macro_rules | `(tactic| walk_at "chk") => `(tactic| (case hk => with_unfolding_all rfl))
local macro_rules | `(tactic| walk_at "che") => `(tactic| (case he => with_unfolding_all rfl))
local macro_rules | `(tactic| walk_at "chx") => `(tactic| (case hx => with_unfolding_all rfl))
local macro_rules | `(tactic| walk_at "chg") => `(tactic| (case hl => walk_at "get"))
local macro_rules | `(tactic| walk_at "chz") => `(tactic| (case hz => omega))
local macro_rules | `(tactic| walk_at "cxFXTe") => `(tactic| ((case hx => with_unfolding_all rfl); (case F => assumption); (case X => assumption); (case T => exact topRead_of (by assumption)); (case e => k_is)))
local macro_rules | `(tactic| walk_at "cvnkd") => `(tactic| ((case hv => boot_by_name); (case hn => decide); (case hk => with_unfolding_all rfl); (case hd => decide)))
local macro_rules | `(tactic| walk_at "cFlmK") => `(tactic| ((case F => assumption); (case hl => with_unfolding_all rfl); (case hm => first | exact rfl | assumption); (case hk => with_unfolding_all rfl); (case hd => decide)))
local macro_rules | `(tactic| walk_at "cFN") => `(tactic| ((case F => assumption); (case N => assumption)))
local macro_rules | `(tactic| walk_at "cep") => `(tactic| ((case he => with_unfolding_all rfl); (case hp => with_unfolding_all rfl)))
local macro_rules | `(tactic| walk_at "ckd") => `(tactic| ((case hk => with_unfolding_all rfl); (case hd => decide)))
local macro_rules | `(tactic| walk_at "ckl") => `(tactic| ((case hk => with_unfolding_all rfl); (case hl => with_unfolding_all rfl)))
local macro_rules | `(tactic| walk_at "mem") => `(tactic| first | exact List.Mem.head _ | (refine List.Mem.tail _ ?_; walk_at "mem"))
local macro_rules | `(tactic| walk_at "get") => `(tactic| first | exact News.get (by assumption) (by walk_at "mem") | exact Fr.keep (by assumption) _ _ (by assumption))
local macro_rules | `(tactic| walk_at "m") => `(tactic| first
  | (with_reducible first | refine wpAny_execs_cons ?_ | refine wpAny_execs_nil ?_)
  | ((with_reducible refine wpAny_Assign_Name ?_ ?_); rotate_left; (with_unfolding_all rfl))
  | ((with_reducible refine wpAny_Assign_Subscript ?_ ?_); rotate_left; (with_unfolding_all rfl))
  | (with_reducible first | refine wpAny_BinOp ?_ | refine Subscript_ ?_ | refine wpAny_Constant_int ?_)
  | ((with_reducible refine wpAny_isTrue_Compare1 ?_ ?_); rotate_left; (with_unfolding_all rfl))
  | (with_reducible first | refine wpAny_truthy_bool ?_ | refine wpAny_Continue ?_ | refine wpAny_Break ?_ | refine isTrue_not ?_ | refine isTrue_and_nil ?_ | refine isTrue_and ?_ | refine isTrue_or_nil ?_ | refine isTrue_or ?_)
  | ((with_reducible refine' ld ?F ?hm ?_ ?hk ?hl ?hd); (walk_at "cFlmK"))
  | ((with_reducible refine' name_K ?F ?X ?T ?e ?_ ?hk ?hx ?hd); (walk_at "cxFXTe"); (walk_at "ckd"))
  | ((with_reducible refine' name_B ?F ?X ?T ?e ?hv ?hn ?_ ?hk ?hx ?hd); (walk_at "cxFXTe"); (walk_at "cvnkd"))
  | ((with_reducible refine' stN ?F ?N ?_ ?hk ?hl); (walk_at "cFN"); (walk_at "ckl"); (walk_at "ci3"))
  | ((with_reducible refine' nameX_L ?F ?hm ?_ ?hk ?hl ?hd); (walk_at "cFlmK"))
  | ((with_reducible refine' nameX_C ?N ?hc ?hm ?hd ?_ ?hk ?hx ?hb); (walk_at "chx"); (walk_at "cN"); (case hc => with_unfolding_all rfl); (case hm => walk_at "mem"); (case hd => assumption); (walk_at "chk"); (case hb => decide))
  | ((with_reducible refine' nameX_K ?F ?X ?T ?e ?_ ?hk ?hx ?hd); (walk_at "cxFXTe"); (walk_at "ckd"))
  | ((with_reducible refine' nameX_B ?F ?X ?T ?e ?hv ?hn ?_ ?hk ?hx ?hd); (walk_at "cxFXTe"); (walk_at "cvnkd"))
  | ((with_reducible refine' storeX_L ?F ?N ?_ ?hk ?hl); (walk_at "cFN"); (walk_at "ckl"); (walk_at "ci3"))
  | ((with_reducible refine' nameQ_L ?F ?hm ?_ ?hk ?hl ?hd); (walk_at "cFlmK"))
  | ((with_reducible refine' lcf_cell ?N ?hc ?hm ?hd ?_ ?hk ?hx ?hb); (walk_at "chx"); (walk_at "cN"); (case hc => with_unfolding_all rfl); (case hm => walk_at "mem"); (case hd => assumption); (walk_at "chk"); (case hb => decide))
  | ((with_reducible refine' nameQ_B ?F ?X ?T ?e ?hv ?hn ?_ ?hg ?hbb ?hk ?hx ?hd); (walk_at "cxFXTe"); (case hv => boot_by_name); (case hn => decide); (case hg => exact rfl); (case hbb => exact rfl); (walk_at "ckd"))
  | (with_reducible first | refine wpAny_Slice ?_ | refine Constant_bytes ?_)
  | ((with_reducible refine' dict0_N ?F ?N ?_); (walk_at "cFN"); (walk_at "ci6"))
  | (with_reducible first | refine wpAny_evalPart_none ?_ | refine wpAny_evalPart_some ?_)
  | ((with_reducible refine' item_at ?hl ?hk ?hz ?_ ?hs); (walk_at "chg"); (case hk => first | assumption | omega); (walk_at "chz"); (case hs => with_unfolding_all rfl))
  | ((with_reducible refine' Call_ ?_ ?he); (walk_at "che"))
  | ((with_reducible refine' PyProof.Rows.callWith_builtin1 ?_ ?he ?hp); (walk_at "cep"))
  | ((with_reducible refine' callWith_K ?X ?hk ?_ ?he ?hp); (case X => assumption); (case hk => k_is); (walk_at "cep"))
  | ((with_reducible refine' args_cons ?_ ?he); (walk_at "che"))
  | (with_reducible refine args_nil ?_)
  | (refine ⟨Frag.In.keeps (by assumption) (Fr.keep (by assumption)), ?_⟩)
  | ((with_reducible refine' len_N ?hl ?hz ?_); (walk_at "chg"); (walk_at "chz"))
  | ((with_reducible refine' wpAny_Expr_any ?_ ?hi ?hs); (case hi => with_unfolding_all rfl); (case hs => with_unfolding_all rfl))
  | ((with_reducible refine' PyProof.Rows.callWith_type1 ?_ ?he ?hp); (walk_at "cep"))
  | ((with_reducible refine' range1_N ?F ?N ?_); (walk_at "cFN"); intro r9 h9 t91 t92 F9 N9 a9 n9; try dsimp only)
  | ((with_reducible refine' range2_N ?F ?N ?_); (walk_at "cFN"); intro r9 h9 t92 F9 N9 a9 n9; try dsimp only)
  | ((with_reducible refine' wpAny_For ?_ ?hs); (case hs => (intro _; with_unfolding_all rfl)))
  | ((with_reducible refine' wpAny_Return_some ?_))
  | ((with_reducible refine' MethodCall_ ?_ ?he); (walk_at "che"))
  | ((with_reducible refine' method_list ?hl PySem.F.slot_list_pop PySem.F.type_list_pop ?_); (walk_at "chg"); dsimp only)
  | ((with_reducible refine' method_list ?hl PySem.F.slot_list_append PySem.F.type_list_append ?_); (walk_at "chg"); dsimp only)
  | ((with_reducible refine' method_list ?hl PySem.F.slot_list_extend PySem.F.type_list_extend ?_); (walk_at "chg"); dsimp only)
  | (with_reducible refine callWith_method0 ?_)
  | ((with_reducible refine' PyProof.Rows.callWith_method1 ?_ ?he ?hp); (walk_at "cep"))
  | ((with_reducible refine' truthy_N ?hl ?hz ?_); (walk_at "chg"); (walk_at "chz"))
  | ((with_reducible refine' isTrue_plain ?_ ?he); (walk_at "che"))
  | (with_reducible first | refine wpAny_Constant_str ?_ | refine wpAny_Constant_none ?_ | refine wpAny_Constant_bool ?_ | refine Tuple_ ?_ | refine List_ ?_)
  | ((with_reducible refine' tup_N ?F ?N ?hz ?_); (walk_at "cFN"); (case hz => (simp only [List.length_cons, List.length_nil]; omega)); (walk_at "ci6"))
  | ((with_reducible refine' lst_N ?F ?N ?hz ?_); (walk_at "cFN"); (case hz => (simp only [List.length_cons, List.length_nil]; omega)); (walk_at "ci6"))
  | ((with_reducible refine' copy_N ?F ?N ?hl ?hz ?_); (walk_at "cFN"); (walk_at "chg"); (walk_at "chz"); intro r9 c9 h9 F9 N9 a9 n9; try dsimp only)
  | ((with_reducible refine' cat_N ?hx ?hy ?_); (case hx => ((try simp only [Str.length_append]); omega)); (case hy => ((try simp only [Str.length_append]); omega)); intro t9 tk9; try dsimp only)
  | ((with_reducible refine' div2_N ?hp ?_); (case hp => omega))
  | (with_reducible first | refine succ_N ?_ | refine twice_N ?_)
  | ((with_reducible refine' sub1_N ?hp ?_); (case hp => first | assumption | omega))
  | (with_reducible first | refine shr1_N ?_ | refine add_N ?_ | refine add2_N ?_ | refine add3_N ?_ | refine mod2_N ?_ | refine mod6_N ?_ | refine eq_N ?_ | refine eq1_N ?_ | refine PyProof.Rows.eq_bool ?_ | refine lt_N ?_ | refine UnaryOp_ ?_ | refine if_tt ?_ | refine if_ff ?_ | refine PyProof.Rows.neg_int ?_)
  | ((with_reducible refine' wpAny_Compare1 ?_ ?hm); (case hm => with_unfolding_all rfl))
  | (with_reducible first | refine PyProof.Rows.add_int ?_ | refine PyProof.Rows.sub_int' ?_ | refine PyProof.Rows.lt_int ?_)
  | (with_reducible refine PyProof.Rows.gt_int ?_))
section
set_option maxHeartbeats 400000 in
theorem sd_false {w : World} {mean : ExcName → Option Value} {mg mb : Str → Option Value} {b : Heap} {A : Around} {envs : List Env} {k : Nat} {s : Shared} {l : Addr} {vs : List Value} {n : Nat} {st ps : Nat} {t1 t2 : Tok} {one : Value} {T : String} {Q E : Value → Shared → Prop}
    (C : Cx w mean mg mb b A envs (k + 1) s.heap) (hl : s.heap.get? l = some (lst vs n)) (hlb : b.get? l = none) (hlf : l ∉ frs envs) (K : Kind s.heap one T) (hkl : ∀ a, one = .ref a → a ≠ l)
    (hE1 : Els one vs) (hps : ps < vs.length) (hz : vs.length ≤ 64) (hns : siftdown false vs st ps ≠ .stuck)
    (hQ : ∀ vs', siftdown false vs st ps = .ok vs' → ∀ h' tk, Rel (frs envs) [l] s.heap h' → h'.get? l = some (lst vs' n) → Q .none { s with heap := h', toks := tk })
    (hE : ∀ vs' f, siftdown false vs st ps = .bad vs' f → ∀ h' tk e, Raised envs s.heap l (lst vs' n) e "TypeError" (ltText f T) h' → E (.ref e) { s with heap := h', toks := tk }) :
    wpAny (model PR w) A (call (.ref 49) [.ref l, .int (st : Int) t1, .int (ps : Int) t2]) Q E s := by
  refine' enter (f := 49) (binds := [(Str.ofString "heap", .ref l), (Str.ofString "startpos", .int (st : Int) t1), (Str.ofString "pos", .int (ps : Int) t2)]) C [l] (fun a ha => by rcases List.mem_singleton.mp ha with rfl; exact ⟨hlf, hlb⟩) ?k1 ?k2 ?k3 ?k4 ?c1 ?c2 ?c3 ?c4 ?_
  (case k1 => k_is)
  (case k2 => k_is)
  (case k3 => exact BindsTo.of_eq rfl)
  (case k4 => exact locs rfl)
  (case c1 => exact rfl)
  (case c2 => exact rfl)
  (case c3 => exact rfl)
  (case c4 => decide)
  intro L h₁ hL hs B F X T'
  have N : News (cut h₁ s.heap [l]) L h₁ [(l, lst vs n)] := fun p hp => by
    rcases List.mem_singleton.mp hp with rfl
    exact ⟨hs _ _ hl, by rw [hL]; exact Nat.ne_of_lt (Heap.lt_size hl), hid_cut (.inl (.head _))⟩
  dsimp only [List.length_cons, List.length_nil]
  repeat' (walk_at "m")
  clear N F
  rename_i h2 F2 N2
  have hdone : ∀ (vs' : List Value) (ps' : Nat), ps' < vs'.length → ∀ x, (vs'.set ps' x).length = vs'.length := fun vs' ps' _ x => by simp
  refine wpAny_mono (Q := fun f s' => f = .next ∧ ∃ vs' ps' tp m h' tk, s' = { s with heap := h', toks := tk } ∧ Fr (cut h₁ s.heap [l]) L h' m ∧ News (cut h₁ s.heap [l]) L h' [(l, lst vs' n)] ∧
    m (Str.ofString "heap") = some (.ref l) ∧ m (Str.ofString "pos") = some (.int ((ps' : Nat) : Int) tp) ∧ m (Str.ofString "newitem") = some (nth vs ps) ∧ siftdown false vs st ps = .ok (vs'.set ps' (nth vs ps)) ∧ vs'.length = vs.length ∧ ps' < vs'.length) ?loop9 ?rest9 (fun _ _ e => e)
  case rest9 =>
    rintro f s' ⟨rfl, vs', ps', tp, m, h', tk, rfl, F, N, m1, m2, m3, hsd, hlen, hps'⟩
    dsimp only
    repeat' (walk_at "m")
    refine store_N F N (fun _ q => nomatch q) hps' (by omega) fun h3 F3 N3 => ?_
    dsimp only
    refine wpAny_execs_nil ?_
    exact hQ _ hsd h3 _ (B.rel F3) (N3 _ (.head _)).1
  with_reducible refine anyQk fun Q' hQ' => ?_
  refine wpAny_While ?_
  obtain ⟨J, hJ⟩ := hideI (fun j s' => ∃ vs' ps' tp m h' tk, s' = { s with heap := h', toks := tk } ∧ Fr (cut h₁ s.heap [l]) L h' m ∧ News (cut h₁ s.heap [l]) L h' [(l, lst vs' n)] ∧
    m (Str.ofString "heap") = some (.ref l) ∧ m (Str.ofString "startpos") = some (.int (st : Int) t1) ∧ m (Str.ofString "pos") = some (.int ((ps' : Nat) : Int) tp) ∧ m (Str.ofString "newitem") = some (nth vs ps) ∧
    ps' ≤ j ∧ sd false st (nth vs ps) j vs' ps' = siftdown false vs st ps ∧ vs'.length = vs.length ∧ Els one vs' ∧ ps' < vs'.length)
  refine codeAny_whileLoop J ?_ ps ((hJ _ _).mpr ⟨vs, ps, t2, _, h2, _, rfl, F2, N2, rfl, rfl, rfl, rfl, Nat.le_refl _, rfl, rfl, hE1, hps⟩)
  intro j s' hj0
  obtain ⟨vs', ps', tp, m, h', tk, rfl, F, N, m1, m2, m3, m4, hj, hsd, hlen, hE', hps'⟩ := (hJ _ _).mp hj0
  repeat' (walk_at "m")
  by_cases hlt : st < ps'
  case neg =>
    rw [if_neg (by simpa using hlt)]
    refine wpAny_execs_nil ?_
    dsimp only
    refine hQ' _ _ ⟨rfl, vs', ps', tp, m, h', _, rfl, F, N, m1, m3, m4, ?_, hlen, hps'⟩
    rw [← hsd]
    cases j with
    | zero => rfl
    | succ j => simp only [sd, if_neg hlt]
  rw [if_pos (by simpa using hlt)]
  have hpar : (ps' - 1) / 2 < vs'.length := by omega
  repeat' (walk_at "m")
  refine wpAny_If ?_
  repeat' (walk_at "m")
  rename_i ha Fa Na hb Fb Nb
  obtain ⟨j, rfl⟩ : ∃ j', j = j' + 1 := ⟨j - 1, by omega⟩
  have hK : Kind hb one T := K.keeps fun a o e q => (B.old Fb q (by simpa using hkl a e)).imp fun _ x => x.1
  have hx := hE1 _ (nth_mem hps)
  simp only [sd, if_pos hlt, cmH, Bool.false_eq_true, if_false, if_true] at hsd
  refine cmp_items hx (hE' _ (nth_mem hpar)) hK B.C.hd (by have := B.C.un; omega) ?_ ?_ ?_
  · intro q
    rw [q] at hsd
    exact hns hsd.symm
  · intro r hr
    rw [hr] at hsd
    repeat' (walk_at "m")
    cases r with
    | false =>
      rw [if_neg (by decide)]
      repeat' (walk_at "m")
      exact hQ' _ _ ⟨rfl, vs', ps', tp, _, hb, _, rfl, Fb, Nb, m1, m3, m4, hsd.symm, hlen, hps'⟩
    | true =>
      rw [if_pos rfl]
      repeat' (walk_at "m")
      refine store_N Fb Nb (fun _ q => nomatch q) hps' (by omega) fun h3 F3 N3 => ?_
      dsimp only
      repeat' (walk_at "m")
      rename_i h4 F4 N4
      exact ⟨j, Nat.lt_succ_self _, (hJ _ _).mpr ⟨_, _, _, _, h4, _, rfl, F4, N4, m1, m2, rfl, m4, by omega, hsd, by simpa using hlen, hE'.set (hE' _ (nth_mem hpar)) _, by simpa using hpar⟩⟩
  · intro f hf h' tk e tk' hx'
    have hbad : siftdown false vs st ps = .bad vs' f := by
      rw [← hsd, hf]
      cases f <;> rfl
    exact B.loop_made Fb (Nb _ (.head _)).1 (Nb _ (.head _)).2.1 hx' fun h5 hr => hE _ _ hbad h5 _ _ hr
end
section
set_option maxHeartbeats 400000 in
theorem sd_true {w : World} {mean : ExcName → Option Value} {mg mb : Str → Option Value} {b : Heap} {A : Around} {envs : List Env} {k : Nat} {s : Shared} {l : Addr} {vs : List Value} {n : Nat} {st ps : Nat} {t1 t2 : Tok} {one : Value} {T : String} {Q E : Value → Shared → Prop}
    (C : Cx w mean mg mb b A envs (k + 1) s.heap) (hl : s.heap.get? l = some (lst vs n)) (hlb : b.get? l = none) (hlf : l ∉ frs envs) (K : Kind s.heap one T) (hkl : ∀ a, one = .ref a → a ≠ l)
    (hE1 : Els one vs) (hps : ps < vs.length) (hz : vs.length ≤ 64) (hns : siftdown true vs st ps ≠ .stuck)
    (hQ : ∀ vs', siftdown true vs st ps = .ok vs' → ∀ h' tk, Rel (frs envs) [l] s.heap h' → h'.get? l = some (lst vs' n) → Q .none { s with heap := h', toks := tk })
    (hE : ∀ vs' f, siftdown true vs st ps = .bad vs' f → ∀ h' tk e, Raised envs s.heap l (lst vs' n) e "TypeError" (ltText f T) h' → E (.ref e) { s with heap := h', toks := tk }) :
    wpAny (model PR w) A (call (.ref 63) [.ref l, .int (st : Int) t1, .int (ps : Int) t2]) Q E s := by
  refine' enter (f := 63) (binds := [(Str.ofString "heap", .ref l), (Str.ofString "startpos", .int (st : Int) t1), (Str.ofString "pos", .int (ps : Int) t2)]) C [l] (fun a ha => by rcases List.mem_singleton.mp ha with rfl; exact ⟨hlf, hlb⟩) ?k1 ?k2 ?k3 ?k4 ?c1 ?c2 ?c3 ?c4 ?_
  (case k1 => k_is)
  (case k2 => k_is)
  (case k3 => exact BindsTo.of_eq rfl)
  (case k4 => exact locs rfl)
  (case c1 => exact rfl)
  (case c2 => exact rfl)
  (case c3 => exact rfl)
  (case c4 => decide)
  intro L h₁ hL hs B F X T'
  have N : News (cut h₁ s.heap [l]) L h₁ [(l, lst vs n)] := fun p hp => by
    rcases List.mem_singleton.mp hp with rfl
    exact ⟨hs _ _ hl, by rw [hL]; exact Nat.ne_of_lt (Heap.lt_size hl), hid_cut (.inl (.head _))⟩
  dsimp only [List.length_cons, List.length_nil]
  repeat' (walk_at "m")
  clear N F
  rename_i h2 F2 N2
  have hdone : ∀ (vs' : List Value) (ps' : Nat), ps' < vs'.length → ∀ x, (vs'.set ps' x).length = vs'.length := fun vs' ps' _ x => by simp
  refine wpAny_mono (Q := fun f s' => f = .next ∧ ∃ vs' ps' tp m h' tk, s' = { s with heap := h', toks := tk } ∧ Fr (cut h₁ s.heap [l]) L h' m ∧ News (cut h₁ s.heap [l]) L h' [(l, lst vs' n)] ∧
    m (Str.ofString "heap") = some (.ref l) ∧ m (Str.ofString "pos") = some (.int ((ps' : Nat) : Int) tp) ∧ m (Str.ofString "newitem") = some (nth vs ps) ∧ siftdown true vs st ps = .ok (vs'.set ps' (nth vs ps)) ∧ vs'.length = vs.length ∧ ps' < vs'.length) ?loop9 ?rest9 (fun _ _ e => e)
  case rest9 =>
    rintro f s' ⟨rfl, vs', ps', tp, m, h', tk, rfl, F, N, m1, m2, m3, hsd, hlen, hps'⟩
    dsimp only
    repeat' (walk_at "m")
    refine store_N F N (fun _ q => nomatch q) hps' (by omega) fun h3 F3 N3 => ?_
    dsimp only
    refine wpAny_execs_nil ?_
    exact hQ _ hsd h3 _ (B.rel F3) (N3 _ (.head _)).1
  with_reducible refine anyQk fun Q' hQ' => ?_
  refine wpAny_While ?_
  obtain ⟨J, hJ⟩ := hideI (fun j s' => ∃ vs' ps' tp m h' tk, s' = { s with heap := h', toks := tk } ∧ Fr (cut h₁ s.heap [l]) L h' m ∧ News (cut h₁ s.heap [l]) L h' [(l, lst vs' n)] ∧
    m (Str.ofString "heap") = some (.ref l) ∧ m (Str.ofString "startpos") = some (.int (st : Int) t1) ∧ m (Str.ofString "pos") = some (.int ((ps' : Nat) : Int) tp) ∧ m (Str.ofString "newitem") = some (nth vs ps) ∧
    ps' ≤ j ∧ sd true st (nth vs ps) j vs' ps' = siftdown true vs st ps ∧ vs'.length = vs.length ∧ Els one vs' ∧ ps' < vs'.length)
  refine codeAny_whileLoop J ?_ ps ((hJ _ _).mpr ⟨vs, ps, t2, _, h2, _, rfl, F2, N2, rfl, rfl, rfl, rfl, Nat.le_refl _, rfl, rfl, hE1, hps⟩)
  intro j s' hj0
  obtain ⟨vs', ps', tp, m, h', tk, rfl, F, N, m1, m2, m3, m4, hj, hsd, hlen, hE', hps'⟩ := (hJ _ _).mp hj0
  repeat' (walk_at "m")
  by_cases hlt : st < ps'
  case neg =>
    rw [if_neg (by simpa using hlt)]
    refine wpAny_execs_nil ?_
    dsimp only
    refine hQ' _ _ ⟨rfl, vs', ps', tp, m, h', _, rfl, F, N, m1, m3, m4, ?_, hlen, hps'⟩
    rw [← hsd]
    cases j with
    | zero => rfl
    | succ j => simp only [sd, if_neg hlt]
  rw [if_pos (by simpa using hlt)]
  have hpar : (ps' - 1) / 2 < vs'.length := by omega
  repeat' (walk_at "m")
  refine wpAny_If ?_
  repeat' (walk_at "m")
  rename_i ha Fa Na hb Fb Nb
  obtain ⟨j, rfl⟩ : ∃ j', j = j' + 1 := ⟨j - 1, by omega⟩
  have hK : Kind hb one T := K.keeps fun a o e q => (B.old Fb q (by simpa using hkl a e)).imp fun _ x => x.1
  have hx := hE1 _ (nth_mem hps)
  simp only [sd, if_pos hlt, cmH, Bool.false_eq_true, if_false, if_true] at hsd
  refine cmp_items (hE' _ (nth_mem hpar)) hx hK B.C.hd (by have := B.C.un; omega) ?_ ?_ ?_
  · intro q
    rw [q] at hsd
    exact hns hsd.symm
  · intro r hr
    rw [hr] at hsd
    repeat' (walk_at "m")
    cases r with
    | false =>
      rw [if_neg (by decide)]
      repeat' (walk_at "m")
      exact hQ' _ _ ⟨rfl, vs', ps', tp, _, hb, _, rfl, Fb, Nb, m1, m3, m4, hsd.symm, hlen, hps'⟩
    | true =>
      rw [if_pos rfl]
      repeat' (walk_at "m")
      refine store_N Fb Nb (fun _ q => nomatch q) hps' (by omega) fun h3 F3 N3 => ?_
      dsimp only
      repeat' (walk_at "m")
      rename_i h4 F4 N4
      exact ⟨j, Nat.lt_succ_self _, (hJ _ _).mpr ⟨_, _, _, _, h4, _, rfl, F4, N4, m1, m2, rfl, m4, by omega, hsd, by simpa using hlen, hE'.set (hE' _ (nth_mem hpar)) _, by simpa using hpar⟩⟩
  · intro f hf h' tk e tk' hx'
    have hbad : siftdown true vs st ps = .bad vs' f := by
      rw [← hsd, hf]
      cases f <;> rfl
    exact B.loop_made Fb (Nb _ (.head _)).1 (Nb _ (.head _)).2.1 hx' fun h5 hr => hE _ _ hbad h5 _ _ hr
end
section
set_option maxHeartbeats 400000 in
theorem su_false {w : World} {mean : ExcName → Option Value} {mg mb : Str → Option Value} {b : Heap} {A : Around} {envs : List Env} {k : Nat} {s : Shared} {l : Addr} {vs : List Value} {n : Nat} {ps : Nat} {t2 : Tok} {one : Value} {T : String} {Q E : Value → Shared → Prop}
    (C : Cx w mean mg mb b A envs (k + 1 + 1) s.heap) (hl : s.heap.get? l = some (lst vs n)) (hlb : b.get? l = none) (hlf : l ∉ frs envs) (K : Kind s.heap one T) (hkl : ∀ a, one = .ref a → a ≠ l)
    (hE1 : Els one vs) (hps : ps < vs.length) (hz : vs.length ≤ 64) (hns : siftup false vs ps ≠ .stuck)
    (hQ : ∀ vs', siftup false vs ps = .ok vs' → ∀ h' tk, Rel (frs envs) [l] s.heap h' → h'.get? l = some (lst vs' n) → Q .none { s with heap := h', toks := tk })
    (hE : ∀ vs' f, siftup false vs ps = .bad vs' f → ∀ h' tk e, Raised envs s.heap l (lst vs' n) e "TypeError" (ltText f T) h' → E (.ref e) { s with heap := h', toks := tk }) :
    wpAny (model PR w) A (call (.ref 56) [.ref l, .int (ps : Int) t2]) Q E s := by
  refine' enter (f := 56) (binds := [(Str.ofString "heap", .ref l), (Str.ofString "pos", .int (ps : Int) t2)]) C [l] (fun a ha => by rcases List.mem_singleton.mp ha with rfl; exact ⟨hlf, hlb⟩) ?k1 ?k2 ?k3 ?k4 ?c1 ?c2 ?c3 ?c4 ?_
  (case k1 => k_is)
  (case k2 => k_is)
  (case k3 => exact BindsTo.of_eq rfl)
  (case k4 => exact locs rfl)
  (case c1 => exact rfl)
  (case c2 => exact rfl)
  (case c3 => exact rfl)
  (case c4 => decide)
  intro L h₁ hL hs B F X T'
  have N : News (cut h₁ s.heap [l]) L h₁ [(l, lst vs n)] := fun p hp => by
    rcases List.mem_singleton.mp hp with rfl
    exact ⟨hs _ _ hl, by rw [hL]; exact Nat.ne_of_lt (Heap.lt_size hl), hid_cut (.inl (.head _))⟩
  dsimp only [List.length_cons, List.length_nil]
  repeat' (walk_at "m")
  rename_i h2 F2 N2
  refine wpAny_mono (Q := fun f s' => f = .next ∧ ∃ vs' p tp m h' tk, s' = { s with heap := h', toks := tk } ∧ Fr (cut h₁ s.heap [l]) L h' m ∧ News (cut h₁ s.heap [l]) L h' [(l, lst vs' n)] ∧
    m (Str.ofString "heap") = some (.ref l) ∧ m (Str.ofString "startpos") = some (.int (ps : Int) t2) ∧ m (Str.ofString "pos") = some (.int ((p : Nat) : Int) tp) ∧ m (Str.ofString "newitem") = some (nth vs ps) ∧
    su false vs.length vs ps = .ok vs' p ∧ vs'.length = vs.length ∧ Els one vs' ∧ p < vs'.length) ?loop9 ?rest9 (fun _ _ e => e)
  case rest9 =>
    rintro f s' ⟨rfl, vs', p, tp, m, h', tk, rfl, F, N, m1, m2, m3, m4, hsu, hlen, hE', hp⟩
    dsimp only
    repeat' (walk_at "m")
    refine store_N F N (fun _ q => nomatch q) hp (by omega) fun h3 F3 N3 => ?_
    dsimp only
    repeat' (walk_at "m")
    dsimp only [List.nil_append]
    have hsift : siftup false vs ps = siftdown false (vs'.set p (nth vs ps)) ps p := by simp only [siftup, hsu]
    have hx := hE1 _ (nth_mem hps)
    have hlen2 : (vs'.set p (nth vs ps)).length = vs.length := by rw [List.length_set]; exact hlen
    refine sd_false (one := one) (T := T) (B.now F3) (N3 _ (.head _)).1 hlb (B.lNot (N3 _ (.head _)).2.1) (K.keeps fun a o e q => (B.old F3 q (by simpa using hkl a e)).imp fun _ x => x.1) hkl (hE'.set hx _) (by omega) (by omega) (fun q => hns (hsift.trans q)) ?_ ?_
    · intro vs2 h2 h4 tk2 R4 hl4
      repeat' (walk_at "m")
      exact hQ _ (hsift.trans h2) h4 _ (B.relTo F3 R4 (fun a ha => by rcases List.mem_singleton.mp ha with rfl; exact (N3 _ (.head _)).2.2)) hl4
    · intro vs2 f h2 h4 tk2 e R4
      exact B.leave_on F3 R4 fun h5 r5 => hE _ _ (hsift.trans h2) h5 _ _ r5
  with_reducible refine anyQk fun Q' hQ' => ?_
  refine wpAny_While ?_
  obtain ⟨J, hJ⟩ := hideI (fun j s' => ∃ vs' p tp te tc m h' tk, s' = { s with heap := h', toks := tk } ∧ Fr (cut h₁ s.heap [l]) L h' m ∧ News (cut h₁ s.heap [l]) L h' [(l, lst vs' n)] ∧
    m (Str.ofString "heap") = some (.ref l) ∧ m (Str.ofString "startpos") = some (.int (ps : Int) t2) ∧ m (Str.ofString "pos") = some (.int ((p : Nat) : Int) tp) ∧ m (Str.ofString "newitem") = some (nth vs ps) ∧
    m (Str.ofString "endpos") = some (.int (vs.length : Int) te) ∧ m (Str.ofString "childpos") = some (.int ((2 * p + 1 : Nat) : Int) tc) ∧
    vs.length ≤ j + p ∧ su false j vs' p = su false vs.length vs ps ∧ vs'.length = vs.length ∧ Els one vs' ∧ p < vs'.length)
  refine codeAny_whileLoop J ?_ vs.length ((hJ _ _).mpr ⟨vs, ps, t2, _, _, _, h2, _, rfl, F2, N2, rfl, rfl, rfl, rfl, rfl, rfl, by omega, rfl, rfl, hE1, hps⟩)
  intro j s' hj0
  obtain ⟨vs', p, tp, te, tc, m, h', tk, rfl, F, N, m1, m2, m3, m4, m5, m6, hj, hsu, hlen, hE', hp⟩ := (hJ _ _).mp hj0
  repeat' (walk_at "m")
  by_cases hlt : 2 * p + 1 < vs.length
  case neg =>
    rw [if_neg (by simp only [decide_eq_true_eq]; omega)]
    refine wpAny_execs_nil ?_
    dsimp only
    refine hQ' _ _ ⟨rfl, vs', p, tp, m, h', _, rfl, F, N, m1, m2, m3, m4, ?_, hlen, hE', hp⟩
    rw [← hsu]
    cases j with
    | zero => rfl
    | succ j => simp only [su, hlen, if_neg hlt]
  rw [if_pos (by simp only [decide_eq_true_eq]; omega)]
  obtain ⟨j, rfl⟩ : ∃ j', j = j' + 1 := ⟨j - 1, by omega⟩
  simp only [su, hlen, if_pos hlt, cmH, Bool.false_eq_true, if_false, if_true] at hsu
  repeat' (walk_at "m")
  rename_i ha Fa Na
  refine wpAny_mono (Q := fun f s' => f = .next ∧ ∃ c tc m h' tk, s' = { s with heap := h', toks := tk } ∧ Fr (cut h₁ s.heap [l]) L h' m ∧ News (cut h₁ s.heap [l]) L h' [(l, lst vs' n)] ∧
    m (Str.ofString "heap") = some (.ref l) ∧ m (Str.ofString "startpos") = some (.int (ps : Int) t2) ∧ m (Str.ofString "pos") = some (.int ((p : Nat) : Int) tp) ∧ m (Str.ofString "newitem") = some (nth vs ps) ∧
    m (Str.ofString "endpos") = some (.int (vs.length : Int) te) ∧ m (Str.ofString "childpos") = some (.int ((c : Nat) : Int) tc) ∧ su false j (vs'.set p (nth vs' c)) c = su false vs.length vs ps ∧ p < c ∧ c < vs'.length) ?tst9 ?aft9 (fun _ _ e => e)
  case aft9 =>
    rintro f s' ⟨rfl, c, tc', m', h', tk', rfl, F, N, m1, m2, m3, m4, m5, m6, hsu, hpc, hc⟩
    dsimp only
    repeat' (walk_at "m")
    refine store_N F N (fun _ q => nomatch q) hp (by omega) fun h3 F3 N3 => ?_
    dsimp only
    repeat' (walk_at "m")
    rename_i h4 F4 N4 h5 F5 N5
    exact ⟨j, Nat.lt_succ_self _, (hJ _ _).mpr ⟨_, c, _, _, _, _, h5, _, rfl, F5, N5, m1, m2, rfl, m4, m5, rfl, by omega, hsu, by simpa using hlen, hE'.set (hE' _ (nth_mem hc)) _, by simpa using hc⟩⟩
  with_reducible refine anyQk fun Q2 hQ2 => ?_
  refine wpAny_If ?_
  repeat' (walk_at "m")
  by_cases hrt : 2 * p + 2 < vs.length
  case neg =>
    rw [if_neg (by simp only [decide_eq_true_eq]; omega)]
    rw [if_neg hrt] at hsu
    repeat' (walk_at "m")
    exact hQ2 _ _ ⟨rfl, 2 * p + 1, tc, _, ha, _, rfl, Fa, Na, m1, m2, m3, m4, m5, m6, hsu, by omega, by omega⟩
  rw [if_pos (by simp only [decide_eq_true_eq]; omega)]
  rw [if_pos hrt] at hsu
  repeat' (walk_at "m")
  have hc := hE' _ (nth_mem (show 2 * p + 1 < vs'.length by omega))
  have hrt' := hE' _ (nth_mem (show 2 * p + 1 + 1 < vs'.length by omega))
  refine cmp_items hc hrt' (K.keeps fun a o e q => (B.old Fa q (by simpa using hkl a e)).imp fun _ x => x.1) B.C.hd (by have := B.C.un; omega) ?_ ?_ ?_
  · intro q
    rw [q] at hsu
    refine hns ?_
    simp only [siftup, ← hsu]
  · intro r hr
    rw [hr] at hsu
    repeat' (walk_at "m")
    cases r with
    | true =>
      rw [if_neg (by decide)]
      repeat' (walk_at "m")
      exact hQ2 _ _ ⟨rfl, 2 * p + 1, tc, _, ha, _, rfl, Fa, Na, m1, m2, m3, m4, m5, m6, hsu, by omega, by omega⟩
    | false =>
      rw [if_pos (by decide)]
      repeat' (walk_at "m")
      rename_i h4 F4 N4
      exact hQ2 _ _ ⟨rfl, 2 * p + 2, _, _, h4, _, rfl, F4, N4, m1, m2, m3, m4, m5, rfl, hsu, by omega, by omega⟩
  · intro f hf h' tk e tk' hx'
    have hbad : siftup false vs ps = .bad vs' f := by
      have : su false vs.length vs ps = .bad vs' f := by
        rw [← hsu, hf]
        cases f <;> rfl
      simp only [siftup, this]
    exact B.loop_made Fa (Na _ (.head _)).1 (Na _ (.head _)).2.1 hx' fun h5 hr => hE _ _ hbad h5 _ _ hr
end
section
set_option maxHeartbeats 400000 in
theorem su_true {w : World} {mean : ExcName → Option Value} {mg mb : Str → Option Value} {b : Heap} {A : Around} {envs : List Env} {k : Nat} {s : Shared} {l : Addr} {vs : List Value} {n : Nat} {ps : Nat} {t2 : Tok} {one : Value} {T : String} {Q E : Value → Shared → Prop}
    (C : Cx w mean mg mb b A envs (k + 1 + 1) s.heap) (hl : s.heap.get? l = some (lst vs n)) (hlb : b.get? l = none) (hlf : l ∉ frs envs) (K : Kind s.heap one T) (hkl : ∀ a, one = .ref a → a ≠ l)
    (hE1 : Els one vs) (hps : ps < vs.length) (hz : vs.length ≤ 64) (hns : siftup true vs ps ≠ .stuck)
    (hQ : ∀ vs', siftup true vs ps = .ok vs' → ∀ h' tk, Rel (frs envs) [l] s.heap h' → h'.get? l = some (lst vs' n) → Q .none { s with heap := h', toks := tk })
    (hE : ∀ vs' f, siftup true vs ps = .bad vs' f → ∀ h' tk e, Raised envs s.heap l (lst vs' n) e "TypeError" (ltText f T) h' → E (.ref e) { s with heap := h', toks := tk }) :
    wpAny (model PR w) A (call (.ref 70) [.ref l, .int (ps : Int) t2]) Q E s := by
  refine' enter (f := 70) (binds := [(Str.ofString "heap", .ref l), (Str.ofString "pos", .int (ps : Int) t2)]) C [l] (fun a ha => by rcases List.mem_singleton.mp ha with rfl; exact ⟨hlf, hlb⟩) ?k1 ?k2 ?k3 ?k4 ?c1 ?c2 ?c3 ?c4 ?_
  (case k1 => k_is)
  (case k2 => k_is)
  (case k3 => exact BindsTo.of_eq rfl)
  (case k4 => exact locs rfl)
  (case c1 => exact rfl)
  (case c2 => exact rfl)
  (case c3 => exact rfl)
  (case c4 => decide)
  intro L h₁ hL hs B F X T'
  have N : News (cut h₁ s.heap [l]) L h₁ [(l, lst vs n)] := fun p hp => by
    rcases List.mem_singleton.mp hp with rfl
    exact ⟨hs _ _ hl, by rw [hL]; exact Nat.ne_of_lt (Heap.lt_size hl), hid_cut (.inl (.head _))⟩
  dsimp only [List.length_cons, List.length_nil]
  repeat' (walk_at "m")
  rename_i h2 F2 N2
  refine wpAny_mono (Q := fun f s' => f = .next ∧ ∃ vs' p tp m h' tk, s' = { s with heap := h', toks := tk } ∧ Fr (cut h₁ s.heap [l]) L h' m ∧ News (cut h₁ s.heap [l]) L h' [(l, lst vs' n)] ∧
    m (Str.ofString "heap") = some (.ref l) ∧ m (Str.ofString "startpos") = some (.int (ps : Int) t2) ∧ m (Str.ofString "pos") = some (.int ((p : Nat) : Int) tp) ∧ m (Str.ofString "newitem") = some (nth vs ps) ∧
    su true vs.length vs ps = .ok vs' p ∧ vs'.length = vs.length ∧ Els one vs' ∧ p < vs'.length) ?loop9 ?rest9 (fun _ _ e => e)
  case rest9 =>
    rintro f s' ⟨rfl, vs', p, tp, m, h', tk, rfl, F, N, m1, m2, m3, m4, hsu, hlen, hE', hp⟩
    dsimp only
    repeat' (walk_at "m")
    refine store_N F N (fun _ q => nomatch q) hp (by omega) fun h3 F3 N3 => ?_
    dsimp only
    repeat' (walk_at "m")
    dsimp only [List.nil_append]
    have hsift : siftup true vs ps = siftdown true (vs'.set p (nth vs ps)) ps p := by simp only [siftup, hsu]
    have hx := hE1 _ (nth_mem hps)
    have hlen2 : (vs'.set p (nth vs ps)).length = vs.length := by rw [List.length_set]; exact hlen
    refine sd_true (one := one) (T := T) (B.now F3) (N3 _ (.head _)).1 hlb (B.lNot (N3 _ (.head _)).2.1) (K.keeps fun a o e q => (B.old F3 q (by simpa using hkl a e)).imp fun _ x => x.1) hkl (hE'.set hx _) (by omega) (by omega) (fun q => hns (hsift.trans q)) ?_ ?_
    · intro vs2 h2 h4 tk2 R4 hl4
      repeat' (walk_at "m")
      exact hQ _ (hsift.trans h2) h4 _ (B.relTo F3 R4 (fun a ha => by rcases List.mem_singleton.mp ha with rfl; exact (N3 _ (.head _)).2.2)) hl4
    · intro vs2 f h2 h4 tk2 e R4
      exact B.leave_on F3 R4 fun h5 r5 => hE _ _ (hsift.trans h2) h5 _ _ r5
  with_reducible refine anyQk fun Q' hQ' => ?_
  refine wpAny_While ?_
  obtain ⟨J, hJ⟩ := hideI (fun j s' => ∃ vs' p tp te tc m h' tk, s' = { s with heap := h', toks := tk } ∧ Fr (cut h₁ s.heap [l]) L h' m ∧ News (cut h₁ s.heap [l]) L h' [(l, lst vs' n)] ∧
    m (Str.ofString "heap") = some (.ref l) ∧ m (Str.ofString "startpos") = some (.int (ps : Int) t2) ∧ m (Str.ofString "pos") = some (.int ((p : Nat) : Int) tp) ∧ m (Str.ofString "newitem") = some (nth vs ps) ∧
    m (Str.ofString "endpos") = some (.int (vs.length : Int) te) ∧ m (Str.ofString "childpos") = some (.int ((2 * p + 1 : Nat) : Int) tc) ∧
    vs.length ≤ j + p ∧ su true j vs' p = su true vs.length vs ps ∧ vs'.length = vs.length ∧ Els one vs' ∧ p < vs'.length)
  refine codeAny_whileLoop J ?_ vs.length ((hJ _ _).mpr ⟨vs, ps, t2, _, _, _, h2, _, rfl, F2, N2, rfl, rfl, rfl, rfl, rfl, rfl, by omega, rfl, rfl, hE1, hps⟩)
  intro j s' hj0
  obtain ⟨vs', p, tp, te, tc, m, h', tk, rfl, F, N, m1, m2, m3, m4, m5, m6, hj, hsu, hlen, hE', hp⟩ := (hJ _ _).mp hj0
  repeat' (walk_at "m")
  by_cases hlt : 2 * p + 1 < vs.length
  case neg =>
    rw [if_neg (by simp only [decide_eq_true_eq]; omega)]
    refine wpAny_execs_nil ?_
    dsimp only
    refine hQ' _ _ ⟨rfl, vs', p, tp, m, h', _, rfl, F, N, m1, m2, m3, m4, ?_, hlen, hE', hp⟩
    rw [← hsu]
    cases j with
    | zero => rfl
    | succ j => simp only [su, hlen, if_neg hlt]
  rw [if_pos (by simp only [decide_eq_true_eq]; omega)]
  obtain ⟨j, rfl⟩ : ∃ j', j = j' + 1 := ⟨j - 1, by omega⟩
  simp only [su, hlen, if_pos hlt, cmH, Bool.false_eq_true, if_false, if_true] at hsu
  repeat' (walk_at "m")
  rename_i ha Fa Na
  refine wpAny_mono (Q := fun f s' => f = .next ∧ ∃ c tc m h' tk, s' = { s with heap := h', toks := tk } ∧ Fr (cut h₁ s.heap [l]) L h' m ∧ News (cut h₁ s.heap [l]) L h' [(l, lst vs' n)] ∧
    m (Str.ofString "heap") = some (.ref l) ∧ m (Str.ofString "startpos") = some (.int (ps : Int) t2) ∧ m (Str.ofString "pos") = some (.int ((p : Nat) : Int) tp) ∧ m (Str.ofString "newitem") = some (nth vs ps) ∧
    m (Str.ofString "endpos") = some (.int (vs.length : Int) te) ∧ m (Str.ofString "childpos") = some (.int ((c : Nat) : Int) tc) ∧ su true j (vs'.set p (nth vs' c)) c = su true vs.length vs ps ∧ p < c ∧ c < vs'.length) ?tst9 ?aft9 (fun _ _ e => e)
  case aft9 =>
    rintro f s' ⟨rfl, c, tc', m', h', tk', rfl, F, N, m1, m2, m3, m4, m5, m6, hsu, hpc, hc⟩
    dsimp only
    repeat' (walk_at "m")
    refine store_N F N (fun _ q => nomatch q) hp (by omega) fun h3 F3 N3 => ?_
    dsimp only
    repeat' (walk_at "m")
    rename_i h4 F4 N4 h5 F5 N5
    exact ⟨j, Nat.lt_succ_self _, (hJ _ _).mpr ⟨_, c, _, _, _, _, h5, _, rfl, F5, N5, m1, m2, rfl, m4, m5, rfl, by omega, hsu, by simpa using hlen, hE'.set (hE' _ (nth_mem hc)) _, by simpa using hc⟩⟩
  with_reducible refine anyQk fun Q2 hQ2 => ?_
  refine wpAny_If ?_
  repeat' (walk_at "m")
  by_cases hrt : 2 * p + 2 < vs.length
  case neg =>
    rw [if_neg (by simp only [decide_eq_true_eq]; omega)]
    rw [if_neg hrt] at hsu
    repeat' (walk_at "m")
    exact hQ2 _ _ ⟨rfl, 2 * p + 1, tc, _, ha, _, rfl, Fa, Na, m1, m2, m3, m4, m5, m6, hsu, by omega, by omega⟩
  rw [if_pos (by simp only [decide_eq_true_eq]; omega)]
  rw [if_pos hrt] at hsu
  repeat' (walk_at "m")
  have hc := hE' _ (nth_mem (show 2 * p + 1 < vs'.length by omega))
  have hrt' := hE' _ (nth_mem (show 2 * p + 1 + 1 < vs'.length by omega))
  refine cmp_items hrt' hc (K.keeps fun a o e q => (B.old Fa q (by simpa using hkl a e)).imp fun _ x => x.1) B.C.hd (by have := B.C.un; omega) ?_ ?_ ?_
  · intro q
    rw [q] at hsu
    refine hns ?_
    simp only [siftup, ← hsu]
  · intro r hr
    rw [hr] at hsu
    repeat' (walk_at "m")
    cases r with
    | true =>
      rw [if_neg (by decide)]
      repeat' (walk_at "m")
      exact hQ2 _ _ ⟨rfl, 2 * p + 1, tc, _, ha, _, rfl, Fa, Na, m1, m2, m3, m4, m5, m6, hsu, by omega, by omega⟩
    | false =>
      rw [if_pos (by decide)]
      repeat' (walk_at "m")
      rename_i h4 F4 N4
      exact hQ2 _ _ ⟨rfl, 2 * p + 2, _, _, h4, _, rfl, F4, N4, m1, m2, m3, m4, m5, rfl, hsu, by omega, by omega⟩
  · intro f hf h' tk e tk' hx'
    have hbad : siftup true vs ps = .bad vs' f := by
      have : su true vs.length vs ps = .bad vs' f := by
        rw [← hsu, hf]
        cases f <;> rfl
      simp only [siftup, this]
    exact B.loop_made Fa (Na _ (.head _)).1 (Na _ (.head _)).2.1 hx' fun h5 hr => hE _ _ hbad h5 _ _ hr
end
section
set_option maxHeartbeats 400000 in
theorem hp_false {w : World} {mean : ExcName → Option Value} {mg mb : Str → Option Value} {b : Heap} {A : Around} {envs : List Env} {k : Nat} {s : Shared} {l : Addr} {vs : List Value} {n : Nat} {one : Value} {T : String} {Q E : Value → Shared → Prop}
    (C : Cx w mean mg mb b A envs (k + 1 + 1 + 1) s.heap) (hl : s.heap.get? l = some (lst vs n)) (hlb : b.get? l = none) (hlf : l ∉ frs envs) (K : Kind s.heap one T) (hkl : ∀ a, one = .ref a → a ≠ l)
    (hE1 : Els one vs) (hz : vs.length ≤ 64) (hns : hp false (vs.length / 2) vs ≠ .stuck)
    (hQ : ∀ vs', hp false (vs.length / 2) vs = .ok vs' → ∀ h' tk, Rel (frs envs) [l] s.heap h' → h'.get? l = some (lst vs' n) → Q .none { s with heap := h', toks := tk })
    (hE : ∀ vs' f, hp false (vs.length / 2) vs = .bad vs' f → ∀ h' tk e, Raised envs s.heap l (lst vs' n) e "TypeError" (ltText f T) h' → E (.ref e) { s with heap := h', toks := tk }) :
    wpAny (model PR w) A (call (.ref 21) [.ref l]) Q E s := by
  refine' enter (f := 21) (binds := [(Str.ofString "x", .ref l)]) C [l] (fun a ha => by rcases List.mem_singleton.mp ha with rfl; exact ⟨hlf, hlb⟩) ?k1 ?k2 ?k3 ?k4 ?c1 ?c2 ?c3 ?c4 ?_
  (case k1 => k_is)
  (case k2 => k_is)
  (case k3 => exact BindsTo.of_eq rfl)
  (case k4 => exact locs rfl)
  (case c1 => exact rfl)
  (case c2 => exact rfl)
  (case c3 => exact rfl)
  (case c4 => decide)
  intro L h₁ hL hs B F X T'
  have N : News (cut h₁ s.heap [l]) L h₁ [(l, lst vs n)] := fun p hp => by
    rcases List.mem_singleton.mp hp with rfl
    exact ⟨hs _ _ hl, by rw [hL]; exact Nat.ne_of_lt (Heap.lt_size hl), hid_cut (.inl (.head _))⟩
  dsimp only [List.length_cons, List.length_nil]
  repeat' (walk_at "m")
  rename_i h2 F2 N2 r h3 t91 t92 F3 N3 a3 n3
  refine reversed_N F3 N3 (N3 _ (.head _)).1 (by omega) fun it h4 F4 N4 a4 n4 => ?_
  dsimp only
  refine iter_rngI (N4 _ (.head _)).1 ?_
  have hil : l ≠ it := a4 (l, lst vs n) (.tail _ (.head _))
  refine hideF (fun j s' => ∃ vs' m h' tk, s' = { s with heap := h', toks := tk } ∧ Body w mean mg mb b (A.deeper _) _ envs (k + 1 + 1) L [l] s.heap h' ∧ Fr (cut h' s.heap [l]) L h' m ∧ News (cut h' s.heap [l]) L h' [(it, rngI ((j : Int) - 1) j (-1)), (l, lst vs' n)] ∧
    m (Str.ofString "x") = some (.ref l) ∧ hp false j vs' = hp false (vs.length / 2) vs ∧ vs'.length = vs.length ∧ j ≤ vs.length / 2 ∧ Els one vs') (vs.length / 2)
    ⟨vs, _, h4, _, rfl, B.rebase F4, B.frNow F4, B.newsNow fun p hp => N4 p (by rcases List.mem_cons.mp hp with rfl | hp; exact .head _; rcases List.mem_cons.mp hp with rfl | hp; exact .tail _ (.tail _ (.head _)); cases hp), rfl, rfl, rfl, Nat.le_refl _, hE1⟩ fun J hJ hJ0 => ?_
  refine codeAny_forLoop_any J ?_ (vs.length / 2) hJ0
  clear hJ0
  clear F2 N2 F3 N3 F4 N4 F N B X T'
  intro j s' hj0
  obtain ⟨vs', m, h', tk, rfl, B, F, N, m1, hhp, hlen, hj, hE'⟩ := (hJ _ _).mp hj0
  clear hj0
  have X := B.X
  have T' := B.T
  have hap : ∀ p ∈ [(l, lst vs' n)], p.1 ≠ it := fun p hp => by rcases List.mem_singleton.mp hp with rfl; exact hil
  cases j with
  | zero =>
    refine nextEnd_N F N hap B.C.hd (by simp) fun h5 F5 N5 => ?_
    dsimp only
    refine wpAny_execs_nil ?_
    dsimp only
    refine wpAny_execs_nil ?_
    exact hQ vs' hhp.symm h5 _ (B.rel F5) (N5 _ (.head _)).1
  | succ j =>
    refine next_N F N hap (by omega) fun h5 F5 N5 => ?_
    dsimp only
    rw [show (((j + 1 : Nat) : Int) - 1) = (j : Int) by omega]
    rw [show (((j + 1 : Nat) : Int) - 1) = (j : Int) by omega, show ((j : Int) + -1) = (j : Int) - 1 by omega] at N5
    refine wpAny_of_eq (a := ()) rfl ?_
    refine wpAny_assign_Name ?_
    repeat' (walk_at "m")
    dsimp only [List.nil_append]
    rename_i h6 F6 N6
    have hsu : hp false (j + 1) vs' = match siftup false vs' j with | .ok v => hp false j v | r => r := rfl
    refine su_false (one := one) (T := T) (B.now F6) (N6 _ (.tail _ (.head _))).1 hlb (B.lNot (N6 _ (.tail _ (.head _))).2.1) (K.keeps fun a o e q => (B.old F6 q (by simpa using hkl a e)).imp fun _ x => x.1) hkl hE' (by omega) (by omega) ?_ ?_ ?_
    · intro q
      rw [q] at hsu
      exact hns (hhp.symm.trans hsu)
    · intro vs2 hs2 h7 tk7 R7 hl7
      repeat' (walk_at "m")
      rw [hs2] at hsu
      have kp := siftup_keeps hs2 hE' (by omega)
      obtain ⟨B7, F7⟩ := B.after F6 R7 (fun a ha => by rcases List.mem_singleton.mp ha with rfl; exact (N6 _ (.tail _ (.head _))).2.2)
      have N7 := B.newsOne F6 R7 hl7 (news_swap N6) (fun p hp => by rcases List.mem_singleton.mp hp with rfl; exact Ne.symm hil)
      exact ⟨j, Nat.lt_succ_self _, (hJ _ _).mpr ⟨vs2, _, h7, _, rfl, B7, F7, news_swap N7, m1, hsu.symm.trans hhp, kp.1.trans hlen, by omega, kp.2⟩⟩
    · intro vs2 f hs2 h7 tk7 e R7
      rw [hs2] at hsu
      exact B.loop_on F6 R7 fun h8 r8 => hE vs2 f (hhp.symm.trans hsu) h8 _ _ r8
end
section
set_option maxHeartbeats 400000 in
theorem hp_true {w : World} {mean : ExcName → Option Value} {mg mb : Str → Option Value} {b : Heap} {A : Around} {envs : List Env} {k : Nat} {s : Shared} {l : Addr} {vs : List Value} {n : Nat} {one : Value} {T : String} {Q E : Value → Shared → Prop}
    (C : Cx w mean mg mb b A envs (k + 1 + 1 + 1) s.heap) (hl : s.heap.get? l = some (lst vs n)) (hlb : b.get? l = none) (hlf : l ∉ frs envs) (K : Kind s.heap one T) (hkl : ∀ a, one = .ref a → a ≠ l)
    (hE1 : Els one vs) (hz : vs.length ≤ 64) (hns : hp true (vs.length / 2) vs ≠ .stuck)
    (hQ : ∀ vs', hp true (vs.length / 2) vs = .ok vs' → ∀ h' tk, Rel (frs envs) [l] s.heap h' → h'.get? l = some (lst vs' n) → Q .none { s with heap := h', toks := tk })
    (hE : ∀ vs' f, hp true (vs.length / 2) vs = .bad vs' f → ∀ h' tk e, Raised envs s.heap l (lst vs' n) e "TypeError" (ltText f T) h' → E (.ref e) { s with heap := h', toks := tk }) :
    wpAny (model PR w) A (call (.ref 42) [.ref l]) Q E s := by
  refine' enter (f := 42) (binds := [(Str.ofString "x", .ref l)]) C [l] (fun a ha => by rcases List.mem_singleton.mp ha with rfl; exact ⟨hlf, hlb⟩) ?k1 ?k2 ?k3 ?k4 ?c1 ?c2 ?c3 ?c4 ?_
  (case k1 => k_is)
  (case k2 => k_is)
  (case k3 => exact BindsTo.of_eq rfl)
  (case k4 => exact locs rfl)
  (case c1 => exact rfl)
  (case c2 => exact rfl)
  (case c3 => exact rfl)
  (case c4 => decide)
  intro L h₁ hL hs B F X T'
  have N : News (cut h₁ s.heap [l]) L h₁ [(l, lst vs n)] := fun p hp => by
    rcases List.mem_singleton.mp hp with rfl
    exact ⟨hs _ _ hl, by rw [hL]; exact Nat.ne_of_lt (Heap.lt_size hl), hid_cut (.inl (.head _))⟩
  dsimp only [List.length_cons, List.length_nil]
  repeat' (walk_at "m")
  rename_i h2 F2 N2 r h3 t91 t92 F3 N3 a3 n3
  refine reversed_N F3 N3 (N3 _ (.head _)).1 (by omega) fun it h4 F4 N4 a4 n4 => ?_
  dsimp only
  refine iter_rngI (N4 _ (.head _)).1 ?_
  have hil : l ≠ it := a4 (l, lst vs n) (.tail _ (.head _))
  refine hideF (fun j s' => ∃ vs' m h' tk, s' = { s with heap := h', toks := tk } ∧ Body w mean mg mb b (A.deeper _) _ envs (k + 1 + 1) L [l] s.heap h' ∧ Fr (cut h' s.heap [l]) L h' m ∧ News (cut h' s.heap [l]) L h' [(it, rngI ((j : Int) - 1) j (-1)), (l, lst vs' n)] ∧
    m (Str.ofString "x") = some (.ref l) ∧ hp true j vs' = hp true (vs.length / 2) vs ∧ vs'.length = vs.length ∧ j ≤ vs.length / 2 ∧ Els one vs') (vs.length / 2)
    ⟨vs, _, h4, _, rfl, B.rebase F4, B.frNow F4, B.newsNow fun p hp => N4 p (by rcases List.mem_cons.mp hp with rfl | hp; exact .head _; rcases List.mem_cons.mp hp with rfl | hp; exact .tail _ (.tail _ (.head _)); cases hp), rfl, rfl, rfl, Nat.le_refl _, hE1⟩ fun J hJ hJ0 => ?_
  refine codeAny_forLoop_any J ?_ (vs.length / 2) hJ0
  clear hJ0
  clear F2 N2 F3 N3 F4 N4 F N B X T'
  intro j s' hj0
  obtain ⟨vs', m, h', tk, rfl, B, F, N, m1, hhp, hlen, hj, hE'⟩ := (hJ _ _).mp hj0
  clear hj0
  have X := B.X
  have T' := B.T
  have hap : ∀ p ∈ [(l, lst vs' n)], p.1 ≠ it := fun p hp => by rcases List.mem_singleton.mp hp with rfl; exact hil
  cases j with
  | zero =>
    refine nextEnd_N F N hap B.C.hd (by simp) fun h5 F5 N5 => ?_
    dsimp only
    refine wpAny_execs_nil ?_
    dsimp only
    refine wpAny_execs_nil ?_
    exact hQ vs' hhp.symm h5 _ (B.rel F5) (N5 _ (.head _)).1
  | succ j =>
    refine next_N F N hap (by omega) fun h5 F5 N5 => ?_
    dsimp only
    rw [show (((j + 1 : Nat) : Int) - 1) = (j : Int) by omega]
    rw [show (((j + 1 : Nat) : Int) - 1) = (j : Int) by omega, show ((j : Int) + -1) = (j : Int) - 1 by omega] at N5
    refine wpAny_of_eq (a := ()) rfl ?_
    refine wpAny_assign_Name ?_
    repeat' (walk_at "m")
    dsimp only [List.nil_append]
    rename_i h6 F6 N6
    have hsu : hp true (j + 1) vs' = match siftup true vs' j with | .ok v => hp true j v | r => r := rfl
    refine su_true (one := one) (T := T) (B.now F6) (N6 _ (.tail _ (.head _))).1 hlb (B.lNot (N6 _ (.tail _ (.head _))).2.1) (K.keeps fun a o e q => (B.old F6 q (by simpa using hkl a e)).imp fun _ x => x.1) hkl hE' (by omega) (by omega) ?_ ?_ ?_
    · intro q
      rw [q] at hsu
      exact hns (hhp.symm.trans hsu)
    · intro vs2 hs2 h7 tk7 R7 hl7
      repeat' (walk_at "m")
      rw [hs2] at hsu
      have kp := siftup_keeps hs2 hE' (by omega)
      obtain ⟨B7, F7⟩ := B.after F6 R7 (fun a ha => by rcases List.mem_singleton.mp ha with rfl; exact (N6 _ (.tail _ (.head _))).2.2)
      have N7 := B.newsOne F6 R7 hl7 (news_swap N6) (fun p hp => by rcases List.mem_singleton.mp hp with rfl; exact Ne.symm hil)
      exact ⟨j, Nat.lt_succ_self _, (hJ _ _).mpr ⟨vs2, _, h7, _, rfl, B7, F7, news_swap N7, m1, hsu.symm.trans hhp, kp.1.trans hlen, by omega, kp.2⟩⟩
    · intro vs2 f hs2 h7 tk7 e R7
      rw [hs2] at hsu
      exact B.loop_on F6 R7 fun h8 r8 => hE vs2 f (hhp.symm.trans hsu) h8 _ _ r8
end
section
set_option maxHeartbeats 400000 in
theorem heaprep_w {w : World} {mean : ExcName → Option Value} {mg mb : Str → Option Value} {b : Heap} {A : Around} {envs : List Env} {k : Nat} {s : Shared} {l : Addr} {vs : List Value} {n : Nat} {one : Value} {T : String} {Q E : Value → Shared → Prop}
    (C : Cx w mean mg mb b A envs (k + 1 + 1 + 1) s.heap) (hl : s.heap.get? l = some (lst vs n)) (hlb : b.get? l = none) (hlf : l ∉ frs envs) (K : Kind s.heap one T) (hkl : ∀ a, one = .ref a → a ≠ l)
    (hE1 : Els one vs) (hz : vs.length ≤ 64) (hns : vs ≠ [] → siftup true (vs.set 0 one) 0 ≠ .stuck)
    (hE0 : vs = [] → ∀ h' tk e, Raised envs s.heap l (lst [] n) e "IndexError" (Str.ofString "list index out of range") h' → E (.ref e) { s with heap := h', toks := tk })
    (hQ : ∀ vs', vs ≠ [] → siftup true (vs.set 0 one) 0 = .ok vs' → ∀ h' tk, Rel (frs envs) [l] s.heap h' → h'.get? l = some (lst vs' n) → Q (nth vs 0) { s with heap := h', toks := tk })
    (hE : ∀ vs' f, vs ≠ [] → siftup true (vs.set 0 one) 0 = .bad vs' f → ∀ h' tk e, Raised envs s.heap l (lst vs' n) e "TypeError" (ltText f T) h' → E (.ref e) { s with heap := h', toks := tk }) :
    wpAny (model PR w) A (call (.ref 35) [.ref l, one]) Q E s := by
  refine' enter (f := 35) (binds := [(Str.ofString "heap", .ref l), (Str.ofString "item", one)]) C [l] (fun a ha => by rcases List.mem_singleton.mp ha with rfl; exact ⟨hlf, hlb⟩) ?k1 ?k2 ?k3 ?k4 ?c1 ?c2 ?c3 ?c4 ?_
  (case k1 => k_is)
  (case k2 => k_is)
  (case k3 => exact BindsTo.of_eq rfl)
  (case k4 => exact locs rfl)
  (case c1 => exact rfl)
  (case c2 => exact rfl)
  (case c3 => exact rfl)
  (case c4 => decide)
  intro L h₁ hL hs B F X T'
  have N : News (cut h₁ s.heap [l]) L h₁ [(l, lst vs n)] := fun p hp => by
    rcases List.mem_singleton.mp hp with rfl
    exact ⟨hs _ _ hl, by rw [hL]; exact Nat.ne_of_lt (Heap.lt_size hl), hid_cut (.inl (.head _))⟩
  dsimp only [List.length_cons, List.length_nil]
  by_cases hv : vs = []
  case pos =>
    subst hv
    repeat' (walk_at "m")
    refine item_outK B.C.hd (N _ (.head _)).1 (by decide) (by decide) (fun h' tk e tk' hx => ?_) (by with_unfolding_all rfl)
    exact B.leave_made F (N _ (.head _)).1 (N _ (.head _)).2.1 hx fun h5 hr => hE0 rfl h5 _ _ hr
  have h0 : 0 < vs.length := List.length_pos_iff.mpr hv
  repeat' (walk_at "m")
  refine item_at (k := 0) (N _ (.head _)).1 h0 (by omega) ?_ (by with_unfolding_all rfl)
  repeat' (walk_at "m")
  rename_i h2 F2 N2
  refine store_N (k := 0) F2 N2 (fun _ q => nomatch q) h0 (by omega) fun h3 F3 N3 => ?_
  dsimp only
  repeat' (walk_at "m")
  dsimp only [List.nil_append]
  refine su_true (one := one) (T := T) (ps := 0) (B.now F3) (N3 _ (.head _)).1 hlb (B.lNot (N3 _ (.head _)).2.1) (K.keeps fun a o e q => (B.old F3 q (by simpa using hkl a e)).imp fun _ x => x.1) hkl (hE1.set (.inr rfl) _) (by simpa using h0) (by simpa using hz) (hns hv) ?_ ?_
  · intro vs2 hs2 h7 tk7 R7 hl7
    obtain ⟨B7, F7⟩ := B.after F3 R7 (fun a ha => by rcases List.mem_singleton.mp ha with rfl; exact (N3 _ (.head _)).2.2)
    repeat' (walk_at "m")
    exact hQ vs2 hv hs2 h7 _ (B7.rel F7) hl7
  · intro vs2 f hs2 h7 tk7 e R7
    exact B.leave_on F3 R7 fun h8 r8 => hE vs2 f hv hs2 h8 _ _ r8
end
section
set_option maxHeartbeats 400000 in
theorem heappop_w {w : World} {mean : ExcName → Option Value} {mg mb : Str → Option Value} {b : Heap} {A : Around} {envs : List Env} {k : Nat} {s : Shared} {l : Addr} {vs : List Value} {n : Nat} {one : Value} {T : String} {Q E : Value → Shared → Prop}
    (C : Cx w mean mg mb b A envs (k + 1 + 1 + 1) s.heap) (hl : s.heap.get? l = some (lst (vs ++ [one]) n)) (hlb : b.get? l = none) (hlf : l ∉ frs envs) (K : Kind s.heap one T) (hkl : ∀ a, one = .ref a → a ≠ l)
    (hE1 : Els one vs) (hz : vs.length ≤ 63) (hns : vs ≠ [] → siftup true (vs.set 0 one) 0 ≠ .stuck)
    (hQ0 : vs = [] → ∀ h' tk, Rel (frs envs) [l] s.heap h' → h'.get? l = some (lst [] (n + 1)) → Q one { s with heap := h', toks := tk })
    (hQ : ∀ vs', vs ≠ [] → siftup true (vs.set 0 one) 0 = .ok vs' → ∀ h' tk, Rel (frs envs) [l] s.heap h' → h'.get? l = some (lst vs' (n + 1)) → Q (nth vs 0) { s with heap := h', toks := tk })
    (hE : ∀ vs' f, vs ≠ [] → siftup true (vs.set 0 one) 0 = .bad vs' f → ∀ h' tk e, Raised envs s.heap l (lst vs' (n + 1)) e "TypeError" (ltText f T) h' → E (.ref e) { s with heap := h', toks := tk }) :
    wpAny (model PR w) A (call (.ref 28) [.ref l]) Q E s := by
  refine' enter (f := 28) (binds := [(Str.ofString "heap", .ref l)]) C [l] (fun a ha => by rcases List.mem_singleton.mp ha with rfl; exact ⟨hlf, hlb⟩) ?k1 ?k2 ?k3 ?k4 ?c1 ?c2 ?c3 ?c4 ?_
  (case k1 => k_is)
  (case k2 => k_is)
  (case k3 => exact BindsTo.of_eq rfl)
  (case k4 => exact locs rfl)
  (case c1 => exact rfl)
  (case c2 => exact rfl)
  (case c3 => exact rfl)
  (case c4 => decide)
  intro L h₁ hL hs B F X T'
  have N : News (cut h₁ s.heap [l]) L h₁ [(l, lst (vs ++ [one]) n)] := fun p hp => by
    rcases List.mem_singleton.mp hp with rfl
    exact ⟨hs _ _ hl, by rw [hL]; exact Nat.ne_of_lt (Heap.lt_size hl), hid_cut (.inl (.head _))⟩
  dsimp only [List.length_cons, List.length_nil]
  repeat' (walk_at "m")
  refine pop_N F N (fun _ q => nomatch q) (by omega) fun h2 F2 N2 => ?_
  dsimp only
  repeat' (walk_at "m")
  rename_i h3 F3 N3
  refine wpAny_If ?_
  repeat' (walk_at "m")
  by_cases hv : vs = []
  case pos =>
    subst hv
    rw [if_neg (by decide)]
    repeat' (walk_at "m")
    exact hQ0 rfl h3 _ (B.rel F3) (N3 _ (.head _)).1
  have h0 : 0 < vs.length := List.length_pos_iff.mpr hv
  rw [if_pos (by simpa using hv)]
  repeat' (walk_at "m")
  refine item_at (k := 0) (N3 _ (.head _)).1 h0 (by omega) ?_ (by with_unfolding_all rfl)
  repeat' (walk_at "m")
  rename_i h4 F4 N4
  refine store_N (k := 0) F4 N4 (fun _ q => nomatch q) h0 (by omega) fun h5 F5 N5 => ?_
  dsimp only
  repeat' (walk_at "m")
  dsimp only [List.nil_append]
  refine su_true (one := one) (T := T) (ps := 0) (B.now F5) (N5 _ (.head _)).1 hlb (B.lNot (N5 _ (.head _)).2.1) (K.keeps fun a o e q => (B.old F5 q (by simpa using hkl a e)).imp fun _ x => x.1) hkl (hE1.set (.inr rfl) _) (by simpa using h0) (by simp; omega) (hns hv) ?_ ?_
  · intro vs2 hs2 h7 tk7 R7 hl7
    obtain ⟨B7, F7⟩ := B.after F5 R7 (fun a ha => by rcases List.mem_singleton.mp ha with rfl; exact (N5 _ (.head _)).2.2)
    repeat' (walk_at "m")
    exact hQ vs2 hv hs2 h7 _ (B7.rel F7) hl7
  · intro vs2 f hs2 h7 tk7 e R7
    exact B.leave_on F5 R7 fun h8 r8 => hE vs2 f hv hs2 h8 _ _ r8
end
section
set_option maxHeartbeats 400000 in
theorem words_w {w : World} {mean : ExcName → Option Value} {mg mb : Str → Option Value} {b : Heap} {A : Around} {envs : List Env} {k : Nat} {s : Shared} {f g : Str} {t1 t2 : Tok} {Q E : Value → Shared → Prop}
    (C : Cx w mean mg mb b A envs (k + 1) s.heap) (hf : f.length ≤ 100) (hg : g.length ≤ 100)
    (hQ : ∀ r h' tk t3 t4, Rel (frs envs) [] s.heap h' → s.heap.get? r = none → h'.get? r = some (tup [.str (Str.ofString "TypeError") t3, .str (wordsS f g) t4]) → Q (.ref r) { s with heap := h', toks := tk }) :
    wpAny (model PR w) A (call (.ref 96) [.str f t1, .str g t2]) Q E s := by
  refine' enter (f := 96) (binds := [(Str.ofString "first", .str f t1), (Str.ofString "second", .str g t2)]) C [] (fun a ha => nomatch ha) ?k1 ?k2 ?k3 ?k4 ?c1 ?c2 ?c3 ?c4 ?_
  (case k1 => k_is)
  (case k2 => k_is)
  (case k3 => exact BindsTo.of_eq rfl)
  (case k4 => exact locs rfl)
  (case c1 => exact rfl)
  (case c2 => exact rfl)
  (case c3 => exact rfl)
  (case c4 => decide)
  intro L h₁ hL hs B F X T'
  have N : News (cut h₁ s.heap []) L h₁ [] := fun p hp => nomatch hp
  dsimp only [List.length_cons, List.length_nil]
  have l1 : (Str.ofString "'<' not supported between instances of '").length ≤ 100 := by decide +kernel
  have l2 : (Str.ofString "' and '").length ≤ 100 := by decide +kernel
  have l3 : (Str.ofString "'").length ≤ 100 := by decide +kernel
  repeat' (walk_at "m")
  rename_i r h2 F2 N2 a2 n2
  exact hQ r h2 _ _ _ (B.rel F2) (by
    cases q : s.heap.get? r with
    | none => rfl
    | some o => have := hs _ _ q; rw [n2] at this; cases this) (N2 _ (.head _)).1
end
section
/-- what a call told: its value, or the class and the words of its exception -/
inductive Tl where
  | given (v : Value)
  | err (cls : String) (msg : Str)
def Tl.items : Tl → Tok → Tok → List Value
  | .given v, t, _ => [.str (Str.ofString "given") t, v]
  | .err c x, t, u => [.str (Str.ofString c) t, .str x u]
def Tl.plain : Tl → Prop
  | .given _ => True
  | .err c _ => c = "TypeError" ∨ c = "IndexError"

theorem sub_IT : isSubtype (.type "IndexError") (.type "TypeError") = pure false := by rw [isSubtype_type]; kernel_rfl

set_option maxHeartbeats 400000 in
theorem told_w {w : World} {mean : ExcName → Option Value} {mg mb : Str → Option Value} {b : Heap} {A : Around} {envs : List Env} {k : Nat} {s : Shared} {l fa : Addr} {o o' : Obj} {res : Tl} {Q E : Value → Shared → Prop}
    (C : Cx w mean mg mb b A envs (k + 1) s.heap) (hl : s.heap.get? l = some o) (hlb : b.get? l = none) (hlf : l ∉ frs envs) (hfn : IsFn fa s.heap) (hfl : fa ≠ l) (hff : fa ∉ frs envs) (hres : res.plain)
    (hcall : ∀ (A' : Around) (envs' : List Env) (s' : Shared) (Q' E' : Value → Shared → Prop), s.heap.StaysIn s'.heap → Cx w mean mg mb b A' envs' k s'.heap → l ∉ frs envs' →
      (∀ v, res = .given v → ∀ h' tk, Rel (frs envs') [l] s'.heap h' → h'.get? l = some o' → Q' v { s' with heap := h', toks := tk }) →
      (∀ cls msg, res = .err cls msg → ∀ h' tk e, Raised envs' s'.heap l o' e cls msg h' → E' (.ref e) { s' with heap := h', toks := tk }) →
      wpAny (model PR w) A' (call (.ref fa) [.ref l]) Q' E' s')
    (hQ : ∀ r h' tk t3 t4, Rel (frs envs) [l] s.heap h' → h'.get? l = some o' → s.heap.get? r = none → h'.get? r = some (tup (res.items t3 t4)) → Q (.ref r) { s with heap := h', toks := tk }) :
    wpAny (model PR w) A (call (.ref 89) [.ref fa, .ref l]) Q E s := by
  refine' enter (f := 89) (binds := [(Str.ofString "call", .ref fa), (Str.ofString "row", .ref l)]) C [l] (fun a ha => by rcases List.mem_singleton.mp ha with rfl; exact ⟨hlf, hlb⟩) ?k1 ?k2 ?k3 ?k4 ?c1 ?c2 ?c3 ?c4 ?_
  (case k1 => k_is)
  (case k2 => k_is)
  (case k3 => exact BindsTo.of_eq rfl)
  (case k4 => exact locs rfl)
  (case c1 => exact rfl)
  (case c2 => exact rfl)
  (case c3 => exact rfl)
  (case c4 => decide)
  intro L h₁ hL hs B F X T'
  have N : News (cut h₁ s.heap [l]) L h₁ [(l, o)] := fun p hp => by
    rcases List.mem_singleton.mp hp with rfl
    exact ⟨hs _ _ hl, by rw [hL]; exact Nat.ne_of_lt (Heap.lt_size hl), hid_cut (.inl (.head _))⟩
  dsimp only [List.length_cons, List.length_nil]
  refine wpAny_execs_cons ?_
  refine wpAny_Try_except ?_
  repeat' (walk_at "m")
  refine callWith_fn ?_ (by with_unfolding_all rfl) (by with_unfolding_all rfl)
  repeat' (walk_at "m")
  refine ⟨?_, ?_⟩
  · obtain ⟨fo, fd, hfo, hfd⟩ := hfn
    exact ⟨fo, fd, hs _ _ hfo, hfd⟩
  dsimp only [List.nil_append]
  have hne := (N _ (.head _)).2.1
  have hS' : ∀ a ∈ [l], (cut h₁ s.heap [l]).get? a = none := fun a ha => by rcases List.mem_singleton.mp ha with rfl; exact (N _ (.head _)).2.2
  refine hcall _ _ _ _ _ hs (B.now F) (B.lNot hne) ?_ ?_
  · intro v hv h2 tk2 R2 hl2
    obtain ⟨B2, F2⟩ := B.after F R2 hS'
    have N2 := B.newsOne F R2 hl2 N (fun _ q => nomatch q)
    clear X T' F N
    have X := B2.X
    have T' := B2.T
    repeat' (walk_at "m")
    rename_i r h3 F3 N3 a3 n3
    subst hv
    exact hQ r h3 _ _ 0 (B2.rel F3) (N3 _ (.tail _ (.head _))).1 (B2.R.fresh hl2 n3) (N3 _ (.head _)).1
  · intro cls msg hm h2 tk2 e R2
    refine' Raised.lands B.C.fr B.envF ?r9 (B.ffNow F) ?q9
    case r9 => exact R2
    intro h3 R3
    dsimp only
    have hcls : cls = "TypeError" ∨ cls = "IndexError" := by rw [hm] at hres; exact hres
    obtain ⟨B3, F3⟩ := B.after F R3.rel hS'
    have X3 := B3.X
    have T3 := B3.T
    obtain ⟨oe, t, ot, evs, en, etk, w1, w2, w3, w4, w5, w6, w7, w8, w9, w10⟩ := R3.what
    rcases hcls with rfl | rfl
    · refine wpAny_handleBy_builtin_as (X := "TypeError") (T := "TypeError") (b := true) PySem.F.isExc_TypeError PySem.F.notTuple_TypeError PySem.F.self_TypeError ?_
      refine name_B F3 X3 (topRead_of T3) (by k_is) (by boot_by_name) (by decide) ⟨rfl, ⟨oe, w1, w2⟩, ?_⟩
      rw [if_pos rfl]
      refine' Raised.again ?r8 (B.ffNow F) ?q8
      case r8 => exact R3
      intro h4 R4
      obtain ⟨B4, F4⟩ := B.after F R4.rel hS'
      obtain ⟨oe, t, ot, evs, en, etk, w1, w2, w3, w4, w5, w6, w7, w8, w9, w10⟩ := R4.what
      clear F3 X3 T3 B3 X T'
      have X4 := B4.X
      have T4 := B4.T
      have N4 := B.newsOne F R4.rel R4.obj N (fun _ q => nomatch q)
      have Ne : News (cut h4 s.heap [l]) L h4 [(e, oe), (t, ot), (l, o')] := fun p hp => by
        rcases List.mem_cons.mp hp with rfl | hp
        · exact B.newsNew F w8 w1
        · rcases List.mem_cons.mp hp with rfl | hp
          · exact B.newsNew F w9 w5
          · exact N4 p hp
      clear N N4 F
      dsimp only
      repeat' (walk_at "m")
      rename_i h5 F5 N5
      refine str_of_exc PySem.F.excStr_TypeError (by have := B4.C.un; show _ + 10 < _; simp only [Around.mark_units]; omega) ⟨oe, evs, (N5 _ (.head _)).1, w2, w3, w4⟩ ⟨ot, en, (N5 _ (.tail _ (.head _))).1, w6, by simpa using w7⟩ ?_
      repeat' (walk_at "m")
      rename_i r h6 F6 N6 a6 n6
      refine name_goes_keeps F6 N6 fun h7 v7 F7 N7 => ?_
      dsimp only
      subst hm
      exact hQ r h7 _ _ _ (B4.rel F7) (N7 _ (.tail _ (.tail _ (.tail _ (.head _))))).1 ((B4.rel F5).fresh (N5 _ (.tail _ (.tail _ (.head _)))).1 n6) (N7 _ (.head _)).1
    · refine wpAny_handleBy_builtin_as (X := "IndexError") (T := "TypeError") (b := false) PySem.F.isExc_TypeError PySem.F.notTuple_TypeError sub_IT ?_
      refine name_B F3 X3 (topRead_of T3) (by k_is) (by boot_by_name) (by decide) ⟨rfl, ⟨oe, w1, w2⟩, ?_⟩
      rw [if_neg (by decide)]
      refine wpAny_handleBy_builtin_as (X := "IndexError") (T := "IndexError") (b := true) PySem.F.isExc_IndexError PySem.F.notTuple_IndexError PySem.F.self_IndexError ?_
      refine name_B F3 X3 (topRead_of T3) (by k_is) (by boot_by_name) (by decide) ⟨rfl, ⟨oe, w1, w2⟩, ?_⟩
      rw [if_pos rfl]
      refine' Raised.again ?r7 (B.ffNow F) ?q7
      case r7 => exact R3
      intro h4 R4
      obtain ⟨B4, F4⟩ := B.after F R4.rel hS'
      obtain ⟨oe, t, ot, evs, en, etk, w1, w2, w3, w4, w5, w6, w7, w8, w9, w10⟩ := R4.what
      clear F3 X3 T3 B3 X T'
      have X4 := B4.X
      have T4 := B4.T
      have N4 := B.newsOne F R4.rel R4.obj N (fun _ q => nomatch q)
      have Ne : News (cut h4 s.heap [l]) L h4 [(e, oe), (t, ot), (l, o')] := fun p hp => by
        rcases List.mem_cons.mp hp with rfl | hp
        · exact B.newsNew F w8 w1
        · rcases List.mem_cons.mp hp with rfl | hp
          · exact B.newsNew F w9 w5
          · exact N4 p hp
      clear N N4 F
      dsimp only
      repeat' (walk_at "m")
      rename_i h5 F5 N5
      refine str_of_exc PySem.F.excStr_IndexError (by have := B4.C.un; show _ + 10 < _; simp only [Around.mark_units]; omega) ⟨oe, evs, (N5 _ (.head _)).1, w2, w3, w4⟩ ⟨ot, en, (N5 _ (.tail _ (.head _))).1, w6, by simpa using w7⟩ ?_
      repeat' (walk_at "m")
      rename_i r h6 F6 N6 a6 n6
      refine name_goes_keeps F6 N6 fun h7 v7 F7 N7 => ?_
      dsimp only
      subst hm
      exact hQ r h7 _ _ _ (B4.rel F7) (N7 _ (.tail _ (.tail _ (.tail _ (.head _))))).1 ((B4.rel F5).fresh (N5 _ (.tail _ (.tail _ (.head _)))).1 n6) (N7 _ (.head _)).1
end
section
set_option maxHeartbeats 1000000 in
theorem lost_w {w : World} {mean : ExcName → Option Value} {mg mb : Str → Option Value} {b : Heap} {A : Around} {envs : List Env} {k : Nat} {s : Shared} {a : Addr} {hv : List Value} {na : Nat} {one : Value} {Q E : Value → Shared → Prop}
    (C : Cx w mean mg mb b A envs (k + 1) s.heap) (ha : s.heap.get? a = some (lst hv na)) (haf : a ∉ frs envs) (hi : Ints hv) (h0 : 0 < hv.length) (hz : hv.length ≤ 63)
    (hQ : ∀ r c h' tk, Rel (frs envs) [] s.heap h' → s.heap.get? r = none → h'.get? r = some (lst (lostRow hv one) c) → Q (.ref r) { s with heap := h', toks := tk }) :
    wpAny (model PR w) A (call (.ref 82) [.ref a, one]) Q E s := by
  refine' enter (f := 82) (binds := [(Str.ofString "heap", .ref a), (Str.ofString "stranger", one)]) C [] (fun a ha => nomatch ha) ?k1 ?k2 ?k3 ?k4 ?c1 ?c2 ?c3 ?c4 ?_
  (case k1 => k_is)
  (case k2 => k_is)
  (case k3 => exact BindsTo.of_eq rfl)
  (case k4 => exact locs rfl)
  (case c1 => exact rfl)
  (case c2 => exact rfl)
  (case c3 => exact rfl)
  (case c4 => decide)
  intro L h₁ hL hs B F X T'
  with_reducible refine anyQ fun Q' E' hQ' => ?_
  replace hQ : ∀ r c h' tk, Rel (frs envs) [] s.heap h' → s.heap.get? r = none → h'.get? r = some (lst (lostRow hv one) c) → Q' (.ret (.ref r)) { s with heap := h', toks := tk } := fun r c h' tk x1 x2 x3 => hQ' (.ret (.ref r)) _ (hQ r c h' tk x1 x2 x3)
  clear hQ'
  have N : News (cut h₁ s.heap []) L h₁ [] := fun p hp => nomatch hp
  have Ha : (cut h₁ s.heap []).get? a = some (lst hv na) := cut_iff.mpr ⟨⟨_, ha⟩, (fun q => nomatch q), hs _ _ ha⟩
  dsimp only [List.length_cons, List.length_nil]
  repeat' (walk_at "m")
  rename_i wy h2 F2 N2 a2 n2 h3 F3 N3 r h4 t4 F4 N4 a4 n4
  refine iter_rngO (a := 1) (b := hv.length) F4 N4 (N4 _ (.head _)).1 (by decide) (by omega) fun it h5 F5 N5 a5 n5 => ?_
  dsimp only
  have hwi : wy ≠ it := a5 (wy, _) (.tail _ (.head _))
  refine hideF (fun j s' => ∃ i ws nw m h' tk, s' = { s with heap := h', toks := tk } ∧ i + j = hv.length - 1 ∧ Fr (cut h₁ s.heap []) L h' m ∧ News (cut h₁ s.heap []) L h' [(it, rngI ((1 + i : Nat) : Int) (j : Int) 1), (wy, lst ws nw)] ∧
    m (Str.ofString "heap") = some (.ref a) ∧ m (Str.ofString "stranger") = some one ∧ m (Str.ofString "way") = some (.ref wy) ∧ NA ws (wayTo hv i)) (hv.length - 1)
    ⟨0, _, _, _, h5, _, rfl, by omega, F5, (fun p hp => N5 p (by rcases List.mem_cons.mp hp with rfl | hp; exact .head _; rcases List.mem_cons.mp hp with rfl | hp; exact .tail _ (.tail _ (.head _)); cases hp)), rfl, rfl, rfl, ⟨rfl, fun i hi => by
      have : i = 0 := by simp [wayTo] at hi; exact hi
      subst this; exact ⟨_, rfl⟩⟩⟩ fun J hJ hJ0 => ?_
  refine codeAny_forLoop_any J ?_ (hv.length - 1) hJ0
  clear hJ0
  clear F2 N2 F3 N3 F4 N4 F5 N5 F N a2 a4 a5 n2 n4 n5
  intro j s' hj0
  obtain ⟨i, ws, nw, m, h', tk, rfl, hij, F, N, m1, m2, m3, hNA⟩ := (hJ _ _).mp hj0
  clear hj0
  have hap : ∀ p ∈ [(wy, lst ws nw)], p.1 ≠ it := fun p hp => by rcases List.mem_singleton.mp hp with rfl; exact hwi
  have hwl : ws.length = (wayTo hv i).length := hNA.1
  have hwp := wayTo_pos hv i
  have hwn := wayTo_len hv i
  cases j with
  | zero =>
    refine nextEnd_N F N hap B.C.hd (by simp) fun h5 F5 N5 => ?_
    dsimp only
    repeat' (walk_at "m")
    have hW : i = hv.length - 1 := by omega
    subst hW
    have hWlt : ∀ p ∈ wayTo hv (hv.length - 1), p < hv.length := fun p hp => by have := wayTo_le hv _ p hp; omega
    rename_i rw c6 h6 F6 N6 a6 n6 h7 F7 N7 r h8 t8 F8 N8 a8 n8
    refine iter_rngO (a := 1) (b := ws.length) F8 N8 (N8 _ (.head _)).1 (by decide) (by omega) fun it2 h9 F9 N9 a9 n9 => ?_
    dsimp only
    have hri : rw ≠ it2 := a9 (rw, _) (.tail _ (.head _))
    have hwi2 : wy ≠ it2 := a9 (wy, _) (.tail _ (.tail _ (.head _)))
    have hwr : wy ≠ rw := a6 (wy, _) (.head _)
    have nrw : s.heap.get? rw = none := by
      cases q : s.heap.get? rw with
      | none => rfl
      | some x =>
        obtain ⟨sl, hs2, _⟩ := B.old F5 q (fun z => nomatch z)
        rw [n6] at hs2; cases hs2
    clear hJ
    refine hideF (fun j s' => ∃ i c m h' tk, s' = { s with heap := h', toks := tk } ∧ i + j = ws.length - 1 ∧ Fr (cut h₁ s.heap []) L h' m ∧ News (cut h₁ s.heap []) L h' [(it2, rngI ((1 + i : Nat) : Int) (j : Int) 1), (rw, lst (rowTo hv (wayTo hv (hv.length - 1)) i) c), (wy, lst ws nw)] ∧
      m (Str.ofString "heap") = some (.ref a) ∧ m (Str.ofString "stranger") = some one ∧ m (Str.ofString "way") = some (.ref wy) ∧ m (Str.ofString "row") = some (.ref rw)) (ws.length - 1)
      ⟨0, c6, _, h9, _, rfl, by omega, F9, (fun p hp => N9 p (by rcases List.mem_cons.mp hp with rfl | hp; exact .head _; exact .tail _ (.tail _ hp))), m1, m2, m3, rfl⟩ fun J hJ hJ0 => ?_
    refine codeAny_forLoop_any J ?_ (ws.length - 1) hJ0
    clear hJ0
    clear F9 N9 F8 N8 F7 N7 F6 N6 F5 N5 F N a8 a9
    intro j s' hj0
    obtain ⟨i, c, m, h', tk, rfl, hij2, F, N, m1, m2, m3, m4⟩ := (hJ _ _).mp hj0
    clear hj0
    have hap : ∀ p ∈ [(rw, lst (rowTo hv (wayTo hv (hv.length - 1)) i) c), (wy, lst ws nw)], p.1 ≠ it2 := fun p hp => by
      rcases List.mem_cons.mp hp with rfl | hp
      · exact hri
      · rcases List.mem_singleton.mp hp with rfl; exact hwi2
    have hap2 : ∀ (o : Obj) (o' : Obj), ∀ p ∈ [(it2, o), (wy, o')], p.1 ≠ rw := fun o o' p hp => by
      rcases List.mem_cons.mp hp with rfl | hp
      · exact Ne.symm hri
      · rcases List.mem_singleton.mp hp with rfl; exact hwr
    cases j with
    | zero =>
      have ei : i = (wayTo hv (hv.length - 1)).length - 1 := by omega
      refine nextEnd_N F N hap B.C.hd (by simp) fun h5 F5 N5 => ?_
      dsimp only
      repeat' (walk_at "m")
      obtain ⟨tl, hlast⟩ := hNA.2 ((wayTo hv (hv.length - 1)).length - 1) (by omega)
      refine item_last (N5 _ (.tail _ (.head _))).1 (by omega) (by omega) ?_ (by with_unfolding_all rfl)
      rw [hwl, hlast]
      refine store_N F5 N5 (fun p hp => by rcases List.mem_singleton.mp hp with rfl; exact hwr) (by rw [rowTo_len]; exact getD_lt hWlt (by omega)) (by rw [rowTo_len]; omega) fun h10 F10 N10 => ?_
      dsimp only
      repeat' (walk_at "m")
      refine hQ rw c h10 _ (B.rel F10) nrw ?_
      have := (N10 _ (.head _)).1
      rw [ei] at this
      exact this
    | succ j =>
      refine next_N F N hap (by omega) fun h5 F5 N5 => ?_
      dsimp only
      rw [show (((1 + i : Nat) : Int) + 1) = ((1 + (i + 1) : Nat) : Int) by omega, show (((j + 1 : Nat) : Int) - 1) = (j : Int) by omega] at N5
      refine wpAny_of_eq (a := ()) rfl ?_
      refine wpAny_assign_Name ?_
      repeat' (walk_at "m")
      rename_i h6 F6 N6
      obtain ⟨t1, e1⟩ := hNA.2 (1 + i) (by omega)
      obtain ⟨t2, e2⟩ := hNA.2 (1 + i - 1) (by omega)
      rw [e1]
      refine item_at (F6.keep _ _ Ha) (getD_lt hWlt (by omega)) (by omega) ?_ (by with_unfolding_all rfl)
      repeat' (walk_at "m")
      rw [e2]
      refine store_N F6 (news_swap N6) (hap2 _ _) (by rw [rowTo_len]; exact getD_lt hWlt (by omega)) (by rw [rowTo_len]; omega) fun h10 F10 N10 => ?_
      dsimp only
      repeat' (walk_at "m")
      refine ⟨j, Nat.lt_succ_self _, (hJ _ _).mpr ⟨i + 1, c, _, h10, _, rfl, by omega, F10, ?_, m1, m2, m3, m4⟩⟩
      have e3 : rowTo hv (wayTo hv (hv.length - 1)) (i + 1) = (rowTo hv (wayTo hv (hv.length - 1)) i).set ((wayTo hv (hv.length - 1)).getD (1 + i - 1) 0) (nth hv ((wayTo hv (hv.length - 1)).getD (1 + i) 0)) := by
        rw [Nat.add_comm 1 i]; rfl
      rw [e3]
      exact news_swap N10
  | succ j =>
    refine next_N F N hap (by omega) fun h5 F5 N5 => ?_
    dsimp only
    rw [show (((1 + i : Nat) : Int) + 1) = ((1 + (i + 1) : Nat) : Int) by omega, show (((j + 1 : Nat) : Int) - 1) = (j : Int) by omega] at N5
    refine wpAny_of_eq (a := ()) rfl ?_
    refine wpAny_assign_Name ?_
    repeat' (walk_at "m")
    rename_i h6 F6 N6 h7 F7 N7
    clear F N F5 N5 F6 N6
    have hk1 : (1 + i) % 2 < 2 := Nat.mod_lt _ (by decide)
    refine wpAny_mono (Q := fun f s' => f = .next ∧ ∃ ws' nw' m' h' tk, s' = { s with heap := h', toks := tk } ∧ Fr (cut h₁ s.heap []) L h' m' ∧ News (cut h₁ s.heap []) L h' [(it, rngI ((1 + (i + 1) : Nat) : Int) (j : Int) 1), (wy, lst ws' nw')] ∧
      m' (Str.ofString "heap") = some (.ref a) ∧ m' (Str.ofString "stranger") = some one ∧ m' (Str.ofString "way") = some (.ref wy) ∧ NA ws' (wayTo hv (i + 1))) ?tst9 ?aft9 (fun _ _ e => e)
    case aft9 =>
      rintro f s' ⟨rfl, ws', nw', m', h', tk', rfl, F, N, m1, m2, m3, hNA'⟩
      dsimp only
      repeat' (walk_at "m")
      exact ⟨j, Nat.lt_succ_self _, (hJ _ _).mpr ⟨i + 1, ws', nw', m', h', tk', rfl, by omega, F, N, m1, m2, m3, hNA'⟩⟩
    with_reducible refine anyQk fun Q2 hQ2 => ?_
    clear hJ
    have hno : Unit → ¬ ((1 + i - 1) / 2 = (wayTo hv i).getD ((wayTo hv i).length - 1) 0 ∧ (1 + i - 1 + (1 + i) % 2 + 1 = hv.length ∨ ltB (nth hv (1 + i - 1 + (1 + i) % 2 + 1)) (nth hv (1 + i - 1 + (1 + i) % 2)) = decide (1 + i = 1 + i - 1 + (1 + i) % 2))) → wayTo hv (i + 1) = wayTo hv i := fun _ hn => by
      rw [Nat.add_comm 1 i] at hn
      show wayStep hv (wayTo hv i) (i + 1) = _
      unfold wayStep
      rw [if_neg hn]
    have hyes : Unit → ((1 + i - 1) / 2 = (wayTo hv i).getD ((wayTo hv i).length - 1) 0 ∧ (1 + i - 1 + (1 + i) % 2 + 1 = hv.length ∨ ltB (nth hv (1 + i - 1 + (1 + i) % 2 + 1)) (nth hv (1 + i - 1 + (1 + i) % 2)) = decide (1 + i = 1 + i - 1 + (1 + i) % 2))) → wayTo hv (i + 1) = wayTo hv i ++ [1 + i] := fun _ hn => by
      rw [Nat.add_comm 1 i] at hn ⊢
      show wayStep hv (wayTo hv i) (i + 1) = _
      unfold wayStep
      rw [if_pos hn]
    have hap7 : ∀ p ∈ [(it, rngI ((1 + (i + 1) : Nat) : Int) (j : Int) 1)], p.1 ≠ wy := fun p hp => by rcases List.mem_singleton.mp hp with rfl; exact Ne.symm hwi
    refine wpAny_If ?_
    repeat' (walk_at "m")
    obtain ⟨tl, hlast⟩ := hNA.2 ((wayTo hv i).length - 1) (by omega)
    refine item_last (N7 _ (.tail _ (.head _))).1 (by omega) (by omega) ?_ (by with_unfolding_all rfl)
    rw [hwl, hlast]
    repeat' (walk_at "m")
    by_cases c1 : (1 + i - 1) / 2 = (wayTo hv i).getD ((wayTo hv i).length - 1) 0
    case neg =>
      rw [if_neg (by simpa using c1)]
      repeat' (walk_at "m")
      exact hQ2 _ _ ⟨rfl, ws, nw, _, h7, _, rfl, F7, N7, m1, m2, m3, by rw [hno () (fun q => c1 q.1)]; exact hNA⟩
    rw [if_pos (by simpa using c1)]
    repeat' (walk_at "m")
    by_cases c2 : 1 + i - 1 + (1 + i) % 2 + 1 = hv.length
    case pos =>
      rw [if_pos (by simpa using c2)]
      repeat' (walk_at "m")
      dsimp only [List.cons_append, List.nil_append]
      refine append_N F7 (news_swap N7) hap7 (by omega) fun h8 F8 N8 => ?_
      dsimp only
      repeat' (walk_at "m")
      exact hQ2 _ _ ⟨rfl, _, _, _, h8, _, rfl, F8, news_swap N8, m1, m2, m3, by rw [hyes () ⟨c1, .inl c2⟩]; exact hNA.append _ _⟩
    rw [if_neg (by simpa using c2)]
    repeat' (walk_at "m")
    refine cmp_ints (hi _ (nth_mem (by omega))) (hi _ (nth_mem (by omega))) ?_
    repeat' (walk_at "m")
    by_cases c3 : ltB (nth hv (1 + i - 1 + (1 + i) % 2 + 1)) (nth hv (1 + i - 1 + (1 + i) % 2)) = decide (1 + i = 1 + i - 1 + (1 + i) % 2)
    case neg =>
      rw [if_neg (by simpa using c3)]
      repeat' (walk_at "m")
      exact hQ2 _ _ ⟨rfl, ws, nw, _, h7, _, rfl, F7, N7, m1, m2, m3, by rw [hno () (fun q => q.2.elim c2 c3)]; exact hNA⟩
    rw [if_pos (by simpa using c3)]
    repeat' (walk_at "m")
    dsimp only [List.cons_append, List.nil_append]
    refine append_N F7 (news_swap N7) hap7 (by omega) fun h8 F8 N8 => ?_
    dsimp only
    repeat' (walk_at "m")
    exact hQ2 _ _ ⟨rfl, _, _, _, h8, _, rfl, F8, news_swap N8, m1, m2, m3, by rw [hyes () ⟨c1, .inr c3⟩]; exact hNA.append _ _⟩
end
section
set_option maxHeartbeats 1000000 in
theorem lawheap_w {w : World} {mean : ExcName → Option Value} {mg mb : Str → Option Value} {b : Heap} {A : Around} {envs : List Env} {k : Nat} {s : Shared} {a : Addr} {hv : List Value} {na : Nat} {Q E : Value → Shared → Prop}
    (C : Cx w mean mg mb b A envs (k + 1) s.heap) (ha : s.heap.get? a = some (lst hv na)) (haf : a ∉ frs envs) (hi : Ints hv) (hz : hv.length ≤ 63)
    (hQ : ∀ r c h' tk vs, Rel (frs envs) [] s.heap h' → s.heap.get? r = none → h'.get? r = some (lst vs c) → Ints vs → vs.length = hv.length → Q (.ref r) { s with heap := h', toks := tk }) :
    wpAny (model PR w) A (call (.ref 75) [.ref a]) Q E s := by
  refine' enterC (f := 75) (binds := [(Str.ofString "numbers", .ref a)]) C [] (fun a ha => nomatch ha) (Str.ofString "numbers") (.ref a) (fun _ => none) ?k1 ?k2 ?k3 ?k4 ?e1 ?e2 ?e3 ?c1 ?c2 ?c3 ?_
  (case k1 => k_is)
  (case k2 => k_is)
  (case k3 => exact BindsTo.of_eq rfl)
  (case k4 => exact rfl)
  (case e1 => intro _; with_unfolding_all rfl)
  (case e2 => intro _; with_unfolding_all rfl)
  (case e3 => intro _; with_unfolding_all rfl)
  (case c1 => exact rfl)
  (case c2 => exact rfl)
  (case c3 => exact rfl)
  intro L h₁ tk₁ o1 hL hs B F X T' ho1 N
  with_reducible refine anyQ fun Q' E' hQ' => ?_
  replace hQ : ∀ r c h' tk vs, Rel (frs envs) [] s.heap h' → s.heap.get? r = none → h'.get? r = some (lst vs c) → Ints vs → vs.length = hv.length → Q' (.ret (.ref r)) { s with heap := h', toks := tk } := fun r c h' tk vs x1 x2 x3 x4 x5 => hQ' (.ret (.ref r)) _ (hQ r c h' tk vs x1 x2 x3 x4 x5)
  clear hQ'
  have Ha : (cut h₁ s.heap []).get? a = some (lst hv na) := cut_iff.mpr ⟨⟨_, ha⟩, (fun q => nomatch q), hs _ _ ha⟩
  try dsimp only [List.length_cons, List.length_nil]
  repeat' (walk_at "m")
  rename_i r2 h2 F2 N2 a2 n2
  refine zeros_N F2 N2 (N2 _ (.head _)).1 (by omega) fun hp h3 F3 N3 a3 n3 => ?_
  dsimp only
  repeat' (walk_at "m")
  rename_i h4 F4 N4 fr h5 F5 N5 a5 n5 h6 F6 N6
  obtain ⟨ns, hns⟩ := ints_are hi
  refine sorted_L F6 N6 (F6.keep _ _ Ha) hns (by omega) fun so co h7 sv sn F7 N7 a7 n7 his hperm _ => ?_
  dsimp only
  repeat' (walk_at "m")
  refine rev_N F7 N7 (N7 _ (.head _)).1 ?_ (fun rv h8 F8 N8 a8 n8 => ?_) (by with_unfolding_all rfl)
  · have : sv.length = hv.length := by rw [his.length, hperm.length_eq, ← hns.length]
    omega
  dsimp only
  repeat' (walk_at "m")
  refine iterL_N F8 N8 (N8 _ (.head _)).1 fun it oi h9 hoi F9 N9 a9 n9 => ?_
  dsimp only
  have hsn : sv.length = hv.length := by rw [his.length, hperm.length_eq, ← hns.length]
  have hrl : sv.reverse.length = hv.length := by rw [List.length_reverse, hsn]
  have hri : Ints sv.reverse := fun v hv => are_ints his v (List.mem_reverse.mp hv)
  have x1 : hp ≠ fr := a5 (hp, _) (.head _)
  have x2 : hp ≠ it := a9 (hp, _) (.tail _ (.tail _ (.tail _ (.head _))))
  have x3 : fr ≠ it := a9 (fr, _) (.tail _ (.tail _ (.head _)))
  have x4 : L + 1 ≠ hp := a3 (L + 1, _) (.tail _ (.head _))
  have x5 : L + 1 ≠ fr := a5 (L + 1, _) (.tail _ (.tail _ (.head _)))
  have x6 : L + 1 ≠ it := a9 (L + 1, _) (.tail _ (.tail _ (.tail _ (.tail _ (.tail _ (.head _))))))
  have x7 : rv ≠ it := a9 (rv, _) (.head _)
  have x8 : hp ≠ rv := a8 (hp, _) (.tail _ (.tail _ (.head _)))
  have x9 : fr ≠ rv := a8 (fr, _) (.tail _ (.head _))
  refine hideF (fun j s' => ∃ i o ws c vs d laid m h' tk, s' = { s with heap := h', toks := tk } ∧ i + j = hv.length ∧ IsLI o rv i ∧ Fr (cut h₁ s.heap []) L h' m ∧ News (cut h₁ s.heap []) L h' [(it, o), (fr, lst ws c), (hp, lst vs d), (L + 1, o1), (rv, lst sv.reverse 0)] ∧
    m (Str.ofString "heap") = some (.ref hp) ∧ m (Str.ofString "free") = some (.ref fr) ∧ vs.length = hv.length ∧ Ints vs ∧ ws.length ≤ i + 1 ∧ laid.length = i ∧ (0 < hv.length → FreeOk hv.length laid ws)) hv.length
    ⟨0, oi, _, _, _, _, [], _, h9, _, rfl, by omega, hoi, F9, nn N9 (by walk_at "mem") (nn (p := (fr, _)) N9 (.tail _ (.tail _ (.tail _ (.head _)))) (nn (p := (hp, _)) N9 (.tail _ (.tail _ (.tail _ (.tail _ (.head _))))) (nn N9 (by walk_at "mem") (nn N9 (by walk_at "mem") News.nil)))), rfl, rfl, by simp, ?_, by simp, rfl, fun h0 => ⟨?_, ?_⟩⟩ fun J hJ hJ0 => ?_
  · intro v hv
    exact ⟨_, _, List.eq_of_mem_replicate hv⟩
  · intro v hv
    rcases List.mem_singleton.mp hv with rfl
    exact ⟨0, _, rfl, h0⟩
  · intro j hj
    rcases Nat.eq_zero_or_pos j with rfl | h
    · exact .inr (.inl ⟨_, .head _⟩)
    · exact .inr (.inr ⟨h, fun q => nomatch q⟩)
  refine codeAny_forLoop_any J ?_ hv.length hJ0
  clear hJ0
  have nhp : s.heap.get? hp = none := by
    cases q : s.heap.get? hp with
    | none => rfl
    | some o => have := F2.keep _ _ (cut_iff.mpr ⟨⟨_, q⟩, (fun q => nomatch q), hs _ _ q⟩); rw [n3] at this; cases this
  clear F2 N2 F3 N3 F4 N4 F5 N5 F6 N6 F7 N7 F8 N8 F9 N9 F N a2 a3 a5 a7 a8 a9 n2 n3 n5 n7 n8 n9 hoi
  intro j s' hj0
  obtain ⟨i, o, ws, c, vs, d, laid, m, h', tk, rfl, hij, hoi, F, N, m1, m2, hvl, hvi, hwl, hll, hfree⟩ := (hJ _ _).mp hj0
  clear hj0
  have hap : ∀ p ∈ [(fr, lst ws c), (hp, lst vs d), (L + 1, o1), (rv, lst sv.reverse 0)], p.1 ≠ it := ap x3 (ap x2 (ap x6 (ap x7 ap0)))
  cases j with
  | zero =>
    refine nextLEnd_N (vs := sv.reverse) (n := 0) F N hap B.C.hd hoi (N (rv, _) (.tail _ (.tail _ (.tail _ (.tail _ (.head _)))))).1 (by omega) fun h5 F5 N5 => ?_
    dsimp only
    repeat' (walk_at "m")
    exact hQ hp d h5 _ vs (B.rel F5) nhp (N5 _ (.tail _ (.head _))).1 hvi hvl
  | succ j =>
    have h0 : 0 < hv.length := by omega
    have FO := hfree h0
    have hw0 := FO.more (by omega)
    refine nextL_N (vs := sv.reverse) (n := 0) F N hap hoi (N (rv, _) (.tail _ (.tail _ (.tail _ (.tail _ (.head _)))))).1 (by omega) fun h5 o' hoi' F5 N5 _ => ?_
    dsimp only
    refine wpAny_of_eq (a := ()) rfl ?_
    refine wpAny_assign_Name ?_
    repeat' (walk_at "m")
    rename_i h6 F6 N6
    obtain ⟨x, tx, ex⟩ := hri _ (nth_mem (vs := sv.reverse) (i := i) (by omega))
    rw [ex]
    refine mod_N hw0 fun r hr => ?_
    dsimp only
    repeat' (walk_at "m")
    obtain ⟨pl, tpl, epl, hpl⟩ := FO.els _ (nth_mem hr)
    dsimp only [List.cons_append, List.nil_append]
    refine popAt_N F6 (news_swap N6) (ap (Ne.symm x3) (ap x1 (ap x5 (ap (Ne.symm x9) ap0)))) hr rfl (by omega) fun h7 F7 N7 => ?_
    rw [epl]
    dsimp only
    repeat' (walk_at "m")
    rename_i h8 F8 N8
    refine store_N (l := hp) (vs := vs) (n := d) (rest := [(it, o'), (fr, lst (ws.take r ++ ws.drop (r + 1)) (c + 1)), (L + 1, o1), (rv, lst sv.reverse 0)]) F8 (nn N8 (by walk_at "mem") (nn N8 (by walk_at "mem") (nn N8 (by walk_at "mem") (nn N8 (by walk_at "mem") (nn N8 (by walk_at "mem") News.nil))))) (ap (Ne.symm x2) (ap (Ne.symm x1) (ap x4 (ap (Ne.symm x8) ap0)))) (by omega) (by omega) fun h10 F10 N10 => ?_
    dsimp only
    repeat' (walk_at "m")
    refine' comp_N (g := cut h₁ s.heap []) (L := L) (ltN hv.length) (cl := [(Str.ofString "numbers", L + 1)]) ?q0 ?q1 ?q2 ?q3 ?q4 ?q5 ?_ ?q6
    (case q0 => exact B.C.hd)
    (case q1 => with_unfolding_all rfl)
    (case q2 => decide)
    (case q3 => exact rfl)
    (case q4 => decide)
    (case q5 => exact rfl)
    (case q6 => intro _; with_unfolding_all rfl)
    repeat' (walk_at "m")
    rename_i tp h11 F11 N11 a11 n11
    obtain ⟨t1, t2, N11⟩ : ∃ t1 t2, News (cut h₁ s.heap []) L h11 [(tp, tup [.int ((2 * pl + 1 : Nat) : Int) t1, .int ((2 * pl + 2 : Nat) : Int) t2]), (hp, lst (vs.set pl (nth sv.reverse i)) d), (it, o'), (fr, lst (ws.take r ++ ws.drop (r + 1)) (c + 1)), (L + 1, o1), (rv, lst sv.reverse 0)] := ⟨_, _, N11⟩
    refine ⟨tp, [.int ((2 * pl + 1 : Nat) : Int) t1, .int ((2 * pl + 2 : Nat) : Int) t2], _, _, rfl, F11, N11, .inr (N11 _ (.head _)).1, by simp, ?tst9, ?elt9, ?aft9⟩
    case elt9 =>
      intro C9 v s₃ m₃ E' hv hn hm
      repeat' (walk_at "m")
      exact ⟨rfl, s₃.heap, s₃.toks, rfl, fun _ _ e => e⟩
    case tst9 =>
      intro C9 v s₃ m₃ E' hv hn hm F3 N3
      have ev : ∃ q : Nat, ∃ t, v = .int (q : Int) t := by
        rcases List.mem_cons.mp hv with rfl | hv
        · exact ⟨_, _, rfl⟩
        · rcases List.mem_singleton.mp hv with rfl
          exact ⟨_, _, rfl⟩
      obtain ⟨q, t, rfl⟩ := ev
      simp only [List.forIn_cons, List.forIn_nil, if_true]
      refine wpAny_bind ?_
      refine wpAny_bind ?_
      repeat' (walk_at "m")
      refine wpAny_pure ?_
      refine wpAny_pure ⟨?_, s₃.heap, _, rfl, fun _ _ e => e⟩
      simp [ltN]
    case aft9 =>
      intro D9 c9 h12 tk12 F12 N12 a12 n12
      repeat' (walk_at "m")
      dsimp only [List.cons_append, List.nil_append]
      have y1 : hp ≠ D9 := a12 (hp, _) (by walk_at "mem")
      have y2 : it ≠ D9 := a12 (it, _) (by walk_at "mem")
      have y3 : fr ≠ D9 := a12 (fr, _) (by walk_at "mem")
      refine ext_N (news := [(D9, _), (hp, lst (vs.set pl (nth sv.reverse i)) d), (it, o'), (L + 1, o1), (rv, lst sv.reverse 0)]) F12 (nn N12 (by walk_at "mem") (nn N12 (.head _) (nn N12 (by walk_at "mem") (nn N12 (by walk_at "mem") (nn N12 (by walk_at "mem") (nn N12 (by walk_at "mem") News.nil)))))) (ap (Ne.symm y3) (ap x1 (ap (Ne.symm x3) (ap x5 (ap (Ne.symm x9) ap0))))) (.head _) ?_ fun h13 n13 F13 N13 => ?_
      · have q1 := List.length_filter_le (ltN hv.length) [Value.int ((2 * pl + 1 : Nat) : Int) t1, .int ((2 * pl + 2 : Nat) : Int) t2]
        simp only [List.length_append, List.length_take, List.length_drop, List.length_cons, List.length_nil] at q1 ⊢
        omega
      dsimp only
      repeat' (walk_at "m")
      refine ⟨j, Nat.lt_succ_self _, (hJ _ _).mpr ⟨i + 1, o', _, _, _, _, pl :: laid, _, h13, _, rfl, by omega, hoi', F13, nn N13 (by walk_at "mem") (nn N13 (.head _) (nn N13 (.tail _ (.tail _ (.head _))) (nn N13 (by walk_at "mem") (nn N13 (by walk_at "mem") News.nil)))), m1, m2, by simpa using hvl, hvi.set ⟨x, tx, ex⟩ _, ?_, by simp [hll], fun _ => FO.step hr epl⟩⟩
      have q1 := List.length_filter_le (ltN hv.length) [Value.int ((2 * pl + 1 : Nat) : Int) t1, .int ((2 * pl + 2 : Nat) : Int) t2]
      simp only [List.length_append, List.length_take, List.length_drop, List.length_cons, List.length_nil] at q1 ⊢
      omega
end
section
section
variable {w : World} {mean : ExcName → Option Value} {mg mb : Str → Option Value} {b : Heap} {A : Around} {env : Env} {envs : List Env} {k : Nat} {L : Addr} {S : List Addr} {h0 hr h : Heap} {m : Str → Option Value}
theorem Body.newNot (B : Body w mean mg mb b A env envs k L S h0 hr) {l : Addr} (hne : l ≠ L) (hid : (cut hr h0 S).get? l = none) : l ∉ frs (env :: envs) := by
  rw [frs_cons B.envF]
  intro q
  rcases List.mem_cons.mp q with q | q
  · exact hne q
  · rcases B.hidden hid with x | x
    · exact (B.hS l x).1 q
    · obtain ⟨o, e⟩ := B.f0 l q
      rw [x] at e; cases e
theorem Body.newB (B : Body w mean mg mb b A env envs k L S h0 hr) {l : Addr} (hid : (cut hr h0 S).get? l = none) : b.get? l = none := by
  cases q : b.get? l with
  | none => rfl
  | some o => have := B.stays _ _ q; rw [hid] at this; cases this
theorem Cx.bNot (C : Cx w mean mg mb b A envs k h) {x : Addr} {o : Obj} (e : b.get? x = some o) : x ∉ frs envs := fun q => by
  have := (C.ff.mem q).1
  rw [e] at this; cases this
end
theorem Kind.rel {fs : List Addr} {h h' : Heap} {one : Value} {T : String} (K : Kind h one T) {S : List Addr} (R : Rel fs S h h') (hS : ∀ a, one = .ref a → a ∉ S) : Kind h' one T :=
  K.keeps fun a o e ho => by
    by_cases q : a ∈ fs
    · exact R.fr a o ho q
    · exact ⟨o.slots, R.same a o ho (hS a e) q⟩
theorem Kind.ref {h : Heap} {a : Addr} {T : String} (K : Kind h (.ref a) T) : ∃ o, h.get? a = some o := by
  cases K with
  | tup h1 => exact ⟨_, h1⟩
  | lst h1 => exact ⟨_, h1⟩
  | dct h1 => exact ⟨_, h1⟩
theorem words_eq {h : Heap} {one : Value} {T : String} (K : Kind h one T) : wordsS (Str.ofString "int") (Str.ofString T) = ltText false T ∧ wordsS (Str.ofString T) (Str.ofString "int") = ltText true T ∧ (Str.ofString T).length ≤ 100 := by
  cases K <;> exact ⟨by decide +kernel, by decide +kernel, by decide +kernel⟩
theorem hp_w {w : World} {mean : ExcName → Option Value} {mg mb : Str → Option Value} {b : Heap} {A : Around} {envs : List Env} {k : Nat} {s : Shared} {l fa : Addr} {vs : List Value} {n : Nat} {one : Value} {T : String} {hi : Bool} {Q E : Value → Shared → Prop}
    (hfa : (hi = false ∧ fa = 21) ∨ (hi = true ∧ fa = 42))
    (C : Cx w mean mg mb b A envs (k + 1 + 1 + 1) s.heap) (hl : s.heap.get? l = some (lst vs n)) (hlb : b.get? l = none) (hlf : l ∉ frs envs) (K : Kind s.heap one T) (hkl : ∀ a, one = .ref a → a ≠ l)
    (hE1 : Els one vs) (hz : vs.length ≤ 64) (hns : hp hi (vs.length / 2) vs ≠ .stuck)
    (hQ : ∀ vs', hp hi (vs.length / 2) vs = .ok vs' → ∀ h' tk, Rel (frs envs) [l] s.heap h' → h'.get? l = some (lst vs' n) → Q .none { s with heap := h', toks := tk })
    (hE : ∀ vs' f, hp hi (vs.length / 2) vs = .bad vs' f → ∀ h' tk e, Raised envs s.heap l (lst vs' n) e "TypeError" (ltText f T) h' → E (.ref e) { s with heap := h', toks := tk }) :
    wpAny (model PR w) A (call (.ref fa) [.ref l]) Q E s := by
  rcases hfa with ⟨rfl, rfl⟩ | ⟨rfl, rfl⟩
  · exact hp_false C hl hlb hlf K hkl hE1 hz hns hQ hE
  · exact hp_true C hl hlb hlf K hkl hE1 hz hns hQ hE
theorem Kind.notI {h : Heap} {one : Value} {T : String} (K : Kind h one T) : isI one = false := by cases K <;> rfl
theorem built_all {hi : Bool} {sv : List Value} {one : Value} {p : Nat} (hs : Ints sv) (ho : isI one = false) (hp : p ≤ sv.length) :
    ∃ row, Built hi sv one p row ∧ ((sv = [] ∧ Mine.hp hi ((startOf sv one p).length / 2) (startOf sv one p) = .ok row) ∨ (sv ≠ [] ∧ Mine.hp hi ((startOf sv one p).length / 2) (startOf sv one p) = .bad row (aheadOf (sv.length + 1) p != hi))) := by
  rw [startOf_len hp]
  by_cases e : sv = []
  · subst e
    exact ⟨_, ⟨startOf_len hp, List.Perm.refl _, fun k k1 k2 => by simp at k2; omega, rfl⟩, .inl ⟨rfl, rfl⟩⟩
  · obtain ⟨row, h1, h2⟩ := build_law hs ho e hp
    exact ⟨row, h2, .inr ⟨e, h1⟩⟩
theorem Built.els {hi : Bool} {sv : List Value} {one : Value} {p : Nat} {row : List Value} (B : Built hi sv one p row) (hs : Ints sv) : Els one row := fun v hv => by
  have := B.perm.mem_iff.mp hv
  simp only [startOf, List.append_assoc, List.mem_append, List.mem_singleton] at this
  rcases this with h | h | h
  · exact .inl (hs v (List.mem_of_mem_take h))
  · exact .inr h
  · exact .inl (hs v (List.mem_of_mem_drop h))
theorem startOf_els {sv : List Value} {one : Value} {p : Nat} (hs : Ints sv) : Els one (startOf sv one p) := fun v hv => by
  simp only [startOf, List.append_assoc, List.mem_append, List.mem_singleton] at hv
  rcases hv with h | h | h
  · exact .inl (hs v (List.mem_of_mem_take h))
  · exact .inr h
  · exact .inl (hs v (List.mem_of_mem_drop h))
set_option maxHeartbeats 1000000 in
theorem build_w {w : World} {mean : ExcName → Option Value} {mg mb : Str → Option Value} {b : Heap} {A : Around} {envs : List Env} {k : Nat} {s : Shared} {a fa : Addr} {sv : List Value} {na p : Nat} {tp tT : Tok} {hi : Bool} {one : Value} {T : String} {Q E : Value → Shared → Prop}
    (C : Cx w mean mg mb b A envs (k + 1 + 1 + 1 + 1 + 1) s.heap) (ha : s.heap.get? a = some (lst sv na)) (haf : a ∉ frs envs) (hiv : Ints sv) (hz : sv.length ≤ 63) (hp : p ≤ sv.length)
    (K : Kind s.heap one T) (hok : OneTok one) (hfa : (hi = false ∧ fa = 21) ∨ (hi = true ∧ fa = 42))
    (hQ : ∀ h' tk, Rel (frs envs) [] s.heap h' → Q (.bool true) { s with heap := h', toks := tk }) :
    wpAny (model PR w) A (call (.ref 101) [.ref a, .int (p : Int) tp, one, .str (Str.ofString T) tT, .ref fa, .bool hi]) Q E s := by
  refine' enterC (f := 101) (binds := [(Str.ofString "script", .ref a), (Str.ofString "place", .int (p : Int) tp), (Str.ofString "one", one), (Str.ofString "kind", .str (Str.ofString T) tT), (Str.ofString "build", .ref fa), (Str.ofString "high", .bool hi)]) C [] (fun a ha => nomatch ha) (Str.ofString "one") one
    (fun y => if y = Str.ofString "high" then some (.bool hi) else if y = Str.ofString "build" then some (.ref fa) else if y = Str.ofString "kind" then some (.str (Str.ofString T) tT) else if y = Str.ofString "place" then some (.int (p : Int) tp) else if y = Str.ofString "script" then some (.ref a) else none) ?k1 ?k2 ?k3 ?k4 ?e1 ?e2 ?e3 ?c1 ?c2 ?c3 ?_
  (case k1 => k_is)
  (case k2 => k_is)
  (case k3 => exact BindsTo.of_eq rfl)
  (case k4 => exact rfl)
  (case e1 => intro _; with_unfolding_all rfl)
  (case e2 => intro _; with_unfolding_all rfl)
  (case e3 => intro _; with_unfolding_all rfl)
  (case c1 => exact rfl)
  (case c2 => exact rfl)
  (case c3 => exact rfl)
  intro L h₁ tk₁ o1 hL hs B F X T' ho1 N
  with_reducible refine anyQ fun Q' E' hQ' => ?_
  replace hQ : ∀ h' tk, Rel (frs envs) [] s.heap h' → Q' (.ret (.bool true)) { s with heap := h', toks := tk } := fun h' tk x1 => hQ' (.ret (.bool true)) _ (hQ h' tk x1)
  clear hQ'
  have Ha : (cut h₁ s.heap []).get? a = some (lst sv na) := cut_iff.mpr ⟨⟨_, ha⟩, (fun q => nomatch q), hs _ _ ha⟩
  repeat' (walk_at "m")
  refine upto_N F N (F.keep _ _ Ha) (by omega) (fun r2 h2 F2 N2 a2 n2 => ?_) (by with_unfolding_all rfl)
  dsimp only
  repeat' (walk_at "m")
  rename_i r3 h3 F3 N3 a3 n3
  refine join_N F3 N3 (N3 (r2, _) (.tail _ (.head _))).1 (N3 (r3, _) (.head _)).1 (by simp; omega) fun r4 h4 F4 N4 a4 n4 => ?_
  dsimp only
  repeat' (walk_at "m")
  refine from_N F4 N4 (F4.keep _ _ Ha) (by omega) (fun r5 h5 F5 N5 a5 n5 => ?_) (by with_unfolding_all rfl)
  dsimp only
  repeat' (walk_at "m")
  refine join_N F5 N5 (N5 (r4, _) (.tail _ (.head _))).1 (N5 (r5, _) (.head _)).1 (by simp; omega) fun st h6 F6 N6 a6 n6 => ?_
  dsimp only
  have hst : sv.take p ++ [one] ++ sv.drop p = startOf sv one p := rfl
  have hsl := startOf_len (one := one) hp
  rw [hst] at N6
  repeat' (walk_at "m")
  rename_i h7 F7 N7 rw c8 h8 F8 N8 a8 n8 h9 F9 N9 h10 F10 N10
  have x1 : st ≠ rw := a8 (st, _) (.head _)
  have x2 : L + 1 ≠ rw := a8 (L + 1, _) (by walk_at "mem")
  have x3 : L + 1 ≠ st := a6 (L + 1, _) (by walk_at "mem")
  have N11 : News (cut h₁ s.heap []) L h10 [(rw, lst (startOf sv one p) c8), (st, lst (startOf sv one p) 0), (L + 1, o1)] := nn N10 (by walk_at "mem") (nn N10 (by walk_at "mem") (nn N10 (by walk_at "mem") News.nil))
  clear F2 N2 F3 N3 F4 N4 F5 N5 F6 N6 F7 N7 F8 N8 F9 N9 a2 a3 a4 a5 a6 a8 n2 n3 n4 n5 n6 n8 N10 F N
  rw [hsl] at F10
  refine wpAny_mono (Q := fun v s' => v = .bool (aheadOf (sv.length + 1) p) ∧ ∃ tk, s' = { s with heap := h10, toks := tk }) ?ah9 ?rest9 (fun _ _ e => e)
  case ah9 =>
    refine BoolOp_or ?_
    repeat' (walk_at "m")
    by_cases q1 : p < (sv.length + 1) / 2
    · rw [if_pos (by simpa using q1)]
      exact ⟨by simp [aheadOf, q1], _, rfl⟩
    rw [if_neg (by simpa using q1)]
    refine BoolOp_one ?_
    refine BoolOp_and ?_
    repeat' (walk_at "m")
    by_cases q2 : p % 2 = 1
    · rw [if_pos (by simpa using q2)]
      refine BoolOp_one ?_
      repeat' (walk_at "m")
      exact ⟨by simp [aheadOf, q1, q2], _, rfl⟩
    rw [if_neg (by simpa using q2)]
    exact ⟨by simp [aheadOf, q1, q2], _, rfl⟩
  rintro v s' ⟨rfl, tk11, rfl⟩
  repeat' (walk_at "m")
  rename_i h12 F12 N12
  clear F10 N11
  obtain ⟨we1, we2, we3⟩ := words_eq K
  have we4 : (Str.ofString "int").length ≤ 100 := by decide +kernel
  refine wpAny_mono (Q := fun v s' => ∃ r h' tk t3 t4, v = .ref r ∧ s' = { s with heap := h', toks := tk } ∧ Rel (L :: frs envs) [] h12 h' ∧ h12.get? r = none ∧ h'.get? r = some (tup [.str (Str.ofString "TypeError") t3, .str (ltText (aheadOf (sv.length + 1) p != hi) T) t4])) ?du9 ?rest8 (fun _ _ e => e)
  case du9 =>
    refine wpAny_IfExp ?_
    repeat' (walk_at "m")
    by_cases q1 : (aheadOf (sv.length + 1) p == hi) = true
    · rw [if_pos q1]
      repeat' (walk_at "m")
      dsimp only [List.nil_append]
      refine words_w (B.now F12) we4 we3 fun r h' tk t3 t4 R hr ho => ⟨r, h', tk, t3, t4, rfl, rfl, by rw [← frs_cons B.envF]; exact R, hr, ?_⟩
      rw [we1] at ho
      have e : (aheadOf (sv.length + 1) p != hi) = false := by simpa using q1
      rw [e]; exact ho
    · rw [if_neg q1]
      repeat' (walk_at "m")
      dsimp only [List.nil_append]
      refine words_w (B.now F12) we3 we4 fun r h' tk t3 t4 R hr ho => ⟨r, h', tk, t3, t4, rfl, rfl, by rw [← frs_cons B.envF]; exact R, hr, ?_⟩
      rw [we2] at ho
      have e : (aheadOf (sv.length + 1) p != hi) = true := by simpa using q1
      rw [e]; exact ho
  rintro v s' ⟨du, h13, tk13, t3, t4, rfl, rfl, R13, hdn, hdo⟩
  rw [← frs_cons B.envF] at R13
  obtain ⟨B13, F13⟩ := B.after F12 R13 (fun a ha => nomatch ha)
  have N13 : News (cut h13 s.heap []) L h13 [(du, tup [.str (Str.ofString "TypeError") t3, .str (ltText (aheadOf (sv.length + 1) p != hi) T) t4]), (rw, lst (startOf sv one p) c8), (st, lst (startOf sv one p) 0), (L + 1, o1)] := fun q hq => by
    rcases List.mem_cons.mp hq with rfl | hq
    · exact B.newsNew F12 hdn hdo
    · exact B.newsAfter F12 R13 N12 (fun _ _ => List.not_mem_nil) q hq
  have Ha13 : (cut h13 s.heap []).get? a = some (lst sv na) := cut_iff.mpr ⟨⟨_, ha⟩, (fun q => nomatch q), R13.same _ _ (F12.keep _ _ Ha) (fun q => nomatch q) (by rw [frs_cons B.envF]; intro q; rcases List.mem_cons.mp q with e | q; exact Nat.ne_of_lt (Heap.lt_size ha) (e.trans hL); exact haf q)⟩
  clear X T'
  have X := B13.X
  have T' := B13.T
  have y1 : rw ≠ du := fun e => by have := (N12 (rw, _) (.head _)).1; rw [e, hdn] at this; cases this
  have y2 : st ≠ du := fun e => by have := (N12 (st, _) (.tail _ (.head _))).1; rw [e, hdn] at this; cases this
  repeat' (walk_at "m")
  rename_i h14 F14 N14
  obtain ⟨rowF, BU, hout⟩ := built_all (hi := hi) (one := one) hiv K.notI hp
  let res : Tl := if sv = [] then .given .none else .err "TypeError" (ltText (aheadOf (sv.length + 1) p != hi) T)
  clear F12 N12 F13 N13
  refine wpAny_mono (Q := fun f s' => f = .next ∧ ∃ du' m' h' tk t3 t4, s' = { s with heap := h', toks := tk } ∧ Fr (cut h13 s.heap []) L h' m' ∧ News (cut h13 s.heap []) L h' [(du', tup (res.items t3 t4)), (rw, lst (startOf sv one p) c8), (st, lst (startOf sv one p) 0), (L + 1, o1)] ∧ du' ≠ rw ∧
    m' (Str.ofString "script") = some (.ref a) ∧ m' (Str.ofString "row") = some (.ref rw) ∧ m' (Str.ofString "start") = some (.ref st) ∧ (∃ t, m' (Str.ofString "size") = some (.int ((sv.length + 1 : Nat) : Int) t)) ∧ m' (Str.ofString "place") = some (.int (p : Int) tp) ∧ m' (Str.ofString "build") = some (.ref fa) ∧ m' (Str.ofString "high") = some (.bool hi) ∧ m' (Str.ofString "due") = some (.ref du')) ?ifd9 ?rest7 (fun _ _ e => e)
  case ifd9 =>
    with_reducible refine anyQk fun Q2 hQ2 => ?_
    refine wpAny_If ?_
    repeat' (walk_at "m")
    rename_i r15 h15 F15 N15 a15 n15
    refine eqNil_N (F15.keep _ _ Ha13) (N15 (r15, _) (.head _)).1 (by have := B13.C.un; omega) ?_
    repeat' (walk_at "m")
    by_cases e : sv = []
    · rw [if_pos (by simpa using e)]
      repeat' (walk_at "m")
      rename_i r16 h16 F16 N16 a16 n16 h17 F17 N17
      obtain ⟨t17, N18⟩ : ∃ t17, News (cut h13 s.heap []) L h17 [(r16, tup [.str (Str.ofString "given") t17, .none]), (rw, lst (startOf sv one p) c8), (st, lst (startOf sv one p) 0), (L + 1, o1)] := ⟨_, nn N17 (by walk_at "mem") (nn N17 (by walk_at "mem") (nn N17 (by walk_at "mem") (nn N17 (by walk_at "mem") News.nil)))⟩
      refine hQ2 _ _ ⟨rfl, r16, _, h17, _, t17, 0, rfl, F17, ?_, Ne.symm (a16 (rw, _) (by walk_at "mem")), rfl, rfl, rfl, ⟨_, rfl⟩, rfl, rfl, rfl, rfl⟩
      have er : res = .given .none := if_pos e
      rw [er]
      exact N18
    · rw [if_neg (by simpa using e)]
      repeat' (walk_at "m")
      refine hQ2 _ _ ⟨rfl, du, _, h15, _, t3, t4, rfl, F15, ?_, Ne.symm y1, rfl, rfl, rfl, ⟨_, rfl⟩, rfl, rfl, rfl, rfl⟩
      have er : res = .err "TypeError" (ltText (aheadOf (sv.length + 1) p != hi) T) := if_neg e
      rw [er]
      exact nn N15 (by walk_at "mem") (nn N15 (by walk_at "mem") (nn N15 (by walk_at "mem") (nn N15 (by walk_at "mem") News.nil)))
  rintro f s' ⟨rfl, du', m5, h15, tk15, t5, t6, rfl, F15, N15, y3, m1, m2, m3, ⟨ts, m4⟩, m6, m7, m8, m9⟩
  dsimp only
  repeat' (walk_at "m")
  refine wpAny_If ?_
  repeat' (walk_at "m")
  dsimp only [List.nil_append]
  have nrw := N15 (rw, _) (.tail _ (.head _))
  have hfn : IsFn fa b := by
    rcases hfa with ⟨_, rfl⟩ | ⟨_, rfl⟩
    · exact ⟨_, _, C.X _ _ (by k_is), rfl⟩
    · exact ⟨_, _, C.X _ _ (by k_is), rfl⟩
  obtain ⟨fo, fd, hfo, hfd⟩ := hfn
  have K15 : Kind h15 one T := K.rel (B13.rel F15) (fun _ _ => List.not_mem_nil)
  have hkl : ∀ x, one = .ref x → x ≠ rw := fun x e q => by
    subst e
    obtain ⟨o, ho⟩ := K.ref
    rcases B13.hidden nrw.2.2 with z | z
    · cases z
    · rw [← q, ho] at z; cases z
  refine told_w (B13.now F15) nrw.1 (B13.newB nrw.2.2) (B13.newNot nrw.2.1 nrw.2.2) ⟨fo, fd, (B13.now F15).hb _ _ hfo, hfd⟩ (fun e => by rw [e, B13.newB nrw.2.2] at hfo; cases hfo) ((B13.now F15).bNot hfo) (res := res) (o' := lst rowF c8) ?hr9 ?hc9 ?hq9
  case hr9 =>
    show Tl.plain (if sv = [] then .given .none else .err "TypeError" (ltText (aheadOf (sv.length + 1) p != hi) T))
    split
    · exact trivial
    · exact .inl rfl
  case hc9 =>
    intro A' envs' s' Q' E' hst C' hnf hg he
    refine hp_w hfa C' (hst _ _ nrw.1) (B13.newB nrw.2.2) hnf (K15.keeps fun x o _ ho => ⟨o.slots, hst _ _ ho⟩) hkl (startOf_els hiv) (by rw [hsl]; omega) ?_ ?_ ?_
    · rcases hout with ⟨_, e⟩ | ⟨_, e⟩ <;> rw [e] <;> exact fun q => by cases q
    · intro vs' e h' tk R ho
      rcases hout with ⟨e0, e1⟩ | ⟨e0, e1⟩
      · rw [e1] at e; cases e
        exact hg .none (if_pos e0) h' tk R ho
      · rw [e1] at e; cases e
    · intro vs' f e h' tk ex R
      rcases hout with ⟨e0, e1⟩ | ⟨e0, e1⟩
      · rw [e1] at e; cases e
      · rw [e1] at e; cases e
        exact he "TypeError" _ (if_neg e0) h' tk ex R
  case hq9 =>
    intro r h16 tk16 t7 t8 R16 hrw hrn hro
    have hS' : ∀ x ∈ [rw], (cut h13 s.heap []).get? x = none := fun x hx => by rcases List.mem_singleton.mp hx with rfl; exact nrw.2.2
    obtain ⟨B16, F16⟩ := B13.after F15 R16 hS'
    have N16 := B13.newsOne F15 R16 hrw (nn N15 (p := (rw, _)) (.tail _ (.head _)) (nn N15 (.head _) (nn N15 (p := (st, _)) (.tail _ (.tail _ (.head _))) (nn N15 (p := (L + 1, _)) (.tail _ (.tail _ (.tail _ (.head _)))) News.nil)))) (ap y3 (ap x1 (ap x2 ap0)))
    have N17 : News (cut h16 s.heap []) L h16 [(r, tup (res.items t7 t8)), (rw, lst rowF c8), (du', tup (res.items t5 t6)), (st, lst (startOf sv one p) 0), (L + 1, o1)] := fun q hq => by
      rcases List.mem_cons.mp hq with rfl | hq
      · exact B13.newsNew F15 hrn hro
      · exact N16 q hq
    have Ha16 : (cut h16 s.heap []).get? a = some (lst sv na) := cut_iff.mpr ⟨⟨_, ha⟩, (fun q => nomatch q), R16.same _ _ (F15.keep _ _ Ha13) (fun q => by rw [← List.mem_singleton.mp q] at nrw; rw [Ha13] at nrw; cases nrw.2.2) (by rw [frs_cons B.envF]; intro q; rcases List.mem_cons.mp q with e | q; exact Nat.ne_of_lt (Heap.lt_size ha) (e.trans hL); exact haf q)⟩
    clear X T'
    have X := B16.X
    have T' := B16.T
    have K16 : Kind h16 one T := K15.rel R16 (fun x e q => hkl x e (List.mem_singleton.mp q))
    repeat' (walk_at "m")
    refine neT_N (N17 (r, _) (.head _)).1 (N17 (du', _) (.tail _ (.tail _ (.head _)))).1 ?_ (by have := B16.C.un; omega) ?_
    · show Sames (res.items t7 t8) (res.items t5 t6)
      cases res with
      | given v => exact ⟨rfl, fun i hi => match i, hi with | 0, _ => .str _ _ _ | 1, _ => .refl _⟩
      | err c x => exact ⟨rfl, fun i hi => match i, hi with | 0, _ => .str _ _ _ | 1, _ => .str _ _ _⟩
    repeat' (walk_at "m")
    have hrl := BU.len
    repeat' (walk_at "m")
    rw [hrl]
    refine ne_N ?_
    repeat' (walk_at "m")
    refine wpAny_If ?_
    repeat' (walk_at "m")
    have hels := BU.els hiv
    refine' comp_N (g := cut h16 s.heap []) (L := L) isI (cl := [(Str.ofString "one", L + 1)]) ?q0 ?q1 ?q2 ?q3 ?q4 ?q5 ?_ ?q6
    (case q0 => exact B.C.hd)
    (case q1 => with_unfolding_all rfl)
    (case q2 => decide)
    (case q3 => exact rfl)
    (case q4 => decide)
    (case q5 => exact rfl)
    (case q6 => intro _; with_unfolding_all rfl)
    repeat' (walk_at "m")
    refine ⟨rw, rowF, _, _, rfl, F16, N17, .inl ⟨c8, (N17 (rw, _) (.tail _ (.head _))).1⟩, by omega, ?tst9, ?elt9, ?aft9⟩
    case elt9 =>
      intro C9 v s₃ m₃ E' hv hn hm
      repeat' (walk_at "m")
      exact ⟨rfl, s₃.heap, s₃.toks, rfl, fun _ _ e => e⟩
    case tst9 =>
      intro C9 v s₃ m₃ E' hv hn hm F3 N3
      simp only [List.forIn_cons, List.forIn_nil, if_true]
      refine wpAny_bind ?_
      refine wpAny_bind ?_
      repeat' (walk_at "m")
      rcases hels v hv with ⟨i, t, rfl⟩ | rfl
      · refine isNot_int K ?_
        repeat' (walk_at "m")
        refine wpAny_pure ?_
        exact wpAny_pure ⟨rfl, s₃.heap, _, rfl, fun _ _ e => e⟩
      · refine isNot_one K hok ?_
        repeat' (walk_at "m")
        refine wpAny_pure ?_
        exact wpAny_pure ⟨K.notI.symm, s₃.heap, _, rfl, fun _ _ e => e⟩
    case aft9 =>
      intro D9 c9 h18 tk18 F18 N18 a18 n18
      repeat' (walk_at "m")
      have hfl : (rowF.filter isI).length ≤ sv.length := by
        have := (BU.perm.filter isI).length_eq
        rw [startOf_filter hiv K.notI] at this; omega
      obtain ⟨n1, hn1⟩ := ints_are (vs := rowF.filter isI) fun v hv => isI_iff.mp (List.mem_filter.mp hv).2
      obtain ⟨n0, hn0⟩ := ints_are hiv
      refine sorted_L F18 N18 (N18 (D9, _) (.head _)).1 hn1 (by omega) fun s1 c1 h19 v1 k1 F19 N19 a19 n19 z1 z2 z3 => ?_
      dsimp only
      repeat' (walk_at "m")
      refine sorted_L F19 N19 (F19.keep _ _ Ha16) hn0 (by omega) fun s2 c2 h20 v2 k2 F20 N20 a20 n20 z4 z5 z6 => ?_
      dsimp only
      refine neL_N (N20 (s1, _) (.tail _ (.head _))).1 (N20 (s2, _) (.head _)).1 (sorted_same hiv K.notI BU hn1 hn0 z1 z2 z3 z4 z5 z6) (by have := B16.C.un; omega) ?_
      have N21 : News (cut h16 s.heap []) L h20 [(rw, lst rowF c8), (st, lst (startOf sv one p) 0), (L + 1, o1)] := nn N20 (by walk_at "mem") (nn N20 (by walk_at "mem") (nn N20 (by walk_at "mem") News.nil))
      clear N20 N19 N18 N17 F19 F18 F16 a18 a19 a20 n18 n19 n20
      repeat' (walk_at "m")
      let q0 : Nat := if sv = [] then 1 else 2 * turnOf (sv.length + 1) p + 3
      refine wpAny_mono (Q := fun v s' => ∃ (ti : Int) (t : Tok) (tk : Nat), v = .int ti t ∧ s' = { s with heap := h20, toks := tk } ∧ 2 * ti + 3 = (q0 : Int) ∧ (sv ≠ [] → ti = ((turnOf (sv.length + 1) p : Nat) : Int))) ?tu9 ?rest6 (fun _ _ e => e)
      case tu9 =>
        refine wpAny_IfExp ?_
        repeat' (walk_at "m")
        by_cases q1 : p < (sv.length + 1) / 2
        · rw [if_pos (by simpa using q1)]
          repeat' (walk_at "m")
          have e0 : sv ≠ [] := fun e => by subst e; simp at q1
          have e1 : turnOf (sv.length + 1) p = p := if_pos q1
          refine ⟨_, _, _, rfl, rfl, ?_, fun _ => by rw [e1]⟩
          show _ = (((if sv = [] then 1 else 2 * turnOf (sv.length + 1) p + 3 : Nat)) : Int)
          rw [if_neg e0, e1]; omega
        · rw [if_neg (by simpa using q1)]
          by_cases e0 : sv = []
          · subst e0
            have ep : p = 0 := by simpa using hp
            subst ep
            repeat' (walk_at "m")
            refine PyProof.Rows.floordiv_int (b := 2) (by decide) ?_ (.inl (PyProof.noPylong_small (by decide)))
            refine ⟨_, _, _, rfl, rfl, ?_, fun q => absurd rfl q⟩
            show _ = (((if ([] : List Value) = [] then 1 else 2 * turnOf (([] : List Value).length + 1) 0 + 3 : Nat)) : Int)
            rw [if_pos rfl]; decide
          · have hp1 : 0 < p := by have := List.length_pos_iff.mpr e0; omega
            repeat' (walk_at "m")
            have e1 : turnOf (sv.length + 1) p = (p - 1) / 2 := if_neg q1
            refine ⟨_, _, _, rfl, rfl, ?_, fun _ => by rw [e1]⟩
            show _ = (((if sv = [] then 1 else 2 * turnOf (sv.length + 1) p + 3 : Nat)) : Int)
            rw [if_neg e0, e1]; omega
      rintro v s' ⟨ti, tti, tk21, rfl, rfl, hti, htn⟩
      repeat' (walk_at "m")
      refine PyProof.Rows.mul_int ?_
      repeat' (walk_at "m")
      rename_i h22 F22 N22 r23 h23 t23 F23 N23 a23 n23
      rw [hti] at N23
      have hq1 : 1 ≤ q0 := by show 1 ≤ (if sv = [] then 1 else 2 * turnOf (sv.length + 1) p + 3); split <;> omega
      have hq2 : q0 ≤ 200 := by
        show (if sv = [] then 1 else 2 * turnOf (sv.length + 1) p + 3) ≤ 200
        have : turnOf (sv.length + 1) p ≤ p := by unfold turnOf; split <;> omega
        split <;> omega
      refine iter_rngO (a := q0) (b := sv.length + 1) F23 N23 (N23 _ (.head _)).1 (by omega) (by omega) fun it h24 F24 N24 a24 n24 => ?_
      dsimp only
      have w1 : rw ≠ it := a24 (rw, _) (.tail _ (.head _))
      have w2 : st ≠ it := a24 (st, _) (.tail _ (.tail _ (.head _)))
      have w3 : L + 1 ≠ it := a24 (L + 1, _) (.tail _ (.tail _ (.tail _ (.head _))))
      refine hideF (fun j s' => ∃ i m h' tk, s' = { s with heap := h', toks := tk } ∧ i + j = sv.length + 1 - q0 ∧ Fr (cut h16 s.heap []) L h' m ∧ News (cut h16 s.heap []) L h' [(it, rngI ((q0 + i : Nat) : Int) (j : Int) 1), (rw, lst rowF c8), (st, lst (startOf sv one p) 0), (L + 1, o1)] ∧
        m (Str.ofString "script") = some (.ref a) ∧ m (Str.ofString "row") = some (.ref rw) ∧ m (Str.ofString "start") = some (.ref st) ∧ m (Str.ofString "high") = some (.bool hi) ∧ m (Str.ofString "turn") = some (.int ti tti)) (sv.length + 1 - q0)
        ⟨0, _, h24, _, rfl, by omega, F24, nn N24 (by walk_at "mem") (nn N24 (by walk_at "mem") (nn N24 (by walk_at "mem") (nn N24 (by walk_at "mem") News.nil))), m1, m2, m3, m8, rfl⟩ fun J hJ hJ0 => ?_
      refine codeAny_forLoop_any J ?_ (sv.length + 1 - q0) hJ0
      clear hJ0
      clear F22 N22 F23 N23 F24 N24 a23 a24 n23 n24 N21 F20
      clear m1 m2 m3 m4 m6 m7 m8 m9
      intro j s' hj0
      obtain ⟨i, m, h', tk, rfl, hij, F, N, m1, m2, m3, m4, m5⟩ := (hJ _ _).mp hj0
      clear hj0
      have hap : ∀ q ∈ [(rw, lst rowF c8), (st, lst (startOf sv one p) 0), (L + 1, o1)], q.1 ≠ it := ap w1 (ap w2 (ap w3 ap0))
      cases j with
      | zero =>
        refine nextEnd_N F N hap B.C.hd (by simp) fun h5 F5 N5 => ?_
        dsimp only
        repeat' (walk_at "m")
        refine BoolOp_or ?_
        repeat' (walk_at "m")
        rename_i r6 h6 F6 N6 a6 n6
        refine eqNil_N (F6.keep _ _ Ha16) (N6 (r6, _) (.head _)).1 (by have := B16.C.un; omega) ?_
        repeat' (walk_at "m")
        by_cases e0 : sv = []
        · rw [if_pos (by simpa using e0)]
          rw [decide_eq_true e0]
          exact hQ h6 _ (B16.rel F6)
        rw [if_neg (by simpa using e0)]
        refine BoolOp_one ?_
        rw [htn e0] at m5
        repeat' (walk_at "m")
        refine upto_N F6 N6 (N6 (rw, _) (.tail _ (.head _))).1 (by omega) (fun r7 h7 F7 N7 a7 n7 => ?_) (by with_unfolding_all rfl)
        dsimp only
        repeat' (walk_at "m")
        refine upto_N F7 N7 (N7 (st, _) (.tail _ (.tail _ (.tail _ (.head _))))).1 (by omega) (fun r8 h8 F8 N8 a8 n8 => ?_) (by with_unfolding_all rfl)
        dsimp only
        refine eqL_N (N8 (r7, _) (.tail _ (.head _))).1 (N8 (r8, _) (.head _)).1 (by rw [BU.front]; exact .refl _) (by have := B16.C.un; omega) ?_
        repeat' (walk_at "m")
        exact hQ h8 _ (B16.rel F8)
      | succ j =>
        refine next_N F N hap (by omega) fun h5 F5 N5 => ?_
        dsimp only
        rw [show (((q0 + i : Nat) : Int) + 1) = ((q0 + (i + 1) : Nat) : Int) by omega, show (((j + 1 : Nat) : Int) - 1) = (j : Int) by omega] at N5
        refine wpAny_of_eq (a := ()) rfl ?_
        refine wpAny_assign_Name ?_
        have hq3 : 0 < q0 + i := by omega
        repeat' (walk_at "m")
        rename_i h6 F6 N6 h7 F7 N7
        clear F N F5 N5 F6 N6
        have e0 : sv ≠ [] := fun e => by
          have : q0 = 1 := if_pos e
          have : sv.length = 0 := by rw [e]; rfl
          omega
        have hq4 : q0 = 2 * turnOf (sv.length + 1) p + 3 := if_neg e0
        refine wpAny_mono (Q := fun f s' => f = .next ∧ ∃ tk, s' = { s with heap := h7, toks := tk }) ?tst9 ?aft9 (fun _ _ e => e)
        case aft9 =>
          rintro f s' ⟨rfl, tk', rfl⟩
          dsimp only
          repeat' (walk_at "m")
          exact ⟨j, Nat.lt_succ_self _, (hJ _ _).mpr ⟨i + 1, _, h7, _, rfl, by omega, F7, N7, m1, m2, m3, m4, m5⟩⟩
        refine wpAny_If ?_
        repeat' (walk_at "m")
        rcases hels _ (nth_mem (vs := rowF) (i := q0 + i) (by omega)) with hint | hone
        · obtain ⟨o1', o2'⟩ := BU.order (q0 + i) (by omega) (by omega) (isI_iff.mpr hint)
          have hint' := hint
          obtain ⟨x, tx, ex⟩ := hint'
          rw [ex]
          refine isNot_int K ?_
          repeat' (walk_at "m")
          refine isTrue_IfExp ?_
          repeat' (walk_at "m")
          have ha' := isI_iff.mp o1'
          obtain ⟨y, ty, ey⟩ := ha'
          rw [ey, ex] at o2'
          cases hi with
          | true =>
            repeat' (walk_at "m")
            refine cmp_ints (isI_iff.mp o1') hint ?_
            have e3 : ltB (nth rowF ((q0 + i - 1) / 2)) (nth rowF (q0 + i)) = false := by
              rw [ey, ex]; simp only [ltB, cm]; simp only [ky, if_true] at o2'; exact decide_eq_false (by omega)
            rw [e3]
            repeat' (walk_at "m")
            exact ⟨rfl, _, rfl⟩
          | false =>
            repeat' (walk_at "m")
            refine cmp_ints hint (isI_iff.mp o1') ?_
            have e3 : ltB (nth rowF (q0 + i)) (nth rowF ((q0 + i - 1) / 2)) = false := by
              rw [ey, ex]; simp only [ltB, cm]; simp only [ky, Bool.false_eq_true, if_false] at o2'; exact decide_eq_false (by omega)
            rw [e3]
            repeat' (walk_at "m")
            exact ⟨rfl, _, rfl⟩
        · rw [hone]
          refine isNot_one K hok ?_
          repeat' (walk_at "m")
          exact ⟨rfl, _, rfl⟩
end
section
/-- entering a lambda -/
theorem enterE {w : World} {mean : ExcName → Option Value} {mg mb : Str → Option Value} {b : Heap} {A : Around} {envs : List Env} {k : Nat} {s : Shared} {Q E : Value → Shared → Prop} {name qual : Str} {params : Arguments} {body : Expr} {scope : Scope} {cl : List (Str × Addr)} {pm ctv : Value} {c' f : Addr} {vals : List Value} {binds : List (Str × Value)}
    (C : Cx w mean mg mb b A envs (k + 1) s.heap) (S : List Addr) (hS : ∀ a ∈ S, a ∉ frs envs ∧ b.get? a = none)
    (ho : s.heap.get? f = some (kla_obj name qual params body scope cl pm c' ctv)) (hcd : s.heap.CodeRec (.ref c') qual)
    (hbind : bindArgs (kla_fn name qual params body scope cl pm (.ref c') ctv) ⟨vals, []⟩ = pure binds) (hloc : ∀ y ∈ binds, scope.names.lookup y.1 = some .local)
    (hco : scope.isCoroutine = false) (hgen : scope.isGenerator = false) (hk : scope.kind = .function) (hcell : ∀ x ∈ scope.names, x.2 ≠ .cell)
    (h : ∀ L h₁, L = s.heap.objs.size → s.heap.StaysIn h₁ → Body w mean mg mb b (A.deeper (envX qual scope L f (.ref c') cl)) (envX qual scope L f (.ref c') cl) envs k L S s.heap h₁ →
      Fr (cut h₁ s.heap S) L h₁ (fun y => binds.reverse.lookup y) → (Mine.hd.heap_39 w.params).In (cut h₁ s.heap S) → TopB mean mg mb (cut h₁ s.heap S) →
      wpAny (model PR w) (A.deeper (envX qual scope L f (.ref c') cl)) (eval body (envX qual scope L f (.ref c') cl)) Q
        (fun e s' => wpAny (model PR w) (A.deeper (envX qual scope L f (.ref c') cl)) (leaving (envX qual scope L f (.ref c') cl) e) (fun _ s'' => E e s'') E s')
        { s with heap := h₁, toks := s.toks + binds.length }) : wpAny (model PR w) A (call (.ref f) vals) Q E s := by
  refine wpAny_call ?_
  refine kla_callFunE (by have := C.dp; omega) ho rfl hco hgen rfl hcd ?_
  rw [hbind]
  refine wpAny_pure (wpAny_newFunctionEnv hcell hloc (fun h₁ hns hsb => ⟨((C.T.nolimit).keeps C.hb).fresh _ hsb, ?_⟩) hk)
  show codeAny _ _ (.expr body (envX qual scope s.heap.objs.size f (.ref c') cl)) _ _
  have hk₁ : ∀ b o, s.heap.get? b = some o → h₁.get? b = some o := fun b o e => hsb.extBut b o (Nat.ne_of_lt (Heap.lt_size e)) (Heap.get?_push_of_some _ e)
  have nb : b.get? s.heap.objs.size = none := by
    cases q : b.get? s.heap.objs.size with
    | none => rfl
    | some o => exact absurd (Heap.lt_size (C.hb _ _ q)) (Nat.lt_irrefl _)
  have hff : h₁.FunFrames b (envX qual scope s.heap.objs.size f (.ref c') cl :: envs) := by
    obtain ⟨oL, es, ep, hL, hLd, _⟩ := hns
    exact ⟨by show scope.kind ≠ .module; rw [hk]; decide, ⟨_, oL, rfl, nb, hL, fun vs q => by rw [hLd] at q; cases q⟩, funFrames_to C.ff fun a _ o e => ⟨o.slots, hk₁ _ _ e⟩⟩
  have B : Body w mean mg mb b (A.deeper (envX qual scope s.heap.objs.size f (.ref c') cl)) (envX qual scope s.heap.objs.size f (.ref c') cl) envs k s.heap.objs.size S s.heap h₁ :=
    { C := { X := C.X, T := C.T, fr := Around.frames_deeper C.fr, hd := C.hd, dp := by have := C.dp; show A.depth + 1 + k < _; omega, un := by have := C.un; show A.units + 3 + 10 * k + 100 < _; omega, hb := fun a o e => hk₁ _ _ (C.hb _ _ e), ff := hff }
      envF := rfl, b0 := C.hb, f0 := fun a ha => let ⟨_, o, ho, _⟩ := C.ff.mem ha; ⟨o, ho⟩, hS := hS, R := Rel.of_stays fun _ _ e => hk₁ _ _ e, h0L := Nat.le_refl _ }
  exact kla_codeExpr (h _ h₁ rfl (fun _ _ e => hk₁ _ _ e) B ⟨hns, fun _ _ e => (cut_iff.mp e).2.2, by rw [cut_size]; exact Nat.le_refl _⟩ B.X B.T)

abbrev lamParams : Arguments := { posonlyargs := [], args := [{ arg := Str.ofString "part", annotation := none, pos := ⟨127, 24, 127, 28⟩ }], vararg := none, kwonlyargs := [], kw_defaults := [], kwarg := none, defaults := [] }
abbrev lamBody : Expr := .Call (.Name (Str.ofString "_heapreplace_max") ⟨127, 30, 127, 46⟩) [.Name (Str.ofString "part") ⟨127, 47, 127, 51⟩, .Name (Str.ofString "one") ⟨127, 53, 127, 56⟩] [] ⟨127, 30, 127, 57⟩
abbrev lamScope : Scope := { kind := .function, names := [(Str.ofString "part", .local), (Str.ofString "one", .free), (Str.ofString "_heapreplace_max", .globalImplicit)], isGenerator := false, isCoroutine := false, more := [] }
abbrev lamQual : Str := Str.ofString "_law_taken" ++ ".<locals>." ++ "<lambda>"

theorem nameX_Fh {M : Model} {A : Around} {E : Value → Shared → Prop} {s : Shared} {L a c : Addr} {cn : Str} {cs : Scope} {ccd : Value} {cl : List (Str × Addr)} {x : Str} {pos : Pos} {v : Value} {o : Obj} {Q : Value → Shared → Prop}
    (hg : s.heap.get? c = some o) (hc : cl.lookup x = some c) (hd : o.data = .cell (some v)) (h : Q v s)
    (hk : cs.kind = .function) (hx : (envX cn cs L a ccd cl).kindOf x = some .free) (hb : (x == ("__debug__" : Str)) = false) (hn : (x == ("__classdict__" : Str)) = false) :
    wpAny M A (eval (.Name x pos) (envX cn cs L a ccd cl)) Q E s := wpAny_Name (wpAny_loadName_free hk hx hc ⟨o, hg, hd⟩ h hn) hb

set_option maxHeartbeats 400000 in
theorem lam_w {w : World} {mean : ExcName → Option Value} {mg mb : Str → Option Value} {b : Heap} {A : Around} {envs : List Env} {k : Nat} {s : Shared} {l f c' ce : Addr} {oc : Obj} {vs : List Value} {n : Nat} {one pm ctv : Value} {T : String} {Q E : Value → Shared → Prop}
    (C : Cx w mean mg mb b A envs (k + 1 + 1 + 1 + 1) s.heap) (ho : s.heap.get? f = some (kla_obj "<lambda>" lamQual lamParams lamBody lamScope [(Str.ofString "one", ce)] pm c' ctv)) (hcd : s.heap.CodeRec (.ref c') lamQual)
    (hce : s.heap.get? ce = some oc) (hcv : oc.data = .cell (some one))
    (hl : s.heap.get? l = some (lst vs n)) (hlb : b.get? l = none) (hlf : l ∉ frs envs) (K : Kind s.heap one T) (hkl : ∀ a, one = .ref a → a ≠ l)
    (hE1 : Els one vs) (hz : vs.length ≤ 64) (hns : vs ≠ [] → siftup true (vs.set 0 one) 0 ≠ .stuck)
    (hE0 : vs = [] → ∀ h' tk e, Raised envs s.heap l (lst [] n) e "IndexError" (Str.ofString "list index out of range") h' → E (.ref e) { s with heap := h', toks := tk })
    (hQ : ∀ vs', vs ≠ [] → siftup true (vs.set 0 one) 0 = .ok vs' → ∀ h' tk, Rel (frs envs) [l] s.heap h' → h'.get? l = some (lst vs' n) → Q (nth vs 0) { s with heap := h', toks := tk })
    (hE : ∀ vs' f, vs ≠ [] → siftup true (vs.set 0 one) 0 = .bad vs' f → ∀ h' tk e, Raised envs s.heap l (lst vs' n) e "TypeError" (ltText f T) h' → E (.ref e) { s with heap := h', toks := tk }) :
    wpAny (model PR w) A (call (.ref f) [.ref l]) Q E s := by
  refine' enterE (binds := [(Str.ofString "part", .ref l)]) C [l] (fun a ha => by rcases List.mem_singleton.mp ha with rfl; exact ⟨hlf, hlb⟩) ho hcd ?k3 ?k4 ?c1 ?c2 ?c3 ?c4 ?_
  (case k3 => exact rfl)
  (case k4 => exact locs rfl)
  (case c1 => exact rfl)
  (case c2 => exact rfl)
  (case c3 => exact rfl)
  (case c4 => decide)
  intro L h₁ hL hs B F X T'
  have N : News (cut h₁ s.heap [l]) L h₁ [(l, lst vs n)] := fun p hp => by
    rcases List.mem_singleton.mp hp with rfl
    exact ⟨hs _ _ hl, by rw [hL]; exact Nat.ne_of_lt (Heap.lt_size hl), hid_cut (.inl (.head _))⟩
  have Hc : h₁.get? ce = some oc := hs _ _ hce
  dsimp only [List.length_cons, List.length_nil]
  repeat' (walk_at "m")
  refine nameX_Fh Hc (by with_unfolding_all rfl) hcv ?_ (by with_unfolding_all rfl) (by with_unfolding_all rfl) (by decide) (by decide)
  repeat' (walk_at "m")
  dsimp only [List.nil_append]
  refine heaprep_w (B.now F) (N _ (.head _)).1 hlb (B.lNot (N _ (.head _)).2.1) (K.keeps fun a o e q => (B.old F q (by simpa using hkl a e)).imp fun _ x => x.1) hkl hE1 hz hns ?_ ?_ ?_
  · intro hv h7 tk7 e R7
    exact B.leave_on F R7 fun h8 r8 => hE0 hv h8 _ _ r8
  · intro vs2 hv hs2 h7 tk7 R7 hl7
    obtain ⟨B7, F7⟩ := B.after F R7 (fun a ha => by rcases List.mem_singleton.mp ha with rfl; exact (N _ (.head _)).2.2)
    exact hQ vs2 hv hs2 h7 _ (B7.rel F7) hl7
  · intro vs2 f hv hs2 h7 tk7 e R7
    exact B.leave_on F R7 fun h8 r8 => hE vs2 f hv hs2 h8 _ _ r8
end
section
/-- what the table of the code that makes the lambda may hold -/
inductive TabL : List (Addr × Obj) → Prop
  | none : TabL [(103, tabObj #[])]
  | some {c' : Addr} {oc : Obj} {vs : Array Value} {t : Tok} : oc.data = .fields vs → vs[1]? = .some (.str lamQual t) → c' ≠ 103 → TabL [(103, tabObj #[rawInt 127, rawInt 17, .ref c']), (c', oc)]

def lostOf (hv : List Value) (one : Value) : List Value := if hv = [] then [] else lostRow hv one
def toldOf (hv : List Value) (T : String) : Tl := if hv.length = 1 then .given (nth hv 0) else .err "TypeError" (ltText false T)
def dueOf1 (hv : List Value) (T : String) : Tl := if hv = [] then .err "IndexError" (Str.ofString "list index out of range") else toldOf hv T
def dueOf2 (hv : List Value) (one : Value) (T : String) : Tl := if hv = [] then .given one else toldOf hv T
theorem toldOf_plain (hv : List Value) (T : String) : (toldOf hv T).plain := by unfold toldOf; split; exact trivial; exact .inl rfl
theorem dueOf1_plain (hv : List Value) (T : String) : (dueOf1 hv T).plain := by unfold dueOf1; split; exact .inr rfl; exact toldOf_plain _ _
theorem dueOf2_plain (hv : List Value) (one : Value) (T : String) : (dueOf2 hv one T).plain := by unfold dueOf2; split; exact trivial; exact toldOf_plain _ _
theorem items_same (res : Tl) (t u t' u' : Tok) : Sames (res.items t u) (res.items t' u') := by
  cases res with
  | given v => exact ⟨rfl, fun i hi => match i, hi with | 0, _ => .str _ _ _ | 1, _ => .refl _⟩
  | err c x => exact ⟨rfl, fun i hi => match i, hi with | 0, _ => .str _ _ _ | 1, _ => .str _ _ _⟩

theorem bodyP {w : World} {mean : ExcName → Option Value} {mg mb : Str → Option Value} {b : Heap} {A : Around} {env : Env} {envs : List Env} {k : Nat} {L : Addr} {S : List Addr} {h0 hr : Heap} (B : Body w mean mg mb b A env envs k L S h0 hr) :
    ∃ P : Heap → Prop, ∀ h, P h ↔ Body w mean mg mb b A env envs k L S h0 h := ⟨fun h => Body w mean mg mb b A env envs k L S h0 h, fun _ => Iff.rfl⟩
theorem Body.oldCut {w : World} {mean : ExcName → Option Value} {mg mb : Str → Option Value} {b : Heap} {A : Around} {env : Env} {envs : List Env} {k : Nat} {L : Addr} {S : List Addr} {h0 hr : Heap} (B : Body w mean mg mb b A env envs k L S h0 hr) {a : Addr} {o : Obj} (e : h0.get? a = some o) (hS : a ∉ S) (hf : a ∉ frs envs) :
    (cut hr h0 S).get? a = some o := cut_iff.mpr ⟨⟨_, e⟩, hS, B.R.same a o e hS hf⟩
set_option maxHeartbeats 1000000 in
theorem taken_w {w : World} {mean : ExcName → Option Value} {mg mb : Str → Option Value} {b : Heap} {A : Around} {envs : List Env} {k : Nat} {s : Shared} {a : Addr} {hv : List Value} {na : Nat} {tT : Tok} {one : Value} {T : String} {tn : List (Addr × Obj)} {Q E : Value → Shared → Prop}
    (C : Cx w mean mg mb b A envs (k + 1 + 1 + 1 + 1 + 1 + 1) s.heap) (ha : s.heap.get? a = some (lst hv na)) (haf : a ∉ frs envs) (hiv : Ints hv) (hz : hv.length ≤ 63)
    (K : Kind s.heap one T) (htn : TabL tn) (hT : ∀ q ∈ tn, s.heap.get? q.1 = some q.2 ∧ q.1 ∉ frs envs ∧ b.get? q.1 = none) (hcode : CodeHd b 107 103)
    (hQ : ∀ tn' h' tk, TabL tn' → (∀ q ∈ tn', h'.get? q.1 = some q.2 ∧ (q.1 = 103 ∨ q ∈ tn ∨ s.heap.get? q.1 = none)) → Rel (frs envs) [103] s.heap h' → Q (.bool true) { s with heap := h', toks := tk }) :
    wpAny (model PR w) A (call (.ref 108) [.ref a, one, .str (Str.ofString T) tT]) Q E s := by
  have hS : ∀ x ∈ [103], x ∉ frs envs ∧ b.get? x = none := fun x hx => by
    rcases List.mem_singleton.mp hx with rfl
    cases htn with
    | none => exact (hT _ (.head _)).2
    | some _ _ _ => exact (hT _ (.head _)).2
  have ha3 : a ≠ 103 := fun e => by
    have : ∃ ps, s.heap.get? 103 = some (tabObj ps) := by
      cases htn with
      | none => exact ⟨_, (hT _ (.head _)).1⟩
      | some _ _ _ => exact ⟨_, (hT _ (.head _)).1⟩
    obtain ⟨ps, e2⟩ := this
    rw [e, e2] at ha; cases ha
  have ho3 : ∀ x, one = .ref x → x ≠ 103 := fun x e q => by
    have : ∃ ps, s.heap.get? 103 = some (tabObj ps) := by
      cases htn with
      | none => exact ⟨_, (hT _ (.head _)).1⟩
      | some _ _ _ => exact ⟨_, (hT _ (.head _)).1⟩
    obtain ⟨ps, e2⟩ := this
    subst e; subst q
    cases K with
    | tup h1 h2 _ => rw [e2] at h1; cases h1; cases h2
    | lst h1 h2 _ => rw [e2] at h1; cases h1; cases h2
    | dct h1 h2 _ => rw [e2] at h1; cases h1; cases h2
  refine' enterC (f := 108) (binds := [(Str.ofString "heap", .ref a), (Str.ofString "one", one), (Str.ofString "kind", .str (Str.ofString T) tT)]) C [103] hS (Str.ofString "one") one
    (fun y => if y = Str.ofString "kind" then some (.str (Str.ofString T) tT) else if y = Str.ofString "heap" then some (.ref a) else none) ?k1 ?k2 ?k3 ?k4 ?e1 ?e2 ?e3 ?c1 ?c2 ?c3 ?_
  (case k1 => k_is)
  (case k2 => k_is)
  (case k3 => exact BindsTo.of_eq rfl)
  (case k4 => exact rfl)
  (case e1 => intro _; with_unfolding_all rfl)
  (case e2 => intro _; with_unfolding_all rfl)
  (case e3 => intro _; with_unfolding_all rfl)
  (case c1 => exact rfl)
  (case c2 => exact rfl)
  (case c3 => exact rfl)
  intro L h₁ tk₁ o1 hL hs B F X T' ho1 N
  with_reducible refine anyQ fun Q' E' hQ' => ?_
  replace hQ : ∀ tn' h' tk, TabL tn' → (∀ q ∈ tn', h'.get? q.1 = some q.2 ∧ (q.1 = 103 ∨ q ∈ tn ∨ s.heap.get? q.1 = none)) → Rel (frs envs) [103] s.heap h' → Q' (.ret (.bool true)) { s with heap := h', toks := tk } := fun tn' h' tk x1 x2 x3 => hQ' (.ret (.bool true)) _ (hQ tn' h' tk x1 x2 x3)
  clear hQ'
  have Ha : (cut h₁ s.heap [103]).get? a = some (lst hv na) := cut_iff.mpr ⟨⟨_, ha⟩, (fun q => ha3 (List.mem_singleton.mp q)), hs _ _ ha⟩
  obtain ⟨we1, we2, we3⟩ := words_eq K
  have we4 : (Str.ofString "int").length ≤ 100 := by decide +kernel
  obtain ⟨ps, hps, hCC⟩ : ∃ ps, s.heap.get? 103 = some (tabObj ps) ∧ (ps = #[] ∨ ∃ c' oc vs t, ps = #[rawInt 127, rawInt 17, .ref c'] ∧ (c', oc) ∈ tn ∧ oc.data = .fields vs ∧ vs[1]? = some (.str lamQual t) ∧ c' ≠ 103) := by
    cases htn with
    | none => exact ⟨_, (hT _ (.head _)).1, .inl rfl⟩
    | some h1 h2 h3 => exact ⟨_, (hT _ (.head _)).1, .inr ⟨_, _, _, _, rfl, .tail _ (.head _), h1, h2, h3⟩⟩
  have N0 : News (cut h₁ s.heap [103]) L h₁ [(103, tabObj ps), (L + 1, o1)] := fun q hq => by
    rcases List.mem_cons.mp hq with rfl | hq
    · exact ⟨hs _ _ hps, by rw [hL]; exact Nat.ne_of_lt (Heap.lt_size hps), hid_cut (.inl (.head _))⟩
    · exact N q hq
  have z1 : L + 1 ≠ 103 := fun e => by have := Heap.lt_size hps; rw [← e, hL] at this; exact absurd this (Nat.not_lt.mpr (Nat.le_succ _))
  clear N
  repeat' (walk_at "m")
  dsimp only [List.nil_append]
  refine words_w (B.now F) we4 we3 fun r2 h2 tk2 t2 t2' R2 hr2 ho2 => ?_
  obtain ⟨B2, F2⟩ := B.after F R2 (fun a ha => nomatch ha)
  have N2 : News (cut h2 s.heap [103]) L h2 [(r2, tup [.str (Str.ofString "TypeError") t2, .str (ltText false T) t2']), (103, tabObj ps), (L + 1, o1)] := fun q hq => by
    rcases List.mem_cons.mp hq with rfl | hq
    · rw [we1] at ho2; exact B.newsNew F hr2 ho2
    · exact B.newsAfter F R2 N0 (fun _ _ => List.not_mem_nil) q hq
  have haf' : ∀ {env : Env}, env.frame = some L → a ∉ frs (env :: envs) := fun {env} he => by
    rw [frs_cons he]; intro q
    rcases List.mem_cons.mp q with e | q
    · exact Nat.ne_of_lt (Heap.lt_size ha) (e.trans hL)
    · exact haf q
  have Ha2 : (cut h2 s.heap [103]).get? a = some (lst hv na) := cut_iff.mpr ⟨⟨_, ha⟩, (fun q => ha3 (List.mem_singleton.mp q)), R2.same _ _ (F.keep _ _ Ha) (fun q => nomatch q) (haf' B.envF)⟩
  clear X T' F N0 Ha
  have X := B2.X
  have T' := B2.T
  dsimp only
  repeat' (walk_at "m")
  rename_i h3 F3 N3
  refine wpAny_mono (Q := fun f s' => f = .next ∧ ∃ tl m' h' tk t3 t4, s' = { s with heap := h', toks := tk } ∧ Fr (cut h2 s.heap [103]) L h' m' ∧ News (cut h2 s.heap [103]) L h' [(tl, tup ((toldOf hv T).items t3 t4)), (103, tabObj ps), (L + 1, o1)] ∧
    m' (Str.ofString "heap") = some (.ref a) ∧ m' (Str.ofString "told") = some (.ref tl)) ?ift9 ?rest9 (fun _ _ e => e)
  case ift9 =>
    refine wpAny_If ?_
    repeat' (walk_at "m")
    by_cases e : hv.length = 1
    · rw [if_pos (by simpa using e)]
      repeat' (walk_at "m")
      refine item_at (k := 0) (F3.keep _ _ Ha2) (by omega) (by omega) ?_ (by with_unfolding_all rfl)
      repeat' (walk_at "m")
      rename_i r5 h5 F5 N5 a5 n5 h6 F6 N6
      obtain ⟨t6, N7⟩ : ∃ t6, News (cut h2 s.heap [103]) L h6 [(r5, tup [.str (Str.ofString "given") t6, nth hv 0]), (103, tabObj ps), (L + 1, o1)] := ⟨_, nn N6 (by walk_at "mem") (nn N6 (by walk_at "mem") (nn N6 (by walk_at "mem") News.nil))⟩
      refine ⟨rfl, r5, _, h6, _, t6, 0, rfl, F6, ?_, rfl, rfl⟩
      have er : toldOf hv T = .given (nth hv 0) := if_pos e
      rw [er]; exact N7
    · rw [if_neg (by simpa using e)]
      repeat' (walk_at "m")
      refine ⟨rfl, r2, _, h3, _, t2, t2', rfl, F3, ?_, rfl, rfl⟩
      have er : toldOf hv T = .err "TypeError" (ltText false T) := if_neg e
      rw [er]; exact N3
  rintro f s' ⟨rfl, tl, m4, h4, tk4, t3, t4, rfl, F4, N4, m1, m2⟩
  clear N3 F3 N2 F2
  dsimp only
  repeat' (walk_at "m")
  obtain ⟨P, hP⟩ := bodyP B2
  have ha4 : a ∉ [103] := fun q => ha3 (List.mem_singleton.mp q)
  refine wpAny_mono (Q := fun v s' => ∃ lf c h' tk, v = .ref lf ∧ s' = { s with heap := h', toks := tk } ∧ P h' ∧ Fr (cut h' s.heap [103]) L h' m4 ∧ News (cut h' s.heap [103]) L h' [(lf, lst (lostOf hv one) c), (tl, tup ((toldOf hv T).items t3 t4)), (103, tabObj ps), (L + 1, o1)]) ?lf9 ?rest8 (fun _ _ e => e)
  case lf9 =>
    refine wpAny_IfExp ?_
    repeat' (walk_at "m")
    rename_i r5 h5 F5 N5 a5 n5
    refine neNil_N (F5.keep _ _ Ha2) (N5 (r5, _) (.head _)).1 (by have := B2.C.un; omega) ?_
    repeat' (walk_at "m")
    by_cases e : hv = []
    · rw [if_neg (by simpa using e)]
      repeat' (walk_at "m")
      rename_i r6 h6 F6 N6 a6 n6
      refine ⟨r6, 0, h6, _, rfl, rfl, (hP _).mpr (B2.rebase F6), B2.frNow F6, ?_⟩
      have er : lostOf hv one = [] := if_pos e
      rw [er]
      exact B2.newsNow (nn N6 (by walk_at "mem") (nn N6 (by walk_at "mem") (nn N6 (by walk_at "mem") (nn N6 (by walk_at "mem") News.nil))))
    · rw [if_pos (by simpa using e)]
      repeat' (walk_at "m")
      dsimp only [List.nil_append]
      refine lost_w (one := one) (B2.now F5) (F5.keep _ _ Ha2) (haf' B.envF) hiv (List.length_pos_iff.mpr e) hz fun r6 c6 h6 tk6 R6 hr6 ho6 => ?_
      obtain ⟨B6, F6⟩ := B2.after F5 R6 (fun a ha => nomatch ha)
      refine ⟨r6, c6, h6, _, rfl, rfl, (hP _).mpr B6, F6, fun q hq => ?_⟩
      rcases List.mem_cons.mp hq with rfl | hq
      · have er : lostOf hv one = lostRow hv one := if_neg e
        rw [er]; exact B2.newsNew F5 hr6 ho6
      · exact B2.newsAfter F5 R6 N5 (fun _ _ => List.not_mem_nil) q (.tail _ hq)
  rintro v s' ⟨lf, c5, h5, tk5, rfl, rfl, hP5, F5, N5⟩
  have B5 := (hP _).mp hP5
  clear X T' F4 N4
  have X := B5.X
  have T' := B5.T
  have Ha5 := B5.oldCut ha ha4 haf
  repeat' (walk_at "m")
  rename_i h6 F6 N6 rw c7 h7 F7 N7 a7 n7 h8 F8 N8
  have x1 : lf ≠ rw := a7 (lf, _) (by walk_at "mem")
  have x2 : tl ≠ rw := a7 (tl, _) (by walk_at "mem")
  have x3 : 103 ≠ rw := a7 (103, _) (by walk_at "mem")
  have x4 : L + 1 ≠ rw := a7 (L + 1, _) (by walk_at "mem")
  refine wpAny_mono (Q := fun v s' => ∃ du h' tk t5 t6, v = .ref du ∧ s' = { s with heap := h', toks := tk } ∧ du ≠ rw ∧ Fr (cut h5 s.heap [103]) L h' (fun y => if y = Str.ofString "row" then some (.ref rw) else if y = Str.ofString "left" then some (.ref lf) else m4 y) ∧
    News (cut h5 s.heap [103]) L h' [(du, tup ((dueOf1 hv T).items t5 t6)), (rw, lst hv c7), (lf, lst (lostOf hv one) c5), (tl, tup ((toldOf hv T).items t3 t4)), (103, tabObj ps), (L + 1, o1)]) ?du9 ?rest7 (fun _ _ e => e)
  case du9 =>
    refine wpAny_IfExp ?_
    repeat' (walk_at "m")
    rename_i r9 h9 F9 N9 a9 n9
    refine neNil_N (F9.keep _ _ Ha5) (N9 (r9, _) (.head _)).1 (by have := B5.C.un; omega) ?_
    repeat' (walk_at "m")
    by_cases e : hv = []
    · rw [if_neg (by simpa using e)]
      repeat' (walk_at "m")
      rename_i r10 h10 F10 N10 a10 n10
      obtain ⟨t5, t6, N11⟩ : ∃ t5 t6, News (cut h5 s.heap [103]) L h10 [(r10, tup [.str (Str.ofString "IndexError") t5, .str (Str.ofString "list index out of range") t6]), (rw, lst hv c7), (lf, lst (lostOf hv one) c5), (tl, tup ((toldOf hv T).items t3 t4)), (103, tabObj ps), (L + 1, o1)] :=
        ⟨_, _, nn N10 (by walk_at "mem") (nn N10 (by walk_at "mem") (nn N10 (by walk_at "mem") (nn N10 (by walk_at "mem") (nn N10 (by walk_at "mem") (nn N10 (by walk_at "mem") News.nil)))))⟩
      refine ⟨r10, h10, _, t5, t6, rfl, rfl, Ne.symm (a10 (rw, _) (by walk_at "mem")), F10, ?_⟩
      have er : dueOf1 hv T = .err "IndexError" (Str.ofString "list index out of range") := if_pos e
      rw [er]; exact N11
    · rw [if_pos (by simpa using e)]
      repeat' (walk_at "m")
      refine ⟨tl, h9, _, t3, t4, rfl, rfl, x2, F9, ?_⟩
      have er : dueOf1 hv T = toldOf hv T := if_neg e
      rw [er]
      exact nn N9 (by walk_at "mem") (nn N9 (by walk_at "mem") (nn N9 (by walk_at "mem") (nn N9 (by walk_at "mem") (nn N9 (by walk_at "mem") (nn N9 (by walk_at "mem") News.nil)))))
  rintro v s' ⟨du, h9, tk9, t5, t6, rfl, rfl, x5, F9, N9⟩
  clear F6 N6 F7 N7 F8 N8 a7 n7 F5 N5
  repeat' (walk_at "m")
  rename_i h10 F10 N10
  refine wpAny_If ?_
  repeat' (walk_at "m")
  have d1 : du ≠ 103 := News.ne_of_cls N10 (q := (du, _)) (p := (103, _)) (by walk_at "mem") (by walk_at "mem") (by simp)
  have d2 : rw ≠ 103 := Ne.symm x3
  have d3 : lf ≠ 103 := News.ne_of_cls N10 (q := (lf, _)) (p := (103, _)) (by walk_at "mem") (by walk_at "mem") (by simp)
  have d4 : tl ≠ 103 := News.ne_of_cls N10 (q := (tl, _)) (p := (103, _)) (by walk_at "mem") (by walk_at "mem") (by simp)
  have nrw := N10 (rw, _) (.tail _ (.head _))
  have srw : s.heap.get? rw = none := by
    rcases B5.hidden nrw.2.2 with z | z
    · exact absurd (List.mem_singleton.mp z) d2
    · exact z
  refine wpAny_mono (Q := fun v s' => ∃ f c' oc vs t ctv pm h' tk, v = .ref f ∧ s' = { s with heap := h', toks := tk } ∧ Fr (cut h5 s.heap [103]) L h' (fun y => if y = Str.ofString "due" then some (.ref du) else if y = Str.ofString "row" then some (.ref rw) else if y = Str.ofString "left" then some (.ref lf) else m4 y) ∧
    News (cut h5 s.heap [103]) L h' [(f, kla_obj "<lambda>" lamQual lamParams lamBody lamScope [(Str.ofString "one", L + 1)] pm c' ctv), (du, tup ((dueOf1 hv T).items t5 t6)), (rw, lst hv c7), (lf, lst (lostOf hv one) c5), (tl, tup ((toldOf hv T).items t3 t4)), (103, tabObj #[rawInt 127, rawInt 17, .ref c']), (L + 1, o1)] ∧
    h'.get? c' = some oc ∧ oc.data = .fields vs ∧ vs[1]? = some (.str lamQual t) ∧ c' ≠ 103 ∧ c' ≠ rw ∧ c' ∉ L :: frs envs ∧ ((c', oc) ∈ tn ∨ s.heap.get? c' = none) ∧ f ≠ rw) ?lam9 ?rest6 (fun _ _ e => e)
  case lam9 =>
    refine kla_eval rfl ?_
    have hcut : CodeHd (cut h5 s.heap [103]) 107 103 := hcode.keeps B5.stays
    rcases hCC with rfl | ⟨c', oc, vs, t, rfl, hmem, g1, g2, g3⟩
    · refine kla_nest (P := 103) (c := 107) (ps := #[]) F10 (nn N10 (p := (103, _)) (by walk_at "mem") (nn N10 (p := (du, _)) (by walk_at "mem") (nn N10 (p := (rw, _)) (by walk_at "mem") (nn N10 (p := (lf, _)) (by walk_at "mem") (nn N10 (p := (tl, _)) (by walk_at "mem") (nn N10 (p := (L + 1, _)) (by walk_at "mem") News.nil)))))) T' hcut rfl (.head (ap d1 (ap d2 (ap d3 (ap d4 (ap z1 ap0)))))) trivial rfl rfl ?_
      intro f c' oc vs t ctv h' tk F' N' g1 g2 l1 l2
      have e9 : (#[] : Array Value) ++ #[rawInt 127, rawInt 17, Value.ref c'] = #[rawInt 127, rawInt 17, .ref c'] := by simp
      have l3 : rw < c' := l1 (rw, _) (.tail _ (.tail _ (.head _)))
      have l4 : 103 < c' := l1 (103, _) (.head _)
      have nc := N' (c', oc) (.tail _ (.head _))
      refine ⟨f, c', oc, vs, t, ctv, (mg "__name__").getD .none, h', tk, rfl, rfl, F', ?_, nc.1, g1, g2, Nat.ne_of_gt l4, Nat.ne_of_gt l3, ?_, .inr ?_, Nat.ne_of_gt (Nat.lt_trans l3 l2)⟩
      · exact nn N' (.head _) (nn N' (p := (du, _)) (.tail _ (.tail _ (.tail _ (.head _)))) (nn N' (p := (rw, _)) (.tail _ (.tail _ (.tail _ (.tail _ (.head _))))) (nn N' (p := (lf, _)) (.tail _ (.tail _ (.tail _ (.tail _ (.tail _ (.head _)))))) (nn N' (p := (tl, _)) (.tail _ (.tail _ (.tail _ (.tail _ (.tail _ (.tail _ (.head _))))))) (nn (by rw [← e9]; exact nn N' (.tail _ (.tail _ (.head _))) News.nil) (.head _) (nn N' (p := (L + 1, _)) (.tail _ (.tail _ (.tail _ (.tail _ (.tail _ (.tail _ (.tail _ (.head _)))))))) News.nil))))))
      · rw [← frs_cons B.envF]; exact B5.newNot nc.2.1 nc.2.2
      · rcases B5.hidden nc.2.2 with z | z
        · exact absurd (List.mem_singleton.mp z) (Nat.ne_of_gt l4)
        · exact z
    · have hTc := hT _ hmem
      refine kla_hit (P := 103) (c := 107) (c' := c') (ps := #[rawInt 127, rawInt 17, .ref c']) F10 N10 T' hcut rfl (by walk_at "mem") trivial rfl rfl ?_
      intro f ctv h' tk F' N' l1
      refine ⟨f, c', oc, vs, t, ctv, (mg "__name__").getD .none, h', tk, rfl, rfl, F', N', (B5.rel F').same _ _ hTc.1 (fun q => g3 (List.mem_singleton.mp q)) hTc.2.1, g1, g2, g3, (fun e => by rw [← e, hTc.1] at srw; cases srw), ?_, .inl hmem, Ne.symm (Nat.ne_of_lt (l1 (rw, _) (.tail _ (.head _))))⟩
      intro q
      rcases List.mem_cons.mp q with e | q
      · exact Nat.ne_of_lt (Heap.lt_size hTc.1) (e.trans hL)
      · exact hTc.2.1 q
  rintro v s' ⟨f, c', oc, vs, t, ctv, pm, h11, tk11, rfl, rfl, F11, N11, hc1, hc2, hc3, hc4, hc5, hc6, hc7, hf1⟩
  repeat' (walk_at "m")
  dsimp only [List.nil_append]
  clear nrw
  have nrw := N11 (rw, _) (.tail _ (.tail _ (.head _)))
  have K11 : Kind h11 one T := K.rel (B5.rel F11) (fun x e q => ho3 x e (List.mem_singleton.mp q))
  have hkl : ∀ x, one = .ref x → x ≠ rw := fun x e q => by
    subst e
    obtain ⟨o, ho⟩ := K.ref
    rw [← q, ho] at srw; cases srw
  have nf := N11 (f, _) (.head _)
  have out := fun h0 => lost_law hiv K.notI (one := one) h0
  refine told_w (B5.now F11) nrw.1 (B5.newB nrw.2.2) (B5.newNot nrw.2.1 nrw.2.2) ⟨_, _, nf.1, rfl⟩ hf1 (B5.newNot nf.2.1 nf.2.2) (res := dueOf1 hv T) (o' := lst (lostOf hv one) c7) (dueOf1_plain _ _) ?hc9 ?hq9
  case hc9 =>
    intro A' envs' s' Q' E' hst C' hnf hg he
    refine lam_w C' (hst _ _ nf.1) ⟨c', oc, vs, t, rfl, hst _ _ hc1, hc2, hc3⟩ (hst _ _ (N11 (L + 1, o1) (by walk_at "mem")).1) ho1 (hst _ _ nrw.1) (B5.newB nrw.2.2) hnf (K11.keeps fun x o _ ho => ⟨o.slots, hst _ _ ho⟩) hkl (hiv.els one) (by omega) ?_ ?_ ?_ ?_
    · intro hne
      have h0 := List.length_pos_iff.mpr hne
      rcases Nat.lt_or_ge 1 hv.length with h1 | h1
      · rw [(out h0).2 h1]; exact fun q => by cases q
      · rw [(out h0).1 (by omega)]; exact fun q => by cases q
    · intro hn h' tk e R
      have e1 : lostOf hv one = [] := if_pos hn
      have e2 : dueOf1 hv T = .err "IndexError" (Str.ofString "list index out of range") := if_pos hn
      rw [e1] at he
      exact he _ _ e2 h' tk e R
    · intro vs' hne hs' h' tk R ho
      have h0 := List.length_pos_iff.mpr hne
      rcases Nat.lt_or_ge 1 hv.length with h1 | h1
      · rw [(out h0).2 h1] at hs'; cases hs'
      · rw [(out h0).1 (by omega)] at hs'; cases hs'
        have e1 : lostOf hv one = lostRow hv one := if_neg hne
        have e2 : dueOf1 hv T = .given (nth hv 0) := by unfold dueOf1 toldOf; rw [if_neg hne, if_pos (by omega)]
        rw [e1] at hg
        exact hg _ e2 h' tk R ho
    · intro vs' ff hne hs' h' tk e R
      have h0 := List.length_pos_iff.mpr hne
      rcases Nat.lt_or_ge 1 hv.length with h1 | h1
      · rw [(out h0).2 h1] at hs'; cases hs'
        have e1 : lostOf hv one = lostRow hv one := if_neg hne
        have e2 : dueOf1 hv T = .err "TypeError" (ltText false T) := by unfold dueOf1 toldOf; rw [if_neg hne, if_neg (by omega)]
        rw [e1] at he
        exact he _ _ e2 h' tk e R
      · rw [(out h0).1 (by omega)] at hs'; cases hs'
  case hq9 =>
    intro r h12 tk12 t7 t8 R12 hrw hrn hro
    obtain ⟨B12, F12⟩ := B5.after F11 R12 (fun x hx => by rcases List.mem_singleton.mp hx with rfl; exact nrw.2.2)
    have N12 := B5.newsOne F11 R12 hrw (nn N11 (p := (rw, _)) (.tail _ (.tail _ (.head _))) (nn N11 (p := (du, _)) (.tail _ (.head _)) (nn N11 (p := (lf, _)) (by walk_at "mem") (nn N11 (p := (tl, _)) (by walk_at "mem") (nn N11 (p := (103, _)) (by walk_at "mem") (nn N11 (p := (L + 1, _)) (by walk_at "mem") News.nil)))))) (ap x5 (ap x1 (ap x2 (ap x3 (ap x4 ap0)))))
    have N13 : News (cut h12 s.heap [103]) L h12 [(r, tup ((dueOf1 hv T).items t7 t8)), (rw, lst (lostOf hv one) c7), (du, tup ((dueOf1 hv T).items t5 t6)), (lf, lst (lostOf hv one) c5), (tl, tup ((toldOf hv T).items t3 t4)), (103, tabObj #[rawInt 127, rawInt 17, .ref c']), (L + 1, o1)] := fun q hq => by
      rcases List.mem_cons.mp hq with rfl | hq
      · exact B5.newsNew F11 hrn hro
      · exact N12 q hq
    have hc8 : h12.get? c' = some oc := R12.same _ _ hc1 (fun q => hc5 (List.mem_singleton.mp q)) (by rw [frs_cons B.envF]; exact hc6)
    obtain ⟨cn, N13c, hcn, hcn2⟩ : ∃ cn, News (cut h12 s.heap [103]) L h12 cn ∧ (∀ h m, Fr (cut h12 s.heap [103]) L h m → News (cut h12 s.heap [103]) L h cn → h.get? c' = some oc) ∧ (∀ q ∈ cn, q.1 = c') := by
      rcases hc7 with z | z
      · have hTc := hT _ z
        exact ⟨[], News.nil, fun h m F _ => (B12.rel F).same _ _ hTc.1 (fun q => hc4 (List.mem_singleton.mp q)) hTc.2.1, fun q hq => nomatch hq⟩
      · refine ⟨[(c', oc)], fun q hq => ?_, fun h m _ N => (N _ (.head _)).1, fun q hq => by rcases List.mem_singleton.mp hq with rfl; rfl⟩
        rcases List.mem_singleton.mp hq with rfl
        exact ⟨hc8, fun e => hc6 (e ▸ .head _), hid_cut (.inr z)⟩
    have N13' : News (cut h12 s.heap [103]) L h12 ((r, tup ((dueOf1 hv T).items t7 t8)) :: (rw, lst (lostOf hv one) c7) :: (du, tup ((dueOf1 hv T).items t5 t6)) :: (lf, lst (lostOf hv one) c5) :: (tl, tup ((toldOf hv T).items t3 t4)) :: (103, tabObj #[rawInt 127, rawInt 17, .ref c']) :: (L + 1, o1) :: cn) :=
      nn N13 (by walk_at "mem") (nn N13 (p := (rw, _)) (by walk_at "mem") (nn N13 (p := (du, _)) (by walk_at "mem") (nn N13 (p := (lf, _)) (by walk_at "mem") (nn N13 (p := (tl, _)) (by walk_at "mem") (nn N13 (p := (103, _)) (by walk_at "mem") (nn N13 (p := (L + 1, _)) (by walk_at "mem") N13c))))))
    clear N13
    have N13 := N13'
    clear N13' N13c
    clear X T' F9 N9 F10 N10 N12
    have X := B12.X
    have T' := B12.T
    have Ha12 := B12.oldCut ha ha4 haf
    repeat' (walk_at "m")
    refine neT_N (N13 (r, _) (.head _)).1 (N13 (du, _) (.tail _ (.tail _ (.head _)))).1 (items_same _ _ _ _ _) (by have := B12.C.un; omega) ?_
    repeat' (walk_at "m")
    refine neL_N (N13 (rw, _) (.tail _ (.head _))).1 (N13 (lf, _) (.tail _ (.tail _ (.tail _ (.head _))))).1 (.refl _) (by have := B12.C.un; omega) ?_
    repeat' (walk_at "m")
    rename_i r14 h14 F14 N14 a14 n14
    refine join_N F14 N14 (F14.keep _ _ Ha12) (N14 (r14, _) (.head _)).1 (by simp; omega) fun rv h15 F15 N15 a15 n15 => ?_
    dsimp only
    repeat' (walk_at "m")
    rename_i h16 F16 N16
    have y1 : lf ≠ rv := a15 (lf, _) (by walk_at "mem")
    have y2 : tl ≠ rv := a15 (tl, _) (by walk_at "mem")
    have y3 : 103 ≠ rv := a15 (103, _) (by walk_at "mem")
    have y4 : L + 1 ≠ rv := a15 (L + 1, _) (by walk_at "mem")
    have y6 : c' ≠ rv := fun e => by
      have h8 := hcn _ _ F14 (fun q hq => N14 q (.tail _ (.tail _ (.tail _ (.tail _ (.tail _ (.tail _ (.tail _ (.tail _ hq)))))))))
      rw [e, n15] at h8; cases h8
    refine wpAny_mono (Q := fun v s' => ∃ du2 h' tk t9 t10, v = .ref du2 ∧ s' = { s with heap := h', toks := tk } ∧ du2 ≠ rv ∧ Fr (cut h12 s.heap [103]) L h' (fun y => if y = Str.ofString "row" then some (.ref rv) else if y = Str.ofString "due" then some (.ref du) else if y = Str.ofString "row" then some (.ref rw) else if y = Str.ofString "left" then some (.ref lf) else m4 y) ∧
      News (cut h12 s.heap [103]) L h' ((du2, tup ((dueOf2 hv one T).items t9 t10)) :: (rv, lst (hv ++ [one]) 0) :: (lf, lst (lostOf hv one) c5) :: (103, tabObj #[rawInt 127, rawInt 17, .ref c']) :: (L + 1, o1) :: cn)) ?du8 ?rest5 (fun _ _ e => e)
    case du8 =>
      refine wpAny_IfExp ?_
      repeat' (walk_at "m")
      rename_i r17 h17 F17 N17 a17 n17
      refine neNil_N (F17.keep _ _ Ha12) (N17 (r17, _) (.head _)).1 (by have := B12.C.un; omega) ?_
      repeat' (walk_at "m")
      by_cases e : hv = []
      · rw [if_neg (by simpa using e)]
        repeat' (walk_at "m")
        rename_i r18 h18 F18 N18 a18 n18
        obtain ⟨t9, N19⟩ : ∃ t9, News (cut h12 s.heap [103]) L h18 ((r18, tup [.str (Str.ofString "given") t9, one]) :: (rv, lst (hv ++ [one]) 0) :: (lf, lst (lostOf hv one) c5) :: (103, tabObj #[rawInt 127, rawInt 17, .ref c']) :: (L + 1, o1) :: cn) :=
          ⟨_, nn N18 (by walk_at "mem") (nn N18 (p := (rv, _)) (by walk_at "mem") (nn N18 (p := (lf, _)) (by walk_at "mem") (nn N18 (p := (103, _)) (by walk_at "mem") (nn N18 (p := (L + 1, _)) (by walk_at "mem") (fun q hq => N18 q (.tail _ (.tail _ (.tail _ (.tail _ (.tail _ (.tail _ (.tail _ (.tail _ (.tail _ (.tail _ (.tail _ hq)))))))))))))))) ⟩
        refine ⟨r18, h18, _, t9, 0, rfl, rfl, Ne.symm (a18 (rv, _) (by walk_at "mem")), F18, ?_⟩
        have er : dueOf2 hv one T = .given one := if_pos e
        rw [er]; exact N19
      · rw [if_pos (by simpa using e)]
        repeat' (walk_at "m")
        refine ⟨tl, h17, _, t3, t4, rfl, rfl, y2, F17, ?_⟩
        have er : dueOf2 hv one T = toldOf hv T := if_neg e
        rw [er]
        exact nn N17 (p := (tl, _)) (by walk_at "mem") (nn N17 (p := (rv, _)) (by walk_at "mem") (nn N17 (p := (lf, _)) (by walk_at "mem") (nn N17 (p := (103, _)) (by walk_at "mem") (nn N17 (p := (L + 1, _)) (by walk_at "mem") (fun q hq => N17 q (.tail _ (.tail _ (.tail _ (.tail _ (.tail _ (.tail _ (.tail _ (.tail _ (.tail _ (.tail _ hq)))))))))))))))
    rintro v s' ⟨du2, h17, tk17, t9, t10, rfl, rfl, y5, F17, N17⟩
    clear F14 N14 F15 N15 F16 N16 a14 a15 n14 n15
    repeat' (walk_at "m")
    rename_i h18 F18 N18
    refine BoolOp_and ?_
    repeat' (walk_at "m")
    dsimp only [List.nil_append]
    have nrv := N18 (rv, _) (.tail _ (.head _))
    have srv : s.heap.get? rv = none := by
      rcases B12.hidden nrv.2.2 with z | z
      · exact absurd (List.mem_singleton.mp z) (Ne.symm y3)
      · exact z
    have K18 : Kind h18 one T := K.rel (B12.rel F18) (fun x e q => ho3 x e (List.mem_singleton.mp q))
    have hkl2 : ∀ x, one = .ref x → x ≠ rv := fun x e q => by
      subst e
      obtain ⟨o, ho⟩ := K.ref
      rw [← q, ho] at srv; cases srv
    have hfn : IsFn 28 b := ⟨_, _, C.X _ _ (by k_is), rfl⟩
    obtain ⟨fo, fd, hfo, hfd⟩ := hfn
    refine told_w (B12.now F18) nrv.1 (B12.newB nrv.2.2) (B12.newNot nrv.2.1 nrv.2.2) ⟨fo, fd, (B12.now F18).hb _ _ hfo, hfd⟩ (fun e => by rw [e, B12.newB nrv.2.2] at hfo; cases hfo) ((B12.now F18).bNot hfo) (res := dueOf2 hv one T) (o' := lst (lostOf hv one) 1) (dueOf2_plain _ _ _) ?hc8 ?hq8
    case hc8 =>
      intro A' envs' s' Q' E' hst C' hnf hg he
      refine heappop_w C' (hst _ _ nrv.1) (B12.newB nrv.2.2) hnf (K18.keeps fun x o _ ho => ⟨o.slots, hst _ _ ho⟩) hkl2 (hiv.els one) (by omega) ?_ ?_ ?_ ?_
      · intro hne
        have h0 := List.length_pos_iff.mpr hne
        rcases Nat.lt_or_ge 1 hv.length with h1 | h1
        · rw [(out h0).2 h1]; exact fun q => by cases q
        · rw [(out h0).1 (by omega)]; exact fun q => by cases q
      · intro hn h' tk R ho
        have e1 : lostOf hv one = [] := if_pos hn
        have e2 : dueOf2 hv one T = .given one := if_pos hn
        rw [e1] at hg
        exact hg _ e2 h' tk R ho
      · intro vs' hne hs' h' tk R ho
        have h0 := List.length_pos_iff.mpr hne
        rcases Nat.lt_or_ge 1 hv.length with h1 | h1
        · rw [(out h0).2 h1] at hs'; cases hs'
        · rw [(out h0).1 (by omega)] at hs'; cases hs'
          have e1 : lostOf hv one = lostRow hv one := if_neg hne
          have e2 : dueOf2 hv one T = .given (nth hv 0) := by unfold dueOf2 toldOf; rw [if_neg hne, if_pos (by omega)]
          rw [e1] at hg
          exact hg _ e2 h' tk R ho
      · intro vs' ff hne hs' h' tk e R
        have h0 := List.length_pos_iff.mpr hne
        rcases Nat.lt_or_ge 1 hv.length with h1 | h1
        · rw [(out h0).2 h1] at hs'; cases hs'
          have e1 : lostOf hv one = lostRow hv one := if_neg hne
          have e2 : dueOf2 hv one T = .err "TypeError" (ltText false T) := by unfold dueOf2 toldOf; rw [if_neg hne, if_neg (by omega)]
          rw [e1] at he
          exact he _ _ e2 h' tk e R
        · rw [(out h0).1 (by omega)] at hs'; cases hs'
    case hq8 =>
      intro r2 h19 tk19 t11 t12 R19 hrv hrn2 hro2
      obtain ⟨B19, F19⟩ := B12.after F18 R19 (fun x hx => by rcases List.mem_singleton.mp hx with rfl; exact nrv.2.2)
      have N19 := B12.newsOne F18 R19 hrv (nn N18 (p := (rv, _)) (.tail _ (.head _)) (nn N18 (p := (du2, _)) (.head _) (nn N18 (p := (lf, _)) (by walk_at "mem") (nn N18 (p := (103, _)) (by walk_at "mem") (fun q hq => N18 q (.tail _ (.tail _ (.tail _ (.tail _ (.tail _ hq)))))))))) (ap y5 (ap y1 (ap y3 (fun q hq => by rw [hcn2 q hq]; exact y6))))
      have hc10 : h19.get? c' = some oc := by
        have h8 := hcn _ _ F18 (fun q hq => N18 q (.tail _ (.tail _ (.tail _ (.tail _ (.tail _ hq))))))
        exact R19.same _ _ h8 (fun q => y6 (List.mem_singleton.mp q)) (by rw [frs_cons B.envF]; exact hc6)
      have nr2 := B12.newsNew F18 hrn2 hro2
      clear X T'
      have X := B19.X
      have T' := B19.T
      have N20 : News (cut h19 s.heap [103]) L h19 ((r2, tup ((dueOf2 hv one T).items t11 t12)) :: (rv, lst (lostOf hv one) 1) :: (du2, tup ((dueOf2 hv one T).items t9 t10)) :: (lf, lst (lostOf hv one) c5) :: (103, tabObj #[rawInt 127, rawInt 17, .ref c']) :: cn) := fun q hq => by
        rcases List.mem_cons.mp hq with rfl | hq
        · exact nr2
        · exact N19 q hq
      repeat' (walk_at "m")
      refine eqT_N (N20 (r2, _) (.head _)).1 (N20 (du2, _) (.tail _ (.tail _ (.head _)))).1 (items_same _ _ _ _ _) (by have := B19.C.un; omega) ?_
      repeat' (walk_at "m")
      refine BoolOp_one ?_
      repeat' (walk_at "m")
      refine eqL_N (N20 (rv, _) (.tail _ (.head _))).1 (N20 (lf, _) (.tail _ (.tail _ (.tail _ (.head _))))).1 (.refl _) (by have := B19.C.un; omega) ?_
      repeat' (walk_at "m")
      refine hQ [(103, tabObj #[rawInt 127, rawInt 17, .ref c']), (c', oc)] h19 _ (.some hc2 hc3 hc4) (fun q hq => ?_) (B19.rel F19)
      rcases List.mem_cons.mp hq with rfl | hq
      · exact ⟨(N20 (103, _) (by walk_at "mem")).1, .inl rfl⟩
      · rcases List.mem_singleton.mp hq with rfl
        exact ⟨hc10, .inr hc7⟩
end
section
/-- the six strangers stand in the heap -/
structure Six (SN : List (Addr × Obj)) (vals : List Value) : Prop where
  len : vals.length = 6
  at_ : ∀ i, i < 6 → ∃ ti one T tk, nth vals i = .ref ti ∧ (ti, tup [one, .str (Str.ofString T) tk]) ∈ SN ∧ OneTok one ∧ ∀ h : Heap, (∀ q ∈ SN, h.get? q.1 = some q.2) → Kind h one T

abbrev lawScope : Scope := { kind := .function, names := [(Str.ofString "script", .local), (Str.ofString "strangers", .local), (Str.ofString "place", .local), (Str.ofString "one", .local), (Str.ofString "kind", .local), (Str.ofString "heap", .local), (Str.ofString "range", .globalImplicit), (Str.ofString "len", .globalImplicit), (Str.ofString "_law_build", .globalImplicit), (Str.ofString "heapify", .globalImplicit), (Str.ofString "_heapify_max", .globalImplicit), (Str.ofString "_law_heap", .globalImplicit), (Str.ofString "_law_taken", .globalImplicit)], isGenerator := false, isCoroutine := false }
set_option maxHeartbeats 2000000 in
theorem law_holds : PySem.Challenge.rw_dp0041_01.Holds := by
  refine Mine.hd ?_
  k_go0
  rename_i w s₀ s₁ mg mb G Y fa o pm cd doc kV ho hcd hg X0 V0 T0 B0 TE TW ns hs0 hlay0 hL1 hr1 hl2 wa wb a sv wc hLl ra w1 r0 hI hr hc1 hc2 hD h₁ X' T' K' F' N' l0
  clear K' hD hr r0 ra hs0 hlay0 hL1 hr1 hl2 TW TE B0 T0 V0 X0 lifted l0 hT9 hcd ho G Y
  dsimp only [List.length_cons, List.length_nil, List.reverse_cons, List.reverse_nil, List.nil_append] at F' ⊢
  have T2 : TopB (ExcName.means s₀.heap) mg mb (ghostOf s₁.heap [(107, 103)]) := T'
  have X2 : (Mine.hd.heap_39 w.params).In (ghostOf s₁.heap [(107, 103)]) := X'
  show wpAny (model PR w) _ _ _ _ _
  have B := ground (env := envOf (Str.ofString "law") lawScope s₁.heap.objs.size fa cd) rfl (by show ScopeKind.function ≠ ScopeKind.module; decide) X2 T2 F'
  have F : Fr (cut h₁ s₁.heap [103]) s₁.heap.objs.size h₁ _ := ⟨F'.ns, fun _ _ e => (cut_iff.mp e).2.2, by rw [cut_size]; exact Nat.le_refl _⟩
  have N : News (cut h₁ s₁.heap [103]) s₁.heap.objs.size h₁ [(103, tabObj #[])] := fun q hq => by
    rcases List.mem_singleton.mp hq with rfl
    exact ⟨(N' _ (.head _)).1, (N' _ (.head _)).2.1, hid_cut (.inl (.head _))⟩
  obtain ⟨na, hsv⟩ : ∃ na, s₁.heap.get? a = some (lst sv na) := by
    obtain ⟨o1, e1, e2, n1, e3⟩ := hLl
    cases w1 with
    | list e4 _ => rw [e4] at e1; cases e1; cases e3; exact ⟨_, e4⟩
  have hz : sv.length ≤ 63 := by rw [hI.length]; omega
  have ha3 : a ∉ [103] := fun q => by
    have e := hT8 103 (.head _)
    rw [List.mem_singleton.mp q, e] at hsv; cases hsv
  have Ha : (cut h₁ s₁.heap [103]).get? a = some (lst sv na) := B.oldCut hsv ha3 (fun q => nomatch q)
  have hiv : Ints sv := are_ints hI
  have X := B.X
  have T := B.T
  clear X' T' F' N' X2 T2
  with_reducible refine anyQ fun Q' E' hQ' => ?_
  repeat' (walk_at "m")
  rename_i r1 e1 F1 N1 a1 n1 r2 e2 F2 N2 a2 n2 r3 e3 F3 N3 a3 n3 r4 e4 F4 N4 a4 n4 r5 e5 F5 N5 a5 n5 r6 e6 F6 N6 a6 n6 r7 e7 F7 N7 a7 n7 r8 e8 F8 N8 a8 n8 r9 e9 F9 N9 a9 n9 r10 e10 F10 N10 a10 n10 e11 F11 N11 rr e12 tr1 tr2 F12 N12 a12 n12
  clear F1 N1 a1 n1 F2 N2 a2 n2 F3 N3 a3 n3 F4 N4 a4 n4 F5 N5 a5 n5 F6 N6 a6 n6 F7 N7 a7 n7 F8 N8 a8 n8 F9 N9 a9 n9 F10 N10 a10 n10 F11 N11 a12 n12 F N
  dsimp only [List.nil_append, List.cons_append] at N12 F12
  obtain ⟨P, hP⟩ := bodyP B
  obtain ⟨vals, SN, c0, hsix, hst, hno, N13⟩ : ∃ vals SN c, Six SN vals ∧ (r10, lst vals c) ∈ SN ∧ (∀ q ∈ SN, q.2.cls ≠ (tabObj #[]).cls) ∧ News (cut h₁ s₁.heap [103]) s₁.heap.objs.size e12 ((rr, rngO ((0 : Nat) : Int) ((sv.length + 1 : Nat) : Int) 1 tr1 (s₁.toks + (0 + 1) + 1 + 1 + 1 + 1 + 1 + 1 + 1 + 1 + 1 + 1 + 1 + 1) tr2) :: (SN ++ [(103, tabObj #[])])) := by
    refine ⟨_, [(r10, _), (r9, _), (r8, _), (r7, _), (r6, _), (r5, _), (r4, _), (r3, _), (r2, _), (r1, _)], _, ⟨rfl, fun i hi => ?_⟩, .head _, ?hno9, N12⟩
    case hno9 =>
      intro q hq
      simp only [List.mem_cons, List.not_mem_nil, or_false] at hq
      rcases hq with rfl | rfl | rfl | rfl | rfl | rfl | rfl | rfl | rfl | rfl <;> simp [tabObj]
    match i, hi with
    | 0, _ =>
      refine ⟨r1, _, "str", _, rfl, (by walk_at "mem"), ?_, ?_⟩
      · exact Nat.succ_ne_zero _
      · exact fun h hh => .str _
    | 1, _ =>
      refine ⟨r3, _, "tuple", _, rfl, (by walk_at "mem"), ?_, ?_⟩
      · exact trivial
      · exact fun h hh => .tup (hh (r2, _) (by walk_at "mem")) rfl rfl
    | 2, _ =>
      refine ⟨r5, _, "list", _, rfl, (by walk_at "mem"), ?_, ?_⟩
      · exact trivial
      · exact fun h hh => .lst (hh (r4, _) (by walk_at "mem")) rfl rfl
    | 3, _ =>
      refine ⟨r6, _, "NoneType", _, rfl, (by walk_at "mem"), ?_, ?_⟩
      · exact trivial
      · exact fun h hh => .none
    | 4, _ =>
      refine ⟨r7, _, "bytes", _, rfl, (by walk_at "mem"), ?_, ?_⟩
      · exact Nat.succ_ne_zero _
      · exact fun h hh => .bytes _
    | 5, _ =>
      refine ⟨r9, _, "dict", _, rfl, (by walk_at "mem"), ?_, ?_⟩
      · exact trivial
      · exact fun h hh => .dct (hh (r8, _) (by walk_at "mem")) rfl rfl
  clear N12 r1 r2 r3 r4 r5 r6 r7 r8 r9
  refine iter_rngO (a := 0) (b := sv.length + 1) F12 N13 (N13 _ (.head _)).1 (by omega) (by omega) fun it e13 F14 N14 a14 n14 => ?_
  dsimp only
  have a15 : ∀ q ∈ SN ++ [(103, tabObj #[])], q.1 ≠ it := fun q hq => a14 q (.tail _ hq)
  refine hideF (fun j s' => ∃ i m h' tk, s' = { s₁ with heap := h', toks := tk } ∧ i + j = sv.length + 1 ∧ P h' ∧ Fr (cut h' s₁.heap [103]) s₁.heap.objs.size h' m ∧ News (cut h' s₁.heap [103]) s₁.heap.objs.size h' ((it, rngI (i : Int) (j : Int) 1) :: (SN ++ [(103, tabObj #[])])) ∧
    m (Str.ofString "script") = some (.ref a) ∧ m (Str.ofString "strangers") = some (.ref r10)) (sv.length + 1)
    ⟨0, _, e13, _, rfl, by omega, (hP _).mpr (B.rebase F14), B.frNow F14, B.newsNow (fun q hq => by
      rcases List.mem_cons.mp hq with rfl | hq
      · exact N14 _ (.head _)
      · exact N14 q (.tail _ (.tail _ hq))), rfl, rfl⟩ fun J hJ hJ0 => ?_
  refine codeAny_forLoop_any J ?_ (sv.length + 1) hJ0
  clear hJ0
  clear N13 F12 F14 N14 a14 n14 X T Ha
  intro j s' hj0
  obtain ⟨i, m, h', tk, rfl, hij, hP', F, N, m1, m2⟩ := (hJ _ _).mp hj0
  clear hj0
  have B' := (hP _).mp hP'
  have X := B'.X
  have T := B'.T
  have Ha := B'.oldCut hsv ha3 (fun q => nomatch q)
  cases j with
  | zero =>
    clear hJ
    refine nextEnd_N F N a15 B'.C.hd (by simp) fun h5 F5 N5 => ?_
    have haf : a ∉ frs [envOf (Str.ofString "law") lawScope s₁.heap.objs.size fa cd] := fun q => Nat.ne_of_lt (Heap.lt_size hsv) (List.mem_singleton.mp q)
    dsimp only
    clear F N
    repeat' (walk_at "m")
    dsimp only [List.nil_append]
    refine lawheap_w (B'.now F5) (F5.keep _ _ Ha) haf hiv hz fun hp c6 h6 tk6 hv R6 hn6 ho6 hi6 hl6 => ?_
    obtain ⟨B6, F6⟩ := B'.after F5 R6 (fun a ha => nomatch ha)
    have N6 : News (cut h6 s₁.heap [103]) s₁.heap.objs.size h6 ((hp, lst hv c6) :: (SN ++ [(103, tabObj #[])])) := fun q hq => by
      rcases List.mem_cons.mp hq with rfl | hq
      · exact B'.newsNew F5 hn6 ho6
      · exact B'.newsAfter F5 R6 N5 (fun _ _ => List.not_mem_nil) q hq
    have no1 : ∀ q ∈ SN, q.1 ≠ 103 := fun q hq => News.ne_of_cls N6 (q := q) (p := (103, _)) (.tail _ (List.mem_append_left _ hq)) (.tail _ (List.mem_append_right _ (.head _))) (hno q hq)
    have no2 : hp ≠ 103 := News.ne_of_cls N6 (q := (hp, _)) (p := (103, _)) (.head _) (.tail _ (List.mem_append_right _ (.head _))) (by simp [tabObj])
    clear X T Ha F5 N5
    have X := B6.X
    have T := B6.T
    try dsimp only
    repeat' (walk_at "m")
    rename_i h7 F7 N7
    refine iterL_N F7 N7 (N7 _ (.tail _ (List.mem_append_left _ hst))).1 fun it2 o8 h8 ho8 F8 N8 a8 n8 => ?_
    dsimp only
    have no3 : ∀ q ∈ (hp, lst hv c6) :: SN, q.1 ≠ it2 := fun q hq => by
      rcases List.mem_cons.mp hq with rfl | hq
      · exact a8 _ (.head _)
      · exact a8 q (.tail _ (List.mem_append_left _ hq))
    refine hideF (fun j s' => ∃ i m h' tk o tn, s' = { s₁ with heap := h', toks := tk } ∧ i + j = 6 ∧ IsLI o r10 i ∧ TabL tn ∧ P h' ∧ Fr (cut h' s₁.heap [103]) s₁.heap.objs.size h' m ∧ News (cut h' s₁.heap [103]) s₁.heap.objs.size h' ((it2, o) :: (hp, lst hv c6) :: (SN ++ tn)) ∧
      (∀ q ∈ tn, q.1 ≠ it2) ∧ m (Str.ofString "heap") = some (.ref hp)) 6
      ⟨0, _, h8, _, o8, _, rfl, rfl, ho8, .none, (hP _).mpr (B6.rebase F8), B6.frNow F8, B6.newsNow N8, fun q hq => a8 q (.tail _ (List.mem_append_right _ hq)), rfl⟩ fun J hJ hJ0 => ?_
    refine codeAny_forLoop_any J ?_ 6 hJ0
    clear hJ0
    clear F6 N6 F7 N7 F8 N8 a8 n8 ho8 X T B6 R6 hn6 ho6 m1 m2
    intro j s' hj0
    obtain ⟨i, m, h', tk, o, tn, rfl, hij2, hLI, hTab, hP2, F, N, a9, m1⟩ := (hJ _ _).mp hj0
    clear hj0
    have B' := (hP _).mp hP2
    have X := B'.X
    have T := B'.T
    have hap : ∀ q ∈ (hp, lst hv c6) :: (SN ++ tn), q.1 ≠ it2 := fun q hq => by
      rcases List.mem_cons.mp hq with rfl | hq
      · exact no3 _ (.head _)
      · rcases List.mem_append.mp hq with hq | hq
        · exact no3 q (.tail _ hq)
        · exact a9 q hq
    have h103 : ∃ ps, (103, tabObj ps) ∈ tn := by
      cases hTab with
      | none => exact ⟨_, .head _⟩
      | some _ _ _ => exact ⟨_, .head _⟩
    obtain ⟨ps, h103⟩ := h103
    cases j with
    | zero =>
      clear hJ
      refine nextLEnd_N F N hap B'.C.hd hLI (N _ (.tail _ (.tail _ (List.mem_append_left _ hst)))).1 (by rw [hsix.len]; omega) fun h9 F9 N9 => ?_
      dsimp only
      repeat' (walk_at "m")
      refine hQ' _ _ ⟨?_, ⟨ps, (N9 _ (.tail _ (List.mem_append_right _ h103))).1⟩, trivial⟩
      have FG : Fr (ghostOf s₁.heap [(107, 103)]) s₁.heap.objs.size h9 _ := ⟨F9.ns, fun x ox e => F9.keep _ _ (B'.stays x ox e), Nat.le_of_eq (hideAll_size _ _)⟩
      refine goodW_bool FG hg (raisesW_false ?_) ?_
      · wrow_none_raised
      · clear FG F9 N9 F N X T B' hP2 hP B hP'
        first | wrow_post | kc_post
    | succ j =>
      obtain ⟨ti, one, TT, tkT, hti, hmem, hone, hkind⟩ := hsix.at_ i (by omega)
      refine nextL_N F N hap hLI (N _ (.tail _ (.tail _ (List.mem_append_left _ hst)))).1 (by rw [hsix.len]; omega) fun h9 o9 ho9 F9 N9 _ => ?_
      rw [hti]
      dsimp only
      refine wpAny_letOwnedTupleGo_listiter ⟨o9, (N9 _ (.head _)).1, ho9⟩ ?_
      refine unpack_N F9 N9 B'.C.hd (N9 _ (.tail _ (.tail _ (List.mem_append_left _ hmem)))).1 rfl rfl fun h10 F10 N10 => ?_
      clear F9 N9 F N
      dsimp only
      refine assignInOrder_cons ?_
      refine wpAny_assign_Name ?_
      repeat' (walk_at "m")
      refine assignInOrder_cons ?_
      refine wpAny_assign_Name ?_
      repeat' (walk_at "m")
      refine assignInOrder_nil ?_
      rename_i h11 F11 N11 h12 F12 N12
      clear F10 N10 F11 N11
      repeat' (walk_at "m")
      refine wpAny_If ?_
      repeat' (walk_at "m")
      dsimp only [List.nil_append]
      have nh := N12 _ (.tail _ (.head _))
      refine taken_w (B'.now F12) nh.1 (B'.newNot nh.2.1 nh.2.2) hi6 (by omega) (hkind _ fun q hq => (N12 q (.tail _ (.tail _ (List.mem_append_left _ hq)))).1) hTab (fun q hq => ?_) codeHd fun tn' h13 tk13 hTab' hq13 R13 => ?_
      · have n0 := N12 q (.tail _ (.tail _ (List.mem_append_right _ hq)))
        exact ⟨n0.1, B'.newNot n0.2.1 n0.2.2, B'.newB n0.2.2⟩
      obtain ⟨B13, F13⟩ := B'.after F12 R13 (fun x hx => hid_cut (.inl hx))
      have N13 : News (cut h13 s₁.heap [103]) s₁.heap.objs.size h13 ((it2, o9) :: (hp, lst hv c6) :: SN) := B'.newsAfter F12 R13 (fun q hq => N12 q (by
        rcases List.mem_cons.mp hq with rfl | hq
        · exact .head _
        rcases List.mem_cons.mp hq with rfl | hq
        · exact .tail _ (.head _)
        · exact .tail _ (.tail _ (List.mem_append_left _ hq)))) (fun q hq e => by
        have e := List.mem_singleton.mp e
        rcases List.mem_cons.mp hq with rfl | hq
        · exact a9 _ h103 e.symm
        rcases List.mem_cons.mp hq with rfl | hq
        · exact no2 e
        · exact no1 q hq e)
      have N14 : News (cut h13 s₁.heap [103]) s₁.heap.objs.size h13 tn' := fun q hq => by
        obtain ⟨e1, e2⟩ := hq13 q hq
        rcases e2 with e2 | e2 | e2
        · exact ⟨e1, by rw [e2]; exact (N12 _ (.tail _ (.tail _ (List.mem_append_right _ h103)))).2.1, hid_cut (.inl (by rw [e2]; exact .head _))⟩
        · have n0 := N12 q (.tail _ (.tail _ (List.mem_append_right _ e2)))
          exact ⟨e1, n0.2.1, hid_cut (B'.hidden n0.2.2)⟩
        · exact B'.newsNew F12 e2 e1
      have a14 : ∀ q ∈ tn', q.1 ≠ it2 := fun q hq => by
        obtain ⟨e1, e2⟩ := hq13 q hq
        rcases e2 with e2 | e2 | e2
        · rw [e2]; exact a9 _ h103
        · exact a9 q e2
        · intro e3
          have := (N12 (it2, o9) (.head _)).1
          rw [← e3, e2] at this; cases this
      try dsimp only
      repeat' (walk_at "m")
      rw [if_neg (by decide)]
      repeat' (walk_at "m")
      refine ⟨j, Nat.lt_succ_self _, (hJ _ _).mpr ⟨i + 1, _, h13, _, o9, tn', rfl, by omega, ho9, hTab', (hP _).mpr B13, F13, fun q hq => ?_, a14, m1⟩⟩
      rcases List.mem_cons.mp hq with rfl | hq
      · exact N13 _ (.head _)
      rcases List.mem_cons.mp hq with rfl | hq
      · exact N13 _ (.tail _ (.head _))
      rcases List.mem_append.mp hq with hq | hq
      · exact N13 q (.tail _ (.tail _ hq))
      · exact N14 q hq
  | succ j =>
    refine next_N F N a15 (by omega) fun h5 F5 N5 => ?_
    dsimp only
    rw [show (((i : Nat) : Int) + 1) = ((i + 1 : Nat) : Int) by omega, show (((j + 1 : Nat) : Int) - 1) = (j : Int) by omega] at N5
    refine wpAny_of_eq (a := ()) rfl ?_
    refine wpAny_assign_Name ?_
    repeat' (walk_at "m")
    refine Assign_Tuple ?_ (by with_unfolding_all rfl) (by with_unfolding_all rfl)
    repeat' (walk_at "m")
    rename_i h6 F6 N6
    clear F5 N5
    have h6i : i % 6 < 6 := Nat.mod_lt _ (by decide)
    obtain ⟨ti, one, TT, tkT, hti, hmem, hone, hkind⟩ := hsix.at_ (i % 6) h6i
    refine item_at (N6 _ (.tail _ (List.mem_append_left _ hst))).1 (by rw [hsix.len]; exact h6i) (by rw [hsix.len]; decide) ?_ (by with_unfolding_all rfl)
    rw [hti]
    refine unpack_N F6 N6 B'.C.hd (N6 _ (.tail _ (List.mem_append_left _ hmem))).1 rfl rfl fun h7 F7 N7 => ?_
    clear F6 N6
    dsimp only
    refine assignInOrder_cons ?_
    refine wpAny_assign_Name ?_
    repeat' (walk_at "m")
    refine assignInOrder_cons ?_
    refine wpAny_assign_Name ?_
    repeat' (walk_at "m")
    refine assignInOrder_nil ?_
    rename_i h8 F8 N8 h9 F9 N9
    clear F7 N7 F8 N8
    repeat' (walk_at "m")
    refine wpAny_If ?_
    repeat' (walk_at "m")
    dsimp only [List.nil_append]
    have hK : ∀ {h : Heap} {g : Heap} {L : Addr} {x : Addr × Obj}, News g L h (x :: (SN ++ [(103, tabObj #[])])) → Kind h one TT := fun N => hkind _ fun q hq => (N q (.tail _ (List.mem_append_left _ hq))).1
    have haf : a ∉ frs [envOf (Str.ofString "law") lawScope s₁.heap.objs.size fa cd] := fun q => Nat.ne_of_lt (Heap.lt_size hsv) (List.mem_singleton.mp q)
    refine build_w (B'.now F9) (F9.keep _ _ Ha) haf hiv hz (by omega) (hK N9) hone (.inl ⟨rfl, rfl⟩) fun h10 tk10 R10 => ?_
    obtain ⟨B10, F10⟩ := B'.after F9 R10 (fun a ha => nomatch ha)
    have N10 := B'.newsAfter F9 R10 N9 (fun _ _ => List.not_mem_nil)
    clear X T
    have X := B10.X
    have T := B10.T
    have Ha10 := B10.oldCut hsv ha3 (fun q => nomatch q)
    try dsimp only
    repeat' (walk_at "m")
    rw [if_neg (by decide)]
    repeat' (walk_at "m")
    refine wpAny_If ?_
    repeat' (walk_at "m")
    dsimp only [List.nil_append]
    refine build_w (B10.now F10) (F10.keep _ _ Ha10) haf hiv hz (by omega) (hK N10) hone (.inr ⟨rfl, rfl⟩) fun h11 tk11 R11 => ?_
    obtain ⟨B11, F11⟩ := B10.after F10 R11 (fun a ha => nomatch ha)
    have N11 := B10.newsAfter F10 R11 N10 (fun _ _ => List.not_mem_nil)
    try dsimp only
    repeat' (walk_at "m")
    rw [if_neg (by decide)]
    repeat' (walk_at "m")
    exact ⟨j, Nat.lt_succ_self _, (hJ _ _).mpr ⟨i + 1, _, h11, _, rfl, by omega, (hP _).mpr B11, F11, N11, m1, m2⟩⟩
end
end Mine
theorem PySem.Challenge.cw_dp0041_01_holds : PySem.Challenge.rw_dp0041_01.Holds :=
  Mine.law_holds
