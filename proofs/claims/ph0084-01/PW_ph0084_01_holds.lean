import PyProof.Rows.All
import Wide.All
import OpenK.AllK
import Wide.FinOn
import Lean
import PySem.Challenge.RW_ph0084_01
set_option Elab.async false
set_option maxRecDepth 100000
set_option linter.unusedVariables false

section
open PySem PySem.W PyProof.Rows PySem.Calls
namespace Mine

/-! ## Stores of frozen objects, data read in a store -/

abbrev Store := Addr → Option Obj
def Store.put (G : Store) (a : Addr) (o : Obj) : Store := fun b => if b = a then some o else G b
def SubS (G : Store) (h : Heap) : Prop := ∀ a o, G a = some o → h.get? a = some o
def LeS (G G' : Store) : Prop := ∀ a o, G a = some o → G' a = some o
theorem LeS.refl (G : Store) : LeS G G := fun _ _ e => e
theorem LeS.trans {G G' G'' : Store} (x : LeS G G') (y : LeS G' G'') : LeS G G'' := fun a o e => y a o (x a o e)

abbrev tupO (vs : List Value) (n : Nat) : Obj := { cls := .type "tuple", data := .seq vs.toArray n }
abbrev lstO (vs : List Value) (n : Nat) : Obj := { cls := .type "list", data := .seq vs.toArray n }

mutual
inductive Rd (G : Store) : Value → Dat → Prop
  | none : Rd G Value.none Dat.none
  | int (i : Int) (t : Tok) : Rd G (Value.int i t) (Dat.int i)
  | str (x : Str) (t : Tok) : Rd G (Value.str x t) (Dat.str x)
  | tuple {a : Addr} {vs : List Value} {n : Nat} {ds : List Dat} : G a = some (tupO vs n) → RdL G vs ds → Rd G (Value.ref a) (Dat.tuple ds)
  | list {a : Addr} {vs : List Value} {n : Nat} {ds : List Dat} : G a = some (lstO vs n) → RdL G vs ds → Rd G (Value.ref a) (Dat.list ds)
inductive RdL (G : Store) : List Value → List Dat → Prop
  | nil : RdL G [] []
  | cons {v : Value} {vs : List Value} {d : Dat} {ds : List Dat} : Rd G v d → RdL G vs ds → RdL G (v :: vs) (d :: ds)
end
mutual
theorem Rd.mono {G G' : Store} (k : LeS G G') : ∀ {v : Value} {d : Dat}, Rd G v d → Rd G' v d
  | _, _, .none => .none
  | _, _, .int i t => .int i t
  | _, _, .str x t => .str x t
  | _, _, .tuple h r => .tuple (k _ _ h) (RdL.mono k r)
  | _, _, .list h r => .list (k _ _ h) (RdL.mono k r)
theorem RdL.mono {G G' : Store} (k : LeS G G') : ∀ {vs : List Value} {ds : List Dat}, RdL G vs ds → RdL G' vs ds
  | _, _, .nil => .nil
  | _, _, .cons h r => .cons (Rd.mono k h) (RdL.mono k r)
end
section
variable {G : Store} {v : Value} {d : Dat} {vs ws : List Value} {ds es : List Dat}
theorem RdL.length (h : RdL G vs ds) : vs.length = ds.length := by
  induction vs generalizing ds with
  | nil => cases h; rfl
  | cons v vs ih => cases h with | cons _ r => rw [List.length_cons, List.length_cons, ih r]
theorem RdL.append (h : RdL G vs ds) (k : RdL G ws es) : RdL G (vs ++ ws) (ds ++ es) := by
  induction vs generalizing ds with
  | nil => cases h; exact k
  | cons v vs ih => cases h with | cons h r => exact .cons h (ih r)
theorem RdL.one (h : Rd G v d) : RdL G [v] [d] := .cons h .nil
theorem RdL.get (h : RdL G vs ds) {k : Nat} {d : Dat} (hk : ds[k]? = some d) : ∃ v, vs[k]? = some v ∧ Rd G v d := by
  induction vs generalizing ds k with
  | nil => cases h; simp at hk
  | cons v vs ih =>
    cases h with
    | cons h r =>
      cases k with
      | zero => simp at hk; subst hk; exact ⟨v, rfl, h⟩
      | succ k => simp at hk; simpa using ih r hk
theorem RdL.at (h : RdL G vs ds) {k : Nat} {v : Value} (hk : vs[k]? = some v) : ∃ d, ds[k]? = some d ∧ Rd G v d := by
  induction vs generalizing ds k with
  | nil => simp at hk
  | cons w vs ih =>
    cases h with
    | cons h r =>
      cases k with
      | zero => simp at hk; subst hk; exact ⟨_, rfl, h⟩
      | succ k => simp at hk; simpa using ih r hk
theorem RdL.take (h : RdL G vs ds) (n : Nat) : RdL G (vs.take n) (ds.take n) := by
  induction vs generalizing ds n with
  | nil => cases h; simp; exact .nil
  | cons w vs ih =>
    cases h with
    | cons h r => cases n with
      | zero => exact .nil
      | succ n => exact .cons h (ih r n)
theorem RdL.drop (h : RdL G vs ds) (n : Nat) : RdL G (vs.drop n) (ds.drop n) := by
  induction vs generalizing ds n with
  | nil => cases h; simp; exact .nil
  | cons w vs ih =>
    cases h with
    | cons h r => cases n with
      | zero => exact .cons h r
      | succ n => exact ih r n
end
mutual
theorem Rd.reads {G : Store} {h : Heap} (S : SubS G h) : ∀ {v : Value} {d : Dat} (n : Nat), Rd G v d → kqdOk n d = true → ∃ as, Reads h v (kqdP d) as
  | _, _, _, .none, _ => ⟨_, Reads.none⟩
  | _, _, _, .int i t, _ => ⟨_, Reads.int i t⟩
  | _, _, _, .str x t, _ => ⟨_, Reads.str x t⟩
  | _, _, 0, .tuple _ _, hk => by simp [kqdOk] at hk
  | _, _, 0, .list _ _, hk => by simp [kqdOk] at hk
  | _, _, n + 1, .tuple hm r, hk => by
    obtain ⟨as, q⟩ := RdL.reads S n r (by simpa [kqdOk] using hk)
    rw [kqdP]
    exact ⟨as, reads_tuple_at (S _ _ hm) rfl rfl (by simpa using q)⟩
  | _, _, n + 1, .list hm r, hk => by
    obtain ⟨as, q⟩ := RdL.reads S n r (by simpa [kqdOk] using hk)
    rw [kqdP]
    exact ⟨_, reads_list_at (S _ _ hm) rfl rfl (by simpa using q)⟩
theorem RdL.reads {G : Store} {h : Heap} (S : SubS G h) : ∀ {vs : List Value} {ds : List Dat} (n : Nat), RdL G vs ds → (∀ d ∈ ds, kqdOk n d = true) → ∃ as, ReadsAll h vs (kqdPs ds) as
  | _, _, _, .nil, _ => ⟨_, ReadsAll.nil⟩
  | _, _, n, .cons hd r, hk => by
    obtain ⟨as, q⟩ := Rd.reads S n hd (hk _ (.head _))
    obtain ⟨bs, p⟩ := RdL.reads S n r fun d hm => hk d (.tail _ hm)
    rw [kqdPs]
    exact ⟨_, ReadsAll.cons q p⟩
end

/-! ## What a run keeps -/

/-- all is kept but the objects of `ex`; of the frames `fs` the slots may turn -/
def KeepF (fs ex : List Addr) (h h' : Heap) : Prop :=
  ∀ b o, b ∉ ex → h.get? b = some o → (b ∉ fs → h'.get? b = some o) ∧ ∃ sl, h'.get? b = some { o with slots := sl }
theorem KeepF.refl (fs ex : List Addr) (h : Heap) : KeepF fs ex h h := fun _ o _ e => ⟨fun _ => e, o.slots, e⟩
theorem KeepF.trans {fs ex : List Addr} {h h' h'' : Heap} (x : KeepF fs ex h h') (y : KeepF fs ex h' h'') : KeepF fs ex h h'' := by
  intro b o hb e
  obtain ⟨x1, sl, x2⟩ := x b o hb e
  obtain ⟨_, sl', y2⟩ := y b _ hb x2
  exact ⟨fun hf => (y b o hb (x1 hf)).1 hf, sl', y2⟩
theorem KeepF.of_keep {fs ex : List Addr} {h h' : Heap} (k : ∀ b o, h.get? b = some o → h'.get? b = some o) : KeepF fs ex h h' :=
  fun b o _ e => ⟨fun _ => k b o e, o.slots, k b o e⟩
theorem KeepF.mono {fs fs' ex ex' : List Addr} {h h' : Heap} (x : KeepF fs ex h h') (hf : ∀ b ∈ fs, b ∈ fs') (hx : ∀ b ∈ ex, b ∈ ex') : KeepF fs' ex' h h' :=
  fun b o hb e => ⟨fun hn => (x b o (fun q => hb (hx b q)) e).1 fun q => hn (hf b q), (x b o (fun q => hb (hx b q)) e).2⟩

theorem none_of {h h' : Heap} {b : Addr} (k : (h.get? b).isSome = true → (h'.get? b).isSome = true) (hn : h'.get? b = none) : h.get? b = none := by
  cases hq : h.get? b with
  | none => rfl
  | some o => have := k (by rw [hq]; rfl); rw [hn] at this; cases this

structure Step (fs ex : List Addr) (G : Store) (s : Shared) (G' : Store) (s' : Shared) : Prop where
  le : LeS G G'
  sub : SubS G' s'.heap
  new : ∀ a o, G' a = some o → G a = some o ∨ s.heap.get? a = none
  keep : KeepF fs ex s.heap s'.heap
  alive : ∀ b, (s.heap.get? b).isSome = true → (s'.heap.get? b).isSome = true
  os : s'.os = s.os
  gens : s'.gens = s.gens
theorem Step.refl {fs ex : List Addr} {G : Store} {s : Shared} (S : SubS G s.heap) : Step fs ex G s G s :=
  ⟨.refl _, S, fun _ _ e => .inl e, KeepF.refl _ _ _, fun _ h => h, rfl, rfl⟩
theorem Step.trans {fs ex : List Addr} {G G' G'' : Store} {s s' s'' : Shared} (x : Step fs ex G s G' s') (y : Step fs ex G' s' G'' s'') : Step fs ex G s G'' s'' :=
  ⟨x.le.trans y.le, y.sub, fun a o e => (y.new a o e).elim (x.new a o) fun h => .inr (none_of (x.alive a) h), x.keep.trans y.keep, fun b h => y.alive b (x.alive b h), y.os.trans x.os, y.gens.trans x.gens⟩
theorem Step.toks {fs ex : List Addr} {G G' : Store} {s s' : Shared} (x : Step fs ex G s G' s') (t : Nat) : Step fs ex G s G' { s' with toks := t } := ⟨x.le, x.sub, x.new, x.keep, x.alive, x.os, x.gens⟩
theorem alive_keep {h h' : Heap} (k : ∀ b o, h.get? b = some o → ∃ o', h'.get? b = some o') (b : Addr) (hb : (h.get? b).isSome = true) : (h'.get? b).isSome = true := by
  cases q : h.get? b with
  | none => rw [q] at hb; cases hb
  | some o => obtain ⟨o', e⟩ := k b o q; rw [e]; rfl

abbrev frs (outer : List Env) : List Addr := outer.filterMap (·.frame)

/-- a made thing of the frame's own: an object, or a namespace -/
inductive It where
  | ob (o : Obj)
  | ns (m : Str → Option Value)
  | pr (P : Obj → Prop)
def It.In (h : Heap) (a : Addr) : It → Prop
  | .ob o => h.get? a = some o
  | .ns m => h.Ns a m
  | .pr P => ∃ o, h.get? a = some o ∧ P o
theorem It.In.lt {h : Heap} {a : Addr} {i : It} (x : i.In h a) : a < h.objs.size := by
  cases i with
  | ob o => exact Heap.lt_size x
  | ns m => exact Heap.Ns.lt x
  | pr P => obtain ⟨o, ho, _⟩ := x; exact Heap.lt_size ho
theorem It.In.there {h : Heap} {a : Addr} {i : It} (x : i.In h a) : (h.get? a).isSome = true := by
  cases i with
  | ob o => have x' : h.get? a = .some o := x; rw [x']; rfl
  | ns m => obtain ⟨o, _, _, ho, _⟩ := x; rw [ho]; rfl
  | pr P => obtain ⟨o, ho, _⟩ := x; rw [ho]; rfl
theorem It.In.keep {h h' : Heap} {a : Addr} {i : It} (x : i.In h a) (k : ∀ o, h.get? a = some o → h'.get? a = some o) : i.In h' a := by
  cases i with
  | ob o => exact k _ x
  | ns m => obtain ⟨o, es, ep, ho, r⟩ := x; exact ⟨o, es, ep, k _ ho, r⟩
  | pr P => obtain ⟨o, ho, r⟩ := x; exact ⟨o, k _ ho, r⟩

theorem ns_slots {h h' : Heap} {L : Addr} {m : Str → Option Value} (n : h.Ns L m) (k : ∀ o, h.get? L = some o → ∃ sl, h'.get? L = some { o with slots := sl }) : h'.Ns L m := by
  obtain ⟨o, es, ep, ho, r⟩ := n
  obtain ⟨sl, e⟩ := k o ho
  exact ⟨_, es, ep, e, r⟩

theorem ff_keep {h h' base : Heap} : ∀ {l : List Env}, h.FunFrames base l → (∀ L ∈ frs l, ∀ o, h.get? L = some o → ∃ o', h'.get? L = some o' ∧ o'.data = o.data) → h'.FunFrames base l
  | [], _, _ => trivial
  | env :: l, ⟨hk, ⟨L, o, hf, hn, ho, hd⟩, hr⟩, k => by
    have hm : L ∈ frs (env :: l) := by simp [frs, List.filterMap_cons, hf]
    obtain ⟨o', ho', hd'⟩ := k L hm o ho
    refine ⟨hk, ⟨L, o', hf, hn, ho', fun vs => hd' ▸ hd vs⟩, ff_keep hr fun L' hL' => k L' ?_⟩
    simp only [frs, List.filterMap_cons, hf]
    exact List.mem_cons_of_mem _ hL'
theorem ff_some {h base : Heap} {l : List Env} (x : h.FunFrames base l) {a : Addr} (ha : a ∈ frs l) : (h.get? a).isSome = true := by
  obtain ⟨_, o, ho, _⟩ := x.mem ha
  rw [ho]; rfl
theorem ff_base {h base base' : Heap} : ∀ {l : List Env}, h.FunFrames base l → (∀ L ∈ frs l, base'.get? L = none) → h.FunFrames base' l
  | [], _, _ => trivial
  | env :: l, ⟨hk, ⟨L, o, hf, _, ho, hd⟩, hr⟩, k => by
    have hm : L ∈ frs (env :: l) := by simp [frs, List.filterMap_cons, hf]
    refine ⟨hk, ⟨L, o, hf, k L hm, ho, hd⟩, ff_base hr fun L' hL' => k L' ?_⟩
    simp only [frs, List.filterMap_cons, hf]
    exact List.mem_cons_of_mem _ hL'

theorem ns_some {h : Heap} {L : Addr} {m : Str → Option Value} (n : h.Ns L m) : (h.get? L).isSome = true := by
  obtain ⟨o, _, _, ho, _⟩ := n
  rw [ho]; rfl

structure In (outer : List Env) (ex : List Addr) (s0 : Shared) (G0 G : Store) (L : Addr) (m : Str → Option Value) (mu : List (Addr × It)) (s : Shared) : Prop extends Step (frs outer) ex G0 s0 G s where
  ns : s.heap.Ns L m
  above : s0.heap.get? L = none
  gL : G L = none
  mus : ∀ p ∈ mu, p.2.In s.heap p.1 ∧ G p.1 = none ∧ p.1 ≠ L ∧ p.1 ∉ frs outer ∧ (s0.heap.get? p.1 = none ∨ p.1 ∈ ex)
  nd : (mu.map (·.1)).Nodup
  gfs : ∀ a ∈ frs outer, G a = none
  ff : s.heap.FunFrames {} outer
  fex : ∀ a ∈ frs outer, a ∉ ex
  fsl : ∀ a ∈ frs outer, (s0.heap.get? a).isSome = true

theorem ne_of_some {h : Heap} {a b : Addr} (x : (h.get? a).isSome = true) (y : h.get? b = none) : a ≠ b := fun q => by rw [q, y] at x; cases x

section
variable {outer : List Env} {ex : List Addr} {s0 s s' : Shared} {G0 G G' : Store} {L : Addr} {m m' : Str → Option Value} {mu mu' : List (Addr × It)}

theorem In.tok (x : In outer ex s0 G0 G L m mu s) (t : Nat) : In outer ex s0 G0 G L m mu { s with toks := t } :=
  ⟨x.toStep.toks t, x.ns, x.above, x.gL, x.mus, x.nd, x.gfs, x.ff, x.fex, x.fsl⟩
theorem In.drop (x : In outer ex s0 G0 G L m mu s) (hs : mu'.Sublist mu) : In outer ex s0 G0 G L m mu' s :=
  ⟨x.toStep, x.ns, x.above, x.gL, fun p hp => x.mus p (hs.subset hp), x.nd.sublist (hs.map _), x.gfs, x.ff, x.fex, x.fsl⟩
theorem In.perm (x : In outer ex s0 G0 G L m mu s) (hs : mu'.Perm mu) : In outer ex s0 G0 G L m mu' s :=
  ⟨x.toStep, x.ns, x.above, x.gL, fun p hp => x.mus p (hs.mem_iff.mp hp), (hs.map _).nodup_iff.mpr x.nd, x.gfs, x.ff, x.fex, x.fsl⟩
theorem In.swap {p q : Addr × It} (x : In outer ex s0 G0 G L m (p :: q :: mu) s) : In outer ex s0 G0 G L m (q :: p :: mu) s := x.perm (.swap _ _ _)
theorem In.gsome (x : In outer ex s0 G0 G L m mu s) {a : Addr} {o : Obj} (h : G a = some o) : (s.heap.get? a).isSome = true := by rw [x.sub _ _ h]; rfl

/-- the general turn of the heap -/
theorem In.turn (x : In outer ex s0 G0 G L m mu s) (hle : LeS G G') (hsub : SubS G' s'.heap) (hnew : ∀ a o, G' a = some o → G a = some o ∨ s0.heap.get? a = none)
    (hkeep : KeepF (frs outer) ex s0.heap s'.heap) (hal : ∀ b, (s0.heap.get? b).isSome = true → (s'.heap.get? b).isSome = true) (hos : s'.os = s.os) (hg : s'.gens = s.gens)
    (hns : s'.heap.Ns L m') (hgL : G' L = none) (hmus : ∀ p ∈ mu', p.2.In s'.heap p.1 ∧ G' p.1 = none ∧ p.1 ≠ L ∧ p.1 ∉ frs outer ∧ (s0.heap.get? p.1 = none ∨ p.1 ∈ ex)) (hnd : (mu'.map (·.1)).Nodup)
    (hff : ∀ L ∈ frs outer, ∀ o, s.heap.get? L = some o → ∃ o', s'.heap.get? L = some o' ∧ o'.data = o.data) : In outer ex s0 G0 G' L m' mu' s' := by
  refine ⟨⟨x.le.trans hle, hsub, fun a o e => ?_, hkeep, hal, hos.trans x.os, hg.trans x.gens⟩, hns, x.above, hgL, hmus, hnd, fun a ha => ?_, ff_keep x.ff hff, x.fex, x.fsl⟩
  · rcases hnew a o e with h | h
    · exact x.new a o h
    · exact .inr h
  · cases q : G' a with
    | none => rfl
    | some o =>
      rcases hnew a o q with h | h
      · rw [x.gfs a ha] at h; cases h
      · have := x.fsl a ha; rw [h] at this; cases this

theorem In.old_ne (x : In outer ex s0 G0 G L m mu s) {b : Addr} {o : Obj} (e : s0.heap.get? b = some o) : b ≠ L := ne_of_some (by rw [e]; rfl) x.above
/-- what was kept is kept on, where the addresses that turn are no elder ones -/
theorem In.keepOn (x : In outer ex s0 G0 G L m mu s) {h' : Heap} (k : ∀ b o, b ∉ ex → (s0.heap.get? b).isSome = true → s.heap.get? b = some o → h'.get? b = some o) : KeepF (frs outer) ex s0.heap h' := by
  intro b o hb e
  have e' : (s0.heap.get? b).isSome = true := by rw [e]; rfl
  obtain ⟨x1, sl, x2⟩ := x.keep b o hb e
  exact ⟨fun hf => k b o hb e' (x1 hf), sl, k b _ hb e' x2⟩
theorem In.nf (x : In outer ex s0 G0 G L m mu s) {a : Addr} (ha : a ∈ frs outer) : a ≠ L := ne_of_some (x.fsl a ha) x.above

theorem alive_but {h h' : Heap} {a : Addr} (hs : Heap.SameBut a h h') (ha : (h'.get? a).isSome = true) (b : Addr) (hb : (h.get? b).isSome = true) : (h'.get? b).isSome = true := by
  by_cases q : b = a
  · rw [q]; exact ha
  · rw [hs.2 b q]; exact hb

theorem In.set (x : In outer ex s0 G0 G L m mu s) {h' : Heap} (t : Nat) (hn : h'.Ns L m') (hs : Heap.SameBut L s.heap h') : In outer ex s0 G0 G L m' mu { s with heap := h', toks := t } := by
  have other : ∀ b, b ≠ L → h'.get? b = s.heap.get? b := fun b hb => hs.2 b hb
  refine x.turn (.refl _) (fun a o e => ?_) (fun a o e => .inl e) (x.keepOn fun b o _ hb e => ?_) (fun b h => alive_but hs (ns_some hn) b (x.alive b h)) rfl rfl hn x.gL (fun p hp => ?_) x.nd fun a ha o e => ⟨o, (other a (x.nf ha)).trans e, rfl⟩
  · exact (other a fun q => by rw [q, x.gL] at e; cases e).trans (x.sub a o e)
  · exact (other b (ne_of_some hb x.above)).trans e
  · obtain ⟨h1, h2, h3, h4, h5⟩ := x.mus p hp
    exact ⟨h1.keep fun o e => (other p.1 h3).trans e, h2, h3, h4, h5⟩

/-- the head of the frame's own things turns -/
theorem In.setMu {a : Addr} {i i' : It} (x : In outer ex s0 G0 G L m ((a, i) :: mu) s) {h' : Heap} (t : Nat) (hn : i'.In h' a) (hs : Heap.SameBut a s.heap h') : In outer ex s0 G0 G L m ((a, i') :: mu) { s with heap := h', toks := t } := by
  have other : ∀ b, b ≠ a → h'.get? b = s.heap.get? b := fun b hb => hs.2 b hb
  obtain ⟨a1, a2, a3, a4, a5⟩ := x.mus (a, i) (.head _)
  have hnd := x.nd
  simp only [List.map_cons, List.nodup_cons] at hnd
  refine x.turn (.refl _) (fun b o e => ?_) (fun a o e => .inl e) (x.keepOn fun b o hx hb e => ?_) (fun b h => alive_but hs hn.there b (x.alive b h)) rfl rfl ?_ x.gL (fun p hp => ?_) (by simpa using hnd) fun b hb o e => ⟨o, (other b ?_).trans e, rfl⟩
  · exact (other b fun q => by rw [q, a2] at e; cases e).trans (x.sub b o e)
  · exact (other b fun q => a5.elim (fun h => ne_of_some hb h q) fun h => hx (q ▸ h)).trans e
  · exact x.ns.sameBut hs (Ne.symm a3)
  · rcases List.mem_cons.mp hp with rfl | hp
    · exact ⟨hn, a2, a3, a4, a5⟩
    · obtain ⟨h1, h2, h3, h4, h5⟩ := x.mus p (.tail _ hp)
      have hpa : p.1 ≠ a := fun q => hnd.1 (q ▸ List.mem_map_of_mem hp)
      exact ⟨h1.keep fun o e => (other p.1 hpa).trans e, h2, h3, h4, h5⟩
  · exact fun q => a4 (q ▸ hb)
theorem In.updMu {a : Addr} {o o' : Obj} {f : Obj → Obj} (x : In outer ex s0 G0 G L m ((a, .ob o) :: mu) s) (t : Nat) (hf : f o = o') (hfree : o'.isFreed = false) : In outer ex s0 G0 G L m ((a, .ob o') :: mu) { s with heap := s.heap.update a f, toks := t } := by
  have ho : s.heap.get? a = some o := (x.mus _ (.head _)).1
  refine x.setMu t ?_ ⟨Heap.size_after_update .., fun b hb => Heap.get?_update_other _ _ (Ne.symm hb)⟩
  exact (Heap.get?_update_self f ho (by rw [hf]; exact hfree)).trans (by rw [hf])

/-- a new object, kept as one that may turn -/
theorem In.alloc (x : In outer ex s0 G0 G L m mu s) (o : Obj) (t : Nat) (hfree : o.isFreed = false := by rfl) : In outer ex s0 G0 G L m ((s.heap.objs.size, .ob o) :: mu) { s with heap := s.heap.push o, toks := t } := by
  have k : ∀ b o', s.heap.get? b = some o' → (s.heap.push o).get? b = some o' := fun b o' e => Heap.get?_push_of_some _ e
  have hn : s.heap.get? s.heap.objs.size = none := Heap.get?_none_of_le (Nat.le_refl _)
  have hn0 : s0.heap.get? s.heap.objs.size = none := none_of (x.alive _) hn
  refine x.turn (.refl _) (fun b o e => k b o (x.sub b o e)) (fun a o e => .inl e) (x.keepOn fun b o _ _ e => k b o e) (fun b h => alive_keep (fun b o e => ⟨o, k b o e⟩) b (x.alive b h)) rfl rfl (x.ns.keeps k) x.gL (fun p hp => ?_) ?_ fun b hb o e => ⟨o, k b o e, rfl⟩
  · rcases List.mem_cons.mp hp with rfl | hp
    · refine ⟨Heap.get?_push_size _ hfree, ?_, (ne_of_some (ns_some x.ns) hn).symm, fun q => ne_of_some (x.fsl _ q) hn0 rfl, .inl hn0⟩
      cases q : G s.heap.objs.size with
      | none => rfl
      | some o' => exact absurd rfl (ne_of_some (x.gsome q) hn)
    · obtain ⟨h1, h2, h3, h4, h5⟩ := x.mus p hp
      exact ⟨h1.keep fun o e => k _ o e, h2, h3, h4, h5⟩
  · simp only [List.map_cons, List.nodup_cons]
    refine ⟨fun hm => ?_, x.nd⟩
    obtain ⟨p, hp, e⟩ := List.mem_map.mp hm
    exact ne_of_some (x.mus p hp).1.there hn e

/-- an own object is frozen -/
theorem In.freeze {a : Addr} {o : Obj} (x : In outer ex s0 G0 G L m ((a, .ob o) :: mu) s) (hex : a ∉ ex) : In outer ex s0 G0 (G.put a o) L m mu s := by
  obtain ⟨a1, a2, a3, a4, a5⟩ := x.mus _ (.head _)
  have hnd := x.nd
  simp only [List.map_cons, List.nodup_cons] at hnd
  refine x.turn (fun b o' e => ?_) (fun b o' e => ?_) (fun b o' e => ?_) x.keep x.alive rfl rfl x.ns ?_ (fun p hp => ?_) hnd.2 fun b hb o e => ⟨o, e, rfl⟩
  · show (if b = a then some o else G b) = some o'
    rw [if_neg fun q => by rw [q, a2] at e; cases e]; exact e
  · have e' : (if b = a then some o else G b) = some o' := e
    split at e'
    · rename_i q; cases e'; rw [q]; exact a1
    · exact x.sub b o' e'
  · have e' : (if b = a then some o else G b) = some o' := e
    split at e'
    · rename_i q; exact .inr (by rw [q]; exact a5.resolve_right hex)
    · exact .inl e'
  · show (if L = a then some o else G L) = none
    rw [if_neg (Ne.symm a3)]; exact x.gL
  · obtain ⟨h1, h2, h3, h4, h5⟩ := x.mus p (.tail _ hp)
    refine ⟨h1, ?_, h3, h4, h5⟩
    show (if p.1 = a then some o else G p.1) = none
    rw [if_neg (fun q : p.1 = a => hnd.1 (q ▸ List.mem_map_of_mem hp))]; exact h2
theorem Store.put_self (G : Store) (a : Addr) (o : Obj) : G.put a o a = some o := if_pos rfl
theorem Store.le_put {G : Store} {a : Addr} {o : Obj} (h : G a = none) : LeS G (G.put a o) := fun b o' e => by
  show (if b = a then some o else G b) = some o'
  rw [if_neg fun q => by rw [q, h] at e; cases e]; exact e
theorem In.head_none {a : Addr} {i : It} (x : In outer ex s0 G0 G L m ((a, i) :: mu) s) : G a = none := (x.mus _ (.head _)).2.1
theorem In.head_at {a : Addr} {i : It} (x : In outer ex s0 G0 G L m ((a, i) :: mu) s) : i.In s.heap a := (x.mus _ (.head _)).1

/-- a run that keeps all but the slots of the frames -/
theorem In.called (x : In outer ex s0 G0 G L m mu s) (y : Step (L :: frs outer) [] G s G' s') : In outer ex s0 G0 G' L m mu s' := by
  have g : ∀ a, G a = none → (s.heap.get? a).isSome = true → G' a = none := fun a h1 h2 => by
    cases q : G' a with
    | none => rfl
    | some o =>
      rcases y.new a o q with h | h
      · rw [h1] at h; cases h
      · rw [h] at h2; cases h2
  have mine : ∀ b o, b ≠ L → b ∉ frs outer → s.heap.get? b = some o → s'.heap.get? b = some o := fun b o h1 h2 e => (y.keep b o (by simp) e).1 (by simp [h1]; simpa using h2)
  refine x.turn y.le y.sub (fun a o e => (y.new a o e).imp_right (none_of (x.alive a))) ?_ (fun b h => y.alive b (x.alive b h)) y.os y.gens (ns_slots x.ns fun o e => (y.keep _ o (by simp) e).2) (g L x.gL (ns_some x.ns)) (fun p hp => ?_) x.nd fun b hb o e => ?_
  · intro b o hb e
    obtain ⟨x1, sl, x2⟩ := x.keep b o hb e
    obtain ⟨_, sl', y2⟩ := y.keep b _ (by simp) x2
    exact ⟨fun hf => mine b o (x.old_ne e) hf (x1 hf), sl', y2⟩
  · obtain ⟨h1, h2, h3, h4, h5⟩ := x.mus p hp
    exact ⟨h1.keep fun o e => mine _ o h3 h4 e, g _ h2 h1.there, h3, h4, h5⟩
  · obtain ⟨sl, e'⟩ := (y.keep b o (by simp) e).2
    exact ⟨_, e', rfl⟩
/-- the head of the own things is dropped; it may have turned -/
theorem In.extBut {a : Addr} {i : It} (x : In outer [] s0 G0 G L m ((a, i) :: mu) s) {h' : Heap} (t : Nat) (hs : Heap.ExtBut a s.heap h') : In outer [] s0 G0 G L m mu { s with heap := h', toks := t } := by
  obtain ⟨a1, a2, a3, a4, a5⟩ := x.mus (a, i) (.head _)
  have a5 : s0.heap.get? a = none := a5.resolve_right (by simp)
  have hnd := x.nd
  simp only [List.map_cons, List.nodup_cons] at hnd
  have old : ∀ b o, s0.heap.get? b = some o → b ≠ a := fun b o e => ne_of_some (by rw [e]; rfl) a5
  refine x.turn (.refl _) (fun b o e => ?_) (fun a o e => .inl e) (x.keepOn fun b o hx hb e => ?_) (fun b h => ?_) rfl rfl ?_ x.gL (fun p hp => ?_) hnd.2 fun b hb o e => ⟨o, hs b o ?_ e, rfl⟩
  · exact hs b o (fun q => by rw [q, a2] at e; cases e) (x.sub b o e)
  · exact hs b o (ne_of_some hb a5) e
  · have h1 := x.alive b h
    cases q : s.heap.get? b with
    | none => rw [q] at h1; cases h1
    | some o => rw [hs b o (ne_of_some h a5) q]; rfl
  · obtain ⟨o, es, ep, ho, r⟩ := x.ns
    exact ⟨o, es, ep, hs L o (Ne.symm a3) ho, r⟩
  · obtain ⟨h1, h2, h3, h4, h5⟩ := x.mus p (.tail _ hp)
    have hpa : p.1 ≠ a := fun q => hnd.1 (q ▸ List.mem_map_of_mem hp)
    exact ⟨h1.keep fun o e => hs _ o hpa e, h2, h3, h4, h5⟩
  · exact fun q => a4 (q ▸ hb)
end
end Mine

end
section
open PySem PySem.W PyProof.Rows PySem.Calls
namespace Mine

/-! ## The surroundings, the entry into a def, its end -/

structure AOk (A : Around) (outer : List Env) (n : Nat) : Prop where
  frames : A.frames = some outer
  handled : A.handled = none
  depth : A.depth + n ≤ 900
  units : A.units + 10 * n ≤ 9000
theorem AOk.le {A : Around} {outer : List Env} {n k : Nat} (x : AOk A outer n) (h : k ≤ n) : AOk A outer k :=
  ⟨x.frames, x.handled, by have := x.depth; omega, by have := x.units; omega⟩
theorem AOk.deeper {A : Around} {outer : List Env} {n : Nat} (x : AOk A outer (n + 1)) (env : Env) : AOk (A.deeper env) (env :: outer) n :=
  ⟨Around.frames_deeper x.frames, x.handled, by have := x.depth; show A.depth + 1 + n ≤ 900; omega, by have := x.units; show A.units + 3 + 10 * n ≤ 9000; omega⟩
theorem AOk.room {A : Around} {outer : List Env} {n : Nat} (x : AOk A outer n) : A.depth < recursionLimit := by have := x.depth; show A.depth < 1000; omega
theorem AOk.line {A : Around} {outer : List Env} {n : Nat} (x : AOk A outer n) : A.units < cLine := by have := x.units; show A.units < 9900; omega
theorem AOk.line64 {A : Around} {outer : List Env} {n : Nat} (x : AOk A outer n) : A.units + 64 < cLine := by have := x.units; show A.units + 64 < 9900; omega

/-- what the state must bear at a call -/
structure Ok (outer : List Env) (G : Store) (s : Shared) : Prop where
  sub : SubS G s.heap
  gfs : ∀ a ∈ frs outer, G a = none
  ff : s.heap.FunFrames {} outer
theorem Ok.tok {outer : List Env} {G : Store} {s : Shared} (x : Ok outer G s) (t : Nat) : Ok outer G { s with toks := t } := ⟨x.sub, x.gfs, x.ff⟩
theorem Ok.step {outer : List Env} {G G' : Store} {s s' : Shared} (x : Ok outer G s) (y : Step (frs outer) [] G s G' s') : Ok outer G' s' := by
  refine ⟨y.sub, fun a ha => ?_, ff_keep x.ff fun L hL o e => ?_⟩
  · cases q : G' a with
    | none => rfl
    | some o =>
      rcases y.new a o q with h | h
      · rw [x.gfs a ha] at h; cases h
      · have := ff_some x.ff ha; rw [h] at this; cases this
  · obtain ⟨sl, e'⟩ := (y.keep L o (by simp) e).2
    exact ⟨_, e', rfl⟩

section
variable {outer : List Env} {ex : List Addr} {s0 s s' : Shared} {G0 G G' : Store} {L : Addr} {m m' : Str → Option Value} {mu mu' : List (Addr × It)} {prog : Program} {w : World} {A : Around}

theorem In.ok (x : In outer ex s0 G0 G L m mu s) {env : Env} (hf : env.frame = some L) (hk : env.scope.kind = .function) : Ok (env :: outer) G s := by
  have e : frs (env :: outer) = L :: frs outer := by simp [frs, hf]
  refine ⟨x.sub, fun a ha => ?_, Heap.FunFrames.cons (by rw [hk]; decide) hf x.ns rfl x.ff⟩
  rw [e] at ha
  rcases List.mem_cons.mp ha with rfl | ha
  · exact x.gL
  · exact x.gfs a ha
theorem In.calledE (x : In outer ex s0 G0 G L m mu s) {env : Env} (hf : env.frame = some L) (y : Step (frs (env :: outer)) [] G s G' s') : In outer ex s0 G0 G' L m mu s' := by
  have e : frs (env :: outer) = L :: frs outer := by simp [frs, hf]
  rw [e] at y
  exact x.called y

theorem In.start (O : Ok outer G s) {h' : Heap} (t : Nat) (hn : h'.Ns s.heap.objs.size m) (k : ∀ b o, s.heap.get? b = some o → h'.get? b = some o) (hfresh : ∀ a ∈ ex, a ∉ frs outer) :
    In outer ex s G G s.heap.objs.size m [] { s with heap := h', toks := t } := by
  refine ⟨⟨.refl _, fun a o e => k a o (O.sub a o e), fun _ _ e => .inl e, KeepF.of_keep k, alive_keep (fun b o e => ⟨o, k b o e⟩), rfl, rfl⟩, hn, Heap.get?_none_of_le (Nat.le_refl _), ?_, (fun p hp => absurd hp List.not_mem_nil), .nil, O.gfs, ff_keep O.ff fun L hL o e => ⟨o, k L o e, rfl⟩, fun a ha hx => hfresh a hx ha, fun a ha => ff_some O.ff ha⟩
  cases q : G s.heap.objs.size with
  | none => rfl
  | some o => exact absurd (Heap.lt_size (O.sub _ _ q)) (Nat.lt_irrefl _)

def retOf : Flow → Value
  | .ret v => v
  | _ => .none

/-- the entry into a plain def, its run, its end -/
theorem enter {n : Nat} {f : Addr} {o : Obj} {fd : FuncData} {body : List Stmt} {pos : List Value} {kw : List (Str × Value)} {binds : List (Str × Value)} {Q : Value → Shared → Prop} {E : Value → Shared → Prop}
    (hA : AOk A outer (n + 1)) (O : Ok outer G s) (ho : G f = some o) (hdata : o.data = .func fd) (hlim : s.heap.NoLimit) (hcd : s.heap.CodeRec fd.code fd.qualname) (hbody : fd.body = .stmts body)
    (hbind : BindsTo s fd ⟨pos, kw⟩ binds) (hcell : ∀ x ∈ fd.scope.names, x.2 ≠ .cell) (hloc : ∀ x ∈ binds, fd.scope.names.lookup x.1 = some .local)
    (hco : fd.scope.isCoroutine = false) (hgen : fd.scope.isGenerator = false) (hk : fd.scope.kind = .function)
    (h : ∀ s₁ A', AOk A' (callEnv fd s.heap.objs.size f :: outer) n → In outer [] s G G s.heap.objs.size (fun x => binds.reverse.lookup x) [] s₁ →
      wpAny (model prog w) A' (execs body (callEnv fd s.heap.objs.size f)) (fun fl s' => (∃ G', Step (frs outer) [] G s G' s') ∧ Q (retOf fl) s') (fun _ _ => False) s₁) :
    wpAny (model prog w) A (call (.ref f) pos kw) Q E s := by
  refine wpAny_call (codeAny_call_def hA.room (O.sub _ _ ho) hdata hlim hcd hbody hbind hcell hloc (fun h₀ hns k => ?_) hco hgen hk)
  refine wpAny_mono (h _ _ (hA.deeper _) (In.start O _ hns k (by simp))) (fun fl s' hq => ?_) fun _ _ x => x.elim
  cases fl <;> exact hq.2

theorem In.stepO (x : In outer ex s0 G0 G L m mu s) : Step (frs outer) ex G0 s0 G s := x.toStep
end
end Mine

end
section
open PySem PySem.W PyProof.Rows PySem.Calls
namespace Mine
section
variable {outer : List Env} {ex : List Addr} {s0 s s₁ : Shared} {G0 G G' : Store} {L : Addr} {m m' : Str → Option Value} {mu mu' : List (Addr × It)} {prog : Program} {w : World} {A : Around}

/-- a heap in which all stands but the slots of the frames (what an exception's notes leave) -/
theorem In.slots (x : In outer ex s0 G0 G L m mu s) {h' : Heap} (t : Nat) (hst : (TI.gone s.heap (L :: frs outer)).StaysIn h') (hu : s.heap.UpToSlots h') : In outer ex s0 G0 G L m mu { s with heap := h', toks := t } := by
  have frame : ∀ b ∈ L :: frs outer, ∀ o, s.heap.get? b = some o → ∀ vs, o.data ≠ .fields vs := by
    intro b hb o e vs q
    rcases List.mem_cons.mp hb with rfl | hb
    · obtain ⟨o', es, ep, ho, hd, _⟩ := x.ns
      rw [ho] at e; cases e; rw [hd] at q; cases q
    · obtain ⟨_, o', ho, hd⟩ := x.ff.mem hb
      rw [ho] at e; cases e; exact hd vs q
  have other : ∀ b o, b ∉ L :: frs outer → s.heap.get? b = some o → h'.get? b = some o := fun b o hb e => hst b o ((TI.gone_get hb).trans e)
  have all : ∀ b o, s.heap.get? b = some o → ∃ sl, h'.get? b = some { o with slots := sl } := fun b o e => by
    by_cases hb : b ∈ L :: frs outer
    · exact hu b o e (frame b hb o e)
    · exact ⟨o.slots, other b o hb e⟩
  refine x.called ⟨.refl _, fun a o e => other a o ?_ (x.sub a o e), fun _ _ e => .inl e, fun b o _ e => ⟨fun hb => other b o hb e, all b o e⟩, alive_keep fun b o e => let ⟨_, e'⟩ := all b o e; ⟨_, e'⟩, rfl, rfl⟩
  intro hm
  rcases List.mem_cons.mp hm with rfl | hm
  · rw [x.gL] at e; cases e
  · rw [x.gfs a hm] at e; cases e

/-- an exception that a step raised anew lands in the frame's own clause -/
theorem In.caught (x : In outer ex s0 G0 G L m mu s) {n : Nat} {env : Env} {e : Addr} {h₁ : Heap} {tk : Nat} {X : String} {hn : Str} {np pos : Pos} {b₀ : Stmt} {suite : List Stmt} {rest : List ExceptHandler} {Q : Flow → Shared → Prop}
    (hA : AOk A (env :: outer) n) (hf : env.frame = some L) (hk : env.scope.kind = .function) (hx : Heap.NewExc s.heap h₁ e X)
    (hsub : subB X (.type hn.toString) = some true) (h1 : subB hn.toString (.type "BaseException") = some true) (h2 : subB ((Manifest.find? hn.toString).elim "type" fun y => y.metatype) (.type "tuple") = some false)
    (hname : ∀ (A' : Around) (E' : Value → Shared → Prop) (s' : Shared) (Q' : Value → Shared → Prop), SubS G s'.heap → Q' (.type hn.toString) s' → wpAny (model prog w) A' (eval (.Name hn np) env) Q' E' s')
    (h : ∀ h' tk', In outer ex s0 G0 G L m mu { s with heap := h', toks := tk' } → wpAny (model prog w) (A.mark (some (.ref e))) (execs (b₀ :: suite) env) Q (fun _ _ => False) { s with heap := h', toks := tk' }) :
    wpAny (model prog w) A (noteFrame (.ref e) env) (fun _ s₂ => wpAny (model prog w) A (setFlight (.ref e) none) (fun _ s₃ => wpAny (model prog w) A (handleBy (.ref e) env (.ExceptHandler (some (.Name hn np)) none (b₀ :: suite) pos :: rest)) Q (fun _ _ => False) s₃) (fun _ _ => False) s₂) (fun _ _ => False) { s with heap := h₁, toks := tk } := by
  obtain ⟨ob, tp, he, hcls, hd⟩ := hx.there
  have efrs : frs (env :: outer) = L :: frs outer := by simp [frs, hf]
  have hff0 : s.heap.FunFrames {} (env :: outer) := Heap.FunFrames.cons (by rw [hk]; decide) hf x.ns rfl x.ff
  have hff : h₁.FunFrames (TI.gone s.heap (L :: frs outer)) (env :: outer) := by
    refine ff_base (ff_keep hff0 fun L' hL' o e' => ⟨o, hx.keeps _ _ e', rfl⟩) fun L' hL' => ?_
    rw [efrs] at hL'
    exact TI.gone_none hL'
  have hst : (TI.gone s.heap (L :: frs outer)).StaysIn h₁ := fun b o eb => hx.keeps b o (TI.gone_some eb).2
  have hen : (TI.gone s.heap (L :: frs outer)).get? e = none := by
    cases q : (TI.gone s.heap (L :: frs outer)).get? e with
    | none => rfl
    | some o => have := (TI.gone_some q).2; rw [hx.new] at this; cases this
  unfold noteFrame
  simp only [hf]
  refine wpAny_bind (wpAny_field he hd (x := .none) rfl ?_)
  rw [if_neg (by decide)]
  refine wpAny_entryW (a0 := tp) hA.frames hff hf he hst hen hd (by show 1 < 6; decide) rfl fun h' hN => ?_
  obtain ⟨k1, k2, k3, k4⟩ := hN
  refine wpAny_setFlight_noneW k1 k2 k3 fun h'' l1 l2 l3 l4 => ?_
  have U : s.heap.UpToSlots h'' := fun b o eb hnf => by
    obtain ⟨sl, e1⟩ := k4 b o (hx.keeps b o eb) hnf
    exact ⟨sl, l4 b _ e1 hnf⟩
  have I := x.slots (tk) l1 U
  refine wpAny_handleBy_builtin (X := X) (T := hn.toString) (b := true) (isSubtype_of_subB h1) (isSubtype_of_subB h2) (isSubtype_of_subB hsub) (hname _ _ _ _ I.sub ⟨rfl, ?_, ?_⟩)
  · obtain ⟨oe, vs, T, oT, ts, he', ⟨hcl, _⟩, _⟩ := l3
    exact ⟨oe, he', hcl.trans hcls⟩
  rw [if_pos rfl]
  refine wpAny_setFlight_noneW (A := A.mark (some (.ref e))) l1 l2 l3.at fun h3 m1 m2 m3 m4 => ?_
  have U3 : s.heap.UpToSlots h3 := fun b o eb hnf => by
    obtain ⟨sl, e1⟩ := U b o eb hnf
    exact ⟨sl, m4 b _ e1 hnf⟩
  exact wpAny_mono (h h3 tk (x.slots tk m1 U3)) (fun _ _ q => q) fun _ _ q => q.elim
end
end Mine

end
section
open PySem PySem.W PyProof.Rows PySem.Calls
namespace Mine

/-! ## The program's own objects -/
def stm (i : Nat) : Stmt := PySem.Challenge.pw_ph0084_01.main.body.getD i (.Pass default)
def fdName : Stmt → Str
  | .FunctionDef n .. => n
  | _ => Str.empty
def fdParams : Stmt → Arguments
  | .FunctionDef _ a .. => a
  | _ => default
def fdBody : Stmt → List Stmt
  | .FunctionDef _ _ b .. => b
  | _ => []
def fdScope : Stmt → Scope
  | .FunctionDef _ _ _ _ _ _ sc .. => sc
  | _ => default
def fnAt (i : Nat) (dV kV pm : Value) (cd : Value) : FuncData :=
  { name := fdName (stm i), qualname := fdName (stm i), params := fdParams (stm i), body := .stmts (fdBody (stm i)), scope := fdScope (stm i), globals := mainGlobals, closure := [], defaults := dV, kwdefaults := kV, pyModule := pm, code := cd }

structure Fn (G : Store) (a : Addr) (i : Nat) (dV kV : Value) : Prop where
  there : ∃ pm cd, G a = some { cls := .type "function", data := .func (fnAt i dV kV pm cd) } ∧ ∀ h, SubS G h → h.CodeRec cd (fdName (stm i))

def GlobAt (h : Heap) (x : Str) (v : Value) : Prop := ∃ mg mb, h.Ns mainGlobals mg ∧ h.Ns builtinsNs mb ∧ (mg x = some v ∨ (mg x = none ∧ mb x = some v))

def gtab : List (Str × Value) :=
  [("_twin_re_1", .ref 36), ("_ver_stages", .ref 37), ("_comparable_version", .ref 44), ("_norm_version", .ref 52), ("insort_right", .ref 61), ("bisect_right", .ref 70), ("bisect_left", .ref 79),
   ("_law_field", .ref 86), ("_law_versions", .ref 93), ("_law_normed", .ref 98), ("_law_flat", .ref 105),
   ("int", .type "int"), ("str", .type "str"), ("list", .type "list"), ("map", .type "map"), ("range", .type "range"), ("len", .builtin "len"), ("sorted", .builtin "sorted"), ("ValueError", .type "ValueError")]

def patO : Obj := { cls := .type "re.Pattern", data := .fields #[.str (Str.ofString "([0-9]+|[._+-])") 285, .int 32 329, .int 1 0, .none, .none, .ref 35, .int 0 0] }
def codeL : List Nat := [14, 4, 0, 1, 4294967295, 17, 0, 7, 14, 24, 10, 1, 4294967295, 13, 5, 22, 48, 57, 0, 1, 15, 17, 15, 13, 11, 9, 0, 26624, 2147483648, 0, 0, 0, 0, 0, 0, 15, 2, 0, 17, 1, 1]
def stageL : List (Str × Int) := [("dev", 10), ("alpha", 20), ("a", 20), ("beta", 30), ("b", 30), ("c", 40), ("RC", 50), ("rc", 50), ("pl", 200), ("p", 200)]

def stageE (P : Params) : List DictEntry := stageL.zipIdx.map fun p => { hash := PyData.keyHash P p.1.1, key := .str p.1.1 (331 + 2 * p.2), val := .int p.1.2 (332 + 2 * p.2) }

def kwO (P : Params) (t : Tok) : Obj := { cls := .type "dict", data := .dict #[{ hash := PyData.keyHash P (Str.ofString "key"), key := .str (Str.ofString "key") t, val := .none }] 1 }

structure PG (w : World) (G : Store) : Prop where
  name : ∀ p ∈ gtab, ∀ h, SubS G h → GlobAt h p.1 p.2
  lim : ∀ h, SubS G h → h.NoLimit
  dig : ∀ h, SubS G h → ∃ mc, h.Ns cStatics mc ∧ mc "sys.int_max_str_digits" = none
  pat : G 36 = some patO
  code : G 35 = some { cls := .type "tuple", data := .seq (codeL.map fun (c : Nat) => Value.int (c : Int) 0).toArray }
  stages : G 37 = some { cls := .type "dict", data := .dict (stageE w.params).toArray 10 }
  d45 : G 45 = some (tupO [.str (Str.ofString "") 373] 0)
  d53 : G 53 = some (tupO [.int 0 386, .none] 0)
  d62 : G 62 = some (tupO [.int 0 399, .none] 0)
  d71 : G 71 = some (tupO [.int 0 413, .none] 0)
  k54 : G 54 = some (kwO w.params 387)
  k63 : G 63 = some (kwO w.params 400)
  k72 : G 72 = some (kwO w.params 414)
  fcmp : Fn G 44 4 .none .none
  fnorm : Fn G 52 5 (.ref 45) .none
  fins : Fn G 61 7 (.ref 53) (.ref 54)
  fbr : Fn G 70 8 (.ref 62) (.ref 63)
  fbl : Fn G 79 9 (.ref 71) (.ref 72)
  ffield : Fn G 86 11 .none .none
  fvers : Fn G 93 12 .none .none
  fnormed : Fn G 98 13 .none .none
  fflat : Fn G 105 14 .none .none
theorem SubS.mono {G G' : Store} {h : Heap} (x : SubS G' h) (k : LeS G G') : SubS G h := fun a o e => x a o (k a o e)
theorem Fn.mono {G G' : Store} {a : Addr} {i : Nat} {dV kV : Value} (x : Fn G a i dV kV) (k : LeS G G') : Fn G' a i dV kV := by
  obtain ⟨pm, cd, h1, h2⟩ := x.there
  exact ⟨pm, cd, k _ _ h1, fun h S => h2 h (S.mono k)⟩
theorem PG.mono {w : World} {G G' : Store} (x : PG w G) (k : LeS G G') : PG w G' :=
  ⟨fun p hp h S => x.name p hp h (S.mono k), fun h S => x.lim h (S.mono k), fun h S => x.dig h (S.mono k), k _ _ x.pat, k _ _ x.code, k _ _ x.stages, k _ _ x.d45, k _ _ x.d53, k _ _ x.d62, k _ _ x.d71,
    k _ _ x.k54, k _ _ x.k63, k _ _ x.k72, x.fcmp.mono k, x.fnorm.mono k, x.fins.mono k, x.fbr.mono k, x.fbl.mono k, x.ffield.mono k, x.fvers.mono k, x.fnormed.mono k, x.fflat.mono k⟩

/-! ## The frame's names -/
structure EnvOk (env : Env) (sc : Scope) (L : Addr) : Prop where
  scope : env.scope = sc
  kind : sc.kind = .function
  locals : env.locals = L
  frame : env.frame = some L
  globals : env.globals = mainGlobals
  builtins : env.builtins = builtinsNs

def upd (m : Str → Option Value) (n : Str) (v : Value) : Str → Option Value := fun x => if x = n then some v else m x
theorem upd_same {m : Str → Option Value} {n : Str} {v : Value} : upd m n v n = some v := if_pos rfl
theorem upd_ne {m : Str → Option Value} {n x : Str} {v : Value} (h : x ≠ n) : upd m n v x = m x := if_neg h
theorem upd_to {m : Str → Option Value} {n x : Str} {v v' : Value} (h : x ≠ n) (e : m x = some v') : upd m n v x = some v' := (if_neg h).trans e

section
variable {outer : List Env} {ex : List Addr} {s0 s : Shared} {G0 G : Store} {L : Addr} {m : Str → Option Value} {mu : List (Addr × It)} {prog : Program} {w : World} {A : Around} {E : Value → Shared → Prop} {env : Env} {sc : Scope}

theorem ldL {x : Str} {pos : Pos} {v : Value} {Q : Value → Shared → Prop} (e : EnvOk env sc L) (I : In outer ex s0 G0 G L m mu s) (hk : sc.names.lookup x = some .local) (hv : m x = some v) (h : Q v s)
    (hd : (x == ("__debug__" : Str)) = false := by decide +kernel) : wpAny (model prog w) A (eval (.Name x pos) env) Q E s :=
  wpAny_Name (wpAny_loadName_local (m := m) (by rw [e.scope]; exact e.kind) (by unfold Env.kindOf; rw [e.scope]; exact hk) (by rw [e.locals]; exact I.ns) hv h) hd
theorem ldGl {x : Str} {pos : Pos} {v : Value} {Q : Value → Shared → Prop} (e : EnvOk env sc L) (S : SubS G s.heap) (P : PG w G) (hk : sc.names.lookup x = some .globalImplicit) (hx : (x, v) ∈ gtab) (h : Q v s)
    (hd : (x == ("__debug__" : Str)) = false := by decide +kernel) : wpAny (model prog w) A (eval (.Name x pos) env) Q E s := by
  obtain ⟨mg, mb, hg, hb, hv⟩ := P.name _ hx _ S
  refine Name_function_global (by rw [e.scope]; exact e.kind) (by unfold Env.kindOf; rw [e.scope]; exact hk) ?_ hd
  rcases hv with hv | ⟨h1, h2⟩
  · exact loadGlobal_global (by rw [e.globals]; exact hg) hv h
  · exact loadGlobal_builtin (by rw [e.globals]; exact hg) h1 (by rw [e.builtins]; exact hb) h2 h
theorem stL {x : Str} {v : Value} {Q : Unit → Shared → Prop} (e : EnvOk env sc L) (I : In outer ex s0 G0 G L m mu s) (hk : sc.names.lookup x = some .local)
    (h : ∀ h' t, In outer ex s0 G0 G L (upd m x v) mu { s with heap := h', toks := t } → Q () { s with heap := h', toks := t }) : wpAny (model prog w) A (storeName env x v) Q E s := by
  refine wpAny_storeName_local (m := m) (by unfold Env.kindOf; rw [e.scope]; exact hk) (by rw [e.locals]; exact I.ns) (fun h' hn hs => h h' _ (I.set _ (m' := upd m x v) (by rw [← e.locals]; exact hn) (by rw [← e.locals]; exact hs))) ?_
  rw [e.scope, e.kind]; rfl

/-- the entry into one of the program's plain defs -/
theorem enterF {n : Nat} {f : Addr} {i : Nat} {dV kV : Value} {pos : List Value} {kw : List (Str × Value)} {binds : List (Str × Value)} {Q : Value → Shared → Prop}
    (F : Fn G f i dV kV) (P : PG w G) (hA : AOk A outer (n + 1)) (O : Ok outer G s)
    (hbind : ∀ pm cd, BindsTo s (fnAt i dV kV pm cd) ⟨pos, kw⟩ binds) (hcell : (fdScope (stm i)).names.all (fun x => x.2 != .cell) = true) (hloc : binds.all (fun x => (fdScope (stm i)).names.lookup x.1 == some .local) = true)
    (hco : (fdScope (stm i)).isCoroutine = false) (hgen : (fdScope (stm i)).isGenerator = false) (hk : (fdScope (stm i)).kind = .function)
    (h : ∀ env s₁ A' L, EnvOk env (fdScope (stm i)) L → AOk A' (env :: outer) n → In outer [] s G G L (fun x => binds.reverse.lookup x) [] s₁ →
      wpAny (model prog w) A' (execs (fdBody (stm i)) env) (fun fl s' => (∃ G', Step (frs outer) [] G s G' s') ∧ Q (retOf fl) s') (fun _ _ => False) s₁) :
    wpAny (model prog w) A (call (.ref f) pos kw) Q E s := by
  obtain ⟨pm, cd, ho, hcd⟩ := F.there
  refine enter hA O ho rfl (P.lim _ O.sub) (hcd _ O.sub) rfl (hbind pm cd) (fun x hx => ?_) (fun x hx => ?_) hco hgen hk fun s₁ A' hA' I => h _ s₁ A' _ ⟨rfl, hk, rfl, rfl, rfl, rfl⟩ hA' I
  · have := List.all_eq_true.mp hcell x hx; simpa using this
  · have := List.all_eq_true.mp hloc x hx; exact beq_iff_eq.mp this
end
end Mine

end
section
open PySem PySem.W PyProof.Rows PySem.Calls PySem.MeetsSeq PySem.SeqAt
namespace Mine

/-! ## lists and tuples of data: the order `<` -/
def LtAt (A : Around) (s : Shared) (x y : Value) (b : Bool) : Prop :=
  ∀ (prog : Program) (w : World) (E : Value → Shared → Prop) (Q : Value → Shared → Prop), Q (.bool b) s → wpAny (model prog w) A (richCompare .Lt x y) Q E s

inductive Lex (A : Around) (s : Shared) : List Value → List Value → Bool → Prop
  | nil : Lex A s [] [] false
  | less {y : Value} {ys : List Value} : Lex A s [] (y :: ys) true
  | more {x : Value} {xs : List Value} : Lex A s (x :: xs) [] false
  | eq {x y : Value} {xs ys : List Value} {b : Bool} : EqAt A s x y true → Lex A s xs ys b → Lex A s (x :: xs) (y :: ys) b
  | lt {x y : Value} {xs ys : List Value} {b : Bool} : EqAt A s x y false → LtAt A s x y b → Lex A s (x :: xs) (y :: ys) b

theorem entry_list_lt : entryFor table "list.__lt__" = some Builtin.«list.__lt__» := entryFor_of_fast (by kernel_rfl)
theorem entry_tuple_lt : entryFor table "tuple.__lt__" = some Builtin.«tuple.__lt__» := entryFor_of_fast (by kernel_rfl)

theorem lt_loopAt (l b : Addr) (items items2 : Array Value) (n n2 : Nat) (dd dd2 : Option Addr) (sl sl2 : Array (Option Value)) (res : Bool) (k : Nat) :
    ∀ i : Nat, items.size - i = k → i ≤ items.size → i ≤ items2.size → Meets (Builtin.«list.__eq__.loop» ⟨[.ref l, .ref b, rawInt i, rawInt 0], []⟩)
      (fun A R s => s.heap.get? l = some { cls := .type "list", dict := dd, data := .seq items n, slots := sl } ∧ s.heap.get? b = some { cls := .type "list", dict := dd2, data := .seq items2 n2, slots := sl2 } ∧
        Lex A.in1 s (items.toList.drop i) (items2.toList.drop i) res ∧ R (.ok (.ret (.bool res))) s) := by
  induction k with
  | zero =>
    intro i hk hi1 hi2 prog w A R s h
    obtain ⟨hp, g, d, tk, os⟩ := s; obtain ⟨hl, hb, hx, h⟩ := h
    wp_walk using wpAny_loadPart' hl, wpAny_loadPart' hb
    have e1 : items[((i : Nat) : Int).toNat]? = none := by simp; omega
    have hd : items.toList.drop i = [] := by simp; omega
    rw [hd] at hx
    rw [e1]
    have hres : res = decide (items.size < items2.size) := by
      generalize hy : items2.toList.drop i = ys at hx
      have hlen : ys.length = items2.size - i := by rw [← hy]; simp
      cases hx with
      | nil => simp at hlen; symm; simp; omega
      | less => simp at hlen; symm; simp; omega
    cases e2 : items2[((i : Nat) : Int).toNat]? <;>
    · wp_walk using wpAny_loadPart' hl, wpAny_loadPart' hb
      show R (.ok (.ret (.bool (decide (items.size < items2.size))))) _
      rw [← hres]
      exact h
  | succ k ih =>
    intro i hk hi1 hi2 prog w A R s h
    obtain ⟨hp, g, d, tk, os⟩ := s; obtain ⟨hl, hb, hx, h⟩ := h
    wp_walk using wpAny_loadPart' hl, wpAny_loadPart' hb
    have hlt : i < items.size := by omega
    have e1 : items[((i : Nat) : Int).toNat]? = some items[i] := by simp [hlt]
    have hd : items.toList.drop i = items[i] :: items.toList.drop (i + 1) := by simp [List.drop_eq_getElem_cons, hlt]
    have hc : ((i : Int) + 1) = ((i + 1 : Nat) : Int) := by push_cast; rfl
    rw [hd] at hx
    rw [e1]
    by_cases hlt2 : i < items2.size
    · have e2 : items2[((i : Nat) : Int).toNat]? = some items2[i] := by simp [hlt2]
      have hd2 : items2.toList.drop i = items2[i] :: items2.toList.drop (i + 1) := by simp [List.drop_eq_getElem_cons, hlt2]
      rw [hd2] at hx
      rw [e2]
      cases hx with
      | eq he hx =>
        refine wpAny_bind (he prog w _ _ ?_)
        wp_walk
        rw [hc]
        exact ⟨plainId_quiet PySem.MeetsSeq3.plain_eq_loop _, codeAny_builtin PySem.MeetsSeq3.entry_eq_loop (by
          rw [Around.under_plainId PySem.MeetsSeq3.plain_eq_loop _]
          exact ih (i + 1) (by omega) (by omega) (by omega) prog w A R _ ⟨hl, hb, hx, h⟩)⟩
      | lt he hq =>
        refine wpAny_bind (he prog w _ _ ?_)
        wp_walk using wpAny_loadPart' hl, wpAny_loadPart' hb
        rw [e1, e2]
        refine wpAny_bind (hq prog w _ _ ?_)
        wp_walk
        exact h
    · have e2 : items2[((i : Nat) : Int).toNat]? = none := by simp; omega
      have hd2 : items2.toList.drop i = [] := by simp; omega
      rw [hd2] at hx
      rw [e2]
      cases hx
      wp_walk using wpAny_loadPart' hl, wpAny_loadPart' hb
      show R (.ok (.ret (.bool (decide (items.size < items2.size))))) _
      rw [decide_eq_false (by omega)]
      exact h

theorem list_ltAt (l b : Addr) (items items2 : Array Value) (n n2 : Nat) (dd dd2 : Option Addr) (sl sl2 : Array (Option Value)) (res : Bool) :
    Meets (Builtin.«list.__lt__» ⟨[.ref l, .ref b], []⟩)
      (fun A R s => s.heap.get? l = some { cls := .type "list", dict := dd, data := .seq items n, slots := sl } ∧ s.heap.get? b = some { cls := .type "list", dict := dd2, data := .seq items2 n2, slots := sl2 } ∧
        Lex A.in1 s items.toList items2.toList res ∧ R (.ok (.ret (.bool res))) s) := by
  intro prog w A R s h
  obtain ⟨hp, g, d, tk, os⟩ := s; obtain ⟨hl, hb, he, h⟩ := h
  have f3 := AutoSeq1.sub_list_list
  wp_walk using wpAny_loadPart' hl, wpAny_loadPart' hb
  exact ⟨plainId_quiet PySem.MeetsSeq3.plain_eq_loop _, codeAny_builtin PySem.MeetsSeq3.entry_eq_loop (by
    rw [Around.under_plainId PySem.MeetsSeq3.plain_eq_loop _]
    exact lt_loopAt l b items items2 n n2 dd dd2 sl sl2 res _ 0 rfl (Nat.zero_le _) (Nat.zero_le _) prog w A R _ ⟨hl, hb, by simpa using he, h⟩)⟩

theorem tuple_ltAt (l b : Addr) (items items2 : Array Value) (n n2 : Nat) (dd dd2 : Option Addr) (sl sl2 : Array (Option Value)) (res : Bool) :
    Meets (Builtin.«tuple.__lt__» ⟨[.ref l, .ref b], []⟩)
      (fun A R s => s.heap.get? l = some { cls := .type "tuple", dict := dd, data := .seq items n, slots := sl } ∧ s.heap.get? b = some { cls := .type "tuple", dict := dd2, data := .seq items2 n2, slots := sl2 } ∧
        Lex A.in1 s items.toList items2.toList res ∧ R (.ok (.ret (.bool res))) s) :=
  .of_wp fun prog w A R s h => by
    obtain ⟨hp, g, d, tk, os⟩ := s; obtain ⟨hl, hb, he, h⟩ := h
    have f2 := AutoSeq1.sub_tuple_tuple
    wp_walk using wpAny_loadPart' hl, wpAny_loadPart' hb, wpAny_forIn_list _ (fun rest b s' => b.1 = none ∧ s' = ⟨hp, g, d, tk, os⟩ ∧ ∃ i, i ≤ items.size ∧ i ≤ items2.size ∧ rest = (items.toList.drop i).zip (items2.toList.drop i) ∧
      Lex A.in1 ⟨hp, g, d, tk, os⟩ (items.toList.drop i) (items2.toList.drop i) res) _
    case turn =>
      rintro ⟨y, x⟩ rest b s' ⟨hb', rfl, i, hi1, hi2, hz, hR⟩
      generalize hxs : items.toList.drop i = xs at hz hR
      generalize hys : items2.toList.drop i = ys at hz hR
      have lx : xs.length = items.size - i := by rw [← hxs]; simp
      have ly : ys.length = items2.size - i := by rw [← hys]; simp
      have dx : items.toList.drop (i + 1) = xs.tail := by rw [← hxs, List.tail_drop]
      have dy : items2.toList.drop (i + 1) = ys.tail := by rw [← hys, List.tail_drop]
      cases hR with
      | nil => simp at hz
      | less => simp at hz
      | more => simp at hz
      | eq he hx =>
        simp only [List.zip_cons_cons, List.cons.injEq, Prod.mk.injEq] at hz
        obtain ⟨⟨rfl, rfl⟩, rfl⟩ := hz
        refine wpAny_bind (he prog w _ _ ?_)
        wp_walk
        simp only [List.length_cons] at lx ly
        exact ⟨rfl, rfl, i + 1, by omega, by omega, by rw [dx, dy]; rfl, by rw [dx, dy]; exact hx⟩
      | lt he hq =>
        simp only [List.zip_cons_cons, List.cons.injEq, Prod.mk.injEq] at hz
        obtain ⟨⟨rfl, rfl⟩, rfl⟩ := hz
        refine wpAny_bind (he prog w _ _ ?_)
        simp only [Bool.not_false, if_true]
        refine wpAny_bind (wpAny_rule (wpAny_bind (hq prog w _ _ (wpAny_bind (wpAny_pure (wpAny_pure ?_))))))
        exact wpAny_pure ⟨_, rfl, h⟩
    case fin =>
      rintro ⟨b1, b2⟩ s' ⟨hb', rfl, i, hi1, hi2, hz, hR⟩
      simp only at hb'
      subst hb'
      have hres : res = decide (items.size < items2.size) := by
        generalize hxs : items.toList.drop i = xs at hz hR
        generalize hys : items2.toList.drop i = ys at hz hR
        have lx : xs.length = items.size - i := by rw [← hxs]; simp
        have ly : ys.length = items2.size - i := by rw [← hys]; simp
        cases hR with
        | nil => simp at lx ly; symm; simp; omega
        | less => simp at lx ly; symm; simp; omega
        | more => simp at lx ly; symm; simp; omega
        | eq _ _ => simp at hz
        | lt _ _ => simp at hz
      wp_walk
      refine ⟨_, rfl, ?_⟩
      show R (.ok (.ret (.bool (decide (items.size < items2.size))))) _
      rw [← hres]; exact h
    case h =>
      exact ⟨rfl, rfl, 0, Nat.zero_le _, Nat.zero_le _, by simp, by simpa using he⟩

/-! the data's own order -/
open Classical in
mutual
noncomputable def ltD : Dat → Dat → Option Bool
  | .int a, .int b => some (decide (a < b))
  | .str a, .str b => some (decide (a.cps.toList < b.cps.toList))
  | .list xs, .list ys => ltL xs ys
  | .tuple xs, .tuple ys => ltL xs ys
  | _, _ => none
noncomputable def ltL : List Dat → List Dat → Option Bool
  | [], [] => some false
  | [], _ :: _ => some true
  | _ :: _, [] => some false
  | x :: xs, y :: ys => if x = y then ltL xs ys else ltD x y
end

theorem eqAt_Rd {G : Store} {A : Around} {s : Shared} (S : SubS G s.heap) {v v' : Value} {d d' : Dat} (r : Rd G v d) (r' : Rd G v' d') {n k : Nat} (hd : kqdOk n d = true) (hd' : kqdOk k d' = true) (hu : A.units + n < cLine) (b : Bool) (hb : b = true ↔ d = d') : EqAt A s v v' b := by
  obtain ⟨as, ra⟩ := r.reads S n hd
  obtain ⟨bs, rb⟩ := r'.reads S k hd'
  have la := kqd_lay n d hd
  have lb := kqd_lay k d' hd'
  have e : PyData.eqv (kqdP d) (kqdP d') = b := by
    have q := kqd_eqv n d d' k hd hd'
    cases b with
    | true => exact q.mpr (hb.mp rfl)
    | false => exact Bool.eq_false_iff.mpr fun h => by have := hb.mpr (q.mp h); cases this
  have := eqAt_reads _ _ A s v v' as bs ra rb la.1 lb.1 (by have := Nat.min_le_left (kqdP d).depth (kqdP d').depth; have := la.2; omega)
  rw [e] at this
  exact this

theorem LtAt.lists {A : Around} {s : Shared} {l b : Addr} {xs ys : List Value} {n n2 : Nat} {res : Bool} (hl : s.heap.get? l = some (lstO xs n)) (hb : s.heap.get? b = some (lstO ys n2)) (hu : A.units < cLine)
    (he : Lex A.in1 s xs ys res) : LtAt A s (.ref l) (.ref b) res := fun prog w E Q h =>
  richCompare_meets_room (op := .Lt) ⟨_, hl, rfl⟩ ⟨_, hb, rfl⟩ F.slot_list_lt entry_list_lt (F.args_list_lt_2 _ _) (list_ltAt l b xs.toArray ys.toArray n n2 none none #[] #[] res)
    ⟨hl, hb, by simpa using he, show Value.bool res ≠ Value.notImplemented ∧ Q (.bool res) s from ⟨(fun x => nomatch x), h⟩⟩ hu
theorem LtAt.tuples {A : Around} {s : Shared} {l b : Addr} {xs ys : List Value} {n n2 : Nat} {res : Bool} (hl : s.heap.get? l = some (tupO xs n)) (hb : s.heap.get? b = some (tupO ys n2)) (hu : A.units < cLine)
    (he : Lex A.in1 s xs ys res) : LtAt A s (.ref l) (.ref b) res := fun prog w E Q h =>
  richCompare_meets_room (op := .Lt) ⟨_, hl, rfl⟩ ⟨_, hb, rfl⟩ F.slot_tuple_lt entry_tuple_lt (F.args_tuple_lt_2 _ _) (tuple_ltAt l b xs.toArray ys.toArray n n2 none none #[] #[] res)
    ⟨hl, hb, by simpa using he, show Value.bool res ≠ Value.notImplemented ∧ Q (.bool res) s from ⟨(fun x => nomatch x), h⟩⟩ hu

theorem ltAt_Rd {G : Store} {s : Shared} (S : SubS G s.heap) : ∀ (n : Nat) {A : Around} {v v' : Value} {d d' : Dat}, Rd G v d → Rd G v' d' → ∀ {k : Nat}, kqdOk n d = true → kqdOk k d' = true → A.units + n < cLine → ∀ {b : Bool}, ltD d d' = some b → LtAt A s v v' b := by
  have lex : ∀ (n : Nat), (∀ {A : Around} {v v' : Value} {d d' : Dat}, Rd G v d → Rd G v' d' → ∀ {k : Nat}, kqdOk n d = true → kqdOk k d' = true → A.units + n < cLine → ∀ {b : Bool}, ltD d d' = some b → LtAt A s v v' b) →
      ∀ {A : Around} {k : Nat} {vs ws : List Value} {ds es : List Dat}, RdL G vs ds → RdL G ws es → (∀ d ∈ ds, kqdOk n d = true) → (∀ d ∈ es, kqdOk k d = true) → A.units + n < cLine → ∀ {b : Bool}, ltL ds es = some b → Lex A s vs ws b := by
    intro n ih A k vs
    induction vs with
    | nil =>
      intro ws ds es h1 h2 _ _ _ b hb
      cases h1
      cases h2 with
      | nil => simp only [ltL, Option.some.injEq] at hb; subst hb; exact .nil
      | cons _ _ => simp only [ltL, Option.some.injEq] at hb; subst hb; exact .less
    | cons v vs hi =>
      intro ws ds es h1 h2 q1 q2 hu b hb
      cases h1 with
      | cons hv hvs =>
        cases h2 with
        | nil => simp only [ltL, Option.some.injEq] at hb; subst hb; exact .more
        | cons hw hws =>
          rename_i d ds w ws e es
          simp only [ltL] at hb
          split at hb
          · rename_i heq
            exact .eq (eqAt_Rd S hv hw (q1 _ (.head _)) (q2 _ (.head _)) hu true ⟨fun _ => heq, fun _ => rfl⟩) (hi hvs hws (fun x hx => q1 x (.tail _ hx)) (fun x hx => q2 x (.tail _ hx)) hu hb)
          · rename_i hne
            exact .lt (eqAt_Rd S hv hw (q1 _ (.head _)) (q2 _ (.head _)) hu false ⟨(fun x => nomatch x), fun x => absurd x hne⟩) (ih hv hw (q1 _ (.head _)) (q2 _ (.head _)) hu hb)
  intro n
  induction n with
  | zero =>
    intro A v v' d d' r r' k hd hd' hu b hb
    cases r with
    | none => simp [ltD] at hb
    | int i t =>
      cases r' with
      | int _ _ => simp only [ltD, Option.some.injEq] at hb; subst hb; intro prog w E Q h; exact lt_int h
      | _ => simp [ltD] at hb
    | str x t =>
      cases r' with
      | str _ _ => simp only [ltD, Option.some.injEq] at hb; subst hb; intro prog w E Q h; exact lt_str h
      | _ => simp [ltD] at hb
    | tuple _ _ => simp [kqdOk] at hd
    | list _ _ => simp [kqdOk] at hd
  | succ n ih =>
    intro A v v' d d' r r' k hd hd' hu b hb
    cases r with
    | none => simp [ltD] at hb
    | int i t =>
      cases r' with
      | int _ _ => simp only [ltD, Option.some.injEq] at hb; subst hb; intro prog w E Q h; exact lt_int h
      | _ => simp [ltD] at hb
    | str x t =>
      cases r' with
      | str _ _ => simp only [ltD, Option.some.injEq] at hb; subst hb; intro prog w E Q h; exact lt_str h
      | _ => simp [ltD] at hb
    | tuple hm rl =>
      cases r' with
      | tuple hm' rl' =>
       simp only [ltD] at hb
       cases k with
       | zero => simp [kqdOk] at hd'
       | succ k => exact LtAt.tuples (S _ _ hm) (S _ _ hm') (by omega) (lex n ih rl rl' (by simpa [kqdOk] using hd) (by simpa [kqdOk] using hd') (by show A.units + 1 + n < cLine; omega) hb)
      | _ => simp [ltD] at hb
    | list hm rl =>
      cases r' with
      | list hm' rl' =>
       simp only [ltD] at hb
       cases k with
       | zero => simp [kqdOk] at hd'
       | succ k => exact LtAt.lists (S _ _ hm) (S _ _ hm') (by omega) (lex n ih rl rl' (by simpa [kqdOk] using hd) (by simpa [kqdOk] using hd') (by show A.units + 1 + n < cLine; omega) hb)
      | _ => simp [ltD] at hb
end Mine

end
section
open PySem PySem.W PyProof.Rows PySem.Calls
namespace Mine

def BisInv (outer : List Env) (s0 : Shared) (G0 G1 : Store) (L : Addr) (mu : List (Addr × It)) (up : Nat → Bool) (KM : (Str → Option Value) → Prop) (len : Nat) (n : Nat) (s : Shared) : Prop :=
  ∃ G m lo hi t1 t2, n = hi - lo ∧ LeS G1 G ∧ KM m ∧ m ("lo" : Str) = some (.int (lo : Nat) t1) ∧ m ("hi" : Str) = some (.int (hi : Nat) t2) ∧ lo ≤ hi ∧ hi ≤ len ∧ (∀ j, j < lo → up j = false) ∧ (∀ j, hi ≤ j → j < len → up j = true) ∧ In outer [] s0 G0 G L m mu s
section
variable {outer : List Env} {s0 s : Shared} {G0 G1 G : Store} {L : Addr} {m : Str → Option Value} {mu : List (Addr × It)} {prog : Program} {w : World} {A : Around} {env : Env} {sc : Scope}

/-- the loop of the bisections -/
theorem bis_loop (rt : Bool) {len : Nat} {T : Expr} {p1 p2 p3 p4 p5 p6 p7 p8 p9 p10 p11 p12 q1 q2 q3 r1 r2 r3 r4 r5 : Pos} {k1 k2 : Nat} (up : Nat → Bool) (KM : (Str → Option Value) → Prop)
    (e : EnvOk env sc L) (klo : sc.names.lookup ("lo" : Str) = some .local) (khi : sc.names.lookup ("hi" : Str) = some .local) (kmid : sc.names.lookup ("mid" : Str) = some .local)
    (hKM : ∀ m n v, n = ("lo" : Str) ∨ n = ("hi" : Str) ∨ n = ("mid" : Str) → KM m → KM (upd m n v)) (hmono : ∀ i j, i ≤ j → up i = true → up j = true)
    (hT : ∀ G m (mid : Nat) t s, LeS G1 G → KM m → m ("mid" : Str) = some (.int mid t) → mid < len → In outer [] s0 G0 G L m mu s →
      wpAny (model prog w) A (isTrue T env (eval T env)) (fun b s' => (b == rt) = up mid ∧ ∃ G', LeS G G' ∧ In outer [] s0 G0 G' L m mu s') (fun _ _ => False) s)
    {lo hi : Nat} {t1 t2 : Tok} (hlo : m ("lo" : Str) = some (.int lo t1)) (hhi : m ("hi" : Str) = some (.int hi t2)) (hKm : KM m) (hle : LeS G1 G) (I : In outer [] s0 G0 G L m mu s) (hlh : lo ≤ hi) (hhl : hi ≤ len)
    (hA1 : ∀ j, j < lo → up j = false) (hA2 : ∀ j, hi ≤ j → j < len → up j = true)
    {Q : Flow → Shared → Prop} (hQ : ∀ G m (r : Nat) t s, LeS G1 G → KM m → m ("lo" : Str) = some (.int r t) → r ≤ len → (∀ j, j < r → up j = false) → (∀ j, r ≤ j → j < len → up j = true) → In outer [] s0 G0 G L m mu s → Q .next s) :
    wpAny (model prog w) A (exec (.While (.Compare (.Name ("lo" : Str) p1) [.Lt] [.Name ("hi" : Str) p2] p3)
      [.Assign [.Name ("mid" : Str) p4] (.BinOp (.BinOp (.Name ("lo" : Str) p5) .Add (.Name ("hi" : Str) p6) p7) .FloorDiv (.Constant (.int 2) k1 p8) p9) p10,
       .If T (if rt then [.Assign [.Name ("hi" : Str) q1] (.Name ("mid" : Str) q2) q3] else [.Assign [.Name ("lo" : Str) r1] (.BinOp (.Name ("mid" : Str) r2) .Add (.Constant (.int 1) k2 r3) r4) r5])
             (if rt then [.Assign [.Name ("lo" : Str) r1] (.BinOp (.Name ("mid" : Str) r2) .Add (.Constant (.int 1) k2 r3) r4) r5] else [.Assign [.Name ("hi" : Str) q1] (.Name ("mid" : Str) q2) q3]) p11] [] p12) env) Q (fun _ _ => False) s := by
  have n1 : ("lo" : Str) ≠ ("mid" : Str) := by decide +kernel
  have n2 : ("hi" : Str) ≠ ("mid" : Str) := by decide +kernel
  have n3 : ("lo" : Str) ≠ ("hi" : Str) := by decide +kernel
  refine wpAny_While (codeAny_whileLoop (BisInv outer s0 G0 G1 L mu up KM len) ?_ _ ⟨G, m, lo, hi, t1, t2, rfl, hle, hKm, hlo, hhi, hlh, hhl, hA1, hA2, I⟩)
  clear hlo hhi hKm hle I hlh hhl hA1 hA2
  rintro n s ⟨G, m, lo, hi, t1, t2, rfl, hle, hKm, hlo, hhi, hlh, hhl, hA1, hA2, I⟩
  refine wpAny_mono (E := fun _ _ => False) ?_ (fun _ _ x => x) fun _ _ x => x.elim
  refine wpAny_isTrue_Compare1 (ldL e I klo hlo (ldL e I khi hhi (lt_int (wpAny_truthy_bool ?_))))
  by_cases hlt : lo < hi
  · rw [if_pos (by simpa using hlt)]
    have hmid1 : ((lo : Int) + (hi : Int)).fdiv 2 = (((lo + hi) / 2 : Nat) : Int) := by
      rw [Int.fdiv_eq_ediv_of_nonneg _ (by omega)]; push_cast; rfl
    refine wpAny_mono (E := fun _ _ => False) ?_ (fun _ _ x => x) fun _ _ x => x.elim
    refine wpAny_execs_cons (wpAny_Assign_Name (wpAny_BinOp (wpAny_BinOp (ldL e I klo hlo (ldL e I khi hhi (add_int ?_))))))
    refine wpAny_Constant_int (floordiv_int (by decide) ?_ (.inl (PyProof.noPylong_small (by decide))))
    rw [hmid1]
    refine stL e (I.tok _) kmid fun h' t I' => ?_
    have hml : upd m ("mid" : Str) (.int (((lo + hi) / 2 : Nat) : Int) (s.toks + 1 + 1)) ("lo" : Str) = some (.int lo t1) := upd_to n1 hlo
    have hmh : upd m ("mid" : Str) (.int (((lo + hi) / 2 : Nat) : Int) (s.toks + 1 + 1)) ("hi" : Str) = some (.int hi t2) := upd_to n2 hhi
    have hmid : (lo + hi) / 2 < len := by omega
    refine wpAny_execs_cons (wpAny_If (wpAny_mono (hT G _ _ _ _ hle (hKM _ _ _ (.inr (.inr rfl)) hKm) upd_same hmid I') (fun b s₁ hb => ?_) fun _ _ x => x.elim))
    obtain ⟨hb, G', hle', I₁⟩ := hb
    generalize hM : (lo + hi) / 2 = mid at *
    have hl1 : lo ≤ mid := by omega
    have hl2 : mid < hi := by omega
    have goHi : ∀ {Q' : Flow → Shared → Prop}, up mid = true → (∀ s₃, BisInv outer s0 G0 G1 L mu up KM len (mid - lo) s₃ → Q' .next s₃) → wpAny (model prog w) A (execs [.Assign [.Name ("hi" : Str) q1] (.Name ("mid" : Str) q2) q3] env) Q' (fun _ _ => False) s₁ := by
      intro Q' hu hq
      refine wpAny_execs_cons (wpAny_Assign_Name (ldL e I₁ kmid upd_same (stL e I₁ khi fun h' t I₂ => wpAny_execs_nil (hq _ ?_))))
      exact ⟨G', _, lo, mid, t1, _, rfl, hle.trans hle', hKM _ _ _ (.inr (.inl rfl)) (hKM _ _ _ (.inr (.inr rfl)) hKm), upd_to n3 hml, upd_same, hl1, by omega, hA1, fun j hj1 hj2 => hmono mid j hj1 hu, I₂⟩
    have goLo : ∀ {Q' : Flow → Shared → Prop}, up mid = false → (∀ s₃, BisInv outer s0 G0 G1 L mu up KM len (hi - (mid + 1)) s₃ → Q' .next s₃) → wpAny (model prog w) A (execs [.Assign [.Name ("lo" : Str) r1] (.BinOp (.Name ("mid" : Str) r2) .Add (.Constant (.int 1) k2 r3) r4) r5] env) Q' (fun _ _ => False) s₁ := by
      intro Q' hu hq
      refine wpAny_execs_cons (wpAny_Assign_Name (wpAny_BinOp (ldL e I₁ kmid upd_same (wpAny_Constant_int (add_int (stL e (I₁.tok _) klo fun h' t I₂ => wpAny_execs_nil (hq _ ?_)))))))
      refine ⟨G', _, mid + 1, hi, _, t2, rfl, hle.trans hle', hKM _ _ _ (.inl rfl) (hKM _ _ _ (.inr (.inr rfl)) hKm), upd_same, upd_to (Ne.symm n3) hmh, by omega, hhl, fun j hj => ?_, hA2, I₂⟩
      cases q : up j with
      | false => rfl
      | true => rw [hmono j mid (by omega) q] at hu; cases hu
    cases rt with
    | true =>
      cases b with
      | true => exact goHi hb.symm fun s₃ hi' => wpAny_execs_nil ⟨_, by omega, hi'⟩
      | false => exact goLo hb.symm fun s₃ hi' => wpAny_execs_nil ⟨_, by omega, hi'⟩
    | false =>
      cases b with
      | true => exact goLo hb.symm fun s₃ hi' => wpAny_execs_nil ⟨_, by omega, hi'⟩
      | false => exact goHi hb.symm fun s₃ hi' => wpAny_execs_nil ⟨_, by omega, hi'⟩
  · rw [if_neg (by simpa using hlt)]
    have : lo = hi := by omega
    subst this
    exact wpAny_execs_nil (hQ G m lo t1 s hle hKm hlo hhl hA1 hA2 I)
end
end Mine

end
section
open PySem PySem.W PyProof.Rows PySem.Calls
namespace Mine

theorem in2 {G : Store} {h : Heap} (S : SubS G h) {a b : Addr} {oa ob : Obj} (ha : G a = some oa) (hb : G b = some ob) : Frag.In [(a, oa), (b, ob)] h := by
  intro x o e
  simp only [List.lookup] at e
  split at e
  · rename_i q; cases e; rw [beq_iff_eq.mp q]; exact S _ _ ha
  · split at e
    · rename_i q; cases e; rw [beq_iff_eq.mp q]; exact S _ _ hb
    · cases e
theorem binds_br2 {w : World} {G : Store} {s : Shared} {a x : Value} {pm cd : Value} (P : PG w G) (S : SubS G s.heap) :
    BindsTo s (fnAt 8 (.ref 62) (.ref 63) pm cd) ⟨[a, x], []⟩ [(("a" : Str), a), (("x" : Str), x), (("lo" : Str), .int 0 399), (("hi" : Str), .none), (("key" : Str), .none)] :=
  kp_binds (in2 S P.d62 P.k63) fun _ => by kernel_rfl
theorem binds_br3 {w : World} {G : Store} {s : Shared} {a x kf : Value} {pm cd : Value} (P : PG w G) (S : SubS G s.heap) :
    BindsTo s (fnAt 8 (.ref 62) (.ref 63) pm cd) ⟨[a, x], [(("key" : Str), kf)]⟩ [(("a" : Str), a), (("x" : Str), x), (("lo" : Str), .int 0 399), (("hi" : Str), .none), (("key" : Str), kf)] :=
  kp_binds (in2 S P.d62 P.k63) fun _ => by kernel_rfl
/-- as insort_right calls it -/
theorem binds_br4 {w : World} {G : Store} {s : Shared} {a x lo hi kf : Value} {pm cd : Value} (P : PG w G) (S : SubS G s.heap) :
    BindsTo s (fnAt 8 (.ref 62) (.ref 63) pm cd) ⟨[a, x, lo, hi], [(("key" : Str), kf)]⟩ [(("a" : Str), a), (("x" : Str), x), (("lo" : Str), lo), (("hi" : Str), hi), (("key" : Str), kf)] :=
  kp_binds (in2 S P.d62 P.k63) fun _ => by kernel_rfl
theorem binds_bl2 {w : World} {G : Store} {s : Shared} {a x : Value} {pm cd : Value} (P : PG w G) (S : SubS G s.heap) :
    BindsTo s (fnAt 9 (.ref 71) (.ref 72) pm cd) ⟨[a, x], []⟩ [(("a" : Str), a), (("x" : Str), x), (("lo" : Str), .int 0 413), (("hi" : Str), .none), (("key" : Str), .none)] :=
  kp_binds (in2 S P.d71 P.k72) fun _ => by kernel_rfl
theorem binds_bl3 {w : World} {G : Store} {s : Shared} {a x kf : Value} {pm cd : Value} (P : PG w G) (S : SubS G s.heap) :
    BindsTo s (fnAt 9 (.ref 71) (.ref 72) pm cd) ⟨[a, x], [(("key" : Str), kf)]⟩ [(("a" : Str), a), (("x" : Str), x), (("lo" : Str), .int 0 413), (("hi" : Str), .none), (("key" : Str), kf)] :=
  kp_binds (in2 S P.d71 P.k72) fun _ => by kernel_rfl
theorem binds_ins {w : World} {G : Store} {s : Shared} {a x kf : Value} {pm cd : Value} (P : PG w G) (S : SubS G s.heap) :
    BindsTo s (fnAt 7 (.ref 53) (.ref 54) pm cd) ⟨[a, x], [(("key" : Str), kf)]⟩ [(("a" : Str), a), (("x" : Str), x), (("lo" : Str), .int 0 386), (("hi" : Str), .none), (("key" : Str), kf)] :=
  kp_binds (in2 S P.d53 P.k54) fun _ => by kernel_rfl
theorem in1f {G : Store} {h : Heap} (S : SubS G h) {a : Addr} {oa : Obj} (ha : G a = some oa) : Frag.In [(a, oa)] h := by
  intro x o e
  simp only [List.lookup] at e
  split at e
  · rename_i q; cases e; rw [beq_iff_eq.mp q]; exact S _ _ ha
  · cases e
theorem in0f {h : Heap} : Frag.In [] h := by intro x o e; cases e
theorem binds_norm1 {w : World} {G : Store} {s : Shared} {v : Value} {pm cd : Value} (P : PG w G) (S : SubS G s.heap) :
    BindsTo s (fnAt 5 (.ref 45) .none pm cd) ⟨[v], []⟩ [(("version" : Str), v), (("build" : Str), .str (Str.ofString "") 373)] :=
  kp_binds (in1f S P.d45) fun _ => by kernel_rfl
theorem binds_norm2 {w : World} {G : Store} {s : Shared} {v b : Value} {pm cd : Value} (P : PG w G) (S : SubS G s.heap) :
    BindsTo s (fnAt 5 (.ref 45) .none pm cd) ⟨[v, b], []⟩ [(("version" : Str), v), (("build" : Str), b)] :=
  kp_binds (in1f S P.d45) fun _ => by kernel_rfl
theorem binds_cmp {s : Shared} {v : Value} {pm cd : Value} : BindsTo s (fnAt 4 .none .none pm cd) ⟨[v], []⟩ [(("version" : Str), v)] := kp_binds in0f fun _ => by kernel_rfl
theorem binds_field {s : Shared} {v : Value} {pm cd : Value} : BindsTo s (fnAt 11 .none .none pm cd) ⟨[v], []⟩ [(("code" : Str), v)] := kp_binds in0f fun _ => by kernel_rfl
theorem binds_vers {s : Shared} {v : Value} {pm cd : Value} : BindsTo s (fnAt 12 .none .none pm cd) ⟨[v], []⟩ [(("script" : Str), v)] := kp_binds in0f fun _ => by kernel_rfl
theorem binds_normed {s : Shared} {v : Value} {pm cd : Value} : BindsTo s (fnAt 13 .none .none pm cd) ⟨[v], []⟩ [(("fields" : Str), v)] := kp_binds in0f fun _ => by kernel_rfl
theorem binds_flat {s : Shared} {v : Value} {pm cd : Value} : BindsTo s (fnAt 14 .none .none pm cd) ⟨[v], []⟩ [(("pairs" : Str), v)] := kp_binds in0f fun _ => by kernel_rfl
end Mine

end
section
open PySem PySem.W PyProof.Rows PySem.Calls
namespace Mine

section
variable {outer : List Env} {ex : List Addr} {s0 s : Shared} {G0 G : Store} {L : Addr} {m : Str → Option Value} {mu : List (Addr × It)} {prog : Program} {w : World} {A : Around} {E : Value → Shared → Prop} {env : Env} {sc : Scope}

theorem In.elder (x : In outer ex s0 G0 G L m mu s) {r : Addr} {o : Obj} (e : s0.heap.get? r = some o) (hx : r ∉ ex) (hf : r ∉ frs outer) : s.heap.get? r = some o := (x.keep r o hx e).1 hf

theorem isL {h : Heap} {r : Addr} {vs : List Value} {k : Nat} (e : h.get? r = some (lstO vs k)) : h.IsList r vs.toArray := ⟨_, e, rfl, k, rfl⟩
theorem isT {h : Heap} {r : Addr} {vs : List Value} {k : Nat} (e : h.get? r = some (tupO vs k)) : h.IsTuple r vs.toArray := ⟨_, e, rfl, k, rfl⟩

/-- a built-in of one name, called with one plain argument -/
theorem callB1 {x : Str} {id : String} {np pos : Pos} {a : Expr} {Q : Value → Shared → Prop} (e : EnvOk env sc L) (S : SubS G s.heap) (P : PG w G) (hk : sc.names.lookup x = some .globalImplicit) (hx : (x, .builtin id) ∈ gtab)
    (ha : ∀ env', (starEach [a] env' = [(false, eval a env')])) (h : wpAny (model prog w) A (eval a env) (fun v s₁ => wpAny (model prog w) A (call (.builtin id) [v]) Q E s₁) E s) (hd : (x == ("__debug__" : Str)) = false := by decide +kernel) :
    wpAny (model prog w) A (eval (.Call (.Name x np) [a] [] pos) env) Q E s := by
  refine wpAny_Call_NameR (ldGl e S P hk hx ?_ hd)
  rw [ha]
  exact callWith_builtin rfl (evalArgs_plain (spliced_cons (wpAny_mono h (fun v s₁ h₁ => spliced_nil h₁) fun _ _ y => y)))

/-- an item of a list at a place -/
theorem itemL {value : Expr} {slice : Expr} {r : Addr} {vs : List Value} {n : Nat} {k : Nat} {u : Tok} {x : Value} {Q : Value → Shared → Prop} (hl : s.heap.get? r = some (lstO vs n)) (hk : k < 2 ^ 60) (hx : vs[k]? = some x) (h : Q x s)
    (hs : subscripted slice false (.ref r) (.int k u) = operate [.ref r, .int k u] (getItem (.ref r) (.int k u)) := by with_unfolding_all rfl) (hg : ∀ r', letTemporaryGo value (.ref r) r' = pure () := by intro _; with_unfolding_all rfl) :
    wpAny (model prog w) A (subscriptTail value slice (.ref r) (.int k u)) Q E s :=
  item_list (isL hl) (by omega) (by have : (k : Int) < 2 ^ 60 := by exact_mod_cast hk
                                    omega) (by simpa using hx) h hs hg
end

section
variable {outer : List Env} {s : Shared} {G : Store} {prog : Program} {w : World} {A : Around} {E : Value → Shared → Prop}

theorem br_spec {n : Nat} {r : Addr} {vs : List Value} {k : Nat} {ds : List Dat} {x : Value} {dx : Dat} {Q : Value → Shared → Prop} (p : Nat → Bool)
    (hA : AOk A outer (n + 1)) (O : Ok outer G s) (P : PG w G) (hr : s.heap.get? r = some (lstO vs k)) (hrf : r ∉ frs outer) (hv : RdL G vs ds) (hx : Rd G x dx)
    (hok : ∀ d ∈ ds, kqdOk 8 d = true) (hokx : kqdOk 8 dx = true) (hlt : ∀ j d, ds[j]? = some d → ltD dx d = some (p j)) (hmono : ∀ i j, i ≤ j → p i = true → p j = true) (hlen : ds.length < 2 ^ 20)
    (hQ : ∀ (i : Nat) t s' G', i ≤ ds.length → (∀ j, j < i → p j = false) → (∀ j, i ≤ j → j < ds.length → p j = true) → Step (frs outer) [] G s G' s' → Q (.int i t) s') :
    wpAny (model prog w) A (call (.ref 70) [.ref r, x]) Q E s := by
  refine enterF P.fbr P hA O (fun pm cd => binds_br2 P O.sub) (by kernel_rfl) (by kernel_rfl) rfl rfl rfl fun env s₁ A' L e hA' I => ?_
  obtain ⟨m, hm⟩ : ∃ m : Str → Option Value, m = (fun x_1 => List.lookup x_1 [(("a" : Str), Value.ref r), (("x" : Str), x), (("lo" : Str), .int 0 399), (("hi" : Str), .none), (("key" : Str), .none)].reverse) := ⟨_, rfl⟩
  have ma : m ("a" : Str) = some (.ref r) := by rw [hm]; kernel_rfl
  have mx : m ("x" : Str) = some x := by rw [hm]; kernel_rfl
  have mlo : m ("lo" : Str) = some (.int 0 399) := by rw [hm]; kernel_rfl
  have mhi : m ("hi" : Str) = some .none := by rw [hm]; kernel_rfl
  have mkey : m ("key" : Str) = some .none := by rw [hm]; kernel_rfl
  rw [← hm] at I
  clear hm
  refine wpAny_execs_cons (wpAny_If (wpAny_isTrue_Compare1 (ldL e I (by kernel_rfl) mlo (wpAny_Constant_int (lt_int (wpAny_truthy_bool ?_))))))
  refine wpAny_execs_nil ?_
  replace I := I.tok (s₁.toks + 1)
  generalize ({ s₁ with toks := s₁.toks + 1 } : Shared) = s₁ at I ⊢
  refine wpAny_execs_cons (wpAny_If (wpAny_isTrue_Compare1 (ldL e I (by kernel_rfl) mhi (wpAny_Constant_none (wpAny_is_plain rfl (wpAny_truthy_bool ?_))))))
  have hr1 := I.elder hr (by simp) hrf
  refine wpAny_execs_cons (wpAny_Assign_Name (callB1 e I.sub P (by kernel_rfl) (id := "len") (by decide +kernel) (fun _ => rfl) (ldL e I (by kernel_rfl) ma (len_list (isL hr1) ?_ ?_))))
  · have := hv.length; simp; omega
  refine stL e (I.tok _) (by kernel_rfl) fun h' t I₂ => wpAny_execs_nil ?_
  have nx : ("x" : Str) ≠ ("hi" : Str) := by decide +kernel
  have na : ("a" : Str) ≠ ("hi" : Str) := by decide +kernel
  have nlo : ("lo" : Str) ≠ ("hi" : Str) := by decide +kernel
  have nkey : ("key" : Str) ≠ ("hi" : Str) := by decide +kernel
  refine wpAny_execs_cons (wpAny_If (wpAny_isTrue_Compare1 (ldL e I₂ (by kernel_rfl) (upd_to nkey mkey) (wpAny_Constant_none (wpAny_is_plain rfl (wpAny_truthy_bool ?_))))))
  refine wpAny_execs_cons ?_
  refine bis_loop true (len := ds.length) (G1 := G) p (fun m => m ("a" : Str) = some (.ref r) ∧ m ("x" : Str) = some x) e (by kernel_rfl) (by kernel_rfl) (by kernel_rfl) ?_ hmono ?_ (lo := 0) (hi := ds.length) (upd_to nlo mlo) (t2 := s₁.toks + 1) ?_ ⟨upd_to na ma, upd_to nx mx⟩ (.refl _) I₂ (Nat.zero_le _) (Nat.le_refl _) (fun j hj => absurd hj (Nat.not_lt_zero _)) (fun j h1 h2 => absurd h2 (Nat.not_lt.mpr h1)) ?_
  · rintro m n v hn ⟨h1, h2⟩
    have a1 : ("a" : Str) ≠ ("lo" : Str) ∧ ("a" : Str) ≠ ("hi" : Str) ∧ ("a" : Str) ≠ ("mid" : Str) ∧ ("x" : Str) ≠ ("lo" : Str) ∧ ("x" : Str) ≠ ("hi" : Str) ∧ ("x" : Str) ≠ ("mid" : Str) := by decide +kernel
    obtain ⟨b1, b2, b3, b4, b5, b6⟩ := a1
    rcases hn with rfl | rfl | rfl
    · exact ⟨upd_to b1 h1, upd_to b4 h2⟩
    · exact ⟨upd_to b2 h1, upd_to b5 h2⟩
    · exact ⟨upd_to b3 h1, upd_to b6 h2⟩
  · intro G' m mid t s₂ hle ⟨ha, hx'⟩ hmid hml I
    obtain ⟨d, hd⟩ : ∃ d, ds[mid]? = some d := ⟨ds[mid], by simp [hml]⟩
    obtain ⟨v, hvm, rv⟩ := hv.get hd
    refine wpAny_isTrue_Compare1 (ldL e I (by kernel_rfl) hx' (Subscript_ (ldL e I (by kernel_rfl) ha (ldL e I (by kernel_rfl) hmid (itemL (I.elder hr (by simp) hrf) (by omega) hvm ?_)))))
    refine cmp_ofLt (ltAt_Rd I.sub 8 (hx.mono hle) (rv.mono hle) hokx (hok d (List.mem_of_getElem? hd)) (by have := hA'.units; show A'.units + 8 < 9900; omega) (hlt mid d hd) prog w _ _ (wpAny_truthy_bool ⟨by simp, G', .refl _, I⟩))
  · rw [upd_same]; have := hv.length; simp [this]
  · intro G' m i t s₂ hle hK hlo hil h1 h2 I
    refine wpAny_execs_nil (wpAny_execs_cons (wpAny_Return_some (ldL e I (by kernel_rfl) hlo ⟨⟨G', I.toStep⟩, hQ i t s₂ G' hil h1 h2 I.toStep⟩)))
end
end Mine

end
section
open PySem PySem.W PyProof.Rows PySem.Calls
namespace Mine
section
variable {outer : List Env} {s : Shared} {G : Store} {prog : Program} {w : World} {A : Around} {E : Value → Shared → Prop}

theorem bl_spec {n : Nat} {r : Addr} {vs : List Value} {k : Nat} {ds : List Dat} {x : Value} {dx : Dat} {Q : Value → Shared → Prop} (p : Nat → Bool)
    (hA : AOk A outer (n + 1)) (O : Ok outer G s) (P : PG w G) (hr : s.heap.get? r = some (lstO vs k)) (hrf : r ∉ frs outer) (hv : RdL G vs ds) (hx : Rd G x dx)
    (hok : ∀ d ∈ ds, kqdOk 8 d = true) (hokx : kqdOk 8 dx = true) (hlt : ∀ j d, ds[j]? = some d → ltD d dx = some (p j)) (hmono : ∀ i j, i ≤ j → p j = true → p i = true) (hlen : ds.length < 2 ^ 20)
    (hQ : ∀ (i : Nat) t s' G', i ≤ ds.length → (∀ j, j < i → p j = true) → (∀ j, i ≤ j → j < ds.length → p j = false) → Step (frs outer) [] G s G' s' → Q (.int i t) s') :
    wpAny (model prog w) A (call (.ref 79) [.ref r, x]) Q E s := by
  refine enterF P.fbl P hA O (fun pm cd => binds_bl2 P O.sub) (by kernel_rfl) (by kernel_rfl) rfl rfl rfl fun env s₁ A' L e hA' I => ?_
  obtain ⟨m, hm⟩ : ∃ m : Str → Option Value, m = (fun x_1 => List.lookup x_1 [(("a" : Str), Value.ref r), (("x" : Str), x), (("lo" : Str), .int 0 413), (("hi" : Str), .none), (("key" : Str), .none)].reverse) := ⟨_, rfl⟩
  have ma : m ("a" : Str) = some (.ref r) := by rw [hm]; kernel_rfl
  have mx : m ("x" : Str) = some x := by rw [hm]; kernel_rfl
  have mlo : m ("lo" : Str) = some (.int 0 413) := by rw [hm]; kernel_rfl
  have mhi : m ("hi" : Str) = some .none := by rw [hm]; kernel_rfl
  have mkey : m ("key" : Str) = some .none := by rw [hm]; kernel_rfl
  rw [← hm] at I
  clear hm
  refine wpAny_execs_cons (wpAny_If (wpAny_isTrue_Compare1 (ldL e I (by kernel_rfl) mlo (wpAny_Constant_int (lt_int (wpAny_truthy_bool ?_))))))
  refine wpAny_execs_nil ?_
  replace I := I.tok (s₁.toks + 1)
  generalize ({ s₁ with toks := s₁.toks + 1 } : Shared) = s₁ at I ⊢
  refine wpAny_execs_cons (wpAny_If (wpAny_isTrue_Compare1 (ldL e I (by kernel_rfl) mhi (wpAny_Constant_none (wpAny_is_plain rfl (wpAny_truthy_bool ?_))))))
  have hr1 := I.elder hr (by simp) hrf
  refine wpAny_execs_cons (wpAny_Assign_Name (callB1 e I.sub P (by kernel_rfl) (id := "len") (by decide +kernel) (fun _ => rfl) (ldL e I (by kernel_rfl) ma (len_list (isL hr1) ?_ ?_))))
  · have := hv.length; simp; omega
  refine stL e (I.tok _) (by kernel_rfl) fun h' t I₂ => wpAny_execs_nil ?_
  have nx : ("x" : Str) ≠ ("hi" : Str) := by decide +kernel
  have na : ("a" : Str) ≠ ("hi" : Str) := by decide +kernel
  have nlo : ("lo" : Str) ≠ ("hi" : Str) := by decide +kernel
  have nkey : ("key" : Str) ≠ ("hi" : Str) := by decide +kernel
  refine wpAny_execs_cons (wpAny_If (wpAny_isTrue_Compare1 (ldL e I₂ (by kernel_rfl) (upd_to nkey mkey) (wpAny_Constant_none (wpAny_is_plain rfl (wpAny_truthy_bool ?_))))))
  refine wpAny_execs_cons ?_
  refine bis_loop false (len := ds.length) (G1 := G) (fun j => !p j) (fun m => m ("a" : Str) = some (.ref r) ∧ m ("x" : Str) = some x) e (by kernel_rfl) (by kernel_rfl) (by kernel_rfl) ?_ (fun i j hij h => by cases q : p j with | false => rfl | true => rw [hmono i j hij q] at h; cases h) ?_ (lo := 0) (hi := ds.length) (upd_to nlo mlo) (t2 := s₁.toks + 1) ?_ ⟨upd_to na ma, upd_to nx mx⟩ (.refl _) I₂ (Nat.zero_le _) (Nat.le_refl _) (fun j hj => absurd hj (Nat.not_lt_zero _)) (fun j h1 h2 => absurd h2 (Nat.not_lt.mpr h1)) ?_
  · rintro m n v hn ⟨h1, h2⟩
    have a1 : ("a" : Str) ≠ ("lo" : Str) ∧ ("a" : Str) ≠ ("hi" : Str) ∧ ("a" : Str) ≠ ("mid" : Str) ∧ ("x" : Str) ≠ ("lo" : Str) ∧ ("x" : Str) ≠ ("hi" : Str) ∧ ("x" : Str) ≠ ("mid" : Str) := by decide +kernel
    obtain ⟨b1, b2, b3, b4, b5, b6⟩ := a1
    rcases hn with rfl | rfl | rfl
    · exact ⟨upd_to b1 h1, upd_to b4 h2⟩
    · exact ⟨upd_to b2 h1, upd_to b5 h2⟩
    · exact ⟨upd_to b3 h1, upd_to b6 h2⟩
  · intro G' m mid t s₂ hle ⟨ha, hx'⟩ hmid hml I
    obtain ⟨d, hd⟩ : ∃ d, ds[mid]? = some d := ⟨ds[mid], by simp [hml]⟩
    obtain ⟨v, hvm, rv⟩ := hv.get hd
    refine wpAny_isTrue_Compare1 (Subscript_ (ldL e I (by kernel_rfl) ha (ldL e I (by kernel_rfl) hmid (itemL (I.elder hr (by simp) hrf) (by omega) hvm (ldL e I (by kernel_rfl) hx' ?_)))))
    refine cmp_ofLt (ltAt_Rd I.sub 8 (rv.mono hle) (hx.mono hle) (hok d (List.mem_of_getElem? hd)) hokx (by have := hA'.units; show A'.units + 8 < 9900; omega) (hlt mid d hd) prog w _ _ (wpAny_truthy_bool ⟨by cases p mid <;> rfl, G', .refl _, I⟩))
  · rw [upd_same]; have := hv.length; simp [this]
  · intro G' m i t s₂ hle hK hlo hil h1 h2 I
    refine wpAny_execs_nil (wpAny_execs_cons (wpAny_Return_some (ldL e I (by kernel_rfl) hlo ⟨⟨G', I.toStep⟩, hQ i t s₂ G' hil (fun j hj => by simpa using h1 j hj) (fun j hj hj2 => by simpa using h2 j hj hj2) I.toStep⟩)))

/-- what the key makes of an item -/
def KeyOk (prog : Program) (w : World) (t kd : Dat) : Prop :=
  ∀ (A : Around) (outer : List Env) (n : Nat) (G : Store) (s : Shared) (v : Value) (Q : Value → Shared → Prop) (E : Value → Shared → Prop), AOk A outer (n + 2) → Ok outer G s → PG w G → Rd G v t →
    (∀ r s' G', Step (frs outer) [] G s G' s' → Rd G' r kd → Q r s') → wpAny (model prog w) A (call (.ref 44) [v]) Q E s

/-- a def of the program's own that a local name holds, called with one plain argument -/
theorem callL1 {outer : List Env} {ex : List Addr} {s0 : Shared} {G0 : Store} {L : Addr} {m : Str → Option Value} {mu : List (Addr × It)} {env : Env} {sc : Scope} {x : Str} {np pos : Pos} {a : Expr} {f : Addr} {Q : Value → Shared → Prop} {i : Nat} {dV kV : Value}
    (e : EnvOk env sc L) (I : In outer ex s0 G0 G L m mu s) (hk : sc.names.lookup x = some .local) (hv : m x = some (.ref f)) (F : Fn G f i dV kV)
    (ha : ∀ env', (starEach [a] env' = [(false, eval a env')])) (h : wpAny (model prog w) A (eval a env) (fun v s₁ => (∃ G', LeS G G' ∧ SubS G' s₁.heap) ∧ wpAny (model prog w) A (call (.ref f) [v]) Q E s₁) E s) (hd : (x == ("__debug__" : Str)) = false := by decide +kernel) :
    wpAny (model prog w) A (eval (.Call (.Name x np) [a] [] pos) env) Q E s := by
  obtain ⟨pm, cd, ho, _⟩ := F.there
  refine wpAny_Call_NameR (ldL e I hk hv ?_ hd)
  rw [ha]
  refine callWith_function (o := { cls := .type "function", data := .func (fnAt i dV kV pm cd) }) (fd := fnAt i dV kV pm cd) (evalArgs_plain (spliced_cons (wpAny_mono h (fun v s₁ h₁ => spliced_nil ⟨⟨?_, rfl⟩, h₁.2⟩) fun _ _ y => y)))
  · obtain ⟨⟨G', h1, h2⟩, _⟩ := h₁
    exact h2 _ _ (h1 _ _ ho)
theorem blk_spec {n : Nat} {r : Addr} {vs : List Value} {k : Nat} {ds : List Dat} {x : Value} {dx : Dat} {Q : Value → Shared → Prop} (p : Nat → Bool)
    (hA : AOk A outer (n + 4)) (O : Ok outer G s) (P : PG w G) (hr : s.heap.get? r = some (lstO vs k)) (hrf : r ∉ frs outer) (hv : RdL G vs ds) (hx : Rd G x dx)
    (hokx : kqdOk 8 dx = true) (hkey : ∀ j d, ds[j]? = some d → ∃ kd, KeyOk prog w d kd ∧ kqdOk 8 kd = true ∧ ltD kd dx = some (p j)) (hmono : ∀ i j, i ≤ j → p j = true → p i = true) (hlen : ds.length < 2 ^ 20)
    (hQ : ∀ (i : Nat) t s' G', i ≤ ds.length → (∀ j, j < i → p j = true) → (∀ j, i ≤ j → j < ds.length → p j = false) → Step (frs outer) [] G s G' s' → Q (.int i t) s') :
    wpAny (model prog w) A (call (.ref 79) [.ref r, x] [(("key" : Str), .ref 44)]) Q E s := by
  refine enterF P.fbl P hA O (fun pm cd => binds_bl3 P O.sub) (by kernel_rfl) (by kernel_rfl) rfl rfl rfl fun env s₁ A' L e hA' I => ?_
  obtain ⟨m, hm⟩ : ∃ m : Str → Option Value, m = (fun x_1 => List.lookup x_1 [(("a" : Str), Value.ref r), (("x" : Str), x), (("lo" : Str), .int 0 413), (("hi" : Str), .none), (("key" : Str), Value.ref 44)].reverse) := ⟨_, rfl⟩
  have ma : m ("a" : Str) = some (.ref r) := by rw [hm]; kernel_rfl
  have mx : m ("x" : Str) = some x := by rw [hm]; kernel_rfl
  have mlo : m ("lo" : Str) = some (.int 0 413) := by rw [hm]; kernel_rfl
  have mhi : m ("hi" : Str) = some .none := by rw [hm]; kernel_rfl
  have mkey : m ("key" : Str) = some (.ref 44) := by rw [hm]; kernel_rfl
  rw [← hm] at I
  clear hm
  refine wpAny_execs_cons (wpAny_If (wpAny_isTrue_Compare1 (ldL e I (by kernel_rfl) mlo (wpAny_Constant_int (lt_int (wpAny_truthy_bool ?_))))))
  refine wpAny_execs_nil ?_
  replace I := I.tok (s₁.toks + 1)
  generalize ({ s₁ with toks := s₁.toks + 1 } : Shared) = s₁ at I ⊢
  refine wpAny_execs_cons (wpAny_If (wpAny_isTrue_Compare1 (ldL e I (by kernel_rfl) mhi (wpAny_Constant_none (wpAny_is_plain rfl (wpAny_truthy_bool ?_))))))
  have hr1 := I.elder hr (by simp) hrf
  refine wpAny_execs_cons (wpAny_Assign_Name (callB1 e I.sub P (by kernel_rfl) (id := "len") (by decide +kernel) (fun _ => rfl) (ldL e I (by kernel_rfl) ma (len_list (isL hr1) ?_ ?_))))
  · have := hv.length; simp; omega
  refine stL e (I.tok _) (by kernel_rfl) fun h' t I₂ => wpAny_execs_nil ?_
  have nx : ("x" : Str) ≠ ("hi" : Str) := by decide +kernel
  have na : ("a" : Str) ≠ ("hi" : Str) := by decide +kernel
  have nlo : ("lo" : Str) ≠ ("hi" : Str) := by decide +kernel
  have nkey : ("key" : Str) ≠ ("hi" : Str) := by decide +kernel
  refine wpAny_execs_cons (wpAny_If (wpAny_isTrue_Compare1 (ldL e I₂ (by kernel_rfl) (upd_to nkey mkey) (wpAny_Constant_none (wpAny_is_other rfl (by nofun) (wpAny_truthy_bool ?_))))))
  refine wpAny_execs_cons ?_
  refine bis_loop false (len := ds.length) (G1 := G) (fun j => !p j) (fun m => m ("a" : Str) = some (.ref r) ∧ m ("x" : Str) = some x ∧ m ("key" : Str) = some (.ref 44)) e (by kernel_rfl) (by kernel_rfl) (by kernel_rfl) ?_ (fun i j hij h => by cases q : p j with | false => rfl | true => rw [hmono i j hij q] at h; cases h) ?_ (lo := 0) (hi := ds.length) (upd_to nlo mlo) (t2 := s₁.toks + 1) ?_ ⟨upd_to na ma, upd_to nx mx, upd_to nkey mkey⟩ (.refl _) I₂ (Nat.zero_le _) (Nat.le_refl _) (fun j hj => absurd hj (Nat.not_lt_zero _)) (fun j h1 h2 => absurd h2 (Nat.not_lt.mpr h1)) ?_
  · rintro m n v hn ⟨h1, h2, h3⟩
    have a1 : ("a" : Str) ≠ ("lo" : Str) ∧ ("a" : Str) ≠ ("hi" : Str) ∧ ("a" : Str) ≠ ("mid" : Str) ∧ ("x" : Str) ≠ ("lo" : Str) ∧ ("x" : Str) ≠ ("hi" : Str) ∧ ("x" : Str) ≠ ("mid" : Str) ∧ ("key" : Str) ≠ ("lo" : Str) ∧ ("key" : Str) ≠ ("hi" : Str) ∧ ("key" : Str) ≠ ("mid" : Str) := by decide +kernel
    obtain ⟨b1, b2, b3, b4, b5, b6, b7, b8, b9⟩ := a1
    rcases hn with rfl | rfl | rfl
    · exact ⟨upd_to b1 h1, upd_to b4 h2, upd_to b7 h3⟩
    · exact ⟨upd_to b2 h1, upd_to b5 h2, upd_to b8 h3⟩
    · exact ⟨upd_to b3 h1, upd_to b6 h2, upd_to b9 h3⟩
  · intro G' m mid t s₂ hle ⟨ha, hx', hk'⟩ hmid hml I
    obtain ⟨d, hd⟩ : ∃ d, ds[mid]? = some d := ⟨ds[mid], by simp [hml]⟩
    obtain ⟨v, hvm, rv⟩ := hv.get hd
    obtain ⟨kd, hkd, hko, hlt⟩ := hkey mid d hd
    refine wpAny_isTrue_Compare1 (callL1 e I (by kernel_rfl) hk' (P.fcmp.mono hle) (fun _ => rfl) (Subscript_ (ldL e I (by kernel_rfl) ha (ldL e I (by kernel_rfl) hmid (itemL (I.elder hr (by simp) hrf) (by omega) hvm ⟨⟨G', .refl _, I.sub⟩, hkd _ _ (n + 1) G' _ _ _ _ (hA'.le (by omega)) (I.ok e.frame (by rw [e.scope]; exact e.kind)) (P.mono hle) (rv.mono hle) fun kr s₃ G'' hst rk => ?_⟩)))))
    have I' := I.calledE e.frame hst
    exact ldL e I' (by kernel_rfl) hx' (cmp_ofLt (ltAt_Rd I'.sub 8 rk ((hx.mono hle).mono hst.le) hko hokx (by have := hA'.units; show A'.units + 8 < 9900; omega) hlt prog w _ _ (wpAny_truthy_bool ⟨by cases p mid <;> rfl, G'', hst.le, I'⟩)))
  · rw [upd_same]; have := hv.length; simp [this]
  · intro G' m i t s₂ hle hK hlo hil h1 h2 I
    refine wpAny_execs_nil (wpAny_execs_cons (wpAny_Return_some (ldL e I (by kernel_rfl) hlo ⟨⟨G', I.toStep⟩, hQ i t s₂ G' hil (fun j hj => by simpa using h1 j hj) (fun j hj hj2 => by simpa using h2 j hj hj2) I.toStep⟩)))
theorem brk_spec {n : Nat} {r : Addr} {vs : List Value} {k : Nat} {lt : Tok} {ds : List Dat} {x : Value} {dx : Dat} {Q : Value → Shared → Prop} (p : Nat → Bool)
    (hA : AOk A outer (n + 4)) (O : Ok outer G s) (P : PG w G) (hr : s.heap.get? r = some (lstO vs k)) (hrf : r ∉ frs outer) (hv : RdL G vs ds) (hx : Rd G x dx)
    (hokx : kqdOk 8 dx = true) (hkey : ∀ j d, ds[j]? = some d → ∃ kd, KeyOk prog w d kd ∧ kqdOk 8 kd = true ∧ ltD dx kd = some (p j)) (hmono : ∀ i j, i ≤ j → p i = true → p j = true) (hlen : ds.length < 2 ^ 20)
    (hQ : ∀ (i : Nat) t s' G', i ≤ ds.length → (∀ j, j < i → p j = false) → (∀ j, i ≤ j → j < ds.length → p j = true) → Step (frs outer) [] G s G' s' → Q (.int i t) s') :
    wpAny (model prog w) A (call (.ref 70) [.ref r, x, .int 0 lt, .none] [(("key" : Str), .ref 44)]) Q E s := by
  refine enterF P.fbr P hA O (fun pm cd => binds_br4 P O.sub) (by kernel_rfl) (by kernel_rfl) rfl rfl rfl fun env s₁ A' L e hA' I => ?_
  obtain ⟨m, hm⟩ : ∃ m : Str → Option Value, m = (fun x_1 => List.lookup x_1 [(("a" : Str), Value.ref r), (("x" : Str), x), (("lo" : Str), .int 0 lt), (("hi" : Str), .none), (("key" : Str), Value.ref 44)].reverse) := ⟨_, rfl⟩
  have ma : m ("a" : Str) = some (.ref r) := by rw [hm]; kernel_rfl
  have mx : m ("x" : Str) = some x := by rw [hm]; kernel_rfl
  have mlo : m ("lo" : Str) = some (.int 0 lt) := by rw [hm]; kernel_rfl
  have mhi : m ("hi" : Str) = some .none := by rw [hm]; kernel_rfl
  have mkey : m ("key" : Str) = some (.ref 44) := by rw [hm]; kernel_rfl
  rw [← hm] at I
  clear hm
  refine wpAny_execs_cons (wpAny_If (wpAny_isTrue_Compare1 (ldL e I (by kernel_rfl) mlo (wpAny_Constant_int (lt_int (wpAny_truthy_bool ?_))))))
  refine wpAny_execs_nil ?_
  replace I := I.tok (s₁.toks + 1)
  generalize ({ s₁ with toks := s₁.toks + 1 } : Shared) = s₁ at I ⊢
  refine wpAny_execs_cons (wpAny_If (wpAny_isTrue_Compare1 (ldL e I (by kernel_rfl) mhi (wpAny_Constant_none (wpAny_is_plain rfl (wpAny_truthy_bool ?_))))))
  have hr1 := I.elder hr (by simp) hrf
  refine wpAny_execs_cons (wpAny_Assign_Name (callB1 e I.sub P (by kernel_rfl) (id := "len") (by decide +kernel) (fun _ => rfl) (ldL e I (by kernel_rfl) ma (len_list (isL hr1) ?_ ?_))))
  · have := hv.length; simp; omega
  refine stL e (I.tok _) (by kernel_rfl) fun h' t I₂ => wpAny_execs_nil ?_
  have nx : ("x" : Str) ≠ ("hi" : Str) := by decide +kernel
  have na : ("a" : Str) ≠ ("hi" : Str) := by decide +kernel
  have nlo : ("lo" : Str) ≠ ("hi" : Str) := by decide +kernel
  have nkey : ("key" : Str) ≠ ("hi" : Str) := by decide +kernel
  refine wpAny_execs_cons (wpAny_If (wpAny_isTrue_Compare1 (ldL e I₂ (by kernel_rfl) (upd_to nkey mkey) (wpAny_Constant_none (wpAny_is_other rfl (by nofun) (wpAny_truthy_bool ?_))))))
  refine wpAny_execs_cons ?_
  refine bis_loop true (len := ds.length) (G1 := G) p (fun m => m ("a" : Str) = some (.ref r) ∧ m ("x" : Str) = some x ∧ m ("key" : Str) = some (.ref 44)) e (by kernel_rfl) (by kernel_rfl) (by kernel_rfl) ?_ hmono ?_ (lo := 0) (hi := ds.length) (upd_to nlo mlo) (t2 := s₁.toks + 1) ?_ ⟨upd_to na ma, upd_to nx mx, upd_to nkey mkey⟩ (.refl _) I₂ (Nat.zero_le _) (Nat.le_refl _) (fun j hj => absurd hj (Nat.not_lt_zero _)) (fun j h1 h2 => absurd h2 (Nat.not_lt.mpr h1)) ?_
  · rintro m n v hn ⟨h1, h2, h3⟩
    have a1 : ("a" : Str) ≠ ("lo" : Str) ∧ ("a" : Str) ≠ ("hi" : Str) ∧ ("a" : Str) ≠ ("mid" : Str) ∧ ("x" : Str) ≠ ("lo" : Str) ∧ ("x" : Str) ≠ ("hi" : Str) ∧ ("x" : Str) ≠ ("mid" : Str) ∧ ("key" : Str) ≠ ("lo" : Str) ∧ ("key" : Str) ≠ ("hi" : Str) ∧ ("key" : Str) ≠ ("mid" : Str) := by decide +kernel
    obtain ⟨b1, b2, b3, b4, b5, b6, b7, b8, b9⟩ := a1
    rcases hn with rfl | rfl | rfl
    · exact ⟨upd_to b1 h1, upd_to b4 h2, upd_to b7 h3⟩
    · exact ⟨upd_to b2 h1, upd_to b5 h2, upd_to b8 h3⟩
    · exact ⟨upd_to b3 h1, upd_to b6 h2, upd_to b9 h3⟩
  · intro G' m mid t s₂ hle ⟨ha, hx', hk'⟩ hmid hml I
    obtain ⟨d, hd⟩ : ∃ d, ds[mid]? = some d := ⟨ds[mid], by simp [hml]⟩
    obtain ⟨v, hvm, rv⟩ := hv.get hd
    obtain ⟨kd, hkd, hko, hlt⟩ := hkey mid d hd
    refine wpAny_isTrue_Compare1 (ldL e I (by kernel_rfl) hx' (callL1 e I (by kernel_rfl) hk' (P.fcmp.mono hle) (fun _ => rfl) (Subscript_ (ldL e I (by kernel_rfl) ha (ldL e I (by kernel_rfl) hmid (itemL (I.elder hr (by simp) hrf) (by omega) hvm ⟨⟨G', .refl _, I.sub⟩, hkd _ _ (n + 1) G' _ _ _ _ (hA'.le (by omega)) (I.ok e.frame (by rw [e.scope]; exact e.kind)) (P.mono hle) (rv.mono hle) fun kr s₃ G'' hst rk => ?_⟩))))))
    have I' := I.calledE e.frame hst
    exact cmp_ofLt (ltAt_Rd I'.sub 8 ((hx.mono hle).mono hst.le) rk hokx hko (by have := hA'.units; show A'.units + 8 < 9900; omega) hlt prog w _ _ (wpAny_truthy_bool ⟨by simp, G'', hst.le, I'⟩))
  · rw [upd_same]; have := hv.length; simp [this]
  · intro G' m i t s₂ hle hK hlo hil h1 h2 I
    refine wpAny_execs_nil (wpAny_execs_cons (wpAny_Return_some (ldL e I (by kernel_rfl) hlo ⟨⟨G', I.toStep⟩, hQ i t s₂ G' hil h1 h2 I.toStep⟩)))
end
end Mine

end
section
open PySem PySem.W PyProof.Rows PySem.Calls
namespace Mine

section
variable {outer : List Env} {ex : List Addr} {s0 s : Shared} {G0 G : Store} {L : Addr} {m : Str → Option Value} {mu : List (Addr × It)} {prog : Program} {w : World} {A : Around} {E : Value → Shared → Prop} {env : Env} {sc : Scope}

/-- a def of the program's own, called by its global name, plain arguments -/
theorem callGl {x : Str} {np pos : Pos} {args : List Expr} {a : Sem Value} {rest : List (Bool × Sem Value)} {f : Addr} {Q : Value → Shared → Prop} {i : Nat} {dV kV : Value}
    (e : EnvOk env sc L) (S : SubS G s.heap) (P : PG w G) (hk : sc.names.lookup x = some .globalImplicit) (hx : (x, .ref f) ∈ gtab) (F : Fn G f i dV kV) (hargs : backTo pos (starEach args env) = (false, a) :: rest)
    (h : wpAny (model prog w) A (spliced ((false, a) :: rest)) (fun vs s₁ => (∃ G', LeS G G' ∧ SubS G' s₁.heap) ∧ wpAny (model prog w) A (call (.ref f) vs) Q E s₁) E s) (hd : (x == ("__debug__" : Str)) = false := by decide +kernel) :
    wpAny (model prog w) A (eval (.Call (.Name x np) args [] pos) env) Q E s := by
  obtain ⟨pm, cd, ho, _⟩ := F.there
  refine wpAny_Call_NameR (ldGl e S P hk hx ?_ hd)
  rw [hargs]
  refine callWith_function (o := { cls := .type "function", data := .func (fnAt i dV kV pm cd) }) (fd := fnAt i dV kV pm cd) (evalArgs_plain (wpAny_mono h (fun vs s₁ h₁ => ⟨⟨?_, rfl⟩, h₁.2⟩) fun _ _ y => y))
  obtain ⟨⟨G', h1, h2⟩, _⟩ := h₁
  exact h2 _ _ (h1 _ _ ho)
/-- the same with keywords -/
theorem callGlKw {x : Str} {np pos : Pos} {args : List Expr} {kws : List Keyword} {a : Sem Value} {rest : List (Bool × Sem Value)} {f : Addr} {Q : Value → Shared → Prop} {i : Nat} {dV kV : Value}
    (e : EnvOk env sc L) (S : SubS G s.heap) (P : PG w G) (hk : sc.names.lookup x = some .globalImplicit) (hx : (x, .ref f) ∈ gtab) (F : Fn G f i dV kV) (hargs : backTo pos (starEach args env) = (false, a) :: rest)
    (hall : (backToKw pos (keywordEach kws env)).all (·.1.isSome) = true)
    (h : wpAny (model prog w) A (spliced ((false, a) :: rest)) (fun vs s₁ => wpAny (model prog w) A (evalAll ((backToKw pos (keywordEach kws env)).map (·.2))) (fun ks s₂ => (∃ G', LeS G G' ∧ SubS G' s₂.heap) ∧ wpAny (model prog w) A (call (.ref f) vs (((backToKw pos (keywordEach kws env)).filterMap (·.1)).zip ks)) Q E s₂) E s₁) E s)
    (hd : (x == ("__debug__" : Str)) = false := by decide +kernel) :
    wpAny (model prog w) A (eval (.Call (.Name x np) args kws pos) env) Q E s := by
  obtain ⟨pm, cd, ho, _⟩ := F.there
  refine wpAny_Call_ofName (ldGl e S P hk hx ?_ hd)
  rw [hargs]
  refine callWith_def_kw (o := { cls := .type "function", data := .func (fnAt i dV kV pm cd) }) (fd := fnAt i dV kV pm cd) rfl (evalArgs_kw hall (wpAny_mono h (fun vs s₁ h₁ => wpAny_mono h₁ (fun ks s₂ h₂ => ⟨?_, h₂.2⟩) fun _ _ y => y) fun _ _ y => y))
  obtain ⟨⟨G', h1, h2⟩, _⟩ := h₂
  exact h2 _ _ (h1 _ _ ho)

theorem insertList {xs : List Value} {i : Nat} {y : Value} : ((xs.toArray.extract 0 i).push y ++ xs.toArray.extract i).toList = xs.take i ++ y :: xs.drop i := by
  simp [List.extract_eq_take_drop]
  exact List.take_of_length_le (by simp)

theorem insert_meets (r : Addr) (vs : List Value) (n : Nat) (u : Tok) (y : Value) (x : Int) (c1 : ¬ (!Builtin.List.listFitsIndex x) = true) (c2 : vs.toArray.size ≤ sizeLine) : Meets (Builtin.«list.insert» ⟨[.ref r, .int x u, y], []⟩) fun _ R s =>
    s.heap.get? r = some { cls := Value.type "list", data := Data.seq vs.toArray n } ∧ R (Except.ok (Flow.ret Value.none)) { s with heap := s.heap.update r (Obj.mapSeq fun xs => (have k := if x < 0 then (x + ↑xs.size).toNat else min x.toNat xs.size; (xs.extract 0 k).push y ++ xs.extract k)), toks := s.toks } := by
  apply AutoSeq1.list_insert_list_int_val_1
  · exact c1
  · exact c2

/-- insert into a list of the frame's own -/
theorem In.insert {r : Addr} {vs : List Value} {n i : Nat} {u : Tok} {y : Value} {Q : Value → Shared → Prop} (I : In outer ex s0 G0 G L m ((r, .ob (lstO vs n)) :: mu) s) (hi : i ≤ vs.length) (hsz : vs.length < 2 ^ 20)
    (h : ∀ h', In outer ex s0 G0 G L m ((r, .ob (lstO (vs.take i ++ y :: vs.drop i) (n + 1))) :: mu) { s with heap := h' } → Q .none { s with heap := h' }) :
    wpAny (model prog w) A (call (.builtin "list.insert") [.ref r, .int i u, y]) Q E s := by
  have ho : s.heap.get? r = some (lstO vs n) := I.head_at
  have c1 : ¬ (!Builtin.List.listFitsIndex (i : Int)) = true := by simp [Builtin.List.listFitsIndex]; omega
  have c2 : vs.toArray.size ≤ sizeLine := by rw [sizeLine_eq]; simp; omega
  have ht : s.TypeIs (.ref r) "list" := ⟨_, ho, rfl⟩
  obtain ⟨x, hx⟩ : ∃ x : Int, x = (i : Int) := ⟨_, rfl⟩
  rw [← hx] at c1 ⊢
  refine PySem.call_meets F.slot_list_insert ht F.entry_list_insert (F.args_list_insert_3 (.ref r) (.int x u) y) (insert_meets r vs n u y x c1 c2) ?_
  refine And.intro ho ?_
  refine h _ (I.updMu s.toks ?_ rfl)
  rw [hx]
  have h0 : ¬ ((i : Int) < 0) := by omega
  simp only [Obj.mapSeq, h0, if_false, Int.toNat_natCast, List.size_toArray, Nat.min_eq_left hi]
  have hl : (vs.toArray.extract 0 i).push y ++ vs.toArray.extract i vs.length = (vs.take i ++ y :: vs.drop i).toArray := by
    apply Array.ext'
    have := insertList (xs := vs) (i := i) (y := y)
    simpa using this
  rw [hl]
  have hs : ¬ (((vs.take i ++ y :: vs.drop i).toArray.size == vs.length) = true) := by
    simp only [List.size_toArray, List.length_append, List.length_cons, List.length_take, List.length_drop, beq_iff_eq]; omega
  rw [if_neg hs]

/-- append to a list of the frame's own -/
theorem In.append {r : Addr} {vs : List Value} {n : Nat} {y : Value} {Q : Value → Shared → Prop} (I : In outer ex s0 G0 G L m ((r, .ob (lstO vs n)) :: mu) s) (hsz : vs.length < 2 ^ 20)
    (h : ∀ h' k, In outer ex s0 G0 G L m ((r, .ob (lstO (vs ++ [y]) k)) :: mu) { s with heap := h' } → Q .none { s with heap := h' }) :
    wpAny (model prog w) A (call (.builtin "list.append") [.ref r, y]) Q E s := by
  have ho : s.heap.get? r = some (lstO vs n) := I.head_at
  refine wpAny_list_append_plain (items := vs.toArray) ⟨n, ho⟩ (fun h' hp hs => ?_) (by rw [sizeLine_eq]; simp; omega)
  obtain ⟨k, e⟩ := hp
  exact h h' k (I.setMu s.toks (i' := .ob (lstO (vs ++ [y]) k)) (by show h'.get? r = _; rw [e]; simp) hs)
end
end Mine

end
section
open PySem PySem.W PyProof.Rows PySem.Calls
namespace Mine

section
variable {outer : List Env} {ex : List Addr} {s0 s : Shared} {G0 G : Store} {L : Addr} {m : Str → Option Value} {mu : List (Addr × It)} {prog : Program} {w : World} {A : Around} {E : Value → Shared → Prop} {env : Env} {sc : Scope}

theorem EnvOk.quiet (e : EnvOk env sc L) : interactive env = false := by
  unfold interactive
  rw [e.scope, e.kind]
  rfl

/-- the entry into a def that may turn the objects `ex` of its caller's -/
theorem enterFx {n : Nat} {f : Addr} {i : Nat} {dV kV : Value} {pos : List Value} {kw : List (Str × Value)} {binds : List (Str × Value)} {Q : Value → Shared → Prop} (ex : List Addr)
    (F : Fn G f i dV kV) (P : PG w G) (hA : AOk A outer (n + 1)) (O : Ok outer G s) (hex : ∀ a ∈ ex, a ∉ frs outer)
    (hbind : ∀ pm cd, BindsTo s (fnAt i dV kV pm cd) ⟨pos, kw⟩ binds) (hcell : (fdScope (stm i)).names.all (fun x => x.2 != .cell) = true) (hloc : binds.all (fun x => (fdScope (stm i)).names.lookup x.1 == some .local) = true)
    (hco : (fdScope (stm i)).isCoroutine = false) (hgen : (fdScope (stm i)).isGenerator = false) (hk : (fdScope (stm i)).kind = .function)
    (h : ∀ env s₁ A' L, EnvOk env (fdScope (stm i)) L → AOk A' (env :: outer) n → In outer ex s G G L (fun x => binds.reverse.lookup x) [] s₁ → (∀ b o, s.heap.get? b = some o → s₁.heap.get? b = some o) →
      wpAny (model prog w) A' (execs (fdBody (stm i)) env) (fun fl s' => Q (retOf fl) s') (fun _ _ => False) s₁) :
    wpAny (model prog w) A (call (.ref f) pos kw) Q E s := by
  obtain ⟨pm, cd, ho, hcd⟩ := F.there
  refine wpAny_call (codeAny_call_def hA.room (O.sub _ _ ho) rfl (P.lim _ O.sub) (hcd _ O.sub) rfl (hbind pm cd) (fun x hx => ?_) (fun x hx => ?_) (fun h₀ hns k => ?_) hco hgen hk)
  · have := List.all_eq_true.mp hcell x hx; simpa using this
  · have := List.all_eq_true.mp hloc x hx; exact beq_iff_eq.mp this
  refine wpAny_mono (h _ _ _ _ ⟨rfl, hk, rfl, rfl, rfl, rfl⟩ (hA.deeper _) (In.start O _ hns k hex) k) (fun fl s' hq => ?_) fun _ _ x => x.elim
  cases fl <;> exact hq

theorem In.adopt {r : Addr} {o : Obj} (x : In outer ex s0 G0 G L m mu s) (hr : r ∈ ex) (ho : s.heap.get? r = some o) (hG : G r = none) (hL : r ≠ L) (hf : r ∉ frs outer) (hm : r ∉ mu.map (·.1)) : In outer ex s0 G0 G L m ((r, .ob o) :: mu) s :=
  ⟨x.toStep, x.ns, x.above, x.gL, fun p hp => (List.mem_cons.mp hp).elim (fun q => q ▸ ⟨ho, hG, hL, hf, .inr hr⟩) (x.mus p), by simp only [List.map_cons, List.nodup_cons]; exact ⟨hm, x.nd⟩, x.gfs, x.ff, x.fex, x.fsl⟩

/-- insort_right(a, x, key=_comparable_version) -/
theorem ins_spec {n : Nat} {r : Addr} {vs : List Value} {k : Nat} {ds : List Dat} {x : Value} {dx kx : Dat} {Q : Value → Shared → Prop} (p : Nat → Bool)
    (hA : AOk A outer (n + 6)) (O : Ok outer G s) (P : PG w G) (hr : s.heap.get? r = some (lstO vs k)) (hrf : r ∉ frs outer) (hrG : G r = none) (hv : RdL G vs ds) (hx : Rd G x dx) (hkx : KeyOk prog w dx kx) (hokx : kqdOk 8 kx = true)
    (hkey : ∀ j d, ds[j]? = some d → ∃ kd, KeyOk prog w d kd ∧ kqdOk 8 kd = true ∧ ltD kx kd = some (p j)) (hmono : ∀ i j, i ≤ j → p i = true → p j = true) (hlen : ds.length < 2 ^ 19)
    (hQ : ∀ (i : Nat) s' G', i ≤ ds.length → (∀ j, j < i → p j = false) → (∀ j, i ≤ j → j < ds.length → p j = true) → Step (frs outer) [r] G s G' s' → s'.heap.get? r = some (lstO (vs.take i ++ x :: vs.drop i) (k + 1)) → G' r = none → Q .none s') :
    wpAny (model prog w) A (call (.ref 61) [.ref r, x] [(("key" : Str), .ref 44)]) Q E s := by
  refine enterFx [r] P.fins P hA O (by simpa using hrf) (fun pm cd => binds_ins P O.sub) (by kernel_rfl) (by kernel_rfl) rfl rfl rfl fun env s₁ A' L e hA' I hk1 => ?_
  obtain ⟨m, hm⟩ : ∃ m : Str → Option Value, m = (fun x_1 => List.lookup x_1 [(("a" : Str), Value.ref r), (("x" : Str), x), (("lo" : Str), .int 0 386), (("hi" : Str), .none), (("key" : Str), Value.ref 44)].reverse) := ⟨_, rfl⟩
  have ma : m ("a" : Str) = some (.ref r) := by rw [hm]; kernel_rfl
  have mx : m ("x" : Str) = some x := by rw [hm]; kernel_rfl
  have mlo : m ("lo" : Str) = some (.int 0 386) := by rw [hm]; kernel_rfl
  have mhi : m ("hi" : Str) = some .none := by rw [hm]; kernel_rfl
  have mkey : m ("key" : Str) = some (.ref 44) := by rw [hm]; kernel_rfl
  rw [← hm] at I
  clear hm
  replace I := I.adopt (by simp) (hk1 _ _ hr) hrG (I.old_ne hr) hrf (by simp)
  refine wpAny_execs_cons (wpAny_If (wpAny_isTrue_Compare1 (ldL e I (by kernel_rfl) mkey (wpAny_Constant_none (wpAny_is_other rfl (by nofun) (wpAny_truthy_bool ?_))))))
  refine wpAny_execs_cons (wpAny_Assign_Name ?_)
  refine callGlKw e I.sub P (by kernel_rfl) (f := 70) (by decide +kernel) P.fbr rfl rfl ?_
  refine spliced_cons (ldL e I (by kernel_rfl) ma (spliced_cons ?_))
  refine callL1 e I (by kernel_rfl) mkey P.fcmp (fun _ => rfl) (ldL e I (by kernel_rfl) mx ⟨⟨G, .refl _, I.sub⟩, hkx _ _ (n + 3) _ _ _ _ _ (hA'.le (by omega)) (I.ok e.frame (by rw [e.scope]; exact e.kind)) P hx fun kr s₃ G₃ hst rk => ?_⟩)
  replace I := I.calledE e.frame hst
  refine spliced_cons (ldL e I (by kernel_rfl) mlo (spliced_cons (ldL e I (by kernel_rfl) mhi (spliced_nil ?_))))
  refine wpAny_evalAll_cons (wpAny_bind (ldL e I (by kernel_rfl) mkey (wpAny_bind (wpAny_standAt (wpAny_pure (wpAny_evalAll_nil ?_))))))
  refine ⟨⟨G₃, hst.le, hst.sub⟩, ?_⟩
  have efr : frs (env :: outer) = L :: frs outer := by simp [frs, e.frame]
  refine brk_spec (n := n + 1) p (hA'.le (by omega)) (I.ok e.frame (by rw [e.scope]; exact e.kind)) (P.mono hst.le) I.head_at (by rw [efr]; simp only [List.mem_cons, not_or]; exact ⟨(I.mus _ (.head _)).2.2.1, hrf⟩) (hv.mono hst.le) rk hokx hkey hmono (by omega) fun i t s₄ G₄ hi h1 h2 hst4 => ?_
  replace I := I.calledE e.frame hst4
  refine stL e I (by kernel_rfl) fun h' t' I' => wpAny_execs_nil ?_
  have na : ("a" : Str) ≠ ("lo" : Str) := by decide +kernel
  have nx : ("x" : Str) ≠ ("lo" : Str) := by decide +kernel
  have hl := hv.length
  refine wpAny_execs_cons (wpAny_Expr_any ?_ e.quiet)
  refine wpAny_Call_method rfl rfl rfl F.plainAttrs_list F.slot_list_insert (by kernel_rfl) (ldL e I' (by kernel_rfl) (upd_to na ma) ⟨⟨_, I'.head_at, rfl⟩, fun a ha => ?_, ?_⟩)
  · cases ha; exact ⟨_, I'.head_at, rfl⟩
  refine callWith_builtin rfl (evalArgs_plain (spliced_cons (ldL e I' (by kernel_rfl) upd_same (spliced_cons (ldL e I' (by kernel_rfl) (upd_to nx mx) (spliced_nil ?_))))))
  refine I'.insert (by omega) (by omega) fun h'' I'' => wpAny_execs_nil ?_
  exact hQ i _ G₄ hi h1 h2 I''.toStep I''.head_at I''.head_none
end
end Mine

end
section
open PySem PySem.W PyProof.Rows PySem.Calls
namespace Mine

abbrev lIter (r : Addr) (i : Nat) : It := .pr fun o => o.cls = .type "list_iterator" ∧ o.data = .fields #[.ref r, .int i 0]

section
variable {outer : List Env} {s0 s : Shared} {G0 G : Store} {L : Addr} {m : Str → Option Value} {mu : List (Addr × It)} {prog : Program} {w : World} {A : Around} {E : Value → Shared → Prop} {env : Env} {sc : Scope}

theorem In.frz {a : Addr} {vs : List Value} {n : Nat} (x : In outer [] s0 G0 G L m ((a, .ob (lstO vs n)) :: mu) s) : In outer [] s0 G0 (G.put a (lstO vs n)) L m mu s := x.freeze (by simp)

theorem In.grow {ex : List Addr} (x : In outer ex s0 G0 G L m mu s) {h' : Heap} (t : Nat) (k : ∀ b o, s.heap.get? b = some o → h'.get? b = some o) : In outer ex s0 G0 G L m mu { s with heap := h', toks := t } :=
  x.called ⟨.refl _, fun a o e => k a o (x.sub a o e), fun _ _ e => .inl e, KeepF.of_keep k, alive_keep fun b o e => ⟨o, k b o e⟩, rfl, rfl⟩

/-- a loop over a frozen list -/
theorem forList {n : Nat} {target : Expr} {body : List Stmt} {r : Addr} {vs : List Value} {k : Nat} {Q : Flow → Shared → Prop} (AM : Nat → (Str → Option Value) → (Str → Option Value) → Prop)
    (K : Nat → Store → (Str → Option Value) → List (Addr × It) → Prop) (hA : AOk A (env :: outer) n) (hr : G r = some (lstO vs k))
    (hlet : ∀ (J : Addr) (i j : Nat) v s (Q' : Unit → Shared → Prop), vs[j]? = some v → s.heap.IsListIter J r i → Q' () s → wpAny (model prog w) A (letOwnedTupleGo target (.ref J) v) Q' (fun _ _ => False) s)
    (hasg : ∀ i v G' m mu s (Q' : Unit → Shared → Prop), vs[i]? = some v → LeS G G' → In outer [] s0 G0 G' L m mu s → (∀ m' s', AM i m m' → In outer [] s0 G0 G' L m' mu s' → Q' () s') → wpAny (model prog w) A (assign target env v) Q' (fun _ _ => False) s)
    (step : ∀ i v G' m m' mu I s, vs[i]? = some v → LeS G G' → K i G' m mu → AM i m m' → In outer [] s0 G0 G' L m' ((I, lIter r (i + 1)) :: mu) s →
      wpAny (model prog w) A (execs body env) (fun f s' => f = .next ∧ ∃ G'' m'' mu'', LeS G' G'' ∧ K (i + 1) G'' m'' mu'' ∧ In outer [] s0 G0 G'' L m'' ((I, lIter r (i + 1)) :: mu'') s') (fun _ _ => False) s)
    (I : In outer [] s0 G0 G L m mu s) (h0 : K 0 G m mu)
    (hQ : ∀ G' m' mu' s', LeS G G' → K vs.length G' m' mu' → In outer [] s0 G0 G' L m' mu' s' → Q .next s') :
    wpAny (model prog w) A (pyIter (.ref r)) (fun it s₂ => codeAny (model prog w) A (.forLoop target it body [] env) (fun r s' => match r with | .ok f => Q f s' | .error e => cameBackBy (model prog w) A env (fun _ _ => False) e s') s₂) (fun _ _ => False) s := by
  refine wpAny_pyIter_list (isL (I.sub _ _ hr)) ?_
  have I1 := I.alloc { cls := .type "list_iterator", data := .fields #[.ref r, .int 0 0] } s.toks
  have I2 : In outer [] s0 G0 G L m ((s.heap.objs.size, lIter r 0) :: mu) { s with heap := s.heap.push { cls := .type "list_iterator", data := .fields #[.ref r, .int 0 0] } } :=
    I1.setMu s.toks (i' := lIter r 0) ⟨_, I1.head_at, rfl, rfl⟩ (Heap.SameBut.refl _ _)
  generalize s.heap.objs.size = J at I2 ⊢
  refine codeAny_forLoop_any (fun n s => ∃ G' m mu, LeS G G' ∧ n ≤ vs.length ∧ K (vs.length - n) G' m mu ∧ In outer [] s0 G0 G' L m ((J, lIter r (vs.length - n)) :: mu) s) ?_ vs.length ⟨G, m, mu, .refl _, Nat.le_refl _, by simpa using h0, by simpa using I2⟩
  clear I I1 I2 h0
  rintro n s ⟨G', m, mu, hle, hn, hK, I⟩
  refine wpAny_mono (E := fun _ _ => False) ?_ (fun _ _ x => x) fun _ _ x => x.elim
  have hit : s.heap.IsListIter J r (vs.length - n) := I.head_at
  have hl := isL (I.sub _ _ (hle _ _ hr))
  cases n with
  | zero =>
    refine wpAny_pyNext_list_end hA.handled hit hl (by simp) fun h' hx => wpAny_execs_nil ?_
    exact hQ G' m mu _ hle (by simpa using hK) (I.extBut s.toks hx)
  | succ n =>
    obtain ⟨v, hv⟩ : ∃ v, vs[vs.length - (n + 1)]? = some v := ⟨_, List.getElem?_eq_getElem (by omega)⟩
    refine wpAny_pyNext_list_item hit hl (by simpa using hv) fun h' hit' hs => ?_
    have I' : In outer [] s0 G0 G' L m ((J, lIter r (vs.length - (n + 1) + 1)) :: mu) { s with heap := h' } := I.setMu s.toks hit' hs
    refine wpAny_mono (E := fun _ _ => False) (hlet J _ _ v _ _ hv hit' ?_) (fun _ _ x => x) fun _ _ x => x.elim
    refine wpAny_mono (E := fun _ _ => False) (hasg _ v G' m _ _ _ hv hle I' fun m' s' hm I2 => ?_) (fun _ _ x => x) fun _ _ x => x.elim
    refine wpAny_mono (E := fun _ _ => False) (step _ v G' m m' mu J s' hv hle hK hm I2) (fun f s'' hq => ?_) fun _ _ x => x.elim
    obtain ⟨rfl, G'', m'', mu'', hle', hK', I3⟩ := hq
    have e1 : vs.length - (n + 1) + 1 = vs.length - n := by omega
    rw [e1] at hK' I3
    exact ⟨n, Nat.lt_succ_self _, G'', m'', mu'', hle.trans hle', by omega, hK', I3⟩

theorem asgName {x : Str} {px : Pos} {v : Value} {G' : Store} {Q : Unit → Shared → Prop} (e : EnvOk env sc L) (hk : sc.names.lookup x = some .local) (I : In outer [] s0 G0 G' L m mu s)
    (h : ∀ s', In outer [] s0 G0 G' L (upd m x v) mu s' → Q () s') : wpAny (model prog w) A (assign (.Name x px) env v) Q E s :=
  wpAny_assign_Name (stL e I hk fun _ _ I' => h _ I')

/-- the unpacking of a frozen pair -/
theorem asgPair {n : Nat} {x y : Str} {px py pt : Pos} {k : Nat} {a : Addr} {v1 v2 : Value} {j : Nat} {G' : Store} {Q : Unit → Shared → Prop} (e : EnvOk env sc L) (hA : AOk A (env :: outer) n) (hx : sc.names.lookup x = some .local) (hy : sc.names.lookup y = some .local)
    (I : In outer [] s0 G0 G' L m mu s) (ha : G' a = some (tupO [v1, v2] j)) (h : ∀ s', In outer [] s0 G0 G' L (upd (upd m x v1) y v2) mu s' → Q () s') :
    wpAny (model prog w) A (assign (.Tuple [.Name x px, .Name y py] k pt) env (.ref a)) Q E s := by
  refine wpAny_assign_Tuple hA.handled (isT (I.sub _ _ ha)) rfl rfl fun h' hs => ?_
  have I1 := I.grow s.toks (fun b o eb => hs b o (Nat.ne_of_lt (Heap.lt_size eb)) eb)
  refine wpAny_assignInOrder_more (wpAny_assign_Name (stL e I1 hx fun h2 t2 I2 => ?_))
  refine wpAny_assignInOrder_more (wpAny_assign_Name (stL e I2 hy fun h3 t3 I3 => ?_))
  exact wpAny_assignInOrder_none (h _ I3)

theorem extend_meets (r b : Addr) (T : String) (hT : T = "list" ∨ T = "tuple") (vs ws : List Value) (n k : Nat) (c1 : vs.length + ws.length < 2 ^ 20) : Meets (Builtin.«list.extend» ⟨[.ref r, .ref b], []⟩) fun _ R s =>
    s.heap.get? r = some { cls := .type "list", data := .seq vs.toArray n } ∧ s.heap.get? b = some { cls := .type T, data := .seq ws.toArray k } ∧ R (.ok (.ret .none)) { s with heap := s.heap.update r (Obj.mapSeq fun x => x ++ ws.toArray), toks := s.toks } := by
  have c2 : ¬(!vs.toArray.isEmpty && Builtin.List.listTooLong (vs.toArray.size + ws.toArray.size)) = true := by
    simp [Builtin.List.listTooLong, sizeLine_eq]; omega
  have c3 : vs.toArray.size ≤ sizeLine := by rw [sizeLine_eq]; simp; omega
  have c4 : vs.toArray.size + ws.toArray.size ≤ sizeLine + 1 := by rw [sizeLine_eq]; simp; omega
  rcases hT with rfl | rfl
  · apply AutoSeq1.list_extend_list_list_0 <;> assumption
  · apply AutoSeq1.list_extend_list_tuple_0 <;> assumption

theorem In.extend {ex : List Addr} {r b : Addr} {T : String} (hT : T = "list" ∨ T = "tuple") {vs ws : List Value} {n k : Nat} {Q : Value → Shared → Prop} (I : In outer ex s0 G0 G L m ((r, .ob (lstO vs n)) :: mu) s) (hb : s.heap.get? b = some { cls := .type T, data := .seq ws.toArray k }) (hsz : vs.length + ws.length < 2 ^ 20)
    (h : ∀ h' k, In outer ex s0 G0 G L m ((r, .ob (lstO (vs ++ ws) k)) :: mu) { s with heap := h' } → Q .none { s with heap := h' }) :
    wpAny (model prog w) A (call (.builtin "list.extend") [.ref r, .ref b]) Q E s := by
  have ho : s.heap.get? r = some (lstO vs n) := I.head_at
  have ht : s.TypeIs (.ref r) "list" := ⟨_, ho, rfl⟩
  refine PySem.call_meets F.slot_list_extend ht F.entry_list_extend (F.args_list_extend_2 (.ref r) (.ref b)) (extend_meets r b T hT vs ws n k hsz) ⟨ho, hb, ?_⟩
  refine h _ _ (I.updMu s.toks (o' := lstO (vs ++ ws) (if ((vs.toArray ++ ws.toArray).size == vs.toArray.size) = true then n else n + 1)) ?_ rfl)
  simp [Obj.mapSeq]

theorem In.frzAs {a : Addr} {vs : List Value} {n : Nat} {ds : List Dat} (x : In outer [] s0 G0 G L m ((a, .ob (lstO vs n)) :: mu) s) (r : RdL G vs ds) : LeS G (G.put a (lstO vs n)) ∧ Rd (G.put a (lstO vs n)) (.ref a) (.list ds) :=
  ⟨Store.le_put x.head_none, .list (Store.put_self _ _ _) (r.mono (Store.le_put x.head_none))⟩

/-- _law_flat -/
theorem flat_spec {outer : List Env} {s : Shared} {G : Store} {A : Around} {E : Value → Shared → Prop} {n : Nat} {v : Value} {ps : List (Dat × Dat)} {Q : Value → Shared → Prop} (hA : AOk A outer (n + 1)) (O : Ok outer G s) (P : PG w G) (hv : Rd G v (.list (ps.map fun p => .tuple [p.1, p.2]))) (hlen : ps.length < 2 ^ 18)
    (hQ : ∀ r s' G', Step (frs outer) [] G s G' s' → Rd G' r (.list (ps.flatMap fun p => [p.1, p.2])) → Q r s') :
    wpAny (model prog w) A (call (.ref 105) [v]) Q E s := by
  refine enterF P.fflat P hA O (fun pm cd => binds_flat) (by kernel_rfl) (by kernel_rfl) rfl rfl rfl fun env s₁ A' L e hA' I => ?_
  obtain ⟨m, hm⟩ : ∃ m : Str → Option Value, m = (fun x_1 => List.lookup x_1 [(("pairs" : Str), v)].reverse) := ⟨_, rfl⟩
  have mp : m ("pairs" : Str) = some v := by rw [hm]; kernel_rfl
  rw [← hm] at I
  clear hm
  have n1 : ("pairs" : Str) ≠ ("flat" : Str) := by decide +kernel
  have n2 : ("flat" : Str) ≠ ("rank" : Str) ∧ ("flat" : Str) ≠ ("value" : Str) ∧ ("rank" : Str) ≠ ("value" : Str) := by decide +kernel
  refine wpAny_execs_cons (wpAny_Assign_Name (wpAny_List (spliced_nil ⟨by decide, ?_⟩)))
  have I1 := I.alloc (lstO [] 0) s₁.toks
  refine stL e I1 (by kernel_rfl) fun h' t I2 => ?_
  cases hv with
  | list hr rv =>
  rename_i a vs k
  refine wpAny_execs_cons (wpAny_For (ldL e I2 (by kernel_rfl) (upd_to n1 mp) ?_))
  generalize s₁.heap.objs.size = F0 at I2 ⊢
  refine forList (AM := fun i m m' => ∃ v1 v2 d, ps[i]? = some d ∧ Rd G v1 d.1 ∧ Rd G v2 d.2 ∧ m' = upd (upd m ("rank" : Str) v1) ("value" : Str) v2)
    (K := fun i G' m mu => m ("flat" : Str) = some (.ref F0) ∧ ∃ ws k, mu = [(F0, .ob (lstO ws k))] ∧ RdL G' ws ((ps.take i).flatMap fun p => [p.1, p.2])) hA' hr ?_ ?_ ?_ I2 ⟨upd_same, [], 0, rfl, .nil⟩ ?_
  · intro J i j v s Q' hj hit hq
    obtain ⟨d, hd, rd⟩ := rv.at hj
    rw [List.getElem?_map, Option.map_eq_some_iff] at hd
    obtain ⟨p, hp, rfl⟩ := hd
    cases rd
    exact wpAny_letOwnedTupleGo_listiter hit hq
  · intro i v G' m mu s Q' hi hle I hq
    obtain ⟨d, hd, rd⟩ := rv.at hi
    rw [List.getElem?_map, Option.map_eq_some_iff] at hd
    obtain ⟨p, hp, rfl⟩ := hd
    cases rd with
    | tuple ht rt =>
    cases rt with
    | cons r1 rt =>
    cases rt with
    | cons r2 rt =>
    cases rt
    exact asgPair e hA' (by kernel_rfl) (by kernel_rfl) I (hle _ _ ht) fun s' I' => hq _ _ ⟨_, _, p, hp, r1, r2, rfl⟩ I'
  · rintro i v G' m m' mu J s hi hle ⟨hf, ws, k', rfl, rws⟩ ⟨v1, v2, d, hp, r1, r2, rfl⟩ I
    have hfl : upd (upd m ("rank" : Str) v1) ("value" : Str) v2 ("flat" : Str) = some (.ref F0) := upd_to n2.2.1 (upd_to n2.1 hf)
    have hlen2 : ws.length ≤ 2 ^ 19 := by
      rw [rws.length]
      have : ((ps.take i).flatMap fun p => [p.1, p.2]).length = 2 * (ps.take i).length := by
        induction ps.take i with
        | nil => rfl
        | cons a l ih => simp [List.flatMap_cons, ih]; omega
      rw [this]; simp; omega
    refine wpAny_execs_cons (wpAny_Expr_any ?_ e.quiet)
    have I' := I.swap
    refine wpAny_Call_method rfl rfl rfl F.plainAttrs_list F.slot_list_extend (by kernel_rfl) (ldL e I (by kernel_rfl) hfl ⟨⟨_, I'.head_at, rfl⟩, fun a ha => ?_, ?_⟩)
    · cases ha; exact ⟨_, I'.head_at, rfl⟩
    refine callWith_builtin rfl (evalArgs_plain (spliced_cons (wpAny_List (spliced_cons (ldL e I (by kernel_rfl) (upd_to n2.2.2 upd_same) (spliced_cons (ldL e I (by kernel_rfl) upd_same (spliced_nil ⟨by simp [sizeLine_eq], spliced_nil ?_⟩))))))))
    have I2 := (I'.alloc (lstO [v1, v2] 0) s.toks)
    have hb : ({ s with heap := s.heap.push (lstO [v1, v2] 0), toks := s.toks } : Shared).heap.get? s.heap.objs.size = some { cls := .type "list", data := .seq [v1, v2].toArray 0 } := I2.head_at
    refine I2.swap.extend (T := "list") (.inl rfl) hb (by simp; omega) fun h' k I4 => wpAny_execs_nil ?_
    refine ⟨rfl, G', _, [(F0, .ob (lstO (ws ++ [v1, v2]) k))], .refl _, ⟨hfl, _, _, rfl, ?_⟩, (I4.drop (.cons_cons _ (.cons _ (.refl _)))).swap⟩
    have e1 : (ps.take (i + 1)).flatMap (fun p => [p.1, p.2]) = (ps.take i).flatMap (fun p => [p.1, p.2]) ++ [d.1, d.2] := by
      rw [List.take_add_one, hp]; simp
    rw [e1]
    exact rws.append (.cons (r1.mono hle) (.cons (r2.mono hle) .nil))
  · rintro G' m' mu' s' hle ⟨hf, ws, k', rfl, rws⟩ I
    refine wpAny_execs_cons (wpAny_Return_some (ldL e I (by kernel_rfl) hf ?_))
    obtain ⟨l1, l2⟩ := I.frzAs rws
    have hps : ps.take vs.length = ps := by rw [rv.length]; simp
    rw [hps] at l2
    exact ⟨⟨_, I.frz.toStep⟩, hQ _ _ _ I.frz.toStep l2⟩
end
end Mine

end
section
open PySem PySem.Sre
namespace Mine
def codeA : Array Nat := codeL.toArray
def isDig (c : Nat) : Bool := 48 ≤ c && c ≤ 57
def isSep (c : Nat) : Bool := c == 43 || c == 45 || c == 46 || c == 95

theorem inSet_dig (c : Nat) (sn : Seen) : ∃ sn', inSet codeA c codeA.size 15 true sn = .ok (isDig c, sn') := by
  have e1 : inSet codeA c codeA.size 15 true sn = if (48 ≤ c && c ≤ 57) = true then .ok (true, sn.add 22) else inSet codeA c 40 18 true (sn.add 22) := rfl
  have e2 : inSet codeA c 40 18 true (sn.add 22) = .ok (false, (sn.add 22).add 0) := rfl
  rw [e1]
  by_cases h : (48 ≤ c && c ≤ 57) = true
  · rw [if_pos h]; exact ⟨_, by rw [show isDig c = true from h]⟩
  · rw [if_neg h, e2]
    exact ⟨_, by rw [show isDig c = false from Bool.eq_false_iff.mpr h]⟩
theorem accepts_dig (c : Nat) (sn : Seen) : ∃ sn', accepts codeA 13 c sn = .ok (isDig c, sn') := inSet_dig c sn

theorem inSet_sep (c : Nat) (sn : Seen) : ∃ sn', inSet codeA c codeA.size 25 true sn = .ok (isSep c, sn') := by
  have key : (decide (c < 256) && (codeA.getD (25 + (1 + c / 32)) 0).testBit (c % 32)) = isSep c := by
    by_cases h : c < 256
    · have : ∀ c : Fin 256, (decide (c.val < 256) && (codeA.getD (25 + (1 + c.val / 32)) 0).testBit (c.val % 32)) = isSep c.val := by decide +kernel
      exact this ⟨c, h⟩
    · have h1 : isSep c = false := by
        unfold isSep
        have : c ≠ 43 ∧ c ≠ 45 ∧ c ≠ 46 ∧ c ≠ 95 := by omega
        simp [this]
      rw [h1, decide_eq_false h]; rfl
  have e1 : inSet codeA c codeA.size 25 true sn = if (decide (c < 256) && (codeA.getD (25 + (1 + c / 32)) 0).testBit (c % 32)) = true then .ok (true, sn.add 9) else inSet codeA c 40 34 true (sn.add 9) := rfl
  have e2 : inSet codeA c 40 34 true (sn.add 9) = .ok (false, (sn.add 9).add 0) := rfl
  rw [e1, e2]
  rw [key]
  cases h : isSep c with
  | true => exact ⟨_, rfl⟩
  | false => exact ⟨(sn.add 9).add 0, rfl⟩
theorem accepts_sep (c : Nat) (sn : Seen) : ∃ sn', accepts codeA 23 c sn = .ok (isSep c, sn') := inSet_sep c sn

theorem run_dig (cs : List Nat) : ∀ (n p found : Nat) (sn : Seen), p + n ≤ cs.length → ∃ sn', Sre.run codeA cs.toArray 13 n p found sn = .ok (found + (((cs.drop p).take n).takeWhile isDig).length, sn')
  | 0, p, found, sn, _ => ⟨sn, by simp [Sre.run]⟩
  | n + 1, p, found, sn, h => by
    have hp : p < cs.length := by omega
    have hc : cs.toArray.getD p 0 = cs[p] := by simp [hp]
    have hd : (cs.drop p).take (n + 1) = cs[p] :: (cs.drop (p + 1)).take n := by rw [List.drop_eq_getElem_cons hp]; rfl
    obtain ⟨sn1, e1⟩ := accepts_dig cs[p] sn
    cases hb : isDig cs[p] with
    | true =>
      obtain ⟨sn', e2⟩ := run_dig cs n (p + 1) (found + 1) sn1 (by omega)
      refine ⟨sn', ?_⟩
      rw [hd, List.takeWhile_cons_of_pos hb]
      have e3 : Sre.run codeA cs.toArray 13 (n + 1) p found sn = (accepts codeA 13 (cs.toArray.getD p 0) sn).bind fun r => if r.1 = true then Sre.run codeA cs.toArray 13 n (p + 1) (found + 1) r.2 else .ok (found, r.2) := rfl
      rw [e3, hc, e1, hb]
      show Sre.run codeA cs.toArray 13 n (p + 1) (found + 1) sn1 = _
      rw [e2]
      simp only [List.length_cons]
      congr 2; omega
    | false =>
      refine ⟨sn1, ?_⟩
      rw [hd, List.takeWhile_cons_of_neg (by simp [hb])]
      have e3 : Sre.run codeA cs.toArray 13 (n + 1) p found sn = (accepts codeA 13 (cs.toArray.getD p 0) sn).bind fun r => if r.1 = true then Sre.run codeA cs.toArray 13 n (p + 1) (found + 1) r.2 else .ok (found, r.2) := rfl
      rw [e3, hc, e1, hb]
      rfl

/-- the machine at its try from p -/
def mX (text : Array Nat) (lim p pc pos handed : Nat) (om : Bool) (mk : Array (Option Nat)) (lm li : Int) (fr : List Sre.Frame) (wt : Nat) (ans : Option Bool) (sn : Seen) (out : Option Sre.Outcome) : M :=
  { code := codeA, text, lim, start := p, lastStart := lim, pc, pos, handed, outermost := om, marks := mk, lastmark := lm, lastindex := li, frames := fr, weight := wt, answer := ans, seen := sn, outcome := out }
def f0 (p : Nat) (om : Bool) : Sre.Frame := { wait := .nextStart, pc := 5, pos := p, outermost := om }
def f1 (p : Nat) (om : Bool) : Sre.Frame := { wait := .nextBranch, pc := 8, pos := p, outermost := om, kept := { lastmark := 0, lastindex := -1 } }
def f2 (p : Nat) (om : Bool) : Sre.Frame := { wait := .nextBranch, pc := 22, pos := p, outermost := om, kept := { lastmark := 0, lastindex := -1 } }
def f3 (p n : Nat) (om : Bool) : Sre.Frame := { wait := .giveBack, pc := 9, pos := p + n, outermost := om, count := n, kept := { lastmark := 0, lastindex := -1 } }
abbrev mAt (text : Array Nat) (lim p h : Nat) (om : Bool) (mk : Array (Option Nat)) (sn : Seen) : M := mX text lim p 5 p h om mk (-1) (-1) [f0 p om] 1 none sn none

section
variable (text : Array Nat) (lim p h pos : Nat) (om : Bool) (mk : Array (Option Nat)) (sn : Seen)
theorem m_s1 : (mAt text lim p h om mk sn).step = mX text lim p 7 p h om (mk.setIfInBounds 0 (some p)) 0 (-1) [f0 p om] 1 none (sn.add 17) none := rfl
theorem m_s2 : (mX text lim p 7 p h om mk 0 (-1) [f0 p om] 1 none sn none).step = mX text lim p 9 p p om mk 0 (-1) [f1 p om, f0 p om] 2 none (sn.add 7) none := rfl
theorem m_no1 (pc : Nat) : (mX text lim p pc pos h om mk 0 (-1) [f1 p om, f0 p om] 2 (some false) sn none).step = mX text lim p 23 p p om mk 0 (-1) [f2 p om, f0 p om] 2 none sn none := rfl
theorem m_no2 (pc : Nat) : (mX text lim p pc pos h om mk 0 (-1) [f2 p om, f0 p om] 2 (some false) sn none).step = mX text lim p 22 p h om mk 0 (-1) [f0 p om] 1 (some false) sn none := rfl
theorem m_no3 (pc : Nat) (hp : p < lim) : (mX text lim p pc pos h om mk 0 (-1) [f0 p om] 1 (some false) sn none).step = mAt text lim (p + 1) (p + 1) false mk sn := by
  show (if p < lim then ({ mX text lim p 5 p h om mk 0 (-1) [] 0 none sn none with mustAdvance := false } : M).attemptFrom (p + 1) false else _) = _
  rw [if_pos hp]; rfl
theorem m_no4 (pc : Nat) : (mX text lim lim pc pos h om mk 0 (-1) [f0 lim om] 1 (some false) sn none).step = mX text lim lim 5 lim h om mk 0 (-1) [] 0 (some false) sn none := by
  show (if lim < lim then _ else (mX text lim lim 5 lim h om mk 0 (-1) [] 0 none sn none).say false) = _
  rw [if_neg (Nat.lt_irrefl _)]; rfl
theorem m_end (b : Bool) (pc : Nat) (lm li : Int) : (mX text lim p pc pos h om mk lm li [] 0 (some b) sn none).step = mX text lim p pc pos h om mk lm li [] 0 (some b) sn (some (if b then .matched else .failed)) := rfl
theorem m_j20 (fr : List Sre.Frame) (wt : Nat) : (mX text lim p 20 pos h om mk 0 (-1) fr wt none sn none).step = mX text lim p 38 pos h om mk 0 (-1) fr wt none (sn.add 15) none := rfl
theorem m_j35 (fr : List Sre.Frame) (wt : Nat) : (mX text lim p 35 pos h om mk 0 (-1) fr wt none sn none).step = mX text lim p 38 pos h om mk 0 (-1) fr wt none (sn.add 15) none := rfl
theorem m_mark1 (fr : List Sre.Frame) (wt : Nat) : (mX text lim p 38 pos h om mk 0 (-1) fr wt none sn none).step = mX text lim p 40 pos h om (mk.setIfInBounds 1 (some pos)) 1 1 fr wt none (sn.add 17) none := by kernel_rfl
theorem m_succ (fr : List Sre.Frame) (wt : Nat) : (mX text lim p 40 pos h om mk 1 1 fr wt none sn none).step = mX text lim p 40 pos pos om mk 1 1 fr wt (some true) (sn.add 1) none := by cases om <;> rfl
theorem m_yes3 (n pc : Nat) : (mX text lim p pc pos h om mk 1 1 [f3 p n om, f1 p om, f0 p om] 3 (some true) sn none).step = mX text lim p 9 (p + n) h om mk 1 1 [f1 p om, f0 p om] 2 (some true) sn none := rfl
theorem m_yes1 (pc : Nat) : (mX text lim p pc pos h om mk 1 1 [f1 p om, f0 p om] 2 (some true) sn none).step = mX text lim p 8 p h om mk 1 1 [f0 p om] 1 (some true) sn none := rfl
theorem m_yes2 (pc : Nat) : (mX text lim p pc pos h om mk 1 1 [f2 p om, f0 p om] 2 (some true) sn none).step = mX text lim p 22 p h om mk 1 1 [f0 p om] 1 (some true) sn none := rfl
theorem m_yes0 (pc : Nat) : (mX text lim p pc pos h om mk 1 1 [f0 p om] 1 (some true) sn none).step = mX text lim p 5 p h om mk 1 1 [] 0 (some true) sn none := rfl
end

/-- REPEAT_ONE -/
theorem m_rep (cs : List Nat) (p h : Nat) (om : Bool) (mk : Array (Option Nat)) (sn : Seen) (hp : p ≤ cs.length) (hl : cs.length < 4294967295) (n : Nat) (hn : n = ((cs.drop p).takeWhile isDig).length) :
    ∃ sn', (mX cs.toArray cs.length p 9 p h om mk 0 (-1) [f1 p om, f0 p om] 2 none sn none).step =
      if n = 0 then mX cs.toArray cs.length p 9 p h om mk 0 (-1) [f1 p om, f0 p om] 2 (some false) sn' none
      else mX cs.toArray cs.length p 20 (p + n) (p + n) om mk 0 (-1) [f3 p n om, f1 p om, f0 p om] 3 none sn' none := by
  have e0 : (mX cs.toArray cs.length p 9 p h om mk 0 (-1) [f1 p om, f0 p om] 2 none sn none).step =
      if ((1 : Nat) : Int) > (cs.length : Int) - (p : Int) then mX cs.toArray cs.length p 9 p h om mk 0 (-1) [f1 p om, f0 p om] 2 (some false) (sn.add 24) none else
      match Sre.run codeA cs.toArray 13 (min 4294967295 ((cs.length : Int) - (p : Int)).toNat) p 0 ((sn.add 24).add 13) with
      | .error why => (mX cs.toArray cs.length p 9 p h om mk 0 (-1) [f1 p om, f0 p om] 2 none (sn.add 24) none).stick why
      | .ok (n, sn) => if n < 1 then mX cs.toArray cs.length p 9 p h om mk 0 (-1) [f1 p om, f0 p om] 2 (some false) sn none else mX cs.toArray cs.length p 20 (p + n) (p + n) om mk 0 (-1) [f3 p n om, f1 p om, f0 p om] 3 none sn none := rfl
  by_cases hlt : p = cs.length
  · have hz : n = 0 := by rw [hn, hlt]; simp
    refine ⟨sn.add 24, e0.trans ?_⟩
    rw [if_pos (by omega), if_pos hz]
  · have hm : min 4294967295 ((cs.length : Int) - (p : Int)).toNat = cs.length - p := by omega
    obtain ⟨sn', er⟩ := run_dig cs (cs.length - p) p 0 ((sn.add 24).add 13) (by omega)
    have ht : (cs.drop p).take (cs.length - p) = cs.drop p := List.take_of_length_le (by simp)
    rw [ht, ← hn, Nat.zero_add] at er
    refine ⟨sn', ?_⟩
    rw [e0, if_neg (by omega), hm, er]
    show (if n < 1 then _ else _) = _
    by_cases hz : n = 0
    · rw [if_pos (by omega), if_pos hz]
    · rw [if_neg (by omega), if_neg hz]

/-- IN -/
theorem m_in (cs : List Nat) (p h : Nat) (om : Bool) (mk : Array (Option Nat)) (sn : Seen) (hp : p ≤ cs.length) :
    ∃ sn', (mX cs.toArray cs.length p 23 p h om mk 0 (-1) [f2 p om, f0 p om] 2 none sn none).step =
      if (cs[p]?.any isSep) = true then mX cs.toArray cs.length p 35 (p + 1) h om mk 0 (-1) [f2 p om, f0 p om] 2 none sn' none
      else mX cs.toArray cs.length p 23 p h om mk 0 (-1) [f2 p om, f0 p om] 2 (some false) sn' none := by
  have e0 : (mX cs.toArray cs.length p 23 p h om mk 0 (-1) [f2 p om, f0 p om] 2 none sn none).step =
      if p ≥ cs.length then mX cs.toArray cs.length p 23 p h om mk 0 (-1) [f2 p om, f0 p om] 2 (some false) (sn.add 13) none else
      match accepts codeA 23 (cs.toArray.getD p 0) (sn.add 13) with
      | .error why => (mX cs.toArray cs.length p 23 p h om mk 0 (-1) [f2 p om, f0 p om] 2 none (sn.add 13) none).stick why
      | .ok (false, sn) => mX cs.toArray cs.length p 23 p h om mk 0 (-1) [f2 p om, f0 p om] 2 (some false) sn none
      | .ok (true, sn) => mX cs.toArray cs.length p 35 (p + 1) h om mk 0 (-1) [f2 p om, f0 p om] 2 none sn none := rfl
  by_cases hlt : p < cs.length
  · have hc : cs.toArray.getD p 0 = cs[p] := by simp [hlt]
    obtain ⟨sn', ea⟩ := accepts_sep cs[p] (sn.add 13)
    refine ⟨sn', ?_⟩
    rw [e0, if_neg (by omega), hc, ea]
    have : cs[p]?.any isSep = isSep cs[p] := by simp [hlt]
    rw [this]
    cases isSep cs[p] <;> rfl
  · refine ⟨sn.add 13, e0.trans ?_⟩
    have : cs[p]?.any isSep = false := by rw [List.getElem?_eq_none (by omega)]; rfl
    rw [if_pos (by omega), this]; rfl
end Mine

end
section
open PySem PySem.Sre
namespace Mine

theorem rf_step {n : Nat} {m : M} (h : m.outcome = none) : M.runFor (n + 1) m = M.runFor n m.step := by
  show (if m.outcome.isSome = true then m else M.runFor n m.step) = _
  rw [h]; rfl
theorem rf_done {m : M} (h : m.outcome.isSome = true) : ∀ n, M.runFor n m = m
  | 0 => rfl
  | n + 1 => by
    show (if m.outcome.isSome = true then m else M.runFor n m.step) = _
    rw [if_pos h]
theorem rf_add (a b : Nat) (m : M) : M.runFor (a + b) m = M.runFor b (M.runFor a m) := by
  induction a generalizing m with
  | zero => simp [M.runFor]
  | succ a ih =>
    cases h : m.outcome with
    | none => rw [show a + 1 + b = (a + b) + 1 from by omega, rf_step h, rf_step h, ih]
    | some o => rw [rf_done (by rw [h]; rfl), rf_done (m := m) (by rw [h]; rfl), rf_done (by rw [h]; rfl)]

def Go (k : Nat) (m m' : M) : Prop := ∃ n, n ≤ k ∧ M.runFor n m = m'
theorem Go.one {m m' : M} (h : m.outcome = none) (e : m.step = m') : Go 1 m m' := ⟨1, Nat.le_refl _, by rw [rf_step h, e]; rfl⟩
theorem Go.trans {a b : Nat} {m m' m'' : M} (x : Go a m m') (y : Go b m' m'') : Go (a + b) m m'' := by
  obtain ⟨n, hn, e⟩ := x
  obtain ⟨k, hk, e'⟩ := y
  exact ⟨n + k, by omega, by rw [rf_add, e, e']⟩
theorem Go.mono {a b : Nat} {m m' : M} (x : Go a m m') (h : a ≤ b) : Go b m m' := let ⟨n, hn, e⟩ := x; ⟨n, by omega, e⟩

def hit : List Nat → Nat → Option (Nat × Nat)
  | [], _ => none
  | c :: cs, p => if isDig c then some (p, ((c :: cs).takeWhile isDig).length) else if isSep c then some (p, 1) else hit cs (p + 1)

def Ended (mk : Array (Option Nat)) (r : Option (Nat × Nat)) (m' : M) : Prop := match r with
  | none => m'.outcome = some .failed
  | some (q, l) => m'.outcome = some .matched ∧ m'.start = q ∧ m'.handed = q + l ∧ m'.lastmark = 1 ∧ ∃ mk' : Array (Option Nat), mk'.size = mk.size ∧ m'.marks = (mk'.setIfInBounds 0 (some q)).setIfInBounds 1 (some (q + l))

/-- from the mark to the end -/
theorem go_yes (text : Array Nat) (lim p pos h : Nat) (om : Bool) (mk : Array (Option Nat)) (sn : Seen) (fr : List Sre.Frame) (wt : Nat) (hf : (∃ n, fr = [f3 p n om, f1 p om, f0 p om] ∧ wt = 3) ∨ (fr = [f2 p om, f0 p om] ∧ wt = 2)) :
    ∃ m', Go 8 (mX text lim p 38 pos h om mk 0 (-1) fr wt none sn none) m' ∧ m'.outcome = some .matched ∧ m'.start = p ∧ m'.handed = pos ∧ m'.lastmark = 1 ∧ m'.marks = mk.setIfInBounds 1 (some pos) := by
  have a1 := Go.one rfl (m_mark1 text lim p h pos om mk sn fr wt)
  have a2 := a1.trans (Go.one rfl (m_succ text lim p h pos om _ _ fr wt))
  rcases hf with ⟨n, rfl, rfl⟩ | ⟨rfl, rfl⟩
  · have a3 := a2.trans (Go.one rfl (m_yes3 text lim p _ pos om _ _ n 40))
    have a4 := a3.trans (Go.one rfl (m_yes1 text lim p _ _ om _ _ 9))
    have a5 := a4.trans (Go.one rfl (m_yes0 text lim p _ _ om _ _ 8))
    have a6 := a5.trans (Go.one rfl (m_end text lim p _ _ om _ _ true 5 1 1))
    exact ⟨_, a6.mono (by decide), rfl, rfl, rfl, rfl, rfl⟩
  · have a4 := a2.trans (Go.one rfl (m_yes2 text lim p _ pos om _ _ 40))
    have a5 := a4.trans (Go.one rfl (m_yes0 text lim p _ _ om _ _ 22))
    have a6 := a5.trans (Go.one rfl (m_end text lim p _ _ om _ _ true 5 1 1))
    exact ⟨_, a6.mono (by decide), rfl, rfl, rfl, rfl, rfl⟩

theorem go_from (cs : List Nat) (hl : cs.length < 4294967295) : ∀ (rest : List Nat) (p h : Nat) (om : Bool) (mk : Array (Option Nat)) (sn : Seen), cs.drop p = rest → p ≤ cs.length →
    ∃ m', Go (16 * (rest.length + 1)) (mAt cs.toArray cs.length p h om mk sn) m' ∧ Ended mk (hit rest p) m' := by
  intro rest
  induction rest with
  | nil =>
    intro p h om mk sn hd hp
    have hpl : p = cs.length := by have := congrArg List.length hd; simp at this; omega
    subst hpl
    have a2 := (Go.one rfl (m_s1 cs.toArray cs.length cs.length h om mk sn)).trans (Go.one rfl (m_s2 cs.toArray cs.length cs.length h om _ _))
    obtain ⟨sn3, e3⟩ := m_rep cs cs.length cs.length om (mk.setIfInBounds 0 (some cs.length)) ((sn.add 17).add 7) hp hl 0 (by simp)
    rw [if_pos rfl] at e3
    have a4 := (a2.trans (Go.one rfl e3)).trans (Go.one rfl (m_no1 cs.toArray cs.length cs.length _ _ om _ _ 9))
    obtain ⟨sn5, e5⟩ := m_in cs cs.length cs.length om (mk.setIfInBounds 0 (some cs.length)) sn3 hp
    rw [if_neg (by rw [List.getElem?_eq_none (Nat.le_refl _)]; decide)] at e5
    have a6 := (a4.trans (Go.one rfl e5)).trans (Go.one rfl (m_no2 cs.toArray cs.length cs.length _ _ om _ _ 23))
    have a8 := (a6.trans (Go.one rfl (m_no4 cs.toArray cs.length _ _ om _ _ 22))).trans (Go.one rfl (m_end cs.toArray cs.length cs.length _ _ om _ _ false 5 0 (-1)))
    exact ⟨_, a8.mono (by decide), rfl⟩
  | cons c rest ih =>
    intro p h om mk sn hd hp
    have hpl : p < cs.length := by have := congrArg List.length hd; simp at this; omega
    have hc : cs[p]? = some c := by
      have := congrArg (fun l => l[0]?) hd
      simpa using this
    have hd2 : cs.drop (p + 1) = rest := by rw [← List.tail_drop, hd]; rfl
    have a2 := (Go.one rfl (m_s1 cs.toArray cs.length p h om mk sn)).trans (Go.one rfl (m_s2 cs.toArray cs.length p h om _ _))
    obtain ⟨sn3, e3⟩ := m_rep cs p p om (mk.setIfInBounds 0 (some p)) ((sn.add 17).add 7) hp hl _ rfl
    rw [hd] at e3
    cases hdg : isDig c with
    | true =>
      have hn : ¬ (((c :: rest).takeWhile isDig).length = 0) := by rw [List.takeWhile_cons_of_pos hdg]; simp
      rw [if_neg hn] at e3
      have a4 := (a2.trans (Go.one rfl e3)).trans (Go.one rfl (m_j20 cs.toArray cs.length p _ _ om _ _ _ _))
      obtain ⟨m', g, h1, h2, h3, h4, h5⟩ := go_yes cs.toArray cs.length p (p + ((c :: rest).takeWhile isDig).length) _ om (mk.setIfInBounds 0 (some p)) _ _ _ (.inl ⟨_, rfl, rfl⟩)
      refine ⟨m', (a4.trans g).mono (by omega), ?_⟩
      simp only [hit, hdg, if_true]
      exact ⟨h1, h2, h3, h4, mk, rfl, h5⟩
    | false =>
      rw [if_pos (by rw [List.takeWhile_cons_of_neg (by simp [hdg])]; rfl)] at e3
      have a4 := (a2.trans (Go.one rfl e3)).trans (Go.one rfl (m_no1 cs.toArray cs.length p _ _ om _ _ 9))
      obtain ⟨sn5, e5⟩ := m_in cs p p om (mk.setIfInBounds 0 (some p)) sn3 hp
      rw [hc] at e5
      cases hsp : isSep c with
      | true =>
        rw [if_pos (by simpa using hsp)] at e5
        have a6 := (a4.trans (Go.one rfl e5)).trans (Go.one rfl (m_j35 cs.toArray cs.length p _ _ om _ _ _ _))
        obtain ⟨m', g, h1, h2, h3, h4, h5⟩ := go_yes cs.toArray cs.length p (p + 1) _ om (mk.setIfInBounds 0 (some p)) _ _ _ (.inr ⟨rfl, rfl⟩)
        refine ⟨m', (a6.trans g).mono (by omega), ?_⟩
        simp only [hit, hdg, hsp, if_true]
        exact ⟨h1, h2, h3, h4, mk, rfl, h5⟩
      | false =>
        rw [if_neg (by simpa using hsp)] at e5
        have a6 := (a4.trans (Go.one rfl e5)).trans (Go.one rfl (m_no2 cs.toArray cs.length p _ _ om _ _ 23))
        have a7 := a6.trans (Go.one rfl (m_no3 cs.toArray cs.length p _ _ om _ _ 22 hpl))
        obtain ⟨m', g, hE⟩ := ih (p + 1) (p + 1) false (mk.setIfInBounds 0 (some p)) sn5 hd2 (by omega)
        refine ⟨m', (a7.trans g).mono (by simp only [List.length_cons]; omega), ?_⟩
        have : hit (c :: rest) p = hit rest (p + 1) := by simp only [hit, hdg, hsp]; rfl
        rw [this]
        unfold Ended at hE ⊢
        cases hh : hit rest (p + 1) with
        | none => rw [hh] at hE; exact hE
        | some r =>
          rw [hh] at hE
          obtain ⟨x1, x2, x3, x4, mk', x5, x6⟩ := hE
          exact ⟨x1, x2, x3, x4, mk', by simpa using x5, x6⟩
end Mine

end
section
open PySem PySem.W PyProof.Rows PySem.Calls PySem.Builtin.Re
namespace Mine

theorem entry_split : entryFor table "re.Pattern.split" = some Builtin.«re.Pattern.split» := entryFor_of_fast (by kernel_rfl)
theorem plainAttrs_pat : PlainAttrs "re.Pattern" :=
  ⟨⟨"object.__getattribute__", by rw [typeLookup_type, builtinLookup_eq_fast]; kernel_rfl, by decide +kernel⟩, by rw [typeLookup_type, builtinLookup_eq_fast]; kernel_rfl⟩

section
variable {M : Model} {A : Around} {E : Value → Shared → Prop} {s : Shared}
/-- the machine is driven to its end -/
theorem drive_ {Q : Sre.M → Shared → Prop} {m' : Sre.M} (ho : m'.outcome.isSome = true) (h : Q m' s) : ∀ (T n : Nat) (m : Sre.M), Sre.M.runFor n m = m' → n < 4 * T → wpAny M A (reDrive T m) Q E s
  | 0, n, _, _, hn => absurd hn (by omega)
  | T + 1, n, m, e, hn => by
    show wpAny M A (if (m.runFor 4).outcome.isSome = true then pure (m.runFor 4) else (do rule "sre.turn"; reDrive T (m.runFor 4))) Q E s
    by_cases h4 : (m.runFor 4).outcome.isSome = true
    · rw [if_pos h4]
      have : m.runFor 4 = m' := by
        by_cases hle : 4 ≤ n
        · have := rf_add 4 (n - 4) m
          rw [show 4 + (n - 4) = n from by omega, e, rf_done h4] at this
          exact this.symm
        · have := rf_add n (4 - n) m
          rw [show n + (4 - n) = 4 from by omega, e, rf_done ho] at this
          exact this
      rw [this]
      exact wpAny_pure h
    · rw [if_neg h4]
      have hle : 4 ≤ n := by
        rcases Nat.lt_or_ge n 4 with hl | hl
        · exfalso
          have := rf_add n (4 - n) m
          rw [show n + (4 - n) = 4 from by omega, e, rf_done ho] at this
          rw [this] at h4; exact h4 ho
        · exact hl
      refine wpAny_bind (wpAny_rule (drive_ ho h T (n - 4) _ ?_ (by omega)))
      have := rf_add 4 (n - 4) m
      rw [show 4 + (n - 4) = n from by omega, e] at this
      exact this.symm

theorem runToEnd_ {Q : Option Sre.M → Shared → Prop} {k : Nat} {m m' : Sre.M} (g : Go k m m') (hk : k < 2 ^ 40) (ho : m'.outcome.isSome = true)
    (h : match m'.outcome with | some .matched => Q (some m') s | some .failed => Q none s | _ => False) : wpAny M A (reRunToEnd m) Q E s := by
  obtain ⟨n, hn, e⟩ := g
  unfold reRunToEnd
  refine wpAny_bind (drive_ ho ?_ (2 ^ 64) n m e (by omega))
  refine wpAny_bind (wpAny_mono (Q := fun _ s' => s' = s) (wpAny_forIn_list _ (fun _ _ s' => s' = s) _ (fun x rest b s' hs => ?_) (fun _ _ hs => hs) _ _ rfl) (fun _ s' hs => ?_) fun _ _ y => y)
  · split
    · exact wpAny_bind (wpAny_rule (wpAny_pure hs))
    · exact wpAny_pure hs
  · subst hs
    cases hm : m'.outcome with
    | none => rw [hm] at ho; cases ho
    | some o =>
      rw [hm] at h
      cases o with
      | matched => exact wpAny_pure h
      | failed => exact wpAny_pure h
      | stuck _ => exact h.elim
end
end Mine

end
section
open PySem PySem.W PyProof.Rows PySem.Calls PySem.Builtin.Re
namespace Mine

def tgt (x : Str) (t : Tok) : ReTarget := { pattern := .ref 36, string := .str x t, code := codeA, text := x.cps, kind := 0, groups := 1, pos := 0, lim := x.cps.size }

section
variable {M : Model} {A : Around} {E : Value → Shared → Prop} {s : Shared}

theorem next_ {Q : Option Sre.M → Shared → Prop} {cs : List Nat} {t : Tok} {p : Nat} (hl : cs.length < 2 ^ 20) (hp : p ≤ cs.length)
    (h0 : hit (cs.drop p) p = none → Q none s) (h1 : ∀ q l m', hit (cs.drop p) p = some (q, l) → m'.start = q → m'.handed = q + l → m'.lastmark = 1 → m'.marks.getD 0 none = some q → m'.marks.getD 1 none = some (q + l) → Q (some m') s) :
    wpAny M A (reNextFound (tgt ⟨cs.toArray⟩ t) p false) Q E s := by
  show wpAny M A (reRunToEnd (Sre.forSearch codeA cs.toArray 1 p cs.toArray.size false)) Q E s
  rw [show cs.toArray.size = cs.length from rfl]
  by_cases hlt : p < cs.length
  · have e : Sre.forSearch codeA cs.toArray 1 p cs.length false = mAt cs.toArray cs.length p p true (Array.replicate 2 none) (({} : Sre.Seen).add 14) := by
      unfold Sre.forSearch
      rw [if_neg (by
        show ¬ ((decide (p > cs.length) || decide (cs.length - p < 1)) = true)
        simp; omega)]
      rfl
    rw [e]
    obtain ⟨m', g, hE⟩ := go_from cs (by omega) (cs.drop p) p p true (Array.replicate 2 none) (({} : Sre.Seen).add 14) rfl hp
    generalize mAt cs.toArray cs.length p p true (Array.replicate 2 none) (({} : Sre.Seen).add 14) = mm at g ⊢
    clear e
    have hk : 16 * ((cs.drop p).length + 1) < 2 ^ 40 := by simp; omega
    unfold Ended at hE
    cases hh : hit (cs.drop p) p with
    | none =>
      rw [hh] at hE
      have hq := h0 hh
      refine runToEnd_ (M := M) (A := A) (E := E) (s := s) (Q := Q) (m' := m') g hk ?_ ?_
      · rw [hE]; rfl
      · rw [hE]; exact hq
    | some r =>
      obtain ⟨q, l⟩ := r
      rw [hh] at hE
      obtain ⟨x1, x2, x3, x4, mk', x5, x6⟩ := hE
      have hs2 : mk'.size = 2 := by rw [x5]; simp
      have y1 : m'.marks.getD 0 none = some q := by rw [x6]; simp [Array.getD_eq_getD_getElem?, hs2]
      have y2 : m'.marks.getD 1 none = some (q + l) := by rw [x6]; simp [Array.getD_eq_getD_getElem?, hs2]
      have hq := h1 q l m' hh x2 x3 x4 y1 y2
      refine runToEnd_ (M := M) (A := A) (E := E) (s := s) (Q := Q) (m' := m') g hk ?_ ?_
      · rw [x1]; rfl
      · rw [x1]; exact hq
  · have hpe : p = cs.length := by omega
    subst hpe
    have e : ∃ m : Sre.M, Sre.forSearch codeA cs.toArray 1 cs.length cs.length false = m.say false ∧ m.outcome = none ∧ m.frames = [] := by
      refine ⟨{ code := codeA, text := cs.toArray, lim := cs.length, start := cs.length, pc := 5, pos := cs.length, handed := cs.length, marks := Array.replicate 2 none, seen := ({} : Sre.Seen).add 14 }, ?_, rfl, rfl⟩
      unfold Sre.forSearch
      rw [if_pos (by
        show (decide (cs.length > cs.length) || decide (cs.length - cs.length < 1)) = true
        simp)]
      rfl
    obtain ⟨m, e1, e2, e3⟩ := e
    rw [e1]
    have hst : (m.say false).step = { m.say false with outcome := some .failed } := by
      cases m
      simp only at e2 e3
      subst e2 e3
      rfl
    refine runToEnd_ (k := 1) (Go.one e2 hst) (by decide) rfl (h0 (by simp [hit]))
end
end Mine

end
section
open PySem PySem.W PyProof.Rows PySem.Calls PySem.Builtin.Re
namespace Mine

section
variable {M : Model} {A : Around} {E : Value → Shared → Prop} {s : Shared}
theorem target_ {cs : List Nat} {t : Tok} {Q : ReTarget → Shared → Prop} (h36 : s.heap.get? 36 = some patO) (h35 : s.heap.get? 35 = some { cls := .type "tuple", data := .seq (codeL.map fun (c : Nat) => Value.int (c : Int) 0).toArray })
    (h : Q (tgt ⟨cs.toArray⟩ t) s) : wpAny M A (reWholeTarget (.ref 36) (.str ⟨cs.toArray⟩ t)) Q E s := by
  unfold reWholeTarget
  refine wpAny_bind (wpAny_fieldsOf h36 rfl ?_)
  refine wpAny_bind (m := reTextOf _) (wpAny_pure ?_)
  dsimp only
  show wpAny M A (do
    reNoCollectionInside (.str ⟨cs.toArray⟩ t) 0
    pure { pattern := .ref 36, string := .str ⟨cs.toArray⟩ t, code := (← reRawItems (.ref 35)).map (·.toNat), text := cs.toArray, kind := 0, groups := 1, pos := 0, lim := cs.toArray.size }) Q E s
  refine wpAny_bind (m := reNoCollectionInside _ _) (wpAny_pure ?_)
  refine wpAny_bind (m := reRawItems _) ?_
  unfold reRawItems
  refine wpAny_bind (wpAny_seqItems h35 rfl (wpAny_pure ?_))
  refine wpAny_pure ?_
  have e : (((some (codeL.map fun (c : Nat) => Value.int (c : Int) 0).toArray).getD #[]).map reRawOf).map (·.toNat) = codeA := by kernel_rfl
  rw [e]
  exact h

theorem hit_shift : ∀ (r : List Nat) (p : Nat), hit r p = (hit r 0).map fun x => (p + x.1, x.2)
  | [], _ => rfl
  | c :: r, p => by
    simp only [hit]
    split
    · rfl
    · split
      · rfl
      · rw [hit_shift r (p + 1), hit_shift r (0 + 1)]
        cases hit r 0 with
        | none => rfl
        | some x => simp only [Option.map_some]; congr 2; omega
theorem hit_bound : ∀ (r : List Nat) {q l : Nat}, hit r 0 = some (q, l) → q + l ≤ r.length ∧ 1 ≤ l
  | [], _, _, h => by cases h
  | c :: r, q, l, h => by
    simp only [hit] at h
    split at h
    · rename_i hd
      cases h
      have := (List.takeWhile_prefix (l := c :: r) isDig).length_le
      refine ⟨by omega, ?_⟩
      rw [List.takeWhile_cons_of_pos hd]; simp
    · split at h
      · cases h; simp
      · rw [hit_shift, Option.map_eq_some_iff] at h
        obtain ⟨⟨q', l'⟩, h', e⟩ := h
        cases e
        have := hit_bound r h'
        simp only [List.length_cons]; omega

inductive Pcs : List Nat → List (List Nat) → Prop
  | stop {r : List Nat} : hit r 0 = none → Pcs r [r]
  | go {r : List Nat} {q l : Nat} {ps : List (List Nat)} : hit r 0 = some (q, l) → Pcs (r.drop (q + l)) ps → Pcs r (r.take q :: (r.drop q).take l :: ps)

abbrev sD (x : List Nat) : Dat := .str ⟨x.toArray⟩
abbrev Gno : Store := fun _ => none

theorem slice_ {cs : List Nat} {b e : Nat} {Q : Value → Shared → Prop} (hl : cs.length < 2 ^ 20) (h : Q (.str ⟨((cs.drop b).take (e - b)).toArray⟩ s.toks) { s with toks := s.toks + 1 }) : wpAny M A (reSlice cs.toArray 0 b e) Q E s := by
  have e1 : cs.toArray.extract b e = ((cs.drop b).take (e - b)).toArray := by simp [List.extract_eq_take_drop]
  show wpAny M A (mkStr ⟨cs.toArray.extract b e⟩) Q E s
  rw [e1]
  refine wpAny_mkStr h ?_
  show (((cs.drop b).take (e - b)).toArray).size ≤ sizeLine
  rw [sizeLine_eq]; simp; omega

theorem split_b {cs : List Nat} {X : List (List Nat)} {t : Tok} {Q : Value → Shared → Prop} (h36 : s.heap.get? 36 = some patO) (h35 : s.heap.get? 35 = some { cls := .type "tuple", data := .seq (codeL.map fun (c : Nat) => Value.int (c : Int) 0).toArray }) (hl : cs.length < 2 ^ 18) (hX : Pcs cs X)
    (hQ : ∀ vs tk, RdL Gno vs (X.map sD) → Q (.ref s.heap.objs.size) { s with heap := s.heap.push (lstO vs 0), toks := tk }) :
    wpAny M A (Builtin.«re.Pattern.split» ⟨[.ref 36, .str ⟨cs.toArray⟩ t], []⟩) (fun fin s' => ∃ v, fin = .done (.ret v) ∧ Q v s') E s := by
  unfold Builtin.«re.Pattern.split»
  dsimp only
  refine wpAny_bind (m := reNamed _ _ _ _ _ _) (wpAny_of_eq (a := [some (.str ⟨cs.toArray⟩ t), none]) (by rfl) ?_)
  refine wpAny_bind (wpAny_pure ?_)
  refine wpAny_bind (target_ h36 h35 ?_)
  refine wpAny_bind (wpAny_forIn_list _ (fun rest st s' => ∃ tk done p ps, s' = { s with toks := tk } ∧ RdL Gno st.1.toList (done.map sD) ∧ st.2.1 = p ∧ st.2.2.1 = p ∧ st.2.2.2.1 = false ∧ p ≤ cs.length ∧ done.length ≤ 2 * p ∧ Pcs (cs.drop p) ps ∧ X = done ++ ps ∧
      ((st.2.2.2.2.2 = false ∧ cs.length - p < rest.length) ∨ (st.2.2.2.2.2 = true ∧ ps = [cs.drop p]))) _ ?_ ?_ _ _ ?_)
  · rintro x rest ⟨out, p, p', mu, n, over⟩ s' ⟨tk, done, _, ps, rfl, hr, rfl, hp', hmu, hp, hdl, hps, hX', hov⟩
    dsimp only at hr hp' hmu hov hp hdl hps hX' ⊢
    subst hp' hmu
    rcases hov with ⟨rfl, hlen⟩ | ⟨rfl, hps'⟩
    · rw [if_pos (show (!false) = true from rfl)]
      refine wpAny_bind ?_
      rw [if_neg (by simp)]
      refine next_ (by omega) hp (fun hh => ?_) fun q l m' hh e1 e2 e3 e4 e5 => ?_
      · refine wpAny_pure ⟨tk, done, p', ps, rfl, hr, rfl, rfl, rfl, hp, hdl, hps, hX', .inr ⟨rfl, ?_⟩⟩
        rw [hit_shift, Option.map_eq_none_iff] at hh
        cases hps with
        | stop _ => rfl
        | go h' _ => rw [hh] at h'; cases h'
      · rw [hit_shift, Option.map_eq_some_iff] at hh
        obtain ⟨⟨q', l'⟩, hh, e6⟩ := hh
        cases e6
        have hb := hit_bound _ hh
        rw [List.length_drop] at hb
        show wpAny M A (reSlice cs.toArray 0 p' m'.start >>= _) _ E _
        rw [e1]
        refine wpAny_bind (slice_ (by omega) ?_)
        have eT : p' + q' - p' = q' := by omega
        rw [eT]
        generalize hv1 : Value.str ⟨((cs.drop p').take q').toArray⟩ tk = v1
        refine wpAny_bind (wpAny_forIn_list _ (fun l b s2 => (l = [0] ∧ b = out.push v1 ∧ s2 = { s with toks := tk + 1 }) ∨
          (l = [] ∧ b = (out.push v1).push (.str ⟨((cs.drop (p' + q')).take l').toArray⟩ (tk + 1)) ∧ s2 = { s with toks := tk + 1 + 1 })) _ ?_ ?_ _ _ (.inl ⟨rfl, rfl, rfl⟩))
        · rintro g l b s2 (⟨hl0, rfl, rfl⟩ | ⟨hl0, _, _⟩)
          · cases hl0
            refine wpAny_bind ?_
            unfold reMachineGroup
            rw [e3]
            show wpAny M A (match m'.marks.getD 0 none, m'.marks.getD 1 none with
              | some b, some e => if e < b then reWrongSpan else reSlice cs.toArray 0 b e
              | _, _ => pure Value.none) _ E _
            rw [e4, e5]
            show wpAny M A (if p' + q' + l' < p' + q' then reWrongSpan else reSlice cs.toArray 0 (p' + q') (p' + q' + l')) _ E _
            rw [if_neg (by omega)]
            refine slice_ (by omega) (wpAny_pure (.inr ⟨rfl, ?_, rfl⟩))
            rw [show p' + q' + l' - (p' + q') = l' from by omega]
          · cases hl0
        · rintro b s2 (⟨hl0, _, _⟩ | ⟨_, rfl, rfl⟩)
          · cases hl0
          · refine wpAny_pure ?_
            cases hps with
            | stop h' => rw [hh] at h'; cases h'
            | go h' hps =>
              rename_i q2 l2 ps
              rw [hh] at h'
              cases h'
              refine ⟨_, done ++ [(cs.drop p').take q', ((cs.drop p').drop q').take l'], p' + q' + l', ps, rfl, ?_, e2, e2, ?_, by omega, ?_, ?_, ?_, .inl ⟨rfl, ?_⟩⟩
              · subst hv1
                simp only [Array.toList_push, List.map_append, List.append_assoc]
                refine hr.append ?_
                simp only [List.map_cons, List.map_nil, List.drop_drop, List.cons_append, List.nil_append]
                exact .cons (.str _ _) (.cons (.str _ _) .nil)
              · show (m'.handed == p' + q') = false
                rw [e2]; simp; omega
              · simp; omega
              · rw [List.drop_drop] at hps
                rw [show p' + q' + l' = p' + (q' + l') from by omega]; exact hps
              · rw [hX']; simp
              · simp only [List.length_cons] at hlen; omega
    · rw [if_neg (show ¬ ((!true) = true) from by decide)]
      exact wpAny_pure ⟨tk, done, p', ps, rfl, hr, rfl, rfl, rfl, hp, hdl, hps, hX', .inr ⟨rfl, hps'⟩⟩
  · rintro ⟨out, p, p', mu, n, over⟩ s' ⟨tk, done, _, ps, rfl, hr, rfl, hp', hmu, hp, hdl, hps, hX', hov⟩
    dsimp only at hr hp' hmu hov hp hdl hps hX' ⊢
    subst hp' hmu
    rcases hov with ⟨rfl, hlen⟩ | ⟨rfl, hps'⟩
    · simp at hlen
    · rw [if_neg (show ¬ ((!true) = true) from by decide)]
      show wpAny M A (reSlice cs.toArray 0 p' cs.toArray.size >>= _) _ E _
      refine wpAny_bind (slice_ (by omega) ?_)
      have hres : RdL Gno (out.push (.str ⟨((cs.drop p').take (cs.toArray.size - p')).toArray⟩ tk)).toList (X.map sD) := by
        rw [hX', hps', Array.toList_push, List.map_append]
        refine hr.append (.cons ?_ .nil)
        have : (cs.drop p').take (cs.toArray.size - p') = cs.drop p' := List.take_of_length_le (by simp)
        rw [this]
        exact .str _ _
      refine wpAny_bind (wpAny_newList (wpAny_pure ⟨_, rfl, hQ _ _ hres⟩) ?_)
      have := hres.length
      rw [this, hX', hps', sizeLine_eq]
      simp; omega
  · exact ⟨s.toks, [], 0, X, rfl, .nil, rfl, rfl, rfl, Nat.zero_le _, Nat.zero_le _, hX, rfl, .inl ⟨rfl, by simp [reMostMatches, tgt]; omega⟩⟩
end
end Mine

end
section
open PySem PySem.W PyProof.Rows PySem.Calls
namespace Mine

/-! ## Runs with the claim's caller below -/
def HasC (Γ : Ctx) : Prop := ∃ x ∈ Γ.below, x.1.isCaller = true
theorem HasC.enter {Γ : Ctx} (x : HasC Γ) (c : Code) (h : Option Value) (p : Pos) : HasC (Γ.enter c h p) := let ⟨y, hy, e⟩ := x; ⟨y, .tail _ hy, e⟩
theorem HasC.goto {Γ : Ctx} (x : HasC Γ) (c : Code) : HasC (Γ.goto c) := x
def wpK {α : Type} (M : Model) (A : Around) (t : Sem α) (Q : α → Shared → Prop) (E : Value → Shared → Prop) (s : Shared) : Prop :=
  ∀ Γ p, Γ.In A → HasC Γ → Sem.wp M Γ t (fun a _ s' => Q a s') (fun e _ s' => E e s') p s
def codeK (M : Model) (A : Around) (c : Code) (R : Result → Shared → Prop) (s : Shared) : Prop :=
  ∀ Γ p, Γ.code = c → Γ.Below A → HasC Γ → wpCode M Γ R p s

section
variable {α β : Type} {M : Model} {A : Around} {E : Value → Shared → Prop} {s : Shared} {env : Env}
theorem wpK_of {t : Sem α} {Q : α → Shared → Prop} (h : wpAny M A t Q E s) : wpK M A t Q E s := fun Γ p hΓ _ => h Γ p hΓ
theorem codeK_of {c : Code} {R : Result → Shared → Prop} (h : codeAny M A c R s) : codeK M A c R s := fun Γ p hc hΓ _ => h Γ p hc hΓ
theorem wpK_mono {t : Sem α} {Q Q' : α → Shared → Prop} {E' : Value → Shared → Prop} (h : wpK M A t Q E s) (hQ : ∀ a s, Q a s → Q' a s) (hE : ∀ e s, E e s → E' e s) : wpK M A t Q' E' s :=
  fun Γ p hΓ hC => Sem.wp_mono M Γ t (fun a _ s => hQ a s) (fun e _ s => hE e s) p s (h Γ p hΓ hC)
theorem wpK_pure {a : α} {Q : α → Shared → Prop} (h : Q a s) : wpK M A (pure a) Q E s := wpK_of (wpAny_pure h)
theorem wpK_bind {m : Sem α} {f : α → Sem β} {Q : β → Shared → Prop} (h : wpK M A m (fun a s' => wpK M A (f a) Q E s') E s) : wpK M A (m >>= f) Q E s := fun Γ p hΓ hC => by
  rw [Sem.wp_bind']
  exact Sem.wp_mono M Γ m (fun a p' s' h' => h' Γ p' hΓ hC) (fun _ _ _ h' => h') p s (h Γ p hΓ hC)
theorem wpK_onRaise {m : Sem α} {k : Value → Sem Unit} {Q : α → Shared → Prop} (h : wpK M A m Q (fun e s' => wpK M A (k e) (fun _ s'' => E e s'') E s') s) : wpK M A (m.onRaise k) Q E s := fun Γ p hΓ hC => by
  rw [Sem.wp_onRaise]
  exact Sem.wp_mono M Γ m (fun _ _ _ h' => h') (fun e p' s' h' => h' Γ p' hΓ hC) p s (h Γ p hΓ hC)
theorem wpK_tryCatch {m : Sem α} {k : Value → Sem α} {Q : α → Shared → Prop} (h : wpK M A m Q (fun e s' => wpK M A (k e) Q E s') s) : wpK M A (tryCatch m k) Q E s := fun Γ p hΓ hC => by
  rw [Sem.wp_tryCatch']
  exact Sem.wp_mono M Γ m (fun _ _ _ h' => h') (fun e p' s' h' => h' Γ p' hΓ hC) p s (h Γ p hΓ hC)
theorem wpK_holding {vs : List Value} {m : Sem α} {Q : α → Shared → Prop} (h : wpK M A m Q E s) : wpK M A (holding vs m) Q E s :=
  fun Γ p hΓ hC => by rw [Sem.wp_holding]; exact h Γ p hΓ hC
theorem wpK_keep {vs : List Value} {m : Sem α} {Q : α → Shared → Prop} (h : wpK M A m Q E s) : wpK M A (m.keep vs) Q E s :=
  fun Γ p hΓ hC => by rw [Sem.wp_keep]; exact h Γ p hΓ hC
theorem wpK_standAt {pos : Pos} {Q : Unit → Shared → Prop} (h : Q () s) : wpK M A (standAt pos) Q E s := wpK_of (wpAny_standAt h)
theorem wpK_stack {Q : List (Code × Pos) → Shared → Prop} (h : ∀ st : List (Code × Pos), (st.map (·.1)).any Code.isCaller = true → Q st s) : wpK M A stack Q E s := fun Γ p hΓ hC => by
  unfold stack
  rw [Sem.wp_stack]
  refine h _ ?_
  obtain ⟨x, hx, e⟩ := hC
  simp only [List.map_cons, List.any_cons, Bool.or_eq_true, List.any_eq_true]
  exact .inr ⟨x.1, List.mem_map_of_mem hx, e⟩
theorem wpK_run {c : Code} {h : Option Value} {Q : Flow → Shared → Prop} (hc : codeK M (A.mark h) c (fun r s' => match r with | .ok f => Q f s' | .error e => E e s') s) (hnb : h ≠ some byPass := by intro x; cases x) : wpK M A (run c h) Q E s :=
  fun Γ p hΓ hC => by rw [Sem.wp_run]; exact hc _ p rfl (hΓ.enter c h p hnb) (hC.enter c h p)
theorem wpK_call {f : Value} {pos : List Value} {kw : List (Str × Value)} {Q : Value → Shared → Prop} (hc : codeK M A (.call f ⟨pos, kw⟩) (fun r s' => match r with | .ok (.ret v) => Q v s' | .ok _ => False | .error e => E e s') s) : wpK M A (call f pos kw) Q E s :=
  fun Γ p hΓ hC => by rw [Sem.wp_cmd_call]; exact hc _ p rfl (hΓ.enter _ none p (by intro x; cases x)) (hC.enter _ none p)
theorem codeK_mono {c : Code} {R R' : Result → Shared → Prop} (h : codeK M A c R s) (hR : ∀ r s, R r s → R' r s) : codeK M A c R' s := fun Γ p hc hΓ hC => wpCode_mono hR (h Γ p hc hΓ hC)
theorem codeK_of_tree {c : Code} {R : Result → Shared → Prop}
    (h : wpK M (A.under c) (M.den c) (fun fin s' => match fin with | .done f => R (.ok f) s' | .again c' => c'.quiet = true ∧ codeK M A c' R s') (fun e s' => R (.error e) s') s) : codeK M A c R s := fun Γ p hc hΓ hC => by
  rw [wpCode_iff_wp, hc]
  refine Sem.wp_mono M Γ _ (fun fin p' s' h' => ?_) (fun _ _ _ h' => h') p s (h Γ p (hc ▸ hΓ.in) hC)
  cases fin with
  | done f => exact h'
  | again c' => exact ⟨h'.1, h'.2 (Γ.goto c') p' rfl (hΓ.goto c') (hC.goto c')⟩
theorem codeK_loop {c : Code} {R : Result → Shared → Prop} (hq : c.quiet = true) (I : Nat → Shared → Prop)
    (turn : ∀ n s, I n s → wpK M (A.under c) (M.den c) (fun fin s' => match fin with
      | .done f => R (.ok f) s'
      | .again c' => (c' = c ∧ ∃ m, m < n ∧ I m s') ∨ (c'.quiet = true ∧ codeK M A c' R s')) (fun e s' => R (.error e) s') s)
    (n : Nat) (h : I n s) : codeK M A c R s := by
  induction n using Nat.strongRecOn generalizing s with
  | ind n ih =>
    refine codeK_of_tree (wpK_mono (turn n s h) (fun fin s' hf => ?_) fun _ _ h' => h')
    cases fin with
    | done f => exact hf
    | again c' =>
      rcases hf with ⟨rfl, m, hm, hI⟩ | hf
      · exact ⟨hq, ih m hm hI⟩
      · exact hf

/-! ### statements and terms -/
theorem wpK_execs_cons {st : Stmt} {rest : List Stmt} {Q : Flow → Shared → Prop} (h : wpK M A (exec st env) (fun f s' => match f with | .next => wpK M A (execs rest env) Q E s' | f => Q f s') E s) : wpK M A (execs (st :: rest) env) Q E s := by
  rw [execs_cons]
  refine wpK_bind (wpK_mono h (fun f s' h' => ?_) fun _ _ x => x)
  cases f <;> first | exact h' | exact wpK_pure h'
theorem wpK_execs_nil {Q : Flow → Shared → Prop} (h : Q .next s) : wpK M A (execs [] env) Q E s := wpK_of (wpAny_execs_nil h)
theorem wpK_If {test body orelse pos} {Q : Flow → Shared → Prop} (h : wpK M A (isTrue test env (eval test env)) (fun b s₂ => if b then wpK M A (execs body env) Q E s₂ else wpK M A (execs orelse env) Q E s₂) E s) : wpK M A (exec (.If test body orelse pos) env) Q E s := by
  rw [exec_If]
  refine wpK_bind (wpK_standAt (wpK_bind (wpK_mono h (fun b s₂ h₂ => ?_) fun _ _ x => x)))
  cases b <;> exact h₂
theorem wpK_isTrue_Compare1 {l op r pos whole} {Q : Bool → Shared → Prop}
    (h : wpK M A (eval l env) (fun a s₁ => wpK M A (eval r env) (fun b s₂ => wpK M A (compareOp op a b) (fun c s₃ => wpK M A (truthy c) Q E s₃) E s₂) E s₁) E s)
    (hm : behindInMarks op r = false := by with_unfolding_all rfl) : wpK M A (isTrue (.Compare l [op] [r] pos) env whole) Q E s := fun Γ p hΓ hC => by
  simp only [isTrue_Compare1, markedBehindIn_of_false hm, Sem.wp_bind', Sem.wp_holding, Sem.wp_cmd_standAt, Sem.wp_operate]
  exact Sem.wp_mono M Γ _ (fun a p₁ s₁ h₁ => Sem.wp_mono M Γ _ (fun b _ s₂ h₂ => Sem.wp_mono M Γ _ (fun c p₃ s₃ h₃ => h₃ Γ p₃ hΓ hC)
    (fun _ _ _ x => x) _ _ (h₂ Γ _ hΓ hC)) (fun _ _ _ x => x) _ _ (h₁ Γ p₁ hΓ hC)) (fun _ _ _ x => x) _ _ (h Γ p hΓ hC)
theorem wpK_BinOp {l op r pos} {Q : Value → Shared → Prop} (h : wpK M A (eval l env) (fun a s₁ => wpK M A (eval r env) (fun b s₂ => wpK M A (binaryOp op a b) Q E s₂) E s₁) E s) : wpK M A (eval (.BinOp l op r pos) env) Q E s := fun Γ p hΓ hC => by
  simp only [eval_BinOp, Sem.wp_bind', Sem.wp_holding, Sem.wp_cmd_standAt, Sem.wp_operate]
  exact Sem.wp_mono M Γ _ (fun a p₁ s₁ h₁ => Sem.wp_mono M Γ _ (fun b _ s₂ h₂ => h₂ Γ _ hΓ hC) (fun _ _ _ x => x) _ _ (h₁ Γ p₁ hΓ hC)) (fun _ _ _ x => x) _ _ (h Γ p hΓ hC)
theorem wpK_Assign_Name {x pos' value pos} {Q : Flow → Shared → Prop} (h : wpK M A (eval value env) (fun v s₁ => wpK M A (storeName env x v) (fun _ => Q .next) E s₁) E s)
    (hs : swapsWith value (some (.Name x pos')) pos.line env = pure false := by rfl) : wpK M A (exec (.Assign [.Name x pos'] value pos) env) Q E s := fun Γ p hΓ hC => by
  simp only [exec_Assign_Name env x pos' value pos hs, Sem.wp_bind', Sem.wp_cmd_standAt, Sem.wp_bindName, Sem.wp_pure']
  exact Sem.wp_mono M Γ _ (fun v _ s₁ h₁ => h₁ Γ _ hΓ hC) (fun _ _ _ x => x) _ _ (h Γ _ hΓ hC)
theorem wpK_Return_some {e pos} {Q : Flow → Shared → Prop} (h : wpK M A (eval e env) (fun v => Q (.ret v)) E s) : wpK M A (exec (.Return (some e) pos) env) Q E s := fun Γ p hΓ hC => by
  simp only [exec_Return_some, Sem.wp_bind', Sem.wp_cmd_standAt, Sem.wp_pure']; exact h Γ _ hΓ hC
theorem wpK_runOwn {c : Code} {h : Option Value} {Q : Flow → Shared → Prop} (hc : codeK M (A.mark h) c (fun r s' => match r with | .ok f => Q f s' | .error _ => False) s) (hnb : h ≠ some byPass := by intro x; cases x) : wpK M A (runOwn c env h) Q E s := by
  unfold runOwn
  refine wpK_onRaise (wpK_run (codeK_mono hc fun r s' hr => ?_) hnb)
  cases r with
  | ok f => exact hr
  | error e => exact hr.elim
theorem wpK_While {test body orelse pos} {Q : Flow → Shared → Prop} (h : codeK M A (.whileLoop test body orelse env) (fun r s' => match r with | .ok f => Q f s' | .error _ => False) s) : wpK M A (exec (.While test body orelse pos) env) Q E s := by
  rw [exec_While]; exact wpK_bind (wpK_standAt (wpK_runOwn h))
theorem wpK_For {target iter body orelse pos} {Q : Flow → Shared → Prop}
    (h : wpK M A (eval iter env) (fun x s₁ => wpK M A (pyIter x) (fun it s₂ => codeK M A (.forLoop target it body orelse env) (fun r s' => match r with | .ok f => Q f s' | .error _ => False) s₂) E s₁) E s)
    (hs : ∀ x, foldedSetIterable iter env x = pure x := by intro _; rfl) : wpK M A (exec (.For target iter body orelse pos) env) Q E s := by
  rw [exec_For]
  refine wpK_bind (wpK_standAt (wpK_bind (wpK_mono h (fun x s₁ h₁ => wpK_bind ?_) fun _ _ x => x)))
  rw [hs x]
  exact wpK_pure (wpK_bind (wpK_standAt (wpK_bind (wpK_holding (wpK_mono h₁ (fun it s₂ h₂ => wpK_runOwn h₂) fun _ _ x => x)))))
end

section
variable {prog : Program} {w : World} {A : Around} {E : Value → Shared → Prop} {R : Result → Shared → Prop} {s : Shared} {env : Env}
theorem wpK_noted {α : Type} {M : Model} {m : Sem α} {k : Value → Sem Unit} {Q : α → Shared → Prop} (h : wpK M A m Q (fun _ _ => False) s) : wpK M A (m.onRaise k) Q E s :=
  wpK_onRaise (wpK_mono h (fun _ _ q => q) fun _ _ x => x.elim)
theorem codeK_whileLoop {test body orelse} (I : Nat → Shared → Prop)
    (turn : ∀ n s, I n s → wpK (model prog w) A (isTrue test env (eval test env)) (fun b s₂ =>
        if b then wpK (model prog w) A (execs body env) (fun f s₃ => match f with
            | .next | .cont => ∃ m, m < n ∧ I m s₃
            | .brk => R (.ok .next) s₃
            | .ret v => R (.ok (.ret v)) s₃) (fun _ _ => False) s₂
        else wpK (model prog w) A (execs orelse env) (fun f s₃ => R (.ok f) s₃) (fun _ _ => False) s₂) (fun _ _ => False) s)
    (n : Nat) (h : I n s) : codeK (model prog w) A (.whileLoop test body orelse env) R s := by
  refine codeK_loop rfl I (fun n s hI => ?_) n h
  show wpK _ A ((whileTurn test body orelse env).onRaise (fun x => do noteFrame x env; theTreesLotGoes x)) _ _ s
  refine wpK_noted ?_
  simp only [whileTurn]
  refine wpK_bind (wpK_mono (turn n s hI) (fun b s₂ h₂ => ?_) fun _ _ x => x)
  cases b with
  | false =>
    simp only [Bool.false_eq_true, if_false] at h₂ ⊢
    exact wpK_bind (wpK_mono h₂ (fun f s₃ h₃ => wpK_pure h₃) fun _ _ x => x)
  | true =>
    simp only [if_true] at h₂ ⊢
    refine wpK_bind (wpK_mono h₂ (fun f s₃ h₃ => ?_) fun _ _ x => x)
    cases f with
    | next => exact wpK_pure (.inl ⟨rfl, h₃⟩)
    | cont => exact wpK_pure (.inl ⟨rfl, h₃⟩)
    | brk => exact wpK_pure h₃
    | ret v => exact wpK_pure h₃
theorem codeK_block {stmts : List Stmt} (h : wpK (model prog w) A (execs stmts env) (fun f s' => R (.ok f) s') (fun _ _ => False) s) : codeK (model prog w) A (.block stmts env) R s := by
  refine codeK_of_tree ?_
  show wpK _ _ (do return Fin.done (← (execs stmts env).onRaise (fun x => do noteFrame x env; theTreesLotGoes x))) _ _ s
  exact wpK_bind (wpK_noted (wpK_mono h (fun f s' h' => wpK_pure h') fun _ _ x => x))
theorem codeK_forLoop {target it body orelse} (I : Nat → Shared → Prop)
    (turn : ∀ n s, I n s → wpK (model prog w) A (pyNext it) (fun r s₁ => match r with
      | none => wpK (model prog w) A (execs orelse env) (fun f s₃ => R (.ok f) s₃) (fun _ _ => False) s₁
      | some v => wpK (model prog w) A (letOwnedTupleGo target it v) (fun _ s₁' => wpK (model prog w) A (assign target env v) (fun _ s₂ => wpK (model prog w) A (execs body env) (fun f s₃ => match f with
            | .next | .cont => ∃ m, m < n ∧ I m s₃
            | .brk => R (.ok .next) s₃
            | .ret v => R (.ok (.ret v)) s₃) (fun _ _ => False) s₂) (fun _ _ => False) s₁') (fun _ _ => False) s₁) (fun _ _ => False) s)
    (n : Nat) (h : I n s) : codeK (model prog w) A (.forLoop target it body orelse env) R s := by
  refine codeK_loop rfl I (fun n s hI => ?_) n h
  show wpK _ A ((forTurn target it body orelse env).onRaise (fun x => do noteFrame x env; theTreesLotGoes x)) _ _ s
  refine wpK_noted ?_
  simp only [forTurn]
  refine wpK_bind (wpK_standAt (wpK_bind (wpK_onRaise (wpK_mono (turn n s hI) (fun r s₁ h₁ => ?_) fun _ _ x => x.elim))))
  cases r with
  | none => exact wpK_pure (.inr ⟨rfl, codeK_block h₁⟩)
  | some v =>
    refine wpK_bind (wpK_mono h₁ (fun _ s₁' h₁' => ?_) fun _ _ x => x)
    refine wpK_bind (wpK_mono h₁' (fun _ s₂ h₂ => wpK_bind (wpK_mono h₂ (fun f s₃ h₃ => ?_) fun _ _ x => x)) fun _ _ x => x)
    cases f with
    | next => exact wpK_pure (.inl ⟨rfl, h₃⟩)
    | cont => exact wpK_pure (.inl ⟨rfl, h₃⟩)
    | brk => exact wpK_pure h₃
    | ret v => exact wpK_pure h₃
theorem codeK_func {body} (h : wpK (model prog w) (A.deeper env) (execs body env) (fun f s' => R (.ok (.ret (match f with | .ret v => v | _ => .none))) s') (fun _ _ => False) s) : codeK (model prog w) A (.func body env) R s := by
  refine codeK_of_tree ?_
  show wpK _ (A.deeper env) (do point; match ← (execs body env).onRaise (leaving env) with | .ret v => ret v | _ => ret .none) _ _ s
  refine wpK_bind (wpK_of (wpAny_point (wpK_bind (wpK_noted (wpK_mono h (fun f s' h' => ?_) fun _ _ x => x)))))
  cases f <;> exact wpK_pure h'
theorem codeK_builtin {id : String} {args : Args} {b : Builtin} (hb : entryFor table id = some b)
    (h : wpK (model prog w) (A.under (.builtin id args)) (b args) (fun fin s' => match fin with | .done f => R (.ok f) s' | .again c' => c'.quiet = true ∧ codeK (model prog w) A c' R s') (fun e s' => R (.error e) s') s) :
    codeK (model prog w) A (.builtin id args) R s := by
  refine codeK_of_tree ?_
  show wpK _ _ (match entryFor table id with | some b => b args | none => unsupported ((withoutEnding? id "#data").getD id)) _ _ s
  rw [hb]; exact h
theorem codeK_call_function {a : Addr} {args : Args} {o : Obj} {fd : FuncData} {body : List Stmt} (hroom : A.depth < recursionLimit) (ho : s.heap.get? a = some o)
    (hd' : o.data = .func fd) (hco : fd.scope.isCoroutine = false) (hgen : fd.scope.isGenerator = false) (hbody : fd.body = .stmts body) (hcd : s.heap.CodeRec fd.code fd.qualname)
    (h : wpAny (model prog w) A.in1 (bindArgs fd args) (fun binds s₁ => wpAny (model prog w) A.in1 (newFunctionEnv fd.scope fd.globals fd.closure binds (fd.qualname ++ ".<locals>.") (some a) fd.code none fd.builtins)
        (fun env s₂ => s₂.heap.NoLimit ∧ codeK (model prog w) A (.func body env) R s₂) (fun e s' => R (.error e) s') s₁) (fun e s' => R (.error e) s') s) :
    codeK (model prog w) A (.call (.ref a) args) R s := by
  refine codeK_of_tree ?_
  show wpK _ A.in1 (callAny (.ref a) args) _ _ s
  simp only [callAny]
  refine wpK_bind (wpK_of (wpAny_load ho ?_))
  obtain ⟨c, oc, vs, tq, hc, hoc, hdc, hq⟩ := hcd
  simp only [hd', callFunction, hco, hgen, hbody, hc]
  rw [hc] at h
  refine wpK_bind (m := field (.ref c) 1) (wpK_of (wpAny_field hoc hdc hq (wpK_bind (wpK_pure ?_))))
  exact wpK_bind (wpK_of (wpAny_mono h (fun binds s₁ h₁ => wpK_bind (wpK_of (wpAny_mono h₁ (fun env s₂ h₂ => wpK_bind (wpK_of (wpAny_enterFrame h₂.1 hroom (wpK_pure (And.intro rfl h₂.2))))) fun _ _ x => x))) fun _ _ x => x))
end
end Mine

end
section
open PySem PySem.W PyProof.Rows PySem.Calls
namespace Mine

section
variable {M : Model} {A : Around} {E : Value → Shared → Prop} {s : Shared} {env : Env}
theorem splicedK_nil {Q : List Value → Shared → Prop} (h : Q [] s) : wpK M A (spliced []) Q E s := wpK_pure h
theorem splicedK_cons {x : Sem Value} {rest : List (Bool × Sem Value)} {Q : List Value → Shared → Prop} (h : wpK M A x (fun v s₁ => wpK M A (spliced rest) (fun vs s₂ => Q (v :: vs) s₂) E s₁) E s) : wpK M A (spliced ((false, x) :: rest)) Q E s := by
  rw [spliced]
  refine wpK_bind (wpK_mono h (fun v s₁ h₁ => ?_) fun _ _ x => x)
  simp only [Bool.false_eq_true, if_false]
  exact wpK_bind (wpK_pure (wpK_bind (wpK_holding (wpK_mono h₁ (fun vs s₂ h₂ => wpK_pure h₂) fun _ _ x => x))))
theorem evalArgsK_plain {f : Value} {x : Sem Value} {rest : List (Bool × Sem Value)} {Q : Args → Shared → Prop} (h : wpK M A (spliced ((false, x) :: rest)) (fun vs s' => Q ⟨vs, []⟩ s') E s) : wpK M A (evalArgs f true ((false, x) :: rest) []) Q E s := by
  unfold evalArgs
  show wpK M A (spliced ((false, x) :: rest) >>= _) Q E s
  refine wpK_bind (wpK_mono h (fun vs s' h' => ?_) fun _ _ x => x)
  exact wpK_holding (wpK_bind (wpK_pure (wpK_bind (wpK_pure (wpK_pure h')))))
theorem evalArgsK_kw {f : Value} {x : Sem Value} {rest : List (Bool × Sem Value)} {keywords : List (Option Str × Sem Value)} {Q : Args → Shared → Prop} (hall : keywords.all (·.1.isSome) = true)
    (h : wpK M A (spliced ((false, x) :: rest)) (fun vs s₁ => wpK M A (evalAll (keywords.map (·.2))) (fun ks s₂ => Q ⟨vs, (keywords.filterMap (·.1)).zip ks⟩ s₂) E s₁) E s) : wpK M A (evalArgs f true ((false, x) :: rest) keywords) Q E s := by
  unfold evalArgs
  show wpK M A (spliced ((false, x) :: rest) >>= _) Q E s
  refine wpK_bind (wpK_mono h (fun vs s₁ h₁ => ?_) fun _ _ x => x)
  refine wpK_holding ?_
  simp only [hall, if_true]
  exact wpK_bind (wpK_mono h₁ (fun ks s₂ h₂ => wpK_bind (wpK_pure (wpK_pure h₂))) fun _ _ x => x)
theorem callWithK_function {pos : Pos} {a : Addr} {o : Obj} {fd : FuncData} {args : List (Bool × Sem Value)} {keywords : List (Option Str × Sem Value)} {Q : Value → Shared → Prop} (hdat : o.data = .func fd)
    (h : wpK M A (evalArgs (.ref a) true args keywords) (fun x s₁ => s₁.heap.get? a = some o ∧ wpK M A (call (.ref a) x.pos x.kw) Q E s₁) E s) : wpK M A (callWith pos (.ref a) [] args keywords) Q E s := by
  unfold callWith
  refine wpK_bind (wpK_holding (wpK_mono h (fun x s₁ h₁ => wpK_bind (wpK_standAt ?_)) fun _ _ x => x))
  have tail : ∀ {t : Sem Value}, wpK M A t Q E s₁ → wpK M A (t >>= fun r => holding [r] point >>= fun _ => pure r) Q E s₁ :=
    fun ht => wpK_bind (wpK_mono ht (fun r s₂ hr => wpK_bind (wpK_holding (wpK_of (wpAny_point (wpK_pure hr))))) fun _ _ x => x)
  cases hs : (args.any (·.1) || keywords.any (·.1.isNone)) <;>
    refine wpK_bind (m := keeperOf (.ref a)) ?_ <;> unfold keeperOf <;>
    refine wpK_bind (wpK_of (wpAny_load h₁.1 ?_)) <;> rw [hdat] <;> refine wpK_pure ?_
  · by_cases hc : args.length + 2 * keywords.length > 30
    · show wpK M A (if args.length + 2 * keywords.length > 30 then (call (.ref a) ([] ++ x.pos) x.kw >>= fun r => holding [r] point >>= fun _ => pure r) else (callMarked plainCall (.ref a) ([] ++ x.pos) x.kw >>= fun r => holding [r] point >>= fun _ => pure r)) Q E s₁
      rw [if_pos hc]; exact tail h₁.2
    · show wpK M A (if args.length + 2 * keywords.length > 30 then (call (.ref a) ([] ++ x.pos) x.kw >>= fun r => holding [r] point >>= fun _ => pure r) else (callMarked plainCall (.ref a) ([] ++ x.pos) x.kw >>= fun r => holding [r] point >>= fun _ => pure r)) Q E s₁
      rw [if_neg hc]; exact tail (wpK_keep h₁.2)
  · exact tail (wpK_keep h₁.2)
theorem wpK_Call_ofName {x : Str} {np pos : Pos} {args : List Expr} {keywords : List Keyword} {Q : Value → Shared → Prop}
    (h : wpK M A (eval (.Name x np) env) (fun f s₁ => wpK M A (callWith pos f [] (backTo pos (starEach args env)) (backToKw pos (keywordEach keywords env))) Q E s₁) E s) : wpK M A (eval (.Call (.Name x np) args keywords pos) env) Q E s := by
  show wpK M A (do callWith pos (← eval (.Name x np) env) [] (backTo pos (starEach args env)) (backToKw pos (keywordEach keywords env))) Q E s
  exact wpK_bind h
end

section
variable {outer : List Env} {ex : List Addr} {s0 s s' : Shared} {G0 G1 G G' : Store} {L : Addr} {m m' : Str → Option Value} {mu mu' : List (Addr × It)} {prog : Program} {w : World} {A : Around} {E : Value → Shared → Prop} {env : Env} {sc : Scope}

theorem codeK_call_def {R : Result → Shared → Prop} {a : Addr} {o : Obj} {fd : FuncData} {body : List Stmt} {args : Args} {binds : List (Str × Value)}
    (hroom : A.depth < recursionLimit) (ho : s.heap.get? a = some o) (hdata : o.data = .func fd) (hlim : s.heap.NoLimit) (hcd : s.heap.CodeRec fd.code fd.qualname) (hbody : fd.body = .stmts body) (hbind : BindsTo s fd args binds)
    (hcell : ∀ x ∈ fd.scope.names, x.2 ≠ .cell) (hloc : ∀ x ∈ binds, fd.scope.names.lookup x.1 = some .local)
    (h : ∀ h₀, h₀.Ns s.heap.objs.size (fun x => binds.reverse.lookup x) → (∀ b o, s.heap.get? b = some o → h₀.get? b = some o) →
      wpK (model prog w) (A.deeper (callEnv fd s.heap.objs.size a)) (execs body (callEnv fd s.heap.objs.size a)) (fun f s' => R (.ok (.ret (match f with | .ret v => v | _ => .none))) s') (fun _ _ => False) { s with heap := h₀, toks := s.toks + binds.length })
    (hco : fd.scope.isCoroutine = false) (hgen : fd.scope.isGenerator = false) (hk : fd.scope.kind = .function) : codeK (model prog w) A (.call (.ref a) args) R s := by
  refine codeK_call_function hroom ho hdata hco hgen hbody hcd (hbind _ _ _ _ ?_)
  refine wpAny_newFunctionEnv hcell hloc (fun h₀ hns₀ hsb₀ => ⟨hlim.fresh _ hsb₀, codeK_func (h h₀ hns₀ fun b o e => ?_)⟩) hk
  exact hsb₀.extBut b o (Nat.ne_of_lt (Heap.lt_size e)) (Heap.get?_push_of_some _ e)

/-- the entry into one of the program's plain defs; it may turn the objects `ex` of its caller's -/
theorem enterK {n : Nat} {f : Addr} {i : Nat} {dV kV : Value} {pos : List Value} {kw : List (Str × Value)} {binds : List (Str × Value)} {Q : Value → Shared → Prop} (ex : List Addr)
    (F : Fn G f i dV kV) (P : PG w G) (hA : AOk A outer (n + 1)) (O : Ok outer G s) (hex : ∀ a ∈ ex, a ∉ frs outer)
    (hbind : ∀ pm cd, BindsTo s (fnAt i dV kV pm cd) ⟨pos, kw⟩ binds) (hcell : (fdScope (stm i)).names.all (fun x => x.2 != .cell) = true) (hloc : binds.all (fun x => (fdScope (stm i)).names.lookup x.1 == some .local) = true)
    (hco : (fdScope (stm i)).isCoroutine = false) (hgen : (fdScope (stm i)).isGenerator = false) (hk : (fdScope (stm i)).kind = .function)
    (h : ∀ env s₁ A' L, EnvOk env (fdScope (stm i)) L → AOk A' (env :: outer) n → In outer ex s G G L (fun x => binds.reverse.lookup x) [] s₁ → (∀ b o, s.heap.get? b = some o → s₁.heap.get? b = some o) →
      wpK (model prog w) A' (execs (fdBody (stm i)) env) (fun fl s' => Q (retOf fl) s') (fun _ _ => False) s₁) :
    wpK (model prog w) A (call (.ref f) pos kw) Q E s := by
  obtain ⟨pm, cd, ho, hcd⟩ := F.there
  refine wpK_call (codeK_call_def hA.room (O.sub _ _ ho) rfl (P.lim _ O.sub) (hcd _ O.sub) rfl (hbind pm cd) (fun x hx => ?_) (fun x hx => ?_) (fun h₀ hns k => ?_) hco hgen hk)
  · have := List.all_eq_true.mp hcell x hx; simpa using this
  · have := List.all_eq_true.mp hloc x hx; exact beq_iff_eq.mp this
  refine wpK_mono (h _ _ _ _ ⟨rfl, hk, rfl, rfl, rfl, rfl⟩ (hA.deeper _) (In.start O _ hns k hex) k) (fun fl s' hq => ?_) fun _ _ x => x.elim
  cases fl <;> exact hq

/-- what the key makes of an item -/
def KeyK (prog : Program) (w : World) (t kd : Dat) : Prop :=
  ∀ (A : Around) (outer : List Env) (n : Nat) (G : Store) (s : Shared) (v : Value) (Q : Value → Shared → Prop) (E : Value → Shared → Prop), AOk A outer (n + 2) → Ok outer G s → PG w G → Rd G v t →
    (∀ r s' G', Step (frs outer) [] G s G' s' → Rd G' r kd → Q r s') → wpK (model prog w) A (call (.ref 44) [v]) Q E s

theorem callL1K {x : Str} {np pos : Pos} {a : Expr} {f : Addr} {Q : Value → Shared → Prop} {i : Nat} {dV kV : Value}
    (e : EnvOk env sc L) (I : In outer ex s0 G0 G L m mu s) (hk : sc.names.lookup x = some .local) (hv : m x = some (.ref f)) (F : Fn G f i dV kV)
    (ha : ∀ env', (starEach [a] env' = [(false, eval a env')])) (h : wpK (model prog w) A (eval a env) (fun v s₁ => (∃ G', LeS G G' ∧ SubS G' s₁.heap) ∧ wpK (model prog w) A (call (.ref f) [v]) Q E s₁) E s) (hd : (x == ("__debug__" : Str)) = false := by decide +kernel) :
    wpK (model prog w) A (eval (.Call (.Name x np) [a] [] pos) env) Q E s := by
  obtain ⟨pm, cd, ho, _⟩ := F.there
  refine wpK_Call_ofName (wpK_of (ldL e I hk hv ?_ hd))
  rw [ha]
  refine callWithK_function (o := { cls := .type "function", data := .func (fnAt i dV kV pm cd) }) (fd := fnAt i dV kV pm cd) rfl (evalArgsK_plain (splicedK_cons (wpK_mono h (fun v s₁ h₁ => splicedK_nil ⟨?_, h₁.2⟩) fun _ _ y => y)))
  obtain ⟨⟨G', h1, h2⟩, _⟩ := h₁
  exact h2 _ _ (h1 _ _ ho)
theorem callGlK {x : Str} {np pos : Pos} {args : List Expr} {a : Sem Value} {rest : List (Bool × Sem Value)} {f : Addr} {Q : Value → Shared → Prop} {i : Nat} {dV kV : Value}
    (e : EnvOk env sc L) (S : SubS G s.heap) (P : PG w G) (hk : sc.names.lookup x = some .globalImplicit) (hx : (x, .ref f) ∈ gtab) (F : Fn G f i dV kV) (hargs : backTo pos (starEach args env) = (false, a) :: rest)
    (h : wpK (model prog w) A (spliced ((false, a) :: rest)) (fun vs s₁ => (∃ G', LeS G G' ∧ SubS G' s₁.heap) ∧ wpK (model prog w) A (call (.ref f) vs) Q E s₁) E s) (hd : (x == ("__debug__" : Str)) = false := by decide +kernel) :
    wpK (model prog w) A (eval (.Call (.Name x np) args [] pos) env) Q E s := by
  obtain ⟨pm, cd, ho, _⟩ := F.there
  refine wpK_Call_ofName (wpK_of (ldGl e S P hk hx ?_ hd))
  rw [hargs]
  refine callWithK_function (o := { cls := .type "function", data := .func (fnAt i dV kV pm cd) }) (fd := fnAt i dV kV pm cd) rfl (evalArgsK_plain (wpK_mono h (fun vs s₁ h₁ => ⟨?_, h₁.2⟩) fun _ _ y => y))
  obtain ⟨⟨G', h1, h2⟩, _⟩ := h₁
  exact h2 _ _ (h1 _ _ ho)
theorem callGlKwK {x : Str} {np pos : Pos} {args : List Expr} {kws : List Keyword} {a : Sem Value} {rest : List (Bool × Sem Value)} {f : Addr} {Q : Value → Shared → Prop} {i : Nat} {dV kV : Value}
    (e : EnvOk env sc L) (S : SubS G s.heap) (P : PG w G) (hk : sc.names.lookup x = some .globalImplicit) (hx : (x, .ref f) ∈ gtab) (F : Fn G f i dV kV) (hargs : backTo pos (starEach args env) = (false, a) :: rest)
    (hall : (backToKw pos (keywordEach kws env)).all (·.1.isSome) = true)
    (h : wpK (model prog w) A (spliced ((false, a) :: rest)) (fun vs s₁ => wpK (model prog w) A (evalAll ((backToKw pos (keywordEach kws env)).map (·.2))) (fun ks s₂ => (∃ G', LeS G G' ∧ SubS G' s₂.heap) ∧ wpK (model prog w) A (call (.ref f) vs (((backToKw pos (keywordEach kws env)).filterMap (·.1)).zip ks)) Q E s₂) E s₁) E s)
    (hd : (x == ("__debug__" : Str)) = false := by decide +kernel) :
    wpK (model prog w) A (eval (.Call (.Name x np) args kws pos) env) Q E s := by
  obtain ⟨pm, cd, ho, _⟩ := F.there
  refine wpK_Call_ofName (wpK_of (ldGl e S P hk hx ?_ hd))
  rw [hargs]
  refine callWithK_function (o := { cls := .type "function", data := .func (fnAt i dV kV pm cd) }) (fd := fnAt i dV kV pm cd) rfl (evalArgsK_kw hall (wpK_mono h (fun vs s₁ h₁ => wpK_mono h₁ (fun ks s₂ h₂ => ⟨?_, h₂.2⟩) fun _ _ y => y) fun _ _ y => y))
  obtain ⟨⟨G', h1, h2⟩, _⟩ := h₂
  exact h2 _ _ (h1 _ _ ho)
end
end Mine

end
section
open PySem PySem.W PyProof.Rows PySem.Calls
namespace Mine

section
variable {outer : List Env} {s0 s : Shared} {G0 G1 G : Store} {L : Addr} {m : Str → Option Value} {mu : List (Addr × It)} {prog : Program} {w : World} {A : Around} {env : Env} {sc : Scope}

/-- the loop of the bisections -/
theorem bis_loopK (rt : Bool) {len : Nat} {T : Expr} {p1 p2 p3 p4 p5 p6 p7 p8 p9 p10 p11 p12 q1 q2 q3 r1 r2 r3 r4 r5 : Pos} {k1 k2 : Nat} (up : Nat → Bool) (KM : (Str → Option Value) → Prop)
    (e : EnvOk env sc L) (klo : sc.names.lookup ("lo" : Str) = some .local) (khi : sc.names.lookup ("hi" : Str) = some .local) (kmid : sc.names.lookup ("mid" : Str) = some .local)
    (hKM : ∀ m n v, n = ("lo" : Str) ∨ n = ("hi" : Str) ∨ n = ("mid" : Str) → KM m → KM (upd m n v)) (hmono : ∀ i j, i ≤ j → up i = true → up j = true)
    (hT : ∀ G m (mid : Nat) t s, LeS G1 G → KM m → m ("mid" : Str) = some (.int mid t) → mid < len → In outer [] s0 G0 G L m mu s →
      wpK (model prog w) A (isTrue T env (eval T env)) (fun b s' => (b == rt) = up mid ∧ ∃ G', LeS G G' ∧ In outer [] s0 G0 G' L m mu s') (fun _ _ => False) s)
    {lo hi : Nat} {t1 t2 : Tok} (hlo : m ("lo" : Str) = some (.int lo t1)) (hhi : m ("hi" : Str) = some (.int hi t2)) (hKm : KM m) (hle : LeS G1 G) (I : In outer [] s0 G0 G L m mu s) (hlh : lo ≤ hi) (hhl : hi ≤ len)
    (hA1 : ∀ j, j < lo → up j = false) (hA2 : ∀ j, hi ≤ j → j < len → up j = true)
    {Q : Flow → Shared → Prop} (hQ : ∀ G m (r : Nat) t s, LeS G1 G → KM m → m ("lo" : Str) = some (.int r t) → r ≤ len → (∀ j, j < r → up j = false) → (∀ j, r ≤ j → j < len → up j = true) → In outer [] s0 G0 G L m mu s → Q .next s) :
    wpK (model prog w) A (exec (.While (.Compare (.Name ("lo" : Str) p1) [.Lt] [.Name ("hi" : Str) p2] p3)
      [.Assign [.Name ("mid" : Str) p4] (.BinOp (.BinOp (.Name ("lo" : Str) p5) .Add (.Name ("hi" : Str) p6) p7) .FloorDiv (.Constant (.int 2) k1 p8) p9) p10,
       .If T (if rt then [.Assign [.Name ("hi" : Str) q1] (.Name ("mid" : Str) q2) q3] else [.Assign [.Name ("lo" : Str) r1] (.BinOp (.Name ("mid" : Str) r2) .Add (.Constant (.int 1) k2 r3) r4) r5])
             (if rt then [.Assign [.Name ("lo" : Str) r1] (.BinOp (.Name ("mid" : Str) r2) .Add (.Constant (.int 1) k2 r3) r4) r5] else [.Assign [.Name ("hi" : Str) q1] (.Name ("mid" : Str) q2) q3]) p11] [] p12) env) Q (fun _ _ => False) s := by
  have n1 : ("lo" : Str) ≠ ("mid" : Str) := by decide +kernel
  have n2 : ("hi" : Str) ≠ ("mid" : Str) := by decide +kernel
  have n3 : ("lo" : Str) ≠ ("hi" : Str) := by decide +kernel
  refine wpK_While (codeK_whileLoop (BisInv outer s0 G0 G1 L mu up KM len) ?_ _ ⟨G, m, lo, hi, t1, t2, rfl, hle, hKm, hlo, hhi, hlh, hhl, hA1, hA2, I⟩)
  clear hlo hhi hKm hle I hlh hhl hA1 hA2
  rintro n s ⟨G, m, lo, hi, t1, t2, rfl, hle, hKm, hlo, hhi, hlh, hhl, hA1, hA2, I⟩
  refine wpK_of (wpAny_isTrue_Compare1 (ldL e I klo hlo (ldL e I khi hhi (lt_int (wpAny_truthy_bool ?_)))))
  by_cases hlt : lo < hi
  · rw [if_pos (by simpa using hlt)]
    have hmid1 : ((lo : Int) + (hi : Int)).fdiv 2 = (((lo + hi) / 2 : Nat) : Int) := by
      rw [Int.fdiv_eq_ediv_of_nonneg _ (by omega)]; push_cast; rfl
    refine wpK_execs_cons (wpK_of (wpAny_Assign_Name (wpAny_BinOp (wpAny_BinOp (ldL e I klo hlo (ldL e I khi hhi (add_int ?_)))))))
    refine wpAny_Constant_int (floordiv_int (by decide) ?_ (.inl (PyProof.noPylong_small (by decide))))
    rw [hmid1]
    refine stL e (I.tok _) kmid fun h' t I' => ?_
    have hml : upd m ("mid" : Str) (.int (((lo + hi) / 2 : Nat) : Int) (s.toks + 1 + 1)) ("lo" : Str) = some (.int lo t1) := upd_to n1 hlo
    have hmh : upd m ("mid" : Str) (.int (((lo + hi) / 2 : Nat) : Int) (s.toks + 1 + 1)) ("hi" : Str) = some (.int hi t2) := upd_to n2 hhi
    have hmid : (lo + hi) / 2 < len := by omega
    refine wpK_execs_cons (wpK_If (wpK_mono (hT G _ _ _ _ hle (hKM _ _ _ (.inr (.inr rfl)) hKm) upd_same hmid I') (fun b s₁ hb => ?_) fun _ _ x => x.elim))
    obtain ⟨hb, G', hle', I₁⟩ := hb
    generalize hM : (lo + hi) / 2 = mid at *
    have hl1 : lo ≤ mid := by omega
    have hl2 : mid < hi := by omega
    have goHi : ∀ {Q' : Flow → Shared → Prop}, up mid = true → (∀ s₃, BisInv outer s0 G0 G1 L mu up KM len (mid - lo) s₃ → Q' .next s₃) → wpAny (model prog w) A (execs [.Assign [.Name ("hi" : Str) q1] (.Name ("mid" : Str) q2) q3] env) Q' (fun _ _ => False) s₁ := by
      intro Q' hu hq
      refine wpAny_execs_cons (wpAny_Assign_Name (ldL e I₁ kmid upd_same (stL e I₁ khi fun h' t I₂ => wpAny_execs_nil (hq _ ?_))))
      exact ⟨G', _, lo, mid, t1, _, rfl, hle.trans hle', hKM _ _ _ (.inr (.inl rfl)) (hKM _ _ _ (.inr (.inr rfl)) hKm), upd_to n3 hml, upd_same, hl1, by omega, hA1, fun j hj1 hj2 => hmono mid j hj1 hu, I₂⟩
    have goLo : ∀ {Q' : Flow → Shared → Prop}, up mid = false → (∀ s₃, BisInv outer s0 G0 G1 L mu up KM len (hi - (mid + 1)) s₃ → Q' .next s₃) → wpAny (model prog w) A (execs [.Assign [.Name ("lo" : Str) r1] (.BinOp (.Name ("mid" : Str) r2) .Add (.Constant (.int 1) k2 r3) r4) r5] env) Q' (fun _ _ => False) s₁ := by
      intro Q' hu hq
      refine wpAny_execs_cons (wpAny_Assign_Name (wpAny_BinOp (ldL e I₁ kmid upd_same (wpAny_Constant_int (add_int (stL e (I₁.tok _) klo fun h' t I₂ => wpAny_execs_nil (hq _ ?_)))))))
      refine ⟨G', _, mid + 1, hi, _, t2, rfl, hle.trans hle', hKM _ _ _ (.inl rfl) (hKM _ _ _ (.inr (.inr rfl)) hKm), upd_same, upd_to (Ne.symm n3) hmh, by omega, hhl, fun j hj => ?_, hA2, I₂⟩
      cases q : up j with
      | false => rfl
      | true => rw [hmono j mid (by omega) q] at hu; cases hu
    cases rt with
    | true =>
      cases b with
      | true => exact wpK_of (goHi hb.symm fun s₃ hi' => wpK_execs_nil ⟨_, by omega, hi'⟩)
      | false => exact wpK_of (goLo hb.symm fun s₃ hi' => wpK_execs_nil ⟨_, by omega, hi'⟩)
    | false =>
      cases b with
      | true => exact wpK_of (goLo hb.symm fun s₃ hi' => wpK_execs_nil ⟨_, by omega, hi'⟩)
      | false => exact wpK_of (goHi hb.symm fun s₃ hi' => wpK_execs_nil ⟨_, by omega, hi'⟩)
  · rw [if_neg (by simpa using hlt)]
    have : lo = hi := by omega
    subst this
    exact wpK_execs_nil (hQ G m lo t1 s hle hKm hlo hhl hA1 hA2 I)
end
section
variable {outer : List Env} {s : Shared} {G : Store} {prog : Program} {w : World} {A : Around} {E : Value → Shared → Prop}

theorem blkK {n : Nat} {r : Addr} {vs : List Value} {k : Nat} {ds : List Dat} {x : Value} {dx : Dat} {Q : Value → Shared → Prop} (p : Nat → Bool)
    (hA : AOk A outer (n + 4)) (O : Ok outer G s) (P : PG w G) (hr : s.heap.get? r = some (lstO vs k)) (hrf : r ∉ frs outer) (hv : RdL G vs ds) (hx : Rd G x dx)
    (hokx : kqdOk 8 dx = true) (hkey : ∀ j d, ds[j]? = some d → ∃ kd, KeyK prog w d kd ∧ kqdOk 8 kd = true ∧ ltD kd dx = some (p j)) (hmono : ∀ i j, i ≤ j → p j = true → p i = true) (hlen : ds.length < 2 ^ 20)
    (hQ : ∀ (i : Nat) t s' G', i ≤ ds.length → (∀ j, j < i → p j = true) → (∀ j, i ≤ j → j < ds.length → p j = false) → Step (frs outer) [] G s G' s' → Q (.int i t) s') :
    wpK (model prog w) A (call (.ref 79) [.ref r, x] [(("key" : Str), .ref 44)]) Q E s := by
  refine enterK [] P.fbl P hA O (by simp) (fun pm cd => binds_bl3 P O.sub) (by kernel_rfl) (by kernel_rfl) rfl rfl rfl fun env s₁ A' L e hA' I _ => ?_
  obtain ⟨m, hm⟩ : ∃ m : Str → Option Value, m = (fun x_1 => List.lookup x_1 [(("a" : Str), Value.ref r), (("x" : Str), x), (("lo" : Str), .int 0 413), (("hi" : Str), .none), (("key" : Str), Value.ref 44)].reverse) := ⟨_, rfl⟩
  have ma : m ("a" : Str) = some (.ref r) := by rw [hm]; kernel_rfl
  have mx : m ("x" : Str) = some x := by rw [hm]; kernel_rfl
  have mlo : m ("lo" : Str) = some (.int 0 413) := by rw [hm]; kernel_rfl
  have mhi : m ("hi" : Str) = some .none := by rw [hm]; kernel_rfl
  have mkey : m ("key" : Str) = some (.ref 44) := by rw [hm]; kernel_rfl
  rw [← hm] at I
  clear hm
  refine wpK_execs_cons (wpK_of (wpAny_If (wpAny_isTrue_Compare1 (ldL e I (by kernel_rfl) mlo (wpAny_Constant_int (lt_int (wpAny_truthy_bool ?_)))))))
  refine wpAny_execs_nil ?_
  replace I := I.tok (s₁.toks + 1)
  generalize ({ s₁ with toks := s₁.toks + 1 } : Shared) = s₁ at I ⊢
  refine wpK_execs_cons (wpK_of (wpAny_If (wpAny_isTrue_Compare1 (ldL e I (by kernel_rfl) mhi (wpAny_Constant_none (wpAny_is_plain rfl (wpAny_truthy_bool ?_)))))))
  have hr1 := I.elder hr (by simp) hrf
  refine wpAny_execs_cons (wpAny_Assign_Name (callB1 e I.sub P (by kernel_rfl) (id := "len") (by decide +kernel) (fun _ => rfl) (ldL e I (by kernel_rfl) ma (len_list (isL hr1) ?_ ?_))))
  · have := hv.length; simp; omega
  refine stL e (I.tok _) (by kernel_rfl) fun h' t I₂ => wpAny_execs_nil ?_
  have nx : ("x" : Str) ≠ ("hi" : Str) := by decide +kernel
  have na : ("a" : Str) ≠ ("hi" : Str) := by decide +kernel
  have nlo : ("lo" : Str) ≠ ("hi" : Str) := by decide +kernel
  have nkey : ("key" : Str) ≠ ("hi" : Str) := by decide +kernel
  refine wpK_execs_cons (wpK_If (wpK_of (wpAny_isTrue_Compare1 (ldL e I₂ (by kernel_rfl) (upd_to nkey mkey) (wpAny_Constant_none (wpAny_is_other rfl (by nofun) (wpAny_truthy_bool ?_)))))))
  refine wpK_execs_cons ?_
  refine bis_loopK false (len := ds.length) (G1 := G) (fun j => !p j) (fun m => m ("a" : Str) = some (.ref r) ∧ m ("x" : Str) = some x ∧ m ("key" : Str) = some (.ref 44)) e (by kernel_rfl) (by kernel_rfl) (by kernel_rfl) ?_ (fun i j hij h => by cases q : p j with | false => rfl | true => rw [hmono i j hij q] at h; cases h) ?_ (lo := 0) (hi := ds.length) (upd_to nlo mlo) (t2 := s₁.toks + 1) ?_ ⟨upd_to na ma, upd_to nx mx, upd_to nkey mkey⟩ (.refl _) I₂ (Nat.zero_le _) (Nat.le_refl _) (fun j hj => absurd hj (Nat.not_lt_zero _)) (fun j h1 h2 => absurd h2 (Nat.not_lt.mpr h1)) ?_
  · rintro m n v hn ⟨h1, h2, h3⟩
    have a1 : ("a" : Str) ≠ ("lo" : Str) ∧ ("a" : Str) ≠ ("hi" : Str) ∧ ("a" : Str) ≠ ("mid" : Str) ∧ ("x" : Str) ≠ ("lo" : Str) ∧ ("x" : Str) ≠ ("hi" : Str) ∧ ("x" : Str) ≠ ("mid" : Str) ∧ ("key" : Str) ≠ ("lo" : Str) ∧ ("key" : Str) ≠ ("hi" : Str) ∧ ("key" : Str) ≠ ("mid" : Str) := by decide +kernel
    obtain ⟨b1, b2, b3, b4, b5, b6, b7, b8, b9⟩ := a1
    rcases hn with rfl | rfl | rfl
    · exact ⟨upd_to b1 h1, upd_to b4 h2, upd_to b7 h3⟩
    · exact ⟨upd_to b2 h1, upd_to b5 h2, upd_to b8 h3⟩
    · exact ⟨upd_to b3 h1, upd_to b6 h2, upd_to b9 h3⟩
  · intro G' m mid t s₂ hle ⟨ha, hx', hk'⟩ hmid hml I
    obtain ⟨d, hd⟩ : ∃ d, ds[mid]? = some d := ⟨ds[mid], by simp [hml]⟩
    obtain ⟨v, hvm, rv⟩ := hv.get hd
    obtain ⟨kd, hkd, hko, hlt⟩ := hkey mid d hd
    refine wpK_isTrue_Compare1 (callL1K e I (by kernel_rfl) hk' (P.fcmp.mono hle) (fun _ => rfl) (wpK_of (Subscript_ (ldL e I (by kernel_rfl) ha (ldL e I (by kernel_rfl) hmid (itemL (I.elder hr (by simp) hrf) (by omega) hvm ⟨⟨G', .refl _, I.sub⟩, hkd _ _ (n + 1) G' _ _ _ _ (hA'.le (by omega)) (I.ok e.frame (by rw [e.scope]; exact e.kind)) (P.mono hle) (rv.mono hle) fun kr s₃ G'' hst rk => ?_⟩))))))
    have I' := I.calledE e.frame hst
    exact wpK_of (ldL e I' (by kernel_rfl) hx' (wpK_of (cmp_ofLt (ltAt_Rd I'.sub 8 rk ((hx.mono hle).mono hst.le) hko hokx (by have := hA'.units; show A'.units + 8 < 9900; omega) hlt prog w _ _ (wpK_of (wpAny_truthy_bool ⟨by cases p mid <;> rfl, G'', hst.le, I'⟩))))))
  · rw [upd_same]; have := hv.length; simp [this]
  · intro G' m i t s₂ hle hK hlo hil h1 h2 I
    refine wpK_execs_nil (wpK_of (wpAny_execs_cons (wpAny_Return_some (ldL e I (by kernel_rfl) hlo (hQ i t s₂ G' hil (fun j hj => by simpa using h1 j hj) (fun j hj hj2 => by simpa using h2 j hj hj2) I.toStep)))))
theorem brkK {n : Nat} {r : Addr} {vs : List Value} {k : Nat} {lt : Tok} {ds : List Dat} {x : Value} {dx : Dat} {Q : Value → Shared → Prop} (p : Nat → Bool)
    (hA : AOk A outer (n + 4)) (O : Ok outer G s) (P : PG w G) (hr : s.heap.get? r = some (lstO vs k)) (hrf : r ∉ frs outer) (hv : RdL G vs ds) (hx : Rd G x dx)
    (hokx : kqdOk 8 dx = true) (hkey : ∀ j d, ds[j]? = some d → ∃ kd, KeyK prog w d kd ∧ kqdOk 8 kd = true ∧ ltD dx kd = some (p j)) (hmono : ∀ i j, i ≤ j → p i = true → p j = true) (hlen : ds.length < 2 ^ 20)
    (hQ : ∀ (i : Nat) t s' G', i ≤ ds.length → (∀ j, j < i → p j = false) → (∀ j, i ≤ j → j < ds.length → p j = true) → Step (frs outer) [] G s G' s' → Q (.int i t) s') :
    wpK (model prog w) A (call (.ref 70) [.ref r, x, .int 0 lt, .none] [(("key" : Str), .ref 44)]) Q E s := by
  refine enterK [] P.fbr P hA O (by simp) (fun pm cd => binds_br4 P O.sub) (by kernel_rfl) (by kernel_rfl) rfl rfl rfl fun env s₁ A' L e hA' I _ => ?_
  obtain ⟨m, hm⟩ : ∃ m : Str → Option Value, m = (fun x_1 => List.lookup x_1 [(("a" : Str), Value.ref r), (("x" : Str), x), (("lo" : Str), .int 0 lt), (("hi" : Str), .none), (("key" : Str), Value.ref 44)].reverse) := ⟨_, rfl⟩
  have ma : m ("a" : Str) = some (.ref r) := by rw [hm]; kernel_rfl
  have mx : m ("x" : Str) = some x := by rw [hm]; kernel_rfl
  have mlo : m ("lo" : Str) = some (.int 0 lt) := by rw [hm]; kernel_rfl
  have mhi : m ("hi" : Str) = some .none := by rw [hm]; kernel_rfl
  have mkey : m ("key" : Str) = some (.ref 44) := by rw [hm]; kernel_rfl
  rw [← hm] at I
  clear hm
  refine wpK_execs_cons (wpK_of (wpAny_If (wpAny_isTrue_Compare1 (ldL e I (by kernel_rfl) mlo (wpAny_Constant_int (lt_int (wpAny_truthy_bool ?_)))))))
  refine wpAny_execs_nil ?_
  replace I := I.tok (s₁.toks + 1)
  generalize ({ s₁ with toks := s₁.toks + 1 } : Shared) = s₁ at I ⊢
  refine wpK_execs_cons (wpK_of (wpAny_If (wpAny_isTrue_Compare1 (ldL e I (by kernel_rfl) mhi (wpAny_Constant_none (wpAny_is_plain rfl (wpAny_truthy_bool ?_)))))))
  have hr1 := I.elder hr (by simp) hrf
  refine wpAny_execs_cons (wpAny_Assign_Name (callB1 e I.sub P (by kernel_rfl) (id := "len") (by decide +kernel) (fun _ => rfl) (ldL e I (by kernel_rfl) ma (len_list (isL hr1) ?_ ?_))))
  · have := hv.length; simp; omega
  refine stL e (I.tok _) (by kernel_rfl) fun h' t I₂ => wpAny_execs_nil ?_
  have nx : ("x" : Str) ≠ ("hi" : Str) := by decide +kernel
  have na : ("a" : Str) ≠ ("hi" : Str) := by decide +kernel
  have nlo : ("lo" : Str) ≠ ("hi" : Str) := by decide +kernel
  have nkey : ("key" : Str) ≠ ("hi" : Str) := by decide +kernel
  refine wpK_execs_cons (wpK_If (wpK_of (wpAny_isTrue_Compare1 (ldL e I₂ (by kernel_rfl) (upd_to nkey mkey) (wpAny_Constant_none (wpAny_is_other rfl (by nofun) (wpAny_truthy_bool ?_)))))))
  refine wpK_execs_cons ?_
  refine bis_loopK true (len := ds.length) (G1 := G) p (fun m => m ("a" : Str) = some (.ref r) ∧ m ("x" : Str) = some x ∧ m ("key" : Str) = some (.ref 44)) e (by kernel_rfl) (by kernel_rfl) (by kernel_rfl) ?_ hmono ?_ (lo := 0) (hi := ds.length) (upd_to nlo mlo) (t2 := s₁.toks + 1) ?_ ⟨upd_to na ma, upd_to nx mx, upd_to nkey mkey⟩ (.refl _) I₂ (Nat.zero_le _) (Nat.le_refl _) (fun j hj => absurd hj (Nat.not_lt_zero _)) (fun j h1 h2 => absurd h2 (Nat.not_lt.mpr h1)) ?_
  · rintro m n v hn ⟨h1, h2, h3⟩
    have a1 : ("a" : Str) ≠ ("lo" : Str) ∧ ("a" : Str) ≠ ("hi" : Str) ∧ ("a" : Str) ≠ ("mid" : Str) ∧ ("x" : Str) ≠ ("lo" : Str) ∧ ("x" : Str) ≠ ("hi" : Str) ∧ ("x" : Str) ≠ ("mid" : Str) ∧ ("key" : Str) ≠ ("lo" : Str) ∧ ("key" : Str) ≠ ("hi" : Str) ∧ ("key" : Str) ≠ ("mid" : Str) := by decide +kernel
    obtain ⟨b1, b2, b3, b4, b5, b6, b7, b8, b9⟩ := a1
    rcases hn with rfl | rfl | rfl
    · exact ⟨upd_to b1 h1, upd_to b4 h2, upd_to b7 h3⟩
    · exact ⟨upd_to b2 h1, upd_to b5 h2, upd_to b8 h3⟩
    · exact ⟨upd_to b3 h1, upd_to b6 h2, upd_to b9 h3⟩
  · intro G' m mid t s₂ hle ⟨ha, hx', hk'⟩ hmid hml I
    obtain ⟨d, hd⟩ : ∃ d, ds[mid]? = some d := ⟨ds[mid], by simp [hml]⟩
    obtain ⟨v, hvm, rv⟩ := hv.get hd
    obtain ⟨kd, hkd, hko, hlt⟩ := hkey mid d hd
    refine wpK_isTrue_Compare1 (wpK_of (ldL e I (by kernel_rfl) hx' (callL1K e I (by kernel_rfl) hk' (P.fcmp.mono hle) (fun _ => rfl) (wpK_of (Subscript_ (ldL e I (by kernel_rfl) ha (ldL e I (by kernel_rfl) hmid (itemL (I.elder hr (by simp) hrf) (by omega) hvm ⟨⟨G', .refl _, I.sub⟩, hkd _ _ (n + 1) G' _ _ _ _ (hA'.le (by omega)) (I.ok e.frame (by rw [e.scope]; exact e.kind)) (P.mono hle) (rv.mono hle) fun kr s₃ G'' hst rk => ?_⟩))))))))
    have I' := I.calledE e.frame hst
    exact wpK_of (cmp_ofLt (ltAt_Rd I'.sub 8 ((hx.mono hle).mono hst.le) rk hokx hko (by have := hA'.units; show A'.units + 8 < 9900; omega) hlt prog w _ _ (wpK_of (wpAny_truthy_bool ⟨by simp, G'', hst.le, I'⟩))))
  · rw [upd_same]; have := hv.length; simp [this]
  · intro G' m i t s₂ hle hK hlo hil h1 h2 I
    refine wpK_execs_nil (wpK_of (wpAny_execs_cons (wpAny_Return_some (ldL e I (by kernel_rfl) hlo (hQ i t s₂ G' hil h1 h2 I.toStep)))))
/-- insort_right(a, x, key=_comparable_version) -/
theorem insK {n : Nat} {r : Addr} {vs : List Value} {k : Nat} {ds : List Dat} {x : Value} {dx kx : Dat} {Q : Value → Shared → Prop} (p : Nat → Bool)
    (hA : AOk A outer (n + 6)) (O : Ok outer G s) (P : PG w G) (hr : s.heap.get? r = some (lstO vs k)) (hrf : r ∉ frs outer) (hrG : G r = none) (hv : RdL G vs ds) (hx : Rd G x dx) (hkx : KeyK prog w dx kx) (hokx : kqdOk 8 kx = true)
    (hkey : ∀ j d, ds[j]? = some d → ∃ kd, KeyK prog w d kd ∧ kqdOk 8 kd = true ∧ ltD kx kd = some (p j)) (hmono : ∀ i j, i ≤ j → p i = true → p j = true) (hlen : ds.length < 2 ^ 19)
    (hQ : ∀ (i : Nat) s' G', i ≤ ds.length → (∀ j, j < i → p j = false) → (∀ j, i ≤ j → j < ds.length → p j = true) → Step (frs outer) [r] G s G' s' → s'.heap.get? r = some (lstO (vs.take i ++ x :: vs.drop i) (k + 1)) → G' r = none → Q .none s') :
    wpK (model prog w) A (call (.ref 61) [.ref r, x] [(("key" : Str), .ref 44)]) Q E s := by
  refine enterK [r] P.fins P hA O (by simpa using hrf) (fun pm cd => binds_ins P O.sub) (by kernel_rfl) (by kernel_rfl) rfl rfl rfl fun env s₁ A' L e hA' I hk1 => ?_
  obtain ⟨m, hm⟩ : ∃ m : Str → Option Value, m = (fun x_1 => List.lookup x_1 [(("a" : Str), Value.ref r), (("x" : Str), x), (("lo" : Str), .int 0 386), (("hi" : Str), .none), (("key" : Str), Value.ref 44)].reverse) := ⟨_, rfl⟩
  have ma : m ("a" : Str) = some (.ref r) := by rw [hm]; kernel_rfl
  have mx : m ("x" : Str) = some x := by rw [hm]; kernel_rfl
  have mlo : m ("lo" : Str) = some (.int 0 386) := by rw [hm]; kernel_rfl
  have mhi : m ("hi" : Str) = some .none := by rw [hm]; kernel_rfl
  have mkey : m ("key" : Str) = some (.ref 44) := by rw [hm]; kernel_rfl
  rw [← hm] at I
  clear hm
  replace I := I.adopt (by simp) (hk1 _ _ hr) hrG (I.old_ne hr) hrf (by simp)
  refine wpK_execs_cons (wpK_If (wpK_of (wpAny_isTrue_Compare1 (ldL e I (by kernel_rfl) mkey (wpAny_Constant_none (wpAny_is_other rfl (by nofun) (wpAny_truthy_bool ?_)))))))
  refine wpK_execs_cons (wpK_Assign_Name ?_)
  refine callGlKwK e I.sub P (by kernel_rfl) (f := 70) (by decide +kernel) P.fbr rfl rfl ?_
  refine splicedK_cons (wpK_of (ldL e I (by kernel_rfl) ma (splicedK_cons ?_)))
  refine callL1K e I (by kernel_rfl) mkey P.fcmp (fun _ => rfl) (wpK_of (ldL e I (by kernel_rfl) mx ⟨⟨G, .refl _, I.sub⟩, hkx _ _ (n + 3) _ _ _ _ _ (hA'.le (by omega)) (I.ok e.frame (by rw [e.scope]; exact e.kind)) P hx fun kr s₃ G₃ hst rk => ?_⟩))
  replace I := I.calledE e.frame hst
  refine wpK_of (spliced_cons (ldL e I (by kernel_rfl) mlo (spliced_cons (ldL e I (by kernel_rfl) mhi (spliced_nil ?_)))))
  refine wpK_of (wpAny_evalAll_cons (wpAny_bind (ldL e I (by kernel_rfl) mkey (wpAny_bind (wpAny_standAt (wpAny_pure (wpAny_evalAll_nil ?_)))))))
  refine ⟨⟨G₃, hst.le, hst.sub⟩, ?_⟩
  have efr : frs (env :: outer) = L :: frs outer := by simp [frs, e.frame]
  refine brkK (n := n + 1) p (hA'.le (by omega)) (I.ok e.frame (by rw [e.scope]; exact e.kind)) (P.mono hst.le) I.head_at (by rw [efr]; simp only [List.mem_cons, not_or]; exact ⟨(I.mus _ (.head _)).2.2.1, hrf⟩) (hv.mono hst.le) rk hokx hkey hmono (by omega) fun i t s₄ G₄ hi h1 h2 hst4 => ?_
  replace I := I.calledE e.frame hst4
  refine wpK_of (stL e I (by kernel_rfl) fun h' t' I' => wpK_execs_nil ?_)
  have na : ("a" : Str) ≠ ("lo" : Str) := by decide +kernel
  have nx : ("x" : Str) ≠ ("lo" : Str) := by decide +kernel
  have hl := hv.length
  refine wpK_of (wpAny_execs_cons (wpAny_Expr_any ?_ e.quiet))
  refine wpAny_Call_method rfl rfl rfl F.plainAttrs_list F.slot_list_insert (by kernel_rfl) (ldL e I' (by kernel_rfl) (upd_to na ma) ⟨⟨_, I'.head_at, rfl⟩, fun a ha => ?_, ?_⟩)
  · cases ha; exact ⟨_, I'.head_at, rfl⟩
  refine callWith_builtin rfl (evalArgs_plain (spliced_cons (ldL e I' (by kernel_rfl) upd_same (spliced_cons (ldL e I' (by kernel_rfl) (upd_to nx mx) (spliced_nil ?_))))))
  refine I'.insert (by omega) (by omega) fun h'' I'' => wpAny_execs_nil ?_
  exact hQ i _ G₄ hi h1 h2 I''.toStep I''.head_at I''.head_none
end
end Mine

end
section
open PySem PySem.W PyProof.Rows PySem.Calls PySem.NumText
namespace Mine
section
variable {prog : Program} {w : World} {A : Around} {E : Value → Shared → Prop} {s : Shared}
theorem int_type_call2 (a b : Value) : checkTypeCall "int" ⟨[a, b], []⟩ = pure () := by kernel_rfl
theorem int_new_call2 (a b : Value) : checkBuiltinCall "int.__new__" ⟨[.type "int", a, b], []⟩ = pure () := by kernel_rfl

/-- with the claim's caller below no refusal is marked -/
theorem wpK_mark {M : Model} {own : List String} {e : Value} {Q : Unit → Shared → Prop} (h : Q () s) : wpK M A (markTheRefusal own e) Q E s := by
  unfold markTheRefusal
  refine wpK_bind (wpK_stack fun st hst => ?_)
  have hp : pythonCodeMadeTheCall own (st.map (·.1)) = false := by
    show ((!((st.map (·.1)).any Code.isCaller) && _) && _) = false
    rw [hst]; rfl
  rw [hp]
  exact wpK_pure h

def badTail (x : Str) (u : Tok) : Sem Value := do
  rule "int.__new__.invalid-literal"
  let shown ← pyRepr (.str x u)
  let refusal ← newExc (.type "ValueError") [← mkStr ((("invalid literal for int() with base 10: " : String) ++ ⟨shown.cps.extract 0 200⟩ : Str))]
  markTheRefusal ["int.__new__"] refusal
  raiseNew refusal
theorem int2_eq (x : Str) (u t : Tok) : Builtin.«int.__new__» ⟨[.type "int", .str x u, .int 10 t], []⟩ = ((int_private% "intFromText") (.str x u) (numTextOf x) 10 >>= fun v => ret v) := by kernel_rfl
theorem int1_eq (x : Str) (u : Tok) : Builtin.«int.__new__» ⟨[.type "int", .str x u], []⟩ = ((int_private% "intFromText") (.str x u) (numTextOf x) 10 >>= fun v => ret v) := by kernel_rfl

theorem badTail_K {x : Str} {u : Tok} {Q : Value → Shared → Prop} (hh : A.handled = none) (hx : (reprText x).length ≤ 1000)
    (h : ∀ h' tk e, Heap.NewExc s.heap h' e "ValueError" → E (.ref e) { s with heap := h', toks := tk }) : wpK (model prog w) A (badTail x u) Q E s := by
  unfold badTail
  refine wpK_bind (wpK_of (wpAny_rule (wpK_bind (wpK_of (wpAny_pyRepr_str (wpK_bind (wpK_of (wpAny_mkStr (wpK_bind ?_) ?_))) (by rw [sizeLine_eq]; omega))))))
  · refine wpK_of (wpAny_newExc_plain plainExc_ValueError fun h' e he => wpK_bind (wpK_mark (wpK_of (wpAny_raiseNew_none hh ?_))))
    exact h _ _ _ he.newExc
  · have h1 : (Array.extract (reprText x).cps 0 200).size ≤ 200 := by simp; omega
    show (_ ++ _ : Str).cps.size ≤ sizeLine
    have e : ∀ a b : Str, (a ++ b).cps.size = a.cps.size + b.cps.size := fun a b => Array.size_append
    rw [e, sizeLine_eq]
    show _ + (Array.extract (reprText x).cps 0 200).size ≤ _
    have h2 : (PySem.Str.ofString "invalid literal for int() with base 10: ").cps.size ≤ 100 := by decide +kernel
    have h2' := h2
    omega

theorem codeK_call_builtin {id : String} {args : Args} {R : Result → Shared → Prop} (hq : (Code.builtin id args).quiet = true)
    (h : wpAny (model prog w) A.in1 (checkBuiltinCall id args) (fun _ s₁ => codeK (model prog w) A (.builtin id args) R s₁) (fun e s' => R (.error e) s') s) : codeK (model prog w) A (.call (.builtin id) args) R s := by
  refine codeK_of_tree ?_
  show wpK _ A.in1 (do checkBuiltinCall id args; again (.builtin id args)) _ _ s
  exact wpK_bind (wpK_of (wpAny_mono h (fun _ s₁ h₁ => wpK_pure (And.intro hq h₁)) fun _ _ h' => h'))

abbrev asCall (Q : Value → Shared → Prop) (E : Value → Shared → Prop) : Result → Shared → Prop := fun r s' => match r with | .ok (.ret v) => Q v s' | .ok _ => False | .error e => E e s'

theorem wpK_callSpecial_slot {self : Value} {T : String} {name : Str} {id : String} {args : List Value} {kw : List (Str × Value)} {Q : Option Value → Shared → Prop} {M : Model} (hT : s.TypeIs self T) (h : Slot T name id)
    (hc : wpK M A (call (.builtin id) (self :: args) kw) (fun v => Q (some v)) E s) : wpK M A (callSpecial? self name args kw) Q E s := by
  simp only [callSpecial?]
  refine wpK_bind (wpK_of (wpAny_specialOf hT h.lookup ?_))
  simp only [h.bind]
  exact wpK_holding (wpK_bind (wpK_pure (wpK_bind (wpK_mono hc (fun v s' h' => wpK_pure h') fun _ _ h' => h'))))

theorem callTypeK {T newId initId : String} {args : List Value} {Q Q₁ : Value → Shared → Prop} (ft : TypeCalled T newId initId)
    (hct : checkTypeCall T ⟨args, []⟩ = pure ()) (hcn : checkBuiltinCall newId ⟨.type T :: args, []⟩ = pure ())
    (hN : codeK (model prog w) A.in1 (.builtin newId ⟨.type T :: args, []⟩) (asCall Q₁ E) s)
    (hnext : ∀ obj s₁, Q₁ obj s₁ → s₁.TypeIs obj T ∧ argsOk initId ⟨obj :: args, []⟩ ∧ codeK (model prog w) A.in1 (.builtin initId ⟨obj :: args, []⟩) (asCall (fun r s₂ => r = .none ∧ Q obj s₂) E) s₁) :
    wpK (model prog w) A (call (.type T) args) Q E s := by
  obtain ⟨c, tl, hmro⟩ := ft.mro
  have hmade := ft.made
  have hsub := ft.sub
  refine wpK_call (codeK_of_tree ?_)
  show wpK _ _ (callAny (.type T) _) _ _ _
  refine wpK_pure ⟨Code.quiet_builtin _ (by decide +kernel), codeK_builtin F.entry_type_call ?_⟩
  rw [Around.under_plain (weight_type_call_type T args []) (units_type_call_type T args [])]
  have h1 := ft.notType
  have h2 := ft.canCreate
  unfold Builtin.«type.__call__»
  dsimp only
  rw [if_neg (by rw [h1]; decide)]
  rw [if_neg (by rw [h2]; decide), hct]
  refine wpK_bind (wpK_pure ?_)
  rw [hmro]
  refine wpK_bind (wpK_pure ?_)
  rw [if_neg (by simp), hmade]
  refine wpK_bind (wpK_pure ?_)
  dsimp only
  refine wpK_bind (wpK_pure (wpK_bind (wpK_holding (wpK_call ?_))))
  refine codeK_call_builtin (plainId_quiet ft.plain _) (wpAny_of_eq hcn ?_)
  refine codeK_mono hN fun r s₁ hr => ?_
  cases r with
  | error e => exact hr
  | ok fl =>
    cases fl with
    | ret obj =>
      obtain ⟨hT, hok, hI⟩ := hnext _ _ hr
      refine wpK_bind (wpK_of (wpAny_isInstance hT hsub ?_))
      rw [if_neg (by decide)]
      refine wpK_bind (wpK_holding (wpK_callSpecial_slot hT ft.init (wpK_call ?_)))
      refine codeK_call_builtin (plainId_quiet ft.init.plain _) (ft.init.check _ _ _ _ _ _ _ _ hT hok ?_)
      refine codeK_mono hI fun r₂ s₂ hr₂ => ?_
      cases r₂ with
      | error e => exact hr₂
      | ok fl₂ =>
        cases fl₂ with
        | ret r =>
          obtain ⟨rfl, hq⟩ := hr₂
          dsimp only
          rw [if_neg (by decide)]
          exact wpK_pure hq
        | _ => exact hr₂.elim
    | _ => exact hr.elim

theorem object_initK {T newId : String} {self : Value} {rest : List Value} {R : Result → Shared → Prop} (hl : typeLookup (.type T) "__init__" = pure (some (.builtin "object.__init__")))
    (hm : Bind.madeBy (.type T) = pure (some newId)) (hne : (some newId != some "object.__new__") = true) (hT : s.TypeIs self T) (h : R (.ok (.ret .none)) s) : codeK (model prog w) A (.builtin "object.__init__" ⟨self :: rest, []⟩) R s := by
  refine codeK_of (codeAny_builtin F.entry_object_init ?_)
  exact object_init_meets hl hm hne prog w _ _ s ⟨hT, h⟩

theorem args_init_3 (a b c : Value) : argsOk "object.__init__" ⟨[a, b, c], []⟩ := by
  unfold argsOk; rw [signature?_of (id := "object.__init__") (n := ['_', '_', 't', 'i', 'n', 'i', '_', '_']) (o := ['t', 'c', 'e', 'j', 'b', 'o']) (by kernel_rfl) F.owner_object]; kernel_rfl
/-- int(text, 10) -/
theorem int_type_call1 (a : Value) : checkTypeCall "int" ⟨[a], []⟩ = pure () := by kernel_rfl
theorem int_codeK {x : Str} {u : Tok} {args : List Value} {R : Result → Shared → Prop} (hargs : args = [.str x u] ∨ ∃ t, args = [.str x u, .int 10 t])
    (h : wpK (model prog w) (A.under (.builtin "int.__new__" ⟨.type "int" :: args, []⟩)) ((int_private% "intFromText") (.str x u) (numTextOf x) 10) (fun v s' => R (.ok (.ret v)) s') (fun e s' => R (.error e) s') s) :
    codeK (model prog w) A (.builtin "int.__new__" ⟨.type "int" :: args, []⟩) R s := by
  refine codeK_builtin F.entry_int_new ?_
  have e : Builtin.«int.__new__» ⟨.type "int" :: args, []⟩ = ((int_private% "intFromText") (.str x u) (numTextOf x) 10 >>= fun v => ret v) := by
    rcases hargs with rfl | ⟨t, rfl⟩
    · exact int1_eq x u
    · exact int2_eq x u t
  rw [e]
  exact wpK_bind (wpK_mono h (fun v s' hv => wpK_pure hv) fun _ _ y => y)

/-- what `int` makes of a text -/
inductive NumOf (x : Str) : Option Int → Prop
  | num {n : Int} : x.length ≤ 640 → PySem.intText? x = some n → NumOf x (some n)
  | bad : (reprText x).length ≤ 1000 → (∀ u, (int_private% "intFromText") (.str x u) (numTextOf x) 10 = badTail x u) → NumOf x none
abbrev NumPost (s : Shared) (Q : Value → Shared → Prop) (E : Value → Shared → Prop) : Option Int → Prop
  | some n => Q (.int n s.toks) { s with toks := s.toks + 1 }
  | none => ∀ h' tk e, Heap.NewExc s.heap h' e "ValueError" → E (.ref e) { s with heap := h', toks := tk }
theorem fromText_K {x : Str} {u : Tok} {Q : Value → Shared → Prop} {r : Option Int} (hh : A.handled = none) (hx : NumOf x r) (h : NumPost s Q E r) :
    wpK (model prog w) A ((int_private% "intFromText") (.str x u) (numTextOf x) 10) Q E s := by
  cases hx with
  | num h1 h2 =>
    have hs : (numSeenOf x).length ≤ 640 := Nat.le_trans (seen_length x) h1
    rcases read0 x hs with ⟨m, q1, q2, q3⟩ | ⟨q1, _⟩
    · rw [h2] at q1
      cases q1
      exact wpK_of (KIN.wp_text hs q3 q2 h)
    · rw [h2] at q1; cases q1
  | bad h1 h2 =>
    rw [h2]
    exact badTail_K hh h1 h

theorem intK {x : Str} {u : Tok} {args : List Value} {Q : Value → Shared → Prop} {r : Option Int} (hargs : args = [.str x u] ∨ ∃ t, args = [.str x u, .int 10 t]) (hh : A.handled = none) (hx : NumOf x r) (h : NumPost s Q E r) :
    wpK (model prog w) A (call (.type "int") args) Q E s := by
  refine callTypeK (Q₁ := fun v s' => ∃ n, r = some n ∧ v = .int n s.toks ∧ s' = { s with toks := s.toks + 1 }) F.called_int ?_ ?_ (int_codeK hargs (fromText_K (r := r) (by exact hh) hx ?_)) ?_
  · rcases hargs with rfl | ⟨t, rfl⟩
    · exact int_type_call1 _
    · exact int_type_call2 _ _
  · rcases hargs with rfl | ⟨t, rfl⟩
    · exact F.newCall_int_1 _
    · exact int_new_call2 _ _
  · cases r with
    | some n => exact ⟨n, rfl, rfl, rfl⟩
    | none => exact h
  · rintro obj s₁ ⟨n, rfl, rfl, rfl⟩
    refine ⟨rfl, ?_, object_initK F.called_int.init.lookup F.called_int.made F.newNe_int rfl ⟨rfl, h⟩⟩
    rcases hargs with rfl | ⟨t, rfl⟩
    · exact F.args_object_init_2 _ _
    · exact args_init_3 _ _ _
end
end Mine

end
section
open PySem PySem.W PyProof.Rows PySem.Calls PySem.NumText
namespace Mine
section
variable {M : Model} {A : Around} {E : Value → Shared → Prop} {s : Shared} {env : Env}
theorem wpK_attempt {α : Type} {m : Sem α} {Q : Except Value α → Shared → Prop} (h : wpK M A m (fun a => Q (.ok a)) (fun e => Q (.error e)) s) : wpK M A m.attempt Q E s :=
  fun Γ p hΓ hC => by rw [Sem.wp_attempt]; exact h Γ p hΓ hC
theorem wpK_Try {body orelse : List Stmt} {h₀ : ExceptHandler} {hs : List ExceptHandler} {pos : Pos} {Q : Flow → Shared → Prop}
    (h : wpK M A (execs body env) (fun f s₁ => match f with | .next => wpK M A (execs orelse env) Q E s₁ | f => Q f s₁)
      (fun e s₁ => wpAny M A (noteFrame e env) (fun _ s₂ => wpAny M A (setFlight e none) (fun _ s₃ => wpAny M A (handleBy e env (h₀ :: hs)) Q E s₃) E s₂) E s₁) s) :
    wpK M A (exec (.Try body (h₀ :: hs) orelse [] pos) env) Q E s := by
  rw [arm_exec_Try]
  refine wpK_bind (wpK_standAt ?_)
  unfold tryStmt
  simp only [List.isEmpty_nil, if_true, List.isEmpty_cons, Bool.false_and, Bool.false_eq_true, if_false]
  refine wpK_bind (wpK_attempt (wpK_mono h (fun f s₁ h₁ => ?_) fun e s₁ h₁ => ?_))
  · cases f <;> first | exact h₁ | exact wpK_pure h₁
  · exact wpK_of (wpAny_bind (wpAny_mono h₁ (fun _ _ h₂ => wpAny_bind h₂) fun _ _ x => x))

theorem callWithK_type {pos : Pos} {T : String} {args : List (Bool × Sem Value)} {Q : Value → Shared → Prop} (hplain : args.any (·.1) = false)
    (h : wpK M A (evalArgs (.type T) true args []) (fun a s₁ => wpK M A (call (.type T) a.pos a.kw) Q E s₁) E s) : wpK M A (callWith pos (.type T) [] args []) Q E s := by
  unfold callWith
  refine wpK_bind (wpK_holding (wpK_mono h (fun a s₁ h₁ => wpK_bind (wpK_standAt ?_)) fun _ _ x => x))
  simp only [hplain, List.any_nil, Bool.or_false]
  refine wpK_bind (wpK_pure ?_)
  exact wpK_bind (wpK_mono h₁ (fun r s₂ hr => wpK_bind (wpK_holding (wpK_of (wpAny_point (wpK_pure hr))))) fun _ _ x => x)
end

section
variable {outer : List Env} {s0 s : Shared} {G0 G : Store} {L : Addr} {m : Str → Option Value} {mu : List (Addr × It)} {prog : Program} {w : World} {A : Around} {E : Value → Shared → Prop} {env : Env} {sc : Scope} {ex : List Addr}

/-- a loop over a frozen list, the caller below -/
theorem forListK {n : Nat} {target : Expr} {body : List Stmt} {r : Addr} {vs : List Value} {k : Nat} {Q : Flow → Shared → Prop} (AM : Nat → (Str → Option Value) → (Str → Option Value) → Prop)
    (K : Nat → Store → (Str → Option Value) → List (Addr × It) → Prop) (hA : AOk A (env :: outer) n) (hr : G r = some (lstO vs k))
    (hlet : ∀ (J : Addr) (i j : Nat) v s (Q' : Unit → Shared → Prop), vs[j]? = some v → s.heap.IsListIter J r i → Q' () s → wpAny (model prog w) A (letOwnedTupleGo target (.ref J) v) Q' (fun _ _ => False) s)
    (hasg : ∀ i v G' m mu s (Q' : Unit → Shared → Prop), vs[i]? = some v → LeS G G' → In outer [] s0 G0 G' L m mu s → (∀ m' s', AM i m m' → In outer [] s0 G0 G' L m' mu s' → Q' () s') → wpAny (model prog w) A (assign target env v) Q' (fun _ _ => False) s)
    (step : ∀ i v G' m m' mu I s, vs[i]? = some v → LeS G G' → K i G' m mu → AM i m m' → In outer [] s0 G0 G' L m' ((I, lIter r (i + 1)) :: mu) s →
      wpK (model prog w) A (execs body env) (fun f s' => f = .next ∧ ∃ G'' m'' mu'', LeS G' G'' ∧ K (i + 1) G'' m'' mu'' ∧ In outer [] s0 G0 G'' L m'' ((I, lIter r (i + 1)) :: mu'') s') (fun _ _ => False) s)
    (I : In outer [] s0 G0 G L m mu s) (h0 : K 0 G m mu)
    (hQ : ∀ G' m' mu' s', LeS G G' → K vs.length G' m' mu' → In outer [] s0 G0 G' L m' mu' s' → Q .next s') :
    wpK (model prog w) A (pyIter (.ref r)) (fun it s₂ => codeK (model prog w) A (.forLoop target it body [] env) (fun r s' => match r with | .ok f => Q f s' | .error _ => False) s₂) (fun _ _ => False) s := by
  refine wpK_of (wpAny_pyIter_list (isL (I.sub _ _ hr)) ?_)
  have I1 := I.alloc { cls := .type "list_iterator", data := .fields #[.ref r, .int 0 0] } s.toks
  have I2 : In outer [] s0 G0 G L m ((s.heap.objs.size, lIter r 0) :: mu) { s with heap := s.heap.push { cls := .type "list_iterator", data := .fields #[.ref r, .int 0 0] } } :=
    I1.setMu s.toks (i' := lIter r 0) ⟨_, I1.head_at, rfl, rfl⟩ (Heap.SameBut.refl _ _)
  generalize s.heap.objs.size = J at I2 ⊢
  refine codeK_forLoop (fun n s => ∃ G' m mu, LeS G G' ∧ n ≤ vs.length ∧ K (vs.length - n) G' m mu ∧ In outer [] s0 G0 G' L m ((J, lIter r (vs.length - n)) :: mu) s) ?_ vs.length ⟨G, m, mu, .refl _, Nat.le_refl _, by simpa using h0, by simpa using I2⟩
  clear I I1 I2 h0
  rintro n s ⟨G', m, mu, hle, hn, hK, I⟩
  have hit : s.heap.IsListIter J r (vs.length - n) := I.head_at
  have hl := isL (I.sub _ _ (hle _ _ hr))
  cases n with
  | zero =>
    refine wpK_of (wpAny_pyNext_list_end hA.handled hit hl (by simp) fun h' hx => wpK_execs_nil ?_)
    exact hQ G' m mu _ hle (by simpa using hK) (I.extBut s.toks hx)
  | succ n =>
    obtain ⟨v, hv⟩ : ∃ v, vs[vs.length - (n + 1)]? = some v := ⟨_, List.getElem?_eq_getElem (by omega)⟩
    refine wpK_of (wpAny_pyNext_list_item hit hl (by simpa using hv) fun h' hit' hs => ?_)
    have I' : In outer [] s0 G0 G' L m ((J, lIter r (vs.length - (n + 1) + 1)) :: mu) { s with heap := h' } := I.setMu s.toks hit' hs
    refine wpK_of (wpAny_mono (E := fun _ _ => False) (hlet J _ _ v _ _ hv hit' ?_) (fun _ _ x => x) fun _ _ x => x.elim)
    refine wpK_of (wpAny_mono (E := fun _ _ => False) (hasg _ v G' m _ _ _ hv hle I' fun m' s' hm I2 => ?_) (fun _ _ x => x) fun _ _ x => x.elim)
    refine wpK_mono (step _ v G' m m' mu J s' hv hle hK hm I2) (fun f s'' hq => ?_) fun _ _ x => x
    obtain ⟨rfl, G'', m'', mu'', hle', hK', I3⟩ := hq
    have e1 : vs.length - (n + 1) + 1 = vs.length - n := by omega
    rw [e1] at hK' I3
    exact ⟨n, Nat.lt_succ_self _, G'', m'', mu'', hle.trans hle', by omega, hK', I3⟩

/-- a type of the built-ins, called by its name with plain arguments -/
theorem callTypeGlK {x : Str} {np pos : Pos} {T : String} {args : List Expr} {a : Sem Value} {rest : List (Bool × Sem Value)} {Q : Value → Shared → Prop}
    (e : EnvOk env sc L) (S : SubS G s.heap) (P : PG w G) (hk : sc.names.lookup x = some .globalImplicit) (hx : (x, .type T) ∈ gtab) (hargs : backTo pos (starEach args env) = (false, a) :: rest) (hplain : rest.any (·.1) = false)
    (h : wpK (model prog w) A (spliced ((false, a) :: rest)) (fun vs s₁ => wpK (model prog w) A (call (.type T) vs) Q E s₁) E s) (hd : (x == ("__debug__" : Str)) = false := by decide +kernel) :
    wpK (model prog w) A (eval (.Call (.Name x np) args [] pos) env) Q E s := by
  refine wpK_Call_ofName (wpK_of (ldGl e S P hk hx ?_ hd))
  rw [hargs]
  exact callWithK_type (by simp [hplain]) (evalArgsK_plain h)
end

/-! ### _ver_stages -/
theorem isStr_self (x : Str) (u : Tok) : Value.isStrOf x (.str x u) = true := by simp [Value.isStrOf]
def stageKV : List (Str × Value) := stageL.zipIdx.map fun p => ((p.1.1 : Str), Value.int p.1.2 (332 + 2 * p.2))
def stageOf (x : Str) : Int := ((stageL.find? fun p => (p.1 : Str) = x).map (·.2)).getD 0
theorem pairs_of {prog : Program} {w : World} : ∀ l : List ((Str × Int) × Nat), Pairs (strKind prog w) (l.map fun p => { hash := PyData.keyHash w.params p.1.1, key := .str p.1.1 (331 + 2 * p.2), val := .int p.1.2 (332 + 2 * p.2) })
    (l.map fun p => ((p.1.1 : Str), Value.int p.1.2 (332 + 2 * p.2)))
  | [] => .nil
  | p :: l => .cons (isStr_self p.1.1 (331 + 2 * p.2)) rfl (pairs_of l)
theorem stages_map {prog : Program} {w : World} {h : Heap} (e : h.get? 37 = some { cls := .type "dict", data := .dict (stageE w.params).toArray 10 }) :
    h.DictOf (strKind prog w) 37 stageKV := by
  refine ⟨_, _, _, e, ⟨rfl, rfl, rfl⟩, rfl, fun en he => ?_, pairs_of stageL.zipIdx, by decide +kernel⟩
  have he' : en ∈ stageE w.params := by simpa using he
  obtain ⟨p, _, rfl⟩ := List.mem_map.mp he'
  exact ⟨p.1.1, isStr_self p.1.1 (331 + 2 * p.2), rfl⟩
theorem stage_val (x : Str) (u : Tok) : ∃ t, (valueAt stageKV x).getD (.int 0 u) = .int (stageOf x) t := by
  unfold valueAt stageOf stageKV
  have : ∀ l : List ((Str × Int) × Nat), ∃ t, (((l.map fun p => ((p.1.1 : Str), Value.int p.1.2 (332 + 2 * p.2))).find? fun kv => decide (kv.1 = x)).map (·.2)).getD (.int 0 u) = .int ((((l.map (·.1)).find? fun p => decide ((p.1 : Str) = x)).map (·.2)).getD 0) t := by
    intro l
    induction l with
    | nil => exact ⟨u, rfl⟩
    | cons p l ih =>
      simp only [List.map_cons, List.find?_cons]
      by_cases hp : (p.1.1 : Str) = x
      · simp only [hp, decide_true]; exact ⟨_, rfl⟩
      · simp only [hp, decide_false]; exact ih
  obtain ⟨t, ht⟩ := this stageL.zipIdx
  exact ⟨t, ht.trans (by rw [List.zipIdx_map_fst])⟩

def sepS : Str := "._+-"
def skips (x : Str) : Bool := !(Builtin.Str.occurrences sepS x 0 sepS.length 1).isEmpty
/-- what a piece of the split text adds to what is told -/
inductive PieceIs (x : List Nat) : List Dat → Prop
  | skip : skips ⟨x.toArray⟩ = true → PieceIs x []
  | num {n : Int} : skips ⟨x.toArray⟩ = false → NumOf ⟨x.toArray⟩ (some n) → PieceIs x [.int 100, .int n]
  | word : skips ⟨x.toArray⟩ = false → NumOf ⟨x.toArray⟩ none → PieceIs x [.int (stageOf ⟨x.toArray⟩), sD x]
inductive PiecesAre : List (List Nat) → List (List Dat) → Prop
  | nil : PiecesAre [] []
  | cons {x : List Nat} {d : List Dat} {xs : List (List Nat)} {ds : List (List Dat)} : PieceIs x d → PiecesAre xs ds → PiecesAre (x :: xs) (d :: ds)
theorem PiecesAre.length {xs ds} (h : PiecesAre xs ds) : xs.length = ds.length := by
  induction h with
  | nil => rfl
  | cons _ _ ih => simp [ih]
theorem PiecesAre.get {xs ds} (h : PiecesAre xs ds) {i : Nat} {x} (hx : xs[i]? = some x) : ∃ d, ds[i]? = some d ∧ PieceIs x d := by
  induction h generalizing i with
  | nil => simp at hx
  | cons h _ ih =>
    cases i with
    | zero => simp at hx; subst hx; exact ⟨_, rfl, h⟩
    | succ i => simp at hx; simpa using ih hx
end Mine

end
section
open PySem PySem.W PyProof.Rows PySem.Calls PySem.NumText
namespace Mine
section
variable {outer : List Env} {s : Shared} {G : Store} {prog : Program} {w : World} {A : Around} {E : Value → Shared → Prop}

theorem slot_split : Slot "re.Pattern" "split" "re.Pattern.split" :=
  .of (owner := "re.Pattern") (n := "split") (by rw [typeLookup_type, builtinLookup_eq_fast]; kernel_rfl) (by decide +kernel) (by decide +kernel) (by decide +kernel)
    (by first | exact .inl (by decide +kernel) | exact .inr (by decide +kernel)) (by rw [isSubtype_type]; kernel_rfl)
theorem type_split : typeOf (.builtin "re.Pattern.split") = pure (.type "method_descriptor") := by show builtinType _ = _; rw [builtinType_eq_fast]; kernel_rfl
theorem args_split (a b : Value) : argsOk "re.Pattern.split" ⟨[a, b], []⟩ := by unfold argsOk; kernel_rfl
theorem args_dict_get3 (a b c : Value) : argsOk "dict.get" ⟨[a, b, c], []⟩ := F.args_dict_get_3 a b c

theorem split_call {cs : List Nat} {X : List (List Nat)} {t : Tok} {Q : Value → Shared → Prop} (h36 : s.heap.get? 36 = some patO) (h35 : s.heap.get? 35 = some { cls := .type "tuple", data := .seq (codeL.map fun (c : Nat) => Value.int (c : Int) 0).toArray }) (hl : cs.length < 2 ^ 18) (hX : Pcs cs X)
    (hQ : ∀ vs tk, RdL Gno vs (X.map sD) → Q (.ref s.heap.objs.size) { s with heap := s.heap.push (lstO vs 0), toks := tk }) :
    wpAny (model prog w) A (call (.builtin "re.Pattern.split") [.ref 36, .str ⟨cs.toArray⟩ t]) Q E s := by
  refine wpAny_call (codeAny_call_builtin slot_split.plain entry_split (slot_split.check _ _ _ _ _ _ _ _ ⟨_, h36, rfl⟩ (args_split _ _) ?_))
  refine wpAny_mono (split_b (E := fun e s' => E e s') h36 h35 hl hX hQ) (fun fin s' h => ?_) fun _ _ h => h
  obtain ⟨v, rfl, hv⟩ := h
  exact hv

section
variable {ex : List Addr} {s0 : Shared} {G0 : Store} {L : Addr} {m : Str → Option Value} {mu : List (Addr × It)} {env : Env} {sc : Scope}
theorem stLs {x : Str} {v : Value} {Q : Unit → Shared → Prop} (e : EnvOk env sc L) (I : In outer ex s0 G0 G L m mu s) (hk : sc.names.lookup x = some .local)
    (h : ∀ s', In outer ex s0 G0 G L (upd m x v) mu s' → Q () s') : wpAny (model prog w) A (storeName env x v) Q E s := stL e I hk fun _ _ I' => h _ I'
theorem cInt {i : Int} {k : Nat} {pos : Pos} {Q : Value → Shared → Prop} (I : In outer ex s0 G0 G L m mu s) (h : ∀ t s', In outer ex s0 G0 G L m mu s' → Q (.int i t) s') : wpAny (model prog w) A (eval (.Constant (.int i) k pos) env) Q E s :=
  wpAny_Constant_int (h _ _ (I.tok _))
theorem cStr {x : Str} {k : Nat} {pos : Pos} {Q : Value → Shared → Prop} (I : In outer ex s0 G0 G L m mu s) (h : ∀ t s', In outer ex s0 G0 G L m mu s' → Q (.str x t) s') : wpAny (model prog w) A (eval (.Constant (.str x) k pos) env) Q E s :=
  wpAny_Constant_str (h _ _ (I.tok _))
theorem nilL {pos : Pos} {Q : Value → Shared → Prop} (I : In outer ex s0 G0 G L m mu s) (h : ∀ R s', In outer ex s0 G0 G L m ((R, .ob (lstO [] 0)) :: mu) s' → Q (.ref R) s') : wpAny (model prog w) A (eval (.List [] pos) env) Q E s :=
  wpAny_List (spliced_nil ⟨by decide, h _ _ (I.alloc (lstO [] 0) s.toks)⟩)
end

theorem Gno_le (G : Store) : LeS Gno G := fun _ _ e => by cases e

theorem ext_tail {s0 : Shared} {G0 : Store} {L : Addr} {m : Str → Option Value} {env : Env} {sc : Scope} {i : Nat} {p1 p2 p3 p4 p5 p6 p7 : Pos} {J F₀ R0 : Addr} {ws : List Value} {k : Nat} {v1 v2 : Value} {Q : Flow → Shared → Prop}
    (hline : (p2.endLine == p6.line) = true) (e : EnvOk env sc L) (I : In outer [] s0 G0 G L m [(J, lIter F₀ i), (R0, .ob (lstO ws k))] s) (k1 : sc.names.lookup ("result" : Str) = some .local) (k2 : sc.names.lookup ("t" : Str) = some .local) (k3 : sc.names.lookup ("v" : Str) = some .local)
    (e1 : m ("t" : Str) = some v1) (e2 : m ("v" : Str) = some v2) (e3 : m ("result" : Str) = some (.ref R0)) (hws : ws.length < 2 ^ 19)
    (hQ : ∀ k s', In outer [] s0 G0 G L m [(J, lIter F₀ i), (R0, .ob (lstO (ws ++ [v1, v2]) k))] s' → Q .next s') :
    wpK (model prog w) A (execs [.Expr (.Call (.Attribute (.Name ("result" : Str) p1) ("extend" : Str) p2) [.Tuple [.Name ("t" : Str) p3, .Name ("v" : Str) p4] 0 p5] [] p6) p7] env) Q (fun _ _ => False) s := by
  refine wpK_of (wpAny_execs_cons (wpAny_Expr_any ?_ e.quiet))
  have I' := I.swap
  refine wpAny_Call_method rfl rfl hline F.plainAttrs_list F.slot_list_extend (by kernel_rfl) (ldL e I k1 e3 ⟨⟨_, I'.head_at, rfl⟩, fun a ha => ?_, ?_⟩)
  · cases ha; exact ⟨_, I'.head_at, rfl⟩
  refine callWith_builtin rfl (evalArgs_plain (spliced_cons (wpAny_Tuple (k := 0) (spliced_cons (ldL e I k2 e1 (spliced_cons (ldL e I k3 e2 (spliced_nil ⟨by simp [sizeLine_eq], spliced_nil ?_⟩))))))))
  have I2 := (I'.alloc (tupO [v1, v2] 0) s.toks)
  have hb : ({ s with heap := s.heap.push (tupO [v1, v2] 0), toks := s.toks } : Shared).heap.get? s.heap.objs.size = some { cls := .type "tuple", data := .seq [v1, v2].toArray 0 } := I2.head_at
  refine I2.swap.extend (T := "tuple") (.inr rfl) hb (by simp; omega) fun h' k I4 => wpAny_execs_nil ?_
  exact hQ _ _ (I4.drop (.cons_cons _ (.cons _ (.refl _)))).swap

theorem cmpK {n : Nat} {v : Value} {cs : List Nat} {X : List (List Nat)} {dss : List (List Dat)} {Q : Value → Shared → Prop} (hA : AOk A outer (n + 2)) (O : Ok outer G s) (P : PG w G) (hv : Rd G v (sD cs)) (hl : cs.length < 2 ^ 16) (hX : Pcs cs X) (hP : PiecesAre X dss) (hXl : X.length < 2 ^ 17)
    (hQ : ∀ r s' G', Step (frs outer) [] G s G' s' → Rd G' r (.list dss.flatten) → Q r s') :
    wpK (model prog w) A (call (.ref 44) [v]) Q E s := by
  refine enterK [] P.fcmp P hA O (by simp) (fun pm cd => binds_cmp) (by kernel_rfl) (by kernel_rfl) rfl rfl rfl fun env s₁ A' L e hA' I _ => ?_
  obtain ⟨m, hm⟩ : ∃ m : Str → Option Value, m = (fun x_1 => List.lookup x_1 [(("version" : Str), v)].reverse) := ⟨_, rfl⟩
  have mv : m ("version" : Str) = some v := by rw [hm]; kernel_rfl
  rw [← hm] at I
  clear hm
  have hh := hA'.handled
  refine wpK_execs_cons (wpK_of (wpAny_Assign_Name (ldGl e I.sub P (by kernel_rfl) (v := .ref 36) (by decide +kernel) (stLs e I (by kernel_rfl) fun s₂ I => ?_))))
  refine wpK_execs_cons (wpK_of (wpAny_Assign_Name (nilL I fun R0 s₃ I => stLs e I (by kernel_rfl) fun s₄ I => ?_)))
  refine wpK_execs_cons (wpK_For (wpK_of ?_))
  have n1 : ("component_re" : Str) ≠ ("result" : Str) ∧ ("version" : Str) ≠ ("result" : Str) ∧ ("version" : Str) ≠ ("component_re" : Str) := by decide +kernel
  have n2 : ("result" : Str) ≠ ("v" : Str) ∧ ("result" : Str) ≠ ("t" : Str) ∧ ("v" : Str) ≠ ("t" : Str) := by decide +kernel
  refine wpAny_Call_method rfl rfl rfl plainAttrs_pat slot_split type_split (ldL e I (by kernel_rfl) (upd_to n1.1 upd_same) ⟨⟨_, I.sub _ _ P.pat, rfl⟩, fun a ha => ?_, ?_⟩)
  · cases ha; exact ⟨_, I.sub _ _ P.pat, rfl⟩
  refine callWith_builtin rfl (evalArgs_plain (spliced_cons (ldL e I (by kernel_rfl) (upd_to n1.2.1 (upd_to n1.2.2 mv)) (spliced_nil ?_))))
  cases hv with
  | str _ tv =>
  refine split_call (I.sub _ _ P.pat) (I.sub _ _ P.code) (by omega) hX fun vs tk hvs => ?_
  have I5 := (I.alloc (lstO vs 0) tk)
  generalize s₄.heap.objs.size = F₀ at I5 ⊢
  have I6 := I5.frz
  have hF : (G.put F₀ (lstO vs 0)) F₀ = some (lstO vs 0) := Store.put_self _ _ _
  have hG1 : LeS G (G.put F₀ (lstO vs 0)) := Store.le_put I5.head_none
  generalize G.put F₀ (lstO vs 0) = G1 at I6 hF hG1
  have P1 := P.mono hG1
  have hvs1 : RdL G1 vs (X.map sD) := hvs.mono (Gno_le _)
  generalize ({ s₄ with heap := s₄.heap.push (lstO vs 0), toks := tk } : Shared) = s₅ at I6 ⊢
  refine forListK (AM := fun i m m' => ∃ x, X[i]? = some x ∧ ∃ t, m' = upd m ("v" : Str) (.str ⟨x.toArray⟩ t))
    (K := fun i G' m mu => m ("result" : Str) = some (.ref R0) ∧ ∃ ws k, mu = [(R0, .ob (lstO ws k))] ∧ RdL G' ws (dss.take i).flatten) hA' hF ?_ ?_ ?_ I6 ⟨upd_same, [], 0, rfl, .nil⟩ ?_
  · intro J i j v s Q' hj hit hq
    exact wpAny_of_eq rfl hq
  · intro i v G' m mu s Q' hi hle I hq
    obtain ⟨d, hd, rd⟩ := hvs1.at hi
    rw [List.getElem?_map, Option.map_eq_some_iff] at hd
    obtain ⟨x, hx, rfl⟩ := hd
    cases rd
    exact asgName e (by kernel_rfl) I fun s' I' => hq _ _ ⟨x, hx, _, rfl⟩ I'
  · rintro i v G' m m' mu J s₆ hi hle ⟨hf, ws, k', rfl, rws⟩ ⟨x, hx, t, rfl⟩ I
    obtain ⟨d, hd, pd⟩ := hP.get hx
    have hfl : (dss.take (i + 1)).flatten = (dss.take i).flatten ++ d := by rw [List.take_add_one, hd]; simp
    have P2 := P1.mono hle
    have hr0 : upd m ("v" : Str) (.str ⟨x.toArray⟩ t) ("result" : Str) = some (.ref R0) := upd_to n2.1 hf
    have hws : ws.length < 2 ^ 19 := by
      rw [rws.length]
      have h1 : ∀ l : List (List Dat), (∀ d ∈ l, d.length ≤ 2) → l.flatten.length ≤ 2 * l.length := by
        intro l
        induction l with
        | nil => intro _; simp
        | cons d l ih => intro h; have := ih fun d hd => h d (.tail _ hd); have := h d (.head _); simp only [List.flatten_cons, List.length_append, List.length_cons]; omega
      have h2 := h1 (dss.take i) fun d hd => by
        have hd' := List.mem_of_mem_take hd
        obtain ⟨j, hj⟩ := List.getElem?_of_mem hd'
        obtain ⟨y, hy⟩ : ∃ y, X[j]? = some y := ⟨_, List.getElem?_eq_getElem (by rw [hP.length]; exact (List.getElem?_eq_some_iff.mp hj).1)⟩
        obtain ⟨d', hd2, pd'⟩ := hP.get hy
        rw [hj] at hd2; cases hd2
        cases pd' <;> simp
      have h3 := hP.length
      have h4 : (dss.take i).length ≤ dss.length := by simp; omega
      omega
    refine wpK_execs_cons (wpK_If (wpK_of (wpAny_isTrue_Compare1 (ldL e I (by kernel_rfl) upd_same (cStr I fun t' s' I => notIn_str (wpAny_truthy_bool ?_))))))
    have hsk : ∀ b, skips ⟨x.toArray⟩ = b → (!!(Builtin.Str.occurrences (Str.ofString "._+-") ⟨x.toArray⟩ 0 (Str.ofString "._+-").length 1).isEmpty) = !b := by
      intro b hb; unfold skips sepS at hb; rw [← hb]
    cases pd with
    | skip h1 =>
      rw [hsk _ h1]
      exact wpK_execs_nil (wpK_execs_nil ⟨rfl, G', _, _, .refl _, ⟨hr0, ws, k', rfl, by rw [hfl, List.append_nil]; exact rws⟩, I⟩)
    | num h1 h2 =>
      rename_i nn
      rw [hsk _ h1]
      refine wpK_execs_cons (wpK_mono (Q := fun f s2 => f = Flow.next ∧ ∃ m2 v1 v2, In outer [] s G G' L m2 [(J, lIter F₀ (i + 1)), (R0, .ob (lstO ws k'))] s2 ∧ m2 ("t" : Str) = some v1 ∧ m2 ("v" : Str) = some v2 ∧ m2 ("result" : Str) = some (.ref R0) ∧ Rd G' v1 (.int 100) ∧ Rd G' v2 (.int nn))
        (wpK_Try ?_) ?_ fun _ _ y => y)
      · refine wpK_execs_cons (wpK_Assign_Name (callTypeGlK e I.sub P2 (by kernel_rfl) (T := "int") (rest := [(false, eval (.Constant (.int 10) 0 ⟨11, 27, 11, 29⟩) env)]) (by decide +kernel) rfl rfl
          (splicedK_cons (wpK_of (ldL e I (by kernel_rfl) upd_same (splicedK_cons (wpK_of (cInt I fun t2 s2 I => splicedK_nil (intK (.inr ⟨t2, rfl⟩) hh h2 ?_)))))))))
        refine wpK_of (stLs e (I.tok _) (by kernel_rfl) fun s2 I => ?_)
        refine wpK_execs_cons (wpK_of (wpAny_Assign_Name (cInt I fun t2 s2 I => stLs e I (by kernel_rfl) fun s2 I => ?_)))
        refine wpK_execs_nil (wpK_execs_nil ⟨rfl, _, _, _, I, upd_same, upd_to n2.2.2 upd_same, upd_to n2.2.1 (upd_to n2.1 hr0), .int _ _, .int _ _⟩)
      · rintro f s2 ⟨rfl, m2, v1, v2, I, e1, e2, e3, r1, r2⟩
        exact ext_tail rfl e I (by kernel_rfl) (by kernel_rfl) (by kernel_rfl) e1 e2 e3 (by omega) fun k s3 I => wpK_execs_nil ⟨rfl, G', _, _, .refl _, ⟨e3, _, k, rfl, by rw [hfl]; exact rws.append (.cons r1 (.cons r2 .nil))⟩, I⟩
    | word h1 h2 =>
      rw [hsk _ h1]
      refine wpK_execs_cons (wpK_mono (Q := fun f s2 => f = Flow.next ∧ ∃ m2 v1 v2, In outer [] s G G' L m2 [(J, lIter F₀ (i + 1)), (R0, .ob (lstO ws k'))] s2 ∧ m2 ("t" : Str) = some v1 ∧ m2 ("v" : Str) = some v2 ∧ m2 ("result" : Str) = some (.ref R0) ∧ Rd G' v1 (.int (stageOf ⟨x.toArray⟩)) ∧ Rd G' v2 (sD x))
        (wpK_Try ?_) ?_ fun _ _ y => y)
      · refine wpK_execs_cons (wpK_Assign_Name (callTypeGlK e I.sub P2 (by kernel_rfl) (T := "int") (rest := [(false, eval (.Constant (.int 10) 0 ⟨11, 27, 11, 29⟩) env)]) (by decide +kernel) rfl rfl
          (splicedK_cons (wpK_of (ldL e I (by kernel_rfl) upd_same (splicedK_cons (wpK_of (cInt I fun t2 s2 I => splicedK_nil (intK (.inr ⟨t2, rfl⟩) hh h2 ?_)))))))))
        intro h' tk' ea hea
        refine I.caught hA' e.frame (by rw [e.scope]; exact e.kind) hea (by kernel_rfl) (by kernel_rfl) (by kernel_rfl) (fun A' E' s' Q' hS hq => ldGl e hS P2 (by kernel_rfl) (by decide +kernel) hq) fun h3 tk3 I => ?_
        refine wpAny_execs_cons (wpAny_Assign_Name ?_)
        have h37 := I.sub _ _ P2.stages
        refine wpAny_Call_method rfl rfl rfl F.plainAttrs_dict F.slot_dict_get F.type_dict_get (ldGl e I.sub P2 (by kernel_rfl) (v := .ref 37) (by decide +kernel) ⟨⟨_, h37, rfl⟩, fun a ha => ?_, ?_⟩)
        · cases ha; exact ⟨_, h37, rfl⟩
        refine wpAny_dict_get2 (knd := strKind prog w) (by decide) (ldL e I (by kernel_rfl) upd_same (cInt (k := 0) (pos := ⟨14, 39, 14, 40⟩) I fun t4 s4 I => ⟨⟨x.toArray⟩, _, isStr_self _ t, (stages_map (I.sub _ _ P2.stages)).mapOf, ?_⟩))
        obtain ⟨t5, e5⟩ := stage_val ⟨x.toArray⟩ t4
        rw [e5]
        refine stLs e (I.tok _) (by kernel_rfl) fun s5 I => wpAny_execs_nil ?_
        exact ⟨rfl, _, _, _, I, upd_same, upd_to n2.2.2 upd_same, upd_to n2.2.1 hr0, .int _ _, .str _ _⟩
      · rintro f s2 ⟨rfl, m2, v1, v2, I, e1, e2, e3, r1, r2⟩
        exact ext_tail rfl e I (by kernel_rfl) (by kernel_rfl) (by kernel_rfl) e1 e2 e3 (by omega) fun k s3 I => wpK_execs_nil ⟨rfl, G', _, _, .refl _, ⟨e3, _, k, rfl, by rw [hfl]; exact rws.append (.cons r1 (.cons r2 .nil))⟩, I⟩
  · rintro G' m' mu' s' hle ⟨hf, ws, k', rfl, rws⟩ I
    refine wpK_of (wpAny_execs_cons (wpAny_Return_some (ldL e I (by kernel_rfl) hf ?_)))
    obtain ⟨l1, l2⟩ := I.frzAs rws
    have hps : dss.take vs.length = dss := by rw [hvs.length, List.length_map, hP.length]; simp
    rw [hps] at l2
    refine hQ _ _ _ ?_ l2
    exact I.frz.toStep
end
end Mine

end
section
open PySem PySem.W PyProof.Rows PySem.Calls PySem.NumText
namespace Mine

/-! ## map -/
abbrev mapO (T : Addr) (f : Value) : Obj := { cls := .type "map", data := .fields #[.ref T, f] }
theorem slot_map_next : Slot "map" "__next__" "map.__next__" :=
  .of (owner := "map") (n := "__next__") (by rw [typeLookup_type, builtinLookup_eq_fast]; kernel_rfl) (by decide +kernel) (by decide +kernel) (by decide +kernel)
    (by first | exact .inl (by decide +kernel) | exact .inr (by decide +kernel)) (by rw [isSubtype_type]; kernel_rfl)
theorem slot_map_iter : Slot "map" "__iter__" "map.__iter__" :=
  .of (owner := "map") (n := "__iter__") (by rw [typeLookup_type, builtinLookup_eq_fast]; kernel_rfl) (by decide +kernel) (by decide +kernel) (by decide +kernel)
    (by first | exact .inl (by decide +kernel) | exact .inr (by decide +kernel)) (by rw [isSubtype_type]; kernel_rfl)
theorem entry_map_next : entryFor table "map.__next__" = some Builtin.«map.__next__» := entryFor_of_fast (by kernel_rfl)
theorem entry_map_new : entryFor table "map.__new__" = some Builtin.«map.__new__» := entryFor_of_fast (by kernel_rfl)
theorem entry_map_iter : entryFor table "map.__iter__" = some Builtin.«dict_keyiterator.__iter__» :=
  entryFor_alias (id' := "dict_keyiterator.__iter__") (by kernel_rfl) rfl (by decide +kernel) (by kernel_rfl)
theorem args_map_next (a : Value) : argsOk "map.__next__" ⟨[a], []⟩ := by unfold argsOk; kernel_rfl
theorem args_map_iter (a : Value) : argsOk "map.__iter__" ⟨[a], []⟩ := by unfold argsOk; kernel_rfl
theorem slot_map_init : Slot "map" "__init__" "object.__init__" :=
  .of (owner := "object") (n := "__init__") (by rw [typeLookup_type, builtinLookup_eq_fast]; kernel_rfl) (by decide +kernel) (by decide +kernel) (by decide +kernel)
    (by first | exact .inl (by decide +kernel) | exact .inr (by decide +kernel)) (by rw [isSubtype_type]; kernel_rfl)
theorem mro_map : mroOf (.type "map") = pure [.type "map", .type "object"] := by rw [mroOf_type]; kernel_rfl
theorem lookup_map_new : typeLookup (.type "map") "__new__" = pure (some (.builtin "map.__new__")) := by rw [typeLookup_type, builtinLookup_eq_fast]; kernel_rfl
theorem sub_map : isSubtype (.type "map") (.type "map") = pure true := by rw [isSubtype_type]; kernel_rfl
theorem called_map : TypeCalled "map" "map.__new__" "object.__init__" :=
  ⟨by decide +kernel, by decide +kernel, ⟨_, _, mro_map⟩, madeBy_type mro_map lookup_map_new (by decide +kernel), by decide +kernel, sub_map, slot_map_init⟩
theorem map_type_call (a b : Value) : checkTypeCall "map" ⟨[a, b], []⟩ = pure () := by kernel_rfl
theorem map_new_call (a b : Value) : checkBuiltinCall "map.__new__" ⟨[.type "map", a, b], []⟩ = pure () := by kernel_rfl
theorem map_no_len : typeLookup (.type "map") "__len__" = pure none := by rw [typeLookup_type, builtinLookup_eq_fast]; kernel_rfl
theorem map_no_hint : typeLookup (.type "map") "__length_hint__" = pure none := by rw [typeLookup_type, builtinLookup_eq_fast]; kernel_rfl
theorem newNe_map : (some "map.__new__" != some "object.__new__") = true := by decide +kernel
theorem vs_stop : isSubtype (.type "ValueError") (.type "StopIteration") = pure false := by rw [isSubtype_type]; kernel_rfl

section
variable {outer : List Env} {s0 s : Shared} {G0 G : Store} {L : Addr} {m : Str → Option Value} {mu : List (Addr × It)} {prog : Program} {w : World} {A : Around} {E : Value → Shared → Prop} {env : Env} {sc : Scope}

theorem mapCS {M T J : Addr} {f : Value} {Q : Option Value → Shared → Prop} (hM : s.heap.get? M = some (mapO T f)) (hT : s.heap.get? T = some (tupO [.ref J] 0))
    (h : wpK (model prog w) A.in1 (Builtin.SmallTypes.nextOf (.ref J)) (fun v s1 => s1.heap.get? M = some (mapO T f) ∧ wpK (model prog w) A.in1 (call f [v]) (fun r => Q (some r)) E s1) E s) :
    wpK (model prog w) A (callSpecial? (.ref M) "__next__") Q E s := by
  have ht : s.TypeIs (.ref M) "map" := ⟨_, hM, rfl⟩
  refine wpK_callSpecial_slot (id := "map.__next__") ht slot_map_next (wpK_call ?_)
  refine codeK_call_builtin (plainId_quiet slot_map_next.plain _) (slot_map_next.check _ _ _ _ _ _ _ _ ht (args_map_next _) ?_)
  refine codeK_builtin entry_map_next ?_
  rw [Around.under_plainId slot_map_next.plain _]
  unfold Builtin.«map.__next__»
  dsimp only
  refine wpK_bind (m := slotArgs _ _ _) (wpK_of (wpAny_of_eq (a := (.ref M, [])) rfl ?_))
  refine wpK_bind (wpK_of (wpAny_field hM rfl (x := .ref T) rfl ?_))
  refine wpK_bind (wpK_of (wpAny_seqItems hT rfl ?_))
  have hfor : ∀ (g : Value → Array Value → Sem (ForInStep (Array Value))), (forIn #[Value.ref J] (#[] : Array Value) g : Sem (Array Value)) = (g (.ref J) #[] >>= fun r => match r with | .done b => pure b | .yield b => pure b) := by
    intro g
    rw [← Array.forIn_toList]
    show forIn [Value.ref J] (#[] : Array Value) g = _
    rw [List.forIn_cons]
    congr 1
    funext r
    cases r with
    | done b => rfl
    | yield b => exact List.forIn_nil
  dsimp only
  rw [hfor]
  refine wpK_bind (wpK_bind (wpK_bind (wpK_holding (wpK_mono h (fun v s1 h1 => ?_) fun _ _ y => y))))
  obtain ⟨hM1, h1⟩ := h1
  refine wpK_pure (wpK_pure ?_)
  refine wpK_bind (wpK_of (wpAny_field hM1 rfl (x := f) rfl ?_))
  refine wpK_bind (wpK_holding (wpK_mono h1 (fun r s2 h2 => ?_) fun _ _ y => y))
  refine wpK_bind (wpK_of (wpAny_letGo ?_))
  exact wpK_pure h2

theorem nextOf_of {it : Value} {Q : Value → Shared → Prop} {M : Model} (h : wpK M A (callSpecial? it "__next__") (fun o s' => ∃ v, o = some v ∧ Q v s') E s) : wpK M A (Builtin.SmallTypes.nextOf it) Q E s := by
  unfold Builtin.SmallTypes.nextOf
  refine wpK_bind (wpK_mono h (fun o s' h' => ?_) fun _ _ y => y)
  obtain ⟨v, rfl, hq⟩ := h'
  exact wpK_pure hq

/-- the next item of the list's own iterator -/
theorem listCS_item {J l : Addr} {vs : List Value} {k i : Nat} {v : Value} {Q : Option Value → Shared → Prop} (I : In outer [] s0 G0 G L m ((J, lIter l i) :: mu) s) (hl : G l = some (lstO vs k)) (hx : vs[i]? = some v)
    (h : ∀ s', In outer [] s0 G0 G L m ((J, lIter l (i + 1)) :: mu) s' → Q (some v) s') : wpAny (model prog w) A (callSpecial? (.ref J) "__next__") Q E s := by
  have hit : s.heap.IsListIter J l i := I.head_at
  obtain ⟨o, ho, hc, hd⟩ := id hit
  have hol := I.sub _ _ hl
  refine wpAny_callSpecial?_slot (name := Str.ofString "__next__") hit.typeIs slot_listiter_next (wpAny_call_entry slot_listiter_next hit.typeIs entry_listiter_next ?_ (args_listiter_next _))
  show wpAny _ _ (field (.ref J) 0 >>= _) _ _ s
  refine wpAny_bind (wpAny_field ho hd (x := .ref l) rfl ?_)
  show wpAny _ _ (if (Value.ref l == Value.none) = true then _ else _) _ _ s
  rw [if_neg (show ¬ ((Value.ref l == Value.none) = true) from Bool.false_ne_true)]
  show wpAny _ _ (field (.ref J) 1 >>= _) _ _ s
  refine wpAny_bind (wpAny_field ho hd (x := .int i 0) rfl ?_)
  show wpAny _ _ (seqItems? (.ref l) >>= _) _ _ s
  refine wpAny_bind (wpAny_seqItems hol rfl ?_)
  have hx' : vs.toArray[i]? = some v := by simpa using hx
  simp only [Int.toNat_natCast, hx']
  refine wpAny_bind (wpAny_setField ho hd (by simp) (wpAny_pure ⟨v, rfl, h _ (I.setMu s.toks (i' := lIter l (i + 1)) ?_ (Heap.SameBut.update ..))⟩))
  exact ⟨_, Heap.get?_update_self _ ho (Obj.isFreed_of_fields (Obj.data_mapFields hd _)), (Obj.cls_mapFields ..).trans hc, by
    rw [Obj.data_mapFields hd]; simp [rawInt]⟩
theorem listCS_end {J l : Addr} {vs : List Value} {k i : Nat} {Q : Option Value → Shared → Prop} (hh : A.handled = none) (I : In outer [] s0 G0 G L m ((J, lIter l i) :: mu) s) (hl : G l = some (lstO vs k)) (hx : vs[i]? = none)
    (h : ∀ e s', s'.TypeIs (.ref e) "StopIteration" → In outer [] s0 G0 G L m mu s' → E (.ref e) s') : wpAny (model prog w) A (callSpecial? (.ref J) "__next__") Q E s := by
  have hit : s.heap.IsListIter J l i := I.head_at
  obtain ⟨o, ho, hc, hd⟩ := id hit
  have hol := I.sub _ _ hl
  refine wpAny_callSpecial?_slot (name := Str.ofString "__next__") hit.typeIs slot_listiter_next (wpAny_call_entry slot_listiter_next hit.typeIs entry_listiter_next ?_ (args_listiter_next _))
  show wpAny _ _ (field (.ref J) 0 >>= _) _ _ s
  refine wpAny_bind (wpAny_field ho hd (x := .ref l) rfl ?_)
  show wpAny _ _ (if (Value.ref l == Value.none) = true then _ else _) _ _ s
  rw [if_neg (show ¬ ((Value.ref l == Value.none) = true) from Bool.false_ne_true)]
  show wpAny _ _ (field (.ref J) 1 >>= _) _ _ s
  refine wpAny_bind (wpAny_field ho hd (x := .int i 0) rfl ?_)
  show wpAny _ _ (seqItems? (.ref l) >>= _) _ _ s
  refine wpAny_bind (wpAny_seqItems hol rfl ?_)
  have hx' : vs.toArray[i]? = none := by simpa using hx
  simp only [Int.toNat_natCast, hx']
  refine wpAny_bind (wpAny_rule (wpAny_bind (wpAny_setField ho hd (by simp) ?_)))
  show wpAny _ _ (newExc (.type "StopIteration") [] >>= _) _ _ _
  refine wpAny_bind ?_
  simp only [newExc, newTuple]
  refine wpAny_bind (wpAny_newObj_type ?_ (by size_fits))
  refine wpAny_bind (m := firstArgMember _ _) (wpAny_of_eq (a := Value.none) (by first | rfl | (simp only [firstArgMember]; rfl)) ?_)
  refine wpAny_newObj_type ?_ (by size_fits)
  simp only [raiseNew]
  refine wpAny_bind (wpAny_handled ?_)
  rw [show A.in1.handled = none from hh]
  refine wpAny_bind (wpAny_pure (wpAny_throw ?_))
  refine h _ _ ⟨_, Heap.get?_push_size _ rfl, rfl⟩ ?_
  exact I.extBut s.toks (((Heap.SameBut.update ..).extBut.push _).push _)

theorem pyNextK {it : Value} {Q : Option Value → Shared → Prop} (h : wpK (model prog w) A (callSpecial? it "__next__") (fun o s' => ∃ v, o = some v ∧ Q (some v) s') (fun e s' => (s'.TypeIs e "StopIteration" ∧ Q none s') ∨ (s'.TypeIs e "ValueError" ∧ E e s')) s) :
    wpK (model prog w) A (pyNext it) Q E s := by
  unfold pyNext
  refine wpK_bind (wpK_attempt (wpK_mono h (fun o s' h' => ?_) fun e s' h' => ?_))
  · obtain ⟨v, rfl, hq⟩ := h'
    exact wpK_pure hq
  · rcases h' with ⟨ht, hq⟩ | ⟨ht, hq⟩
    · exact wpK_bind (wpK_of (wpAny_isInstance (T := "StopIteration") (b := true) ht isSubtype_stop (by rw [if_pos rfl]; exact wpK_pure hq)))
    · exact wpK_bind (wpK_of (wpAny_isInstance ht vs_stop (by rw [if_neg (by decide)]; exact wpK_of (wpAny_throw hq))))
end
end Mine

end
section
open PySem PySem.W PyProof.Rows PySem.Calls PySem.NumText
namespace Mine

section
variable {outer : List Env} {s0 s : Shared} {G0 G : Store} {L : Addr} {m : Str → Option Value} {mu : List (Addr × It)} {prog : Program} {w : World} {A : Around} {E : Value → Shared → Prop} {env : Env} {sc : Scope}

theorem In.freezeO {a : Addr} {o : Obj} (x : In outer [] s0 G0 G L m ((a, .ob o) :: mu) s) : In outer [] s0 G0 (G.put a o) L m mu s := x.freeze (by simp)

theorem pyIter_map {M T : Addr} {f : Value} {Q : Value → Shared → Prop} (hM : s.heap.get? M = some (mapO T f)) (h : Q (.ref M) s) : wpAny (model prog w) A (pyIter (.ref M)) Q E s := by
  have ht : s.TypeIs (.ref M) "map" := ⟨_, hM, rfl⟩
  refine wpAny_pyIter_slot ht slot_map_iter (wpAny_call_entry slot_map_iter ht entry_map_iter ?_ (args_map_iter _))
  show wpAny _ _ (ret (.ref M)) _ _ s
  exact wpAny_pure ⟨_, rfl, "map", _, ht, slot_map_next.lookup, h⟩

/-- map(f, x): x's own iterator J -/
theorem mapNewK {f x : Value} {Q : Value → Shared → Prop} 
    (h : wpAny (model prog w) A.in1.in1 (pyIter x) (fun it s₁ => ∃ J, it = .ref J ∧ (∀ s₂ T M, s₂ = { s₁ with heap := (s₁.heap.push (tupO [.ref J] 0)).push (mapO T f) } → T = s₁.heap.objs.size → M = (s₁.heap.push (tupO [.ref J] 0)).objs.size → Q (.ref M) s₂)) E s) :
    wpK (model prog w) A (call (.type "map") [f, x]) Q E s := by
  refine callTypeK (Q₁ := fun obj s₁ => s₁.TypeIs obj "map" ∧ Q obj s₁) called_map (map_type_call _ _) (map_new_call _ _) (codeK_of (codeAny_builtin entry_map_new ?_)) fun obj s₁ hq => ⟨hq.1, args_init_3 _ _ _, object_initK slot_map_init.lookup called_map.made newNe_map hq.1 ⟨rfl, hq.2⟩⟩
  rw [Around.under_plainId called_map.plain _]
  unfold Builtin.«map.__new__»
  dsimp only
  refine wpAny_bind (m := Builtin.SmallTypes.newClass _ _) (wpAny_of_eq (a := (.type "map", [f, x])) ?_ ?_)
  · have e1 : isType (.type "map") = pure true := rfl
    unfold Builtin.SmallTypes.newClass
    dsimp only
    rw [e1, sub_map]
    rfl
  refine wpAny_bind (m := Builtin.SmallTypes.refuseKeywords _ _ _) (wpAny_pure ?_)
  rw [if_neg (by simp)]
  have hit : ∀ {Q' : List Value → Shared → Prop}, wpAny (model prog w) A.in1.in1 (pyIter x) (fun it s' => Q' [it] s') E s → wpAny (model prog w) A.in1.in1 (Builtin.SmallTypes.iterAll [x]) Q' E s := by
    intro Q' hq
    unfold Builtin.SmallTypes.iterAll
    dsimp only
    rw [List.forIn_cons]
    refine wpAny_bind (wpAny_bind (wpAny_bind (wpAny_holding (wpAny_mono hq (fun it s' h' => wpAny_pure ?_) fun _ _ y => y))))
    show wpAny _ _ (forIn [] _ _) _ _ _
    rw [List.forIn_nil]
    exact wpAny_pure (wpAny_pure h')
  refine wpAny_bind (hit (wpAny_mono h (fun it s₁ h₁ => ?_) fun _ _ y => y))
  obtain ⟨J, rfl, h₁⟩ := h₁
  unfold newTuple
  refine wpAny_bind (wpAny_newObj_type ?_ (by size_fits))
  refine wpAny_bind (m := Builtin.SmallTypes.newRecord _ _) ?_
  show wpAny _ _ (newObj (.type "map") (.fields #[.ref s₁.heap.objs.size, f])) _ _ _
  refine wpAny_newObj_type ?_ (by size_fits)
  refine wpAny_pure ⟨⟨_, Heap.get?_push_size _ rfl, rfl⟩, ?_⟩
  exact h₁ _ _ _ rfl rfl rfl

theorem mapNew_list {f : Value} {l : Addr} {vs : List Value} {k : Nat} {Q : Value → Shared → Prop} (I : In outer [] s0 G0 G L m mu s) (hl : G l = some (lstO vs k))
    (h : ∀ J T M G' s', LeS G G' → G' T = some (tupO [.ref J] 0) → G' M = some (mapO T f) → In outer [] s0 G0 G' L m ((J, lIter l 0) :: mu) s' → Q (.ref M) s') : wpK (model prog w) A (call (.type "map") [f, .ref l]) Q E s := by
  refine mapNewK (wpAny_pyIter_list (isL (I.sub _ _ hl)) ⟨_, rfl, ?_⟩)
  rintro s₂ T M rfl hT hM
  have I1 := I.alloc { cls := .type "list_iterator", data := .fields #[.ref l, .int 0 0] } s.toks
  have I2 : In outer [] s0 G0 G L m ((s.heap.objs.size, lIter l 0) :: mu) { s with heap := s.heap.push { cls := .type "list_iterator", data := .fields #[.ref l, .int 0 0] } } :=
    I1.setMu s.toks (i' := lIter l 0) ⟨_, I1.head_at, rfl, rfl⟩ (Heap.SameBut.refl _ _)
  have I3 := I2.alloc (tupO [.ref s.heap.objs.size] 0) s.toks
  have I4 := I3.freezeO
  have I5 := I4.alloc (mapO T f) s.toks
  have I6 := I5.freezeO
  have l1 := Store.le_put (o := tupO [.ref s.heap.objs.size] 0) I3.head_none
  have l2 := Store.le_put (o := mapO T f) I5.head_none
  refine h s.heap.objs.size T M _ _ (l1.trans l2) (l2 _ _ ?_) ?_ ?_
  · rw [hT]; exact Store.put_self _ _ _
  · rw [hM]; exact Store.put_self _ _ _
  · exact I6
theorem mapNew_map {f f1 : Value} {M1 T1 : Addr} {Q : Value → Shared → Prop} (I : In outer [] s0 G0 G L m mu s) (hM1 : G M1 = some (mapO T1 f1))
    (h : ∀ T M G' s', LeS G G' → G' T = some (tupO [.ref M1] 0) → G' M = some (mapO T f) → In outer [] s0 G0 G' L m mu s' → Q (.ref M) s') : wpK (model prog w) A (call (.type "map") [f, .ref M1]) Q E s := by
  refine mapNewK (pyIter_map (I.sub _ _ hM1) ⟨_, rfl, ?_⟩)
  rintro s₂ T M rfl hT hM
  have I3 := I.alloc (tupO [.ref M1] 0) s.toks
  have I4 := I3.freezeO
  have I5 := I4.alloc (mapO T f) s.toks
  have I6 := I5.freezeO
  have l1 := Store.le_put (o := tupO [.ref M1] 0) I3.head_none
  have l2 := Store.le_put (o := mapO T f) I5.head_none
  refine h T M _ _ (l1.trans l2) (l2 _ _ ?_) ?_ I6
  · rw [hT]; exact Store.put_self _ _ _
  · rw [hM]; exact Store.put_self _ _ _

/-- the loop that fills a list from map(str, map(int, l)) -/
structure MapsAt (G : Store) (l J M2 : Addr) (vs : List Value) (xs : List Str) (fn : Str → Option Int) : Prop where
  list : ∃ k, G l = some (lstO vs k)
  inner : ∃ T1 M1 T2, G T1 = some (tupO [.ref J] 0) ∧ G M1 = some (mapO T1 (.type "int")) ∧ G T2 = some (tupO [.ref M1] 0) ∧ G M2 = some (mapO T2 (.type "str"))
  texts : RdL G vs (xs.map Dat.str)
  nums : ∀ x ∈ xs, NumOf x (fn x)
  small : ∀ x ∈ xs, ∀ n, fn x = some n → n.natAbs.log2 < 1920
def numStr (fn : Str → Option Int) (x : Str) : Str := (toString ((fn x).getD 0) : String)

theorem extLoopK (hh : A.handled = none) {l J M2 S : Addr} {vs : List Value} {xs : List Str} {fn : Str → Option Int} (C : MapsAt G l J M2 vs xs fn) (hlen : xs.length < 2 ^ 20) {R : Result → Shared → Prop}
    (hok : (∀ x ∈ xs, fn x ≠ none) → ∀ s' acc c, In outer [] s0 G0 G L m ((S, .ob (lstO acc c)) :: mu) s' → RdL G acc (xs.map fun x => Dat.str (numStr fn x)) → R (.ok (.ret .none)) s')
    (hbad : (∃ x ∈ xs, fn x = none) → ∀ e s2 h' tk, In outer [] s0 G0 G L m mu s2 → Heap.NewExc s2.heap h' e "ValueError" → R (.error (.ref e)) { s2 with heap := h', toks := tk }) :
    ∀ (j i : Nat) (s : Shared) (acc : List Value) (c : Nat), xs.length - i = j → i ≤ xs.length → In outer [] s0 G0 G L m ((J, lIter l i) :: (S, .ob (lstO acc c)) :: mu) s → RdL G acc ((xs.take i).map fun x => Dat.str (numStr fn x)) → (∀ x ∈ xs.take i, fn x ≠ none) →
      codeK (model prog w) A (.builtin "list.extend.loop" ⟨[.ref S, .ref M2, .none], []⟩) R s := by
  obtain ⟨k, hl⟩ := C.list
  obtain ⟨T1, M1, T2, g1, g2, g3, g4⟩ := C.inner
  have hlv : vs.length = xs.length := by rw [C.texts.length, List.length_map]
  intro j
  induction j with
  | zero =>
    intro i s acc c hj hi I racc hall
    have hin : i = xs.length := by omega
    subst hin
    refine codeK_builtin F.entry_extend_loop ?_
    rw [Around.under_plainId F.plain_extend_loop _]
    show wpK _ A.in1 (pyNext (.ref M2) >>= _) _ _ s
    refine wpK_bind (pyNextK (mapCS (I.sub _ _ g4) (I.sub _ _ g3) (nextOf_of (mapCS (I.sub _ _ g2) (I.sub _ _ g1) (nextOf_of (wpK_of (listCS_end (by exact hh) I hl (by simp; omega) fun e s' ht I' => ?_)))))))
    refine .inl ⟨ht, wpK_pure ?_⟩
    refine hok ?_ s' acc c I' (by simpa using racc)
    simpa using hall
  | succ j ih =>
    intro i s acc c hj hi I racc hall
    have hlt : i < xs.length := by omega
    obtain ⟨x, hx⟩ : ∃ x, xs[i]? = some x := ⟨_, List.getElem?_eq_getElem hlt⟩
    have hxm := List.mem_of_getElem? hx
    obtain ⟨v, hv, rv⟩ := C.texts.get (k := i) (d := .str x) (by rw [List.getElem?_map, hx]; rfl)
    refine codeK_builtin F.entry_extend_loop ?_
    rw [Around.under_plainId F.plain_extend_loop _]
    show wpK _ A.in1 (pyNext (.ref M2) >>= _) _ _ s
    refine wpK_bind (pyNextK (mapCS (I.sub _ _ g4) (I.sub _ _ g3) (nextOf_of (mapCS (I.sub _ _ g2) (I.sub _ _ g1) (nextOf_of (wpK_of (listCS_item I hl hv fun s₁ I => ⟨v, rfl, I.sub _ _ g2, ?_⟩)))))))
    cases rv with
    | str _ tv =>
    refine intK (.inl rfl) (by exact hh) (C.nums x hxm) ?_
    cases hfx : fn x with
    | none =>
      intro h' tk e he
      obtain ⟨ob, tt, q1, q2, _⟩ := he.there
      refine .inr ⟨⟨ob, q1, q2⟩, hbad ⟨x, hxm, hfx⟩ e _ _ _ (I.drop (.cons _ (.cons _ (.refl _)))) he⟩
    | some nn =>
      refine ⟨_, rfl, (I.tok _).sub _ _ g4, wpK_of (P.str_of_int (C.small x hxm nn hfx) ⟨_, rfl, ?_⟩)⟩
      have I := (I.tok (s₁.toks + 1 + 1)).swap
      have hS := I.head_at
      show wpK _ A.in1 (updateSeq S (·.push _) >>= _) _ _ _
      have hal : acc.length = i := by rw [racc.length]; simp; omega
      refine wpK_bind (wpK_of (wpAny_updateSeq hS rfl ?_ (by rw [sizeLine_eq]; simp; omega) (by rw [sizeLine_eq]; simp; omega)))
      refine wpK_pure ⟨plainId_quiet F.plain_extend_loop _, ?_⟩
      have hns : numStr fn x = (toString nn : String) := by unfold numStr; rw [hfx]; rfl
      have I2 := I.updMu (s₁.toks + 1 + 1) (o' := lstO (acc ++ [.str (numStr fn x) (s₁.toks + 1)]) (c + 1)) (f := Obj.mapSeq (·.push (.str (toString nn : String) (s₁.toks + 1)))) (by rw [hns]; simp [Obj.mapSeq]) rfl
      refine ih (i + 1) _ _ _ (by omega) hlt I2.swap ?_ ?_
      · rw [List.take_add_one, hx]
        simp only [Option.toList_some, List.map_append, List.map_cons, List.map_nil]
        exact racc.append (.cons (.str _ _) .nil)
      · rw [List.take_add_one, hx]
        intro y hy
        rcases List.mem_append.mp hy with hy | hy
        · exact hall y hy
        · rw [Option.toList_some, List.mem_singleton] at hy
          subst hy
          rw [hfx]; exact Option.some_ne_none _

theorem listMapK (hh : A.handled = none) {l J M2 : Addr} {vs : List Value} {xs : List Str} {fn : Str → Option Int} (C : MapsAt G l J M2 vs xs fn) (hlen : xs.length < 2 ^ 20) {Q : Value → Shared → Prop} (I : In outer [] s0 G0 G L m ((J, lIter l 0) :: mu) s)
    (hok : (∀ x ∈ xs, fn x ≠ none) → ∀ S s' acc c, In outer [] s0 G0 G L m ((S, .ob (lstO acc c)) :: mu) s' → RdL G acc (xs.map fun x => Dat.str (numStr fn x)) → Q (.ref S) s')
    (hbad : (∃ x ∈ xs, fn x = none) → ∀ e s2 h' tk, In outer [] s0 G0 G L m mu s2 → Heap.NewExc s2.heap h' e "ValueError" → E (.ref e) { s2 with heap := h', toks := tk }) :
    wpK (model prog w) A (call (.type "list") [.ref M2]) Q E s := by
  obtain ⟨T1, M1, T2, g1, g2, g3, g4⟩ := C.inner
  have I1 := I.alloc (lstO [] 0) s.toks
  refine callTypeK (Q₁ := fun obj s₁ => obj = .ref s.heap.objs.size ∧ s₁ = { s with heap := s.heap.push (lstO [] 0) }) F.called_list (F.typeCall_list_1 _) (F.newCall_list_1 _)
    (codeK_of (codeAny_builtin_stack F.entry_list_new rfl fun p st => ?_)) fun obj s₁ h₁ => ?_
  · rw [Around.under_plainId F.plain_list_new _]
    have hsub := sub_list_self
    have hown := owner_list_new
    obtain ⟨hp, g, d, tk, os⟩ := s
    simp only [hown]
    wp_walk
    exact ⟨rfl, rfl⟩
  · obtain ⟨rfl, rfl⟩ := h₁
    generalize s.heap.objs.size = S at I1 ⊢
    generalize ({ s with heap := s.heap.push (lstO [] 0) } : Shared) = s₁ at I1 ⊢
    have hS := I1.head_at
    refine ⟨⟨_, hS, rfl⟩, F.args_list_init_2 _ _, codeK_builtin F.entry_list_init ?_⟩
    rw [Around.under_plainId F.called_list.init.plain _]
    show wpK _ A.in1.in1 (do let old ← Builtin.List.listItems (.ref S); Builtin.List.listUpdate (.ref S) (fun _ => #[]); letGo old.toList.reverse; Builtin.List.listExtendWith (.ref S) (.ref M2) .none) _ _ _
    refine wpK_bind ?_
    unfold Builtin.List.listItems
    refine wpK_bind (wpK_of (wpAny_seqItems hS rfl (wpK_pure ?_)))
    show wpK _ A.in1.in1 (updateSeq S (fun _ => #[]) >>= fun _ => letGo (#[] : Array Value).toList.reverse >>= fun _ => Builtin.List.listExtendWith (.ref S) (.ref M2) .none) _ _ _
    refine wpK_bind (wpK_of (wpAny_updateSeq hS rfl ?_))
    have I2 := I1.updMu s₁.toks (o' := lstO [] 0) (f := Obj.mapSeq (fun _ => (#[] : Array Value))) (by simp [Obj.mapSeq]) rfl
    generalize hs2 : ({ s₁ with heap := s₁.heap.update S (Obj.mapSeq (fun _ => (#[] : Array Value))), toks := s₁.toks } : Shared) = s₂ at I2
    clear hs2
    refine wpK_bind (wpK_of (wpAny_letGo ?_))
    unfold Builtin.List.listExtendWith
    have hM := I2.sub _ _ g4
    have hT : s₂.TypeIs (.ref M2) "map" := ⟨_, hM, rfl⟩
    have hSM : S ≠ M2 := fun q => by have := I2.head_none; rw [q, g4] at this; cases this
    refine wpK_bind (wpK_of (wpAny_typeOf hT ?_))
    have h1 : Builtin.List.listSameRef (.ref S) (.ref M2) = false := by simp [Builtin.List.listSameRef, hSM]
    have h2 : (Value.type "map" == Value.type "list") = false := by decide
    have h3 : (Value.type "map" == Value.type "tuple") = false := by decide
    simp only [h1, h2, h3, Bool.or_false, Bool.false_eq_true, if_false]
    refine wpK_bind (wpK_of (pyIter_map hM ?_))
    refine wpK_bind (wpK_holding ?_)
    unfold Builtin.List.listLengthHint
    refine wpK_bind (wpK_of (wpAny_specialOf hT map_no_len ?_))
    show wpK _ A.in1.in1 (specialOf (Value.ref M2) (Str.ofString "__length_hint__") >>= _) _ _ _
    refine wpK_bind (wpK_of (wpAny_specialOf hT map_no_hint ?_))
    refine wpK_pure ?_
    show wpK _ A.in1.in1 (rule "list.extend.makes-room" >>= fun _ => Builtin.List.listTouch (.ref S) >>= fun _ => again (.builtin "list.extend.loop" ⟨[.ref S, .ref M2, .none], []⟩)) _ _ _
    refine wpK_bind (wpK_of (wpAny_rule ?_))
    refine wpK_bind ?_
    show wpK _ A.in1.in1 (updateSeq S (·.push .none) >>= fun _ => updateSeq S (·.pop)) _ _ _
    refine wpK_bind (wpK_of (wpAny_updateSeq I2.head_at rfl ?_))
    have I3 := I2.updMu s₂.toks (o' := lstO [.none] 1) (f := Obj.mapSeq (·.push Value.none)) (by simp [Obj.mapSeq]) rfl
    refine wpK_of (wpAny_updateSeq I3.head_at rfl ?_ (by rw [sizeLine_eq]; simp))
    have I4 := I3.updMu s₂.toks (o' := lstO [] 2) (f := Obj.mapSeq (·.pop)) (by simp [Obj.mapSeq]) rfl
    refine wpK_pure ⟨plainId_quiet F.plain_extend_loop _, ?_⟩
    refine codeK_mono (extLoopK (by exact hh) C hlen (R := asCall (fun r s₂ => r = .none ∧ Q (.ref S) s₂) E) (fun h s' acc c I r => ⟨rfl, hok h S s' acc c I r⟩) hbad xs.length 0 _ [] 2 (by omega) (by omega) I4.swap .nil (by simp)) fun r s' hr => ?_
    exact hr
end
end Mine

end
section
open PySem PySem.W PyProof.Rows PySem.Calls PySem.NumText
namespace Mine

theorem RdL.strs {G : Store} {vs : List Value} {xs : List Str} (h : RdL G vs (xs.map Dat.str)) : StrsAre vs xs := by
  induction xs generalizing vs with
  | nil => cases h; exact .nil
  | cons x xs ih =>
    cases h with
    | cons r rs => cases r with | str _ t => exact .cons x t (ih rs)
theorem rdL_values (G : Store) : ∀ l : List (Str × Tok), RdL G (strValues l) ((l.map (·.1)).map Dat.str)
  | [] => .nil
  | p :: r => .cons (.str p.1 p.2) (rdL_values G r)

/-- the items of a slice -/
def pk {α : Type} (lo hi : Option Int) (l : List α) : List α := (l.drop (lo.elim 0 (clipAt l.length))).take (hi.elim l.length (clipAt l.length) - lo.elim 0 (clipAt l.length))
theorem RdL.pk {G : Store} {vs : List Value} {ds : List Dat} (h : RdL G vs ds) (lo hi : Option Int) : RdL G (pk lo hi vs) (pk lo hi ds) := by
  unfold Mine.pk
  rw [h.length]
  exact (h.drop _).take _
theorem pk_upto {α : Type} (n : Nat) (l : List α) : pk none (some (n : Int)) l = l.take n := by
  unfold pk
  simp only [Option.elim, List.drop_zero, Nat.sub_zero, clipAt_nat]
  by_cases h : n ≤ l.length
  · rw [Nat.min_eq_left h]
  · rw [Nat.min_eq_right (by omega), List.take_length, List.take_of_length_le (by omega)]
theorem pk_map {α β : Type} (f : α → β) (lo hi : Option Int) (l : List α) : pk lo hi (l.map f) = (pk lo hi l).map f := by
  unfold pk; simp [List.map_take, List.map_drop]
theorem pk_length {α : Type} (lo hi : Option Int) (l : List α) : (pk lo hi l).length ≤ l.length := by
  unfold pk; simp; omega
section
variable {outer : List Env} {ex : List Addr} {s0 s : Shared} {G0 G : Store} {L : Addr} {m : Str → Option Value} {mu : List (Addr × It)} {prog : Program} {w : World} {A : Around} {E : Value → Shared → Prop} {env : Env} {sc : Scope}

theorem splitS {x y : Str} {t u : Tok} {Q : Value → Shared → Prop} (I : In outer ex s0 G0 G L m mu s) (hy : (y.length == 0) = false) (hsz : x.length + 2 ≤ 2 ^ 20)
    (h : ∀ R vs s', In outer ex s0 G0 G L m ((R, .ob (lstO vs 0)) :: mu) s' → RdL G vs ((Txt.split x y).map Dat.str) → Q (.ref R) s') :
    wpAny (model prog w) A (call (.builtin "str.split") [.str x t, .str y u]) Q E s := by
  have hsl : x.length + 2 ≤ sizeLine := by rw [sizeLine_eq]; omega
  have hn : (Builtin.Str.partsBetween x (Builtin.Str.occurrences x y 0 x.length (x.length + 1)) y.length).length ≤ sizeLine := by
    have e1 := StrLaws.occ_length_le x y 0 x.length (x.length + 1)
    rw [length_partsBetween]; omega
  cases h1 : (decide (x.length < y.length) || decide (Builtin.Str.strKind x < Builtin.Str.strKind y))
  · cases hf : (Builtin.Str.occurrences x y 0 x.length (x.length + 1)).isEmpty
    · refine call_meets F.slot_str_split (typeIs_str _ _ _) F.entry_str_split (F.args_str_split_2 _ _) (meets_str_split_sep x y t u h1 hy hf (by omega) hn) ?_
      show wants Q E _ { s with toks := _, heap := s.heap.push { cls := .type "list", data := .seq (strsFrom s.toks (Builtin.Str.partsBetween x (Builtin.Str.occurrences x y 0 x.length (x.length + 1)) y.length)).toArray } }
      rw [strsFrom_eq]
      refine h _ _ _ (I.alloc (lstO _ 0) _) ?_
      have := rdL_values G (numbered s.toks (Builtin.Str.partsBetween x (Builtin.Str.occurrences x y 0 x.length (x.length + 1)) y.length))
      rw [numbered_texts] at this
      have e : Txt.split x y = Builtin.Str.partsBetween x (Builtin.Str.occurrences x y 0 x.length (x.length + 1)) y.length := (if_neg (ne_true_of_eq_false h1)).trans (if_neg (ne_true_of_eq_false hf))
      rw [e]; exact this
    · refine call_meets F.slot_str_split (typeIs_str _ _ _) F.entry_str_split (F.args_str_split_2 _ _) (meets_str_split_not_found x y t u h1 hy hf) ?_
      refine h _ [.str x t] _ (I.alloc (lstO _ 0) s.toks) ?_
      have e : Txt.split x y = [x] := (if_neg (ne_true_of_eq_false h1)).trans (if_pos hf)
      rw [e]; exact .cons (.str _ _) .nil
  · refine call_meets F.slot_str_split (typeIs_str _ _ _) F.entry_str_split (F.args_str_split_2 _ _) (meets_str_split_cannot_occur x y t u h1) ?_
    refine h _ [.str x t] _ (I.alloc (lstO _ 0) s.toks) ?_
    have e : Txt.split x y = [x] := if_pos h1
    rw [e]; exact .cons (.str _ _) .nil

theorem joinS {x : Str} {t : Tok} {r : Addr} {vs : List Value} {k : Nat} {xs : List Str} {Q : Value → Shared → Prop} (I : In outer ex s0 G0 G L m mu s) (hr : s.heap.get? r = some (lstO vs k)) (hv : RdL G vs (xs.map Dat.str)) (hx : x.length ≤ 16) (hw : (xs.map (·.length)).sum + xs.length ≤ 1048576)
    (h : ∀ t' s', In outer ex s0 G0 G L m mu s' → Q (.str (Txt.join x xs) t') s') : wpAny (model prog w) A (call (.builtin "str.join") [.str x t, .ref r]) Q E s :=
  join_listW (isL hr) (by simpa using hv.strs) hx hw fun t' k => h t' _ (I.tok k)

theorem sliceTail {r : Addr} {vs : List Value} {k : Nat} {vl vu : Value} {lo hi : Option Int} {Q : Value → Shared → Prop} (I : In outer ex s0 G0 G L m mu s) (hr : s.heap.get? r = some (lstO vs k)) (pl : IsPart vl lo) (pu : IsPart vu hi) (hsz : vs.length < 2 ^ 20)
    (h : ∀ R s', In outer ex s0 G0 G L m ((R, .ob (lstO (pk lo hi vs) 0)) :: mu) s' → Q (.ref R) s') :
    ({ s with heap := s.heap.push { cls := .type "slice", data := .fields #[vl, vu, .none] } } : Shared).TypeIs (.ref r) "list" ∧ wpAny (model prog w) A (getItem (.ref r) (.ref s.heap.objs.size)) Q E { s with heap := s.heap.push { cls := .type "slice", data := .fields #[vl, vu, .none] } } := by
  have hl : Heap.IsList (s.heap.push { cls := .type "slice", data := .fields #[vl, vu, .none] }) r vs.toArray := (isL hr).push _
  refine ⟨Heap.IsList.typeIs (s := { s with heap := s.heap.push { cls := .type "slice", data := .fields #[vl, vu, .none] } }) hl, ?_⟩
  refine wpAny_getItem_list_slice hl (Heap.IsSliceOf.new ..) pl pu .none (by simp) ?_ (by rw [sizeLine_eq]; simp; omega)
  have I1 := I.alloc { cls := .type "slice", data := .fields #[vl, vu, .none] } s.toks
  have I2 := I1.alloc (lstO (pk lo hi vs) 0) s.toks
  have e : slicePick vs.toArray lo hi none = (pk lo hi vs).toArray := by rw [slicePick_plain]; rfl
  rw [e]
  exact h _ _ (I2.drop (.cons_cons _ (.cons _ (.refl _))))
theorem sliceNN {value : Expr} {lower upper : Option Expr} {p pos : Pos} {Q : Value → Shared → Prop}
    (h : wpAny (model prog w) A (eval value env) (fun o s₁ => wpAny (model prog w) A (evalPart lower env) (fun l s₂ => wpAny (model prog w) A (evalPart upper env) (fun u s₃ =>
      ({ s₃ with heap := s₃.heap.push { cls := .type "slice", data := .fields #[l, u, .none] } } : Shared).TypeIs o "list" ∧ wpAny (model prog w) A (getItem o (.ref s₃.heap.objs.size)) Q E { s₃ with heap := s₃.heap.push { cls := .type "slice", data := .fields #[l, u, .none] } }) E s₂) E s₁) E s)
    (ht : ∀ o r, letTemporaryGo value o r = pure () := by intro _ _; rfl) : wpAny (model prog w) A (eval (.Subscript value (.Slice lower upper none p) pos) env) Q E s :=
  wpAny_Subscript_Slice list_getitem_lookup (wpAny_mono h (fun o s₁ h₁ => wpAny_Slice (wpAny_mono h₁ (fun l s₂ h₂ => wpAny_mono h₂ (fun u s₃ h₃ => wpAny_pure h₃) fun _ _ y => y) fun _ _ y => y)) fun _ _ y => y) ht
/-- a negative constant -/
theorem cNeg1 {p pos : Pos} {k : Nat} {Q : Value → Shared → Prop} (I : In outer ex s0 G0 G L m mu s) (h : ∀ t s', In outer ex s0 G0 G L m mu s' → Q (.int (-1) t) s') : wpAny (model prog w) A (eval (.UnaryOp .USub (.Constant (.int 1) k p) pos) env) Q E s := by
  refine wpAny_UnaryOp (cInt I fun t s' I' => ?_)
  refine PySem.P.neg_int (h _ _ (I'.tok _))
theorem callDot {x name : Str} {k : Nat} {p apos pos : Pos} {args : List Expr} {id : String} {Q : Value → Shared → Prop} (I : In outer ex s0 G0 G L m mu s)
    (hfew : ((backTo pos (starEach args env)).all (fun x => !x.1) && (backToKw pos (keywordEach [] env)).all (fun x => x.1.isSome) && decide (args.length + ([] : List Keyword).length + (if ([] : List Keyword).isEmpty then 0 else 1) < 30)) = true)
    (hline : (apos.endLine == pos.line) = true) (slot : Slot "str" name id) (hty : typeOf (.builtin id) = pure (.type "method_descriptor"))
    (h : ∀ t s', In outer ex s0 G0 G L m mu s' → wpAny (model prog w) A (callWith pos (.builtin id) [.str x t] (backTo pos (starEach args env)) []) Q E s') :
    wpAny (model prog w) A (eval (.Call (.Attribute (.Constant (.str x) k p) name apos) args [] pos) env) Q E s := by
  refine wpAny_Call_method rfl hfew hline F.plainAttrs_str slot hty ?_
  exact cStr (k := k) (pos := p) I fun t s₇ I => ⟨typeIs_str _ _ _, (fun a ha => nomatch ha), h t s₇ I⟩
end
end Mine

end
section
open PySem PySem.W PyProof.Rows PySem.Calls PySem.NumText
namespace Mine

def dotS : Str := "."
def normed (fn : Str → Option Int) (xs : List Str) : List Str := if ∀ x ∈ xs, fn x ≠ none then xs.map (numStr fn) else xs
def normOf (fn : Str → Option Int) (xs : List Str) : Str := Txt.join dotS ((normed fn xs).take 3)

section
variable {outer : List Env} {s : Shared} {G : Store} {prog : Program} {w : World} {A : Around} {E : Value → Shared → Prop}

theorem normTail {s0 : Shared} {G0 : Store} {L : Addr} {m : Str → Option Value} {mu : List (Addr × It)} {env : Env} {sc : Scope} {p1 p2 p3 p4 p5 p6 p7 p8 p9 q1 q2 : Pos} {S : Addr} {vs : List Value} {k : Nat} {ys : List Str} {Q : Flow → Shared → Prop}
    (hline : (p3.endLine == p8.line) = true) (e : EnvOk env sc L) (I : In outer [] s0 G0 G L m mu s) (k1 : sc.names.lookup ("strings" : Str) = some .local) (k2 : sc.names.lookup ("version" : Str) = some .local)
    (hS : G S = some (lstO vs k)) (ms : m ("strings" : Str) = some (.ref S)) (hv : RdL G vs (ys.map Dat.str)) (hlen : vs.length < 2 ^ 20) (hw : ((ys.take 3).map (·.length)).sum + (ys.take 3).length ≤ 1048576)
    (hQ : ∀ t s' m' mu', In outer [] s0 G0 G L m' mu' s' → Q (.ret (.str (Txt.join dotS (ys.take 3)) t)) s') :
    wpK (model prog w) A (execs [.Assign [.Name ("version" : Str) p1] (.Call (.Attribute (.Constant (.str ("." : Str)) 0 p2) ("join" : Str) p3) [.Subscript (.Name ("strings" : Str) p4) (.Slice none (some (.Constant (.int 3) 0 p5)) none p6) p7] [] p8) p9, .Return (some (.Name ("version" : Str) q1)) q2] env) Q (fun _ _ => False) s := by
  refine wpK_of (wpAny_execs_cons (wpAny_Assign_Name ?_))
  apply callDot I
  case hfew => rfl
  case hline => exact hline
  case slot => exact F.slot_str_join
  case hty => exact F.type_str_join
  intro t s₇ I
  refine callWith_builtin rfl (evalArgs_plain (spliced_cons (sliceNN (ldL e I k1 ms (wpAny_pure (cInt (k := 0) (pos := p5) I fun t2 s₈ I => sliceTail I (I.sub _ _ hS) .none (.int 3 t2) (by omega) fun R s₉ I => spliced_nil ?_))))))
  rw [show (3 : Int) = ((3 : Nat) : Int) from rfl, pk_upto] at I
  refine joinS I I.head_at (by rw [List.map_take]; exact hv.take 3) (by decide) hw fun t3 s₁₀ I => ?_
  refine stLs e I k2 fun s₁₁ I => ?_
  exact wpAny_execs_cons (wpAny_Return_some (ldL e I k2 upd_same (hQ _ _ _ _ I)))

set_option maxHeartbeats 1000000 in
theorem normK {n : Nat} {pos : List Value} {v bv : Value} {x b : Str} {xs : List Str} {fn : Str → Option Int} {Q : Value → Shared → Prop} (hA : AOk A outer (n + 2)) (O : Ok outer G s) (P : PG w G)
    (hpos : (pos = [v] ∧ bv = .str (Str.ofString "") 373) ∨ pos = [v, bv]) (hv : Rd G v (.str x)) (hb : Rd G bv (.str b)) (hl : x.length < 2 ^ 16) (hbl : b.length < 2 ^ 16)
    (hxs : xs = if b.length = 0 then Txt.split x dotS else Txt.split x dotS ++ [b]) (hn : ∀ y ∈ xs, NumOf y (fn y)) (hsm : ∀ y ∈ xs, ∀ n, fn y = some n → n.natAbs.log2 < 1920) (hw : (((normed fn xs).take 3).map (·.length)).sum + ((normed fn xs).take 3).length ≤ 1048576)
    (hQ : ∀ r s' G', Step (frs outer) [] G s G' s' → Rd G' r (.str (normOf fn xs)) → Q r s') :
    wpK (model prog w) A (call (.ref 52) pos) Q E s := by
  refine enterK [] (binds := [(("version" : Str), v), (("build" : Str), bv)]) P.fnorm P hA O (by simp) (fun pm cd => ?_) (by kernel_rfl) (by kernel_rfl) rfl rfl rfl fun env s₁ A' L e hA' I _ => ?_
  · rcases hpos with ⟨rfl, rfl⟩ | rfl
    · exact binds_norm1 P O.sub
    · exact binds_norm2 P O.sub
  obtain ⟨m, hm⟩ : ∃ m : Str → Option Value, m = (fun x_1 => List.lookup x_1 [(("version" : Str), v), (("build" : Str), bv)].reverse) := ⟨_, rfl⟩
  have mv : m ("version" : Str) = some v := by rw [hm]; kernel_rfl
  have mb : m ("build" : Str) = some bv := by rw [hm]; kernel_rfl
  rw [← hm] at I
  clear hm
  have hh := hA'.handled
  cases hv with
  | str _ tv =>
  cases hb with
  | str _ tb =>
  have hspl : (Txt.split x dotS).length < 2 ^ 17 := by have := split_le x dotS; omega
  refine wpK_execs_cons (wpK_of (wpAny_Assign_Name ?_))
  refine wpAny_Call_method rfl rfl rfl F.plainAttrs_str F.slot_str_split F.type_str_split (ldL e I (by kernel_rfl) mv ⟨rfl, (fun a ha => by cases ha), ?_⟩)
  refine callWith_builtin rfl (evalArgs_plain (spliced_cons (cStr (k := 0) (pos := ⟨18, 22, 18, 25⟩) I fun t s₂ I => spliced_nil (splitS I rfl (by omega) fun R vs s₃ I hvs => stLs e I (by kernel_rfl) fun s₄ I => ?_))))
  have n1 : ("build" : Str) ≠ ("l" : Str) ∧ ("l" : Str) ≠ ("strings" : Str) := by decide +kernel
  refine wpK_execs_cons (wpK_mono (Q := fun f s2 => f = Flow.next ∧ ∃ vs k, In outer [] s G G L (upd m ("l" : Str) (.ref R)) [(R, .ob (lstO vs k))] s2 ∧ RdL G vs (xs.map Dat.str))
    (wpK_If (wpK_of (wpAny_isTrue_value (ldL e I (by kernel_rfl) (upd_to n1.1 mb) (PySem.P.truthy_str (by omega) ?_))))) ?_ fun _ _ y => y)
  · by_cases hb0 : b.length = 0
    · rw [if_neg (by simp [hb0])]
      refine wpK_execs_nil ⟨rfl, vs, 0, I.tok _, ?_⟩
      rw [hxs, if_pos hb0]; exact hvs
    · rw [if_pos (by simpa using hb0)]
      replace I := I.tok (s₄.toks + 1 + 1)
      refine wpK_of (wpAny_execs_cons (wpAny_Expr_any ?_ e.quiet))
      refine wpAny_Call_method rfl rfl rfl F.plainAttrs_list F.slot_list_append (by kernel_rfl) (ldL e I (by kernel_rfl) upd_same ⟨⟨_, I.head_at, rfl⟩, fun a ha => ?_, ?_⟩)
      · cases ha; exact ⟨_, I.head_at, rfl⟩
      refine callWith_builtin rfl (evalArgs_plain (spliced_cons (ldL e I (by kernel_rfl) (upd_to n1.1 mb) (spliced_nil (I.append ?_ fun h' k I => wpAny_execs_nil ⟨rfl, _, _, I, ?_⟩)))))
      · rw [hvs.length, List.length_map]; exact Nat.lt_trans hspl (by decide)
      · rw [hxs, if_neg hb0, List.map_append]
        exact hvs.append (.cons (.str _ _) .nil)
  · rintro f s₅ ⟨rfl, vs2, k2, I, hvs2⟩
    have hxl : xs.length < 2 ^ 18 := by
      rw [hxs]; split
      · omega
      · rw [List.length_append]; simp; omega
    have I1 := I.frz
    have hR : (G.put R (lstO vs2 k2)) R = some (lstO vs2 k2) := Store.put_self _ _ _
    have hG1 : LeS G (G.put R (lstO vs2 k2)) := Store.le_put I.head_none
    generalize G.put R (lstO vs2 k2) = G1 at I1 hR hG1
    clear I
    have P1 := P.mono hG1
    refine wpK_execs_cons (wpK_mono (Q := fun f s2 => f = Flow.next ∧ ∃ G2 m2 mu2 S vs3 k3, LeS G1 G2 ∧ In outer [] s G G2 L m2 mu2 s2 ∧ m2 ("strings" : Str) = some (.ref S) ∧ G2 S = some (lstO vs3 k3) ∧ RdL G2 vs3 ((normed fn xs).map Dat.str))
      (wpK_Try ?_) ?_ fun _ _ y => y)
    · refine wpK_execs_cons (wpK_Assign_Name (callTypeGlK (T := "list") e I1.sub P1 (by kernel_rfl) (by decide +kernel) rfl rfl (splicedK_cons ?_)))
      refine callTypeGlK (T := "map") (rest := [(false, eval (.Call (.Name ("map" : Str) ⟨22, 32, 22, 35⟩) [.Name ("int" : Str) ⟨22, 36, 22, 39⟩, .Name ("l" : Str) ⟨22, 41, 22, 42⟩] [] ⟨22, 32, 22, 43⟩) env)]) e I1.sub P1 (by kernel_rfl) (by decide +kernel) rfl rfl (splicedK_cons (wpK_of (ldGl e I1.sub P1 (by kernel_rfl) (v := .type "str") (by decide +kernel) (splicedK_cons ?_))))
      refine callTypeGlK (T := "map") (rest := [(false, eval (.Name ("l" : Str) ⟨22, 41, 22, 42⟩) env)]) e I1.sub P1 (by kernel_rfl) (by decide +kernel) rfl rfl (splicedK_cons (wpK_of (ldGl e I1.sub P1 (by kernel_rfl) (v := .type "int") (by decide +kernel) (splicedK_cons (wpK_of (ldL e I1 (by kernel_rfl) upd_same (splicedK_nil ?_)))))))
      refine mapNew_list I1 hR fun J T1 M1 G2 s₆ l2 t1 t2 I2 => ?_
      refine splicedK_nil (mapNew_map I2 t2 fun T2 M2 G3 s₇ l3 t3 t4 I3 => splicedK_nil ?_)
      have C : MapsAt G3 R J M2 vs2 xs fn := ⟨⟨k2, l3 _ _ (l2 _ _ hR)⟩, ⟨T1, M1, T2, l3 _ _ t1, l3 _ _ t2, t3, t4⟩, (hvs2.mono hG1).mono (l2.trans l3), hn, hsm⟩
      refine listMapK hh C (by omega) I3 (fun hall S s₈ acc c I4 racc => ?_) fun hbad ea s₈ h' tk I4 hea => ?_
      · refine wpK_of (stLs e I4 (by kernel_rfl) fun s₉ I5 => wpK_execs_nil (wpK_execs_nil ?_))
        have lf := Store.le_put (o := lstO acc c) I5.head_none
        refine ⟨rfl, _, _, _, S, acc, c, (l2.trans l3).trans lf, I5.frz, upd_same, Store.put_self _ _ _, ?_⟩
        unfold normed
        rw [if_pos hall, List.map_map]
        exact racc.mono lf
      · have P3 := P1.mono (l2.trans l3)
        refine I4.caught hA' e.frame (by rw [e.scope]; exact e.kind) hea (by kernel_rfl) (by kernel_rfl) (by kernel_rfl) (fun A' E' s' Q' hS hq => ldGl e hS P3 (by kernel_rfl) (by decide +kernel) hq) fun h3 tk3 I5 => ?_
        refine wpAny_execs_cons (wpAny_Assign_Name (ldL e I5 (by kernel_rfl) upd_same (stLs e I5 (by kernel_rfl) fun s₉ I6 => wpAny_execs_nil ?_)))
        refine ⟨rfl, G3, _, _, R, vs2, k2, l2.trans l3, I6, upd_same, l3 _ _ (l2 _ _ hR), ?_⟩
        have : ¬ ∀ x ∈ xs, fn x ≠ none := by obtain ⟨y, hy, hy2⟩ := hbad; exact fun h => h y hy hy2
        unfold normed
        rw [if_neg this]
        exact (hvs2.mono hG1).mono (l2.trans l3)
    · rintro f s₆ ⟨rfl, G2, m2, mu2, S, vs3, k3, l2, I, ms, hS, hvs3⟩
      have hlen3 : vs3.length < 2 ^ 18 := by
        rw [hvs3.length, List.length_map]; unfold normed; split
        · rw [List.length_map]; exact hxl
        · exact hxl
      refine normTail rfl e I (by kernel_rfl) (by kernel_rfl) hS ms hvs3 (Nat.lt_trans hlen3 (by decide)) hw fun t s₇ m3 mu3 I => ?_
      exact hQ _ _ _ I.toStep (.str _ _)
end
end Mine

end
section
open PySem PySem.W PyProof.Rows PySem.Calls PySem.NumText
namespace Mine

/-! ## sources: what a loop or a comprehension runs over -/
structure Src (prog : Program) (w : World) (A : Around) (outer : List Env) (s0 : Shared) (G0 : Store) (L : Addr) (G : Store) (J : Addr) (itf : Nat → It) (n : Nat) (V : Nat → Value → Prop) : Prop where
  item : ∀ i s G' m mu (Q : Option Value → Shared → Prop) E, i < n → LeS G G' → In outer [] s0 G0 G' L m ((J, itf i) :: mu) s → (∀ v s', V i v → In outer [] s0 G0 G' L m ((J, itf (i + 1)) :: mu) s' → Q (some v) s') → wpAny (model prog w) A (pyNext (.ref J)) Q E s
  done : ∀ s G' m mu (Q : Option Value → Shared → Prop) E, LeS G G' → In outer [] s0 G0 G' L m ((J, itf n) :: mu) s → (∀ s', In outer [] s0 G0 G' L m mu s' → Q none s') → wpAny (model prog w) A (pyNext (.ref J)) Q E s
  self : ∀ i s G' m mu (Q : Value → Shared → Prop) E, LeS G G' → In outer [] s0 G0 G' L m ((J, itf i) :: mu) s → Q (.ref J) s → wpAny (model prog w) A (pyIter (.ref J)) Q E s
  tup : ∀ i s G' m mu elts k pos v (Q : Unit → Shared → Prop) E, LeS G G' → In outer [] s0 G0 G' L m ((J, itf i) :: mu) s → Q () s → wpAny (model prog w) A (letOwnedTupleGo (.Tuple elts k pos) (.ref J) (.ref v)) Q E s
abbrev rIter (n i : Nat) : It := .ob { cls := .type "range_iterator", data := .fields #[rawInt i, rawInt ((n : Int) - (i : Nat)), rawInt 1] }

section
variable {outer : List Env} {s0 s : Shared} {G0 G : Store} {L : Addr} {m : Str → Option Value} {mu : List (Addr × It)} {prog : Program} {w : World} {A : Around} {E : Value → Shared → Prop} {env : Env} {sc : Scope}

theorem Src.list (hh : A.handled = none) {J r : Addr} {vs : List Value} {k : Nat} (hr : G r = some (lstO vs k)) : Src prog w A outer s0 G0 L G J (lIter r) vs.length (fun i v => vs[i]? = some v) where
  item := fun i s G' m mu Q E hi hle I hq => by
    obtain ⟨v, hv⟩ : ∃ v, vs[i]? = some v := ⟨_, List.getElem?_eq_getElem hi⟩
    refine wpAny_pyNext_list_item I.head_at (isL (I.sub _ _ (hle _ _ hr))) (by simpa using hv) fun h' hit' hs => hq v _ hv (I.setMu s.toks hit' hs)
  done := fun s G' m mu Q E hle I hq => wpAny_pyNext_list_end hh I.head_at (isL (I.sub _ _ (hle _ _ hr))) (by simp) fun h' hx => hq _ (I.extBut s.toks hx)
  self := fun i s G' m mu Q E hle I hq => wpAny_pyIter_listiter I.head_at hq
  tup := fun i s G' m mu elts k pos v Q E hle I hq => wpAny_letOwnedTupleGo_listiter I.head_at hq
theorem Src.range (hh : A.handled = none) {J : Addr} {n : Nat} : Src prog w A outer s0 G0 L G J (rIter n) n (fun i v => ∃ t, v = .int i t) where
  item := fun i s G' m mu Q E hi hle I hq => by
    refine wpAny_pyNext_range_item (x := (i : Int)) (left := (n : Int) - (i : Nat)) (step := 1) I.head_at (by omega) fun h' hit' hs => hq _ _ ⟨_, rfl⟩ (I.setMu (s.toks + 1) (i' := rIter n (i + 1)) ?_ hs)
    have e1 : (i : Int) + 1 = ((i + 1 : Nat) : Int) := by push_cast; rfl
    have e2 : (n : Int) - (i : Nat) - 1 = (n : Int) - ((i + 1 : Nat) : Int) := by push_cast; omega
    rw [e1, e2] at hit'
    exact hit'
  done := fun s G' m mu Q E hle I hq => wpAny_pyNext_range_end (x := (n : Int)) (left := (n : Int) - (n : Nat)) (step := 1) hh I.head_at (by omega) fun h' hx => hq _ (I.extBut s.toks hx)
  self := fun i s G' m mu Q E hle I hq => wpAny_pyIter_rangeiter (x := (i : Int)) (left := (n : Int) - (i : Nat)) (step := 1) I.head_at hq
  tup := fun i s G' m mu elts k pos v Q E hle I hq => by
    have hJ : s.heap.get? J = some { cls := .type "range_iterator", data := .fields #[rawInt i, rawInt ((n : Int) - (i : Nat)), rawInt 1] } := I.head_at
    unfold letOwnedTupleGo
    refine wpAny_bind (wpAny_load hJ ?_)
    exact wpAny_pure hq

/-- the iterator of a frozen list -/
theorem iterList {r : Addr} {vs : List Value} {k : Nat} {Q : Value → Shared → Prop} (I : In outer [] s0 G0 G L m mu s) (hr : G r = some (lstO vs k)) (h : ∀ J s', In outer [] s0 G0 G L m ((J, lIter r 0) :: mu) s' → Q (.ref J) s') : wpAny (model prog w) A (pyIter (.ref r)) Q E s := by
  refine wpAny_pyIter_list (isL (I.sub _ _ hr)) ?_
  have I1 := I.alloc { cls := .type "list_iterator", data := .fields #[.ref r, .int 0 0] } s.toks
  exact h _ _ (I1.setMu s.toks (i' := lIter r 0) ⟨_, I1.head_at, rfl, rfl⟩ (Heap.SameBut.refl _ _))
/-- range(n), made and iterated -/
theorem callRange {n : Nat} {t : Tok} {Q : Value → Shared → Prop} (I : In outer [] s0 G0 G L m mu s) (h : ∀ r o s', (∃ t u v, o = { cls := .type "range", data := .fields #[.int 0 t, .int n u, .int 1 v] }) → In outer [] s0 G0 G L m ((r, .ob o) :: mu) s' → Q (.ref r) s') : wpAny (model prog w) A (call (.type "range") [.int n t]) Q E s :=
  call_range_1 (h _ _ _ ⟨_, _, _, rfl⟩ (I.alloc { cls := .type "range", data := .fields #[.int 0 s.toks, .int n t, .int 1 (s.toks + 1)] } (s.toks + 1 + 1)))
theorem rangeSize_n (n : Nat) : Builtin.Range.rangeSize 0 (n : Int) 1 = n := by
  unfold Builtin.Range.rangeSize
  rw [if_pos (by decide)]
  split <;> omega
theorem iterRange {n : Nat} {r : Addr} {o : Obj} {Q : Value → Shared → Prop} (hn : n < 2 ^ 20) (ho : ∃ t u v, o = { cls := .type "range", data := .fields #[.int 0 t, .int n u, .int 1 v] }) (I : In outer [] s0 G0 G L m ((r, .ob o) :: mu) s)
    (h : ∀ J s', In outer [] s0 G0 G L m ((J, rIter n 0) :: mu) s' → Q (.ref J) s') : wpAny (model prog w) A (pyIter (.ref r)) Q E s := by
  obtain ⟨t, u, v, rfl⟩ := ho
  refine wpAny_pyIter_range (a := 0) (b := (n : Int)) (c := 1) I.head_at ?_ ?_
  · unfold Builtin.Range.small
    rw [rangeSize_n]
    simp [Builtin.Range.rangeFitsLong]
    omega
  rw [rangeSize_n]
  have I1 := I.alloc { cls := .type "range_iterator", data := .fields #[rawInt 0, rawInt n, rawInt 1] } s.toks
  have I2 := I1.drop (mu' := (s.heap.objs.size, .ob { cls := .type "range_iterator", data := .fields #[rawInt 0, rawInt n, rawInt 1] }) :: mu) (.cons_cons _ (.cons _ (.refl _)))
  exact h _ _ (by simpa [rIter] using I2)

/-- a loop over a source, the caller below -/
theorem forSrcK {n : Nat} {target : Expr} {body : List Stmt} {J : Addr} {itf : Nat → It} {V : Nat → Value → Prop} {Q : Flow → Shared → Prop} (X : Src prog w A outer s0 G0 L G J itf n V) (AM : Nat → Value → Store → (Str → Option Value) → List (Addr × It) → (Str → Option Value) → List (Addr × It) → Prop)
    (K : Nat → Store → (Str → Option Value) → List (Addr × It) → Prop)
    (hlet : ∀ i v G' m mu s (Q' : Unit → Shared → Prop), V i v → LeS G G' → In outer [] s0 G0 G' L m ((J, itf (i + 1)) :: mu) s → Q' () s → wpAny (model prog w) A (letOwnedTupleGo target (.ref J) v) Q' (fun _ _ => False) s)
    (hasg : ∀ i v G' m mu s (Q' : Unit → Shared → Prop), i < n → V i v → LeS G G' → K i G' m mu → In outer [] s0 G0 G' L m ((J, itf (i + 1)) :: mu) s → (∀ m' mu' s', AM i v G' m mu m' mu' → In outer [] s0 G0 G' L m' ((J, itf (i + 1)) :: mu') s' → Q' () s') → wpAny (model prog w) A (assign target env v) Q' (fun _ _ => False) s)
    (step : ∀ i v G' m mu m' mu' s, i < n → V i v → LeS G G' → K i G' m mu → AM i v G' m mu m' mu' → In outer [] s0 G0 G' L m' ((J, itf (i + 1)) :: mu') s →
      wpK (model prog w) A (execs body env) (fun f s' => f = .next ∧ ∃ G'' m'' mu'', LeS G' G'' ∧ K (i + 1) G'' m'' mu'' ∧ In outer [] s0 G0 G'' L m'' ((J, itf (i + 1)) :: mu'') s') (fun _ _ => False) s)
    (I : In outer [] s0 G0 G L m ((J, itf 0) :: mu) s) (h0 : K 0 G m mu)
    (hQ : ∀ G' m' mu' s', LeS G G' → K n G' m' mu' → In outer [] s0 G0 G' L m' mu' s' → Q .next s') :
    codeK (model prog w) A (.forLoop target (.ref J) body [] env) (fun r s' => match r with | .ok f => Q f s' | .error _ => False) s := by
  refine codeK_forLoop (fun j s => ∃ G' m mu, LeS G G' ∧ j ≤ n ∧ K (n - j) G' m mu ∧ In outer [] s0 G0 G' L m ((J, itf (n - j)) :: mu) s) ?_ n ⟨G, m, mu, .refl _, Nat.le_refl _, by simpa using h0, by simpa using I⟩
  clear I h0
  rintro j s ⟨G', m, mu, hle, hn, hK, I⟩
  cases j with
  | zero =>
    refine wpK_of (X.done _ _ _ _ _ _ hle I fun s' I' => wpK_execs_nil ?_)
    exact hQ G' m mu _ hle (by simpa using hK) I'
  | succ j =>
    have e1 : n - (j + 1) + 1 = n - j := by omega
    refine wpK_of (X.item _ _ _ _ _ _ _ (by omega) hle I fun v s' hv I' => ?_)
    refine wpK_of (hlet _ v G' m mu s' _ hv hle I' ?_)
    refine wpK_of (hasg _ v G' m mu _ _ (by omega) hv hle hK I' fun m' mu' s' hm I2 => ?_)
    refine wpK_mono (step _ v G' m mu m' mu' s' (by omega) hv hle hK hm I2) (fun f s'' hq => ?_) fun _ _ x => x
    obtain ⟨rfl, G'', m'', mu'', hle', hK', I3⟩ := hq
    rw [e1] at hK' I3
    exact ⟨j, Nat.lt_succ_self _, G'', m'', mu'', hle.trans hle', by omega, hK', I3⟩
end
end Mine

end
section
open PySem PySem.W PyProof.Rows PySem.Calls PySem.NumText
namespace Mine

/-! ## comprehensions, the caller below -/
section
variable {M : Model} {A : Around} {E : Value → Shared → Prop} {s : Shared} {env : Env}

def compPostK (M : Model) (A : Around) (E : Value → Shared → Prop) (use : Option (Value → Sem Unit)) (Q : Value → Shared → Prop) (acc : Value) (C : Addr) (r : Result) (s' : Shared) : Prop :=
  match r, use with
  | .ok _, none => ∃ m, s'.heap.Ns C m ∧ ∀ h', Heap.SameBut C s'.heap h' → Q acc { s' with heap := h' }
  | .ok _, some u => wpAny M A (u acc) (fun _ s'' => ∃ m, s''.heap.Ns C m ∧ ∀ h', Heap.SameBut C s''.heap h' → Q .none { s'' with heap := h' }) E s'
  | .error _, _ => False

theorem wpK_comprehension {e : Expr} {scope : Scope} {pos : Pos} {newAcc first : Sem Value} {g : Comprehension} {gs : List Comprehension} {cl : List (Str × Addr)} {use : Option (Value → Sem Unit)}
    {Q : Value → Shared → Prop}
    (hcl : clausesOf e = g :: gs) (hs : ∀ x, foldedSetIterable g.iter env x = pure x) (hclos : closureFor scope env = pure cl)
    (hkind : scope.kind = .function) (hnames : ∀ x ∈ scope.names, x.2 = .local → scope.names.lookup x.1 = some .local)
    (h : wpK M A first (fun x s₁ => wpAny M A (pyIter x) (fun it s₂ => wpAny M A newAcc (fun acc s₃ =>
      wpAny M A (newFunctionEnv scope env.globals cl [] env.qual none .none (some env)) (fun cenv s₄ =>
        codeK M A (.compStart e 0 it acc { cenv with scope := relabel scope env }) (compPostK M A E use Q acc cenv.locals) s₄) E s₃) E s₂) E s₁) E s) :
    wpK M A (comprehension e scope env pos newAcc false first use) Q E s := by
  unfold comprehension
  rw [hclos, hcl]
  have standIf : ∀ {α : Type} {c : Prop} [Decidable c] {pos : Pos} {k : PUnit → Sem α} {Q : α → Shared → Prop} {s : Shared}, wpK M A (k ()) Q E s → wpK M A (if c then (standAt pos >>= k) else k ()) Q E s := by
    intro α c _ pos k Q s h
    split
    · exact wpK_bind (wpK_standAt h)
    · exact h
  have eqK : ∀ {α : Type} {t : Sem α} {a : α} {Q : α → Shared → Prop} {s : Shared}, t = pure a → Q a s → wpK M A t Q E s := by
    intro α t a Q s e h
    rw [e]; exact wpK_pure h
  refine wpK_bind (wpK_mono h (fun x s₁ h₁ => wpK_bind (wpK_standAt (wpK_bind (eqK (hs x) ?_)))) fun _ _ h' => h')
  refine wpK_bind (wpK_holding (wpK_of (wpAny_mono h₁ (fun it s₂ h₂ => ?_) fun _ _ h' => h')))
  refine standIf ?_
  refine wpK_bind (wpK_of (wpAny_mono h₂ (fun acc s₃ h₃ => ?_) fun _ _ h' => h'))
  refine wpK_bind (wpK_pure ?_)
  refine wpK_bind (wpK_of (wpAny_mono h₃ (fun cenv s₄ h₄ => ?_) fun _ _ h' => h'))
  dsimp only
  have hv : ∀ x ∈ (scope.names.filter fun x => (x.2 == .local || x.2 == .cell) && x.1 != (".0" : Str)).reverse, x.2 = .local →
      Env.kindOf { cenv with scope := relabel scope env } x.1 = some .local := fun x hx hl => lookup_relabel_local (hnames x (List.mem_filter.mp (List.mem_reverse.mp hx)).1 hl)
  have hv' : ∀ x ∈ (scope.names.filter fun x => (x.2 == .local || x.2 == .cell) && x.1 != (".0" : Str)).reverse.drop 1 ++ (scope.names.filter fun x => (x.2 == .local || x.2 == .cell) && x.1 != (".0" : Str)).reverse.take 1,
      x.2 = .local → Env.kindOf { cenv with scope := relabel scope env } x.1 = some .local := fun x hx hl => by
    rcases List.mem_append.mp hx with h1 | h1
    · exact hv x (List.mem_of_mem_drop h1) hl
    · exact hv x (List.mem_of_mem_take h1) hl
  refine wpK_holding (wpK_bind (wpK_attempt (wpK_holding (wpK_run (codeK_mono h₄ fun r s' hr => ?_)))))
  cases r with
  | ok f =>
    cases use with
    | none =>
      obtain ⟨m, hn, hr⟩ := hr
      exact wpK_bind (wpK_holding (wpK_of (wpAny_comp_letGo (cenv := { cenv with scope := relabel scope env }) hkind _ s' m hv hn fun h' m' _ hs' => wpK_pure (hr h' hs'))))
    | some u =>
      refine wpK_bind (wpK_of (wpAny_rule (wpK_bind (wpK_holding (wpK_of (wpAny_mono hr (fun _ s'' hr' => ?_) fun _ _ h' => h'))))))
      obtain ⟨m, hn, hr'⟩ := hr'
      exact wpK_bind (wpK_of (wpAny_comp_letGo (cenv := { cenv with scope := relabel scope env }) hkind _ s'' m hv' hn fun h' m' _ hs' => wpK_pure (hr' h' hs')))
  | error x =>
    cases use <;> exact hr.elim
end

section
variable {prog : Program} {w : World} {A : Around} {E : Value → Shared → Prop} {s : Shared} {R : Result → Shared → Prop}
theorem codeK_compStart {elt target iter ifs rest scope pos it acc env}
    (h0 : codeK (model prog w) A (.compLoop (.ListComp elt (⟨target, iter, ifs, 0⟩ :: rest) scope pos) 0 it acc env) R s)
    (h : wpAny (model prog w) A (pyIter it) (fun it' s' => codeK (model prog w) A (.compLoop (.ListComp elt (⟨target, iter, ifs, 0⟩ :: rest) scope pos) 0 it' acc env) R s') (fun _ _ => False) s) :
    codeK (model prog w) A (.compStart (.ListComp elt (⟨target, iter, ifs, 0⟩ :: rest) scope pos) 0 it acc env) R s := by
  refine codeK_of_tree ?_
  show wpK _ _ ((compStart (.ListComp elt (⟨target, iter, ifs, 0⟩ :: rest) scope pos) 0 it acc env).onRaise (fun x => do noteFrame x env; standAt theWindowsPlace)) _ _ s
  refine wpK_noted ?_
  unfold compStart
  show wpK _ _ (ask >>= _) _ _ s
  refine wpK_bind (wpK_of (wpAny_askSetting ?_))
  split
  · exact wpK_bind (wpK_pure (wpK_pure (And.intro rfl h0)))
  · refine wpK_bind (wpK_of (wpAny_rule ?_))
    show wpK _ _ (standAt iter.pos >>= _) _ _ s
    exact wpK_bind (wpK_standAt (wpK_bind (wpK_of (wpAny_mono h (fun it' s' h' => wpK_pure (And.intro rfl h')) fun _ _ x => x))))

theorem codeK_compLoop {elt target iter : Expr} {ifs : List Expr} {scope : Scope} {pos : Pos} {it acc : Value} {env : Env} (I : Nat → Shared → Prop)
    (turn : ∀ n s, I n s → wpK (model prog w) A (pyNext it) (fun r s₁ => match r with
      | none => R (.ok .next) s₁
      | some v => wpK (model prog w) A (letOwnedTupleGo target it v) (fun _ s₁' => wpK (model prog w) A (assign target env v) (fun _ s₂ =>
          wpK (model prog w) A (forIn ifs true fun c r => if r = true then do let ok ← isTrue c env (eval c env); pure (ForInStep.yield ok) else pure (ForInStep.yield r)) (fun ok s₃ =>
            if ok = true then wpK (model prog w) A (eval elt env) (fun x s₄ =>
              wpK (model prog w) A (call (.builtin "list.append") [acc, x]) (fun _ s₅ => ∃ m, m < n ∧ I m s₅) (fun _ _ => False) s₄) (fun _ _ => False) s₃
            else ∃ m, m < n ∧ I m s₃) (fun _ _ => False) s₂) (fun _ _ => False) s₁') (fun _ _ => False) s₁) (fun _ _ => False) s)
    (n : Nat) (h : I n s) :
    codeK (model prog w) A (.compLoop (.ListComp elt [⟨target, iter, ifs, 0⟩] scope pos) 0 it acc env) R s := by
  refine codeK_loop rfl I (fun n s hI => ?_) n h
  show wpK _ A ((compTurn (.ListComp elt [⟨target, iter, ifs, 0⟩] scope pos) 0 it acc env).onRaise (fun x => do noteFrame x env; theTreesLotGoes x)) _ _ s
  refine wpK_noted ?_
  rw [compTurn_list]
  refine wpK_bind (wpK_standAt (wpK_bind (wpK_mono (turn n s hI) (fun r s₁ h₁ => ?_) fun _ _ h' => h')))
  cases r with
  | none => exact wpK_pure h₁
  | some v =>
    refine wpK_bind (wpK_mono h₁ (fun _ s₁' h₁' => ?_) fun _ _ h' => h')
    refine wpK_bind (wpK_mono h₁' (fun _ s₂ h₂ => wpK_bind (wpK_mono h₂ (fun ok s₃ h₃ => ?_) fun _ _ h' => h')) fun _ _ h' => h')
    cases ok with
    | false => exact wpK_pure (.inl ⟨rfl, h₃⟩)
    | true =>
      exact wpK_bind (wpK_bind (wpK_mono h₃ (fun x s₄ h₄ => wpK_bind (wpK_mono h₄ (fun _ s₅ h₅ => wpK_pure (wpK_pure (.inl ⟨rfl, h₅⟩))) fun _ _ h' => h')) fun _ _ h' => h'))
end

section
variable {outer : List Env} {s0 s : Shared} {G0 G : Store} {L : Addr} {m : Str → Option Value} {mu : List (Addr × It)} {prog : Program} {w : World} {A : Around} {E : Value → Shared → Prop} {env : Env} {sc : Scope}

theorem In.newNs {ex : List Addr} {mC : Str → Option Value} (x : In outer ex s0 G0 G L m mu s) {h' : Heap} (t : Nat) (hn : h'.Ns s.heap.objs.size mC) (k : ∀ b o, s.heap.get? b = some o → h'.get? b = some o) :
    In outer ex s0 G0 G L m ((s.heap.objs.size, .ns mC) :: mu) { s with heap := h', toks := t } := by
  have hn1 : s.heap.get? s.heap.objs.size = none := Heap.get?_none_of_le (Nat.le_refl _)
  have hn0 : s0.heap.get? s.heap.objs.size = none := none_of (x.alive _) hn1
  refine x.turn (.refl _) (fun b o e => k b o (x.sub b o e)) (fun a o e => .inl e) (x.keepOn fun b o _ _ e => k b o e) (fun b h => alive_keep (fun b o e => ⟨o, k b o e⟩) b (x.alive b h)) rfl rfl (x.ns.keeps k) x.gL (fun p hp => ?_) ?_ fun b hb o e => ⟨o, k b o e, rfl⟩
  · rcases List.mem_cons.mp hp with rfl | hp
    · refine ⟨hn, ?_, (ne_of_some (ns_some x.ns) hn1).symm, fun q => ne_of_some (x.fsl _ q) hn0 rfl, .inl hn0⟩
      cases q : G s.heap.objs.size with
      | none => rfl
      | some o' => exact absurd rfl (ne_of_some (x.gsome q) hn1)
    · obtain ⟨h1, h2, h3, h4, h5⟩ := x.mus p hp
      exact ⟨h1.keep fun o e => k _ o e, h2, h3, h4, h5⟩
  · simp only [List.map_cons, List.nodup_cons]
    refine ⟨fun hm => ?_, x.nd⟩
    obtain ⟨p, hp, e⟩ := List.mem_map.mp hm
    exact ne_of_some (x.mus p hp).1.there hn1 e

/-- what a comprehension makes -/
def emit (b : Nat → Bool) (d : Nat → Dat) : Nat → List Dat
  | 0 => []
  | i + 1 => emit b d i ++ (if b i then [d i] else [])
theorem emit_all (d : Nat → Dat) : ∀ n, emit (fun _ => true) d n = (List.range n).map d
  | 0 => rfl
  | n + 1 => by rw [emit, emit_all d n, List.range_succ, List.map_append]; simp
theorem emit_filter (b : Nat → Bool) (d : Nat → Dat) : ∀ n, emit b d n = ((List.range n).filter b).map d
  | 0 => rfl
  | n + 1 => by
    rw [emit, emit_filter b d n, List.range_succ, List.filter_append, List.map_append]
    cases h : b n <;> simp [h]
theorem emit_len (b : Nat → Bool) (d : Nat → Dat) : ∀ n, (emit b d n).length ≤ n
  | 0 => Nat.le_refl _
  | n + 1 => by
    have := emit_len b d n
    rw [emit, List.length_append]
    split <;> simp <;> omega

theorem perm3 {α : Type} (a b c : α) (l : List α) : (c :: b :: a :: l).Perm (a :: b :: c :: l) :=
  ((List.Perm.swap b c _).trans ((List.Perm.swap a c l).cons b)).trans (List.Perm.swap a b _)
theorem perm3' {α : Type} (a b c : α) (l : List α) : (b :: c :: a :: l).Perm (a :: b :: c :: l) :=
  ((List.Perm.swap a c l).cons b).trans (List.Perm.swap a b _)
theorem perm3'' {α : Type} (a b c : α) (l : List α) : (c :: a :: b :: l).Perm (a :: b :: c :: l) :=
  (List.Perm.swap a c _).trans ((List.Perm.swap b c l).cons a)

theorem compBlock {elt target iter : Expr} {ifs : List Expr} {scope : Scope} {cl : List (Str × Addr)} {pos : Pos} {J : Addr} {itf : Nat → It} {n : Nat} {V : Nat → Value → Prop} {RR : Value → Addr → Result → Shared → Prop}
    (X : Src prog w A outer s0 G0 L G J itf n V) (AMc : Nat → Value → Store → (Str → Option Value) → Prop) (b : Nat → Bool) (d : Nat → Dat) (hn : n < 2 ^ 20) (hcell : ∀ y ∈ scope.names, y.2 ≠ .cell) (hkind : scope.kind = .function)
    (hlet : ∀ i v G' mu' s (Q' : Unit → Shared → Prop), V i v → LeS G G' → In outer [] s0 G0 G' L m ((J, itf (i + 1)) :: mu') s → Q' () s → wpAny (model prog w) A (letOwnedTupleGo target (.ref J) v) Q' (fun _ _ => False) s)
    (hasg : ∀ i v C G' mC mu' s (Q' : Unit → Shared → Prop), i < n → V i v → LeS G G' → In outer [] s0 G0 G' L m ((C, .ns mC) :: mu') s → (∀ mC' s', AMc i v G' mC' → In outer [] s0 G0 G' L m ((C, .ns mC') :: mu') s' → Q' () s') → wpAny (model prog w) A (assign target (compEnvC scope cl C env) v) Q' (fun _ _ => False) s)
    (htest : ∀ i v C D G' mC ys k s (Q' : Bool → Shared → Prop), i < n → V i v → LeS G G' → AMc i v G' mC → In outer [] s0 G0 G' L m ((C, .ns mC) :: (J, itf (i + 1)) :: (D, .ob (lstO ys k)) :: mu) s → (∀ s', In outer [] s0 G0 G' L m ((C, .ns mC) :: (J, itf (i + 1)) :: (D, .ob (lstO ys k)) :: mu) s' → Q' (b i) s') →
      wpAny (model prog w) A (forIn ifs true fun c r => if r = true then do let ok ← isTrue c (compEnvC scope cl C env) (eval c (compEnvC scope cl C env)); pure (ForInStep.yield ok) else pure (ForInStep.yield r)) Q' (fun _ _ => False) s)
    (helt : ∀ i v C D G' mC ys k s, i < n → b i = true → V i v → LeS G G' → AMc i v G' mC → In outer [] s0 G0 G' L m ((C, .ns mC) :: (J, itf (i + 1)) :: (D, .ob (lstO ys k)) :: mu) s →
      wpK (model prog w) A (eval elt (compEnvC scope cl C env)) (fun y s' => ∃ G'', LeS G' G'' ∧ In outer [] s0 G0 G'' L m ((C, .ns mC) :: (J, itf (i + 1)) :: (D, .ob (lstO ys k)) :: mu) s' ∧ Rd G'' y (d i)) (fun _ _ => False) s)
    (I : In outer [] s0 G0 G L m ((J, itf 0) :: mu) s)
    (hRR : ∀ D C G' mC ys k s', LeS G G' → In outer [] s0 G0 G' L m ((C, .ns mC) :: (D, .ob (lstO ys k)) :: mu) s' → RdL G' ys (emit b d n) → RR (.ref D) C (.ok .next) s') :
    wpAny (model prog w) A (newList []) (fun acc s₃ => wpAny (model prog w) A (newFunctionEnv scope env.globals cl [] env.qual none .none (some env)) (fun cenv s₄ =>
      codeK (model prog w) A (.compStart (.ListComp elt [⟨target, iter, ifs, 0⟩] scope pos) 0 (.ref J) acc { cenv with scope := relabel scope env }) (RR acc cenv.locals) s₄) E s₃) E s := by
  refine wpAny_newObj_type ?_
  have I1 := I.alloc (lstO [] 0) s.toks
  refine wpAny_newFunctionEnv hcell (by intro y hy; simp at hy) (fun h₁ hns₁ hsb₁ => ?_) hkind
  generalize s.heap.objs.size = D at I1 hns₁ hsb₁ ⊢
  have I2 := I1.newNs (h' := h₁) s.toks hns₁ (fun b o e => hsb₁.extBut b o (Nat.ne_of_lt (Heap.lt_size e)) (Heap.get?_push_of_some _ e))
  generalize hC : ({ s with heap := s.heap.push (lstO [] 0), toks := s.toks } : Shared).heap.objs.size = C at I2
  clear hC
  show codeK _ A (.compStart _ 0 (.ref J) (.ref D) (compEnvC scope cl C env)) (RR (.ref D) C) _
  replace I2 := I2.tok (s.toks + ([] : List (Str × Value)).length)
  replace I2 := I2.perm (mu' := (J, itf 0) :: (C, .ns fun x => (([] : List (Str × Value)).reverse.lookup x)) :: (D, .ob (lstO [] 0)) :: mu) (perm3'' _ _ _ _)
  have loop : ∀ (sL : Shared) mC, In outer [] s0 G0 G L m ((J, itf 0) :: (C, .ns mC) :: (D, .ob (lstO [] 0)) :: mu) sL → codeK (model prog w) A (.compLoop (.ListComp elt [⟨target, iter, ifs, 0⟩] scope pos) 0 (.ref J) (.ref D) (compEnvC scope cl C env)) (RR (.ref D) C) sL := by
    intro sL mC I
    refine codeK_compLoop (fun j s => ∃ G' mC ys k, LeS G G' ∧ j ≤ n ∧ RdL G' ys (emit b d (n - j)) ∧ In outer [] s0 G0 G' L m ((J, itf (n - j)) :: (C, .ns mC) :: (D, .ob (lstO ys k)) :: mu) s) ?_ n ⟨G, mC, [], 0, .refl _, Nat.le_refl _, by rw [Nat.sub_self]; exact .nil, by rw [Nat.sub_self]; exact I⟩
    rintro j s ⟨G', mC, ys, k, hle, hj, rys, I⟩
    cases j with
    | zero => exact wpK_of (X.done _ _ _ _ _ _ hle I fun s' I' => hRR D C G' mC ys k s' hle I' (by simpa using rys))
    | succ j =>
      have hlt : n - (j + 1) < n := by omega
      obtain ⟨i, hi⟩ : ∃ i, i = n - (j + 1) := ⟨_, rfl⟩
      have e2 : n - j = i + 1 := by omega
      rw [← hi] at hlt I rys
      refine wpK_of (X.item _ _ _ _ _ _ _ hlt hle I fun v s' hv I' => ?_)
      refine wpK_of (hlet i v G' _ s' _ hv hle I' ?_)
      refine wpK_of (hasg i v C G' mC _ s' _ hlt hv hle I'.swap fun mC' s₂ hA I2 => ?_)
      refine wpK_of (htest i v C D G' mC' ys k s₂ _ hlt hv hle hA I2 fun s₃ I3 => ?_)
      have hys : ys.length < 2 ^ 20 := by rw [rys.length]; have := emit_len b d i; omega
      cases hb : b i with
      | false =>
        rw [if_neg (by decide)]
        exact ⟨j, by omega, G', mC', ys, k, hle, by omega, by rw [e2, emit, hb]; simpa using rys, by rw [e2]; exact I3.swap⟩
      | true =>
        rw [if_pos rfl]
        refine wpK_mono (helt i v C D G' mC' ys k s₃ hlt hb hv hle hA I3) (fun y s₄ h₄ => ?_) fun _ _ x => x
        obtain ⟨G'', hle2, I4, ry⟩ := h₄
        have I5 := I4.perm (mu' := (D, .ob (lstO ys k)) :: (J, itf (i + 1)) :: (C, .ns mC') :: mu) (perm3 _ _ _ _)
        refine wpK_of (I5.append hys fun h' k' I6 => ⟨j, by omega, G'', mC', ys ++ [y], k', hle.trans hle2, by omega, ?_, by rw [e2]; exact I6.perm (perm3' _ _ _ _)⟩)
        rw [e2, emit, hb]
        exact (rys.mono hle2).append (.cons ry .nil)
  exact codeK_compStart (loop _ _ I2) (X.self 0 _ G _ _ _ _ (.refl _) I2 (loop _ _ I2))
end
end Mine

end
section
open PySem PySem.W PyProof.Rows PySem.Calls PySem.NumText
namespace Mine

section
variable {outer : List Env} {s0 s : Shared} {G0 G : Store} {L : Addr} {m : Str → Option Value} {mu : List (Addr × It)} {prog : Program} {w : World} {A : Around} {E : Value → Shared → Prop} {env : Env} {sc : Scope}

/-- what the turns of a comprehension do -/
structure Job (prog : Program) (w : World) (A : Around) (outer : List Env) (s0 : Shared) (G0 : Store) (L : Addr) (m : Str → Option Value) (mu : List (Addr × It)) (env : Env) (G : Store) (J : Addr) (itf : Nat → It) (n : Nat) (V : Nat → Value → Prop)
    (elt target : Expr) (ifs : List Expr) (scope : Scope) (cl : List (Str × Addr)) (AMc : Nat → Value → Store → (Str → Option Value) → Prop) (b : Nat → Bool) (d : Nat → Dat) : Prop where
  tup : ∀ i v G' mu' s (Q' : Unit → Shared → Prop), V i v → LeS G G' → In outer [] s0 G0 G' L m ((J, itf (i + 1)) :: mu') s → Q' () s → wpAny (model prog w) A (letOwnedTupleGo target (.ref J) v) Q' (fun _ _ => False) s
  asg : ∀ i v C G' mC mu' s (Q' : Unit → Shared → Prop), i < n → V i v → LeS G G' → In outer [] s0 G0 G' L m ((C, .ns mC) :: mu') s → (∀ mC' s', AMc i v G' mC' → In outer [] s0 G0 G' L m ((C, .ns mC') :: mu') s' → Q' () s') → wpAny (model prog w) A (assign target (compEnvC scope cl C env) v) Q' (fun _ _ => False) s
  test : ∀ i v C D G' mC ys k s (Q' : Bool → Shared → Prop), i < n → V i v → LeS G G' → AMc i v G' mC → In outer [] s0 G0 G' L m ((C, .ns mC) :: (J, itf (i + 1)) :: (D, .ob (lstO ys k)) :: mu) s → (∀ s', In outer [] s0 G0 G' L m ((C, .ns mC) :: (J, itf (i + 1)) :: (D, .ob (lstO ys k)) :: mu) s' → Q' (b i) s') →
      wpAny (model prog w) A (forIn ifs true fun c r => if r = true then do let ok ← isTrue c (compEnvC scope cl C env) (eval c (compEnvC scope cl C env)); pure (ForInStep.yield ok) else pure (ForInStep.yield r)) Q' (fun _ _ => False) s
  elt : ∀ i v C D G' mC ys k s, i < n → b i = true → V i v → LeS G G' → AMc i v G' mC → In outer [] s0 G0 G' L m ((C, .ns mC) :: (J, itf (i + 1)) :: (D, .ob (lstO ys k)) :: mu) s →
      wpK (model prog w) A (eval elt (compEnvC scope cl C env)) (fun y s' => ∃ G'', LeS G' G'' ∧ In outer [] s0 G0 G'' L m ((C, .ns mC) :: (J, itf (i + 1)) :: (D, .ob (lstO ys k)) :: mu) s' ∧ Rd G'' y (d i)) (fun _ _ => False) s

/-- a source stands ready, and a job over it -/
def Ready (prog : Program) (w : World) (A : Around) (outer : List Env) (s0 : Shared) (G0 : Store) (L : Addr) (env : Env) (elt target : Expr) (ifs : List Expr) (scope : Scope) (cl : List (Str × Addr))
    (Fin : Store → Store → (Str → Option Value) → List (Addr × It) → List Dat → Prop) (it : Value) (s : Shared) : Prop :=
  ∃ J itf n V G m mu AMc b d, it = .ref J ∧ Src prog w A outer s0 G0 L G J itf n V ∧ n < 2 ^ 20 ∧ Job prog w A outer s0 G0 L m mu env G J itf n V elt target ifs scope cl AMc b d ∧ In outer [] s0 G0 G L m ((J, itf 0) :: mu) s ∧ ∀ G', LeS G G' → Fin G G' m mu (emit b d n)

theorem compE {elt target iter : Expr} {ifs : List Expr} {scope : Scope} {cl : List (Str × Addr)} {pos : Pos} {Q : Value → Shared → Prop}
    (hclos : closureFor scope env = pure cl) (hcell : ∀ y ∈ scope.names, y.2 ≠ .cell) (hkind : scope.kind = .function) (hnames : ∀ y ∈ scope.names, y.2 = .local → scope.names.lookup y.1 = some .local)
    (h : wpK (model prog w) A (eval iter env) (fun xv s₁ => wpAny (model prog w) A (pyIter xv) (Ready prog w A outer s0 G0 L env elt target ifs scope cl
      (fun _ G' m mu ds => ∀ D ys k s', In outer [] s0 G0 G' L m ((D, .ob (lstO ys k)) :: mu) s' → RdL G' ys ds → Q (.ref D) s')) E s₁) E s)
    (hs : ∀ x, foldedSetIterable iter env x = pure x := by intro _; rfl) :
    wpK (model prog w) A (eval (.ListComp elt [⟨target, iter, ifs, 0⟩] scope pos) env) Q E s := by
  rw [eval_ListComp]
  refine wpK_comprehension (use := none) rfl hs hclos hkind hnames (wpK_mono h (fun xv s₁ h₁ => wpAny_mono h₁ (fun it s₂ h₂ => ?_) fun _ _ y => y) fun _ _ y => y)
  obtain ⟨J, itf, n, V, G, m, mu, AMc, b, d, rfl, X, hn, Jb, I, hfin⟩ := h₂
  refine compBlock X AMc b d hn hcell hkind Jb.tup Jb.asg Jb.test Jb.elt I fun D C G' mC ys k s' hle I' r => ?_
  refine ⟨mC, I'.head_at, fun h' hs' => ?_⟩
  exact hfin G' hle D ys k _ (I'.extBut s'.toks hs'.extBut) r

theorem compA {elt target iter : Expr} {ifs : List Expr} {scope : Scope} {cl : List (Str × Addr)} {y : Str} {py pos spos : Pos} {Q : Flow → Shared → Prop} (e : EnvOk env sc L) (hky : sc.names.lookup y = some .local)
    (hsw : swapsWith (.ListComp elt [⟨target, iter, ifs, 0⟩] scope pos) (some (.Name y py)) spos.line env = pure true)
    (hclos : closureFor scope env = pure cl) (hcell : ∀ y ∈ scope.names, y.2 ≠ .cell) (hkind : scope.kind = .function) (hnames : ∀ y ∈ scope.names, y.2 = .local → scope.names.lookup y.1 = some .local)
    (h : wpK (model prog w) A (eval iter env) (fun xv s₁ => wpAny (model prog w) A (pyIter xv) (Ready prog w A outer s0 G0 L env elt target ifs scope cl
      (fun _ G' m mu ds => ∀ D ys k s', In outer [] s0 G0 G' L (upd m y (.ref D)) ((D, .ob (lstO ys k)) :: mu) s' → RdL G' ys ds → Q .next s')) (fun _ _ => False) s₁) (fun _ _ => False) s)
    (hs : ∀ x, foldedSetIterable iter env x = pure x := by intro _; rfl) :
    wpK (model prog w) A (exec (.Assign [.Name y py] (.ListComp elt [⟨target, iter, ifs, 0⟩] scope pos) spos) env) Q (fun _ _ => False) s := by
  rw [exec_Assign_Name_used _ _ _ _ hsw]
  refine wpK_bind (wpK_standAt (wpK_bind ?_))
  show wpK _ A (do let _ ← comprehension (.ListComp elt [⟨target, iter, ifs, 0⟩] scope pos) scope env _ (newList []) false (eval iter env) (some (assign (.Name y py) env))) _ _ s
  refine wpK_bind (wpK_mono (wpK_comprehension (use := some (assign (.Name y py) env)) (Q := fun _ s' => Q .next s') rfl hs hclos hkind hnames
    (wpK_mono h (fun xv s₁ h₁ => wpAny_mono h₁ (fun it s₂ h₂ => ?_) fun _ _ y => y) fun _ _ y => y)) (fun _ s' hq => wpK_pure (wpK_pure hq)) fun _ _ e => e)
  obtain ⟨J, itf, n, V, G, m, mu, AMc, b, d, rfl, X, hn, Jb, I, hfin⟩ := h₂
  refine compBlock X AMc b d hn hcell hkind Jb.tup Jb.asg Jb.test Jb.elt I fun D C G' mC ys k s' hle I' r => ?_
  show wpAny _ A (assign (.Name y py) env (.ref D)) _ _ _
  refine wpAny_assign_Name (stLs e I' hky fun s'' I2 => ⟨mC, I2.head_at, fun h' hs' => ?_⟩)
  exact hfin G' hle D ys k _ (I2.extBut s''.toks hs'.extBut) r

/-! ### names in a comprehension -/
theorem kind_compC {scope : Scope} {cl : List (Str × Addr)} {C : Addr} {x : Str} (h : scope.names.lookup x = some .local) : Env.kindOf (compEnvC scope cl C env) x = some .local := lookup_relabel_local h
theorem asgC {scope : Scope} {cl : List (Str × Addr)} {C : Addr} {x : Str} {px : Pos} {v : Value} {mC : Str → Option Value} {Q : Unit → Shared → Prop} (hkind : scope.kind = .function) (hx : scope.names.lookup x = some .local)
    (I : In outer [] s0 G0 G L m ((C, .ns mC) :: mu) s) (h : ∀ s', In outer [] s0 G0 G L m ((C, .ns (upd mC x v)) :: mu) s' → Q () s') : wpAny (model prog w) A (assign (.Name x px) (compEnvC scope cl C env) v) Q E s :=
  wpAny_assign_Name (wpAny_storeName_local (lookup_relabel_local hx) I.head_at (fun h' hn hs => h _ (I.setMu _ (i' := .ns (upd mC x v)) hn hs)) (by simp [compEnvC, relabel, hkind]))
theorem ldC {scope : Scope} {cl : List (Str × Addr)} {C : Addr} {x : Str} {px : Pos} {v : Value} {mC : Str → Option Value} {Q : Value → Shared → Prop} (hkind : scope.kind = .function) (hx : scope.names.lookup x = some .local)
    (I : In outer [] s0 G0 G L m ((C, .ns mC) :: mu) s) (hv : mC x = some v) (h : Q v s) (hd : (x == ("__debug__" : Str)) = false := by decide +kernel) : wpAny (model prog w) A (eval (.Name x px) (compEnvC scope cl C env)) Q E s :=
  wpAny_Name (wpAny_loadName_local (m := mC) (by simp [compEnvC, relabel, hkind]) (kind_compC hx) I.head_at hv h) hd

/-- a job whose target is a name, over a source, no test -/
theorem Job.name {elt : Expr} {x : Str} {px : Pos} {scope : Scope} {cl : List (Str × Addr)} {J : Addr} {itf : Nat → It} {n : Nat} {V : Nat → Value → Prop} {d : Nat → Dat} (hkind : scope.kind = .function) (hx : scope.names.lookup x = some .local)
    (helt : ∀ i v C D G' mC ys k s, i < n → V i v → LeS G G' → mC x = some v → In outer [] s0 G0 G' L m ((C, .ns mC) :: (J, itf (i + 1)) :: (D, .ob (lstO ys k)) :: mu) s →
      wpK (model prog w) A (eval elt (compEnvC scope cl C env)) (fun y s' => ∃ G'', LeS G' G'' ∧ In outer [] s0 G0 G'' L m ((C, .ns mC) :: (J, itf (i + 1)) :: (D, .ob (lstO ys k)) :: mu) s' ∧ Rd G'' y (d i)) (fun _ _ => False) s) :
    Job prog w A outer s0 G0 L m mu env G J itf n V elt (.Name x px) [] scope cl (fun _ v _ mC => mC x = some v) (fun _ => true) d where
  tup := fun i v G' mu' s Q' _ _ _ hq => wpAny_pure hq
  asg := fun i v C G' mC mu' s Q' _ _ _ I hq => asgC hkind hx I fun s' I' => hq _ s' upd_same I'
  test := fun i v C D G' mC ys k s Q' _ _ _ _ I hq => wpAny_tests_nil (hq _ I)
  elt := fun i v C D G' mC ys k s hi _ hv hle hA I => helt i v C D G' mC ys k s hi hv hle hA I
end
end Mine

end
section
open PySem PySem.W PyProof.Rows PySem.Calls PySem.NumText PySem.SeqAt
namespace Mine

/-! ## a value reads as one datum alone -/
mutual
theorem Rd.uniq {G : Store} : ∀ {v : Value} {d d' : Dat}, Rd G v d → Rd G v d' → d = d'
  | _, _, _, .none, .none => rfl
  | _, _, _, .int _ _, .int _ _ => rfl
  | _, _, _, .str _ _, .str _ _ => rfl
  | _, _, _, .tuple h r, .tuple h' r' => by
    rw [h] at h'
    injection h' with e
    have e1 : Data.seq _ _ = Data.seq _ _ := congrArg Obj.data e
    injection e1 with e2 _
    have e3 := congrArg Array.toList e2
    simp only at e3
    subst e3
    rw [RdL.uniq r r']
  | _, _, _, .list h r, .list h' r' => by
    rw [h] at h'
    injection h' with e
    have e1 : Data.seq _ _ = Data.seq _ _ := congrArg Obj.data e
    injection e1 with e2 _
    have e3 := congrArg Array.toList e2
    simp only at e3
    subst e3
    rw [RdL.uniq r r']
  | _, _, _, .tuple h r, .list h' r' => by
    rw [h] at h'
    injection h' with e
    have e1 := congrArg Obj.cls e
    simp at e1
  | _, _, _, .list h r, .tuple h' r' => by
    rw [h] at h'
    injection h' with e
    have e1 := congrArg Obj.cls e
    simp at e1
theorem RdL.uniq {G : Store} : ∀ {vs : List Value} {ds ds' : List Dat}, RdL G vs ds → RdL G vs ds' → ds = ds'
  | _, _, _, .nil, .nil => rfl
  | _, _, _, .cons h r, .cons h' r' => by rw [Rd.uniq h h', RdL.uniq r r']
end

open Classical in
noncomputable def eqV (G : Store) (dx : Dat) (y : Value) : Bool := decide (Rd G y dx)
open Classical in
theorem eqV_iff {G : Store} {dx dy : Dat} {y : Value} (r : Rd G y dy) : eqV G dx y = true ↔ dy = dx := by
  unfold eqV
  rw [decide_eq_true_iff]
  exact ⟨fun h => r.uniq h, fun e => e ▸ r⟩
open Classical in
theorem eqV_any {G : Store} {dx : Dat} {vs : List Value} {ds : List Dat} (h : RdL G vs ds) : vs.toArray.any (eqV G dx) = decide (dx ∈ ds) := by
  rw [List.any_toArray]
  induction vs generalizing ds with
  | nil => cases h; simp
  | cons v vs ih =>
    cases h with
    | cons r rs =>
      rename_i d ds
      rw [List.any_cons, ih rs]
      have := eqV_iff (dx := dx) r
      by_cases e : d = dx
      · rw [this.mpr e]; simp [e]
      · have h0 : eqV G dx v = false := by cases q : eqV G dx v with | false => rfl | true => exact absurd (this.mp q) e
        rw [h0]
        have e' : ¬ dx = d := fun q => e q.symm
        simp [e']

section
variable {outer : List Env} {s0 s : Shared} {G0 G : Store} {L : Addr} {m : Str → Option Value} {mu : List (Addr × It)} {prog : Program} {w : World} {A : Around} {E : Value → Shared → Prop} {env : Env} {sc : Scope}

open Classical in
/-- x in list, x not in list -/
theorem inList {r : Addr} {vs : List Value} {k n n' : Nat} {ds : List Dat} {x : Value} {dx : Dat} {Q : Value → Shared → Prop} (S : SubS G s.heap) (hr : s.heap.get? r = some (lstO vs k)) (hv : RdL G vs ds) (hx : Rd G x dx) (hok : ∀ d ∈ ds, kqdOk n d = true) (hokx : kqdOk n' dx = true) (hu : A.units + 1 + n < cLine)
    (h : Q (.bool (decide (dx ∈ ds))) s) : wpAny (model prog w) A (compareOp .In x (.ref r)) Q E s := by
  refine in_listAt (eqV G dx) (isL hr) (fun y hy => ?_) (by rw [eqV_any hv]; exact h)
  obtain ⟨i, hi⟩ := List.getElem?_of_mem (by simpa using hy : y ∈ vs)
  obtain ⟨d, hd, rd⟩ := hv.at hi
  exact eqAt_Rd S rd hx (hok d (List.mem_of_getElem? hd)) hokx hu _ (eqV_iff rd)
open Classical in
theorem notInList {r : Addr} {vs : List Value} {k n n' : Nat} {ds : List Dat} {x : Value} {dx : Dat} {Q : Value → Shared → Prop} (S : SubS G s.heap) (hr : s.heap.get? r = some (lstO vs k)) (hv : RdL G vs ds) (hx : Rd G x dx) (hok : ∀ d ∈ ds, kqdOk n d = true) (hokx : kqdOk n' dx = true) (hu : A.units + 1 + n < cLine)
    (h : Q (.bool (!decide (dx ∈ ds))) s) : wpAny (model prog w) A (compareOp .NotIn x (.ref r)) Q E s := by
  refine notIn_listAt (eqV G dx) (isL hr) (fun y hy => ?_) (by rw [eqV_any hv]; exact h)
  obtain ⟨i, hi⟩ := List.getElem?_of_mem (by simpa using hy : y ∈ vs)
  obtain ⟨d, hd, rd⟩ := hv.at hi
  exact eqAt_Rd S rd hx (hok d (List.mem_of_getElem? hd)) hokx hu _ (eqV_iff rd)
/-- list.index -/
theorem indexList {r : Addr} {vs : List Value} {k n n' j : Nat} {ds : List Dat} {x : Value} {dx : Dat} {Q : Value → Shared → Prop} (S : SubS G s.heap) (hr : s.heap.get? r = some (lstO vs k)) (hv : RdL G vs ds) (hx : Rd G x dx) (hok : ∀ d ∈ ds, kqdOk n d = true) (hokx : kqdOk n' dx = true) (hu : A.units + 1 + n < cLine) (hlen : ds.length < 2 ^ 20)
    (hj : ds[j]? = some dx) (hno : ∀ i, i < j → ds[i]? ≠ some dx) (h : Q (.int j s.toks) { s with toks := s.toks + 1 }) : wpAny (model prog w) A (call (.builtin "list.index") [.ref r, x]) Q E s := by
  have hjl : j < ds.length := (List.getElem?_eq_some_iff.mp hj).1
  have hvl := hv.length
  have ht : s.TypeIs (.ref r) "list" := ⟨_, hr, rfl⟩
  refine call_meets F.slot_list_index ht F.entry_list_index (F.args_list_index_2 (.ref r) x) (list_indexAt r vs.toArray k none #[] x (eqV G dx) j (by simp; omega) (by omega) ?_ fun i hi hij => ?_) ⟨hr, fun y hy => ?_, h⟩
  · obtain ⟨v, hv1, rv⟩ := hv.get hj
    have : vs.toArray[j]'(by simp; omega) = v := by
      have := (List.getElem?_eq_some_iff.mp hv1).2
      simpa using this
    rw [this]
    exact (eqV_iff rv).mpr rfl
  · have hi' : i < vs.length := by simpa using hi
    obtain ⟨d, hd, rd⟩ := hv.at (List.getElem?_eq_getElem hi')
    have : vs.toArray[i] = vs[i] := by simp
    rw [this]
    cases q : eqV G dx vs[i] with
    | false => rfl
    | true => exact absurd (by rw [hd, (eqV_iff rd).mp q]) (hno i hij)
  · obtain ⟨i, hi⟩ := List.getElem?_of_mem (by simpa using hy : y ∈ vs)
    obtain ⟨d, hd, rd⟩ := hv.at hi
    exact eqAt_Rd S rd hx (hok d (List.mem_of_getElem? hd)) hokx hu _ (eqV_iff rd)

theorem itemT {value slice : Expr} {r : Addr} {vs : List Value} {n k : Nat} {u : Tok} {x : Value} {Q : Value → Shared → Prop} (hl : s.heap.get? r = some (tupO vs n)) (hk : k < 2 ^ 60) (hx : vs[k]? = some x) (h : Q x s)
    (hs : subscripted slice false (.ref r) (.int k u) = operate [.ref r, .int k u] (getItem (.ref r) (.int k u)) := by with_unfolding_all rfl) :
    wpAny (model prog w) A (subscriptTail value slice (.ref r) (.int k u)) Q E s := by
  have hk' : (k : Int) < 2 ^ 60 := by exact_mod_cast hk
  have hlt := (List.getElem?_eq_some_iff.mp hx).1
  refine item_tupleT (l := vs) (j := k) ⟨_, hl, rfl, n, rfl⟩ (by omega) (by omega) ?_ hx h hs
  unfold seqIndex?
  simp
  omega

/-- [x[j] for x in r]: a job over a frozen list of tuples -/
theorem Job.item {x : Str} {px p1 p2 p3 : Pos} {scope : Scope} {cl : List (Str × Addr)} {J r : Addr} {vs : List Value} {k j : Nat} {ds : List Dat} {d : Nat → Dat} (hkind : scope.kind = .function) (hx : scope.names.lookup x = some .local) (hxd : (x == ("__debug__" : Str)) = false) (hj : j < 2 ^ 60)
    (hv : RdL G vs ds) (hd : ∀ i, i < vs.length → ∃ ts, ds[i]? = some (.tuple ts) ∧ ts[j]? = some (d i)) :
    Job prog w A outer s0 G0 L m mu env G J (lIter r) vs.length (fun i v => vs[i]? = some v) (.Subscript (.Name x p1) (.Constant (.int j) 0 p2) p3) (.Name x px) [] scope cl (fun _ v _ mC => mC x = some v) (fun _ => true) d :=
  Job.name hkind hx fun i v C D G' mC ys k s hi hvi hle hm I => by
    obtain ⟨dd, hdd, rd⟩ := hv.at hvi
    obtain ⟨ts, e1, e2⟩ := hd i hi
    rw [hdd] at e1
    cases e1
    cases rd with
    | tuple ht rt =>
    obtain ⟨y, hy, ry⟩ := rt.get e2
    refine wpK_of (Subscript_ (ldC hkind hx I hm (wpAny_Constant_int ?_) hxd))
    have I' := I.tok (s.toks + 1)
    refine itemT (I'.sub _ _ (hle _ _ ht)) hj hy ?_
    exact ⟨G', .refl _, I', ry.mono hle⟩
end
end Mine

end
section
open PySem PySem.W PyProof.Rows PySem.Calls PySem.NumText PySem.SeqAt
namespace Mine

/-! ## displays of constants -/
inductive ConstsAre : List Expr → List Dat → Prop
  | nil : ConstsAre [] []
  | int (i : Int) (k : Nat) (p : Pos) {es : List Expr} {ds : List Dat} : ConstsAre es ds → ConstsAre (.Constant (.int i) k p :: es) (.int i :: ds)
  | str (x : Str) (k : Nat) (p : Pos) {es : List Expr} {ds : List Dat} : ConstsAre es ds → ConstsAre (.Constant (.str x) k p :: es) (.str x :: ds)
section
variable {outer : List Env} {ex : List Addr} {s0 s : Shared} {G0 G : Store} {L : Addr} {m : Str → Option Value} {mu : List (Addr × It)} {prog : Program} {w : World} {A : Around} {E : Value → Shared → Prop} {env : Env} {sc : Scope}
theorem spl_cons {e : Expr} {rest : List Expr} {pos : Pos} {Q : List Value → Shared → Prop} (hst : starEach (e :: rest) env = (false, eval e env) :: starEach rest env)
    (h : wpAny (model prog w) A (eval e env) (fun v s₁ => wpAny (model prog w) A (spliced (backTo pos (starEach rest env))) (fun vs s₂ => Q (v :: vs) s₂) E s₁) E s) : wpAny (model prog w) A (spliced (backTo pos (starEach (e :: rest) env))) Q E s := by
  rw [hst]
  exact spliced_cons h
theorem spl_nil {pos : Pos} {Q : List Value → Shared → Prop} (h : Q [] s) : wpAny (model prog w) A (spliced (backTo pos (starEach [] env))) Q E s := spliced_nil h
theorem spl_consts {es : List Expr} {ds : List Dat} (c : ConstsAre es ds) {pos : Pos} : ∀ {Q : List Value → Shared → Prop} {s : Shared}, In outer ex s0 G0 G L m mu s → (∀ vs s', In outer ex s0 G0 G L m mu s' → RdL G vs ds → Q vs s') → wpAny (model prog w) A (spliced (backTo pos (starEach es env))) Q E s := by
  induction c with
  | nil => intro Q s I h; exact spl_nil (h _ _ I .nil)
  | int i k p c ih => intro Q s I h; exact spl_cons rfl (cInt (k := k) (pos := p) I fun t s' I' => ih I' fun vs s'' I'' r => h _ _ I'' (.cons (.int i t) r))
  | str x k p c ih => intro Q s I h; exact spl_cons rfl (cStr (k := k) (pos := p) I fun t s' I' => ih I' fun vs s'' I'' r => h _ _ I'' (.cons (.str x t) r))
theorem tupConsts {es : List Expr} {ds : List Dat} (c : ConstsAre es ds) {k : Nat} {pos : Pos} {Q : Value → Shared → Prop} (hl : ds.length < 2 ^ 20) (I : In outer [] s0 G0 G L m mu s)
    (h : ∀ R vs s', s'.heap.get? R = some (tupO vs 0) → In outer [] s0 G0 G L m mu s' → RdL G vs ds → Q (.ref R) s') : wpAny (model prog w) A (eval (.Tuple es k pos) env) Q E s := by
  refine wpAny_Tuple (spl_consts c I fun vs s' I' r => ⟨by rw [r.length, sizeLine_eq]; omega, ?_⟩)
  have I2 := I'.alloc (tupO vs 0) s'.toks
  exact h _ vs _ I2.head_at (I2.drop (.cons _ (.refl _))) r
/-- a written tuple at a reckoned place -/
theorem tupAt {es : List Expr} {ds : List Dat} (c : ConstsAre es ds) {k j : Nat} {d : Dat} {slice : Expr} {tp pos : Pos} {Q : Value → Shared → Prop} (hl : ds.length < 2 ^ 20) (hd : ds[j]? = some d) (I : In outer [] s0 G0 G L m mu s)
    (hsl : ∀ s' (Q' : Value → Shared → Prop), In outer [] s0 G0 G L m mu s' → (∀ t s'', In outer [] s0 G0 G L m mu s'' → (∀ a o, s'.heap.get? a = some o → s''.heap.get? a = some o) → Q' (.int j t) s'') → wpAny (model prog w) A (eval slice env) Q' E s')
    (hs : ∀ r u, subscripted slice false (.ref r) (.int j u) = operate [.ref r, .int j u] (getItem (.ref r) (.int j u)))
    (h : ∀ v s', In outer [] s0 G0 G L m mu s' → Rd G v d → Q v s') : wpAny (model prog w) A (eval (.Subscript (.Tuple es k tp) slice pos) env) Q E s := by
  refine Subscript_ (tupConsts c hl I fun R vs s' hR I' r => hsl s' _ I' fun t s'' I'' k => ?_)
  obtain ⟨v, hv, rv⟩ := r.get hd
  have hj := (List.getElem?_eq_some_iff.mp hd).1
  exact itemT (k _ _ hR) (by omega) hv (h v _ I'' rv) (hs _ _)

theorem EnvOk.kindOf (e : EnvOk env sc L) (x : Str) : env.kindOf x = sc.names.lookup x := by unfold Env.kindOf; rw [e.scope]
theorem EnvOk.blockKind (e : EnvOk env sc L) : env.blockKind = .function := by unfold Env.blockKind; rw [e.scope, e.kind]; rfl
theorem EnvOk.eta (e : EnvOk env sc L) : env = { env with scope := sc } := by cases env; cases e.scope; rfl
theorem modS {a b : Int} {t u : Tok} {Q : Value → Shared → Prop} (I : In outer ex s0 G0 G L m mu s) (hb : b ≠ 0) (h : ∀ t' s', In outer ex s0 G0 G L m mu s' → Q (.int (a.fmod b) t') s') : wpAny (model prog w) A (binaryOp .Mod (.int a t) (.int b u)) Q E s := mod_int' hb (h _ _ (I.tok _))
theorem fdivS {a b : Int} {t u : Tok} {Q : Value → Shared → Prop} (I : In outer ex s0 G0 G L m mu s) (hb : b ≠ 0) (hb2 : b.natAbs < 1073741824) (h : ∀ t' s', In outer ex s0 G0 G L m mu s' → Q (.int (a.fdiv b) t') s') : wpAny (model prog w) A (binaryOp .FloorDiv (.int a t) (.int b u)) Q E s :=
  floordiv_int hb (h _ _ (I.tok _)) (.inl (PyProof.noPylong_small hb2))
theorem subS {a b : Int} {t u : Tok} {Q : Value → Shared → Prop} (I : In outer ex s0 G0 G L m mu s) (h : ∀ t' s', In outer ex s0 G0 G L m mu s' → Q (.int (a - b) t') s') : wpAny (model prog w) A (binaryOp .Sub (.int a t) (.int b u)) Q E s := PyProof.Rows.sub_int (h _ _ (I.tok _))
theorem addI {a b : Int} {t u : Tok} {Q : Value → Shared → Prop} (I : In outer ex s0 G0 G L m mu s) (h : ∀ t' s', In outer ex s0 G0 G L m mu s' → Q (.int (a + b) t') s') : wpAny (model prog w) A (binaryOp .Add (.int a t) (.int b u)) Q E s := add_int (h _ _ (I.tok _))
theorem powS {a b : Int} {t u : Tok} {Q : Value → Shared → Prop} (I : In outer ex s0 G0 G L m mu s) (hb : 0 ≤ b) (hb2 : b ≤ 1000000) (ha : a.natAbs < 2 ^ 64) (h : ∀ t' s', In outer ex s0 G0 G L m mu s' → Q (.int (a ^ b.toNat) t') s') : wpAny (model prog w) A (binaryOp .Pow (.int a t) (.int b u)) Q E s := pow_int_small hb hb2 ha (h _ _ (I.tok _))
theorem unpackS {R : Addr} {vs : List Value} {k : Nat} {Q : List Value → Shared → Prop} (hh : A.handled = none) (I : In outer [] s0 G0 G L m mu s) (hr : s.heap.get? R = some (tupO vs k)) (h : ∀ s', In outer [] s0 G0 G L m mu s' → Q vs s') : wpAny (model prog w) A (unpackItems (.ref R) vs.length none) Q E s := by
  have := wpAny_unpackItems_tuple (prog := prog) (w := w) (A := A) (E := E) (Q := Q) hh (isT hr) fun h' hs => h _ (I.grow s.toks (fun b o eb => hs b o (Nat.ne_of_lt (Heap.lt_size eb)) eb))
  simpa using this
/-- a tuple display whose items read as data: it is frozen -/
theorem tupE {es : List Expr} {k : Nat} {pos : Pos} {Q : Value → Shared → Prop}
    (h : wpAny (model prog w) A (spliced (backTo pos (starEach es env))) (fun vs s' => ∃ G1 ds m1 mu1, In outer [] s0 G0 G1 L m1 mu1 s' ∧ RdL G1 vs ds ∧ vs.length < 2 ^ 20 ∧ ∀ R G' s'', LeS G1 G' → In outer [] s0 G0 G' L m1 mu1 s'' → Rd G' (.ref R) (.tuple ds) → Q (.ref R) s'') E s) :
    wpAny (model prog w) A (eval (.Tuple es k pos) env) Q E s := by
  refine wpAny_Tuple (wpAny_mono h (fun vs s' h' => ?_) fun _ _ y => y)
  obtain ⟨G1, ds, m1, mu1, I, r, hl, hq⟩ := h'
  refine ⟨by rw [sizeLine_eq]; omega, ?_⟩
  have I2 := I.alloc (tupO vs 0) s'.toks
  have le := Store.le_put (o := tupO vs 0) I2.head_none
  exact hq _ _ _ le (I2.freeze (by simp)) (.tuple (Store.put_self _ _ _) (r.mono le))
theorem callTypeGlA {x : Str} {np pos : Pos} {T : String} {args : List Expr} {a : Sem Value} {rest : List (Bool × Sem Value)} {Q : Value → Shared → Prop}
    (e : EnvOk env sc L) (S : SubS G s.heap) (P : PG w G) (hk : sc.names.lookup x = some .globalImplicit) (hx : (x, .type T) ∈ gtab) (hargs : backTo pos (starEach args env) = (false, a) :: rest) (hplain : rest.any (·.1) = false)
    (h : wpAny (model prog w) A (spliced ((false, a) :: rest)) (fun vs s₁ => wpAny (model prog w) A (call (.type T) vs) Q E s₁) E s) (hd : (x == ("__debug__" : Str)) = false := by decide +kernel) :
    wpAny (model prog w) A (eval (.Call (.Name x np) args [] pos) env) Q E s := by
  refine wpAny_Call_NameR (ldGl e S P hk hx ?_ hd)
  rw [hargs]
  exact PySem.callWith_type (by simp [hplain]) (evalArgs_plain h)
theorem addS {x y : Str} {t u : Tok} {Q : Value → Shared → Prop} (I : In outer ex s0 G0 G L m mu s) (hl : x.length + y.length < 2 ^ 20) (h : ∀ t' s', In outer ex s0 G0 G L m mu s' → Q (.str (x ++ y) t') s') : wpAny (model prog w) A (binaryOp .Add (.str x t) (.str y u)) Q E s := by
  have app : ∀ a b : Str, (a ++ b).cps = a.cps ++ b.cps := fun _ _ => rfl
  have nil : ∀ a : Str, (a.length == 0) = true → a.cps = #[] := fun a ha => by
    have h0 : a.length = 0 := by simpa using ha
    exact Array.eq_empty_of_size_eq_zero h0
  refine PySem.P.add_str ?_
  cases hx : x.length == 0 with
  | true =>
    have : x ++ y = y := by
      have e : (x ++ y).cps = y.cps := by rw [app, nil x hx]; simp
      cases y; cases x; exact congrArg Str.mk e
    simp only [if_true]
    rw [this] at h
    exact h u s I
  | false =>
    simp only [Bool.false_eq_true, if_false]
    cases hy : y.length == 0 with
    | true =>
      have : x ++ y = x := by
        have e : (x ++ y).cps = x.cps := by rw [app, nil y hy]; simp
        cases y; cases x; exact congrArg Str.mk e
      simp only [if_true]
      rw [this] at h
      exact h t s I
    | false =>
      simp only [Bool.false_eq_true, if_false]
      exact ⟨by show (x ++ y).cps.size ≤ sizeLine; rw [app, Array.size_append, sizeLine_eq]; have : x.cps.size + y.cps.size < 2 ^ 20 := hl; omega, h _ _ (I.tok _)⟩
end

/-! ## fields -/
def wordsL : List Str := ["x", "dev", "alpha", "b", "rc", "pl"]
def wranksL : List Int := [0, 10, 20, 30, 50, 200]
def numsL : List Int := [0, 2, 9, 10, 11, 100]
def presL : List Str := ["", "0", "+", "-"]
structure Fld where
  text : Str
  rank : Int
  val : Dat
  plain : Option Str
def plainD : Option Str → Dat
  | some p => .str p
  | none => .none
def Fld.D (f : Fld) : Dat := .tuple [.str f.text, .tuple [.int f.rank, f.val], plainD f.plain]
def wordF (k : Nat) : Fld := ⟨wordsL.getD k Str.empty, wranksL.getD k 0, .str (wordsL.getD k Str.empty), none⟩
def numF (k dr : Nat) : Fld := ⟨presL.getD (dr - 1) Str.empty ++ (toString (numsL.getD k 0) : String), 100, .int (numsL.getD k 0), some (toString (if dr = 4 then -(numsL.getD k 0) else numsL.getD k 0) : String)⟩
def fld (c : Nat) : Fld := if c % 5 = 0 then wordF (c / 5) else numF (c / 5) (c % 5)

end Mine

end
section
open PySem PySem.W PyProof.Rows PySem.Calls PySem.NumText PySem.SeqAt
namespace Mine
section
variable {outer : List Env} {s : Shared} {G : Store} {prog : Program} {w : World} {A : Around} {E : Value → Shared → Prop}
theorem whichAt {c : Nat} {t4 : Tok} {s0 : Shared} {L : Addr} {env : Env} {es : List Expr} {ds : List Dat} (e : EnvOk env (fdScope (stm 11)) L) (c1 : ConstsAre es ds) (hl : ds.length = 6) {d : Dat} (hd : ds[c / 5]? = some d) {m' : Str → Option Value} (hm' : m' ("which" : Str) = some (.int (c / 5 : Nat) t4)) {G' : Store} {s' : Shared} (I : In outer [] s0 G G' L m' [] s') {tp np pos : Pos} {Q' : Value → Shared → Prop} {E' : Value → Shared → Prop}
    (h : ∀ v s'', In outer [] s0 G G' L m' [] s'' → Rd G' v d → Q' v s'') : wpAny (model prog w) A (eval (.Subscript (.Tuple es 0 tp) (.Name ("which" : Str) np) pos) env) Q' E' s' :=
  tupAt c1 (by omega) hd I (fun s'' Q'' I' hq => ldL e I' (by kernel_rfl) hm' (hq _ _ I' fun a o eo => eo)) (fun r u => by with_unfolding_all rfl) h

theorem words_are {k1 k2 k3 k4 k5 k6 : Nat} {p1 p2 p3 p4 p5 p6 : Pos} : ConstsAre [.Constant (.str ("x" : Str)) k1 p1, .Constant (.str ("dev" : Str)) k2 p2, .Constant (.str ("alpha" : Str)) k3 p3, .Constant (.str ("b" : Str)) k4 p4, .Constant (.str ("rc" : Str)) k5 p5, .Constant (.str ("pl" : Str)) k6 p6] (wordsL.map Dat.str) :=
  .str _ _ _ (.str _ _ _ (.str _ _ _ (.str _ _ _ (.str _ _ _ (.str _ _ _ .nil)))))
theorem pres_are {k1 k2 k3 k4 : Nat} {p1 p2 p3 p4 : Pos} : ConstsAre [.Constant (.str ("" : Str)) k1 p1, .Constant (.str ("0" : Str)) k2 p2, .Constant (.str ("+" : Str)) k3 p3, .Constant (.str ("-" : Str)) k4 p4] (presL.map Dat.str) :=
  .str _ _ _ (.str _ _ _ (.str _ _ _ (.str _ _ _ .nil)))
theorem six_are {a1 a2 a3 a4 a5 a6 : Int} {k1 k2 k3 k4 k5 k6 : Nat} {p1 p2 p3 p4 p5 p6 : Pos} : ConstsAre [.Constant (.int a1) k1 p1, .Constant (.int a2) k2 p2, .Constant (.int a3) k3 p3, .Constant (.int a4) k4 p4, .Constant (.int a5) k5 p5, .Constant (.int a6) k6 p6] ([a1, a2, a3, a4, a5, a6].map Dat.int) :=
  .int _ _ _ (.int _ _ _ (.int _ _ _ (.int _ _ _ (.int _ _ _ (.int _ _ _ .nil)))))

theorem field_word {c : Nat} {t4 : Tok} {s0 : Shared} {L : Addr} {env : Env} {m : Str → Option Value} {p1 p2 p3 p4 p5 p6 p7 p8 p9 q1 q2 q3 q4 q5 : Pos} {es1 es2 : List Expr} {Q : Flow → Shared → Prop} (c1 : ConstsAre es1 (wordsL.map Dat.str)) (c2 : ConstsAre es2 (wranksL.map Dat.int)) (hc : c / 5 < 6)
    (e : EnvOk env (fdScope (stm 11)) L) (I : In outer [] s0 G G L m [] s) (hw : m ("which" : Str) = some (.int (c / 5 : Nat) t4)) (hQ : ∀ r s' G' m', In outer [] s0 G G' L m' [] s' → Rd G' r (wordF (c / 5)).D → Q (.ret r) s') :
    wpAny (model prog w) A (execs [.Assign [.Name ("word" : Str) p1] (.Subscript (.Tuple es1 0 p2) (.Name ("which" : Str) p3) p4) p5, .Return (some (.Tuple [.Name ("word" : Str) p6, .Tuple [.Subscript (.Tuple es2 0 p7) (.Name ("which" : Str) p8) p9, .Name ("word" : Str) q1] 0 q2, .Constant .none 0 q3] 0 q4)) q5] env) Q (fun _ _ => False) s := by
  have n3 : ("which" : Str) ≠ ("word" : Str) := by decide +kernel
  have hd1 : (wordsL.map Dat.str)[c / 5]? = some (.str (wordsL.getD (c / 5) Str.empty)) := by
    rw [List.getElem?_map, List.getD_eq_getElem?_getD, List.getElem?_eq_getElem (by exact hc)]; rfl
  have hd2 : (wranksL.map Dat.int)[c / 5]? = some (.int (wranksL.getD (c / 5) 0)) := by
    rw [List.getElem?_map, List.getD_eq_getElem?_getD, List.getElem?_eq_getElem (by exact hc)]; rfl
  refine wpAny_execs_cons (wpAny_Assign_Name (whichAt e c1 rfl hd1 hw I fun v s10 I rv => stLs e I (by kernel_rfl) fun s11 I => ?_))
  refine wpAny_execs_cons (wpAny_Return_some (tupE (outer := outer) (L := L) (s0 := s0) (G0 := G) (spl_cons rfl (ldL e I (by kernel_rfl) upd_same ?_))))
  refine spl_cons rfl (tupE (outer := outer) (L := L) (s0 := s0) (G0 := G) (spl_cons rfl (whichAt e c2 rfl hd2 (upd_to n3 hw) I fun v2 s12 I rv2 => spl_cons rfl (ldL e I (by kernel_rfl) upd_same (spl_nil ?_)))))
  refine ⟨G, _, _, _, I, .cons rv2 (.cons rv .nil), by simp, fun R1 G1 s13 le1 I r1 => ?_⟩
  refine spl_cons rfl (wpAny_Constant_none (spl_nil ⟨G1, _, _, _, I, .cons (rv.mono le1) (.cons r1 (.cons .none .nil)), by simp, fun R2 G2 s14 le2 I r2 => ?_⟩))
  exact hQ _ _ _ _ I r2

theorem field_num {c : Nat} {t2 t4 : Tok} {s0 : Shared} {L : Addr} {env : Env} {m : Str → Option Value} {p1 p2 p3 p4 p5 p6 p7 p8 p9 q1 q2 q3 q4 q5 q6 q7 q8 q9 r1 r2 r3 r4 r5 r6 r7 r8 r9 u1 u2 u3 u4 : Pos} {es1 es2 : List Expr} {Q : Flow → Shared → Prop} (c1 : ConstsAre es1 (numsL.map Dat.int)) (c2 : ConstsAre es2 (presL.map Dat.str)) (hc : c / 5 < 6) (h0 : c % 5 ≠ 0)
    (e : EnvOk env (fdScope (stm 11)) L) (P : PG w G) (I : In outer [] s0 G G L m [] s) (hw : m ("which" : Str) = some (.int (c / 5 : Nat) t4)) (hd : m ("dress" : Str) = some (.int (c % 5 : Nat) t2)) (hQ : ∀ r s' G' m', In outer [] s0 G G' L m' [] s' → Rd G' r (numF (c / 5) (c % 5)).D → Q (.ret r) s') :
    wpAny (model prog w) A (execs [.Assign [.Name ("number" : Str) p1] (.Subscript (.Tuple es1 0 p2) (.Name ("which" : Str) p3) p4) p5,
      .Assign [.Name ("plain" : Str) p6] (.Call (.Name ("str" : Str) p7) [.IfExp (.Compare (.Name ("dress" : Str) p8) [.Eq] [.Constant (.int 4) 0 p9] q1) (.UnaryOp .USub (.Name ("number" : Str) q2) q3) (.Name ("number" : Str) q4) q5] [] q6) q7,
      .Return (some (.Tuple [.BinOp (.Subscript (.Tuple es2 0 q8) (.BinOp (.Name ("dress" : Str) q9) .Sub (.Constant (.int 1) 0 r1) r2) r3) .Add (.Call (.Name ("str" : Str) r4) [.Name ("number" : Str) r5] [] r6) r7, .Tuple [.Constant (.int 100) 0 r8, .Name ("number" : Str) r9] 0 u1, .Name ("plain" : Str) u2] 0 u3)) u4] env) Q (fun _ _ => False) s := by
  have n5 : ("which" : Str) ≠ ("number" : Str) ∧ ("dress" : Str) ≠ ("number" : Str) ∧ ("number" : Str) ≠ ("plain" : Str) ∧ ("dress" : Str) ≠ ("plain" : Str) := by decide +kernel
  obtain ⟨n5, n6, n7, n8⟩ := n5
  have hd1 : (numsL.map Dat.int)[c / 5]? = some (.int (numsL.getD (c / 5) 0)) := by
    rw [List.getElem?_map, List.getD_eq_getElem?_getD, List.getElem?_eq_getElem (by exact hc)]; rfl
  have hd2 : (presL.map Dat.str)[c % 5 - 1]? = some (.str (presL.getD (c % 5 - 1) Str.empty)) := by
    rw [List.getElem?_map, List.getD_eq_getElem?_getD, List.getElem?_eq_getElem (by show c % 5 - 1 < 4; omega)]; rfl
  have hnum : ∀ k < 6, (numsL.getD k 0).natAbs.log2 < 1920 ∧ (-(numsL.getD k 0)).natAbs.log2 < 1920 ∧ (Str.ofString (toString (numsL.getD k 0))).length < 100 := by decide +kernel
  have hpre : ∀ k < 4, (presL.getD k Str.empty).length < 100 := by decide +kernel
  obtain ⟨z1, z2, z3⟩ := hnum (c / 5) hc
  have z4 := hpre (c % 5 - 1) (by omega)
  generalize hN : numsL.getD (c / 5) 0 = N at *
  generalize hPr : presL.getD (c % 5 - 1) Str.empty = pr at *
  refine wpAny_execs_cons (wpAny_Assign_Name (whichAt e c1 rfl hd1 hw I fun v s10 I rv => stLs e I (by kernel_rfl) fun s11 I => ?_))
  cases rv with
  | int _ tn =>
  have hdn : upd m ("number" : Str) (.int N tn) ("dress" : Str) = some (.int (c % 5 : Nat) t2) := upd_to n6 hd
  have e3 : ((c % 5 : Nat) : Int) - 1 = ((c % 5 - 1 : Nat) : Int) := by omega
  have fin : ∀ (p : Str) tp s13, p = Str.ofString (toString (if c % 5 = 4 then -N else N)) → In outer [] s0 G G L (upd m ("number" : Str) (.int N tn)) [] s13 →
      wpAny (model prog w) A (storeName env ("plain" : Str) (.str p tp)) (fun _ s' => wpAny (model prog w) A (execs [.Return (some (.Tuple [.BinOp (.Subscript (.Tuple es2 0 q8) (.BinOp (.Name ("dress" : Str) q9) .Sub (.Constant (.int 1) 0 r1) r2) r3) .Add (.Call (.Name ("str" : Str) r4) [.Name ("number" : Str) r5] [] r6) r7, .Tuple [.Constant (.int 100) 0 r8, .Name ("number" : Str) r9] 0 u1, .Name ("plain" : Str) u2] 0 u3)) u4] env) Q (fun _ _ => False) s') (fun _ _ => False) s13 := by
    intro p tp s13 hp I
    refine stLs e I (by kernel_rfl) fun s14 I => ?_
    refine wpAny_execs_cons (wpAny_Return_some (tupE (outer := outer) (L := L) (s0 := s0) (G0 := G) (spl_cons rfl (wpAny_BinOp ?_))))
    refine tupAt c2 (by decide) hd2 I (fun s15 Q'' I' hq => wpAny_BinOp (ldL e I' (by kernel_rfl) (upd_to n8 hdn) (wpAny_Constant_int (PyProof.Rows.sub_int ?_)))) (fun r u => by with_unfolding_all rfl) fun v2 s16 I rv2 => ?_
    · rw [e3]; exact hq _ _ ((I'.tok _).tok _) fun a o eo => eo
    cases rv2 with
    | str _ tv2 =>
    refine callTypeGlA e I.sub P (by kernel_rfl) (T := "str") (by decide +kernel) rfl rfl (spliced_cons (ldL e I (by kernel_rfl) (upd_to n7 upd_same) (spliced_nil (PySem.P.str_of_int z1 ?_))))
    refine addS (I.tok _) (by omega) fun t5 s17 I => ?_
    refine spl_cons rfl (tupE (outer := outer) (L := L) (s0 := s0) (G0 := G) (spl_cons rfl (cInt (k := 0) (pos := r8) I fun t6 s18 I => spl_cons rfl (ldL e I (by kernel_rfl) (upd_to n7 upd_same) (spl_nil ?_)))))
    refine ⟨G, _, _, _, I, .cons (.int _ t6) (.cons (.int _ tn) .nil), by simp, fun R1 G1 s19 le1 I r1 => ?_⟩
    refine spl_cons rfl (ldL e I (by kernel_rfl) upd_same (spl_nil ⟨G1, _, _, _, I, .cons (.str _ t5) (.cons r1 (.cons (.str p tp) .nil)), by simp, fun R2 G2 s20 le2 I r2 => ?_⟩))
    refine hQ _ _ _ _ I ?_
    unfold numF Fld.D
    rw [hN, hPr]
    rw [hp] at r2
    exact r2
  refine wpAny_execs_cons (wpAny_Assign_Name (callTypeGlA e I.sub P (by kernel_rfl) (T := "str") (by decide +kernel) rfl rfl (spliced_cons (wpAny_IfExp (pos := q5) (wpAny_isTrue_Compare1 (ldL e I (by kernel_rfl) hdn (cInt I fun t5 s12 I => PyProof.Rows.eq_int (wpAny_truthy_bool ?_))))))))
  by_cases h4 : c % 5 = 4
  · rw [if_pos (by simp [h4])]
    refine wpAny_UnaryOp (ldL e I (by kernel_rfl) upd_same (PySem.P.neg_int (spliced_nil (PySem.P.str_of_int z2 ?_))))
    exact fin _ _ _ (by rw [if_pos h4]) ((I.tok _).tok _)
  · rw [if_neg (by simp; omega)]
    refine ldL e I (by kernel_rfl) upd_same (spliced_nil (PySem.P.str_of_int z1 ?_))
    exact fin _ _ _ (by rw [if_neg h4]) (I.tok _)

theorem fieldK {n : Nat} {c : Nat} {t : Tok} {Q : Value → Shared → Prop} (hA : AOk A outer (n + 1)) (O : Ok outer G s) (P : PG w G) (hc : c < 30)
    (hQ : ∀ r s' G', Step (frs outer) [] G s G' s' → Rd G' r (fld c).D → Q r s') : wpK (model prog w) A (call (.ref 86) [.int c t]) Q E s := by
  refine enterK [] P.ffield P hA O (by simp) (fun pm cd => binds_field) (by kernel_rfl) (by kernel_rfl) rfl rfl rfl fun env s₁ A' L e hA' I _ => ?_
  obtain ⟨m, hm⟩ : ∃ m : Str → Option Value, m = (fun x_1 => List.lookup x_1 [(("code" : Str), Value.int (c : Nat) t)].reverse) := ⟨_, rfl⟩
  have mc : m ("code" : Str) = some (.int c t) := by rw [hm]; kernel_rfl
  rw [← hm] at I
  clear hm
  have hh := hA'.handled
  refine wpK_of (wpAny_execs_cons (Assign_Tuple_swapped (names := [("dress" : Str), ("which" : Str)]) ?_ rfl (by rw [e.eta]; kernel_rfl)))
  have n2 : ("dress" : Str) ≠ ("which" : Str) := by decide +kernel
  have e1 : ((c : Int).fmod 5) = ((c % 5 : Nat) : Int) := by rw [Int.fmod_eq_emod_of_nonneg _ (by decide)]; push_cast; rfl
  have e2 : ((c : Int).fdiv 5) = ((c / 5 : Nat) : Int) := by rw [Int.fdiv_eq_ediv_of_nonneg _ (by decide)]; push_cast; rfl
  refine wpAny_Tuple (spl_cons rfl (wpAny_BinOp (ldL e I (by kernel_rfl) mc (cInt I fun t1 s2 I => modS I (by decide) fun t2 s3 I => ?_))))
  refine spl_cons rfl (wpAny_BinOp (ldL e I (by kernel_rfl) mc (cInt I fun t3 s4 I => fdivS I (by decide) (by decide) fun t4 s5 I => spl_nil ⟨by simp [sizeLine_eq], ?_⟩)))
  rw [e1, e2]
  have I2 := I.alloc (tupO [.int (c % 5 : Nat) t2, .int (c / 5 : Nat) t4] 0) s5.toks
  refine unpackS (vs := [.int (c % 5 : Nat) t2, .int (c / 5 : Nat) t4]) hh (I2.drop (.cons _ (.refl _))) I2.head_at fun s6 I => ?_
  refine wpAny_assignInOrder_more (wpAny_bindName (stLs e I (by kernel_rfl) fun s7 I => ?_))
  refine wpAny_assignInOrder_more (wpAny_bindName (stLs e I (by kernel_rfl) fun s8 I => wpAny_assignInOrder_none ?_))
  have hd : upd (upd m ("which" : Str) (.int (c / 5 : Nat) t4)) ("dress" : Str) (.int (c % 5 : Nat) t2) ("dress" : Str) = some (.int (c % 5 : Nat) t2) := upd_same
  have hw : upd (upd m ("which" : Str) (.int (c / 5 : Nat) t4)) ("dress" : Str) (.int (c % 5 : Nat) t2) ("which" : Str) = some (.int (c / 5 : Nat) t4) := upd_to (Ne.symm n2) upd_same
  generalize upd (upd m ("which" : Str) (.int (c / 5 : Nat) t4)) ("dress" : Str) (.int (c % 5 : Nat) t2) = m2 at I hd hw
  have hc5 : c / 5 < 6 := by omega
  refine wpAny_execs_cons (wpAny_If (wpAny_isTrue_Compare1 (ldL e I (by kernel_rfl) hd (cInt I fun t5 s9 I => PyProof.Rows.eq_int (wpAny_truthy_bool ?_)))))
  by_cases h0 : c % 5 = 0
  · rw [if_pos (by simp [h0])]
    apply field_word (hc := hc5) (e := e) (I := I) (hw := hw)
    case c1 => exact words_are
    case c2 => exact six_are
    intro r s' G' m' I r1
    exact hQ _ _ _ I.toStep (by rw [show fld c = wordF (c / 5) from if_pos h0]; exact r1)
  · rw [if_neg (by simp; omega)]
    refine wpAny_execs_nil ?_
    apply field_num (hc := hc5) (h0 := h0) (e := e) (P := P) (I := I) (hw := hw) (hd := hd)
    case c1 => exact six_are
    case c2 => exact pres_are
    intro r s' G' m' I r1
    exact hQ _ _ _ I.toStep (by rw [show fld c = numF (c / 5) (c % 5) from if_neg h0]; exact r1)
end
end Mine

end
section
open PySem PySem.W PyProof.Rows PySem.Calls PySem.NumText PySem.SeqAt
namespace Mine
section
variable {outer : List Env} {ex : List Addr} {s0 s : Shared} {G0 G : Store} {L : Addr} {m : Str → Option Value} {mu : List (Addr × It)} {prog : Program} {w : World} {A : Around} {E : Value → Shared → Prop} {env : Env} {sc : Scope}

theorem wpK_Call_method {o : Expr} {name : Str} {apos pos : Pos} {args : List Expr} {T id : String} {Q : Value → Shared → Prop}
    (hbase : attributeBase o name env (eval o env) = eval o env)
    (hfew : ((backTo pos (starEach args env)).all (fun x => !x.1) && (backToKw pos (keywordEach [] env)).all (fun x => x.1.isSome)
      && decide (args.length + ([] : List Keyword).length + (if ([] : List Keyword).isEmpty then 0 else 1) < 30)) = true)
    (hline : (apos.endLine == pos.line) = true)
    (pa : PlainAttrs T) (slot : Slot T name id) (hty : typeOf (.builtin id) = pure (.type "method_descriptor"))
    (h : wpAny (model prog w) A (eval o env) (fun ov s₁ => s₁.TypeIs ov T ∧ (∀ a, ov = .ref a → ∃ ob, s₁.heap.get? a = some ob ∧ ob.dict = none) ∧
      wpK (model prog w) A (callWith pos (.builtin id) [ov] (backTo pos (starEach args env)) []) Q E s₁) E s) :
    wpK (model prog w) A (eval (.Call (.Attribute o name apos) args [] pos) env) Q E s := by
  rw [arm_eval_Call, hbase]
  refine wpK_bind (wpK_of (wpAny_mono h (fun ov s₁ h₁ => ?_) fun _ _ e => e))
  obtain ⟨hT, hd, hc⟩ := h₁
  refine wpK_bind (wpK_standAt ?_)
  have hform : methodCallForm (args.length + ([] : List Keyword).length) (backTo pos (starEach args env)) (backToKw pos (keywordEach [] env)) = true := hfew
  have hpos : methodCallPos true o env apos pos = pure pos := by unfold methodCallPos; simp [hline]
  unfold methodCall
  rw [hform]
  refine wpK_bind (wpK_holding (wpK_of (getMethod_builtin hT pa slot hty hd ?_)))
  rw [hpos]
  exact wpK_bind (wpK_pure hc)
theorem callWithK_builtin {pos : Pos} {id : String} {first : List Value} {args : List (Bool × Sem Value)} {Q : Value → Shared → Prop} (hplain : args.any (·.1) = false)
    (h : wpK (model prog w) A (evalArgs (.builtin id) true args []) (fun a s₁ => wpK (model prog w) A (call (.builtin id) (first ++ a.pos) a.kw) Q E s₁) E s) :
    wpK (model prog w) A (callWith pos (.builtin id) first args []) Q E s := by
  unfold callWith
  refine wpK_bind (wpK_holding (wpK_mono h (fun a s₁ h₁ => wpK_bind (wpK_standAt ?_)) fun _ _ x => x))
  simp only [hplain, List.any_nil, Bool.or_false]
  refine wpK_bind (wpK_pure ?_)
  exact wpK_bind (wpK_mono h₁ (fun r s₂ hr => wpK_bind (wpK_holding (wpK_of (wpAny_point (wpK_pure hr))))) fun _ _ x => x)
/-- r.append(e), e with the caller below -/
theorem appendK {o e : Expr} {apos pos spos : Pos} {Q : Flow → Shared → Prop} (hi : interactive env = false) (hline : (apos.endLine == pos.line) = true)
    (hbase : attributeBase o ("append" : Str) env (eval o env) = eval o env) (hst : starEach [e] env = [(false, eval e env)])
    (h : wpAny (model prog w) A (eval o env) (fun ov s₁ => ∃ r vs k, ov = .ref r ∧ s₁.heap.get? r = some (lstO vs k) ∧
      wpK (model prog w) A (eval e env) (fun v s₂ => wpAny (model prog w) A (call (.builtin "list.append") [.ref r, v]) (fun _ => Q .next) E s₂) E s₁) E s) :
    wpK (model prog w) A (exec (.Expr (.Call (.Attribute o ("append" : Str) apos) [e] [] pos) spos) env) Q E s := by
  rw [exec_Expr env _ spos hi rfl]
  refine wpK_bind (wpK_standAt (wpK_bind (wpK_mono (Q := fun _ => Q .next) ?_ (fun v s' h' => wpK_of (wpAny_dropValue h')) fun _ _ x => x)))
  refine wpK_Call_method hbase ?_ hline F.plainAttrs_list F.slot_list_append F.type_list_append (wpAny_mono h (fun ov s₁ h₁ => ?_) fun _ _ y => y)
  · rw [hst]; rfl
  obtain ⟨r, vs, k, rfl, hr, h₁⟩ := h₁
  refine ⟨⟨_, hr, rfl⟩, fun a ha => ?_, ?_⟩
  · cases ha; exact ⟨_, hr, rfl⟩
  rw [hst]
  exact callWithK_builtin rfl (evalArgsK_plain (splicedK_cons (wpK_mono h₁ (fun v s₂ h₂ => splicedK_nil (wpK_of h₂)) fun _ _ y => y)))

theorem addL {l b : Addr} {vs ws : List Value} {k k2 : Nat} {Q : Value → Shared → Prop} (I : In outer ex s0 G0 G L m mu s) (hl : s.heap.get? l = some (lstO vs k)) (hb : s.heap.get? b = some (lstO ws k2)) (hsz : vs.length + ws.length < 2 ^ 20)
    (h : ∀ R s', In outer ex s0 G0 G L m ((R, .ob (lstO (vs ++ ws) 0)) :: mu) s' → Q (.ref R) s') : wpAny (model prog w) A (binaryOp .Add (.ref l) (.ref b)) Q E s := by
  have e : vs.toArray ++ ws.toArray = (vs ++ ws).toArray := by simp
  refine concat_meets ⟨_, hl, rfl⟩ ⟨_, hb, rfl⟩ noFill_list_add seq_list_add PySem.F.slot_list_add PySem.F.entry_list_add (PySem.F.args_list_add_2 _ _) (list_addW l b vs.toArray ws.toArray k k2 none none #[] #[] (by rw [sizeLine_eq]; simp; omega)) ⟨hl, hb, ?_⟩
  rw [e]
  exact h _ _ (I.alloc (lstO (vs ++ ws) 0) s.toks)
theorem listConsts {es : List Expr} {ds : List Dat} (c : ConstsAre es ds) {pos : Pos} {Q : Value → Shared → Prop} (hl : ds.length < 2 ^ 20) (I : In outer ex s0 G0 G L m mu s)
    (h : ∀ R vs s', In outer ex s0 G0 G L m ((R, .ob (lstO vs 0)) :: mu) s' → RdL G vs ds → Q (.ref R) s') : wpAny (model prog w) A (eval (.List es pos) env) Q E s :=
  wpAny_List (spl_consts c I fun vs s' I' r => ⟨by rw [r.length, sizeLine_eq]; omega, h _ vs _ (I'.alloc (lstO vs 0) s'.toks) r⟩)
theorem itemNeg {value slice : Expr} {r : Addr} {vs : List Value} {n : Nat} {u : Tok} {x : Value} {Q : Value → Shared → Prop} (hl : s.heap.get? r = some (lstO vs n)) (hx : vs.getLast? = some x) (h : Q x s)
    (hs : subscripted slice false (.ref r) (.int (-1) u) = operate [.ref r, .int (-1) u] (getItem (.ref r) (.int (-1) u)) := by with_unfolding_all rfl) :
    wpAny (model prog w) A (subscriptTail value slice (.ref r) (.int (-1) u)) Q E s := by
  have hne : vs ≠ [] := by intro q; rw [q] at hx; cases hx
  have hlen : 0 < vs.length := List.length_pos_iff.mpr hne
  refine tail_any (isL hl).typeIs PySem.F.slot_list_getitem.lookup (wpAny_getItem_list_neg (isL hl) (by decide) (by simp; omega) (by decide) ?_ h) hs
  have e : (-1 + (vs.toArray.size : Int)).toNat = vs.length - 1 := by simp; omega
  rw [e, List.getLast?_eq_getElem?] at *
  simpa using hx
theorem sliceTT {value : Expr} {lower upper : Option Expr} {p pos : Pos} {Q : Value → Shared → Prop}
    (h : wpAny (model prog w) A (eval value env) (fun o s₁ => wpAny (model prog w) A (evalPart lower env) (fun l s₂ => wpAny (model prog w) A (evalPart upper env) (fun u s₃ =>
      ({ s₃ with heap := s₃.heap.push { cls := .type "slice", data := .fields #[l, u, .none] } } : Shared).TypeIs o "list" ∧ wpAny (model prog w) A (getItem o (.ref s₃.heap.objs.size)) Q E { s₃ with heap := s₃.heap.push { cls := .type "slice", data := .fields #[l, u, .none] } }) E s₂) E s₁) E s) :
    wpAny (model prog w) A (eval (.Subscript value (.Slice lower upper none p) pos) env) Q E s :=
  Subscript_ (wpAny_mono h (fun _ s₁ h₁ => wpAny_Slice (wpAny_mono h₁ (fun _ s₂ h₂ => wpAny_mono h₂ (fun _ s₃ h₃ => wpAny_pure (tail_any h₃.1 list_getitem_lookup h₃.2 rfl)) fun _ _ y => y) fun _ _ y => y)) fun _ _ y => y)
end

/-! ## _law_versions -/
def verK (x : Int) : Nat := ((x.fdiv 4).fmod 2).toNat
def verStep (prev : List Fld) (x : Int) : List Fld := prev.take (x.fmod 4).toNat ++ (List.range (1 + verK x)).map fun k => fld (((x.fdiv 8).fdiv ((30 : Int) ^ k)).fmod 30).toNat
def versFrom : List Fld → List Int → List (List Fld)
  | _, [] => []
  | p, x :: xs => verStep p x :: versFrom (verStep p x) xs
def lawXs (ns : List Int) : List Int := [3180, 4814, 5199, 18, 129] ++ ns.take 4
def verD (v : List Fld) : Dat := .list (v.map Fld.D)
theorem versFrom_length : ∀ (xs : List Int) (p : List Fld), (versFrom p xs).length = xs.length
  | [], _ => rfl
  | x :: xs, p => by rw [versFrom, List.length_cons, List.length_cons, versFrom_length xs]
/-- the versions made so far, the empty one ahead of them -/
theorem vers_snoc : ∀ (xs : List Int) (p : List Fld) (i : Nat) (x : Int), xs[i]? = some x → ∃ q, (p :: versFrom p xs)[i]? = some q ∧ (p :: versFrom p xs)[i + 1]? = some (verStep q x)
  | [], _, _, _, h => by simp at h
  | y :: xs, p, 0, x, h => by
    simp at h; subst h
    exact ⟨p, rfl, rfl⟩
  | y :: xs, p, i + 1, x, h => by
    simp at h
    obtain ⟨q, h1, h2⟩ := vers_snoc xs (verStep p y) i x h
    exact ⟨q, by simpa [versFrom] using h1, by simpa [versFrom] using h2⟩

theorem verK_le (x : Int) : verK x ≤ 1 := by
  unfold verK
  have : (x.fdiv 4).fmod 2 < 2 := by rw [Int.fmod_eq_emod_of_nonneg _ (by decide)]; omega
  omega
theorem verStep_len (p : List Fld) (x : Int) : (verStep p x).length ≤ 5 := by
  have h1 := verK_le x
  have h2 : (x.fmod 4).toNat ≤ 3 := by
    have : x.fmod 4 < 4 := by rw [Int.fmod_eq_emod_of_nonneg _ (by decide)]; omega
    omega
  unfold verStep
  rw [List.length_append, List.length_map, List.length_range, List.length_take]
  omega
theorem vers_len : ∀ (xs : List Int) (p : List Fld), p.length ≤ 5 → ∀ q ∈ p :: versFrom p xs, q.length ≤ 5
  | [], p, h, q, hq => by simp [versFrom] at hq; subst hq; exact h
  | x :: xs, p, h, q, hq => by
    rcases List.mem_cons.mp hq with rfl | hq
    · exact h
    · exact vers_len xs (verStep p x) (verStep_len p x) q hq

section
variable {outer : List Env} {s : Shared} {G : Store} {prog : Program} {w : World} {A : Around} {E : Value → Shared → Prop}
set_option maxHeartbeats 1000000 in
theorem versionsK {n : Nat} {v : Value} {ns : List Int} {Q : Value → Shared → Prop} (hA : AOk A outer (n + 2)) (O : Ok outer G s) (P : PG w G) (hv : Rd G v (.list (ns.map Dat.int))) (hl : ns.length < 2 ^ 10)
    (hQ : ∀ r s' G', Step (frs outer) [] G s G' s' → Rd G' r (.list ((versFrom [] (lawXs ns)).map verD)) → Q r s') : wpK (model prog w) A (call (.ref 93) [v]) Q E s := by
  refine enterK [] P.fvers P hA O (by simp) (fun pm cd => binds_vers) (by kernel_rfl) (by kernel_rfl) rfl rfl rfl fun env s₁ A' L e hA' I _ => ?_
  obtain ⟨m, hm⟩ : ∃ m : Str → Option Value, m = (fun x_1 => List.lookup x_1 [(("script" : Str), v)].reverse) := ⟨_, rfl⟩
  have mc : m ("script" : Str) = some v := by rw [hm]; kernel_rfl
  rw [← hm] at I
  clear hm
  have hh := hA'.handled
  have n1 : ("script" : Str) ≠ ("versions" : Str) ∧ ("versions" : Str) ≠ ("x" : Str) ∧ ("versions" : Str) ≠ ("fields" : Str) ∧ ("x" : Str) ≠ ("fields" : Str) ∧ ("versions" : Str) ≠ ("k" : Str) ∧ ("fields" : Str) ≠ ("k" : Str) ∧ ("x" : Str) ≠ ("k" : Str) := by decide +kernel
  obtain ⟨n1, n2, n3, n4, n5, n6, n7⟩ := n1
  refine wpK_execs_cons (wpK_of (wpAny_Assign_Name (wpAny_List (spl_cons rfl (nilL I fun R0 s2 I => spl_nil ⟨by simp [sizeLine_eq], ?_⟩)))))
  have hG1 := Store.le_put (o := lstO [] 0) I.head_none
  have hR0 : (G.put R0 (lstO [] 0)) R0 = some (lstO [] 0) := Store.put_self _ _ _
  replace I := I.frz
  generalize G.put R0 (lstO [] 0) = G1 at I hG1 hR0
  replace I := I.alloc (lstO [.ref R0] 0) s2.toks
  generalize s2.heap.objs.size = V at I ⊢
  refine stLs e I (by kernel_rfl) fun s3 I => ?_
  have hc1 : ConstsAre [.Constant (.int 3180) 0 ⟨85, 14, 85, 18⟩, .Constant (.int 4814) 0 ⟨85, 20, 85, 24⟩, .Constant (.int 5199) 0 ⟨85, 26, 85, 30⟩, .Constant (.int 18) 0 ⟨85, 32, 85, 34⟩, .Constant (.int 129) 0 ⟨85, 36, 85, 39⟩] (([3180, 4814, 5199, 18, 129] : List Int).map Dat.int) :=
    .int _ _ _ (.int _ _ _ (.int _ _ _ (.int _ _ _ (.int _ _ _ .nil))))
  have hsc : upd m ("versions" : Str) (.ref V) ("script" : Str) = some v := upd_to n1 mc
  cases hv with
  | list hsl rsl =>
  rename_i sa svs sk
  have hsvl := rsl.length
  rw [List.length_map] at hsvl
  refine wpK_execs_cons (wpK_For (wpK_of (wpAny_BinOp (listConsts hc1 (by decide) I fun RA vsA s4 I rA => ?_))))
  refine sliceNN (ldL e I (by kernel_rfl) hsc (wpAny_pure ?_))
  refine cInt (k := 0) (pos := ⟨85, 51, 85, 52⟩) I fun t5 s5 I => sliceTail I (I.sub _ _ (hG1 _ _ hsl)) .none (.int 4 t5) (by omega) fun RB s6 I => ?_
  rw [show (4 : Int) = ((4 : Nat) : Int) from rfl, pk_upto] at I
  refine addL I I.swap.head_at I.head_at ?_ fun RC s7 I => ?_
  · rw [rA.length]; simp; omega
  replace I := I.drop (mu' := [(RC, .ob (lstO (vsA ++ svs.take 4) 0)), (V, .ob (lstO [.ref R0] 0))]) (.cons_cons _ (.cons _ (.cons _ (.refl _))))
  have hG2 := Store.le_put (o := lstO (vsA ++ svs.take 4) 0) I.head_none
  have hRC : (G1.put RC (lstO (vsA ++ svs.take 4) 0)) RC = some (lstO (vsA ++ svs.take 4) 0) := Store.put_self _ _ _
  replace I := I.frz
  have hxs : RdL (G1.put RC (lstO (vsA ++ svs.take 4) 0)) (vsA ++ svs.take 4) ((lawXs ns).map Dat.int) := by
    unfold lawXs
    rw [List.map_append]
    refine (rA.mono hG2).append ?_
    rw [List.map_take]
    exact (rsl.mono (hG1.trans hG2)).take 4
  generalize G1.put RC (lstO (vsA ++ svs.take 4) 0) = G2 at I hG2 hRC hxs
  generalize hvs : vsA ++ svs.take 4 = vs at I hRC hxs
  have P2 := P.mono (hG1.trans hG2)
  have hvl : vs.length = (lawXs ns).length := by rw [hxs.length, List.length_map]
  have hxl : (lawXs ns).length ≤ 9 := by unfold lawXs; simp; omega
  refine wpK_of (iterList I hRC fun J s8 I => ?_)
  refine forSrcK (Src.list hh hRC) (fun _ v _ m mu m' mu' => m' = upd m ("x" : Str) v ∧ mu' = mu)
    (fun i G' m mu => m ("versions" : Str) = some (.ref V) ∧ ∃ ws k, mu = [(V, .ob (lstO ws k))] ∧ RdL G' ws ((([] :: versFrom [] (lawXs ns)).take (i + 1)).map verD))
    (fun i v G' m mu s Q' _ _ _ hq => wpAny_pure hq) (fun i v G' m mu s Q' _ _ _ _ I hq => asgName e (by kernel_rfl) I fun s' I' => hq _ _ _ ⟨rfl, rfl⟩ I') ?_ I ⟨upd_same, [.ref R0], 0, rfl, .cons (.list (hG2 _ _ hR0) .nil) .nil⟩ ?_
  · rintro i v G' m3 mu3 m' mu' s9 hi hv hle ⟨hV, ws, k, rfl, rws⟩ ⟨rfl, rfl⟩ I
    obtain ⟨d, hd, rd⟩ := hxs.at hv
    rw [List.getElem?_map, Option.map_eq_some_iff] at hd
    obtain ⟨x, hx, rfl⟩ := hd
    cases rd with
    | int _ tx =>
    obtain ⟨q, hq1, hq2⟩ := vers_snoc (lawXs ns) [] i x hx
    have hV' : upd m3 ("x" : Str) (.int x tx) ("versions" : Str) = some (.ref V) := upd_to n2 hV
    have hlenA : ([] :: versFrom [] (lawXs ns)).length = (lawXs ns).length + 1 := by rw [List.length_cons, versFrom_length]
    have hwl : ws.length = i + 1 := by rw [rws.length, List.length_map, List.length_take, hlenA]; omega
    obtain ⟨vq, hvq, rvq⟩ := rws.get (k := i) (d := verD q) (by rw [List.getElem?_map, List.getElem?_take, if_pos (by omega), hq1]; rfl)
    have hlast : ws.getLast? = some vq := by rw [List.getLast?_eq_getElem?, hwl]; simpa using hvq
    have hx4 : 0 ≤ x.fmod 4 := by rw [Int.fmod_eq_emod_of_nonneg _ (by decide)]; omega
    refine wpK_execs_cons (wpK_of (wpAny_Assign_Name (sliceTT (Subscript_ (ldL e I (by kernel_rfl) hV' (cNeg1 I fun t1 s10 I => itemNeg I.swap.head_at hlast ?_))))))
    refine wpAny_pure ?_
    cases rvq with
    | list hf rf =>
    rename_i f fvs fk
    show wpAny _ _ (eval (.BinOp _ _ _ _) env) _ _ _
    refine wpAny_BinOp (ldL e I (by kernel_rfl) upd_same (cInt I fun t2 s11 I => modS I (by decide) fun t3 s12 I => sliceTail I (I.sub _ _ hf) .none (.int (x.fmod 4) t3) ?_ fun F₀ s13 I => ?_))
    · rw [rf.length, List.length_map]; have := vers_len (lawXs ns) [] (by simp) q (List.mem_of_getElem? hq1); omega
    rw [show x.fmod 4 = ((x.fmod 4).toNat : Int) from (Int.toNat_of_nonneg hx4).symm, pk_upto] at I
    refine stLs e I (by kernel_rfl) fun s14 I => ?_
    generalize hm4 : upd (upd m3 ("x" : Str) (.int x tx)) ("fields" : Str) (.ref F₀) = m4 at I
    have hF4 : m4 ("fields" : Str) = some (.ref F₀) := by rw [← hm4]; exact upd_same
    have hV4 : m4 ("versions" : Str) = some (.ref V) := by rw [← hm4]; exact upd_to n3 hV'
    have hx4' : m4 ("x" : Str) = some (.int x tx) := by rw [← hm4]; exact upd_to n4 upd_same
    clear hm4
    have hvk : verK x ≤ 1 := by
      unfold verK
      have : (x.fdiv 4).fmod 2 < 2 := by rw [Int.fmod_eq_emod_of_nonneg _ (by decide)]; omega
      omega
    have hvk' : 1 + (x.fdiv 4).fmod 2 = ((1 + verK x : Nat) : Int) := by
      unfold verK
      have : 0 ≤ (x.fdiv 4).fmod 2 := by rw [Int.fmod_eq_emod_of_nonneg _ (by decide)]; omega
      push_cast
      omega
    have P3 := P2.mono hle
    refine wpK_execs_cons (wpK_For (callTypeGlK e I.sub P3 (by kernel_rfl) (T := "range") (by decide +kernel) rfl rfl (splicedK_cons (wpK_of (wpAny_BinOp (cInt I fun t4 s15 I => ?_))))))
    refine wpAny_BinOp (wpAny_BinOp (ldL e I (by kernel_rfl) hx4' (cInt I fun t5 s16 I => fdivS I (by decide) (by decide) fun t6 s17 I => ?_)))
    refine cInt I fun t7 s18 I => modS I (by decide) fun t8 s19 I => addI I fun t9 s20 I => splicedK_nil ?_
    rw [hvk']
    refine wpK_of (callRange I fun r o s21 ho I => wpK_of (iterRange (by omega) ho I fun J2 s22 I => ?_))
    refine forSrcK (G := G') (Src.range hh) (fun _ v _ m mu m' mu' => m' = upd m ("k" : Str) v ∧ mu' = mu)
      (fun j G'' m5 mu5 => m5 ("fields" : Str) = some (.ref F₀) ∧ m5 ("versions" : Str) = some (.ref V) ∧ m5 ("x" : Str) = some (.int x tx) ∧
        ∃ fs fk2, mu5 = [(F₀, .ob (lstO fs fk2)), (J, lIter RC (i + 1)), (V, .ob (lstO ws k))] ∧ RdL G'' fs ((q.take (x.fmod 4).toNat ++ (List.range j).map fun k => fld (((x.fdiv 8).fdiv ((30 : Int) ^ k)).fmod 30).toNat).map Fld.D))
      (fun i v G' m mu s Q' _ _ _ hq => wpAny_pure hq) (fun i v G' m mu s Q' _ _ _ _ I hq => asgName e (by kernel_rfl) I fun s' I' => hq _ _ _ ⟨rfl, rfl⟩ I') ?_ I ⟨hF4, hV4, hx4', _, 0, rfl, ?_⟩ ?_
    · rintro j vj G'' m5 mu5 m5' mu5' s23 hj ⟨tj, rfl⟩ hle2 ⟨hF5, hV5, hx5, fs, fk2, rfl, rfs⟩ ⟨rfl, rfl⟩ I
      have P4 := P3.mono hle2
      have hF6 := upd_to (n := ("k" : Str)) (v := Value.int j tj) n6 hF5
      have hx6 := upd_to (n := ("k" : Str)) (v := Value.int j tj) n7 hx5
      refine wpK_execs_cons (appendK e.quiet rfl rfl rfl (ldL e I (by kernel_rfl) hF6 ⟨F₀, fs, fk2, rfl, I.swap.head_at, ?_⟩))
      have hjn : (j : Int).toNat = j := rfl
      have hj2 : j ≤ 1 := by omega
      have hpow : ((30 : Int) ^ j).natAbs < 1073741824 ∧ (30 : Int) ^ j ≠ 0 := by
        rcases (show j = 0 ∨ j = 1 by omega) with rfl | rfl <;> decide
      have hc30 : ∀ y : Int, 0 ≤ y.fmod 30 ∧ y.fmod 30 < 30 := fun y => by rw [Int.fmod_eq_emod_of_nonneg _ (by decide)]; omega
      refine callGlK e I.sub P4 (by kernel_rfl) (f := 86) (by decide +kernel) P4.ffield rfl (splicedK_cons (wpK_of (wpAny_BinOp (wpAny_BinOp (wpAny_BinOp (ldL e I (by kernel_rfl) hx6 (cInt I fun t10 s24 I => fdivS I (by decide) (by decide) fun t11 s25 I => ?_)))))))
      refine wpAny_BinOp (cInt I fun t12 s26 I => ldL e I (by kernel_rfl) upd_same (powS I (by omega) (by omega) (by decide) fun t13 s27 I => ?_))
      rw [hjn]
      refine fdivS I hpow.2 hpow.1 fun t14 s28 I => cInt I fun t15 s29 I => modS I (by decide) fun t16 s30 I => splicedK_nil ⟨⟨G'', .refl _, I.sub⟩, ?_⟩
      have hfc := hc30 ((x.fdiv 8).fdiv ((30 : Int) ^ j))
      rw [show ((x.fdiv 8).fdiv ((30 : Int) ^ j)).fmod 30 = ((((x.fdiv 8).fdiv ((30 : Int) ^ j)).fmod 30).toNat : Int) from (Int.toNat_of_nonneg hfc.1).symm]
      refine fieldK (n := n) hA' (I.ok e.frame (by rw [e.scope]; exact e.kind)) P4 (by omega) fun rv s31 G5 hst rr => ?_
      replace I := (I.calledE e.frame hst).swap
      have hfl : fs.length < 2 ^ 10 := by
        rw [rfs.length, List.length_map, List.length_append, List.length_map, List.length_range, List.length_take]
        have := vers_len (lawXs ns) [] (by simp) q (List.mem_of_getElem? hq1)
        omega
      refine I.append (by omega) fun h' k' I => wpK_execs_nil ⟨rfl, G5, _, _, hst.le, ⟨hF6, upd_to n5 hV5, hx6, _, _, rfl, ?_⟩, I.swap⟩
      have hl2 : ∀ (B : List Fld) (f : Nat → Fld), (B ++ (List.range (j + 1)).map f).map Fld.D = (B ++ (List.range j).map f).map Fld.D ++ [(f j).D] := by intro B f; simp [List.range_succ]
      rw [hl2]
      exact (rfs.mono hst.le).append (.cons rr .nil)
    · simp only [List.range_zero, List.map_nil, List.append_nil, List.map_take]
      exact rf.take _
    · rintro G'' m5 mu5 s23 hle2 ⟨hF5, hV5, hx5, fs, fk2, rfl, rfs⟩ I
      have hG3 := Store.le_put (o := lstO fs fk2) I.head_none
      have hF3 : (G''.put F₀ (lstO fs fk2)) F₀ = some (lstO fs fk2) := Store.put_self _ _ _
      replace I := I.frz.swap
      refine wpK_execs_cons (appendK e.quiet rfl rfl rfl (ldL e I (by kernel_rfl) hV5 ⟨V, ws, k, rfl, I.head_at, wpK_of (ldL e I (by kernel_rfl) hF5 (I.append (by omega) fun h' k' I => wpK_execs_nil ?_))⟩))
      refine ⟨rfl, _, _, _, hle2.trans hG3, ⟨hV5, _, _, rfl, ?_⟩, I.swap⟩
      rw [List.take_add_one, hq2, Option.toList_some, List.map_append]
      refine ((rws.mono hle2).mono hG3).append (.cons (.list hF3 ?_) .nil)
      exact rfs.mono hG3
  · rintro G' m3 mu3 s9 hle ⟨hV, ws, k, rfl, rws⟩ I
    have hlenA : ([] :: versFrom [] (lawXs ns)).length = vs.length + 1 := by rw [List.length_cons, versFrom_length, hvl]
    rw [List.take_of_length_le (by omega)] at rws
    have hwl : ws.length = vs.length + 1 := by rw [rws.length, List.length_map, hlenA]
    refine wpK_of (wpAny_execs_cons (wpAny_Return_some (sliceTT (ldL e I (by kernel_rfl) hV ?_))))
    refine cInt (k := 0) (pos := ⟨90, 20, 90, 21⟩) I fun t5 s10 I => wpAny_pure (sliceTail I I.head_at (.int 1 t5) .none (by omega) fun R s11 I => ?_)
    have hpk : pk (some (1 : Int)) none ws = ws.drop 1 := by
      unfold pk
      simp only [Option.elim, show (1 : Int) = ((1 : Nat) : Int) from rfl, clipAt_nat]
      rw [Nat.min_eq_left (by omega)]
      exact List.take_of_length_le (by simp)
    rw [hpk] at I
    have hG4 := Store.le_put (o := lstO (ws.drop 1) 0) I.head_none
    refine hQ _ _ _ I.frz.toStep (.list (Store.put_self _ _ _) ?_)
    have := (rws.mono hG4).drop 1
    simpa using this
end
end Mine

end
section
open PySem PySem.W PyProof.Rows PySem.Calls PySem.NumText PySem.SeqAt
namespace Mine

def atD {α : Type} (l : List α) (f : α → Dat) (i : Nat) : Dat := ((l[i]?).map f).getD .none
theorem range_at {α : Type} (l : List α) (f : α → Dat) : (List.range l.length).map (atD l f) = l.map f := by
  apply List.ext_getElem?
  intro i
  rw [List.getElem?_map, List.getElem?_map]
  by_cases h : i < l.length
  · rw [List.getElem?_range h]
    simp [atD, List.getElem?_eq_getElem h]
  · rw [List.getElem?_eq_none (by simpa using h), List.getElem?_eq_none (by simpa using h)]; rfl
theorem emit_at {α : Type} (l : List α) (f : α → Dat) {n : Nat} (h : n = l.length) : emit (fun _ => true) (atD l f) n = l.map f := by rw [emit_all, h, range_at]

def lawNormed (fs : List Fld) : List Str := if ∀ f ∈ fs, f.plain ≠ none then fs.map fun f => f.plain.getD Str.empty else fs.map Fld.text
theorem plain_mem (fs : List Fld) : Dat.none ∈ (fs.map fun f => plainD f.plain) ↔ ¬ ∀ f ∈ fs, f.plain ≠ none := by
  rw [List.mem_map]
  constructor
  · rintro ⟨f, hf, e⟩ h
    have := h f hf
    cases hp : f.plain with
    | none => exact this hp
    | some p => rw [hp] at e; cases e
  · intro h
    apply Classical.byContradiction
    intro h2
    refine h fun f hf e => h2 ⟨f, hf, by rw [e]; rfl⟩

section
variable {outer : List Env} {s0 s : Shared} {G0 G : Store} {L : Addr} {m : Str → Option Value} {mu : List (Addr × It)} {prog : Program} {w : World} {A : Around} {E : Value → Shared → Prop} {env : Env} {sc : Scope}

/-- the j-th parts of the fields of a frozen version: ready for a comprehension -/
theorem readyItem {x : Str} {px p1 p2 p3 : Pos} {scope : Scope} {cl : List (Str × Addr)} {r : Addr} {vs : List Value} {k j : Nat} {α : Type} {l : List α} {D : α → Dat} {f : α → Dat} {Fin : Store → Store → (Str → Option Value) → List (Addr × It) → List Dat → Prop} (hh : A.handled = none) (hkind : scope.kind = .function) (hx : scope.names.lookup x = some .local) (hxd : (x == ("__debug__" : Str)) = false) (hj : j < 2 ^ 60)
    (I : In outer [] s0 G0 G L m mu s) (hr : G r = some (lstO vs k)) (hv : RdL G vs (l.map D)) (hl : l.length < 2 ^ 20) (hd : ∀ a ∈ l, ∃ ts, D a = .tuple ts ∧ ts[j]? = some (f a)) (hfin : ∀ G', LeS G G' → Fin G G' m mu (l.map f)) :
    wpAny (model prog w) A (pyIter (.ref r)) (Ready prog w A outer s0 G0 L env (.Subscript (.Name x p1) (.Constant (.int j) 0 p2) p3) (.Name x px) [] scope cl Fin) E s := by
  have hvl : vs.length = l.length := by rw [hv.length, List.length_map]
  refine iterList I hr fun J s' I => ⟨J, lIter r, vs.length, _, G, m, mu, _, fun _ => true, atD l f, rfl, Src.list hh hr, by omega, Job.item (k := 0) hkind hx hxd hj hv fun i hi => ?_, I, fun G' hle => ?_⟩
  · have hi' : i < l.length := by omega
    obtain ⟨ts, e1, e2⟩ := hd l[i] (List.getElem_mem hi')
    refine ⟨ts, by rw [List.getElem?_map, List.getElem?_eq_getElem hi']; exact congrArg some e1, ?_⟩
    rw [e2]
    simp [atD, List.getElem?_eq_getElem hi']
  · rw [emit_at l f hvl]; exact hfin G' hle

theorem lawNormedK {n : Nat} {v : Value} {fs : List Fld} {Q : Value → Shared → Prop} (hA : AOk A outer (n + 1)) (O : Ok outer G s) (P : PG w G) (hv : Rd G v (verD fs)) (hl : fs.length ≤ 5) (hok : ∀ f ∈ fs, ∀ p, f.plain = some p → PyData.strOk p = true)
    (hw : (((lawNormed fs).take 3).map (·.length)).sum + ((lawNormed fs).take 3).length ≤ 1048576)
    (hQ : ∀ r s' G', Step (frs outer) [] G s G' s' → Rd G' r (.str (Txt.join dotS ((lawNormed fs).take 3))) → Q r s') : wpK (model prog w) A (call (.ref 98) [v]) Q E s := by
  refine enterK [] P.fnormed P hA O (by simp) (fun pm cd => binds_normed) (by kernel_rfl) (by kernel_rfl) rfl rfl rfl fun env s₁ A' L e hA' I _ => ?_
  obtain ⟨m, hm⟩ : ∃ m : Str → Option Value, m = (fun x_1 => List.lookup x_1 [(("fields" : Str), v)].reverse) := ⟨_, rfl⟩
  have mc : m ("fields" : Str) = some v := by rw [hm]; kernel_rfl
  rw [← hm] at I
  clear hm
  have hh := hA'.handled
  have n1 : ("fields" : Str) ≠ ("plain" : Str) := by decide +kernel
  cases hv with
  | list hf rf =>
  rename_i f fvs fk
  refine wpK_execs_cons (compA (outer := outer) (s0 := s) (G0 := G) e (by kernel_rfl) (by rw [e.eta]; kernel_rfl) rfl (by decide) rfl (by decide +kernel) (wpK_of (ldL e I (by kernel_rfl) mc ?_)))
  refine readyItem (f := fun f : Fld => plainD f.plain) hh rfl (by kernel_rfl) (by decide +kernel) (by decide) I hf rf (by omega) (fun a _ => ⟨_, rfl, rfl⟩) fun G1 hle1 D ys k s2 I rys => ?_
  have h1 : ∀ f ∈ fs, kqdOk 0 (plainD f.plain) = true := fun f hf => by
    have := hok f hf
    unfold plainD
    cases hp : f.plain with
    | none => rfl
    | some p => exact this p hp
  refine wpK_execs_cons (wpK_mono (Q := fun fl s2 => fl = Flow.next ∧ ∃ G2 D vs2 k2, LeS G G2 ∧ In outer [] s G G2 L (upd m ("plain" : Str) (.ref D)) [] s2 ∧ G2 D = some (lstO vs2 k2) ∧ RdL G2 vs2 ((lawNormed fs).map Dat.str))
    (wpK_If (wpK_of (wpAny_isTrue_Compare1 (wpAny_Constant_none (ldL e I (by kernel_rfl) upd_same ?_))))) ?_ fun _ _ y => y)
  · refine inList (n := 0) (n' := 0) I.sub I.head_at rys .none (fun d hd => ?_) rfl (by have := hA'.units; show A'.units + 1 + 0 < 9900; omega) (wpAny_truthy_bool ?_)
    · obtain ⟨f, hf, rfl⟩ := List.mem_map.mp hd; exact h1 f hf
    by_cases hall : ∀ f ∈ fs, f.plain ≠ none
    · rw [if_neg (by simp only [decide_eq_true_iff]; rw [plain_mem]; exact fun h => h hall)]
      refine wpK_execs_nil ?_
      have hl2 := Store.le_put (o := lstO ys k) I.head_none
      refine ⟨rfl, _, D, ys, k, hle1.trans hl2, I.frz, Store.put_self _ _ _, ?_⟩
      unfold lawNormed
      rw [if_pos hall, List.map_map]
      have e1 : (fs.map fun f => plainD f.plain) = fs.map (Dat.str ∘ fun f => f.plain.getD Str.empty) := by
        apply List.map_congr_left
        intro f hf
        have := hall f hf
        cases hp : f.plain with
        | none => exact absurd hp this
        | some p => simp [plainD, hp]
      rw [← e1]
      exact rys.mono hl2
    · rw [if_pos (by simp only [decide_eq_true_iff]; exact (plain_mem fs).mpr hall)]
      refine wpK_execs_cons (compA (outer := outer) (s0 := s) (G0 := G) e (by kernel_rfl) (by rw [e.eta]; kernel_rfl) rfl (by decide) rfl (by decide +kernel) (wpK_of (ldL e I (by kernel_rfl) (upd_to n1 mc) ?_)))
      refine readyItem (f := fun f : Fld => Dat.str f.text) hh rfl (by kernel_rfl) (by decide +kernel) (by decide) I (hle1 _ _ hf) (rf.mono hle1) (by omega) (fun a _ => ⟨_, rfl, rfl⟩) fun G2 hle2 D2 ys2 k2 s3 I rys2 => ?_
      refine wpK_execs_nil ?_
      have hl2 := Store.le_put (o := lstO ys2 k2) I.head_none
      have eu : upd (upd m ("plain" : Str) (.ref D)) ("plain" : Str) (.ref D2) = upd m ("plain" : Str) (.ref D2) := by funext z; unfold upd; split <;> rfl
      rw [eu] at I
      refine ⟨rfl, _, D2, ys2, k2, (hle1.trans hle2).trans hl2, I.frz.drop (List.nil_sublist _), Store.put_self _ _ _, ?_⟩
      unfold lawNormed
      rw [if_neg hall, List.map_map]
      exact rys2.mono hl2
  · rintro fl s3 ⟨rfl, G2, D2, vs2, k2, hle2, I, hD2, rvs⟩
    have hlen : vs2.length < 2 ^ 20 := by
      rw [rvs.length, List.length_map]; unfold lawNormed; split <;> (rw [List.length_map]; omega)
    refine wpK_of (wpAny_execs_cons (wpAny_Return_some ?_))
    apply callDot I
    case hfew => rfl
    case hline => rfl
    case slot => exact F.slot_str_join
    case hty => exact F.type_str_join
    intro t s₇ I
    refine callWith_builtin rfl (evalArgs_plain (spliced_cons (sliceNN (ldL e I (by kernel_rfl) upd_same (wpAny_pure (cInt (k := 0) (pos := ⟨95, 27, 95, 28⟩) I fun t2 s₈ I => sliceTail I (I.sub _ _ hD2) .none (.int 3 t2) hlen fun R s₉ I => spliced_nil ?_))))))
    rw [show (3 : Int) = ((3 : Nat) : Int) from rfl, pk_upto] at I
    refine joinS I I.head_at (by rw [List.map_take]; exact rvs.take 3) (by decide) hw fun t3 s₁₀ I => ?_
    exact hQ _ _ _ I.toStep (.str _ _)
end
end Mine

end
section
open PySem PySem.W PyProof.Rows
namespace Mine

/-! ## the sort's tree under a strict total order of the places -/
def ev {α : Type} (lt : Nat → Nat → Bool) : KasT α → α
  | .ret a => a
  | .ask i j k => ev lt (k (lt i j))
theorem ev_bind {α β : Type} (lt : Nat → Nat → Bool) (f : α → KasT β) : ∀ t : KasT α, ev lt (t.bind f) = ev lt (f (ev lt t))
  | .ret _ => rfl
  | .ask i j k => by
    show ev lt ((k (lt i j)).bind f) = _
    rw [ev_bind lt f (k (lt i j))]; rfl
/-- the places asked for -/
def evIn {α : Type} (lt : Nat → Nat → Bool) (P : Nat → Prop) : KasT α → Prop
  | .ret _ => True
  | .ask i j k => P i ∧ P j ∧ evIn lt P (k (lt i j))
theorem evIn_bind {α β : Type} (lt : Nat → Nat → Bool) (P : Nat → Prop) (f : α → KasT β) : ∀ t : KasT α, evIn lt P t → evIn lt P (f (ev lt t)) → evIn lt P (t.bind f)
  | .ret _, _, h => h
  | .ask i j k, h1, h => ⟨h1.1, h1.2.1, evIn_bind lt P f (k (lt i j)) h1.2.2 h⟩
theorem kasWp_ev {α : Type} {lt : Nat → Nat → Bool} {P : Nat → Prop} {cmp : Nat → Nat → (Bool → Shared → Prop) → Shared → Prop} {s : Shared} (hc : ∀ i j C, P i → P j → C (lt i j) s → cmp i j C s) {Q : α → Shared → Prop} : ∀ t : KasT α, evIn lt P t → Q (ev lt t) s → t.kasWp cmp Q s
  | .ret _, _, h => h
  | .ask i j k, hi, h => hc i j _ hi.1 hi.2.1 (kasWp_ev hc (k (lt i j)) hi.2.2 h)

structure Strict (lt : Nat → Nat → Bool) (n : Nat) : Prop where
  irr : ∀ i, lt i i = false
  trans : ∀ i j k, i < n → j < n → k < n → lt i j = true → lt j k = true → lt i k = true
  tot : ∀ i j, i < n → j < n → i ≠ j → lt i j = true ∨ lt j i = true
theorem Strict.asym {lt : Nat → Nat → Bool} {n : Nat} (S : Strict lt n) {i j : Nat} (hi : i < n) (hj : j < n) (h : lt i j = true) : lt j i = false := by
  cases q : lt j i with
  | false => rfl
  | true => have := S.trans i j i hi hj hi h q; rw [S.irr] at this; cases this

/-- a permutation of the places below n -/
structure PermN (p : Array Nat) (n : Nat) : Prop where
  perm : p.toList.Perm (List.range n)
theorem PermN.size {p : Array Nat} {n : Nat} (h : PermN p n) : p.size = n := by have := h.perm.length_eq; simpa using this
theorem PermN.lt {p : Array Nat} {n i : Nat} (h : PermN p n) (hi : i < n) : p.getD i 0 < n := by
  have hs := h.size
  have hm : p.getD i 0 ∈ p.toList := by
    rw [Array.getD_eq_getD_getElem?, Array.getElem?_eq_getElem (by omega)]; simp
  have := h.perm.mem_iff.mp hm
  simpa using this
theorem PermN.inj {p : Array Nat} {n i j : Nat} (h : PermN p n) (hi : i < n) (hj : j < n) (e : p.getD i 0 = p.getD j 0) : i = j := by
  have hs := h.size
  have nd : p.toList.Nodup := h.perm.nodup_iff.mpr List.nodup_range
  rw [Array.getD_eq_getD_getElem?, Array.getElem?_eq_getElem (by omega), Array.getD_eq_getD_getElem?, Array.getElem?_eq_getElem (by omega)] at e
  simp only [Option.getD_some] at e
  have hi' : i < p.toList.length := by simpa using (by omega : i < p.size)
  have hj' : j < p.toList.length := by simpa using (by omega : j < p.size)
  have pw := List.pairwise_iff_getElem.mp nd
  have e' : p.toList[i] = p.toList[j] := by simpa using e
  rcases Nat.lt_trichotomy i j with q | q | q
  · exact absurd e' (pw i j hi' hj' q)
  · exact q
  · exact absurd e'.symm (pw j i hj' hi' q)

def AscP (lt : Nat → Nat → Bool) (p : Array Nat) (m : Nat) : Prop := ∀ i j, i < j → j < m → lt (p.getD i 0) (p.getD j 0) = true
def DescP (lt : Nat → Nat → Bool) (p : Array Nat) (m : Nat) : Prop := ∀ i j, i < j → j < m → lt (p.getD j 0) (p.getD i 0) = true

section
variable {lt : Nat → Nat → Bool} {n : Nat} (S : Strict lt n)
include S
theorem tot_at {p : Array Nat} (h : PermN p n) {i j : Nat} (hi : i < n) (hj : j < n) (hne : i ≠ j) (hf : lt (p.getD i 0) (p.getD j 0) = false) : lt (p.getD j 0) (p.getD i 0) = true := by
  rcases S.tot _ _ (h.lt hi) (h.lt hj) (fun e => hne (h.inj hi hj e)) with q | q
  · rw [hf] at q; cases q
  · exact q
theorem asc_step {p : Array Nat} (h : PermN p n) {m : Nat} (hm : 1 ≤ m) (hmn : m < n) (a : AscP lt p m) (hl : lt (p.getD (m - 1) 0) (p.getD m 0) = true) : AscP lt p (m + 1) := by
  intro i j hij hj
  by_cases e : j = m
  · subst e
    by_cases e2 : i = j - 1
    · rw [e2]; exact hl
    · exact S.trans _ _ _ (h.lt (by omega)) (h.lt (by omega)) (h.lt (by omega)) (a i (j - 1) (by omega) (by omega)) hl
  · exact a i j hij (by omega)
theorem desc_step {p : Array Nat} (h : PermN p n) {m : Nat} (hm : 1 ≤ m) (hmn : m < n) (a : DescP lt p m) (hl : lt (p.getD m 0) (p.getD (m - 1) 0) = true) : DescP lt p (m + 1) := by
  intro i j hij hj
  by_cases e : j = m
  · subst e
    by_cases e2 : i = j - 1
    · rw [e2]; exact hl
    · exact S.trans _ _ _ (h.lt (by omega)) (h.lt (by omega)) (h.lt (by omega)) hl (a i (j - 1) (by omega) (by omega))
  · exact a i j hij (by omega)
theorem asc_ok {p : Array Nat} (h : PermN p n) : ∀ (f m : Nat), 1 ≤ m → m + f = n → AscP lt p m →
    evIn lt (· < n) (kas_asc p f m) ∧ ∃ r, ev lt (kas_asc p f m) = r ∧ m ≤ r ∧ r ≤ n ∧ AscP lt p r ∧ (r < n → lt (p.getD r 0) (p.getD (r - 1) 0) = true)
  | 0, m, h1, h2, a => ⟨trivial, m, rfl, Nat.le_refl _, by omega, a, fun q => by omega⟩
  | f + 1, m, h1, h2, a => by
    unfold kas_asc
    simp only [evIn, ev]
    cases q : lt (p.getD m 0) (p.getD (m - 1) 0) with
    | true => exact ⟨⟨h.lt (by omega), h.lt (by omega), trivial⟩, m, rfl, Nat.le_refl _, by omega, a, fun _ => q⟩
    | false =>
      have hl := tot_at S h (by omega) (by omega) (by omega) q
      obtain ⟨e1, r, e2, e3, e4, e5, e6⟩ := asc_ok h f (m + 1) (by omega) (by omega) (asc_step S h h1 (by omega) a hl)
      exact ⟨⟨h.lt (by omega), h.lt (by omega), e1⟩, r, e2, by omega, e4, e5, e6⟩
theorem desc_ok {p : Array Nat} (h : PermN p n) : ∀ (f m : Nat), 1 ≤ m → m + f = n → DescP lt p m →
    evIn lt (· < n) (kas_desc f p m 0) ∧ ∃ r, ev lt (kas_desc f p m 0) = (p, r, 0) ∧ m ≤ r ∧ r ≤ n ∧ DescP lt p r
  | 0, m, h1, h2, a => ⟨trivial, m, rfl, Nat.le_refl _, by omega, a⟩
  | f + 1, m, h1, h2, a => by
    unfold kas_desc
    simp only [evIn, ev]
    cases q : lt (p.getD m 0) (p.getD (m - 1) 0) with
    | true =>
      obtain ⟨e1, r, e2, e3, e4, e5⟩ := desc_ok h f (m + 1) (by omega) (by omega) (desc_step S h h1 (by omega) a q)
      refine ⟨⟨h.lt (by omega), h.lt (by omega), ?_⟩, r, ?_, by omega, e4, e5⟩
      · simpa using e1
      · simpa using e2
    | false =>
      have hl := tot_at S h (by omega) (by omega) (by omega) q
      simp only [Bool.false_eq_true, if_false, evIn, ev, hl, if_true]
      exact ⟨⟨h.lt (by omega), h.lt (by omega), h.lt (by omega), h.lt (by omega), trivial⟩, m, rfl, Nat.le_refl _, by omega, a⟩
end

theorem getD_rev {p : Array Nat} {m k : Nat} (hm : m ≤ p.size) : (kas_rev p 0 m).getD k 0 = if k < m then p.getD (m - 1 - k) 0 else p.getD k 0 := by
  have := getElem?_mirror (xs := p) (i := 0) (j := m) hm ((m - 0) / 2) (by omega) k
  unfold kas_rev
  rw [Array.getD_eq_getD_getElem?, this]
  by_cases h : k < m
  · rw [if_pos h]
    by_cases h2 : (0 ≤ k ∧ k < 0 + (m - 0) / 2) ∨ (m - (m - 0) / 2 ≤ k ∧ k < m)
    · rw [if_pos h2, Array.getD_eq_getD_getElem?]
      have e : 0 + m - 1 - k = m - 1 - k := by omega
      rw [e]
    · rw [if_neg h2, Array.getD_eq_getD_getElem?]
      have e : m - 1 - k = k := by omega
      rw [e]
  · rw [if_neg h, if_neg (by omega), Array.getD_eq_getD_getElem?]
theorem rev_perm {p : Array Nat} {n m : Nat} (h : PermN p n) : PermN (kas_rev p 0 m) n := by
  refine ⟨List.Perm.trans ?_ h.perm⟩
  exact (mirror_perm p 0 m ((m - 0) / 2)).toList
theorem rev_asc {lt : Nat → Nat → Bool} {p : Array Nat} {n m : Nat} (h : PermN p n) (hm : m ≤ n) (d : DescP lt p m) : AscP lt (kas_rev p 0 m) m := by
  intro i j hij hj
  have hs := h.size
  rw [getD_rev (by omega), getD_rev (by omega), if_pos (by omega), if_pos hj]
  exact d _ _ (by omega) (by omega)

theorem getD_bub {p : Array Nat} {k l i : Nat} (hk : k < p.size) (hl : l ≤ k) : (bubble p k (k - l)).getD i 0 = if i = l then p.getD k 0 else if l < i ∧ i ≤ k then p.getD (i - 1) 0 else p.getD i 0 := by
  have := getElem?_bubble (xs := p) (src := k) hk (k - l) (by omega) i
  have e : k - (k - l) = l := by omega
  rw [e] at this
  simp only [Array.getD_eq_getD_getElem?]
  rw [this]
  by_cases h1 : i = l
  · rw [if_pos h1, if_pos h1]
  · rw [if_neg h1, if_neg h1]
    by_cases h2 : l < i ∧ i ≤ k
    · rw [if_pos h2, if_pos h2]
    · rw [if_neg h2, if_neg h2]
theorem bub_perm {p : Array Nat} {n k d : Nat} (h : PermN p n) : PermN (bubble p k d) n := ⟨List.Perm.trans (bubble_perm p k d).toList h.perm⟩

section
variable {lt : Nat → Nat → Bool} {n : Nat} (S : Strict lt n)
include S
theorem place_ok {p : Array Nat} (h : PermN p n) {k : Nat} (hk : k < n) (a : AscP lt p k) : ∀ (f l r : Nat), l ≤ r → r ≤ k → r - l ≤ f → (∀ i, i < l → lt (p.getD i 0) (p.getD k 0) = true) → (∀ i, r ≤ i → i < k → lt (p.getD k 0) (p.getD i 0) = true) →
    evIn lt (· < n) (kas_place p k f l r) ∧ ∃ x, ev lt (kas_place p k f l r) = x ∧ x ≤ k ∧ (∀ i, i < x → lt (p.getD i 0) (p.getD k 0) = true) ∧ (∀ i, x ≤ i → i < k → lt (p.getD k 0) (p.getD i 0) = true)
  | 0, l, r, h1, h2, h3, h4, h5 => by
    have : l = r := by omega
    subst this
    exact ⟨trivial, l, rfl, h2, h4, h5⟩
  | f + 1, l, r, h1, h2, h3, h4, h5 => by
    unfold kas_place
    by_cases hlr : l ≥ r
    · rw [if_pos hlr]
      have : l = r := by omega
      subst this
      exact ⟨trivial, l, rfl, h2, h4, h5⟩
    · rw [if_neg hlr]
      simp only [evIn, ev]
      have hm : (l + r) / 2 < k := by omega
      cases q : lt (p.getD k 0) (p.getD ((l + r) / 2) 0) with
      | true =>
        obtain ⟨e1, x, e2, e3, e4, e5⟩ := place_ok h hk a f l ((l + r) / 2) (by omega) (by omega) (by omega) h4 fun i hi hik => by
          by_cases e : i = (l + r) / 2
          · rw [e]; exact q
          · exact S.trans _ _ _ (h.lt hk) (h.lt (by omega)) (h.lt (by omega)) q (a _ _ (by omega) hik)
        exact ⟨⟨h.lt hk, h.lt (by omega), by simpa using e1⟩, x, by simpa using e2, e3, e4, e5⟩
      | false =>
        have hl := tot_at S h hk (by omega) (by omega) q
        obtain ⟨e1, x, e2, e3, e4, e5⟩ := place_ok h hk a f ((l + r) / 2 + 1) r (by omega) h2 (by omega) (fun i hi => by
          by_cases e : i = (l + r) / 2
          · rw [e]; exact hl
          · exact S.trans _ _ _ (h.lt (by omega)) (h.lt (by omega)) (h.lt hk) (a _ _ (by omega) hm) hl) h5
        exact ⟨⟨h.lt hk, h.lt (by omega), by simpa using e1⟩, x, by simpa using e2, e3, e4, e5⟩
theorem bin_ok : ∀ (f k : Nat) {p : Array Nat}, PermN p n → k + f = n → AscP lt p k →
    evIn lt (· < n) (kas_bin f p k) ∧ ∃ q, ev lt (kas_bin f p k) = q ∧ PermN q n ∧ AscP lt q n
  | 0, k, p, h, h1, a => ⟨trivial, p, rfl, h, by have : k = n := by omega
                                                 subst this; exact a⟩
  | f + 1, k, p, h, h1, a => by
    have hk : k < n := by omega
    have hs := h.size
    unfold kas_bin
    obtain ⟨e1, x, e2, e3, e4, e5⟩ := place_ok S h hk a k 0 k (by omega) (by omega) (by omega) (fun i hi => absurd hi (by omega)) fun i h1 h2 => absurd h2 (by omega)
    rw [ev_bind, e2]
    have a2 : AscP lt (bubble p k (k - x)) (k + 1) := by
      intro i j hij hj
      rw [getD_bub (by omega) e3, getD_bub (by omega) e3]
      by_cases i1 : i = x
      · rw [if_pos i1, if_neg (by omega), if_pos (by omega)]
        exact e5 _ (by omega) (by omega)
      · rw [if_neg i1]
        by_cases i2 : x < i ∧ i ≤ k
        · rw [if_pos i2, if_neg (by omega), if_pos (by omega)]
          exact a _ _ (by omega) (by omega)
        · rw [if_neg i2]
          by_cases j1 : j = x
          · rw [if_pos j1]; exact e4 _ (by omega)
          · rw [if_neg j1]
            by_cases j2 : x < j ∧ j ≤ k
            · rw [if_pos j2]; exact a _ _ (by omega) (by omega)
            · rw [if_neg j2]; exact a _ _ hij (by omega)
    obtain ⟨g1, q, g2, g3, g4⟩ := bin_ok f (k + 1) (bub_perm h) (by omega) a2
    exact ⟨evIn_bind lt _ _ _ e1 (by rw [e2]; exact g1), q, g2, g3, g4⟩
theorem desc_part {p : Array Nat} (h : PermN p n) (h2 : 2 ≤ n) (hd : lt (p.getD 1 0) (p.getD 0 0) = true) :
    evIn lt (· < n) (kas_descPart 1 n p) ∧ ∃ m q, ev lt (kas_descPart 1 n p) = (m, q) ∧ 1 ≤ m ∧ m ≤ n ∧ PermN q n ∧ AscP lt q m := by
  have d2 : DescP lt p 2 := by
    intro i j hij hj
    have hi0 : i = 0 := by omega
    have hj1 : j = 1 := by omega
    rw [hi0, hj1]; exact hd
  obtain ⟨e1, r, e2, e3, e4, e5⟩ := desc_ok S h (n - 2) 2 (by omega) (by omega) d2
  unfold kas_descPart
  have hp := rev_perm (m := r) h
  have ha := rev_asc h e4 e5
  obtain ⟨g1, m, g2, g3, g4, g5, _⟩ := asc_ok S hp (n - r) r (by omega) (by omega) ha
  have t1 : ev lt (kas_tail3 r n p) = (m, kas_rev p 0 r) := by unfold kas_tail3; rw [ev_bind, g2]; rfl
  have t2 : evIn lt (· < n) (kas_tail3 r n p) := by unfold kas_tail3; exact evIn_bind lt _ _ _ g1 trivial
  have hn : n - (1 + 1) = n - 2 := rfl
  refine ⟨evIn_bind lt _ _ _ (by rw [hn]; exact e1) ?_, m, kas_rev p 0 r, ?_, by omega, g4, hp, g5⟩
  · rw [hn, e2]; simpa using t2
  · rw [ev_bind, hn, e2]; simpa using t1
theorem count_ok (h2 : 2 ≤ n) {p : Array Nat} (h : PermN p n) : evIn lt (· < n) (kas_count n p) ∧ ∃ m q, ev lt (kas_count n p) = (m, q) ∧ 1 ≤ m ∧ m ≤ n ∧ PermN q n ∧ AscP lt q m := by
  obtain ⟨e1, r, e2, e3, e4, e5, e6⟩ := asc_ok S h (n - 1) 1 (by omega) (by omega) fun i j hij hj => absurd hj (by omega)
  have body : evIn lt (· < n) (if (r == n) = true then KasT.ret (r, p) else if r > 1 then .ask (p.getD 0 0) (p.getD (r - 1) 0) fun c => if c = true then .ret (r, p) else kas_descPart r n (kas_rev p 0 r) else kas_descPart r n p) ∧
      ∃ m q, ev lt (if (r == n) = true then KasT.ret (r, p) else if r > 1 then .ask (p.getD 0 0) (p.getD (r - 1) 0) fun c => if c = true then .ret (r, p) else kas_descPart r n (kas_rev p 0 r) else kas_descPart r n p) = (m, q) ∧ 1 ≤ m ∧ m ≤ n ∧ PermN q n ∧ AscP lt q m := by
    by_cases hr : r = n
    · rw [if_pos (by simpa using hr)]
      exact ⟨trivial, r, p, rfl, e3, e4, h, e5⟩
    · rw [if_neg (by simpa using hr)]
      by_cases hr1 : r > 1
      · rw [if_pos hr1]
        have hq := e5 0 (r - 1) (by omega) (by omega)
        simp only [evIn, ev, hq, if_true]
        exact ⟨⟨h.lt (by omega), h.lt (by omega), trivial⟩, r, p, rfl, e3, e4, h, e5⟩
      · rw [if_neg hr1]
        have : r = 1 := by omega
        subst this
        exact desc_part S h h2 (e6 (by omega))
  unfold kas_count
  refine ⟨evIn_bind lt _ _ _ e1 (by rw [e2]; exact body.1), ?_⟩
  rw [ev_bind, e2]
  exact body.2
/-- the sort sorts -/
theorem sort_ok (h2 : 2 ≤ n) : evIn lt (· < n) (kas_sort n) ∧ ∃ q, ev lt (kas_sort n) = q ∧ PermN q n ∧ AscP lt q n := by
  have h0 : PermN (List.toArray (List.range n)) n := ⟨List.Perm.refl _⟩
  obtain ⟨e1, m, q, e2, e3, e4, e5, e6⟩ := count_ok S h2 h0
  unfold kas_sort
  by_cases hm : m < n
  · have hmax : max m 1 = m := by omega
    obtain ⟨g1, q', g2, g3, g4⟩ := bin_ok S (n - m) m e5 (by omega) e6
    refine ⟨evIn_bind lt _ _ _ e1 ?_, q', ?_, g3, g4⟩
    · rw [e2]; simp only [hm, if_true, hmax]; exact g1
    · rw [ev_bind, e2]; simp only [hm, if_true, hmax]; exact g2
  · have : m = n := by omega
    subst this
    refine ⟨evIn_bind lt _ _ _ e1 ?_, q, ?_, e5, e6⟩
    · rw [e2]; simp only [Nat.lt_irrefl, if_false]; trivial
    · rw [ev_bind, e2]; simp only [Nat.lt_irrefl, if_false]; rfl
end
end Mine

end
section
open PySem PySem.W PyProof.Rows PySem.Calls PySem.NumText PySem.SeqAt
namespace Mine

/-- all that lives but L -/
noncomputable def lives (h : Heap) (L : Addr) : List (Addr × Obj) := (List.range h.objs.size).filterMap fun a => if a = L then none else (h.get? a).map fun o => (a, o)
theorem mem_lives {h : Heap} {L a : Addr} {o : Obj} : (a, o) ∈ lives h L ↔ a ≠ L ∧ h.get? a = some o := by
  unfold lives
  simp only [List.mem_filterMap, List.mem_range]
  constructor
  · rintro ⟨b, hb, e⟩
    split at e
    · cases e
    · rename_i hn
      obtain ⟨o', ho, e'⟩ := Option.map_eq_some_iff.mp e
      cases e'
      exact ⟨hn, ho⟩
  · rintro ⟨hn, ho⟩
    exact ⟨a, Heap.lt_size ho, by rw [if_neg hn, ho]; rfl⟩

section
variable {outer : List Env} {ex : List Addr} {s0 s : Shared} {G0 G : Store} {L : Addr} {m : Str → Option Value} {mu : List (Addr × It)} {prog : Program} {w : World} {A : Around} {E : Value → Shared → Prop} {env : Env} {sc : Scope}

theorem In.fr (I : In outer ex s0 G0 G L m mu s) : Fr {} L s.heap m := ⟨I.ns, fun b o e => by simp [Heap.get?] at e, Nat.zero_le _⟩
theorem In.news (I : In outer ex s0 G0 G L m mu s) : News {} L s.heap (lives s.heap L) := fun p hp => by
  obtain ⟨h1, h2⟩ := mem_lives.mp (show (p.1, p.2) ∈ _ from hp)
  exact ⟨h2, h1, by simp [Heap.get?]⟩
theorem In.ledger {D : Addr} {o : Obj} {h' : Heap} (I : In outer ex s0 G0 G L m mu s) (F : Fr {} L h' m) (N : News {} L h' ((D, o) :: lives s.heap L)) (hD : ∀ q ∈ lives s.heap L, q.1 < D) :
    In outer ex s0 G0 G L m ((D, .ob o) :: mu) { s with heap := h' } := by
  have k : ∀ b o, b ≠ L → s.heap.get? b = some o → h'.get? b = some o := fun b o hb e => (N (b, o) (.tail _ (mem_lives.mpr ⟨hb, e⟩))).1
  have nD := N (D, o) (.head _)
  have hn : s.heap.get? D = none := by
    cases q : s.heap.get? D with
    | none => rfl
    | some o' => exact absurd (hD _ (mem_lives.mpr ⟨nD.2.1, q⟩)) (Nat.lt_irrefl _)
  have hn0 : s0.heap.get? D = none := none_of (I.alive D) hn
  have al : ∀ b, (s.heap.get? b).isSome = true → (h'.get? b).isSome = true := fun b hb => by
    by_cases q : b = L
    · rw [q]; exact ns_some F.ns
    · cases e : s.heap.get? b with
      | none => rw [e] at hb; cases hb
      | some o' => rw [k b o' q e]; rfl
  refine I.turn (.refl _) (fun a o' e => ?_) (fun a o' e => .inl e) (I.keepOn fun b o' hx hb e => ?_) (fun b h => al b (I.alive b h)) rfl rfl F.ns I.gL (fun p hp => ?_) ?_ fun b hb o' e => ?_
  · exact k a o' (fun q => by rw [q, I.gL] at e; cases e) (I.sub a o' e)
  · exact k b o' (ne_of_some hb I.above) e
  · rcases List.mem_cons.mp hp with rfl | hp
    · refine ⟨nD.1, ?_, nD.2.1, fun q => ne_of_some (I.fsl _ q) hn0 rfl, .inl hn0⟩
      cases q : G D with
      | none => rfl
      | some o' => exact absurd rfl (ne_of_some (I.gsome q) hn)
    · obtain ⟨h1, h2, h3, h4, h5⟩ := I.mus p hp
      exact ⟨h1.keep fun o e => k _ o h3 e, h2, h3, h4, h5⟩
  · simp only [List.map_cons, List.nodup_cons]
    refine ⟨fun hm => ?_, I.nd⟩
    obtain ⟨p, hp, e⟩ := List.mem_map.mp hm
    exact ne_of_some (I.mus p hp).1.there hn e
  · exact ⟨o', k b o' (I.nf hb) e, rfl⟩
end

/-- `<` of two lists, as the sort asks it -/
theorem lexRd {G : Store} {s : Shared} (S : SubS G s.heap) (n : Nat) {A : Around} {k : Nat} {vs ws : List Value} {ds es : List Dat} (h1 : RdL G vs ds) (h2 : RdL G ws es) (q1 : ∀ d ∈ ds, kqdOk n d = true) (q2 : ∀ d ∈ es, kqdOk k d = true) (hu : A.units + n < cLine) {b : Bool} (hb : ltL ds es = some b) : Lex A s vs ws b := by
  induction vs generalizing ws ds es with
  | nil =>
    cases h1
    cases h2 with
    | nil => simp only [ltL, Option.some.injEq] at hb; subst hb; exact .nil
    | cons _ _ => simp only [ltL, Option.some.injEq] at hb; subst hb; exact .less
  | cons v vs hi =>
    cases h1 with
    | cons hv hvs =>
      cases h2 with
      | nil => simp only [ltL, Option.some.injEq] at hb; subst hb; exact .more
      | cons hw hws =>
        rename_i d ds w ws e es
        simp only [ltL] at hb
        split at hb
        · rename_i heq
          exact .eq (eqAt_Rd S hv hw (q1 _ (.head _)) (q2 _ (.head _)) hu true ⟨fun _ => heq, fun _ => rfl⟩) (hi hvs hws (fun x hx => q1 x (.tail _ hx)) (fun x hx => q2 x (.tail _ hx)) hb)
        · rename_i hne
          exact .lt (eqAt_Rd S hv hw (q1 _ (.head _)) (q2 _ (.head _)) hu false ⟨(fun x => nomatch x), fun x => absurd x hne⟩) (ltAt_Rd S n hv hw (q1 _ (.head _)) (q2 _ (.head _)) hu hb)

open Classical in
noncomputable def ltP (dss : List (List Dat)) (i j : Nat) : Bool :=
  if dss.getD i [] = dss.getD j [] then decide (i < j) else (ltL (dss.getD i []) (dss.getD j [])).getD false

section
variable {outer : List Env} {ex : List Addr} {s0 s : Shared} {G0 G : Store} {L : Addr} {m : Str → Option Value} {mu : List (Addr × It)} {prog : Program} {w : World} {A : Around} {E : Value → Shared → Prop} {env : Env} {sc : Scope}

theorem one_list {x y : Addr} {vs ws : List Value} {n k : Nat} {b : Bool} {Q : Bool → Shared → Prop} (hx : s.heap.get? x = some (lstO vs n)) (hy : s.heap.get? y = some (lstO ws k)) (hu : A.units < cLine) (hL : Lex A.in1 s vs ws b) (h : Q b s) :
    wpAny (model prog w) A (oneLt' true (.ref x) (.ref y)) Q E s := by
  rw [oneLt'_eq]
  simp only [if_true]
  refine wpAny_bind (wpAny_cRoomFor hu (wpAny_bind ?_))
  refine wpAny_callSpecialIfBound?_slot ⟨_, hx, rfl⟩ F.slot_list_lt ?_
  refine call_meets F.slot_list_lt ⟨_, hx, rfl⟩ entry_list_lt (F.args_list_lt_2 _ _) (list_ltAt x y vs.toArray ws.toArray n k none none #[] #[] b) ⟨hx, hy, by simpa using hL, ?_⟩
  exact wpAny_bind (wpAny_truthy_bool (wpAny_pure h))

theorem askK {vs : List Value} {dss : List (List Dat)} {n : Nat} (S : SubS G s.heap) (hlen : dss.length = vs.length) (hv : RdL G vs (dss.zipIdx.map fun p => .tuple [.list p.1, .int p.2])) (hok : ∀ ds ∈ dss, ∀ d ∈ ds, kqdOk n d = true)
    (hlt : ∀ ds ∈ dss, ∀ es ∈ dss, ∃ b, ltL ds es = some b) (hu : A.units + 2 + n < cLine) (i j : Nat) (C : Bool → Shared → Prop) (hi : i < vs.length) (hj : j < vs.length) (hC : C (ltP dss i j) s) :
    kas_ask prog w A (tuples' true) vs i j C s := by
  have at' : ∀ i, i < vs.length → ∃ a X u k xs' n', vs.getD i .none = .ref a ∧ G a = some (tupO [.ref X, .int i u] k) ∧ G X = some (lstO xs' n') ∧ RdL G xs' (dss.getD i []) := by
    intro i hi
    have hi' : i < dss.length := by omega
    have e : (dss.zipIdx.map fun p => Dat.tuple [.list p.1, .int p.2])[i]? = some (.tuple [.list (dss.getD i []), .int i]) := by
      rw [List.getElem?_map, List.getElem?_zipIdx, List.getElem?_eq_getElem hi']
      simp [hi']
    obtain ⟨v, hv1, rv⟩ := hv.get e
    have ev : vs.getD i .none = v := by rw [List.getD_eq_getElem?_getD, hv1]; rfl
    rw [ev]
    cases rv with
    | tuple ht rt =>
    cases rt with
    | cons r1 rt =>
    cases rt with
    | cons r2 rt =>
    cases rt
    cases r1 with
    | list hx rx =>
    cases r2
    exact ⟨_, _, _, _, _, _, rfl, ht, hx, rx⟩
  obtain ⟨a, X, u, k, xs, n1, e1, ha, hX, rx⟩ := at' i hi
  obtain ⟨b, Y, t, k2, ys, n2, e2, hb, hY, ry⟩ := at' j hj
  have mi : dss.getD i [] ∈ dss := by rw [List.getD_eq_getElem?_getD, List.getElem?_eq_getElem (by omega)]; exact List.getElem_mem _
  have mj : dss.getD j [] ∈ dss := by rw [List.getD_eq_getElem?_getD, List.getElem?_eq_getElem (by omega)]; exact List.getElem_mem _
  unfold kas_ask
  rw [e1, e2]
  refine kat_lt (S _ _ ha) rfl (S _ _ hb) rfl ?_
  show KatLex _ _ _ _ _ _ [(_, _), (_, _)] 0 s
  refine kat_cons ?_
  have eq := eqAt_Rd (A := A) S (.list hX rx) (.list hY ry) (n := n + 1) (k := n + 1) (by simpa [kqdOk] using hok _ mi) (by simpa [kqdOk] using hok _ mj) (by omega)
  unfold ltP at hC
  by_cases hd : dss.getD i [] = dss.getD j []
  · rw [if_pos hd] at hC
    refine eq true ⟨fun _ => by rw [hd], fun _ => rfl⟩ prog w _ _ (kat_yes (kat_cons (wpAny_eqBool_int ?_)))
    by_cases hij : i = j
    · subst hij
      have : ((i : Int) == (i : Int)) = true := by simp
      rw [this]
      refine kat_yes (kat_nil ?_)
      simpa using hC
    · have : ((i : Int) == (j : Int)) = false := by simp; omega
      rw [this]
      refine kat_no ?_
      show wpAny _ _ (oneLt' false _ _) _ _ _
      refine kat_one _ _ (lt_int ?_)
      show C (decide ((i : Int) < (j : Int))) s
      have : decide ((i : Int) < (j : Int)) = decide (i < j) := by simp
      rw [this]; exact hC
  · rw [if_neg hd] at hC
    refine eq false ⟨(fun x => nomatch x), fun x => absurd (by simpa using x) hd⟩ prog w _ _ (kat_no ?_)
    obtain ⟨b', hb'⟩ := hlt _ mi _ mj
    rw [hb'] at hC
    show wpAny _ _ (oneLt' true _ _) _ _ _
    exact one_list (S _ _ hX) (S _ _ hY) (by omega) (lexRd S n rx ry (hok _ mi) (hok _ mj) (by show A.units + 1 + n < cLine; omega) hb') hC

theorem sortedK {l : Addr} {vs : List Value} {k n : Nat} {dss : List (List Dat)} {Q : Value → Shared → Prop} (I : In outer ex s0 G0 G L m mu s) (hl : G l = some (lstO vs k)) (hlen : dss.length = vs.length) (hv : RdL G vs (dss.zipIdx.map fun p => .tuple [.list p.1, .int p.2]))
    (hok : ∀ ds ∈ dss, ∀ d ∈ ds, kqdOk n d = true) (hlt : ∀ ds ∈ dss, ∀ es ∈ dss, ∃ b, ltL ds es = some b) (hst : Strict (ltP dss) vs.length) (hu : A.units + 4 + n < cLine) (h2 : 2 ≤ vs.length) (h64 : vs.length < 64)
    (h : ∀ q D c s', PermN q vs.length → AscP (ltP dss) q vs.length → In outer ex s0 G0 G L m ((D, .ob (lstO (q.toList.map fun i => vs.getD i .none) c)) :: mu) s' → Q (.ref D) s') :
    wpAny (model prog w) A (call (.builtin "sorted") [.ref l]) Q E s := by
  refine kat_sorted I.fr I.news (isL (I.sub _ _ hl)) h2 h64 fun D e1 h' F N hD => ?_
  have I1 := I.ledger F N hD
  obtain ⟨fs, T1, T2⟩ : ∃ fs, KatTups h' vs fs ∧ (∀ v ∈ fs, Looks (model prog w) h' (typeOf v) (.type "list")) := by
    have sub : ∀ a o, G a = some o → h'.get? a = some o := fun a o e => I1.sub a o e
    have gen : ∀ (ps : List (List Dat × Nat)) (vs : List Value), RdL G vs (ps.map fun p => .tuple [.list p.1, .int p.2]) → ∃ fs, KatTups h' vs fs ∧ (∀ v ∈ fs, Looks (model prog w) h' (typeOf v) (.type "list")) := by
      intro ps
      induction ps with
      | nil => intro vs h; cases h; exact ⟨[], .nil, fun v hv => nomatch hv⟩
      | cons p ps ih =>
        intro vs h
        cases h with
        | cons r rs =>
        cases r with
        | tuple ht rt =>
        cases rt with
        | cons r1 rt =>
        cases r1 with
        | list hx rx =>
        obtain ⟨fs, a1, a2⟩ := ih _ rs
        refine ⟨_ :: fs, KatTups.cons (sub _ _ ht) rfl rfl (f := .ref _) (by simp; rfl) a1, fun v hv => ?_⟩
        rcases List.mem_cons.mp hv with rfl | hv
        · exact (Looks.ld (sub _ _ hx)).andThen .now
        · exact a2 v hv
    exact gen _ _ hv
  have hfs : fs.length = vs.length := by
    clear hlen hv hst h2 h64 h T2 hlt hok hl
    induction vs generalizing fs with
    | nil => cases fs with
      | nil => rfl
      | cons _ _ => exact T1.elim
    | cons v vs ih => cases fs with
      | nil => exact T1.elim
      | cons f fs => simp [ih fs T1.2]
  refine kat_kind (T := .type "list") T1 (by omega) T2 (by decide) ?_
  have hk : (Value.type "list" != Value.type "tuple") = true := by decide
  rw [hk]
  obtain ⟨e2, q, e3, p1, p2⟩ := sort_ok hst h2
  refine kasWp_ev (lt := ltP dss) (P := (· < vs.length)) (fun i j C hi hj hC => askK I1.sub hlen hv hok hlt (by show A.units + 1 + 1 + 2 + n < cLine; omega) i j C hi hj hC) _ e2 ?_
  rw [e3]
  have U : UpdF D (seqObj "list" #[] e1) ((D, seqObj "list" #[] e1) :: lives s.heap L) (fun o' => (D, o') :: lives s.heap L) := .head fun p hp => Nat.ne_of_lt (hD p hp)
  refine KasFin.intro F N U fun h'' c F' N' => ?_
  exact h q D c _ p1 p2 (I.ledger F' N' hD)
end
end Mine

end
section
open PySem PySem.W PyProof.Rows PySem.Calls PySem.NumText PySem.Builtin.Re
namespace Mine

/-! ## what _comparable_version tells of a text -/
def Tells (cs : List Nat) (ds : List Dat) : Prop := ∃ X dss, Pcs cs X ∧ PiecesAre X dss ∧ dss.flatten = ds ∧ X.length ≤ 2 * cs.length + 1
structure FT (t : List Nat) (ds : List Dat) : Prop where
  fin : Tells t ds
  dot : ∀ r es, Tells r es → Tells (t ++ 46 :: r) (ds ++ es)

theorem skip_nil : PieceIs [] [] := .skip (by kernel_rfl)
theorem skip_dot : PieceIs [46] [] := .skip (by kernel_rfl)
theorem skip_plus : PieceIs [43] [] := .skip (by kernel_rfl)
theorem skip_minus : PieceIs [45] [] := .skip (by kernel_rfl)
theorem Tells.nil : Tells [] [] := ⟨[[]], [[]], .stop rfl, .cons skip_nil .nil, rfl, by simp⟩
theorem Tells.sep {c : Nat} {r : List Nat} {es : List Dat} (hd : isDig c = false) (hs : isSep c = true) (hp : PieceIs [c] []) (h : Tells r es) : Tells (c :: r) es := by
  obtain ⟨X, dss, h1, h2, h3, h4⟩ := h
  refine ⟨[] :: [c] :: X, [] :: [] :: dss, ?_, .cons skip_nil (.cons hp h2), by simpa using h3, by simp; omega⟩
  exact Pcs.go (q := 0) (l := 1) (r := c :: r) (by simp [hit, hd, hs]) (by simpa using h1)
theorem Tells.dot {r : List Nat} {es : List Dat} (h : Tells r es) : Tells (46 :: r) es := Tells.sep (by decide) (by decide) skip_dot h
theorem FT.sep {c : Nat} {t : List Nat} {ds : List Dat} (hd : isDig c = false) (hs : isSep c = true) (hp : PieceIs [c] []) (h : FT t ds) : FT (c :: t) ds :=
  ⟨Tells.sep hd hs hp h.fin, fun r es hr => Tells.sep hd hs hp (h.dot r es hr)⟩
theorem hit_word {w : List Nat} (hw : ∀ c ∈ w, isDig c = false ∧ isSep c = false) (r : List Nat) (p : Nat) : hit (w ++ r) p = hit r (p + w.length) := by
  induction w generalizing p with
  | nil => rfl
  | cons c w ih =>
    obtain ⟨h1, h2⟩ := hw c (.head _)
    show hit (c :: (w ++ r)) p = _
    simp only [hit, h1, h2, Bool.false_eq_true, if_false]
    rw [ih (fun c hc => hw c (.tail _ hc))]
    simp only [List.length_cons]
    congr 1
    omega
theorem FT.word {w : List Nat} {ds : List Dat} (hw : ∀ c ∈ w, isDig c = false ∧ isSep c = false) (hp : PieceIs w ds) : FT w ds := by
  refine ⟨⟨[w], [ds], .stop ?_, .cons hp .nil, by simp, by simp⟩, fun r es h => ?_⟩
  · have := hit_word hw [] 0
    rw [List.append_nil] at this
    rw [this]; rfl
  · obtain ⟨X, dss, h1, h2, h3, h4⟩ := h
    refine ⟨w :: [46] :: X, ds :: [] :: dss, ?_, .cons hp (.cons skip_dot h2), by simp [h3], by simp; omega⟩
    have e := Pcs.go (r := w ++ 46 :: r) (q := w.length) (l := 1) (ps := X) (by rw [hit_word hw]; simp [hit, show isDig 46 = false by decide, show isSep 46 = true by decide]) (by
      have : (w ++ 46 :: r).drop (w.length + 1) = r := by rw [← List.drop_drop]; simp
      rw [this]; exact h1)
    simpa using e
theorem takeWhile_digs {d r : List Nat} (hd : ∀ c ∈ d, isDig c = true) (hr : r = [] ∨ ∃ q, r = 46 :: q) : (d ++ r).takeWhile isDig = d := by
  induction d with
  | nil =>
    rcases hr with rfl | ⟨q, rfl⟩
    · rfl
    · simp [show isDig 46 = false by decide]
  | cons c d ih => simp [hd c (.head _), ih fun c hc => hd c (.tail _ hc)]
theorem Tells.dig {d r : List Nat} {ds es : List Dat} (hne : d ≠ []) (hd : ∀ c ∈ d, isDig c = true) (hr : r = [] ∨ ∃ q, r = 46 :: q) (hp : PieceIs d ds) (h : Tells r es) : Tells (d ++ r) (ds ++ es) := by
  obtain ⟨X, dss, h1, h2, h3, h4⟩ := h
  have hl : 1 ≤ d.length := by cases d with
    | nil => exact absurd rfl hne
    | cons _ _ => simp
  refine ⟨[] :: d :: X, [] :: ds :: dss, ?_, .cons skip_nil (.cons hp h2), by simp [h3], by simp; omega⟩
  have hh : hit (d ++ r) 0 = some (0, d.length) := by
    have ht := takeWhile_digs hd hr
    cases d with
    | nil => exact absurd rfl hne
    | cons c d =>
      have e : (c :: d) ++ r = c :: (d ++ r) := rfl
      rw [e] at ht ⊢
      simp only [hit, hd c (.head _), if_true, ht]
  have e := Pcs.go (r := d ++ r) (q := 0) (l := d.length) (ps := X) hh (by simpa using h1)
  simpa using e
theorem FT.dig {d : List Nat} {ds : List Dat} (hne : d ≠ []) (hd : ∀ c ∈ d, isDig c = true) (hp : PieceIs d ds) : FT d ds := by
  refine ⟨?_, fun r es h => Tells.dig hne hd (.inr ⟨r, rfl⟩) hp h.dot⟩
  have := Tells.dig hne hd (.inl rfl) hp Tells.nil
  simpa using this
/-- texts, joined by dots -/
def joinDots : List (List Nat) → List Nat
  | [] => []
  | [x] => x
  | x :: y :: r => x ++ 46 :: joinDots (y :: r)
theorem tells_join : ∀ (ts : List (List Nat × List Dat)), ts ≠ [] → (∀ t ∈ ts, FT t.1 t.2) → Tells (joinDots (ts.map (·.1))) (ts.map (·.2)).flatten
  | [], h, _ => absurd rfl h
  | [t], _, h => by simpa [joinDots] using (h t (.head _)).fin
  | t :: u :: r, _, h => by
    have ih := tells_join (u :: r) (by simp) fun t ht => h t (.tail _ ht)
    exact (h t (.head _)).dot _ _ ih

theorem join_cps : ∀ l : List Str, (Str.join dotS l).cps.toList = joinDots (l.map fun x => x.cps.toList)
  | [] => rfl
  | [x] => rfl
  | x :: y :: r => by
    have ih := join_cps (y :: r)
    have app : ∀ a b : Str, (a ++ b).cps.toList = a.cps.toList ++ b.cps.toList := fun a b => by show (a.cps ++ b.cps).toList = _; simp
    show (x ++ dotS ++ Str.join dotS (y :: r)).cps.toList = _
    rw [app, app, ih]
    have : dotS.cps.toList = [46] := by decide +kernel
    rw [this]
    simp [joinDots]
theorem join_txt (l : List Str) : Txt.join dotS l = Str.join dotS l := StrLaws.glued_eq_join _ _

/-- the key of a joined text -/
theorem keyK {prog : Program} {w : World} (l : List (Str × List Dat)) (hne : l ≠ []) (hl : (Txt.join dotS (l.map (·.1))).length < 2 ^ 15) (h : ∀ t ∈ l, FT t.1.cps.toList t.2) : KeyK prog w (.str (Txt.join dotS (l.map (·.1)))) (.list (l.map (·.2)).flatten) := by
  obtain ⟨X, dss, h1, h2, h3, h4⟩ := tells_join (l.map fun t => (t.1.cps.toList, t.2)) (by simpa using hne) (by
    intro t ht
    obtain ⟨u, hu, rfl⟩ := List.mem_map.mp ht
    exact h u hu)
  intro A outer n G s v Q E hA O P hv hQ
  have e : (Txt.join dotS (l.map (·.1))).cps.toList = joinDots ((l.map fun t => (t.1.cps.toList, t.2)).map (·.1)) := by
    rw [join_txt, join_cps, List.map_map, List.map_map]; rfl
  have e2 : (l.map fun t => (t.1.cps.toList, t.2)).map (·.2) = l.map (·.2) := by rw [List.map_map]; rfl
  rw [← e] at h1 h4
  rw [e2] at h3
  generalize hx : Txt.join dotS (l.map (·.1)) = x at *
  have hxe : (.str x : Dat) = sD x.cps.toList := by show Dat.str x = Dat.str ⟨x.cps.toList.toArray⟩; rw [Array.toArray_toList]
  rw [hxe] at hv
  have hxl : x.cps.toList.length < 2 ^ 15 := by have : x.cps.size < 2 ^ 15 := hl; simpa using this
  exact cmpK hA O P hv (by omega) h1 h2 (by omega) fun r s' G' a b => hQ r s' G' a (by rw [h3] at b; exact b)

/-! ### the fields -/
theorem lt30 {p : Nat → Prop} {c : Nat} (h : c < 30) (h' : ∀ i : Fin 30, p i) : p c := h' ⟨c, h⟩
def cpsOf (l : List Nat) : Str := ⟨l.toArray⟩
theorem num_w0 : NumOf ⟨([120] : List Nat).toArray⟩ none := .bad (by decide +kernel) (fun u => by kernel_rfl)
theorem ft_w0 : FT [120] [.int 0, .str ⟨([120] : List Nat).toArray⟩] :=
  FT.word (by decide) (by
    have e : stageOf ⟨([120] : List Nat).toArray⟩ = 0 := by kernel_rfl
    have := PieceIs.word (x := [120]) (by kernel_rfl) num_w0
    rw [e] at this
    exact this)
theorem num_w1 : NumOf ⟨([100, 101, 118] : List Nat).toArray⟩ none := .bad (by decide +kernel) (fun u => by kernel_rfl)
theorem ft_w1 : FT [100, 101, 118] [.int 10, .str ⟨([100, 101, 118] : List Nat).toArray⟩] :=
  FT.word (by decide) (by
    have e : stageOf ⟨([100, 101, 118] : List Nat).toArray⟩ = 10 := by kernel_rfl
    have := PieceIs.word (x := [100, 101, 118]) (by kernel_rfl) num_w1
    rw [e] at this
    exact this)
theorem num_w2 : NumOf ⟨([97, 108, 112, 104, 97] : List Nat).toArray⟩ none := .bad (by decide +kernel) (fun u => by kernel_rfl)
theorem ft_w2 : FT [97, 108, 112, 104, 97] [.int 20, .str ⟨([97, 108, 112, 104, 97] : List Nat).toArray⟩] :=
  FT.word (by decide) (by
    have e : stageOf ⟨([97, 108, 112, 104, 97] : List Nat).toArray⟩ = 20 := by kernel_rfl
    have := PieceIs.word (x := [97, 108, 112, 104, 97]) (by kernel_rfl) num_w2
    rw [e] at this
    exact this)
theorem num_w3 : NumOf ⟨([98] : List Nat).toArray⟩ none := .bad (by decide +kernel) (fun u => by kernel_rfl)
theorem ft_w3 : FT [98] [.int 30, .str ⟨([98] : List Nat).toArray⟩] :=
  FT.word (by decide) (by
    have e : stageOf ⟨([98] : List Nat).toArray⟩ = 30 := by kernel_rfl
    have := PieceIs.word (x := [98]) (by kernel_rfl) num_w3
    rw [e] at this
    exact this)
theorem num_w4 : NumOf ⟨([114, 99] : List Nat).toArray⟩ none := .bad (by decide +kernel) (fun u => by kernel_rfl)
theorem ft_w4 : FT [114, 99] [.int 50, .str ⟨([114, 99] : List Nat).toArray⟩] :=
  FT.word (by decide) (by
    have e : stageOf ⟨([114, 99] : List Nat).toArray⟩ = 50 := by kernel_rfl
    have := PieceIs.word (x := [114, 99]) (by kernel_rfl) num_w4
    rw [e] at this
    exact this)
theorem num_w5 : NumOf ⟨([112, 108] : List Nat).toArray⟩ none := .bad (by decide +kernel) (fun u => by kernel_rfl)
theorem ft_w5 : FT [112, 108] [.int 200, .str ⟨([112, 108] : List Nat).toArray⟩] :=
  FT.word (by decide) (by
    have e : stageOf ⟨([112, 108] : List Nat).toArray⟩ = 200 := by kernel_rfl
    have := PieceIs.word (x := [112, 108]) (by kernel_rfl) num_w5
    rw [e] at this
    exact this)
theorem num_d0 : NumOf ⟨([48] : List Nat).toArray⟩ (some 0) := .num (by decide +kernel) (by decide +kernel)
theorem ft_d0 : FT [48] [.int 100, .int 0] := FT.dig (by simp) (by decide) (.num (by kernel_rfl) num_d0)
theorem num_z0 : NumOf ⟨([48, 48] : List Nat).toArray⟩ (some 0) := .num (by decide +kernel) (by decide +kernel)
theorem ft_z0 : FT [48, 48] [.int 100, .int 0] := FT.dig (by simp) (by decide) (.num (by kernel_rfl) num_z0)
theorem num_p0 : NumOf ⟨([43, 48] : List Nat).toArray⟩ (some (0)) := .num (by decide +kernel) (by decide +kernel)
theorem ft_p0 : FT [43, 48] [.int 100, .int 0] := FT.sep (by decide) (by decide) skip_plus ft_d0
theorem num_m0 : NumOf ⟨([45, 48] : List Nat).toArray⟩ (some (0)) := .num (by decide +kernel) (by decide +kernel)
theorem ft_m0 : FT [45, 48] [.int 100, .int 0] := FT.sep (by decide) (by decide) skip_minus ft_d0
theorem num_d2 : NumOf ⟨([50] : List Nat).toArray⟩ (some 2) := .num (by decide +kernel) (by decide +kernel)
theorem ft_d2 : FT [50] [.int 100, .int 2] := FT.dig (by simp) (by decide) (.num (by kernel_rfl) num_d2)
theorem num_z2 : NumOf ⟨([48, 50] : List Nat).toArray⟩ (some 2) := .num (by decide +kernel) (by decide +kernel)
theorem ft_z2 : FT [48, 50] [.int 100, .int 2] := FT.dig (by simp) (by decide) (.num (by kernel_rfl) num_z2)
theorem num_p2 : NumOf ⟨([43, 50] : List Nat).toArray⟩ (some (2)) := .num (by decide +kernel) (by decide +kernel)
theorem ft_p2 : FT [43, 50] [.int 100, .int 2] := FT.sep (by decide) (by decide) skip_plus ft_d2
theorem num_m2 : NumOf ⟨([45, 50] : List Nat).toArray⟩ (some (-2)) := .num (by decide +kernel) (by decide +kernel)
theorem ft_m2 : FT [45, 50] [.int 100, .int 2] := FT.sep (by decide) (by decide) skip_minus ft_d2
theorem num_d9 : NumOf ⟨([57] : List Nat).toArray⟩ (some 9) := .num (by decide +kernel) (by decide +kernel)
theorem ft_d9 : FT [57] [.int 100, .int 9] := FT.dig (by simp) (by decide) (.num (by kernel_rfl) num_d9)
theorem num_z9 : NumOf ⟨([48, 57] : List Nat).toArray⟩ (some 9) := .num (by decide +kernel) (by decide +kernel)
theorem ft_z9 : FT [48, 57] [.int 100, .int 9] := FT.dig (by simp) (by decide) (.num (by kernel_rfl) num_z9)
theorem num_p9 : NumOf ⟨([43, 57] : List Nat).toArray⟩ (some (9)) := .num (by decide +kernel) (by decide +kernel)
theorem ft_p9 : FT [43, 57] [.int 100, .int 9] := FT.sep (by decide) (by decide) skip_plus ft_d9
theorem num_m9 : NumOf ⟨([45, 57] : List Nat).toArray⟩ (some (-9)) := .num (by decide +kernel) (by decide +kernel)
theorem ft_m9 : FT [45, 57] [.int 100, .int 9] := FT.sep (by decide) (by decide) skip_minus ft_d9
theorem num_d10 : NumOf ⟨([49, 48] : List Nat).toArray⟩ (some 10) := .num (by decide +kernel) (by decide +kernel)
theorem ft_d10 : FT [49, 48] [.int 100, .int 10] := FT.dig (by simp) (by decide) (.num (by kernel_rfl) num_d10)
theorem num_z10 : NumOf ⟨([48, 49, 48] : List Nat).toArray⟩ (some 10) := .num (by decide +kernel) (by decide +kernel)
theorem ft_z10 : FT [48, 49, 48] [.int 100, .int 10] := FT.dig (by simp) (by decide) (.num (by kernel_rfl) num_z10)
theorem num_p10 : NumOf ⟨([43, 49, 48] : List Nat).toArray⟩ (some (10)) := .num (by decide +kernel) (by decide +kernel)
theorem ft_p10 : FT [43, 49, 48] [.int 100, .int 10] := FT.sep (by decide) (by decide) skip_plus ft_d10
theorem num_m10 : NumOf ⟨([45, 49, 48] : List Nat).toArray⟩ (some (-10)) := .num (by decide +kernel) (by decide +kernel)
theorem ft_m10 : FT [45, 49, 48] [.int 100, .int 10] := FT.sep (by decide) (by decide) skip_minus ft_d10
theorem num_d11 : NumOf ⟨([49, 49] : List Nat).toArray⟩ (some 11) := .num (by decide +kernel) (by decide +kernel)
theorem ft_d11 : FT [49, 49] [.int 100, .int 11] := FT.dig (by simp) (by decide) (.num (by kernel_rfl) num_d11)
theorem num_z11 : NumOf ⟨([48, 49, 49] : List Nat).toArray⟩ (some 11) := .num (by decide +kernel) (by decide +kernel)
theorem ft_z11 : FT [48, 49, 49] [.int 100, .int 11] := FT.dig (by simp) (by decide) (.num (by kernel_rfl) num_z11)
theorem num_p11 : NumOf ⟨([43, 49, 49] : List Nat).toArray⟩ (some (11)) := .num (by decide +kernel) (by decide +kernel)
theorem ft_p11 : FT [43, 49, 49] [.int 100, .int 11] := FT.sep (by decide) (by decide) skip_plus ft_d11
theorem num_m11 : NumOf ⟨([45, 49, 49] : List Nat).toArray⟩ (some (-11)) := .num (by decide +kernel) (by decide +kernel)
theorem ft_m11 : FT [45, 49, 49] [.int 100, .int 11] := FT.sep (by decide) (by decide) skip_minus ft_d11
theorem num_d100 : NumOf ⟨([49, 48, 48] : List Nat).toArray⟩ (some 100) := .num (by decide +kernel) (by decide +kernel)
theorem ft_d100 : FT [49, 48, 48] [.int 100, .int 100] := FT.dig (by simp) (by decide) (.num (by kernel_rfl) num_d100)
theorem num_z100 : NumOf ⟨([48, 49, 48, 48] : List Nat).toArray⟩ (some 100) := .num (by decide +kernel) (by decide +kernel)
theorem ft_z100 : FT [48, 49, 48, 48] [.int 100, .int 100] := FT.dig (by simp) (by decide) (.num (by kernel_rfl) num_z100)
theorem num_p100 : NumOf ⟨([43, 49, 48, 48] : List Nat).toArray⟩ (some (100)) := .num (by decide +kernel) (by decide +kernel)
theorem ft_p100 : FT [43, 49, 48, 48] [.int 100, .int 100] := FT.sep (by decide) (by decide) skip_plus ft_d100
theorem num_m100 : NumOf ⟨([45, 49, 48, 48] : List Nat).toArray⟩ (some (-100)) := .num (by decide +kernel) (by decide +kernel)
theorem ft_m100 : FT [45, 49, 48, 48] [.int 100, .int 100] := FT.sep (by decide) (by decide) skip_minus ft_d100

def txtL : List (List Nat) := [[120], [48], [48, 48], [43, 48], [45, 48], [100, 101, 118], [50], [48, 50], [43, 50], [45, 50], [97, 108, 112, 104, 97], [57], [48, 57], [43, 57], [45, 57], [98], [49, 48], [48, 49, 48], [43, 49, 48], [45, 49, 48], [114, 99], [49, 49], [48, 49, 49], [43, 49, 49], [45, 49, 49], [112, 108], [49, 48, 48], [48, 49, 48, 48], [43, 49, 48, 48], [45, 49, 48, 48]]
def numL : List (Option Int) := [none, some (0), some (0), some (0), some (0), none, some (2), some (2), some (2), some (-2), none, some (9), some (9), some (9), some (-9), none, some (10), some (10), some (10), some (-10), none, some (11), some (11), some (11), some (-11), none, some (100), some (100), some (100), some (-100)]
theorem text_at : ∀ i : Fin 30, (fld i).text = cpsOf (txtL.getD i []) := by decide +kernel
theorem plain_at : ∀ i : Fin 30, (fld i).plain = (numL.getD i none).map fun n => ((toString n : String) : Str) := by decide +kernel
def fnum (x : Str) : Option Int := (((List.range 30).find? fun i => cpsOf (txtL.getD i []) = x).map fun i => numL.getD i none).getD none
theorem fnum_at : ∀ i : Fin 30, fnum (cpsOf (txtL.getD i [])) = numL.getD i none := by decide +kernel
theorem numOf_at : ∀ i : Fin 30, NumOf (cpsOf (txtL.getD i [])) (numL.getD i none)
  | 0 => num_w0
  | 1 => num_d0
  | 2 => num_z0
  | 3 => num_p0
  | 4 => num_m0
  | 5 => num_w1
  | 6 => num_d2
  | 7 => num_z2
  | 8 => num_p2
  | 9 => num_m2
  | 10 => num_w2
  | 11 => num_d9
  | 12 => num_z9
  | 13 => num_p9
  | 14 => num_m9
  | 15 => num_w3
  | 16 => num_d10
  | 17 => num_z10
  | 18 => num_p10
  | 19 => num_m10
  | 20 => num_w4
  | 21 => num_d11
  | 22 => num_z11
  | 23 => num_p11
  | 24 => num_m11
  | 25 => num_w5
  | 26 => num_d100
  | 27 => num_z100
  | 28 => num_p100
  | 29 => num_m100
  | ⟨n + 30, h⟩ => absurd h (by omega)
theorem ft_at : ∀ i : Fin 30, FT (txtL.getD i []) [.int (fld i).rank, (fld i).val]
  | 0 => ft_w0
  | 1 => ft_d0
  | 2 => ft_z0
  | 3 => ft_p0
  | 4 => ft_m0
  | 5 => ft_w1
  | 6 => ft_d2
  | 7 => ft_z2
  | 8 => ft_p2
  | 9 => ft_m2
  | 10 => ft_w2
  | 11 => ft_d9
  | 12 => ft_z9
  | 13 => ft_p9
  | 14 => ft_m9
  | 15 => ft_w3
  | 16 => ft_d10
  | 17 => ft_z10
  | 18 => ft_p10
  | 19 => ft_m10
  | 20 => ft_w4
  | 21 => ft_d11
  | 22 => ft_z11
  | 23 => ft_p11
  | 24 => ft_m11
  | 25 => ft_w5
  | 26 => ft_d100
  | 27 => ft_z100
  | 28 => ft_p100
  | 29 => ft_m100
  | ⟨n + 30, h⟩ => absurd h (by omega)
theorem ftp_at : ∀ i : Fin 30, ∀ n, numL.getD i none = some n → FT (((toString n : String) : Str).cps.toList) [.int (fld i).rank, (fld i).val]
  | 0, n, h => by cases h
  | 1, n, h => by cases h; exact (show ((toString (0 : Int) : String) : Str).cps.toList = [48] by decide +kernel) ▸ ft_d0
  | 2, n, h => by cases h; exact (show ((toString (0 : Int) : String) : Str).cps.toList = [48] by decide +kernel) ▸ ft_d0
  | 3, n, h => by cases h; exact (show ((toString (0 : Int) : String) : Str).cps.toList = [48] by decide +kernel) ▸ ft_d0
  | 4, n, h => by cases h; exact (show ((toString (0 : Int) : String) : Str).cps.toList = [48] by decide +kernel) ▸ ft_d0
  | 5, n, h => by cases h
  | 6, n, h => by cases h; exact (show ((toString (2 : Int) : String) : Str).cps.toList = [50] by decide +kernel) ▸ ft_d2
  | 7, n, h => by cases h; exact (show ((toString (2 : Int) : String) : Str).cps.toList = [50] by decide +kernel) ▸ ft_d2
  | 8, n, h => by cases h; exact (show ((toString (2 : Int) : String) : Str).cps.toList = [50] by decide +kernel) ▸ ft_d2
  | 9, n, h => by cases h; exact (show ((toString (-2 : Int) : String) : Str).cps.toList = [45, 50] by decide +kernel) ▸ ft_m2
  | 10, n, h => by cases h
  | 11, n, h => by cases h; exact (show ((toString (9 : Int) : String) : Str).cps.toList = [57] by decide +kernel) ▸ ft_d9
  | 12, n, h => by cases h; exact (show ((toString (9 : Int) : String) : Str).cps.toList = [57] by decide +kernel) ▸ ft_d9
  | 13, n, h => by cases h; exact (show ((toString (9 : Int) : String) : Str).cps.toList = [57] by decide +kernel) ▸ ft_d9
  | 14, n, h => by cases h; exact (show ((toString (-9 : Int) : String) : Str).cps.toList = [45, 57] by decide +kernel) ▸ ft_m9
  | 15, n, h => by cases h
  | 16, n, h => by cases h; exact (show ((toString (10 : Int) : String) : Str).cps.toList = [49, 48] by decide +kernel) ▸ ft_d10
  | 17, n, h => by cases h; exact (show ((toString (10 : Int) : String) : Str).cps.toList = [49, 48] by decide +kernel) ▸ ft_d10
  | 18, n, h => by cases h; exact (show ((toString (10 : Int) : String) : Str).cps.toList = [49, 48] by decide +kernel) ▸ ft_d10
  | 19, n, h => by cases h; exact (show ((toString (-10 : Int) : String) : Str).cps.toList = [45, 49, 48] by decide +kernel) ▸ ft_m10
  | 20, n, h => by cases h
  | 21, n, h => by cases h; exact (show ((toString (11 : Int) : String) : Str).cps.toList = [49, 49] by decide +kernel) ▸ ft_d11
  | 22, n, h => by cases h; exact (show ((toString (11 : Int) : String) : Str).cps.toList = [49, 49] by decide +kernel) ▸ ft_d11
  | 23, n, h => by cases h; exact (show ((toString (11 : Int) : String) : Str).cps.toList = [49, 49] by decide +kernel) ▸ ft_d11
  | 24, n, h => by cases h; exact (show ((toString (-11 : Int) : String) : Str).cps.toList = [45, 49, 49] by decide +kernel) ▸ ft_m11
  | 25, n, h => by cases h
  | 26, n, h => by cases h; exact (show ((toString (100 : Int) : String) : Str).cps.toList = [49, 48, 48] by decide +kernel) ▸ ft_d100
  | 27, n, h => by cases h; exact (show ((toString (100 : Int) : String) : Str).cps.toList = [49, 48, 48] by decide +kernel) ▸ ft_d100
  | 28, n, h => by cases h; exact (show ((toString (100 : Int) : String) : Str).cps.toList = [49, 48, 48] by decide +kernel) ▸ ft_d100
  | 29, n, h => by cases h; exact (show ((toString (-100 : Int) : String) : Str).cps.toList = [45, 49, 48, 48] by decide +kernel) ▸ ft_m100
  | ⟨n + 30, h⟩, _, _ => absurd h (by omega)
end Mine

end
section
open PySem PySem.W PyProof.Rows PySem.Calls PySem.NumText PySem.Builtin.Re
namespace Mine

/-! ## the order of the keys -/
def ltN : List Nat → List Nat → Bool
  | [], [] => false
  | [], _ :: _ => true
  | _ :: _, [] => false
  | a :: as, b :: bs => if a = b then ltN as bs else decide (a < b)
theorem ltN_irr : ∀ a, ltN a a = false
  | [] => rfl
  | a :: as => by simp [ltN, ltN_irr as]
theorem ltN_tot : ∀ a b, a ≠ b → ltN a b = true ∨ ltN b a = true
  | [], [], h => absurd rfl h
  | [], _ :: _, _ => .inl rfl
  | _ :: _, [], _ => .inr rfl
  | a :: as, b :: bs, h => by
    by_cases e : a = b
    · subst e
      have := ltN_tot as bs fun q => h (by rw [q])
      simpa [ltN] using this
    · have e' : ¬ b = a := fun q => e q.symm
      simp only [ltN, e, e', if_false, decide_eq_true_eq]
      omega
theorem ltN_trans : ∀ a b c, ltN a b = true → ltN b c = true → ltN a c = true
  | [], [], _, h, _ => by cases h
  | [], _ :: _, [], _, h => by cases h
  | [], _ :: _, _ :: _, _, _ => rfl
  | _ :: _, [], _, h, _ => by cases h
  | _ :: _, _ :: _, [], _, h => by cases h
  | a :: as, b :: bs, c :: cs, h1, h2 => by
    simp only [ltN] at h1 h2 ⊢
    by_cases e1 : a = b
    · subst e1
      simp only [if_true] at h1
      by_cases e2 : a = c
      · subst e2
        simp only [if_true] at h2 ⊢
        exact ltN_trans as bs cs h1 h2
      · simp only [e2, if_false] at h2 ⊢; exact h2
    · simp only [e1, if_false, decide_eq_true_eq] at h1
      by_cases e2 : b = c
      · subst e2
        simp only [e1, if_false, decide_eq_true_eq]; exact h1
      · simp only [e2, if_false, decide_eq_true_eq] at h2
        have : ¬ a = c := by omega
        simp only [this, if_false, decide_eq_true_eq]; omega
theorem ltN_asym {a b : List Nat} (h : ltN a b = true) : ltN b a = false := by
  cases q : ltN b a with
  | false => rfl
  | true => have := ltN_trans a b a h q; rw [ltN_irr] at this; cases this
/-- against a short one only the head counts -/
theorem ltN_short : ∀ (n : Nat) (a b : List Nat), b.length ≤ n → ltN a b = ltN (a.take n) b
  | 0, a, b, h => by
    have : b = [] := List.length_eq_zero_iff.mp (by omega)
    subst this
    cases a <;> rfl
  | n + 1, [], b, _ => rfl
  | n + 1, a :: as, [], _ => rfl
  | n + 1, a :: as, b :: bs, h => by
    simp only [List.take_succ_cons, ltN]
    rw [ltN_short n as bs (by simpa using h)]
theorem ltN_short' : ∀ (n : Nat) (a b : List Nat), b.length ≤ n → ltN b a = (ltN b (a.take n) || (decide (b = a.take n) && decide (n < a.length)))
  | 0, a, b, h => by
    have : b = [] := List.length_eq_zero_iff.mp (by omega)
    subst this
    cases a <;> simp [ltN]
  | n + 1, [], [], _ => by simp [ltN]
  | n + 1, [], b :: bs, _ => by simp [ltN]
  | n + 1, a :: as, [], _ => by simp [ltN]
  | n + 1, a :: as, b :: bs, h => by
    simp only [List.take_succ_cons, ltN, List.length_cons]
    by_cases e : b = a
    · subst e
      simp only [if_true]
      rw [ltN_short' n as bs (by simpa using h)]
      simp
    · simp [e]

/-! ### the parts by their number -/
def rk (k : Nat) : Int := [0, 10, 20, 30, 50, 100, 100, 100, 100, 100, 100, 200].getD k 0
def isN (k : Nat) : Bool := decide (5 ≤ k) && decide (k ≤ 10)
def vn (k : Nat) : Int := [0, 2, 9, 10, 11, 100].getD (k - 5) 0
def wn (k : Nat) : Str := if k = 11 then "pl" else wordsL.getD k Str.empty
def vl (k : Nat) : Dat := if isN k then .int (vn k) else .str (wn k)
def pr (k : Nat) : List Dat := [.int (rk k), vl k]
def prT (k : Nat) : Dat := .tuple (pr k)
theorem pr_apart : ∀ j k : Fin 12, j ≠ k → (rk j ≠ rk k ∧ (rk j < rk k ↔ j.1 < k.1)) ∨ (rk j = rk k ∧ isN j = true ∧ isN k = true ∧ vn j ≠ vn k ∧ (vn j < vn k ↔ j.1 < k.1)) := by decide +kernel
theorem pr_inj {j k : Nat} (hj : j < 12) (hk : k < 12) (h : pr j = pr k) : j = k := by
  apply Classical.byContradiction
  intro hne
  unfold pr at h
  injection h with h1 h2
  injection h2 with h2 _
  injection h1 with h1
  rcases pr_apart ⟨j, hj⟩ ⟨k, hk⟩ (fun q => hne (congrArg Fin.val q)) with ⟨a, _⟩ | ⟨_, a, b, c, _⟩
  · exact a h1
  · have a' : isN j = true := a
    have b' : isN k = true := b
    unfold vl at h2
    rw [if_pos a', if_pos b'] at h2
    injection h2 with h2
    exact c h2
theorem lt_pr {j k : Nat} (hj : j < 12) (hk : k < 12) (xs ys : List Dat) : ltL (pr j ++ xs) (pr k ++ ys) = if j = k then ltL xs ys else some (decide (j < k)) := by
  by_cases e : j = k
  · subst e
    rw [if_pos rfl]
    unfold pr
    show ltL (.int (rk j) :: vl j :: xs) (.int (rk j) :: vl j :: ys) = _
    simp [ltL]
  · rw [if_neg e]
    unfold pr
    show ltL (.int (rk j) :: vl j :: xs) (.int (rk k) :: vl k :: ys) = _
    rcases pr_apart ⟨j, hj⟩ ⟨k, hk⟩ (fun q => e (congrArg Fin.val q)) with ⟨a, b⟩ | ⟨a, b, c, d, f⟩
    · have a' : rk j ≠ rk k := a
      have b' : rk j < rk k ↔ j < k := b
      have : ¬ (Dat.int (rk j) = Dat.int (rk k)) := fun q => a' (by injection q)
      rw [ltL, if_neg this, ltD]
      simp [b']
    · have a' : rk j = rk k := a
      have b' : isN j = true := b
      have c' : isN k = true := c
      have d' : vn j ≠ vn k := d
      have f' : vn j < vn k ↔ j < k := f
      rw [a']
      unfold vl
      rw [if_pos b', if_pos c']
      have : ¬ (Dat.int (vn j) = Dat.int (vn k)) := fun q => d' (by injection q)
      rw [ltL, if_pos rfl, ltL, if_neg this, ltD]
      simp [f']
def Low (a : List Nat) : Prop := ∀ k ∈ a, k < 12
theorem lt_flat : ∀ a b : List Nat, Low a → Low b → ltL (a.flatMap pr) (b.flatMap pr) = some (ltN a b)
  | [], [], _, _ => by simp [ltL, ltN]
  | [], b :: bs, _, _ => by simp [ltL, ltN, pr]
  | a :: as, [], _, _ => by simp [ltL, ltN, pr]
  | a :: as, b :: bs, ha, hb => by
    rw [List.flatMap_cons, List.flatMap_cons, lt_pr (ha _ (.head _)) (hb _ (.head _)), ltN]
    by_cases e : a = b
    · rw [if_pos e, if_pos e]; exact lt_flat as bs (fun k hk => ha k (.tail _ hk)) fun k hk => hb k (.tail _ hk)
    · rw [if_neg e, if_neg e]
theorem flat_inj : ∀ a b : List Nat, Low a → Low b → a.flatMap pr = b.flatMap pr → a = b
  | [], [], _, _, _ => rfl
  | [], b :: bs, _, _, h => by simp [pr] at h
  | a :: as, [], _, _, h => by simp [pr] at h
  | a :: as, b :: bs, ha, hb, h => by
    rw [List.flatMap_cons, List.flatMap_cons] at h
    obtain ⟨h1, h2⟩ := List.append_inj h rfl
    rw [pr_inj (ha _ (.head _)) (hb _ (.head _)) h1, flat_inj as bs (fun k hk => ha k (.tail _ hk)) (fun k hk => hb k (.tail _ hk)) h2]
theorem lt_pairs : ∀ a b : List Nat, Low a → Low b → ltL (a.map prT) (b.map prT) = some (ltN a b)
  | [], [], _, _ => by simp [ltL, ltN]
  | [], b :: bs, _, _ => by simp [ltL, ltN]
  | a :: as, [], _, _ => by simp [ltL, ltN]
  | a :: as, b :: bs, ha, hb => by
    rw [List.map_cons, List.map_cons, ltL, ltN]
    by_cases e : a = b
    · subst e
      rw [if_pos rfl, if_pos rfl]
      exact lt_pairs as bs (fun k hk => ha k (.tail _ hk)) fun k hk => hb k (.tail _ hk)
    · have : ¬ (prT a = prT b) := fun q => e (pr_inj (ha _ (.head _)) (hb _ (.head _)) (by unfold prT at q; injection q))
      rw [if_neg e, if_neg this]
      unfold prT
      rw [ltD]
      have := lt_pr (ha _ (.head _)) (hb _ (.head _)) [] []
      rw [List.append_nil, List.append_nil, if_neg e] at this
      exact this
theorem pairs_inj : ∀ a b : List Nat, Low a → Low b → a.map prT = b.map prT → a = b
  | [], [], _, _, _ => rfl
  | [], b :: bs, _, _, h => by simp at h
  | a :: as, [], _, _, h => by simp at h
  | a :: as, b :: bs, ha, hb, h => by
    rw [List.map_cons, List.map_cons] at h
    injection h with h1 h2
    rw [pr_inj (ha _ (.head _)) (hb _ (.head _)) (by unfold prT at h1; injection h1), pairs_inj as bs (fun k hk => ha k (.tail _ hk)) (fun k hk => hb k (.tail _ hk)) h2]

/-! ### lists of fields -/
def kcc (i : Nat) : Nat := if i % 5 = 0 then [0, 1, 2, 3, 4, 11].getD (i / 5) 0 else 5 + i / 5
def kc (f : Fld) : Nat := (((List.range 30).find? fun i => cpsOf (txtL.getD i []) = f.text).map kcc).getD 0
theorem kc_txt : ∀ i : Fin 30, (((List.range 30).find? fun j => cpsOf (txtL.getD j []) = cpsOf (txtL.getD i [])).map kcc).getD 0 = kcc i := by decide +kernel
theorem kc_at (i : Fin 30) : kc (fld i) = kcc i := by
  unfold kc
  rw [text_at i]
  exact kc_txt i
theorem kcc_low : ∀ i : Fin 30, kcc i < 12 := by decide +kernel
theorem rank_at : ∀ i : Fin 30, (fld i).rank = rk (kcc i) := by decide +kernel
theorem val_at : ∀ i : Fin 30, (fld i).val = vl (kcc i)
  | 0 => rfl
  | 1 => rfl
  | 2 => rfl
  | 3 => rfl
  | 4 => rfl
  | 5 => rfl
  | 6 => rfl
  | 7 => rfl
  | 8 => rfl
  | 9 => rfl
  | 10 => rfl
  | 11 => rfl
  | 12 => rfl
  | 13 => rfl
  | 14 => rfl
  | 15 => rfl
  | 16 => rfl
  | 17 => rfl
  | 18 => rfl
  | 19 => rfl
  | 20 => rfl
  | 21 => rfl
  | 22 => rfl
  | 23 => rfl
  | 24 => rfl
  | 25 => rfl
  | 26 => rfl
  | 27 => rfl
  | 28 => rfl
  | 29 => rfl
  | ⟨n + 30, h⟩ => absurd h (by omega)

theorem text_len : ∀ i : Fin 30, (fld i).text.length ≤ 8 ∧ 1 ≤ (fld i).text.length := by decide +kernel
theorem text_ok : ∀ i : Fin 30, PyData.strOk (fld i).text = true := by decide +kernel
theorem text_nodot : ∀ i : Fin 30, 46 ∉ (fld i).text.cps.toList := by decide +kernel
theorem plain_ok : ∀ i : Fin 30, ∀ p, (fld i).plain = some p → PyData.strOk p = true ∧ p.length ≤ 8 := by decide +kernel
theorem num_small : ∀ i : Fin 30, ∀ n, numL.getD i none = some n → n.natAbs.log2 < 1920 := by
  have : ∀ i : Fin 30, ((numL.getD i none).getD 0).natAbs.log2 < 1920 := by decide +kernel
  intro i n h
  have := this i
  rw [h] at this
  exact this

structure FsOk (fs : List Fld) : Prop where
  ne : fs ≠ []
  len : fs.length ≤ 5
  all : ∀ f ∈ fs, ∃ i : Fin 30, f = fld i
def keyF (fs : List Fld) : List Nat := fs.map kc
def textF (fs : List Fld) : Str := Txt.join dotS (fs.map Fld.text)
def nrmF (fs : List Fld) : Str := Txt.join dotS ((lawNormed fs).take 3)
def rankD (fs : List Fld) : Dat := .list (fs.map fun f => .tuple [.int f.rank, f.val])
theorem pr_fld (i : Fin 30) : [Dat.int (fld i).rank, (fld i).val] = pr (kc (fld i)) := by rw [kc_at, rank_at, val_at]; rfl
theorem low_key {fs : List Fld} (h : FsOk fs) : Low (keyF fs) := by
  intro k hk
  obtain ⟨f, hf, rfl⟩ := List.mem_map.mp hk
  obtain ⟨i, rfl⟩ := h.all f hf
  rw [kc_at]; exact kcc_low i
theorem low_take {a : List Nat} (h : Low a) (n : Nat) : Low (a.take n) := fun k hk => h k (List.mem_of_mem_take hk)
theorem rankD_eq {fs : List Fld} (h : FsOk fs) : rankD fs = .list ((keyF fs).map prT) := by
  unfold rankD keyF
  rw [List.map_map]
  congr 1
  apply List.map_congr_left
  intro f hf
  obtain ⟨i, rfl⟩ := h.all f hf
  show Dat.tuple _ = prT (kc (fld i))
  rw [pr_fld]; rfl
theorem app_len (a b : Str) : (a ++ b).length = a.length + b.length := Str.length_append a b
theorem join_len (l : List Str) (h : ∀ x ∈ l, x.length ≤ 8) : (Txt.join dotS l).length ≤ 9 * l.length := by
  rw [join_txt]
  have e : dotS.length = 1 := by decide +kernel
  have h1 := StrLaws.join_length_le dotS l
  rw [e] at h1
  have h2 : (l.map (·.length)).sum ≤ 8 * l.length := by
    clear h1
    induction l with
    | nil => simp
    | cons x l ih => simp only [List.map_cons, List.sum_cons, List.length_cons]; have := h x (.head _); have := ih fun y hy => h y (.tail _ hy); omega
  omega
theorem text_le {fs : List Fld} (h : FsOk fs) : ∀ x ∈ fs.map Fld.text, x.length ≤ 8 := by
  intro x hx
  obtain ⟨f, hf, rfl⟩ := List.mem_map.mp hx
  obtain ⟨i, rfl⟩ := h.all f hf
  exact (text_len i).1
theorem textF_len {fs : List Fld} (h : FsOk fs) : (textF fs).length ≤ 45 := by
  have := join_len _ (text_le h)
  rw [List.length_map] at this
  have := h.len
  unfold textF
  omega
theorem flat_map_key {fs : List Fld} (h : ∀ f ∈ fs, ∃ i : Fin 30, f = fld i) : (fs.map fun f => [Dat.int f.rank, f.val]).flatten = (keyF fs).flatMap pr := by
  unfold keyF
  rw [List.flatMap_def, List.map_map]
  congr 1
  apply List.map_congr_left
  intro f hf
  obtain ⟨i, rfl⟩ := h f hf
  exact pr_fld i
theorem key_text {prog : Program} {w : World} {fs : List Fld} (h : FsOk fs) : KeyK prog w (.str (textF fs)) (.list ((keyF fs).flatMap pr)) := by
  have k := keyK (prog := prog) (w := w) (fs.map fun f => (f.text, [Dat.int f.rank, f.val])) (by simpa using h.ne) (by
    have := textF_len h
    unfold textF at this
    rw [List.map_map]
    show (Txt.join dotS (fs.map Fld.text)).length < _
    omega) (by
    intro t ht
    obtain ⟨f, hf, rfl⟩ := List.mem_map.mp ht
    obtain ⟨i, rfl⟩ := h.all f hf
    show FT (fld i).text.cps.toList _
    rw [text_at i]
    exact ft_at i)
  rw [List.map_map, List.map_map] at k
  rw [← flat_map_key h.all]
  exact k
/-- the normed texts, each with what it tells -/
def nrmP (fs : List Fld) : List (Str × List Dat) := if ∀ f ∈ fs, f.plain ≠ none then fs.map fun f => (f.plain.getD Str.empty, [Dat.int f.rank, f.val]) else fs.map fun f => (f.text, [Dat.int f.rank, f.val])
theorem nrmP_1 (fs : List Fld) : (nrmP fs).map (·.1) = lawNormed fs := by
  unfold nrmP lawNormed
  split <;> rw [List.map_map] <;> rfl
theorem nrmP_2 (fs : List Fld) : (nrmP fs).map (·.2) = fs.map fun f => [Dat.int f.rank, f.val] := by
  unfold nrmP
  split <;> rw [List.map_map] <;> rfl
theorem nrmP_ft {fs : List Fld} (h : FsOk fs) : ∀ t ∈ nrmP fs, FT t.1.cps.toList t.2 ∧ t.1.length ≤ 8 := by
  intro t ht
  unfold nrmP at ht
  split at ht
  · rename_i hall
    obtain ⟨f, hf, rfl⟩ := List.mem_map.mp ht
    have hn := hall f hf
    obtain ⟨i, rfl⟩ := h.all f hf
    have hp := plain_at i
    cases hq : numL.getD i none with
    | none => rw [hq] at hp; exact absurd hp hn
    | some n =>
      rw [hq] at hp
      have hl := (plain_ok i _ hp).2
      refine ⟨?_, by show ((fld i).plain.getD Str.empty).length ≤ 8; rw [hp]; exact hl⟩
      show FT ((fld i).plain.getD Str.empty).cps.toList _
      rw [hp]
      exact ftp_at i n hq
  · obtain ⟨f, hf, rfl⟩ := List.mem_map.mp ht
    obtain ⟨i, rfl⟩ := h.all f hf
    refine ⟨?_, (text_len i).1⟩
    show FT (fld i).text.cps.toList _
    rw [text_at i]
    exact ft_at i
theorem lawNormed_le {fs : List Fld} (h : FsOk fs) : ∀ x ∈ (lawNormed fs).take 3, x.length ≤ 8 := by
  intro x hx
  have := List.mem_of_mem_take hx
  rw [← nrmP_1] at this
  obtain ⟨t, ht, rfl⟩ := List.mem_map.mp this
  exact (nrmP_ft h t ht).2
theorem key_nrm {prog : Program} {w : World} {fs : List Fld} (h : FsOk fs) : KeyK prog w (.str (nrmF fs)) (.list (((keyF fs).take 3).flatMap pr)) := by
  have hne : nrmP fs ≠ [] := by
    intro q
    have := congrArg List.length (nrmP_2 fs)
    rw [q] at this
    simp at this
    exact h.ne (List.length_eq_zero_iff.mp this.symm)
  have k := keyK (prog := prog) (w := w) ((nrmP fs).take 3) (by
    intro q
    rcases List.take_eq_nil_iff.mp q with q | q
    · cases q
    · exact hne q) (by
    rw [List.map_take, nrmP_1]
    have := join_len _ (lawNormed_le h)
    have h2 : ((lawNormed fs).take 3).length ≤ 3 := by simp; omega
    omega) (fun t ht => (nrmP_ft h t (List.mem_of_mem_take ht)).1)
  rw [List.map_take, nrmP_1, List.map_take, nrmP_2, ← List.map_take] at k
  rw [flat_map_key fun f hf => h.all f (List.mem_of_mem_take hf)] at k
  have e : keyF (fs.take 3) = (keyF fs).take 3 := by unfold keyF; rw [List.map_take]
  rw [e] at k
  exact k

/-! ### norming -/
theorem str_join_inj : ∀ a b : List Str, a ≠ [] → b ≠ [] → (∀ x ∈ a, 46 ∉ x.cps.toList) → (∀ x ∈ b, 46 ∉ x.cps.toList) → joinDots (a.map fun x => x.cps.toList) = joinDots (b.map fun x => x.cps.toList) → a = b := by
  have inj : ∀ x y : Str, x.cps.toList = y.cps.toList → x = y := fun x y h => Str.ext' (Array.toList_inj.mp h)
  have cut : ∀ (x y r q : List Nat), 46 ∉ x → 46 ∉ y → x ++ 46 :: r = y ++ 46 :: q → x = y ∧ r = q := by
    intro x
    induction x with
    | nil =>
      intro y r q _ hy h
      cases y with
      | nil => simpa using h
      | cons c y => simp at h; exact absurd (by rw [h.1]; exact .head _) hy
    | cons c x ih =>
      intro y r q hx hy h
      cases y with
      | nil => simp at h; exact absurd (by rw [h.1]; exact .head _) hx
      | cons d y =>
        simp at h
        obtain ⟨h1, h2⟩ := ih y r q (fun m => hx (.tail _ m)) (fun m => hy (.tail _ m)) h.2
        exact ⟨by rw [h.1, h1], h2⟩
  have no : ∀ (x y r : List Nat), 46 ∉ x → x ≠ y ++ 46 :: r := fun x y r hx h => hx (by rw [h]; simp)
  intro a
  induction a with
  | nil => intro b h; exact absurd rfl h
  | cons x a ih =>
    intro b _ hb ha hb' h
    cases b with
    | nil => exact absurd rfl hb
    | cons y b =>
      cases a with
      | nil =>
        cases b with
        | nil => simp only [List.map_cons, List.map_nil, joinDots] at h; rw [inj _ _ h]
        | cons z b => simp only [List.map_cons, List.map_nil, joinDots] at h; exact absurd h (no _ _ _ (ha x (.head _)))
      | cons u a =>
        cases b with
        | nil => simp only [List.map_cons, List.map_nil, joinDots] at h; exact absurd h.symm (no _ _ _ (hb' y (.head _)))
        | cons z b =>
          simp only [List.map_cons, joinDots] at h
          obtain ⟨h1, h2⟩ := cut _ _ _ _ (ha x (.head _)) (hb' y (.head _)) h
          rw [inj _ _ h1, ih (z :: b) (by simp) (by simp) (fun x hx => ha x (.tail _ hx)) (fun x hx => hb' x (.tail _ hx)) h2]
theorem split_join (a : List Str) (hne : a ≠ []) (h : ∀ x ∈ a, 46 ∉ x.cps.toList) : Txt.split (Txt.join dotS a) dotS = a := by
  have e : dotS = ⟨#[46]⟩ := by decide +kernel
  refine str_join_inj _ _ (fun q => ?_) hne (fun x hx => ?_) h ?_
  · have := split_pos (Txt.join dotS a) dotS
    rw [q] at this
    simp at this
  · rw [e] at hx
    exact StrLaws.split_free _ _ x hx
  · rw [← join_cps, ← join_cps, StrLaws.join_split, join_txt]
theorem nodots {fs : List Fld} (h : ∀ f ∈ fs, ∃ i : Fin 30, f = fld i) : ∀ x ∈ fs.map Fld.text, 46 ∉ x.cps.toList := by
  intro x hx
  obtain ⟨f, hf, rfl⟩ := List.mem_map.mp hx
  obtain ⟨i, rfl⟩ := h f hf
  exact text_nodot i
theorem fnum_text (i : Fin 30) : fnum (fld i).text = numL.getD i none := by rw [text_at]; exact fnum_at i
theorem numOf_text {fs : List Fld} (h : FsOk fs) : ∀ y ∈ fs.map Fld.text, NumOf y (fnum y) := by
  intro x hx
  obtain ⟨f, hf, rfl⟩ := List.mem_map.mp hx
  obtain ⟨i, rfl⟩ := h.all f hf
  rw [fnum_text, text_at]
  exact numOf_at i
theorem fnum_small {fs : List Fld} (h : FsOk fs) : ∀ y ∈ fs.map Fld.text, ∀ n, fnum y = some n → n.natAbs.log2 < 1920 := by
  intro x hx n hn
  obtain ⟨f, hf, rfl⟩ := List.mem_map.mp hx
  obtain ⟨i, rfl⟩ := h.all f hf
  rw [fnum_text] at hn
  exact num_small i n hn
theorem plain_fnum {fs : List Fld} (h : FsOk fs) {f : Fld} (hf : f ∈ fs) : f.plain = (fnum f.text).map fun n => ((toString n : String) : Str) := by
  obtain ⟨i, rfl⟩ := h.all f hf
  rw [fnum_text]; exact plain_at i
theorem normed_eq {fs : List Fld} (h : FsOk fs) : normed fnum (fs.map Fld.text) = lawNormed fs := by
  unfold normed lawNormed
  have e : (∀ x ∈ fs.map Fld.text, fnum x ≠ none) ↔ ∀ f ∈ fs, f.plain ≠ none := by
    constructor
    · intro q f hf
      have := q f.text (List.mem_map_of_mem hf)
      rw [plain_fnum h hf]
      cases hq : fnum f.text with
      | none => exact absurd hq this
      | some n => simp
    · intro q x hx
      obtain ⟨f, hf, rfl⟩ := List.mem_map.mp hx
      have := q f hf
      rw [plain_fnum h hf] at this
      intro hq
      rw [hq] at this
      exact this rfl
  by_cases c : ∀ f ∈ fs, f.plain ≠ none
  · rw [if_pos c, if_pos (e.mpr c), List.map_map]
    apply List.map_congr_left
    intro f hf
    show numStr fnum f.text = f.plain.getD Str.empty
    have h1 := c f hf
    rw [plain_fnum h hf] at h1 ⊢
    cases hq : fnum f.text with
    | none => rw [hq] at h1; exact absurd rfl h1
    | some n => unfold numStr; rw [hq]; rfl
  · rw [if_neg c, if_neg fun q => c (e.mp q)]
theorem norm_w {fs : List Fld} (h : FsOk fs) : (((lawNormed fs).take 3).map (·.length)).sum + ((lawNormed fs).take 3).length ≤ 1048576 := by
  have h1 := lawNormed_le h
  have h2 : ((lawNormed fs).take 3).length ≤ 3 := by simp; omega
  generalize (lawNormed fs).take 3 = l at *
  have : (l.map (·.length)).sum ≤ 8 * l.length := by
    clear h2
    induction l with
    | nil => simp
    | cons x l ih => simp only [List.map_cons, List.sum_cons, List.length_cons]; have := h1 x (.head _); have := ih fun y hy => h1 y (.tail _ hy); omega
  omega
theorem nrm_ok {fs : List Fld} (h : FsOk fs) : ∀ f ∈ fs, ∀ p, f.plain = some p → PyData.strOk p = true := by
  intro f hf p hp
  obtain ⟨i, rfl⟩ := h.all f hf
  exact (plain_ok i p hp).1
end Mine

end
section
open PySem PySem.W PyProof.Rows PySem.Calls PySem.NumText PySem.Builtin.Re
namespace Mine

theorem uniq_sorted {α : Type} {R : α → α → Prop} (asym : ∀ a b, R a b → ¬ R b a) : ∀ (a b : List α), a.Pairwise R → b.Pairwise R → (∀ x, x ∈ a ↔ x ∈ b) → a = b
  | [], [], _, _, _ => rfl
  | [], y :: b, _, _, h => by have := (h y).mpr (.head _); cases this
  | x :: a, [], _, _, h => by have := (h x).mp (.head _); cases this
  | x :: a, y :: b, ha, hb, h => by
    obtain ⟨a1, a2⟩ := List.pairwise_cons.mp ha
    obtain ⟨b1, b2⟩ := List.pairwise_cons.mp hb
    have irr : ∀ x, ¬ R x x := fun x q => asym x x q q
    have e : x = y := by
      rcases List.mem_cons.mp ((h x).mp (.head _)) with q | q
      · exact q
      · rcases List.mem_cons.mp ((h y).mpr (.head _)) with p | p
        · exact p.symm
        · exact absurd (a1 y p) (asym _ _ (b1 x q))
    subst e
    rw [uniq_sorted asym a b a2 b2 fun z => ?_]
    constructor
    · intro hz
      rcases List.mem_cons.mp ((h z).mp (.tail _ hz)) with q | q
      · subst q; exact absurd (a1 z hz) (irr z)
      · exact q
    · intro hz
      rcases List.mem_cons.mp ((h z).mpr (.tail _ hz)) with q | q
      · subst q; exact absurd (b1 z hz) (irr z)
      · exact q

section
variable (K : Nat → List Nat)
abbrev hd3 (k : Nat) : List Nat := (K k).take 3
def ltS (a b : Nat) : Prop := ltN (K a) (K b) = true ∨ (K a = K b ∧ a < b)
theorem ltS_asym (a b : Nat) (h : ltS K a b) : ¬ ltS K b a := by
  rintro (q | ⟨q, q'⟩)
  · rcases h with h | ⟨h, _⟩
    · rw [ltN_asym h] at q; cases q
    · rw [h, ltN_irr] at q; cases q
  · rcases h with h | ⟨_, h⟩
    · rw [q, ltN_irr] at h; cases h
    · omega
theorem ltS_le {a b : Nat} (h : ltS K a b) : ltN (K b) (K a) = false := by
  rcases h with h | ⟨h, _⟩
  · exact ltN_asym h
  · rw [h]; exact ltN_irr _
theorem le_head {a b : List Nat} (n : Nat) (h : ltN b a = false) : ltN (b.take n) (a.take n) = false := by
  cases q : ltN (b.take n) (a.take n) with
  | false => rfl
  | true =>
    have h1 : ltN b (a.take n) = true := by rw [ltN_short n b (a.take n) (by simp; omega)]; exact q
    have h2 : a.take n = a ∨ ltN (a.take n) a = true := by
      by_cases e : a.take n = a
      · exact .inl e
      · refine .inr ?_
        rw [ltN_short' n a (a.take n) (by simp; omega)]
        have : n < a.length := by
          apply Classical.byContradiction
          intro hh
          exact e (List.take_of_length_le (by omega))
        simp [this]
    rcases h2 with e | e
    · rw [e] at h1; rw [h1] at h; cases h
    · rw [ltN_trans _ _ _ h1 e] at h; cases h

/-! ### the shelf -/
structure SInv (i : Nat) (S : List Nat) : Prop where
  perm : S.Perm (List.range i)
  sorted : S.Pairwise (ltS K)
theorem SInv.zero : SInv K 0 [] := ⟨.refl _, .nil⟩
variable {K}
theorem SInv.length {i : Nat} {S : List Nat} (h : SInv K i S) : S.length = i := by have := h.perm.length_eq; simpa using this
theorem SInv.mono {i : Nat} {S : List Nat} (h : SInv K i S) {x : List Nat} {a b : Nat} (hab : a ≤ b) (hb : b < S.length) (ha : ltN x (K (S.getD a 0)) = true) : ltN x (K (S.getD b 0)) = true := by
  by_cases e : a = b
  · rw [← e]; exact ha
  have pw := List.pairwise_iff_getElem.mp h.sorted a b (by omega) hb (by omega)
  rw [List.getD_eq_getElem?_getD, List.getElem?_eq_getElem (by omega)] at ha ⊢
  simp only [Option.getD_some] at ha ⊢
  rcases pw with q | ⟨q, _⟩
  · exact ltN_trans _ _ _ ha q
  · rw [← q]; exact ha
theorem SInv.step {i p : Nat} {S : List Nat} (h : SInv K i S) (hp : p ≤ S.length) (h1 : ∀ j, j < p → ltN (K i) (K (S.getD j 0)) = false) (h2 : ∀ j, p ≤ j → j < S.length → ltN (K i) (K (S.getD j 0)) = true) : SInv K (i + 1) (S.take p ++ i :: S.drop p) := by
  have hlt : ∀ a ∈ S, a < i := fun a ha => by have := h.perm.mem_iff.mp ha; simpa using this
  have g1 : ∀ a ∈ S.take p, ltS K a i := by
    intro a ha
    obtain ⟨j, hj, e⟩ := List.getElem_of_mem ha
    rw [List.getElem_take] at e
    have hjp : j < p := by simp at hj; omega
    have := h1 j hjp
    rw [List.getD_eq_getElem?_getD, List.getElem?_eq_getElem (by omega)] at this
    simp only [Option.getD_some] at this
    rw [e] at this
    by_cases q : K a = K i
    · exact .inr ⟨q, hlt a (List.mem_of_mem_take ha)⟩
    · rcases ltN_tot _ _ q with r | r
      · exact .inl r
      · rw [r] at this; cases this
  have g2 : ∀ b ∈ S.drop p, ltS K i b := by
    intro b hb
    obtain ⟨j, hj, e⟩ := List.getElem_of_mem hb
    rw [List.getElem_drop] at e
    have hj' : p + j < S.length := by simp at hj; omega
    have := h2 (p + j) (by omega) hj'
    rw [List.getD_eq_getElem?_getD, List.getElem?_eq_getElem hj'] at this
    simp only [Option.getD_some] at this
    rw [e] at this
    exact .inl this
  refine ⟨?_, ?_⟩
  · have e1 : (S.take p ++ i :: S.drop p).Perm (i :: (S.take p ++ S.drop p)) := List.perm_middle
    rw [List.take_append_drop] at e1
    refine e1.trans ?_
    rw [List.range_succ]
    exact (h.perm.cons i).trans (List.perm_append_singleton i (List.range i)).symm
  · have hs := h.sorted
    rw [← List.take_append_drop p S] at hs
    obtain ⟨q1, q2, q3⟩ := List.pairwise_append.mp hs
    refine List.pairwise_append.mpr ⟨q1, List.pairwise_cons.mpr ⟨g2, q2⟩, fun a ha b hb => ?_⟩
    rcases List.mem_cons.mp hb with rfl | hb
    · exact g1 a ha
    · exact q3 a ha b hb
theorem ascP_sorted {n : Nat} {lt : Nat → Nat → Bool} {q : Array Nat} (P : PermN q n) (a : AscP lt q n) (h : ∀ i j, i < n → j < n → lt i j = true → ltS K i j) : SInv K n q.toList := by
  refine ⟨P.perm, ?_⟩
  rw [List.pairwise_iff_getElem]
  intro i j hi hj hij
  have hs := P.size
  have e : ∀ i (hi : i < q.toList.length), q.toList[i] = q.getD i 0 := fun i hi => by
    have : i < q.size := by simpa using hi
    simp [Array.getD, this]
  have hi' : i < n := by simpa [hs] using hi
  have hj' : j < n := by simpa [hs] using hj
  rw [e i hi, e j hj]
  exact h _ _ (P.lt hi') (P.lt hj') (a i j hij hj')
theorem SInv.eq {n : Nat} {S T : List Nat} (h : SInv K n S) (h' : SInv K n T) : S = T :=
  uniq_sorted (ltS_asym K) _ _ h.sorted h'.sorted fun x => by rw [h.perm.mem_iff, h'.perm.mem_iff]

/-! ### the marks: the first of every head -/
structure MInv (K : Nat → List Nat) (i : Nat) (M : List Nat) : Prop where
  sorted : M.Pairwise fun a b => ltN (hd3 K a) (hd3 K b) = true
  first : ∀ a ∈ M, a < i ∧ ∀ b, b < a → hd3 K b ≠ hd3 K a
  all : ∀ k, k < i → ∃ a ∈ M, hd3 K a = hd3 K k
theorem MInv.zero : MInv K 0 [] := ⟨.nil, (fun a h => nomatch h), fun k h => by omega⟩
theorem MInv.monoR {i : Nat} {M : List Nat} (h : MInv K i M) {x : List Nat} {a b : Nat} (hab : a ≤ b) (hb : b < M.length) (ha : ltN x (hd3 K (M.getD a 0)) = true) : ltN x (hd3 K (M.getD b 0)) = true := by
  by_cases e : a = b
  · rw [← e]; exact ha
  have pw := List.pairwise_iff_getElem.mp h.sorted a b (by omega) hb (by omega)
  rw [List.getD_eq_getElem?_getD, List.getElem?_eq_getElem (by omega)] at ha ⊢
  simp only [Option.getD_some] at ha ⊢
  exact ltN_trans _ _ _ ha pw
theorem MInv.monoL {i : Nat} {M : List Nat} (h : MInv K i M) {x : List Nat} {a b : Nat} (hab : a ≤ b) (hb : b < M.length) (ha : ltN (hd3 K (M.getD b 0)) x = true) : ltN (hd3 K (M.getD a 0)) x = true := by
  by_cases e : a = b
  · rw [e]; exact ha
  have pw := List.pairwise_iff_getElem.mp h.sorted a b (by omega) hb (by omega)
  rw [List.getD_eq_getElem?_getD, List.getElem?_eq_getElem (by omega)] at ha ⊢
  simp only [Option.getD_some] at ha ⊢
  exact ltN_trans _ _ _ pw ha
theorem MInv.stay {i p r : Nat} {M : List Nat} (h : MInv K i M) (hp : p ≤ M.length) (hr : r ≤ M.length) (hne : p ≠ r)
    (p1 : ∀ j, j < p → ltN (hd3 K (M.getD j 0)) (hd3 K i) = true) (p2 : ∀ j, p ≤ j → j < M.length → ltN (hd3 K (M.getD j 0)) (hd3 K i) = false)
    (r1 : ∀ j, j < r → ltN (hd3 K i) (hd3 K (M.getD j 0)) = false) (r2 : ∀ j, r ≤ j → j < M.length → ltN (hd3 K i) (hd3 K (M.getD j 0)) = true) : MInv K (i + 1) M := by
  refine ⟨h.sorted, fun a ha => ⟨Nat.lt_succ_of_lt (h.first a ha).1, (h.first a ha).2⟩, fun k hk => ?_⟩
  by_cases e : k = i
  · subst e
    have hpr : p < r := by
      apply Classical.byContradiction
      intro hh
      have hr' : r < p := by omega
      have a1 := p1 r hr'
      have a2 := r2 r (Nat.le_refl _) (by omega)
      rw [ltN_asym a1] at a2; cases a2
    have hpl : p < M.length := by omega
    refine ⟨M.getD p 0, by rw [List.getD_eq_getElem?_getD, List.getElem?_eq_getElem hpl]; exact List.getElem_mem _, ?_⟩
    apply Classical.byContradiction
    intro hne'
    rcases ltN_tot _ _ hne' with q | q
    · rw [p2 p (Nat.le_refl _) hpl] at q; cases q
    · rw [r1 p hpr] at q; cases q
  · exact h.all k (by omega)
theorem MInv.add {i p : Nat} {M : List Nat} (h : MInv K i M) (hp : p ≤ M.length)
    (p1 : ∀ j, j < p → ltN (hd3 K (M.getD j 0)) (hd3 K i) = true) (r2 : ∀ j, p ≤ j → j < M.length → ltN (hd3 K i) (hd3 K (M.getD j 0)) = true) : MInv K (i + 1) (M.take p ++ i :: M.drop p) := by
  have g1 : ∀ a ∈ M.take p, ltN (hd3 K a) (hd3 K i) = true := by
    intro a ha
    obtain ⟨j, hj, e⟩ := List.getElem_of_mem ha
    rw [List.getElem_take] at e
    have hjp : j < p := by simp at hj; omega
    have := p1 j hjp
    rw [List.getD_eq_getElem?_getD, List.getElem?_eq_getElem (by omega)] at this
    simp only [Option.getD_some] at this
    rw [e] at this
    exact this
  have g2 : ∀ b ∈ M.drop p, ltN (hd3 K i) (hd3 K b) = true := by
    intro b hb
    obtain ⟨j, hj, e⟩ := List.getElem_of_mem hb
    rw [List.getElem_drop] at e
    have hj' : p + j < M.length := by simp at hj; omega
    have := r2 (p + j) (by omega) hj'
    rw [List.getD_eq_getElem?_getD, List.getElem?_eq_getElem hj'] at this
    simp only [Option.getD_some] at this
    rw [e] at this
    exact this
  have mem : ∀ a, a ∈ M → a ∈ M.take p ∨ a ∈ M.drop p := fun a ha => by
    rw [← List.take_append_drop p M] at ha
    exact List.mem_append.mp ha
  refine ⟨?_, fun a ha => ?_, fun k hk => ?_⟩
  · have hs := h.sorted
    rw [← List.take_append_drop p M] at hs
    obtain ⟨q1, q2, q3⟩ := List.pairwise_append.mp hs
    refine List.pairwise_append.mpr ⟨q1, List.pairwise_cons.mpr ⟨g2, q2⟩, fun a ha b hb => ?_⟩
    rcases List.mem_cons.mp hb with rfl | hb
    · exact g1 a ha
    · exact q3 a ha b hb
  · have old : a ∈ M → a < i + 1 ∧ ∀ b, b < a → hd3 K b ≠ hd3 K a := fun ha => ⟨Nat.lt_succ_of_lt (h.first a ha).1, (h.first a ha).2⟩
    rcases List.mem_append.mp ha with ha | ha
    · exact old (List.mem_of_mem_take ha)
    rcases List.mem_cons.mp ha with rfl | ha
    · refine ⟨Nat.lt_succ_self _, fun b hb e => ?_⟩
      obtain ⟨c, hc, ec⟩ := h.all b hb
      rw [e] at ec
      rcases mem c hc with q | q
      · have := g1 c q; rw [ec, ltN_irr] at this; cases this
      · have := g2 c q; rw [ec, ltN_irr] at this; cases this
    · exact old (List.mem_of_mem_drop ha)
  · by_cases e : k = i
    · subst e; exact ⟨k, by simp, rfl⟩
    · obtain ⟨a, ha, q⟩ := h.all k (by omega)
      refine ⟨a, ?_, q⟩
      rcases mem a ha with r | r
      · exact List.mem_append_left _ r
      · exact List.mem_append_right _ (.tail _ r)

/-! ### the heads -/
structure HInv (K : Nat → List Nat) (S : List Nat) (j : Nat) (H : List (List Nat)) : Prop where
  sorted : H.Pairwise fun a b => ltN a b = true
  from' : ∀ h ∈ H, ∃ k ∈ S.take j, hd3 K k = h
  all : ∀ k ∈ S.take j, hd3 K k ∈ H
theorem HInv.zero {S : List Nat} : HInv K S 0 [] := ⟨.nil, (fun h q => nomatch q), fun k q => by simp at q⟩
theorem take_snoc {S : List Nat} {j k : Nat} (h : S[j]? = some k) : S.take (j + 1) = S.take j ++ [k] := by rw [List.take_add_one, h]; rfl
theorem HInv.stay {S : List Nat} {j k : Nat} {H : List (List Nat)} (h : HInv K S j H) (hk : S[j]? = some k) (hm : hd3 K k ∈ H) : HInv K S (j + 1) H := by
  refine ⟨h.sorted, fun x hx => ?_, fun x hx => ?_⟩
  · obtain ⟨a, ha, e⟩ := h.from' x hx
    exact ⟨a, by rw [take_snoc hk]; exact List.mem_append_left _ ha, e⟩
  · rw [take_snoc hk] at hx
    rcases List.mem_append.mp hx with hx | hx
    · exact h.all x hx
    · rw [List.mem_singleton.mp hx]; exact hm
theorem HInv.add {n : Nat} {S : List Nat} {j k : Nat} {H : List (List Nat)} (h : HInv K S j H) (hS : SInv K n S) (hk : S[j]? = some k) (hm : hd3 K k ∉ H) : HInv K S (j + 1) (H ++ [hd3 K k]) := by
  have hlt : j < S.length := (List.getElem?_eq_some_iff.mp hk).1
  refine ⟨List.pairwise_append.mpr ⟨h.sorted, List.pairwise_singleton _ _, fun a ha b hb => ?_⟩, fun x hx => ?_, fun x hx => ?_⟩
  · rw [List.mem_singleton.mp hb]
    obtain ⟨c, hc, e⟩ := h.from' a ha
    have hs : ltS K c k := by
      obtain ⟨i, hi, ei⟩ := List.getElem_of_mem hc
      rw [List.getElem_take] at ei
      have hi' : i < j := by simp at hi; omega
      have pw := List.pairwise_iff_getElem.mp hS.sorted i j (by omega) hlt hi'
      rw [ei] at pw
      have : S[j] = k := by rw [List.getElem?_eq_getElem hlt] at hk; exact Option.some.inj hk
      rw [this] at pw
      exact pw
    have h1 := le_head 3 (ltS_le K hs)
    have hne : a ≠ hd3 K k := fun q => hm (q ▸ ha)
    rcases ltN_tot _ _ hne with q | q
    · exact q
    · rw [← e] at q; rw [h1] at q; cases q
  · rcases List.mem_append.mp hx with hx | hx
    · obtain ⟨a, ha, e⟩ := h.from' x hx
      exact ⟨a, by rw [take_snoc hk]; exact List.mem_append_left _ ha, e⟩
    · rw [List.mem_singleton.mp hx]
      exact ⟨k, by rw [take_snoc hk]; simp, rfl⟩
  · rw [take_snoc hk] at hx
    rcases List.mem_append.mp hx with hx | hx
    · exact List.mem_append_left _ (h.all x hx)
    · rw [List.mem_singleton.mp hx]; simp
theorem heads_marks {n : Nat} {S M : List Nat} {H : List (List Nat)} (hS : SInv K n S) (hM : MInv K n M) (h : HInv K S S.length H) : H = M.map (hd3 K) := by
  have mem : ∀ k, k ∈ S ↔ k < n := fun k => by rw [hS.perm.mem_iff]; simp
  have f := h.from'
  have a := h.all
  rw [List.take_length] at f a
  refine uniq_sorted (fun a b q r => by rw [ltN_asym q] at r; cases r) _ _ h.sorted (List.pairwise_map.mpr hM.sorted) fun x => ⟨fun hx => ?_, fun hx => ?_⟩
  · obtain ⟨k, hk, e⟩ := f x hx
    obtain ⟨c, hc, e'⟩ := hM.all k ((mem k).mp hk)
    exact List.mem_map.mpr ⟨c, hc, e'.trans e⟩
  · obtain ⟨c, hc, e⟩ := List.mem_map.mp hx
    rw [← e]
    exact a c ((mem c).mpr (hM.first c hc).1)

/-! ### whose divider -/
structure Own (K : Nat → List Nat) (n : Nat) (M : List Nat) (o : Nat → Nat) : Prop where
  lt : ∀ k, k < n → o k < M.length
  at' : ∀ k, k < n → hd3 K (M.getD (o k) 0) = hd3 K k
theorem own_of {n : Nat} {M : List Nat} (hM : MInv K n M) : ∃ o, Own K n M o := by
  have : ∀ k, ∃ j, k < n → j < M.length ∧ hd3 K (M.getD j 0) = hd3 K k := by
    intro k
    by_cases hk : k < n
    · obtain ⟨a, ha, e⟩ := hM.all k hk
      obtain ⟨j, hj, ej⟩ := List.getElem_of_mem ha
      exact ⟨j, fun _ => ⟨hj, by rw [List.getD_eq_getElem?_getD, List.getElem?_eq_getElem hj]; simp [ej, e]⟩⟩
    · exact ⟨0, fun h => absurd h hk⟩
  exact ⟨fun k => (this k).choose, ⟨fun k hk => ((this k).choose_spec hk).1, fun k hk => ((this k).choose_spec hk).2⟩⟩
theorem mget {M : List Nat} {j : Nat} (h : j < M.length) : M.getD j 0 = M[j] := by rw [List.getD_eq_getElem?_getD, List.getElem?_eq_getElem h]; rfl
theorem marks_lt {n : Nat} {M : List Nat} (hM : MInv K n M) {i j : Nat} (hi : i < M.length) (hj : j < M.length) : ltN (hd3 K (M.getD i 0)) (hd3 K (M.getD j 0)) = decide (i < j) := by
  have pw := List.pairwise_iff_getElem.mp hM.sorted
  rcases Nat.lt_trichotomy i j with q | q | q
  · have := pw i j hi hj q
    rw [mget hi, mget hj, this]; simp [q]
  · subst q; rw [ltN_irr]; simp
  · have := pw j i hj hi q
    rw [mget hi, mget hj, ltN_asym this]; symm; simp; omega
theorem marks_inj {n : Nat} {M : List Nat} (hM : MInv K n M) {i j : Nat} (hi : i < M.length) (hj : j < M.length) (e : hd3 K (M.getD i 0) = hd3 K (M.getD j 0)) : i = j := by
  have a := marks_lt hM hi hj
  have b := marks_lt hM hj hi
  rw [e, ltN_irr] at a b
  have a' : ¬ i < j := by simpa using a.symm
  have b' : ¬ j < i := by simpa using b.symm
  omega
theorem hd_short (k : Nat) : (hd3 K k).length ≤ 3 := by simp; omega
variable {n : Nat} {M : List Nat} {o : Nat → Nat}
/-- a version before a mark -/
theorem own_right (hM : MInv K n M) (ho : Own K n M o) {k j : Nat} (hk : k < n) (hj : j < M.length) : ltN (K k) (hd3 K (M.getD j 0)) = decide (o k < j) := by
  rw [ltN_short 3 _ _ (hd_short _)]
  show ltN (hd3 K k) _ = _
  rw [← ho.at' k hk]
  exact marks_lt hM (ho.lt k hk) hj
theorem own_left (hM : MInv K n M) (ho : Own K n M o) {k j : Nat} (hk : k < n) (hj : j < M.length) : ltN (hd3 K (M.getD j 0)) (K k) = decide (j < o k ∨ (j = o k ∧ 3 < (K k).length)) := by
  rw [ltN_short' 3 _ _ (hd_short _)]
  have e : (K k).take 3 = hd3 K (M.getD (o k) 0) := (ho.at' k hk).symm
  rw [e, marks_lt hM hj (ho.lt k hk)]
  have : (decide (hd3 K (M.getD j 0) = hd3 K (M.getD (o k) 0))) = decide (j = o k) := by
    by_cases q : j = o k
    · simp [q]
    · have : ¬ hd3 K (M.getD j 0) = hd3 K (M.getD (o k) 0) := fun r => q (marks_inj hM hj (ho.lt k hk) r)
      rw [decide_eq_false this, decide_eq_false q]
  rw [this]
  by_cases a : j < o k <;> by_cases b : j = o k <;> by_cases c : 3 < (K k).length <;> simp [a, b, c]
theorem own_first (hM : MInv K n M) (ho : Own K n M o) {j : Nat} (hj : j < M.length) : M.getD j 0 < n ∧ o (M.getD j 0) = j ∧ ∀ k, k < M.getD j 0 → o k ≠ j := by
  have hm : M.getD j 0 ∈ M := by rw [mget hj]; exact List.getElem_mem _
  obtain ⟨h1, h2⟩ := hM.first _ hm
  refine ⟨h1, marks_inj hM (ho.lt _ h1) hj (ho.at' _ h1), fun k hk e => ?_⟩
  have := ho.at' k (by omega)
  rw [e] at this
  exact h2 k hk this.symm
/-- along the shelf the owners go up -/
theorem own_mono {S : List Nat} (hS : SInv K n S) (hM : MInv K n M) (ho : Own K n M o) : S.Pairwise fun a b => o a ≤ o b := by
  refine hS.sorted.imp_of_mem fun {a b} ha hb h => ?_
  have ha' : a < n := by have := hS.perm.mem_iff.mp ha; simpa using this
  have hb' : b < n := by have := hS.perm.mem_iff.mp hb; simpa using this
  have h1 := le_head 3 (ltS_le K h)
  have e1 := ho.at' a ha'
  have e2 := ho.at' b hb'
  have h2 := marks_lt hM (ho.lt b hb') (ho.lt a ha')
  rw [e1, e2] at h2
  rw [h1] at h2
  have : ¬ o b < o a := by simpa using h2.symm
  omega
theorem filter_none {α : Type} (p : α → Bool) : ∀ l : List α, (∀ x ∈ l, p x = false) → l.filter p = []
  | [], _ => rfl
  | x :: l, h => by rw [List.filter_cons, h x (.head _)]; simpa using filter_none p l fun y hy => h y (.tail _ hy)
theorem filter_all {α : Type} (p : α → Bool) : ∀ l : List α, (∀ x ∈ l, p x = true) → l.filter p = l
  | [], _ => rfl
  | x :: l, h => by rw [List.filter_cons, h x (.head _), if_pos rfl, filter_all p l fun y hy => h y (.tail _ hy)]
/-- the shelf from cut to cut -/
theorem cut_slice {S : List Nat} {j a b : Nat} (ha : a ≤ b) (hb : b ≤ S.length) (a1 : ∀ i, i < a → o (S.getD i 0) < j) (a2 : ∀ i, a ≤ i → i < S.length → j ≤ o (S.getD i 0)) (b1 : ∀ i, i < b → o (S.getD i 0) < j + 1) (b2 : ∀ i, b ≤ i → i < S.length → j + 1 ≤ o (S.getD i 0)) :
    (S.drop a).take (b - a) = S.filter fun i => decide (o i = j) := by
  have e : S = S.take a ++ ((S.drop a).take (b - a) ++ S.drop b) := by
    have h1 : S.drop b = (S.drop a).drop (b - a) := by rw [List.drop_drop]; congr 1; omega
    rw [h1, List.take_append_drop, List.take_append_drop]
  have f1 : (S.take a).filter (fun i => decide (o i = j)) = [] := filter_none _ _ fun x hx => by
    obtain ⟨i, hi, ei⟩ := List.getElem_of_mem hx
    rw [List.getElem_take] at ei
    have hi' : i < a := by simp at hi; omega
    have := a1 i hi'
    rw [mget (by omega), ei] at this
    simp; omega
  have f3 : (S.drop b).filter (fun i => decide (o i = j)) = [] := filter_none _ _ fun x hx => by
    obtain ⟨i, hi, ei⟩ := List.getElem_of_mem hx
    rw [List.getElem_drop] at ei
    have hi' : b + i < S.length := by simp at hi; omega
    have := b2 (b + i) (by omega) hi'
    rw [mget hi', ei] at this
    simp; omega
  have f2 : ((S.drop a).take (b - a)).filter (fun i => decide (o i = j)) = (S.drop a).take (b - a) := filter_all _ _ fun x hx => by
    obtain ⟨i, hi, ei⟩ := List.getElem_of_mem hx
    rw [List.getElem_take, List.getElem_drop] at ei
    have hi' : a + i < b := by simp at hi; omega
    have q1 := a2 (a + i) (by omega) (by omega)
    have q2 := b1 (a + i) hi'
    rw [mget (by omega), ei] at q1 q2
    simp; omega
  conv => rhs; rw [e]
  rw [List.filter_append, List.filter_append, f1, f2, f3]
  simp
end

/-! ### the versions are such lists -/
theorem verStep_ok {p : List Fld} (h : ∀ f ∈ p, ∃ i : Fin 30, f = fld i) (x : Int) : FsOk (verStep p x) := by
  refine ⟨fun q => ?_, verStep_len p x, fun f hf => ?_⟩
  · have := congrArg List.length q
    unfold verStep at this
    simp at this
  · unfold verStep at hf
    rcases List.mem_append.mp hf with hf | hf
    · exact h f (List.mem_of_mem_take hf)
    · obtain ⟨k, _, rfl⟩ := List.mem_map.mp hf
      have h1 := Int.fmod_nonneg_of_pos ((x.fdiv 8).fdiv ((30 : Int) ^ k)) (b := 30) (by decide)
      have h2 := Int.fmod_lt_of_pos ((x.fdiv 8).fdiv ((30 : Int) ^ k)) (b := 30) (by decide)
      exact ⟨⟨(((x.fdiv 8).fdiv ((30 : Int) ^ k)).fmod 30).toNat, by omega⟩, rfl⟩
theorem versFrom_ok : ∀ (xs : List Int) (p : List Fld), (∀ f ∈ p, ∃ i : Fin 30, f = fld i) → ∀ fs ∈ versFrom p xs, FsOk fs
  | [], p, _, fs, hf => by cases hf
  | x :: xs, p, h, fs, hf => by
    rcases List.mem_cons.mp hf with rfl | hf
    · exact verStep_ok h x
    · exact versFrom_ok xs _ (verStep_ok h x).all fs hf
theorem lawVers_ok (ns : List Int) : ∀ fs ∈ versFrom [] (lawXs ns), FsOk fs := versFrom_ok _ [] fun _ h => nomatch h
theorem lawVers_len (ns : List Int) : 5 ≤ (versFrom [] (lawXs ns)).length ∧ (versFrom [] (lawXs ns)).length ≤ 9 := by
  rw [versFrom_length]
  unfold lawXs
  simp
  omega
end Mine

end
section
open PySem PySem.W PyProof.Rows PySem.Calls PySem.NumText PySem.SeqAt
namespace Mine

/-! ## the law's frame: names and cells -/
def lawSc : Scope := fdScope (stm 15)
def lawCs (L : Addr) : List (Str × Addr) := [(("own" : Str), L + 7), (("heads" : Str), L + 6), (("norms" : Str), L + 5), (("shelf" : Str), L + 4), (("k" : Str), L + 3), (("ranks" : Str), L + 2), (("texts" : Str), L + 1)]
abbrev cellIt (v : Option Value) : It := .pr fun o => o.data = .cell v
def cellsMu (L : Addr) (cv : Str → Option Value) : List (Addr × It) := (lawCs L).map fun p => (p.2, cellIt (cv p.1))
structure LEnv (env : Env) (L : Addr) : Prop extends EnvOk env lawSc L where
  cells : env.cells = lawCs L
theorem LEnv.eta {env : Env} {L : Addr} (e : LEnv env L) : env = { env with scope := lawSc, cells := lawCs L } := by cases env; cases e.scope; cases e.cells; rfl
theorem lawCells (L : Addr) : cellsFrom (L + 1) lawSc.names [] = lawCs L := by kernel_rfl
theorem lawCs_mem {L : Addr} {x : Str} {c : Addr} (h : (lawCs L).lookup x = some c) : (x, c) ∈ lawCs L := mem_of_lookup h
theorem lawCs_apart (L : Addr) : (lawCs L).Pairwise fun x y => x.2 ≠ y.2 := by
  unfold lawCs
  simp only [List.pairwise_cons, List.mem_cons, List.not_mem_nil, or_false, forall_eq_or_imp, forall_eq, List.Pairwise.nil, and_true]
  refine ⟨⟨?_, ?_, ?_, ?_, ?_, ?_⟩, ⟨?_, ?_, ?_, ?_, ?_⟩, ⟨?_, ?_, ?_, ?_⟩, ⟨?_, ?_, ?_⟩, ⟨?_, ?_⟩, ?_, ?_⟩ <;> first | (intro a; exact absurd (Nat.add_left_cancel a) (by decide)) | (intro a h; exact absurd h (by simp))
theorem lawCs_names (L : Addr) : ((lawCs L).map (·.1)).Nodup := by
  have : (lawCs L).map (·.1) = [("own" : Str), ("heads" : Str), ("norms" : Str), ("shelf" : Str), ("k" : Str), ("ranks" : Str), ("texts" : Str)] := rfl
  rw [this]; decide +kernel

section
variable {outer : List Env} {ex : List Addr} {s0 s : Shared} {G0 G : Store} {L : Addr} {m cv : Str → Option Value} {mu mu' rest : List (Addr × It)} {prog : Program} {w : World} {A : Around} {E : Value → Shared → Prop} {env : Env}

theorem In.setIn {a : Addr} (x : In outer ex s0 G0 G L m mu s) {h' : Heap} (t : Nat) (hm : mu'.map (·.1) = mu.map (·.1)) (ha : a ∈ mu.map (·.1)) (hp : ∀ p ∈ mu', (p ∈ mu ∧ p.1 ≠ a) ∨ (p.1 = a ∧ p.2.In h' a)) (hs : Heap.SameBut a s.heap h') : In outer ex s0 G0 G L m mu' { s with heap := h', toks := t } := by
  have other : ∀ b, b ≠ a → h'.get? b = s.heap.get? b := fun b hb => hs.2 b hb
  obtain ⟨q, hq, rfl⟩ := List.mem_map.mp ha
  obtain ⟨a1, a2, a3, a4, a5⟩ := x.mus q hq
  have there : (h'.get? q.1).isSome = true := by
    have : q.1 ∈ mu'.map (·.1) := by rw [hm]; exact ha
    obtain ⟨p, hp', e⟩ := List.mem_map.mp this
    rcases hp p hp' with ⟨_, h2⟩ | ⟨h1, h2⟩
    · exact absurd e h2
    · exact h2.there
  refine x.turn (.refl _) (fun b o e => ?_) (fun a o e => .inl e) (x.keepOn fun b o hx hb e => ?_) (fun b h => alive_but hs there b (x.alive b h)) rfl rfl ?_ x.gL (fun p hp' => ?_) (by rw [hm]; exact x.nd) fun b hb o e => ⟨o, (other b ?_).trans e, rfl⟩
  · exact (other b fun q => by rw [q, a2] at e; cases e).trans (x.sub b o e)
  · exact (other b fun q => a5.elim (fun h => ne_of_some hb h q) fun h => hx (q ▸ h)).trans e
  · exact x.ns.sameBut hs (Ne.symm a3)
  · rcases hp p hp' with ⟨h1, h2⟩ | ⟨h1, h2⟩
    · obtain ⟨b1, b2, b3, b4, b5⟩ := x.mus p h1
      exact ⟨b1.keep fun o e => (other p.1 h2).trans e, b2, b3, b4, b5⟩
    · rw [h1]; exact ⟨h2, a2, a3, a4, a5⟩
  · exact fun q => a4 (q ▸ hb)

theorem cells_addr (cv cv' : Str → Option Value) : (cellsMu L cv).map (·.1) = (cellsMu L cv').map (·.1) := by unfold cellsMu; rw [List.map_map, List.map_map]; rfl
theorem In.setCell {x : Str} {c : Addr} {v : Value} {pre rest : List (Addr × It)} (hc : (lawCs L).lookup x = some c) (I : In outer ex s0 G0 G L m (pre ++ (cellsMu L cv ++ rest)) s) {h' : Heap} (t : Nat) (hn : h'.IsCell c (some v)) (hs : Heap.SameBut c s.heap h') :
    In outer ex s0 G0 G L m (pre ++ (cellsMu L (upd cv x v) ++ rest)) { s with heap := h', toks := t } := by
  have hm := lawCs_mem hc
  have hin : (c, cellIt (cv x)) ∈ cellsMu L cv := List.mem_map.mpr ⟨(x, c), hm, rfl⟩
  have nd := I.nd
  rw [List.map_append, List.map_append] at nd
  obtain ⟨n1, n2, n3⟩ := List.nodup_append.mp nd
  obtain ⟨n4, n5, n6⟩ := List.nodup_append.mp n2
  have hca : c ∈ (cellsMu L cv).map (·.1) := List.mem_map.mpr ⟨_, hin, rfl⟩
  refine I.setIn (a := c) t ?_ ?_ (fun p hp => ?_) hs
  · rw [List.map_append, List.map_append, List.map_append, List.map_append, cells_addr (upd cv x v) cv]
  · rw [List.map_append, List.map_append]
    exact List.mem_append_right _ (List.mem_append_left _ hca)
  · rcases List.mem_append.mp hp with hp | hp
    · exact .inl ⟨List.mem_append_left _ hp, fun q => n3 p.1 (List.mem_map_of_mem hp) c (List.mem_append_left _ hca) q⟩
    rcases List.mem_append.mp hp with hp | hp
    · obtain ⟨q, hq, rfl⟩ := List.mem_map.mp hp
      by_cases e : q.1 = x
      · have : q.2 = c := by
          obtain ⟨a, b⟩ := q
          simp only at e
          subst e
          have nn := lawCs_names L
          apply Classical.byContradiction
          intro hne
          have h1 : (a, b) ∈ lawCs L := hq
          obtain ⟨i, hi, ei⟩ := List.getElem_of_mem h1
          obtain ⟨j, hj, ej⟩ := List.getElem_of_mem hm
          have pw := List.pairwise_iff_getElem.mp nn
          rcases Nat.lt_trichotomy i j with r | r | r
          · have := pw i j (by simpa using hi) (by simpa using hj) r
            rw [List.getElem_map, List.getElem_map, ei, ej] at this
            exact this rfl
          · subst r; rw [ei] at ej; exact hne (congrArg Prod.snd ej)
          · have := pw j i (by simpa using hj) (by simpa using hi) r
            rw [List.getElem_map, List.getElem_map, ei, ej] at this
            exact this rfl
        refine .inr ⟨this, ?_⟩
        show It.In h' c (cellIt (upd cv x v q.1))
        rw [e, upd_same]
        exact hn
      · refine .inl ⟨List.mem_append_right _ (List.mem_append_left _ ?_), fun q' => e (name_of_addr (lawCs_apart L) (show (q.1, c) ∈ lawCs L from (show q.2 = c from q') ▸ hq) hm)⟩
        show (q.2, cellIt (upd cv x v q.1)) ∈ _
        rw [upd_ne e]
        exact List.mem_map.mpr ⟨q, hq, rfl⟩
    · exact .inl ⟨List.mem_append_right _ (List.mem_append_right _ hp), fun q => n6 c hca p.1 (List.mem_map_of_mem hp) q.symm⟩

/-- the cells lie among the own things -/
def CellsIn (L : Addr) (cv : Str → Option Value) (mu : List (Addr × It)) : Prop := ∀ p ∈ cellsMu L cv, p ∈ mu
theorem CellsIn.tail {p : Addr × It} (h : CellsIn L cv mu) : CellsIn L cv (p :: mu) := fun q hq => .tail _ (h q hq)
theorem CellsIn.self : CellsIn L cv (cellsMu L cv ++ rest) := fun q hq => List.mem_append_left _ hq
theorem CellsIn.at {x : Str} {c : Addr} {v : Value} (hI : CellsIn L cv mu) (I : In outer ex s0 G0 G L m mu s) (hc : (lawCs L).lookup x = some c) (hv : cv x = some v) : s.heap.IsCell c (some v) := by
  have := I.mus _ (hI _ (List.mem_map.mpr ⟨(x, c), lawCs_mem hc, rfl⟩))
  rw [hv] at this
  exact this.1

theorem ldE {x : Str} {c : Addr} {v : Value} {pos : Pos} {Q : Value → Shared → Prop} {env' : Env} (hk : env'.scope.kind = .function) (hl : env'.kindOf x = some .cell) (hc' : env'.cells.lookup x = some c) (hc : (lawCs L).lookup x = some c)
    (I : In outer ex s0 G0 G L m mu s) (hI : CellsIn L cv mu) (hv : cv x = some v) (h : Q v s) (hd : (x == ("__debug__" : Str)) = false := by decide +kernel) : wpAny (model prog w) A (eval (.Name x pos) env') Q E s :=
  wpAny_Name (wpAny_loadName_cell hk hl hc' (hI.at I hc hv) h) hd
/-- a cell's name, in the law's own frame -/
theorem ldCell {x : Str} {v : Value} {pos : Pos} {Q : Value → Shared → Prop} (e : LEnv env L) (I : In outer ex s0 G0 G L m mu s) (hI : CellsIn L cv mu) (hk : lawSc.names.lookup x = some .cell) (hc : ((lawCs L).lookup x).isSome = true) (hv : cv x = some v) (h : Q v s)
    (hd : (x == ("__debug__" : Str)) = false := by decide +kernel) : wpAny (model prog w) A (eval (.Name x pos) env) Q E s := by
  obtain ⟨c, hc⟩ := Option.isSome_iff_exists.mp hc
  exact ldE (by rw [e.scope]; exact e.kind) (by rw [e.toEnvOk.kindOf]; exact hk) (by rw [e.cells]; exact hc) hc I hI hv h hd
theorem stCell {x : Str} {v : Value} {pre rest : List (Addr × It)} {Q : Unit → Shared → Prop} (e : LEnv env L) (I : In outer ex s0 G0 G L m (pre ++ (cellsMu L cv ++ rest)) s) (hk : lawSc.names.lookup x = some .cell) (hc : ((lawCs L).lookup x).isSome = true)
    (h : ∀ s', In outer ex s0 G0 G L m (pre ++ (cellsMu L (upd cv x v) ++ rest)) s' → Q () s') : wpAny (model prog w) A (storeName env x v) Q E s := by
  obtain ⟨c, hc⟩ := Option.isSome_iff_exists.mp hc
  have hin : (c, cellIt (cv x)) ∈ pre ++ (cellsMu L cv ++ rest) := List.mem_append_right _ (List.mem_append_left _ (List.mem_map.mpr ⟨(x, c), lawCs_mem hc, rfl⟩))
  exact wpAny_storeName_cell (by rw [e.scope]; exact e.kind) (by rw [e.toEnvOk.kindOf]; exact hk) (by rw [e.cells]; exact hc) (I.mus _ hin).1 fun h' hn hs => h _ (I.setCell hc s.toks hn hs)

/-! ### the entry -/
theorem binds_law {v : Value} {pm cd doc : Value} : BindsTo s { docDef (fdName (stm 15)) (fdParams (stm 15)) (fdBody (stm 15)) lawSc pm cd doc with defaults := .none, kwdefaults := .none } ⟨[v], []⟩ [(("script" : Str), v)] := kp_binds in0f fun _ => by kernel_rfl
theorem enterLaw {n : Nat} {a : Addr} {o : Obj} {pm cd doc v : Value} {R : Result → Shared → Prop} (hA : AOk A [] (n + 1)) (O : Ok [] G s) (P : PG w G) (ho : s.heap.get? a = some o)
    (hdata : o.data = .func { docDef (fdName (stm 15)) (fdParams (stm 15)) (fdBody (stm 15)) lawSc pm cd doc with defaults := .none, kwdefaults := .none }) (hcd : s.heap.CodeRec cd (fdName (stm 15)))
    (h : ∀ env s₁ A' L m, LEnv env L → AOk A' [env] n → m ("script" : Str) = some v → In [] [] s G G L m (cellsMu L fun _ => none) s₁ →
      wpK (model prog w) A' (execs (fdBody (stm 15)) env) (fun fl s' => R (.ok (.ret (retOf fl))) s') (fun _ _ => False) s₁) : codeK (model prog w) A (.call (.ref a) ⟨[v], []⟩) R s := by
  refine codeK_call_function hA.room ho hdata rfl rfl rfl hcd (binds_law _ _ _ _ ?_)
  refine wpAny_newFunctionEnv_cells (scope := lawSc) rfl (fun x hx => .inl ?_) fun env he s' x => ⟨(P.lim _ O.sub).keeps x.toInCall.keep, codeK_func ?_⟩
  · rw [List.mem_singleton.mp hx]; kernel_rfl
  have hcs := lawCells s.heap.objs.size
  rw [hcs] at he
  generalize hL : s.heap.objs.size = L at *
  have hE : LEnv env L := by subst he; exact ⟨⟨rfl, rfl, rfl, rfl, rfl, rfl⟩, rfl⟩
  have hA' := hA.deeper env
  refine wpK_mono (h env s' _ L (bindL env.kindOf [(("script" : Str), v)] fun _ => none) hE hA' ?_ ?_) (fun fl s' hq => ?_) fun _ _ x => x.elim
  · have : env.kindOf ("script" : Str) = some .local := by rw [hE.toEnvOk.kindOf]; kernel_rfl
    unfold bindL
    rw [if_pos this]
    unfold bindL
    exact if_pos rfl
  · have hk : env.kindOf ("script" : Str) = some .local := by rw [hE.toEnvOk.kindOf]; kernel_rfl
    obtain ⟨h', tk, hsame⟩ := x.toInCall.same
    have hns : h'.Ns L (bindL env.kindOf [(("script" : Str), v)] fun _ => none) := by have := x.toInCall.ns; rw [hE.locals, hsame] at this; exact this
    have hkeep : ∀ b o, s.heap.get? b = some o → h'.get? b = some o := by have := x.toInCall.keep; rw [hsame] at this; exact this
    have I0 := In.start (ex := []) O tk (by rw [hL]; exact hns) hkeep (by simp)
    rw [hL] at I0
    rw [hsame]
    have fresh : ∀ c, L ≤ c → s.heap.get? c = none := fun c hc => Heap.get?_none_of_le (by rw [hL]; exact hc)
    have gnone : ∀ c, L ≤ c → G c = none := fun c hc => by
      cases q : G c with
      | none => rfl
      | some o => have := O.sub _ _ q; rw [fresh c hc] at this; cases this
    refine ⟨I0.toStep, I0.ns, I0.above, I0.gL, fun p hp => ?_, ?_, I0.gfs, I0.ff, I0.fex, I0.fsl⟩
    · obtain ⟨q, hq, rfl⟩ := List.mem_map.mp hp
      have hlt : L < q.2 := by
        unfold lawCs at hq
        simp only [List.mem_cons, List.not_mem_nil, or_false] at hq
        rcases hq with rfl | rfl | rfl | rfl | rfl | rfl | rfl <;> simp
      refine ⟨?_, gnone q.2 (Nat.le_of_lt hlt), Nat.ne_of_gt hlt, by simp [frs], .inl (fresh q.2 (Nat.le_of_lt hlt))⟩
      have hlk : env.cells.lookup q.1 = some q.2 := by
        rw [hE.cells]
        unfold lawCs at hq ⊢
        simp only [List.mem_cons, List.not_mem_nil, or_false] at hq
        rcases hq with rfl | rfl | rfl | rfl | rfl | rfl | rfl <;> kernel_rfl
      have := x.cell q.1 q.2 hlk
      unfold bindC at this
      rw [if_pos hk] at this
      unfold bindC at this
      rw [hsame] at this
      exact this
    · unfold cellsMu
      rw [List.map_map]
      have : (List.map ((fun x => x.1) ∘ fun p : Str × Addr => (p.2, cellIt none)) (lawCs L)) = [L + 7, L + 6, L + 5, L + 4, L + 3, L + 2, L + 1] := rfl
      rw [this]
      simp
  · cases fl <;> exact hq

/-! ### tests -/
theorem wpK_isTrue_And2 {a b : Expr} {pos : Pos} {whole : Sem Value} {Q : Bool → Shared → Prop}
    (h : wpK (model prog w) A (isTrue a env (eval a env)) (fun x s₁ => if x = true then wpK (model prog w) A (isTrue b env (eval b env)) Q E s₁ else Q false s₁) E s) : wpK (model prog w) A (isTrue (.BoolOp .And [a, b] pos) env whole) Q E s := by
  show wpK _ A (allTrue .And [a, b] env) Q E s
  unfold allTrue
  refine wpK_bind (wpK_mono h (fun x s₁ h₁ => ?_) fun _ _ y => y)
  cases x with
  | false => exact wpK_pure h₁
  | true =>
    show wpK _ A (allTrue .And [b] env) Q E s₁
    unfold allTrue
    refine wpK_bind (wpK_mono h₁ (fun x s₂ h₂ => ?_) fun _ _ y => y)
    cases x with
    | false => exact wpK_pure h₂
    | true =>
      show wpK _ A (allTrue .And [] env) Q E s₂
      unfold allTrue
      exact wpK_pure h₂
theorem wpK_isTrue_Or2 {a b : Expr} {pos : Pos} {whole : Sem Value} {Q : Bool → Shared → Prop}
    (h : wpK (model prog w) A (isTrue a env (eval a env)) (fun x s₁ => if x = true then Q true s₁ else wpK (model prog w) A (isTrue b env (eval b env)) Q E s₁) E s) : wpK (model prog w) A (isTrue (.BoolOp .Or [a, b] pos) env whole) Q E s := by
  show wpK _ A (allTrue .Or [a, b] env) Q E s
  unfold allTrue
  refine wpK_bind (wpK_mono h (fun x s₁ h₁ => ?_) fun _ _ y => y)
  cases x with
  | true => exact wpK_pure h₁
  | false =>
    show wpK _ A (allTrue .Or [b] env) Q E s₁
    unfold allTrue
    refine wpK_bind (wpK_mono h₁ (fun x s₂ h₂ => ?_) fun _ _ y => y)
    cases x with
    | true => exact wpK_pure h₂
    | false =>
      show wpK _ A (allTrue .Or [] env) Q E s₂
      unfold allTrue
      exact wpK_pure h₂

/-- `!=` of two that read alike -/
theorem neSame {v v' : Value} {d : Dat} {n : Nat} {Q : Value → Shared → Prop} (S : SubS G s.heap) (r : Rd G v d) (r' : Rd G v' d) (hok : kqdOk n d = true) (hd : d ≠ .none) (hT : ∀ ds, d ≠ .tuple ds) (hu : A.units + n < cLine) (h : Q (.bool false) s) : wpAny (model prog w) A (compareOp .NotEq v v') Q E s := by
  cases r with
  | none => exact absurd rfl hd
  | tuple _ _ => exact absurd rfl (hT _)
  | int i t =>
    cases r' with
    | int _ u => exact RcNeAt.int_int i t i u prog w E Q (by simpa using h)
  | str x t =>
    cases r' with
    | str _ u => exact RcNeAt.str_str x t x u prog w E Q (by simpa using h)
  | list h1 r1 =>
    cases r' with
    | list h2 r2 =>
    rename_i a vs k ds b ws j
    cases n with
    | zero => simp [kqdOk] at hok
    | succ n =>
    have hl : vs.length = ws.length := by rw [r1.length, r2.length]
    have hall : ∀ d ∈ ds, kqdOk n d = true := by simpa [kqdOk] using hok
    have := RcNeAt.lists (A := A) (e := fun _ => true) (isL (S _ _ h1)) (isL (S _ _ h2)) (by simp [hl]) (by omega) fun j j1 j2 => by
      have j1' : j < vs.length := by simpa using j1
      have j2' : j < ws.length := by simpa using j2
      obtain ⟨d1, e1, q1⟩ := r1.at (List.getElem?_eq_getElem j1')
      obtain ⟨d2, e2, q2⟩ := r2.at (List.getElem?_eq_getElem j2')
      rw [e1] at e2
      cases e2
      have := eqAt_Rd (A := A.in1) S q1 q2 (hall _ (List.mem_of_getElem? e1)) (hall _ (List.mem_of_getElem? e1)) (by show A.units + 1 + n < cLine; omega) true ⟨fun _ => rfl, fun _ => rfl⟩
      simpa using this
    refine this prog w E Q ?_
    have e : (List.range vs.toArray.size).all (fun _ => true) = true := List.all_eq_true.mpr fun _ _ => rfl
    rw [e]
    exact h
end
end Mine

end
section
open PySem PySem.W PyProof.Rows PySem.Calls PySem.NumText PySem.SeqAt
namespace Mine

def lawS (i : Nat) : Stmt := (fdBody (stm 15)).getD i (.Pass default)
section
variable {s0 s : Shared} {G0 G : Store} {L : Addr} {m cv : Str → Option Value} {mu rest : List (Addr × It)} {prog : Program} {w : World} {A : Around} {env : Env} {n : Nat} {Q : Flow → Shared → Prop}

theorem In.okE (I : In [] [] s0 G0 G L m mu s) (e : LEnv env L) : Ok [env] G s := I.ok e.frame (by rw [e.scope]; exact e.kind)

theorem law0 {v : Value} {ns : List Int} (e : LEnv env L) (hA : AOk A [env] (n + 2)) (P : PG w G) (I : In [] [] s0 G0 G L m mu s) (hm : m ("script" : Str) = some v) (hv : Rd G v (.list (ns.map Dat.int))) (hl : ns.length < 2 ^ 10)
    (hQ : ∀ V vs k G' s', LeS G G' → G' V = some (lstO vs k) → RdL G' vs ((versFrom [] (lawXs ns)).map verD) → In [] [] s0 G0 G' L (upd m ("versions" : Str) (.ref V)) mu s' → Q .next s') : wpK (model prog w) A (exec (lawS 0) env) Q (fun _ _ => False) s := by
  refine wpK_Assign_Name (callGlK e.toEnvOk I.sub P (by kernel_rfl) (f := 93) (by decide +kernel) P.fvers rfl (splicedK_cons (wpK_of (ldL e.toEnvOk I (by kernel_rfl) hm (splicedK_nil ⟨⟨G, .refl _, I.sub⟩, ?_⟩)))))
  refine versionsK hA (I.okE e) P hv hl fun r s' G' hst rr => ?_
  replace I := I.calledE e.frame hst
  cases rr with
  | list hV rV => exact wpK_of (stLs e.toEnvOk I (by kernel_rfl) fun s'' I => hQ _ _ _ _ _ hst.le hV rV I)

theorem law1 {V : Addr} {vs : List Value} {k : Nat} {fss : List (List Fld)} (e : LEnv env L) (hh : A.handled = none) (hf : ∀ fs ∈ fss, FsOk fs) (hn : fss.length ≤ 9) (I : In [] [] s0 G0 G L m (cellsMu L cv) s) (hm : m ("versions" : Str) = some (.ref V)) (hV : G V = some (lstO vs k)) (rV : RdL G vs (fss.map verD))
    (hQ : ∀ T ts k G' s', LeS G G' → G' T = some (lstO ts k) → RdL G' ts (fss.map fun fs => .str (textF fs)) → In [] [] s0 G0 G' L m (cellsMu L (upd cv ("texts" : Str) (.ref T))) s' → Q .next s') : wpK (model prog w) A (exec (lawS 1) env) Q (fun _ _ => False) s := by
  have hvl : vs.length = fss.length := by rw [rV.length, List.length_map]
  refine wpK_Assign_Name ?_ (by rw [e.eta]; kernel_rfl)
  refine compE (outer := []) (s0 := s0) (G0 := G0) (L := L) rfl (by decide) rfl (by decide +kernel) (wpK_of (ldL e.toEnvOk I (by kernel_rfl) hm (iterList I hV fun J s1 I => ?_)))
  refine ⟨J, lIter V, vs.length, _, G, m, _, _, fun _ => true, atD fss fun fs => .str (textF fs), rfl, Src.list hh hV, by omega, Job.name rfl (by kernel_rfl) ?_, I, fun G' hle D ys kd s2 I rys => ?_⟩
  · intro i v C D G1 mC ys kd s2 hi hvi hle hC I
    have hi' : i < fss.length := by omega
    obtain ⟨d, hd, rd⟩ := rV.at hvi
    rw [List.getElem?_map, List.getElem?_eq_getElem hi'] at hd
    cases hd
    have hfs := hf _ (List.getElem_mem hi')
    cases rd with
    | list hF rF =>
    rename_i F₀ fvs fk
    refine wpK_Call_method rfl rfl rfl F.plainAttrs_str F.slot_str_join F.type_str_join ?_
    refine cStr (k := 0) (pos := ⟨103, 13, 103, 16⟩) I fun t s3 I => ⟨typeIs_str _ _ _, (fun a ha => nomatch ha), ?_⟩
    refine callWithK_builtin rfl (evalArgsK_plain (splicedK_cons ?_))
    refine compE (outer := []) (s0 := s0) (G0 := G0) (L := L) rfl (by decide) rfl (by decide +kernel) (wpK_of (ldC rfl (by kernel_rfl) I hC ?_))
    refine readyItem (f := fun f : Fld => .str f.text) hh rfl (by kernel_rfl) (by decide +kernel) (by decide) I (hle _ _ hF) (rF.mono hle) (by have := hfs.len; omega) (fun a _ => ⟨_, rfl, rfl⟩) fun G2 hle2 D2 ys2 k2 s4 I rys2 => ?_
    refine splicedK_nil (wpK_of (joinS I I.head_at (xs := fss[i].map Fld.text) (by rw [List.map_map]; exact rys2) (by decide) ?_ fun t2 s5 I => ?_))
    · have h1 := text_le hfs
      have h2 := hfs.len
      have h3 : (fss[i].map Fld.text).length ≤ 5 := by rw [List.length_map]; exact h2
      generalize fss[i].map Fld.text = l at *
      have : (l.map (·.length)).sum ≤ 8 * l.length := by
        clear h3
        induction l with
        | nil => simp
        | cons x l ih => simp only [List.map_cons, List.sum_cons, List.length_cons]; have := h1 x (.head _); have := ih fun y hy => h1 y (.tail _ hy); omega
      omega
    · refine ⟨G2, hle2, I.drop (.cons _ (.refl _)), ?_⟩
      have : atD fss (fun fs => Dat.str (textF fs)) i = .str (textF fss[i]) := by simp [atD, List.getElem?_eq_getElem hi']
      rw [this]
      exact .str _ _
  · rw [emit_at fss _ hvl] at rys
    have hl2 := Store.le_put (o := lstO ys kd) I.head_none
    have hT : (G'.put D (lstO ys kd)) D = some (lstO ys kd) := Store.put_self _ _ _
    have I2 := I.frz
    have e2 : cellsMu L cv = [] ++ (cellsMu L cv ++ []) := by simp
    rw [e2] at I2
    refine wpK_of (stCell e I2 (by kernel_rfl) rfl fun s3 I3 => ?_)
    rw [List.nil_append, List.append_nil] at I3
    exact hQ D ys kd _ s3 (hle.trans hl2) hT (rys.mono hl2) I3

theorem law2 {V : Addr} {vs : List Value} {k : Nat} {fss : List (List Fld)} (e : LEnv env L) (hh : A.handled = none) (hf : ∀ fs ∈ fss, FsOk fs) (hn : fss.length ≤ 9) (I : In [] [] s0 G0 G L m (cellsMu L cv) s) (hm : m ("versions" : Str) = some (.ref V)) (hV : G V = some (lstO vs k)) (rV : RdL G vs (fss.map verD))
    (hQ : ∀ R rs k G' s', LeS G G' → G' R = some (lstO rs k) → RdL G' rs (fss.map rankD) → In [] [] s0 G0 G' L m (cellsMu L (upd cv ("ranks" : Str) (.ref R))) s' → Q .next s') : wpK (model prog w) A (exec (lawS 2) env) Q (fun _ _ => False) s := by
  have hvl : vs.length = fss.length := by rw [rV.length, List.length_map]
  refine wpK_Assign_Name ?_ (by rw [e.eta]; kernel_rfl)
  refine compE (outer := []) (s0 := s0) (G0 := G0) (L := L) rfl (by decide) rfl (by decide +kernel) (wpK_of (ldL e.toEnvOk I (by kernel_rfl) hm (iterList I hV fun J s1 I => ?_)))
  refine ⟨J, lIter V, vs.length, _, G, m, _, _, fun _ => true, atD fss rankD, rfl, Src.list hh hV, by omega, Job.name rfl (by kernel_rfl) ?_, I, fun G' hle D ys kd s2 I rys => ?_⟩
  · intro i v C D G1 mC ys kd s2 hi hvi hle hC I
    have hi' : i < fss.length := by omega
    obtain ⟨d, hd, rd⟩ := rV.at hvi
    rw [List.getElem?_map, List.getElem?_eq_getElem hi'] at hd
    cases hd
    have hfs := hf _ (List.getElem_mem hi')
    cases rd with
    | list hF rF =>
    rename_i F₀ fvs fk
    refine compE (outer := []) (s0 := s0) (G0 := G0) (L := L) rfl (by decide) rfl (by decide +kernel) (wpK_of (ldC rfl (by kernel_rfl) I hC ?_))
    refine readyItem (f := fun f : Fld => .tuple [.int f.rank, f.val]) hh rfl (by kernel_rfl) (by decide +kernel) (by decide) I (hle _ _ hF) (rF.mono hle) (by have := hfs.len; omega) (fun a _ => ⟨_, rfl, rfl⟩) fun G2 hle2 D2 ys2 k2 s4 I rys2 => ?_
    have hl2 := Store.le_put (o := lstO ys2 k2) I.head_none
    refine ⟨_, hle2.trans hl2, I.frz, ?_⟩
    have : atD fss rankD i = rankD fss[i] := by simp [atD, List.getElem?_eq_getElem hi']
    rw [this]
    exact .list (Store.put_self _ _ _) (rys2.mono hl2)
  · rw [emit_at fss _ hvl] at rys
    have hl2 := Store.le_put (o := lstO ys kd) I.head_none
    have hT : (G'.put D (lstO ys kd)) D = some (lstO ys kd) := Store.put_self _ _ _
    have I2 := I.frz
    have e2 : cellsMu L cv = [] ++ (cellsMu L cv ++ []) := by simp
    rw [e2] at I2
    refine wpK_of (stCell e I2 (by kernel_rfl) rfl fun s3 I3 => ?_)
    rw [List.nil_append, List.append_nil] at I3
    exact hQ D ys kd _ s3 (hle.trans hl2) hT (rys.mono hl2) I3
end
end Mine

end
section
open PySem PySem.W PyProof.Rows PySem.Calls PySem.NumText PySem.SeqAt
namespace Mine

theorem prT_ok : ∀ k : Fin 12, kqdOk 1 (prT k) = true := by decide +kernel
theorem pr_ok : ∀ k : Fin 12, ∀ d ∈ pr k, kqdOk 0 d = true := by
  have : ∀ k : Fin 12, (pr k).all (fun d => kqdOk 0 d) = true := by decide +kernel
  intro k d hd
  exact List.all_eq_true.mp (this k) d hd
theorem prTs_ok {a : List Nat} (h : Low a) : ∀ d ∈ a.map prT, kqdOk 1 d = true := by
  intro d hd
  obtain ⟨k, hk, rfl⟩ := List.mem_map.mp hd
  exact prT_ok ⟨k, h k hk⟩
theorem flat_ok {a : List Nat} (h : Low a) : ∀ d ∈ a.flatMap pr, kqdOk 0 d = true := by
  intro d hd
  obtain ⟨k, hk, hd⟩ := List.mem_flatMap.mp hd
  exact pr_ok ⟨k, h k hk⟩ d hd
theorem flatD_ok {a : List Nat} (h : Low a) (n : Nat) : kqdOk (n + 1) (.list (a.flatMap pr)) = true := by
  have mono : ∀ n d, kqdOk 0 d = true → kqdOk n d = true := by
    intro n d hd
    cases n with
    | zero => exact hd
    | succ n => cases d <;> first | rfl | exact hd | (simp [kqdOk] at hd)
  have : ∀ d ∈ a.flatMap pr, kqdOk n d = true := fun d hd => mono n d (flat_ok h d hd)
  rw [kqdOk]
  exact List.all_eq_true.mpr this

/-- the keys of the versions -/
def keyOf (fss : List (List Fld)) (i : Nat) : List Nat := keyF (fss.getD i [])
theorem keyOf_at {fss : List (List Fld)} {i : Nat} (h : i < fss.length) : keyOf fss i = keyF fss[i] := by unfold keyOf; rw [List.getD_eq_getElem?_getD, List.getElem?_eq_getElem h]; rfl
theorem keyOf_low {fss : List (List Fld)} (hf : ∀ fs ∈ fss, FsOk fs) (i : Nat) : Low (keyOf fss i) := by
  by_cases h : i < fss.length
  · rw [keyOf_at h]; exact low_key (hf _ (List.getElem_mem h))
  · unfold keyOf
    rw [List.getD_eq_getElem?_getD, List.getElem?_eq_none (by omega)]
    intro k hk; cases hk
def dssOf (fss : List (List Fld)) : List (List Dat) := fss.map fun fs => (keyF fs).map prT
theorem dssOf_at {fss : List (List Fld)} {i : Nat} (h : i < fss.length) : (dssOf fss).getD i [] = (keyOf fss i).map prT := by
  unfold dssOf
  rw [List.getD_eq_getElem?_getD, List.getElem?_map, List.getElem?_eq_getElem h, keyOf_at h]; rfl
theorem ltP_at {fss : List (List Fld)} (hf : ∀ fs ∈ fss, FsOk fs) {i j : Nat} (hi : i < fss.length) (hj : j < fss.length) : ltP (dssOf fss) i j = if keyOf fss i = keyOf fss j then decide (i < j) else ltN (keyOf fss i) (keyOf fss j) := by
  unfold ltP
  rw [dssOf_at hi, dssOf_at hj]
  by_cases e : keyOf fss i = keyOf fss j
  · rw [if_pos e, if_pos (by rw [e])]
  · rw [if_neg e, if_neg (fun q => e (pairs_inj _ _ (keyOf_low hf i) (keyOf_low hf j) q)), lt_pairs _ _ (keyOf_low hf i) (keyOf_low hf j)]
    rfl
theorem ltP_S {fss : List (List Fld)} (hf : ∀ fs ∈ fss, FsOk fs) {i j : Nat} (hi : i < fss.length) (hj : j < fss.length) (h : ltP (dssOf fss) i j = true) : ltS (keyOf fss) i j := by
  rw [ltP_at hf hi hj] at h
  split at h
  · rename_i e; exact .inr ⟨e, by simpa using h⟩
  · exact .inl h
theorem S_ltP {fss : List (List Fld)} (hf : ∀ fs ∈ fss, FsOk fs) {i j : Nat} (hi : i < fss.length) (hj : j < fss.length) (h : ltS (keyOf fss) i j) : ltP (dssOf fss) i j = true := by
  rw [ltP_at hf hi hj]
  rcases h with h | ⟨h, h'⟩
  · rw [if_neg (fun q => by rw [q, ltN_irr] at h; cases h)]; exact h
  · rw [if_pos h]; simpa using h'
theorem ltS_trans (K : Nat → List Nat) {a b c : Nat} (h1 : ltS K a b) (h2 : ltS K b c) : ltS K a c := by
  rcases h1 with h1 | ⟨h1, h1'⟩ <;> rcases h2 with h2 | ⟨h2, h2'⟩
  · exact .inl (ltN_trans _ _ _ h1 h2)
  · exact .inl (h2 ▸ h1)
  · exact .inl (h1 ▸ h2)
  · exact .inr ⟨h1.trans h2, by omega⟩
theorem strictP {fss : List (List Fld)} (hf : ∀ fs ∈ fss, FsOk fs) : Strict (ltP (dssOf fss)) fss.length := by
  refine ⟨fun i => ?_, fun i j k hi hj hk h1 h2 => ?_, fun i j hi hj hne => ?_⟩
  · unfold ltP; rw [if_pos rfl]; simp
  · exact S_ltP hf hi hk (ltS_trans _ (ltP_S hf hi hj h1) (ltP_S hf hj hk h2))
  · by_cases e : keyOf fss i = keyOf fss j
    · rcases Nat.lt_or_gt_of_ne hne with q | q
      · exact .inl (S_ltP hf hi hj (.inr ⟨e, q⟩))
      · exact .inr (S_ltP hf hj hi (.inr ⟨e.symm, q⟩))
    · rcases ltN_tot _ _ e with q | q
      · exact .inl (S_ltP hf hi hj (.inl q))
      · exact .inr (S_ltP hf hj hi (.inl q))

theorem CellsIn.refl {L : Addr} {cv : Str → Option Value} : CellsIn L cv (cellsMu L cv) := fun _ h => h
section
variable {s0 s : Shared} {G0 G : Store} {L : Addr} {m cv : Str → Option Value} {mu rest : List (Addr × It)} {prog : Program} {w : World} {A : Around} {env : Env} {n : Nat} {Q : Flow → Shared → Prop}

/-- a builtin function, called by its global name -/
theorem callBGlK {sc : Scope} {E : Value → Shared → Prop} {x : Str} {np pos : Pos} {id : String} {args : List Expr} {a : Sem Value} {rest : List (Bool × Sem Value)} {Q : Value → Shared → Prop}
    (e : EnvOk env sc L) (S : SubS G s.heap) (P : PG w G) (hk : sc.names.lookup x = some .globalImplicit) (hx : (x, .builtin id) ∈ gtab) (hargs : backTo pos (starEach args env) = (false, a) :: rest) (hplain : ((false, a) :: rest).any (·.1) = false)
    (h : wpK (model prog w) A (spliced ((false, a) :: rest)) (fun vs s₁ => wpK (model prog w) A (call (.builtin id) vs) Q E s₁) E s) (hd : (x == ("__debug__" : Str)) = false := by decide +kernel) :
    wpK (model prog w) A (eval (.Call (.Name x np) args [] pos) env) Q E s := by
  refine wpK_Call_ofName (wpK_of (ldGl e S P hk hx ?_ hd))
  rw [hargs]
  exact callWithK_builtin hplain (evalArgsK_plain (wpK_mono h (fun vs s₁ h₁ => h₁) fun _ _ y => y))

theorem law3 {R : Addr} {rs : List Value} {k : Nat} {fss : List (List Fld)} (e : LEnv env L) (hA : AOk A [env] (n + 2)) (P : PG w G) (hf : ∀ fs ∈ fss, FsOk fs) (hn : fss.length ≤ 9) (hn5 : 5 ≤ fss.length) (I : In [] [] s0 G0 G L m (cellsMu L cv) s) (hc : cv ("ranks" : Str) = some (.ref R)) (hR : G R = some (lstO rs k)) (rR : RdL G rs (fss.map rankD))
    (hQ : ∀ O os k S G' s', SInv (keyOf fss) fss.length S → LeS G G' → G' O = some (lstO os k) → RdL G' os (S.map fun i : Nat => .int i) → In [] [] s0 G0 G' L (upd m ("order" : Str) (.ref O)) (cellsMu L cv) s' → Q .next s') : wpK (model prog w) A (exec (lawS 3) env) Q (fun _ _ => False) s := by
  have hrl : rs.length = fss.length := by rw [rR.length, List.length_map]
  have hh := hA.handled
  refine compA (outer := []) (s0 := s0) (G0 := G0) (L := L) e.toEnvOk (by kernel_rfl) (by rw [e.eta]; kernel_rfl) rfl (by decide) rfl (by decide +kernel) ?_
  refine callBGlK e.toEnvOk I.sub P (by kernel_rfl) (id := "sorted") (by decide +kernel) rfl rfl (splicedK_cons ?_)
  refine compE (cl := [(("ranks" : Str), L + 2)]) (outer := []) (s0 := s0) (G0 := G0) (L := L) (by rw [e.eta]; kernel_rfl) (by decide) rfl (by decide +kernel) ?_
  refine callTypeGlK e.toEnvOk I.sub P (by kernel_rfl) (T := "range") (by decide +kernel) rfl rfl (splicedK_cons (wpK_of (callB1 e.toEnvOk I.sub P (by kernel_rfl) (id := "len") (by decide +kernel) (fun _ => rfl) ?_)))
  refine ldCell e I CellsIn.refl (by kernel_rfl) rfl hc (len_list (isL (I.sub _ _ hR)) (by simp; omega) (splicedK_nil ?_))
  rw [show rs.toArray.size = fss.length by simp [hrl]]
  replace I := I.tok (s.toks + 1 + 1)
  refine wpK_of (callRange I fun r o s1 ho I => iterRange (by omega) ho I fun J s2 I => ?_)
  refine ⟨J, rIter fss.length, fss.length, _, G, m, _, _, fun _ => true, fun i => .tuple [rankD (fss.getD i []), .int i], rfl, Src.range hh, by omega, Job.name rfl (by kernel_rfl) ?_, I, fun G' hle D ys kd s2 I rys => ?_⟩
  · rintro i v C D G1 mC ys kd s2 hi ⟨t, rfl⟩ hle hC I
    have e1 : (fss.map rankD)[i]? = some (rankD (fss.getD i [])) := by
      rw [List.getElem?_map, List.getElem?_eq_getElem hi, List.getD_eq_getElem?_getD, List.getElem?_eq_getElem hi]; rfl
    obtain ⟨x, hx, rx⟩ := rR.get e1
    refine wpK_of (tupE (outer := []) (s0 := s0) (G0 := G0) (L := L) (spl_cons rfl (Subscript_ (ldE (c := L + 2) rfl (by rw [e.eta]; kernel_rfl) rfl rfl I CellsIn.refl.tail.tail.tail hc (ldC rfl (by kernel_rfl) I hC (itemL (I.sub _ _ (hle _ _ hR)) (by omega) hx ?_ rfl))))))
    refine spl_cons rfl (ldC rfl (by kernel_rfl) I hC (spl_nil ?_))
    exact ⟨G1, _, _, _, I, .cons (rx.mono hle) (.cons (.int _ _) .nil), by simp, fun R' G2 s3 hle2 I2 r2 => ⟨G2, hle2, I2, r2⟩⟩
  · rw [emit_all] at rys
    have ed : (List.range fss.length).map (fun i => Dat.tuple [rankD (fss.getD i []), .int i]) = (dssOf fss).zipIdx.map fun p => .tuple [.list p.1, .int p.2] := by
      apply List.ext_getElem?
      intro i
      rw [List.getElem?_map, List.getElem?_map, List.getElem?_zipIdx]
      unfold dssOf
      rw [List.getElem?_map]
      by_cases hi : i < fss.length
      · rw [List.getElem?_range hi, List.getElem?_eq_getElem hi]
        simp only [Option.map_some, Option.some.injEq]
        rw [List.getD_eq_getElem?_getD, List.getElem?_eq_getElem hi]
        simp only [Option.getD_some]
        rw [rankD_eq (hf _ (List.getElem_mem hi))]
        simp
      · rw [List.getElem?_eq_none (by simp; omega), List.getElem?_eq_none (by omega)]; rfl
    rw [ed] at rys
    have hl2 := Store.le_put (o := lstO ys kd) I.head_none
    have hD : (G'.put D (lstO ys kd)) D = some (lstO ys kd) := Store.put_self _ _ _
    replace I := I.frz
    replace rys := rys.mono hl2
    have hle2 := hle.trans hl2
    clear hle hl2
    generalize G'.put D (lstO ys kd) = G1 at I rys hD hle2
    have hyl : ys.length = fss.length := by rw [rys.length, List.length_map, List.length_zipIdx]; unfold dssOf; rw [List.length_map]
    have hu := hA.units
    refine splicedK_nil (wpK_of (sortedK (n := 1) (dss := dssOf fss) I hD (by rw [hyl]; unfold dssOf; rw [List.length_map]) rys ?_ ?_ (by rw [hyl]; exact strictP hf) (by show A.units + 4 + 1 < 9900; omega) (by omega) (by omega) fun q D2 c s3 hp ha I => ?_))
    · intro ds hds d hd
      obtain ⟨fs, hfs, rfl⟩ := List.mem_map.mp hds
      exact prTs_ok (low_key (hf _ hfs)) d hd
    · intro ds hds es hes
      obtain ⟨fs, hfs, rfl⟩ := List.mem_map.mp hds
      obtain ⟨gs, hgs, rfl⟩ := List.mem_map.mp hes
      exact ⟨_, lt_pairs _ _ (low_key (hf _ hfs)) (low_key (hf _ hgs))⟩
    rw [hyl] at hp ha
    have hS : SInv (keyOf fss) fss.length q.toList := ascP_sorted hp ha fun i j hi hj h => ltP_S hf hi hj h
    generalize hq : q.toList = S at hS I
    have hSl := hS.length
    have hlt : ∀ i, i < S.length → S.getD i 0 < fss.length := fun i hi => by
      rw [mget hi]
      have := hS.perm.mem_iff.mp (List.getElem_mem hi)
      simpa using this
    -- the sorted list, read
    have item : ∀ i, i < S.length → ∃ a X t j, ys.getD (S.getD i 0) .none = .ref a ∧ G1 a = some (tupO [X, .int (S.getD i 0 : Nat) t] j) := by
      intro i hi
      have h1 := hlt i hi
      have e1 : ((dssOf fss).zipIdx.map fun p => Dat.tuple [.list p.1, .int p.2])[S.getD i 0]? = some (.tuple [.list ((dssOf fss).getD (S.getD i 0) []), .int (S.getD i 0 : Nat)]) := by
        rw [List.getElem?_map, List.getElem?_zipIdx, List.getD_eq_getElem?_getD (l := dssOf fss)]
        have : S.getD i 0 < (dssOf fss).length := by unfold dssOf; rw [List.length_map]; exact h1
        rw [List.getElem?_eq_getElem this]
        simp
      obtain ⟨v, hv, rv⟩ := rys.get e1
      rw [List.getD_eq_getElem?_getD (l := ys), hv]
      cases rv with
      | tuple ht rt =>
      cases rt with
      | cons r1 rt =>
      cases rt with
      | cons r2 rt =>
      cases rt
      cases r2
      exact ⟨_, _, _, _, rfl, ht⟩
    have hl3 := Store.le_put (o := lstO (S.map fun i => ys.getD i .none) c) I.head_none
    have hD2 : (G1.put D2 (lstO (S.map fun i => ys.getD i .none) c)) D2 = some (lstO (S.map fun i => ys.getD i .none) c) := Store.put_self _ _ _
    replace I := I.frz
    generalize G1.put D2 (lstO (S.map fun i => ys.getD i .none) c) = G2 at I hl3 hD2
    have item2 : ∀ i v, (S.map fun i => ys.getD i .none)[i]? = some v → ∃ a X t j, v = .ref a ∧ G2 a = some (tupO [X, .int (S.getD i 0 : Nat) t] j) := by
      intro i v hv
      rw [List.getElem?_map, Option.map_eq_some_iff] at hv
      obtain ⟨x, hx, rfl⟩ := hv
      have hi := (List.getElem?_eq_some_iff.mp hx).1
      obtain ⟨a, X, t, j, e1, e2⟩ := item i hi
      have : S.getD i 0 = x := by rw [List.getD_eq_getElem?_getD, hx]; rfl
      rw [this] at e1 e2
      refine ⟨a, X, t, j, e1, ?_⟩
      rw [this]
      exact hl3 _ _ e2
    refine iterList I hD2 fun J2 s4 I => ?_
    refine ⟨J2, lIter D2, (S.map fun i => ys.getD i .none).length, _, G2, m, _, fun i _ _ mC => ∃ u, mC ("k" : Str) = some (.int (S.getD i 0 : Nat) u), fun _ => true, fun i => .int (S.getD i 0 : Nat), rfl, Src.list hh hD2, by rw [List.length_map]; omega, ?_, I, fun G3 hle3 D3 ys3 k3 s5 I rys3 => ?_⟩
    · refine ⟨fun i v G' mu' s Q' hv hle I hq => ?_, fun i v C G' mC mu' s Q' hi hv hle I hq => ?_, fun i v C D G' mC ys k s Q' _ _ _ hA I hq => wpAny_tests_nil (hq _ I), fun i v C D G' mC ys k s hi _ hv hle hAm I => ?_⟩
      · obtain ⟨a, X, t, j, rfl, _⟩ := item2 i v hv
        exact wpAny_letOwnedTupleGo_listiter I.head_at hq
      · obtain ⟨a, X, t, j, rfl, ha⟩ := item2 i v hv
        refine wpAny_assign_Tuple hh (isT (I.sub _ _ (hle _ _ ha))) rfl rfl fun h' hs => ?_
        have I1 := I.grow s.toks (fun b o eb => hs b o (Nat.ne_of_lt (Heap.lt_size eb)) eb)
        refine wpAny_assignInOrder_more (asgC rfl (by kernel_rfl) I1 fun s6 I2 => ?_)
        refine wpAny_assignInOrder_more (asgC rfl (by kernel_rfl) I2 fun s7 I3 => ?_)
        exact wpAny_assignInOrder_none (hq _ _ ⟨_, upd_same⟩ I3)
      · obtain ⟨u, hu⟩ := hAm
        exact wpK_of (ldC rfl (by kernel_rfl) I hu ⟨G', .refl _, I, .int _ _⟩)
    · rw [emit_all] at rys3
      have e3 : (List.range (S.map fun i => ys.getD i .none).length).map (fun i => Dat.int (S.getD i 0 : Nat)) = S.map fun i : Nat => Dat.int i := by
        apply List.ext_getElem?
        intro i
        rw [List.getElem?_map, List.getElem?_map]
        by_cases hi : i < S.length
        · rw [List.getElem?_range (by simpa using hi), List.getElem?_eq_getElem hi, Option.map_some, Option.map_some, mget hi]
        · rw [List.getElem?_eq_none (by simp; omega), List.getElem?_eq_none (by omega)]; rfl
      rw [e3] at rys3
      have hl4 := Store.le_put (o := lstO ys3 k3) I.head_none
      exact hQ D3 ys3 k3 S _ s5 hS (hle2.trans (hl3.trans (hle3.trans hl4))) (Store.put_self _ _ _) (rys3.mono hl4) I.frz
end
end Mine

end
section
open PySem PySem.W PyProof.Rows PySem.Calls PySem.NumText PySem.SeqAt
namespace Mine

abbrev obL (R : Addr) (vs : List Value) (k : Nat) : Addr × It := (R, .ob (lstO vs k))
section
variable {s0 s : Shared} {G0 G : Store} {L : Addr} {m cv : Str → Option Value} {mu rest : List (Addr × It)} {prog : Program} {w : World} {A : Around} {env : Env} {n : Nat} {Q : Flow → Shared → Prop}

/-- shelf, dividers, marks, norms: four empty lists -/
theorem law4 (e : LEnv env L) (hh : A.handled = none) (I : In [] [] s0 G0 G L m (cellsMu L cv) s)
    (hQ : ∀ S D M N s', In [] [] s0 G0 G L (upd (upd m ("dividers" : Str) (.ref D)) ("marks" : Str) (.ref M)) (cellsMu L (upd (upd cv ("shelf" : Str) (.ref S)) ("norms" : Str) (.ref N)) ++ [obL N [] 0, obL M [] 0, obL D [] 0, obL S [] 0]) s' → Q .next s') : wpK (model prog w) A (exec (lawS 4) env) Q (fun _ _ => False) s := by
  refine wpK_of (Assign_Tuple ?_ rfl (by rw [e.eta]; kernel_rfl))
  refine wpAny_Tuple (spl_cons rfl (nilL I fun S s1 I => spl_cons rfl (nilL I fun D s2 I => spl_cons rfl (nilL I fun M s3 I => spl_cons rfl (nilL I fun N s4 I => spl_nil ⟨by simp [sizeLine_eq], ?_⟩)))))
  have I1 := I.alloc (tupO [.ref S, .ref D, .ref M, .ref N] 0) s4.toks
  have hT := I1.head_at
  refine wpAny_assign_Tuple hh (isT hT) rfl rfl fun h' hs => ?_
  have I2 := I1.grow s4.toks (fun b o eb => hs b o (Nat.ne_of_lt (Heap.lt_size eb)) eb)
  replace I2 := I2.drop (mu' := obL N [] 0 :: obL M [] 0 :: obL D [] 0 :: obL S [] 0 :: cellsMu L cv) (.cons _ (.refl _))
  replace I2 := I2.perm (mu' := [] ++ (cellsMu L cv ++ [obL N [] 0, obL M [] 0, obL D [] 0, obL S [] 0])) (by
    rw [List.nil_append]
    exact List.perm_append_comm (l₁ := cellsMu L cv) (l₂ := [obL N [] 0, obL M [] 0, obL D [] 0, obL S [] 0]))
  refine wpAny_assignInOrder_more (wpAny_assign_Name (stCell e I2 (by kernel_rfl) rfl fun s5 I => ?_))
  refine wpAny_assignInOrder_more (wpAny_assign_Name (stLs e.toEnvOk I (by kernel_rfl) fun s6 I => ?_))
  refine wpAny_assignInOrder_more (wpAny_assign_Name (stLs e.toEnvOk I (by kernel_rfl) fun s7 I => ?_))
  refine wpAny_assignInOrder_more (wpAny_assign_Name (stCell e I (by kernel_rfl) rfl fun s8 I => ?_))
  exact wpAny_assignInOrder_none (hQ _ _ _ _ _ I)
end
end Mine

end
section
open PySem PySem.W PyProof.Rows PySem.Calls PySem.NumText PySem.SeqAt
namespace Mine

def forBody : Stmt → List Stmt
  | .For _ _ b _ _ => b
  | _ => []
def bS (j : Nat) : Stmt := (forBody (lawS 5)).getD j (.Pass default)
theorem dotS_bound (l : List Str) (h : ∀ x ∈ l, x.length ≤ 8) (hl : l.length ≤ 5) : (l.map (·.length)).sum + l.length ≤ 1048576 := by
  have : (l.map (·.length)).sum ≤ 8 * l.length := by
    clear hl
    induction l with
    | nil => simp
    | cons x l ih => simp only [List.map_cons, List.sum_cons, List.length_cons]; have := h x (.head _); have := ih fun y hy => h y (.tail _ hy); omega
  omega

theorem joinDots_small : ∀ l : List (List Nat), (∀ x ∈ l, ∀ c ∈ x, c < 0x110000) → ∀ c ∈ joinDots l, c < 0x110000
  | [], _, c, hc => by cases hc
  | [x], h, c, hc => h x (.head _) c hc
  | x :: y :: r, h, c, hc => by
    simp only [joinDots, List.mem_append, List.mem_cons] at hc
    rcases hc with hc | rfl | hc
    · exact h x (.head _) c hc
    · decide
    · exact joinDots_small (y :: r) (fun z hz => h z (.tail _ hz)) c hc
theorem strOk_iff (x : Str) : PyData.strOk x = true ↔ ∀ c ∈ x.cps.toList, c < 0x110000 := by
  unfold PyData.strOk
  rw [← Array.all_toList, List.all_eq_true]
  simp
theorem join_ok (l : List Str) (h : ∀ x ∈ l, PyData.strOk x = true) : PyData.strOk (Txt.join dotS l) = true := by
  rw [strOk_iff, join_txt, join_cps]
  refine joinDots_small _ fun x hx => ?_
  obtain ⟨y, hy, rfl⟩ := List.mem_map.mp hx
  exact (strOk_iff y).mp (h y hy)
theorem textF_ok {fs : List Fld} (h : FsOk fs) : PyData.strOk (textF fs) = true := by
  refine join_ok _ fun x hx => ?_
  obtain ⟨f, hf, rfl⟩ := List.mem_map.mp hx
  obtain ⟨i, rfl⟩ := h.all f hf
  exact text_ok i
theorem nrmF_ok {fs : List Fld} (h : FsOk fs) : PyData.strOk (nrmF fs) = true := by
  refine join_ok _ fun x hx => ?_
  have hx := List.mem_of_mem_take hx
  unfold lawNormed at hx
  split at hx
  · rename_i hall
    obtain ⟨f, hf, rfl⟩ := List.mem_map.mp hx
    have hn := hall f hf
    obtain ⟨i, rfl⟩ := h.all f hf
    cases hp : (fld i).plain with
    | none => exact absurd hp hn
    | some p => exact (plain_ok i p hp).1
  · obtain ⟨f, hf, rfl⟩ := List.mem_map.mp hx
    obtain ⟨i, rfl⟩ := h.all f hf
    exact text_ok i

section
variable {outer : List Env} {s : Shared} {G : Store} {prog : Program} {w : World} {A : Around} {E : Value → Shared → Prop} {n : Nat}
theorem neStr {v v' : Value} {x : Str} {Q : Value → Shared → Prop} (r : Rd G v (.str x)) (r' : Rd G v' (.str x)) (h : Q (.bool false) s) : wpAny (model prog w) A (compareOp .NotEq v v') Q E s := by
  cases r with
  | str _ t =>
  cases r' with
  | str _ u => exact RcNeAt.str_str x t x u prog w E Q (by simpa using h)
/-- _norm_version of a version's text -/
theorem norm1K {v : Value} {fs : List Fld} {Q : Value → Shared → Prop} (hA : AOk A outer (n + 2)) (O : Ok outer G s) (P : PG w G) (h : FsOk fs) (hv : Rd G v (.str (textF fs)))
    (hQ : ∀ r s' G', Step (frs outer) [] G s G' s' → Rd G' r (.str (nrmF fs)) → Q r s') : wpK (model prog w) A (call (.ref 52) [v]) Q E s := by
  have hne : fs.map Fld.text ≠ [] := by simpa using h.ne
  refine normK (bv := .str (Str.ofString "") 373) (b := Str.ofString "") (xs := fs.map Fld.text) (fn := fnum) hA O P (.inl ⟨rfl, rfl⟩) hv (.str _ _) (by have := textF_len h; omega) (by decide) ?_ (numOf_text h) (fnum_small h) (by rw [normed_eq h]; exact norm_w h) fun r s' G' hst rr => hQ r s' G' hst ?_
  · rw [if_pos (by decide)]
    exact (split_join _ hne (nodots h.all)).symm
  · unfold normOf at rr
    rw [normed_eq h] at rr
    exact rr
/-- .. the last field handed over as the build -/
theorem norm2K {v bv : Value} {fs : List Fld} {b : Str} {Q : Value → Shared → Prop} (hA : AOk A outer (n + 2)) (O : Ok outer G s) (P : PG w G) (h : FsOk fs) (h2 : 2 ≤ fs.length) (hv : Rd G v (.str (Txt.join dotS (fs.map Fld.text).dropLast))) (hb : (fs.map Fld.text).getLast? = some b) (hbv : Rd G bv (.str b))
    (hQ : ∀ r s' G', Step (frs outer) [] G s G' s' → Rd G' r (.str (nrmF fs)) → Q r s') : wpK (model prog w) A (call (.ref 52) [v, bv]) Q E s := by
  have hm : b ∈ fs.map Fld.text := List.mem_of_getLast? hb
  have hb8 := text_le h b hm
  have hb1 : b.length ≠ 0 := by
    obtain ⟨f, hf, e⟩ := List.mem_map.mp hm
    obtain ⟨i, rfl⟩ := h.all f hf
    have := (text_len i).2
    rw [← e]; omega
  have hd : (fs.map Fld.text).dropLast ≠ [] := by
    intro q
    have := congrArg List.length q
    simp at this
    omega
  have hj := join_len (fs.map Fld.text).dropLast fun x hx => text_le h x ((List.dropLast_sublist _).subset hx)
  have hdl : (fs.map Fld.text).dropLast.length ≤ 5 := by have := h.len; simp; omega
  refine normK (xs := fs.map Fld.text) (fn := fnum) hA O P (.inr rfl) hv hbv (by omega) (by omega) ?_ (numOf_text h) (fnum_small h) (by rw [normed_eq h]; exact norm_w h) fun r s' G' hst rr => hQ r s' G' hst ?_
  · rw [if_neg hb1, split_join _ hd fun x hx => nodots h.all x ((List.dropLast_sublist _).subset hx)]
    have hne : fs.map Fld.text ≠ [] := by simpa using h.ne
    have := List.dropLast_concat_getLast hne
    rw [List.getLast?_eq_some_getLast hne] at hb
    cases hb
    exact this.symm
  · unfold normOf at rr
    rw [normed_eq h] at rr
    exact rr
end

def txD (fss : List (List Fld)) (i : Nat) : Dat := .str (textF (fss.getD i []))
def nmD (fss : List (List Fld)) (i : Nat) : Dat := .str (nrmF (fss.getD i []))
def hdD (fss : List (List Fld)) (i : Nat) : Dat := .list ((hd3 (keyOf fss) i).flatMap pr)
def flD (fss : List (List Fld)) (i : Nat) : Dat := .list ((keyOf fss i).flatMap pr)
theorem fss_at {fss : List (List Fld)} {i : Nat} (h : i < fss.length) : fss.getD i [] = fss[i] := by rw [List.getD_eq_getElem?_getD, List.getElem?_eq_getElem h]; rfl
theorem fss_ok {fss : List (List Fld)} (hf : ∀ fs ∈ fss, FsOk fs) {i : Nat} (h : i < fss.length) : FsOk (fss.getD i []) := by rw [fss_at h]; exact hf _ (List.getElem_mem h)
theorem map_at {α : Type} {fss : List (List Fld)} {i : Nat} (f : List Fld → α) (h : i < fss.length) : (fss.map f)[i]? = some (f (fss.getD i [])) := by rw [fss_at h, List.getElem?_map, List.getElem?_eq_getElem h]; rfl

section
variable {s0 s : Shared} {G0 G : Store} {L : Addr} {m cv : Str → Option Value} {mu rest : List (Addr × It)} {prog : Program} {w : World} {A : Around} {env : Env} {n : Nat} {Q : Flow → Shared → Prop}

/-- what the law's loops lean on -/
structure Base (G : Store) (cv : Str → Option Value) (fss : List (List Fld)) : Prop where
  ok : ∀ fs ∈ fss, FsOk fs
  len : fss.length ≤ 9
  texts : ∃ T ts k, cv ("texts" : Str) = some (.ref T) ∧ G T = some (lstO ts k) ∧ RdL G ts (fss.map fun fs => .str (textF fs))
theorem Base.mono {G' : Store} {fss : List (List Fld)} (b : Base G cv fss) (h : LeS G G') : Base G' cv fss := by
  obtain ⟨T, ts, k, h1, h2, h3⟩ := b.texts
  exact ⟨b.ok, b.len, T, ts, k, h1, h _ _ h2, h3.mono h⟩

/-- texts[k] -/
theorem ldText {i : Nat} {t : Tok} {fss : List (List Fld)} {px py pos : Pos} {E : Value → Shared → Prop} {Q : Value → Shared → Prop} (e : LEnv env L) (I : In [] [] s0 G0 G L m mu s) (hI : CellsIn L cv mu) (B : Base G cv fss) (hk : cv ("k" : Str) = some (.int i t)) (hi : i < fss.length)
    (h : ∀ v, Rd G v (txD fss i) → Q v s) : wpAny (model prog w) A (eval (.Subscript (.Name ("texts" : Str) px) (.Name ("k" : Str) py) pos) env) Q E s := by
  obtain ⟨T, ts, k, h1, h2, h3⟩ := B.texts
  obtain ⟨v, hv, rv⟩ := h3.get (map_at _ hi)
  have := B.len
  exact Subscript_ (ldCell e I hI (by kernel_rfl) rfl h1 (ldCell e I hI (by kernel_rfl) rfl hk (itemL (I.sub _ _ h2) (by omega) hv (h v rv) rfl)))
/-- norms[k], the norms still growing -/
theorem ldNormO {i : Nat} {t : Tok} {N : Addr} {ns : List Value} {kN : Nat} {v : Value} {px py pos : Pos} {E : Value → Shared → Prop} {Q : Value → Shared → Prop} (e : LEnv env L) (I : In [] [] s0 G0 G L m mu s) (hI : CellsIn L cv mu) (hN : cv ("norms" : Str) = some (.ref N)) (hNo : s.heap.get? N = some (lstO ns kN)) (hk : cv ("k" : Str) = some (.int i t)) (hi : i < 2 ^ 20) (hv : ns[i]? = some v)
    (h : Q v s) : wpAny (model prog w) A (eval (.Subscript (.Name ("norms" : Str) px) (.Name ("k" : Str) py) pos) env) Q E s :=
  Subscript_ (ldCell e I hI (by kernel_rfl) rfl hN (ldCell e I hI (by kernel_rfl) rfl hk (itemL hNo (by omega) hv h rfl)))

theorem b0 {i : Nat} {t : Tok} {fss : List (List Fld)} {N : Addr} {ns : List Value} {kN : Nat} (e : LEnv env L) (hA : AOk A [env] (n + 8)) (P : PG w G) (I : In [] [] s0 G0 G L m (obL N ns kN :: mu) s) (hI : CellsIn L cv mu) (B : Base G cv fss) (hk : cv ("k" : Str) = some (.int i t)) (hi : i < fss.length)
    (hN : cv ("norms" : Str) = some (.ref N)) (hnl : ns.length < 2 ^ 10) (hQ : ∀ v k' G' s', LeS G G' → Rd G' v (nmD fss i) → In [] [] s0 G0 G' L m (obL N (ns ++ [v]) k' :: mu) s' → Q .next s') : wpK (model prog w) A (exec (bS 0) env) Q (fun _ _ => False) s := by
  refine appendK e.quiet rfl rfl rfl (ldCell e I hI.tail (by kernel_rfl) rfl hN ⟨N, ns, kN, rfl, I.head_at, ?_⟩)
  refine callGlK e.toEnvOk I.sub P (by kernel_rfl) (f := 52) (by decide +kernel) P.fnorm rfl (splicedK_cons (wpK_of (ldText e I hI.tail B hk hi fun v rv => splicedK_nil ⟨⟨G, .refl _, I.sub⟩, ?_⟩)))
  refine norm1K (n := n) (hA.le (by omega)) (I.okE e) P (fss_ok B.ok hi) rv fun r s' G' hst rr => ?_
  replace I := I.calledE e.frame hst
  exact I.append (by omega) fun h' k' I => hQ _ _ _ _ hst.le rr I

theorem b1 {i : Nat} {t : Tok} {fss : List (List Fld)} {N V : Addr} {ns vs : List Value} {kN kV : Nat} {v : Value} (e : LEnv env L) (hA : AOk A [env] (n + 8)) (P : PG w G) (I : In [] [] s0 G0 G L m mu s) (hI : CellsIn L cv mu) (B : Base G cv fss) (hk : cv ("k" : Str) = some (.int i t)) (hi : i < fss.length)
    (hN : cv ("norms" : Str) = some (.ref N)) (hNo : (N, .ob (lstO ns kN)) ∈ mu) (hv : ns[i]? = some v) (rv : Rd G v (nmD fss i)) (hm : m ("versions" : Str) = some (.ref V)) (hV : G V = some (lstO vs kV)) (rV : RdL G vs (fss.map verD))
    (hQ : ∀ G' s', LeS G G' → In [] [] s0 G0 G' L m mu s' → Q .next s') : wpK (model prog w) A (exec (bS 1) env) Q (fun _ _ => False) s := by
  have hlen := B.len
  have hu := hA.units
  refine wpK_If (wpK_isTrue_Compare1 (wpK_of (ldNormO e I hI hN (I.mus _ hNo).1 hk (by omega) hv ?_)))
  obtain ⟨x, hx, rx⟩ := rV.get (map_at verD hi)
  refine callGlK e.toEnvOk I.sub P (by kernel_rfl) (f := 98) (by decide +kernel) P.fnormed rfl (splicedK_cons (wpK_of (Subscript_ (ldL e.toEnvOk I (by kernel_rfl) hm (ldCell e I hI (by kernel_rfl) rfl hk (itemL (I.sub _ _ hV) (by omega) hx ?_ rfl))))))
  refine splicedK_nil ⟨⟨G, .refl _, I.sub⟩, ?_⟩
  have hfs := fss_ok B.ok hi
  refine lawNormedK (n := n) (hA.le (by omega)) (I.okE e) P rx hfs.len (nrm_ok hfs) (norm_w hfs) fun r s' G' hst rr => ?_
  replace I := I.calledE e.frame hst
  exact wpK_of (neStr (rv.mono hst.le) rr (wpK_of (wpAny_truthy_bool (wpK_execs_nil (hQ _ _ hst.le I)))))
end
end Mine

end
section
open PySem PySem.W PyProof.Rows PySem.Calls PySem.NumText PySem.SeqAt
namespace Mine

theorem pk_last {α : Type} (l : List α) : pk none (some (-1)) l = l.dropLast := by
  unfold pk
  have : clipAt l.length (-1) = l.length - 1 := clipAt_neg l.length 1 (Nat.le_refl 1)
  simp only [Option.elim, List.drop_zero, Nat.sub_zero, this]
  rw [List.dropLast_eq_take]
theorem RdL.dropLast {G : Store} {vs : List Value} {ds : List Dat} (h : RdL G vs ds) : RdL G vs.dropLast ds.dropLast := by
  rw [List.dropLast_eq_take, List.dropLast_eq_take, h.length]; exact h.take _

section
variable {outer : List Env} {ex : List Addr} {s0 s s' : Shared} {G0 G G' : Store} {L : Addr} {m cv : Str → Option Value} {mu rest : List (Addr × It)} {prog : Program} {w : World} {A : Around} {env : Env} {n : Nat} {Q : Flow → Shared → Prop}

theorem In.calledEx {r : Addr} {o o' : Obj} (x : In outer ex s0 G0 G L m ((r, .ob o) :: mu) s) (hf : env.frame = some L) (y0 : Step (frs (env :: outer)) [r] G s G' s') (hr : s'.heap.get? r = some o') (hG : G' r = none) : In outer ex s0 G0 G' L m ((r, .ob o') :: mu) s' := by
  have efr : frs (env :: outer) = L :: frs outer := by simp [frs, hf]
  rw [efr] at y0
  have y := y0
  obtain ⟨a1, a2, a3, a4, a5⟩ := x.mus _ (.head _)
  have hnd := x.nd
  simp only [List.map_cons, List.nodup_cons] at hnd
  have g : ∀ a, G a = none → (s.heap.get? a).isSome = true → G' a = none := fun a h1 h2 => by
    cases q : G' a with
    | none => rfl
    | some o =>
      rcases y.new a o q with h | h
      · rw [h1] at h; cases h
      · rw [h] at h2; cases h2
  have mine : ∀ b o, b ≠ r → b ≠ L → b ∉ frs outer → s.heap.get? b = some o → s'.heap.get? b = some o := fun b o h0 h1 h2 e => (y.keep b o (by simpa using h0) e).1 (by simp [h1]; simpa using h2)
  refine x.turn y.le y.sub (fun a o e => (y.new a o e).imp_right (none_of (x.alive a))) ?_ (fun b h => y.alive b (x.alive b h)) y.os y.gens (ns_slots x.ns fun o e => (y.keep _ o (by simpa using (Ne.symm a3)) e).2) (g L x.gL (ns_some x.ns)) (fun p hp => ?_) (by simpa using hnd) fun b hb o e => ?_
  · intro b o hb e
    have hbr : b ≠ r := fun q => a5.elim (fun h => ne_of_some (by rw [e]; rfl) h q) fun h => hb (q ▸ h)
    obtain ⟨x1, sl, x2⟩ := x.keep b o hb e
    obtain ⟨_, sl', y2⟩ := y.keep b _ (by simpa using hbr) x2
    exact ⟨fun hf => mine b o hbr (x.old_ne e) hf (x1 hf), sl', y2⟩
  · rcases List.mem_cons.mp hp with rfl | hp
    · exact ⟨hr, hG, a3, a4, a5⟩
    · obtain ⟨h1, h2, h3, h4, h5⟩ := x.mus p (.tail _ hp)
      have hpr : p.1 ≠ r := fun q => hnd.1 (q ▸ List.mem_map_of_mem hp)
      exact ⟨h1.keep fun o e => mine _ o hpr h3 h4 e, g _ h2 h1.there, h3, h4, h5⟩
  · have hbr : b ≠ r := fun q => a4 (q ▸ hb)
    obtain ⟨sl, e'⟩ := (y.keep b o (by simpa using hbr) e).2
    exact ⟨_, e', rfl⟩
end

section
variable {s0 s : Shared} {G0 G : Store} {L : Addr} {m cv : Str → Option Value} {mu rest : List (Addr × It)} {prog : Program} {w : World} {A : Around} {env : Env} {n : Nat} {Q : Flow → Shared → Prop}

theorem b2 {i : Nat} {t : Tok} {fss : List (List Fld)} {V : Addr} {vs : List Value} {kV : Nat} (e : LEnv env L) (hh : A.handled = none) (I : In [] [] s0 G0 G L m mu s) (hI : CellsIn L cv mu) (B : Base G cv fss) (hk : cv ("k" : Str) = some (.int i t)) (hi : i < fss.length)
    (hm : m ("versions" : Str) = some (.ref V)) (hV : G V = some (lstO vs kV)) (rV : RdL G vs (fss.map verD))
    (hQ : ∀ W ws kw G' s', LeS G G' → G' W = some (lstO ws kw) → RdL G' ws (((fss.getD i []).map Fld.text).map Dat.str) → In [] [] s0 G0 G' L (upd m ("words" : Str) (.ref W)) mu s' → Q .next s') : wpK (model prog w) A (exec (bS 2) env) Q (fun _ _ => False) s := by
  have hlen := B.len
  have hfs := fss_ok B.ok hi
  obtain ⟨x, hx, rx⟩ := rV.get (map_at verD hi)
  cases rx with
  | list hF rF =>
  refine compA (outer := []) (s0 := s0) (G0 := G0) (L := L) e.toEnvOk (by kernel_rfl) (by rw [e.eta]; kernel_rfl) rfl (by decide) rfl (by decide +kernel) ?_
  refine wpK_of (Subscript_ (ldL e.toEnvOk I (by kernel_rfl) hm (ldCell e I hI (by kernel_rfl) rfl hk (itemL (I.sub _ _ hV) (by omega) hx ?_ rfl))))
  refine readyItem (f := fun f : Fld => .str f.text) hh rfl (by kernel_rfl) (by decide +kernel) (by decide) I hF rF (by have := hfs.len; omega) (fun a _ => ⟨_, rfl, rfl⟩) fun G2 hle2 D2 ys2 k2 s4 I rys2 => ?_
  have hl2 := Store.le_put (o := lstO ys2 k2) I.head_none
  refine hQ D2 ys2 k2 _ s4 (hle2.trans hl2) (Store.put_self _ _ _) ?_ I.frz
  rw [List.map_map]
  exact rys2.mono hl2

theorem b3 {i : Nat} {t : Tok} {fss : List (List Fld)} {N W : Addr} {ns ws : List Value} {kN kw : Nat} {v : Value} (e : LEnv env L) (hA : AOk A [env] (n + 8)) (P : PG w G) (I : In [] [] s0 G0 G L m mu s) (hI : CellsIn L cv mu) (B : Base G cv fss) (hk : cv ("k" : Str) = some (.int i t)) (hi : i < fss.length)
    (hN : cv ("norms" : Str) = some (.ref N)) (hNo : (N, .ob (lstO ns kN)) ∈ mu) (hv : ns[i]? = some v) (rv : Rd G v (nmD fss i)) (hm : m ("words" : Str) = some (.ref W)) (hW : G W = some (lstO ws kw)) (rW : RdL G ws (((fss.getD i []).map Fld.text).map Dat.str))
    (hQ : ∀ G' s', LeS G G' → In [] [] s0 G0 G' L m mu s' → Q .next s') : wpK (model prog w) A (exec (bS 3) env) Q (fun _ _ => False) s := by
  have hlen := B.len
  have hfs := fss_ok B.ok hi
  unfold nmD at rv
  generalize fss.getD i [] = fs at hfs rv rW
  have hwl : ws.length = fs.length := by rw [rW.length, List.length_map, List.length_map]
  have hl5 := hfs.len
  refine wpK_If (wpK_isTrue_And2 (wpK_of (wpAny_isTrue_Compare1 (callB1 e.toEnvOk I.sub P (by kernel_rfl) (id := "len") (by decide +kernel) (fun _ => rfl) (ldL e.toEnvOk I (by kernel_rfl) hm (len_list (isL (I.sub _ _ hW)) (by simp; omega) ?_))))))
  replace I := I.tok (s.toks + 1 + 1)
  refine cInt I fun t1 s1 I => PyProof.Rows.gt_int (wpAny_truthy_bool ?_)
  have hsz : (ws.toArray.size : Int) = (fs.length : Int) := by simp [hwl]
  rw [hsz]
  by_cases h2 : 2 ≤ fs.length
  · rw [if_pos (by simp; omega)]
    have hne : ws ≠ [] := by intro q; rw [q] at hwl; simp at hwl; omega
    have hlast : ws.getLast? = some (ws.getLast hne) := List.getLast?_eq_some_getLast hne
    obtain ⟨d, hd, rd⟩ := rW.at (k := ws.length - 1) (v := ws.getLast hne) (by rw [← List.getLast?_eq_getElem?]; exact hlast)
    have hd' : ((fs.map Fld.text).map Dat.str).getLast? = some d := by rw [List.getLast?_eq_getElem?, ← rW.length]; exact hd
    rw [List.getLast?_map, Option.map_eq_some_iff] at hd'
    obtain ⟨b, hb, rfl⟩ := hd'
    have hb8 := text_le hfs
    refine wpK_isTrue_Compare1 (callGlK e.toEnvOk I.sub P (by kernel_rfl) (f := 52) (by decide +kernel) P.fnorm rfl (splicedK_cons (wpK_of ?_)))
    apply callDot I
    case hfew => rfl
    case hline => rfl
    case slot => exact F.slot_str_join
    case hty => exact F.type_str_join
    intro t2 s2 I
    refine callWith_builtin rfl (evalArgs_plain (spliced_cons (sliceNN (ldL e.toEnvOk I (by kernel_rfl) hm (wpAny_pure (cNeg1 (k := 0) (p := ⟨112, 61, 112, 62⟩) (pos := ⟨112, 60, 112, 62⟩) I fun t3 s3 I => sliceTail I (I.sub _ _ hW) .none (.int (-1) t3) (by omega) fun R s4 I => spliced_nil ?_))))))
    rw [pk_last] at I
    refine joinS I I.head_at (xs := (fs.map Fld.text).dropLast) ?_ (by decide) (dotS_bound _ (fun x hx => hb8 x ((List.dropLast_sublist _).subset hx)) (by simp; omega)) fun t4 s5 I => ?_
    · have := rW.dropLast
      rw [← List.map_dropLast] at this
      exact this
    replace I := I.drop (mu' := mu) (.cons _ (.refl _))
    refine splicedK_cons (wpK_of (Subscript_ (ldL e.toEnvOk I (by kernel_rfl) hm (cNeg1 I fun t5 s6 I => itemNeg (I.sub _ _ hW) hlast (splicedK_nil ⟨⟨G, .refl _, I.sub⟩, ?_⟩)))))
    refine norm2K (n := n) (hA.le (by omega)) (I.okE e) P hfs h2 (.str _ _) hb rd fun r s7 G' hst rr => ?_
    replace I := I.calledE e.frame hst
    exact wpK_of (ldNormO e I hI hN (I.mus _ hNo).1 hk (by omega) hv (wpK_of (neStr rr (rv.mono hst.le) (wpK_of (wpAny_truthy_bool (wpK_execs_nil (hQ _ _ hst.le I)))))))
  · rw [if_neg (by simp; omega)]
    exact wpK_execs_nil (hQ _ _ (.refl _) I)

theorem keyD_lt {fss : List (List Fld)} (hf : ∀ fs ∈ fss, FsOk fs) (i j : Nat) : ltD (flD fss i) (flD fss j) = some (ltN (keyOf fss i) (keyOf fss j)) := by
  unfold flD; rw [ltD]; exact lt_flat _ _ (keyOf_low hf i) (keyOf_low hf j)
theorem key_at {prog : Program} {w : World} {fss : List (List Fld)} (hf : ∀ fs ∈ fss, FsOk fs) {i : Nat} (hi : i < fss.length) : KeyK prog w (txD fss i) (flD fss i) := key_text (fss_ok hf hi)
theorem map_get {α : Type} {S : List Nat} {f : Nat → α} {j : Nat} {d : α} (h : (S.map f)[j]? = some d) : j < S.length ∧ d = f (S.getD j 0) := by
  rw [List.getElem?_map, Option.map_eq_some_iff] at h
  obtain ⟨x, hx, rfl⟩ := h
  exact ⟨(List.getElem?_eq_some_iff.mp hx).1, by rw [List.getD_eq_getElem?_getD, hx]; rfl⟩
theorem map_ins {α : Type} {S : List Nat} (f : Nat → α) (p i : Nat) : (S.take p ++ i :: S.drop p).map f = (S.map f).take p ++ f i :: (S.map f).drop p := by simp [List.map_take, List.map_drop]
theorem RdL.ins {vs : List Value} {ds : List Dat} {v : Value} {d : Dat} (h : RdL G vs ds) (r : Rd G v d) (p : Nat) : RdL G (vs.take p ++ v :: vs.drop p) (ds.take p ++ d :: ds.drop p) := (h.take p).append (.cons r (h.drop p))

theorem b4 {i : Nat} {t : Tok} {fss : List (List Fld)} {S : Addr} {ss : List Value} {kS : Nat} {Sx : List Nat} (e : LEnv env L) (hA : AOk A [env] (n + 8)) (P : PG w G) (I : In [] [] s0 G0 G L m (obL S ss kS :: mu) s) (hI : CellsIn L cv mu) (B : Base G cv fss) (hk : cv ("k" : Str) = some (.int i t)) (hi : i < fss.length)
    (hS : cv ("shelf" : Str) = some (.ref S)) (hSx : SInv (keyOf fss) i Sx) (rS : RdL G ss (Sx.map (txD fss)))
    (hQ : ∀ G' s' ss' k' Sx', LeS G G' → SInv (keyOf fss) (i + 1) Sx' → RdL G' ss' (Sx'.map (txD fss)) → In [] [] s0 G0 G' L m (obL S ss' k' :: mu) s' → Q .next s') : wpK (model prog w) A (exec (bS 4) env) Q (fun _ _ => False) s := by
  have hlen := B.len
  have hSl := hSx.length
  have hlt : ∀ j, j < Sx.length → Sx.getD j 0 < fss.length := fun j hj => by
    rw [mget hj]
    have := hSx.perm.mem_iff.mp (List.getElem_mem hj)
    simp at this; omega
  refine wpK_If (wpK_isTrue_Compare1 ?_)
  refine callGlKwK e.toEnvOk I.sub P (by kernel_rfl) (f := 61) (by decide +kernel) P.fins rfl rfl ?_
  refine splicedK_cons (wpK_of (ldCell e I hI.tail (by kernel_rfl) rfl hS (splicedK_cons (wpK_of (ldText e I hI.tail B hk hi fun v rv => splicedK_nil ?_)))))
  refine wpK_of (wpAny_evalAll_cons (wpAny_bind (ldGl e.toEnvOk I.sub P (by kernel_rfl) (v := .ref 44) (by decide +kernel) (wpAny_bind (wpAny_standAt (wpAny_pure (wpAny_evalAll_nil ?_)))))))
  refine ⟨⟨G, .refl _, I.sub⟩, ?_⟩
  have hSm := I.mus _ (.head _)
  have efr : frs (env :: ([] : List Env)) = [L] := by simp [frs, e.frame]
  refine insK (n := n) (fun j => !decide (j < Sx.length) || ltN (keyOf fss i) (keyOf fss (Sx.getD j 0))) (hA.le (by omega)) (I.okE e) P I.head_at (by rw [efr]; simp; exact hSm.2.2.1) I.head_none rS rv (key_at B.ok hi) (flatD_ok (keyOf_low B.ok i) 7) ?_ ?_ (by rw [List.length_map]; omega) ?_
  · intro j d hd
    obtain ⟨hj, rfl⟩ := map_get hd
    refine ⟨flD fss (Sx.getD j 0), key_at B.ok (hlt j hj), flatD_ok (keyOf_low B.ok _) 7, ?_⟩
    rw [keyD_lt B.ok]
    simp [hj]
  · intro a b hab ha
    by_cases hb : b < Sx.length
    · have ha' : a < Sx.length := by omega
      simp only [ha', decide_true, Bool.not_true, Bool.false_or] at ha
      simp only [hb, decide_true, Bool.not_true, Bool.false_or]
      exact hSx.mono hab hb ha
    · simp [hb]
  · intro p s' G' hp h1 h2 hst hr hG
    rw [List.length_map] at hp h2
    have I2 := I.calledEx e.frame hst hr hG
    refine wpK_of (wpAny_Constant_none (wpK_of (isnot_none_none (wpK_of (wpAny_truthy_bool (wpK_execs_nil ?_))))))
    refine hQ G' s' _ _ (Sx.take p ++ i :: Sx.drop p) hst.le (hSx.step hp (fun j hj => ?_) fun j hj1 hj2 => ?_) ?_ I2
    · have := h1 j hj
      have hj' : j < Sx.length := by omega
      simpa only [hj', decide_true, Bool.not_true, Bool.false_or] using this
    · have := h2 j hj1 hj2
      simpa only [hj2, decide_true, Bool.not_true, Bool.false_or] using this
    · rw [map_ins]
      exact (rS.mono hst.le).ins (rv.mono hst.le) p

theorem b5 {i : Nat} {t : Tok} {fss : List (List Fld)} {N : Addr} {ns : List Value} {kN : Nat} {v : Value} (e : LEnv env L) (hA : AOk A [env] (n + 8)) (P : PG w G) (I : In [] [] s0 G0 G L m mu s) (hI : CellsIn L cv mu) (B : Base G cv fss) (hk : cv ("k" : Str) = some (.int i t)) (hi : i < fss.length)
    (hN : cv ("norms" : Str) = some (.ref N)) (hNo : (N, .ob (lstO ns kN)) ∈ mu) (hv : ns[i]? = some v) (rv : Rd G v (nmD fss i))
    (hQ : ∀ G' r s', LeS G G' → Rd G' r (hdD fss i) → In [] [] s0 G0 G' L (upd m ("told" : Str) r) mu s' → Q .next s') : wpK (model prog w) A (exec (bS 5) env) Q (fun _ _ => False) s := by
  have hlen := B.len
  refine wpK_Assign_Name (callGlK e.toEnvOk I.sub P (by kernel_rfl) (f := 44) (by decide +kernel) P.fcmp rfl (splicedK_cons (wpK_of (ldNormO e I hI hN (I.mus _ hNo).1 hk (by omega) hv (splicedK_nil ⟨⟨G, .refl _, I.sub⟩, ?_⟩)))))
  refine key_nrm (fss_ok B.ok hi) A [env] n G _ v _ _ (hA.le (by omega)) (I.okE e) P rv fun r s' G' hst rr => ?_
  replace I := I.calledE e.frame hst
  exact wpK_of (stLs e.toEnvOk I (by kernel_rfl) fun s'' I => hQ _ _ _ hst.le rr I)
end
end Mine

end
section
open PySem PySem.W PyProof.Rows PySem.Calls PySem.NumText PySem.SeqAt
namespace Mine

theorem hdD_low {fss : List (List Fld)} (hf : ∀ fs ∈ fss, FsOk fs) (i : Nat) : Low (hd3 (keyOf fss) i) := low_take (keyOf_low hf i) 3
theorem hdD_ok {fss : List (List Fld)} (hf : ∀ fs ∈ fss, FsOk fs) (i n : Nat) : kqdOk (n + 1) (hdD fss i) = true := flatD_ok (hdD_low hf i) n
theorem hdD_lt {fss : List (List Fld)} (hf : ∀ fs ∈ fss, FsOk fs) (i j : Nat) : ltD (hdD fss i) (hdD fss j) = some (ltN (hd3 (keyOf fss) i) (hd3 (keyOf fss) j)) := by
  unfold hdD; rw [ltD]; exact lt_flat _ _ (hdD_low hf i) (hdD_low hf j)

section
variable {s0 s : Shared} {G0 G : Store} {L : Addr} {m cv : Str → Option Value} {mu rest : List (Addr × It)} {prog : Program} {w : World} {A : Around} {env : Env} {n : Nat}

theorem mu_frs (e : LEnv env L) {M : Addr} {i : It} (I : In [] [] s0 G0 G L m mu s) (h : (M, i) ∈ mu) : M ∉ frs (env :: ([] : List Env)) := by
  have efr : frs (env :: ([] : List Env)) = [L] := by simp [frs, e.frame]
  rw [efr]; simp; exact (I.mus _ h).2.2.1

/-- bisect_left(marks, told), the marks still growing -/
theorem blMarks {i : Nat} {fss : List (List Fld)} {M : Addr} {ms : List Value} {kM : Nat} {r : Value} {Mx : List Nat} {j : Nat} {Q : Value → Shared → Prop} {E : Value → Shared → Prop} (e : LEnv env L) (hA : AOk A [env] (n + 8)) (P : PG w G) (I : In [] [] s0 G0 G L m mu s) (hf : ∀ fs ∈ fss, FsOk fs) (hM : (M, .ob (lstO ms kM)) ∈ mu)
    (hMx : MInv (keyOf fss) j Mx) (rM : RdL G ms (Mx.map (hdD fss))) (hml : Mx.length < 2 ^ 10) (rr : Rd G r (hdD fss i))
    (hQ : ∀ p t' G' s', p ≤ Mx.length → (∀ j, j < p → ltN (hd3 (keyOf fss) (Mx.getD j 0)) (hd3 (keyOf fss) i) = true) → (∀ j, p ≤ j → j < Mx.length → ltN (hd3 (keyOf fss) (Mx.getD j 0)) (hd3 (keyOf fss) i) = false) → LeS G G' → In [] [] s0 G0 G' L m mu s' → Q (.int p t') s') :
    wpAny (model prog w) A (call (.ref 79) [.ref M, r]) Q E s := by
  refine bl_spec (n := n) (fun j => decide (j < Mx.length) && ltN (hd3 (keyOf fss) (Mx.getD j 0)) (hd3 (keyOf fss) i)) (hA.le (by omega)) (I.okE e) P (I.mus _ hM).1 (mu_frs e I hM) rM rr ?_ (hdD_ok hf i 7) ?_ ?_ (by rw [List.length_map]; omega) ?_
  · intro d hd
    obtain ⟨a, _, rfl⟩ := List.mem_map.mp hd
    exact hdD_ok hf a 7
  · intro j d hd
    obtain ⟨hj, rfl⟩ := map_get hd
    rw [hdD_lt hf]; simp [hj]
  · intro a b hab hb
    simp only [Bool.and_eq_true, decide_eq_true_eq] at hb ⊢
    exact ⟨by omega, hMx.monoL hab hb.1 hb.2⟩
  · intro p t' s' G' hp h1 h2 hst
    rw [List.length_map] at hp h2
    refine hQ p t' G' s' hp (fun j hj => ?_) (fun j hj1 hj2 => ?_) hst.le (I.calledE e.frame hst)
    · have := h1 j hj
      simp only [Bool.and_eq_true, decide_eq_true_eq] at this
      exact this.2
    · have := h2 j hj1 hj2
      simpa only [hj2, decide_true, Bool.true_and] using this
theorem brMarks {i : Nat} {fss : List (List Fld)} {M : Addr} {ms : List Value} {kM : Nat} {r : Value} {Mx : List Nat} {j : Nat} {Q : Value → Shared → Prop} {E : Value → Shared → Prop} (e : LEnv env L) (hA : AOk A [env] (n + 8)) (P : PG w G) (I : In [] [] s0 G0 G L m mu s) (hf : ∀ fs ∈ fss, FsOk fs) (hM : (M, .ob (lstO ms kM)) ∈ mu)
    (hMx : MInv (keyOf fss) j Mx) (rM : RdL G ms (Mx.map (hdD fss))) (hml : Mx.length < 2 ^ 10) (rr : Rd G r (hdD fss i))
    (hQ : ∀ p t' G' s', p ≤ Mx.length → (∀ j, j < p → ltN (hd3 (keyOf fss) i) (hd3 (keyOf fss) (Mx.getD j 0)) = false) → (∀ j, p ≤ j → j < Mx.length → ltN (hd3 (keyOf fss) i) (hd3 (keyOf fss) (Mx.getD j 0)) = true) → LeS G G' → In [] [] s0 G0 G' L m mu s' → Q (.int p t') s') :
    wpAny (model prog w) A (call (.ref 70) [.ref M, r]) Q E s := by
  refine br_spec (n := n) (fun j => !decide (j < Mx.length) || ltN (hd3 (keyOf fss) i) (hd3 (keyOf fss) (Mx.getD j 0))) (hA.le (by omega)) (I.okE e) P (I.mus _ hM).1 (mu_frs e I hM) rM rr ?_ (hdD_ok hf i 7) ?_ ?_ (by rw [List.length_map]; omega) ?_
  · intro d hd
    obtain ⟨a, _, rfl⟩ := List.mem_map.mp hd
    exact hdD_ok hf a 7
  · intro j d hd
    obtain ⟨hj, rfl⟩ := map_get hd
    rw [hdD_lt hf]; simp [hj]
  · intro a b hab ha
    by_cases hb : b < Mx.length
    · have ha' : a < Mx.length := by omega
      simp only [ha', decide_true, Bool.not_true, Bool.false_or] at ha
      simp only [hb, decide_true, Bool.not_true, Bool.false_or]
      exact hMx.monoR hab hb ha
    · simp [hb]
  · intro p t' s' G' hp h1 h2 hst
    rw [List.length_map] at hp h2
    refine hQ p t' G' s' hp (fun j hj => ?_) (fun j hj1 hj2 => ?_) hst.le (I.calledE e.frame hst)
    · have := h1 j hj
      have hj' : j < Mx.length := by omega
      simpa only [hj', decide_true, Bool.not_true, Bool.false_or] using this
    · have := h2 j hj1 hj2
      simpa only [hj2, decide_true, Bool.not_true, Bool.false_or] using this
end

section
variable {s0 s : Shared} {G0 G : Store} {L : Addr} {m cv : Str → Option Value} {mu rest : List (Addr × It)} {prog : Program} {w : World} {A : Around} {env : Env} {n : Nat} {Q : Flow → Shared → Prop}

theorem b6 {i : Nat} {fss : List (List Fld)} {M : Addr} {ms : List Value} {kM : Nat} {r : Value} {Mx : List Nat} {j : Nat} (e : LEnv env L) (hA : AOk A [env] (n + 8)) (P : PG w G) (I : In [] [] s0 G0 G L m mu s) (hf : ∀ fs ∈ fss, FsOk fs) (hM : (M, .ob (lstO ms kM)) ∈ mu) (mM : m ("marks" : Str) = some (.ref M)) (mT : m ("told" : Str) = some r)
    (hMx : MInv (keyOf fss) j Mx) (rM : RdL G ms (Mx.map (hdD fss))) (hml : Mx.length < 2 ^ 10) (rr : Rd G r (hdD fss i))
    (hQ : ∀ (p : Nat) t' G' s', p ≤ Mx.length → (∀ j, j < p → ltN (hd3 (keyOf fss) (Mx.getD j 0)) (hd3 (keyOf fss) i) = true) → (∀ j, p ≤ j → j < Mx.length → ltN (hd3 (keyOf fss) (Mx.getD j 0)) (hd3 (keyOf fss) i) = false) → LeS G G' → In [] [] s0 G0 G' L (upd m ("place" : Str) (.int p t')) mu s' → Q .next s') :
    wpK (model prog w) A (exec (bS 6) env) Q (fun _ _ => False) s := by
  refine wpK_Assign_Name (callGlK e.toEnvOk I.sub P (by kernel_rfl) (f := 79) (by decide +kernel) P.fbl rfl (splicedK_cons (wpK_of (ldL e.toEnvOk I (by kernel_rfl) mM (splicedK_cons (wpK_of (ldL e.toEnvOk I (by kernel_rfl) mT (splicedK_nil ⟨⟨G, .refl _, I.sub⟩, ?_⟩))))))))
  refine wpK_of (blMarks e hA P I hf hM hMx rM hml rr fun p t' G' s' hp h1 h2 hle I => ?_)
  exact wpK_of (stLs e.toEnvOk I (by kernel_rfl) fun s'' I => hQ p t' G' s'' hp h1 h2 hle I)

/-- r.insert(e, e2) -/
theorem insertS {o e1 e2 : Expr} {apos pos spos : Pos} {E : Value → Shared → Prop} (hi : interactive env = false) (hline : (apos.endLine == pos.line) = true)
    (hbase : attributeBase o ("insert" : Str) env (eval o env) = eval o env) (hst : backTo pos (starEach [e1, e2] env) = [(false, eval e1 env), (false, eval e2 env)])
    (h : wpAny (model prog w) A (eval o env) (fun ov s₁ => ∃ r vs k, ov = .ref r ∧ s₁.heap.get? r = some (lstO vs k) ∧
      wpAny (model prog w) A (eval e1 env) (fun v s₂ => wpAny (model prog w) A (eval e2 env) (fun u s₃ => wpAny (model prog w) A (call (.builtin "list.insert") [.ref r, v, u]) (fun _ => Q .next) E s₃) E s₂) E s₁) E s) :
    wpAny (model prog w) A (exec (.Expr (.Call (.Attribute o ("insert" : Str) apos) [e1, e2] [] pos) spos) env) Q E s := by
  refine wpAny_Expr_any ?_ hi
  refine wpAny_Call_method hbase ?_ hline F.plainAttrs_list F.slot_list_insert (by kernel_rfl) (wpAny_mono h (fun ov s₁ h₁ => ?_) fun _ _ y => y)
  · rw [hst]; rfl
  obtain ⟨r, vs, k, rfl, hr, h₁⟩ := h₁
  refine ⟨⟨_, hr, rfl⟩, fun a ha => ?_, ?_⟩
  · cases ha; exact ⟨_, hr, rfl⟩
  rw [hst]
  exact callWith_builtin rfl (evalArgs_plain (spliced_cons (wpAny_mono h₁ (fun v s₂ h₂ => spliced_cons (wpAny_mono h₂ (fun u s₃ h₃ => spliced_nil h₃) fun _ _ y => y)) fun _ _ y => y)))

theorem b7 {i : Nat} {t tp : Tok} {fss : List (List Fld)} {N M D : Addr} {ns ms ds : List Value} {kN kM kD : Nat} {v r : Value} {Mx : List Nat} {p : Nat} (e : LEnv env L) (hA : AOk A [env] (n + 8)) (P : PG w G) (I : In [] [] s0 G0 G L m (obL M ms kM :: obL D ds kD :: mu) s) (hI : CellsIn L cv mu) (B : Base G cv fss) (hk : cv ("k" : Str) = some (.int i t)) (hi : i < fss.length)
    (hN : cv ("norms" : Str) = some (.ref N)) (hNo : (N, .ob (lstO ns kN)) ∈ mu) (hv : ns[i]? = some v) (rv : Rd G v (nmD fss i)) (mM : m ("marks" : Str) = some (.ref M)) (mD : m ("dividers" : Str) = some (.ref D)) (mT : m ("told" : Str) = some r) (mP : m ("place" : Str) = some (.int p tp))
    (hMx : MInv (keyOf fss) i Mx) (rM : RdL G ms (Mx.map (hdD fss))) (rD : RdL G ds (Mx.map (nmD fss))) (hml : Mx.length < 2 ^ 10) (rr : Rd G r (hdD fss i))
    (hp : p ≤ Mx.length) (p1 : ∀ j, j < p → ltN (hd3 (keyOf fss) (Mx.getD j 0)) (hd3 (keyOf fss) i) = true) (p2 : ∀ j, p ≤ j → j < Mx.length → ltN (hd3 (keyOf fss) (Mx.getD j 0)) (hd3 (keyOf fss) i) = false)
    (hQ : ∀ G' s' ms' ds' kM' kD' Mx', LeS G G' → MInv (keyOf fss) (i + 1) Mx' → Mx'.length ≤ Mx.length + 1 → RdL G' ms' (Mx'.map (hdD fss)) → RdL G' ds' (Mx'.map (nmD fss)) → In [] [] s0 G0 G' L m (obL M ms' kM' :: obL D ds' kD' :: mu) s' → Q .next s') :
    wpK (model prog w) A (exec (bS 7) env) Q (fun _ _ => False) s := by
  have hlen := B.len
  have hmsl : ms.length = Mx.length := by rw [rM.length, List.length_map]
  have hdsl : ds.length = Mx.length := by rw [rD.length, List.length_map]
  refine wpK_of (wpAny_If (wpAny_isTrue_Compare1 (ldL e.toEnvOk I (by kernel_rfl) mP ?_)))
  refine callGl e.toEnvOk I.sub P (by kernel_rfl) (f := 70) (by decide +kernel) P.fbr rfl (spliced_cons (ldL e.toEnvOk I (by kernel_rfl) mM (spliced_cons (ldL e.toEnvOk I (by kernel_rfl) mT (spliced_nil ⟨⟨G, .refl _, I.sub⟩, ?_⟩)))))
  refine brMarks e hA P I B.ok (.head _) hMx rM hml rr fun q t' G' s' hq q1 q2 hle I => ?_
  refine PyProof.Rows.eq_int (wpAny_truthy_bool ?_)
  by_cases hpq : p = q
  · subst hpq
    rw [if_pos (by simp)]
    refine wpAny_execs_cons (insertS e.quiet rfl rfl rfl (ldL e.toEnvOk I (by kernel_rfl) mM ⟨M, ms, kM, rfl, I.head_at, ldL e.toEnvOk I (by kernel_rfl) mP (ldL e.toEnvOk I (by kernel_rfl) mT ?_)⟩))
    refine I.insert (by omega) (by omega) fun h' I => ?_
    replace I := I.swap
    refine wpAny_execs_cons (insertS e.quiet rfl rfl rfl (ldL e.toEnvOk I (by kernel_rfl) mD ⟨D, ds, kD, rfl, I.head_at, ldL e.toEnvOk I (by kernel_rfl) mP ?_⟩))
    refine ldNormO e I hI.tail.tail hN (I.mus _ (.tail _ (.tail _ hNo))).1 hk (by omega) hv ?_
    refine I.insert (by omega) (by omega) fun h' I => wpAny_execs_nil ?_
    refine hQ G' _ _ _ _ _ (Mx.take p ++ i :: Mx.drop p) hle (hMx.add hp p1 q2) (by simp; omega) ?_ ?_ I.swap
    · rw [map_ins]; exact (rM.mono hle).ins (rr.mono hle) p
    · rw [map_ins]; exact (rD.mono hle).ins (rv.mono hle) p
  · rw [if_neg (by simp; omega)]
    exact wpAny_execs_nil (hQ G' _ _ _ _ _ Mx hle (hMx.stay hp hq hpq p1 p2 q1 q2) (by omega) (rM.mono hle) (rD.mono hle) I)
end
end Mine

end
section
open PySem PySem.W PyProof.Rows PySem.Calls PySem.NumText PySem.SeqAt
namespace Mine

section
variable {s0 s : Shared} {G0 G : Store} {L : Addr} {m cv : Str → Option Value} {mu rest : List (Addr × It)} {prog : Program} {w : World} {A : Around} {env : Env} {n : Nat}

theorem stCell' {x : Str} {v : Value} {pre : List (Addr × It)} {Q : Unit → Shared → Prop} (e : LEnv env L) (I : In [] [] s0 G0 G L m (pre ++ cellsMu L cv) s) (hk : lawSc.names.lookup x = some .cell) (hc : ((lawCs L).lookup x).isSome = true)
    (h : ∀ s', In [] [] s0 G0 G L m (pre ++ cellsMu L (upd cv x v)) s' → Q () s') : wpAny (model prog w) A (storeName env x v) Q (fun _ _ => False) s := by
  have I' : In [] [] s0 G0 G L m (pre ++ (cellsMu L cv ++ [])) s := by rw [List.append_nil]; exact I
  exact stCell e I' hk hc fun s' I2 => h s' (by rw [List.append_nil] at I2; exact I2)
end

/-- the names that the first loop writes -/
def isTemp (x : Str) : Bool := x == ("words" : Str) || x == ("told" : Str) || x == ("place" : Str)
def SameM (m m' : Str → Option Value) : Prop := ∀ x, isTemp x = false → m' x = m x
theorem SameM.upd {m m' : Str → Option Value} (h : SameM m m') {x : Str} {v : Value} (hx : isTemp x = true) : SameM m (upd m' x v) := fun y hy => by
  have : y ≠ x := fun q => by rw [q, hx] at hy; cases hy
  rw [upd_ne this]; exact h y hy
def SameC (cv cv' : Str → Option Value) : Prop := ∀ x, x ≠ ("k" : Str) → cv' x = cv x
theorem SameC.upd {cv cv' : Str → Option Value} (h : SameC cv cv') {v : Value} : SameC cv (upd cv' ("k" : Str) v) := fun y hy => by rw [upd_ne hy]; exact h y hy
theorem SameC.trans {a b c : Str → Option Value} (h : SameC a b) (h' : SameC b c) : SameC a c := fun x hx => (h' x hx).trans (h x hx)
theorem SameM.trans {a b c : Str → Option Value} (h : SameM a b) (h' : SameM b c) : SameM a c := fun x hx => (h' x hx).trans (h x hx)
theorem Base.same {G : Store} {cv cv' : Str → Option Value} {fss : List (List Fld)} (b : Base G cv fss) (h : SameC cv cv') : Base G cv' fss := by
  obtain ⟨T, ts, k, h1, h2, h3⟩ := b.texts
  exact ⟨b.ok, b.len, T, ts, k, by rw [h _ (by decide +kernel)]; exact h1, h2, h3⟩

/-- the first loop's state -/
def LK (L : Addr) (m0 cv0 : Str → Option Value) (fss : List (List Fld)) (N M D S : Addr) (i : Nat) (ov : Option Value) (G : Store) (m : Str → Option Value) (mu : List (Addr × It)) : Prop :=
  ∃ cv ns ms ds ss kN kM kD kS Sx Mx, mu = obL N ns kN :: obL M ms kM :: obL D ds kD :: obL S ss kS :: cellsMu L cv ∧ SameM m0 m ∧ SameC cv0 cv ∧ (∀ v, ov = some v → cv ("k" : Str) = some v) ∧
    SInv (keyOf fss) i Sx ∧ MInv (keyOf fss) i Mx ∧ Mx.length ≤ i ∧ RdL G ns ((List.range i).map (nmD fss)) ∧ RdL G ms (Mx.map (hdD fss)) ∧ RdL G ds (Mx.map (nmD fss)) ∧ RdL G ss (Sx.map (txD fss))

section
variable {s0 s : Shared} {G0 G : Store} {L : Addr} {m cv : Str → Option Value} {mu rest : List (Addr × It)} {prog : Program} {w : World} {A : Around} {env : Env} {n : Nat} {Q : Flow → Shared → Prop}

theorem law5_body {fss : List (List Fld)} {N M D S V J : Addr} {vs : List Value} {kV : Nat} {m0 cv0 : Str → Option Value} {i : Nat} {t : Tok} {it : It} (e : LEnv env L) (hA : AOk A [env] (n + 8)) (P : PG w G) (B : Base G cv0 fss) (hi : i < fss.length)
    (mV : m0 ("versions" : Str) = some (.ref V)) (mM : m0 ("marks" : Str) = some (.ref M)) (mD : m0 ("dividers" : Str) = some (.ref D)) (cN : cv0 ("norms" : Str) = some (.ref N)) (cS : cv0 ("shelf" : Str) = some (.ref S))
    (hV : G V = some (lstO vs kV)) (rV : RdL G vs (fss.map verD)) (K : LK L m0 cv0 fss N M D S i (some (.int i t)) G m mu) (I : In [] [] s0 G0 G L m ((J, it) :: mu) s) :
    wpK (model prog w) A (execs (forBody (lawS 5)) env) (fun f s' => f = .next ∧ ∃ G'' m'' mu'', LeS G G'' ∧ LK L m0 cv0 fss N M D S (i + 1) none G'' m'' mu'' ∧ In [] [] s0 G0 G'' L m'' ((J, it) :: mu'') s') (fun _ _ => False) s := by
  obtain ⟨cv, ns, ms, ds, ss, kN, kM, kD, kS, Sx, Mx, rfl, hm, hcv, hk, hSx, hMx, hml, rN, rM, rD, rS⟩ := K
  replace hk := hk _ rfl
  have hh := hA.handled
  have Bc := B.same hcv
  have cN' : cv ("norms" : Str) = some (.ref N) := by rw [hcv _ (by decide +kernel)]; exact cN
  have cS' : cv ("shelf" : Str) = some (.ref S) := by rw [hcv _ (by decide +kernel)]; exact cS
  have hnl : ns.length = i := by rw [rN.length]; simp
  have hlen := B.len
  show wpK _ A (execs [bS 0, bS 1, bS 2, bS 3, bS 4, bS 5, bS 6, bS 7] env) _ _ s
  replace I := I.swap
  refine wpK_execs_cons (b0 e hA P I (fun p hp => .tail _ (.tail _ (.tail _ (.tail _ hp)))) Bc hk hi cN' (by omega) fun v kN G1 s1 hle1 rv I => ?_)
  have P1 := P.mono hle1
  have B1 := Bc.mono hle1
  have hv : (ns ++ [v])[i]? = some v := by rw [List.getElem?_append_right (by omega), hnl]; simp
  have mV1 : m ("versions" : Str) = some (.ref V) := by rw [hm _ (by decide +kernel)]; exact mV
  have hI : CellsIn L cv (obL N (ns ++ [v]) kN :: (J, it) :: obL M ms kM :: obL D ds kD :: obL S ss kS :: cellsMu L cv) := fun p hp => .tail _ (.tail _ (.tail _ (.tail _ (.tail _ hp))))
  refine wpK_execs_cons (b1 e hA P1 I hI B1 hk hi cN' (.head _) hv rv mV1 (hle1 _ _ hV) (rV.mono hle1) fun G2 s2 hle2 I => ?_)
  have hle2' := hle1.trans hle2
  refine wpK_execs_cons (b2 e hh I hI (Bc.mono hle2') hk hi mV1 (hle2' _ _ hV) (rV.mono hle2') fun W ws kw G3 s3 hle3 hW rW I => ?_)
  have hle3' := hle2'.trans hle3
  refine wpK_execs_cons (b3 e hA (P.mono hle3') I hI (Bc.mono hle3') hk hi cN' (.head _) hv (rv.mono (hle2.trans hle3)) upd_same hW rW fun G4 s4 hle4 I => ?_)
  have hle4' := hle3'.trans hle4
  have hm4 : SameM m0 (upd m ("words" : Str) (.ref W)) := hm.upd (by decide +kernel)
  generalize upd m ("words" : Str) (.ref W) = m4 at I hm4
  replace I := I.perm (mu' := obL S ss kS :: obL N (ns ++ [v]) kN :: (J, it) :: obL M ms kM :: obL D ds kD :: cellsMu L cv) (List.perm_middle (l₁ := [obL N (ns ++ [v]) kN, (J, it), obL M ms kM, obL D ds kD]) (a := obL S ss kS) (l₂ := cellsMu L cv)).symm
  refine wpK_execs_cons (b4 e hA (P.mono hle4') I (fun p hp => .tail _ (.tail _ (.tail _ (.tail _ hp)))) (Bc.mono hle4') hk hi cS' hSx (rS.mono hle4') fun G5 s5 ss' kS' Sx' hle5 hSx' rS' I => ?_)
  have hle5' := hle4'.trans hle5
  have rv5 := rv.mono (hle2.trans (hle3.trans (hle4.trans hle5)))
  refine wpK_execs_cons (b5 e hA (P.mono hle5') I (fun p hp => .tail _ (.tail _ (.tail _ (.tail _ (.tail _ hp))))) (Bc.mono hle5') hk hi cN' (.tail _ (.head _)) hv rv5 fun G6 r s6 hle6 rr I => ?_)
  have hle6' := hle5'.trans hle6
  have hm6 : SameM m0 (upd m4 ("told" : Str) r) := hm4.upd (by decide +kernel)
  have mT6 : upd m4 ("told" : Str) r ("told" : Str) = some r := upd_same
  generalize upd m4 ("told" : Str) r = m6 at I hm6 mT6
  replace I := I.perm (mu' := obL M ms kM :: obL D ds kD :: obL S ss' kS' :: obL N (ns ++ [v]) kN :: (J, it) :: cellsMu L cv) (List.perm_append_comm_assoc [obL M ms kM, obL D ds kD] [obL S ss' kS', obL N (ns ++ [v]) kN, (J, it)] (cellsMu L cv))
  have mM6 : m6 ("marks" : Str) = some (.ref M) := by rw [hm6 _ (by decide +kernel)]; exact mM
  refine wpK_execs_cons (b6 e hA (P.mono hle6') I B.ok (.head _) mM6 mT6 hMx (rM.mono hle6') (by omega) rr fun p tp G7 s7 hp p1 p2 hle7 I => ?_)
  have hle7' := hle6'.trans hle7
  have hm7 : SameM m0 (upd m6 ("place" : Str) (.int p tp)) := hm6.upd (by decide +kernel)
  have mT7 : upd m6 ("place" : Str) (.int p tp) ("told" : Str) = some r := upd_to (by decide +kernel) mT6
  have mP7 : upd m6 ("place" : Str) (.int p tp) ("place" : Str) = some (.int p tp) := upd_same
  generalize upd m6 ("place" : Str) (.int p tp) = m7 at I hm7 mT7 mP7
  have mM7 : m7 ("marks" : Str) = some (.ref M) := by rw [hm7 _ (by decide +kernel)]; exact mM
  have mD7 : m7 ("dividers" : Str) = some (.ref D) := by rw [hm7 _ (by decide +kernel)]; exact mD
  have rv7 := rv5.mono (hle6.trans hle7)
  refine wpK_execs_cons (b7 e hA (P.mono hle7') I (fun p hp => .tail _ (.tail _ (.tail _ hp))) (Bc.mono hle7') hk hi cN' (.tail _ (.head _)) hv rv7 mM7 mD7 mT7 mP7 hMx (rM.mono hle7') (rD.mono hle7') (by omega) (rr.mono hle7) hp p1 p2 fun G8 s8 ms' ds' kM' kD' Mx' hle8 hMx' hml' rM' rD' I => wpK_execs_nil ?_)
  have hle8' := hle7'.trans hle8
  have I1 := I.perm (mu' := (J, it) :: obL M ms' kM' :: obL D ds' kD' :: obL S ss' kS' :: obL N (ns ++ [v]) kN :: cellsMu L cv) (List.perm_middle (l₁ := [obL M ms' kM', obL D ds' kD', obL S ss' kS', obL N (ns ++ [v]) kN]) (a := (J, it)) (l₂ := cellsMu L cv)).symm
  have I2 := I1.perm (mu' := (J, it) :: obL N (ns ++ [v]) kN :: obL M ms' kM' :: obL D ds' kD' :: obL S ss' kS' :: cellsMu L cv) (.cons _ (List.perm_middle (l₁ := [obL M ms' kM', obL D ds' kD', obL S ss' kS']) (a := obL N (ns ++ [v]) kN) (l₂ := cellsMu L cv)).symm)
  refine ⟨rfl, G8, m7, _, hle8', ⟨cv, _, _, _, _, _, _, _, _, Sx', Mx', rfl, hm7, hcv, (fun v h => nomatch h), hSx', hMx', by omega, ?_, rM', rD', rS'.mono (hle6.trans (hle7.trans hle8))⟩, I2⟩
  rw [List.range_succ, List.map_append]
  exact (rN.mono hle8').append (.cons (rv7.mono hle8) .nil)

/-- the first loop -/
theorem law5 {fss : List (List Fld)} {N M D S V : Addr} {vs : List Value} {kV : Nat} (e : LEnv env L) (hA : AOk A [env] (n + 8)) (P : PG w G) (B : Base G cv fss)
    (mV : m ("versions" : Str) = some (.ref V)) (mM : m ("marks" : Str) = some (.ref M)) (mD : m ("dividers" : Str) = some (.ref D)) (cN : cv ("norms" : Str) = some (.ref N)) (cS : cv ("shelf" : Str) = some (.ref S))
    (hV : G V = some (lstO vs kV)) (rV : RdL G vs (fss.map verD)) (I : In [] [] s0 G0 G L m (cellsMu L cv ++ [obL N [] 0, obL M [] 0, obL D [] 0, obL S [] 0]) s)
    (hQ : ∀ G' m' cv' ns ms ds ss kN kM kD kS Sx Mx s', LeS G G' → SameM m m' → SameC cv cv' → SInv (keyOf fss) fss.length Sx → MInv (keyOf fss) fss.length Mx → Mx.length ≤ fss.length →
      G' N = some (lstO ns kN) → G' M = some (lstO ms kM) → G' D = some (lstO ds kD) → G' S = some (lstO ss kS) →
      RdL G' ns ((List.range fss.length).map (nmD fss)) → RdL G' ms (Mx.map (hdD fss)) → RdL G' ds (Mx.map (nmD fss)) → RdL G' ss (Sx.map (txD fss)) → In [] [] s0 G0 G' L m' (cellsMu L cv') s' → Q .next s') :
    wpK (model prog w) A (exec (lawS 5) env) Q (fun _ _ => False) s := by
  have hh := hA.handled
  have hlen := B.len
  have hvl : vs.length = fss.length := by rw [rV.length, List.length_map]
  refine wpK_For (callTypeGlK e.toEnvOk I.sub P (by kernel_rfl) (T := "range") (by decide +kernel) rfl rfl (splicedK_cons (wpK_of (callB1 e.toEnvOk I.sub P (by kernel_rfl) (id := "len") (by decide +kernel) (fun _ => rfl) (ldL e.toEnvOk I (by kernel_rfl) mV (len_list (isL (I.sub _ _ hV)) (by simp; omega) (splicedK_nil ?_)))))))
  rw [show vs.toArray.size = fss.length by simp [hvl]]
  replace I := I.tok (s.toks + 1 + 1)
  replace I := I.perm (mu' := obL N [] 0 :: obL M [] 0 :: obL D [] 0 :: obL S [] 0 :: cellsMu L cv) (List.perm_append_comm (l₁ := [obL N [] 0, obL M [] 0, obL D [] 0, obL S [] 0]) (l₂ := cellsMu L cv))
  refine wpK_of (callRange I fun r o s1 ho I => wpK_of (iterRange (by omega) ho I fun J s2 I => ?_))
  refine forSrcK (Src.range hh) (fun i v G' _ _ m' mu' => LK L m cv fss N M D S i (some v) G' m' mu') (fun i G' m' mu' => LK L m cv fss N M D S i none G' m' mu') (fun i v G' m mu s Q' _ _ _ hq => wpAny_pure hq) ?_ ?_ I ?_ ?_
  · rintro i v G' m1 mu1 s3 Q' hi ⟨t, rfl⟩ hle ⟨cv', ns, ms, ds, ss, kN, kM, kD, kS, Sx, Mx, rfl, h1, h2, _, h3⟩ I hq
    refine wpAny_assign_Name (stCell' (pre := [(J, rIter fss.length (i + 1)), obL N ns kN, obL M ms kM, obL D ds kD, obL S ss kS]) e I (by kernel_rfl) rfl fun s4 I => ?_)
    exact hq _ _ _ ⟨_, _, _, _, _, _, _, _, _, Sx, Mx, rfl, h1, h2.upd, (fun v h => by cases h; exact upd_same), h3⟩ I
  · rintro i v G' m1 mu1 m2 mu2 s3 hi ⟨t, rfl⟩ hle _ K I
    exact law5_body e hA (P.mono hle) (B.mono hle) hi mV mM mD cN cS (hle _ _ hV) (rV.mono hle) K I
  · exact ⟨cv, [], [], [], [], 0, 0, 0, 0, [], [], rfl, fun _ _ => rfl, fun _ _ => rfl, (fun v h => nomatch h), SInv.zero _, MInv.zero, Nat.le_refl _, .nil, .nil, .nil, .nil⟩
  · rintro G' m' mu' s3 hle ⟨cv', ns, ms, ds, ss, kN, kM, kD, kS, Sx, Mx, rfl, h1, h2, _, hSx, hMx, hml, rN, rM, rD, rS⟩ I
    have l1 := Store.le_put (o := lstO ns kN) I.head_none
    have g1 : (G'.put N (lstO ns kN)) N = some (lstO ns kN) := Store.put_self _ _ _
    replace I := I.frz
    generalize G'.put N (lstO ns kN) = G1 at I l1 g1
    have l2 := Store.le_put (o := lstO ms kM) I.head_none
    have g2 : (G1.put M (lstO ms kM)) M = some (lstO ms kM) := Store.put_self _ _ _
    replace I := I.frz
    generalize G1.put M (lstO ms kM) = G2 at I l2 g2
    have l3 := Store.le_put (o := lstO ds kD) I.head_none
    have g3 : (G2.put D (lstO ds kD)) D = some (lstO ds kD) := Store.put_self _ _ _
    replace I := I.frz
    generalize G2.put D (lstO ds kD) = G3 at I l3 g3
    have l4 := Store.le_put (o := lstO ss kS) I.head_none
    have g4 : (G3.put S (lstO ss kS)) S = some (lstO ss kS) := Store.put_self _ _ _
    replace I := I.frz
    generalize G3.put S (lstO ss kS) = G4 at I l4 g4
    have la := l1.trans (l2.trans (l3.trans l4))
    exact hQ G4 m' cv' ns ms ds ss kN kM kD kS Sx Mx s3 (hle.trans la) h1 h2 hSx hMx hml ((l2.trans (l3.trans l4)) _ _ g1) ((l3.trans l4) _ _ g2) (l4 _ _ g3) g4 (rN.mono la) (rM.mono la) (rD.mono la) (rS.mono la) I
end
end Mine

end
section
open PySem PySem.W PyProof.Rows PySem.Calls PySem.NumText PySem.SeqAt
namespace Mine

theorem range_getD {α : Type} (S : List Nat) (f : Nat → α) : (List.range S.length).map (fun i => f (S.getD i 0)) = S.map f := by
  apply List.ext_getElem?
  intro i
  rw [List.getElem?_map, List.getElem?_map]
  by_cases hi : i < S.length
  · rw [List.getElem?_range hi, List.getElem?_eq_getElem hi, Option.map_some, Option.map_some, mget hi]
  · rw [List.getElem?_eq_none (by simp; omega), List.getElem?_eq_none (by omega)]; rfl
/-- a list of datum stands in the store -/
def LstAt (G : Store) (ov : Option Value) (ds : List Dat) : Prop := ∃ R rs k, ov = some (.ref R) ∧ G R = some (lstO rs k) ∧ RdL G rs ds
theorem LstAt.mono {G G' : Store} {ov : Option Value} {ds : List Dat} (h : LstAt G ov ds) (k : LeS G G') : LstAt G' ov ds := by
  obtain ⟨R, rs, j, h1, h2, h3⟩ := h
  exact ⟨R, rs, j, h1, k _ _ h2, h3.mono k⟩

/-- what stands after the first loop -/
structure St (G : Store) (m cv : Str → Option Value) (fss : List (List Fld)) (Sx Mx : List Nat) : Prop where
  base : Base G cv fss
  ranks : LstAt G (cv ("ranks" : Str)) (fss.map rankD)
  vers : LstAt G (m ("versions" : Str)) (fss.map verD)
  order : LstAt G (m ("order" : Str)) (Sx.map fun i : Nat => .int i)
  shelf : LstAt G (cv ("shelf" : Str)) (Sx.map (txD fss))
  norms : LstAt G (cv ("norms" : Str)) ((List.range fss.length).map (nmD fss))
  marks : LstAt G (m ("marks" : Str)) (Mx.map (hdD fss))
  divs : LstAt G (m ("dividers" : Str)) (Mx.map (nmD fss))
  hS : SInv (keyOf fss) fss.length Sx
  hM : MInv (keyOf fss) fss.length Mx
  ml : Mx.length ≤ fss.length
theorem St.mono {G G' : Store} {m cv : Str → Option Value} {fss : List (List Fld)} {Sx Mx : List Nat} (x : St G m cv fss Sx Mx) (k : LeS G G') : St G' m cv fss Sx Mx :=
  ⟨x.base.mono k, x.ranks.mono k, x.vers.mono k, x.order.mono k, x.shelf.mono k, x.norms.mono k, x.marks.mono k, x.divs.mono k, x.hS, x.hM, x.ml⟩
/-- cells that matter are as they were -/
def SameS (cv cv' : Str → Option Value) : Prop := ∀ x ∈ [("texts" : Str), ("ranks" : Str), ("shelf" : Str), ("norms" : Str)], cv' x = cv x
def SameL (m m' : Str → Option Value) : Prop := ∀ x ∈ [("versions" : Str), ("order" : Str), ("marks" : Str), ("dividers" : Str)], m' x = m x
theorem SameS.upd {cv : Str → Option Value} {x : Str} {v : Value} (h : x ∉ [("texts" : Str), ("ranks" : Str), ("shelf" : Str), ("norms" : Str)]) : SameS cv (upd cv x v) := fun _ hy => upd_ne fun q => h (q ▸ hy)
theorem SameL.upd {m : Str → Option Value} {x : Str} {v : Value} (h : x ∉ [("versions" : Str), ("order" : Str), ("marks" : Str), ("dividers" : Str)]) : SameL m (upd m x v) := fun _ hy => upd_ne fun q => h (q ▸ hy)
theorem SameC.toS {cv cv' : Str → Option Value} (h : SameC cv cv') : SameS cv cv' := fun x hx => h x fun q => by
  have : ∀ y ∈ [("texts" : Str), ("ranks" : Str), ("shelf" : Str), ("norms" : Str)], y ≠ ("k" : Str) := by decide +kernel
  exact this x hx q
theorem St.same {G : Store} {m m' cv cv' : Str → Option Value} {fss : List (List Fld)} {Sx Mx : List Nat} (x : St G m cv fss Sx Mx) (hm : SameL m m') (hc : SameS cv cv') : St G m' cv' fss Sx Mx := by
  obtain ⟨T, ts, k, h1, h2, h3⟩ := x.base.texts
  exact ⟨⟨x.base.ok, x.base.len, T, ts, k, by rw [hc _ (.head _)]; exact h1, h2, h3⟩, by rw [hc _ (.tail _ (.head _))]; exact x.ranks, by rw [hm _ (.head _)]; exact x.vers, by rw [hm _ (.tail _ (.head _))]; exact x.order,
    by rw [hc _ (.tail _ (.tail _ (.head _)))]; exact x.shelf, by rw [hc _ (.tail _ (.tail _ (.tail _ (.head _))))]; exact x.norms, by rw [hm _ (.tail _ (.tail _ (.head _)))]; exact x.marks, by rw [hm _ (.tail _ (.tail _ (.tail _ (.head _))))]; exact x.divs, x.hS, x.hM, x.ml⟩
theorem SameL.refl (m : Str → Option Value) : SameL m m := fun _ _ => rfl
theorem SameS.refl (m : Str → Option Value) : SameS m m := fun _ _ => rfl
theorem St.lt {G : Store} {m cv : Str → Option Value} {fss : List (List Fld)} {Sx Mx : List Nat} (x : St G m cv fss Sx Mx) {i : Nat} (hi : i < Sx.length) : Sx.getD i 0 < fss.length := by
  rw [mget hi]
  have := x.hS.perm.mem_iff.mp (List.getElem_mem hi)
  simpa using this

section
variable {s0 s : Shared} {G0 G : Store} {L : Addr} {m cv : Str → Option Value} {mu rest : List (Addr × It)} {prog : Program} {w : World} {A : Around} {env : Env} {n : Nat} {Q : Flow → Shared → Prop}

theorem law6 {fss : List (List Fld)} {Sx Mx : List Nat} (e : LEnv env L) (hA : AOk A [env] (n + 8)) (X : St G m cv fss Sx Mx) (I : In [] [] s0 G0 G L m (cellsMu L cv) s) (hQ : ∀ G' s', LeS G G' → In [] [] s0 G0 G' L m (cellsMu L cv) s' → Q .next s') :
    wpK (model prog w) A (exec (lawS 6) env) Q (fun _ _ => False) s := by
  obtain ⟨S, ss, kS, cS, hS, rS⟩ := X.shelf
  obtain ⟨O, os, kO, mO, hO, rO⟩ := X.order
  obtain ⟨T, ts, kT, cT, hT, rT⟩ := X.base.texts
  have hh := hA.handled
  have hlen := X.base.len
  have hSl := X.hS.length
  have hol : os.length = Sx.length := by rw [rO.length, List.length_map]
  have hu := hA.units
  refine wpK_If (wpK_isTrue_Compare1 (wpK_of (ldCell e I CellsIn.refl (by kernel_rfl) rfl cS ?_)))
  refine compE (cl := [(("texts" : Str), L + 1)]) (outer := []) (s0 := s0) (G0 := G0) (L := L) (by rw [e.eta]; kernel_rfl) (by decide) rfl (by decide +kernel) ?_
  refine wpK_of (ldL e.toEnvOk I (by kernel_rfl) mO (iterList I hO fun J s1 I => ?_))
  refine ⟨J, lIter O, os.length, _, G, m, _, _, fun _ => true, fun i => txD fss (Sx.getD i 0), rfl, Src.list hh hO, by omega, Job.name rfl (by kernel_rfl) ?_, I, fun G' hle D ys kd s2 I rys => ?_⟩
  · intro i v C D G1 mC ys kd s2 hi hvi hle hC I
    obtain ⟨d, hd, rd⟩ := rO.at hvi
    obtain ⟨hi', rfl⟩ := map_get hd
    have hlt := X.lt hi'
    cases rd with
    | int _ t =>
    obtain ⟨x, hx, rx⟩ := rT.get (map_at (fun fs => Dat.str (textF fs)) hlt)
    refine wpK_of (Subscript_ (ldE (c := L + 1) rfl (by rw [e.eta]; kernel_rfl) rfl rfl I CellsIn.refl.tail.tail.tail cT (ldC rfl (by kernel_rfl) I hC (itemL (I.sub _ _ (hle _ _ hT)) (by omega) hx ?_ rfl))))
    exact ⟨G1, .refl _, I, rx.mono hle⟩
  · rw [emit_all, hol, range_getD] at rys
    have hl2 := Store.le_put (o := lstO ys kd) I.head_none
    have hD : (G'.put D (lstO ys kd)) D = some (lstO ys kd) := Store.put_self _ _ _
    replace I := I.frz
    refine wpK_of (neSame (n := 1) I.sub (.list ((hle.trans hl2) _ _ hS) (rS.mono (hle.trans hl2))) (.list hD (rys.mono hl2)) ?_ (by nofun) (by nofun) (by show A.units + 1 < 9900; omega) (wpK_of (wpAny_truthy_bool (wpK_execs_nil (hQ _ _ (hle.trans hl2) I)))))
    rw [kqdOk]
    refine List.all_eq_true.mpr fun d hd => ?_
    obtain ⟨i, hi, rfl⟩ := List.mem_map.mp hd
    have hi' : i < fss.length := by have := X.hS.perm.mem_iff.mp hi; simpa using this
    exact textF_ok (fss_ok X.base.ok hi')

theorem law7 (e : LEnv env L) (I : In [] [] s0 G0 G L m (cellsMu L cv) s) (hQ : ∀ H s', In [] [] s0 G0 G L m (obL H [] 0 :: cellsMu L (upd cv ("heads" : Str) (.ref H))) s' → Q .next s') :
    wpK (model prog w) A (exec (lawS 7) env) Q (fun _ _ => False) s := by
  refine wpK_Assign_Name (wpK_of (nilL I fun H s1 I => wpK_of (stCell' (pre := [obL H [] 0]) e I (by kernel_rfl) rfl fun s2 I => hQ H s2 I)))

/-- ranks[k][:3] -/
theorem ranks3 {i : Nat} {t : Tok} {fss : List (List Fld)} {px py p1 p2 p3 p4 : Pos} {E : Value → Shared → Prop} {Q : Value → Shared → Prop} (e : LEnv env L) (I : In [] [] s0 G0 G L m mu s) (hI : CellsIn L cv mu) (hf : ∀ fs ∈ fss, FsOk fs) (hlen : fss.length ≤ 9) (hR : LstAt G (cv ("ranks" : Str)) (fss.map rankD)) (hk : cv ("k" : Str) = some (.int i t)) (hi : i < fss.length)
    (h : ∀ R G' s', LeS G G' → Rd G' (.ref R) (.list ((hd3 (keyOf fss) i).map prT)) → In [] [] s0 G0 G' L m mu s' → Q (.ref R) s') :
    wpAny (model prog w) A (eval (.Subscript (.Subscript (.Name ("ranks" : Str) px) (.Name ("k" : Str) py) p1) (.Slice none (some (.Constant (.int 3) 0 p2)) none p3) p4) env) Q E s := by
  obtain ⟨R, rs, k, cR, gR, rR⟩ := hR
  obtain ⟨x, hx, rx⟩ := rR.get (map_at rankD hi)
  have hfs := fss_ok hf hi
  rw [rankD_eq hfs] at rx
  cases rx with
  | list hF rF =>
  rename_i fa fv fk
  refine sliceTT (Subscript_ (ldCell e I hI (by kernel_rfl) rfl cR (ldCell e I hI (by kernel_rfl) rfl hk (itemL (I.sub _ _ gR) (by omega) hx (wpAny_pure (cInt (k := 0) (pos := p2) I fun t3 s3 I => ?_)) rfl))))
  refine sliceTail I (I.sub _ _ hF) .none (.int 3 t3) (by rw [rF.length, List.length_map]; unfold keyF; rw [List.length_map]; have := hfs.len; omega) fun R2 s4 I => ?_
  rw [show (3 : Int) = ((3 : Nat) : Int) from rfl, pk_upto] at I
  have hl2 := Store.le_put (o := lstO (fv.take 3) 0) I.head_none
  refine h R2 _ s4 hl2 (.list (Store.put_self _ _ _) ?_) I.frz
  have := (rF.take 3).mono hl2
  rw [← List.map_take] at this
  exact this

theorem law8 {fss : List (List Fld)} {Sx Mx : List Nat} {H : Addr} (e : LEnv env L) (hA : AOk A [env] (n + 8)) (X : St G m cv fss Sx Mx) (cH : cv ("heads" : Str) = some (.ref H)) (I : In [] [] s0 G0 G L m (obL H [] 0 :: cellsMu L cv) s)
    (hQ : ∀ G' cv' hs kH s', LeS G G' → SameC cv cv' → G' H = some (lstO hs kH) → RdL G' hs (Mx.map fun a => .list ((hd3 (keyOf fss) a).map prT)) → In [] [] s0 G0 G' L m (cellsMu L cv') s' → Q .next s') :
    wpK (model prog w) A (exec (lawS 8) env) Q (fun _ _ => False) s := by
  obtain ⟨O, os, kO, mO, hO, rO⟩ := X.order
  have hh := hA.handled
  have hlen := X.base.len
  have hSl := X.hS.length
  have hol : os.length = Sx.length := by rw [rO.length, List.length_map]
  have hu := hA.units
  refine wpK_For (wpK_of (ldL e.toEnvOk I (by kernel_rfl) mO (wpK_of (iterList I hO fun J s1 I => ?_))))
  refine forSrcK (Src.list hh hO)
    (fun j v G' _ _ m' mu' => m' = m ∧ ∃ cv' hs kH Hx, mu' = obL H hs kH :: cellsMu L cv' ∧ SameC cv cv' ∧ cv' ("k" : Str) = some v ∧ HInv (keyOf fss) Sx j Hx ∧ Hx.length ≤ j ∧ RdL G' hs (Hx.map fun a => .list (a.map prT)) ∧ (∀ h ∈ Hx, Low h))
    (fun j G' m' mu' => m' = m ∧ ∃ cv' hs kH Hx, mu' = obL H hs kH :: cellsMu L cv' ∧ SameC cv cv' ∧ HInv (keyOf fss) Sx j Hx ∧ Hx.length ≤ j ∧ RdL G' hs (Hx.map fun a => .list (a.map prT)) ∧ (∀ h ∈ Hx, Low h))
    (fun i v G' m mu s Q' _ _ _ hq => wpAny_pure hq) ?_ ?_ I ?_ ?_
  · rintro i v G' m1 mu1 s3 Q' hi _ hle ⟨rfl, cv', hs, kH, Hx, rfl, h1, h2⟩ I hq
    exact wpAny_assign_Name (stCell' (pre := [(J, lIter O (i + 1)), obL H hs kH]) e I (by kernel_rfl) rfl fun s4 I => hq _ _ _ ⟨rfl, _, hs, kH, Hx, rfl, h1.upd, upd_same, h2⟩ I)
  · rintro j v G' m1 mu1 m2 mu2 s3 hj hv hle _ ⟨rfl, cv', hs, kH, Hx, rfl, h1, hk, hH, hHl, rH, hlow⟩ I
    obtain ⟨d, hd, rd⟩ := rO.at hv
    obtain ⟨hj', rfl⟩ := map_get hd
    have hlt := X.lt hj'
    cases rd with
    | int _ t =>
    have hSj : Sx[j]? = some (Sx.getD j 0) := by rw [mget hj']; exact List.getElem?_eq_getElem hj'
    generalize Sx.getD j 0 = i at hk hlt hSj hv
    have X' := (X.mono hle).same (SameL.refl _) h1.toS
    have cH' : cv' ("heads" : Str) = some (.ref H) := by rw [h1 _ (by decide +kernel)]; exact cH
    have hI : CellsIn L cv' ((J, lIter O (j + 1)) :: obL H hs kH :: cellsMu L cv') := CellsIn.refl.tail.tail
    have lowi : Low (hd3 (keyOf fss) i) := low_take (keyOf_low X.base.ok i) 3
    refine wpK_execs_cons (wpK_If (wpK_of (wpAny_isTrue_Compare1 (ranks3 e I hI X.base.ok hlen X'.ranks hk hlt fun R2 G2 s4 hle2 rR2 I => ldCell e I hI (by kernel_rfl) rfl cH' ?_))))
    have hHo : s4.heap.get? H = some (lstO hs kH) := (I.mus _ (.tail _ (.head _))).1
    refine notInList (n := 2) (n' := 2) I.sub hHo (rH.mono hle2) rR2 (fun d hd => ?_) ?_ (by show A.units + 1 + 2 < 9900; omega) (wpAny_truthy_bool ?_)
    · obtain ⟨a, ha, rfl⟩ := List.mem_map.mp hd
      rw [kqdOk]; exact List.all_eq_true.mpr (prTs_ok (hlow a ha))
    · rw [kqdOk]; exact List.all_eq_true.mpr (prTs_ok lowi)
    have hmem : Dat.list ((hd3 (keyOf fss) i).map prT) ∈ (Hx.map fun a => Dat.list (a.map prT)) ↔ hd3 (keyOf fss) i ∈ Hx := by
      rw [List.mem_map]
      constructor
      · rintro ⟨a, ha, q⟩
        injection q with q
        rw [← pairs_inj _ _ (hlow a ha) lowi q]; exact ha
      · intro h; exact ⟨_, h, rfl⟩
    by_cases hin : hd3 (keyOf fss) i ∈ Hx
    · rw [if_neg (by simp only [Bool.not_eq_true', decide_eq_false_iff_not]; exact fun q => q (hmem.mpr hin))]
      exact wpK_execs_nil (wpK_execs_nil ⟨rfl, G2, _, _, hle2, ⟨rfl, cv', hs, kH, Hx, rfl, h1, hH.stay hSj hin, by omega, rH.mono hle2, hlow⟩, I⟩)
    · rw [if_pos (by simp only [Bool.not_eq_true', decide_eq_false_iff_not]; exact fun q => hin (hmem.mp q))]
      refine wpK_execs_cons (appendK e.quiet rfl rfl rfl (ldCell e I hI (by kernel_rfl) rfl cH' ⟨H, hs, kH, rfl, hHo, wpK_of (ranks3 e I hI X.base.ok hlen (X'.mono hle2).ranks hk hlt fun R3 G3 s5 hle3 rR3 I => ?_)⟩))
      have hhl : hs.length = Hx.length := by rw [rH.length, List.length_map]
      refine I.swap.append (by omega) fun h' k' I => wpK_execs_nil (wpK_execs_nil ⟨rfl, G3, _, _, hle2.trans hle3, ⟨rfl, cv', _, _, Hx ++ [hd3 (keyOf fss) i], rfl, h1, hH.add X.hS hSj hin, by simp; omega, ?_, ?_⟩, I.swap⟩)
      · rw [List.map_append]; exact (rH.mono (hle2.trans hle3)).append (.cons rR3 .nil)
      · intro h hh'
        rcases List.mem_append.mp hh' with q | q
        · exact hlow h q
        · rw [List.mem_singleton.mp q]; exact lowi
  · exact ⟨rfl, cv, [], 0, [], rfl, fun _ _ => rfl, HInv.zero, Nat.le_refl _, .nil, fun h q => nomatch q⟩
  · rintro G' m' mu' s3 hle ⟨rfl, cv', hs, kH, Hx, rfl, h1, hH, _, rH, _⟩ I
    rw [hol] at hH
    have l1 := Store.le_put (o := lstO hs kH) I.head_none
    have e1 := heads_marks X.hS X.hM hH
    refine hQ _ cv' hs kH s3 (hle.trans l1) h1 (Store.put_self _ _ _) ?_ I.frz
    rw [e1, List.map_map] at rH
    exact rH.mono l1
end
end Mine

end
section
open PySem PySem.W PyProof.Rows PySem.Calls PySem.NumText PySem.SeqAt
namespace Mine

section
variable {outer : List Env} {ex : List Addr} {s0 s : Shared} {G0 G : Store} {L : Addr} {m cv : Str → Option Value} {mu rest : List (Addr × It)} {prog : Program} {w : World} {A : Around} {E : Value → Shared → Prop} {env env' : Env}

theorem ldGlE {x : Str} {pos : Pos} {v : Value} {Q : Value → Shared → Prop} (hk : env'.scope.kind = .function) (hl : env'.kindOf x = some .globalImplicit) (hg : env'.globals = mainGlobals) (hb : env'.builtins = builtinsNs) (S : SubS G s.heap) (P : PG w G) (hx : (x, v) ∈ gtab) (h : Q v s)
    (hd : (x == ("__debug__" : Str)) = false := by decide +kernel) : wpAny (model prog w) A (eval (.Name x pos) env') Q E s := by
  obtain ⟨mg, mb, hgn, hbn, hv⟩ := P.name _ hx _ S
  refine Name_function_global hk hl ?_ hd
  rcases hv with hv | ⟨h1, h2⟩
  · exact loadGlobal_global (by rw [hg]; exact hgn) hv h
  · exact loadGlobal_builtin (by rw [hg]; exact hgn) h1 (by rw [hb]; exact hbn) h2 h
theorem callGlKE {x : Str} {np pos : Pos} {args : List Expr} {a : Sem Value} {rest : List (Bool × Sem Value)} {f : Addr} {Q : Value → Shared → Prop} {i : Nat} {dV kV : Value}
    (hk : env'.scope.kind = .function) (hl : env'.kindOf x = some .globalImplicit) (hg : env'.globals = mainGlobals) (hb : env'.builtins = builtinsNs) (S : SubS G s.heap) (P : PG w G) (hx : (x, .ref f) ∈ gtab) (F : Fn G f i dV kV) (hargs : backTo pos (starEach args env') = (false, a) :: rest)
    (h : wpK (model prog w) A (spliced ((false, a) :: rest)) (fun vs s₁ => (∃ G', LeS G G' ∧ SubS G' s₁.heap) ∧ wpK (model prog w) A (call (.ref f) vs) Q E s₁) E s) (hd : (x == ("__debug__" : Str)) = false := by decide +kernel) :
    wpK (model prog w) A (eval (.Call (.Name x np) args [] pos) env') Q E s := by
  obtain ⟨pm, cd, ho, _⟩ := F.there
  refine wpK_Call_ofName (wpK_of (ldGlE hk hl hg hb S P hx ?_ hd))
  rw [hargs]
  refine callWithK_function (o := { cls := .type "function", data := .func (fnAt i dV kV pm cd) }) (fd := fnAt i dV kV pm cd) rfl (evalArgsK_plain (wpK_mono h (fun vs s₁ h₁ => ⟨?_, h₁.2⟩) fun _ _ y => y))
  obtain ⟨⟨G', h1, h2⟩, _⟩ := h₁
  exact h2 _ _ (h1 _ _ ho)
theorem callGlKwKE {x : Str} {np pos : Pos} {args : List Expr} {kws : List Keyword} {a : Sem Value} {rest : List (Bool × Sem Value)} {f : Addr} {Q : Value → Shared → Prop} {i : Nat} {dV kV : Value}
    (hk : env'.scope.kind = .function) (hl : env'.kindOf x = some .globalImplicit) (hg : env'.globals = mainGlobals) (hb : env'.builtins = builtinsNs) (S : SubS G s.heap) (P : PG w G) (hx : (x, .ref f) ∈ gtab) (F : Fn G f i dV kV) (hargs : backTo pos (starEach args env') = (false, a) :: rest)
    (hall : (backToKw pos (keywordEach kws env')).all (·.1.isSome) = true)
    (h : wpK (model prog w) A (spliced ((false, a) :: rest)) (fun vs s₁ => wpK (model prog w) A (evalAll ((backToKw pos (keywordEach kws env')).map (·.2))) (fun ks s₂ => (∃ G', LeS G G' ∧ SubS G' s₂.heap) ∧ wpK (model prog w) A (call (.ref f) vs (((backToKw pos (keywordEach kws env')).filterMap (·.1)).zip ks)) Q E s₂) E s₁) E s)
    (hd : (x == ("__debug__" : Str)) = false := by decide +kernel) :
    wpK (model prog w) A (eval (.Call (.Name x np) args kws pos) env') Q E s := by
  obtain ⟨pm, cd, ho, _⟩ := F.there
  refine wpK_Call_ofName (wpK_of (ldGlE hk hl hg hb S P hx ?_ hd))
  rw [hargs]
  refine callWithK_function (o := { cls := .type "function", data := .func (fnAt i dV kV pm cd) }) (fd := fnAt i dV kV pm cd) rfl (evalArgsK_kw hall (wpK_mono h (fun vs s₁ h₁ => wpK_mono h₁ (fun ks s₂ h₂ => ⟨?_, h₂.2⟩) fun _ _ y => y) fun _ _ y => y))
  obtain ⟨⟨G', h1, h2⟩, _⟩ := h₂
  exact h2 _ _ (h1 _ _ ho)
end

/-- what stands after the heads -/
structure St2 (G : Store) (m cv : Str → Option Value) (fss : List (List Fld)) (Sx Mx : List Nat) : Prop where
  st : St G m cv fss Sx Mx
  heads : LstAt G (cv ("heads" : Str)) (Mx.map fun a => .list ((hd3 (keyOf fss) a).map prT))
theorem St2.mono {G G' : Store} {m cv : Str → Option Value} {fss : List (List Fld)} {Sx Mx : List Nat} (x : St2 G m cv fss Sx Mx) (k : LeS G G') : St2 G' m cv fss Sx Mx := ⟨x.st.mono k, x.heads.mono k⟩

section
variable {s0 s : Shared} {G0 G : Store} {L : Addr} {m cv : Str → Option Value} {mu rest : List (Addr × It)} {prog : Program} {w : World} {A : Around} {env : Env} {n : Nat} {Q : Flow → Shared → Prop}

theorem flatPs (a : List Nat) : (a.map fun k => (Dat.int (rk k), vl k)).map (fun p => Dat.tuple [p.1, p.2]) = a.map prT ∧ (a.map fun k => (Dat.int (rk k), vl k)).flatMap (fun p => [p.1, p.2]) = a.flatMap pr := by
  constructor
  · rw [List.map_map]; rfl
  · rw [List.flatMap_map]; rfl

theorem law9 {fss : List (List Fld)} {Sx Mx : List Nat} (e : LEnv env L) (hA : AOk A [env] (n + 8)) (P : PG w G) (X : St2 G m cv fss Sx Mx) (I : In [] [] s0 G0 G L m (cellsMu L cv) s) (hQ : ∀ G' s', LeS G G' → In [] [] s0 G0 G' L m (cellsMu L cv) s' → Q .next s') :
    wpK (model prog w) A (exec (lawS 9) env) Q (fun _ _ => False) s := by
  obtain ⟨M, ms, kM, mM, hM, rM⟩ := X.st.marks
  obtain ⟨H, hs, kH, cH, hH, rH⟩ := X.heads
  have hh := hA.handled
  have hlen := X.st.base.len
  have hml := X.st.ml
  have hhl : hs.length = Mx.length := by rw [rH.length, List.length_map]
  have hu := hA.units
  refine wpK_If (wpK_isTrue_Compare1 (wpK_of (ldL e.toEnvOk I (by kernel_rfl) mM ?_)))
  refine compE (cl := []) (outer := []) (s0 := s0) (G0 := G0) (L := L) rfl (by decide) rfl (by decide +kernel) ?_
  refine wpK_of (ldCell e I CellsIn.refl (by kernel_rfl) rfl cH (iterList I hH fun J s1 I => ?_))
  refine ⟨J, lIter H, hs.length, _, G, m, _, _, fun _ => true, fun i => hdD fss (Mx.getD i 0), rfl, Src.list hh hH, by omega, Job.name rfl (by kernel_rfl) ?_, I, fun G' hle D ys kd s2 I rys => ?_⟩
  · intro i v C D G1 mC ys kd s2 hi hvi hle hC I
    obtain ⟨d, hd, rd⟩ := rH.at hvi
    obtain ⟨hi', rfl⟩ := map_get hd
    have P1 := P.mono hle
    refine callGlKE rfl (by rw [e.eta]; kernel_rfl) e.globals e.builtins I.sub P1 (f := 105) (by decide +kernel) P1.fflat rfl (splicedK_cons (wpK_of (ldC rfl (by kernel_rfl) I hC (splicedK_nil ⟨⟨G1, .refl _, I.sub⟩, ?_⟩))))
    have fp := flatPs (hd3 (keyOf fss) (Mx.getD i 0))
    rw [← fp.1] at rd
    refine wpK_of (flat_spec (n := n) (hA.le (by omega)) (I.okE e) P1 (rd.mono hle) (by rw [List.length_map]; have := hd_short (K := keyOf fss) (Mx.getD i 0); omega) fun r s3 G3 hst rr => ?_)
    rw [fp.2] at rr
    exact ⟨G3, hst.le, I.calledE e.frame hst, rr⟩
  · rw [emit_all, hhl, range_getD] at rys
    have hl2 := Store.le_put (o := lstO ys kd) I.head_none
    have hD : (G'.put D (lstO ys kd)) D = some (lstO ys kd) := Store.put_self _ _ _
    replace I := I.frz
    refine wpK_of (neSame (n := 2) I.sub (.list ((hle.trans hl2) _ _ hM) (rM.mono (hle.trans hl2))) (.list hD (rys.mono hl2)) ?_ (by nofun) (by nofun) (by show A.units + 2 < 9900; omega) (wpK_of (wpAny_truthy_bool (wpK_execs_nil (hQ _ _ (hle.trans hl2) I)))))
    rw [kqdOk]
    refine List.all_eq_true.mpr fun d hd => ?_
    obtain ⟨i, hi, rfl⟩ := List.mem_map.mp hd
    exact hdD_ok X.st.base.ok i 0

theorem law10 {fss : List (List Fld)} {Sx Mx : List Nat} {o : Nat → Nat} (e : LEnv env L) (hA : AOk A [env] (n + 8)) (X : St2 G m cv fss Sx Mx) (ho : Own (keyOf fss) fss.length Mx o) (I : In [] [] s0 G0 G L m (cellsMu L cv) s)
    (hQ : ∀ G' W s', LeS G G' → LstAt G' (some W) ((List.range fss.length).map fun i => .int (o i : Nat)) → In [] [] s0 G0 G' L m (cellsMu L (upd cv ("own" : Str) W)) s' → Q .next s') :
    wpK (model prog w) A (exec (lawS 10) env) Q (fun _ _ => False) s := by
  obtain ⟨R, rs, kR, cR, hR, rR⟩ := X.st.ranks
  obtain ⟨H, hs, kH, cH, hH, rH⟩ := X.heads
  have hh := hA.handled
  have hlen := X.st.base.len
  have hml := X.st.ml
  have hrl : rs.length = fss.length := by rw [rR.length, List.length_map]
  have hu := hA.units
  refine wpK_Assign_Name ?_ (by rw [e.eta]; kernel_rfl)
  refine compE (cl := [(("heads" : Str), L + 6)]) (outer := []) (s0 := s0) (G0 := G0) (L := L) (by rw [e.eta]; kernel_rfl) (by decide) rfl (by decide +kernel) ?_
  refine wpK_of (ldCell e I CellsIn.refl (by kernel_rfl) rfl cR (iterList I hR fun J s1 I => ?_))
  refine ⟨J, lIter R, rs.length, _, G, m, _, _, fun _ => true, fun i => .int (o i : Nat), rfl, Src.list hh hR, by omega, Job.name rfl (by kernel_rfl) ?_, I, fun G' hle D ys kd s2 I rys => ?_⟩
  · intro i v C D G1 mC ys kd s2 hi hvi hle hC I
    have hi' : i < fss.length := by omega
    obtain ⟨d, hd, rd⟩ := rR.at hvi
    rw [map_at rankD hi'] at hd
    cases hd
    have hfs := fss_ok X.st.base.ok hi'
    rw [rankD_eq hfs] at rd
    cases rd with
    | list hF rF =>
    rename_i fa fv fk
    have hHo : s2.heap.get? H = some (lstO hs kH) := I.sub _ _ (hle _ _ hH)
    refine wpK_of (wpAny_Call_method rfl rfl rfl F.plainAttrs_list F.slot_list_index (by kernel_rfl) (ldE (c := L + 6) rfl (by rw [e.eta]; kernel_rfl) rfl rfl I CellsIn.refl.tail.tail.tail cH ⟨⟨_, hHo, rfl⟩, fun a ha => ?_, ?_⟩))
    · cases ha; exact ⟨_, hHo, rfl⟩
    refine callWith_builtin rfl (evalArgs_plain (spliced_cons (sliceNN (ldC rfl (by kernel_rfl) I hC (wpAny_pure (cInt (k := 0) (pos := ⟨129, 30, 129, 31⟩) I fun t3 s3 I => sliceTail I (I.sub _ _ (hle _ _ hF)) .none (.int 3 t3) (by rw [rF.length, List.length_map]; unfold keyF; rw [List.length_map]; have := hfs.len; omega) fun R2 s4 I => spliced_nil ?_))))))
    rw [show (3 : Int) = ((3 : Nat) : Int) from rfl, pk_upto] at I
    have hl2 := Store.le_put (o := lstO (fv.take 3) 0) I.head_none
    have r3 := ((rF.mono hle).take 3).mono hl2
    rw [← List.map_take] at r3
    have h2 : (G1.put R2 (lstO (fv.take 3) 0)) R2 = some (lstO (fv.take 3) 0) := Store.put_self _ _ _
    replace I := I.frz
    have lowm : ∀ a, Low (hd3 (keyOf fss) a) := fun a => low_take (keyOf_low X.st.base.ok a) 3
    have hoi := ho.lt i hi'
    refine indexList (n := 2) (n' := 2) (j := o i) I.sub (I.sub _ _ (hl2 _ _ (hle _ _ hH))) ((rH.mono hle).mono hl2) (.list h2 r3) (fun d hd => ?_) ?_ (by show A.units + 1 + 2 < 9900; omega) (by rw [List.length_map]; omega) ?_ (fun j hj => ?_) ?_
    · obtain ⟨a, ha, rfl⟩ := List.mem_map.mp hd
      rw [kqdOk]; exact List.all_eq_true.mpr (prTs_ok (lowm a))
    · rw [kqdOk]; exact List.all_eq_true.mpr (prTs_ok (lowm i))
    · rw [List.getElem?_map, List.getElem?_eq_getElem hoi, ← mget hoi]
      show some (Dat.list ((hd3 (keyOf fss) (Mx.getD (o i) 0)).map prT)) = some (Dat.list ((hd3 (keyOf fss) i).map prT))
      rw [ho.at' i hi']
    · rw [List.getElem?_map, List.getElem?_eq_getElem (by omega), ← mget (by omega)]
      intro q
      injection q with q
      injection q with q
      have q' := pairs_inj _ _ (lowm _) (lowm i) q
      have := ho.at' i hi'
      rw [← q'] at this
      have := marks_inj X.st.hM hoi (by omega) this
      omega
    · exact ⟨_, hl2, I.tok _, .int _ _⟩
  · rw [emit_all, hrl] at rys
    have hl2 := Store.le_put (o := lstO ys kd) I.head_none
    have hD : (G'.put D (lstO ys kd)) D = some (lstO ys kd) := Store.put_self _ _ _
    replace I := I.frz
    exact wpK_of (stCell' (pre := []) e I (by kernel_rfl) rfl fun s3 I3 => hQ _ (.ref D) s3 (hle.trans hl2) ⟨D, ys, kd, rfl, hD, rys.mono hl2⟩ I3)

theorem law11 {fss : List (List Fld)} {Sx Mx : List Nat} {o : Nat → Nat} (e : LEnv env L) (hA : AOk A [env] (n + 8)) (P : PG w G) (X : St2 G m cv fss Sx Mx) (ho : Own (keyOf fss) fss.length Mx o) (hW : LstAt G (cv ("own" : Str)) ((List.range fss.length).map fun i => .int (o i : Nat))) (I : In [] [] s0 G0 G L m (cellsMu L cv) s)
    (hQ : ∀ G' s', LeS G G' → In [] [] s0 G0 G' L m (cellsMu L cv) s' → Q .next s') :
    wpK (model prog w) A (exec (lawS 11) env) Q (fun _ _ => False) s := by
  obtain ⟨D0, ds, kD, mD, hD0, rD⟩ := X.st.divs
  obtain ⟨H, hs, kH, cH, hH, rH⟩ := X.heads
  obtain ⟨N, ns, kN, cN, hN, rN⟩ := X.st.norms
  obtain ⟨W, ws, kW, cW, hWg, rW⟩ := hW
  have hh := hA.handled
  have hlen := X.st.base.len
  have hml := X.st.ml
  have hhl : hs.length = Mx.length := by rw [rH.length, List.length_map]
  have hu := hA.units
  refine wpK_If (wpK_isTrue_Compare1 (wpK_of (ldL e.toEnvOk I (by kernel_rfl) mD ?_)))
  refine compE (cl := [(("own" : Str), L + 7), (("norms" : Str), L + 5)]) (outer := []) (s0 := s0) (G0 := G0) (L := L) (by rw [e.eta]; kernel_rfl) (by decide) rfl (by decide +kernel) ?_
  refine callTypeGlK e.toEnvOk I.sub P (by kernel_rfl) (T := "range") (by decide +kernel) rfl rfl (splicedK_cons (wpK_of (callB1 e.toEnvOk I.sub P (by kernel_rfl) (id := "len") (by decide +kernel) (fun _ => rfl) ?_)))
  refine ldCell e I CellsIn.refl (by kernel_rfl) rfl cH (len_list (isL (I.sub _ _ hH)) (by simp; omega) (splicedK_nil ?_))
  rw [show hs.toArray.size = Mx.length by simp [hhl]]
  replace I := I.tok (s.toks + 1 + 1)
  refine wpK_of (callRange I fun r o' s1 ho' I => iterRange (by omega) ho' I fun J s2 I => ?_)
  refine ⟨J, rIter Mx.length, Mx.length, _, G, m, _, _, fun _ => true, fun i => nmD fss (Mx.getD i 0), rfl, Src.range hh, by omega, Job.name rfl (by kernel_rfl) ?_, I, fun G' hle D ys kd s2 I rys => ?_⟩
  · rintro j v C D G1 mC ys kd s2 hj ⟨t, rfl⟩ hle hC I
    obtain ⟨f1, f2, f3⟩ := own_first X.st.hM ho hj
    have hWo : s2.heap.get? W = some (lstO ws kW) := I.sub _ _ (hle _ _ hWg)
    refine wpK_of (Subscript_ (ldE (c := L + 5) rfl (by rw [e.eta]; kernel_rfl) rfl rfl I CellsIn.refl.tail.tail.tail cN ?_))
    refine wpAny_Call_method rfl rfl rfl F.plainAttrs_list F.slot_list_index (by kernel_rfl) (ldE (c := L + 7) rfl (by rw [e.eta]; kernel_rfl) rfl rfl I CellsIn.refl.tail.tail.tail cW ⟨⟨_, hWo, rfl⟩, fun a ha => ?_, ?_⟩)
    · cases ha; exact ⟨_, hWo, rfl⟩
    refine callWith_builtin rfl (evalArgs_plain (spliced_cons (ldC rfl (by kernel_rfl) I hC (spliced_nil ?_))))
    refine indexList (n := 0) (n' := 0) (j := Mx.getD j 0) I.sub hWo (rW.mono hle) (.int _ _) (fun d hd => ?_) rfl (by show A.units + 1 + 0 < 9900; omega) (by rw [List.length_map, List.length_range]; omega) ?_ (fun i hi => ?_) ?_
    · obtain ⟨a, ha, rfl⟩ := List.mem_map.mp hd; rfl
    · rw [List.getElem?_map, List.getElem?_range f1]
      show some (Dat.int (o (Mx.getD j 0) : Nat)) = _
      rw [f2]
    · rw [List.getElem?_map, List.getElem?_range (by omega)]
      intro q
      injection q with q
      injection q with q
      exact f3 i hi (by exact_mod_cast q)
    · have I2 := I.tok (s2.toks + 1)
      obtain ⟨x, hx, rx⟩ := rN.get (k := Mx.getD j 0) (d := nmD fss (Mx.getD j 0)) (by rw [List.getElem?_map, List.getElem?_range f1]; rfl)
      exact itemL (I2.sub _ _ (hle _ _ hN)) (by omega) hx ⟨G1, .refl _, I2, rx.mono hle⟩ rfl
  · rw [emit_all, range_getD] at rys
    have hl2 := Store.le_put (o := lstO ys kd) I.head_none
    have hD : (G'.put D (lstO ys kd)) D = some (lstO ys kd) := Store.put_self _ _ _
    replace I := I.frz
    refine wpK_of (neSame (n := 1) I.sub (.list ((hle.trans hl2) _ _ hD0) (rD.mono (hle.trans hl2))) (.list hD (rys.mono hl2)) ?_ (by nofun) (by nofun) (by show A.units + 1 < 9900; omega) (wpK_of (wpAny_truthy_bool (wpK_execs_nil (hQ _ _ (hle.trans hl2) I)))))
    rw [kqdOk]
    refine List.all_eq_true.mpr fun d hd => ?_
    obtain ⟨i, hi, rfl⟩ := List.mem_map.mp hd
    exact nrmF_ok (fss_ok X.st.base.ok (X.st.hM.first i hi).1)
end
end Mine

end
section
open PySem PySem.W PyProof.Rows PySem.Calls PySem.NumText PySem.SeqAt
namespace Mine

/-- how many of the shelf lie before the j-th mark -/
def cutN (o : Nat → Nat) (S : List Nat) (j : Nat) : Nat := (S.filter fun i => decide (o i < j)).length
theorem cutN_le (o : Nat → Nat) (S : List Nat) (j : Nat) : cutN o S j ≤ S.length := List.length_filter_le _ _
theorem cutN_spec {o : Nat → Nat} {j : Nat} : ∀ {S : List Nat}, S.Pairwise (fun a b => o a ≤ o b) → ∀ i, i < S.length → (i < cutN o S j ↔ o (S.getD i 0) < j)
  | [], _, i, hi => by simp at hi
  | x :: r, h, i, hi => by
    obtain ⟨h1, h2⟩ := List.pairwise_cons.mp h
    have ih := cutN_spec (j := j) h2
    unfold cutN at ih ⊢
    by_cases hx : o x < j
    · rw [List.filter_cons, if_pos (by simpa using hx)]
      cases i with
      | zero => simpa using hx
      | succ i =>
        have := ih i (by simpa using hi)
        simp only [List.length_cons, List.getD_cons_succ]
        rw [← this]; omega
    · rw [List.filter_cons, if_neg (by simpa using hx), filter_none _ r fun y hy => by have := h1 y hy; simp; omega]
      cases i with
      | zero => simpa using hx
      | succ i =>
        have hi' : i < r.length := by simpa using hi
        have := h1 (r.getD i 0) (by rw [mget hi']; exact List.getElem_mem _)
        simp only [List.length_nil, List.getD_cons_succ]
        constructor
        · intro q; omega
        · intro q; omega
theorem cutN_mono {o : Nat → Nat} {S : List Nat} {j j' : Nat} (h : j ≤ j') : cutN o S j ≤ cutN o S j' := by
  unfold cutN
  induction S with
  | nil => simp
  | cons x r ih =>
    rw [List.filter_cons, List.filter_cons]
    by_cases a : o x < j
    · rw [if_pos (by simpa using a), if_pos (by simp; omega)]; simpa using ih
    · rw [if_neg (by simpa using a)]
      split
      · simp; omega
      · exact ih
theorem cutN_all {o : Nat → Nat} {S : List Nat} {j : Nat} (h : ∀ x ∈ S, o x < j) : cutN o S j = S.length := by
  unfold cutN; rw [filter_all _ _ fun x hx => by simpa using h x hx]
theorem cutN_slice {o : Nat → Nat} {S : List Nat} (h : S.Pairwise fun a b => o a ≤ o b) (j : Nat) : (S.drop (cutN o S j)).take (cutN o S (j + 1) - cutN o S j) = S.filter fun i => decide (o i = j) := by
  have l1 := cutN_le o S j
  have l2 := cutN_le o S (j + 1)
  refine cut_slice (cutN_mono (by omega)) l2 (fun i hi => ?_) (fun i hi hi2 => ?_) (fun i hi => ?_) fun i hi hi2 => ?_
  · exact (cutN_spec h i (by omega)).mp hi
  · have := (cutN_spec h (j := j) i hi2); omega
  · exact (cutN_spec h i (by omega)).mp hi
  · have := (cutN_spec h (j := j + 1) i hi2); omega

/-- what stands after own -/
structure St3 (G : Store) (m cv : Str → Option Value) (fss : List (List Fld)) (Sx Mx : List Nat) (o : Nat → Nat) : Prop where
  st : St G m cv fss Sx Mx
  own : LstAt G (cv ("own" : Str)) ((List.range fss.length).map fun i => .int (o i : Nat))
  ho : Own (keyOf fss) fss.length Mx o
theorem St3.mono {G G' : Store} {m cv : Str → Option Value} {fss : List (List Fld)} {Sx Mx : List Nat} {o : Nat → Nat} (x : St3 G m cv fss Sx Mx o) (k : LeS G G') : St3 G' m cv fss Sx Mx o := ⟨x.st.mono k, x.own.mono k, x.ho⟩
theorem St3.same {G : Store} {m m' cv cv' : Str → Option Value} {fss : List (List Fld)} {Sx Mx : List Nat} {o : Nat → Nat} (x : St3 G m cv fss Sx Mx o) (hm : SameL m m') (hc : SameC cv cv') : St3 G m' cv' fss Sx Mx o :=
  ⟨x.st.same hm hc.toS, by rw [hc _ (by decide +kernel)]; exact x.own, x.ho⟩
theorem SameL.trans {a b c : Str → Option Value} (h : SameL a b) (h' : SameL b c) : SameL a c := fun x hx => (h' x hx).trans (h x hx)
theorem RdL.len_map {α : Type} {G : Store} {vs : List Value} {l : List α} {f : α → Dat} (h : RdL G vs (l.map f)) : vs.length = l.length := by rw [h.length, List.length_map]

def lS2 (j : Nat) : Stmt := (forBody (lawS 12)).getD j (.Pass default)
section
variable {s0 s : Shared} {G0 G : Store} {L : Addr} {m cv : Str → Option Value} {mu rest : List (Addr × It)} {prog : Program} {w : World} {A : Around} {env : Env} {n : Nat} {Q : Flow → Shared → Prop}

/-- own[k] -/
theorem ldOwn {i : Nat} {t : Tok} {c : Nat} {o : Nat → Nat} {px py pos : Pos} {E : Value → Shared → Prop} {Q : Value → Shared → Prop} (e : LEnv env L) (I : In [] [] s0 G0 G L m mu s) (hI : CellsIn L cv mu) (hW : LstAt G (cv ("own" : Str)) ((List.range c).map fun i => .int (o i : Nat))) (hk : cv ("k" : Str) = some (.int i t)) (hi : i < c) (hc : c < 2 ^ 20)
    (h : ∀ u, Q (.int (o i : Nat) u) s) : wpAny (model prog w) A (eval (.Subscript (.Name ("own" : Str) px) (.Name ("k" : Str) py) pos) env) Q E s := by
  obtain ⟨W, ws, kW, cW, hWg, rW⟩ := hW
  obtain ⟨x, hx, rx⟩ := rW.get (k := i) (d := .int (o i : Nat)) (by rw [List.getElem?_map, List.getElem?_range hi]; rfl)
  cases rx with
  | int _ u => exact Subscript_ (ldCell e I hI (by kernel_rfl) rfl cW (ldCell e I hI (by kernel_rfl) rfl hk (itemL (I.sub _ _ hWg) (by omega) hx (h u) rfl)))

theorem c0 {fss : List (List Fld)} {Sx Mx : List Nat} {o : Nat → Nat} {i : Nat} {t : Tok} (e : LEnv env L) (hA : AOk A [env] (n + 8)) (P : PG w G) (X : St3 G m cv fss Sx Mx o) (I : In [] [] s0 G0 G L m mu s) (hI : CellsIn L cv mu) (hk : cv ("k" : Str) = some (.int i t)) (hi : i < fss.length)
    (hQ : ∀ G' r s', LeS G G' → Rd G' r (flD fss i) → In [] [] s0 G0 G' L (upd m ("told" : Str) r) mu s' → Q .next s') : wpK (model prog w) A (exec (lS2 0) env) Q (fun _ _ => False) s := by
  refine wpK_Assign_Name (callGlK e.toEnvOk I.sub P (by kernel_rfl) (f := 44) (by decide +kernel) P.fcmp rfl (splicedK_cons (wpK_of (ldText e I hI X.st.base hk hi fun v rv => splicedK_nil ⟨⟨G, .refl _, I.sub⟩, ?_⟩))))
  refine key_at X.st.base.ok hi A [env] n G _ v _ _ (hA.le (by omega)) (I.okE e) P rv fun r s' G' hst rr => ?_
  replace I := I.calledE e.frame hst
  exact wpK_of (stLs e.toEnvOk I (by kernel_rfl) fun s'' I => hQ _ _ _ hst.le rr I)

theorem c1 {fss : List (List Fld)} {Sx Mx : List Nat} {o : Nat → Nat} {i : Nat} {t : Tok} {r : Value} (e : LEnv env L) (hA : AOk A [env] (n + 8)) (P : PG w G) (X : St3 G m cv fss Sx Mx o) (I : In [] [] s0 G0 G L m mu s) (hI : CellsIn L cv mu) (hk : cv ("k" : Str) = some (.int i t)) (hi : i < fss.length) (mT : m ("told" : Str) = some r) (rr : Rd G r (flD fss i))
    (hQ : ∀ G' s', LeS G G' → In [] [] s0 G0 G' L m mu s' → Q .next s') : wpK (model prog w) A (exec (lS2 1) env) Q (fun _ _ => False) s := by
  have hlen := X.st.base.len
  have hml := X.st.ml
  have hu := hA.units
  have hf := X.st.base.ok
  obtain ⟨R, rs, kR, cR, hR, rR⟩ := X.st.ranks
  obtain ⟨x, hx, rx⟩ := rR.get (map_at rankD hi)
  rw [rankD_eq (fss_ok hf hi)] at rx
  refine wpK_If (wpK_isTrue_Or2 (wpK_isTrue_Compare1 (wpK_of (ldL e.toEnvOk I (by kernel_rfl) mT ?_))))
  refine callGlK e.toEnvOk I.sub P (by kernel_rfl) (f := 105) (by decide +kernel) P.fflat rfl (splicedK_cons (wpK_of (Subscript_ (ldCell e I hI (by kernel_rfl) rfl cR (ldCell e I hI (by kernel_rfl) rfl hk (itemL (I.sub _ _ hR) (by omega) hx (splicedK_nil ⟨⟨G, .refl _, I.sub⟩, ?_⟩) rfl))))))
  have fp := flatPs (keyF (fss.getD i []))
  rw [← fp.1] at rx
  refine wpK_of (flat_spec (n := n) (hA.le (by omega)) (I.okE e) P rx (by rw [List.length_map]; unfold keyF; rw [List.length_map]; have := (fss_ok hf hi).len; omega) fun r2 s2 G2 hst r2r => ?_)
  rw [fp.2] at r2r
  replace I := I.calledE e.frame hst
  refine wpK_of (neSame (n := 1) I.sub (rr.mono hst.le) r2r (flatD_ok (keyOf_low hf i) 0) (by unfold flD; nofun) (by intro ds; unfold flD; nofun) (by show A.units + 1 < 9900; omega) (wpK_of (wpAny_truthy_bool ?_)))
  rw [if_neg (by simp)]
  have X2 := X.mono hst.le
  have P2 := P.mono hst.le
  obtain ⟨M, ms, kM, mM, hM, rM⟩ := X2.st.marks
  refine wpK_isTrue_Compare1 (callGlK e.toEnvOk I.sub P2 (by kernel_rfl) (f := 70) (by decide +kernel) P2.fbr rfl (splicedK_cons (wpK_of (ldL e.toEnvOk I (by kernel_rfl) mM (splicedK_cons (wpK_of (ldL e.toEnvOk I (by kernel_rfl) mT (splicedK_nil ⟨⟨G2, .refl _, I.sub⟩, ?_⟩))))))))
  have hMf : M ∉ frs (env :: ([] : List Env)) := by
    have efr : frs (env :: ([] : List Env)) = [L] := by simp [frs, e.frame]
    rw [efr]; simp; exact fun q => by rw [q, I.gL] at hM; cases hM
  refine wpK_of (br_spec (n := n) (fun j => decide (o i < j)) (hA.le (by omega)) (I.okE e) P2 (I.sub _ _ hM) hMf rM (rr.mono hst.le) ?_ (flatD_ok (keyOf_low hf i) 7) ?_ ?_ (by rw [List.length_map]; omega) ?_)
  · intro d hd
    obtain ⟨a, _, rfl⟩ := List.mem_map.mp hd
    exact hdD_ok hf a 7
  · intro j d hd
    obtain ⟨hj, rfl⟩ := map_get hd
    have := own_right X.st.hM X.ho hi hj
    unfold flD hdD
    rw [ltD, lt_flat _ _ (keyOf_low hf i) (hdD_low hf _), this]
  · intro a b hab ha
    simp only [decide_eq_true_eq] at ha ⊢; omega
  · intro q t' s3 G3 hq q1 q2 hst3
    rw [List.length_map] at hq q2
    have hoi := X.ho.lt i hi
    have hqe : q = o i + 1 := by
      have a1 : o i < q := by
        apply Classical.byContradiction
        intro hh
        have := q2 (o i) (by omega) hoi
        simp at this
      have a2 := q1 (q - 1) (by omega)
      simp only [decide_eq_false_iff_not] at a2
      omega
    replace I := I.calledE e.frame hst3
    have X3 := X2.mono hst3.le
    refine wpK_of (wpAny_BinOp (ldOwn e I hI X3.own hk hi (by omega) fun u => cInt I fun t1 s4 I => addI I fun t2 s5 I => wpK_of (PyProof.Rows.ne_int (wpK_of (wpAny_truthy_bool ?_)))))
    have : ((q : Int) != ((o i : Nat) : Int) + 1) = false := by rw [hqe]; simp
    rw [this]
    exact wpK_execs_nil (hQ G3 s5 (hst.le.trans hst3.le) I)

theorem c2 {fss : List (List Fld)} {Sx Mx : List Nat} {o : Nat → Nat} {i : Nat} {t : Tok} {r : Value} (e : LEnv env L) (hA : AOk A [env] (n + 8)) (P : PG w G) (X : St3 G m cv fss Sx Mx o) (I : In [] [] s0 G0 G L m mu s) (hI : CellsIn L cv mu) (hk : cv ("k" : Str) = some (.int i t)) (hi : i < fss.length) (mT : m ("told" : Str) = some r) (rr : Rd G r (flD fss i))
    (hQ : ∀ G' s', LeS G G' → In [] [] s0 G0 G' L m mu s' → Q .next s') : wpK (model prog w) A (exec (lS2 2) env) Q (fun _ _ => False) s := by
  have hlen := X.st.base.len
  have hml := X.st.ml
  have hu := hA.units
  have hf := X.st.base.ok
  obtain ⟨M, ms, kM, mM, hM, rM⟩ := X.st.marks
  have hMf : M ∉ frs (env :: ([] : List Env)) := by
    have efr : frs (env :: ([] : List Env)) = [L] := by simp [frs, e.frame]
    rw [efr]; simp; exact fun q => by rw [q, I.gL] at hM; cases hM
  refine wpK_If (wpK_isTrue_Compare1 (callGlK e.toEnvOk I.sub P (by kernel_rfl) (f := 79) (by decide +kernel) P.fbl rfl (splicedK_cons (wpK_of (ldL e.toEnvOk I (by kernel_rfl) mM (splicedK_cons (wpK_of (ldL e.toEnvOk I (by kernel_rfl) mT (splicedK_nil ⟨⟨G, .refl _, I.sub⟩, ?_⟩)))))))))
  refine wpK_of (bl_spec (n := n) (fun j => decide (j < o i ∨ (j = o i ∧ 3 < (keyOf fss i).length))) (hA.le (by omega)) (I.okE e) P (I.sub _ _ hM) hMf rM rr ?_ (flatD_ok (keyOf_low hf i) 7) ?_ ?_ (by rw [List.length_map]; omega) ?_)
  · intro d hd
    obtain ⟨a, _, rfl⟩ := List.mem_map.mp hd
    exact hdD_ok hf a 7
  · intro j d hd
    obtain ⟨hj, rfl⟩ := map_get hd
    have := own_left X.st.hM X.ho hi hj
    unfold flD hdD
    rw [ltD, lt_flat _ _ (hdD_low hf _) (keyOf_low hf i), this]
  · intro a b hab hb
    simp only [decide_eq_true_eq] at hb ⊢; omega
  · intro q t' s3 G3 hq q1 q2 hst3
    rw [List.length_map] at hq q2
    have hoi := X.ho.lt i hi
    have hqe : q = o i + (if 3 < (keyOf fss i).length then 1 else 0) := by
      have a1 : o i ≤ q := by
        apply Classical.byContradiction
        intro hh
        have := q2 q (Nat.le_refl _) (by omega)
        simp at this
        omega
      by_cases h3 : 3 < (keyOf fss i).length
      · rw [if_pos h3]
        have a3 : o i < q := by
          apply Classical.byContradiction
          intro hh
          have := q2 (o i) (by omega) hoi
          simp [h3] at this
        have a2 := q1 (q - 1) (by omega)
        simp only [decide_eq_true_eq] at a2
        omega
      · rw [if_neg h3]
        by_cases h4 : o i < q
        · have a2 := q1 (q - 1) (by omega)
          simp only [decide_eq_true_eq] at a2
          omega
        · omega
    replace I := I.calledE e.frame hst3
    have X3 := X.mono hst3.le
    obtain ⟨R, rs, kR, cR, hR, rR⟩ := X3.st.ranks
    obtain ⟨x, hx, rx⟩ := rR.get (map_at rankD hi)
    have hkl : (keyOf fss i).length = (fss.getD i []).length := by unfold keyOf keyF; rw [List.length_map]
    have hfl := (fss_ok hf hi).len
    cases rx with
    | list hF rF =>
    rename_i fa fv fk
    have hfv : fv.length = (fss.getD i []).length := by rw [rF.length, List.length_map]
    refine wpK_of (wpAny_BinOp (ldOwn e I hI X3.own hk hi (by omega) fun u => wpAny_IfExp (wpAny_isTrue_Compare1 (callB1 e.toEnvOk I.sub (P.mono hst3.le) (by kernel_rfl) (id := "len") (by decide +kernel) (fun _ => rfl) (Subscript_ (ldCell e I hI (by kernel_rfl) rfl cR (ldCell e I hI (by kernel_rfl) rfl hk (itemL (I.sub _ _ hR) (by omega) hx ?_ rfl))))))))
    refine len_list (isL (I.sub _ _ hF)) (by simp; omega) ?_
    replace I := I.tok (s3.toks + 1 + 1)
    refine cInt I fun t1 s4 I => PyProof.Rows.gt_int (wpAny_truthy_bool ?_)
    have hsz : (fv.toArray.size : Int) = ((keyOf fss i).length : Int) := by rw [hkl, ← hfv]; simp
    rw [hsz]
    by_cases h3 : 3 < (keyOf fss i).length
    · rw [if_pos h3] at hqe
      rw [if_pos (by simp; omega)]
      refine cInt I fun t2 s5 I => addI I fun t3 s6 I => wpK_of (PyProof.Rows.ne_int (wpK_of (wpAny_truthy_bool ?_)))
      have : ((q : Int) != ((o i : Nat) : Int) + 1) = false := by rw [hqe]; simp
      rw [this]
      exact wpK_execs_nil (hQ G3 s6 hst3.le I)
    · rw [if_neg h3] at hqe
      rw [if_neg (by simp; omega)]
      refine cInt I fun t2 s5 I => addI I fun t3 s6 I => wpK_of (PyProof.Rows.ne_int (wpK_of (wpAny_truthy_bool ?_)))
      have : ((q : Int) != ((o i : Nat) : Int) + 0) = false := by rw [hqe]; simp
      rw [this]
      exact wpK_execs_nil (hQ G3 s6 hst3.le I)

theorem law12 {fss : List (List Fld)} {Sx Mx : List Nat} {o : Nat → Nat} (e : LEnv env L) (hA : AOk A [env] (n + 8)) (P : PG w G) (X : St3 G m cv fss Sx Mx o) (I : In [] [] s0 G0 G L m (cellsMu L cv) s)
    (hQ : ∀ G' m' cv' s', LeS G G' → SameL m m' → SameC cv cv' → In [] [] s0 G0 G' L m' (cellsMu L cv') s' → Q .next s') : wpK (model prog w) A (exec (lawS 12) env) Q (fun _ _ => False) s := by
  have hh := hA.handled
  have hlen := X.st.base.len
  obtain ⟨V, vs, kV, mV, hV, rV⟩ := X.st.vers
  have hvl := rV.len_map
  refine wpK_For (callTypeGlK e.toEnvOk I.sub P (by kernel_rfl) (T := "range") (by decide +kernel) rfl rfl (splicedK_cons (wpK_of (callB1 e.toEnvOk I.sub P (by kernel_rfl) (id := "len") (by decide +kernel) (fun _ => rfl) (ldL e.toEnvOk I (by kernel_rfl) mV (len_list (isL (I.sub _ _ hV)) (by simp; omega) (splicedK_nil ?_)))))))
  rw [show vs.toArray.size = fss.length by simp [hvl]]
  replace I := I.tok (s.toks + 1 + 1)
  refine wpK_of (callRange I fun r o s1 ho I => wpK_of (iterRange (by omega) ho I fun J s2 I => ?_))
  refine forSrcK (Src.range hh) (fun i v G' _ _ m' mu' => SameL m m' ∧ ∃ cv', mu' = cellsMu L cv' ∧ SameC cv cv' ∧ cv' ("k" : Str) = some v) (fun i G' m' mu' => SameL m m' ∧ ∃ cv', mu' = cellsMu L cv' ∧ SameC cv cv') (fun i v G' m mu s Q' _ _ _ hq => wpAny_pure hq) ?_ ?_ I ⟨SameL.refl _, cv, rfl, fun _ _ => rfl⟩ ?_
  · rintro i v G' m1 mu1 s3 Q' hi _ hle ⟨h0, cv', rfl, h1⟩ I hq
    exact wpAny_assign_Name (stCell' (pre := [(J, rIter fss.length (i + 1))]) e I (by kernel_rfl) rfl fun s4 I => hq _ _ _ ⟨h0, _, rfl, h1.upd, upd_same⟩ I)
  · rintro i v G' m1 mu1 m2 mu2 s3 hi ⟨t, rfl⟩ hle _ ⟨h0, cv', rfl, h1, hk⟩ I
    have X' := (X.mono hle).same h0 h1
    have hI : CellsIn L cv' ((J, rIter fss.length (i + 1)) :: cellsMu L cv') := CellsIn.refl.tail
    show wpK _ A (execs [lS2 0, lS2 1, lS2 2] env) _ _ s3
    refine wpK_execs_cons (c0 e hA (P.mono hle) X' I hI hk hi fun G3 r s4 hle3 rr I => ?_)
    have hm3 : SameL m2 (upd m2 ("told" : Str) r) := SameL.upd (by decide +kernel)
    have X3 := (X'.mono hle3).same hm3 (fun _ _ => rfl)
    refine wpK_execs_cons (c1 e hA (P.mono (hle.trans hle3)) X3 I hI hk hi upd_same rr fun G4 s5 hle4 I => ?_)
    refine wpK_execs_cons (c2 e hA (P.mono (hle.trans (hle3.trans hle4))) (X3.mono hle4) I hI hk hi upd_same (rr.mono hle4) fun G5 s6 hle5 I => wpK_execs_nil ?_)
    exact ⟨rfl, G5, _, _, hle3.trans (hle4.trans hle5), ⟨h0.trans hm3, cv', rfl, h1⟩, I⟩
  · rintro G' m' mu' s3 hle ⟨h0, cv', rfl, h1⟩ I
    exact hQ G' m' cv' s3 hle h0 h1 I
end
end Mine

end
section
open PySem PySem.W PyProof.Rows PySem.Calls PySem.NumText PySem.SeqAt
namespace Mine

theorem ltD_fh {fss : List (List Fld)} (hf : ∀ fs ∈ fss, FsOk fs) (i j : Nat) : ltD (flD fss i) (hdD fss j) = some (ltN (keyOf fss i) (hd3 (keyOf fss) j)) := by
  unfold flD hdD
  rw [ltD, lt_flat _ _ (keyOf_low hf i) (hdD_low hf j)]
/-- the cuts -/
def cutsD (o : Nat → Nat) (Sx Mx : List Nat) : List Dat := (List.range (Mx.length + 1)).map fun j => .int (cutN o Sx j : Nat)

section
variable {s0 s : Shared} {G0 G : Store} {L : Addr} {m cv : Str → Option Value} {mu rest : List (Addr × It)} {prog : Program} {w : World} {A : Around} {env : Env} {n : Nat} {Q : Flow → Shared → Prop}

theorem law13 {fss : List (List Fld)} {Sx Mx : List Nat} {o : Nat → Nat} (e : LEnv env L) (hA : AOk A [env] (n + 8)) (P : PG w G) (X : St3 G m cv fss Sx Mx o) (I : In [] [] s0 G0 G L m (cellsMu L cv) s)
    (hQ : ∀ G' C s', LeS G G' → LstAt G' (some C) (cutsD o Sx Mx) → In [] [] s0 G0 G' L (upd m ("cuts" : Str) C) (cellsMu L cv) s' → Q .next s') : wpK (model prog w) A (exec (lawS 13) env) Q (fun _ _ => False) s := by
  have hh := hA.handled
  have hlen := X.st.base.len
  have hml := X.st.ml
  have hf := X.st.base.ok
  have hSl := X.st.hS.length
  have hom := own_mono X.st.hS X.st.hM X.ho
  obtain ⟨M, ms, kM, mM, hM, rM⟩ := X.st.marks
  obtain ⟨S, ss, kS, cS, hS, rS⟩ := X.st.shelf
  have hmsl := rM.len_map
  have hssl := rS.len_map
  refine wpK_Assign_Name (wpK_BinOp ?_)
  refine compE (cl := [(("shelf" : Str), L + 4)]) (outer := []) (s0 := s0) (G0 := G0) (L := L) (by rw [e.eta]; kernel_rfl) (by decide) rfl (by decide +kernel) ?_
  refine wpK_of (ldL e.toEnvOk I (by kernel_rfl) mM (iterList I hM fun J s1 I => ?_))
  refine ⟨J, lIter M, ms.length, _, G, m, _, _, fun _ => true, fun j => .int (cutN o Sx j : Nat), rfl, Src.list hh hM, by omega, Job.name rfl (by kernel_rfl) ?_, I, fun G' hle D ys kd s2 I rys => ?_⟩
  · intro j v C D G1 mC ys kd s2 hj hvj hle hC I
    obtain ⟨d, hd, rd⟩ := rM.at hvj
    obtain ⟨hj', rfl⟩ := map_get hd
    have P1 := P.mono hle
    refine callGlKwKE rfl (by rw [e.eta]; kernel_rfl) e.globals e.builtins I.sub P1 (f := 79) (by decide +kernel) P1.fbl rfl rfl ?_
    refine splicedK_cons (wpK_of (ldE (c := L + 4) rfl (by rw [e.eta]; kernel_rfl) rfl rfl I CellsIn.refl.tail.tail.tail cS (splicedK_cons (wpK_of (ldC rfl (by kernel_rfl) I hC (splicedK_nil ?_))))))
    refine wpK_of (wpAny_evalAll_cons (wpAny_bind (ldGlE rfl (by rw [e.eta]; kernel_rfl) e.globals e.builtins I.sub P1 (v := .ref 44) (by decide +kernel) (wpAny_bind (wpAny_standAt (wpAny_pure (wpAny_evalAll_nil ?_)))))))
    refine ⟨⟨G1, .refl _, I.sub⟩, ?_⟩
    have hSf : S ∉ frs (env :: ([] : List Env)) := by
      have efr : frs (env :: ([] : List Env)) = [L] := by simp [frs, e.frame]
      rw [efr]; simp; exact fun q => by have := hle _ _ hS; rw [q, I.gL] at this; cases this
    refine blkK (n := n) (fun i => decide (i < cutN o Sx j)) (hA.le (by omega)) (I.okE e) P1 (I.sub _ _ (hle _ _ hS)) hSf (rS.mono hle) (rd.mono hle) (hdD_ok hf _ 7) ?_ ?_ (by rw [List.length_map]; omega) ?_
    · intro i d hd
      obtain ⟨hi, rfl⟩ := map_get hd
      have hlt := X.st.lt hi
      refine ⟨flD fss (Sx.getD i 0), key_at hf hlt, flatD_ok (keyOf_low hf _) 7, ?_⟩
      rw [ltD_fh hf, own_right X.st.hM X.ho hlt hj']
      have := cutN_spec hom (j := j) i hi
      simp only [this]
    · intro a b hab hb
      simp only [decide_eq_true_eq] at hb ⊢; omega
    · intro q t' s3 G3 hq q1 q2 hst
      rw [List.length_map] at hq q2
      have hcl := cutN_le o Sx j
      have hqe : q = cutN o Sx j := by
        rcases Nat.lt_trichotomy q (cutN o Sx j) with h | h | h
        · have := q2 q (Nat.le_refl _) (by omega)
          simp at this; omega
        · exact h
        · have := q1 (cutN o Sx j) h
          simp at this
      refine ⟨G3, hst.le, I.calledE e.frame hst, ?_⟩
      rw [hqe]; exact .int _ _
  · rw [emit_all, hmsl] at rys
    refine wpK_of (wpAny_List (spl_cons rfl (callB1 e.toEnvOk I.sub (P.mono hle) (by kernel_rfl) (id := "len") (by decide +kernel) (fun _ => rfl) (ldCell e I CellsIn.refl.tail (by kernel_rfl) rfl cS (len_list (isL (I.sub _ _ (hle _ _ hS))) (by simp; omega) (spl_nil ⟨by simp [sizeLine_eq], ?_⟩))))))
    rw [show ss.toArray.size = Sx.length by simp [hssl]]
    replace I := I.tok (s2.toks + 1 + 1)
    have hDo := I.head_at
    have I2 := I.alloc (lstO [.int (Sx.length : Nat) (s2.toks + 1)] 0) (s2.toks + 1 + 1)
    refine wpK_of (addL I2 I2.swap.head_at I2.head_at (by rw [rys.length]; simp; omega) fun R s3 I => ?_)
    replace I := I.drop (mu' := obL R (ys ++ [.int (Sx.length : Nat) (s2.toks + 1)]) 0 :: cellsMu L cv) (.cons_cons _ (.cons _ (.cons _ (.refl _))))
    have hl2 := Store.le_put (o := lstO (ys ++ [.int (Sx.length : Nat) (s2.toks + 1)]) 0) I.head_none
    have hR : (G'.put R (lstO (ys ++ [.int (Sx.length : Nat) (s2.toks + 1)]) 0)) R = some (lstO (ys ++ [.int (Sx.length : Nat) (s2.toks + 1)]) 0) := Store.put_self _ _ _
    replace I := I.frz
    refine wpK_of (stLs e.toEnvOk I (by kernel_rfl) fun s4 I => hQ _ (.ref R) s4 (hle.trans hl2) ⟨R, _, _, rfl, hR, ?_⟩ I)
    unfold cutsD
    rw [List.range_succ, List.map_append]
    refine (rys.mono hl2).append (.cons ?_ .nil)
    have : cutN o Sx Mx.length = Sx.length := cutN_all fun x hx => X.ho.lt x (by have := X.st.hS.perm.mem_iff.mp hx; simpa using this)
    show Rd _ _ (.int (cutN o Sx Mx.length : Nat))
    rw [this]
    exact .int _ _

def lS3 (j : Nat) : Stmt := (forBody (lawS 14)).getD j (.Pass default)
theorem d0 {fss : List (List Fld)} {Sx Mx : List Nat} {o : Nat → Nat} {k : Nat} {t : Tok} (e : LEnv env L) (hA : AOk A [env] (n + 8)) (X : St3 G m cv fss Sx Mx o) (hC : LstAt G (m ("cuts" : Str)) (cutsD o Sx Mx)) (I : In [] [] s0 G0 G L m mu s) (hI : CellsIn L cv mu) (hk : cv ("k" : Str) = some (.int k t)) (hkl : k < Mx.length)
    (hQ : ∀ G' s', LeS G G' → In [] [] s0 G0 G' L m mu s' → Q .next s') : wpK (model prog w) A (exec (lS3 0) env) Q (fun _ _ => False) s := by
  have hh := hA.handled
  have hlen := X.st.base.len
  have hml := X.st.ml
  have hf := X.st.base.ok
  have hu := hA.units
  have hSl := X.st.hS.length
  have hom := own_mono X.st.hS X.st.hM X.ho
  obtain ⟨S, ss, kS, cS, hS, rS⟩ := X.st.shelf
  obtain ⟨C, cs, kC, mC0, hCg, rC⟩ := hC
  obtain ⟨O, os, kO, mO, hO, rO⟩ := X.st.order
  obtain ⟨T, ts, kT, cT, hT, rT⟩ := X.st.base.texts
  obtain ⟨W, ws, kW, cW, hWg, rW⟩ := X.own
  have hssl := rS.len_map
  have hol := rO.len_map
  obtain ⟨x1, hx1, rx1⟩ := rC.get (k := k) (d := .int (cutN o Sx k : Nat)) (by unfold cutsD; rw [List.getElem?_map, List.getElem?_range (by omega)]; rfl)
  obtain ⟨x2, hx2, rx2⟩ := rC.get (k := k + 1) (d := .int (cutN o Sx (k + 1) : Nat)) (by unfold cutsD; rw [List.getElem?_map, List.getElem?_range (by omega)]; rfl)
  cases rx1 with
  | int _ u1 =>
  cases rx2 with
  | int _ u2 =>
  refine wpK_If (wpK_isTrue_Compare1 (wpK_of (sliceNN (ldCell e I hI (by kernel_rfl) rfl cS ?_))))
  refine evalPart_some_step (Subscript_ (ldL e.toEnvOk I (by kernel_rfl) mC0 (ldCell e I hI (by kernel_rfl) rfl hk (itemL (I.sub _ _ hCg) (by omega) hx1 ?_ rfl))))
  refine evalPart_some_step (Subscript_ (ldL e.toEnvOk I (by kernel_rfl) mC0 (wpAny_BinOp (ldCell e I hI (by kernel_rfl) rfl hk (cInt I fun t2 s2 I => addI I fun t3 s3 I => ?_)))))
  rw [show (k : Int) + 1 = ((k + 1 : Nat) : Int) by push_cast; rfl]
  refine itemL (I.sub _ _ hCg) (by omega) hx2 ?_ rfl
  refine sliceTail I (I.sub _ _ hS) (.int _ u1) (.int _ u2) (by omega) fun R s4 I => ?_
  -- what the slice holds
  have hpk : pk (some ((cutN o Sx k : Nat) : Int)) (some ((cutN o Sx (k + 1) : Nat) : Int)) (Sx.map (txD fss)) = (Sx.filter fun i => decide (o i = k)).map (txD fss) := by
    have l1 := cutN_le o Sx k
    have l2 := cutN_le o Sx (k + 1)
    unfold pk
    simp only [Option.elim, clipAt_nat, List.length_map]
    rw [Nat.min_eq_left l1, Nat.min_eq_left l2, ← cutN_slice hom k, List.map_take, List.map_drop]
  have rS2 := rS.pk (some ((cutN o Sx k : Nat) : Int)) (some ((cutN o Sx (k + 1) : Nat) : Int))
  rw [hpk] at rS2
  generalize pk (some ((cutN o Sx k : Nat) : Int)) (some ((cutN o Sx (k + 1) : Nat) : Int)) ss = qs at I rS2
  have hl2 := Store.le_put (o := lstO qs 0) I.head_none
  have hR : (G.put R (lstO qs 0)) R = some (lstO qs 0) := Store.put_self _ _ _
  replace I := I.frz
  replace rS2 := rS2.mono hl2
  generalize G.put R (lstO qs 0) = G1 at I hl2 hR rS2
  refine compE (cl := [(("texts" : Str), L + 1), (("own" : Str), L + 7), (("k" : Str), L + 3)]) (outer := []) (s0 := s0) (G0 := G0) (L := L) (by rw [e.eta]; kernel_rfl) (by decide) rfl (by decide +kernel) ?_
  refine wpK_of (ldL e.toEnvOk I (by kernel_rfl) mO (iterList I (hl2 _ _ hO) fun J s5 I => ?_))
  refine ⟨J, lIter O, os.length, _, G1, m, _, fun i v _ mC => mC ("i" : Str) = some v, fun i => decide (o (Sx.getD i 0) = k), fun i => txD fss (Sx.getD i 0), rfl, Src.list hh (hl2 _ _ hO), by omega, ?_, I, fun G' hle D ys kd s6 I rys => ?_⟩
  · refine ⟨fun i v G' mu' s Q' _ _ _ hq => wpAny_pure hq, fun i v C G' mC mu' s Q' _ _ _ I hq => asgC rfl (by kernel_rfl) I fun s' I' => hq _ s' upd_same I', fun i v C D G' mC ys kd s Q' hi hvi hle hAm I hq => ?_, fun i v C D G' mC ys kd s hi hb hvi hle hAm I => ?_⟩
    · obtain ⟨d, hd, rd⟩ := rO.at hvi
      obtain ⟨hi', rfl⟩ := map_get hd
      have hlt := X.st.lt hi'
      cases rd with
      | int _ t1 =>
      obtain ⟨x, hx, rx⟩ := rW.get (k := Sx.getD i 0) (d := .int (o (Sx.getD i 0) : Nat)) (by rw [List.getElem?_map, List.getElem?_range hlt]; rfl)
      cases rx with
      | int _ u3 =>
      have hI3 : CellsIn L cv ((C, It.ns mC) :: (J, lIter O (i + 1)) :: (D, It.ob (lstO ys kd)) :: mu) := hI.tail.tail.tail
      refine wpAny_tests_one (wpAny_isTrue_Compare1 (Subscript_ (ldE (c := L + 7) rfl (by rw [e.eta]; kernel_rfl) rfl rfl I hI3 cW (ldC rfl (by kernel_rfl) I hAm (itemL (I.sub _ _ (hle _ _ (hl2 _ _ hWg))) (by omega) hx ?_ rfl)))))
      refine ldE (c := L + 3) rfl (by rw [e.eta]; kernel_rfl) rfl rfl I hI3 hk (PyProof.Rows.eq_int (wpAny_truthy_bool ?_))
      have : (((o (Sx.getD i 0) : Nat) : Int) == ((k : Nat) : Int)) = decide (o (Sx.getD i 0) = k) := by
        by_cases q : o (Sx.getD i 0) = k
        · rw [q]; simp
        · rw [decide_eq_false q]; simp only [beq_eq_false_iff_ne]; intro h; exact q (by exact_mod_cast h)
      rw [this]
      exact hq s I
    · obtain ⟨d, hd, rd⟩ := rO.at hvi
      obtain ⟨hi', rfl⟩ := map_get hd
      have hlt := X.st.lt hi'
      cases rd with
      | int _ t1 =>
      obtain ⟨x, hx, rx⟩ := rT.get (map_at (fun fs => Dat.str (textF fs)) hlt)
      refine wpK_of (Subscript_ (ldE (c := L + 1) rfl (by rw [e.eta]; kernel_rfl) rfl rfl I hI.tail.tail.tail cT (ldC rfl (by kernel_rfl) I hAm (itemL (I.sub _ _ (hle _ _ (hl2 _ _ hT))) (by omega) hx ?_ rfl))))
      exact ⟨G', .refl _, I, (rx.mono hl2).mono hle⟩
  · rw [emit_filter, hol] at rys
    have hfil : ((List.range Sx.length).filter fun i => decide (o (Sx.getD i 0) = k)).map (fun i => txD fss (Sx.getD i 0)) = (Sx.filter fun i => decide (o i = k)).map (txD fss) := by
      have h1 : ((List.range Sx.length).filter fun i => decide (o (Sx.getD i 0) = k)).map (fun i => Sx.getD i 0) = Sx.filter fun i => decide (o i = k) := by
        have h2 := range_getD Sx (fun i => i)
        conv => rhs; rw [show Sx = (List.range Sx.length).map (fun i => Sx.getD i 0) by rw [h2]; simp]
        rw [List.filter_map]
        rfl
      rw [← h1, List.map_map]
      rfl
    rw [hfil] at rys
    have hl3 := Store.le_put (o := lstO ys kd) I.head_none
    have hD : (G'.put D (lstO ys kd)) D = some (lstO ys kd) := Store.put_self _ _ _
    replace I := I.frz
    refine wpK_of (neSame (n := 1) I.sub (.list ((hle.trans hl3) _ _ hR) (rS2.mono (hle.trans hl3))) (.list hD (rys.mono hl3)) ?_ (by nofun) (by nofun) (by show A.units + 1 < 9900; omega) (wpK_of (wpAny_truthy_bool (wpK_execs_nil (hQ _ _ (hl2.trans (hle.trans hl3)) I)))))
    rw [kqdOk]
    refine List.all_eq_true.mpr fun d hd => ?_
    obtain ⟨i, hi, rfl⟩ := List.mem_map.mp hd
    have hi' : i < fss.length := by have := X.st.hS.perm.mem_iff.mp (List.mem_filter.mp hi).1; simpa using this
    exact textF_ok (fss_ok hf hi')

theorem law14 {fss : List (List Fld)} {Sx Mx : List Nat} {o : Nat → Nat} (e : LEnv env L) (hA : AOk A [env] (n + 8)) (P : PG w G) (X : St3 G m cv fss Sx Mx o) (hC : LstAt G (m ("cuts" : Str)) (cutsD o Sx Mx)) (I : In [] [] s0 G0 G L m (cellsMu L cv) s)
    (hQ : ∀ G' cv' s', LeS G G' → In [] [] s0 G0 G' L m (cellsMu L cv') s' → Q .next s') : wpK (model prog w) A (exec (lawS 14) env) Q (fun _ _ => False) s := by
  have hh := hA.handled
  have hlen := X.st.base.len
  have hml := X.st.ml
  obtain ⟨M, ms, kM, mM, hM, rM⟩ := X.st.marks
  have hmsl := rM.len_map
  refine wpK_For (callTypeGlK e.toEnvOk I.sub P (by kernel_rfl) (T := "range") (by decide +kernel) rfl rfl (splicedK_cons (wpK_of (callB1 e.toEnvOk I.sub P (by kernel_rfl) (id := "len") (by decide +kernel) (fun _ => rfl) (ldL e.toEnvOk I (by kernel_rfl) mM (len_list (isL (I.sub _ _ hM)) (by simp; omega) (splicedK_nil ?_)))))))
  rw [show ms.toArray.size = Mx.length by simp [hmsl]]
  replace I := I.tok (s.toks + 1 + 1)
  refine wpK_of (callRange I fun r o' s1 ho I => wpK_of (iterRange (by omega) ho I fun J s2 I => ?_))
  refine forSrcK (Src.range hh) (fun i v G' _ _ m' mu' => m' = m ∧ ∃ cv', mu' = cellsMu L cv' ∧ SameC cv cv' ∧ cv' ("k" : Str) = some v) (fun i G' m' mu' => m' = m ∧ ∃ cv', mu' = cellsMu L cv' ∧ SameC cv cv') (fun i v G' m mu s Q' _ _ _ hq => wpAny_pure hq) ?_ ?_ I ⟨rfl, cv, rfl, fun _ _ => rfl⟩ ?_
  · rintro i v G' m1 mu1 s3 Q' hi _ hle ⟨rfl, cv', rfl, h1⟩ I hq
    exact wpAny_assign_Name (stCell' (pre := [(J, rIter Mx.length (i + 1))]) e I (by kernel_rfl) rfl fun s4 I => hq _ _ _ ⟨rfl, _, rfl, h1.upd, upd_same⟩ I)
  · rintro i v G' m1 mu1 m2 mu2 s3 hi ⟨t, rfl⟩ hle _ ⟨rfl, cv', rfl, h1, hk⟩ I
    have X' := (X.mono hle).same (SameL.refl _) h1
    show wpK _ A (execs [lS3 0] env) _ _ s3
    exact wpK_execs_cons (d0 e hA X' (hC.mono hle) I CellsIn.refl.tail hk hi fun G3 s4 hle3 I => wpK_execs_nil ⟨rfl, G3, _, _, hle3, ⟨rfl, cv', rfl, h1⟩, I⟩)
  · rintro G' m' mu' s3 hle ⟨rfl, cv', rfl, h1⟩ I
    exact hQ G' cv' s3 hle I
end
end Mine

end
section
open PySem PySem.W PyProof.Rows PySem.Calls PySem.NumText PySem.SeqAt
namespace Mine
section
variable {s : Shared} {G : Store} {prog : Program} {w : World} {A : Around} {n : Nat}

set_option maxHeartbeats 4000000 in
/-- the law, called -/
theorem lawK {a : Addr} {ob : Obj} {pm cd doc v : Value} {ns : List Int} {R : Result → Shared → Prop} (hA : AOk A [] (n + 9)) (O : Ok [] G s) (P : PG w G) (ho : s.heap.get? a = some ob)
    (hdata : ob.data = .func { docDef (fdName (stm 15)) (fdParams (stm 15)) (fdBody (stm 15)) lawSc pm cd doc with defaults := .none, kwdefaults := .none }) (hcd : s.heap.CodeRec cd (fdName (stm 15)))
    (hv : Rd G v (.list (ns.map Dat.int))) (hl : ns.length < 2 ^ 10) (hR : ∀ s' G', Step [] [] G s G' s' → R (.ok (.ret (.bool true))) s') : codeK (model prog w) A (.call (.ref a) ⟨[v], []⟩) R s := by
  refine enterLaw (n := n + 8) hA O P ho hdata hcd fun env s₁ A' L m e hA' hm I => ?_
  have hh := hA'.handled
  show wpK _ A' (execs [lawS 0, lawS 1, lawS 2, lawS 3, lawS 4, lawS 5, lawS 6, lawS 7, lawS 8, lawS 9, lawS 10, lawS 11, lawS 12, lawS 13, lawS 14, lawS 15] env) _ _ s₁
  refine wpK_execs_cons (law0 (n := n + 6) e hA' P I hm hv hl fun V vs kV G1 s1 hle1 hV rV I => ?_)
  obtain ⟨hn5, hn9⟩ := lawVers_len ns
  have hf := lawVers_ok ns
  generalize versFrom [] (lawXs ns) = fss at rV hn5 hn9 hf
  generalize hcv : (fun _ => none : Str → Option Value) = cv0 at I
  have mV : (upd m ("versions" : Str) (.ref V)) ("versions" : Str) = some (.ref V) := upd_same
  generalize upd m ("versions" : Str) (.ref V) = m1 at I mV
  refine wpK_execs_cons (law1 e hh hf hn9 I mV hV rV fun T ts kT G2 s2 hle2 hT rT I => ?_)
  refine wpK_execs_cons (law2 e hh hf hn9 I mV (hle2 _ _ hV) (rV.mono hle2) fun R2 rs kR G3 s3 hle3 hR2 rR I => ?_)
  have cT : upd (upd cv0 ("texts" : Str) (.ref T)) ("ranks" : Str) (.ref R2) ("texts" : Str) = some (.ref T) := upd_to (by decide +kernel) upd_same
  have cR : upd (upd cv0 ("texts" : Str) (.ref T)) ("ranks" : Str) (.ref R2) ("ranks" : Str) = some (.ref R2) := upd_same
  generalize upd (upd cv0 ("texts" : Str) (.ref T)) ("ranks" : Str) (.ref R2) = cv1 at I cT cR
  have P3 := P.mono (hle1.trans (hle2.trans hle3))
  refine wpK_execs_cons (law3 (n := n + 6) e hA' P3 hf hn9 hn5 I cR hR2 rR fun O1 os kO Sx G4 s4 hSx hle4 hO rO I => ?_)
  have mV2 : upd m1 ("order" : Str) (.ref O1) ("versions" : Str) = some (.ref V) := upd_to (by decide +kernel) mV
  have mO2 : upd m1 ("order" : Str) (.ref O1) ("order" : Str) = some (.ref O1) := upd_same
  generalize upd m1 ("order" : Str) (.ref O1) = m2 at I mV2 mO2
  refine wpK_execs_cons (law4 e hh I fun S D M N s5 I => ?_)
  have mV3 : upd (upd m2 ("dividers" : Str) (.ref D)) ("marks" : Str) (.ref M) ("versions" : Str) = some (.ref V) := upd_to (by decide +kernel) (upd_to (by decide +kernel) mV2)
  have mO3 : upd (upd m2 ("dividers" : Str) (.ref D)) ("marks" : Str) (.ref M) ("order" : Str) = some (.ref O1) := upd_to (by decide +kernel) (upd_to (by decide +kernel) mO2)
  have mD3 : upd (upd m2 ("dividers" : Str) (.ref D)) ("marks" : Str) (.ref M) ("dividers" : Str) = some (.ref D) := upd_to (by decide +kernel) upd_same
  have mM3 : upd (upd m2 ("dividers" : Str) (.ref D)) ("marks" : Str) (.ref M) ("marks" : Str) = some (.ref M) := upd_same
  generalize upd (upd m2 ("dividers" : Str) (.ref D)) ("marks" : Str) (.ref M) = m3 at I mV3 mO3 mD3 mM3
  have cT3 : upd (upd cv1 ("shelf" : Str) (.ref S)) ("norms" : Str) (.ref N) ("texts" : Str) = some (.ref T) := upd_to (by decide +kernel) (upd_to (by decide +kernel) cT)
  have cR3 : upd (upd cv1 ("shelf" : Str) (.ref S)) ("norms" : Str) (.ref N) ("ranks" : Str) = some (.ref R2) := upd_to (by decide +kernel) (upd_to (by decide +kernel) cR)
  have cS3 : upd (upd cv1 ("shelf" : Str) (.ref S)) ("norms" : Str) (.ref N) ("shelf" : Str) = some (.ref S) := upd_to (by decide +kernel) upd_same
  have cN3 : upd (upd cv1 ("shelf" : Str) (.ref S)) ("norms" : Str) (.ref N) ("norms" : Str) = some (.ref N) := upd_same
  generalize upd (upd cv1 ("shelf" : Str) (.ref S)) ("norms" : Str) (.ref N) = cv3 at I cT3 cR3 cS3 cN3
  have hle34 := hle3.trans hle4
  have hle24 := hle2.trans hle34
  have B : Base G4 cv3 fss := ⟨hf, hn9, T, ts, kT, cT3, hle34 _ _ hT, rT.mono hle34⟩
  have P4 := P3.mono hle4
  refine wpK_execs_cons (law5 (n := n) e hA' P4 B mV3 mM3 mD3 cN3 cS3 (hle24 _ _ hV) (rV.mono hle24) I fun G5 m5 cv5 ns5 ms5 ds5 ss5 kN5 kM5 kD5 kS5 Sx' Mx s6 hle5 hm5 hc5 hSx' hMx hml gN gM gD gS rN rM rD rS I => ?_)
  have hSS : Sx' = Sx := hSx'.eq hSx
  subst hSS
  have X5 : St G5 m5 cv5 fss Sx' Mx := by
    refine ⟨(B.mono hle5).same hc5, ⟨R2, rs, kR, by rw [hc5 _ (by decide +kernel)]; exact cR3, (hle4.trans hle5) _ _ hR2, rR.mono (hle4.trans hle5)⟩, ⟨V, vs, kV, by rw [hm5 _ (by decide +kernel)]; exact mV3, (hle24.trans hle5) _ _ hV, rV.mono (hle24.trans hle5)⟩,
      ⟨O1, os, kO, by rw [hm5 _ (by decide +kernel)]; exact mO3, hle5 _ _ hO, rO.mono hle5⟩, ⟨S, ss5, kS5, by rw [hc5 _ (by decide +kernel)]; exact cS3, gS, rS⟩, ⟨N, ns5, kN5, by rw [hc5 _ (by decide +kernel)]; exact cN3, gN, rN⟩,
      ⟨M, ms5, kM5, by rw [hm5 _ (by decide +kernel)]; exact mM3, gM, rM⟩, ⟨D, ds5, kD5, by rw [hm5 _ (by decide +kernel)]; exact mD3, gD, rD⟩, hSx', hMx, hml⟩
  have P5 := P4.mono hle5
  refine wpK_execs_cons (law6 (n := n) e hA' X5 I fun G6 s7 hle6 I => ?_)
  have X6 := X5.mono hle6
  have P6 := P5.mono hle6
  refine wpK_execs_cons (law7 e I fun H s8 I => ?_)
  have X7 : St G6 m5 (upd cv5 ("heads" : Str) (.ref H)) fss Sx' Mx := X6.same (SameL.refl _) (SameS.upd (by decide +kernel))
  have cH7 : upd cv5 ("heads" : Str) (.ref H) ("heads" : Str) = some (.ref H) := upd_same
  generalize upd cv5 ("heads" : Str) (.ref H) = cv7 at I X7 cH7
  refine wpK_execs_cons (law8 (n := n) e hA' X7 cH7 I fun G8 cv8 hs kH s9 hle8 hc8 gH rH I => ?_)
  have X8 : St2 G8 m5 cv8 fss Sx' Mx := ⟨(X7.mono hle8).same (SameL.refl _) hc8.toS, H, hs, kH, by rw [hc8 _ (by decide +kernel)]; exact cH7, gH, rH⟩
  have P8 := P6.mono hle8
  refine wpK_execs_cons (law9 (n := n) e hA' P8 X8 I fun G9 s10 hle9 I => ?_)
  obtain ⟨o, hown⟩ := own_of hMx
  have X9 := X8.mono hle9
  have P9 := P8.mono hle9
  refine wpK_execs_cons (law10 (n := n) e hA' X9 hown I fun G10 W s11 hle10 hW I => ?_)
  have X10 : St2 G10 m5 (upd cv8 ("own" : Str) W) fss Sx' Mx := ⟨(X9.mono hle10).st.same (SameL.refl _) (SameS.upd (by decide +kernel)), by rw [upd_ne (by decide +kernel)]; exact (X9.mono hle10).heads⟩
  have hW10 : LstAt G10 (upd cv8 ("own" : Str) W ("own" : Str)) ((List.range fss.length).map fun i => .int (o i : Nat)) := by rw [upd_same]; exact hW
  generalize upd cv8 ("own" : Str) W = cv10 at I X10 hW10
  have P10 := P9.mono hle10
  refine wpK_execs_cons (law11 (n := n) e hA' P10 X10 hown hW10 I fun G11 s12 hle11 I => ?_)
  have X11 : St3 G11 m5 cv10 fss Sx' Mx o := ⟨X10.st.mono hle11, hW10.mono hle11, hown⟩
  have P11 := P10.mono hle11
  refine wpK_execs_cons (law12 (n := n) e hA' P11 X11 I fun G12 m12 cv12 s13 hle12 hm12 hc12 I => ?_)
  have X12 := (X11.mono hle12).same hm12 hc12
  have P12 := P11.mono hle12
  refine wpK_execs_cons (law13 (n := n) e hA' P12 X12 I fun G13 C s14 hle13 hC I => ?_)
  have X13 : St3 G13 (upd m12 ("cuts" : Str) C) cv12 fss Sx' Mx o := (X12.mono hle13).same (SameL.upd (by decide +kernel)) (fun _ _ => rfl)
  have hC13 : LstAt G13 (upd m12 ("cuts" : Str) C ("cuts" : Str)) (cutsD o Sx' Mx) := by rw [upd_same]; exact hC
  have P13 := P12.mono hle13
  refine wpK_execs_cons (law14 (n := n) e hA' P13 X13 hC13 I fun G14 cv14 s15 hle14 I => ?_)
  refine wpK_execs_cons (wpK_Return_some (wpK_of (wpAny_Constant_bool ?_)))
  exact hR s15 G14 I.toStep
end
end Mine

end
section
open PySem PySem.W PyProof.Rows PySem.Calls
namespace Mine

/-! ## The head, with the claim's caller kept in sight -/
abbrev callerG : Ctx := ⟨.builtin "claim.caller" {}, none, none, [], none⟩
theorem callerG_call {M : Model} {f : Value} {pos : List Value} {s : Shared} {Q : Value → Shared → Prop} {E : Value → Shared → Prop}
    (h : codeK M callerA (.call f ⟨pos, []⟩) (fun r s' => match r with | .ok (.ret v) => Q v s' | .ok _ => False | .error e => E e s') s) (p : Pos) :
    Sem.wp M callerG (call f pos []) (fun v _ s' => Q v s') (fun e _ s' => E e s') p s := by
  rw [Sem.wp_cmd_call]
  exact h _ p rfl (caller_in.enter _ none p (by intro x; cases x)) ⟨_, .head _, rfl⟩

abbrev EndsAs (c : ClaimW) (s₀ : Shared) (args : List WData) (s₁ : Shared) (r : Result) (s' : Shared) : Prop :=
  match r with
  | .ok (.ret v) => GoodWG c (classAt s₀.heap) (ExcName.means s₀.heap) args s₁ (.ok (.ret v)) s'
  | .ok _ => False
  | .error e => GoodWG c (classAt s₀.heap) (ExcName.means s₀.heap) args s₁ (.error e) s'

abbrev WalkC (q : Program) (loose : List Str) (XP : (Str → Option Value) → Heap → Prop) (YP : World → Heap → Prop) (r : RowW) (d : DefRec) (kwd : List (Str × Expr)) : Prop :=
  ∀ (w : World) (s₀ s₁ : Shared) (mg mb : Str → Option Value), Ground q loose r.records XP w s₀ mg mb s₁.heap → YP w s₁.heap → ∀ (a : Addr) (o : Obj) (pm cd doc dV kV : Value), s₁.heap.get? a = some o →
    o.data = .func { docDef d.name d.params d.body d.scope pm cd doc with defaults := dV, kwdefaults := kV } → s₁.heap.CodeRec cd d.name → Dflts mg s₁.heap d.params kwd dV kV → mg d.name = some (.ref a) → s₁.gens = #[] →
    ∀ (args : List WData) (vals : List Value) (as : List Addr), r.claim.pre args = true → WData.layableAll args = true → ReadsAllW r.records (classAt s₀.heap) s₁.heap vals args as → WellAll w.params s₁.heap vals args → (∀ a ∈ as, (a == sysModules) = false) →
      codeK (model r.prog w) callerA (.call (.ref a) ⟨vals, []⟩) (EndsAs r.claim s₀ args s₁) s₁

theorem callFrom_at {c : ClaimW} {tree : List Value → Sem Fin} {w : World} {s : Shared} {free : Addr → Prop} {gens : Prop} {kept : Heap → Prop} (hz : s.asleep) (hgens : s.gens = #[])
    (hspec : ∀ args, c.pre args = true → WData.layableAll args = true → ∀ ord : List DictEntry → List DictEntry, (∀ l, (ord l).Perm l) →
      ∃ vs s₁, layAllW c.records (classAt s.heap) w.params ord args s = some (vs, s₁) ∧
        Sem.wp (model c.prog w) callerG (tree vs) (fun fin _ s' => ∃ f, fin = .done f ∧ (c.Ends s args vs s₁ (.ok f) s' ∧ s'.os = s.os ∧ AllBare s'.gens ∧ kept s'.heap))
          (fun e _ s' => c.Ends s args vs s₁ (.error e) s' ∧ s'.os = s.os ∧ AllBare s'.gens ∧ kept s'.heap) default s₁) :
    c.CallFrom (fun vs => ⟨tree vs, .builtin "claim.caller" {}, default, []⟩) w free gens kept s := by
  intro args hpre hlay ord hord
  obtain ⟨vs, s₁, hlaid, h⟩ := hspec args hpre hlay ord hord
  have hal := layAllW_rest _ _ _ hlaid
  obtain ⟨n, r, s', s'', hsched, hrun, hfo, ⟨hcase, hos, hkp⟩⟩ := wp_halts_full (M := model c.prog w) (c := .builtin "claim.caller" {}) (p := default) (t := tree vs) (s := s₁)
    (R := fun r s' => c.Ends s args vs s₁ r s' ∧ s'.os = s.os ∧ kept s'.heap) (Shared.asleep_of_life hal.2.2.2 hz)
    (Sem.wp_mono _ _ _ (fun fin p' s' x => by
        obtain ⟨f, rfl, x1, x2, x3, x4⟩ := x
        exact ⟨⟨x1, x2, x4⟩, leftWithCleanup_false_of_bare x3⟩) (fun e _ s' x => ⟨⟨x.1, x.2.1, x.2.2.2⟩, leftWithCleanup_false_of_bare x.2.2.1⟩) _ _ h)
  obtain ⟨eh, _, _, eo, _⟩ := Shared.forget_eq hfo
  have hcase := hcase.congr (s' := s'') eh
  rw [← eh] at hkp
  rw [← eo] at hos
  have hlife : s''.heap.life = s.heap.life := (runN_life _ _ _ hrun).trans hal.2.2.2
  refine ⟨vs, s₁, hlaid, n, _, s'', hsched, ?_, (fun _ i x hx => by rw [hgens] at hx; simp at hx), hkp, by rw [hlife], Shared.rest_eq hos⟩
  rcases hcase with ⟨v, rfl, d1, d2, d3, d4, d5⟩ | ⟨e, ob, cls, rfl, d1, d2, d3, d4, d5⟩
  · exact .inl ⟨v, rfl, d1, d2, d3, fun b o y _ => d4 b o y, d5⟩
  · exact .inr ⟨e, ob, cls, rfl, d1, d2, d3, d4, fun b o y _ => d5 b o y⟩

/-- the head of the open laws, for a walk that may lean on the caller below it -/
theorem PySem.W.holds_open {r : OpenRow} {q : Program} {loose : List Str} {Xt : Shared → Bool} {XP : (Str → Option Value) → Heap → Prop} {α : Type} {Yf : Shared → α} {Ya : World → α} {YP : World → Heap → Prop} {d : DefRec} {kwd : List (Str × Expr)} {N : Nat}
    (left : LeftO r.prog q loose Xt Yf Ya N) (hY : ∀ w s, Yf s = Ya w → YP w s.heap) (hYk : ∀ w h h', YP w h → (∀ b o, h.get? b = some o → h'.get? b = some o) → YP w h')
    (hX : ∀ s, Xt s = true → XP (s.heap.nsMap mainGlobals) s.heap) (hXk : ∀ mg h h', XP mg h → (∀ b o, h.get? b = some o → h'.get? b = some o) → XP mg h')
    (hdef : defOf q r.name = some (d, kwd)) (hp : r.prog.theDef r.name = some (d.params, d.body, d.scope)) (hk : kwWritten? d.params.kwonlyargs d.params.kw_defaults = some kwd) (hRf : ∀ s, Xt s = true → RecFacts r.records s.heap) (hwr : (!r.writes || r.records.isEmpty) = true)
    (k1 : r.wellSaid = true) (ok : (chainsOk q && opensWell r.prog && (frees r.toRowW && r.within.isEmpty)) = true) (hb : r.prog.bare) (hw : r.toRowW.promised)
    (walk : WalkC q loose XP YP r.toRowW d kwd) : r.Holds := by
  simp only [Bool.and_eq_true] at ok
  obtain ⟨⟨hch, o1⟩, k5, k6⟩ := ok
  obtain ⟨hsame, hu, ha, hap, hm⟩ := frees_parts k5
  have hi := ident_freeW hu ha hap
  have hwi : r.toRowW.claim.within = [] := List.isEmpty_iff.mp k6
  refine ⟨k1, hw, ⟨hb, o1, by show r.toRowW.makers.map _ = []; rw [hm]; rfl⟩, hw.witness, fun w => ⟨(left.behind hX hch w).1, fun s' hs' => ?_⟩⟩
  obtain ⟨s₀, hf, hg0, s, hT, hz, hgens, hg, G00, y⟩ := (left.behind (XP := fun mg h => XP mg h ∧ RecFacts r.records h) (fun s hs => ⟨hX s hs, hRf s hs⟩) hch w).2 s' hs'
  have G0 : Ground q loose [] XP w s (s.heap.nsMap mainGlobals) (s.heap.nsMap builtinsNs) s.heap := ⟨G00.T, G00.B, G00.D, G00.TE, G00.TD, G00.W, G00.X.1, G00.cls, G00.has, G00.apart, G00.once, G00.K⟩
  have RF := G00.X.2
  have hgens : s.gens = #[] := Array.eq_empty_of_size_eq_zero (beq_iff_eq.mp hgens)
  have G : Ground q loose r.records XP w s _ _ s.heap := RF.ground G0
  refine ⟨s₀, hf, hg0, s, hT, fun n hn => ?_, RF.1, RF.2.1, callFrom_at (c := r.toRowW.claim) (tree := fun vs => do match ← nsGet mainNs r.name with
      | some f => do ret (← PySem.call f vs)
      | none => unsupported "claim.caller:no-such-global") hz hgens fun args hpre hlay ord hord => ?_⟩
  · obtain rfl : n = r.name := by split at hn <;> simp_all
    exact pinned_of_view hg G0 hdef hp hk
  obtain ⟨⟨vs, s₁⟩, hlaid⟩ := Option.isSome_iff_exists.mp (layAllW_isSome (P := w.params) (ord := ord) G.has args r.args s (pre_splitW (r := r.toRowW) hpre).1)
  have keeps := layAllW_keeps _ _ _ hlaid
  have hal := layAllW_rest _ _ _ hlaid
  obtain ⟨as, hrd, hin, hold⟩ := reads_layAllW hord _ _ _ hlaid hlay s₁.heap (fun _ _ e => e)
  have L : Laid r.records w s s₁ args vs as := ⟨⟨ord, hord, hlaid⟩, hrd, hin, hold, keeps, hal.1.trans hgens, hal.2.2.1⟩
  have G₁ := G.keeps hXk keeps
  obtain ⟨a, o, pm, cd, doc, dV, kV, h1, h2, h3, h4, h5⟩ := G₁.fn hdef
  have h := walk w s s₁ _ _ G₁ (hYk _ _ _ (hY w s y) keeps) a o pm cd doc dV kV h2 h3 h4 h5 (defOf_name hdef ▸ h1) L.gens args vs as hpre hlay L.reads L.well (L.low G.low)
  have fin : ∀ res s', GoodWG r.toRowW.claim (classAt s.heap) (ExcName.means s.heap) args s₁ res s' → r.toRowW.claim.Ends s args vs s₁ res s' ∧ s'.os = s.os ∧ AllBare s'.gens ∧ (r.writes = true → namesKept r.toRowW.claim.prog r.keeps s.heap s'.heap ∧ ∀ x ∈ r.toRowW.claim.records, ∀ a, classAt s.heap x.1 = some a → recordClass s'.heap a x.1 (x.2.map (·.1)) = true) := fun res s' g =>
    have z := g.laid (c := r.toRowW.claim) hsame hwi hi L
    ⟨z.1, z.2.1, z.2.2, fun q => ⟨namesKept_of hT hg _ keeps g.2.1.old, noTable hwr q⟩⟩
  refine ⟨vs, s₁, hlaid, ?_⟩
  rw [Sem.wp_bind']
  refine Sem.wp_mono _ _ _ (fun f p' s' x => ?_) (fun _ _ _ x => x.elim) _ _ (wpAny_nsGet (A := callerA) (E := fun _ _ => False) (Q := fun f s' => f = some (.ref a) ∧ s' = s₁) G₁.T.g ⟨h1, rfl⟩ _ _ caller_in)
  obtain ⟨rfl, rfl⟩ := x
  show Sem.wp _ callerG (PySem.call (.ref a) vs [] >>= fun v => ret v) _ _ _ _
  rw [Sem.wp_bind']
  refine Sem.wp_mono _ _ _ (fun v p' s' x => ?_) (fun e _ s' x => fin _ _ x) _ _ (callerG_call h p')
  exact ⟨_, rfl, fin _ _ x⟩
end Mine

end
section
open PySem PySem.W PyProof.Rows PySem.Calls
namespace Mine
set_option maxHeartbeats 8000000 in
open_top hd for PySem.Challenge.rw_ph0084_01
end Mine

end
section
open PySem PySem.W PyProof.Rows PySem.Calls PySem.NumText PySem.SeqAt
namespace Mine

noncomputable def gEs (P : Params) : Array DictEntry := match (hd.heap_39 P).lookup 3 with
  | some ⟨_, _, .dict es _, _⟩ => es
  | _ => #[]
theorem gObj (P : Params) : (hd.heap_39 P).lookup 3 = some { cls := .type "dict", data := .dict (gEs P) 22 } := by kernel_rfl
theorem fnOf {h : Heap} {P : Params} (X : (hd.heap_39 P).In h) {a c : Addr} {i : Nat} {dV kV pm : Value} {oc : Obj} {vs : Array Value} {t : Tok} (h1 : (hd.heap_39 P).lookup a = some { cls := .type "function", data := .func (fnAt i dV kV pm (.ref c)) }) (h2 : (hd.heap_39 P).lookup c = some oc) (h3 : oc.data = .fields vs) (h4 : vs[1]? = some (.str (fdName (stm i)) t)) : Fn (fun a => h.get? a) a i dV kV :=
  ⟨pm, .ref c, X _ _ h1, fun _ S => ⟨c, oc, vs, t, rfl, S _ _ (X _ _ h2), h3, h4⟩⟩
/-- a name of the program's own, and one of the builtins -/
def ownTab : List (Str × Value) := gtab.take 11
def bltTab : List (Str × Value) := gtab.drop 11
theorem own_at (P : Params) : ∀ p ∈ ownTab, nsFind (gEs P) p.1 = some p.2 := by
  intro p hp
  simp only [ownTab, gtab, List.take_succ_cons, List.take_zero, List.mem_cons, List.not_mem_nil, or_false] at hp
  rcases hp with rfl | rfl | rfl | rfl | rfl | rfl | rfl | rfl | rfl | rfl | rfl <;> kernel_rfl
theorem blt_at (P : Params) : ∀ p ∈ bltTab, nsFind (gEs P) p.1 = none ∧ bootBuiltins p.1 = some p.2 ∧ p.1 ≠ ("__name__" : Str) := by
  intro p hp
  simp only [bltTab, gtab, List.drop_succ_cons, List.drop_zero, List.mem_cons, List.not_mem_nil, or_false] at hp
  rcases hp with rfl | rfl | rfl | rfl | rfl | rfl | rfl | rfl <;> exact ⟨by kernel_rfl, by kernel_rfl, by decide +kernel⟩
theorem mg_at {h : Heap} {P : Params} {mg : Str → Option Value} (X : (hd.heap_39 P).In h) (g : h.Ns mainGlobals mg) (x : Str) : mg x = nsFind (gEs P) x := by
  obtain ⟨o, es, ep, ho, hd, _, hm⟩ := g
  have h3 := X 3 _ (gObj P)
  have e : some o = some { cls := .type "dict", data := .dict (gEs P) 22 } := ho.symm.trans h3
  cases e
  cases hd
  exact (hm x).symm
theorem fnl_fcmp (P : Params) : (hd.heap_39 P).lookup 44 = some { cls := .type "function", data := .func (fnAt 4 .none .none (.str (Str.ofString "cpy313.platform") 282) (.ref 43)) } := by kernel_rfl
def cod_fcmp : Array Value := #[Value.str (Str.ofString "_comparable_version") 362, Value.str (Str.ofString "_comparable_version") 363, Value.str (Str.ofString "/claim/cut.py") 364, Value.int 5 0, Value.int 1 0, Value.int 0 0, Value.int 0 0, Value.int 3 0, Value.ref 38, Value.bool true, Value.int 276 0, Value.ref 39, Value.none, Value.ref 40, Value.ref 41, Value.ref 42, Value.int 370 0, Value.int 5 0, Value.str (Str.ofString "/claim/cut.py") 371]
theorem cod_at_fcmp (P : Params) : (hd.heap_39 P).lookup 43 = some { cls := .type "code", data := .fields cod_fcmp } := by kernel_rfl
theorem fnl_fnorm (P : Params) : (hd.heap_39 P).lookup 52 = some { cls := .type "function", data := .func (fnAt 5 (.ref 45) .none (.str (Str.ofString "cpy313.platform") 282) (.ref 51)) } := by kernel_rfl
def cod_fnorm : Array Value := #[Value.str (Str.ofString "_norm_version") 374, Value.str (Str.ofString "_norm_version") 375, Value.str (Str.ofString "/claim/cut.py") 376, Value.int 17 0, Value.int 2 0, Value.int 0 0, Value.int 0 0, Value.int 3 0, Value.ref 46, Value.bool true, Value.int 276 0, Value.ref 47, Value.none, Value.ref 48, Value.ref 49, Value.ref 50, Value.int 381 0, Value.int 17 0, Value.str (Str.ofString "/claim/cut.py") 382]
theorem cod_at_fnorm (P : Params) : (hd.heap_39 P).lookup 51 = some { cls := .type "code", data := .fields cod_fnorm } := by kernel_rfl
theorem fnl_fins (P : Params) : (hd.heap_39 P).lookup 61 = some { cls := .type "function", data := .func (fnAt 7 (.ref 53) (.ref 54) (.str (Str.ofString "cpy313.bisect") 384) (.ref 60)) } := by kernel_rfl
def cod_fins : Array Value := #[Value.str (Str.ofString "insort_right") 388, Value.str (Str.ofString "insort_right") 389, Value.str (Str.ofString "/claim/cut.py") 390, Value.int 28 0, Value.int 4 0, Value.int 0 0, Value.int 1 0, Value.int 3 0, Value.ref 55, Value.bool true, Value.int 276 0, Value.ref 56, Value.none, Value.ref 57, Value.ref 58, Value.ref 59, Value.int 396 0, Value.int 28 0, Value.str (Str.ofString "/claim/cut.py") 397]
theorem cod_at_fins (P : Params) : (hd.heap_39 P).lookup 60 = some { cls := .type "code", data := .fields cod_fins } := by kernel_rfl
theorem fnl_fbr (P : Params) : (hd.heap_39 P).lookup 70 = some { cls := .type "function", data := .func (fnAt 8 (.ref 62) (.ref 63) (.str (Str.ofString "cpy313.bisect") 384) (.ref 69)) } := by kernel_rfl
def cod_fbr : Array Value := #[Value.str (Str.ofString "bisect_right") 401, Value.str (Str.ofString "bisect_right") 402, Value.str (Str.ofString "/claim/cut.py") 403, Value.int 34 0, Value.int 4 0, Value.int 0 0, Value.int 1 0, Value.int 3 0, Value.ref 64, Value.bool true, Value.int 276 0, Value.ref 65, Value.none, Value.ref 66, Value.ref 67, Value.ref 68, Value.int 410 0, Value.int 34 0, Value.str (Str.ofString "/claim/cut.py") 411]
theorem cod_at_fbr (P : Params) : (hd.heap_39 P).lookup 69 = some { cls := .type "code", data := .fields cod_fbr } := by kernel_rfl
theorem fnl_fbl (P : Params) : (hd.heap_39 P).lookup 79 = some { cls := .type "function", data := .func (fnAt 9 (.ref 71) (.ref 72) (.str (Str.ofString "cpy313.bisect") 384) (.ref 78)) } := by kernel_rfl
def cod_fbl : Array Value := #[Value.str (Str.ofString "bisect_left") 415, Value.str (Str.ofString "bisect_left") 416, Value.str (Str.ofString "/claim/cut.py") 417, Value.int 54 0, Value.int 4 0, Value.int 0 0, Value.int 1 0, Value.int 3 0, Value.ref 73, Value.bool true, Value.int 276 0, Value.ref 74, Value.none, Value.ref 75, Value.ref 76, Value.ref 77, Value.int 424 0, Value.int 54 0, Value.str (Str.ofString "/claim/cut.py") 425]
theorem cod_at_fbl (P : Params) : (hd.heap_39 P).lookup 78 = some { cls := .type "code", data := .fields cod_fbl } := by kernel_rfl
theorem fnl_ffield (P : Params) : (hd.heap_39 P).lookup 86 = some { cls := .type "function", data := .func (fnAt 11 .none .none (.str (Str.ofString "law_ph0084_01") 427) (.ref 85)) } := by kernel_rfl
def cod_ffield : Array Value := #[Value.str (Str.ofString "_law_field") 429, Value.str (Str.ofString "_law_field") 430, Value.str (Str.ofString "/claim/cut.py") 431, Value.int 75 0, Value.int 1 0, Value.int 0 0, Value.int 0 0, Value.int 3 0, Value.ref 80, Value.bool true, Value.int 276 0, Value.ref 81, Value.none, Value.ref 82, Value.ref 83, Value.ref 84, Value.int 438 0, Value.int 75 0, Value.str (Str.ofString "/claim/cut.py") 439]
theorem cod_at_ffield (P : Params) : (hd.heap_39 P).lookup 85 = some { cls := .type "code", data := .fields cod_ffield } := by kernel_rfl
theorem fnl_fvers (P : Params) : (hd.heap_39 P).lookup 93 = some { cls := .type "function", data := .func (fnAt 12 .none .none (.str (Str.ofString "law_ph0084_01") 427) (.ref 92)) } := by kernel_rfl
def cod_fvers : Array Value := #[Value.str (Str.ofString "_law_versions") 441, Value.str (Str.ofString "_law_versions") 442, Value.str (Str.ofString "/claim/cut.py") 443, Value.int 83 0, Value.int 1 0, Value.int 0 0, Value.int 0 0, Value.int 3 0, Value.ref 87, Value.bool true, Value.int 276 0, Value.ref 88, Value.none, Value.ref 89, Value.ref 90, Value.ref 91, Value.int 449 0, Value.int 83 0, Value.str (Str.ofString "/claim/cut.py") 450]
theorem cod_at_fvers (P : Params) : (hd.heap_39 P).lookup 92 = some { cls := .type "code", data := .fields cod_fvers } := by kernel_rfl
theorem fnl_fnormed (P : Params) : (hd.heap_39 P).lookup 98 = some { cls := .type "function", data := .func (fnAt 13 .none .none (.str (Str.ofString "law_ph0084_01") 427) (.ref 97)) } := by kernel_rfl
def cod_fnormed : Array Value := #[Value.str (Str.ofString "_law_normed") 452, Value.str (Str.ofString "_law_normed") 453, Value.str (Str.ofString "/claim/cut.py") 454, Value.int 91 0, Value.int 1 0, Value.int 0 0, Value.int 0 0, Value.int 3 0, Value.ref 94, Value.bool true, Value.int 276 0, Value.ref 95, Value.none, Value.none, Value.none, Value.ref 96, Value.int 455 0, Value.int 91 0, Value.str (Str.ofString "/claim/cut.py") 456]
theorem cod_at_fnormed (P : Params) : (hd.heap_39 P).lookup 97 = some { cls := .type "code", data := .fields cod_fnormed } := by kernel_rfl
theorem fnl_fflat (P : Params) : (hd.heap_39 P).lookup 105 = some { cls := .type "function", data := .func (fnAt 14 .none .none (.str (Str.ofString "law_ph0084_01") 427) (.ref 104)) } := by kernel_rfl
def cod_fflat : Array Value := #[Value.str (Str.ofString "_law_flat") 458, Value.str (Str.ofString "_law_flat") 459, Value.str (Str.ofString "/claim/cut.py") 460, Value.int 96 0, Value.int 1 0, Value.int 0 0, Value.int 0 0, Value.int 3 0, Value.ref 99, Value.bool true, Value.int 276 0, Value.ref 100, Value.none, Value.ref 101, Value.ref 102, Value.ref 103, Value.int 465 0, Value.int 96 0, Value.str (Str.ofString "/claim/cut.py") 466]
theorem cod_at_fflat (P : Params) : (hd.heap_39 P).lookup 104 = some { cls := .type "code", data := .fields cod_fflat } := by kernel_rfl

theorem pg_of {p : Program} {loose : List Str} {mean : ExcName → Option Value} {w : World} {h : Heap} {mg mb : Str → Option Value} (T : Top p loose mean mg mb h) (X : (hd.heap_39 w.params).In h) : PG w (fun a => h.get? a) where
  name := fun p hp h' S => by
    refine ⟨mg, mb, T.g.keeps S, T.b.keeps S, ?_⟩
    have hsplit : p ∈ ownTab ∨ p ∈ bltTab := by
      have : p ∈ gtab.take 11 ++ gtab.drop 11 := by rw [List.take_append_drop]; exact hp
      exact List.mem_append.mp this
    rcases hsplit with hp | hp
    · exact .inl (by rw [mg_at X T.g]; exact own_at _ p hp)
    · obtain ⟨a, b, c⟩ := blt_at w.params p hp
      exact .inr ⟨by rw [mg_at X T.g]; exact a, by rw [T.builtins _ c]; exact b⟩
  lim := fun h' S => T.nolimit.keeps S
  dig := fun h' S => let ⟨mc, h1, h2⟩ := T.nodigits; ⟨mc, h1.keeps S, h2⟩
  pat := X _ _ (by kernel_rfl)
  code := X _ _ (by kernel_rfl)
  stages := X _ _ (by kernel_rfl)
  d45 := X _ _ (by kernel_rfl)
  d53 := X _ _ (by kernel_rfl)
  d62 := X _ _ (by kernel_rfl)
  d71 := X _ _ (by kernel_rfl)
  k54 := X _ _ (by kernel_rfl)
  k63 := X _ _ (by kernel_rfl)
  k72 := X _ _ (by kernel_rfl)
  fcmp := fnOf X (fnl_fcmp _) (cod_at_fcmp _) rfl rfl
  fnorm := fnOf X (fnl_fnorm _) (cod_at_fnorm _) rfl rfl
  fins := fnOf X (fnl_fins _) (cod_at_fins _) rfl rfl
  fbr := fnOf X (fnl_fbr _) (cod_at_fbr _) rfl rfl
  fbl := fnOf X (fnl_fbl _) (cod_at_fbl _) rfl rfl
  ffield := fnOf X (fnl_ffield _) (cod_at_ffield _) rfl rfl
  fvers := fnOf X (fnl_fvers _) (cod_at_fvers _) rfl rfl
  fnormed := fnOf X (fnl_fnormed _) (cod_at_fnormed _) rfl rfl
  fflat := fnOf X (fnl_fflat _) (cod_at_fflat _) rfl rfl

theorem reads_ints {R : WRecords} {P : Params} {h : Heap} : ∀ {vs : List Value} {xs : List WData}, WellAll P h vs xs → WShape.hasItems R xs .int = true → ∃ ns : List Int, RdL (fun a => h.get? a) vs (ns.map Dat.int) ∧ xs.length = ns.length
  | _, _, .nil, _ => ⟨[], .nil, rfl⟩
  | _, _, .cons (d := d) r rs, hx => by
    rw [WShape.hasItems, Bool.and_eq_true] at hx
    obtain ⟨ns, h1, h2⟩ := reads_ints rs hx.2
    cases r with
    | int i t => exact ⟨i :: ns, .cons (.int i t) h1, by simp [h2]⟩
    | _ => exact absurd hx.1 (by simp [WShape.has, WShape.arms])

theorem less_ints (a b : Int) (h : a < b) : less? (.int a) (.int b) = some true := by
  unfold less?
  show some (decide (a < b)) = some true
  rw [decide_eq_true h]
theorem pre63 {xs : List WData} (hp : WTm.holds [] (.and (.not (.lt (.lit (.int 63)) (.len (.arg 0)))) (.lit (.bool true))) { args := [.list xs] } = true) : xs.length ≤ 63 := by
  apply Classical.byContradiction
  intro hc
  have e : less? (.int 63) (.int xs.length) = some true := less_ints _ _ (by omega)
  simp [WTm.holds, WTm.value, e] at hp

theorem law_holds : PySem.Challenge.rw_ph0084_01.Holds := by
  refine hd fun w s₀ s₁ mg mb Gr YP a o pm cd doc dV kV ho hdata hcd hdf _ hgens args vals as hpre _ _ hwell _ => ?_
  have X : (hd.heap_39 w.params).In s₁.heap := YP
  have PGs := pg_of Gr.T X
  obtain ⟨hsh, hp⟩ := pre_splitW hpre
  have hdV : dV = .none := by
    rcases hdf.pos with ⟨_, e⟩ | ⟨e, _⟩
    · exact e
    · exact absurd rfl e
  have hkV : kV = .none := by
    rcases hdf.kw with ⟨_, e⟩ | ⟨e, _⟩
    · exact e
    · exact absurd rfl e
  subst hdV hkV
  cases args with
  | nil => exact absurd hsh (by decide)
  | cons d r =>
  change (WShape.has [] d (.list .int) && WShape.hasAll [] r []) = true at hsh
  rw [Bool.and_eq_true] at hsh
  cases r with
  | cons _ _ => exact absurd hsh.2 (by simp [WShape.hasAll])
  | nil =>
  cases hwell with
  | cons wd wr =>
  cases wr
  cases wd with
  | @list la lvs xs hl wl =>
    have hit : WShape.hasItems [] xs .int = true := by simpa [WShape.has, WShape.arms] using hsh.1
    obtain ⟨ns, rn, hlen⟩ := reads_ints wl hit
    have hlt : ns.length < 2 ^ 10 := by
      have h63 : xs.length ≤ 63 := pre63 hp
      omega
    have hv : Rd (fun a => s₁.heap.get? a) (.ref la) (.list (ns.map Dat.int)) := .list hl rn
    refine lawK (n := 0) ⟨rfl, rfl, by decide, by decide⟩ ⟨fun _ _ e => e, fun _ h => (nomatch h), trivial⟩ PGs ho hdata hcd hv hlt fun s' G' st => ?_
    refine ⟨.inl ⟨.bool true, .bool true, [], rfl, fun cls => rfl, .bool true, ?_, fun _ => ⟨.nil, fun _ h => (nomatch h)⟩⟩, .of_keep fun b o e => (st.keep b o (by simp) e).1 (by simp), st.os, .of_eq (st.gens.trans hgens)⟩
    exact postW_of (X := same (.bool true) (.bool true)) rfl rfl (by simp [same])
  | _ => exact absurd hsh.1 (by simp [WShape.has, WShape.arms])
end Mine

end

theorem PySem.Challenge.cw_ph0084_01_holds : PySem.Challenge.rw_ph0084_01.Holds := by
  exact Mine.law_holds
