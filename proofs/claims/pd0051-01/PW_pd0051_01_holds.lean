import PyProof.Rows.All
import Wide.All
import OpenK.AllK
import Wide.FinOn
import PySem.Challenge.RW_pd0051_01
open PySem PySem.W PyProof.Rows
set_option Elab.async false
set_option maxRecDepth 100000
set_option maxHeartbeats 8000000
namespace Mine

/-- plain data -/
inductive D where
  | none
  | bool (b : Bool)
  | int (i : Int)
  | str (x : Str)
  | list (ds : List D)
  | tup (ds : List D)
  | raw (v : Value)

/-- an old object stands as it stood, but for the slots of a namespace (a frame) -/
noncomputable def Same (o o' : Obj) : Prop := o'.cls = o.cls ∧ o'.dict = o.dict ∧ o'.data = o.data ∧ ((∀ es ep, o.data ≠ .dict es ep) → o' = o)
theorem Same.refl (o : Obj) : Same o o := ⟨rfl, rfl, rfl, fun _ => rfl⟩
theorem Same.trans {o o' o'' : Obj} (x : Same o o') (y : Same o' o'') : Same o o'' :=
  ⟨y.1.trans x.1, y.2.1.trans x.2.1, y.2.2.1.trans x.2.2.1, fun hb => (y.2.2.2 (by rw [x.2.2.1]; exact hb)).trans (x.2.2.2 hb)⟩
noncomputable def Gr (h h' : Heap) : Prop := ∀ b o, h.get? b = some o → ∃ o', h'.get? b = some o' ∧ Same o o'
theorem Gr.refl (h : Heap) : Gr h h := fun _ o e => ⟨o, e, .refl o⟩
theorem Gr.trans {h h' h'' : Heap} (x : Gr h h') (y : Gr h' h'') : Gr h h'' := fun b o e =>
  let ⟨_, e1, s1⟩ := x b o e
  let ⟨o2, e2, s2⟩ := y b _ e1
  ⟨o2, e2, s1.trans s2⟩
theorem Gr.of_keep {h h' : Heap} (k : ∀ b o, h.get? b = some o → h'.get? b = some o) : Gr h h' := fun b o e => ⟨o, k b o e, .refl o⟩
theorem Gr.push (h : Heap) (o : Obj) : Gr h (h.push o) := .of_keep fun _ _ e => Heap.get?_push_of_some _ e
theorem Gr.live {h h' : Heap} (g : Gr h h') {a : Addr} (x : ∃ o, h.get? a = some o) : ∃ o, h'.get? a = some o := let ⟨o, e⟩ := x; let ⟨o', e', _⟩ := g a o e; ⟨o', e'⟩
theorem Gr.ns {h h' : Heap} (g : Gr h h') {a : Addr} {m : Str → Option Value} (x : h.Ns a m) : h'.Ns a m :=
  let ⟨o, es, ep, e, d, r⟩ := x; let ⟨o', e', s⟩ := g a o e; ⟨o', es, ep, e', s.2.2.1.trans d, r⟩
theorem Gr.cell {h h' : Heap} (g : Gr h h') {a : Addr} {v : Option Value} (x : h.IsCell a v) : h'.IsCell a v :=
  let ⟨o, e, d⟩ := x; let ⟨o', e', s⟩ := g a o e; ⟨o', e', s.2.2.1.trans d⟩

/-- the same off a set of addresses -/
noncomputable def GrX (X : List Addr) (h h' : Heap) : Prop := ∀ b o, b ∉ X → h.get? b = some o → ∃ o', h'.get? b = some o' ∧ Same o o'
theorem Gr.x {h h' : Heap} (g : Gr h h') (X : List Addr) : GrX X h h' := fun b o _ e => g b o e
theorem GrX.of_keep {X : List Addr} {h h' : Heap} (k : ∀ b o, b ∉ X → h.get? b = some o → h'.get? b = some o) : GrX X h h' := fun b o hb e => ⟨o, k b o hb e, .refl o⟩
theorem GrX.trans {X : List Addr} {h h' h'' : Heap} (x : GrX X h h') (y : GrX X h' h'') : GrX X h h'' := fun b o hb e =>
  let ⟨_, e1, s1⟩ := x b o hb e
  let ⟨o2, e2, s2⟩ := y b _ hb e1
  ⟨o2, e2, s1.trans s2⟩

noncomputable abbrev lstObj (vs : List Value) (n : Nat) : Obj := { cls := .type "list", dict := none, data := .seq vs.toArray n, slots := #[] }
noncomputable abbrev tupObj (vs : List Value) (n : Nat) : Obj := { cls := .type "tuple", dict := none, data := .seq vs.toArray n, slots := #[] }
noncomputable def IsL (h : Heap) (a : Addr) (vs : List Value) : Prop := ∃ n, h.get? a = some (lstObj vs n)
noncomputable def IsT (h : Heap) (a : Addr) (vs : List Value) : Prop := ∃ n, h.get? a = some (tupObj vs n)
theorem IsL.is {h : Heap} {a : Addr} {vs : List Value} (x : IsL h a vs) : h.IsList a vs.toArray := let ⟨n, h1⟩ := x; ⟨_, h1, rfl, n, rfl⟩
theorem IsT.is {h : Heap} {a : Addr} {vs : List Value} (x : IsT h a vs) : IsTup h a vs.toArray := let ⟨n, h1⟩ := x; ⟨_, h1, rfl, n, rfl⟩
theorem IsL.plain {h : Heap} {a : Addr} {vs : List Value} (x : IsL h a vs) : h.PlainList a vs.toArray := x
theorem GrX.get {h h' : Heap} {X : List Addr} {a : Addr} {o : Obj} (g : GrX X h h') (ha : a ∉ X) (e : h.get? a = some o) (hd : ∀ es ep, o.data ≠ .dict es ep) : h'.get? a = some o := by
  obtain ⟨o', e', s⟩ := g a o ha e
  rw [e', s.2.2.2 hd]
theorem Gr.get {h h' : Heap} {a : Addr} {o : Obj} (g : Gr h h') (e : h.get? a = some o) (hd : ∀ es ep, o.data ≠ .dict es ep) : h'.get? a = some o := (g.x []).get (by simp) e hd
theorem IsL.grX {h h' : Heap} {X : List Addr} {a : Addr} {vs : List Value} (x : IsL h a vs) (g : GrX X h h') (ha : a ∉ X) : IsL h' a vs :=
  let ⟨n, h1⟩ := x; ⟨n, g.get ha h1 fun _ _ q => nomatch q⟩
theorem IsT.grX {h h' : Heap} {X : List Addr} {a : Addr} {vs : List Value} (x : IsT h a vs) (g : GrX X h h') (ha : a ∉ X) : IsT h' a vs :=
  let ⟨n, h1⟩ := x; ⟨n, g.get ha h1 fun _ _ q => nomatch q⟩
theorem IsL.gr {h h' : Heap} {a : Addr} {vs : List Value} (x : IsL h a vs) (g : Gr h h') : IsL h' a vs := x.grX (g.x []) (by simp)
theorem IsT.gr {h h' : Heap} {a : Addr} {vs : List Value} (x : IsT h a vs) (g : Gr h h') : IsT h' a vs := x.grX (g.x []) (by simp)
theorem IsL.of_plain {h : Heap} {a : Addr} {vs : Array Value} (x : h.PlainList a vs) : IsL h a vs.toList := let ⟨n, e⟩ := x; ⟨n, by rw [e]⟩
theorem IsL.live {h : Heap} {a : Addr} {vs : List Value} (x : IsL h a vs) : ∃ o, h.get? a = some o := let ⟨_, e⟩ := x; ⟨_, e⟩
theorem IsT.live {h : Heap} {a : Addr} {vs : List Value} (x : IsT h a vs) : ∃ o, h.get? a = some o := let ⟨_, e⟩ := x; ⟨_, e⟩
theorem IsL.push (h : Heap) (vs : List Value) : IsL (h.push { cls := .type "list", data := .seq vs.toArray }) h.objs.size vs := ⟨_, Heap.get?_push_size _ rfl⟩
theorem IsT.push (h : Heap) (vs : List Value) : IsT (h.push { cls := .type "tuple", data := .seq vs.toArray }) h.objs.size vs := ⟨_, Heap.get?_push_size _ rfl⟩

mutual
/-- v stands for d in h, and nothing that it reaches lies in X -/
noncomputable def Rep (h : Heap) (X : List Addr) : D → Value → Prop
  | .none, v => v = .none
  | .bool b, v => v = .bool b
  | .int i, v => ∃ t, v = .int i t
  | .str x, v => ∃ t, v = .str x t
  | .list ds, v => ∃ a vs, v = .ref a ∧ a ∉ X ∧ IsL h a vs ∧ RepL h X ds vs
  | .tup ds, v => ∃ a vs, v = .ref a ∧ a ∉ X ∧ IsT h a vs ∧ RepL h X ds vs
  | .raw u, v => v = u ∧ ∀ a, v ≠ .ref a
noncomputable def RepL (h : Heap) (X : List Addr) : List D → List Value → Prop
  | [], vs => vs = []
  | d :: ds, vs => ∃ v r, vs = v :: r ∧ Rep h X d v ∧ RepL h X ds r
end
theorem Rep_none {h X v} : Rep h X .none v = (v = .none) := by simp only [Rep]
theorem Rep_bool {h X b v} : Rep h X (.bool b) v = (v = .bool b) := by simp only [Rep]
theorem Rep_int {h X i v} : Rep h X (.int i) v = ∃ t, v = .int i t := by simp only [Rep]
theorem Rep_str {h X x v} : Rep h X (.str x) v = ∃ t, v = .str x t := by simp only [Rep]
theorem Rep_list {h X ds v} : Rep h X (.list ds) v = ∃ a vs, v = .ref a ∧ a ∉ X ∧ IsL h a vs ∧ RepL h X ds vs := by simp only [Rep]
theorem Rep_tup {h X ds v} : Rep h X (.tup ds) v = ∃ a vs, v = .ref a ∧ a ∉ X ∧ IsT h a vs ∧ RepL h X ds vs := by simp only [Rep]
theorem Rep_raw {h X u v} : Rep h X (.raw u) v = (v = u ∧ ∀ a, v ≠ .ref a) := by simp only [Rep]
theorem RepL_nil {h X vs} : RepL h X [] vs = (vs = []) := by simp only [RepL]
theorem RepL_cons {h X d ds vs} : RepL h X (d :: ds) vs = ∃ v r, vs = v :: r ∧ Rep h X d v ∧ RepL h X ds r := by simp only [RepL]

theorem Heap_get_none_of_not {h : Heap} {a : Addr} (n : ¬ ∃ o, h.get? a = some o) : h.get? a = none := by
  cases e : h.get? a with
  | none => rfl
  | some o => exact absurd ⟨o, e⟩ n

/-- to another heap, another set -/
theorem Rep.mono {h h' : Heap} {X X' Y : List Addr} (g : GrX Y h h') (hY : ∀ b, b ∈ Y → b ∈ X ∨ h.get? b = none) (hX : ∀ b, b ∈ X' → b ∈ X ∨ h.get? b = none) : ∀ {d : D} {v : Value}, Rep h X d v → Rep h' X' d v := by
  intro d
  refine D.rec (motive_1 := fun d => ∀ {v : Value}, Rep h X d v → Rep h' X' d v) (motive_2 := fun ds => ∀ {vs : List Value}, RepL h X ds vs → RepL h' X' ds vs) ?_ ?_ ?_ ?_ ?_ ?_ ?_ ?_ ?_ d
  · intro v r; rw [Rep_none] at r ⊢; exact r
  · intro b v r; rw [Rep_bool] at r ⊢; exact r
  · intro b v r; rw [Rep_int] at r ⊢; exact r
  · intro b v r; rw [Rep_str] at r ⊢; exact r
  · intro ds ih v r
    rw [Rep_list] at r ⊢
    obtain ⟨a, vs, rfl, ha, hl, hr⟩ := r
    have nn : h.get? a ≠ none := by obtain ⟨o, e⟩ := hl.live; rw [e]; exact fun q => by cases q
    exact ⟨a, vs, rfl, fun hm => (hX a hm).elim ha nn, hl.grX g fun hm => (hY a hm).elim ha nn, ih hr⟩
  · intro ds ih v r
    rw [Rep_tup] at r ⊢
    obtain ⟨a, vs, rfl, ha, hl, hr⟩ := r
    have nn : h.get? a ≠ none := by obtain ⟨o, e⟩ := hl.live; rw [e]; exact fun q => by cases q
    exact ⟨a, vs, rfl, fun hm => (hX a hm).elim ha nn, hl.grX g fun hm => (hY a hm).elim ha nn, ih hr⟩
  · intro b v r; rw [Rep_raw] at r ⊢; exact r
  · intro vs r; rw [RepL_nil] at r ⊢; exact r
  · intro d ds ih1 ih2 vs r
    rw [RepL_cons] at r ⊢
    obtain ⟨v, r', rfl, h1, h2⟩ := r
    exact ⟨v, r', rfl, ih1 h1, ih2 h2⟩
theorem RepL.mono {h h' : Heap} {X X' Y : List Addr} (g : GrX Y h h') (hY : ∀ b, b ∈ Y → b ∈ X ∨ h.get? b = none) (hX : ∀ b, b ∈ X' → b ∈ X ∨ h.get? b = none) : ∀ {ds : List D} {vs : List Value}, RepL h X ds vs → RepL h' X' ds vs
  | [], vs, r => by rw [RepL_nil] at r ⊢; exact r
  | d :: ds, vs, r => by
    rw [RepL_cons] at r ⊢
    obtain ⟨v, r', rfl, h1, h2⟩ := r
    exact ⟨v, r', rfl, Rep.mono g hY hX h1, RepL.mono g hY hX h2⟩
theorem Rep.gr {h h' : Heap} {X : List Addr} {d : D} {v : Value} (r : Rep h X d v) (g : Gr h h') : Rep h' X d v := Rep.mono (Y := []) (g.x []) (fun _ q => nomatch q) (fun _ q => .inl q) r
theorem RepL.gr {h h' : Heap} {X : List Addr} {ds : List D} {vs : List Value} (r : RepL h X ds vs) (g : Gr h h') : RepL h' X ds vs := RepL.mono (Y := []) (g.x []) (fun _ q => nomatch q) (fun _ q => .inl q) r
theorem Rep.sub {h : Heap} {X X' : List Addr} {d : D} {v : Value} (r : Rep h X d v) (hX : ∀ b, b ∈ X' → b ∈ X) : Rep h X' d v := Rep.mono (Y := []) ((Gr.refl h).x []) (fun _ q => nomatch q) (fun b q => .inl (hX b q)) r
theorem RepL.sub {h : Heap} {X X' : List Addr} {ds : List D} {vs : List Value} (r : RepL h X ds vs) (hX : ∀ b, b ∈ X' → b ∈ X) : RepL h X' ds vs := RepL.mono (Y := []) ((Gr.refl h).x []) (fun _ q => nomatch q) (fun b q => .inl (hX b q)) r

/-- a scalar reaches nothing -/
noncomputable def flat : D → Bool
  | .list _ | .tup _ => false
  | _ => true
theorem Rep.flat {h h' : Heap} {X X' : List Addr} {d : D} {v : Value} (r : Rep h X d v) (hf : Mine.flat d = true) : Rep h' X' d v := by
  cases d with
  | none => rw [Rep_none] at r ⊢; exact r
  | bool b => rw [Rep_bool] at r ⊢; exact r
  | int i => rw [Rep_int] at r ⊢; exact r
  | str x => rw [Rep_str] at r ⊢; exact r
  | list ds => cases hf
  | tup ds => cases hf
  | raw u => rw [Rep_raw] at r ⊢; exact r
theorem RepL.length {h : Heap} {X : List Addr} : ∀ {ds : List D} {vs : List Value}, RepL h X ds vs → vs.length = ds.length
  | [], vs, r => by rw [RepL_nil] at r; rw [r]; rfl
  | d :: ds, vs, r => by rw [RepL_cons] at r; obtain ⟨v, r', rfl, _, h2⟩ := r; simp [h2.length]
theorem RepL.get {h : Heap} {X : List Addr} : ∀ {ds : List D} {vs : List Value} {i : Nat} {d : D}, RepL h X ds vs → ds[i]? = some d → ∃ v, vs[i]? = some v ∧ Rep h X d v
  | [], vs, i, d, r, e => by simp at e
  | d :: ds, vs, 0, d', r, e => by
    rw [RepL_cons] at r; obtain ⟨v, r', rfl, h1, h2⟩ := r
    simp at e; subst e; exact ⟨v, rfl, h1⟩
  | d :: ds, vs, i + 1, d', r, e => by
    rw [RepL_cons] at r; obtain ⟨v, r', rfl, h1, h2⟩ := r
    obtain ⟨v', e', r''⟩ := RepL.get (i := i) h2 (by simpa using e)
    exact ⟨v', by simpa using e', r''⟩
theorem RepL.append {h : Heap} {X : List Addr} : ∀ {ds es : List D} {vs us : List Value}, RepL h X ds vs → RepL h X es us → RepL h X (ds ++ es) (vs ++ us)
  | [], es, vs, us, r, r' => by rw [RepL_nil] at r; subst r; simpa using r'
  | d :: ds, es, vs, us, r, r' => by
    rw [RepL_cons] at r; obtain ⟨v, q, rfl, h1, h2⟩ := r
    show RepL h X (d :: (ds ++ es)) _
    rw [RepL_cons]; exact ⟨v, q ++ us, rfl, h1, h2.append r'⟩
theorem RepL.one {h : Heap} {X : List Addr} {d : D} {v : Value} (r : Rep h X d v) : RepL h X [d] [v] := by
  rw [RepL_cons]; exact ⟨v, [], rfl, r, by rw [RepL_nil]⟩
theorem RepL.take {h : Heap} {X : List Addr} : ∀ {ds : List D} {vs : List Value} (n : Nat), RepL h X ds vs → RepL h X (ds.take n) (vs.take n)
  | [], vs, n, r => by rw [RepL_nil] at r; subst r; simp [RepL_nil]
  | d :: ds, vs, 0, r => by simp [RepL_nil]
  | d :: ds, vs, n + 1, r => by
    rw [RepL_cons] at r; obtain ⟨v, q, rfl, h1, h2⟩ := r
    rw [List.take_succ_cons, List.take_succ_cons, RepL_cons]; exact ⟨v, _, rfl, h1, h2.take n⟩
theorem RepL.drop {h : Heap} {X : List Addr} : ∀ {ds : List D} {vs : List Value} (n : Nat), RepL h X ds vs → RepL h X (ds.drop n) (vs.drop n)
  | ds, vs, 0, r => by simpa using r
  | [], vs, n + 1, r => by rw [RepL_nil] at r; subst r; simp [RepL_nil]
  | d :: ds, vs, n + 1, r => by
    rw [RepL_cons] at r; obtain ⟨v, q, rfl, h1, h2⟩ := r
    simpa using h2.drop n
theorem RepL.reverse {h : Heap} {X : List Addr} : ∀ {ds : List D} {vs : List Value}, RepL h X ds vs → RepL h X ds.reverse vs.reverse
  | [], vs, r => by rw [RepL_nil] at r; subst r; simp [RepL_nil]
  | d :: ds, vs, r => by
    rw [RepL_cons] at r; obtain ⟨v, q, rfl, h1, h2⟩ := r
    simpa using h2.reverse.append (.one h1)
theorem RepL.set {h : Heap} {X : List Addr} : ∀ {ds : List D} {vs : List Value} {i : Nat} {d : D} {v : Value}, RepL h X ds vs → Rep h X d v → RepL h X (ds.set i d) (vs.set i v)
  | [], vs, i, d, v, r, _ => by rw [RepL_nil] at r; subst r; simp [RepL_nil]
  | d :: ds, vs, 0, d', v', r, r' => by
    rw [RepL_cons] at r; obtain ⟨v, q, rfl, h1, h2⟩ := r
    simp only [List.set_cons_zero]; rw [RepL_cons]; exact ⟨v', q, rfl, r', h2⟩
  | d :: ds, vs, i + 1, d', v', r, r' => by
    rw [RepL_cons] at r; obtain ⟨v, q, rfl, h1, h2⟩ := r
    simp only [List.set_cons_succ]; rw [RepL_cons]; exact ⟨v, q.set i v', rfl, h1, h2.set r'⟩
end Mine
namespace Mine

/-- the fixed ground: the program, the world, the heap behind the top, its two namespaces -/
structure Wd where
  prog : Program
  w : World
  hB : Heap
  mg : Str → Option Value
  mb : Str → Option Value

/-- t runs without a raise, nothing old is changed, its value and heap meet P -/
noncomputable def Pu {α : Type} (W : Wd) (A : Around) (s : Shared) (t : Sem α) (P : α → Heap → Prop) : Prop :=
  wpAny (model W.prog W.w) A t (fun a s' => ∃ h' tk, s' = { s with heap := h', toks := tk } ∧ Gr s.heap h' ∧ (W.hB.StaysIn s.heap → W.hB.StaysIn h') ∧ P a h') (fun _ _ => False) s

section
variable {α : Type} {W : Wd} {A : Around} {s : Shared} {t : Sem α} {P : α → Heap → Prop}
theorem Pu.to {Q : α → Shared → Prop} {E : Value → Shared → Prop} (x : Pu W A s t P)
    (k : ∀ a h' tk, Gr s.heap h' → (W.hB.StaysIn s.heap → W.hB.StaysIn h') → P a h' → Q a { s with heap := h', toks := tk }) : wpAny (model W.prog W.w) A t Q E s :=
  wpAny_mono x (fun a s' h => by obtain ⟨h', tk, rfl, g, b, p⟩ := h; exact k a h' tk g b p) fun _ _ e => e.elim
theorem Pu.up {h₁ : Heap} {tk₁ : Nat} (x : Pu W A { s with heap := h₁, toks := tk₁ } t P) (g : Gr s.heap h₁) (b : W.hB.StaysIn s.heap → W.hB.StaysIn h₁) :
    wpAny (model W.prog W.w) A t (fun a s' => ∃ h' tk, s' = { s with heap := h', toks := tk } ∧ Gr s.heap h' ∧ (W.hB.StaysIn s.heap → W.hB.StaysIn h') ∧ P a h') (fun _ _ => False) { s with heap := h₁, toks := tk₁ } :=
  x.to fun _ h' tk g' b' p => ⟨h', tk, rfl, g.trans g', fun q => b' (b q), p⟩
theorem Pu.mono {P' : α → Heap → Prop} (x : Pu W A s t P) (k : ∀ a h', Gr s.heap h' → P a h' → P' a h') : Pu W A s t P' :=
  x.to fun a h' tk g b p => ⟨h', tk, rfl, g, b, k a h' g p⟩
/-- the same heap, another token -/
theorem Pu.tok {tk : Nat} {a : α} (p : P a s.heap) : ∃ h' tk', ({ s with toks := tk } : Shared) = { s with heap := h', toks := tk' } ∧ Gr s.heap h' ∧ (W.hB.StaysIn s.heap → W.hB.StaysIn h') ∧ P a h' :=
  ⟨s.heap, tk, rfl, Gr.refl _, id, p⟩
theorem Pu.same {a : α} (p : P a s.heap) : ∃ h' tk', s = { s with heap := h', toks := tk' } ∧ Gr s.heap h' ∧ (W.hB.StaysIn s.heap → W.hB.StaysIn h') ∧ P a h' :=
  ⟨s.heap, s.toks, rfl, Gr.refl _, id, p⟩
theorem Pu.new {o : Obj} {tk : Nat} {a : α} (p : P a (s.heap.push o)) : ∃ h' tk', ({ s with heap := s.heap.push o, toks := tk } : Shared) = { s with heap := h', toks := tk' } ∧ Gr s.heap h' ∧ (W.hB.StaysIn s.heap → W.hB.StaysIn h') ∧ P a h' :=
  ⟨_, tk, rfl, Gr.push _ _, fun b c o e => Heap.get?_push_of_some _ (b c o e), p⟩
theorem Pu.new' {o : Obj} {a : α} (p : P a (s.heap.push o)) : ∃ h' tk', ({ s with heap := s.heap.push o } : Shared) = { s with heap := h', toks := tk' } ∧ Gr s.heap h' ∧ (W.hB.StaysIn s.heap → W.hB.StaysIn h') ∧ P a h' := Pu.new p
end

theorem Rep.mkInt {h : Heap} {X : List Addr} {i : Int} {t : Tok} : Rep h X (.int i) (.int i t) := by rw [Rep_int]; exact ⟨t, rfl⟩
theorem Rep.mkStr {h : Heap} {X : List Addr} {x : Str} {t : Tok} : Rep h X (.str x) (.str x t) := by rw [Rep_str]; exact ⟨t, rfl⟩
theorem Rep.mkBool {h : Heap} {X : List Addr} {b : Bool} : Rep h X (.bool b) (.bool b) := by rw [Rep_bool]
noncomputable def Live (h : Heap) (X : List Addr) : Prop := ∀ a ∈ X, ∃ o, h.get? a = some o
theorem Live.gr {h h' : Heap} {X : List Addr} (l : Live h X) (g : Gr h h') : Live h' X := fun a ha => g.live (l a ha)
theorem Live.fresh {h : Heap} {X : List Addr} (l : Live h X) : h.objs.size ∉ X := fun hm => let ⟨_, e⟩ := l _ hm; absurd (Heap.lt_size e) (Nat.lt_irrefl _)
theorem Live.nil (h : Heap) : Live h [] := fun _ q => nomatch q

/-! ### operators on values -/
inductive BOp | add | sub | mul | div | mod | pow
  deriving DecidableEq
noncomputable def BOp.op : BOp → Operator
  | .add => .Add | .sub => .Sub | .mul => .Mult | .div => .FloorDiv | .mod => .Mod | .pow => .Pow
noncomputable def strRep (x : Str) (n : Nat) : Str := ⟨(List.replicate n x.cps).foldl (· ++ ·) #[]⟩
noncomputable def bin : BOp → D → D → Option D
  | .add, .int a, .int b => some (.int (a + b))
  | .sub, .int a, .int b => some (.int (a - b))
  | .mul, .int a, .int b => if a.natAbs < 2 ^ 60 then some (.int (a * b)) else none
  | .div, .int a, .int b => if b = 0 ∨ ¬ b.natAbs < 2 ^ 30 then none else some (.int (a.fdiv b))
  | .mod, .int a, .int b => if b = 0 then none else some (.int (a.fmod b))
  | .pow, .int a, .int b => if 0 ≤ b ∧ b ≤ 1000 ∧ a.natAbs < 2 ^ 64 then some (.int (a ^ b.toNat)) else none
  | .add, .str x, .str y => if x.length + y.length ≤ 100000 then some (.str (x ++ y)) else none
  | .mul, .str x, .int n => if 2 ≤ n ∧ n ≤ 1000 ∧ x.length ≤ 1000 ∧ x.length ≠ 0 then some (.str (strRep x n.toNat)) else if n = 1 then some (.str x) else none
  | _, _, _ => none

section
variable {W : Wd} {A : Around} {s : Shared} {X Y Z : List Addr} {v u : Value} {h : Heap}

theorem size_joinedS (xs : Array Nat) : ∀ (k : Nat) (acc : Array Nat), (List.foldl (fun x1 x2 => x1 ++ x2) acc (List.replicate k xs)).size = acc.size + k * xs.size
  | 0, acc => by simp
  | k + 1, acc => by rw [List.replicate_succ, List.foldl_cons, size_joinedS xs k]; simp [Nat.succ_mul]; omega
theorem bin_ok {op : BOp} {d e r : D} (hr : bin op d e = some r) (x : Rep s.heap X d v) (y : Rep s.heap Y e u) : Pu W A s (binaryOp op.op v u) (fun z h' => Rep h' Z r z) := by
  unfold Pu
  unfold bin at hr
  split at hr
  · cases hr; rw [Rep_int] at x y; obtain ⟨t, rfl⟩ := x; obtain ⟨t', rfl⟩ := y
    exact add_int (⟨_, _, rfl, Gr.refl _, id, Rep.mkInt⟩)
  · cases hr; rw [Rep_int] at x y; obtain ⟨t, rfl⟩ := x; obtain ⟨t', rfl⟩ := y
    exact sub_int (⟨_, _, rfl, Gr.refl _, id, Rep.mkInt⟩)
  · split at hr
    · rename_i hs; cases hr; rw [Rep_int] at x y; obtain ⟨t, rfl⟩ := x; obtain ⟨t', rfl⟩ := y
      exact mul_int (⟨_, _, rfl, Gr.refl _, id, Rep.mkInt⟩) (.of_left (intBits_le_64 (by omega) (by omega)))
    · cases hr
  · split at hr
    · cases hr
    · rename_i hs; cases hr; rw [Rep_int] at x y; obtain ⟨t, rfl⟩ := x; obtain ⟨t', rfl⟩ := y
      exact floordiv_int (by omega) (⟨_, _, rfl, Gr.refl _, id, Rep.mkInt⟩) (.inl (PyProof.noPylong_small (by omega)))
  · split at hr
    · cases hr
    · rename_i hs; cases hr; rw [Rep_int] at x y; obtain ⟨t, rfl⟩ := x; obtain ⟨t', rfl⟩ := y
      exact mod_int (by omega) (⟨_, _, rfl, Gr.refl _, id, Rep.mkInt⟩)
  · split at hr
    · rename_i hs; cases hr; rw [Rep_int] at x y; obtain ⟨t, rfl⟩ := x; obtain ⟨t', rfl⟩ := y
      exact pow_int_small hs.1 (by omega) hs.2.2 (⟨_, _, rfl, Gr.refl _, id, Rep.mkInt⟩)
    · cases hr
  · split at hr
    · rename_i hs; cases hr; rw [Rep_str] at x y; obtain ⟨t, rfl⟩ := x; obtain ⟨t', rfl⟩ := y
      exact add_str (fun _ _ => ⟨_, _, rfl, Gr.refl _, id, Rep.mkStr⟩) (by unfold sizeLine; omega)
    · cases hr
  · rw [Rep_str] at x; rw [Rep_int] at y; obtain ⟨t, rfl⟩ := x; obtain ⟨t', rfl⟩ := y
    split at hr
    · rename_i x n hs; cases hr
      have h1 : ¬ n < 1 := by omega
      have h2 : (n == 1 || x.length == 0) = false := by
        have a1 : ¬ n = 1 := by omega
        have a2 : ¬ x.length = 0 := hs.2.2.2
        simp [a1, a2]
      have h3 : x.length * n.toNat ≤ 1000 * 1000 := Nat.mul_le_mul hs.2.2.1 (by omega)
      refine P.mul_str (by have a1 : ¬ n < -(2 ^ 63 : Int) := by omega
                           have a2 : ¬ n ≥ 2 ^ 63 := by omega
                           rw [decide_eq_false a1, decide_eq_false a2]; rfl) (fun _ _ => ?_) (fun _ _ => ?_) ?_
      · have : n * 1000 ≤ 2 ^ 63 - 1 := by omega
        have : (1000 : Int) ≤ (2 ^ 63 - 1) / n := (Int.le_ediv_iff_mul_le (by omega)).mpr (by omega)
        have := hs.2.2.1
        omega
      · unfold Builtin.Str.tooLong sizeLine; simp; omega
      · rw [if_neg h1, h2]
        refine ⟨?_, ⟨_, _, rfl, Gr.refl _, id, Rep.mkStr⟩⟩
        have e : (⟨(List.replicate n.toNat x.cps).foldl (· ++ ·) #[]⟩ : Str).length = 0 + n.toNat * x.cps.size := size_joinedS x.cps n.toNat #[]
        show (⟨(List.replicate n.toNat x.cps).foldl (· ++ ·) #[]⟩ : Str).length ≤ sizeLine
        rw [e, Nat.zero_add, Nat.mul_comm]
        unfold sizeLine
        have : x.cps.size * n.toNat ≤ 1000 * 1000 := h3
        omega
    · split at hr
      · rename_i hs; cases hr; subst hs
        refine P.mul_str (by decide) (fun _ q => by simp at q) (fun _ q => by simp at q) ?_
        rw [if_neg (by decide)]
        exact ⟨_, _, rfl, Gr.refl _, id, Rep.mkStr⟩
      · cases hr
  · cases hr
end

/-! ### comparisons -/
inductive COp | eq | ne | lt | gt | inn | nin
noncomputable def COp.op : COp → CmpOp
  | .eq => .Eq | .ne => .NotEq | .lt => .Lt | .gt => .Gt | .inn => .In | .nin => .NotIn
noncomputable def strs? : List D → Option (List Str)
  | [] => some []
  | .str x :: r => (strs? r).map (x :: ·)
  | _ => none
noncomputable def strLt (x y : Str) : Bool := decide (x.cps.toList < y.cps.toList)
noncomputable def cmp : COp → D → D → Option Bool
  | .eq, .int a, .int b => some (a == b)
  | .ne, .int a, .int b => some (a != b)
  | .lt, .int a, .int b => some (decide (a < b))
  | .gt, .int a, .int b => some (decide (b < a))
  | .eq, .str a, .str b => some (a == b)
  | .ne, .str a, .str b => some (a != b)
  | .lt, .str a, .str b => some (strLt a b)
  | .gt, .str a, .str b => some (strLt b a)
  | .eq, .list ds, .list es => (strs? ds).bind fun xs => (strs? es).map fun ys => xs == ys
  | .ne, .list ds, .list es => (strs? ds).bind fun xs => (strs? es).map fun ys => xs != ys
  | .inn, .str x, .list es => (strs? es).map fun ys => ys.any (· == x)
  | .nin, .str x, .list es => (strs? es).map fun ys => !ys.any (· == x)
  | _, _, _ => none

theorem strs_cons {d : D} {ds : List D} {xs : List Str} (e : strs? (d :: ds) = some xs) : ∃ x r, d = .str x ∧ strs? ds = some r ∧ xs = x :: r := by
  cases d with
  | str x =>
    simp only [strs?] at e
    obtain ⟨r, h1, h2⟩ := Option.map_eq_some_iff.mp e
    exact ⟨x, r, rfl, h1, h2.symm⟩
  | _ => simp [strs?] at e
theorem strs_map (xs : List Str) : strs? (xs.map D.str) = some xs := by
  induction xs with
  | nil => rfl
  | cons x r ih => simp only [List.map_cons, strs?, ih]; rfl
theorem strs_eq : ∀ {ds : List D} {xs : List Str}, strs? ds = some xs → ds = xs.map D.str
  | [], xs, e => by simp [strs?] at e; subst e; rfl
  | d :: ds, xs, e => by obtain ⟨x, r, rfl, h1, rfl⟩ := strs_cons e; rw [List.map_cons, strs_eq h1]

/-- the texts that the values of a list hold -/
noncomputable def valStr : Value → Str
  | .str x _ => x
  | _ => Str.empty
theorem RepL.strs {h : Heap} {X : List Addr} : ∀ {xs : List Str} {vs : List Value}, RepL h X (xs.map D.str) vs → vs.map valStr = xs ∧ ∀ v ∈ vs, ∃ t, v = .str (valStr v) t
  | [], vs, r => by rw [List.map_nil, RepL_nil] at r; subst r; exact ⟨rfl, fun _ q => nomatch q⟩
  | x :: xs, vs, r => by
    rw [List.map_cons, RepL_cons] at r
    obtain ⟨v, q, rfl, h1, h2⟩ := r
    rw [Rep_str] at h1
    obtain ⟨t, rfl⟩ := h1
    obtain ⟨e1, e2⟩ := RepL.strs h2
    refine ⟨by rw [List.map_cons, e1]; rfl, fun v hv => ?_⟩
    rcases List.mem_cons.mp hv with rfl | hv
    · exact ⟨t, rfl⟩
    · exact e2 v hv

section
variable {W : Wd} {A : Around} {s : Shared} {X Y Z : List Addr} {v u : Value} {h : Heap}
open PySem.SeqAt

theorem all_zip_eq : ∀ (xs ys : List Str), xs.length = ys.length → ((List.range xs.length).all fun j => xs.getD j Str.empty == ys.getD j Str.empty) = (xs == ys) := by
  intro xs ys hl
  rw [Bool.eq_iff_iff, List.all_eq_true, beq_iff_eq]
  constructor
  · intro hh
    refine List.ext_getElem hl fun i h1 h2 => ?_
    have := hh i (List.mem_range.mpr h1)
    simpa [h1, h2] using this
  · rintro rfl j _
    simp
theorem lists_at {xs ys : List Str} {vs us : List Value} (rv : RepL s.heap X (xs.map D.str) vs) (ru : RepL s.heap Y (ys.map D.str) us) :
    ∀ j (j1 : j < vs.toArray.size) (j2 : j < us.toArray.size), EqAt A.in1 s vs.toArray[j] us.toArray[j] (xs.getD j Str.empty == ys.getD j Str.empty) := by
  intro j j1 j2
  obtain ⟨e1, f1⟩ := rv.strs
  obtain ⟨e2, f2⟩ := ru.strs
  simp only [List.size_toArray] at j1 j2
  obtain ⟨t, ht⟩ := f1 vs[j] (List.getElem_mem j1)
  obtain ⟨t', ht'⟩ := f2 us[j] (List.getElem_mem j2)
  have g1 : xs.getD j Str.empty = valStr vs[j] := by rw [← e1]; simp [j1]
  have g2 : ys.getD j Str.empty = valStr us[j] := by rw [← e2]; simp [j2]
  rw [g1, g2, List.getElem_toArray, List.getElem_toArray]
  have := EqAt.str_str (A := A.in1) (s := s) (valStr vs[j]) t (valStr us[j]) t'
  rw [← ht, ← ht'] at this
  exact this

theorem cmp_ok {op : COp} {d e : D} {b : Bool} (hr : cmp op d e = some b) (x : Rep s.heap X d v) (y : Rep s.heap Y e u) (hu : A.units + 10 < cLine) : Pu W A s (compareOp op.op v u) (fun z _ => z = .bool b) := by
  unfold Pu
  unfold cmp at hr
  split at hr
  · cases hr; rw [Rep_int] at x y; obtain ⟨t, rfl⟩ := x; obtain ⟨t', rfl⟩ := y
    exact eq_int ⟨_, _, rfl, Gr.refl _, id, rfl⟩
  · cases hr; rw [Rep_int] at x y; obtain ⟨t, rfl⟩ := x; obtain ⟨t', rfl⟩ := y
    exact ne_int ⟨_, _, rfl, Gr.refl _, id, rfl⟩
  · cases hr; rw [Rep_int] at x y; obtain ⟨t, rfl⟩ := x; obtain ⟨t', rfl⟩ := y
    exact lt_int ⟨_, _, rfl, Gr.refl _, id, rfl⟩
  · cases hr; rw [Rep_int] at x y; obtain ⟨t, rfl⟩ := x; obtain ⟨t', rfl⟩ := y
    exact gt_int ⟨_, _, rfl, Gr.refl _, id, rfl⟩
  · cases hr; rw [Rep_str] at x y; obtain ⟨t, rfl⟩ := x; obtain ⟨t', rfl⟩ := y
    exact eq_str ⟨_, _, rfl, Gr.refl _, id, rfl⟩
  · cases hr; rw [Rep_str] at x y; obtain ⟨t, rfl⟩ := x; obtain ⟨t', rfl⟩ := y
    exact ne_str ⟨_, _, rfl, Gr.refl _, id, rfl⟩
  · cases hr; rw [Rep_str] at x y; obtain ⟨t, rfl⟩ := x; obtain ⟨t', rfl⟩ := y
    exact lt_str ⟨_, _, rfl, Gr.refl _, id, rfl⟩
  · cases hr; rw [Rep_str] at x y; obtain ⟨t, rfl⟩ := x; obtain ⟨t', rfl⟩ := y
    exact P.gt_str ⟨_, _, rfl, Gr.refl _, id, rfl⟩
  · obtain ⟨xs, h1, h2⟩ := Option.bind_eq_some_iff.mp hr
    obtain ⟨ys, h3, rfl⟩ := Option.map_eq_some_iff.mp h2
    rw [strs_eq h1, Rep_list] at x; rw [strs_eq h3, Rep_list] at y
    obtain ⟨a, vs, rfl, _, l1, r1⟩ := x
    obtain ⟨a', us, rfl, _, l2, r2⟩ := y
    have n1 := r1.length; have n2 := r2.length
    rw [List.length_map] at n1 n2
    by_cases hsz : vs.length = us.length
    · have := RcAt.lists l1.is l2.is (by simpa using hsz) (by omega : A.units < cLine) (lists_at r1 r2)
      refine this W.prog W.w _ _ ⟨_, _, rfl, Gr.refl _, id, ?_⟩
      rw [show vs.toArray.size = xs.length by simp [n1], all_zip_eq xs ys (by omega)]
    · have := RcAt.lists_lengths l1.is l2.is (by simpa using hsz) (by omega : A.units < cLine)
      refine this W.prog W.w _ _ ⟨_, _, rfl, Gr.refl _, id, ?_⟩
      congr 1
      symm
      rw [beq_eq_false_iff_ne]
      rintro rfl; omega
  · obtain ⟨xs, h1, h2⟩ := Option.bind_eq_some_iff.mp hr
    obtain ⟨ys, h3, rfl⟩ := Option.map_eq_some_iff.mp h2
    rw [strs_eq h1, Rep_list] at x; rw [strs_eq h3, Rep_list] at y
    obtain ⟨a, vs, rfl, _, l1, r1⟩ := x
    obtain ⟨a', us, rfl, _, l2, r2⟩ := y
    have n1 := r1.length; have n2 := r2.length
    rw [List.length_map] at n1 n2
    by_cases hsz : vs.length = us.length
    · have := RcNeAt.lists l1.is l2.is (by simpa using hsz) (by omega : A.units < cLine) (lists_at r1 r2)
      refine this W.prog W.w _ _ ⟨_, _, rfl, Gr.refl _, id, ?_⟩
      rw [show vs.toArray.size = xs.length by simp [n1], all_zip_eq xs ys (by omega)]
      rfl
    · have := RcNeAt.lists_lengths l1.is l2.is (by simpa using hsz) (by omega : A.units < cLine)
      refine this W.prog W.w _ _ ⟨_, _, rfl, Gr.refl _, id, ?_⟩
      congr 1
      symm
      rw [bne_iff_ne]
      rintro rfl; omega
  · rename_i q es
    obtain ⟨ys, h3, rfl⟩ := Option.map_eq_some_iff.mp hr
    rw [Rep_str] at x; rw [strs_eq h3, Rep_list] at y
    obtain ⟨t, rfl⟩ := x
    obtain ⟨a', us, rfl, _, l2, r2⟩ := y
    obtain ⟨e2, f2⟩ := r2.strs
    refine in_listAt (fun y => valStr y == q) l2.is (fun y hy => ?_) ⟨_, _, rfl, Gr.refl _, id, ?_⟩
    · obtain ⟨t', ht'⟩ := f2 y (by simpa using hy)
      have := EqAt.str_str (A := A.in1) (s := s) (valStr y) t' q t
      rw [← ht'] at this; exact this
    · rw [← e2, List.any_map]; simp; rfl
  · rename_i q es
    obtain ⟨ys, h3, rfl⟩ := Option.map_eq_some_iff.mp hr
    rw [Rep_str] at x; rw [strs_eq h3, Rep_list] at y
    obtain ⟨t, rfl⟩ := x
    obtain ⟨a', us, rfl, _, l2, r2⟩ := y
    obtain ⟨e2, f2⟩ := r2.strs
    refine notIn_listAt (fun y => valStr y == q) l2.is (fun y hy => ?_) ⟨_, _, rfl, Gr.refl _, id, ?_⟩
    · obtain ⟨t', ht'⟩ := f2 y (by simpa using hy)
      have := EqAt.str_str (A := A.in1) (s := s) (valStr y) t' q t
      rw [← ht'] at this; exact this
    · rw [← e2, List.any_map]; simp; rfl
  · cases hr
end
end Mine
namespace Mine

structure Base (W : Wd) : Prop where
  g : W.hB.Ns mainGlobals W.mg
  b : W.hB.Ns builtinsNs W.mb
  nolimit : W.hB.NoLimit

/-- the frames on the stack are live namespaces, none of them the ground's -/
noncomputable def FF (W : Wd) (h : Heap) (lf : List Env) : Prop := ∀ env ∈ lf, env.scope.kind = .function ∧ ∃ L m, env.frame = some L ∧ h.Ns L m ∧ W.hB.get? L = none
theorem FF.gr {W : Wd} {h h' : Heap} {lf : List Env} (x : FF W h lf) (g : Gr h h') : FF W h' lf := fun env he =>
  let ⟨k, L, m, f, n, b⟩ := x env he; ⟨k, L, m, f, g.ns n, b⟩

noncomputable def AOk (n : Nat) (A : Around) (lf : List Env) : Prop := (0 < n → A.handled = none) ∧ A.frames = some lf ∧ A.depth + 20 * n ≤ 800 ∧ A.units + 100 * n ≤ 9000
theorem AOk.le {n k : Nat} {A : Around} {lf : List Env} (x : AOk n A lf) (h : k ≤ n) : AOk k A lf := ⟨fun q => x.1 (by omega), x.2.1, by have := x.2.2.1; omega, by have := x.2.2.2; omega⟩
theorem AOk.room {n : Nat} {A : Around} {lf : List Env} (x : AOk n A lf) : A.units + 10 < cLine := by have := x.2.2.2; unfold cLine; omega

structure Gd (W : Wd) (lf : List Env) (h : Heap) (X : List Addr) : Prop where
  base : W.hB.StaysIn h
  live : Live h X
  ff : FF W h lf
theorem Gd.gr {W : Wd} {lf : List Env} {h h' : Heap} {X : List Addr} (x : Gd W lf h X) (g : Gr h h') (b : W.hB.StaysIn h → W.hB.StaysIn h') : Gd W lf h' X := ⟨b x.base, x.live.gr g, x.ff.gr g⟩

/-- a name's value, as the frame's namespace or a cell holds it -/
noncomputable def VarIs (env : Env) (h : Heap) (x : Str) (v : Value) : Prop :=
  (env.kindOf x = some .local ∧ ∃ m, h.Ns env.locals m ∧ m x = some v) ∨
  ((env.kindOf x = some .cell ∨ (env.kindOf x = some .free ∧ (x == ("__classdict__" : Str)) = false)) ∧ ∃ c, env.cells.lookup x = some c ∧ h.IsCell c (some v))
theorem VarIs.gr {env : Env} {h h' : Heap} {x : Str} {v : Value} (q : VarIs env h x v) (g : Gr h h') : VarIs env h' x v :=
  q.imp (fun ⟨k, m, n, e⟩ => ⟨k, m, g.ns n, e⟩) (fun ⟨k, c, e, i⟩ => ⟨k, c, e, g.cell i⟩)

structure EnvOk (env : Env) : Prop where
  kind : env.scope.kind = .function
  glob : env.globals = mainGlobals
  blt : env.builtins = builtinsNs
  cells : ∀ y, env.kindOf y = some .cell ∨ env.kindOf y = some .free → ∃ c, env.cells.lookup y = some c

noncomputable abbrev Rho := List (Str × (D × Bool))
noncomputable def hid (st : Bool) (X : List Addr) : List Addr := if st then X else []
theorem Rep.weak {h : Heap} {X : List Addr} {d : D} {v : Value} (r : Rep h X d v) : Rep h [] d v := r.sub fun _ q => nomatch q
theorem Rep.of_hid {st : Bool} {h : Heap} {X : List Addr} {d : D} {v : Value} (r : Rep h (hid st X) d v) : Rep h [] d v := r.weak
theorem Rep.to_hid {st : Bool} {h : Heap} {X : List Addr} {d : D} {v : Value} (r : Rep h X d v) : Rep h (hid st X) d v := by
  cases st
  · exact r.weak
  · exact r

structure Rd (W : Wd) (env : Env) (lf : List Env) (h : Heap) (X : List Addr) (ρ : Rho) : Prop where
  gd : Gd W lf h X
  vars : ∀ x d st, ρ.lookup x = some (d, st) → ∃ v, VarIs env h x v ∧ Rep h (hid st X) d v
theorem Rd.gr {W : Wd} {env : Env} {lf : List Env} {h h' : Heap} {X : List Addr} {ρ : Rho} (r : Rd W env lf h X ρ) (g : Gr h h') (b : W.hB.StaysIn h → W.hB.StaysIn h') : Rd W env lf h' X ρ :=
  ⟨r.gd.gr g b, fun x d st e => let ⟨v, q, r'⟩ := r.vars x d st e; ⟨v, q.gr g, r'.gr g⟩⟩

noncomputable def Ev (W : Wd) (n : Nat) (env : Env) (ρ : Rho) (e : Expr) (d : D) (st : Bool) : Prop :=
  ∀ A lf X s, AOk n A lf → Rd W env lf s.heap X ρ → Pu W A s (eval e env) (fun v h' => Rep h' (hid st X) d v)
noncomputable def EvL (W : Wd) (n : Nat) (env : Env) (ρ : Rho) (es : List Expr) (ds : List D) : Prop :=
  ∀ A lf X s pos, AOk n A lf → Rd W env lf s.heap X ρ → Pu W A s (spliced (backTo pos (starEach es env))) (fun vs h' => RepL h' X ds vs)
noncomputable def Tr (W : Wd) (n : Nat) (env : Env) (ρ : Rho) (e : Expr) (b : Bool) : Prop :=
  ∀ A lf X s, AOk n A lf → Rd W env lf s.heap X ρ → Pu W A s (isTrue e env (eval e env)) (fun c _ => c = b)

section
variable {W : Wd} {n : Nat} {env : Env} {ρ : Rho}

theorem Ev.name {x : Str} {pos : Pos} {d : D} {st : Bool} (k : EnvOk env) (e : ρ.lookup x = some (d, st)) (hd : (x == ("__debug__" : Str)) = false) : Ev W n env ρ (.Name x pos) d st := by
  intro A lf X s _ R
  obtain ⟨v, q, r⟩ := R.vars x d st e
  refine wpAny_Name ?_ hd
  rcases q with ⟨kd, m, hn, hv⟩ | ⟨kd | ⟨kd, hc⟩, c, hl, hi⟩
  · exact wpAny_loadName_local k.kind kd hn hv ⟨_, _, rfl, Gr.refl _, id, r⟩
  · exact wpAny_loadName_cell k.kind kd hl hi ⟨_, _, rfl, Gr.refl _, id, r⟩
  · exact wpAny_loadName_free k.kind kd hl hi ⟨_, _, rfl, Gr.refl _, id, r⟩ hc
theorem Ev.int {i : Int} {k : Nat} {pos : Pos} {st : Bool} : Ev W n env ρ (.Constant (.int i) k pos) (.int i) st := fun _ _ _ _ _ _ => wpAny_Constant_int ⟨_, _, rfl, Gr.refl _, id, Rep.mkInt⟩
theorem Ev.str {x : Str} {k : Nat} {pos : Pos} {st : Bool} : Ev W n env ρ (.Constant (.str x) k pos) (.str x) st := fun _ _ _ _ _ _ => wpAny_Constant_str ⟨_, _, rfl, Gr.refl _, id, Rep.mkStr⟩
theorem Ev.bool {b : Bool} {k : Nat} {pos : Pos} {st : Bool} : Ev W n env ρ (.Constant (.bool b) k pos) (.bool b) st := fun _ _ _ _ _ _ => wpAny_Constant_bool ⟨_, _, rfl, Gr.refl _, id, Rep.mkBool⟩
theorem Ev.flat {e : Expr} {d : D} {st st' : Bool} (x : Ev W n env ρ e d st) (hf : Mine.flat d = true) : Ev W n env ρ e d st' := fun A lf X s a R => (x A lf X s a R).mono fun _ _ _ r => r.flat hf
theorem Ev.bin {op : BOp} {l r : Expr} {pos : Pos} {d1 d2 d : D} {s1 s2 st : Bool} (hl : Ev W n env ρ l d1 s1) (hr : Ev W n env ρ r d2 s2) (ho : Mine.bin op d1 d2 = some d) : Ev W n env ρ (.BinOp l op.op r pos) d st := by
  intro A lf X s a R
  refine wpAny_BinOp ((hl A lf X s a R).to fun v1 h1 t1 g1 b1 r1 => ((hr A lf X _ a (R.gr g1 b1)).to fun v2 h2 t2 g2 b2 r2 => ?_))
  exact (bin_ok ho (r1.gr g2) r2).up (g1.trans g2) fun q => b2 (b1 q)
theorem Ev.cmp {op : COp} {l r : Expr} {pos : Pos} {d1 d2 : D} {b : Bool} {s1 s2 st : Bool} (hl : Ev W n env ρ l d1 s1) (hr : Ev W n env ρ r d2 s2) (ho : Mine.cmp op d1 d2 = some b) (hm : behindInMarks op.op r = false) :
    Ev W n env ρ (.Compare l [op.op] [r] pos) (.bool b) st := by
  intro A lf X s a R
  refine wpAny_Compare1 ((hl A lf X s a R).to fun v1 h1 t1 g1 b1 r1 => ((hr A lf X _ a (R.gr g1 b1)).to fun v2 h2 t2 g2 b2 r2 => ?_)) hm
  exact ((cmp_ok ho (r1.gr g2) r2 a.room).mono fun z h' _ q => by subst q; exact Rep.mkBool).up (g1.trans g2) fun q => b2 (b1 q)
theorem Tr.cmp {op : COp} {l r : Expr} {pos : Pos} {d1 d2 : D} {b : Bool} {s1 s2 : Bool} (hl : Ev W n env ρ l d1 s1) (hr : Ev W n env ρ r d2 s2) (ho : Mine.cmp op d1 d2 = some b) (hm : behindInMarks op.op r = false) :
    Tr W n env ρ (.Compare l [op.op] [r] pos) b := by
  intro A lf X s a R
  refine wpAny_isTrue_Compare1 ((hl A lf X s a R).to fun v1 h1 t1 g1 b1 r1 => ((hr A lf X _ a (R.gr g1 b1)).to fun v2 h2 t2 g2 b2 r2 => ?_)) hm
  refine (cmp_ok (W := W) ho (r1.gr g2) r2 a.room).to fun v3 h3 t3 g3 b3 q => ?_
  subst q
  exact wpAny_truthy_bool ⟨_, _, rfl, (g1.trans g2).trans g3, fun q => b3 (b2 (b1 q)), rfl⟩

/-! truth -/
noncomputable def truth : D → Option Bool
  | .none => some false
  | .bool b => some b
  | .int i => some (i != 0)
  | .str x => if x.length ≤ 100000 then some ((x.length : Int) != 0) else none
  | .list ds => if ds.length ≤ 100000 then some (!ds.isEmpty) else none
  | .tup ds => if ds.length ≤ 100000 then some (!ds.isEmpty) else none
  | .raw _ => none
theorem truth_ok {A : Around} {s : Shared} {X : List Addr} {d : D} {v : Value} {b : Bool} (ht : truth d = some b) (r : Rep s.heap X d v) : Pu W A s (truthy v) (fun c _ => c = b) := by
  unfold Pu
  cases d with
  | none => cases ht; rw [Rep_none] at r; subst r; exact truthy_none ⟨_, _, rfl, Gr.refl _, id, rfl⟩
  | bool c => cases ht; rw [Rep_bool] at r; subst r; exact wpAny_truthy_bool ⟨_, _, rfl, Gr.refl _, id, rfl⟩
  | int i => cases ht; rw [Rep_int] at r; obtain ⟨t, rfl⟩ := r; exact truthy_int ⟨_, _, rfl, Gr.refl _, id, rfl⟩
  | str x =>
    simp only [truth] at ht
    split at ht
    · cases ht; rw [Rep_str] at r; obtain ⟨t, rfl⟩ := r
      exact P.truthy_str (by omega) ⟨_, _, rfl, Gr.refl _, id, rfl⟩
    · cases ht
  | list ds =>
    simp only [truth] at ht
    split at ht
    · rename_i hs
      cases ht; rw [Rep_list] at r; obtain ⟨a, vs, rfl, _, hl, hr⟩ := r
      have hn := hr.length
      refine wpAny_truthy_list hl.is (by simp; omega) ⟨_, _, rfl, Gr.refl _, id, ?_⟩
      cases ds <;> cases vs <;> simp_all
    · cases ht
  | tup ds =>
    simp only [truth] at ht
    split at ht
    · rename_i hs
      cases ht; rw [Rep_tup] at r; obtain ⟨a, vs, rfl, _, hl, hr⟩ := r
      have hn := hr.length
      refine truthy_tuple hl.is (by simp; omega) ⟨_, _, rfl, Gr.refl _, id, ?_⟩
      cases ds <;> cases vs <;> simp_all
    · cases ht
  | raw u => cases ht

/-- the test of an expression that is no comparison, no not, no and, no or, no conditional one -/
theorem Tr.val {e : Expr} {d : D} {b st : Bool} (x : Ev W n env ρ e d st) (ht : truth d = some b) (he : isTrue e env (eval e env) = (do let v ← eval e env; standAt e.pos; holding [v] (truthy v))) : Tr W n env ρ e b := by
  intro A lf X s a R
  refine wpAny_isTrue_value ((x A lf X s a R).to fun v h1 t1 g1 b1 r1 => ?_) he
  exact (truth_ok ht r1).up g1 b1
theorem Tr.not {e : Expr} {pos : Pos} {b : Bool} (x : Tr W n env ρ e b) : Tr W n env ρ (.UnaryOp .Not e pos) (!b) := by
  intro A lf X s a R
  refine wpAny_isTrue_Not ((x A lf X s a R).to fun c h1 t1 g1 b1 q => ?_)
  subst q
  exact ⟨_, _, rfl, g1, b1, rfl⟩
/-- a chain of ands or ors -/
noncomputable def TrA (W : Wd) (n : Nat) (env : Env) (ρ : Rho) (op : BoolOp) (es : List Expr) (b : Bool) : Prop :=
  ∀ A lf X s, AOk n A lf → Rd W env lf s.heap X ρ → Pu W A s (allTrue op es env) (fun c _ => c = b)
theorem TrA.and_nil : TrA W n env ρ .And [] true := fun _ _ _ _ _ _ => wpAny_allTrue_And_nil ⟨_, _, rfl, Gr.refl _, id, rfl⟩
theorem TrA.or_nil : TrA W n env ρ .Or [] false := fun _ _ _ _ _ _ => wpAny_allTrue_Or_nil ⟨_, _, rfl, Gr.refl _, id, rfl⟩
theorem TrA.and_stop {e : Expr} {es : List Expr} (x : Tr W n env ρ e false) : TrA W n env ρ .And (e :: es) false := by
  intro A lf X s a R
  refine wpAny_allTrue_And_cons ((x A lf X s a R).to fun c h1 t1 g1 b1 q => ?_)
  subst q
  exact ⟨_, _, rfl, g1, b1, rfl⟩
theorem TrA.and_on {e : Expr} {es : List Expr} {b : Bool} (x : Tr W n env ρ e true) (y : TrA W n env ρ .And es b) : TrA W n env ρ .And (e :: es) b := by
  intro A lf X s a R
  refine wpAny_allTrue_And_cons ((x A lf X s a R).to fun c h1 t1 g1 b1 q => ?_)
  subst q
  exact (y A lf X _ a (R.gr g1 b1)).up g1 b1
theorem TrA.or_stop {e : Expr} {es : List Expr} (x : Tr W n env ρ e true) : TrA W n env ρ .Or (e :: es) true := by
  intro A lf X s a R
  refine wpAny_allTrue_Or_cons ((x A lf X s a R).to fun c h1 t1 g1 b1 q => ?_)
  subst q
  exact ⟨_, _, rfl, g1, b1, rfl⟩
theorem TrA.or_on {e : Expr} {es : List Expr} {b : Bool} (x : Tr W n env ρ e false) (y : TrA W n env ρ .Or es b) : TrA W n env ρ .Or (e :: es) b := by
  intro A lf X s a R
  refine wpAny_allTrue_Or_cons ((x A lf X s a R).to fun c h1 t1 g1 b1 q => ?_)
  subst q
  exact (y A lf X _ a (R.gr g1 b1)).up g1 b1
theorem Tr.boolop {op : BoolOp} {es : List Expr} {pos : Pos} {b : Bool} (x : TrA W n env ρ op es b) : Tr W n env ρ (.BoolOp op es pos) b :=
  fun A lf X s a R => wpAny_isTrue_BoolOp (x A lf X s a R)
theorem Ev.or_left {x y : Expr} {pos : Pos} {d : D} {st : Bool} (hx : Ev W n env ρ x d st) (ht : truth d = some true) : Ev W n env ρ (.BoolOp .Or [x, y] pos) d st := by
  intro A lf X s a R
  refine wpAny_Or2 ((hx A lf X s a R).to fun v h1 t1 g1 b1 r1 => (truth_ok (W := W) ht r1).to fun c h2 t2 g2 b2 q => ?_)
  subst q
  exact ⟨_, _, rfl, g1.trans g2, fun q => b2 (b1 q), r1.gr g2⟩
theorem Ev.or_right {x y : Expr} {pos : Pos} {d e : D} {s1 st : Bool} (hx : Ev W n env ρ x d s1) (ht : truth d = some false) (hy : Ev W n env ρ y e st) : Ev W n env ρ (.BoolOp .Or [x, y] pos) e st := by
  intro A lf X s a R
  refine wpAny_Or2 ((hx A lf X s a R).to fun v h1 t1 g1 b1 r1 => (truth_ok (W := W) ht r1).to fun c h2 t2 g2 b2 q => ?_)
  subst q
  exact (hy A lf X _ a ((R.gr g1 b1).gr g2 b2)).up (g1.trans g2) fun q => b2 (b1 q)
theorem Ev.ite_true {t x y : Expr} {pos : Pos} {d : D} {st : Bool} (ht : Tr W n env ρ t true) (hx : Ev W n env ρ x d st) : Ev W n env ρ (.IfExp t x y pos) d st := by
  intro A lf X s a R
  refine wpAny_IfExp ((ht A lf X s a R).to fun c h1 t1 g1 b1 q => ?_)
  subst q
  exact (hx A lf X _ a (R.gr g1 b1)).up g1 b1

/-! lists of expressions, displays -/
theorem RepL.mkNil {h : Heap} {X : List Addr} : RepL h X [] [] := by rw [RepL_nil]
theorem RepL.mkCons {h : Heap} {X : List Addr} {d : D} {ds : List D} {v : Value} {vs : List Value} (a : Rep h X d v) (b : RepL h X ds vs) : RepL h X (d :: ds) (v :: vs) := by rw [RepL_cons]; exact ⟨v, vs, rfl, a, b⟩
theorem EvL.nil : EvL W n env ρ [] [] := fun _ _ _ _ _ _ _ => wpAny_items_nil ⟨_, _, rfl, Gr.refl _, id, RepL.mkNil⟩
theorem EvL.cons {e : Expr} {es : List Expr} {d : D} {ds : List D} (x : Ev W n env ρ e d true) (y : EvL W n env ρ es ds) (he : starEach (e :: es) env = (false, eval e env) :: starEach es env) : EvL W n env ρ (e :: es) (d :: ds) := by
  intro A lf X s pos a R
  refine wpAny_items_cons ((x A lf X s a R).to fun v h1 t1 g1 b1 r1 => (y A lf X _ pos a (R.gr g1 b1)).to fun vs h2 t2 g2 b2 r2 => ?_) he
  exact ⟨_, _, rfl, g1.trans g2, fun q => b2 (b1 q), RepL.mkCons (r1.gr g2) r2⟩
theorem Ev.list {es : List Expr} {ds : List D} {pos : Pos} {st : Bool} (x : EvL W n env ρ es ds) (hl : ds.length ≤ 100000) : Ev W n env ρ (.List es pos) (.list ds) st := by
  intro A lf X s a R
  refine wpAny_List ((x A lf X s pos a R).to fun vs h1 t1 g1 b1 r1 => ?_)
  have hn := r1.length
  refine ⟨by unfold sizeLine; omega, _, _, rfl, g1.trans (Gr.push _ _), fun q c o e => Heap.get?_push_of_some _ (b1 q c o e), Rep.to_hid ?_⟩
  rw [Rep_list]
  exact ⟨_, vs, rfl, (R.gd.live.gr g1).fresh, IsL.push _ _, r1.gr (Gr.push _ _)⟩
theorem Ev.tup {es : List Expr} {ds : List D} {k : Nat} {pos : Pos} {st : Bool} (x : EvL W n env ρ es ds) (hl : ds.length ≤ 100000) : Ev W n env ρ (.Tuple es k pos) (.tup ds) st := by
  intro A lf X s a R
  refine wpAny_Tuple ((x A lf X s pos a R).to fun vs h1 t1 g1 b1 r1 => ?_)
  have hn := r1.length
  refine ⟨by unfold sizeLine; omega, _, _, rfl, g1.trans (Gr.push _ _), fun q c o e => Heap.get?_push_of_some _ (b1 q c o e), Rep.to_hid ?_⟩
  rw [Rep_tup]
  exact ⟨_, vs, rfl, (R.gd.live.gr g1).fresh, IsT.push _ _, r1.gr (Gr.push _ _)⟩

/-! subscripts -/
noncomputable def idx : D → D → Option D
  | .list ds, .int k => if 0 ≤ k ∧ k < 100000 then ds[k.toNat]? else if k < 0 ∧ -(ds.length : Int) ≤ k ∧ -100000 ≤ k then ds[(k + ds.length).toNat]? else none
  | .tup ds, .int k => if 0 ≤ k ∧ k < 100000 then ds[k.toNat]? else none
  | _, _ => none
theorem sub_ops (slice : Expr) (o i : Value) : ∃ ops, subscripted slice false o i = operate ops (getItem o i) := by
  unfold subscripted
  split
  · exact ⟨_, rfl⟩
  · rename_i h; cases h
  · exact ⟨_, rfl⟩
theorem idx_ok {A : Around} {s : Shared} {X Y : List Addr} {d e r : D} {v u : Value} {value slice : Expr} (hi : idx d e = some r) (x : Rep s.heap X d v) (y : Rep s.heap Y e u) : Pu W A s (subscriptTail value slice v u) (fun z h' => Rep h' X r z) := by
  unfold Pu
  unfold idx at hi
  obtain ⟨ops, hops⟩ := sub_ops slice v u
  split at hi
  · rename_i ds k
    rw [Rep_list] at x; rw [Rep_int] at y
    obtain ⟨a, vs, rfl, _, hl, hr⟩ := x
    obtain ⟨t, rfl⟩ := y
    split at hi
    · rename_i hk
      obtain ⟨z, e1, e2⟩ := hr.get hi
      exact tail_any hl.is.typeIs slot_list_getitem.lookup (wpAny_getItem_list hl.is hk.1 (by omega) (by simpa using e1) ⟨_, _, rfl, Gr.refl _, id, e2⟩) hops
    · split at hi
      · rename_i hk
        obtain ⟨z, e1, e2⟩ := hr.get hi
        have hn := hr.length
        refine tail_any hl.is.typeIs slot_list_getitem.lookup (wpAny_getItem_list_neg hl.is hk.1 (by simp; omega) (by omega) ?_ ⟨_, _, rfl, Gr.refl _, id, e2⟩) hops
        simpa [hn] using e1
      · cases hi
  · rename_i ds k
    rw [Rep_tup] at x; rw [Rep_int] at y
    obtain ⟨a, vs, rfl, _, hl, hr⟩ := x
    obtain ⟨t, rfl⟩ := y
    split at hi
    · rename_i hk
      obtain ⟨z, e1, e2⟩ := hr.get hi
      have hlt : k.toNat < vs.length := (List.getElem?_eq_some_iff.mp e1).1
      have hsq : seqIndex? k vs.toArray.size = some k.toNat := by
        unfold seqIndex?
        have a1 : ¬ k < 0 := by omega
        have a2 : k < (vs.toArray.size : Int) := by simp; omega
        simp only [a1, if_false]
        rw [if_pos (by simp only [Bool.and_eq_true, decide_eq_true_eq]; exact ⟨hk.1, a2⟩)]
      have hT : s.TypeIs (.ref a) "tuple" := by obtain ⟨n', e'⟩ := hl; exact ⟨_, e', rfl⟩
      exact tail_any hT slot_tuple_getitem.lookup (getItem_tuple hl.is (by omega) (by omega) hsq (by simpa using e1) ⟨_, _, rfl, Gr.refl _, id, e2⟩) hops
    · cases hi
  · cases hi
theorem Ev.sub {l r : Expr} {pos : Pos} {d1 d2 d : D} {s1 s2 : Bool} (hl : Ev W n env ρ l d1 s1) (hr : Ev W n env ρ r d2 s2) (ho : idx d1 d2 = some d) : Ev W n env ρ (.Subscript l r pos) d s1 := by
  intro A lf X s a R
  refine Subscript_ ((hl A lf X s a R).to fun v1 h1 t1 g1 b1 r1 => ((hr A lf X _ a (R.gr g1 b1)).to fun v2 h2 t2 g2 b2 r2 => ?_))
  exact (idx_ok ho (r1.gr g2) r2).up (g1.trans g2) fun q => b2 (b1 q)
end
end Mine
namespace Mine
section
variable {W : Wd} {n : Nat} {env : Env} {ρ : Rho}

/-! slices -/
theorem RepL.pick {h : Heap} {X : List Addr} {ds : List D} {vs : List Value} (r : RepL h X ds vs) : ∀ is : List Nat, RepL h X (is.filterMap (ds[·]?)) (is.filterMap (vs[·]?))
  | [] => .mkNil
  | i :: is => by
    have hn := r.length
    by_cases hi : i < ds.length
    · obtain ⟨v, e1, e2⟩ := r.get (i := i) (d := ds[i]) (by simp [hi])
      rw [List.filterMap_cons_some (f := (ds[·]?)) (b := ds[i]) (by simp [hi]), List.filterMap_cons_some (f := (vs[·]?)) e1]
      exact .mkCons e2 (r.pick is)
    · rw [List.filterMap_cons_none (f := (ds[·]?)) (by simp; omega), List.filterMap_cons_none (f := (vs[·]?)) (by simp; omega)]
      exact r.pick is
noncomputable def slD (ds : List D) (lo hi st : Option Int) : List D :=
  (sliceRange (sliceBounds lo hi st ds.length).1 (sliceBounds lo hi st ds.length).2.1 (sliceBounds lo hi st ds.length).2.2).filterMap (ds[·]?)
noncomputable def slS (x : Str) (lo hi st : Option Int) : Str :=
  if (st.getD 1 == 1 && (Builtin.Str.strSliceIndices lo hi (st.getD 1) x.length).length == x.length) = true then x else ⟨((Builtin.Str.strSliceIndices lo hi (st.getD 1) x.length).filterMap (x.cps[·]?)).toArray⟩
noncomputable def sl : D → Option Int → Option Int → Option Int → Option D
  | .list ds, lo, hi, st => if ds.length ≤ 100000 ∧ st ≠ some 0 then some (.list (slD ds lo hi st)) else none
  | .str x, lo, hi, st => if x.length ≤ 100000 ∧ st ≠ some 0 ∧ (slS x lo hi st).length ≤ 100000 then some (.str (slS x lo hi st)) else none
  | _, _, _, _ => none

noncomputable def PartIs (v : Value) (p : Option Int) : Prop := IsPart v p
theorem isPart_value {v : Value} {p : Option Int} (h : IsPart v p) : ∃ q : Option (Int × Tok), v = partValue q ∧ q.map (·.1) = p := by
  cases h with
  | none => exact ⟨none, rfl, rfl⟩
  | int i t => exact ⟨some (i, t), rfl, rfl⟩
theorem sl_ok {A : Around} {s : Shared} {X Z : List Addr} {d r : D} {v : Value} {lo hi st : Option Int} {vl vh vs : Value} {a : Addr} {value slice : Expr} (hs : sl d lo hi st = some r) (x : Rep s.heap X d v) (lv : Live s.heap Z)
    (ha : s.heap.IsSliceOf a vl vh vs) (pl : IsPart vl lo) (ph : IsPart vh hi) (ps : IsPart vs st) (hf : flat r = false → X = Z) : Pu W A s (subscriptTail value slice v (.ref a)) (fun z h' => Rep h' Z r z) := by
  unfold Pu
  obtain ⟨ops, hops⟩ := sub_ops slice v (.ref a)
  unfold sl at hs
  split at hs
  · split at hs
    · rename_i ds _ _ _ hk
      cases hs
      have hXZ := hf rfl
      subst hXZ
      rw [Rep_list] at x
      obtain ⟨b, us, rfl, _, hl, hr⟩ := x
      have hn := hr.length
      refine tail_any hl.is.typeIs slot_list_getitem.lookup (wpAny_getItem_list_slice hl.is ha pl ph ps hk.2 ⟨_, _, rfl, Gr.push _ _, fun q c o e => Heap.get?_push_of_some _ (q c o e), ?_⟩ (by simp [sizeLine]; omega)) hops
      show Rep _ _ _ _
      rw [Rep_list]
      refine ⟨_, _, rfl, lv.fresh, ⟨_, Heap.get?_push_size _ rfl⟩, ?_⟩
      refine RepL.gr ?_ (Gr.push _ _)
      unfold slD
      rw [← hn]
      simpa using hr.pick _
    · cases hs
  · split at hs
    · rename_i hk
      cases hs
      rw [Rep_str] at x
      obtain ⟨t, rfl⟩ := x
      obtain ⟨l, rfl, e1⟩ := isPart_value pl
      obtain ⟨u, rfl, e2⟩ := isPart_value ph
      obtain ⟨q, rfl, e3⟩ := isPart_value ps
      subst e1 e2 e3
      refine tail_any (typeIs_str _ _ _) F.slot_str_getitem.lookup (wpAny_getItem_str_slice ha (by
        rw [beq_eq_false_iff_ne]; intro e
        cases q with
        | none => simp at e
        | some p => simp at e; exact hk.2.1 (by simp [e])) ?_) hops
      have hlen := hk.2.2
      unfold sliceMade slicePicked
      unfold slS at hlen ⊢
      split at hlen
      · rename_i hc
        rw [if_pos hc]
        simp only [if_pos hc]
        exact ⟨_, _, rfl, Gr.refl _, id, Rep.mkStr⟩
      · rename_i hc
        rw [if_neg hc]
        simp only [if_neg hc]
        refine ⟨by unfold sizeLine; exact Nat.le_trans hlen (by decide), _, _, rfl, Gr.refl _, id, Rep.mkStr⟩
    · cases hs
  · cases hs
noncomputable def EvP (W : Wd) (n : Nat) (env : Env) (ρ : Rho) (oe : Option Expr) (p : Option Int) : Prop :=
  ∀ A lf X s, AOk n A lf → Rd W env lf s.heap X ρ → Pu W A s (evalPart oe env) (fun v _ => IsPart v p)
theorem EvP.none : EvP W n env ρ none none := fun _ _ _ _ _ _ => by unfold Pu; rw [evalPart_none]; exact wpAny_pure ⟨_, _, rfl, Gr.refl _, id, IsPart.none⟩
theorem EvP.some {e : Expr} {i : Int} {st : Bool} (x : Ev W n env ρ e (.int i) st) : EvP W n env ρ (some e) (some i) := fun A lf X s a R => by
  unfold Pu; rw [evalPart_some]
  exact (x A lf X s a R).to fun v h1 t1 g1 b1 r => ⟨_, _, rfl, g1, b1, by rw [Rep_int] at r; obtain ⟨t, rfl⟩ := r; exact IsPart.int i t⟩
theorem Live.hid {h : Heap} {X : List Addr} (l : Live h X) (st : Bool) : Live h (hid st X) := by
  cases st
  · exact Live.nil h
  · exact l
theorem Ev.slice {v : Expr} {lo hi st : Option Expr} {p pos : Pos} {d r : D} {s1 : Bool} {pl ph ps : Option Int} (hv : Ev W n env ρ v d s1) (h1 : EvP W n env ρ lo pl) (h2 : EvP W n env ρ hi ph) (h3 : EvP W n env ρ st ps)
    (hs : sl d pl ph ps = some r) : Ev W n env ρ (.Subscript v (.Slice lo hi st p) pos) r s1 := by
  intro A lf X s a R
  refine Subscript_ ((hv A lf X s a R).to fun v1 h1' t1 g1 b1 r1 => wpAny_Slice ?_)
  refine (h1 A lf X _ a (R.gr g1 b1)).to fun vl k1 u1 m1 c1 q1 => ?_
  refine (h2 A lf X _ a ((R.gr g1 b1).gr m1 c1)).to fun vh k2 u2 m2 c2 q2 => ?_
  refine (h3 A lf X _ a (((R.gr g1 b1).gr m1 c1).gr m2 c2)).to fun vs k3 u3 m3 c3 q3 => ?_
  have G : Gr s.heap (k3.push { cls := .type "slice", data := .fields #[vl, vh, vs] }) := (((g1.trans m1).trans m2).trans m3).trans (Gr.push _ _)
  refine (sl_ok (W := W) (Z := hid s1 X) hs (r1.gr (((m1.trans m2).trans m3).trans (Gr.push _ _))) ((R.gd.live.gr G).hid s1) (Heap.IsSliceOf.new ..) q1 q2 q3 (fun _ => rfl)).up G fun q c o e => Heap.get?_push_of_some _ (c3 (c2 (c1 (b1 q))) c o e)

/-! a built-in of the ground -/
noncomputable def Blt (W : Wd) (x : Str) (v : Value) : Prop := W.mg x = none ∧ W.mb x = some v
theorem name_blt {M : Model} {A : Around} {s : Shared} {x : Str} {pos : Pos} {v : Value} {Q : Value → Shared → Prop} {E : Value → Shared → Prop} (B : Base W) (k : EnvOk env) (hx : env.kindOf x = some .globalImplicit) (hd : (x == ("__debug__" : Str)) = false) (b : Blt W x v)
    (hs : W.hB.StaysIn s.heap) (h : Q v s) : wpAny M A (eval (.Name x pos) env) Q E s :=
  Calls.Name_function_global k.kind hx (Calls.loadGlobal_builtin (by rw [k.glob]; exact B.g.keeps hs) b.1 (by rw [k.blt]; exact B.b.keeps hs) b.2 h) hd
theorem name_glob {M : Model} {A : Around} {s : Shared} {x : Str} {pos : Pos} {v : Value} {Q : Value → Shared → Prop} {E : Value → Shared → Prop} (B : Base W) (k : EnvOk env) (hx : env.kindOf x = some .globalImplicit) (hd : (x == ("__debug__" : Str)) = false) (b : W.mg x = some v)
    (hs : W.hB.StaysIn s.heap) (h : Q v s) : wpAny M A (eval (.Name x pos) env) Q E s :=
  Calls.Name_function_global k.kind hx (Calls.loadGlobal_global (by rw [k.glob]; exact B.g.keeps hs) b h) hd

/-- one argument: a built-in function's call -/
theorem Ev.call1 {f : Str} {id : String} {p pos : Pos} {e : Expr} {d r : D} {s1 st : Bool} (B : Base W) (k : EnvOk env) (hx : env.kindOf f = some .globalImplicit) (hd : (f == ("__debug__" : Str)) = false) (b : Blt W f (.builtin id))
    (he : starEach [e] env = [(false, eval e env)]) (x : Ev W n env ρ e d s1)
    (hc : ∀ A lf X s v, AOk n A lf → Gd W lf s.heap X → Rep s.heap (hid s1 X) d v → Pu W A s (call (.builtin id) [v]) (fun z h' => Rep h' (hid st X) r z)) : Ev W n env ρ (.Call (.Name f p) [e] [] pos) r st := by
  intro A lf X s a R
  refine wpAny_Call_NameR (name_blt B k hx hd b R.gd.base ?_)
  show wpAny _ A (callWith pos (.builtin id) [] (backTo pos (starEach [e] env)) []) _ _ s
  rw [he]
  refine callWith_builtin1 ((x A lf X s a R).to fun v h1 t1 g1 b1 r1 => ?_)
  exact (hc A lf X _ v a (R.gd.gr g1 b1) r1).up g1 b1

inductive Fn1 | len | abs | sum | sorted
noncomputable def Fn1.name : Fn1 → Str
  | .len => "len" | .abs => "abs" | .sum => "sum" | .sorted => "sorted"
noncomputable def Fn1.id : Fn1 → String
  | .len => "len" | .abs => "abs" | .sum => "sum" | .sorted => "sorted"
noncomputable def ints? : List D → Option (List Int)
  | [] => some []
  | .int x :: r => (ints? r).map (x :: ·)
  | _ => none
theorem ints_eq : ∀ {ds : List D} {xs : List Int}, ints? ds = some xs → ds = xs.map D.int
  | [], xs, e => by simp [ints?] at e; subst e; rfl
  | .int x :: ds, xs, e => by
    simp only [ints?] at e
    obtain ⟨r, h1, rfl⟩ := Option.map_eq_some_iff.mp e
    rw [List.map_cons, ints_eq h1]
  | .none :: _, _, e | .bool _ :: _, _, e | .str _ :: _, _, e | .list _ :: _, _, e | .tup _ :: _, _, e | .raw _ :: _, _, e => by simp [ints?] at e
theorem ints_map (xs : List Int) : ints? (xs.map D.int) = some xs := by
  induction xs with
  | nil => rfl
  | cons x r ih => simp only [List.map_cons, ints?, ih]; rfl
theorem RepL.ints {h : Heap} {X : List Addr} : ∀ {xs : List Int} {vs : List Value}, RepL h X (xs.map D.int) vs → IntsAre vs xs
  | [], vs, r => by rw [List.map_nil, RepL_nil] at r; subst r; exact .nil
  | x :: xs, vs, r => by
    rw [List.map_cons, RepL_cons] at r
    obtain ⟨v, q, rfl, h1, h2⟩ := r
    rw [Rep_int] at h1; obtain ⟨t, rfl⟩ := h1
    exact .cons x t h2.ints
theorem RepL.strsAre {h : Heap} {X : List Addr} : ∀ {xs : List Str} {vs : List Value}, RepL h X (xs.map D.str) vs → StrsAre vs xs
  | [], vs, r => by rw [List.map_nil, RepL_nil] at r; subst r; exact .nil
  | x :: xs, vs, r => by
    rw [List.map_cons, RepL_cons] at r
    obtain ⟨v, q, rfl, h1, h2⟩ := r
    rw [Rep_str] at h1; obtain ⟨t, rfl⟩ := h1
    exact .cons x t h2.strsAre
theorem RepL.of_ints {h : Heap} {X : List Addr} : ∀ {xs : List Int} {vs : List Value}, IntsAre vs xs → RepL h X (xs.map D.int) vs
  | _, _, .nil => .mkNil
  | _, _, .cons x t r => .mkCons .mkInt (.of_ints r)
theorem RepL.of_strs {h : Heap} {X : List Addr} : ∀ {xs : List Str} {vs : List Value}, StrsAre vs xs → RepL h X (xs.map D.str) vs
  | _, _, .nil => .mkNil
  | _, _, .cons x t r => .mkCons .mkStr (.of_strs r)
end
end Mine
namespace Mine

noncomputable def insI (x : Int) : List Int → List Int
  | [] => [x]
  | y :: r => if x ≤ y then x :: y :: r else y :: insI x r
noncomputable def sortI : List Int → List Int
  | [] => []
  | x :: r => insI x (sortI r)
theorem insI_perm (x : Int) : ∀ l, (insI x l).Perm (x :: l)
  | [] => .refl _
  | y :: r => by
    unfold insI
    split
    · exact .refl _
    · exact ((insI_perm x r).cons y).trans (.swap x y r)
theorem sortI_perm : ∀ l, (sortI l).Perm l
  | [] => .refl _
  | x :: r => (insI_perm x _).trans ((sortI_perm r).cons x)
theorem insI_sorted (x : Int) : ∀ l, l.Pairwise (· ≤ ·) → (insI x l).Pairwise (· ≤ ·)
  | [], _ => by simp [insI]
  | y :: r, h => by
    unfold insI
    obtain ⟨h1, h2⟩ := List.pairwise_cons.mp h
    split
    · rename_i hxy
      exact List.pairwise_cons.mpr ⟨fun z hz => (List.mem_cons.mp hz).elim (fun e => e ▸ hxy) fun hz => Int.le_trans hxy (h1 z hz), h⟩
    · rename_i hxy
      refine List.pairwise_cons.mpr ⟨fun z hz => ?_, insI_sorted x r h2⟩
      rcases List.mem_cons.mp ((insI_perm x r).mem_iff.mp hz) with rfl | hz
      · omega
      · exact h1 z hz
theorem sortI_sorted : ∀ l, (sortI l).Pairwise (· ≤ ·)
  | [] => .nil
  | x :: r => insI_sorted x _ (sortI_sorted r)
theorem sortI_unique {l l' : List Int} (hp : l'.Perm l) (hs : l'.Pairwise (· ≤ ·)) : l' = sortI l :=
  List.Perm.eq_of_pairwise (fun _ _ _ _ => Int.le_antisymm) hs (sortI_sorted l) (hp.trans (sortI_perm l).symm)

noncomputable def leS (x y : Str) : Bool := !strLt y x
noncomputable def insS (x : Str) : List Str → List Str
  | [] => [x]
  | y :: r => if leS x y then x :: y :: r else y :: insS x r
noncomputable def sortS : List Str → List Str
  | [] => []
  | x :: r => insS x (sortS r)
theorem leS_iff {x y : Str} : leS x y = true ↔ x.cps.toList ≤ y.cps.toList := by
  unfold leS strLt
  rw [Bool.not_eq_true', decide_eq_false_iff_not]
  exact List.not_lt
theorem leS_trans {x y z : Str} (a : leS x y = true) (b : leS y z = true) : leS x z = true := by
  rw [leS_iff] at *; exact List.le_trans a b
theorem leS_total (x y : Str) : leS x y = true ∨ leS y x = true := by
  rw [leS_iff, leS_iff]; exact List.le_total _ _
theorem leS_antisymm {x y : Str} (a : leS x y = true) (b : leS y x = true) : x = y := by
  rw [leS_iff] at *
  have := List.le_antisymm a b
  obtain ⟨⟨l⟩⟩ := x; obtain ⟨⟨l'⟩⟩ := y
  simp at this; rw [this]
theorem insS_perm (x : Str) : ∀ l, (insS x l).Perm (x :: l)
  | [] => .refl _
  | y :: r => by
    unfold insS
    split
    · exact .refl _
    · exact ((insS_perm x r).cons y).trans (.swap x y r)
theorem sortS_perm : ∀ l, (sortS l).Perm l
  | [] => .refl _
  | x :: r => (insS_perm x _).trans ((sortS_perm r).cons x)
theorem insS_sorted (x : Str) : ∀ l, l.Pairwise (leS · ·) → (insS x l).Pairwise (leS · ·)
  | [], _ => by simp [insS]
  | y :: r, h => by
    unfold insS
    obtain ⟨h1, h2⟩ := List.pairwise_cons.mp h
    split
    · rename_i hxy
      exact List.pairwise_cons.mpr ⟨fun z hz => (List.mem_cons.mp hz).elim (fun e => e ▸ hxy) fun hz => leS_trans hxy (h1 z hz), h⟩
    · rename_i hxy
      refine List.pairwise_cons.mpr ⟨fun z hz => ?_, insS_sorted x r h2⟩
      rcases List.mem_cons.mp ((insS_perm x r).mem_iff.mp hz) with rfl | hz
      · exact (leS_total y z).elim id fun h => absurd h hxy
      · exact h1 z hz
theorem sortS_sorted : ∀ l, (sortS l).Pairwise (leS · ·)
  | [] => .nil
  | x :: r => insS_sorted x _ (sortS_sorted r)
theorem rising_pairwise : ∀ (l : List Str) (x : Str), risingS x l = true → (x :: l).Pairwise (leS · ·)
  | [], x, _ => by simp
  | y :: r, x, h => by
    simp only [risingS, Bool.and_eq_true] at h
    have ih := rising_pairwise r y h.2
    have hxy : leS x y = true := by
      have := h.1
      rw [ltCps_eq] at this
      exact this
    refine List.pairwise_cons.mpr ⟨fun z hz => ?_, ih⟩
    rcases List.mem_cons.mp hz with rfl | hz
    · exact hxy
    · exact leS_trans hxy ((List.pairwise_cons.mp ih).1 z hz)
theorem sortS_unique {l l' : List Str} (hp : l'.Perm l) (hs : sortedS l' = true) : l' = sortS l := by
  have h : l'.Pairwise (leS · ·) := by
    cases l' with
    | nil => exact .nil
    | cons x r => exact rising_pairwise r x hs
  exact List.Perm.eq_of_pairwise (fun _ _ _ _ => leS_antisymm) h (sortS_sorted l) (hp.trans (sortS_perm l).symm)

noncomputable def sumI : List Int → Int
  | [] => 0
  | x :: r => x + sumI r
theorem preSum_eq (val : Nat → Int) (xs : List Int) (h : ∀ i (hi : i < xs.length), val i = xs[i]) : preSum val xs.length = sumI xs := by
  have key : ∀ n, n ≤ xs.length → preSum val n = sumI (xs.take n) := by
    intro n
    induction n with
    | zero => intro _; simp [preSum, sumI]
    | succ n ih =>
      intro hn
      have e : preSum val (n + 1) = preSum val n + val n := rfl
      rw [e, ih (by omega), h n (by omega), List.take_succ_eq_append_getElem (by omega)]
      generalize xs.take n = l
      induction l with
      | nil => simp [sumI]
      | cons a l ih => simp only [sumI, List.cons_append]; omega
  rw [key _ (Nat.le_refl _), List.take_length]

noncomputable def fn1 : Fn1 → D → Option D
  | .len, .list ds => if ds.length ≤ 100000 then some (.int ds.length) else none
  | .len, .str x => if x.length ≤ 100000 then some (.int x.length) else none
  | .abs, .int i => some (.int (if i < 0 then -i else i))
  | .sum, .list ds => (ints? ds).map fun xs => .int (sumI xs)
  | .sorted, .list ds => match ints? ds with
    | some xs => if xs.length < 64 then some (.list ((sortI xs).map D.int)) else none
    | none => match strs? ds with
      | some xs => if xs.length < 64 then some (.list ((sortS xs).map D.str)) else none
      | none => none
  | _, _ => none

section
variable {W : Wd} {n : Nat} {env : Env} {ρ : Rho}
theorem sorted_new {h : Heap} {X : List Addr} {vs : List Value} {out : Array Value} (lv : Live h X) : (h.objs.size + 1 ∉ X) ∧ IsL (sortedAll h vs out) (h.objs.size + 1) out.toList :=
  ⟨fun hm => let ⟨_, e⟩ := lv _ hm; absurd (Heap.lt_size e) (Nat.not_lt.mpr (Nat.le_succ _)), let ⟨e, he⟩ := sortedAll_at h vs out; ⟨e, he⟩⟩
theorem fn1_ok {f : Fn1} {A : Around} {lf : List Env} {X Y : List Addr} {s : Shared} {d r : D} {v : Value} (hnS : f = .sum → 0 < n) (hr : fn1 f d = some r) (a : AOk n A lf) (lv : Live s.heap Y) (x : Rep s.heap X d v) :
    Pu W A s (call (.builtin f.id) [v]) (fun z h' => Rep h' Y r z) := by
  unfold Pu
  unfold fn1 at hr
  split at hr
  · split at hr
    · rename_i hs; cases hr
      rw [Rep_list] at x; obtain ⟨b, vs, rfl, _, hl, hr⟩ := x
      have hn := hr.length
      refine Calls.call_len_list hl.is (by simp; omega) ⟨_, _, rfl, Gr.refl _, id, ?_⟩
      rw [List.size_toArray, hn]; exact Rep.mkInt
    · cases hr
  · split at hr
    · rename_i hs; cases hr
      rw [Rep_str] at x; obtain ⟨t, rfl⟩ := x
      exact len_str (by omega) ⟨_, _, rfl, Gr.refl _, id, Rep.mkInt⟩
    · cases hr
  · cases hr
    rw [Rep_int] at x; obtain ⟨t, rfl⟩ := x
    exact call_abs_int fun u tk => ⟨_, _, rfl, Gr.refl _, id, Rep.mkInt⟩
  · obtain ⟨xs, h1, rfl⟩ := Option.map_eq_some_iff.mp hr
    rw [ints_eq h1, Rep_list] at x; obtain ⟨b, vs, rfl, _, hl, hr⟩ := x
    have hI := hr.ints
    have hn := hI.length
    refine call_sum_walkG (wpAny_pyIter_list hl.is ?_)
    have hlt : b < s.heap.objs.size := by obtain ⟨_, e⟩ := hl; exact Heap.lt_size e
    have hne : b ≠ s.heap.objs.size := Nat.ne_of_lt hlt
    have Wk := Walks.list (prog := W.prog) (w := W.w) (A := A.in1) (a.1 (hnS rfl)) s.heap.objs.size b hne vs.toArray
    refine ⟨_, _, _, _, _, _, fun i => xs.getD i 0, rfl, Wk, ⟨⟨_, Heap.get?_push_size _ rfl, rfl, rfl⟩, hl.is.push _⟩, ?_, ?_, ?_⟩
    · intro c hc
      rw [Heap.size_push]
      rcases List.mem_cons.mp hc with rfl | hc
      · exact Nat.lt_succ_self _
      · rw [List.mem_singleton.mp hc]; exact Nat.lt_succ_of_lt hlt
    · intro i v hv
      have hv' : vs[i]? = some v := by simpa using hv
      have hi : i < xs.length := by have := (List.getElem?_eq_some_iff.mp hv').1; omega
      obtain ⟨t, ht⟩ := hI.get i xs[i] (by simp [hi])
      rw [ht] at hv'; cases hv'
      exact ⟨t, by simp [hi]⟩
    · intro h' tk t' hk
      refine ⟨h', tk, rfl, Gr.of_keep fun c o e => hk c o (fun hm => ?_) (Heap.get?_push_of_some _ e), fun q c o e => hk c o (fun hm => ?_) (Heap.get?_push_of_some _ (q c o e)), ?_⟩
      · rw [List.mem_singleton.mp hm] at e; exact absurd (Heap.lt_size e) (Nat.lt_irrefl _)
      · rw [List.mem_singleton.mp hm] at e; exact absurd (Heap.lt_size (q _ o e)) (Nat.lt_irrefl _)
      · rw [List.size_toArray, hn, preSum_eq _ xs (fun i hi => by simp [hi])]; exact Rep.mkInt
  · rename_i ds
    split at hr
    · rename_i xs h1
      split at hr
      · rename_i h64; cases hr
        rw [ints_eq h1, Rep_list] at x; obtain ⟨b, vs, rfl, _, hl, hr⟩ := x
        have hI := hr.ints
        have hn := hI.length
        refine sorted_ints hl.is hI (by omega) fun out ns' a1 a2 a3 => ?_
        obtain ⟨f1, f2⟩ := sorted_new (vs := vs) (out := out) lv
        refine ⟨_, _, rfl, Gr.of_keep fun _ _ => sortedAll_old, fun q c o e => sortedAll_old (q c o e), ?_⟩
        show Rep _ _ _ _
        rw [Rep_list, ← sortI_unique a2 a3]
        exact ⟨_, _, rfl, f1, f2, .of_ints a1⟩
      · cases hr
    · split at hr
      · rename_i xs h1
        split at hr
        · rename_i h64; cases hr
          rw [strs_eq h1, Rep_list] at x; obtain ⟨b, vs, rfl, _, hl, hr⟩ := x
          have hI := hr.strsAre
          have hn := hr.length
          rw [List.length_map] at hn
          refine sorted_strs hl.is hI (by omega) fun out ns' a1 a2 a3 => ?_
          obtain ⟨f1, f2⟩ := sorted_new (vs := vs) (out := out) lv
          refine ⟨_, _, rfl, Gr.of_keep fun _ _ => sortedAll_old, fun q c o e => sortedAll_old (q c o e), ?_⟩
          show Rep _ _ _ _
          rw [Rep_list, ← sortS_unique a2 a3]
          exact ⟨_, _, rfl, f1, f2, .of_strs a1⟩
        · cases hr
      · cases hr
  · cases hr
theorem Ev.fn1 {f : Fn1} {p pos : Pos} {e : Expr} {d r : D} {s1 st : Bool} (B : Base W) (k : EnvOk env) (hx : env.kindOf f.name = some .globalImplicit) (b : Blt W f.name (.builtin f.id))
    (he : starEach [e] env = [(false, eval e env)]) (x : Ev W n env ρ e d s1) (hr : Mine.fn1 f d = some r) (hn : f = .sum → 0 < n := by first | exact (fun q => nomatch q) | exact (fun _ => Nat.succ_pos _)) : Ev W n env ρ (.Call (.Name f.name p) [e] [] pos) r st :=
  Ev.call1 B k hx (by cases f <;> decide) b he x fun A lf X s v a g q => fn1_ok hn hr a (g.live.hid st) q
end
end Mine
namespace Mine
inductive Mth | split | join | rfind | rstrip | startswith | index
noncomputable def Mth.name : Mth → Str
  | .split => "split" | .join => "join" | .rfind => "rfind" | .rstrip => "rstrip" | .startswith => "startswith" | .index => "index"
noncomputable def Mth.ty : Mth → String
  | .index => "list"
  | _ => "str"
noncomputable def Mth.id : Mth → String
  | .split => "str.split" | .join => "str.join" | .rfind => "str.rfind" | .rstrip => "str.rstrip" | .startswith => "str.startswith" | .index => "list.index"
noncomputable def idxS (x : Str) : List Str → Option Nat
  | [] => none
  | y :: r => if y == x then some 0 else (idxS x r).map (· + 1)
theorem idxS_spec {x : Str} : ∀ {l : List Str} {j : Nat}, idxS x l = some j → ∃ hj : j < l.length, (l[j] == x) = true ∧ ∀ m (hm : m < l.length), m < j → (l[m] == x) = false
  | [], j, h => by simp [idxS] at h
  | y :: r, j, h => by
    unfold idxS at h
    split at h
    · rename_i hy; cases h; exact ⟨by simp, hy, fun m _ hm => absurd hm (Nat.not_lt_zero _)⟩
    · rename_i hy
      obtain ⟨i, hi, rfl⟩ := Option.map_eq_some_iff.mp h
      obtain ⟨h1, h2, h3⟩ := idxS_spec hi
      refine ⟨by simp; omega, by simpa using h2, fun m hm hlt => ?_⟩
      cases m with
      | zero => simpa using hy
      | succ m => simpa using h3 m (by simpa using hm) (by omega)
noncomputable def meth : Mth → D → D → Option D
  | .split, .str x, .str y => if y.length ≠ 0 ∧ x.length ≤ 100000 ∧ (Builtin.Str.partsBetween x (Builtin.Str.occurrences x y 0 x.length (x.length + 1)) y.length).length ≤ 100000 then some (.list ((Txt.split x y).map D.str)) else none
  | .join, .str x, .list ds => (strs? ds).bind fun ys => if (ys.map (·.length)).sum + ys.length * x.length ≤ 100000 then some (.str (Txt.join x ys)) else none
  | .rfind, .str x, .str y => some (.int (Txt.rfind x y))
  | .rstrip, .str x, .str y => if x.length ≤ 100000 then some (.str (Txt.rstripChars x y)) else none
  | .startswith, .str x, .str y => some (.bool (Txt.startswith x y))
  | .index, .list ds, .str x => (strs? ds).bind fun ys => if ys.length ≤ 100000 then (idxS x ys).map (fun j : Nat => D.int (j : Int)) else none
  | _, _, _ => none

section
variable {W : Wd} {n : Nat} {env : Env} {ρ : Rho}
theorem RepL.numbered {h : Heap} {X : List Addr} : ∀ (l : List (Str × Tok)), RepL h X ((l.map (·.1)).map D.str) (strValues l)
  | [] => .mkNil
  | (_, _) :: l => .mkCons .mkStr (RepL.numbered l)
theorem split_ok {A : Around} {s : Shared} {X : List Addr} {x y : Str} {t u : Tok} (lv : Live s.heap X) (hy : y.length ≠ 0) (hx : x.length ≤ 100000)
    (hp : (Builtin.Str.partsBetween x (Builtin.Str.occurrences x y 0 x.length (x.length + 1)) y.length).length ≤ 100000) :
    Pu W A s (call (.builtin "str.split") [.str x t, .str y u]) (fun z h' => Rep h' X (.list ((Txt.split x y).map D.str)) z) := by
  unfold Pu
  have hy' : (y.length == 0) = false := by simpa using hy
  have fin : ∀ (l : List (Str × Tok)) (tk : Nat), l.map (·.1) = Txt.split x y → ∃ h' tk', ({ s with heap := s.heap.push { cls := .type "list", data := .seq (strValues l).toArray }, toks := tk } : Shared) = { s with heap := h', toks := tk' } ∧ Gr s.heap h' ∧
      (W.hB.StaysIn s.heap → W.hB.StaysIn h') ∧ Rep h' X (.list ((Txt.split x y).map D.str)) (.ref s.heap.objs.size) := fun l tk hl =>
    ⟨_, tk, rfl, Gr.push _ _, fun b c o e => Heap.get?_push_of_some _ (b c o e), by rw [Rep_list]; exact ⟨_, _, rfl, lv.fresh, IsL.push _ _, hl ▸ RepL.numbered l⟩⟩
  cases h1 : (decide (x.length < y.length) || decide (Builtin.Str.strKind x < Builtin.Str.strKind y))
  · cases hf : (Builtin.Str.occurrences x y 0 x.length (x.length + 1)).isEmpty
    · refine call_meets F.slot_str_split (typeIs_str _ _ _) F.entry_str_split (F.args_str_split_2 _ _) (meets_str_split_sep x y t u h1 hy' hf (by unfold sizeLine; omega) (by unfold sizeLine; omega)) ?_
      show wants _ _ _ { s with toks := _, heap := s.heap.push { cls := .type "list", data := .seq (strsFrom s.toks (Builtin.Str.partsBetween x (Builtin.Str.occurrences x y 0 x.length (x.length + 1)) y.length)).toArray } }
      rw [strsFrom_eq]
      exact fin (numbered s.toks _) _ ((numbered_texts _ _).trans ((if_neg (ne_true_of_eq_false h1)).trans (if_neg (ne_true_of_eq_false hf))).symm)
    · exact call_meets F.slot_str_split (typeIs_str _ _ _) F.entry_str_split (F.args_str_split_2 _ _) (meets_str_split_not_found x y t u h1 hy' hf)
        (fin [(x, t)] s.toks ((if_neg (ne_true_of_eq_false h1)).trans (if_pos hf)).symm)
  · exact call_meets F.slot_str_split (typeIs_str _ _ _) F.entry_str_split (F.args_str_split_2 _ _) (meets_str_split_cannot_occur x y t u h1)
      (fin [(x, t)] s.toks (if_pos h1).symm)
theorem meth_ok {m : Mth} {A : Around} {s : Shared} {X Y Z : List Addr} {d e r : D} {v u : Value} (hr : meth m d e = some r) (lv : Live s.heap Z) (x : Rep s.heap X d v) (y : Rep s.heap Y e u) :
    Pu W A s (call (.builtin m.id) [v, u]) (fun z h' => Rep h' Z r z) := by
  unfold meth at hr
  split at hr
  · split at hr
    · rename_i hs; cases hr
      rw [Rep_str] at x y; obtain ⟨t, rfl⟩ := x; obtain ⟨t', rfl⟩ := y
      exact split_ok lv hs.1 hs.2.1 hs.2.2
    · cases hr
  · obtain ⟨ys, h1, h2⟩ := Option.bind_eq_some_iff.mp hr
    split at h2
    · rename_i hs; cases h2
      rw [Rep_str] at x; rw [strs_eq h1, Rep_list] at y
      obtain ⟨t, rfl⟩ := x
      obtain ⟨b, vs, rfl, _, hl, hr⟩ := y
      exact join_list hl.is (by simpa using hr.strsAre) (by omega) fun t' k => ⟨_, _, rfl, Gr.refl _, id, Rep.mkStr⟩
    · cases h2
  · cases hr
    rw [Rep_str] at x y; obtain ⟨t, rfl⟩ := x; obtain ⟨t', rfl⟩ := y
    exact SC.rfind ⟨_, _, rfl, Gr.refl _, id, Rep.mkInt⟩
  · split at hr
    · rename_i hs; cases hr
      rw [Rep_str] at x y; obtain ⟨t, rfl⟩ := x; obtain ⟨t', rfl⟩ := y
      exact SC.rstripChars (fun _ _ => ⟨_, _, rfl, Gr.refl _, id, Rep.mkStr⟩) (by unfold sizeLine; omega)
    · cases hr
  · cases hr
    rw [Rep_str] at x y; obtain ⟨t, rfl⟩ := x; obtain ⟨t', rfl⟩ := y
    exact SC.startswith ⟨_, _, rfl, Gr.refl _, id, Rep.mkBool⟩
  · rename_i ds q
    obtain ⟨ys, h1, h2⟩ := Option.bind_eq_some_iff.mp hr
    split at h2
    · rename_i hs
      obtain ⟨j, h3, rfl⟩ := Option.map_eq_some_iff.mp h2
      rw [Rep_str] at y; rw [strs_eq h1, Rep_list] at x
      obtain ⟨t, rfl⟩ := y
      obtain ⟨b, vs, rfl, _, hl, hr⟩ := x
      obtain ⟨e2, f2⟩ := hr.strs
      obtain ⟨hj, hit, hno⟩ := idxS_spec h3
      have hn : vs.length = ys.length := by rw [← e2, List.length_map]
      obtain ⟨k, hk⟩ := id hl
      have val : ∀ m (hm : m < vs.length) (hm' : m < ys.length), valStr vs[m] = ys[m] := fun m hm hm' => by
        have : (vs.map valStr)[m]? = ys[m]? := by rw [e2]
        simpa [hm, hm'] using this
      refine call_meets F.slot_list_index hl.is.typeIs F.entry_list_index (F.args_list_index_2 _ _)
        (MeetsSeq.list_index b vs.toArray k (.str q t) (fun z => valStr z == q) (fun z hz => ?_) j (by simp; omega) (by omega) ?_ ?_) ⟨hk, ⟨_, _, rfl, Gr.refl _, id, Rep.mkInt⟩⟩
      · obtain ⟨t', ht'⟩ := f2 z (by simpa using hz)
        have key : MeetsSeq.EqGives (.str (valStr z) t') (.str q t) (valStr z == q) := fun prog w A E s Q hq => wpAny_eqBool_str hq
        rw [← ht'] at key
        exact key
      · simpa [val j (by omega) hj] using hit
      · intro m hm hlt
        simp at hm
        simpa [val m hm (by omega)] using hno m (by omega) hlt
    · cases h2
  · cases hr

theorem meth_type {m : Mth} {s : Shared} {X : List Addr} {d e r : D} {v : Value} (hr : Mine.meth m d e = some r) (r1 : Rep s.heap X d v) : s.TypeIs v m.ty := by
  unfold Mine.meth at hr
  split at hr
  · rw [Rep_str] at r1; obtain ⟨t, rfl⟩ := r1; exact typeIs_str _ _ _
  · rw [Rep_str] at r1; obtain ⟨t, rfl⟩ := r1; exact typeIs_str _ _ _
  · rw [Rep_str] at r1; obtain ⟨t, rfl⟩ := r1; exact typeIs_str _ _ _
  · rw [Rep_str] at r1; obtain ⟨t, rfl⟩ := r1; exact typeIs_str _ _ _
  · rw [Rep_str] at r1; obtain ⟨t, rfl⟩ := r1; exact typeIs_str _ _ _
  · rw [Rep_list] at r1; obtain ⟨b, vs, rfl, _, hl, _⟩ := r1; exact hl.is.typeIs
  · cases hr
/-- a method of one argument -/
theorem Ev.meth {m : Mth} {o e : Expr} {apos pos : Pos} {d d2 r : D} {s1 s2 st : Bool} (hb : ∀ whole, attributeBase o m.name env whole = whole) (hl : (apos.endLine == pos.line) = true) (he : starEach [e] env = [(false, eval e env)])
    (x : Ev W n env ρ o d s1) (y : Ev W n env ρ e d2 s2) (hr : Mine.meth m d d2 = some r) : Ev W n env ρ (.Call (.Attribute o m.name apos) [e] [] pos) r st := by
  intro A lf X s a R
  have hfew : ((backTo pos (starEach [e] env)).all (fun x => !x.1) && (backToKw pos (keywordEach [] env)).all (fun x => x.1.isSome)
      && decide ([e].length + ([] : List Keyword).length + (if ([] : List Keyword).isEmpty then 0 else 1) < 30)) = true := by rw [he]; rfl
  have pa : PlainAttrs m.ty := match m with
    | .split | .join | .rfind | .rstrip | .startswith => F.plainAttrs_str
    | .index => F.plainAttrs_list
  have slot : Slot m.ty m.name m.id := match m with
    | .split => F.slot_str_split | .join => F.slot_str_join | .rfind => F.slot_str_rfind | .rstrip => F.slot_str_rstrip | .startswith => F.slot_str_startswith | .index => F.slot_list_index
  have hty : typeOf (.builtin m.id) = pure (.type "method_descriptor") := match m with
    | .split => F.type_str_split | .join => F.type_str_join | .rfind => F.type_str_rfind | .rstrip => F.type_str_rstrip | .startswith => F.type_str_startswith | .index => F.type_list_index
  refine wpAny_Call_method (T := m.ty) (hb _) hfew hl pa slot hty ((x A lf X s a R).to fun v h1 t1 g1 b1 r1 => ?_)
  refine ⟨?_, ?_, ?_⟩
  · exact meth_type hr r1
  · intro b hb'
    subst hb'
    unfold Mine.meth at hr
    split at hr <;> first | (rw [Rep_str] at r1; obtain ⟨t, q⟩ := r1; cases q) | (rw [Rep_list] at r1; obtain ⟨b, vs, q, _, ⟨k, hl⟩, _⟩ := r1; cases q; exact ⟨_, hl, rfl⟩) | cases hr
  · rw [he]
    refine Calls.callWith_builtin rfl (Calls.evalArgs_plain (Calls.spliced_cons ((y A lf X _ a (R.gr g1 b1)).to fun u h2 t2 g2 b2 r2 => Calls.spliced_nil ?_)))
    exact (meth_ok (W := W) hr ((R.gd.live.gr (g1.trans g2)).hid st) (r1.gr g2) r2).up (g1.trans g2) fun q => b2 (b1 q)

/-! calls of the text's own defs -/
noncomputable def CallOk (W : Wd) (n : Nat) (a : Addr) (ds : List D) (d : D) : Prop :=
  ∀ A lf X s vs, AOk n A lf → Gd W lf s.heap X → RepL s.heap X ds vs → Pu W A s (call (.ref a) vs) (fun z h' => Rep h' X d z)
structure FnAt (W : Wd) (f : Str) (a : Addr) (fd : FuncData) : Prop where
  name : W.mg f = some (.ref a)
  obj : ∃ o, W.hB.get? a = some o ∧ o.data = .func fd
theorem Ev.callU {f : Str} {a : Addr} {fd : FuncData} {p pos : Pos} {e : Expr} {es : List Expr} {ds : List D} {d : D} {st : Bool} (B : Base W) (k : EnvOk env) (hx : env.kindOf f = some .globalImplicit) (hd : (f == ("__debug__" : Str)) = false) (F : FnAt W f a fd)
    (he : starEach (e :: es) env = (false, eval e env) :: starEach es env) (x : EvL W n env ρ (e :: es) ds) (c : CallOk W n a ds d) : Ev W n env ρ (.Call (.Name f p) (e :: es) [] pos) d st := by
  intro A lf X s ak R
  obtain ⟨o, ho, hdat⟩ := F.obj
  refine wpAny_Call_NameR (name_glob B k hx hd F.name R.gd.base ?_)
  have hb : backTo pos (starEach (e :: es) env) = (false, eval e env) :: backTo pos (starEach es env) := by rw [he]; rfl
  refine Calls.callWith_function (o := o) (fd := fd) ?_
  have := x A lf X s pos ak R
  rw [hb] at this ⊢
  refine Calls.evalArgs_plain (this.to fun vs h1 t1 g1 b1 r1 => ⟨⟨b1 R.gd.base a o ho, hdat⟩, ?_⟩)
  exact ((c A lf X _ vs ak (R.gd.gr g1 b1) r1).mono fun _ _ _ q => q.to_hid).up g1 b1
end
end Mine
namespace Mine

/-! where a name is kept -/
noncomputable def VSlot (env : Env) (x : Str) (a : Addr) (h : Heap) : Prop :=
  (env.kindOf x = some .local ∧ a = env.locals ∧ ∃ m, h.Ns a m) ∨ (env.kindOf x = some .cell ∧ env.cells.lookup x = some a ∧ ∃ v, h.IsCell a v)
theorem VSlot.gr {env : Env} {x : Str} {a : Addr} {h h' : Heap} (q : VSlot env x a h) (g : Gr h h') : VSlot env x a h' :=
  q.imp (fun ⟨k, e, m, n⟩ => ⟨k, e, m, g.ns n⟩) (fun ⟨k, e, v, i⟩ => ⟨k, e, v, g.cell i⟩)
theorem VSlot.live {env : Env} {x : Str} {a : Addr} {h : Heap} (q : VSlot env x a h) : ∃ o, h.get? a = some o := by
  rcases q with ⟨_, _, m, o, _, _, e, _⟩ | ⟨_, _, v, o, e, _⟩ <;> exact ⟨o, e⟩
theorem VSlot.sameBut {env : Env} {x : Str} {a b : Addr} {h h' : Heap} (q : VSlot env x a h) (hs : Heap.SameBut b h h') (hab : a ≠ b) : VSlot env x a h' :=
  q.imp (fun ⟨k, e, m, n⟩ => ⟨k, e, m, n.sameBut hs hab⟩) (fun ⟨k, e, v, i⟩ => ⟨k, e, v, i.sameBut hs hab⟩)
theorem store_ok {M : Model} {A : Around} {E : Value → Shared → Prop} {env : Env} {x : Str} {a : Addr} {v : Value} {s : Shared} {Q : Unit → Shared → Prop} (k : EnvOk env) (q : VSlot env x a s.heap)
    (h : ∀ h' tk, VarIs env h' x v → VSlot env x a h' → Heap.SameBut a s.heap h' → (∀ m, s.heap.Ns env.locals m → env.kindOf x = some .local → h'.Ns env.locals (fun y => if y = x then some v else m y)) → Q () { s with heap := h', toks := tk }) :
    wpAny M A (storeName env x v) Q E s := by
  have hp : (env.scope.kind == .class || (env.scope.kind == .module && env.locals != env.globals)) = false := by rw [k.kind]; rfl
  rcases q with ⟨kd, rfl, m, hn⟩ | ⟨kd, hl, v0, hi⟩
  · refine wpAny_storeName_local kd hn (fun h' hn' hs => h h' _ (.inl ⟨kd, _, hn', by simp⟩) (.inl ⟨kd, rfl, _, hn'⟩) hs fun m' hn2 _ => ?_) hp
    have e : m' = m := by
      funext y
      obtain ⟨o, es, ep, e1, e2, _, e4⟩ := hn
      obtain ⟨o', es', ep', f1, f2, _, f4⟩ := hn2
      rw [e1] at f1; cases f1; rw [e2] at f2; cases f2
      rw [← e4, ← f4]
    rw [e]; exact hn'
  · exact wpAny_storeName_cell k.kind kd hl hi fun h' hi' hs => h h' _ (.inr ⟨.inl kd, _, hl, hi'⟩) (.inr ⟨kd, hl, _, hi'⟩) hs fun _ _ kl => by rw [kd] at kl; cases kl

/-! the closure of a block -/
noncomputable def closOf (cells : List (Str × Addr)) : List (Str × NameKind) → List (Str × Addr) → Option (List (Str × Addr))
  | [], acc => some acc
  | (x, k) :: r, acc => if k == .free then (match cells.lookup x with | some c => closOf cells r ((x, c) :: acc) | none => none) else closOf cells r acc
theorem closureFor_of {env : Env} {scope : Scope} {cl : List (Str × Addr)} (h : closOf env.cells scope.names [] = some cl) : closureFor scope env = pure cl := by
  unfold closureFor
  have key : ∀ (names : List (Str × NameKind)) (acc : List (Str × Addr)), closOf env.cells names acc = some cl →
      (forIn names acc fun (p : Str × NameKind) (cs : List (Str × Addr)) => (if p.2 == .free then (do let c ← cellOf env p.1; pure (.yield ((p.1, c) :: cs))) else pure (.yield cs) : Sem (ForInStep (List (Str × Addr))))) = pure cl := by
    intro names
    induction names with
    | nil => intro acc e; simp only [closOf] at e; cases e; rfl
    | cons p r ih =>
      obtain ⟨x, k⟩ := p
      intro acc e
      simp only [closOf] at e
      rw [List.forIn_cons]
      split at e
      · rename_i hk
        simp only [hk, if_true]
        split at e
        · rename_i c hc
          unfold cellOf; rw [hc]
          exact ih _ e
        · cases e
      · rename_i hk
        simp only [hk]
        exact ih _ e
  have := key scope.names [] h
  change ((forIn scope.names [] fun (p : Str × NameKind) (cs : List (Str × Addr)) => (if p.2 == .free then (do let c ← cellOf env p.1; pure (.yield ((p.1, c) :: cs))) else pure (.yield cs) : Sem (ForInStep (List (Str × Addr))))) >>= fun cs => pure cs) = pure cl
  rw [this]
  rfl
theorem closOf_spec {cells : List (Str × Addr)} : ∀ {names : List (Str × NameKind)} {acc cl : List (Str × Addr)}, closOf cells names acc = some cl → (∀ y c, acc.lookup y = some c → cells.lookup y = some c) →
    (∀ y c, cl.lookup y = some c → cells.lookup y = some c) ∧ (∀ y, (y, NameKind.free) ∈ names ∨ (acc.lookup y).isSome = true → (cl.lookup y).isSome = true)
  | [], acc, cl, h, ha => by simp only [closOf] at h; cases h; exact ⟨ha, fun y q => q.elim (fun q => nomatch q) id⟩
  | (x, k) :: r, acc, cl, h, ha => by
    simp only [closOf] at h
    split at h
    · rename_i hk
      split at h
      · rename_i c hc
        obtain ⟨h1, h2⟩ := closOf_spec h (fun y c' e => by
          rw [List.lookup_cons] at e
          cases hy : y == x with
          | true => rw [hy] at e; cases e; rw [beq_iff_eq.mp hy]; exact hc
          | false => rw [hy] at e; exact ha y c' e)
        refine ⟨h1, fun y q => h2 y ?_⟩
        rw [List.lookup_cons]
        cases hy : y == x with
        | true => exact .inr rfl
        | false =>
          refine q.imp (fun q => ?_) id
          rcases List.mem_cons.mp q with e | q
          · cases e; simp at hy
          · exact q
      · cases h
    · rename_i hk
      obtain ⟨h1, h2⟩ := closOf_spec h ha
      refine ⟨h1, fun y q => h2 y (q.imp (fun q => ?_) id)⟩
      rcases List.mem_cons.mp q with e | q
      · cases e; simp at hk
      · exact q
end Mine
namespace Mine

theorem cellsFrom_append : ∀ (names : List (Str × NameKind)) (n : Nat) (acc : List (Str × Addr)), cellsFrom n names acc = cellsFrom n names [] ++ acc
  | [], _, _ => rfl
  | (x, k) :: r, n, acc => by
    unfold cellsFrom
    split
    · rw [cellsFrom_append r (n + 1) ((x, n) :: acc), cellsFrom_append r (n + 1) [(x, n)]]; simp
    · exact cellsFrom_append r n acc
theorem cellsFrom_mem : ∀ (names : List (Str × NameKind)) (n : Nat) {y : Str} {c : Addr}, (y, c) ∈ cellsFrom n names [] → (y, NameKind.cell) ∈ names
  | [], _, _, _, h => nomatch h
  | (x, k) :: r, n, y, c, h => by
    unfold cellsFrom at h
    split at h
    · rename_i hk
      rw [cellsFrom_append] at h
      rcases List.mem_append.mp h with h | h
      · exact .tail _ (cellsFrom_mem r _ h)
      · have := List.mem_singleton.mp h
        cases this
        rw [beq_iff_eq.mp hk]; exact .head _
    · exact .tail _ (cellsFrom_mem r _ h)

/-- the env of a comprehension's block -/
noncomputable def compE (scope : Scope) (C : Addr) (cs : List (Str × Addr)) (env : Env) : Env :=
  { scope := relabel scope env, locals := C, globals := env.globals, cells := cs, qual := env.qual, func := none, code := env.code, frame := env.frame, builtins := env.builtins }

theorem newEnv_comp {M : Model} {A : Around} {E : Value → Shared → Prop} {s : Shared} {scope : Scope} {cl : List (Str × Addr)} {env : Env} {Q : Env → Shared → Prop}
    (h : Q { scope, locals := s.heap.objs.size, globals := env.globals, cells := cellsFrom (s.heap.objs.size + 1) scope.names cl, qual := env.qual, func := none, code := env.code, frame := env.frame, builtins := env.builtins }
      { s with heap := pushCells (s.heap.push { cls := .type "dict", data := .dict #[] }) scope.names }) :
    wpAny M A (newFunctionEnv scope env.globals cl [] env.qual none .none (some env)) Q E s := by
  simp only [newFunctionEnv, Option.isSome_some, if_true]
  refine wpAny_bind (wpAny_alloc ?_)
  refine wpAny_bind (wpAny_layCells _ (fun name kind cells => by cases kind == NameKind.cell <;> simp) _ _ _ _ ?_)
  rw [show ({ s with heap := s.heap.push { cls := .type "dict", data := .dict #[] } } : Shared).heap.objs.size = s.heap.objs.size + 1 from Heap.size_push ..]
  exact wpAny_bind (wpAny_pure (wpAny_pure h))

theorem go_trivial {M : Model} {A : Around} {g : Shared} {I : Addr} {o : Obj} {T : String} {fs : Array Value} {v : Value} {target : Expr} {Q : Unit → Shared → Prop} {E : Value → Shared → Prop} (e : g.heap.get? I = some o) (hc : o.cls = .type T) (hd : o.data = .fields fs)
    (hT : (["enumerate", "zip", "dict_itemiterator", "dict_reverseitemiterator", "odict_iterator", "itertools.zip_longest", "itertools.pairwise"] : List String).contains T = false) (hq : Q () g) : wpAny M A (letOwnedTupleGo target (.ref I) v) Q E g := by
  have key : ∀ b : Addr, wpAny M A (do
      let o ← load I
      match o.cls, o.data with
      | .type n, .fields vs =>
        if (["enumerate", "zip", "dict_itemiterator", "dict_reverseitemiterator", "odict_iterator", "itertools.zip_longest", "itertools.pairwise"] : List String).contains n && vs[0]? == some (rawInt b) then do
          rule "for.unpacks-the-owned-tuple"
          updateField I 0 .none
        else pure ()
      | _, _ => pure () : Sem Unit) Q E g := fun b => by
    refine wpAny_bind (wpAny_load e ?_)
    rw [hc, hd]
    dsimp only
    rw [hT, Bool.false_and, if_neg (by decide)]
    exact wpAny_pure hq
  unfold letOwnedTupleGo
  split
  · cases v <;> first | exact key _ | exact wpAny_pure hq
  · cases v <;> first | exact key _ | exact wpAny_pure hq
  · exact wpAny_pure hq
/-- the source of a loop: its items as data, an iterator over them -/
noncomputable def Src (W : Wd) (n : Nat) (env : Env) (ρ : Rho) (iter : Expr) (ds : List D) : Prop :=
  ∀ A lf X s (Q : Value → Shared → Prop) (E : Value → Shared → Prop), AOk n A lf → Rd W env lf s.heap X ρ →
    (∀ h' tk I fp wr P St, Gr s.heap h' → (W.hB.StaysIn s.heap → W.hB.StaysIn h') → Walks W.prog W.w A I fp wr ds.length P St → St 0 h' → Live h' fp → (∀ b ∈ fp, b ∉ X) → (∀ b ∈ wr, s.heap.get? b = none) →
      (∀ i g g', St i g → (∀ b ∈ fp, ∀ o, g.get? b = some o → ∃ o', g'.get? b = some o' ∧ Same o o') → St i g') → (∀ i g, St i g → Live g wr) → (∀ i v, P i v → ∃ d, ds[i]? = some d ∧ Rep h' (wr ++ X) d v) → (∀ i (g : Shared) v target (Q' : Unit → Shared → Prop) (E' : Value → Shared → Prop), St i g.heap → Q' () g → wpAny (model W.prog W.w) A (letOwnedTupleGo target (.ref I) v) Q' E' g) → Q (.ref I) { s with heap := h', toks := tk }) →
    wpAny (model W.prog W.w) A (eval iter env) (fun x s₁ => wpAny (model W.prog W.w) A (pyIter x) Q E s₁) E s

section
variable {W : Wd} {n : Nat} {env : Env} {ρ : Rho}
theorem Src.list {iter : Expr} {ds : List D} (x : Ev W n env ρ iter (.list ds) true) (hn0 : 0 < n := by exact Nat.succ_pos _) : Src W n env ρ iter ds := by
  intro A lf X s Q E a R hQ
  refine (x A lf X s a R).to fun v h1 t1 g1 b1 r1 => ?_
  rw [show hid true X = X from rfl, Rep_list] at r1
  obtain ⟨b, vs, rfl, hb, hl, hr⟩ := r1
  refine wpAny_pyIter_list hl.is ?_
  have hlt : b < h1.objs.size := by obtain ⟨_, e⟩ := hl; exact Heap.lt_size e
  have Wk := Walks.list (prog := W.prog) (w := W.w) (A := A) (a.1 hn0) h1.objs.size b (Nat.ne_of_lt hlt) vs.toArray
  rw [show vs.toArray.size = ds.length by simp [hr.length]] at Wk
  refine hQ _ _ _ _ _ _ _ (g1.trans (Gr.push _ _)) (fun q c o e => Heap.get?_push_of_some _ (b1 q c o e)) Wk ⟨⟨_, Heap.get?_push_size _ rfl, rfl, rfl⟩, hl.is.push _⟩ ?_ ?_ ?_ ?_ ?_ ?_ ?_
  · intro c hc
    rcases List.mem_cons.mp hc with rfl | hc
    · exact ⟨_, Heap.get?_push_size _ rfl⟩
    · rw [List.mem_singleton.mp hc]
      obtain ⟨_, e⟩ := hl
      exact ⟨_, Heap.get?_push_of_some _ e⟩
  · intro c hc
    rcases List.mem_cons.mp hc with rfl | hc
    · exact (R.gd.live.gr g1).fresh
    · rw [List.mem_singleton.mp hc]; exact hb
  · intro c hc
    rw [List.mem_singleton.mp hc]
    cases e : s.heap.get? h1.objs.size with
    | none => rfl
    | some o => obtain ⟨o', e', _⟩ := g1 _ o e; exact absurd (Heap.lt_size e') (Nat.lt_irrefl _)
  · intro i g g' st gg
    obtain ⟨⟨o1, e1, c1, d1⟩, ⟨o2, e2, c2, k2, d2⟩⟩ := st
    obtain ⟨p1, f1, s1⟩ := gg _ (.head _) _ e1
    obtain ⟨p2, f2, s2⟩ := gg _ (.tail _ (.head _)) _ e2
    exact ⟨⟨p1, f1, s1.1.trans c1, s1.2.2.1.trans d1⟩, ⟨p2, f2, s2.1.trans c2, k2, s2.2.2.1.trans d2⟩⟩
  · intro i g st c hc
    rw [List.mem_singleton.mp hc]
    obtain ⟨⟨o1, e1, _⟩, _⟩ := st
    exact ⟨o1, e1⟩
  · intro i v hv
    have hv' : vs[i]? = some v := by simpa using hv
    have hi : i < ds.length := by have := (List.getElem?_eq_some_iff.mp hv').1; rw [hr.length] at this; exact this
    obtain ⟨v', e1, e2⟩ := hr.get (i := i) (d := ds[i]) (by simp [hi])
    rw [hv'] at e1; cases e1
    refine ⟨ds[i], by simp [hi], Rep.mono (Y := []) ((Gr.push _ _).x []) (fun _ q => nomatch q) (fun c hc => ?_) e2⟩
    rcases List.mem_append.mp hc with hc | hc
    · rw [List.mem_singleton.mp hc]
      exact .inr (Heap.get?_none_of_le (Nat.le_refl _))
    · exact .inl hc
  · intro i g v target Q' E' st hq
    obtain ⟨⟨o1, e1, c1, d1⟩, _⟩ := st
    exact go_trivial e1 c1 d1 (by decide) hq
noncomputable def rngD (lo : Int) (k : Nat) : List D := (List.range k).map fun (i : Nat) => D.int (lo + (i : Int))
theorem rngD_length (lo : Int) (k : Nat) : (rngD lo k).length = k := by simp [rngD]
theorem rngD_get {lo : Int} {k i : Nat} (hi : i < k) : (rngD lo k)[i]? = some (.int (lo + (i : Int))) := by simp [rngD, hi]
theorem src_range {s s₁ : Shared} {A : Around} {lf : List Env} {X : List Addr} {Q : Value → Shared → Prop} {E : Value → Shared → Prop} {lo hi : Int} {t u v : Tok} {h1 : Heap} {tk : Nat} (hn0 : 0 < n) (a : AOk n A lf) (lv : Live s.heap X) (h62 : -1000000 ≤ lo ∧ lo ≤ 1000000 ∧ -1000000 ≤ hi ∧ hi ≤ 1000000)
    (g1 : Gr s.heap h1) (b1 : W.hB.StaysIn s.heap → W.hB.StaysIn h1) (hs : s₁ = { s with heap := h1.push { cls := .type "range", data := .fields #[.int lo t, .int hi u, .int 1 v] }, toks := tk })
    (hQ : ∀ h' tk I fp wr P St, Gr s.heap h' → (W.hB.StaysIn s.heap → W.hB.StaysIn h') → Walks W.prog W.w A I fp wr (rngD lo (hi - lo).toNat).length P St → St 0 h' → Live h' fp → (∀ b ∈ fp, b ∉ X) → (∀ b ∈ wr, s.heap.get? b = none) →
      (∀ i g g', St i g → (∀ b ∈ fp, ∀ o, g.get? b = some o → ∃ o', g'.get? b = some o' ∧ Same o o') → St i g') → (∀ i g, St i g → Live g wr) → (∀ i v, P i v → ∃ d, (rngD lo (hi - lo).toNat)[i]? = some d ∧ Rep h' (wr ++ X) d v) → (∀ i (g : Shared) v target (Q' : Unit → Shared → Prop) (E' : Value → Shared → Prop), St i g.heap → Q' () g → wpAny (model W.prog W.w) A (letOwnedTupleGo target (.ref I) v) Q' E' g) → Q (.ref I) { s with heap := h', toks := tk }) :
    wpAny (model W.prog W.w) A (pyIter (.ref h1.objs.size)) Q E s₁ := by
  subst hs
  have hsz : Builtin.Range.rangeSize lo hi 1 = ((hi - lo).toNat : Int) := by rw [rangeSize_one]; split <;> omega
  refine wpAny_pyIter_range (IsRange.new ..) (small_one (by omega) (by omega) (by omega) (by omega)) ?_
  generalize hH : h1.push { cls := .type "range", data := .fields #[.int lo t, .int hi u, .int 1 v] } = H
  have gH : Gr s.heap H := by rw [← hH]; exact g1.trans (Gr.push _ _)
  have bH : W.hB.StaysIn s.heap → W.hB.StaysIn H := fun q c o e => by rw [← hH]; exact Heap.get?_push_of_some _ (b1 q c o e)
  have Wk := Walks.range (prog := W.prog) (w := W.w) (A := A) (a.1 hn0) H.objs.size lo 1 (hi - lo).toNat
  have Wk' : Walks W.prog W.w A H.objs.size [H.objs.size] [H.objs.size] (rngD lo (hi - lo).toNat).length (fun i v => i < (hi - lo).toNat ∧ ∃ t, v = .int (lo + i * 1) t) (fun i h => IsRangeIter h H.objs.size (lo + (i : Nat) * 1) (((hi - lo).toNat : Int) - (i : Nat)) 1) := by
    rw [rngD_length]
    exact ⟨Wk.sub, Wk.frame, fun i s Q E hi st hQ => Wk.item i s Q E hi st fun v h' tk p => hQ v h' tk ⟨hi, p⟩, Wk.done, Wk.self⟩
  refine hQ _ _ _ _ _ _ _ (gH.trans (Gr.push _ _)) (fun q c o e => Heap.get?_push_of_some _ (bH q c o e)) Wk' ?_ ?_ ?_ ?_ ?_ ?_ ?_ ?_
  · have e1 : (lo + ((0 : Nat) : Int) * 1) = lo := by simp
    have e2 : (((hi - lo).toNat : Int) - ((0 : Nat) : Int)) = Builtin.Range.rangeSize lo hi 1 := by rw [hsz]; simp
    show IsRangeIter _ _ _ _ _
    rw [e1, e2]
    exact Heap.get?_push_size _ rfl
  · intro c hc
    rw [List.mem_singleton.mp hc]; exact ⟨_, Heap.get?_push_size _ rfl⟩
  · intro c hc
    rw [List.mem_singleton.mp hc]; exact (lv.gr gH).fresh
  · intro c hc
    rw [List.mem_singleton.mp hc]
    cases e : s.heap.get? H.objs.size with
    | none => rfl
    | some o => obtain ⟨o', e', _⟩ := gH _ o e; exact absurd (Heap.lt_size e') (Nat.lt_irrefl _)
  · intro i g g' st gg
    obtain ⟨p1, f1, s1⟩ := gg _ (.head _) _ st
    show g'.get? _ = _
    rw [f1, s1.2.2.2 fun _ _ q => nomatch q]
  · intro i g st c hc
    rw [List.mem_singleton.mp hc]
    exact ⟨_, st⟩
  · rintro i v ⟨hi, t, rfl⟩
    refine ⟨_, rngD_get hi, ?_⟩
    rw [Int.mul_one]; exact Rep.mkInt
  · intro i g v target Q' E' st hq
    exact go_trivial st rfl rfl (by decide) hq
theorem Src.range1 {e : Expr} {p pos : Pos} {hi : Int} {st : Bool} (B : Base W) (k : EnvOk env) (hx : env.kindOf "range" = some .globalImplicit) (b : Blt W "range" (.type "range")) (he : starEach [e] env = [(false, eval e env)])
    (x : Ev W n env ρ e (.int hi) st) (h62 : -1000000 ≤ hi ∧ hi ≤ 1000000) (hn0 : 0 < n := by exact Nat.succ_pos _) : Src W n env ρ (.Call (.Name "range" p) [e] [] pos) (rngD 0 hi.toNat) := by
  intro A lf X s Q E a R hQ
  refine wpAny_Call_NameR (name_blt B k hx (by decide) b R.gd.base ?_)
  show wpAny _ A (callWith pos (.type "range") [] (backTo pos (starEach [e] env)) []) _ _ s
  rw [he]
  refine PySem.callWith_type1 ((x A lf X s a R).to fun v h1 t1 g1 b1 r1 => ?_)
  rw [Rep_int] at r1
  obtain ⟨t, rfl⟩ := r1
  refine call_range_1 ?_
  have e0 : hi - 0 = hi := by omega
  exact src_range (s := s) (lo := 0) (hi := hi) (X := X) hn0 a R.gd.live (by omega) g1 b1 rfl (by rw [e0]; exact hQ)
theorem Src.range2 {e e' : Expr} {p pos : Pos} {lo hi : Int} {st st' : Bool} (B : Base W) (k : EnvOk env) (hx : env.kindOf "range" = some .globalImplicit) (b : Blt W "range" (.type "range")) (he : starEach [e, e'] env = [(false, eval e env), (false, eval e' env)])
    (x : Ev W n env ρ e (.int lo) st) (y : Ev W n env ρ e' (.int hi) st') (h62 : -1000000 ≤ lo ∧ lo ≤ 1000000 ∧ -1000000 ≤ hi ∧ hi ≤ 1000000) (hn0 : 0 < n := by exact Nat.succ_pos _) : Src W n env ρ (.Call (.Name "range" p) [e, e'] [] pos) (rngD lo (hi - lo).toNat) := by
  intro A lf X s Q E a R hQ
  refine wpAny_Call_NameR (name_blt B k hx (by decide) b R.gd.base ?_)
  show wpAny _ A (callWith pos (.type "range") [] (backTo pos (starEach [e, e'] env)) []) _ _ s
  rw [he]
  refine PySem.callWith_type rfl (Calls.evalArgs_plain (Calls.spliced_cons ((x A lf X s a R).to fun v h1 t1 g1 b1 r1 => Calls.spliced_cons ((y A lf X _ a (R.gr g1 b1)).to fun v' h2 t2 g2 b2 r2 => Calls.spliced_nil ?_))))
  rw [Rep_int] at r1 r2
  obtain ⟨t, rfl⟩ := r1
  obtain ⟨t', rfl⟩ := r2
  refine call_range_2 ?_
  exact src_range (s := s) (lo := lo) (hi := hi) (X := X) hn0 a R.gd.live h62 (g1.trans g2) (fun q => b2 (b1 q)) rfl hQ
end
end Mine
namespace Mine

theorem Rd.to {W : Wd} {env : Env} {lf : List Env} {h h' : Heap} {X X' : List Addr} {ρ : Rho} (R : Rd W env lf h X ρ) (g : Gr h h') (b : W.hB.StaysIn h') (l : Live h' X') (hX : ∀ c, c ∈ X' → c ∈ X ∨ h.get? c = none) : Rd W env lf h' X' ρ := by
  refine ⟨⟨b, l, R.gd.ff.gr g⟩, fun x d st e => ?_⟩
  obtain ⟨v, q, r⟩ := R.vars x d st e
  refine ⟨v, q.gr g, ?_⟩
  cases st
  · exact r.gr g
  · exact Rep.mono (Y := []) (g.x []) (fun _ q => nomatch q) hX r

theorem relabel_lookup {scope : Scope} {env : Env} {z : Str} : ∀ {names : List (Str × NameKind)}, names.lookup z = some .free →
    (names.map fun (n, k) => if (k == NameKind.free && env.scope.kind == .function && env.kindOf n == some .cell) then (n, NameKind.cell) else (n, k)).lookup z =
      some (if (env.scope.kind == .function && env.kindOf z == some .cell) then .cell else .free)
  | [], h => by simp at h
  | (n, k) :: r, h => by
    rw [List.map_cons]
    rw [List.lookup_cons] at h
    cases hz : z == n with
    | true =>
      rw [hz] at h
      cases h
      have := beq_iff_eq.mp hz
      subst this
      show List.lookup z ((if (NameKind.free == NameKind.free && env.scope.kind == .function && env.kindOf z == some .cell) = true then (z, NameKind.cell) else (z, .free)) :: _) = _
      rw [show (NameKind.free == NameKind.free) = true from rfl, Bool.true_and]
      split <;> simp [List.lookup_cons, *]
    | false =>
      rw [hz] at h
      have ih := relabel_lookup (scope := scope) (env := env) h
      show List.lookup z ((if (k == NameKind.free && env.scope.kind == .function && env.kindOf n == some .cell) = true then (n, NameKind.cell) else (n, k)) :: _) = _
      split <;> simp only [List.lookup_cons, hz] <;> exact ih
theorem relabel_cell {scope : Scope} {env : Env} {z : Str} : ∀ {names : List (Str × NameKind)}, names.lookup z = some .cell →
    (names.map fun (n, k) => if (k == NameKind.free && env.scope.kind == .function && env.kindOf n == some .cell) then (n, NameKind.cell) else (n, k)).lookup z = some .cell
  | [], h => by simp at h
  | (n, k) :: r, h => by
    rw [List.map_cons]
    rw [List.lookup_cons] at h
    cases hz : z == n with
    | true =>
      rw [hz] at h
      cases h
      show List.lookup z ((if (NameKind.cell == NameKind.free && env.scope.kind == .function && env.kindOf n == some .cell) = true then (n, NameKind.cell) else (n, .cell)) :: _) = _
      rw [if_neg (by simp)]
      simp [List.lookup_cons, hz]
    | false =>
      rw [hz] at h
      have ih := relabel_cell (scope := scope) (env := env) h
      show List.lookup z ((if (k == NameKind.free && env.scope.kind == .function && env.kindOf n == some .cell) = true then (n, NameKind.cell) else (n, k)) :: _) = _
      split <;> simp only [List.lookup_cons, hz] <;> exact ih

theorem relabel_inv {scope : Scope} {env : Env} {z : Str} : ∀ {names : List (Str × NameKind)},
    (names.map fun (p : Str × NameKind) => if (p.2 == NameKind.free && env.scope.kind == .function && env.kindOf p.1 == some .cell) = true then (p.1, NameKind.cell) else (p.1, p.2)).lookup z = some .cell ∨
    (names.map fun (p : Str × NameKind) => if (p.2 == NameKind.free && env.scope.kind == .function && env.kindOf p.1 == some .cell) = true then (p.1, NameKind.cell) else (p.1, p.2)).lookup z = some .free →
    names.lookup z = some .cell ∨ names.lookup z = some .free
  | [], h => by simp at h
  | (n, k) :: r, h => by
    rw [List.map_cons] at h
    rw [List.lookup_cons]
    cases hz : z == n with
    | true =>
      simp only
      cases k with
      | cell => exact .inl rfl
      | free => exact .inr rfl
      | _ => simp [List.lookup_cons, hz] at h
    | false =>
      refine relabel_inv (scope := scope) (env := env) (names := r) ?_
      dsimp only at h ⊢
      split at h <;> simp only [List.lookup_cons, hz] at h <;> exact h

/-- the names that a block of a comprehension sees -/
structure Sees (env : Env) (scope : Scope) (x : Str) (ρ ρx : Rho) : Prop where
  kind : scope.kind = .function
  names : ∀ y ∈ scope.names, y.2 = .local → scope.names.lookup y.1 = some .local
  cells : ∀ y ∈ scope.names, y.2 = .cell → scope.names.lookup y.1 = some .cell
  var : scope.names.lookup x = some .local ∨ scope.names.lookup x = some .cell
  free : ∀ y d st, ρx.lookup y = some (d, st) → ρ.lookup y = some (d, st) ∧ scope.names.lookup y = some .free ∧ (env.kindOf y = some .cell ∨ env.kindOf y = some .free) ∧ (y == ("__classdict__" : Str)) = false
  clos : ∃ cl, closOf env.cells scope.names [] = some cl

section
variable {W : Wd} {n : Nat} {env : Env} {ρ ρx : Rho}

theorem sees_var {scope : Scope} {x y : Str} {C : Addr} {cl : List (Str × Addr)} {h : Heap} {v : Value} {d : D} {st : Bool} (k : EnvOk env) (S : Sees env scope x ρ ρx) (hcl : closOf env.cells scope.names [] = some cl) (hy : ρx.lookup y = some (d, st))
    (q : VarIs env h y v) : VarIs (compE scope C (cellsFrom (C + 1) scope.names cl) env) h y v := by
  obtain ⟨_, hfr, hk, hcd⟩ := S.free y d st hy
  rcases q with ⟨kd, _⟩ | ⟨_, c, hc, hi⟩
  · rcases hk with e | e <;> rw [kd] at e <;> cases e
  · have hkind : (compE scope C (cellsFrom (C + 1) scope.names cl) env).kindOf y = some (if (env.scope.kind == .function && env.kindOf y == some .cell) then .cell else .free) := relabel_lookup (scope := scope) hfr
    have hnc : (cellsFrom (C + 1) scope.names []).lookup y = none := by
      cases e : (cellsFrom (C + 1) scope.names []).lookup y with
      | none => rfl
      | some c' =>
        have := S.cells _ (cellsFrom_mem _ _ (mem_of_lookup e)) rfl
        rw [hfr] at this; cases this
    obtain ⟨s1, s2⟩ := closOf_spec hcl (fun _ _ q => by simp at q)
    have hcl' : cl.lookup y = some c := by
      have h2 := s2 y (.inl (mem_of_lookup hfr))
      obtain ⟨c', hc'⟩ := Option.isSome_iff_exists.mp h2
      rw [hc', ← hc]; exact (s1 y c' hc').symm
    refine .inr ⟨?_, c, ?_, hi⟩
    · rw [hkind]
      split
      · exact .inl rfl
      · exact .inr ⟨rfl, hcd⟩
    · show (cellsFrom (C + 1) scope.names cl).lookup y = some c
      rw [cellsFrom_append, List.lookup_append, hnc, hcl']; rfl
end
end Mine
namespace Mine
noncomputable def Tests (W : Wd) (n : Nat) (env : Env) (ρ : Rho) : List Expr → Bool → Prop
  | [], b => b = true
  | [c], b => Tr W n env ρ c b
  | _, _ => False
section
variable {W : Wd} {n : Nat} {env : Env} {ρ ρx : Rho}
theorem tests_ok {ifs : List Expr} {b : Bool} {A : Around} {lf : List Env} {X : List Addr} {s : Shared} (t : Tests W n env ρ ifs b) (a : AOk n A lf) (R : Rd W env lf s.heap X ρ) :
    Pu W A s (forIn ifs true fun c r => if r = true then do let ok ← isTrue c env (eval c env); pure (ForInStep.yield ok) else pure (ForInStep.yield r)) (fun c _ => c = b) := by
  match ifs, t with
  | [], t => subst t; exact wpAny_tests_nil ⟨_, _, rfl, Gr.refl _, id, rfl⟩
  | [c], t => exact wpAny_tests_one (t A lf X s a R)

/-- a value, a new object where N says so -/
noncomputable def EvQ (W : Wd) (n : Nat) (env : Env) (ρ : Rho) (e : Expr) (d : D) (N : Bool) : Prop :=
  ∀ A lf X s, AOk n A lf → Rd W env lf s.heap X ρ → Pu W A s (eval e env) (fun v h' => Rep h' X d v ∧ (N = true → ∃ a, v = .ref a ∧ s.heap.get? a = none))
theorem Ev.q {e : Expr} {d : D} (x : Ev W n env ρ e d true) : EvQ W n env ρ e d false := fun A lf X s a R => (x A lf X s a R).mono fun _ _ _ r => ⟨r, fun q => nomatch q⟩
/-- the values are distinct objects, none of them in h -/
noncomputable def NewRefs (h : Heap) (ys : List Value) : Prop := ∃ rs : List Addr, ys = rs.map Value.ref ∧ rs.Nodup ∧ ∀ r ∈ rs, h.get? r = none
theorem RepL.liveRef {h : Heap} {X : List Addr} : ∀ {ds : List D} {vs : List Value} {a : Addr}, RepL h X ds vs → Value.ref a ∈ vs → ∃ o, h.get? a = some o
  | [], vs, a, r, m => by rw [RepL_nil] at r; subst r; exact nomatch m
  | d :: ds, vs, a, r, m => by
    rw [RepL_cons] at r
    obtain ⟨v, vs', rfl, h1, h2⟩ := r
    rcases List.mem_cons.mp m with rfl | m
    · cases d with
      | none => rw [Rep_none] at h1; cases h1
      | bool b => rw [Rep_bool] at h1; cases h1
      | int i => rw [Rep_int] at h1; obtain ⟨_, e⟩ := h1; cases e
      | str i => rw [Rep_str] at h1; obtain ⟨_, e⟩ := h1; cases e
      | list es => rw [Rep_list] at h1; obtain ⟨b, us, e, _, hl, _⟩ := h1; cases e; exact hl.live
      | tup es => rw [Rep_tup] at h1; obtain ⟨b, us, e, _, hl, _⟩ := h1; cases e; exact hl.live
      | raw u => rw [Rep_raw] at h1; exact absurd rfl (h1.2 a)
    · exact h2.liveRef m

theorem comp_core {N : Bool} {elt iter : Expr} {x : Str} {px : Pos} {ifs : List Expr} {scope : Scope} {pos : Pos} {A : Around} {lf : List Env} {X : List Addr} {s : Shared} {H : Heap} {tk : Nat} {I : Addr} {fp wr : List Addr} {P : Nat → Value → Prop} {St : Nat → Heap → Prop}
    {ds : List D} {cl : List (Str × Addr)} {E : Value → Shared → Prop} {RR : Value → Addr → Result → Shared → Prop} (f : D → Option D) (a : AOk n A lf) (R : Rd W env lf s.heap X ρ) (k : EnvOk env) (S : Sees env scope x ρ ρx) (hcl : closOf env.cells scope.names [] = some cl)
    (gH : Gr s.heap H) (bH : W.hB.StaysIn H) (Wk : Walks W.prog W.w A I fp wr ds.length P St) (st0 : St 0 H) (hfp : ∀ b ∈ fp, b < H.objs.size) (hwr : ∀ b ∈ wr, s.heap.get? b = none)
    (hfr : ∀ i g g', St i g → Gr g g' → St i g') (hlv : ∀ i g, St i g → Live g wr) (hP : ∀ i v, P i v → ∃ d, ds[i]? = some d ∧ Rep H (wr ++ X) d v) (hsz : ds.length ≤ 100000)
    (htest : ∀ cenv : Env, cenv.scope = relabel scope env → EnvOk cenv → ∀ d ∈ ds, Tests W n cenv ((x, (d, true)) :: ρx) ifs (f d).isSome)
    (helt : ∀ cenv : Env, cenv.scope = relabel scope env → EnvOk cenv → ∀ d ∈ ds, ∀ r, f d = some r → EvQ W n cenv ((x, (d, true)) :: ρx) elt r N)
    (hRR : ∀ D C h' tk' m ys, (N = true → NewRefs s.heap ys) → s.heap.get? D = none → s.heap.get? C = none → D ≠ C → D ∉ X → h'.Ns C m → IsL h' D ys → RepL h' (C :: D :: X) (ds.filterMap f) ys → Gr s.heap h' → W.hB.StaysIn h' → RR (.ref D) C (.ok .next) { s with heap := h', toks := tk' }) :
    wpAny (model W.prog W.w) A (newList []) (fun acc s₃ => wpAny (model W.prog W.w) A (newFunctionEnv scope env.globals cl [] env.qual none .none (some env)) (fun cenv s₄ =>
      codeAny (model W.prog W.w) A (.compStart (.ListComp elt [⟨.Name x px, iter, ifs, 0⟩] scope pos) 0 (.ref I) acc { cenv with scope := relabel scope env }) (RR acc cenv.locals) s₄) E s₃) E { s with heap := H, toks := tk } := by
  refine wpAny_newObj_type (newEnv_comp ?_)
  dsimp only
  generalize hH2 : H.push { cls := .type "list", dict := none, data := .seq ([] : List Value).toArray } = H2
  have hC : H2.objs.size = H.objs.size + 1 := by rw [← hH2, Heap.size_push]
  -- the names
  generalize hDD : H.objs.size = DD
  generalize hCC : H2.objs.size = CC
  have hCD : CC = DD + 1 := by rw [← hCC, ← hDD]; exact hC
  let cenv : Env := compE scope CC (cellsFrom (CC + 1) scope.names cl) env
  have ck : EnvOk cenv := ⟨S.kind, k.glob, k.blt, fun y hy => by
    have hy' := relabel_inv (scope := scope) (env := env) (names := scope.names) hy
    show ∃ c, (cellsFrom (CC + 1) scope.names cl).lookup y = some c
    rw [cellsFrom_append, List.lookup_append]
    rcases hy' with e | e
    · obtain ⟨c, hc⟩ := Option.isSome_iff_exists.mp (cellsFrom_some scope.names (CC + 1) [] (.inl e))
      exact ⟨c, by rw [hc]; rfl⟩
    · obtain ⟨_, s2⟩ := closOf_spec hcl (fun _ _ q => by simp at q)
      obtain ⟨c, hc⟩ := Option.isSome_iff_exists.mp (s2 y (.inl (mem_of_lookup e)))
      cases hl : (cellsFrom (CC + 1) scope.names []).lookup y with
      | none => exact ⟨c, by rw [hc]; rfl⟩
      | some c' => exact ⟨c', rfl⟩⟩
  generalize hH3 : pushCells (H2.push { cls := .type "dict", data := .dict #[] }) scope.names = H3
  have keep23 : ∀ b o, H2.get? b = some o → H3.get? b = some o := fun b o e => by rw [← hH3]; exact pushCells_keeps _ _ _ _ (Heap.get?_push_of_some _ e)
  have keepH : ∀ b o, H.get? b = some o → H3.get? b = some o := fun b o e => keep23 b o (by rw [← hH2]; exact Heap.get?_push_of_some _ e)
  have hD3 : IsL H3 DD [] := by rw [← hDD]; exact ⟨_, keep23 _ _ (by rw [← hH2]; exact Heap.get?_push_size _ rfl)⟩
  have hN3 : H3.Ns CC fun _ => none := by
    rw [← hH3, ← hCC]; exact (Heap.Ns.new H2 (.type "dict")).keeps (pushCells_keeps _ _)
  have cok : CellsOk H3 (CC + 1) (cellsFrom (CC + 1) scope.names []) := by
    have ok := cellsFrom_ok scope.names (H2.push { cls := .type "dict", data := .dict #[] }) (CC + 1) [] ⟨fun _ _ hm => (nomatch hm), List.Pairwise.nil⟩ (by rw [Heap.size_push, hCC]; exact Nat.le_refl _)
    rw [Heap.size_push, hCC, hH3] at ok; exact ok
  -- the variable's place
  have hvar : ∃ ax, VSlot cenv x ax H3 ∧ CC ≤ ax := by
    rcases S.var with hx | hx
    · exact ⟨CC, .inl ⟨lookup_relabel_local hx, rfl, _, hN3⟩, Nat.le_refl _⟩
    · have hs : ((cellsFrom (CC + 1) scope.names []).lookup x).isSome = true := cellsFrom_some _ _ _ (.inl hx)
      obtain ⟨c, hc⟩ := Option.isSome_iff_exists.mp hs
      obtain ⟨hi, hle⟩ := cok.empty x c (mem_of_lookup hc)
      refine ⟨c, .inr ⟨relabel_cell (scope := scope) hx, ?_, _, hi⟩, Nat.le_of_succ_le hle⟩
      show (cellsFrom (CC + 1) scope.names cl).lookup x = some c
      rw [cellsFrom_append, List.lookup_append, hc]; rfl
  obtain ⟨ax, hax, haxC⟩ := hvar
  have fresh0 : ∀ b, DD ≤ b → s.heap.get? b = none := fun b hb => by
    cases e : s.heap.get? b with
    | none => rfl
    | some o => obtain ⟨o', e', _⟩ := gH b o e; exact absurd (Heap.lt_size e') (Nat.not_lt.mpr (hDD ▸ hb))
  have freshH : ∀ b, DD ≤ b → H.get? b = none := fun b hb => Heap.get?_none_of_le (hDD ▸ hb)
  have hDC : DD ≤ CC := hCD ▸ Nat.le_succ _
  have hDax : DD ≤ ax := Nat.le_trans hDC haxC
  have nDC : DD ≠ CC := by rw [hCD]; exact Nat.ne_of_lt (Nat.lt_succ_self _)
  have nDax : DD ≠ ax := fun e => by
    have : CC ≤ DD := e ▸ haxC
    rw [hCD] at this; exact absurd this (Nat.not_succ_le_self _)
  have fpD : ∀ b ∈ fp, b ≠ DD ∧ b ≠ CC ∧ b ≠ ax := fun b hb => by
    have h1 : b < DD := hDD ▸ hfp b hb
    exact ⟨Nat.ne_of_lt h1, Nat.ne_of_lt (Nat.lt_of_lt_of_le h1 hDC), Nat.ne_of_lt (Nat.lt_of_lt_of_le h1 hDax)⟩
  have wrD : ∀ b ∈ wr, b ≠ DD ∧ b ≠ CC ∧ b ≠ ax := fun b hb => fpD b (Wk.sub b hb)
  generalize hX : ax :: CC :: DD :: (wr ++ X) = X'
  have inX : ∀ b, b ∈ X' → b ∈ X ∨ s.heap.get? b = none := fun b hb => by
    rw [← hX] at hb
    rcases List.mem_cons.mp hb with rfl | hb
    · exact .inr (fresh0 _ hDax)
    rcases List.mem_cons.mp hb with rfl | hb
    · exact .inr (fresh0 _ hDC)
    rcases List.mem_cons.mp hb with rfl | hb
    · exact .inr (fresh0 _ (Nat.le_refl _))
    rcases List.mem_append.mp hb with hb | hb
    · exact .inr (hwr b hb)
    · exact .inl hb
  have inXH : ∀ b, b ∈ X' → b ∈ wr ++ X ∨ H.get? b = none := fun b hb => by
    rw [← hX] at hb
    rcases List.mem_cons.mp hb with rfl | hb
    · exact .inr (freshH _ hDax)
    rcases List.mem_cons.mp hb with rfl | hb
    · exact .inr (freshH _ hDC)
    rcases List.mem_cons.mp hb with rfl | hb
    · exact .inr (freshH _ (Nat.le_refl _))
    · exact .inl hb
  have mAx : ax ∈ X' := by rw [← hX]; exact .head _
  have mD : DD ∈ X' := by rw [← hX]; exact .tail _ (.tail _ (.head _))
  have mWr : ∀ b ∈ wr, b ∈ X' := fun b hb => by rw [← hX]; exact .tail _ (.tail _ (.tail _ (List.mem_append_left _ hb)))
  have mX : ∀ b ∈ CC :: DD :: X, b ∈ X' := fun b hb => by
    rw [← hX]
    rcases List.mem_cons.mp hb with rfl | hb
    · exact .tail _ (.head _)
    rcases List.mem_cons.mp hb with rfl | hb
    · exact .tail _ (.tail _ (.head _))
    · exact .tail _ (.tail _ (.tail _ (List.mem_append_right _ hb)))
  have loop : ∀ s₃ : Shared, s₃ = { s with heap := H3, toks := tk } →
      codeAny (model W.prog W.w) A (.compLoop (.ListComp elt [⟨.Name x px, iter, ifs, 0⟩] scope pos) 0 (.ref I) (.ref DD) cenv) (RR (.ref DD) CC) s₃ := by
    rintro s₃ rfl
    refine codeAny_compLoop_tests (fun j s' => ∃ h' tk' i ys, s' = { s with heap := h', toks := tk' } ∧ i ≤ ds.length ∧ j = ds.length + 1 - i ∧ St i h' ∧ IsL h' DD ys ∧ RepL h' X' ((ds.take i).filterMap f) ys ∧
      VSlot cenv x ax h' ∧ (∃ m, h'.Ns CC m) ∧ Gr s.heap h' ∧ GrX X' H h' ∧ W.hB.StaysIn h' ∧ Live h' X' ∧ (N = true → NewRefs s.heap ys)) ?_ (ds.length + 1)
      ⟨H3, tk, 0, [], rfl, Nat.zero_le _, rfl, hfr 0 _ _ st0 (Gr.of_keep keepH), hD3, by simpa using RepL.mkNil, hax, ⟨_, hN3⟩, gH.trans (Gr.of_keep keepH), (Gr.of_keep keepH).x _, fun b o e => keepH b o (bH b o e), ?_, fun _ => ⟨[], rfl, List.nodup_nil, fun _ z => nomatch z⟩⟩
    rotate_left
    · intro b hb
      rw [← hX] at hb
      rcases List.mem_cons.mp hb with rfl | hb
      · exact hax.live
      rcases List.mem_cons.mp hb with rfl | hb
      · obtain ⟨o, _, _, e, _⟩ := hN3; exact ⟨o, e⟩
      rcases List.mem_cons.mp hb with rfl | hb
      · exact hD3.live
      rcases List.mem_append.mp hb with hb | hb
      · obtain ⟨o, e⟩ := hlv _ _ st0 b hb; exact ⟨o, keepH _ _ e⟩
      · obtain ⟨o, e⟩ := R.gd.live b hb
        obtain ⟨o', e', _⟩ := gH _ _ e
        exact ⟨o', keepH _ _ e'⟩
    rintro j s' ⟨h, tk', i, ys, rfl, hi, rfl, hst, hl, hr, hv, ⟨m, hn⟩, hg, hgx, hb, hlive, hnew⟩
    by_cases hlt : i < ds.length
    · refine Wk.item i _ _ _ hlt hst fun v h₁ tk₁ hPv hst₁ hk₁ => ?_
      obtain ⟨d, hd, hrep⟩ := hP i v hPv
      have hdm : d ∈ ds := List.mem_of_getElem? hd
      -- h₁: the iterator has gone on
      have old₁ : ∀ b o, b ∉ wr → h.get? b = some o → h₁.get? b = some o := hk₁
      have g₁ : Gr s.heap h₁ := fun b o e => by
        obtain ⟨o', e', q⟩ := hg b o e
        exact ⟨o', old₁ b o' (fun hm => by rw [hwr b hm] at e; cases e) e', q⟩
      have gx₁ : GrX X' H h₁ := hgx.trans (GrX.of_keep fun b o hb e => old₁ b o (fun hm => hb (mWr b hm)) e)
      have b₁ : W.hB.StaysIn h₁ := fun b o e => old₁ b o (fun hm => by have := R.gd.base b o e; rw [hwr b hm] at this; cases this) (hb b o e)
      have live₁ : Live h₁ X' := fun b hb => by
        by_cases hm : b ∈ wr
        · exact hlv _ _ hst₁ b hm
        · obtain ⟨o, e⟩ := hlive b hb; exact ⟨o, old₁ b o hm e⟩
      have l₁ : IsL h₁ DD ys := let ⟨q, e⟩ := hl; ⟨q, old₁ _ _ (fun hm => (wrD _ hm).1 rfl) e⟩
      have r₁ : RepL h₁ X' ((ds.take i).filterMap f) ys := RepL.mono (Y := wr) (GrX.of_keep old₁) (fun b hb => .inl (mWr b hb)) (fun b hb => .inl hb) hr
      have v₁ : VSlot cenv x ax h₁ := by
        have nax : ax ∉ wr := fun hm => (wrD _ hm).2.2 rfl
        exact hv.imp (fun ⟨q1, q2, q3, q4⟩ => ⟨q1, q2, q3, q4.at' fun o e => old₁ _ o nax e⟩) (fun ⟨q1, q2, q3, ⟨o, q4, q5⟩⟩ => ⟨q1, q2, q3, ⟨o, old₁ _ o nax q4, q5⟩⟩)
      have n₁ : h₁.Ns CC m := hn.at' fun o e => old₁ _ o (fun hm => (wrD _ hm).2.1 rfl) e
      refine wpAny_assign_Name (store_ok ck v₁ fun h₂ tk₂ hvar₂ v₂ hs₂ _ => ?_)
      have off₂ : ∀ b o, b ≠ ax → h₁.get? b = some o → h₂.get? b = some o := fun b o hb e => (hs₂.2 b hb).trans e
      have g₂ : Gr s.heap h₂ := fun b o e => by
        obtain ⟨o', e', q⟩ := g₁ b o e
        exact ⟨o', off₂ b o' (fun q => by rw [q, fresh0 _ hDax] at e; cases e) e', q⟩
      have gx₂ : GrX X' H h₂ := gx₁.trans (GrX.of_keep fun b o hb e => off₂ b o (fun q => hb (q ▸ mAx)) e)
      have b₂ : W.hB.StaysIn h₂ := fun b o e => off₂ b o (fun q => by have := R.gd.base b o e; rw [q, fresh0 _ hDax] at this; cases this) (b₁ b o e)
      have live₂ : Live h₂ X' := fun b hb => by
        by_cases hm : b = ax
        · rw [hm]; exact v₂.live
        · obtain ⟨o, e⟩ := live₁ b hb; exact ⟨o, off₂ b o hm e⟩
      have l₂ : IsL h₂ DD ys := let ⟨q, e⟩ := l₁; ⟨q, off₂ _ _ nDax e⟩
      have r₂ : RepL h₂ X' ((ds.take i).filterMap f) ys := RepL.mono (Y := [ax]) (GrX.of_keep fun b o hb e => off₂ b o (fun q => hb (by simp [q])) e) (fun b hb => .inl (by rw [List.mem_singleton.mp hb]; exact mAx)) (fun b hb => .inl hb) r₁
      have st₂ : St (i + 1) h₂ := Wk.frame _ _ _ hst₁ fun b hb o e => off₂ b o (fpD b hb).2.2 e
      have n₂ : ∃ m, h₂.Ns CC m := by
        by_cases e : CC = ax
        · rcases v₂ with ⟨_, q, m', hn'⟩ | ⟨kd2, _, v', hi'⟩
          · exact ⟨m', e ▸ hn'⟩
          · obtain ⟨o, _, _, e1, e2, _⟩ := n₁
            rcases v₁ with ⟨kd, _⟩ | ⟨_, _, v', o', e3, e4⟩
            · rw [kd] at kd2; cases kd2
            · rw [← e, e1] at e3; cases e3; rw [e2] at e4; cases e4
        · exact ⟨m, n₁.at' fun o e' => off₂ _ o e e'⟩
      have rep₂ : Rep h₂ X' d v := Rep.mono (Y := X') gx₂ inXH inXH hrep
      have R₂ : Rd W cenv lf h₂ X' ((x, (d, true)) :: ρx) := by
        refine ⟨⟨b₂, live₂, R.gd.ff.gr g₂⟩, fun z dz st e => ?_⟩
        rw [List.lookup_cons] at e
        cases hz : z == x with
        | true => rw [hz] at e; cases e; rw [beq_iff_eq.mp hz]; exact ⟨v, hvar₂, rep₂⟩
        | false =>
          rw [hz] at e
          have R' := R.to g₂ b₂ live₂ inX
          obtain ⟨u, q, r⟩ := R'.vars z dz st (S.free z dz st e).1
          exact ⟨u, sees_var k S hcl e q, r⟩
      refine (tests_ok (W := W) (htest cenv rfl ck d hdm) a R₂).to fun ok h₃ tk₃ g₃ c₃ hok => ?_
      subst hok
      have R₃ := R₂.gr g₃ c₃
      have tk_eq : (ds.take (i + 1)).filterMap f = (ds.take i).filterMap f ++ (f d).toList := by
        rw [List.take_add_one, hd, List.filterMap_append]
        cases hfd : f d <;> simp [hfd]
      cases hfd : f d with
      | none =>
        simp only [Option.isSome_none, Bool.false_eq_true, if_false]
        refine ⟨ds.length + 1 - (i + 1), by omega, h₃, tk₃, i + 1, ys, rfl, hlt, rfl, hfr _ _ _ st₂ g₃, l₂.gr g₃, ?_, v₂.gr g₃, ?_, g₂.trans g₃, gx₂.trans (g₃.x _), c₃ b₂, live₂.gr g₃, hnew⟩
        · rw [tk_eq, hfd]; simpa using r₂.gr g₃
        · obtain ⟨m', hn'⟩ := n₂; exact ⟨m', g₃.ns hn'⟩
      | some r =>
        simp only [Option.isSome_some, if_true]
        refine (helt cenv rfl ck d hdm r hfd A lf X' _ a R₃).to fun y h₄ tk₄ g₄ c₄ ⟨hy, hyn⟩ => ?_
        have g34 := g₃.trans g₄
        have hys : ys.length ≤ ds.length := by
          have e1 := r₂.length
          have e2 : ((ds.take i).filterMap f).length ≤ (ds.take i).length := List.length_filterMap_le ..
          have e3 : (ds.take i).length ≤ ds.length := by rw [List.length_take]; omega
          omega
        refine wpAny_list_append_plain (hsz := by simp [sizeLine]; omega) (l₂.gr g34).plain fun h₅ hl₅ hs₅ => ?_
        have off₅ : ∀ b o, b ≠ DD → h₄.get? b = some o → h₅.get? b = some o := fun b o hb e => (hs₅.2 b hb).trans e
        have l₅ : IsL h₅ DD (ys ++ [y]) := by have := IsL.of_plain hl₅; simpa using this
        refine ⟨ds.length + 1 - (i + 1), by omega, h₅, tk₄, i + 1, ys ++ [y], rfl, hlt, rfl, ?_, l₅, ?_, ?_, ?_, ?_, ?_, ?_, ?_, ?_⟩
        · exact Wk.frame _ _ _ (hfr _ _ _ st₂ g34) fun b hb o e => off₅ b o (fpD b hb).1 e
        · rw [tk_eq, hfd]
          exact RepL.mono (Y := [DD]) (GrX.of_keep fun b o hb e => off₅ b o (fun q => hb (by simp [q])) e) (fun b hb => .inl (by rw [List.mem_singleton.mp hb]; exact mD)) (fun b hb => .inl hb) ((r₂.gr g34).append (.one hy))
        · exact (v₂.gr g34).sameBut hs₅ (Ne.symm nDax)
        · obtain ⟨m', hn'⟩ := n₂; exact ⟨m', (g34.ns hn').sameBut hs₅ (Ne.symm nDC)⟩
        · intro b o e
          obtain ⟨o', e', q⟩ := (g₂.trans g34) b o e
          exact ⟨o', off₅ b o' (fun q => by rw [q, fresh0 _ (Nat.le_refl _)] at e; cases e) e', q⟩
        · exact (gx₂.trans (g34.x _)).trans (GrX.of_keep fun b o hb e => off₅ b o (fun q => hb (q ▸ mD)) e)
        · exact fun b o e => off₅ b o (fun q => by have := R.gd.base b o e; rw [q, fresh0 _ (Nat.le_refl _)] at this; cases this) (c₄ (c₃ b₂) b o e)
        · intro b hb
          by_cases hm : b = DD
          · rw [hm]; exact l₅.live
          · obtain ⟨o, e⟩ := (live₂.gr g34) b hb; exact ⟨o, off₅ b o hm e⟩
        · intro hN
          obtain ⟨rs, rfl, nd, hf⟩ := hnew hN
          obtain ⟨c, rfl, hc⟩ := hyn hN
          refine ⟨rs ++ [c], by simp, ?_, fun r' hr' => ?_⟩
          · refine List.nodup_append.mpr ⟨nd, by simp, fun r1 h1 r2 h2 e => ?_⟩
            rw [List.mem_singleton.mp h2] at e
            obtain ⟨o, eo⟩ := (r₂.gr g₃).liveRef (a := r1) (List.mem_map.mpr ⟨r1, h1, rfl⟩)
            rw [e] at eo
            rw [show ({ s with heap := h₃, toks := tk₃ } : Shared).heap.get? c = h₃.get? c from rfl] at hc
            rw [hc] at eo; cases eo
          · rcases List.mem_append.mp hr' with h1 | h1
            · exact hf r' h1
            · rw [List.mem_singleton.mp h1]
              cases e : s.heap.get? c with
              | none => rfl
              | some o =>
                obtain ⟨o', e', _⟩ := (g₂.trans g₃) c o e
                rw [show ({ s with heap := h₃, toks := tk₃ } : Shared).heap.get? c = h₃.get? c from rfl] at hc
                rw [hc] at e'; cases e'
    · have hin : i = ds.length := by omega
      subst hin
      refine Wk.done _ _ _ hst fun h₁ tk₁ hk₁ => ?_
      rw [List.take_length] at hr
      refine hRR DD CC h₁ tk₁ m ys hnew (fresh0 _ (Nat.le_refl _)) (fresh0 _ hDC) nDC ?_ (hn.at' fun o e => hk₁ _ o (fun hm => (wrD _ hm).2.1 rfl) e) ?_ ?_ ?_ ?_
      · intro hm
        obtain ⟨o, e⟩ := R.gd.live _ hm
        rw [fresh0 _ (Nat.le_refl _)] at e; cases e
      · exact let ⟨q, e⟩ := hl; ⟨q, hk₁ _ _ (fun hm => (wrD _ hm).1 rfl) e⟩
      · exact RepL.mono (Y := wr) (GrX.of_keep hk₁) (fun b hb => .inl (mWr b hb)) (fun b hb => .inl (mX b hb)) hr
      · intro b o e
        obtain ⟨o', e', q⟩ := hg b o e
        exact ⟨o', hk₁ b o' (fun hm => by rw [hwr b hm] at e; cases e) e', q⟩
      · exact fun b o e => hk₁ b o (fun hm => by have := R.gd.base b o e; rw [hwr b hm] at this; cases this) (hb b o e)
  exact codeAny_compStart_list (loop _ rfl) (Wk.self 0 _ _ _ (hfr 0 _ _ st0 (Gr.of_keep keepH)) (loop _ rfl))
end
end Mine
namespace Mine
section
variable {W : Wd} {n : Nat} {env : Env} {ρ ρx : Rho}
/-- a new list, held by nothing else -/
noncomputable def EvN (W : Wd) (n : Nat) (env : Env) (ρ : Rho) (e : Expr) (ds : List D) : Prop :=
  ∀ A lf X s, AOk n A lf → Rd W env lf s.heap X ρ → Pu W A s (eval e env) (fun v h' => ∃ a vs, v = .ref a ∧ a ∉ X ∧ s.heap.get? a = none ∧ IsL h' a vs ∧ RepL h' (a :: X) ds vs)
theorem EvN.ev {e : Expr} {ds : List D} {st : Bool} (x : EvN W n env ρ e ds) : Ev W n env ρ e (.list ds) st := fun A lf X s a R => (x A lf X s a R).mono fun v h' _ ⟨b, vs, e1, e2, _, e4, e5⟩ => by
  refine Rep.to_hid ?_
  rw [Rep_list]
  exact ⟨b, vs, e1, e2, e4, e5.sub fun _ q => .tail _ q⟩
theorem EvN.list {es : List Expr} {ds : List D} {pos : Pos} (x : EvL W n env ρ es ds) (hl : ds.length ≤ 100000) : EvN W n env ρ (.List es pos) ds := by
  intro A lf X s a R
  refine wpAny_List ((x A lf X s pos a R).to fun vs h1 t1 g1 b1 r1 => ?_)
  have hn := r1.length
  refine ⟨by unfold sizeLine; omega, _, _, rfl, g1.trans (Gr.push _ _), fun q c o e => Heap.get?_push_of_some _ (b1 q c o e), ?_⟩
  refine ⟨_, vs, rfl, (R.gd.live.gr g1).fresh, ?_, IsL.push _ _, ?_⟩
  · cases e : s.heap.get? h1.objs.size with
    | none => rfl
    | some o => obtain ⟨o', e', _⟩ := g1 _ o e; exact absurd (Heap.lt_size e') (Nat.lt_irrefl _)
  · refine RepL.mono (Y := []) ((Gr.push _ _).x []) (fun _ q => nomatch q) (fun b hb => ?_) r1
    rcases List.mem_cons.mp hb with rfl | hb
    · exact .inr (Heap.get?_none_of_le (Nat.le_refl _))
    · exact .inl hb

/-- what a comprehension's block asks -/
structure CompOk (W : Wd) (n : Nat) (env : Env) (scope : Scope) (x : Str) (ρx : Rho) (ifs : List Expr) (elt : Expr) (ds : List D) (f : D → Option D) : Prop where
  size : ds.length ≤ 100000
  test : ∀ cenv : Env, cenv.scope = relabel scope env → EnvOk cenv → ∀ d ∈ ds, Tests W n cenv ((x, (d, true)) :: ρx) ifs (f d).isSome
  elt : ∀ cenv : Env, cenv.scope = relabel scope env → EnvOk cenv → ∀ d ∈ ds, ∀ r, f d = some r → Ev W n cenv ((x, (d, true)) :: ρx) elt r true

theorem comp_end {s : Shared} {X : List Addr} {DD C : Addr} {h' h'' : Heap} {rs : List D} {ys : List Value} (hb : W.hB.StaysIn s.heap) (hC : s.heap.get? C = none) (hDC : DD ≠ C) (hl : IsL h' DD ys) (hr : RepL h' (C :: X) rs ys) (g : Gr s.heap h') (b : W.hB.StaysIn h')
    (hs : Heap.SameBut C h' h'') : Gr s.heap h'' ∧ W.hB.StaysIn h'' ∧ IsL h'' DD ys ∧ RepL h'' (C :: X) rs ys := by
  have off : ∀ b o, b ≠ C → h'.get? b = some o → h''.get? b = some o := fun b o hb e => (hs.2 b hb).trans e
  refine ⟨fun c o e => ?_, fun c o e => off c o (fun q => by have := hb c o e; rw [q, hC] at this; cases this) (b c o e), let ⟨q, e⟩ := hl; ⟨q, off _ _ hDC e⟩, ?_⟩
  · obtain ⟨o', e', q⟩ := g c o e
    exact ⟨o', off c o' (fun q => by rw [q, hC] at e; cases e) e', q⟩
  · exact RepL.mono (Y := [C]) (GrX.of_keep fun b o hb e => off b o (fun q => hb (by simp [q])) e) (fun b hb => .inl (by rw [List.mem_singleton.mp hb]; exact .head _)) (fun b hb => .inl hb) hr

theorem EvN.comp {elt iter : Expr} {x : Str} {px : Pos} {ifs : List Expr} {scope : Scope} {pos : Pos} {ds : List D} (f : D → Option D) (k : EnvOk env) (S : Sees env scope x ρ ρx) (src : Src W n env ρ iter ds) (C : CompOk W n env scope x ρx ifs elt ds f)
    (hs : ∀ x, foldedSetIterable iter env x = pure x) : EvN W n env ρ (.ListComp elt [⟨.Name x px, iter, ifs, 0⟩] scope pos) (ds.filterMap f) := by
  intro A lf X s a R
  obtain ⟨cl, hcl⟩ := S.clos
  unfold Pu
  rw [eval_ListComp]
  refine wpAny_comprehension_free (use := none) rfl hs (closureFor_of hcl) S.kind S.names (src A lf X s _ _ a R fun H tk I fp wr P St gH bH Wk st0 hfp hfx hwr hfr hlv hP hgo => ?_)
  refine comp_core (N := false) (RR := fun acc C => compPost (model W.prog W.w) A (fun _ _ => False) none _ acc C) f a R k S hcl gH (bH R.gd.base) Wk st0 (fun b hb => let ⟨_, e⟩ := hfp b hb; Heap.lt_size e) hwr (fun i g g' st gg => hfr i g g' st fun b _ o e => gg b o e) hlv hP C.size C.test (fun cenv e1 e2 d hd r hr => (C.elt cenv e1 e2 d hd r hr).q) ?_
  intro DD CC h' tk' m ys _ hD hC hDC hX hn hl hr g b
  refine ⟨m, hn, fun h'' hs'' => ?_⟩
  obtain ⟨e1, e2, e3, e4⟩ := comp_end R.gd.base hC hDC hl hr g b hs''
  refine ⟨h'', tk', rfl, e1, fun _ => e2, DD, ys, rfl, hX, hD, e3, ?_⟩
  exact e4.sub fun _ q => .tail _ q
end
end Mine
namespace Mine

inductive Slot where
  | fz (d : D)
  | own (ds : List D)
  | grid (dss : List (List D))
noncomputable def Slot.val : Slot → D × Bool
  | .fz d => (d, true)
  | .own ds => (.list ds, false)
  | .grid dss => (.list (dss.map D.list), false)
/-- a name's own objects: its list, and the list's rows -/
noncomputable abbrev Al := Str → Addr × List Addr
noncomputable def feet (p : Addr × List Addr) : Slot → List Addr
  | .fz _ => []
  | .own _ => [p.1]
  | .grid _ => p.1 :: p.2
noncomputable abbrev Sig := List (Str × Slot)
noncomputable def rho (σ : Sig) : Rho := σ.map fun p => (p.1, p.2.val)
theorem rho_lookup {σ : Sig} {x : Str} {d : D} {st : Bool} (h : (rho σ).lookup x = some (d, st)) : ∃ sl, σ.lookup x = some sl ∧ sl.val = (d, st) := by
  induction σ with
  | nil => simp [rho] at h
  | cons p r ih =>
    obtain ⟨y, sl⟩ := p
    simp only [rho, List.map_cons, List.lookup_cons] at h ⊢
    cases hy : x == y with
    | true => rw [hy] at h; exact ⟨sl, rfl, Option.some.inj h⟩
    | false => rw [hy] at h; exact ih h
theorem rho_of {σ : Sig} {x : Str} {sl : Slot} (h : σ.lookup x = some sl) : (rho σ).lookup x = some sl.val := by
  induction σ with
  | nil => simp at h
  | cons p r ih =>
    obtain ⟨y, sl'⟩ := p
    simp only [rho, List.map_cons, List.lookup_cons] at h ⊢
    cases hy : x == y with
    | true => rw [hy] at h; cases h; rfl
    | false => rw [hy] at h; exact ih h
noncomputable def put (x : Str) (sl : Slot) : Sig → Sig
  | [] => [(x, sl)]
  | (y, s) :: r => if y == x then (x, sl) :: r else (y, s) :: put x sl r
theorem put_lookup (x : Str) (sl : Slot) (y : Str) : ∀ σ : Sig, (put x sl σ).lookup y = if y = x then some sl else σ.lookup y
  | [] => by
    simp only [put, List.lookup_cons, List.lookup_nil]
    by_cases h : y = x
    · rw [if_pos h, beq_iff_eq.mpr h]
    · rw [if_neg h, beq_eq_false_iff_ne.mpr h]
  | (z, s) :: r => by
    unfold put
    by_cases hz : (z == x) = true
    · rw [if_pos hz]
      have := beq_iff_eq.mp hz
      subst this
      rw [List.lookup_cons, List.lookup_cons]
      by_cases h : y = z
      · rw [if_pos h, beq_iff_eq.mpr h]
      · rw [if_neg h, beq_eq_false_iff_ne.mpr h]
    · rw [if_neg hz, List.lookup_cons, List.lookup_cons, put_lookup x sl y r]
      by_cases h : y = z
      · have : ¬ y = x := by rw [h]; simpa using hz
        rw [beq_iff_eq.mpr h, if_neg this, if_neg this]
      · rw [beq_eq_false_iff_ne.mpr h]

structure FEnv (env : Env) : Prop where
  ok : EnvOk env
  inj : ∀ x y c, env.cells.lookup x = some c → env.cells.lookup y = some c → x = y
  loc : ∀ x c, env.cells.lookup x = some c → c ≠ env.locals
  frame : env.frame = some env.locals

noncomputable def RowsAt (h : Heap) (X Y : List Addr) : List Addr → List (List D) → Prop
  | [], [] => True
  | r :: rs, ds :: dss => r ∈ Y ∧ (∃ vs, IsL h r vs ∧ RepL h X ds vs) ∧ RowsAt h X Y rs dss
  | _, _ => False
noncomputable def SlotAt (env : Env) (h : Heap) (X Y : List Addr) (p : Addr × List Addr) (x : Str) : Slot → Prop
  | .fz d => ∃ v, VarIs env h x v ∧ Rep h X d v
  | .own ds => VarIs env h x (.ref p.1) ∧ p.1 ∈ Y ∧ ∃ vs, IsL h p.1 vs ∧ RepL h X ds vs
  | .grid dss => VarIs env h x (.ref p.1) ∧ p.1 ∈ Y ∧ IsL h p.1 (p.2.map Value.ref) ∧ (p.1 :: p.2).Nodup ∧ RowsAt h X Y p.2 dss
theorem RowsAt.map {h h' : Heap} {X X' Y Y' : List Addr} (hr : ∀ ds vs, RepL h X ds vs → RepL h' X' ds vs) : ∀ {rs : List Addr} {dss : List (List D)}, (∀ a ∈ rs, a ∈ Y → a ∈ Y') → (∀ a vs, a ∈ rs → IsL h a vs → IsL h' a vs) → RowsAt h X Y rs dss → RowsAt h' X' Y' rs dss
  | [], [], _, _, _ => trivial
  | [], _ :: _, _, _, q => q.elim
  | _ :: _, [], _, _, q => q.elim
  | r :: rs, ds :: dss, hY, hl, ⟨q1, ⟨vs, q2, q3⟩, q4⟩ =>
    ⟨hY r (.head _) q1, ⟨vs, hl r vs (.head _) q2, hr _ _ q3⟩, RowsAt.map hr (fun a ha => hY a (.tail _ ha)) (fun a us ha => hl a us (.tail _ ha)) q4⟩
theorem RowsAt.mem {h : Heap} {X Y : List Addr} : ∀ {rs : List Addr} {dss : List (List D)} {z : Addr}, RowsAt h X Y rs dss → z ∈ rs → z ∈ Y ∧ ∃ vs, IsL h z vs
  | [], _, _, _, m => nomatch m
  | _ :: _, [], _, q, _ => q.elim
  | r :: rs, ds :: dss, z, ⟨q1, ⟨vs, q2, q3⟩, q4⟩, m => by
    rcases List.mem_cons.mp m with rfl | m
    · exact ⟨q1, vs, q2⟩
    · exact q4.mem m
theorem RowsAt.rep {h : Heap} {X Y Z : List Addr} : ∀ {rs : List Addr} {dss : List (List D)}, RowsAt h X Y rs dss → (∀ a ∈ rs, a ∉ Z) → (∀ a ∈ Z, a ∈ X) → RepL h Z (dss.map D.list) (rs.map Value.ref)
  | [], [], _, _, _ => by simp [RepL]
  | [], _ :: _, q, _, _ => q.elim
  | _ :: _, [], q, _, _ => q.elim
  | r :: rs, ds :: dss, ⟨q1, ⟨vs, q2, q3⟩, q4⟩, hz, hX => by
    simp only [List.map_cons, RepL_cons]
    refine ⟨_, _, rfl, ?_, q4.rep (fun a ha => hz a (.tail _ ha)) hX⟩
    rw [Rep_list]
    exact ⟨r, vs, rfl, hz r (.head _), q2, q3.sub hX⟩
theorem SlotAt.map {env : Env} {h h' : Heap} {X X' Y Y' : List Addr} {p : Addr × List Addr} {x : Str} {sl : Slot} (q : SlotAt env h X Y p x sl) (hv : ∀ v, VarIs env h x v → VarIs env h' x v) (hY : ∀ a ∈ feet p sl, a ∈ Y → a ∈ Y')
    (hl : ∀ a vs, a ∈ feet p sl → IsL h a vs → IsL h' a vs) (hr : ∀ d v, Rep h X d v → Rep h' X' d v) (hrl : ∀ ds vs, RepL h X ds vs → RepL h' X' ds vs) : SlotAt env h' X' Y' p x sl := by
  cases sl with
  | fz d => obtain ⟨v, h1, h2⟩ := q; exact ⟨v, hv v h1, hr d v h2⟩
  | own ds => obtain ⟨h1, h2, vs, h3, h4⟩ := q; exact ⟨hv _ h1, hY _ (.head _) h2, vs, hl _ _ (.head _) h3, hrl _ _ h4⟩
  | grid dss => obtain ⟨h1, h2, h3, h4, h5⟩ := q; exact ⟨hv _ h1, hY _ (.head _) h2, hl _ _ (.head _) h3, h4, h5.map hrl (fun a ha => hY a (.tail _ ha)) (fun a vs ha => hl a vs (.tail _ ha))⟩
theorem SlotAt.mem {env : Env} {h : Heap} {X Y : List Addr} {p : Addr × List Addr} {x : Str} {sl : Slot} {z : Addr} (q : SlotAt env h X Y p x sl) (m : z ∈ feet p sl) : z ∈ Y ∧ ∃ vs, IsL h z vs := by
  cases sl with
  | fz d => exact nomatch m
  | own ds => obtain ⟨h1, h2, vs, h3, h4⟩ := q; rw [List.mem_singleton.mp m]; exact ⟨h2, vs, h3⟩
  | grid dss =>
    obtain ⟨h1, h2, h3, h4, h5⟩ := q
    rcases List.mem_cons.mp m with rfl | m
    · exact ⟨h2, _, h3⟩
    · exact h5.mem m
/-- what the name holds, seen off Z -/
theorem SlotAt.rep {env : Env} {h : Heap} {X Y Z : List Addr} {p : Addr × List Addr} {x : Str} {sl : Slot} (q : SlotAt env h X Y p x sl) (hz : ∀ a ∈ feet p sl, a ∉ Z) (hX : ∀ a ∈ Z, a ∈ X) : ∃ v, VarIs env h x v ∧ Rep h Z sl.val.1 v := by
  cases sl with
  | fz d => obtain ⟨v, h1, h2⟩ := q; exact ⟨v, h1, h2.sub hX⟩
  | own ds =>
    obtain ⟨h1, h2, vs, h3, h4⟩ := q
    refine ⟨_, h1, ?_⟩
    show Rep h Z (.list ds) _
    rw [Rep_list]
    exact ⟨_, vs, rfl, hz _ (.head _), h3, h4.sub hX⟩
  | grid dss =>
    obtain ⟨h1, h2, h3, h4, h5⟩ := q
    refine ⟨_, h1, ?_⟩
    show Rep h Z (.list (dss.map D.list)) _
    rw [Rep_list]
    exact ⟨_, _, rfl, hz _ (.head _), h3, h5.rep (fun a ha => hz a (.tail _ ha)) hX⟩

structure StY (W : Wd) (env : Env) (lf : List Env) (hE : Heap) (Xo Y : List Addr) (al : Al) (σ : Sig) (h : Heap) : Prop where
  top : env ∈ lf
  gr : Gr hE h
  base : W.hB.StaysIn h
  ff : FF W h lf
  new : ∀ a ∈ Y, hE.get? a = none
  bnew : ∀ a ∈ Y, W.hB.get? a = none
  live : Live h (Y ++ Xo)
  xo : ∀ a ∈ Xo, a ∉ Y
  loc : env.locals ∈ Y
  ns : ∃ m, h.Ns env.locals m
  cell : ∀ x c, env.cells.lookup x = some c → c ∈ Y ∧ ∃ v, h.IsCell c v
  vars : ∀ x sl, σ.lookup x = some sl → SlotAt env h (Y ++ Xo) Y (al x) x sl
  inj : ∀ x y sl sl' z, σ.lookup x = some sl → σ.lookup y = some sl' → z ∈ feet (al x) sl → z ∈ feet (al y) sl' → x = y

section
variable {W : Wd} {n : Nat} {env : Env} {lf : List Env} {hE h h' : Heap} {Xo Y : List Addr} {al : Al} {σ : Sig}

theorem StY.rd (q : StY W env lf hE Xo Y al σ h) : Rd W env lf h (Y ++ Xo) (rho σ) := by
  refine ⟨⟨q.base, q.live, q.ff⟩, fun x d st e => ?_⟩
  obtain ⟨sl, h1, h2⟩ := rho_lookup e
  have := q.vars x sl h1
  cases sl with
  | fz d' => cases h2; exact this
  | own ds => cases h2; exact this.rep (Z := []) (fun _ _ z => nomatch z) (fun _ z => nomatch z)
  | grid ds => cases h2; exact this.rep (Z := []) (fun _ _ z => nomatch z) (fun _ z => nomatch z)
theorem StY.up (q : StY W env lf hE Xo Y al σ h) (g : Gr h h') (b : W.hB.StaysIn h → W.hB.StaysIn h') : StY W env lf hE Xo Y al σ h' := by
  refine ⟨q.top, q.gr.trans g, b q.base, q.ff.gr g, q.new, q.bnew, q.live.gr g, q.xo, q.loc, ?_, fun x c e => ?_, fun x sl e => ?_, q.inj⟩
  · obtain ⟨m, hn⟩ := q.ns; exact ⟨m, g.ns hn⟩
  · obtain ⟨h1, v, h2⟩ := q.cell x c e; exact ⟨h1, v, g.cell h2⟩
  · exact (q.vars x sl e).map (fun v h1 => h1.gr g) (fun _ _ h => h) (fun a vs _ hl => hl.gr g) (fun _ _ r => r.gr g) (fun _ _ r => r.gr g)

/-- a name that the frame may store to -/
noncomputable def Storable (env : Env) (x : Str) : Prop := env.kindOf x = some .local ∨ (env.kindOf x = some .cell ∧ ∃ c, env.cells.lookup x = some c)
theorem StY.slot (q : StY W env lf hE Xo Y al σ h) {x : Str} (s : Storable env x) : ∃ a, VSlot env x a h ∧ a ∈ Y := by
  rcases s with k | ⟨k, c, hc⟩
  · exact ⟨env.locals, .inl ⟨k, rfl, q.ns⟩, q.loc⟩
  · obtain ⟨h1, h2⟩ := q.cell x c hc; exact ⟨c, .inr ⟨k, hc, h2⟩, h1⟩
theorem VSlot.notList {x : Str} {a : Addr} {b : Addr} {vs : List Value} (q : VSlot env x a h) (l : IsL h b vs) : b ≠ a := by
  rintro rfl
  obtain ⟨k, e⟩ := l
  rcases q with ⟨_, _, m, o, _, _, e1, e2, _⟩ | ⟨_, _, v, o, e1, e2⟩
  · rw [e] at e1; cases e1; cases e2
  · rw [e] at e1; cases e1; cases e2

/-- behind a store -/
theorem StY.stored (q : StY W env lf hE Xo Y al σ h) (F : FEnv env) {x : Str} {a : Addr} {v : Value} (va : VSlot env x a h) (ha : a ∈ Y) (vx : VarIs env h' x v) (va' : VSlot env x a h') (hs : Heap.SameBut a h h')
    (hn : ∀ m, h.Ns env.locals m → env.kindOf x = some .local → h'.Ns env.locals (fun y => if y = x then some v else m y)) (sl : Slot)
    (hsl : SlotAt env h' (Y ++ Xo) Y (al x) x sl) (hinj : ∀ y sl' z, y ≠ x → σ.lookup y = some sl' → z ∈ feet (al x) sl → z ∉ feet (al y) sl') : StY W env lf hE Xo Y al (put x sl σ) h' := by
  have off : ∀ b o, b ≠ a → h.get? b = some o → h'.get? b = some o := fun b o hb e => (hs.2 b hb).trans e
  have gx : GrX [a] h h' := GrX.of_keep fun b o hb e => off b o (fun q => hb (by simp [q])) e
  have aX : ∀ b, b ∈ [a] → b ∈ Y ++ Xo ∨ h.get? b = none := fun b hb => .inl (by rw [List.mem_singleton.mp hb]; exact List.mem_append_left _ ha)
  have nsL : ∀ {L : Addr} {m : Str → Option Value}, h.Ns L m → ∃ m', h'.Ns L m' := fun {L m} hL => by
    by_cases e : L = a
    · subst e
      rcases va' with ⟨_, _, m', hn'⟩ | ⟨k', _⟩
      · exact ⟨m', hn'⟩
      · rcases va with ⟨k, _⟩ | ⟨_, _, v', o, e1, e2⟩
        · rw [k] at k'; cases k'
        · obtain ⟨o', _, _, e3, e4, _⟩ := hL
          rw [e1] at e3; cases e3; rw [e2] at e4; cases e4
    · exact ⟨m, hL.sameBut hs e⟩
  have other : ∀ y u, y ≠ x → VarIs env h y u → VarIs env h' y u := fun y u hy hv => by
    rcases hv with ⟨k, m, hm, e⟩ | ⟨k, c, hc, hi⟩
    · refine .inl ⟨k, ?_⟩
      by_cases kx : env.kindOf x = some .local
      · exact ⟨_, hn m hm kx, by rw [if_neg hy]; exact e⟩
      · rcases va with ⟨k', _⟩ | ⟨_, hc, _⟩
        · exact absurd k' kx
        · exact ⟨m, hm.sameBut hs (Ne.symm (F.loc x a hc)), e⟩
    · refine .inr ⟨k, c, hc, hi.sameBut hs ?_⟩
      rcases va with ⟨_, e, _⟩ | ⟨_, hc', _⟩
      · rw [e]; exact F.loc y c hc
      · rintro rfl; exact hy (F.inj y x c hc hc')
  refine ⟨q.top, fun b o e => ?_, fun b o e => off b o (fun z => by rw [z, q.bnew a ha] at e; cases e) (q.base b o e), fun e' he' => ?_, q.new, q.bnew, fun b hb => ?_, q.xo, q.loc, ?_, fun y c e => ?_, fun y sl' e => ?_, fun y w sl₁ sl₂ z e1 e2 e3 e4 => ?_⟩
  · obtain ⟨o', e', z⟩ := q.gr b o e
    exact ⟨o', off b o' (fun z => by rw [z, q.new a ha] at e; cases e) e', z⟩
  · obtain ⟨k, L, m, hf, hm, hb⟩ := q.ff e' he'
    obtain ⟨m', hm'⟩ := nsL hm
    exact ⟨k, L, m', hf, hm', hb⟩
  · by_cases z : b = a
    · rw [z]; exact va'.live
    · obtain ⟨o, e⟩ := q.live b hb; exact ⟨o, off b o z e⟩
  · obtain ⟨m, hm⟩ := q.ns; exact nsL hm
  · obtain ⟨h1, u, h2⟩ := q.cell y c e
    refine ⟨h1, ?_⟩
    by_cases z : c = a
    · subst z
      rcases va' with ⟨_, e', _⟩ | ⟨_, _, h3⟩
      · exact absurd e' (F.loc y c e)
      · exact h3
    · exact ⟨u, h2.sameBut hs z⟩
  · rw [put_lookup] at e
    by_cases hy : y = x
    · rw [if_pos hy] at e; cases e; subst hy; exact hsl
    · rw [if_neg hy] at e
      exact (q.vars y sl' e).map (fun u h1 => other y u hy h1) (fun _ _ h => h) (fun b vs _ hl => hl.grX gx (by simpa using va.notList hl)) (fun _ _ r => Rep.mono gx aX (fun b hb => .inl hb) r) (fun _ _ r => RepL.mono gx aX (fun b hb => .inl hb) r)
  · rw [put_lookup] at e1 e2
    by_cases hy : y = x <;> by_cases hw : w = x
    · rw [hy, hw]
    · rw [if_pos hy] at e1; cases e1; rw [if_neg hw] at e2
      subst hy
      exact absurd e4 (hinj w sl₂ z hw e2 e3)
    · rw [if_pos hw] at e2; cases e2; rw [if_neg hy] at e1
      subst hw
      exact absurd e3 (hinj y sl₁ z hy e1 e4)
    · rw [if_neg hy] at e1; rw [if_neg hw] at e2; exact q.inj y w sl₁ sl₂ z e1 e2 e3 e4

inductive Fl where
  | next | brk | cont
  | ret (d : D)
noncomputable def PostS (W : Wd) (env : Env) (lf : List Env) (hE : Heap) (Xo : List Addr) (s : Shared) (σ' : Sig) (fl : Fl) (f : Flow) (s' : Shared) : Prop :=
  ∃ h' tk, s' = { s with heap := h', toks := tk } ∧ match fl with
    | .next => f = .next ∧ ∃ Y al, StY W env lf hE Xo Y al σ' h'
    | .brk => f = .brk ∧ ∃ Y al, StY W env lf hE Xo Y al σ' h'
    | .cont => f = .cont ∧ ∃ Y al, StY W env lf hE Xo Y al σ' h'
    | .ret d => ∃ v, f = .ret v ∧ Rep h' Xo d v ∧ Gr hE h' ∧ W.hB.StaysIn h'
noncomputable def Ex (W : Wd) (n : Nat) (env : Env) (σ : Sig) (t : Sem Flow) (fl : Fl) (σ' : Sig) : Prop :=
  ∀ A lf hE Xo Y al s, AOk n A lf → StY W env lf hE Xo Y al σ s.heap → wpAny (model W.prog W.w) A t (PostS W env lf hE Xo s σ' fl) (fun _ _ => False) s
end
end Mine
namespace Mine
section
variable {W : Wd} {n : Nat} {env : Env} {lf : List Env} {hE h h' : Heap} {Xo Y : List Addr} {al : Al} {σ σ₁ σ₂ : Sig}

theorem st_store {A : Around} {E : Value → Shared → Prop} {s : Shared} {x : Str} {d : D} {v : Value} {Q : Unit → Shared → Prop} (F : FEnv env) (q : StY W env lf hE Xo Y al σ s.heap) (sx : Storable env x) (r : Rep s.heap (Y ++ Xo) d v)
    (hQ : ∀ h' tk, StY W env lf hE Xo Y al (put x (.fz d) σ) h' → Q () { s with heap := h', toks := tk }) : wpAny (model W.prog W.w) A (storeName env x v) Q E s := by
  obtain ⟨a, va, ha⟩ := q.slot sx
  refine store_ok F.ok va fun h' tk vx va' hs hn => hQ h' tk (q.stored F va ha vx va' hs hn (.fz d) ⟨v, vx, ?_⟩ fun _ _ _ _ _ e => nomatch e)
  exact Rep.mono (Y := [a]) (GrX.of_keep fun b o hb e => (hs.2 b (fun q => hb (by simp [q]))).trans e) (fun b hb => .inl (by rw [List.mem_singleton.mp hb]; exact List.mem_append_left _ ha)) (fun b hb => .inl hb) r

/-- a new object becomes the frame's own -/
theorem StY.adopt (q : StY W env lf hE Xo Y al σ h) (g : Gr h h') (b : W.hB.StaysIn h') {a : Addr} (ha : h.get? a = none) (la : ∃ o, h'.get? a = some o) : StY W env lf hE Xo (a :: Y) al σ h' := by
  have q' := q.up g (fun _ => b)
  have hX : ∀ c, c ∈ (a :: Y) ++ Xo → c ∈ Y ++ Xo ∨ h.get? c = none := fun c hc => by
    rcases List.mem_cons.mp hc with rfl | hc
    · exact .inr ha
    · exact .inl hc
  refine ⟨q.top, q'.gr, q'.base, q'.ff, fun c hc => ?_, fun c hc => ?_, fun c hc => ?_, fun c hc hm => ?_, .tail _ q.loc, q'.ns, fun x c e => ?_, fun x sl e => ?_, q.inj⟩
  · rcases List.mem_cons.mp hc with rfl | hc
    · cases e : hE.get? c with
      | none => rfl
      | some o => obtain ⟨o', e', _⟩ := q.gr c o e; rw [ha] at e'; cases e'
    · exact q.new c hc
  · rcases List.mem_cons.mp hc with rfl | hc
    · cases e : W.hB.get? c with
      | none => rfl
      | some o => have := q.base c o e; rw [ha] at this; cases this
    · exact q.bnew c hc
  · rcases List.mem_cons.mp hc with rfl | hc
    · exact la
    · exact q'.live c hc
  · rcases List.mem_cons.mp hm with rfl | hm
    · obtain ⟨o, e⟩ := q.live c (List.mem_append_right _ hc); rw [ha] at e; cases e
    · exact q.xo c hc hm
  · obtain ⟨h1, h2⟩ := q'.cell x c e; exact ⟨.tail _ h1, h2⟩
  · exact (q.vars x sl e).map (fun v h1 => h1.gr g) (fun _ _ h => .tail _ h) (fun a vs _ hl => hl.gr g) (fun _ _ r => Rep.mono (Y := []) (g.x []) (fun _ z => nomatch z) hX r) (fun _ _ r => RepL.mono (Y := []) (g.x []) (fun _ z => nomatch z) hX r)
/-- another table of own addresses, alike where it counts -/
theorem StY.realloc (q : StY W env lf hE Xo Y al σ h) {al' : Al} (e : ∀ x sl, σ.lookup x = some sl → al' x = al x) : StY W env lf hE Xo Y al' σ h := by
  refine ⟨q.top, q.gr, q.base, q.ff, q.new, q.bnew, q.live, q.xo, q.loc, q.ns, q.cell, fun x sl hx => ?_, fun x y sl sl' z h1 h2 h3 h4 => ?_⟩
  · rw [e x sl hx]; exact q.vars x sl hx
  · rw [e x sl h1] at h3; rw [e y sl' h2] at h4; exact q.inj x y sl sl' z h1 h2 h3 h4
theorem StY.fewer (q : StY W env lf hE Xo Y al σ h) (hs : ∀ x sl, σ₁.lookup x = some sl → σ.lookup x = some sl) : StY W env lf hE Xo Y al σ₁ h :=
  ⟨q.top, q.gr, q.base, q.ff, q.new, q.bnew, q.live, q.xo, q.loc, q.ns, q.cell, fun x sl e => q.vars x sl (hs x sl e), fun x y sl sl' z h1 h2 => q.inj x y sl sl' z (hs _ _ h1) (hs _ _ h2)⟩
/-- forget a name -/
noncomputable def drop (x : Str) (σ : Sig) : Sig := σ.filter fun p => !(p.1 == x)
theorem drop_lookup (x y : Str) : ∀ σ : Sig, (drop x σ).lookup y = if y = x then none else σ.lookup y
  | [] => by simp [drop]
  | (z, s) :: r => by
    have ih := drop_lookup x y r
    unfold drop at ih ⊢
    rw [List.filter_cons]
    by_cases hz : z = x
    · subst hz
      simp only [beq_self_eq_true, Bool.not_true, Bool.false_eq_true, if_false, ih, List.lookup_cons]
      by_cases hy : y = z
      · simp [hy]
      · rw [if_neg hy, if_neg hy, beq_eq_false_iff_ne.mpr hy]
    · have : (!(z == x)) = true := by simp [hz]
      simp only [this, if_true, List.lookup_cons, ih]
      by_cases hy : y = z
      · have : ¬ y = x := by rw [hy]; exact hz
        rw [beq_iff_eq.mpr hy, if_neg this, if_neg this]
      · rw [beq_eq_false_iff_ne.mpr hy]
theorem put_drop_lookup (x : Str) (sl : Slot) (y : Str) (σ : Sig) : (put x sl (drop x σ)).lookup y = (put x sl σ).lookup y := by
  rw [put_lookup, put_lookup, drop_lookup]
  by_cases hy : y = x
  · simp [hy]
  · simp [hy]
/-- a name's new own objects -/
theorem st_storeS {A : Around} {E : Value → Shared → Prop} {s : Shared} {x : Str} {sl : Slot} {p : Addr × List Addr} {h₀ : Heap} {Y₀ : List Addr} {Q : Unit → Shared → Prop} (F : FEnv env) (q0 : StY W env lf hE Xo Y₀ al σ h₀) (q : StY W env lf hE Xo Y al σ s.heap) (sx : Storable env x)
    (hf : ∀ z ∈ feet p sl, h₀.get? z = none)
    (hsl : ∀ h', VarIs env h' x (.ref p.1) → (∀ a vs, IsL s.heap a vs → IsL h' a vs) → (∀ d v, Rep s.heap (Y ++ Xo) d v → Rep h' (Y ++ Xo) d v) → (∀ ds vs, RepL s.heap (Y ++ Xo) ds vs → RepL h' (Y ++ Xo) ds vs) → SlotAt env h' (Y ++ Xo) Y p x sl)
    (hQ : ∀ h' tk Y' al', StY W env lf hE Xo Y' al' (put x sl σ) h' → Q () { s with heap := h', toks := tk }) : wpAny (model W.prog W.w) A (storeName env x (.ref p.1)) Q E s := by
  have q1 := q.fewer (σ₁ := drop x σ) (fun y sl e => by rw [drop_lookup] at e; by_cases hy : y = x <;> simp [hy] at e; exact e)
  have q2 := q1.realloc (al' := fun y => if y = x then p else al y) (fun y es e => by
    rw [drop_lookup] at e
    by_cases hy : y = x
    · simp [hy] at e
    · simp [hy])
  obtain ⟨c, va, hc⟩ := q2.slot sx
  refine store_ok F.ok va fun h' tk vx va' hs hn => ?_
  have off : GrX [c] s.heap h' := GrX.of_keep fun b o hb e => (hs.2 b (fun q => hb (by simp [q]))).trans e
  have aX : ∀ b, b ∈ [c] → b ∈ Y ++ Xo ∨ s.heap.get? b = none := fun b hb => .inl (by rw [List.mem_singleton.mp hb]; exact List.mem_append_left _ hc)
  have q3 := q2.stored F va hc vx va' hs hn sl (by
    simp only [if_true]
    exact hsl h' vx (fun a vs hl => hl.grX off (by simpa using va.notList hl)) (fun d v r => Rep.mono off aX (fun b hb => .inl hb) r) (fun d v r => RepL.mono off aX (fun b hb => .inl hb) r)) (fun y sl' z hy e hz hz' => by
      rw [drop_lookup, if_neg hy] at e
      simp only [if_true, if_neg hy] at hz hz'
      obtain ⟨_, ws, hw⟩ := (q0.vars y _ e).mem hz'
      obtain ⟨o, eo⟩ := hw.live
      rw [hf z hz] at eo; cases eo)
  exact hQ h' tk _ _ (q3.fewer fun y sl e => by rw [put_drop_lookup]; exact e)
theorem st_storeOwn {A : Around} {E : Value → Shared → Prop} {s : Shared} {x : Str} {ds : List D} {a : Addr} {vs : List Value} {h₀ : Heap} {Q : Unit → Shared → Prop} (F : FEnv env) (q : StY W env lf hE Xo Y al σ h₀) (g : Gr h₀ s.heap) (b : W.hB.StaysIn s.heap) (sx : Storable env x)
    (ha : h₀.get? a = none) (hl : IsL s.heap a vs) (hr : RepL s.heap (a :: (Y ++ Xo)) ds vs)
    (hQ : ∀ h' tk Y' al', StY W env lf hE Xo Y' al' (put x (.own ds) σ) h' → Q () { s with heap := h', toks := tk }) : wpAny (model W.prog W.w) A (storeName env x (.ref a)) Q E s := by
  refine st_storeS (p := (a, [])) (sl := .own ds) F q (q.adopt g b ha hl.live) sx (fun z hz => by rw [List.mem_singleton.mp hz]; exact ha) (fun h' hv hL hr' hrl => ?_) hQ
  exact ⟨hv, .head _, vs, hL _ _ hl, hrl _ _ hr⟩
theorem StY.freezeS (q : StY W env lf hE Xo Y al σ h) {x : Str} {sl : Slot} (hx : σ.lookup x = some sl) : ∃ Y', StY W env lf hE Xo Y' al (put x (.fz sl.val.1) σ) h := by
  have sm := q.vars x _ hx
  have sub : ∀ c, c ∈ Y.filter (fun c => !((feet (al x) sl).any (Nat.beq c))) → c ∈ Y := fun c hc => (List.mem_filter.mp hc).1
  have mem : ∀ c, c ∈ Y → c ∉ feet (al x) sl → c ∈ Y.filter (fun c => !((feet (al x) sl).any (Nat.beq c))) := fun c hc hne => List.mem_filter.mpr ⟨hc, by
    cases e : (feet (al x) sl).any (Nat.beq c) with
    | false => rfl
    | true =>
      obtain ⟨z, hz, e'⟩ := List.any_eq_true.mp e
      exact absurd (Nat.eq_of_beq_eq_true e' ▸ hz) hne⟩
  have subX : ∀ c, c ∈ Y.filter (fun c => !((feet (al x) sl).any (Nat.beq c))) ++ Xo → c ∈ Y ++ Xo := fun c hc => (List.mem_append.mp hc).elim (fun hc => List.mem_append_left _ (sub c hc)) (fun hc => List.mem_append_right _ hc)
  have notIn : ∀ a ∈ feet (al x) sl, a ∉ Y.filter (fun c => !((feet (al x) sl).any (Nat.beq c))) ++ Xo := fun a ha hm => by
    rcases List.mem_append.mp hm with hm | hm
    · have h1 := (List.mem_filter.mp hm).2
      have h2 : (feet (al x) sl).any (Nat.beq a) = true := List.any_eq_true.mpr ⟨a, ha, Nat.beq_refl a⟩
      rw [h2] at h1; cases h1
    · exact q.xo a hm (sm.mem ha).1
  refine ⟨Y.filter (fun c => !((feet (al x) sl).any (Nat.beq c))), q.top, q.gr, q.base, q.ff, fun c hc => q.new c (sub c hc), fun c hc => q.bnew c (sub c hc), fun c hc => q.live c (subX c hc), fun c hc hm => q.xo c hc (sub c hm), mem _ q.loc ?_, q.ns, fun y c e => ?_, fun y sl' e => ?_, fun y w sl₁ sl₂ z e1 e2 e3 e4 => ?_⟩
  · intro e
    obtain ⟨_, vs, k, e3⟩ := sm.mem e
    obtain ⟨m, o, _, _, e1, e2, _⟩ := q.ns
    rw [e1] at e3; cases e3; cases e2
  · obtain ⟨h1, v, h2⟩ := q.cell y c e
    refine ⟨mem c h1 fun e => ?_, v, h2⟩
    obtain ⟨_, vs, k, e3⟩ := sm.mem e
    obtain ⟨o, e1, e2⟩ := h2
    rw [e1] at e3; cases e3; cases e2
  · rw [put_lookup] at e
    by_cases hy : y = x
    · rw [if_pos hy] at e; cases e; subst hy
      exact sm.rep notIn subX
    · rw [if_neg hy] at e
      exact (q.vars y sl' e).map (fun _ h => h) (fun a ha hY => mem a hY fun hm => hy (q.inj y x sl' sl a e hx ha hm)) (fun _ _ _ hl => hl) (fun _ _ r => r.sub subX) (fun _ _ r => r.sub subX)
  · rw [put_lookup] at e1 e2
    by_cases hy : y = x
    · rw [if_pos hy] at e1; cases e1; exact nomatch e3
    · by_cases hw : w = x
      · rw [if_pos hw] at e2; cases e2; exact nomatch e4
      · rw [if_neg hy] at e1; rw [if_neg hw] at e2; exact q.inj y w sl₁ sl₂ z e1 e2 e3 e4

/-! rules for statements -/
theorem Ex.nil : Ex W n env σ (execs [] env) .next σ := fun _ _ _ _ Y al s _ q => wpAny_execs_nil ⟨_, s.toks, rfl, rfl, Y, al, q⟩
theorem Ex.cons {st : Stmt} {rest : List Stmt} {fl : Fl} (x : Ex W n env σ (exec st env) .next σ₁) (y : Ex W n env σ₁ (execs rest env) fl σ₂) : Ex W n env σ (execs (st :: rest) env) fl σ₂ := by
  intro A lf hE Xo Y al s a q
  refine wpAny_execs_cons (wpAny_mono (x A lf hE Xo Y al s a q) (fun f s' hf => ?_) fun _ _ e => e)
  obtain ⟨h', tk, rfl, rfl, Y', al', q'⟩ := hf
  exact wpAny_mono (y A lf hE Xo Y' al' _ a q') (fun f s'' ⟨h'', tk', e, r⟩ => ⟨h'', tk', e, r⟩) fun _ _ e => e
theorem Ex.stop {st : Stmt} {rest : List Stmt} {fl : Fl} (x : Ex W n env σ (exec st env) fl σ₁) (hf : match fl with | .next => False | _ => True) : Ex W n env σ (execs (st :: rest) env) fl σ₁ := by
  intro A lf hE Xo Y al s a q
  refine wpAny_execs_cons (wpAny_mono (x A lf hE Xo Y al s a q) (fun f s' hp => ?_) fun _ _ e => e)
  obtain ⟨h', tk, rfl, r⟩ := hp
  cases fl with
  | next => exact hf.elim
  | brk => obtain ⟨rfl, r⟩ := r; exact ⟨h', tk, rfl, rfl, r⟩
  | cont => obtain ⟨rfl, r⟩ := r; exact ⟨h', tk, rfl, rfl, r⟩
  | ret d => obtain ⟨v, rfl, r⟩ := r; exact ⟨h', tk, rfl, v, rfl, r⟩
theorem Ex.freeze {t : Sem Flow} {fl : Fl} {x : Str} {ds : List D} (hx : σ.lookup x = some (.own ds)) (y : Ex W n env (put x (.fz (.list ds)) σ) t fl σ₁) : Ex W n env σ t fl σ₁ := by
  intro A lf hE Xo Y al s a q
  obtain ⟨Y', q'⟩ := q.freezeS hx
  exact y A lf hE Xo Y' al s a q'
theorem Ex.freezeG {t : Sem Flow} {fl : Fl} {x : Str} {dss : List (List D)} (hx : σ.lookup x = some (.grid dss)) (y : Ex W n env (put x (.fz (.list (dss.map D.list))) σ) t fl σ₁) : Ex W n env σ t fl σ₁ := by
  intro A lf hE Xo Y al s a q
  obtain ⟨Y', q'⟩ := q.freezeS hx
  exact y A lf hE Xo Y' al s a q'
theorem Ex.assign {x : Str} {p pos : Pos} {e : Expr} {d : D} (F : FEnv env) (sx : Storable env x) (v : Ev W n env (rho σ) e d true) (hs : swapsWith e (some (.Name x p)) pos.line env = pure false) : Ex W n env σ (exec (.Assign [.Name x p] e pos) env) .next (put x (.fz d) σ) := by
  intro A lf hE Xo Y al s a q
  refine wpAny_Assign_Name ((v A lf _ s a q.rd).to fun v1 h1 t1 g1 b1 r1 => ?_) hs
  exact st_store F (q.up g1 b1) sx r1 fun h' tk q' => ⟨h', tk, rfl, rfl, Y, al, q'⟩
theorem Ex.assignN {x : Str} {p pos : Pos} {e : Expr} {ds : List D} (F : FEnv env) (sx : Storable env x) (v : EvN W n env (rho σ) e ds) (hs : swapsWith e (some (.Name x p)) pos.line env = pure false) : Ex W n env σ (exec (.Assign [.Name x p] e pos) env) .next (put x (.own ds) σ) := by
  intro A lf hE Xo Y al s a q
  refine wpAny_Assign_Name ((v A lf _ s a q.rd).to fun v1 h1 t1 g1 b1 r1 => ?_) hs
  obtain ⟨c, vs, rfl, _, hc, hl, hr⟩ := r1
  exact st_storeOwn F q g1 (b1 q.base) sx hc hl hr fun h' tk Y' al' q' => ⟨h', tk, rfl, rfl, Y', al', q'⟩
theorem Ex.ifT {t : Expr} {body els : List Stmt} {pos : Pos} {fl : Fl} (b : Tr W n env (rho σ) t true) (y : Ex W n env σ (execs body env) fl σ₁) : Ex W n env σ (exec (.If t body els pos) env) fl σ₁ := by
  intro A lf hE Xo Y al s a q
  refine wpAny_If ((b A lf _ s a q.rd).to fun c h1 t1 g1 b1 r1 => ?_)
  subst r1
  exact wpAny_mono (y A lf hE Xo Y al _ a (q.up g1 b1)) (fun f s'' ⟨h'', tk', e, r⟩ => ⟨h'', tk', e, r⟩) fun _ _ e => e
theorem Ex.ifF {t : Expr} {body els : List Stmt} {pos : Pos} {fl : Fl} (b : Tr W n env (rho σ) t false) (y : Ex W n env σ (execs els env) fl σ₁) : Ex W n env σ (exec (.If t body els pos) env) fl σ₁ := by
  intro A lf hE Xo Y al s a q
  refine wpAny_If ((b A lf _ s a q.rd).to fun c h1 t1 g1 b1 r1 => ?_)
  subst r1
  exact wpAny_mono (y A lf hE Xo Y al _ a (q.up g1 b1)) (fun f s'' ⟨h'', tk', e, r⟩ => ⟨h'', tk', e, r⟩) fun _ _ e => e
theorem Ex.ret {e : Expr} {pos : Pos} {d : D} (v : Ev W n env (rho σ) e d true) : Ex W n env σ (exec (.Return (some e) pos) env) (.ret d) σ₁ := by
  intro A lf hE Xo Y al s a q
  refine wpAny_Return_some ((v A lf _ s a q.rd).to fun v1 h1 t1 g1 b1 r1 => ?_)
  exact ⟨h1, t1, rfl, v1, rfl, r1.sub fun c hc => List.mem_append_right _ hc, q.gr.trans g1, b1 q.base⟩
theorem Ex.brk {pos : Pos} : Ex W n env σ (exec (.Break pos) env) .brk σ := fun _ _ _ _ Y al s _ q => wpAny_Break ⟨_, s.toks, rfl, rfl, Y, al, q⟩
theorem Ex.cont {pos : Pos} : Ex W n env σ (exec (.Continue pos) env) .cont σ := fun _ _ _ _ Y al s _ q => wpAny_Continue ⟨_, s.toks, rfl, rfl, Y, al, q⟩
/-- an int and an int -/
theorem Ex.augInt {x : Str} {p pos : Pos} {op : BOp} {e : Expr} {i j : Int} {st : Bool} (hop : op = .add ∨ op = .sub) (F : FEnv env) (sx : Storable env x) (hx : σ.lookup x = some (.fz (.int i))) (v : Ev W n env (rho σ) e (.int j) st) :
    Ex W n env σ (exec (.AugAssign (.Name x p) op.op e pos) env) .next (put x (.fz (.int (if op = .add then i + j else i - j))) σ) := by
  intro A lf hE Xo Y al s a q
  obtain ⟨v0, q0, r0⟩ := q.vars x _ hx
  rw [Rep_int] at r0
  obtain ⟨t0, rfl⟩ := r0
  have ld : ∀ {Q : Value → Shared → Prop} {E : Value → Shared → Prop}, Q (.int i t0) s → wpAny (model W.prog W.w) A (loadName env x) Q E s := fun hq => by
    rcases q0 with ⟨kd, m, hn, hv⟩ | ⟨kd | ⟨kd, hc⟩, c, hl, hi⟩
    · exact wpAny_loadName_local F.ok.kind kd hn hv hq
    · exact wpAny_loadName_cell F.ok.kind kd hl hi hq
    · exact wpAny_loadName_free F.ok.kind kd hl hi hq hc
  refine wpAny_AugAssign_Name (ld ((v A lf _ s a q.rd).to fun v1 h1 t1 g1 b1 r1 => ?_))
  rw [Rep_int] at r1
  obtain ⟨t, rfl⟩ := r1
  rcases hop with rfl | rfl
  · exact iadd_int (st_store F (q.up g1 b1) sx Rep.mkInt fun h' tk q' => ⟨h', tk, rfl, rfl, Y, al, q'⟩)
  · exact isub_int (st_store F (q.up g1 b1) sx Rep.mkInt fun h' tk q' => ⟨h', tk, rfl, rfl, Y, al, q'⟩)
end
end Mine
namespace Mine

inductive LOp | append | insert | pop | extend
noncomputable def LOp.name : LOp → Str
  | .append => "append" | .insert => "insert" | .pop => "pop" | .extend => "extend"
noncomputable def LOp.id : LOp → String
  | .append => "list.append" | .insert => "list.insert" | .pop => "list.pop" | .extend => "list.extend"
/-- what a changing method of a list makes of its items -/
noncomputable def lop : LOp → List D → List D → Option (List D)
  | .append, ds, [d] => if ds.length ≤ 100000 then some (ds ++ [d]) else none
  | .insert, ds, [.int i, d] => if i = 0 ∧ ds.length ≤ 100000 then some (d :: ds) else none
  | .pop, ds, [] => if ds.length ≤ 100000 ∧ (ds.getLast?.any flat) = true then some ds.dropLast else none
  | .extend, ds, [.list es] => if ds.length + es.length ≤ 100000 then some (ds ++ es) else none
  | _, _, _ => none

section
variable {W : Wd} {n : Nat} {env : Env} {lf : List Env} {hE h h' : Heap} {Xo Y : List Addr} {al : Al} {σ σ₁ σ₂ : Sig}

theorem upd_list {a : Addr} {vs : List Value} (f : Array Value → Array Value) (hl : IsL h a vs) : IsL (h.update a (Obj.mapSeq f)) a (f vs.toArray).toList := by
  obtain ⟨k, e⟩ := hl
  exact ⟨if (f vs.toArray).size == vs.toArray.size then k else k + 1, Heap.get?_update_self (Obj.mapSeq f) e rfl⟩

theorem StY.mutateS (q : StY W env lf hE Xo Y al σ h) {x : Str} {sl sl' : Slot} {a : Addr} (hx : σ.lookup x = some sl) (ha : a ∈ feet (al x) sl) (hfe : feet (al x) sl' = feet (al x) sl) (hs : Heap.SameBut a h h') (la : ∃ vs', IsL h' a vs')
    (hsl : (∀ v, VarIs env h x v → VarIs env h' x v) → (∀ b vs, b ≠ a → IsL h b vs → IsL h' b vs) → (∀ ds vs, RepL h (Y ++ Xo) ds vs → RepL h' (Y ++ Xo) ds vs) → SlotAt env h' (Y ++ Xo) Y (al x) x sl') : StY W env lf hE Xo Y al (put x sl' σ) h' := by
  obtain ⟨hm, vs, hl0⟩ := (q.vars x _ hx).mem ha
  have off : ∀ b o, b ≠ a → h.get? b = some o → h'.get? b = some o := fun b o hb e => (hs.2 b hb).trans e
  have gx : GrX [a] h h' := GrX.of_keep fun b o hb e => off b o (fun q => hb (by simp [q])) e
  have aX : ∀ b, b ∈ [a] → b ∈ Y ++ Xo ∨ h.get? b = none := fun b hb => .inl (by rw [List.mem_singleton.mp hb]; exact List.mem_append_left _ hm)
  have nsn : ∀ {L : Addr} {m : Str → Option Value}, h.Ns L m → h'.Ns L m := fun {L m} hL => hL.sameBut hs (by
    rintro rfl
    obtain ⟨o, _, _, e1, e2, _⟩ := hL
    obtain ⟨k, e3⟩ := hl0
    rw [e1] at e3; cases e3; cases e2)
  have cn : ∀ {c : Addr} {v : Option Value}, h.IsCell c v → h'.IsCell c v := fun {c v} hc => hc.sameBut hs (by
    rintro rfl
    obtain ⟨o, e1, e2⟩ := hc
    obtain ⟨k, e3⟩ := hl0
    rw [e1] at e3; cases e3; cases e2)
  have var : ∀ {y : Str} {v : Value}, VarIs env h y v → VarIs env h' y v := fun q => q.imp (fun ⟨k, m, n, e⟩ => ⟨k, m, nsn n, e⟩) (fun ⟨k, c, e, i⟩ => ⟨k, c, e, cn i⟩)
  have offL : ∀ b vs, b ≠ a → IsL h b vs → IsL h' b vs := fun b vs hb hl => hl.grX gx (by simpa using hb)
  have rl : ∀ ds vs, RepL h (Y ++ Xo) ds vs → RepL h' (Y ++ Xo) ds vs := fun ds vs r => RepL.mono gx aX (fun b hb => .inl hb) r
  refine ⟨q.top, fun b o e => ?_, fun b o e => off b o (fun z => by rw [z, q.bnew _ hm] at e; cases e) (q.base b o e), fun e' he' => ?_, q.new, q.bnew, fun b hb => ?_, q.xo, q.loc, ?_, fun y c e => ?_, fun y sl₁ e => ?_, fun y w sl₁ sl₂ z e1 e2 e3 e4 => ?_⟩
  · obtain ⟨o', e', z⟩ := q.gr b o e
    exact ⟨o', off b o' (fun z => by rw [z, q.new _ hm] at e; cases e) e', z⟩
  · obtain ⟨k, L, m, hf, hm, hb⟩ := q.ff e' he'
    exact ⟨k, L, m, hf, nsn hm, hb⟩
  · by_cases z : b = a
    · obtain ⟨vs', hl'⟩ := la; rw [z]; exact hl'.live
    · obtain ⟨o, e⟩ := q.live b hb; exact ⟨o, off b o z e⟩
  · obtain ⟨m, hm⟩ := q.ns; exact ⟨m, nsn hm⟩
  · obtain ⟨h1, u, h2⟩ := q.cell y c e; exact ⟨h1, u, cn h2⟩
  · rw [put_lookup] at e
    by_cases hy : y = x
    · rw [if_pos hy] at e; cases e; subst hy
      exact hsl (fun _ => var) offL rl
    · rw [if_neg hy] at e
      exact (q.vars y sl₁ e).map (fun _ => var) (fun _ _ h => h) (fun b vs hb hl => offL b vs (fun z => hy (q.inj y x sl₁ sl b e hx hb (z ▸ ha))) hl) (fun _ _ r => Rep.mono gx aX (fun b hb => .inl hb) r) rl
  · rw [put_lookup] at e1 e2
    by_cases hy : y = x <;> by_cases hw : w = x
    · rw [hy, hw]
    · rw [if_pos hy] at e1; cases e1; rw [if_neg hw] at e2
      subst hy
      rw [hfe] at e3
      exact q.inj y w sl sl₂ z hx e2 e3 e4
    · rw [if_pos hw] at e2; cases e2; rw [if_neg hy] at e1
      subst hw
      rw [hfe] at e4
      exact q.inj y w sl₁ sl z e1 hx e3 e4
    · rw [if_neg hy] at e1; rw [if_neg hw] at e2; exact q.inj y w sl₁ sl₂ z e1 e2 e3 e4
theorem StY.mutate (q : StY W env lf hE Xo Y al σ h) {x : Str} {ds ds' : List D} {vs' : List Value} (hx : σ.lookup x = some (.own ds)) (hs : Heap.SameBut (al x).1 h h') (hl : IsL h' (al x).1 vs') (hr : RepL h (Y ++ Xo) ds' vs') : StY W env lf hE Xo Y al (put x (.own ds') σ) h' := by
  obtain ⟨hv, hm, vs, hl0, _⟩ := q.vars x _ hx
  exact q.mutateS hx (.head _) rfl hs ⟨vs', hl⟩ fun var offL rl => ⟨var _ hv, hm, vs', hl, rl _ _ hr⟩
theorem ld_ok {M : Model} {A : Around} {E : Value → Shared → Prop} {s : Shared} {x : Str} {v : Value} {Q : Value → Shared → Prop} (k : EnvOk env) (q0 : VarIs env s.heap x v) (hq : Q v s) : wpAny M A (loadName env x) Q E s := by
  rcases q0 with ⟨kd, m, hn, hv⟩ | ⟨kd | ⟨kd, hc⟩, c, hl, hi⟩
  · exact wpAny_loadName_local k.kind kd hn hv hq
  · exact wpAny_loadName_cell k.kind kd hl hi hq
  · exact wpAny_loadName_free k.kind kd hl hi hq hc

theorem lop_ok {o : LOp} {A : Around} {s : Shared} {a : Addr} {X : List Addr} {ds es rs : List D} {vs us : List Value} {Q : Value → Shared → Prop} {E : Value → Shared → Prop} (hr : lop o ds es = some rs) (hl : IsL s.heap a vs) (r : RepL s.heap X ds vs) (r' : RepL s.heap X es us)
    (hQ : ∀ v f ws, (∀ b, v ≠ .ref b) → (f vs.toArray).toList = ws → RepL s.heap X rs ws → Q v { s with heap := s.heap.update a (Obj.mapSeq f) }) : wpAny (model W.prog W.w) A (call (.builtin o.id) (.ref a :: us)) Q E s := by
  have hn := r.length
  obtain ⟨k, hk⟩ := id hl
  unfold lop at hr
  split at hr
  · split at hr
    · rename_i hs; cases hr
      rw [RepL_cons] at r'
      obtain ⟨u, t, rfl, h1, h2⟩ := r'
      rw [RepL_nil] at h2; subst h2
      refine call_meets F.slot_list_append hl.is.typeIs F.entry_list_append (F.args_list_append_2 _ _) (AutoListH.list_append_list_val_0 a vs.toArray k u (by simp [sizeLine]; omega)) ⟨hk, ?_⟩
      exact hQ .none (fun xs => xs.push u) (vs ++ [u]) (fun _ e => nomatch e) (by simp) (r.append (.one h1))
    · cases hr
  · split at hr
    · rename_i hs; cases hr
      rw [RepL_cons] at r'
      obtain ⟨u, t, rfl, h1, h2⟩ := r'
      rw [RepL_cons] at h2
      obtain ⟨u', t', rfl, h3, h4⟩ := h2
      rw [RepL_nil] at h4; subst h4
      rw [Rep_int] at h1
      obtain ⟨tk, rfl⟩ := h1
      obtain ⟨hi, hs⟩ := hs
      subst hi
      refine call_meets F.slot_list_insert hl.is.typeIs F.entry_list_insert (F.args_list_insert_3 _ _ _) (AutoListH.list_insert_list_int_val_1 a vs.toArray k 0 tk u' (by decide) (by simp [sizeLine]; omega)) ⟨hk, ?_⟩
      refine hQ .none _ (u' :: vs) (fun _ e => nomatch e) ?_ (.mkCons h3 r)
      simp
    · cases hr
  · split at hr
    · rename_i hs; cases hr
      rw [RepL_nil] at r'; subst r'
      obtain ⟨hs1, hs2⟩ := hs
      cases hg : ds.getLast? with
      | none => rw [hg] at hs2; simp at hs2
      | some d =>
        rw [hg] at hs2
        have hf : flat d = true := by simpa using hs2
        rw [List.getLast?_eq_getElem?] at hg
        obtain ⟨v, e1, e2⟩ := r.get hg
        have hpos : 0 < ds.length := by
          rcases Nat.eq_zero_or_pos ds.length with h0 | h0
          · have : ds = [] := List.length_eq_zero_iff.mp h0
            rw [this] at hg; simp at hg
          · exact h0
        refine call_meets F.slot_list_pop hl.is.typeIs F.entry_list_pop (F.args_list_pop_1 _) (MeetsSeq.list_pop_last a vs.toArray k v (by simpa [hn] using e1) (by simp [sizeLine]; omega)) ⟨hk, ?_⟩
        refine hQ v _ vs.dropLast ?_ ?_ ?_
        · intro b hb
          subst hb
          cases d with
          | none => rw [Rep_none] at e2; cases e2
          | bool b => rw [Rep_bool] at e2; cases e2
          | int i => rw [Rep_int] at e2; obtain ⟨_, e2⟩ := e2; cases e2
          | str x => rw [Rep_str] at e2; obtain ⟨_, e2⟩ := e2; cases e2
          | list _ => cases hf
          | tup _ => cases hf
          | raw u => rw [Rep_raw] at e2; exact e2.2 b rfl
        · simp only [List.size_toArray]
          rw [List.eraseIdxIfInBounds_toArray]
          rw [List.dropLast_eq_take]
          simp [List.eraseIdx_eq_take_drop_succ]
          omega
        · rw [List.dropLast_eq_take, List.dropLast_eq_take, hn]; exact r.take _
    · cases hr
  · split at hr
    · rename_i hs; cases hr
      rw [RepL_cons] at r'
      obtain ⟨u, t, rfl, h1, h2⟩ := r'
      rw [RepL_nil] at h2; subst h2
      rw [Rep_list] at h1
      obtain ⟨b, ws, rfl, _, ⟨k', hk'⟩, hr'⟩ := h1
      have hn' := hr'.length
      refine call_meets F.slot_list_extend hl.is.typeIs F.entry_list_extend (F.args_list_extend_2 _ _) (AutoSeq1.list_extend_list_list_0 a vs.toArray k b ws.toArray k' (by simp [Builtin.List.listTooLong, sizeLine]; omega) (by simp [sizeLine]; omega) (by simp [sizeLine]; omega)) ⟨hk, hk', ?_⟩
      exact hQ .none (fun xs => xs ++ ws.toArray) (vs ++ ws) (fun _ e => nomatch e) (by simp) (r.append hr')
    · cases hr
  · cases hr
end
end Mine
namespace Mine
section
variable {W : Wd} {n : Nat} {env : Env} {lf : List Env} {hE h h' : Heap} {Xo Y : List Addr} {al : Al} {σ σ₁ σ₂ : Sig}

theorem back_plain {args : List Expr} {pos : Pos} (he : starEach args env = args.map fun e => (false, eval e env)) : backTo pos (starEach args env) = args.map fun e => (false, eval e env) := by
  rw [he]
  unfold backTo
  rw [List.map_map]
  rfl
theorem Ex.lop {o : LOp} {x : Str} {p apos pos pos' : Pos} {args : List Expr} {ds es rs : List D} (fe : FEnv env) (hes : args = [] → es = []) (hx : σ.lookup x = some (.own ds)) (hd : (x == ("__debug__" : Str)) = false) (he : starEach args env = args.map fun e => (false, eval e env)) (hn : args.length < 20)
    (hl : (apos.endLine == pos.line) = true) (hi : interactive env = false) (y : EvL W n env (rho σ) args es) (hr : Mine.lop o ds es = some rs) :
    Ex W n env σ (exec (.Expr (.Call (.Attribute (.Name x p) o.name apos) args [] pos) pos') env) .next (put x (.own rs) σ) := by
  intro A lf hE Xo Y al s a q
  obtain ⟨hv, hm, vs, hl0, hr0⟩ := q.vars x _ hx
  have bp := back_plain (pos := pos) he
  have hfew : ((backTo pos (starEach args env)).all (fun x => !x.1) && (backToKw pos (keywordEach [] env)).all (fun x => x.1.isSome)
      && decide (args.length + ([] : List Keyword).length + (if ([] : List Keyword).isEmpty then 0 else 1) < 30)) = true := by
    rw [bp]
    have h1 : (args.map fun e => (false, eval e env)).all (fun x => !x.1) = true := by simp
    have h2 : (backToKw pos (keywordEach [] env)).all (fun x => x.1.isSome) = true := rfl
    rw [h1, h2]
    simp; omega
  have slot : PySem.Slot "list" o.name o.id := match o with
    | .append => F.slot_list_append | .insert => F.slot_list_insert | .pop => F.slot_list_pop | .extend => F.slot_list_extend
  have hty : typeOf (.builtin o.id) = pure (.type "method_descriptor") := match o with
    | .append => F.type_list_append | .insert => F.type_list_insert | .pop => F.type_list_pop | .extend => F.type_list_extend
  refine wpAny_Expr (wpAny_Call_method (T := "list") (by rfl) hfew hl F.plainAttrs_list slot hty (wpAny_Name (ld_ok fe.ok hv ⟨hl0.is.typeIs, ?_, ?_⟩) hd)) hi (by rfl)
  · intro b hb; cases hb
    obtain ⟨k, e⟩ := hl0
    exact ⟨_, e, rfl⟩
  · have hplain : (backTo pos (starEach args env)).any (·.1) = false := by rw [bp]; simp
    refine Calls.callWith_builtin hplain ?_
    have fin : ∀ us h1 t1, Gr s.heap h1 → (W.hB.StaysIn s.heap → W.hB.StaysIn h1) → RepL h1 (Y ++ Xo) es us →
        wpAny (model W.prog W.w) A (call (.builtin o.id) (.ref (al x).1 :: us)) (fun v s' => match v with | .ref _ => False | _ => PostS W env lf hE Xo s (put x (.own rs) σ) .next .next s') (fun _ _ => False) { s with heap := h1, toks := t1 } := by
      intro us h1 t1 g1 b1 r1
      have q1 := q.up g1 b1
      refine lop_ok (W := W) (s := { s with heap := h1, toks := t1 }) hr (hl0.gr g1) (hr0.gr g1) r1 fun v f ws hv hws hrs => ?_
      have post : PostS W env lf hE Xo s (put x (.own rs) σ) .next .next { s with heap := h1.update (al x).1 (Obj.mapSeq f), toks := t1 } :=
        ⟨_, t1, rfl, rfl, Y, al, q1.mutate hx (Heap.SameBut.update ..) (by have := upd_list f (hl0.gr g1); rw [hws] at this; exact this) hrs⟩
      cases v <;> first | exact post | exact (hv _ rfl).elim
    cases args with
    | nil =>
      refine PySem.evalArgs_none ?_
      rw [hes rfl] at hr fin
      exact fin [] s.heap s.toks (Gr.refl _) id .mkNil
    | cons e0 r =>
      have hb : backTo pos (starEach (e0 :: r) env) = (false, eval e0 env) :: backTo pos (starEach r env) := by
        rw [bp, List.map_cons]
        congr 1
        have : starEach r env = r.map fun e => (false, eval e env) := by
          cases e0 <;> simp [starEach] at he <;> first | exact he | exact he.2
        exact (back_plain this).symm
      have := y A lf (Y ++ Xo) s pos a q.rd
      rw [hb] at this ⊢
      exact Calls.evalArgs_plain (this.to fun us h1 t1 g1 b1 r1 => fin us h1 t1 g1 b1 r1)
end
end Mine
namespace Mine
section
variable {W : Wd} {n : Nat} {env : Env} {lf : List Env} {hE h h' : Heap} {Xo Y : List Addr} {al : Al} {σ σ₁ σ₂ : Sig} {ρx : Rho}

/-- an own object that no name holds changes, and is let go -/
theorem StY.shed {a : Addr} (q : StY W env lf hE Xo (a :: Y) al σ h) (hs : Heap.SameBut a h h') (n1 : a ≠ env.locals) (n2 : ∀ x c, env.cells.lookup x = some c → c ≠ a) (n3 : ∀ x sl, σ.lookup x = some sl → a ∉ feet (al x) sl)
    (n4 : ∀ e ∈ lf, e.frame ≠ some a) (n5 : a ∉ Y ++ Xo) : StY W env lf hE Xo Y al σ h' := by
  have ha : a ∈ a :: Y := .head _
  have off : ∀ b o, b ≠ a → h.get? b = some o → h'.get? b = some o := fun b o hb e => (hs.2 b hb).trans e
  have gx : GrX [a] h h' := GrX.of_keep fun b o hb e => off b o (fun q => hb (by simp [q])) e
  have aX : ∀ b, b ∈ [a] → b ∈ (a :: Y) ++ Xo ∨ h.get? b = none := fun b hb => .inl (by rw [List.mem_singleton.mp hb]; exact .head _)
  have tl : ∀ {c : Addr}, c ∈ a :: Y → c ≠ a → c ∈ Y := fun {c} hc hne => (List.mem_cons.mp hc).elim (fun e => absurd e hne) id
  have var : ∀ {y : Str} {v : Value}, VarIs env h y v → VarIs env h' y v := fun q => q.imp (fun ⟨k, m, n, e⟩ => ⟨k, m, n.sameBut hs (Ne.symm n1), e⟩) (fun ⟨k, c, e, i⟩ => ⟨k, c, e, i.sameBut hs (n2 _ c e)⟩)
  have subX : ∀ b, b ∈ Y ++ Xo → b ∈ (a :: Y) ++ Xo ∨ h.get? b = none := fun b hb => .inl (.tail _ hb)
  refine ⟨q.top, fun b o e => ?_, fun b o e => off b o (fun z => by rw [z, q.bnew _ ha] at e; cases e) (q.base b o e), fun e' he' => ?_, fun c hc => q.new c (.tail _ hc), fun c hc => q.bnew c (.tail _ hc), fun b hb => ?_, fun c hc hm => q.xo c hc (.tail _ hm), tl q.loc (Ne.symm n1), ?_, fun y c e => ?_, fun y sl e => ?_, q.inj⟩
  · obtain ⟨o', e', z⟩ := q.gr b o e
    exact ⟨o', off b o' (fun z => by rw [z, q.new _ ha] at e; cases e) e', z⟩
  · obtain ⟨k, L, m, hf, hm, hb⟩ := q.ff e' he'
    exact ⟨k, L, m, hf, hm.sameBut hs (fun z => n4 e' he' (by rw [hf, z])), hb⟩
  · obtain ⟨o, e⟩ := q.live b (.tail _ hb)
    exact ⟨o, off b o (fun z => n5 (z ▸ hb)) e⟩
  · obtain ⟨m, hm⟩ := q.ns; exact ⟨m, hm.sameBut hs (Ne.symm n1)⟩
  · obtain ⟨h1, u, h2⟩ := q.cell y c e; exact ⟨tl h1 (n2 y c e), u, h2.sameBut hs (n2 y c e)⟩
  · exact (q.vars y sl e).map (fun _ => var) (fun b hb h => tl h fun z => n3 y sl e (z ▸ hb)) (fun b vs hb hl => hl.grX gx (fun z => n3 y sl e (List.mem_singleton.mp z ▸ hb))) (fun _ _ r => Rep.mono gx aX subX r) (fun _ _ r => RepL.mono gx aX subX r)
theorem StY.sigEq (q : StY W env lf hE Xo Y al σ h) (hs : ∀ x, σ₁.lookup x = σ.lookup x) : StY W env lf hE Xo Y al σ₁ h := q.fewer fun x sl e => by rw [← hs]; exact e

/-- x = [comprehension], the store made inside the comprehension's tree -/
theorem Ex.assignComp {elt iter : Expr} {x y : Str} {px py pos spos : Pos} {ifs : List Expr} {scope : Scope} {ds : List D} (f : D → Option D) (fe : FEnv env) (sy : Storable env y) (S : Sees env scope x (rho σ) ρx) (src : Src W n env (rho σ) iter ds) (C : CompOk W n env scope x ρx ifs elt ds f)
    (hs : ∀ x, foldedSetIterable iter env x = pure x) (hsw : swapsWith (.ListComp elt [⟨.Name x px, iter, ifs, 0⟩] scope pos) (some (.Name y py)) spos.line env = pure true) :
    Ex W n env σ (exec (.Assign [.Name y py] (.ListComp elt [⟨.Name x px, iter, ifs, 0⟩] scope pos) spos) env) .next (put y (.own (ds.filterMap f)) σ) := by
  intro A lf hE Xo Y al s a q
  obtain ⟨cl, hcl⟩ := S.clos
  rw [exec_Assign_Name_used _ _ _ _ hsw]
  refine wpAny_bind (wpAny_standAt (wpAny_bind ?_))
  show wpAny _ A (do let _ ← comprehension (.ListComp elt [⟨.Name x px, iter, ifs, 0⟩] scope pos) scope env _ (newList []) false (eval iter env) (some (PySem.assign (.Name y py) env))) _ _ s
  have R := q.rd
  refine wpAny_bind (wpAny_mono (wpAny_comprehension_free (use := some (PySem.assign (.Name y py) env)) (Q := fun _ s' => PostS W env lf hE Xo s (put y (.own (ds.filterMap f)) σ) .next .next s') rfl hs (closureFor_of hcl) S.kind S.names
    (src A lf (Y ++ Xo) s _ _ a R fun H tk I fp wr P St gH bH Wk st0 hfp hfx hwr hfr hlv hP hgo => ?_)) (fun _ s' hq => wpAny_pure (wpAny_pure hq)) fun _ _ e => e)
  refine comp_core (N := false) (RR := fun acc C => compPost (model W.prog W.w) A (fun _ _ => False) (some (PySem.assign (.Name y py) env)) _ acc C) f a R fe.ok S hcl gH (bH R.gd.base) Wk st0 (fun b hb => let ⟨_, e⟩ := hfp b hb; Heap.lt_size e) hwr (fun i g g' st gg => hfr i g g' st fun b _ o e => gg b o e) hlv hP C.size C.test (fun cenv e1 e2 d hd r hr => (C.elt cenv e1 e2 d hd r hr).q) ?_
  intro DD CC h' tk' m ys _ hD hC hDC hX hn hl hr g b
  show wpAny _ A (PySem.assign (.Name y py) env (.ref DD)) _ _ _
  -- the two new objects become the frame's own
  have liveC : ∃ o, h'.get? CC = some o := let ⟨o, _, _, e, _⟩ := hn; ⟨o, e⟩
  have hX1 : ∀ c, c ∈ (CC :: DD :: Y) ++ Xo → c ∈ Y ++ Xo ∨ s.heap.get? c = none := fun c hc => by
    rcases List.mem_cons.mp hc with rfl | hc
    · exact .inr hC
    rcases List.mem_cons.mp hc with rfl | hc
    · exact .inr hD
    · exact .inl hc
  have q' := q.up g (fun _ => b)
  have nE : ∀ {c : Addr}, s.heap.get? c = none → hE.get? c = none := fun {c} hc => by
    cases e : hE.get? c with
    | none => rfl
    | some o => obtain ⟨o', e', _⟩ := q.gr c o e; rw [hc] at e'; cases e'
  have nB : ∀ {c : Addr}, s.heap.get? c = none → W.hB.get? c = none := fun {c} hc => by
    cases e : W.hB.get? c with
    | none => rfl
    | some o => have := q.base c o e; rw [hc] at this; cases this
  have q1 : StY W env lf hE Xo (CC :: DD :: Y) (fun z => if z = y then (DD, []) else al z) (drop y σ) h' := by
    refine ⟨q.top, q'.gr, q'.base, q'.ff, fun c hc => ?_, fun c hc => ?_, fun c hc => ?_, fun c hc hm => ?_, .tail _ (.tail _ q.loc), q'.ns, fun z c e => ?_, fun z sl e => ?_, fun z w sl₁ sl₂ u e1 e2 e3 e4 => ?_⟩
    · rcases List.mem_cons.mp hc with rfl | hc
      · exact nE hC
      rcases List.mem_cons.mp hc with rfl | hc
      · exact nE hD
      · exact q.new c hc
    · rcases List.mem_cons.mp hc with rfl | hc
      · exact nB hC
      rcases List.mem_cons.mp hc with rfl | hc
      · exact nB hD
      · exact q.bnew c hc
    · rcases List.mem_cons.mp hc with rfl | hc
      · exact liveC
      rcases List.mem_cons.mp hc with rfl | hc
      · exact hl.live
      · exact q'.live c hc
    · obtain ⟨o, e⟩ := q.live c (List.mem_append_right _ hc)
      rcases List.mem_cons.mp hm with rfl | hm
      · rw [hC] at e; cases e
      rcases List.mem_cons.mp hm with rfl | hm
      · rw [hD] at e; cases e
      · exact q.xo c hc hm
    · obtain ⟨h1, h2⟩ := q'.cell z c e; exact ⟨.tail _ (.tail _ h1), h2⟩
    · rw [drop_lookup] at e
      by_cases hz : z = y
      · simp [hz] at e
      · rw [if_neg hz] at e
        simp only [if_neg hz]
        exact (q.vars z sl e).map (fun v h1 => h1.gr g) (fun _ _ h => .tail _ (.tail _ h)) (fun a vs _ hl => hl.gr g) (fun _ _ r => Rep.mono (Y := []) (g.x []) (fun _ z => nomatch z) hX1 r) (fun _ _ r => RepL.mono (Y := []) (g.x []) (fun _ z => nomatch z) hX1 r)
    · rw [drop_lookup] at e1 e2
      by_cases hz : z = y
      · simp [hz] at e1
      by_cases hw : w = y
      · simp [hw] at e2
      rw [if_neg hz] at e1; rw [if_neg hw] at e2
      simp only [if_neg hz] at e3
      simp only [if_neg hw] at e4
      exact q.inj z w sl₁ sl₂ u e1 e2 e3 e4
  obtain ⟨c, va, hc⟩ := q1.slot sy
  refine wpAny_assign_Name (store_ok fe.ok va fun h₂ tk₂ vx va' hs₂ hn₂ => ?_)
  have off : GrX [c] h' h₂ := GrX.of_keep fun b o hb e => (hs₂.2 b (fun q => hb (by simp [q]))).trans e
  have nDc : DD ≠ c := va.notList hl
  -- c is live in s.heap, CC is not
  have cold : ∃ o, s.heap.get? c = some o := by
    rcases va with ⟨_, e, _⟩ | ⟨_, e, _⟩
    · obtain ⟨m0, o, _, _, e0, _⟩ := q.ns; rw [e]; exact ⟨o, e0⟩
    · obtain ⟨_, v0, o, e0, _⟩ := q.cell y c e; exact ⟨o, e0⟩
  have nCc : CC ≠ c := by rintro rfl; obtain ⟨o, e⟩ := cold; rw [hC] at e; cases e
  have q2 := q1.stored fe va hc vx va' hs₂ hn₂ (.own (ds.filterMap f)) ⟨by simpa using vx, by simp, ys, by simpa using hl.grX off (by simpa using nDc),
    RepL.mono off (fun b hb => .inl (by
      rw [List.mem_singleton.mp hb]
      rcases List.mem_cons.mp hc with rfl | hc
      · exact absurd rfl nCc
      rcases List.mem_cons.mp hc with rfl | hc
      · exact absurd rfl nDc
      · exact .tail _ (.tail _ (List.mem_append_left _ hc)))) (fun b hb => .inl (by simpa using hb)) hr⟩ (fun z sl' u hz e hu hu' => by
        rw [drop_lookup, if_neg hz] at e
        simp only [if_true] at hu
        simp only [if_neg hz] at hu'
        obtain ⟨_, ws, hw⟩ := (q.vars z _ e).mem hu'
        obtain ⟨o, eo⟩ := hw.live
        rw [List.mem_singleton.mp hu, hD] at eo; cases eo)
  refine ⟨m, hn.sameBut hs₂ nCc, fun h₃ hs₃ => ?_⟩
  have q3 : StY W env lf hE Xo (DD :: Y) (fun z => if z = y then (DD, []) else al z) (put y (.own (ds.filterMap f)) (drop y σ)) h₃ := ?last
  · exact ⟨h₃, tk₂, rfl, rfl, _, _, q3.sigEq fun z => (put_drop_lookup ..).symm⟩
  refine q2.shed (a := CC) hs₃ ?_ ?_ ?_ ?_ ?_
  · rintro e; obtain ⟨m0, o, _, _, e0, _⟩ := q.ns; rw [← e, hC] at e0; cases e0
  · rintro z c' e rfl; obtain ⟨_, v0, o, e0, _⟩ := q.cell z c' e; rw [hC] at e0; cases e0
  · intro z es e hm
    rw [put_lookup] at e
    by_cases hz : z = y
    · rw [if_pos hz] at e; cases e
      simp only [hz, if_true] at hm
      exact hDC (List.mem_singleton.mp hm).symm
    · rw [if_neg hz, drop_lookup, if_neg hz] at e
      simp only [if_neg hz] at hm
      obtain ⟨_, ws, hw⟩ := (q.vars z _ e).mem hm
      obtain ⟨o, eo⟩ := hw.live
      rw [hC] at eo; cases eo
  · intro e he hf
    obtain ⟨_, L, m', hfr, ⟨o, _, _, e0, _⟩, _⟩ := q.ff e he
    rw [hf] at hfr; cases hfr
    rw [hC] at e0; cases e0
  · intro hm
    rcases List.mem_cons.mp hm with e | hm
    · exact hDC e.symm
    · obtain ⟨o, e⟩ := q.live _ hm
      rw [hC] at e; cases e
end
end Mine
namespace Mine
section
variable {W : Wd} {n : Nat} {env : Env} {lf : List Env} {hE h h' : Heap} {Xo Y : List Addr} {al : Al} {σ σ₁ σ₂ : Sig} {ρx : Rho}

/-- the heap without the frame's own mutable objects -/
theorem StY.rebase (q : StY W env lf hE Xo Y al σ h) : StY W env lf (hideAll h Y) Xo Y al σ h :=
  ⟨q.top, Gr.of_keep fun b o e => of_hideAll _ e, q.base, q.ff, fun a ha => hideAll_none _ ha, q.bnew, q.live, q.xo, q.loc, q.ns, q.cell, q.vars, q.inj⟩
theorem gr_unbase {h₁ : Heap} (g : Gr hE h) (hn : ∀ a ∈ Y, hE.get? a = none) (g' : Gr (hideAll h Y) h₁) : Gr hE h₁ := fun b o e => by
  obtain ⟨o', e', s⟩ := g b o e
  have hb : b ∉ Y := fun hy => by rw [hn b hy] at e; cases e
  obtain ⟨o2, e2, s2⟩ := g' b o' (hideAll_get _ e' hb)
  exact ⟨o2, e2, s.trans s2⟩
/-- back to the elder heap -/
theorem StY.unbase {Y' : List Addr} {al' : Al} {h₁ : Heap} (q : StY W env lf (hideAll h Y) Xo Y' al' σ₁ h₁) (g : Gr hE h) (hn : ∀ a ∈ Y, hE.get? a = none) : StY W env lf hE Xo Y' al' σ₁ h₁ := by
  refine ⟨q.top, gr_unbase g hn q.gr, q.base, q.ff, fun a ha => ?_, q.bnew, q.live, q.xo, q.loc, q.ns, q.cell, q.vars, q.inj⟩
  cases e : hE.get? a with
  | none => rfl
  | some o =>
    obtain ⟨o', e', _⟩ := g a o e
    have hb : a ∉ Y := fun hy => by rw [hn a hy] at e; cases e
    have := q.new a ha
    rw [hideAll_get _ e' hb] at this; cases this
/-- outer objects that are hidden change (an iterator goes on) -/
theorem StY.goOn {wr : List Addr} (q : StY W env lf hE Xo Y al σ h) (hw : ∀ a ∈ wr, a ∈ Xo) (hk : ∀ b o, b ∉ wr → h.get? b = some o → h'.get? b = some o) (lw : Live h' wr) (n1 : ∀ a ∈ wr, hE.get? a = none) (n2 : ∀ a ∈ wr, W.hB.get? a = none)
    (n3 : ∀ e ∈ lf, ∀ L, e.frame = some L → L ∉ wr) : StY W env lf hE Xo Y al σ h' := by
  have gx : GrX wr h h' := GrX.of_keep hk
  have aX : ∀ b, b ∈ wr → b ∈ Y ++ Xo ∨ h.get? b = none := fun b hb => .inl (List.mem_append_right _ (hw b hb))
  have nY : ∀ {a : Addr}, a ∈ Y → a ∉ wr := fun {a} ha hm => q.xo a (hw a hm) ha
  have nsn : ∀ {L : Addr} {m : Str → Option Value}, L ∉ wr → h.Ns L m → h'.Ns L m := fun {L m} hL hm => hm.at' fun o e => hk _ o hL e
  have cn : ∀ {c : Addr} {v : Option Value}, c ∉ wr → h.IsCell c v → h'.IsCell c v := fun {c v} hc hi => let ⟨o, e, d⟩ := hi; ⟨o, hk _ o hc e, d⟩
  have var : ∀ {y : Str} {v : Value}, VarIs env h y v → VarIs env h' y v := fun z => z.imp (fun ⟨k, m, n, e⟩ => ⟨k, m, nsn (nY q.loc) n, e⟩) (fun ⟨k, c, e, i⟩ => ⟨k, c, e, cn (nY (q.cell _ c e).1) i⟩)
  refine ⟨q.top, fun b o e => ?_, fun b o e => hk b o (fun hm => by rw [n2 b hm] at e; cases e) (q.base b o e), fun e' he' => ?_, q.new, q.bnew, fun b hb => ?_, q.xo, q.loc, ?_, fun y c e => ?_, fun y sl e => ?_, q.inj⟩
  · obtain ⟨o', e', z⟩ := q.gr b o e
    exact ⟨o', hk b o' (fun hm => by rw [n1 b hm] at e; cases e) e', z⟩
  · obtain ⟨k, L, m, hf, hm, hb⟩ := q.ff e' he'
    exact ⟨k, L, m, hf, nsn (n3 e' he' L hf) hm, hb⟩
  · by_cases z : b ∈ wr
    · exact lw b z
    · obtain ⟨o, e⟩ := q.live b hb; exact ⟨o, hk b o z e⟩
  · obtain ⟨m, hm⟩ := q.ns; exact ⟨m, nsn (nY q.loc) hm⟩
  · obtain ⟨h1, u, h2⟩ := q.cell y c e; exact ⟨h1, u, cn (nY h1) h2⟩
  · exact (q.vars y sl e).map (fun _ => var) (fun _ _ h => h) (fun b vs hb hl => hl.grX gx (nY ((q.vars y sl e).mem hb).1)) (fun _ _ r => Rep.mono gx aX (fun b hb => .inl hb) r) (fun _ _ r => RepL.mono gx aX (fun b hb => .inl hb) r)

/-- the same, and they are let go -/
theorem StY.goOff {wr : List Addr} (q : StY W env lf hE (wr ++ Xo) Y al σ h) (hk : ∀ b o, b ∉ wr → h.get? b = some o → h'.get? b = some o) (n4 : ∀ a ∈ Xo, a ∉ wr) (n1 : ∀ a ∈ wr, hE.get? a = none) (n2 : ∀ a ∈ wr, W.hB.get? a = none)
    (n3 : ∀ e ∈ lf, ∀ L, e.frame = some L → L ∉ wr) : StY W env lf hE Xo Y al σ h' := by
  have gx : GrX wr h h' := GrX.of_keep hk
  have aX : ∀ b, b ∈ wr → b ∈ Y ++ (wr ++ Xo) ∨ h.get? b = none := fun b hb => .inl (List.mem_append_right _ (List.mem_append_left _ hb))
  have sub : ∀ b, b ∈ Y ++ Xo → b ∈ Y ++ (wr ++ Xo) ∨ h.get? b = none := fun b hb => .inl ((List.mem_append.mp hb).elim (fun hc => List.mem_append_left _ hc) (fun hc => List.mem_append_right _ (List.mem_append_right _ hc)))
  have nY : ∀ {a : Addr}, a ∈ Y → a ∉ wr := fun {a} ha hm => q.xo a (List.mem_append_left _ hm) ha
  have nsn : ∀ {L : Addr} {m : Str → Option Value}, L ∉ wr → h.Ns L m → h'.Ns L m := fun {L m} hL hm => hm.at' fun o e => hk _ o hL e
  have cn : ∀ {c : Addr} {v : Option Value}, c ∉ wr → h.IsCell c v → h'.IsCell c v := fun {c v} hc hi => let ⟨o, e, d⟩ := hi; ⟨o, hk _ o hc e, d⟩
  have var : ∀ {y : Str} {v : Value}, VarIs env h y v → VarIs env h' y v := fun z => z.imp (fun ⟨k, m, n, e⟩ => ⟨k, m, nsn (nY q.loc) n, e⟩) (fun ⟨k, c, e, i⟩ => ⟨k, c, e, cn (nY (q.cell _ c e).1) i⟩)
  refine ⟨q.top, fun b o e => ?_, fun b o e => hk b o (fun hm => by rw [n2 b hm] at e; cases e) (q.base b o e), fun e' he' => ?_, q.new, q.bnew, fun b hb => ?_, fun c hc => q.xo c (List.mem_append_right _ hc), q.loc, ?_, fun y c e => ?_, fun y sl e => ?_, q.inj⟩
  · obtain ⟨o', e', z⟩ := q.gr b o e
    exact ⟨o', hk b o' (fun hm => by rw [n1 b hm] at e; cases e) e', z⟩
  · obtain ⟨k, L, m, hf, hm, hb⟩ := q.ff e' he'
    exact ⟨k, L, m, hf, nsn (n3 e' he' L hf) hm, hb⟩
  · obtain ⟨o, e⟩ := q.live b ((sub b hb).elim id fun z => by
      rcases List.mem_append.mp hb with hb | hb
      · exact List.mem_append_left _ hb
      · exact List.mem_append_right _ (List.mem_append_right _ hb))
    exact ⟨o, hk b o (fun hm => (List.mem_append.mp hb).elim (fun z => nY z hm) fun z => n4 b z hm) e⟩
  · obtain ⟨m, hm⟩ := q.ns; exact ⟨m, nsn (nY q.loc) hm⟩
  · obtain ⟨h1, u, h2⟩ := q.cell y c e; exact ⟨h1, u, cn (nY h1) h2⟩
  · exact (q.vars y sl e).map (fun _ => var) (fun _ _ h => h) (fun b vs hb hl => hl.grX gx (nY ((q.vars y sl e).mem hb).1)) (fun _ _ r => Rep.mono gx aX sub r) (fun _ _ r => RepL.mono gx aX sub r)

/-- a target takes a value -/
noncomputable def Tgt (W : Wd) (n : Nat) (env : Env) (σ : Sig) (target : Expr) (d : D) (σ' : Sig) : Prop :=
  ∀ A lf hE Xo Y al s v, AOk n A lf → StY W env lf hE Xo Y al σ s.heap → Rep s.heap (Y ++ Xo) d v →
    wpAny (model W.prog W.w) A (PySem.assign target env v) (fun _ s' => ∃ h' tk Y' al', s' = { s with heap := h', toks := tk } ∧ StY W env lf hE Xo Y' al' σ' h') (fun _ _ => False) s
theorem Tgt.name {x : Str} {p : Pos} {d : D} (fe : FEnv env) (sx : Storable env x) : Tgt W n env σ (.Name x p) d (put x (.fz d) σ) := by
  intro A lf hE Xo Y al s v a q r
  exact wpAny_assign_Name (st_store fe q sx r fun h' tk q' => ⟨h', tk, Y, al, rfl, q'⟩)

/-- how a loop over ds ends -/
inductive Turns (W : Wd) (n : Nat) (env : Env) (target : Expr) (body : List Stmt) : List D → Sig → Fl → Sig → Prop
  | done {σ : Sig} : Turns W n env target body [] σ .next σ
  | next {d : D} {ds : List D} {σ σt σ₁ σ₂ : Sig} {fl : Fl} : Tgt W n env σ target d σt → Ex W n env σt (execs body env) .next σ₁ → Turns W n env target body ds σ₁ fl σ₂ → Turns W n env target body (d :: ds) σ fl σ₂
  | cont {d : D} {ds : List D} {σ σt σ₁ σ₂ : Sig} {fl : Fl} : Tgt W n env σ target d σt → Ex W n env σt (execs body env) .cont σ₁ → Turns W n env target body ds σ₁ fl σ₂ → Turns W n env target body (d :: ds) σ fl σ₂
  | brk {d : D} {ds : List D} {σ σt σ₁ : Sig} : Tgt W n env σ target d σt → Ex W n env σt (execs body env) .brk σ₁ → Turns W n env target body (d :: ds) σ .next σ₁
  | ret {d r : D} {ds : List D} {σ σt σ₁ : Sig} : Tgt W n env σ target d σt → Ex W n env σt (execs body env) (.ret r) σ₁ → Turns W n env target body (d :: ds) σ (.ret r) σ₁

theorem Turns.step {target : Expr} {body : List Stmt} {A : Around} {lf : List Env} {hE : Heap} {Xo Y : List Addr} {al : Al} {d : D} {ds : List D} {σ σ₂ : Sig} {fl : Fl} {v : Value} {s : Shared} {Q : Flow → Shared → Prop} {E₁ E₂ : Value → Shared → Prop} (T : Turns W n env target body (d :: ds) σ fl σ₂) (a : AOk n A lf) (q : StY W env lf hE Xo Y al σ s.heap) (r : Rep s.heap (Y ++ Xo) d v)
    (h1 : ∀ h tk Y al σ', Turns W n env target body ds σ' fl σ₂ → StY W env lf hE Xo Y al σ' h → Q .next { s with heap := h, toks := tk } ∧ Q .cont { s with heap := h, toks := tk })
    (h2 : ∀ h tk Y al, fl = .next → StY W env lf hE Xo Y al σ₂ h → Q .brk { s with heap := h, toks := tk })
    (h3 : ∀ h tk d u, fl = .ret d → Rep h Xo d u → Gr hE h → W.hB.StaysIn h → Q (.ret u) { s with heap := h, toks := tk }) :
    wpAny (model W.prog W.w) A (PySem.assign target env v) (fun _ s₂ => wpAny (model W.prog W.w) A (execs body env) Q E₁ s₂) E₂ s := by
  have key : ∀ {σt : Sig} {g : Fl} {σ₁ : Sig}, Tgt W n env σ target d σt → Ex W n env σt (execs body env) g σ₁ → (∀ f s', PostS W env lf hE Xo s σ₁ g f s' → Q f s') →
      wpAny (model W.prog W.w) A (PySem.assign target env v) (fun _ s₂ => wpAny (model W.prog W.w) A (execs body env) Q E₁ s₂) E₂ s := fun ht hx k =>
    wpAny_mono (ht A lf hE Xo Y al s v a q r) (fun _ s₂ ⟨h₂, tk₂, Y₂, al₂, e, q₂⟩ => by
      subst e
      exact wpAny_mono (hx A lf hE Xo Y₂ al₂ _ a q₂) (fun f s₃ ⟨h₃, tk₃, e, p⟩ => k f s₃ ⟨h₃, tk₃, e, p⟩) fun _ _ e => e.elim) fun _ _ e => e.elim
  cases T with
  | next ht hx hr => exact key ht hx fun f s' ⟨h, tk, e, e2, Y, al, z⟩ => by subst e; subst e2; exact (h1 h tk Y al _ hr z).1
  | cont ht hx hr => exact key ht hx fun f s' ⟨h, tk, e, e2, Y, al, z⟩ => by subst e; subst e2; exact (h1 h tk Y al _ hr z).2
  | brk ht hx => exact key ht hx fun f s' ⟨h, tk, e, e2, Y, al, z⟩ => by subst e; subst e2; exact h2 h tk Y al rfl z
  | ret ht hx => exact key ht hx fun f s' ⟨h, tk, e, u, e2, r, g, b⟩ => by subst e; subst e2; exact h3 h tk _ u rfl r g b
theorem Turns.nil {target : Expr} {body : List Stmt} {σ σ₂ : Sig} {fl : Fl} (T : Turns W n env target body [] σ fl σ₂) : fl = .next ∧ σ₂ = σ := by cases T; exact ⟨rfl, rfl⟩

theorem Ex.for {target iter : Expr} {body : List Stmt} {pos : Pos} {ds : List D} {fl : Fl} (src : Src W n env (rho σ) iter ds) (T : Turns W n env target body ds σ fl σ₂) (hs : ∀ x, foldedSetIterable iter env x = pure x) :
    Ex W n env σ (exec (.For target iter body [] pos) env) fl σ₂ := by
  intro A lf hE Xo Y al s a q
  refine wpAny_For (src A lf (Y ++ Xo) s _ _ a q.rd fun H tk I fp wr P St gH bH Wk st0 hfp hfx hwr hfr hlv hP hgo => ?_) hs
  have qH := q.up gH bH
  have nwr : ∀ {c : Addr} {o : Obj}, s.heap.get? c = some o → c ∉ wr := fun {c o} e hm => by rw [hwr c hm] at e; cases e
  have hX1 : ∀ c, c ∈ Y ++ (wr ++ Xo) → c ∈ Y ++ Xo ∨ s.heap.get? c = none := fun c hc => by
    rcases List.mem_append.mp hc with hc | hc
    · exact .inl (List.mem_append_left _ hc)
    rcases List.mem_append.mp hc with hc | hc
    · exact .inr (hwr c hc)
    · exact .inl (List.mem_append_right _ hc)
  have n1 : ∀ a ∈ wr, hE.get? a = none := fun c hc => by
    cases e : hE.get? c with
    | none => rfl
    | some o => obtain ⟨o', e', _⟩ := q.gr c o e; exact absurd hc (nwr e')
  have n2 : ∀ a ∈ wr, W.hB.get? a = none := fun c hc => by
    cases e : W.hB.get? c with
    | none => rfl
    | some o => exact absurd hc (nwr (q.base c o e))
  have n3 : ∀ e ∈ lf, ∀ L, e.frame = some L → L ∉ wr := fun e he L hf => by
    obtain ⟨_, L', m, hf', ⟨o, _, _, e0, _⟩, _⟩ := q.ff e he
    rw [hf] at hf'; cases hf'
    exact nwr e0
  have qL : StY W env lf hE (wr ++ Xo) Y al σ H := by
    refine ⟨q.top, qH.gr, qH.base, qH.ff, q.new, q.bnew, fun c hc => ?_, fun c hc hy => ?_, q.loc, qH.ns, qH.cell, fun x sl e => ?_, q.inj⟩
    · rcases List.mem_append.mp hc with hc | hc
      · exact qH.live c (List.mem_append_left _ hc)
      rcases List.mem_append.mp hc with hc | hc
      · exact hlv _ _ st0 c hc
      · exact qH.live c (List.mem_append_right _ hc)
    · rcases List.mem_append.mp hc with hc | hc
      · obtain ⟨o, e⟩ := q.live c (List.mem_append_left _ hy); exact nwr e hc
      · exact q.xo c hc hy
    · exact (q.vars x sl e).map (fun v h1 => h1.gr gH) (fun _ _ h => h) (fun _ _ _ hl => hl.gr gH) (fun _ _ r => Rep.mono (Y := []) (gH.x []) (fun _ z => nomatch z) hX1 r) (fun _ _ r => RepL.mono (Y := []) (gH.x []) (fun _ z => nomatch z) hX1 r)
  have back : ∀ {Y' al' σ' h'}, StY W env lf hE (wr ++ Xo) Y' al' σ' h' → StY W env lf hE Xo Y' al' σ' h' := fun {Y' al' σ' h'} z => by
    have sub : ∀ c, c ∈ Y' ++ Xo → c ∈ Y' ++ (wr ++ Xo) := fun c hc => (List.mem_append.mp hc).elim (fun hc => List.mem_append_left _ hc) (fun hc => List.mem_append_right _ (List.mem_append_right _ hc))
    refine ⟨z.top, z.gr, z.base, z.ff, z.new, z.bnew, fun c hc => z.live c (sub c hc), fun c hc => z.xo c (List.mem_append_right _ hc), z.loc, z.ns, z.cell, fun x sl e => ?_, z.inj⟩
    exact (z.vars x sl e).map (fun _ h => h) (fun _ _ h => h) (fun _ _ _ hl => hl) (fun _ _ r => r.sub sub) (fun _ _ r => r.sub sub)
  refine codeAny_forLoop_any (fun j s' => ∃ h' tk' i al' σ' Y', s' = { s with heap := h', toks := tk' } ∧ i ≤ ds.length ∧ j = ds.length + 1 - i ∧ St i h' ∧ Turns W n env target body (ds.drop i) σ' fl σ₂ ∧
    StY W env lf hE (wr ++ Xo) Y' al' σ' h' ∧ GrX (Y ++ wr) H h' ∧ (∀ c ∈ Y', c ∈ Y ∨ H.get? c = none)) ?_ (ds.length + 1)
    ⟨H, tk, 0, al, σ, Y, rfl, Nat.zero_le _, rfl, st0, by simpa using T, qL, (Gr.refl H).x _, fun c hc => .inl hc⟩
  rintro j s' ⟨h, tk', i, al', σ', Y', rfl, hi, rfl, hst, hT, q', gx, yn⟩
  have offY : ∀ {c : Addr} {o : Obj}, H.get? c = some o → c ∉ Y → c ∉ Y' := fun {c o} e hc hm => (yn c hm).elim hc fun z => by rw [z] at e; cases e
  by_cases hlt : i < ds.length
  · refine Wk.item i _ _ _ hlt hst fun v h₁ tk₁ hPv hst₁ hk₁ => ?_
    obtain ⟨d, hd, hrep⟩ := hP i v hPv
    have q₁ := q'.goOn (wr := wr) (fun c hc => List.mem_append_left _ hc) hk₁ (hlv _ _ hst₁) n1 n2 n3
    have gx₁ : GrX (Y ++ wr) H h₁ := gx.trans (GrX.of_keep fun b o hb e => hk₁ b o (fun hm => hb (List.mem_append_right _ hm)) e)
    have rep₁ : Rep h₁ (Y' ++ (wr ++ Xo)) d v := by
      refine Rep.mono (Y := Y ++ wr) gx₁ (fun b hb => .inl ?_) (fun b hb => ?_) hrep
      · rcases List.mem_append.mp hb with hb | hb
        · exact List.mem_append_right _ (List.mem_append_left _ hb)
        · exact List.mem_append_left _ hb
      · rcases List.mem_append.mp hb with hb | hb
        · exact (yn b hb).imp (fun z => List.mem_append_right _ (List.mem_append_left _ z)) id
        rcases List.mem_append.mp hb with hb | hb
        · exact .inl (List.mem_append_left _ hb)
        · exact .inl (List.mem_append_right _ (List.mem_append_right _ hb))
    have dd : ds.drop i = d :: ds.drop (i + 1) := by
      obtain ⟨hl, he⟩ := List.getElem?_eq_some_iff.mp hd
      rw [List.drop_eq_getElem_cons hl, he]
    rw [dd] at hT
    refine hgo (i + 1) _ v target _ _ hst₁ ?_
    -- behind a turn
    have goes : ∀ {Y₃ al₃ σ₃ h₃ tk₃}, Turns W n env target body (ds.drop (i + 1)) σ₃ fl σ₂ → StY W env lf (hideAll h₁ Y') (wr ++ Xo) Y₃ al₃ σ₃ h₃ →
        ∃ m, m < ds.length + 1 - i ∧ ∃ h' tk' i al' σ' Y', ({ s with heap := h₃, toks := tk₃ } : Shared) = { s with heap := h', toks := tk' } ∧ i ≤ ds.length ∧ m = ds.length + 1 - i ∧ St i h' ∧ Turns W n env target body (ds.drop i) σ' fl σ₂ ∧
          StY W env lf hE (wr ++ Xo) Y' al' σ' h' ∧ GrX (Y ++ wr) H h' ∧ (∀ c ∈ Y', c ∈ Y ∨ H.get? c = none) := fun {Y₃ al₃ σ₃ h₃ tk₃} hT₃ q₃ => by
      refine ⟨ds.length + 1 - (i + 1), by omega, h₃, tk₃, i + 1, al₃, σ₃, Y₃, rfl, hlt, rfl, ?_, hT₃, q₃.unbase q₁.gr q₁.new, fun b o hb e => ?_, fun c hc => ?_⟩
      · refine hfr _ _ _ hst₁ fun b hb o e => q₃.gr b o (hideAll_get _ e ?_)
        obtain ⟨o', e'⟩ := hfp b hb
        exact offY e' fun hy => hfx b hb (List.mem_append_left _ hy)
      · obtain ⟨o', e', z⟩ := gx₁ b o hb e
        obtain ⟨o2, e2, z2⟩ := q₃.gr b o' (hideAll_get _ e' (offY e fun hy => hb (List.mem_append_left _ hy)))
        exact ⟨o2, e2, z.trans z2⟩
      · by_cases hy : c ∈ Y'
        · exact yn c hy
        · by_cases hcY : c ∈ Y
          · exact .inl hcY
          · right
            cases e : H.get? c with
            | none => rfl
            | some o =>
              have nn := q₃.new c hc
              by_cases hw : c ∈ wr
              · obtain ⟨o', e'⟩ := hlv _ _ hst₁ c hw
                rw [hideAll_get _ e' hy] at nn; cases nn
              · obtain ⟨o', e', _⟩ := gx₁ c o (fun hm => (List.mem_append.mp hm).elim hcY hw) e
                rw [hideAll_get _ e' hy] at nn; cases nn
    refine Turns.step (s := { s with heap := h₁, toks := _ }) hT a q₁.rebase rep₁ ?_ ?_ ?_
    · exact fun h₃ tk₃ Y₃ al₃ σ₃ hr q₃ => ⟨goes hr q₃, goes hr q₃⟩
    · intro h₃ tk₃ Y₃ al₃ e q₃
      subst e; exact ⟨h₃, tk₃, rfl, rfl, Y₃, al₃, back (q₃.unbase q₁.gr q₁.new)⟩
    · intro h₃ tk₃ d' u e r₃ g₃ b₃
      subst e; exact ⟨h₃, tk₃, rfl, u, rfl, r₃.sub fun c hc => List.mem_append_right _ hc, gr_unbase q₁.gr q₁.new g₃, b₃⟩
  · have hin : i = ds.length := by omega
    subst hin
    rw [List.drop_length] at hT
    refine Wk.done _ _ _ hst fun h₁ tk₁ hk₁ => ?_
    obtain ⟨e1, e2⟩ := hT.nil
    subst e1; subst e2
    refine wpAny_execs_nil ⟨h₁, tk₁, rfl, rfl, Y', al', ?_⟩
    exact q'.goOff (wr := wr) hk₁ (fun c hc => by obtain ⟨o, e⟩ := q.live c (List.mem_append_right _ hc); exact nwr e) n1 n2 n3
end
end Mine
namespace Mine
section
variable {W : Wd} {n : Nat} {env : Env} {lf : List Env} {hE h h' : Heap} {Xo Y : List Addr} {al : Al} {σ σ₁ σ₂ : Sig} {ρx : Rho}

inductive Whl (W : Wd) (n : Nat) (env : Env) (test : Expr) (body : List Stmt) : Nat → Sig → Fl → Sig → Prop
  | done {k : Nat} {σ : Sig} : Tr W n env (rho σ) test false → Whl W n env test body k σ .next σ
  | next {k : Nat} {σ σ₁ σ₂ : Sig} {fl : Fl} : Tr W n env (rho σ) test true → Ex W n env σ (execs body env) .next σ₁ → Whl W n env test body k σ₁ fl σ₂ → Whl W n env test body (k + 1) σ fl σ₂
  | cont {k : Nat} {σ σ₁ σ₂ : Sig} {fl : Fl} : Tr W n env (rho σ) test true → Ex W n env σ (execs body env) .cont σ₁ → Whl W n env test body k σ₁ fl σ₂ → Whl W n env test body (k + 1) σ fl σ₂
  | brk {k : Nat} {σ σ₁ : Sig} : Tr W n env (rho σ) test true → Ex W n env σ (execs body env) .brk σ₁ → Whl W n env test body k σ .next σ₁
  | ret {k : Nat} {σ σ₁ : Sig} {d : D} : Tr W n env (rho σ) test true → Ex W n env σ (execs body env) (.ret d) σ₁ → Whl W n env test body k σ (.ret d) σ₁
theorem Ex.while {test : Expr} {body : List Stmt} {pos : Pos} {k : Nat} {fl : Fl} (w : Whl W n env test body k σ fl σ₂) : Ex W n env σ (exec (.While test body [] pos) env) fl σ₂ := by
  intro A lf hE Xo Y al s a q
  refine wpAny_While (codeAny_whileLoop (fun j s' => ∃ h' tk' σ' Y' al', s' = { s with heap := h', toks := tk' } ∧ Whl W n env test body j σ' fl σ₂ ∧ StY W env lf hE Xo Y' al' σ' h') ?_ k ⟨s.heap, s.toks, σ, Y, al, rfl, w, q⟩)
  rintro j s' ⟨h, tk, σ', Y', al', rfl, w', q'⟩
  cases w' with
  | done t =>
    refine (t A lf _ _ a q'.rd).to fun c h1 t1 g1 b1 r1 => ?_
    subst r1
    exact wpAny_execs_nil ⟨h1, t1, rfl, rfl, Y', al', q'.up g1 b1⟩
  | next t x r =>
    refine (t A lf _ _ a q'.rd).to fun c h1 t1 g1 b1 r1 => ?_
    subst r1
    refine wpAny_mono (x A lf _ _ Y' al' _ a (q'.up g1 b1)) (fun f s₃ p => ?_) fun _ _ e => e.elim
    obtain ⟨h₃, tk₃, rfl, rfl, Y₃, al₃, q₃⟩ := p
    exact ⟨_, Nat.lt_succ_self _, h₃, tk₃, _, Y₃, al₃, rfl, r, q₃⟩
  | cont t x r =>
    refine (t A lf _ _ a q'.rd).to fun c h1 t1 g1 b1 r1 => ?_
    subst r1
    refine wpAny_mono (x A lf _ _ Y' al' _ a (q'.up g1 b1)) (fun f s₃ p => ?_) fun _ _ e => e.elim
    obtain ⟨h₃, tk₃, rfl, rfl, Y₃, al₃, q₃⟩ := p
    exact ⟨_, Nat.lt_succ_self _, h₃, tk₃, _, Y₃, al₃, rfl, r, q₃⟩
  | brk t x =>
    refine (t A lf _ _ a q'.rd).to fun c h1 t1 g1 b1 r1 => ?_
    subst r1
    refine wpAny_mono (x A lf _ _ Y' al' _ a (q'.up g1 b1)) (fun f s₃ p => ?_) fun _ _ e => e.elim
    obtain ⟨h₃, tk₃, rfl, rfl, Y₃, al₃, q₃⟩ := p
    exact ⟨h₃, tk₃, rfl, rfl, Y₃, al₃, q₃⟩
  | ret t x =>
    refine (t A lf _ _ a q'.rd).to fun c h1 t1 g1 b1 r1 => ?_
    subst r1
    refine wpAny_mono (x A lf _ _ Y' al' _ a (q'.up g1 b1)) (fun f s₃ p => ?_) fun _ _ e => e.elim
    obtain ⟨h₃, tk₃, rfl, u, rfl, r₃⟩ := p
    exact ⟨h₃, tk₃, rfl, u, rfl, r₃⟩

/-! a def's contract out of its body -/
theorem AOk.deep {A : Around} (a : AOk (n + 1) A lf) (env : Env) : AOk n (A.deeper env) (env :: lf) :=
  ⟨fun _ => a.1 (Nat.succ_pos _), by show Option.map (fun x => env :: x) A.frames = _; rw [a.2.1]; rfl, by have := a.2.2.1; show A.depth + 1 + 20 * n ≤ 800; omega, by have := a.2.2.2; show A.units + 3 + 100 * n ≤ 9000; omega⟩
noncomputable def sig0 (ps : List Str) (ds : List D) : Sig := (ps.zip ds).map fun p => (p.1, .fz p.2)
structure FnOk (W : Wd) (f : Str) (a : Addr) (params : Arguments) (body : List Stmt) (scope : Scope) : Prop where
  name : W.mg f = some (.ref a)
  obj : ∃ o pm cd doc, W.hB.get? a = some o ∧ o.data = .func (Calls.docDef f params body scope pm cd doc) ∧ W.hB.CodeRec cd f
theorem FnOk.at {f : Str} {a : Addr} {params : Arguments} {body : List Stmt} {scope : Scope} (F : FnOk W f a params body scope) : ∃ fd, FnAt W f a fd :=
  let ⟨o, _, _, _, h1, h2, _⟩ := F.obj; ⟨_, F.name, o, h1, h2⟩
/-- the parameters' names; all of them plain and local -/
noncomputable def plainParams (params : Arguments) (scope : Scope) : Option (List Str) :=
  match params with
  | ⟨[], as, none, [], [], none, []⟩ => if as.all (fun x => scope.names.lookup x.arg == some .local) && decide ((as.map (·.arg)).Nodup) then some (as.map (·.arg)) else none
  | _ => none
theorem zip_lookup : ∀ {ps : List Str} {ds : List D} {vs : List Value} {h : Heap} {X : List Addr} {x : Str} {sl : Slot}, ps.Nodup → RepL h X ds vs → (sig0 ps ds).lookup x = some sl → ps.length = ds.length → ∃ d v, sl = .fz d ∧ (ps.zip vs).reverse.lookup x = some v ∧ Rep h X d v
  | [], ds, vs, h, X, x, sl, _, _, e, _ => by simp [sig0] at e
  | p :: ps, [], vs, h, X, x, sl, _, _, e, hl => by simp at hl
  | p :: ps, d :: ds, vs, h, X, x, sl, nd, r, e, hl => by
    rw [RepL_cons] at r
    obtain ⟨v, vs', rfl, h1, h2⟩ := r
    obtain ⟨nd1, nd2⟩ := List.nodup_cons.mp nd
    simp only [sig0, List.zip_cons_cons, List.map_cons, List.lookup_cons] at e
    rw [List.zip_cons_cons, List.reverse_cons, List.lookup_append]
    cases hx : x == p with
    | true =>
      rw [hx] at e; cases e
      have := beq_iff_eq.mp hx
      subst this
      have none' : (ps.zip vs').reverse.lookup x = none := by
        cases e : (ps.zip vs').reverse.lookup x with
        | none => rfl
        | some u => exact absurd (List.of_mem_zip (List.mem_reverse.mp (mem_of_lookup e))).1 nd1
      exact ⟨d, v, rfl, by rw [none']; simp, h1⟩
    | false =>
      rw [hx] at e
      obtain ⟨d', v', e1, e2, e3⟩ := zip_lookup (h := h) (X := X) nd2 h2 e (by simpa using hl)
      exact ⟨d', v', e1, by rw [e2]; rfl, e3⟩
theorem CallOk.of {f : Str} {a : Addr} {params : Arguments} {body : List Stmt} {scope : Scope} {ps : List Str} {ds : List D} {d : D} (B : Base W) (F : FnOk W f a params body scope) (hp : plainParams params scope = some ps) (hl : ps.length = ds.length)
    (hbind : ∀ pm cd doc (vs : List Value), vs.length = ps.length → bindArgs (Calls.docDef f params body scope pm cd doc) ⟨vs, []⟩ = pure (ps.zip vs))
    (hco : scope.isCoroutine = false) (hgen : scope.isGenerator = false) (hk : scope.kind = .function) (hcell : ∀ x ∈ scope.names, x.2 ≠ .cell) (hfree : ∀ x ∈ scope.names, x.2 ≠ .free)
    (hb : ∀ env : Env, env.scope = scope → FEnv env → ∃ σ', Ex W n env (sig0 ps ds) (execs body env) (.ret d) σ') : CallOk W (n + 1) a ds d := by
  intro A lf X s vs ak g r
  obtain ⟨o, pm, cd, doc, ho, hdat, hcd⟩ := F.obj
  have hn := r.length
  -- the parameters
  unfold plainParams at hp
  split at hp
  · rename_i as
    split at hp
    · rename_i hc
      cases hp
      rw [Bool.and_eq_true, List.all_eq_true, decide_eq_true_eq] at hc
      obtain ⟨hloc, hnd⟩ := hc
      rw [List.length_map] at hl
      have hbind := hbind pm cd doc vs (by rw [List.length_map]; omega)
      refine wpAny_call (call_pos (by have := ak.2.2.1; unfold recursionLimit; omega) (g.base a o ho) hdat (B.nolimit.keeps g.base) (hcd.keeps g.base) hbind (fun x hx => ?_) (fun h₁ Fr₁ => ?_) hco hgen hk hcell)
      · obtain ⟨h1, _⟩ := List.of_mem_zip hx
        obtain ⟨y, hy, e⟩ := List.mem_map.mp h1
        rw [← e]; exact beq_iff_eq.mp (hloc y hy)
      · generalize hL : s.heap.objs.size = L at Fr₁ ⊢
        have fL : s.heap.get? L = none := Heap.get?_none_of_le (hL ▸ Nat.le_refl _)
        have bL : W.hB.get? L = none := by
          cases e : W.hB.get? L with
          | none => rfl
          | some o' => have := g.base L o' e; rw [fL] at this; cases this
        have fe : FEnv (envOf f scope L a cd) := ⟨⟨hk, rfl, rfl, fun y hy => hy.elim (fun e => absurd rfl (hcell _ (mem_of_lookup e))) fun e => absurd rfl (hfree _ (mem_of_lookup e))⟩, fun _ _ _ e => by simp [envOf] at e, fun _ _ e => by simp [envOf] at e, rfl⟩
        obtain ⟨σ', hx⟩ := hb (envOf f scope L a cd) rfl fe
        have st : StY W (envOf f scope L a cd) (envOf f scope L a cd :: lf) s.heap X [L] (fun _ => (0, [])) (sig0 (as.map (·.arg)) ds) h₁ := by
          refine ⟨.head _, Gr.of_keep Fr₁.keep, fun b o' e => Fr₁.keep b o' (g.base b o' e), fun e he => ?_, fun c hc => ?_, fun c hc => ?_, fun c hc => ?_, fun c hc hm => ?_, .head _, ⟨_, Fr₁.ns⟩, fun _ _ e => by simp [envOf] at e, fun x sl e => ?_, fun x y sl₁ sl₂ z e1 _ e3 _ => ?_⟩
          · rcases List.mem_cons.mp he with rfl | he
            · exact ⟨hk, L, _, rfl, Fr₁.ns, bL⟩
            · obtain ⟨k, L', m, hf, hm, hb⟩ := g.ff e he
              exact ⟨k, L', m, hf, hm.keeps Fr₁.keep, hb⟩
          · rw [List.mem_singleton.mp hc]; exact fL
          · rw [List.mem_singleton.mp hc]; exact bL
          · rcases List.mem_append.mp hc with hc | hc
            · rw [List.mem_singleton.mp hc]; obtain ⟨o', _, _, e, _⟩ := Fr₁.ns; exact ⟨o', e⟩
            · obtain ⟨o', e⟩ := g.live c hc; exact ⟨o', Fr₁.keep c o' e⟩
          · obtain ⟨o', e⟩ := g.live c hc
            rw [List.mem_singleton.mp hm, fL] at e; cases e
          · obtain ⟨d', v', rfl, e2, e3⟩ := zip_lookup hnd r e (by simpa using hl)
            have hx : scope.names.lookup x = some .local := by
              have := (List.of_mem_zip (List.mem_reverse.mp (mem_of_lookup e2))).1
              obtain ⟨y, hy, ey⟩ := List.mem_map.mp this
              rw [← ey]; exact beq_iff_eq.mp (hloc y hy)
            refine ⟨v', .inl ⟨hx, _, Fr₁.ns, e2⟩, ?_⟩
            refine Rep.mono (Y := []) ((Gr.of_keep Fr₁.keep).x []) (fun _ z => nomatch z) (fun c hc => ?_) e3
            rcases List.mem_append.mp hc with hc | hc
            · rw [List.mem_singleton.mp hc]; exact .inr fL
            · exact .inl hc
          · obtain ⟨d', v', rfl, _⟩ := zip_lookup hnd r e1 (by simpa using hl)
            exact nomatch e3
        refine wpAny_mono (hx (A.deeper (envOf f scope L a cd)) _ s.heap X [L] _ { s with heap := h₁, toks := s.toks + ((as.map (·.arg)).zip vs).length } (ak.deep _) st) (fun fl s' p => ?_) fun _ _ e => e.elim
        obtain ⟨h₃, tk₃, rfl, u, rfl, r₃, g₃, b₃⟩ := p
        exact ⟨h₃, tk₃, rfl, g₃, fun _ => b₃, r₃⟩
    · cases hp
  · cases hp
end
end Mine
namespace Mine
section
variable {W : Wd} {n : Nat} {env : Env} {lf : List Env} {hE h h' : Heap} {Xo Y : List Addr} {al : Al} {σ σ₁ σ₂ : Sig} {ρx : Rho}

/-- names take values in order -/
noncomputable def putAll : List Str → List D → Sig → Sig
  | x :: xs, d :: ds, σ => putAll xs ds (put x (.fz d) σ)
  | _, _, σ => σ
theorem assign_all {A : Around} {E : Value → Shared → Prop} (fe : FEnv env) : ∀ (ts : List (Value → Sem Unit)) (xs : List Str) (ds : List D) (vs : List Value) (σ : Sig) (s : Shared) (Q : Unit → Shared → Prop), (ts.length = xs.length) → xs.length = ds.length → (∀ x ∈ xs, Storable env x) →
    (∀ i (h : i < ts.length) (h' : i < xs.length) v s Q, wpAny (model W.prog W.w) A (storeName env xs[i] v) Q E s → wpAny (model W.prog W.w) A (ts[i] v) Q E s) →
    StY W env lf hE Xo Y al σ s.heap → RepL s.heap (Y ++ Xo) ds vs → (∀ h' tk, StY W env lf hE Xo Y al (putAll xs ds σ) h' → Q () { s with heap := h', toks := tk }) → wpAny (model W.prog W.w) A (assignInOrder ts vs) Q E s
  | [], [], [], vs, σ, s, Q, _, _, _, _, q, r, hQ => by
    rw [RepL_nil] at r; subst r
    exact wpAny_assignInOrder_none (hQ s.heap s.toks q)
  | t :: ts, x :: xs, d :: ds, vs, σ, s, Q, h1, h2, hs, ht, q, r, hQ => by
    rw [RepL_cons] at r
    obtain ⟨v, vs', rfl, r1, r2⟩ := r
    refine wpAny_assignInOrder_more (ht 0 (by simp) (by simp) v s _ ?_)
    obtain ⟨c, va, hc⟩ := q.slot (hs x (.head _))
    refine store_ok fe.ok va fun h' tk vx va' hss hn => ?_
    have gx : GrX [c] s.heap h' := GrX.of_keep fun b o hb e => (hss.2 b (fun q => hb (by simp [q]))).trans e
    have aX : ∀ b, b ∈ [c] → b ∈ Y ++ Xo ∨ s.heap.get? b = none := fun b hb => .inl (by rw [List.mem_singleton.mp hb]; exact List.mem_append_left _ hc)
    have q' := q.stored fe va hc vx va' hss hn (.fz d) ⟨v, vx, Rep.mono gx aX (fun b hb => .inl hb) r1⟩ (fun _ _ _ _ _ e => nomatch e)
    refine assign_all fe ts xs ds vs' (put x (.fz d) σ) _ _ (by simpa using h1) (by simpa using h2) (fun y hy => hs y (.tail _ hy)) (fun i h h' v s Q z => ?_) q' (RepL.mono gx aX (fun b hb => .inl hb) r2) (fun h'' tk' q'' => hQ h'' tk' q'')
    have := ht (i + 1) (by simpa using h) (by simpa using h') v s Q (by simpa using z)
    simpa using this
  | [], _ :: _, _, _, _, _, _, h1, _, _, _, _, _, _ => by simp at h1
  | _ :: _, [], _, _, _, _, _, h1, _, _, _, _, _, _ => by simp at h1
  | _, [], _ :: _, _, _, _, _, _, h2, _, _, _, _, _ => by simp at h2
  | _, _ :: _, [], _, _, _, _, _, h2, _, _, _, _, _ => by simp at h2

theorem names_each (ps : List (Str × Pos)) : assignEach (ps.map fun p => Expr.Name p.1 p.2) env = ps.map fun p => (false, PySem.assign (.Name p.1 p.2) env) := by
  induction ps with
  | nil => rfl
  | cons p r ih => rw [List.map_cons, List.map_cons, ← ih]; rfl
theorem IsT.isTuple {h : Heap} {a : Addr} {vs : List Value} (x : IsT h a vs) : h.IsTuple a vs.toArray := let ⟨n, e⟩ := x; ⟨_, e, rfl, n, rfl⟩
theorem Tgt.tup {ps : List (Str × Pos)} {k : Nat} {p : Pos} {ds : List D} (fe : FEnv env) (hl : ps.length = ds.length) (hs : ∀ x ∈ ps.map (·.1), Storable env x) (hn0 : 0 < n := by exact Nat.succ_pos _) :
    Tgt W n env σ (.Tuple (ps.map fun p => Expr.Name p.1 p.2) k p) (.tup ds) (putAll (ps.map (·.1)) ds σ) := by
  intro A lf hE Xo Y al s v a q r
  rw [Rep_tup] at r
  obtain ⟨t, vs, rfl, ht, hl', hr⟩ := r
  have hn := hr.length
  refine wpAny_assign_Tuple (a.1 hn0) hl'.isTuple (by rw [names_each]; simp; omega) ?_ fun h' hx => ?_
  · rw [names_each, List.findIdx?_map]
    rw [List.findIdx?_eq_none_iff]; simp
  · have g : Gr s.heap h' := Gr.of_keep fun b o e => hx b o (fun z => by rw [z] at e; exact absurd (Heap.lt_size e) (Nat.lt_irrefl _)) e
    have b : W.hB.StaysIn s.heap → W.hB.StaysIn h' := fun q' c o e => hx c o (fun z => by have := q' c o e; rw [z] at this; exact absurd (Heap.lt_size this) (Nat.lt_irrefl _)) (q' c o e)
    rw [names_each, List.map_map]
    refine assign_all fe _ (ps.map (·.1)) ds vs σ _ _ (by simp) (by simpa using hl) hs (fun i h1 h2 v s Q z => ?_) (q.up g b) (hr.gr g) (fun h'' tk q'' => ⟨h'', tk, Y, al, rfl, q''⟩)
    simp only [List.getElem_map, Function.comp_apply] at z ⊢
    exact wpAny_assign_Name z
/-- a, b = value -/
theorem Ex.assignTup {ps : List (Str × Pos)} {k : Nat} {p pos : Pos} {e : Expr} {ds : List D} (fe : FEnv env) (hl : ps.length = ds.length) (hs : ∀ x ∈ ps.map (·.1), Storable env x) (v : Ev W n env (rho σ) e (.tup ds) true)
    (h1 : swapsWithSole [.Tuple (ps.map fun p => Expr.Name p.1 p.2) k p] e pos.line env = pure false) (h2 : swappedStores [.Tuple (ps.map fun p => Expr.Name p.1 p.2) k p] e env = pure none) (hn0 : 0 < n := by exact Nat.succ_pos _) :
    Ex W n env σ (exec (.Assign [.Tuple (ps.map fun p => Expr.Name p.1 p.2) k p] e pos) env) .next (putAll (ps.map (·.1)) ds σ) := by
  intro A lf hE Xo Y al s a q
  refine Assign_Tuple ((v A lf _ s a q.rd).to fun v1 h1 t1 g1 b1 r1 => ?_) h1 h2
  refine wpAny_mono (Tgt.tup (W := W) (n := n) (σ := σ) fe hl hs hn0 A lf hE Xo Y al _ v1 a (q.up g1 b1) r1) (fun _ s' z => ?_) fun _ _ e => e.elim
  obtain ⟨h', tk, Y', al', rfl, q'⟩ := z
  exact ⟨h', tk, rfl, rfl, Y', al', q'⟩
/-- a, b = x, y with the stores turned about -/
theorem Ex.assignSwap {elts : List Expr} {xs : List Str} {k : Nat} {p pos : Pos} {e : Expr} {ds : List D} (fe : FEnv env) (hl : xs.length = ds.length) (hs : ∀ x ∈ xs, Storable env x) (v : Ev W n env (rho σ) e (.tup ds) true)
    (h1 : swapsWithSole [.Tuple elts k p] e pos.line env = pure false) (h2 : swappedStores [.Tuple elts k p] e env = pure (some xs)) (hn0 : 0 < n := by exact Nat.succ_pos _) :
    Ex W n env σ (exec (.Assign [.Tuple elts k p] e pos) env) .next (putAll xs.reverse ds.reverse σ) := by
  intro A lf hE Xo Y al s a q
  refine Assign_Tuple_swapped ((v A lf _ s a q.rd).to fun v1 h1 t1 g1 b1 r1 => ?_) h1 h2
  rw [show hid true (Y ++ Xo) = Y ++ Xo from rfl, Rep_tup] at r1
  obtain ⟨t, vs, rfl, ht, hl', hr⟩ := r1
  have hn := hr.length
  have key := wpAny_unpackItems_tuple (prog := W.prog) (w := W.w) (A := A) (s := { s with heap := h1, toks := t1 }) (E := fun _ _ => False) (Q := fun items s₂ =>
      wpAny (model W.prog W.w) A (assignInOrder (xs.reverse.map fun n => bindName env n) items.reverse) (fun _ => PostS W env lf hE Xo s (putAll xs.reverse ds.reverse σ) .next .next) (fun _ _ => False) s₂) (a.1 hn0) hl'.isTuple (fun h' hx => ?_)
  · rw [show vs.toArray.size = xs.length by simp; omega] at key
    exact key
  · have g : Gr h1 h' := Gr.of_keep fun b o e => hx b o (fun z => by rw [z] at e; exact absurd (Heap.lt_size e) (Nat.lt_irrefl _)) e
    have b : W.hB.StaysIn h1 → W.hB.StaysIn h' := fun q' c o e => hx c o (fun z => by have := q' c o e; rw [z] at this; exact absurd (Heap.lt_size this) (Nat.lt_irrefl _)) (q' c o e)
    refine assign_all fe _ xs.reverse ds.reverse vs.reverse σ _ _ (by simp) (by simpa using hl) (fun x hx => hs x (List.mem_reverse.mp hx)) (fun i h1 h2 v s Q z => ?_) ((q.up g1 b1).up g b) (hr.gr g).reverse (fun h'' tk q'' => ⟨h'', tk, rfl, rfl, Y, al, q''⟩)
    simp only [List.getElem_map] at z ⊢
    exact wpAny_bindName z
end
end Mine
namespace Mine
section
variable {W : Wd} {n : Nat} {env : Env} {lf : List Env} {hE h h' : Heap} {Xo Y : List Addr} {al : Al} {σ σ₁ σ₂ : Sig} {ρ ρx : Rho}

theorem setItem_ok {A : Around} {E : Value → Shared → Prop} {s : Shared} {l : Addr} {vs : List Value} {k : Int} {t : Tok} {v : Value} {Q : Unit → Shared → Prop} (hl : IsL s.heap l vs) (h0 : 0 ≤ k) (hfit : k < 2 ^ 63) (hn : k < vs.length)
    (hQ : ∀ h', IsL h' l (vs.set k.toNat v) → Heap.SameBut l s.heap h' → Q () { s with heap := h' }) : wpAny (model W.prog W.w) A (setItem (.ref l) (.int k t) v) Q E s := by
  obtain ⟨n0, ho⟩ := id hl
  unfold setItem
  try with_reducible refine wpAny_holding ?_
  first | refine wpAny_bind (wpAny_pure ?_) | skip
  refine wpAny_bind (wpAny_sequenceKey hl.is.typeIs (by decide) ?_)
  refine wpAny_bind (wpAny_callSpecial?_slot (name := Str.ofString "__setitem__") hl.is.typeIs slot_list_setitem
    (wpAny_call_entry slot_list_setitem hl.is.typeIs entry_list_setitem ?_ (args_list_setitem _ _ _)))
  show wpAny _ _ (Builtin.List.listSubscript? (.int k t) >>= _) _ _ s
  refine wpAny_bind (wpAny_listSubscript_int (fitsIndex_of h0 hfit) ?_)
  clear hfit
  obtain ⟨j, rfl⟩ := Int.eq_ofNat_of_zero_le h0
  have hj : j < vs.toArray.size := by simp; omega
  have hx' : vs.toArray[j]? = some vs.toArray[j] := Array.getElem?_eq_getElem hj
  show wpAny _ _ ((seqItemAt l j >>= fun r => pure (r.map (j, ·))) >>= _) _ _ s
  refine wpAny_bind (wpAny_bind (wpAny_seqItemAt ho rfl (wpAny_pure ?_)))
  rw [hx']
  show wpAny _ _ (setSeqItemAt l j v >>= _) _ _ s
  have hfin : IsL (s.heap.update l (Obj.mapSeq (·.setIfInBounds j v))) l (vs.set (j : Int).toNat v) := by
    have := upd_list (fun xs => xs.setIfInBounds j v) hl
    simpa using this
  refine wpAny_bind (wpAny_setSeqItemAt ho rfl ?_)
  first
    | exact wpAny_bind (wpAny_pure (wpAny_pure ⟨.none, rfl, wpAny_pure (hQ _ hfin (Heap.SameBut.update ..))⟩))
    | exact wpAny_pure ⟨.none, rfl, wpAny_pure (hQ _ hfin (Heap.SameBut.update ..))⟩

/-- x[i] += e, ints in an own list -/
theorem Ex.augItem {x : Str} {p tpos pos : Pos} {ie e : Expr} {ds : List D} {k i j : Int} {s1 s2 : Bool} (fe : FEnv env) (hx : σ.lookup x = some (.own ds)) (hd : (x == ("__debug__" : Str)) = false) (hk : Ev W n env (rho σ) ie (.int k) s1) (v : Ev W n env (rho σ) e (.int j) s2)
    (h0 : 0 ≤ k) (hk2 : k < 100000) (hi : ds[k.toNat]? = some (.int i)) (ha : ∀ ov iv new, augStore ie ov iv new = (do holding [new, ov, iv] (setItem ov iv new); release [new, ov, iv] []; pure .next)) :
    Ex W n env σ (exec (.AugAssign (.Subscript (.Name x p) ie tpos) .Add e pos) env) .next (put x (.own (ds.set k.toNat (.int (i + j)))) σ) := by
  intro A lf hE Xo Y al s a q
  obtain ⟨hv, hm, vs, hl, hr⟩ := q.vars x _ hx
  refine wpAny_AugAssign_SubscriptAny (wpAny_Name (ld_ok fe.ok hv ?_) hd) ha
  refine (hk A lf _ s a q.rd).to fun vk h1 t1 g1 b1 r1 => ?_
  rw [Rep_int] at r1
  obtain ⟨tk, rfl⟩ := r1
  obtain ⟨vi, e1, e2⟩ := hr.get hi
  rw [Rep_int] at e2
  obtain ⟨ti, rfl⟩ := e2
  have hlt : k.toNat < vs.length := (List.getElem?_eq_some_iff.mp e1).1
  refine wpAny_getItem_list (hl.gr g1).is h0 (by omega) (by simpa using e1) ?_
  refine (v A lf _ _ a (q.rd.gr g1 b1)).to fun vj h2 t2 g2 b2 r2 => ?_
  rw [Rep_int] at r2
  obtain ⟨tj, rfl⟩ := r2
  refine iadd_int (setItem_ok (hl.gr (g1.trans g2)) h0 (by omega) (by omega) fun h' hl' hs => ?_)
  have q2 := (q.up g1 b1).up g2 b2
  exact ⟨h', t2 + 1, rfl, rfl, Y, al, q2.mutate hx hs hl' ((hr.gr (g1.trans g2)).set Rep.mkInt)⟩

theorem list_iadd_seq : seqSlot? (.type "list") (dunderI "add") = pure (some (.builtin "list.__iadd__")) := by
  unfold seqSlot?
  rw [F.slot_list_iadd.lookup]
  rfl
theorem list_fills_inplace : fillsInplaceSlot (.type "list") "add" (Operator.Add == .Add) = pure false := by
  unfold fillsInplaceSlot
  show (typeLookup (.type "list") (dunderI "add") >>= fun fi => pure (fi.isSome && !isSeqSlot fi)) = pure false
  rw [F.slot_list_iadd.lookup]
  rfl
theorem iadd_list {A : Around} {E : Value → Shared → Prop} {s : Shared} {a b : Addr} {vs us : List Value} {Q : Value → Shared → Prop} (ha : IsL s.heap a vs) (hb : IsL s.heap b us) (hsz : vs.length + us.length ≤ 100000)
    (hQ : Q (.ref a) { s with heap := s.heap.update a (Obj.mapSeq fun x => x ++ us.toArray) }) : wpAny (model W.prog W.w) A (inplaceOp .Add (.ref a) (.ref b)) Q E s := by
  obtain ⟨k, hk⟩ := id ha
  obtain ⟨k', hk'⟩ := id hb
  unfold inplaceOp
  refine wpAny_holding ?_
  refine wpAny_bind (wpAny_typeOf ha.is.typeIs (wpAny_bind (wpAny_of_eq list_fills_inplace ?_)))
  show wpAny _ A (if false = true then _ else _) Q E s
  rw [if_neg Bool.false_ne_true]
  refine wpAny_bind (wpAny_binaryOp1_none (nm := "add") ha.is.typeIs hb.is.typeIs noFill_list_add ?_)
  refine wpAny_bind (wpAny_of_eq list_iadd_seq ?_)
  refine wpAny_bind (wpAny_rule ?_)
  refine call_meets F.slot_list_iadd ha.is.typeIs F.entry_list_iadd (F.args_list_iadd_2 _ _) (AutoSeq1.list___iadd___list_list_0 a vs.toArray k b us.toArray k' (by simp [Builtin.List.listTooLong, sizeLine]; omega) (by simp [sizeLine]; omega) (by simp [sizeLine]; omega)) ⟨hk, hk', hQ⟩
/-- x += e, an own list and a list -/
theorem Ex.augList {x : Str} {p pos : Pos} {e : Expr} {ds es : List D} (fe : FEnv env) (sx : Storable env x) (hx : σ.lookup x = some (.own ds)) (v : Ev W n env (rho σ) e (.list es) true) (hsz : ds.length + es.length ≤ 100000) :
    Ex W n env σ (exec (.AugAssign (.Name x p) .Add e pos) env) .next (put x (.own (ds ++ es)) σ) := by
  intro A lf hE Xo Y al s a q
  obtain ⟨hv, hm, vs, hl, hr⟩ := q.vars x _ hx
  refine wpAny_AugAssign_Name (ld_ok fe.ok hv ((v A lf _ s a q.rd).to fun v1 h1 t1 g1 b1 r1 => ?_))
  rw [show hid true (Y ++ Xo) = Y ++ Xo from rfl, Rep_list] at r1
  obtain ⟨b, us, rfl, hb, hlb, hrb⟩ := r1
  have n1 := hr.length
  have n2 := hrb.length
  have q1 := q.up g1 b1
  refine iadd_list (hl.gr g1) hlb (by omega) ?_
  have hl2 : IsL (h1.update (al x).1 (Obj.mapSeq fun x => x ++ us.toArray)) (al x).1 (vs ++ us) := by
    have := upd_list (fun x => x ++ us.toArray) (hl.gr g1)
    simpa using this
  have q2 := q1.mutate hx (Heap.SameBut.update ..) hl2 ((hr.gr g1).append hrb)
  have hx2 : (put x (.own (ds ++ es)) σ).lookup x = some (.own (ds ++ es)) := by rw [put_lookup, if_pos rfl]
  obtain ⟨hv2, hm2, vs2, hl2', hr2⟩ := q2.vars x _ hx2
  obtain ⟨c, va, hc⟩ := q2.slot sx
  refine store_ok fe.ok va fun h' tk vx va' hs hn => ?_
  have off : GrX [c] (h1.update (al x).1 (Obj.mapSeq fun x => x ++ us.toArray)) h' := GrX.of_keep fun b o hb e => (hs.2 b (fun q => hb (by simp [q]))).trans e
  have nac : (al x).1 ≠ c := va.notList hl2'
  have q3 := q2.stored fe va hc vx va' hs hn (.own (ds ++ es)) ⟨vx, hm2, vs2, hl2'.grX off (by simpa using nac),
    RepL.mono off (fun b hb => .inl (by rw [List.mem_singleton.mp hb]; exact List.mem_append_left _ hc)) (fun b hb => .inl hb) hr2⟩ (fun y sl' z hy e hz hz' => hy (q2.inj x y (.own (ds ++ es)) sl' z hx2 e hz hz').symm)
  exact ⟨h', tk, rfl, rfl, Y, al, q3.sigEq fun y => by rw [put_lookup, put_lookup, put_lookup]; by_cases hy : y = x <;> simp [hy]⟩
/-- l op1 r1 op2 r2 as a test -/
theorem Tr.chainF {o1 o2 : COp} {l r1 r2 : Expr} {pos : Pos} {d1 d2 : D} {s1 s2 : Bool} (hl : Ev W n env ρ l d1 s1) (h1 : Ev W n env ρ r1 d2 s2) (hc : Mine.cmp o1 d1 d2 = some false) (hm : lastMarks [o1.op, o2.op] [r1, r2] = false) :
    Tr W n env ρ (.Compare l [o1.op, o2.op] [r1, r2] pos) false := by
  intro A lf X s a R
  refine isTrue_chain ((hl A lf X s a R).to fun v1 k1 t1 g1 b1 q1 => ?_) hm
  refine test_link ((h1 A lf X _ a (R.gr g1 b1)).to fun v2 k2 t2 g2 b2 q2 => ?_)
  refine (cmp_ok (W := W) hc (q1.gr g2) q2 a.room).to fun v3 k3 t3 g3 b3 q3 => ?_
  subst q3
  exact wpAny_truthy_bool ⟨_, _, rfl, (g1.trans g2).trans g3, fun q => b3 (b2 (b1 q)), rfl⟩
theorem Tr.chainT {o1 o2 : COp} {l r1 r2 : Expr} {pos : Pos} {d1 d2 d3 : D} {b s1 s2 s3 : Bool} (hl : Ev W n env ρ l d1 s1) (h1 : Ev W n env ρ r1 d2 s2) (h2 : Ev W n env ρ r2 d3 s3) (hc : Mine.cmp o1 d1 d2 = some true) (hc2 : Mine.cmp o2 d2 d3 = some b) (hm : lastMarks [o1.op, o2.op] [r1, r2] = false) :
    Tr W n env ρ (.Compare l [o1.op, o2.op] [r1, r2] pos) b := by
  intro A lf X s a R
  refine isTrue_chain ((hl A lf X s a R).to fun v1 k1 t1 g1 b1 q1 => ?_) hm
  refine test_link ((h1 A lf X _ a (R.gr g1 b1)).to fun v2 k2 t2 g2 b2 q2 => ?_)
  refine (cmp_ok (W := W) hc (q1.gr g2) q2 a.room).to fun v3 k3 t3 g3 b3 q3 => ?_
  subst q3
  refine wpAny_truthy_bool ?_
  show wpAny _ A (testChain pos v2 [o2.op] [eval r2 env]) _ _ _
  have R3 := ((R.gr g1 b1).gr g2 b2).gr g3 b3
  have key : Pu W A { s with heap := k3, toks := t3 } (testChain pos v2 [o2.op] [eval r2 env]) (fun c _ => c = b) := by
    unfold Pu
    show wpAny _ A (do
      let rv ← holding [v2] (eval r2 env)
      standAt pos
      let c ← operate [v2, rv] (compareOp o2.op v2 rv)
      holding [c] (truthy c)) _ _ _
    refine wpAny_bind (wpAny_holding ((h2 A lf X _ a R3).to fun v4 k4 t4 g4 b4 q4 => wpAny_bind (wpAny_standAt (wpAny_bind (wpAny_operate' ?_)))))
    refine (cmp_ok (W := W) hc2 ((q2.gr g3).gr g4) q4 a.room).to fun v5 k5 t5 g5 b5 q5 => ?_
    subst q5
    exact wpAny_holding (wpAny_truthy_bool ⟨_, _, rfl, g4.trans g5, fun q => b5 (b4 q), rfl⟩)
  exact key.up ((g1.trans g2).trans g3) fun q => b3 (b2 (b1 q))
end
end Mine
namespace Mine
noncomputable def stAt (i : Nat) : Stmt := PySem.Challenge.pw_pd0051_01.main.body.getD i (.Pass ⟨0, 0, 0, 0⟩)
noncomputable def dBody : Stmt → List Stmt
  | .FunctionDef _ _ b _ _ _ _ _ _ _ => b
  | _ => []
noncomputable def dArgs : Stmt → Arguments
  | .FunctionDef _ a _ _ _ _ _ _ _ _ => a
  | _ => ⟨[], [], none, [], [], none, []⟩
noncomputable def dScope : Stmt → Scope
  | .FunctionDef _ _ _ _ _ _ s _ _ _ => s
  | _ => { kind := .function, names := [], isGenerator := false, isCoroutine := false, more := [] }
noncomputable def dName : Stmt → Str
  | .FunctionDef n _ _ _ _ _ _ _ _ _ => n
  | _ => Str.empty
end Mine
namespace Mine
section
variable {W : Wd} {n : Nat} {env : Env} {lf : List Env} {hE h h' : Heap} {Xo Y : List Addr} {al : Al} {σ σ₁ σ₂ : Sig} {ρ ρx : Rho}

theorem RowsAt.get {X Y : List Addr} : ∀ {rs : List Addr} {dss : List (List D)} {i : Nat} {ds : List D}, RowsAt h X Y rs dss → dss[i]? = some ds → ∃ r, rs[i]? = some r ∧ r ∈ Y ∧ ∃ vs, IsL h r vs ∧ RepL h X ds vs
  | [], [], i, ds, _, e => by simp at e
  | [], _ :: _, _, _, q, _ => q.elim
  | _ :: _, [], _, _, q, _ => q.elim
  | r :: rs, ds :: dss, 0, es, ⟨q1, q2, q4⟩, e => by cases e; exact ⟨r, rfl, q1, q2⟩
  | r :: rs, ds :: dss, i + 1, es, ⟨q1, q2, q4⟩, e => q4.get e
theorem RowsAt.set {X Y : List Addr} {ds' : List D} {vs' : List Value} {r : Addr} (hl : IsL h' r vs') (hr : RepL h' X ds' vs') (offL : ∀ b vs, b ≠ r → IsL h b vs → IsL h' b vs) (rl : ∀ ds vs, RepL h X ds vs → RepL h' X ds vs) :
    ∀ {rs : List Addr} {dss : List (List D)} {i : Nat}, RowsAt h X Y rs dss → rs[i]? = some r → rs.Nodup → RowsAt h' X Y rs (dss.set i ds')
  | [], _, i, _, e, _ => by simp at e
  | _ :: _, [], _, q, _, _ => q.elim
  | a :: rs, ds :: dss, 0, ⟨q1, q2, q4⟩, e, nd => by
    cases e
    exact ⟨q1, ⟨vs', hl, hr⟩, q4.map rl (fun _ _ h => h) fun b vs hb hl => offL b vs (fun z => (List.nodup_cons.mp nd).1 (z ▸ hb)) hl⟩
  | a :: rs, ds :: dss, i + 1, ⟨q1, ⟨vs, q2, q3⟩, q4⟩, e, nd => by
    obtain ⟨n1, n2⟩ := List.nodup_cons.mp nd
    refine ⟨q1, ⟨vs, offL a vs (fun z => n1 ?_) q2, rl _ _ q3⟩, q4.set hl hr offL rl e n2⟩
    rw [z]; exact List.mem_of_getElem? e
/-- x[i][j] = e, x a grid -/
theorem Ex.gridSet {x : Str} {p p1 p2 pos : Pos} {ie je e : Expr} {dss : List (List D)} {ds : List D} {i j : Int} {d : D} {s1 s2 : Bool} (fe : FEnv env) (hx : σ.lookup x = some (.grid dss)) (hd : (x == ("__debug__" : Str)) = false)
    (v : Ev W n env (rho σ) e d true) (hi : Ev W n env (rho σ) ie (.int i) s1) (hj : Ev W n env (rho σ) je (.int j) s2) (i0 : 0 ≤ i) (i1 : i < 100000) (j0 : 0 ≤ j) (j1 : j < 100000) (hrow : dss[i.toNat]? = some ds) (hjl : j.toNat < ds.length)
    (hs : swapsWith e (some (.Subscript (.Subscript (.Name x p) ie p1) je p2)) pos.line env = pure false) :
    Ex W n env σ (exec (.Assign [.Subscript (.Subscript (.Name x p) ie p1) je p2] e pos) env) .next (put x (.grid (dss.set i.toNat (ds.set j.toNat d))) σ) := by
  intro A lf hE Xo Y al s a q
  refine wpAny_Assign_Subscript ((v A lf _ s a q.rd).to fun v1 h1 t1 g1 b1 r1 => ?_) hs
  have q1 := q.up g1 b1
  obtain ⟨hv, hm, hl, nd, hr⟩ := q1.vars x _ hx
  refine Subscript_ (wpAny_Name (ld_ok fe.ok hv ?_) hd)
  refine (hi A lf _ { s with heap := h1, toks := t1 } a q1.rd).to fun vi h2 t2 g2 b2 r2 => ?_
  rw [Rep_int] at r2
  obtain ⟨ti, rfl⟩ := r2
  obtain ⟨r, er, hrY, vs, hlr, hrr⟩ := hr.get hrow
  obtain ⟨ops, hops⟩ := sub_ops ie (.ref (al x).1) (.int i ti)
  refine tail_any (hl.gr g2).is.typeIs slot_list_getitem.lookup (wpAny_getItem_list (x := .ref r) (hl.gr g2).is i0 (by omega) (by simp [er]) ?_) hops
  have q2 := q1.up g2 b2
  refine (hj A lf _ _ a q2.rd).to fun vj h3 t3 g3 b3 r3 => ?_
  rw [Rep_int] at r3
  obtain ⟨tj, rfl⟩ := r3
  have hn := hrr.length
  refine setItem_ok (((hlr.gr g2).gr g3)) j0 (by omega) (by omega) fun h' hl' hsb => ?_
  have q3 := q2.up g3 b3
  have gg := g2.trans g3
  refine ⟨h', t3, rfl, rfl, Y, al, q3.mutateS hx (List.mem_cons_of_mem _ (List.mem_of_getElem? er)) rfl hsb ⟨_, hl'⟩ fun var offL rl => ?_⟩
  obtain ⟨hv3, hm3, hl3, nd3, hr3⟩ := q3.vars x _ hx
  obtain ⟨nd1, nd2⟩ := List.nodup_cons.mp nd3
  exact ⟨var _ hv3, hm3, offL _ _ (fun z => nd1 (z ▸ List.mem_of_getElem? er)) hl3, nd3, hr3.set hl' (rl _ _ ((hrr.gr gg).set (r1.gr gg))) offL rl er nd2⟩
end
end Mine
namespace Mine
section
variable {W : Wd} {n : Nat} {env : Env} {lf : List Env} {hE h h' : Heap} {Xo Y : List Addr} {al : Al} {σ σ₁ σ₂ : Sig} {ρx : Rho}

theorem RepL.flatAll {h h' : Heap} {X X' : List Addr} : ∀ {ds : List D} {vs : List Value}, (∀ d ∈ ds, flat d = true) → RepL h X ds vs → RepL h' X' ds vs
  | [], vs, _, r => by rw [RepL_nil] at r ⊢; exact r
  | d :: ds, vs, hf, r => by
    rw [RepL_cons] at r ⊢
    obtain ⟨v, vs', rfl, h1, h2⟩ := r
    exact ⟨v, vs', rfl, h1.flat (hf d (.head _)), h2.flatAll fun e he => hf e (.tail _ he)⟩
theorem RowsAt.ofRep {X Y Z : List Addr} : ∀ {rs : List Addr} {dss : List (List D)}, RepL h Z (dss.map D.list) (rs.map Value.ref) → (∀ es ∈ dss, ∀ d ∈ es, flat d = true) → (∀ r ∈ rs, r ∈ Y) → RowsAt h X Y rs dss
  | [], [], _, _, _ => trivial
  | [], _ :: _, r, _, _ => by simp only [List.map_cons, List.map_nil, RepL_cons] at r; obtain ⟨_, _, e, _⟩ := r; cases e
  | _ :: _, [], r, _, _ => by simp only [List.map_cons, List.map_nil, RepL_nil] at r; cases r
  | a :: rs, es :: dss, r, hf, hY => by
    simp only [List.map_cons, RepL_cons] at r
    obtain ⟨_, _, e, h1, h2⟩ := r
    cases e
    rw [Rep_list] at h1
    obtain ⟨b, vs, e, _, hl, hr⟩ := h1
    cases e
    exact ⟨hY a (.head _), ⟨vs, hl, hr.flatAll (hf es (.head _))⟩, RowsAt.ofRep h2 (fun es he => hf es (.tail _ he)) fun r hr => hY r (.tail _ hr)⟩
theorem RepL.rowsOff {X : List Addr} : ∀ {rs : List Addr} {dss : List (List D)}, RepL h X (dss.map D.list) (rs.map Value.ref) → ∀ r ∈ rs, (∃ vs, IsL h r vs) ∧ r ∉ X
  | [], _, _, _, m => nomatch m
  | _ :: _, [], r, _, _ => by simp only [List.map_cons, List.map_nil, RepL_nil] at r; cases r
  | a :: rs, es :: dss, r, z, m => by
    simp only [List.map_cons, RepL_cons] at r
    obtain ⟨_, _, e, h1, h2⟩ := r
    cases e
    rcases List.mem_cons.mp m with rfl | m
    · rw [Rep_list] at h1
      obtain ⟨b, vs, e, hx, hl, hr⟩ := h1
      cases e
      exact ⟨⟨vs, hl⟩, hx⟩
    · exact RepL.rowsOff h2 z m
theorem RowsAt.flatMap {X X' Y : List Addr} : ∀ {rs : List Addr} {dss : List (List D)}, RowsAt h X Y rs dss → (∀ es ∈ dss, ∀ d ∈ es, flat d = true) → (∀ a vs, a ∈ rs → IsL h a vs → IsL h' a vs) → RowsAt h' X' Y rs dss
  | [], [], _, _, _ => trivial
  | [], _ :: _, q, _, _ => q.elim
  | _ :: _, [], q, _, _ => q.elim
  | r :: rs, ds :: dss, ⟨q1, ⟨vs, q2, q3⟩, q4⟩, hf, hl => ⟨q1, ⟨vs, hl r vs (.head _) q2, q3.flatAll (hf ds (.head _))⟩, q4.flatMap (fun es he => hf es (.tail _ he)) fun a vs ha => hl a vs (.tail _ ha)⟩
/-- x = [comprehension], the store made inside the comprehension's tree -/
theorem Ex.gridNew {elt iter : Expr} {x y : Str} {px py pos spos : Pos} {ifs : List Expr} {scope : Scope} {ds : List D} {dss : List (List D)} (f : D → Option D) (fe : FEnv env) (sy : Storable env y) (S : Sees env scope x (rho σ) ρx) (src : Src W n env (rho σ) iter ds) (C : CompOk W n env scope x ρx ifs elt ds f) (hN : ∀ cenv : Env, cenv.scope = relabel scope env → EnvOk cenv → ∀ d ∈ ds, ∀ r, f d = some r → EvQ W n cenv ((x, (d, true)) :: ρx) elt r true) (hdss : ds.filterMap f = dss.map D.list) (hfl : ∀ es ∈ dss, ∀ d ∈ es, flat d = true)
    (hs : ∀ x, foldedSetIterable iter env x = pure x) (hsw : swapsWith (.ListComp elt [⟨.Name x px, iter, ifs, 0⟩] scope pos) (some (.Name y py)) spos.line env = pure true) :
    Ex W n env σ (exec (.Assign [.Name y py] (.ListComp elt [⟨.Name x px, iter, ifs, 0⟩] scope pos) spos) env) .next (put y (.grid dss) σ) := by
  intro A lf hE Xo Y al s a q
  obtain ⟨cl, hcl⟩ := S.clos
  rw [exec_Assign_Name_used _ _ _ _ hsw]
  refine wpAny_bind (wpAny_standAt (wpAny_bind ?_))
  show wpAny _ A (do let _ ← comprehension (.ListComp elt [⟨.Name x px, iter, ifs, 0⟩] scope pos) scope env _ (newList []) false (eval iter env) (some (PySem.assign (.Name y py) env))) _ _ s
  have R := q.rd
  refine wpAny_bind (wpAny_mono (wpAny_comprehension_free (use := some (PySem.assign (.Name y py) env)) (Q := fun _ s' => PostS W env lf hE Xo s (put y (.grid dss) σ) .next .next s') rfl hs (closureFor_of hcl) S.kind S.names
    (src A lf (Y ++ Xo) s _ _ a R fun H tk I fp wr P St gH bH Wk st0 hfp hfx hwr hfr hlv hP hgo => ?_)) (fun _ s' hq => wpAny_pure (wpAny_pure hq)) fun _ _ e => e)
  refine comp_core (N := true) (RR := fun acc C => compPost (model W.prog W.w) A (fun _ _ => False) (some (PySem.assign (.Name y py) env)) _ acc C) f a R fe.ok S hcl gH (bH R.gd.base) Wk st0 (fun b hb => let ⟨_, e⟩ := hfp b hb; Heap.lt_size e) hwr (fun i g g' st gg => hfr i g g' st fun b _ o e => gg b o e) hlv hP C.size C.test hN ?_
  intro DD CC h' tk' m ys hnew hD hC hDC hX hn hl hr g b
  show wpAny _ A (PySem.assign (.Name y py) env (.ref DD)) _ _ _
  obtain ⟨rs, rfl, nd, hf⟩ := hnew rfl
  rw [hdss] at hr
  have liveC : ∃ o, h'.get? CC = some o := let ⟨o, _, _, e, _⟩ := hn; ⟨o, e⟩
  have hrow : ∀ r ∈ rs, (∃ vs, IsL h' r vs) ∧ r ∉ CC :: DD :: (Y ++ Xo) := hr.rowsOff
  have cs : ∀ c, c ∈ CC :: DD :: (rs ++ Y) → s.heap.get? c = none ∧ (∃ o, h'.get? c = some o) ∨ c ∈ Y := fun c hc => by
    rcases List.mem_cons.mp hc with rfl | hc
    · exact .inl ⟨hC, liveC⟩
    rcases List.mem_cons.mp hc with rfl | hc
    · exact .inl ⟨hD, hl.live⟩
    rcases List.mem_append.mp hc with hc | hc
    · obtain ⟨⟨vs, hv⟩, _⟩ := hrow c hc; exact .inl ⟨hf c hc, hv.live⟩
    · exact .inr hc
  have inY : ∀ c, c ∈ Y → c ∈ CC :: DD :: (rs ++ Y) := fun c hc => .tail _ (.tail _ (List.mem_append_right _ hc))
  have hX1 : ∀ c, c ∈ (CC :: DD :: (rs ++ Y)) ++ Xo → c ∈ Y ++ Xo ∨ s.heap.get? c = none := fun c hc => by
    rcases List.mem_append.mp hc with hc | hc
    · exact (cs c hc).elim (fun h => .inr h.1) fun h => .inl (List.mem_append_left _ h)
    · exact .inl (List.mem_append_right _ hc)
  have q' := q.up g (fun _ => b)
  have nE : ∀ {c : Addr}, s.heap.get? c = none → hE.get? c = none := fun {c} hc => by
    cases e : hE.get? c with
    | none => rfl
    | some o => obtain ⟨o', e', _⟩ := q.gr c o e; rw [hc] at e'; cases e'
  have nB : ∀ {c : Addr}, s.heap.get? c = none → W.hB.get? c = none := fun {c} hc => by
    cases e : W.hB.get? c with
    | none => rfl
    | some o => have := q.base c o e; rw [hc] at this; cases this
  have q1 : StY W env lf hE Xo (CC :: DD :: (rs ++ Y)) (fun z => if z = y then (DD, rs) else al z) (drop y σ) h' := by
    refine ⟨q.top, q'.gr, q'.base, q'.ff, fun c hc => ?_, fun c hc => ?_, fun c hc => ?_, fun c hc hm => ?_, inY _ q.loc, q'.ns, fun z c e => ?_, fun z sl e => ?_, fun z w sl₁ sl₂ u e1 e2 e3 e4 => ?_⟩
    · exact (cs c hc).elim (fun h => nE h.1) (q.new c)
    · exact (cs c hc).elim (fun h => nB h.1) (q.bnew c)
    · rcases List.mem_append.mp hc with hc | hc
      · exact (cs c hc).elim (fun h => h.2) fun h => q'.live c (List.mem_append_left _ h)
      · exact q'.live c (List.mem_append_right _ hc)
    · obtain ⟨o, e⟩ := q.live c (List.mem_append_right _ hc)
      rcases cs c hm with h | h
      · rw [h.1] at e; cases e
      · exact q.xo c hc h
    · obtain ⟨h1, h2⟩ := q'.cell z c e; exact ⟨inY _ h1, h2⟩
    · rw [drop_lookup] at e
      by_cases hz : z = y
      · simp [hz] at e
      · rw [if_neg hz] at e
        simp only [if_neg hz]
        exact (q.vars z sl e).map (fun v h1 => h1.gr g) (fun _ _ h => inY _ h) (fun a vs _ hl => hl.gr g) (fun _ _ r => Rep.mono (Y := []) (g.x []) (fun _ z => nomatch z) hX1 r) (fun _ _ r => RepL.mono (Y := []) (g.x []) (fun _ z => nomatch z) hX1 r)
    · rw [drop_lookup] at e1 e2
      by_cases hz : z = y
      · simp [hz] at e1
      by_cases hw : w = y
      · simp [hw] at e2
      rw [if_neg hz] at e1; rw [if_neg hw] at e2
      simp only [if_neg hz] at e3
      simp only [if_neg hw] at e4
      exact q.inj z w sl₁ sl₂ u e1 e2 e3 e4
  obtain ⟨c, va, hc⟩ := q1.slot sy
  refine wpAny_assign_Name (store_ok fe.ok va fun h₂ tk₂ vx va' hs₂ hn₂ => ?_)
  have off : GrX [c] h' h₂ := GrX.of_keep fun b o hb e => (hs₂.2 b (fun q => hb (by simp [q]))).trans e
  have offL : ∀ a vs, IsL h' a vs → IsL h₂ a vs := fun a vs hl => hl.grX off (by simpa using va.notList hl)
  have cold : ∃ o, s.heap.get? c = some o := by
    rcases va with ⟨_, e, _⟩ | ⟨_, e, _⟩
    · obtain ⟨m0, o, _, _, e0, _⟩ := q.ns; rw [e]; exact ⟨o, e0⟩
    · obtain ⟨_, v0, o, e0, _⟩ := q.cell y c e; exact ⟨o, e0⟩
  have nCc : CC ≠ c := by rintro rfl; obtain ⟨o, e⟩ := cold; rw [hC] at e; cases e
  have rows : RowsAt h₂ ((CC :: DD :: (rs ++ Y)) ++ Xo) (CC :: DD :: (rs ++ Y)) rs dss :=
    (RowsAt.ofRep (X := (CC :: DD :: (rs ++ Y)) ++ Xo) (Y := CC :: DD :: (rs ++ Y)) hr hfl fun r hr => .tail _ (.tail _ (List.mem_append_left _ hr))).flatMap hfl (fun _ vs _ => offL _ vs)
  have q2 := q1.stored fe va hc vx va' hs₂ hn₂ (.grid dss) (by
    simp only [if_true]
    exact ⟨vx, .tail _ (.head _), offL _ _ hl, List.nodup_cons.mpr ⟨fun hm => (hrow DD hm).2 (.tail _ (.head _)), nd⟩, rows⟩) (fun z sl' u hz e hu hu' => by
        rw [drop_lookup, if_neg hz] at e
        simp only [if_true] at hu
        simp only [if_neg hz] at hu'
        obtain ⟨_, ws, hw⟩ := (q.vars z _ e).mem hu'
        obtain ⟨o, eo⟩ := hw.live
        rcases List.mem_cons.mp hu with rfl | hu
        · rw [hD] at eo; cases eo
        · rw [hf u hu] at eo; cases eo)
  refine ⟨m, hn.sameBut hs₂ nCc, fun h₃ hs₃ => ?_⟩
  have q3 : StY W env lf hE Xo (DD :: (rs ++ Y)) (fun z => if z = y then (DD, rs) else al z) (put y (.grid dss) (drop y σ)) h₃ := ?last
  · exact ⟨h₃, tk₂, rfl, rfl, _, _, q3.sigEq fun z => (put_drop_lookup ..).symm⟩
  refine q2.shed (a := CC) hs₃ ?_ ?_ ?_ ?_ ?_
  · rintro e; obtain ⟨m0, o, _, _, e0, _⟩ := q.ns; rw [← e, hC] at e0; cases e0
  · rintro z c' e rfl; obtain ⟨_, v0, o, e0, _⟩ := q.cell z c' e; rw [hC] at e0; cases e0
  · intro z es e hm
    rw [put_lookup] at e
    by_cases hz : z = y
    · rw [if_pos hz] at e; cases e
      simp only [hz, if_true] at hm
      rcases List.mem_cons.mp hm with e | hm
      · exact hDC e.symm
      · exact (hrow CC hm).2 (.head _)
    · rw [if_neg hz, drop_lookup, if_neg hz] at e
      simp only [if_neg hz] at hm
      obtain ⟨_, ws, hw⟩ := (q.vars z _ e).mem hm
      obtain ⟨o, eo⟩ := hw.live
      rw [hC] at eo; cases eo
  · intro e he hf
    obtain ⟨_, L, m', hfr, ⟨o, _, _, e0, _⟩, _⟩ := q.ff e he
    rw [hf] at hfr; cases hfr
    rw [hC] at e0; cases e0
  · intro hm
    rcases List.mem_append.mp hm with hm | hm
    · rcases List.mem_cons.mp hm with e | hm
      · exact hDC e.symm
      rcases List.mem_append.mp hm with hm | hm
      · exact (hrow CC hm).2 (.head _)
      · obtain ⟨o, e⟩ := q.live CC (List.mem_append_left _ hm)
        rw [hC] at e; cases e
    · obtain ⟨o, e⟩ := q.live CC (List.mem_append_right _ hm)
      rw [hC] at e; cases e
end
end Mine
namespace Mine
section
variable {W : Wd} {n : Nat} {env : Env} {lf : List Env} {hE h h' : Heap} {Xo Y : List Addr} {al : Al} {σ σ₁ σ₂ : Sig} {ρ ρx : Rho}
/-- every name of the one is so in the other -/
noncomputable def Sub : Sig → Sig → Prop
  | [], _ => True
  | (x, sl) :: r, σ => σ.lookup x = some sl ∧ Sub r σ
theorem Sub.lookup : ∀ {σ σ₁ : Sig}, Sub σ σ₁ → ∀ x sl, σ.lookup x = some sl → σ₁.lookup x = some sl
  | [], _, _, x, sl, e => by simp at e
  | (y, s) :: r, σ₁, h, x, sl, e => by
    rw [List.lookup_cons] at e
    cases hz : x == y with
    | true =>
      rw [hz] at e; cases e
      rw [beq_iff_eq.mp hz]; exact h.1
    | false => rw [hz] at e; exact h.2.lookup x sl e
theorem Ex.pre {t : Sem Flow} {fl : Fl} (x : Ex W n env σ₁ t fl σ₂) (h : Sub σ₁ σ) : Ex W n env σ t fl σ₂ :=
  fun A lf hE Xo Y al s a q => x A lf hE Xo Y al s a (q.fewer h.lookup)
theorem Ex.to {t : Sem Flow} {fl : Fl} (x : Ex W n env σ t fl σ₂) (h : Sub σ₁ σ₂) : Ex W n env σ t fl σ₁ := fun A lf hE Xo Y al s a q => by
  refine wpAny_mono (x A lf hE Xo Y al s a q) (fun f s' hf => ?_) fun _ _ e => e
  obtain ⟨h', tk, e, r⟩ := hf
  refine ⟨h', tk, e, ?_⟩
  cases fl with
  | next => obtain ⟨e1, Y', al', q'⟩ := r; exact ⟨e1, Y', al', q'.fewer h.lookup⟩
  | brk => obtain ⟨e1, Y', al', q'⟩ := r; exact ⟨e1, Y', al', q'.fewer h.lookup⟩
  | cont => obtain ⟨e1, Y', al', q'⟩ := r; exact ⟨e1, Y', al', q'.fewer h.lookup⟩
  | ret d => exact r
theorem Ev.neg {e : Expr} {pos : Pos} {i : Int} {s1 st : Bool} (x : Ev W n env ρ e (.int i) s1) : Ev W n env ρ (.UnaryOp .USub e pos) (.int (-i)) st := by
  intro A lf X s a R
  refine wpAny_UnaryOp ((x A lf X s a R).to fun v h1 t1 g1 b1 r1 => ?_)
  rw [Rep_int] at r1; obtain ⟨t, rfl⟩ := r1
  exact neg_int ⟨_, _, rfl, g1, b1, Rep.mkInt⟩
theorem sl_list {ds : List D} {lo hi st : Option Int} (h : ds.length ≤ 100000) (h0 : st ≠ some 0) : sl (.list ds) lo hi st = some (.list (slD ds lo hi st)) := by simp only [sl]; rw [if_pos ⟨h, h0⟩]
theorem slD_at {ds : List D} {lo hi st : Option Int} {k : Nat} (h : ds.length = k) : slD ds lo hi st = (sliceRange (sliceBounds lo hi st k).1 (sliceBounds lo hi st k).2.1 (sliceBounds lo hi st k).2.2).filterMap (ds[·]?) := by subst h; rfl
theorem notI (fe : FEnv env) : interactive env = false := by unfold interactive; rw [fe.ok.kind]; rfl
theorem kd {sc : Scope} (h : env.scope = sc) {x : Str} {k : NameKind} (e : sc.names.lookup x = some k) : env.kindOf x = some k := by unfold Env.kindOf; rw [h]; exact e
theorem sto {sc : Scope} (h : env.scope = sc) {x : Str} (e : sc.names.lookup x = some .local) : Storable env x := .inl (kd h e)
end
end Mine
namespace Mine
section
variable {W : Wd} {n : Nat} {env : Env} {σ σ₁ σ₂ : Sig} {ρ ρx : Rho}
noncomputable def nmGo : List Str → Int → List Str → List Str
  | [], _, acc => acc
  | p :: r, debt, acc => if (p == ("..": Str)) = true then nmGo r (debt + 1) acc else if 0 < debt then nmGo r (debt - 1) acc else nmGo r debt (p :: acc)
noncomputable abbrev strsD (xs : List Str) : List D := xs.map D.str
noncomputable def nmSig (row : List Str) (debt : Int) (acc : List Str) : Sig := [("row", .fz (.list (strsD row))), ("names", .own (strsD acc)), ("debt", .fz (.int debt))]
noncomputable def forBody : Stmt → List Stmt
  | .For _ _ b _ _ => b
  | _ => []
noncomputable def forTgt : Stmt → Expr
  | .For t _ _ _ _ => t
  | _ => .Constant .none 0 ⟨0, 0, 0, 0⟩
theorem names_turns (fe : FEnv env) (hsc : env.scope = dScope (stAt 21)) (row : List Str) : ∀ (ps : List Str) (debt : Int) (acc : List Str), acc.length + ps.length ≤ 1000 → ∃ d, Turns W n env (forTgt ((dBody (stAt 21)).getD 2 (.Pass ⟨0, 0, 0, 0⟩))) (forBody ((dBody (stAt 21)).getD 2 (.Pass ⟨0, 0, 0, 0⟩))) (strsD ps) (nmSig row debt acc) .next (nmSig row d (nmGo ps debt acc))
  | [], debt, acc, _ => ⟨debt, .done⟩
  | p :: ps, debt, acc, hl => by
    simp only [List.length_cons] at hl
    unfold nmGo
    split
    · rename_i hp
      obtain ⟨d, ih⟩ := names_turns fe hsc row ps (debt + 1) acc (by omega)
      refine ⟨d, .next (σ₁ := nmSig row (debt + 1) acc) (Tgt.name fe (sto hsc rfl)) (Ex.cons (Ex.ifT (Tr.cmp (op := .eq) (Ev.name fe.ok rfl rfl) (Ev.str (st := true)) (congrArg some hp) rfl) (Ex.cons (Ex.augInt (op := .add) (.inl rfl) fe (sto hsc rfl) rfl (Ev.int (st := true))) Ex.nil)) (Ex.to Ex.nil ⟨rfl, rfl, rfl, trivial⟩)) ih⟩
    · rename_i hp
      have hp' : (p == (".." : Str)) = false := by simpa using hp
      split
      · rename_i hd
        obtain ⟨d, ih⟩ := names_turns fe hsc row ps (debt - 1) acc (by omega)
        refine ⟨d, .next (σ₁ := nmSig row (debt - 1) acc) (Tgt.name fe (sto hsc rfl)) (Ex.cons (Ex.ifF (Tr.cmp (op := .eq) (Ev.name fe.ok rfl rfl) (Ev.str (st := true)) (congrArg some hp') rfl) (Ex.cons (Ex.ifT (Tr.cmp (op := .gt) (Ev.name fe.ok rfl rfl) (Ev.int (st := true)) (congrArg some (decide_eq_true hd)) rfl) (Ex.cons (Ex.augInt (op := .sub) (.inr rfl) fe (sto hsc rfl) rfl (Ev.int (st := true))) Ex.nil)) Ex.nil)) (Ex.to Ex.nil ⟨rfl, rfl, rfl, trivial⟩)) ih⟩
      · rename_i hd
        obtain ⟨d, ih⟩ := names_turns fe hsc row ps debt (p :: acc) (by simp only [List.length_cons]; omega)
        refine ⟨d, .next (σ₁ := nmSig row debt (p :: acc)) (Tgt.name fe (sto hsc rfl)) (Ex.cons (Ex.ifF (Tr.cmp (op := .eq) (Ev.name fe.ok rfl rfl) (Ev.str (st := true)) (congrArg some hp') rfl) (Ex.cons (Ex.ifF (Tr.cmp (op := .gt) (Ev.name fe.ok rfl rfl) (Ev.int (st := true)) (congrArg some (decide_eq_false hd)) rfl) (Ex.cons (Ex.lop (o := .insert) (ds := strsD acc) (es := [.int 0, .str p]) (rs := strsD (p :: acc)) fe (fun q => nomatch q) rfl rfl rfl (by decide) rfl ?_ (EvL.cons Ev.int (EvL.cons (Ev.name fe.ok rfl rfl) EvL.nil rfl) rfl) ?_) Ex.nil)) Ex.nil)) (Ex.to Ex.nil ⟨rfl, rfl, rfl, trivial⟩)) ih⟩
        · exact notI fe
        · simp only [Mine.lop]; rw [if_pos (by simp; omega)]; rfl
theorem names_ok {a : Addr} (B : Base W) (F : FnOk W "_law_names" a (dArgs (stAt 21)) (dBody (stAt 21)) (dScope (stAt 21))) (x y z : Str) : CallOk W (n + 2) a [.list (strsD [x, y, z])] (.list (strsD (nmGo [z, y, x] 0 []))) := by
  refine CallOk.of B F (ps := ["row"]) rfl rfl ?_ rfl rfl rfl (by decide +kernel) (by decide +kernel) fun env hsc fe => ?_
  · intro pm cd doc vs hv
    match vs, hv with
    | [v], _ => rfl
  obtain ⟨d, T⟩ := names_turns (W := W) (n := n + 1) fe hsc [x, y, z] [z, y, x] 0 [] (by simp)
  refine ⟨nmSig [x, y, z] d (nmGo [z, y, x] 0 []), ?_⟩
  refine Ex.cons (Ex.assignN fe (sto hsc rfl) (EvN.list .nil (by decide)) rfl) ?_
  refine Ex.cons (Ex.assign fe (sto hsc rfl) Ev.int rfl) ?_
  refine Ex.cons (Ex.for (ds := strsD [z, y, x]) (Src.list (Ev.slice (s1 := true) (Ev.name fe.ok rfl rfl) .none .none (.some (Ev.neg (st := true) (Ev.int (st := true)))) ((sl_list (by simp) (by decide)).trans (congrArg (some <| D.list ·) ((slD_at (k := 3) rfl).trans rfl))))) T fun _ => rfl) ?_
  exact Ex.freeze (x := "names") rfl (Ex.stop (Ex.ret (Ev.name fe.ok rfl rfl)) trivial)
end
end Mine
namespace Mine
section
variable {W : Wd} {n : Nat} {env : Env} {σ σ₁ σ₂ : Sig} {ρ ρx : Rho}

/-! ### issubclass(str, (str, bytes)) -/
theorem issub_meets : Meets (Builtin.«issubclass.nested» ⟨[.type "str", .type "str", rawInt 1], []⟩) (fun _ R s => R (.ok (.ret (.bool true))) s) := by
  intro prog w A R s hs
  have hm := F.isi_meta_str
  have hself := F.isi_self_str
  repeat (any_goals (first | assumption | (rw [if_pos hm]) | (rw [hself]) | wp_step))
theorem issub_kind : builtinKind "issubclass.nested" = none := by decide +kernel
theorem issub_plain : plainId "issubclass.nested" = true := by decide +kernel
theorem issub_args (a b c : Value) : argsOk "issubclass.nested" ⟨[a, b, c], []⟩ := by unfold argsOk; kernel_rfl
theorem issub_nested {prog : Program} {w : World} {A : Around} {E : Value → Shared → Prop} {s : Shared} {tp : Addr} {r cs : List Value} {Q : Fin → Shared → Prop} {k : Nat} (htp : s.heap.get? tp = some { cls := .type "tuple", data := .seq cs.toArray k }) (hcs : cs = .type "str" :: r)
    (hq : Q (.done (.ret (.bool true))) s) : wpAny (model prog w) A (Builtin.«issubclass.nested» ⟨[.type "str", .ref tp, rawInt 0], []⟩) Q E s := by
  obtain ⟨h, g, d, t, os⟩ := s
  have hT2 : (⟨h, g, d, t, os⟩ : Shared).TypeIs (.ref tp) "tuple" := ⟨_, htp, rfl⟩
  have f1 := F.isi_sub_tuple
  repeat (any_goals (first | assumption | wp_step))
  refine wpAny_arrayLoop ?_
  simp only [Option.getD_some]
  subst hcs
  rw [List.forIn_cons]
  refine wpAny_bind (wpAny_bind (call_function_meets issub_kind issub_plain F.entry_issubclass_nested (issub_args _ _ _) issub_meets ?_))
  show wpAny _ _ (truthy (.bool true) >>= _) _ _ _
  refine wpAny_bind (m := truthy (.bool true)) (wpAny_pure ?_)
  repeat (any_goals (first | assumption | wp_step))
theorem issub_call {prog : Program} {w : World} {A : Around} {E : Value → Shared → Prop} {s : Shared} {tp : Addr} {r : List Value} {Q : Value → Shared → Prop} {k : Nat} (htp : s.heap.get? tp = some { cls := .type "tuple", data := .seq (.type "str" :: r).toArray k })
    (hq : Q (.bool true) s) : wpAny (model prog w) A (call (.builtin "issubclass") [.type "str", .ref tp]) Q E s :=
  call_issubclass (S := fun _ R s => s.heap.get? tp = some { cls := .type "tuple", data := .seq (.type "str" :: r).toArray k } ∧ R (.ok (.ret (.bool true))) s) (fun _ _ _ _ _ hs => issubclass_outer (issub_nested hs.1 rfl hs.2)) ⟨htp, hq⟩
theorem Rep.mkRaw {h : Heap} {X : List Addr} {v : Value} (hv : ∀ a, v ≠ .ref a) : Rep h X (.raw v) v := by rw [Rep_raw]; exact ⟨rfl, hv⟩
/-! ### names of built-ins, calls with two arguments -/
theorem Ev.blt {x : Str} {pos : Pos} {v : Value} {st : Bool} (B : Base W) (k : EnvOk env) (hx : env.kindOf x = some .globalImplicit) (hd : (x == ("__debug__" : Str)) = false) (b : Blt W x v) (hv : ∀ a, v ≠ .ref a) : Ev W n env ρ (.Name x pos) (.raw v) st :=
  fun A lf X s a R => name_blt B k hx hd b R.gd.base ⟨_, _, rfl, Gr.refl _, id, Rep.mkRaw hv⟩
theorem Ev.call2 {f : Str} {id : String} {p pos : Pos} {e e' : Expr} {d d' r : D} {s1 s2 st : Bool} (B : Base W) (k : EnvOk env) (hx : env.kindOf f = some .globalImplicit) (hd : (f == ("__debug__" : Str)) = false) (b : Blt W f (.builtin id))
    (he : starEach [e, e'] env = [(false, eval e env), (false, eval e' env)]) (x : Ev W n env ρ e d s1) (y : Ev W n env ρ e' d' s2)
    (hc : ∀ A lf X s v u, AOk n A lf → Gd W lf s.heap X → Rep s.heap (hid s1 X) d v → Rep s.heap (hid s2 X) d' u → Pu W A s (call (.builtin id) [v, u]) (fun z h' => Rep h' (hid st X) r z)) : Ev W n env ρ (.Call (.Name f p) [e, e'] [] pos) r st := by
  intro A lf X s a R
  refine wpAny_Call_NameR (name_blt B k hx hd b R.gd.base ?_)
  show wpAny _ A (callWith pos (.builtin id) [] (backTo pos (starEach [e, e'] env)) []) _ _ s
  rw [he]
  refine Calls.callWith_builtin rfl (Calls.evalArgs_plain (Calls.spliced_cons ((x A lf X s a R).to fun v h1 t1 g1 b1 r1 => Calls.spliced_cons ((y A lf X _ a (R.gr g1 b1)).to fun u h2 t2 g2 b2 r2 => Calls.spliced_nil ?_))))
  exact (hc A lf X _ v u a (R.gd.gr (g1.trans g2) fun q => b2 (b1 q)) (r1.gr g2) r2).up (g1.trans g2) fun q => b2 (b1 q)
theorem Ev.isBytes {e : Expr} {p p2 pos : Pos} {x : Str} {s1 st : Bool} (B : Base W) (k : EnvOk env) (hx : env.kindOf "isinstance" = some .globalImplicit) (hx2 : env.kindOf "bytes" = some .globalImplicit) (b : Blt W "isinstance" (.builtin "isinstance")) (b2 : Blt W "bytes" (.type "bytes"))
    (he : starEach [e, .Name "bytes" p2] env = [(false, eval e env), (false, eval (.Name "bytes" p2) env)]) (h : Ev W n env ρ e (.str x) s1) : Ev W n env ρ (.Call (.Name "isinstance" p) [e, .Name "bytes" p2] [] pos) (.bool false) st := by
  refine Ev.call2 B k hx (by decide) b he h (Ev.blt (st := true) B k hx2 (by decide) b2 fun _ q => nomatch q) fun A lf X s v u a g r1 r2 => ?_
  rw [Rep_str] at r1; obtain ⟨t, rfl⟩ := r1
  rw [Rep_raw] at r2; obtain ⟨rfl, _⟩ := r2
  exact IsiPair.str_bytes ⟨_, _, rfl, Gr.refl _, id, Rep.mkBool⟩
theorem Ev.typeStr {e : Expr} {p pos : Pos} {x : Str} {s1 st : Bool} (B : Base W) (k : EnvOk env) (hx : env.kindOf "type" = some .globalImplicit) (b : Blt W "type" (.type "type")) (he : starEach [e] env = [(false, eval e env)])
    (h : Ev W n env ρ e (.str x) s1) : Ev W n env ρ (.Call (.Name "type" p) [e] [] pos) (.raw (.type "str")) st := by
  intro A lf X s a R
  refine wpAny_Call_NameR (name_blt B k hx (by decide) b R.gd.base ?_)
  show wpAny _ A (callWith pos (.type "type") [] (backTo pos (starEach [e] env)) []) _ _ s
  rw [he]
  refine PySem.callWith_type1 ((h A lf X s a R).to fun v h1 t1 g1 b1 r1 => ?_)
  rw [Rep_str] at r1; obtain ⟨t, rfl⟩ := r1
  exact call_type_of (typeIs_str _ _ _) (by decide) ⟨_, _, rfl, g1, b1, Rep.mkRaw fun _ q => nomatch q⟩
theorem Ev.issub {e e' : Expr} {p pos : Pos} {d : D} {s1 s2 st : Bool} (B : Base W) (k : EnvOk env) (hx : env.kindOf "issubclass" = some .globalImplicit) (b : Blt W "issubclass" (.builtin "issubclass")) (he : starEach [e, e'] env = [(false, eval e env), (false, eval e' env)])
    (h : Ev W n env ρ e (.raw (.type "str")) s1) (h' : Ev W n env ρ e' (.tup [.raw (.type "str"), d]) s2) : Ev W n env ρ (.Call (.Name "issubclass" p) [e, e'] [] pos) (.bool true) st := by
  refine Ev.call2 B k hx (by decide) b he h h' fun A lf X s v u a g r1 r2 => ?_
  rw [Rep_raw] at r1; obtain ⟨rfl, _⟩ := r1
  rw [Rep_tup] at r2; obtain ⟨tp, vs, rfl, _, ⟨k, hk⟩, hr⟩ := r2
  rw [RepL_cons] at hr; obtain ⟨v, r, rfl, h1, _⟩ := hr
  rw [Rep_raw] at h1; obtain ⟨rfl, _⟩ := h1
  exact issub_call hk ⟨_, _, rfl, Gr.refl _, id, Rep.mkBool⟩
/-- the built-ins that the text names -/
structure Bs (W : Wd) : Prop where
  base : Base W
  type : Blt W "type" (.type "type")
  str : Blt W "str" (.type "str")
  bytes : Blt W "bytes" (.type "bytes")
  issubclass : Blt W "issubclass" (.builtin "issubclass")
  isinstance : Blt W "isinstance" (.builtin "isinstance")
  len : Blt W "len" (.builtin "len")
  abs : Blt W "abs" (.builtin "abs")
  sum : Blt W "sum" (.builtin "sum")
  sorted : Blt W "sorted" (.builtin "sorted")
  range : Blt W "range" (.type "range")
  tuple : Blt W "tuple" (.type "tuple")
  map : Blt W "map" (.type "map")
  min : Blt W "min" (.builtin "min")
  max : Blt W "max" (.builtin "max")
  enumerate : Blt W "enumerate" (.type "enumerate")
  IndexError : Blt W "IndexError" (.type "IndexError")
/-- a def of the text at its place i -/
noncomputable abbrev Dfn (W : Wd) (f : Str) (a : Addr) (i : Nat) : Prop := FnOk W f a (dArgs (stAt i)) (dBody (stAt i)) (dScope (stAt i))
end
end Mine
namespace Mine
section
variable {W : Wd} {n : Nat} {env : Env} {σ σ₁ σ₂ : Sig} {ρ ρx : Rho}
theorem fspath_ok {a : Addr} (B : Bs W) (F : Dfn W "fspath" a 9) (x : Str) : CallOk W (n + 1) a [.str x] (.str x) := by
  refine CallOk.of B.base F (ps := ["path"]) rfl rfl (fun pm cd doc vs hv => match vs, hv with | [v], _ => rfl) rfl rfl rfl (by decide +kernel) (by decide +kernel) fun env hsc fe => ⟨[], ?_⟩
  refine Ex.cons (Ex.assign fe (sto hsc rfl) (Ev.typeStr B.base fe.ok (kd hsc rfl) B.type rfl (Ev.name fe.ok rfl rfl)) rfl) ?_
  refine Ex.stop (Ex.ifT (Tr.val (Ev.issub (st := true) B.base fe.ok (kd hsc rfl) B.issubclass rfl (Ev.name fe.ok rfl rfl) (Ev.tup (st := true) (EvL.cons (Ev.blt B.base fe.ok (kd hsc rfl) rfl B.str fun _ q => nomatch q) (EvL.cons (Ev.blt B.base fe.ok (kd hsc rfl) rfl B.bytes fun _ q => nomatch q) EvL.nil rfl) rfl) (by decide))) rfl rfl) (Ex.stop (Ex.ret (Ev.name fe.ok rfl rfl)) trivial)) trivial
theorem getsep_ok {a : Addr} (B : Bs W) (F : Dfn W "_get_sep" a 13) (x : Str) : CallOk W (n + 1) a [.str x] (.str "/") := by
  refine CallOk.of B.base F (ps := ["path"]) rfl rfl (fun pm cd doc vs hv => match vs, hv with | [v], _ => rfl) rfl rfl rfl (by decide +kernel) (by decide +kernel) fun env hsc fe => ⟨[], ?_⟩
  refine Ex.stop (Ex.ifF (Tr.val (Ev.isBytes (st := true) B.base fe.ok (kd hsc rfl) (kd hsc rfl) B.isinstance B.bytes rfl (Ev.name fe.ok rfl rfl)) rfl rfl) (Ex.stop (Ex.ret Ev.str) trivial)) trivial
end
end Mine
namespace Mine
section
variable {W : Wd} {n : Nat} {env : Env} {σ σ₁ σ₂ : Sig} {ρ ρx : Rho}
theorem binds1 {f : Str} {i : Nat} {x : Str} (h : ∀ pm cd doc v, bindArgs (Calls.docDef f (dArgs (stAt i)) (dBody (stAt i)) (dScope (stAt i)) pm cd doc) ⟨[v], []⟩ = pure [(x, v)]) :
    ∀ pm cd doc (vs : List Value), vs.length = [x].length → bindArgs (Calls.docDef f (dArgs (stAt i)) (dBody (stAt i)) (dScope (stAt i)) pm cd doc) ⟨vs, []⟩ = pure ([x].zip vs) := fun pm cd doc vs hv => match vs, hv with | [v], _ => h pm cd doc v
/-- p[:1] is a slash, p[1:2] is none; p2 is p[1:] -/
noncomputable def rootC (p : Str) : Option Str :=
  match sl (.str p) none (some 1) none, sl (.str p) (some 1) (some 2) none, sl (.str p) (some 1) none none with
  | some (.str a), some (.str b), some (.str c) => if (a != ("/" : Str)) = false ∧ (b != ("/" : Str)) = true then some c else none
  | _, _, _ => none
theorem rootC_spec {p c : Str} (h : rootC p = some c) : ∃ a b, sl (.str p) none (some 1) none = some (.str a) ∧ sl (.str p) (some 1) (some 2) none = some (.str b) ∧ sl (.str p) (some 1) none none = some (.str c) ∧ (a != ("/" : Str)) = false ∧ (b != ("/" : Str)) = true := by
  unfold rootC at h
  split at h
  · rename_i a b c' e1 e2 e3
    split at h
    · rename_i hh; cases h; exact ⟨a, b, e1, e2, e3, hh.1, hh.2⟩
    · cases h
  · cases h
theorem splitroot_ok {a af : Addr} (B : Bs W) (F : Dfn W "splitroot" a 15) (Ff : Dfn W "fspath" af 9) {p c : Str} (h : rootC p = some c) : CallOk W (n + 2) a [.str p] (.tup [.str "", .str "/", .str c]) := by
  obtain ⟨x, y, e1, e2, e3, e4, e5⟩ := rootC_spec h
  obtain ⟨fd, Fa⟩ := Ff.at
  refine CallOk.of B.base F (ps := ["p"]) rfl rfl (binds1 fun _ _ _ _ => rfl) rfl rfl rfl (by decide +kernel) (by decide +kernel) fun env hsc fe => ⟨[], ?_⟩
  refine Ex.cons (Ex.assign fe (sto hsc rfl) (Ev.callU B.base fe.ok (kd hsc rfl) rfl Fa rfl (EvL.cons (Ev.name fe.ok rfl rfl) EvL.nil rfl) (fspath_ok B Ff p)) rfl) ?_
  refine Ex.cons (Ex.ifF (Tr.val (Ev.isBytes (st := true) B.base fe.ok (kd hsc rfl) (kd hsc rfl) B.isinstance B.bytes rfl (Ev.name fe.ok rfl rfl)) rfl rfl) (Ex.cons (Ex.assign fe (sto hsc rfl) Ev.str rfl) (Ex.cons (Ex.assign fe (sto hsc rfl) Ev.str rfl) Ex.nil))) ?_
  refine Ex.stop (Ex.ifF (Tr.cmp (op := .ne) (Ev.slice (Ev.name fe.ok rfl rfl) .none (.some (Ev.int (st := true))) .none e1) (Ev.name fe.ok rfl rfl) (congrArg some e4) rfl) ?_) trivial
  refine Ex.stop (Ex.ifT (Tr.boolop (TrA.or_stop (Tr.cmp (op := .ne) (Ev.slice (Ev.name fe.ok rfl rfl) (.some (Ev.int (st := true))) (.some (Ev.int (st := true))) .none e2) (Ev.name fe.ok rfl rfl) (congrArg some e5) rfl))) ?_) trivial
  exact Ex.stop (Ex.ret (Ev.tup (EvL.cons (Ev.name fe.ok rfl rfl) (EvL.cons (Ev.name fe.ok rfl rfl) (EvL.cons (Ev.slice (Ev.name fe.ok rfl rfl) (.some (Ev.int (st := true))) .none .none e3) EvL.nil rfl) rfl) rfl) (by simp))) trivial
end
end Mine
namespace Mine
section
variable {W : Wd} {n : Nat} {env : Env} {σ σ₁ σ₂ : Sig} {ρ ρx : Rho}
noncomputable def npGo : List Str → List Str → List Str
  | [], acc => acc
  | c :: r, acc => if (c == (".": Str)) = true then npGo r acc else if (c == ("..": Str)) = true then npGo r acc.dropLast else npGo r (acc ++ [c])
noncomputable def npSig (cs acc : List Str) : Sig := [("sep", .fz (.str "/")), ("dot", .fz (.str ".")), ("dotdot", .fz (.str "..")), ("initial_slashes", .fz (.str "/")), ("comps", .fz (.list (strsD cs))), ("new_comps", .own (strsD acc))]
theorem truthS {x : Str} (h : 0 < x.length) (h' : x.length ≤ 1000) : truth (.str x) = some true := by
  simp only [truth]; rw [if_pos (by omega)]; congr 1; simp; omega
theorem truthL {ds : List D} (h : ds ≠ []) (h' : ds.length ≤ 1000) : truth (.list ds) = some true := by
  simp only [truth]; rw [if_pos (by omega)]; congr 1; cases ds with | nil => exact absurd rfl h | cons _ _ => rfl
theorem np_turns (fe : FEnv env) (hsc : env.scope = dScope (stAt 16)) (cs : List Str) : ∀ (ps acc : List Str), acc.length + ps.length ≤ 1000 → (∀ c ∈ ps, 0 < c.length ∧ c.length ≤ 1000) → (∀ c ∈ acc, (c == ("..": Str)) = false) →
    Turns W n env (forTgt ((dBody (stAt 16)).getD 6 (.Pass ⟨0, 0, 0, 0⟩))) (forBody ((dBody (stAt 16)).getD 6 (.Pass ⟨0, 0, 0, 0⟩))) (strsD ps) (npSig cs acc) .next (npSig cs (npGo ps acc))
  | [], acc, _, _, _ => .done
  | c :: ps, acc, hl, hc, ha => by
    simp only [List.length_cons] at hl
    have hc1 := hc c (.head _)
    have htr : truth (.str c) = some true := truthS hc1.1 hc1.2
    have hc' : ∀ c ∈ ps, 0 < c.length ∧ c.length ≤ 1000 := fun c h => hc c (.tail _ h)
    unfold npGo
    split
    · rename_i hp
      refine .cont (σ₁ := npSig cs acc) (Tgt.name fe (sto hsc rfl)) (Ex.to (Ex.stop (Ex.ifT (Tr.boolop (TrA.or_on (Tr.not (b := true) (Tr.val (Ev.name fe.ok rfl rfl) htr rfl)) (TrA.or_stop (Tr.cmp (op := .eq) (Ev.name fe.ok rfl rfl) (Ev.name fe.ok rfl rfl) (congrArg some hp) rfl)))) (Ex.stop Ex.cont trivial)) trivial) ⟨rfl, rfl, rfl, rfl, rfl, rfl, trivial⟩) (np_turns fe hsc cs ps acc (by omega) hc' ha)
    · rename_i hp
      have hp' : (c == ("." : Str)) = false := by simpa using hp
      have first : Ex W n env (put "comp" (.fz (.str c)) (npSig cs acc)) (exec ((forBody ((dBody (stAt 16)).getD 6 (.Pass ⟨0, 0, 0, 0⟩))).getD 0 (.Pass ⟨0, 0, 0, 0⟩)) env) .next (put "comp" (.fz (.str c)) (npSig cs acc)) :=
        Ex.ifF (Tr.boolop (TrA.or_on (Tr.not (b := true) (Tr.val (Ev.name fe.ok rfl rfl) htr rfl)) (TrA.or_on (Tr.cmp (op := .eq) (Ev.name fe.ok rfl rfl) (Ev.name fe.ok rfl rfl) (congrArg some hp') rfl) TrA.or_nil))) Ex.nil
      split
      · rename_i hd
        have hne : (c != ("..": Str)) = false := by unfold bne; rw [hd]; rfl
        have t2 : Tr W n env (rho (put "comp" (.fz (.str c)) (npSig cs acc))) (.UnaryOp .Not (.Name "initial_slashes" ⟨109, 34, 109, 49⟩) ⟨109, 30, 109, 49⟩) false := Tr.not (b := true) (Tr.val (Ev.name fe.ok rfl rfl) (by decide) rfl)
        rcases List.eq_nil_or_concat acc with rfl | ⟨acc', l, rfl⟩
        · refine .next (σ₁ := npSig cs []) (Tgt.name fe (sto hsc rfl)) (Ex.cons first (Ex.cons (Ex.ifF (Tr.boolop (TrA.or_on (Tr.cmp (op := .ne) (Ev.name fe.ok rfl rfl) (Ev.name fe.ok rfl rfl) (congrArg some hne) rfl) (TrA.or_on (Tr.boolop (TrA.and_stop t2)) (TrA.or_on (Tr.boolop (TrA.and_stop (Tr.val (Ev.name fe.ok rfl rfl) rfl rfl))) TrA.or_nil))))
            (Ex.cons (Ex.ifF (Tr.val (Ev.name fe.ok rfl rfl) rfl rfl) Ex.nil) Ex.nil)) (Ex.to Ex.nil ⟨rfl, rfl, rfl, rfl, rfl, rfl, trivial⟩))) (np_turns fe hsc cs ps [] (by simp at hl ⊢; omega) hc' (fun _ h => nomatch h))
        · have hl' : (l == ("..": Str)) = false := ha l (by simp)
          have hlen : (strsD (acc'.concat l)).length = acc'.length + 1 := by simp
          have hlen' : acc'.length + 1 + (ps.length + 1) ≤ 1000 := by simpa using hl
          have hta : truth (.list (strsD (acc'.concat l))) = some true := truthL (by simp) (by omega)
          have hix : idx (.list (strsD (acc'.concat l))) (.int (-1)) = some (.str l) := by
            simp only [idx]
            rw [if_neg (by omega), if_pos (by omega), hlen]
            have : (-1 + ((acc'.length + 1 : Nat) : Int)).toNat = acc'.length := by omega
            rw [this]; simp
          have hlop : lop .pop (strsD (acc'.concat l)) [] = some (strsD acc') := by
            simp only [lop]
            rw [if_pos ⟨by omega, by simp [flat]⟩]; simp
          have hdl : (acc'.concat l).dropLast = acc' := by simp
          rw [hdl]
          refine .next (σ₁ := npSig cs acc') (Tgt.name fe (sto hsc rfl)) (Ex.cons first (Ex.cons (Ex.ifF (Tr.boolop (TrA.or_on (Tr.cmp (op := .ne) (Ev.name fe.ok rfl rfl) (Ev.name fe.ok rfl rfl) (congrArg some hne) rfl) (TrA.or_on (Tr.boolop (TrA.and_stop t2)) (TrA.or_on (Tr.boolop (TrA.and_on (Tr.val (Ev.name fe.ok rfl rfl) hta rfl) (TrA.and_stop (Tr.cmp (op := .eq) (Ev.sub (Ev.name fe.ok rfl rfl) (Ev.neg (st := true) (Ev.int (st := true))) hix) (Ev.name fe.ok rfl rfl) (congrArg some hl') rfl)))) TrA.or_nil))))
            (Ex.cons (Ex.ifT (Tr.val (Ev.name fe.ok rfl rfl) hta rfl) (Ex.cons (Ex.lop (o := .pop) fe (fun _ => rfl) rfl rfl rfl (by decide) rfl (notI fe) EvL.nil hlop) Ex.nil)) Ex.nil)) (Ex.to Ex.nil ⟨rfl, rfl, rfl, rfl, rfl, rfl, trivial⟩))) (np_turns fe hsc cs ps acc' (by omega) hc' (fun c h => ha c (by simp [h])))
      · rename_i hd
        have hd' : (c == ("..": Str)) = false := by simpa using hd
        have hne : (c != ("..": Str)) = true := by unfold bne; rw [hd']; rfl
        refine .next (σ₁ := npSig cs (acc ++ [c])) (Tgt.name fe (sto hsc rfl)) (Ex.cons first (Ex.cons (Ex.ifT (Tr.boolop (TrA.or_stop (Tr.cmp (op := .ne) (Ev.name fe.ok rfl rfl) (Ev.name fe.ok rfl rfl) (congrArg some hne) rfl)))
            (Ex.cons (Ex.lop (o := .append) (ds := strsD acc) (es := [.str c]) (rs := strsD (acc ++ [c])) fe (fun q => nomatch q) rfl rfl rfl (by decide) rfl (notI fe) (EvL.cons (Ev.name fe.ok rfl rfl) EvL.nil rfl) (by simp only [lop]; rw [if_pos (by simp; omega)]; simp)) Ex.nil)) (Ex.to Ex.nil ⟨rfl, rfl, rfl, rfl, rfl, rfl, trivial⟩))) (np_turns fe hsc cs ps (acc ++ [c]) (by simp; omega) hc' (fun d h => by
              rcases List.mem_append.mp h with h | h
              · exact ha d h
              · rw [List.mem_singleton.mp h]; exact hd'))
theorem normpath_ok {a af as : Addr} (B : Bs W) (F : Dfn W "normpath" a 16) (Ff : Dfn W "fspath" af 9) (Fs : Dfn W "splitroot" as 15) {p c : Str} {cs : List Str} {j r : Str} (h0 : truth (.str p) = some true) (h : rootC p = some c) (hs : meth .split (.str c) (.str "/") = some (.list (strsD cs)))
    (hc : ∀ c ∈ cs, 0 < c.length ∧ c.length ≤ 1000) (hl : cs.length ≤ 1000) (hj : meth .join (.str "/") (.list (strsD (npGo cs []))) = some (.str j)) (hr : bin .add (.str "/") (.str j) = some (.str r)) (ht : truth (.str r) = some true) : CallOk W (n + 3) a [.str p] (.str r) := by
  obtain ⟨fd, Fa⟩ := Ff.at
  obtain ⟨sd, Sa⟩ := Fs.at
  refine CallOk.of B.base F (ps := ["path"]) rfl rfl (binds1 fun _ _ _ _ => rfl) rfl rfl rfl (by decide +kernel) (by decide +kernel) fun env hsc fe => ⟨[], ?_⟩
  refine Ex.cons (Ex.assign fe (sto hsc rfl) (Ev.callU B.base fe.ok (kd hsc rfl) rfl Fa rfl (EvL.cons (Ev.name fe.ok rfl rfl) EvL.nil rfl) (fspath_ok B Ff p)) rfl) ?_
  refine Ex.cons (Ex.ifF (Tr.val (Ev.isBytes (st := true) B.base fe.ok (kd hsc rfl) (kd hsc rfl) B.isinstance B.bytes rfl (Ev.name fe.ok rfl rfl)) rfl rfl) (Ex.cons (Ex.assign fe (sto hsc rfl) Ev.str rfl) (Ex.cons (Ex.assign fe (sto hsc rfl) Ev.str rfl) (Ex.cons (Ex.assign fe (sto hsc rfl) Ev.str rfl) Ex.nil)))) ?_
  refine Ex.cons (Ex.ifF (Tr.not (b := true) (Tr.val (Ev.name fe.ok rfl rfl) h0 rfl)) Ex.nil) ?_
  refine Ex.cons (Ex.assignTup (ps := [("_", ⟨103, 4, 103, 5⟩), ("initial_slashes", ⟨103, 7, 103, 22⟩), ("path", ⟨103, 24, 103, 28⟩)]) fe rfl (fun x hx => by
    simp only [List.map_cons, List.map_nil, List.mem_cons, List.not_mem_nil, or_false] at hx
    rcases hx with rfl | rfl | rfl <;> exact sto hsc rfl) (Ev.callU B.base fe.ok (kd hsc rfl) rfl Sa rfl (EvL.cons (Ev.name fe.ok rfl rfl) EvL.nil rfl) (splitroot_ok B Fs Ff h)) rfl rfl) ?_
  refine Ex.cons (Ex.assign fe (sto hsc rfl) (Ev.meth (m := .split) (fun _ => rfl) rfl rfl (Ev.name fe.ok rfl rfl) (Ev.name fe.ok rfl rfl) hs) rfl) ?_
  refine Ex.cons (Ex.assignN fe (sto hsc rfl) (EvN.list .nil (by decide)) rfl) ?_
  refine Ex.pre (σ₁ := npSig cs []) ?_ ⟨rfl, rfl, rfl, rfl, rfl, rfl, trivial⟩
  refine Ex.cons (Ex.for (Src.list (Ev.name fe.ok rfl rfl)) (np_turns fe hsc cs cs [] (by simpa using hl) hc (fun _ h => nomatch h)) fun _ => rfl) ?_
  refine Ex.freeze (x := "new_comps") rfl (Ex.cons (Ex.assign fe (sto hsc rfl) (Ev.name fe.ok rfl rfl) rfl) ?_)
  refine Ex.cons (Ex.assign fe (sto hsc rfl) (Ev.bin (op := .add) (Ev.name fe.ok rfl rfl) (Ev.meth (st := true) (m := .join) (fun _ => rfl) rfl rfl (Ev.name fe.ok rfl rfl) (Ev.name fe.ok rfl rfl) hj) hr) rfl) ?_
  exact Ex.stop (Ex.ret (Ev.or_left (Ev.name fe.ok rfl rfl) ht)) trivial
end
end Mine
namespace Mine
section
variable {W : Wd} {n : Nat} {env : Env} {σ σ₁ σ₂ : Sig} {ρ ρx : Rho}
noncomputable def splitC (p : Str) : Option (Str × Str) :=
  match sl (.str p) none (some (Txt.rfind p "/" + 1)) none, sl (.str p) (some (Txt.rfind p "/" + 1)) none none with
  | some (.str h), some (.str t) => if truth (.str h) = some true ∧ h.length ≤ 100000 then (match bin .mul (.str "/") (.int h.length) with
    | some (.str m) => if (h != m) = true then (match meth .rstrip (.str h) (.str "/") with
      | some (.str r) => some (r, t)
      | _ => none) else some (h, t)
    | _ => none) else none
  | _, _ => none
theorem splitC_spec {p r t : Str} (h : splitC p = some (r, t)) : ∃ hd m, sl (.str p) none (some (Txt.rfind p "/" + 1)) none = some (.str hd) ∧ sl (.str p) (some (Txt.rfind p "/" + 1)) none none = some (.str t) ∧ truth (.str hd) = some true ∧ hd.length ≤ 100000 ∧
    bin .mul (.str "/") (.int hd.length) = some (.str m) ∧ (((hd != m) = true ∧ meth .rstrip (.str hd) (.str "/") = some (.str r)) ∨ ((hd != m) = false ∧ r = hd)) := by
  unfold splitC at h
  split at h
  · rename_i hd t' e1 e2
    split at h
    · rename_i hh
      split at h
      · rename_i m em
        split at h
        · rename_i hm
          split at h
          · rename_i r' er; cases h; exact ⟨hd, m, e1, e2, hh.1, hh.2, em, .inl ⟨hm, er⟩⟩
          · cases h
        · rename_i hm; cases h; exact ⟨_, m, e1, e2, hh.1, hh.2, em, .inr ⟨by simpa using hm, rfl⟩⟩
      · cases h
    · cases h
  · cases h
theorem split_ok' {a af ag : Addr} (B : Bs W) (F : Dfn W "split" a 14) (Ff : Dfn W "fspath" af 9) (Fg : Dfn W "_get_sep" ag 13) {p r t : Str} (h : splitC p = some (r, t)) : CallOk W (n + 2) a [.str p] (.tup [.str r, .str t]) := by
  obtain ⟨hd, m, e1, e2, e3, e4, e5, e6⟩ := splitC_spec h
  obtain ⟨fd, Fa⟩ := Ff.at
  obtain ⟨gd, Ga⟩ := Fg.at
  have hlen : fn1 .len (.str hd) = some (.int hd.length) := by simp only [fn1]; rw [if_pos e4]
  refine CallOk.of B.base F (ps := ["p"]) rfl rfl (binds1 fun _ _ _ _ => rfl) rfl rfl rfl (by decide +kernel) (by decide +kernel) fun env hsc fe => ⟨[], ?_⟩
  refine Ex.cons (Ex.assign fe (sto hsc rfl) (Ev.callU B.base fe.ok (kd hsc rfl) rfl Fa rfl (EvL.cons (Ev.name fe.ok rfl rfl) EvL.nil rfl) (fspath_ok B Ff p)) rfl) ?_
  refine Ex.cons (Ex.assign fe (sto hsc rfl) (Ev.callU B.base fe.ok (kd hsc rfl) rfl Ga rfl (EvL.cons (Ev.name fe.ok rfl rfl) EvL.nil rfl) (getsep_ok B Fg p)) rfl) ?_
  refine Ex.cons (Ex.assign fe (sto hsc rfl) (Ev.bin (op := .add) (Ev.meth (st := true) (m := .rfind) (fun _ => rfl) rfl rfl (Ev.name fe.ok rfl rfl) (Ev.name fe.ok rfl rfl) rfl) (Ev.int (st := true)) rfl) rfl) ?_
  refine Ex.cons (Ex.assignSwap (xs := ["head", "tail"]) (ds := [.str hd, .str t]) fe rfl (fun x hx => by
    simp only [List.mem_cons, List.not_mem_nil, or_false] at hx
    rcases hx with rfl | rfl <;> exact sto hsc rfl) (Ev.tup (EvL.cons (Ev.slice (Ev.name fe.ok rfl rfl) .none (.some (Ev.name fe.ok rfl rfl)) .none e1) (EvL.cons (Ev.slice (Ev.name fe.ok rfl rfl) (.some (Ev.name fe.ok rfl rfl)) .none .none e2) EvL.nil rfl) rfl) (by simp)) rfl (by obtain ⟨sc, _⟩ := env; simp only at hsc; subst hsc; rfl)) ?_
  rcases e6 with ⟨hm, hr⟩ | ⟨hm, rfl⟩
  · refine Ex.cons (Ex.ifT (Tr.boolop (TrA.and_on (Tr.val (Ev.name fe.ok rfl rfl) e3 rfl) (TrA.and_on (Tr.cmp (op := .ne) (Ev.name fe.ok rfl rfl) (Ev.bin (op := .mul) (st := true) (Ev.name fe.ok rfl rfl) (Ev.fn1 (st := true) (f := .len) B.base fe.ok (kd hsc rfl) B.len rfl (Ev.name fe.ok rfl rfl) hlen) e5) (congrArg some hm) rfl) TrA.and_nil)))
      (Ex.cons (Ex.assign fe (sto hsc rfl) (Ev.meth (m := .rstrip) (fun _ => rfl) rfl rfl (Ev.name fe.ok rfl rfl) (Ev.name fe.ok rfl rfl) hr) rfl) Ex.nil)) ?_
    exact Ex.stop (Ex.ret (Ev.tup (EvL.cons (Ev.name fe.ok rfl rfl) (EvL.cons (Ev.name fe.ok rfl rfl) EvL.nil rfl) rfl) (by simp))) trivial
  · refine Ex.cons (Ex.ifF (Tr.boolop (TrA.and_on (Tr.val (Ev.name fe.ok rfl rfl) e3 rfl) (TrA.and_stop (Tr.cmp (op := .ne) (Ev.name fe.ok rfl rfl) (Ev.bin (op := .mul) (st := true) (Ev.name fe.ok rfl rfl) (Ev.fn1 (st := true) (f := .len) B.base fe.ok (kd hsc rfl) B.len rfl (Ev.name fe.ok rfl rfl) hlen) e5) (congrArg some hm) rfl)))) Ex.nil) ?_
    exact Ex.stop (Ex.ret (Ev.tup (EvL.cons (Ev.name fe.ok rfl rfl) (EvL.cons (Ev.name fe.ok rfl rfl) EvL.nil rfl) rfl) (by simp))) trivial
noncomputable def lineGo : Nat → Str → List Str → Option (List Str)
  | 0, _, _ => none
  | k + 1, x, l => if (x != ("/" : Str)) = true ∧ l.length < 4 then (match splitC x with
      | some (h, _) => lineGo k h (x :: l)
      | none => none) else if (x != ("/" : Str)) = false then some (x :: l) else none
noncomputable def whBody : Stmt → List Stmt
  | .While _ b _ _ => b
  | _ => []
noncomputable def whTest : Stmt → Expr
  | .While t _ _ _ => t
  | _ => .Constant .none 0 ⟨0, 0, 0, 0⟩
theorem line_whl {as af ag : Addr} (B : Bs W) (Fs : Dfn W "split" as 14) (Ff : Dfn W "fspath" af 9) (Fg : Dfn W "_get_sep" ag 13) (fe : FEnv env) (hsc : env.scope = dScope (stAt 22)) (p : Str) : ∀ (k : Nat) (x : Str) (l L : List Str), l.length ≤ 4 → lineGo k x l = some L →
    Whl W (n + 2) env (whTest ((dBody (stAt 22)).getD 1 (.Pass ⟨0, 0, 0, 0⟩))) (whBody ((dBody (stAt 22)).getD 1 (.Pass ⟨0, 0, 0, 0⟩))) k [("place", .fz (.str p)), ("line", .own (strsD (x :: l)))] .next [("place", .fz (.str p)), ("line", .own (strsD L))]
  | 0, _, _, _, _, h => by simp [lineGo] at h
  | k + 1, x, l, L, hl, h => by
    obtain ⟨sd, Sa⟩ := Fs.at
    unfold lineGo at h
    have hix : idx (.list (strsD (x :: l))) (.int 0) = some (.str x) := rfl
    have hlen : fn1 .len (.list (strsD (x :: l))) = some (.int ((l.length : Int) + 1)) := by simp only [fn1]; rw [if_pos (by simp; omega)]; simp
    split at h
    · rename_i hc
      split at h
      · rename_i hd t hs
        refine .next (Tr.boolop (TrA.and_on (Tr.cmp (op := .ne) (Ev.sub (Ev.name fe.ok rfl rfl) (Ev.int (st := true)) hix) (Ev.str (st := true)) (congrArg some hc.1) rfl) (TrA.and_on (Tr.cmp (op := .lt) (Ev.fn1 (st := true) (f := .len) B.base fe.ok (kd hsc rfl) B.len rfl (Ev.name fe.ok rfl rfl) hlen) (Ev.int (st := true)) (congrArg some (decide_eq_true (by have := hc.2; omega))) rfl) TrA.and_nil)))
          (Ex.cons (Ex.lop (o := .insert) (es := [.int 0, .str hd]) (rs := strsD (hd :: x :: l)) fe (fun q => nomatch q) rfl rfl rfl (by decide) rfl (notI fe) (EvL.cons Ev.int (EvL.cons (Ev.sub (d1 := .tup [.str hd, .str t]) (Ev.callU B.base fe.ok (kd hsc rfl) rfl Sa rfl (EvL.cons (Ev.flat (Ev.sub (Ev.name fe.ok rfl rfl) (Ev.int (st := true)) hix) rfl) EvL.nil rfl) (split_ok' B Fs Ff Fg hs)) (Ev.int (st := true)) rfl) EvL.nil rfl) rfl) ?_) Ex.nil)
          (line_whl B Fs Ff Fg fe hsc p k hd (x :: l) L (by simp; omega) h)
        simp only [Mine.lop]; rw [if_pos (by simp; omega)]; rfl
      · cases h
    · split at h
      · rename_i hc; cases h
        exact .done (Tr.boolop (TrA.and_stop (Tr.cmp (op := .ne) (Ev.sub (Ev.name fe.ok rfl rfl) (Ev.int (st := true)) hix) (Ev.str (st := true)) (congrArg some hc) rfl)))
      · cases h
theorem line_ok {a as af ag : Addr} (B : Bs W) (F : Dfn W "_law_line" a 22) (Fs : Dfn W "split" as 14) (Ff : Dfn W "fspath" af 9) (Fg : Dfn W "_get_sep" ag 13) {p : Str} {L : List Str} (h : lineGo 6 p [] = some L) : CallOk W (n + 3) a [.str p] (.list (strsD L)) := by
  refine CallOk.of B.base F (ps := ["place"]) rfl rfl (binds1 fun _ _ _ _ => rfl) rfl rfl rfl (by decide +kernel) (by decide +kernel) fun env hsc fe => ⟨[], ?_⟩
  refine Ex.cons (Ex.assignN fe (sto hsc rfl) (EvN.list (EvL.cons (Ev.name fe.ok rfl rfl) EvL.nil rfl) (by simp)) rfl) ?_
  refine Ex.cons (Ex.while (line_whl B Fs Ff Fg fe hsc p 6 p [] L (by simp) h)) ?_
  exact Ex.freeze (x := "line") rfl (Ex.stop (Ex.ret (Ev.name fe.ok rfl rfl)) trivial)
end
end Mine
namespace Mine

/-- an exception in the air: its traceback's mark is fl (none: it has no traceback yet) -/
structure Fly (W : Wd) (k : Bool) (fl : Option Value) (hE : Heap) (Y : List Addr) (e : Addr) (h : Heap) : Prop where
  new : hE.get? e = none
  bnew : W.hB.get? e = none
  out : e ∉ Y
  there : ∃ oe vs, h.get? e = some oe ∧ oe.cls = .type "IndexError" ∧ oe.data = .fields vs ∧ 2 < vs.size ∧ (k = true → vs[2]? = some .none) ∧
    match fl with
    | none => vs[1]? = some .none
    | some v => ∃ T oT ts, vs[1]? = some (.ref T) ∧ T ≠ e ∧ hE.get? T = none ∧ W.hB.get? T = none ∧ T ∉ Y ∧ h.get? T = some oT ∧ oT.data = .fields ts ∧ ts[3]? = some v

theorem sameFields {o o' : Obj} {vs : Array Value} (s : Same o o') (d : o.data = .fields vs) : o' = o := s.2.2.2 fun es ep q => by rw [d] at q; cases q
/-- the heap goes on, the exception lies by -/
theorem Fly.on {W : Wd} {k : Bool} {fl : Option Value} {hE : Heap} {e : Addr} {h h' : Heap} {Y Y' : List Addr} (f : Fly W k fl hE Y e h) (g : Gr (hideAll h Y) h') (hn : ∀ a ∈ Y', (hideAll h Y).get? a = none) : Fly W k fl hE Y' e h' := by
  obtain ⟨oe, vs, he, hc, hd, hs, h2, ht⟩ := f.there
  have he1 := hideAll_get _ he f.out
  obtain ⟨oe', he', se⟩ := g e oe he1
  have := sameFields se hd
  subst this
  refine ⟨f.new, f.bnew, fun hm => (by rw [hn e hm] at he1; cases he1), _, vs, he', hc, hd, hs, h2, ?_⟩
  cases fl with
  | none => exact ht
  | some v =>
    obtain ⟨T, oT, ts, t1, t2, t3, t4, t8, t5, t6, t7⟩ := ht
    have t51 := hideAll_get _ t5 t8
    obtain ⟨oT', hT', sT⟩ := g T oT t51
    have := sameFields sT t6
    subst this
    exact ⟨T, _, ts, t1, t2, t3, t4, fun hm => (by rw [hn T hm] at t51; cases t51), hT', t6, t7⟩

/-- an object that is no list and no tuple changes -/
theorem IsL.poke {h h' : Heap} {t a : Addr} {vs : List Value} {ot : Obj} {ts : Array Value} (hs : ∀ b o, b ≠ t → h.get? b = some o → h'.get? b = some o) (ht : h.get? t = some ot) (hd : ot.data = .fields ts) (x : IsL h a vs) : IsL h' a vs := by
  obtain ⟨n, e⟩ := x
  exact ⟨n, hs a _ (fun z => by rw [z, ht] at e; cases e; cases hd) e⟩
theorem IsT.poke {h h' : Heap} {t a : Addr} {vs : List Value} {ot : Obj} {ts : Array Value} (hs : ∀ b o, b ≠ t → h.get? b = some o → h'.get? b = some o) (ht : h.get? t = some ot) (hd : ot.data = .fields ts) (x : IsT h a vs) : IsT h' a vs := by
  obtain ⟨n, e⟩ := x
  exact ⟨n, hs a _ (fun z => by rw [z, ht] at e; cases e; cases hd) e⟩
theorem Rep.poke {h h' : Heap} {t : Addr} {ot : Obj} {ts : Array Value} (hs : ∀ b o, b ≠ t → h.get? b = some o → h'.get? b = some o) (ht : h.get? t = some ot) (hd : ot.data = .fields ts) {X : List Addr} : ∀ {d : D} {v : Value}, Rep h X d v → Rep h' X d v := by
  intro d
  refine D.rec (motive_1 := fun d => ∀ {v : Value}, Rep h X d v → Rep h' X d v) (motive_2 := fun ds => ∀ {vs : List Value}, RepL h X ds vs → RepL h' X ds vs) ?_ ?_ ?_ ?_ ?_ ?_ ?_ ?_ ?_ d
  · intro v r; rw [Rep_none] at r ⊢; exact r
  · intro b v r; rw [Rep_bool] at r ⊢; exact r
  · intro b v r; rw [Rep_int] at r ⊢; exact r
  · intro b v r; rw [Rep_str] at r ⊢; exact r
  · intro ds ih v r
    rw [Rep_list] at r ⊢
    obtain ⟨a, vs, rfl, ha, hl, hr⟩ := r
    exact ⟨a, vs, rfl, ha, hl.poke hs ht hd, ih hr⟩
  · intro ds ih v r
    rw [Rep_tup] at r ⊢
    obtain ⟨a, vs, rfl, ha, hl, hr⟩ := r
    exact ⟨a, vs, rfl, ha, hl.poke hs ht hd, ih hr⟩
  · intro b v r; rw [Rep_raw] at r ⊢; exact r
  · intro vs r; rw [RepL_nil] at r ⊢; exact r
  · intro d ds ih1 ih2 vs r
    rw [RepL_cons] at r ⊢
    obtain ⟨v, r', rfl, h1, h2⟩ := r
    exact ⟨v, r', rfl, ih1 h1, ih2 h2⟩
theorem RepL.poke {h h' : Heap} {t : Addr} {ot : Obj} {ts : Array Value} (hs : ∀ b o, b ≠ t → h.get? b = some o → h'.get? b = some o) (ht : h.get? t = some ot) (hd : ot.data = .fields ts) {X : List Addr} : ∀ {ds : List D} {vs : List Value}, RepL h X ds vs → RepL h' X ds vs
  | [], vs, r => by rw [RepL_nil] at r ⊢; exact r
  | d :: ds, vs, r => by
    rw [RepL_cons] at r ⊢
    obtain ⟨v, r', rfl, h1, h2⟩ := r
    exact ⟨v, r', rfl, Rep.poke hs ht hd h1, RepL.poke hs ht hd h2⟩
theorem StY.poke {W : Wd} {env : Env} {lf : List Env} {hE h h' : Heap} {Xo Y : List Addr} {al : Al} {σ : Sig} {t : Addr} {ot : Obj} {ts : Array Value} (q : StY W env lf hE Xo Y al σ h) (hs : ∀ b o, b ≠ t → h.get? b = some o → h'.get? b = some o) (ht : h.get? t = some ot) (hd : ot.data = .fields ts) (hl : ∃ o, h'.get? t = some o)
    (n1 : hE.get? t = none) (n2 : W.hB.get? t = none) : StY W env lf hE Xo Y al σ h' := by
  have nsn : ∀ {L : Addr} {m : Str → Option Value}, h.Ns L m → h'.Ns L m := fun {L m} hm => hm.at' fun o e => hs _ o (fun z => by
    obtain ⟨o', es, ep, e1, e2, _⟩ := hm
    rw [z, ht] at e1; cases e1; rw [hd] at e2; cases e2) e
  have cn : ∀ {c : Addr} {v : Option Value}, h.IsCell c v → h'.IsCell c v := fun {c v} hi => let ⟨o, e, d⟩ := hi; ⟨o, hs _ o (fun z => by rw [z, ht] at e; cases e; rw [hd] at d; cases d) e, d⟩
  have var : ∀ {y : Str} {v : Value}, VarIs env h y v → VarIs env h' y v := fun z => z.imp (fun ⟨k, m, n, e⟩ => ⟨k, m, nsn n, e⟩) (fun ⟨k, c, e, i⟩ => ⟨k, c, e, cn i⟩)
  refine ⟨q.top, fun b o e => ?_, fun b o e => hs b o (fun z => by rw [z, n2] at e; cases e) (q.base b o e), fun e' he' => ?_, q.new, q.bnew, fun b hb => ?_, q.xo, q.loc, ?_, fun y c e => ?_, fun y sl e => ?_, q.inj⟩
  · obtain ⟨o', e', z⟩ := q.gr b o e
    exact ⟨o', hs b o' (fun z => by rw [z, n1] at e; cases e) e', z⟩
  · obtain ⟨k, L, m, hf, hm, hb⟩ := q.ff e' he'
    exact ⟨k, L, m, hf, nsn hm, hb⟩
  · by_cases z : b = t
    · rw [z]; exact hl
    · obtain ⟨o, e⟩ := q.live b hb; exact ⟨o, hs b o z e⟩
  · obtain ⟨m, hm⟩ := q.ns; exact ⟨m, nsn hm⟩
  · obtain ⟨h1, u, h2⟩ := q.cell y c e; exact ⟨h1, u, cn h2⟩
  · exact (q.vars y sl e).map (fun _ => var) (fun _ _ h => h) (fun b vs _ hl => hl.poke hs ht hd) (fun _ _ r => Rep.poke hs ht hd r) (fun _ _ r => RepL.poke hs ht hd r)

section
variable {W : Wd} {n : Nat} {env : Env} {lf : List Env} {hE h h' : Heap} {Xo Y : List Addr} {al : Al} {σ σ₁ σ₂ : Sig} {ρ ρx : Rho}

theorem FF.slots {S : List Addr} {h h' : Heap} (x : FF W h lf) (s : Heap.SlotsOnly S h h') (hS : ∀ b ∈ S, ∃ env ∈ lf, env.frame = some b) : Gr h h' := fun b o e => by
  by_cases hb : b ∈ S
  · obtain ⟨sl, e'⟩ := s.2.2 b o e
    obtain ⟨env, he, hf⟩ := hS b hb
    obtain ⟨_, L, m, hf', ⟨o', es, ep, e1, e2, _⟩, _⟩ := x env he
    rw [hf] at hf'; cases hf'
    rw [e] at e1; cases e1
    exact ⟨_, e', rfl, rfl, rfl, fun q => absurd e2 (q _ _)⟩
  · exact ⟨o, (s.2.1 b hb).trans e, .refl o⟩
theorem FF.fun {h : Heap} : ∀ {l : List Env}, FF W h l → h.FunFrames W.hB l
  | [], _ => trivial
  | env :: r, x => by
    obtain ⟨k, L, m, hf, ⟨o, es, ep, e1, e2, _⟩, hb⟩ := x env (.head _)
    refine ⟨by rw [k]; decide, ⟨L, o, hf, hb, e1, fun vs q => by rw [e2] at q; cases q⟩, FF.fun fun env he => x env (.tail _ he)⟩
theorem dropWhile_at (L : Addr) : ∀ {lf : List Env}, (∃ e ∈ lf, e.frame = some L) → ∃ a outer, (lf.dropWhile fun x => x.frame != some L) = a :: outer ∧ a.frame = some L ∧ ∀ e ∈ a :: outer, e ∈ lf
  | [], h => let ⟨_, m, _⟩ := h; nomatch m
  | x :: r, h => by
    rw [List.dropWhile_cons]
    by_cases hx : x.frame = some L
    · rw [if_neg (by simp [hx])]; exact ⟨x, r, rfl, hx, fun e he => he⟩
    · rw [if_pos (by simpa using hx)]
      obtain ⟨e, m, hf⟩ := h
      rcases List.mem_cons.mp m with rfl | m
      · exact absurd hf hx
      · obtain ⟨a, outer, h1, h2, h3⟩ := dropWhile_at L ⟨e, m, hf⟩
        exact ⟨a, outer, h1, h2, fun e he => .tail _ (h3 e he)⟩

theorem note_ok {M : Model} {A : Around} {E : Value → Shared → Prop} {s : Shared} {k : Bool} {fl : Option Value} {e : Addr} {Q : Unit → Shared → Prop} (fe : FEnv env) (ha : A.frames = some lf) (q : StY W env lf hE Xo Y al σ s.heap)
    (f : Fly W k fl hE Y e s.heap) (hfl : fl = none ∨ fl = some (rawInt env.locals)) (hQ : ∀ h', StY W env lf hE Xo Y al σ h' → Fly W k (some (rawInt env.locals)) hE Y e h' → Q () { s with heap := h' }) : wpAny M A (noteFrame (.ref e) env) Q E s := by
  obtain ⟨oe, vs, he, hc, hd, hs, h2, ht⟩ := f.there
  rcases hfl with rfl | rfl
  · have h1 : vs[1]? = some .none := ht
    unfold noteFrame
    simp only [fe.frame]
    refine wpAny_bind (wpAny_field he hd h1 ?_)
    rw [if_neg (by decide)]
    unfold PySem.frameOf
    refine wpAny_bind (wpAny_bind (wpAny_frameEnvs ha ?_))
    obtain ⟨a0, outer, hdw, haf, hsub⟩ := dropWhile_at env.locals ⟨env, q.top, fe.frame⟩
    rw [fe.frame, hdw]
    unfold frameObject
    refine wpAny_bind (wpAny_bind (wpAny_readyFrames_fun (FF.fun (W := W) fun e he => q.ff e (hsub e he)) fun h₁ hs₁ => wpAny_pure ?_))
    rw [haf]
    refine wpAny_pure ?_
    refine wpAny_bind (wpAny_entryPlaceOf fun pl hpl => ?_)
    unfold EntryCells.newEntry newFields
    refine wpAny_bind (wpAny_newObj_type ?_ (hpl.sizeOk5 _ _ _ _ _))
    have hS : ∀ b ∈ (a0 :: outer).filterMap (·.frame), ∃ env ∈ lf, env.frame = some b := fun b hb => by
      obtain ⟨x, hx, hf⟩ := List.mem_filterMap.mp hb
      exact ⟨x, hsub x hx, hf⟩
    have g₁ : Gr s.heap h₁ := q.ff.slots hs₁ hS
    have he₁ : h₁.get? e = some oe := g₁.get he fun es ep q => by rw [hd] at q; cases q
    have b₁ : W.hB.StaysIn h₁ := fun b o hbo => (hs₁.2.1 b fun hm => by
      obtain ⟨x, hx, hf⟩ := hS b hm
      obtain ⟨_, L, m, hf', _, hb⟩ := q.ff x hx
      rw [hf] at hf'; cases hf'
      rw [hb] at hbo; cases hbo).trans (q.base b o hbo)
    have q₁ := q.up g₁ fun _ => b₁
    generalize hT : ({ cls := .type "traceback", dict := none, data := .fields ([Value.none, .ref env.locals, .none, rawInt env.locals, .none] ++ (if pl.isEmpty then List.replicate 6 Value.none else pl)).toArray } : Obj) = ot
    have he₂ := Heap.get?_push_of_some (h := h₁) ot he₁
    refine wpAny_setField he₂ hd (by omega) ?_
    have hTe : h₁.objs.size ≠ e := Nat.ne_of_gt (Heap.lt_size he₁)
    have hd₃ := Obj.data_mapFields hd (·.setIfInBounds 1 (Value.ref h₁.objs.size))
    have hTY : h₁.objs.size ∉ Y := fun hm => by obtain ⟨o, e'⟩ := q₁.live _ (List.mem_append_left _ hm); exact absurd (Heap.lt_size e') (Nat.lt_irrefl _)
    have hTE : hE.get? h₁.objs.size = none := by
      cases e' : hE.get? h₁.objs.size with
      | none => rfl
      | some o => obtain ⟨o', e'', _⟩ := q₁.gr _ o e'; exact absurd (Heap.lt_size e'') (Nat.lt_irrefl _)
    have hTB : W.hB.get? h₁.objs.size = none := by
      cases e' : W.hB.get? h₁.objs.size with
      | none => rfl
      | some o => have := b₁ _ o e'; exact absurd (Heap.lt_size this) (Nat.lt_irrefl _)
    have hself := Heap.get?_update_self (Obj.mapFields (·.setIfInBounds 1 (Value.ref h₁.objs.size))) he₂ (Obj.isFreed_of_fields hd₃)
    have q₂ := (q₁.up (Gr.push h₁ ot) fun b c o e' => Heap.get?_push_of_some _ (b c o e')).poke (h' := (h₁.push ot).update e (Obj.mapFields (·.setIfInBounds 1 (Value.ref h₁.objs.size)))) (fun b o hb e' => by rw [Heap.get?_update_other _ _ (Ne.symm hb)]; exact e') he₂ hd ⟨_, hself⟩ f.new f.bnew
    refine hQ _ q₂ ⟨f.new, f.bnew, f.out, oe.mapFields (·.setIfInBounds 1 (Value.ref h₁.objs.size)), vs.setIfInBounds 1 (Value.ref h₁.objs.size), hself, (Obj.cls_mapFields _ _).trans hc, hd₃, by simpa using hs, fun hk => ?_, h₁.objs.size, ot, _, ?_, hTe, hTE, hTB, hTY, ?_, by rw [← hT], by simp⟩
    · have := h2 hk
      rw [Array.getElem?_setIfInBounds_ne (by decide)]; exact this
    · rw [Array.getElem?_setIfInBounds_self]; simp; omega
    · rw [Heap.get?_update_other _ _ (Ne.symm hTe)]
      exact Heap.get?_push_size h₁ (by rw [← hT]; rfl)
  · obtain ⟨T, oT, ts, t1, t2, t3, t4, t8, t5, t6, t7⟩ := ht
    exact wpAny_noteFrame_inFlight fe.frame he hd t1 t5 t6 t7 (hQ _ q f)
theorem flight_ok {M : Model} {A : Around} {E : Value → Shared → Prop} {s : Shared} {k : Bool} {v : Value} {fr : Option Addr} {e : Addr} {Q : Unit → Shared → Prop} (q : StY W env lf hE Xo Y al σ s.heap)
    (f : Fly W k (some v) hE Y e s.heap) (hQ : ∀ h', StY W env lf hE Xo Y al σ h' → Fly W k (some (fr.elim .none fun f => rawInt f)) hE Y e h' → Q () { s with heap := h' }) : wpAny M A (setFlight (.ref e) fr) Q E s := by
  obtain ⟨oe, vs, he, hc, hd, hs, h2, T, oT, ts, t1, t2, t3, t4, t8, t5, t6, t7⟩ := f.there
  have ht3 : 3 < ts.size := (Array.getElem?_eq_some_iff.mp t7).1
  unfold setFlight
  refine wpAny_bind (wpAny_field he hd t1 ?_)
  rw [if_pos (show (Value.ref T != Value.none) = true from by simp)]
  have keep : ∀ b, b ≠ T → (s.heap.update T (Obj.mapFields (·.setIfInBounds 3 (fr.elim .none fun f => rawInt f)))).get? b = s.heap.get? b := fun b hb => Heap.get?_update_other _ _ (Ne.symm hb)
  have hd₃ := Obj.data_mapFields t6 (·.setIfInBounds 3 (fr.elim .none fun f => rawInt f))
  have hself := Heap.get?_update_self (Obj.mapFields (·.setIfInBounds 3 (fr.elim .none fun f => rawInt f))) t5 (Obj.isFreed_of_fields hd₃)
  refine wpAny_setField t5 t6 ht3 (hQ _ (q.poke (fun b o hb e' => (keep b hb).trans e') t5 t6 ⟨_, hself⟩ t3 t4) ?_)
  refine ⟨f.new, f.bnew, f.out, oe, vs, (keep e (Ne.symm t2)).trans he, hc, hd, hs, h2, T, _, _, t1, t2, t3, t4, t8, hself, hd₃, ?_⟩
  rw [Array.getElem?_setIfInBounds_self]; simp [ht3]
end
end Mine
namespace Mine

/-- what is being handled: nothing, or an exception that stands by and has no context -/
noncomputable def HOk : Bool → Around → Heap → Prop
  | true, A, _ => A.handled = none
  | false, A, h => ∃ e o vs, A.handled = some (.ref e) ∧ h.get? e = some o ∧ o.data = .fields vs ∧ vs[2]? = some .none
structure NewX (m : Bool) (h h' : Heap) (e : Addr) : Prop where
  keeps : ∀ b o, h.get? b = some o → h'.get? b = some o
  new : h.get? e = none
  there : ∃ oe vs, h'.get? e = some oe ∧ oe.cls = .type "IndexError" ∧ oe.data = .fields vs ∧ 2 < vs.size ∧ vs[1]? = some .none ∧ (m = true → vs[2]? = some .none)
theorem HOk.up {m : Bool} {A : Around} {h h' : Heap} (x : HOk m A h) (g : Gr h h') : HOk m A h' := by
  cases m with
  | true => exact x
  | false =>
    obtain ⟨e, o, vs, h1, h2, h3, h4⟩ := x
    obtain ⟨o', h2', s⟩ := g e o h2
    have := sameFields s h3
    subst this
    exact ⟨e, _, vs, h1, h2', h3, h4⟩

theorem plain_unchain : plainId "proto.unchain" = true := by decide +kernel
theorem entry_unchain : entryFor table "proto.unchain" = some Builtin.«proto.unchain» := entryFor_of_fast (by kernel_rfl)
section
variable {α : Type} {prog : Program} {w : World} {A : Around} {E : Value → Shared → Prop} {s : Shared}
theorem raiseNew_chain {e e1 : Addr} {o1 oe : Obj} {vs1 vs : Array Value} {Q : α → Shared → Prop} (hh : A.handled = some (.ref e1)) (hne : e1 ≠ e) (h1 : s.heap.get? e1 = some o1) (d1 : o1.data = .fields vs1) (c1 : vs1[2]? = some .none)
    (he : s.heap.get? e = some oe) (de : oe.data = .fields vs) (hs : 2 < vs.size) (h : E (.ref e) { s with heap := s.heap.update e (Obj.mapFields (·.setIfInBounds 2 (.ref e1))) }) : wpAny (model prog w) A (raiseNew (.ref e) : Sem α) Q E s := by
  unfold raiseNew
  refine wpAny_bind (wpAny_handled ?_)
  rw [hh]
  dsimp only
  rw [if_pos (show (Value.ref e1 != Value.ref e) = true from by simp [hne])]
  refine wpAny_bind (wpAny_holding (wpAny_runValue (codeAny_builtin entry_unchain ?_)))
  rw [Around.under_plainId plain_unchain _]
  show wpAny _ A.in1 (field (.ref e1) 2 >>= _) _ _ s
  refine wpAny_bind (wpAny_field h1 d1 c1 ?_)
  show wpAny _ A.in1 (if (Value.none == Value.none) = true then _ else _) _ _ s
  rw [if_pos (by decide)]
  refine wpAny_bind (m := ret .none) (wpAny_pure ?_)
  refine wpAny_pure ?_
  show wpAny (model prog w) A (setField (.ref e) 2 (.ref e1) >>= fun _ => throw (.ref e)) Q E s
  exact wpAny_bind (wpAny_setField he de hs (wpAny_throw h))
theorem raiseWords_chain {msg : String} {e1 : Addr} {o1 : Obj} {vs1 : Array Value} {Q : α → Shared → Prop} (hh : A.handled = some (.ref e1)) (h1 : s.heap.get? e1 = some o1) (d1 : o1.data = .fields vs1) (c1 : vs1[2]? = some .none)
    (h : ∀ h' tk e, NewX false s.heap h' e → E (.ref e) { s with heap := h', toks := tk }) : wpAny (model prog w) A (raiseErrorWords "IndexError" msg : Sem α) Q E s := by
  unfold raiseErrorWords
  refine wpAny_bind (wpAny_mkText (wpAny_bind ?_))
  unfold newExc newTuple
  refine wpAny_bind (wpAny_newObj_type ?_)
  refine wpAny_bind (m := firstArgMember _ _) (wpAny_of_eq (a := Value.none) (by simp only [firstArgMember, plainExc_IndexError.first]; rfl) ?_)
  rw [plainExc_IndexError.own]
  refine wpAny_newObj_type ?_
  have k1 := Heap.get?_push_of_some { cls := .type "tuple", data := .seq [Value.str (msg : Str) s.toks].toArray } h1
  generalize hH : s.heap.push { cls := .type "tuple", data := .seq [Value.str (msg : Str) s.toks].toArray } = H at k1 ⊢
  have hsz : s.heap.objs.size < H.objs.size := by rw [← hH, Heap.size_push]; exact Nat.lt_succ_self _
  refine raiseNew_chain hh (Nat.ne_of_lt (Heap.lt_size k1)) (Heap.get?_push_of_some _ k1) d1 c1 (Heap.get?_push_size _ rfl) rfl (by simp) (h _ _ _ ⟨fun b o e => ?_, Heap.get?_none_of_le (Nat.le_of_lt hsz), _, _, Heap.get?_update_self _ (Heap.get?_push_size _ rfl) rfl, rfl, rfl, by simp, rfl, fun q => nomatch q⟩)
  have e' : H.get? b = some o := by rw [← hH]; exact Heap.get?_push_of_some _ e
  rw [Heap.get?_update_other _ _ (Nat.ne_of_gt (Heap.lt_size e'))]
  exact Heap.get?_push_of_some _ e'
theorem getItem_out {m : Bool} {l : Addr} {items : Array Value} {k : Int} {t : Tok} {Q : Value → Shared → Prop} (hA : HOk m A s.heap) (hl : s.heap.IsList l items) (h0 : 0 ≤ k) (hout : (items.size : Int) ≤ k) (hhi : k < 2 ^ 63)
    (hE : ∀ h' tk e, NewX m s.heap h' e → E (.ref e) { s with heap := h', toks := tk }) : wpAny (model prog w) A (getItem (.ref l) (.int k t)) Q E s := by
  cases m with
  | true =>
    refine wpAny_getItem_list_out hA hl (.inr hout) (by omega) hhi fun h' tk e x => hE h' tk e ?_
    obtain ⟨k1, k2, ob, t, k3, k4, k5⟩ := x
    exact ⟨k1, k2, ob, _, k3, k4, k5, by simp, rfl, fun _ => rfl⟩
  | false =>
    obtain ⟨e1, o1, vs1, hh, h1, d1, c1⟩ := hA
    obtain ⟨o, ho, hc, ne, hd⟩ := id hl
    unfold getItem
    try with_reducible refine wpAny_holding ?_
    first | refine wpAny_bind (wpAny_pure ?_) | skip
    refine wpAny_bind (wpAny_sequenceKey hl.typeIs (by decide) ?_)
    refine wpAny_bind (wpAny_callSpecial?_slot (name := Str.ofString "__getitem__") hl.typeIs slot_list_getitem
      (wpAny_call_entry slot_list_getitem hl.typeIs entry_list_getitem ?_ (args_list_getitem _ _)))
    show wpAny _ _ (Builtin.List.listSubscript? (.int k t) >>= _) _ _ s
    refine wpAny_bind (wpAny_listSubscript_int (fitsIndex_both (by omega) hhi) ?_)
    clear hhi
    obtain ⟨j, rfl⟩ := Int.eq_ofNat_of_zero_le h0
    have hx : items[j]? = none := Array.getElem?_eq_none (by omega)
    show wpAny _ _ ((seqItemAt l j >>= fun r => pure (r.map (j, ·))) >>= _) _ _ s
    refine wpAny_bind (wpAny_bind (wpAny_seqItemAt ho hd (wpAny_pure ?_)))
    rw [hx]
    first
      | exact wpAny_bind (wpAny_rule (raiseWords_chain hh h1 d1 c1 hE))
      | exact wpAny_bind (wpAny_rule (wpAny_bind (raiseWords_chain hh h1 d1 c1 hE)))
      | exact wpAny_bind (wpAny_bind (wpAny_rule (raiseWords_chain hh h1 d1 c1 hE)))
      | exact wpAny_rule (raiseWords_chain hh h1 d1 c1 hE)
end
end Mine
namespace Mine
section
variable {W : Wd} {n : Nat} {env : Env} {lf : List Env} {hE h h' : Heap} {Xo Y : List Addr} {al : Al} {σ σ₁ σ₂ : Sig} {ρ ρx : Rho} {m k : Bool}

noncomputable def RaisesX (m : Bool) (W : Wd) (s : Shared) (ev : Value) (s' : Shared) : Prop := ∃ a h' tk, ev = .ref a ∧ s' = { s with heap := h', toks := tk } ∧ Gr s.heap h' ∧ (W.hB.StaysIn s.heap → W.hB.StaysIn h') ∧ s.heap.get? a = none ∧
  ∃ oe vs, h'.get? a = some oe ∧ oe.cls = .type "IndexError" ∧ oe.data = .fields vs ∧ 2 < vs.size ∧ vs[1]? = some .none ∧ (m = true → vs[2]? = some .none)
noncomputable def EvR (W : Wd) (m : Bool) (env : Env) (ρ : Rho) (e : Expr) : Prop :=
  ∀ A lf X s, AOk 0 A lf → HOk m A s.heap → Rd W env lf s.heap X ρ → wpAny (model W.prog W.w) A (eval e env) (fun _ _ => False) (RaisesX m W s) s
noncomputable def TrR (W : Wd) (m : Bool) (env : Env) (ρ : Rho) (e : Expr) : Prop :=
  ∀ A lf X s, AOk 0 A lf → HOk m A s.heap → Rd W env lf s.heap X ρ → wpAny (model W.prog W.w) A (isTrue e env (eval e env)) (fun _ _ => False) (RaisesX m W s) s
noncomputable def PostR (W : Wd) (env : Env) (lf : List Env) (hE : Heap) (Xo : List Addr) (k : Bool) (s : Shared) (σ' : Sig) (ev : Value) (s' : Shared) : Prop :=
  ∃ a h' tk, ev = .ref a ∧ s' = { s with heap := h', toks := tk } ∧ ∃ Y al fl, StY W env lf hE Xo Y al σ' h' ∧ (fl = none ∨ fl = some (rawInt env.locals)) ∧ Fly W k fl hE Y a h'
noncomputable def ExR (W : Wd) (m k : Bool) (env : Env) (σ : Sig) (t : Sem Flow) (σ' : Sig) : Prop :=
  ∀ A lf hE Xo Y al s, AOk 0 A lf → HOk m A hE → StY W env lf hE Xo Y al σ s.heap → wpAny (model W.prog W.w) A t (fun _ _ => False) (PostR W env lf hE Xo k s σ') s

theorem EvR.sub {l r : Expr} {pos : Pos} {ds : List D} {i : Int} {s1 s2 : Bool} (hl : Ev W 0 env ρ l (.list ds) s1) (hr : Ev W 0 env ρ r (.int i) s2) (h0 : 0 ≤ i) (ho : (ds.length : Int) ≤ i) (hi : i < 100000) : EvR W m env ρ (.Subscript l r pos) := by
  intro A lf X s a hk R
  refine Subscript_ ((hl A lf X s a R).to fun v1 h1 t1 g1 b1 r1 => ((hr A lf X _ a (R.gr g1 b1)).to fun v2 h2 t2 g2 b2 r2 => ?_))
  have r1' := r1.gr g2
  rw [Rep_list] at r1'
  rw [Rep_int] at r2
  obtain ⟨c, vs, rfl, _, hlc, hrc⟩ := r1'
  obtain ⟨t, rfl⟩ := r2
  have hn := hrc.length
  obtain ⟨ops, hops⟩ := sub_ops r (.ref c) (.int i t)
  refine tail_any hlc.is.typeIs slot_list_getitem.lookup (getItem_out (s := { s with heap := h2, toks := t2 }) (hk.up (g1.trans g2)) hlc.is h0 (by simp; omega) (by omega) fun h' tk e x => ?_) hops
  have gg := g1.trans g2
  obtain ⟨oe, vs, k1, k2, k3, k4, k5, k6⟩ := x.there
  refine ⟨e, h', tk, rfl, rfl, gg.trans (Gr.of_keep x.keeps), fun bb b o q => x.keeps b o (b2 (b1 bb) b o q), ?_, oe, vs, k1, k2, k3, k4, k5, k6⟩
  cases q : s.heap.get? e with
  | none => rfl
  | some o => obtain ⟨o', e', _⟩ := gg e o q; have := x.new; rw [show ({ s with heap := h2, toks := t2 } : Shared).heap = h2 from rfl, e'] at this; cases this
theorem TrR.cmp {op : COp} {l r : Expr} {pos : Pos} (hl : EvR W m env ρ l) (hm : behindInMarks op.op r = false) : TrR W m env ρ (.Compare l [op.op] [r] pos) := by
  intro A lf X s a hk R
  exact wpAny_isTrue_Compare1 (wpAny_mono (hl A lf X s a hk R) (fun _ _ e => e.elim) fun _ _ e => e) hm
theorem RaisesX.post {s : Shared} {ev : Value} {s' : Shared} (x : RaisesX m W s ev s') (q : StY W env lf hE Xo Y al σ s.heap) : PostR W env lf hE Xo m s σ ev s' := by
  obtain ⟨a, h', tk, e1, e2, g, b, hn, oe, vs, k1, k2, k3, k4, k5, k6⟩ := x
  refine ⟨a, h', tk, e1, e2, Y, al, none, q.up g b, .inl rfl, ?_, ?_, fun hm => ?_, oe, vs, k1, k2, k3, k4, k6, k5⟩
  · cases e : hE.get? a with
    | none => rfl
    | some o => obtain ⟨o', e', _⟩ := q.gr a o e; rw [hn] at e'; cases e'
  · cases e : W.hB.get? a with
    | none => rfl
    | some o => have := q.base a o e; rw [hn] at this; cases this
  · obtain ⟨o, e⟩ := q.live a (List.mem_append_left _ hm); rw [hn] at e; cases e
theorem ExR.assign {x : Str} {p pos : Pos} {e : Expr} (v : EvR W m env (rho σ) e) (hs : swapsWith e (some (.Name x p)) pos.line env = pure false) : ExR W m m env σ (exec (.Assign [.Name x p] e pos) env) σ := by
  intro A lf hE Xo Y al s a hk q
  exact wpAny_Assign_Name (wpAny_mono (v A lf _ s a (hk.up q.gr) q.rd) (fun _ _ e => e.elim) fun _ _ e => e.post q) hs
theorem PostR.re {s : Shared} {h₁ : Heap} {tk₁ : Nat} {ev : Value} {s' : Shared} (x : PostR W env lf hE Xo k { s with heap := h₁, toks := tk₁ } σ ev s') : PostR W env lf hE Xo k s σ ev s' :=
  let ⟨a, h', tk, e1, e2, r⟩ := x; ⟨a, h', tk, e1, e2, r⟩
theorem ExR.cons {st : Stmt} {rest : List Stmt} (x : Ex W 0 env σ (exec st env) .next σ₁) (y : ExR W m k env σ₁ (execs rest env) σ₂) : ExR W m k env σ (execs (st :: rest) env) σ₂ := by
  intro A lf hE Xo Y al s a hk q
  refine wpAny_execs_cons (wpAny_mono (x A lf hE Xo Y al s a q) (fun f s' hf => ?_) fun _ _ e => e.elim)
  obtain ⟨h', tk, rfl, rfl, Y', al', q'⟩ := hf
  exact wpAny_mono (y A lf hE Xo Y' al' _ a hk q') (fun _ _ e => e) fun _ _ e => e.re
theorem ExR.stop {st : Stmt} {rest : List Stmt} (x : ExR W m k env σ (exec st env) σ₁) : ExR W m k env σ (execs (st :: rest) env) σ₁ := fun A lf hE Xo Y al s a hk q =>
  wpAny_execs_cons (wpAny_mono (x A lf hE Xo Y al s a hk q) (fun _ _ e => e.elim) fun _ _ e => e)
theorem ExR.ifT {t : Expr} {body els : List Stmt} {pos : Pos} (b : Tr W 0 env (rho σ) t true) (y : ExR W m k env σ (execs body env) σ₁) : ExR W m k env σ (exec (.If t body els pos) env) σ₁ := by
  intro A lf hE Xo Y al s a hk q
  refine wpAny_If ((b A lf _ s a q.rd).to fun c h1 t1 g1 b1 r1 => ?_)
  subst r1
  exact wpAny_mono (y A lf hE Xo Y al _ a hk (q.up g1 b1)) (fun _ _ e => e.elim) fun _ _ e => e.re
theorem ExR.ifF {t : Expr} {body els : List Stmt} {pos : Pos} (b : Tr W 0 env (rho σ) t false) (y : ExR W m k env σ (execs els env) σ₁) : ExR W m k env σ (exec (.If t body els pos) env) σ₁ := by
  intro A lf hE Xo Y al s a hk q
  refine wpAny_If ((b A lf _ s a q.rd).to fun c h1 t1 g1 b1 r1 => ?_)
  subst r1
  exact wpAny_mono (y A lf hE Xo Y al _ a hk (q.up g1 b1)) (fun _ _ e => e.elim) fun _ _ e => e.re

/-- a noted exception comes back to its own frame -/
theorem back_ok {M : Model} {A : Around} {E : Value → Shared → Prop} {s : Shared} {v : Value} {e : Addr} (fe : FEnv env) (q : StY W env lf hE Xo Y al σ s.heap) (f : Fly W k (some v) hE Y e s.heap)
    (hQ : ∀ h', StY W env lf hE Xo Y al σ h' → Fly W k (some (rawInt env.locals)) hE Y e h' → E (.ref e) { s with heap := h' }) : cameBackBy M A env E (.ref e) s := by
  obtain ⟨oe, vs, he, hc, hd, hs, h2, T, oT, ts, t1, _⟩ := f.there
  unfold cameBackBy
  refine wpAny_bind (wpAny_field he hd t1 ?_)
  rw [if_neg (show ¬ ((Value.ref T == Value.none) = true) from by simp)]
  rw [fe.frame]
  first
    | exact wpAny_bind (wpAny_pure (flight_ok (fr := some env.locals) q f hQ))
    | exact flight_ok (fr := some env.locals) q f hQ
/-- out of a piece of code of the frame's own -/
theorem own_ok {M : Model} {A A' : Around} {E : Value → Shared → Prop} {s : Shared} {fl : Option Value} {e : Addr} (fe : FEnv env) (ha : A'.frames = some lf) (q : StY W env lf hE Xo Y al σ s.heap)
    (f : Fly W k fl hE Y e s.heap) (hfl : fl = none ∨ fl = some (rawInt env.locals)) (hQ : ∀ h', StY W env lf hE Xo Y al σ h' → Fly W k (some (rawInt env.locals)) hE Y e h' → E (.ref e) { s with heap := h' }) : notedBy M A' env (cameBackBy M A env E) (.ref e) s :=
  note_ok fe ha q f hfl fun _ q' f' => back_ok fe q' f' hQ
theorem ExR.while {test : Expr} {body : List Stmt} {pos : Pos} (fe : FEnv env) (t : TrR W m env (rho σ) test) : ExR W m m env σ (exec (.While test body [] pos) env) σ := by
  intro A lf hE Xo Y al s a hk q
  refine wpAny_While (codeAny_whileLoop (fun _ s' => s' = s) ?_ 0 rfl)
  rintro j s' rfl
  refine wpAny_mono (t A lf _ _ a (hk.up q.gr) q.rd) (fun _ _ e => e.elim) fun ev s₁ x => ?_
  obtain ⟨e, h', tk, rfl, rfl, Y', al', fl, q', hfl, f⟩ := x.post q
  exact own_ok (M := model W.prog W.w) (A := A) fe a.2.1 q' f hfl fun h'' q'' f' => ⟨e, h'', tk, rfl, rfl, Y', al', _, q'', .inr rfl, f'⟩

theorem AOk.mark {A : Around} (a : AOk n A lf) (v : Option Value) : AOk 0 (A.mark v) lf := ⟨fun q => absurd q (Nat.lt_irrefl _), a.2.1, by have := a.2.2.1; show A.depth + 20 * 0 ≤ 800; omega, by have := a.2.2.2; show A.units + 100 * 0 ≤ 9000; omega⟩
theorem sub_ix : isSubtype (.type "IndexError") (.type "IndexError") = pure true := by rw [isSubtype_type]; kernel_rfl
theorem sub_ixb : isSubtype (.type "IndexError") (.type "BaseException") = pure true := by rw [isSubtype_type]; kernel_rfl
theorem ix_nt : isSubtype (.type ((Manifest.find? "IndexError").elim "type" fun x => x.metatype)) (.type "tuple") = pure false := by rw [isSubtype_type]; kernel_rfl

theorem Ex.catch {body suite : List Stmt} {b₀ : Stmt} {p hp pos : Pos} {fl : Fl} (B : Bs W) (fe : FEnv env) (hx : env.kindOf "IndexError" = some .globalImplicit) (x : ExR W true k env σ (execs body env) σ₁) (y : Ex W 0 env σ₁ (execs (b₀ :: suite) env) fl σ₂) :
    Ex W (n + 1) env σ (exec (.Try body [.ExceptHandler (some (.Name "IndexError" p)) none (b₀ :: suite) hp] [] [] pos) env) fl σ₂ := by
  intro A lf hE Xo Y al s a q
  refine wpAny_Try_except (wpAny_mono (x A lf hE Xo Y al s (a.le (Nat.zero_le _)) (a.1 (Nat.succ_pos _)) q) (fun _ _ e => e.elim) fun ev s₁ z => ?_)
  obtain ⟨e, h₁, tk₁, rfl, rfl, Y', al', fl', q', hfl, f⟩ := z
  refine note_ok (M := model W.prog W.w) fe a.2.1 q' f hfl fun h₂ q₂ f₂ => ?_
  refine flight_ok (fr := none) q₂ f₂ fun h₃ q₃ f₃ => ?_
  refine wpAny_handleBy_builtin (X := "IndexError") (T := "IndexError") (b := true) sub_ixb ix_nt sub_ix (name_blt B.base fe.ok hx (by decide) B.IndexError q₃.base ?_)
  obtain ⟨oe, vs, he, hc, _⟩ := f₃.there
  refine ⟨rfl, ⟨oe, he, hc⟩, ?_⟩
  rw [if_pos rfl]
  refine flight_ok (fr := none) q₃ f₃ fun h₄ q₄ f₄ => ?_
  exact wpAny_mono (y (A.mark (some (.ref e))) lf hE Xo Y' al' _ (a.mark _) q₄) (fun f s₂ ⟨h₅, tk₅, e₅, r⟩ => ⟨h₅, tk₅, e₅, r⟩) fun _ _ e => e.elim
theorem Ex.tryOk {body : List Stmt} {h₀ : ExceptHandler} {hs : List ExceptHandler} {pos : Pos} (x : Ex W n env σ (execs body env) .next σ₁) : Ex W n env σ (exec (.Try body (h₀ :: hs) [] [] pos) env) .next σ₁ := by
  intro A lf hE Xo Y al s a q
  refine wpAny_Try_except (wpAny_mono (x A lf hE Xo Y al s a q) (fun f s₁ z => ?_) fun _ _ e => e.elim)
  obtain ⟨h', tk, rfl, rfl, r⟩ := z
  exact wpAny_execs_nil ⟨h', tk, rfl, rfl, r⟩
theorem Ex.tryRet {body : List Stmt} {h₀ : ExceptHandler} {hs : List ExceptHandler} {pos : Pos} {d : D} (x : Ex W n env σ (execs body env) (.ret d) σ₁) : Ex W n env σ (exec (.Try body (h₀ :: hs) [] [] pos) env) (.ret d) σ₁ := by
  intro A lf hE Xo Y al s a q
  refine wpAny_Try_except (wpAny_mono (x A lf hE Xo Y al s a q) (fun f s₁ z => ?_) fun _ _ e => e.elim)
  obtain ⟨h', tk, rfl, v, rfl, r⟩ := z
  exact ⟨h', tk, rfl, v, rfl, r⟩
theorem Ex.finOk {body final : List Stmt} {f₀ : Stmt} {pos : Pos} (x : Ex W n env σ (execs body env) .next σ₁) (y : Ex W n env σ₁ (execs (f₀ :: final) env) .next σ₂) : Ex W n env σ (exec (.Try body [] [] (f₀ :: final) pos) env) .next σ₂ := by
  intro A lf hE Xo Y al s a q
  refine wpAny_Try_finally (wpAny_mono (x A lf hE Xo Y al s a q) (fun f s₁ z => ?_) fun _ _ e => e.elim)
  obtain ⟨h', tk, rfl, rfl, Y', al', q'⟩ := z
  refine wpAny_execs_nil (wpAny_mono (y A lf hE Xo Y' al' _ a q') (fun f s₂ z => ?_) fun _ _ e => e.elim)
  obtain ⟨h'', tk', rfl, rfl, r⟩ := z
  exact ⟨h'', tk', rfl, rfl, r⟩
theorem ExR.finOk {body final : List Stmt} {f₀ : Stmt} {pos : Pos} (fe : FEnv env) (x : Ex W 0 env σ (execs body env) .next σ₁) (y : ExR W m k env σ₁ (execs (f₀ :: final) env) σ₂) : ExR W m k env σ (exec (.Try body [] [] (f₀ :: final) pos) env) σ₂ := by
  intro A lf hE Xo Y al s a hk q
  refine wpAny_Try_finally (wpAny_mono (x A lf hE Xo Y al s a q) (fun f s₁ z => ?_) fun _ _ e => e.elim)
  obtain ⟨h', tk, rfl, rfl, Y', al', q'⟩ := z
  refine wpAny_execs_nil (wpAny_mono (y A lf hE Xo Y' al' _ a hk q') (fun _ _ e => e.elim) fun ev s₂ z => ?_)
  obtain ⟨e, h₁, tk₁, rfl, rfl, Y₂, al₂, fl', q₂, hfl, f⟩ := z
  exact own_ok (M := model W.prog W.w) (A := A) fe a.2.1 q₂ f hfl fun h₂ q₃ f₂ => ⟨e, h₂, tk₁, rfl, rfl, Y₂, al₂, _, q₃, .inr rfl, f₂⟩
/-- the body raises, the last suite runs through: the exception goes on -/
theorem ExR.finR {body final : List Stmt} {f₀ : Stmt} {pos : Pos} (fe : FEnv env) (x : ExR W m k env σ (execs body env) σ₁) (y : Ex W 0 env σ₁ (execs (f₀ :: final) env) .next σ₂) : ExR W m k env σ (exec (.Try body [] [] (f₀ :: final) pos) env) σ₂ := by
  intro A lf hE Xo Y al s a hk q
  refine wpAny_Try_finally (wpAny_mono (x A lf hE Xo Y al s a hk q) (fun _ _ e => e.elim) fun ev s₁ z => ?_)
  obtain ⟨e, h₁, tk₁, rfl, rfl, Y', al', fl', q', hfl, f⟩ := z
  refine note_ok (M := model W.prog W.w) fe a.2.1 q' f hfl fun h₂ q₂ f₂ => (⟨(fun z => by cases z), ?_⟩ : _ ∧ _)
  refine note_ok (M := model W.prog W.w) fe a.2.1 q₂ f₂ (.inr rfl) fun h₃ q₃ f₃ => ?_
  refine flight_ok (fr := none) q₃ f₃ fun h₄ q₄ f₄ => ?_
  refine wpAny_mono (y (A.mark (some (.ref e))) lf _ Xo Y' al' _ (a.mark _) q₄.rebase) (fun fw s₂ z => ?_) fun _ _ e => e.elim
  obtain ⟨h₅, tk₅, rfl, rfl, Y₅, al₅, q₅⟩ := z
  have f₅ := f₄.on q₅.gr q₅.new
  have q₆ := q₅.unbase q₄.gr q₄.new
  obtain ⟨oe, vs, he, hc, hd, hs, h2, T, oT, ts, t1, _⟩ := f₅.there
  show wpAny _ A (passOn "try.finally" (.ref e) env) _ _ _
  unfold PySem.passOn
  refine wpAny_bind (wpAny_field he hd t1 ?_)
  rw [if_neg (show ¬ ((Value.ref T == Value.none) = true) from by simp)]
  rw [fe.frame]
  have fin : ∀ h', StY W env lf hE Xo Y₅ al₅ σ₂ h' → Fly W k (some (rawInt env.locals)) hE Y₅ e h' → PostR W env lf hE Xo k s σ₂ (.ref e) { s with heap := h', toks := tk₅ } := fun h' q' f' => ⟨e, h', tk₅, rfl, rfl, Y₅, al₅, _, q', .inr rfl, f'⟩
  first
    | exact wpAny_bind (flight_ok (fr := some env.locals) q₆ f₅ fun h' q' f' => wpAny_throw (fin h' q' f'))
    | exact wpAny_bind (wpAny_pure (wpAny_bind (flight_ok (fr := some env.locals) q₆ f₅ fun h' q' f' => wpAny_throw (fin h' q' f'))))
/-- the body raises, and so does the last suite -/
theorem ExR.finRR {body final : List Stmt} {f₀ : Stmt} {pos : Pos} (fe : FEnv env) (x : ExR W true true env σ (execs body env) σ₁) (y : ExR W false k env σ₁ (execs (f₀ :: final) env) σ₂) : ExR W true k env σ (exec (.Try body [] [] (f₀ :: final) pos) env) σ₂ := by
  intro A lf hE Xo Y al s a hk q
  refine wpAny_Try_finally (wpAny_mono (x A lf hE Xo Y al s a hk q) (fun _ _ e => e.elim) fun ev s₁ z => ?_)
  obtain ⟨e, h₁, tk₁, rfl, rfl, Y', al', fl', q', hfl, f⟩ := z
  refine note_ok (M := model W.prog W.w) fe a.2.1 q' f hfl fun h₂ q₂ f₂ => (⟨(fun z => by cases z), ?_⟩ : _ ∧ _)
  refine note_ok (M := model W.prog W.w) fe a.2.1 q₂ f₂ (.inr rfl) fun h₃ q₃ f₃ => ?_
  refine flight_ok (fr := none) q₃ f₃ fun h₄ q₄ f₄ => ?_
  obtain ⟨oe, vs, he, hc, hd, hs, h2, _⟩ := f₄.there
  refine wpAny_mono (y (A.mark (some (.ref e))) lf _ Xo Y' al' _ (a.mark _) ⟨e, oe, vs, rfl, hideAll_get _ he f₄.out, hd, h2 rfl⟩ q₄.rebase) (fun _ _ e => e.elim) fun ev s₂ z => ?_
  obtain ⟨e₂, h₅, tk₅, rfl, rfl, Y₅, al₅, fl₅, q₅, hfl₅, f₅⟩ := z
  have q₆ := q₅.unbase q₄.gr q₄.new
  have up : ∀ {c : Addr}, (hideAll h₄ Y').get? c = none → c ∉ Y₅ → hE.get? c = none := fun {c} hc _ => by
    cases e' : hE.get? c with
    | none => rfl
    | some o =>
      obtain ⟨o', e'', _⟩ := q₄.gr c o e'
      have hb : c ∉ Y' := fun hy => by rw [q₄.new c hy] at e'; cases e'
      rw [hideAll_get _ e'' hb] at hc; cases hc
  have f₆ : Fly W k fl₅ hE Y₅ e₂ h₅ := by
    obtain ⟨oe, vs, he, hc, hd, hs, h2, ht⟩ := f₅.there
    refine ⟨up f₅.new f₅.out, f₅.bnew, f₅.out, oe, vs, he, hc, hd, hs, h2, ?_⟩
    cases fl₅ with
    | none => exact ht
    | some v =>
      obtain ⟨T, oT, ts, t1, t2, t3, t4, t8, t5, t6, t7⟩ := ht
      exact ⟨T, oT, ts, t1, t2, up t3 t8, t4, t8, t5, t6, t7⟩
  exact own_ok (M := model W.prog W.w) (A := A) fe a.2.1 q₆ f₆ hfl₅ fun h₂ q₃ f₂ => ⟨e₂, h₂, tk₅, rfl, rfl, Y₅, al₅, _, q₃, .inr rfl, f₂⟩
end
end Mine
namespace Mine
section
variable {W : Wd} {n : Nat} {env : Env} {σ σ₁ σ₂ : Sig} {ρ ρx : Rho} {m k : Bool}

theorem pickRun {α : Type} : ∀ (ds : List α) (a c : Nat), ((List.range c).map (a + ·)).filterMap (ds[·]?) = (ds.drop a).take c := by
  intro ds a c
  induction c with
  | zero => simp
  | succ c ih =>
    rw [List.range_succ, List.map_append, List.filterMap_append, ih, List.take_add_one, List.getElem?_drop]
    congr 1
theorem slD_nat {ds : List D} (a : Nat) (h : a ≤ ds.length) : slD ds (some (a : Int)) none none = ds.drop a := by
  unfold slD
  rw [sliceBounds_plain]
  simp only [Option.elim_some, Option.elim_none, clipAt_nat, Nat.min_eq_left h]
  rw [sliceRange_one, pickRun, List.take_of_length_le]
  simp
theorem slD_to {ds : List D} (b : Nat) (h : b ≤ ds.length) : slD ds none (some (b : Int)) none = ds.take b := by
  unfold slD
  rw [sliceBounds_plain]
  simp only [Option.elim_some, Option.elim_none, clipAt_nat, Nat.min_eq_left h]
  rw [sliceRange_one, pickRun]; simp
theorem slD_two {ds : List D} (a b : Nat) : slD ds (some (a : Int)) (some (b : Int)) none = (ds.drop a).take (b - a) := by
  unfold slD
  rw [sliceBounds_plain]
  simp only [Option.elim_some, clipAt_nat]
  rw [sliceRange_one, pickRun]
  rcases Nat.le_total a ds.length with h | h
  · rw [Nat.min_eq_left h]
    rcases Nat.le_total b ds.length with h' | h'
    · rw [Nat.min_eq_left h']
    · rw [Nat.min_eq_right h', List.take_of_length_le (by simp), List.take_of_length_le (by simp; omega)]
  · rw [Nat.min_eq_right h, List.drop_eq_nil_of_le h, List.drop_eq_nil_of_le (Nat.le_refl _)]; simp
theorem ExR.to {t : Sem Flow} (x : ExR W m k env σ t σ₂) (h : Sub σ₁ σ₂) : ExR W m k env σ t σ₁ := fun A lf hE Xo Y al s a hk q => by
  refine wpAny_mono (x A lf hE Xo Y al s a hk q) (fun _ _ e => e) fun ev s' z => ?_
  obtain ⟨e, h', tk, e1, e2, Y', al', fl, q', hfl, f⟩ := z
  exact ⟨e, h', tk, e1, e2, Y', al', fl, q'.fewer h.lookup, hfl, f⟩
theorem Ex.assign2 {x y : Str} {p p' pos : Pos} {e : Expr} {d : D} (fe : FEnv env) (sx : Storable env x) (sy : Storable env y) (v : Ev W n env (rho σ) e d true) (hf : flat d = true) (hw : swappedStores [.Name x p, .Name y p'] e env = pure none) :
    Ex W n env σ (exec (.Assign [.Name x p, .Name y p'] e pos) env) .next (put y (.fz d) (put x (.fz d) σ)) := by
  intro A lf hE Xo Y al s a q
  refine wpAny_Assign_two ((v A lf _ s a q.rd).to fun v1 h1 t1 g1 b1 r1 => ?_) rfl hw
  refine wpAny_assign_Name (st_store fe (q.up g1 b1) sx r1 fun h' tk q' => ?_)
  exact wpAny_assign_Name (st_store fe q' sy (r1.flat hf) fun h'' tk' q'' => ⟨h'', tk', rfl, rfl, Y, al, q''⟩)

/-! sorted_list_difference -/
noncomputable def sldGo : List Str → List Str → List Str → List Str → List Str × List Str
  | [], as, M, U => (M, U ++ as)
  | e :: es, [], M, U => (M ++ e :: es, U)
  | e :: es, a :: as, M, U => if strLt e a = true then sldGo es (a :: as) (M ++ [e]) U else if strLt a e = true then sldGo (e :: es) as M (U ++ [a]) else sldGo es as M U
termination_by es as => es.length + as.length
/-- neighbours differ -/
noncomputable def apartS : List Str → Bool
  | x :: y :: r => !(y == x) && apartS (y :: r)
  | _ => true
theorem apartS_tail {x : Str} {r : List Str} (h : apartS (x :: r) = true) : apartS r = true := by
  cases r with
  | nil => rfl
  | cons y r => simp only [apartS, Bool.and_eq_true] at h; exact h.2
theorem apartS_head {x y : Str} {r : List Str} (h : apartS (x :: y :: r) = true) : (y == x) = false := by
  simp only [apartS, Bool.and_eq_true, Bool.not_eq_true'] at h; exact h.1

noncomputable def sldSig (E A : List Str) (M U : List Str) (i j : Nat) : Sig := [("expected", .fz (.list (strsD E))), ("actual", .fz (.list (strsD A))), ("missing", .own (strsD M)), ("unexpected", .own (strsD U)), ("i", .fz (.int (i : Int))), ("j", .fz (.int (j : Int)))]
noncomputable def outSig (M U : List Str) : Sig := [("missing", .own (strsD M)), ("unexpected", .own (strsD U))]
theorem idxAt {E es : List Str} {e : Str} {i : Nat} (h : E.drop i = e :: es) (hi : E.length < 1000) : idx (.list (strsD E)) (.int (i : Int)) = some (.str e) := by
  have hlt : i < E.length := by
    rcases Nat.lt_or_ge i E.length with h' | h'
    · exact h'
    · rw [List.drop_eq_nil_of_le h'] at h; cases h
  simp only [idx]
  rw [if_pos ⟨by omega, by omega⟩]
  have : E[i]? = some e := by
    have : (E.drop i)[0]? = some e := by rw [h]; rfl
    simpa using this
  simp [this]
theorem dropAt {E es : List Str} {e : Str} {i : Nat} (h : E.drop i = e :: es) : E.drop (i + 1) = es := by
  rw [← List.drop_drop, h]; rfl
theorem lenAt {E : List Str} {i : Nat} (h : E.drop i = []) : E.length ≤ i := List.drop_eq_nil_iff.mp h
theorem slAt {E es : List Str} {i : Nat} (h : E.drop i = es) (hi : E.length < 1000) (hle : i ≤ E.length) : sl (.list (strsD E)) (some (i : Int)) none none = some (.list (strsD es)) := by
  rw [sl_list (by simp; omega) (by decide), slD_nat i (by simpa using hle)]
  simp [strsD, ← h, List.map_drop]

noncomputable def pass0 : Stmt := .Pass ⟨0, 0, 0, 0⟩
noncomputable def tryB : Stmt → List Stmt
  | .Try b _ _ _ _ => b
  | _ => []
noncomputable def hSuite : Stmt → List Stmt
  | .Try _ (.ExceptHandler _ _ b _ :: _) _ _ _ => b
  | _ => []
noncomputable def ifB : Stmt → List Stmt
  | .If _ b _ _ => b
  | _ => []
noncomputable def ifE : Stmt → List Stmt
  | .If _ _ b _ => b
  | _ => []
noncomputable abbrev sldT : Stmt := (whBody ((dBody (stAt 19)).getD 3 pass0)).getD 0 pass0
theorem lopApp {M : List Str} {e : Str} (h : M.length < 1000) : lop .append (strsD M) [.str e] = some (strsD (M ++ [e])) := by
  simp only [lop]; rw [if_pos (by simp; omega)]; simp
theorem lopExt {M es : List Str} (h : M.length + es.length < 1000) : lop .extend (strsD M) [.list (strsD es)] = some (strsD (M ++ es)) := by
  simp only [lop]; rw [if_pos (by simp; omega)]; simp
theorem sld_hand (fe : FEnv env) {E A M U es as : List Str} {i j : Nat} (he : E.drop i = es) (ha : A.drop j = as) (hi : i ≤ E.length) (hj : j ≤ A.length) (lE : E.length < 100) (lA : A.length < 100) (lM : M.length < 300) (lU : U.length < 300) :
    Ex W 0 env (sldSig E A M U i j) (execs (hSuite sldT) env) .brk (outSig (M ++ es) (U ++ as)) := by
  have l1 : es.length ≤ E.length := by rw [← he]; simp
  have l2 : as.length ≤ A.length := by rw [← ha]; simp
  refine Ex.cons (Ex.lop (o := .extend) (ds := strsD M) (es := [.list (strsD es)]) (rs := strsD (M ++ es)) fe (fun q => nomatch q) rfl rfl rfl (by decide) rfl (notI fe) (EvL.cons (Ev.slice (s1 := true) (Ev.name fe.ok rfl rfl) (.some (Ev.name fe.ok rfl rfl)) .none .none (slAt he (by omega) hi)) EvL.nil rfl) (lopExt (by omega))) ?_
  refine Ex.cons (Ex.lop (o := .extend) (ds := strsD U) (es := [.list (strsD as)]) (rs := strsD (U ++ as)) fe (fun q => nomatch q) rfl rfl rfl (by decide) rfl (notI fe) (EvL.cons (Ev.slice (s1 := true) (Ev.name fe.ok rfl rfl) (.some (Ev.name fe.ok rfl rfl)) .none .none (slAt ha (by omega) hj)) EvL.nil rfl) (lopExt (by omega))) ?_
  exact Ex.to (Ex.stop Ex.brk trivial) ⟨rfl, rfl, trivial⟩
end
end Mine
namespace Mine
section
variable {W : Wd} {n : Nat} {env : Env} {σ σ₁ σ₂ : Sig} {ρ ρx : Rho} {m k : Bool}
noncomputable abbrev sldI : Stmt := (tryB sldT).getD 2 pass0
noncomputable abbrev sldI2 : Stmt := (ifE sldI).getD 0 pass0
noncomputable abbrev eaSig (E A M U : List Str) (i j : Nat) (e a : Str) : Sig := [("expected", .fz (.list (strsD E))), ("actual", .fz (.list (strsD A))), ("missing", .own (strsD M)), ("unexpected", .own (strsD U)), ("i", .fz (.int (i : Int))), ("j", .fz (.int (j : Int))), ("e", .fz (.str e)), ("a", .fz (.str a))]
variable {E A M U es as : List Str} {i j : Nat} {e a : Str}

theorem sld_e (fe : FEnv env) (hsc : env.scope = dScope (stAt 19)) (he : E.drop i = e :: es) (lE : E.length < 100) : Ex W n env (sldSig E A M U i j) (exec ((tryB sldT).getD 0 pass0) env) .next (put "e" (.fz (.str e)) (sldSig E A M U i j)) :=
  Ex.assign fe (sto hsc rfl) (Ev.sub (s2 := true) (Ev.name fe.ok rfl rfl) (Ev.name fe.ok rfl rfl) (idxAt he (by omega))) rfl
theorem sld_a (fe : FEnv env) (hsc : env.scope = dScope (stAt 19)) (ha : A.drop j = a :: as) (lA : A.length < 100) : Ex W n env (put "e" (.fz (.str e)) (sldSig E A M U i j)) (exec ((tryB sldT).getD 1 pass0) env) .next (eaSig E A M U i j e a) :=
  Ex.assign fe (sto hsc rfl) (Ev.sub (s2 := true) (Ev.name fe.ok rfl rfl) (Ev.name fe.ok rfl rfl) (idxAt ha (by omega))) rfl
theorem sld_eR (fe : FEnv env) (he : E.drop i = []) (hi : i ≤ E.length) (lE : E.length < 100) : ExR W m m env (sldSig E A M U i j) (execs (tryB sldT) env) (sldSig E A M U i j) :=
  ExR.stop (ExR.assign (EvR.sub (ds := strsD E) (i := (i : Int)) (s1 := true) (s2 := true) (Ev.name fe.ok rfl rfl) (Ev.name fe.ok rfl rfl) (by omega) (by have := lenAt he; simp; omega) (by omega)) rfl)
theorem sld_aR (fe : FEnv env) (hsc : env.scope = dScope (stAt 19)) (he : E.drop i = e :: es) (lE : E.length < 100) (ha : A.drop j = []) (hj : j ≤ A.length) (lA : A.length < 100) : ExR W m m env (sldSig E A M U i j) (execs (tryB sldT) env) (sldSig E A M U i j) :=
  ExR.to (ExR.cons (sld_e fe hsc he lE) (ExR.stop (ExR.assign (EvR.sub (ds := strsD A) (i := (j : Int)) (s1 := true) (s2 := true) (Ev.name fe.ok rfl rfl) (Ev.name fe.ok rfl rfl) (by omega) (by have := lenAt ha; simp; omega) (by omega)) rfl))) ⟨rfl, rfl, rfl, rfl, rfl, rfl, trivial⟩
/-- while l[i] == x: the next item is another -/
theorem sld_wOkE (fe : FEnv env) {y : Str} {pos p1 p2 p3 p4 p5 : Pos} {body : List Stmt} (he : E.drop i = y :: es) (hy : (y == e) = false) (lE : E.length < 100) : Ex W n env (eaSig E A M U i j e a) (exec (.While (.Compare (.Subscript (.Name "expected" p1) (.Name "i" p2) p3) [.Eq] [.Name "e" p4] p5) body [] pos) env) .next (eaSig E A M U i j e a) :=
  Ex.while (k := 0) (.done (Tr.cmp (op := .eq) (s1 := true) (Ev.sub (s2 := true) (Ev.name fe.ok rfl rfl) (Ev.name fe.ok rfl rfl) (idxAt he (by omega))) (Ev.name fe.ok rfl rfl) (congrArg some hy) rfl))
theorem sld_wOkA (fe : FEnv env) {y : Str} {pos p1 p2 p3 p4 p5 : Pos} {body : List Stmt} (he : A.drop j = y :: as) (hy : (y == a) = false) (lE : A.length < 100) : Ex W n env (eaSig E A M U i j e a) (exec (.While (.Compare (.Subscript (.Name "actual" p1) (.Name "j" p2) p3) [.Eq] [.Name "a" p4] p5) body [] pos) env) .next (eaSig E A M U i j e a) :=
  Ex.while (k := 0) (.done (Tr.cmp (op := .eq) (s1 := true) (Ev.sub (s2 := true) (Ev.name fe.ok rfl rfl) (Ev.name fe.ok rfl rfl) (idxAt he (by omega))) (Ev.name fe.ok rfl rfl) (congrArg some hy) rfl))
theorem sld_wRE (fe : FEnv env) {pos p1 p2 p3 p4 p5 : Pos} {body : List Stmt} (he : E.drop i = []) (hi : i ≤ E.length) (lE : E.length < 100) : ExR W m m env (eaSig E A M U i j e a) (exec (.While (.Compare (.Subscript (.Name "expected" p1) (.Name "i" p2) p3) [.Eq] [.Name "e" p4] p5) body [] pos) env) (eaSig E A M U i j e a) :=
  ExR.while fe (TrR.cmp (op := .eq) (EvR.sub (ds := strsD E) (i := (i : Int)) (s1 := true) (s2 := true) (Ev.name fe.ok rfl rfl) (Ev.name fe.ok rfl rfl) (by omega) (by have := lenAt he; simp; omega) (by omega)) rfl)
theorem sld_wRA (fe : FEnv env) {pos p1 p2 p3 p4 p5 : Pos} {body : List Stmt} (he : A.drop j = []) (hi : j ≤ A.length) (lE : A.length < 100) : ExR W m m env (eaSig E A M U i j e a) (exec (.While (.Compare (.Subscript (.Name "actual" p1) (.Name "j" p2) p3) [.Eq] [.Name "a" p4] p5) body [] pos) env) (eaSig E A M U i j e a) :=
  ExR.while fe (TrR.cmp (op := .eq) (EvR.sub (ds := strsD A) (i := (j : Int)) (s1 := true) (s2 := true) (Ev.name fe.ok rfl rfl) (Ev.name fe.ok rfl rfl) (by omega) (by have := lenAt he; simp; omega) (by omega)) rfl)
theorem sld_incI (fe : FEnv env) (hsc : env.scope = dScope (stAt 19)) {p pos pe : Pos} {q : Nat} : Ex W n env (eaSig E A M U i j e a) (exec (.AugAssign (.Name "i" p) .Add (.Constant (.int 1) q pe) pos) env) .next (eaSig E A M U (i + 1) j e a) :=
  Ex.to (Ex.augInt (op := .add) (.inl rfl) fe (sto hsc rfl) rfl (Ev.int (st := true))) ⟨rfl, rfl, rfl, rfl, rfl, rfl, rfl, rfl, trivial⟩
theorem sld_incJ (fe : FEnv env) (hsc : env.scope = dScope (stAt 19)) {p pos pe : Pos} {q : Nat} : Ex W n env (eaSig E A M U i j e a) (exec (.AugAssign (.Name "j" p) .Add (.Constant (.int 1) q pe) pos) env) .next (eaSig E A M U i (j + 1) e a) :=
  Ex.to (Ex.augInt (op := .add) (.inl rfl) fe (sto hsc rfl) rfl (Ev.int (st := true))) ⟨rfl, rfl, rfl, rfl, rfl, rfl, rfl, rfl, trivial⟩
theorem sld_appM (fe : FEnv env) (lM : M.length < 300) : Ex W n env (eaSig E A M U i j e a) (exec ((ifB sldI).getD 0 pass0) env) .next (eaSig E A (M ++ [e]) U i j e a) :=
  Ex.lop (o := .append) (ds := strsD M) (es := [.str e]) (rs := strsD (M ++ [e])) fe (fun q => nomatch q) rfl rfl rfl (by decide) rfl (notI fe) (EvL.cons (Ev.name fe.ok rfl rfl) EvL.nil rfl) (lopApp (by omega))
theorem sld_appU (fe : FEnv env) (lU : U.length < 300) : Ex W n env (eaSig E A M U i j e a) (exec ((ifB sldI2).getD 0 pass0) env) .next (eaSig E A M (U ++ [a]) i j e a) :=
  Ex.lop (o := .append) (ds := strsD U) (es := [.str a]) (rs := strsD (U ++ [a])) fe (fun q => nomatch q) rfl rfl rfl (by decide) rfl (notI fe) (EvL.cons (Ev.name fe.ok rfl rfl) EvL.nil rfl) (lopApp (by omega))
theorem sld_lt (fe : FEnv env) {b : Bool} (h : strLt e a = b) : Tr W n env (rho (eaSig E A M U i j e a)) (match sldI with | .If t _ _ _ => t | _ => .Constant .none 0 ⟨0, 0, 0, 0⟩) b :=
  Tr.cmp (op := .lt) (s1 := true) (s2 := true) (Ev.name fe.ok rfl rfl) (Ev.name fe.ok rfl rfl) (congrArg some h) rfl
theorem sld_gt (fe : FEnv env) {b : Bool} (h : strLt a e = b) : Tr W n env (rho (eaSig E A M U i j e a)) (match sldI2 with | .If t _ _ _ => t | _ => .Constant .none 0 ⟨0, 0, 0, 0⟩) b :=
  Tr.cmp (op := .gt) (s1 := true) (s2 := true) (Ev.name fe.ok rfl rfl) (Ev.name fe.ok rfl rfl) (congrArg some h) rfl

/-- behind both items -/
theorem sld_ok (fe : FEnv env) (hsc : env.scope = dScope (stAt 19)) (he : E.drop i = e :: es) (lE : E.length < 100) (ha : A.drop j = a :: as) (lA : A.length < 100) {M' U' : List Str} {i' j' : Nat}
    (x : Ex W n env (eaSig E A M U i j e a) (exec sldI env) .next (eaSig E A M' U' i' j' e a)) : Ex W n env (sldSig E A M U i j) (execs (tryB sldT) env) .next (sldSig E A M' U' i' j') :=
  Ex.cons (sld_e fe hsc he lE) (Ex.cons (sld_a fe hsc ha lA) (Ex.cons x (Ex.to Ex.nil ⟨rfl, rfl, rfl, rfl, rfl, rfl, trivial⟩)))
theorem sld_raise (fe : FEnv env) (hsc : env.scope = dScope (stAt 19)) (he : E.drop i = e :: es) (lE : E.length < 100) (ha : A.drop j = a :: as) (lA : A.length < 100) {M' U' : List Str} {i' j' : Nat}
    (x : ExR W m k env (eaSig E A M U i j e a) (exec sldI env) (eaSig E A M' U' i' j' e a)) : ExR W m k env (sldSig E A M U i j) (execs (tryB sldT) env) (sldSig E A M' U' i' j') :=
  ExR.to (ExR.cons (sld_e fe hsc he lE) (ExR.cons (sld_a fe hsc ha lA) (ExR.stop x))) ⟨rfl, rfl, rfl, rfl, rfl, rfl, trivial⟩
end
end Mine
namespace Mine
section
variable {W : Wd} {n : Nat} {env : Env} {σ σ₁ σ₂ : Sig} {ρ ρx : Rho} {m k : Bool}
theorem sld_whl (B : Bs W) (fe : FEnv env) (hsc : env.scope = dScope (stAt 19)) (E A : List Str) (lE : E.length < 100) (lA : A.length < 100) : ∀ (k : Nat) (es as M U : List Str) (i j : Nat), E.drop i = es → A.drop j = as → i ≤ E.length → j ≤ A.length → es.length + as.length < k → apartS es = true → apartS as = true →
    M.length + es.length < 200 → U.length + as.length < 200 →
    Whl W (n + 1) env (whTest ((dBody (stAt 19)).getD 3 pass0)) (whBody ((dBody (stAt 19)).getD 3 pass0)) k (sldSig E A M U i j) .next (outSig (sldGo es as M U).1 (sldGo es as M U).2)
  | 0, _, _, _, _, _, _, _, _, _, _, hk, _, _, _, _ => absurd hk (Nat.not_lt_zero _)
  | k + 1, es, as, M, U, i, j, he, ha, hi, hj, hk, pe, pa, lM, lU => by
    have tst : Tr W (n + 1) env (rho (sldSig E A M U i j)) (whTest ((dBody (stAt 19)).getD 3 pass0)) true := Tr.val (Ev.bool (st := true)) rfl rfl
    have caught : ∀ {kk : Bool} {M' U' es' as' : List Str} {i' j' : Nat}, E.drop i' = es' → A.drop j' = as' → i' ≤ E.length → j' ≤ A.length → M'.length < 300 → U'.length < 300 → ExR W true kk env (sldSig E A M U i j) (execs (tryB sldT) env) (sldSig E A M' U' i' j') →
        Whl W (n + 1) env (whTest ((dBody (stAt 19)).getD 3 pass0)) (whBody ((dBody (stAt 19)).getD 3 pass0)) (k + 1) (sldSig E A M U i j) .next (outSig (M' ++ es') (U' ++ as')) :=
      fun h1 h2 h3 h4 h5 h6 x => .brk tst (Ex.stop (Ex.catch (suite := (hSuite sldT).tail) (b₀ := (hSuite sldT).getD 0 pass0) B fe (kd hsc rfl) x (sld_hand fe h1 h2 h3 h4 lE lA h5 h6)) trivial)
    have goes : ∀ {M' U' : List Str} {i' j' : Nat} {σf : Sig}, Ex W (n + 1) env (sldSig E A M U i j) (execs (tryB sldT) env) .next (sldSig E A M' U' i' j') → Whl W (n + 1) env (whTest ((dBody (stAt 19)).getD 3 pass0)) (whBody ((dBody (stAt 19)).getD 3 pass0)) k (sldSig E A M' U' i' j') .next σf →
        Whl W (n + 1) env (whTest ((dBody (stAt 19)).getD 3 pass0)) (whBody ((dBody (stAt 19)).getD 3 pass0)) (k + 1) (sldSig E A M U i j) .next σf :=
      fun x y => .next tst (Ex.cons (Ex.tryOk x) Ex.nil) y
    match es, as, he, ha with
    | [], as, he, ha =>
      have := caught (kk := true) he ha hi hj (by omega) (by omega) (sld_eR fe he hi lE)
      simpa [sldGo] using this
    | e :: es, [], he, ha =>
      have := caught (kk := true) he ha hi hj (by omega) (by omega) (sld_aR fe hsc he lE ha hj lA)
      simpa [sldGo] using this
    | e :: es, a :: as, he, ha =>
      simp only [List.length_cons] at hk lM lU
      have hi1 : i + 1 ≤ E.length := by
        have : (E.drop i).length = es.length + 1 := by rw [he]; rfl
        rw [List.length_drop] at this; omega
      have hj1 : j + 1 ≤ A.length := by
        have : (A.drop j).length = as.length + 1 := by rw [ha]; rfl
        rw [List.length_drop] at this; omega
      have he1 := dropAt he
      have ha1 := dropAt ha
      rw [sldGo]
      split
      · rename_i hlt
        cases es with
        | nil =>
          have x : ExR W true true env (eaSig E A M U i j e a) (exec sldI env) (eaSig E A (M ++ [e]) U (i + 1) j e a) := ExR.ifT (sld_lt fe hlt) (ExR.cons (sld_appM fe (by omega)) (ExR.cons (sld_incI fe hsc) (ExR.stop (sld_wRE fe he1 hi1 lE))))
          have := caught he1 ha hi1 hj (by simp; omega) (by omega) (sld_raise fe hsc he lE ha lA x)
          simpa [sldGo] using this
        | cons y es =>
          have x : Ex W (n + 1) env (eaSig E A M U i j e a) (exec sldI env) .next (eaSig E A (M ++ [e]) U (i + 1) j e a) := Ex.ifT (sld_lt fe hlt) (Ex.cons (sld_appM fe (by omega)) (Ex.cons (sld_incI fe hsc) (Ex.cons (sld_wOkE fe he1 (apartS_head pe) lE) Ex.nil)))
          exact goes (sld_ok fe hsc he lE ha lA x) (sld_whl B fe hsc E A lE lA k _ _ _ _ _ _ he1 ha hi1 hj (by simp only [List.length_cons] at hk ⊢; omega) (apartS_tail pe) pa (by simp only [List.length_cons, List.length_append, List.length_nil] at lM ⊢; omega) (by simp only [List.length_cons]; omega))
      · rename_i hlt
        have hlt' : strLt e a = false := by simpa using hlt
        split
        · rename_i hgt
          cases as with
          | nil =>
            have x : ExR W true true env (eaSig E A M U i j e a) (exec sldI env) (eaSig E A M (U ++ [a]) i (j + 1) e a) := ExR.ifF (sld_lt fe hlt') (ExR.stop (ExR.ifT (sld_gt fe hgt) (ExR.cons (sld_appU fe (by omega)) (ExR.cons (sld_incJ fe hsc) (ExR.stop (sld_wRA fe ha1 hj1 lA))))))
            have := caught he ha1 hi hj1 (by omega) (by simp; omega) (sld_raise fe hsc he lE ha lA x)
            simpa [sldGo] using this
          | cons y as =>
            have x : Ex W (n + 1) env (eaSig E A M U i j e a) (exec sldI env) .next (eaSig E A M (U ++ [a]) i (j + 1) e a) := Ex.ifF (sld_lt fe hlt') (Ex.cons (Ex.ifT (sld_gt fe hgt) (Ex.cons (sld_appU fe (by omega)) (Ex.cons (sld_incJ fe hsc) (Ex.cons (sld_wOkA fe ha1 (apartS_head pa) lA) Ex.nil)))) Ex.nil)
            exact goes (sld_ok fe hsc he lE ha lA x) (sld_whl B fe hsc E A lE lA k _ _ _ _ _ _ he ha1 hi hj1 (by simp only [List.length_cons] at hk ⊢; omega) pe (apartS_tail pa) (by simp only [List.length_cons]; omega) (by simp only [List.length_cons, List.length_append, List.length_nil] at lU ⊢; omega))
        · rename_i hgt
          have hgt' : strLt a e = false := by simpa using hgt
          have fin : ∀ {x : Sem Flow → Prop}, True := fun {_} => trivial
          cases es with
          | nil =>
            have bodyR : ExR W true true env (eaSig E A M U (i + 1) j e a) (execs (tryB ((ifE sldI2).getD 1 pass0)) env) (eaSig E A M U (i + 1) j e a) := ExR.stop (sld_wRE fe he1 hi1 lE)
            cases as with
            | nil =>
              have x : ExR W true false env (eaSig E A M U i j e a) (exec sldI env) (eaSig E A M U (i + 1) (j + 1) e a) := ExR.ifF (sld_lt fe hlt') (ExR.stop (ExR.ifF (sld_gt fe hgt') (ExR.cons (sld_incI fe hsc) (ExR.stop (ExR.finRR fe bodyR (ExR.cons (sld_incJ fe hsc) (ExR.stop (sld_wRA fe ha1 hj1 lA))))))))
              have := caught he1 ha1 hi1 hj1 (by omega) (by omega) (sld_raise fe hsc he lE ha lA x)
              simpa [sldGo] using this
            | cons y as =>
              have x : ExR W true true env (eaSig E A M U i j e a) (exec sldI env) (eaSig E A M U (i + 1) (j + 1) e a) := ExR.ifF (sld_lt fe hlt') (ExR.stop (ExR.ifF (sld_gt fe hgt') (ExR.cons (sld_incI fe hsc) (ExR.stop (ExR.finR fe bodyR (Ex.cons (sld_incJ fe hsc) (Ex.cons (sld_wOkA fe ha1 (apartS_head pa) lA) Ex.nil)))))))
              have := caught he1 ha1 hi1 hj1 (by omega) (by omega) (sld_raise fe hsc he lE ha lA x)
              simpa [sldGo] using this
          | cons y es =>
            have bodyO : ∀ {n}, Ex W n env (eaSig E A M U (i + 1) j e a) (execs (tryB ((ifE sldI2).getD 1 pass0)) env) .next (eaSig E A M U (i + 1) j e a) := Ex.cons (sld_wOkE fe he1 (apartS_head pe) lE) Ex.nil
            cases as with
            | nil =>
              have x : ExR W true true env (eaSig E A M U i j e a) (exec sldI env) (eaSig E A M U (i + 1) (j + 1) e a) := ExR.ifF (sld_lt fe hlt') (ExR.stop (ExR.ifF (sld_gt fe hgt') (ExR.cons (sld_incI fe hsc) (ExR.stop (ExR.finOk fe bodyO (ExR.cons (sld_incJ fe hsc) (ExR.stop (sld_wRA fe ha1 hj1 lA))))))))
              have := caught he1 ha1 hi1 hj1 (by omega) (by omega) (sld_raise fe hsc he lE ha lA x)
              simpa [sldGo] using this
            | cons z as =>
              have x : Ex W (n + 1) env (eaSig E A M U i j e a) (exec sldI env) .next (eaSig E A M U (i + 1) (j + 1) e a) := Ex.ifF (sld_lt fe hlt') (Ex.cons (Ex.ifF (sld_gt fe hgt') (Ex.cons (sld_incI fe hsc) (Ex.cons (Ex.finOk bodyO (Ex.cons (sld_incJ fe hsc) (Ex.cons (sld_wOkA fe ha1 (apartS_head pa) lA) Ex.nil))) Ex.nil))) Ex.nil)
              exact goes (sld_ok fe hsc he lE ha lA x) (sld_whl B fe hsc E A lE lA k _ _ _ _ _ _ he1 ha1 hi1 hj1 (by simp only [List.length_cons] at hk ⊢; omega) (apartS_tail pe) (apartS_tail pa) (by simp only [List.length_cons] at lM ⊢; omega) (by simp only [List.length_cons] at lU ⊢; omega))

theorem bind2 {f : Str} {i : Nat} {x y : Str} (h : ∀ pm cd doc v u, bindArgs (Calls.docDef f (dArgs (stAt i)) (dBody (stAt i)) (dScope (stAt i)) pm cd doc) ⟨[v, u], []⟩ = pure [(x, v), (y, u)]) :
    ∀ pm cd doc (vs : List Value), vs.length = [x, y].length → bindArgs (Calls.docDef f (dArgs (stAt i)) (dBody (stAt i)) (dScope (stAt i)) pm cd doc) ⟨vs, []⟩ = pure ([x, y].zip vs) := fun pm cd doc vs hv => match vs, hv with | [v, u], _ => h pm cd doc v u
theorem sld_ok_call {a : Addr} (B : Bs W) (F : Dfn W "sorted_list_difference" a 19) {E A : List Str} (lE : E.length < 50) (lA : A.length < 50) (pe : apartS E = true) (pa : apartS A = true) :
    CallOk W (n + 2) a [.list (strsD E), .list (strsD A)] (.tup [.list (strsD (sldGo E A [] []).1), .list (strsD (sldGo E A [] []).2)]) := by
  refine CallOk.of B.base F (ps := ["expected", "actual"]) rfl rfl (bind2 fun _ _ _ _ _ => rfl) rfl rfl rfl (by decide +kernel) (by decide +kernel) fun env hsc fe => ⟨[], ?_⟩
  refine Ex.cons (Ex.assign2 fe (sto hsc rfl) (sto hsc rfl) Ev.int rfl rfl) ?_
  refine Ex.cons (Ex.assignN fe (sto hsc rfl) (EvN.list .nil (by decide)) rfl) ?_
  refine Ex.cons (Ex.assignN fe (sto hsc rfl) (EvN.list .nil (by decide)) rfl) ?_
  refine Ex.pre (σ₁ := sldSig E A [] [] 0 0) ?_ ⟨rfl, rfl, rfl, rfl, rfl, rfl, trivial⟩
  refine Ex.cons (Ex.while (sld_whl B fe hsc E A (by omega) (by omega) (E.length + A.length + 1) E A [] [] 0 0 rfl rfl (Nat.zero_le _) (Nat.zero_le _) (Nat.lt_succ_self _) pe pa (by simp; omega) (by simp; omega))) ?_
  refine Ex.freeze (x := "missing") rfl (Ex.freeze (x := "unexpected") rfl ?_)
  exact Ex.stop (Ex.ret (Ev.tup (EvL.cons (Ev.name fe.ok rfl rfl) (EvL.cons (Ev.name fe.ok rfl rfl) EvL.nil rfl) rfl) (by simp))) trivial
theorem far_ok {a as : Addr} (B : Bs W) (F : Dfn W "_law_far" a 23) (Fs : Dfn W "sorted_list_difference" as 19) {E A : List Str} (lE : E.length < 50) (lA : A.length < 50) (pe : apartS E = true) (pa : apartS A = true) (l1 : (sldGo E A [] []).1.length < 1000) (l2 : (sldGo E A [] []).2.length < 1000) :
    CallOk W (n + 3) a [.list (strsD E), .list (strsD A)] (.int (((sldGo E A [] []).1.length : Int) + ((sldGo E A [] []).2.length : Int))) := by
  obtain ⟨fd, Fa⟩ := Fs.at
  refine CallOk.of B.base F (ps := ["line", "other"]) rfl rfl (bind2 fun _ _ _ _ _ => rfl) rfl rfl rfl (by decide +kernel) (by decide +kernel) fun env hsc fe => ⟨[], ?_⟩
  refine Ex.cons (Ex.assignTup (ps := [("here", ⟨196, 4, 196, 8⟩), ("there", ⟨196, 10, 196, 15⟩)]) fe rfl (fun x hx => by
    simp only [List.map_cons, List.map_nil, List.mem_cons, List.not_mem_nil, or_false] at hx
    rcases hx with rfl | rfl <;> exact sto hsc rfl) (Ev.callU B.base fe.ok (kd hsc rfl) rfl Fa rfl (EvL.cons (Ev.name fe.ok rfl rfl) (EvL.cons (Ev.name fe.ok rfl rfl) EvL.nil rfl) rfl) (sld_ok_call B Fs lE lA pe pa)) rfl rfl) ?_
  have len : ∀ (xs : List Str), xs.length < 1000 → fn1 .len (.list (strsD xs)) = some (.int (xs.length : Int)) := fun xs h => by simp only [fn1]; rw [if_pos (by simp; omega)]; simp
  exact Ex.stop (Ex.ret (Ev.bin (op := .add) (Ev.fn1 (st := true) (f := .len) B.base fe.ok (kd hsc rfl) B.len rfl (Ev.name fe.ok rfl rfl) (len _ l1)) (Ev.fn1 (st := true) (f := .len) B.base fe.ok (kd hsc rfl) B.len rfl (Ev.name fe.ok rfl rfl) (len _ l2)) rfl)) trivial
end
end Mine
namespace Mine
section
variable {W : Wd} {n : Nat} {env : Env} {lf : List Env} {hE h h' : Heap} {Xo Y : List Addr} {al : Al} {σ σ₁ σ₂ : Sig} {ρ ρx : Rho}

theorem StY.start {f : Str} {scope : Scope} {L a : Addr} {cd : Value} {h0 h₁ : Heap} {X : List Addr} {m cm : Str → Option Value} (hk : scope.kind = .function) (hfree : ∀ x ∈ scope.names, x.2 ≠ .free) (F : Fr h0 L h₁ m) (C : Cl L (cellsFrom (L + 1) scope.names []) h₁ cm)
    (g : Gd W lf h0 X) (hvars : ∀ x sl, σ.lookup x = some sl → ∃ d v, sl = .fz d ∧ m x = some v ∧ scope.names.lookup x = some .local ∧ Rep h0 X d v) :
    FEnv (envOfC f scope L a cd) ∧ ∃ Y, StY W (envOfC f scope L a cd) (envOfC f scope L a cd :: lf) h0 X Y (fun _ => (0, [])) σ h₁ := by
  have fL : ∀ c, L ≤ c → h0.get? c = none := fun c hc => Heap.get?_none_of_le (Nat.le_trans F.above hc)
  have bn : ∀ c, h0.get? c = none → W.hB.get? c = none := fun c hc => by
    cases e : W.hB.get? c with
    | none => rfl
    | some o' => have := g.base c o' e; rw [hc] at this; cases this
  have cells : ∀ x c, (cellsFrom (L + 1) scope.names []).lookup x = some c → c ∈ scope.names.filterMap (fun p => (cellsFrom (L + 1) scope.names []).lookup p.1) := fun x c e =>
    List.mem_filterMap.mpr ⟨(x, .cell), cellsFrom_mem _ _ (mem_of_lookup e), e⟩
  have cellsY : ∀ c, c ∈ scope.names.filterMap (fun p => (cellsFrom (L + 1) scope.names []).lookup p.1) → ∃ x, (cellsFrom (L + 1) scope.names []).lookup x = some c := fun c hc => let ⟨p, _, e⟩ := List.mem_filterMap.mp hc; ⟨p.1, e⟩
  have inY : ∀ c, c ∈ L :: scope.names.filterMap (fun p => (cellsFrom (L + 1) scope.names []).lookup p.1) → L ≤ c ∧ ∃ o, h₁.get? c = some o := fun c hc => by
    rcases List.mem_cons.mp hc with rfl | hc
    · obtain ⟨o, _, _, e, _⟩ := F.ns; exact ⟨Nat.le_refl _, o, e⟩
    · obtain ⟨x, e⟩ := cellsY c hc
      obtain ⟨o, e1, _⟩ := C.cell x c e
      exact ⟨Nat.le_of_lt (C.above x c (mem_of_lookup e)), o, e1⟩
  refine ⟨⟨⟨hk, rfl, rfl, fun y hy => ?_⟩, fun x y c e1 e2 => name_of_addr C.apart (mem_of_lookup e1) (mem_of_lookup e2), fun x c e => Nat.ne_of_gt (C.above x c (mem_of_lookup e)), rfl⟩, L :: scope.names.filterMap (fun p => (cellsFrom (L + 1) scope.names []).lookup p.1),
    .head _, Gr.of_keep F.keep, fun b o' e => F.keep b o' (g.base b o' e), fun e he => ?_, fun c hc => fL c (inY c hc).1, fun c hc => bn c (fL c (inY c hc).1), fun c hc => ?_, fun c hc hm => ?_, .head _, ⟨_, F.ns⟩, fun x c e => ⟨.tail _ (cells x c e), _, C.cell x c e⟩, fun x sl e => ?_, fun x y sl₁ sl₂ z e1 _ e3 _ => ?_⟩
  · rcases hy with e | e
    · exact Option.isSome_iff_exists.mp (cellsFrom_some scope.names (L + 1) [] (.inl e))
    · exact absurd rfl (hfree _ (mem_of_lookup e))
  · rcases List.mem_cons.mp he with rfl | he
    · exact ⟨hk, L, _, rfl, F.ns, bn L (fL L (Nat.le_refl _))⟩
    · obtain ⟨k, L', m, hf, hm, hb⟩ := g.ff e he
      exact ⟨k, L', m, hf, hm.keeps F.keep, hb⟩
  · rcases List.mem_append.mp hc with hc | hc
    · exact (inY c hc).2
    · obtain ⟨o', e⟩ := g.live c hc; exact ⟨o', F.keep c o' e⟩
  · obtain ⟨o', e⟩ := g.live c hc
    rw [fL c (inY c hm).1] at e; cases e
  · obtain ⟨d, v, rfl, e2, hx, e3⟩ := hvars x sl e
    refine ⟨v, .inl ⟨hx, _, F.ns, e2⟩, ?_⟩
    refine Rep.mono (Y := []) ((Gr.of_keep F.keep).x []) (fun _ z => nomatch z) (fun c hc => ?_) e3
    rcases List.mem_append.mp hc with hc | hc
    · exact .inr (fL c (inY c hc).1)
    · exact .inl hc
  · obtain ⟨d', v', rfl, _⟩ := hvars x sl₁ e1
    exact nomatch e3

theorem bindL_out {k : Str → Option NameKind} {x : Str} : ∀ {r : List (Str × Value)} {m : Str → Option Value}, x ∉ r.map (·.1) → bindL k r m x = m x
  | [], _, _ => rfl
  | (y, v) :: r, m, hx => by
    simp only [List.map_cons, List.mem_cons, not_or] at hx
    unfold bindL
    rw [bindL_out hx.2]
    split
    · simp [hx.1]
    · rfl
theorem zip_lookupL {k : Str → Option NameKind} : ∀ {ps : List Str} {ds : List D} {vs : List Value} {h : Heap} {X : List Addr} {x : Str} {sl : Slot} {m : Str → Option Value}, ps.Nodup → (∀ p ∈ ps, k p = some .local) → RepL h X ds vs → (sig0 ps ds).lookup x = some sl → ps.length = ds.length → ∃ d v, sl = .fz d ∧ bindL k (ps.zip vs) m x = some v ∧ x ∈ ps ∧ Rep h X d v
  | [], ds, vs, h, X, x, sl, m, _, _, _, e, _ => by simp [sig0] at e
  | p :: ps, [], vs, h, X, x, sl, m, _, _, _, e, hl => by simp at hl
  | p :: ps, d :: ds, vs, h, X, x, sl, m, nd, hk, r, e, hl => by
    rw [RepL_cons] at r
    obtain ⟨v, vs', rfl, h1, h2⟩ := r
    obtain ⟨nd1, nd2⟩ := List.nodup_cons.mp nd
    simp only [sig0, List.zip_cons_cons, List.map_cons, List.lookup_cons] at e
    rw [List.zip_cons_cons]
    unfold bindL
    rw [if_pos (hk p (.head _))]
    cases hx : x == p with
    | true =>
      rw [hx] at e; cases e
      have := beq_iff_eq.mp hx
      subst this
      refine ⟨d, v, rfl, ?_, .head _, h1⟩
      rw [bindL_out (fun hm => nd1 ?_)]
      · simp
      · obtain ⟨q, hq, e⟩ := List.mem_map.mp hm
        rw [← e]; exact (List.of_mem_zip hq).1
    | false =>
      rw [hx] at e
      obtain ⟨d', v', e1, e2, e3, e4⟩ := zip_lookupL (k := k) (m := fun y => if y = p then some v else m y) nd2 (fun q hq => hk q (.tail _ hq)) h2 e (by simpa using hl)
      exact ⟨d', v', e1, e2, .tail _ e3, e4⟩
theorem CallOk.ofC {f : Str} {a : Addr} {params : Arguments} {body : List Stmt} {scope : Scope} {ps : List Str} {ds : List D} {d : D} (B : Base W) (F : FnOk W f a params body scope) (hp : plainParams params scope = some ps) (hl : ps.length = ds.length)
    (hbind : ∀ pm cd doc (vs : List Value), vs.length = ps.length → bindArgs (Calls.docDef f params body scope pm cd doc) ⟨vs, []⟩ = pure (ps.zip vs))
    (hco : scope.isCoroutine = false) (hgen : scope.isGenerator = false) (hk : scope.kind = .function) (hfree : ∀ x ∈ scope.names, x.2 ≠ .free)
    (hb : ∀ env : Env, env.scope = scope → FEnv env → ∃ σ', Ex W n env (sig0 ps ds) (execs body env) (.ret d) σ') : CallOk W (n + 1) a ds d := by
  intro A lf X s vs ak g r
  obtain ⟨o, pm, cd, doc, ho, hdat, hcd⟩ := F.obj
  have hn := r.length
  unfold plainParams at hp
  split at hp
  · rename_i as
    split at hp
    · rename_i hc
      cases hp
      rw [Bool.and_eq_true, List.all_eq_true, decide_eq_true_eq] at hc
      obtain ⟨hloc, hnd⟩ := hc
      rw [List.length_map] at hl
      have hloc' : ∀ x ∈ as.map (·.arg), scope.names.lookup x = some .local := fun x hx => by
        obtain ⟨y, hy, e⟩ := List.mem_map.mp hx
        rw [← e]; exact beq_iff_eq.mp (hloc y hy)
      have hbind := hbind pm cd doc vs (by rw [List.length_map]; omega)
      refine wpAny_call (call_cells_ret (by have := ak.2.2.1; unfold recursionLimit; omega) (g.base a o ho) hdat (B.nolimit.keeps g.base) (hcd.keeps g.base) hbind (fun x hx => .inl (hloc' _ (List.of_mem_zip hx).1)) (fun h₁ tk Fr₁ C₁ => ?_) hco hgen hk)
      obtain ⟨fe, Y, st⟩ := StY.start (f := f) (a := a) (cd := cd) (σ := sig0 (as.map (·.arg)) ds) hk hfree Fr₁ C₁ g (fun x sl e => by
        obtain ⟨d, v, e1, e2, e3, e4⟩ := zip_lookupL (k := (envOfC f scope s.heap.objs.size a cd).kindOf) (m := fun _ => none) hnd (fun p hp => hloc' p hp) r e (by simpa using hl)
        exact ⟨d, v, e1, e2, hloc' x e3, e4⟩)
      obtain ⟨σ', hx⟩ := hb (envOfC f scope s.heap.objs.size a cd) rfl fe
      refine wpAny_mono (hx (A.deeper (envOfC f scope s.heap.objs.size a cd)) _ s.heap X Y _ { s with heap := h₁, toks := tk } (ak.deep _) st) (fun fl s' p => ?_) fun _ _ e => e.elim
      obtain ⟨h₃, tk₃, rfl, u, rfl, r₃, g₃, b₃⟩ := p
      exact ⟨h₃, tk₃, rfl, g₃, fun _ => b₃, r₃⟩
    · cases hp
  · cases hp
end
end Mine
namespace Mine
section
variable {W : Wd} {n : Nat} {env : Env} {lf : List Env} {hE h h' : Heap} {Xo Y : List Addr} {al : Al} {σ σ₁ σ₂ : Sig} {ρx : Rho}

noncomputable def enumD : Nat → List D → List D
  | _, [] => []
  | i, d :: r => .tup [.int (i : Int), d] :: enumD (i + 1) r
theorem enumD_drop : ∀ (ds : List D) (k i : Nat) {d : D}, ds[i]? = some d → (enumD k ds).drop i = .tup [.int ((k + i : Nat) : Int), d] :: (enumD k ds).drop (i + 1)
  | [], _, _, _, h => by simp at h
  | d :: r, k, 0, _, h => by cases h; rfl
  | d :: r, k, i + 1, d', h => by
    have := enumD_drop r (k + 1) i (d := d') (by simpa using h)
    rw [show k + 1 + i = k + (i + 1) by omega] at this
    simpa [enumD] using this
theorem enumD_length : ∀ (ds : List D) (k : Nat), (enumD k ds).length = ds.length
  | [], _ => rfl
  | _ :: r, k => by simp [enumD, enumD_length r]

theorem Ex.forEnum {elts : List Expr} {kt : Nat} {pt : Pos} {e : Expr} {p pc : Pos} {body : List Stmt} {pos : Pos} {ds : List D} {fl : Fl} (B : Bs W) (fe : FEnv env) (hn0 : 0 < n) (hx : env.kindOf "enumerate" = some .globalImplicit) (he1 : starEach [e] env = [(false, eval e env)])
    (x : Ev W n env (rho σ) e (.list ds) true) (hfl : ∀ d ∈ ds, flat d = true) (T : Turns W n env (.Tuple elts kt pt) body (enumD 0 ds) σ fl σ₁) :
    Ex W n env σ (exec (.For (.Tuple elts kt pt) (.Call (.Name "enumerate" p) [e] [] pc) body [] pos) env) fl σ₁ := by
  intro A lf hE Xo Y al s a q
  refine wpAny_For ?_ fun _ => rfl
  refine wpAny_Call_NameR (name_blt B.base fe.ok hx (by decide) B.enumerate q.base ?_)
  show wpAny _ A (callWith pc (.type "enumerate") [] (backTo pc (starEach [e] env)) []) _ _ s
  rw [he1]
  refine PySem.callWith_type1 ((x A lf (Y ++ Xo) s a q.rd).to fun v h1 t1 g1 b1 r1 => ?_)
  rw [show hid true (Y ++ Xo) = Y ++ Xo from rfl, Rep_list] at r1
  obtain ⟨ax, vs, rfl, hax, hl, hr⟩ := r1
  have hlen := hr.length
  have haxlt : ax < h1.objs.size := by obtain ⟨_, e⟩ := hl; exact Heap.lt_size e
  refine call_enumerate_list hl.is fun H hen hit hsz hk => ?_
  refine wpAny_pyIter_enum hen ?_
  change ∀ b o, h1.get? b = some o → H.get? b = some o at hk
  change IsEnum H (h1.objs.size + 1) h1.objs.size 0 .none at hen
  change H.IsListIter h1.objs.size ax 0 at hit
  generalize hI : h1.objs.size + 1 = I at hen ⊢
  generalize hJ : h1.objs.size = J at *
  have hIJ : I ≠ J := by rw [← hI]; exact Nat.succ_ne_self _
  have hxJ : ax ≠ J := Nat.ne_of_lt haxlt
  have hxI : ax ≠ I := by rw [← hI]; exact Nat.ne_of_lt (Nat.lt_succ_of_lt haxlt)
  have gH : Gr s.heap H := g1.trans (Gr.of_keep hk)
  have qH := q.up gH fun b c o e => hk c o (b1 b c o e)
  have newS : ∀ c, J ≤ c → s.heap.get? c = none := fun c hc => by
    cases e : s.heap.get? c with
    | none => rfl
    | some o => obtain ⟨o', e', _⟩ := g1 c o e; exact absurd (Heap.lt_size e') (by rw [hJ]; exact Nat.not_lt.mpr hc)
  have hwr : ∀ c ∈ [I, J], s.heap.get? c = none := fun c hc => by
    rcases List.mem_cons.mp hc with rfl | hc
    · exact newS _ (by rw [← hI]; exact Nat.le_succ _)
    · rw [List.mem_singleton.mp hc]; exact newS _ (Nat.le_refl _)
  have axw : ax ∉ [I, J] := fun hm => by
    rcases List.mem_cons.mp hm with e | hm
    · exact hxI e
    · exact hxJ (List.mem_singleton.mp hm)
  have nwr : ∀ {c : Addr} {o : Obj}, s.heap.get? c = some o → c ∉ [I, J] := fun {c o} e hm => by rw [hwr c hm] at e; cases e
  have hX1 : ∀ c, c ∈ Y ++ ([I, J] ++ Xo) → c ∈ Y ++ Xo ∨ s.heap.get? c = none := fun c hc => by
    rcases List.mem_append.mp hc with hc | hc
    · exact .inl (List.mem_append_left _ hc)
    rcases List.mem_append.mp hc with hc | hc
    · exact .inr (hwr c hc)
    · exact .inl (List.mem_append_right _ hc)
  have n1 : ∀ a ∈ [I, J], hE.get? a = none := fun c hc => by
    cases e : hE.get? c with
    | none => rfl
    | some o => obtain ⟨o', e', _⟩ := q.gr c o e; exact absurd hc (nwr e')
  have n2 : ∀ a ∈ [I, J], W.hB.get? a = none := fun c hc => by
    cases e : W.hB.get? c with
    | none => rfl
    | some o => exact absurd hc (nwr (q.base c o e))
  have n3 : ∀ e ∈ lf, ∀ L, e.frame = some L → L ∉ [I, J] := fun e he L hf => by
    obtain ⟨_, L', m, hf', ⟨o, _, _, e0, _⟩, _⟩ := q.ff e he
    rw [hf] at hf'; cases hf'
    exact nwr e0
  let St : Nat → Heap → Prop := fun i h => (∃ old, IsEnum h I J i old) ∧ h.IsListIter J ax i ∧ h.IsList ax vs.toArray
  have st0 : St 0 H := ⟨⟨_, hen⟩, hit, hl.is.at fun o e => hk _ o e⟩
  have stLive : ∀ i h, St i h → Live h [I, J] := fun i h st c hc => by
    obtain ⟨⟨old, s1⟩, ⟨o, s2, _⟩, _⟩ := st
    rcases List.mem_cons.mp hc with rfl | hc
    · exact ⟨_, s1⟩
    · rw [List.mem_singleton.mp hc]; exact ⟨o, s2⟩
  have qL : StY W env lf hE ([I, J] ++ Xo) Y al σ H := by
    refine ⟨q.top, qH.gr, qH.base, qH.ff, q.new, q.bnew, fun c hc => ?_, fun c hc hy => ?_, q.loc, qH.ns, qH.cell, fun x sl e => ?_, q.inj⟩
    · rcases List.mem_append.mp hc with hc | hc
      · exact qH.live c (List.mem_append_left _ hc)
      rcases List.mem_append.mp hc with hc | hc
      · exact stLive _ _ st0 c hc
      · exact qH.live c (List.mem_append_right _ hc)
    · rcases List.mem_append.mp hc with hc | hc
      · obtain ⟨o, e⟩ := q.live c (List.mem_append_left _ hy); exact nwr e hc
      · exact q.xo c hc hy
    · exact (q.vars x sl e).map (fun v h1 => h1.gr gH) (fun _ _ h => h) (fun _ _ _ hl => hl.gr gH) (fun _ _ r => Rep.mono (Y := []) (gH.x []) (fun _ z => nomatch z) hX1 r) (fun _ _ r => RepL.mono (Y := []) (gH.x []) (fun _ z => nomatch z) hX1 r)
  have back : ∀ {Y' al' σ' h'}, StY W env lf hE ([I, J] ++ Xo) Y' al' σ' h' → StY W env lf hE Xo Y' al' σ' h' := fun {Y' al' σ' h'} z => by
    have sub : ∀ c, c ∈ Y' ++ Xo → c ∈ Y' ++ ([I, J] ++ Xo) := fun c hc => (List.mem_append.mp hc).elim (fun hc => List.mem_append_left _ hc) (fun hc => List.mem_append_right _ (List.mem_append_right _ hc))
    refine ⟨z.top, z.gr, z.base, z.ff, z.new, z.bnew, fun c hc => z.live c (sub c hc), fun c hc => z.xo c (List.mem_append_right _ hc), z.loc, z.ns, z.cell, fun x sl e => ?_, z.inj⟩
    exact (z.vars x sl e).map (fun _ h => h) (fun _ _ h => h) (fun _ _ _ hl => hl) (fun _ _ r => r.sub sub) (fun _ _ r => r.sub sub)
  have Dw := Draws.list (prog := W.prog) (w := W.w) (A := A.in1) (a.1 hn0) J ax hxJ vs.toArray
  rw [show vs.toArray.size = ds.length by simp [hlen]] at Dw
  refine codeAny_forLoop_any (fun j s' => ∃ h' tk' i al' σ' Y', s' = { s with heap := h', toks := tk' } ∧ i ≤ ds.length ∧ j = ds.length + 1 - i ∧ St i h' ∧ Turns W n env (.Tuple elts kt pt) body ((enumD 0 ds).drop i) σ' fl σ₁ ∧
    StY W env lf hE ([I, J] ++ Xo) Y' al' σ' h' ∧ (∀ c ∈ Y', c ≠ ax)) ?_ (ds.length + 1)
    ⟨H, t1, 0, al, σ, Y, rfl, Nat.zero_le _, rfl, st0, by simpa using T, qL, fun c hc e => hax (e ▸ List.mem_append_left _ hc)⟩
  rintro j s' ⟨h, tk', i, al', σ', Y', rfl, hi, rfl, hst, hT, q', yn⟩
  obtain ⟨⟨old, se⟩, si, sl⟩ := hst
  by_cases hlt : i < ds.length
  · refine wpAny_pyNext_enum_itemD Dw se ⟨si, sl⟩ hlt hIJ (fun hm => ?_) fun v h₁ tk₁ hPv ho hs₁ hT₁ hz₁ hk₁ => ?_
    · rcases List.mem_cons.mp hm with e | hm
      · exact hIJ e
      · exact hxI (List.mem_singleton.mp hm).symm
    change h₁.get? h.objs.size = _ at hT₁
    change IsEnumOut h₁ I J ((i : Int) + 1) v h.objs.size at ho
    change ∀ b o, b ≠ I → b ≠ J → h.get? b = some o → h₁.get? b = some o at hk₁
    generalize hTT : h.objs.size = T at *
    have hnT : h.get? T = none := Heap.get?_none_of_le (by omega)
    have hTI : T ≠ I := fun e => by rw [e, se] at hnT; cases hnT
    have hTJ : T ≠ J := fun e => by obtain ⟨o, e', _⟩ := si; rw [e, e'] at hnT; cases hnT
    refine wpAny_letOwnedTupleGo_enum ho fun h₂ he₂ hsb => ?_
    have hk₂ : ∀ b o, b ∉ [I, J] → h.get? b = some o → h₂.get? b = some o := fun b o hb e => (hsb.2 b fun z => hb (by simp [z])).trans (hk₁ b o (fun z => hb (by simp [z])) (fun z => hb (by simp [z])) e)
    have hT₂ : h₂.get? T = some { cls := .type "tuple", data := .seq #[.int i tk₁, v] } := (hsb.2 T hTI).trans hT₁
    have hst₂ : St (i + 1) h₂ := ⟨⟨_, by simpa using he₂⟩, hs₁.1.at fun o e => (hsb.2 J (Ne.symm hIJ)).trans e, hs₁.2.at fun o e => (hsb.2 ax fun z => axw (by simp [z])).trans e⟩
    have hv : vs[i]? = some v := by simpa using hPv
    obtain ⟨v', e1, e2⟩ := hr.get (i := i) (d := ds[i]) (by simp [hlt])
    rw [hv] at e1; cases e1
    have q₁ := q'.goOn (wr := [I, J]) (fun c hc => List.mem_append_left _ hc) hk₂ (stLive _ _ hst₂) n1 n2 n3
    have hTY : T ∉ Y' ++ ([I, J] ++ Xo) := fun hm => by obtain ⟨o, e⟩ := q'.live T hm; rw [hnT] at e; cases e
    have rep₁ : Rep h₂ (Y' ++ ([I, J] ++ Xo)) (.tup [.int (i : Int), ds[i]]) (.ref T) := by
      rw [Rep_tup]
      exact ⟨T, [.int i tk₁, v], rfl, hTY, ⟨_, hT₂⟩, .mkCons .mkInt (.mkCons (e2.flat (hfl _ (List.getElem_mem hlt))) .mkNil)⟩
    have dd := enumD_drop ds 0 i (d := ds[i]) (by simp [hlt])
    rw [dd, Nat.zero_add] at hT
    have goes : ∀ {Y₃ al₃ σ₃ h₃ tk₃}, Turns W n env (.Tuple elts kt pt) body ((enumD 0 ds).drop (i + 1)) σ₃ fl σ₁ → StY W env lf (hideAll h₂ Y') ([I, J] ++ Xo) Y₃ al₃ σ₃ h₃ →
        ∃ m, m < ds.length + 1 - i ∧ ∃ h' tk' i al' σ' Y', ({ s with heap := h₃, toks := tk₃ } : Shared) = { s with heap := h', toks := tk' } ∧ i ≤ ds.length ∧ m = ds.length + 1 - i ∧ St i h' ∧ Turns W n env (.Tuple elts kt pt) body ((enumD 0 ds).drop i) σ' fl σ₁ ∧
          StY W env lf hE ([I, J] ++ Xo) Y' al' σ' h' ∧ (∀ c ∈ Y', c ≠ ax) := fun {Y₃ al₃ σ₃ h₃ tk₃} hT₃ q₃ => by
      have off : ∀ c, c ∈ [I, J, ax] → c ∉ Y' := fun c hc hy => by
        rcases List.mem_cons.mp hc with rfl | hc
        · exact q'.xo c (by simp) hy
        rcases List.mem_cons.mp hc with rfl | hc
        · exact q'.xo c (by simp) hy
        · exact yn c hy (List.mem_singleton.mp hc)
      have kp : ∀ c o, c ∈ [I, J, ax] → h₂.get? c = some o → (∀ es ep, o.data ≠ .dict es ep) → h₃.get? c = some o := fun c o hc e hd => q₃.gr.get (hideAll_get _ e (off c hc)) hd
      refine ⟨ds.length + 1 - (i + 1), by omega, h₃, tk₃, i + 1, al₃, σ₃, Y₃, rfl, hlt, rfl, ?_, hT₃, q₃.unbase q₁.gr q₁.new, fun c hc e => ?_⟩
      · obtain ⟨⟨old, s1⟩, ⟨o2, s2, c2, d2⟩, ⟨o3, s3, c3, k3, d3⟩⟩ := hst₂
        exact ⟨⟨old, kp _ _ (by simp) s1 fun _ _ z => by cases z⟩, ⟨o2, kp _ _ (by simp) s2 fun _ _ z => (by rw [d2] at z; cases z), c2, d2⟩, ⟨o3, kp _ _ (by simp) s3 fun _ _ z => (by rw [d3] at z; cases z), c3, k3, d3⟩⟩
      · obtain ⟨_, _, ⟨o3, s3, _⟩⟩ := hst₂
        have := q₃.new c hc
        rw [e, hideAll_get _ s3 (off ax (by simp))] at this; cases this
    refine Turns.step (s := { s with heap := h₂, toks := _ }) hT a q₁.rebase rep₁ ?_ ?_ ?_
    · exact fun h₃ tk₃ Y₃ al₃ σ₃ hr q₃ => ⟨goes hr q₃, goes hr q₃⟩
    · intro h₃ tk₃ Y₃ al₃ e q₃
      subst e; exact ⟨h₃, tk₃, rfl, rfl, Y₃, al₃, back (q₃.unbase q₁.gr q₁.new)⟩
    · intro h₃ tk₃ d' u e r₃ g₃ b₃
      subst e; exact ⟨h₃, tk₃, rfl, u, rfl, r₃.sub fun c hc => List.mem_append_right _ hc, gr_unbase q₁.gr q₁.new g₃, b₃⟩
  · have hin : i = ds.length := by omega
    subst hin
    rw [← enumD_length ds 0, List.drop_length] at hT
    refine wpAny_pyNext_enum_endD Dw se ⟨si, sl⟩ fun h₁ hx₁ => ?_
    obtain ⟨e1, e2⟩ := hT.nil
    subst e1; subst e2
    refine wpAny_execs_nil ⟨h₁, _, rfl, rfl, Y', al', ?_⟩
    exact q'.goOff (wr := [I, J]) (fun b o hb e => hx₁ b o (fun z => hb (by simp [z])) e) (fun c hc => by obtain ⟨o, e⟩ := q.live c (List.mem_append_right _ hc); exact nwr e) n1 n2 n3
end
end Mine
open PySem.SeqAt
open AutoSeq1 (wpAny_loadPart')
namespace Mine

noncomputable def lexLt : List Str → List Str → Bool
  | x :: r, y :: t => if (x == y) = true then lexLt r t else strLt x y
  | xs, ys => decide (xs.length < ys.length)
theorem loopLt (l b : Addr) (items items2 : Array Value) (n n2 : Nat) (dd dd2 : Option Addr) (sl sl2 : Array (Option Value)) (xs ys : List Str) (hx : items.size = xs.length) (hy : items2.size = ys.length)
    (ex : ∀ (j : Nat) (x : Str), xs[j]? = some x → ∃ t, items[j]? = some (Value.str x t)) (ey : ∀ (j : Nat) (x : Str), ys[j]? = some x → ∃ t, items2[j]? = some (Value.str x t)) (k : Nat) :
    ∀ i : Nat, xs.length - i = k → (i ≤ ys.length) → (i ≤ xs.length) → Meets (Builtin.«list.__eq__.loop» ⟨[.ref l, .ref b, rawInt i, rawInt 0], []⟩)
      (fun A R s => s.heap.get? l = some { cls := .type "list", dict := dd, data := .seq items n, slots := sl } ∧ s.heap.get? b = some { cls := .type "list", dict := dd2, data := .seq items2 n2, slots := sl2 } ∧
        R (.ok (.ret (.bool (lexLt (xs.drop i) (ys.drop i))))) s) := by
  induction k with
  | zero =>
    intro i hk hiy hix prog w A R s h
    obtain ⟨hp, g, d, tk, os⟩ := s; obtain ⟨hl, hb, h⟩ := h
    wp_walk using wpAny_loadPart' hl, wpAny_loadPart' hb
    have hi1 : items[((i : Nat) : Int).toNat]? = none := by simp; omega
    have hd : xs.drop i = [] := by simp; omega
    rw [hd] at h
    rw [hi1]
    wp_walk using wpAny_loadPart' hl, wpAny_loadPart' hb
    have : lexLt [] (ys.drop i) = decide (items.size < items2.size) := by
      have hlen : (ys.drop i).length = items2.size - items.size := by rw [List.length_drop]; omega
      generalize ys.drop i = zs at hlen
      cases zs <;> simp only [lexLt] <;> (congr 1; simp only [List.length_nil, List.length_cons, eq_iff_iff] at hlen ⊢; omega)
    rw [this] at h
    exact h
  | succ k ih =>
    intro i hk hiy hix prog w A R s h
    obtain ⟨hp, g, d, tk, os⟩ := s; obtain ⟨hl, hb, h⟩ := h
    wp_walk using wpAny_loadPart' hl, wpAny_loadPart' hb
    have hlt : i < xs.length := by omega
    obtain ⟨t1, e1⟩ := ex i xs[i] (by simp [hlt])
    have hi1 : items[((i : Nat) : Int).toNat]? = some (.str xs[i] t1) := by simpa using e1
    have hd : xs.drop i = xs[i] :: xs.drop (i + 1) := List.drop_eq_getElem_cons hlt
    by_cases hlt2 : i < ys.length
    · obtain ⟨t2, e2⟩ := ey i ys[i] (by simp [hlt2])
      have hi2 : items2[((i : Nat) : Int).toNat]? = some (.str ys[i] t2) := by simpa using e2
      have hd2 : ys.drop i = ys[i] :: ys.drop (i + 1) := List.drop_eq_getElem_cons hlt2
      have hc : ((i : Int) + 1) = ((i + 1 : Nat) : Int) := by push_cast; rfl
      rw [hd, hd2, lexLt] at h
      rw [hi1, hi2]
      refine wpAny_bind (EqAt.str_str (A := A.in1) (s := ⟨hp, g, d, tk, os⟩) xs[i] t1 ys[i] t2 prog w _ _ ?_)
      cases hb' : xs[i] == ys[i] with
      | true =>
        rw [hb', if_pos rfl] at h
        wp_walk
        rw [hc]
        exact ⟨plainId_quiet MeetsSeq3.plain_eq_loop _, codeAny_builtin MeetsSeq3.entry_eq_loop (by
          rw [Around.under_plainId MeetsSeq3.plain_eq_loop _]
          exact ih (i + 1) (by omega) (by omega) (by omega) prog w A R _ ⟨hl, hb, h⟩)⟩
      | false =>
        rw [hb', if_neg Bool.false_ne_true] at h
        wp_walk using wpAny_loadPart' hl, wpAny_loadPart' hb
        rw [hi1, hi2]
        show wpAny (model prog w) A.in1 (richCompare .Lt (.str xs[i] t1) (.str ys[i] t2) >>= fun r => ret r) _ _ _
        exact wpAny_bind (lt_str (prog := prog) (w := w) (wpAny_pure h))
    · have hi2 : items2[((i : Nat) : Int).toNat]? = none := by simp; omega
      rw [hi1, hi2]
      wp_walk using wpAny_loadPart' hl, wpAny_loadPart' hb
      have hd2 : ys.drop i = [] := by simp; omega
      rw [hd, hd2, show lexLt (xs[i] :: List.drop (i + 1) xs) [] = decide ((xs[i] :: List.drop (i + 1) xs).length < ([] : List Str).length) from rfl] at h
      have e : decide ((xs[i] :: List.drop (i + 1) xs).length < ([] : List Str).length) = decide (items.size < items2.size) := by congr 1; simp only [List.length_cons, List.length_nil, List.length_drop, eq_iff_iff]; omega
      rw [e] at h
      exact h
theorem meetsLt (l b : Addr) (items items2 : Array Value) (n n2 : Nat) (dd dd2 : Option Addr) (sl sl2 : Array (Option Value)) (xs ys : List Str) (hx : items.size = xs.length) (hy : items2.size = ys.length)
    (ex : ∀ (j : Nat) (x : Str), xs[j]? = some x → ∃ t, items[j]? = some (Value.str x t)) (ey : ∀ (j : Nat) (x : Str), ys[j]? = some x → ∃ t, items2[j]? = some (Value.str x t)) :
    Meets (Builtin.«list.__lt__» ⟨[.ref l, .ref b], []⟩)
      (fun A R s => s.heap.get? l = some { cls := .type "list", dict := dd, data := .seq items n, slots := sl } ∧ s.heap.get? b = some { cls := .type "list", dict := dd2, data := .seq items2 n2, slots := sl2 } ∧
        R (.ok (.ret (.bool (lexLt xs ys)))) s) := by
  intro prog w A R s h
  obtain ⟨hp, g, d, tk, os⟩ := s; obtain ⟨hl, hb, h⟩ := h
  have f3 := AutoSeq1.sub_list_list
  wp_walk using wpAny_loadPart' hl, wpAny_loadPart' hb
  exact ⟨plainId_quiet MeetsSeq3.plain_eq_loop _, codeAny_builtin MeetsSeq3.entry_eq_loop (by
    rw [Around.under_plainId MeetsSeq3.plain_eq_loop _]
    exact loopLt l b items items2 n n2 dd dd2 sl sl2 xs ys hx hy ex ey _ 0 rfl (Nat.zero_le _) (Nat.zero_le _) prog w A R _ ⟨hl, hb, h⟩)⟩
theorem rcLt {prog : Program} {w : World} {A : Around} {E : Value → Shared → Prop} {s : Shared} {X Y : List Addr} {l b : Addr} {vs us : List Value} {xs ys : List Str} {Q : Value → Shared → Prop} (hl : IsL s.heap l vs) (hb : IsL s.heap b us) (rl : RepL s.heap X (xs.map D.str) vs) (rb : RepL s.heap Y (ys.map D.str) us) (hu : A.units < cLine)
    (h : Q (.bool (lexLt xs ys)) s) : wpAny (model prog w) A (richCompare .Lt (.ref l) (.ref b)) Q E s := by
  obtain ⟨n, ho⟩ := hl
  obtain ⟨n2, ho2⟩ := hb
  have at_ : ∀ {X : List Addr} {xs : List Str} {vs : List Value}, RepL s.heap X (xs.map D.str) vs → ∀ (j : Nat) (x : Str), xs[j]? = some x → ∃ t, vs.toArray[j]? = some (Value.str x t) := fun r j x e => by
    obtain ⟨v, e1, e2⟩ := r.get (i := j) (d := .str x) (by rw [List.getElem?_map, e]; rfl)
    rw [Rep_str] at e2; obtain ⟨t, rfl⟩ := e2
    exact ⟨t, by simpa using e1⟩
  have n1 := rl.length; have n2' := rb.length
  rw [List.length_map] at n1 n2'
  exact richCompare_meets_room (op := .Lt) ⟨_, ho, rfl⟩ ⟨_, ho2, rfl⟩ F.slot_list_lt F.entry_list_lt (F.args_list_lt_2 _ _) (meetsLt l b vs.toArray us.toArray n n2 none none #[] #[] xs ys (by simpa using n1) (by simpa using n2') (at_ rl) (at_ rb))
    ⟨ho, ho2, show Value.bool (lexLt xs ys) ≠ Value.notImplemented ∧ Q (.bool (lexLt xs ys)) s from ⟨(fun x => nomatch x), h⟩⟩ hu

noncomputable def lexGt : List Str → List Str → Bool
  | x :: r, y :: t => if (x == y) = true then lexGt r t else strLt y x
  | xs, ys => decide (xs.length > ys.length)
theorem loopGt (l b : Addr) (items items2 : Array Value) (n n2 : Nat) (dd dd2 : Option Addr) (sl sl2 : Array (Option Value)) (xs ys : List Str) (hx : items.size = xs.length) (hy : items2.size = ys.length)
    (ex : ∀ (j : Nat) (x : Str), xs[j]? = some x → ∃ t, items[j]? = some (Value.str x t)) (ey : ∀ (j : Nat) (x : Str), ys[j]? = some x → ∃ t, items2[j]? = some (Value.str x t)) (k : Nat) :
    ∀ i : Nat, xs.length - i = k → (i ≤ ys.length) → (i ≤ xs.length) → Meets (Builtin.«list.__eq__.loop» ⟨[.ref l, .ref b, rawInt i, rawInt 4], []⟩)
      (fun A R s => s.heap.get? l = some { cls := .type "list", dict := dd, data := .seq items n, slots := sl } ∧ s.heap.get? b = some { cls := .type "list", dict := dd2, data := .seq items2 n2, slots := sl2 } ∧
        R (.ok (.ret (.bool (lexGt (xs.drop i) (ys.drop i))))) s) := by
  induction k with
  | zero =>
    intro i hk hiy hix prog w A R s h
    obtain ⟨hp, g, d, tk, os⟩ := s; obtain ⟨hl, hb, h⟩ := h
    wp_walk using wpAny_loadPart' hl, wpAny_loadPart' hb
    have hi1 : items[((i : Nat) : Int).toNat]? = none := by simp; omega
    have hd : xs.drop i = [] := by simp; omega
    rw [hd] at h
    rw [hi1]
    wp_walk using wpAny_loadPart' hl, wpAny_loadPart' hb
    have : lexGt [] (ys.drop i) = decide (items.size > items2.size) := by
      have hlen : (ys.drop i).length = items2.size - items.size := by rw [List.length_drop]; omega
      generalize ys.drop i = zs at hlen
      cases zs <;> simp only [lexGt] <;> (congr 1; simp only [List.length_nil, List.length_cons, eq_iff_iff] at hlen ⊢; omega)
    rw [this] at h
    exact h
  | succ k ih =>
    intro i hk hiy hix prog w A R s h
    obtain ⟨hp, g, d, tk, os⟩ := s; obtain ⟨hl, hb, h⟩ := h
    wp_walk using wpAny_loadPart' hl, wpAny_loadPart' hb
    have hlt : i < xs.length := by omega
    obtain ⟨t1, e1⟩ := ex i xs[i] (by simp [hlt])
    have hi1 : items[((i : Nat) : Int).toNat]? = some (.str xs[i] t1) := by simpa using e1
    have hd : xs.drop i = xs[i] :: xs.drop (i + 1) := List.drop_eq_getElem_cons hlt
    by_cases hlt2 : i < ys.length
    · obtain ⟨t2, e2⟩ := ey i ys[i] (by simp [hlt2])
      have hi2 : items2[((i : Nat) : Int).toNat]? = some (.str ys[i] t2) := by simpa using e2
      have hd2 : ys.drop i = ys[i] :: ys.drop (i + 1) := List.drop_eq_getElem_cons hlt2
      have hc : ((i : Int) + 1) = ((i + 1 : Nat) : Int) := by push_cast; rfl
      rw [hd, hd2, lexGt] at h
      rw [hi1, hi2]
      refine wpAny_bind (EqAt.str_str (A := A.in1) (s := ⟨hp, g, d, tk, os⟩) xs[i] t1 ys[i] t2 prog w _ _ ?_)
      cases hb' : xs[i] == ys[i] with
      | true =>
        rw [hb', if_pos rfl] at h
        wp_walk
        rw [hc]
        exact ⟨plainId_quiet MeetsSeq3.plain_eq_loop _, codeAny_builtin MeetsSeq3.entry_eq_loop (by
          rw [Around.under_plainId MeetsSeq3.plain_eq_loop _]
          exact ih (i + 1) (by omega) (by omega) (by omega) prog w A R _ ⟨hl, hb, h⟩)⟩
      | false =>
        rw [hb', if_neg Bool.false_ne_true] at h
        wp_walk using wpAny_loadPart' hl, wpAny_loadPart' hb
        rw [hi1, hi2]
        show wpAny (model prog w) A.in1 (richCompare .Gt (.str xs[i] t1) (.str ys[i] t2) >>= fun r => ret r) _ _ _
        exact wpAny_bind (P.gt_str (prog := prog) (w := w) (wpAny_pure h))
    · have hi2 : items2[((i : Nat) : Int).toNat]? = none := by simp; omega
      rw [hi1, hi2]
      wp_walk using wpAny_loadPart' hl, wpAny_loadPart' hb
      have hd2 : ys.drop i = [] := by simp; omega
      rw [hd, hd2, show lexGt (xs[i] :: List.drop (i + 1) xs) [] = decide ((xs[i] :: List.drop (i + 1) xs).length > ([] : List Str).length) from rfl] at h
      have e : decide ((xs[i] :: List.drop (i + 1) xs).length > ([] : List Str).length) = decide (items.size > items2.size) := by congr 1; simp only [List.length_cons, List.length_nil, List.length_drop, eq_iff_iff]; omega
      rw [e] at h
      exact h
theorem meetsGt (l b : Addr) (items items2 : Array Value) (n n2 : Nat) (dd dd2 : Option Addr) (sl sl2 : Array (Option Value)) (xs ys : List Str) (hx : items.size = xs.length) (hy : items2.size = ys.length)
    (ex : ∀ (j : Nat) (x : Str), xs[j]? = some x → ∃ t, items[j]? = some (Value.str x t)) (ey : ∀ (j : Nat) (x : Str), ys[j]? = some x → ∃ t, items2[j]? = some (Value.str x t)) :
    Meets (Builtin.«list.__gt__» ⟨[.ref l, .ref b], []⟩)
      (fun A R s => s.heap.get? l = some { cls := .type "list", dict := dd, data := .seq items n, slots := sl } ∧ s.heap.get? b = some { cls := .type "list", dict := dd2, data := .seq items2 n2, slots := sl2 } ∧
        R (.ok (.ret (.bool (lexGt xs ys)))) s) := by
  intro prog w A R s h
  obtain ⟨hp, g, d, tk, os⟩ := s; obtain ⟨hl, hb, h⟩ := h
  have f3 := AutoSeq1.sub_list_list
  wp_walk using wpAny_loadPart' hl, wpAny_loadPart' hb
  exact ⟨plainId_quiet MeetsSeq3.plain_eq_loop _, codeAny_builtin MeetsSeq3.entry_eq_loop (by
    rw [Around.under_plainId MeetsSeq3.plain_eq_loop _]
    exact loopGt l b items items2 n n2 dd dd2 sl sl2 xs ys hx hy ex ey _ 0 rfl (Nat.zero_le _) (Nat.zero_le _) prog w A R _ ⟨hl, hb, h⟩)⟩
theorem rcGt {prog : Program} {w : World} {A : Around} {E : Value → Shared → Prop} {s : Shared} {X Y : List Addr} {l b : Addr} {vs us : List Value} {xs ys : List Str} {Q : Value → Shared → Prop} (hl : IsL s.heap l vs) (hb : IsL s.heap b us) (rl : RepL s.heap X (xs.map D.str) vs) (rb : RepL s.heap Y (ys.map D.str) us) (hu : A.units < cLine)
    (h : Q (.bool (lexGt xs ys)) s) : wpAny (model prog w) A (richCompare .Gt (.ref l) (.ref b)) Q E s := by
  obtain ⟨n, ho⟩ := hl
  obtain ⟨n2, ho2⟩ := hb
  have at_ : ∀ {X : List Addr} {xs : List Str} {vs : List Value}, RepL s.heap X (xs.map D.str) vs → ∀ (j : Nat) (x : Str), xs[j]? = some x → ∃ t, vs.toArray[j]? = some (Value.str x t) := fun r j x e => by
    obtain ⟨v, e1, e2⟩ := r.get (i := j) (d := .str x) (by rw [List.getElem?_map, e]; rfl)
    rw [Rep_str] at e2; obtain ⟨t, rfl⟩ := e2
    exact ⟨t, by simpa using e1⟩
  have n1 := rl.length; have n2' := rb.length
  rw [List.length_map] at n1 n2'
  exact richCompare_meets_room (op := .Gt) ⟨_, ho, rfl⟩ ⟨_, ho2, rfl⟩ F.slot_list_gt F.entry_list_gt (F.args_list_gt_2 _ _) (meetsGt l b vs.toArray us.toArray n n2 none none #[] #[] xs ys (by simpa using n1) (by simpa using n2') (at_ rl) (at_ rb))
    ⟨ho, ho2, show Value.bool (lexGt xs ys) ≠ Value.notImplemented ∧ Q (.bool (lexGt xs ys)) s from ⟨(fun x => nomatch x), h⟩⟩ hu
end Mine
namespace Mine
variable {prog : Program} {w : World}

theorem min_loop2 {A : Around} {R : Result → Shared → Prop} {s : Shared} {I S ax p q : Addr} {vs us : List Value} {xs ys : List Str} {c : Nat} {X : List Addr} (hh : A.handled = none) (hu : A.units + 10 < cLine) (hit : s.heap.IsListIter I ax 0) (hax : s.heap.IsList ax #[.ref p, .ref q]) (nx : ax ≠ I) (nS : S ≠ I) (nSx : S ≠ ax)
    (hS : s.heap.get? S = some { cls := .type "list", dict := none, data := .seq #[] c, slots := #[] }) (hp : IsL s.heap p vs) (hq : IsL s.heap q us) (rp : RepL s.heap X (xs.map D.str) vs) (rq : RepL s.heap X (ys.map D.str) us) (npI : p ≠ I) (npS : p ≠ S) (nqI : q ≠ I) (nqS : q ≠ S)
    (hR : ∀ h' tk, (∀ b o, b ≠ I → b ≠ S → s.heap.get? b = some o → h'.get? b = some o) → R (.ok (.ret (if lexLt ys xs = true then .ref q else .ref p))) { s with heap := h', toks := tk }) :
    codeAny (model prog w) A (.builtin "min.loop" ⟨[.ref I, .none, .ref S], []⟩) R s := by
  have hname : (toString "min" ++ toString ".loop" : String) = "min.loop" := by decide
  have Wk := Walks.list (prog := prog) (w := w) (A := A.in1) hh I ax nx #[.ref p, .ref q]
  have flatS : ∀ (zs : List Str), ∀ d ∈ zs.map D.str, flat d = true := fun zs d hd => by obtain ⟨z, _, rfl⟩ := List.mem_map.mp hd; rfl
  have nw : ∀ {b : Addr}, b ≠ I → b ∉ [I] := fun hb hm => hb (List.mem_singleton.mp hm)
  refine codeAny_builtin F.entry_min_loop ?_
  rw [Around.under_plainId F.plain_min_loop _]
  show wpAny _ A.in1 (seqItems? (.ref S) >>= _) _ _ s
  refine wpAny_bind (wpAny_seqItems hS rfl ?_)
  show wpAny _ A.in1 (tryCatch (pyNext (.ref I)) _ >>= _) _ _ s
  refine wpAny_bind (wpAny_tryCatch (Wk.item 0 s _ _ (by simp) ⟨hit, hax⟩ fun v h₁ tk₁ hP st₁ k₁ => ?_))
  have hv : v = .ref p := by simpa using hP.symm
  subst hv
  have hS₁ := k₁ S _ (nw nS) hS
  show wpAny _ A.in1 (updateSeq S (fun _ => #[Value.ref p, Value.ref p]) >>= _) _ _ _
  refine wpAny_bind ?_
  refine wpAny_updateSeq hS₁ rfl ?_
  rw [hname]
  have hS₂ := Heap.get?_update_self (Obj.mapSeq fun _ => #[Value.ref p, Value.ref p]) hS₁ rfl
  have k₂ : ∀ b o, b ≠ S → h₁.get? b = some o → (h₁.update S (Obj.mapSeq fun _ => #[Value.ref p, Value.ref p])).get? b = some o := fun b o hb e => (Heap.get?_update_other _ _ (Ne.symm hb)).trans e
  generalize h₁.update S (Obj.mapSeq fun _ => #[Value.ref p, Value.ref p]) = h₂ at hS₂ k₂
  have st₂ : h₂.IsListIter I ax 1 ∧ h₂.IsList ax #[.ref p, .ref q] := ⟨st₁.1.at fun o e => k₂ I o (Ne.symm nS) e, st₁.2.at fun o e => k₂ ax o (Ne.symm nSx) e⟩
  have kk₂ : ∀ b o, b ≠ I → b ≠ S → s.heap.get? b = some o → h₂.get? b = some o := fun b o hb hs e => k₂ b o hs (k₁ b o (nw hb) e)
  refine wpAny_pure ⟨plainId_quiet F.plain_min_loop _, ?_⟩
  -- the second
  refine codeAny_builtin F.entry_min_loop ?_
  rw [Around.under_plainId F.plain_min_loop _]
  show wpAny _ A.in1 (seqItems? (.ref S) >>= _) _ _ _
  refine wpAny_bind (wpAny_seqItems hS₂ rfl ?_)
  show wpAny _ A.in1 (tryCatch (pyNext (.ref I)) _ >>= _) _ _ _
  refine wpAny_bind (wpAny_tryCatch (Wk.item 1 _ _ _ (by simp) st₂ fun v h₃ tk₃ hP st₃ k₃ => ?_))
  have hv : v = .ref q := by simpa using hP.symm
  subst hv
  change ∀ b o, b ∉ [I] → h₂.get? b = some o → h₃.get? b = some o at k₃
  have hS₃ := k₃ S _ (nw nS) hS₂
  have kk₃ : ∀ b o, b ≠ I → b ≠ S → s.heap.get? b = some o → h₃.get? b = some o := fun b o hb hs e => k₃ b o (nw hb) (kk₂ b o hb hs e)
  show wpAny _ A.in1 (tryCatch (holding [Value.ref q, Value.ref q] (richCompare .Lt (.ref q) (.ref p) >>= _)) _ >>= _) _ _ _
  have lp : IsL h₃ p vs := let ⟨n, e⟩ := hp; ⟨n, kk₃ p _ npI npS e⟩
  have lq : IsL h₃ q us := let ⟨n, e⟩ := hq; ⟨n, kk₃ q _ nqI nqS e⟩
  refine wpAny_bind (wpAny_tryCatch (wpAny_holding (wpAny_bind (rcLt (s := { s with heap := h₃, toks := tk₃ }) (X := X) (Y := X) (xs := ys) (ys := xs) lq lp (rq.flatAll (flatS ys)) (rp.flatAll (flatS xs)) (by show A.units + 1 < cLine; omega) ?_))))
  refine wpAny_bind (wpAny_holding (wpAny_truthy_bool ?_))
  refine wpAny_bind (wpAny_letGo (wpAny_pure ?_))
  have last : ∀ (r : Value) (h₄ : Heap) (c₄ tk₄ : Nat), h₄.get? S = some { cls := .type "list", dict := none, data := .seq #[r, r] c₄, slots := #[] } → (h₄.IsListIter I ax 2 ∧ h₄.IsList ax #[.ref p, .ref q]) → (∀ b o, b ≠ I → b ≠ S → s.heap.get? b = some o → h₄.get? b = some o) →
      (∀ h' tk, (∀ b o, b ≠ I → b ≠ S → s.heap.get? b = some o → h'.get? b = some o) → R (.ok (.ret r)) { s with heap := h', toks := tk }) → codeAny (model prog w) A (.builtin "min.loop" ⟨[.ref I, .none, .ref S], []⟩) R { s with heap := h₄, toks := tk₄ } := fun r h₄ c₄ tk₄ hS₄ st₄ kk₄ fin => by
    refine codeAny_builtin F.entry_min_loop ?_
    rw [Around.under_plainId F.plain_min_loop _]
    show wpAny _ A.in1 (seqItems? (.ref S) >>= _) _ _ _
    refine wpAny_bind (wpAny_seqItems hS₄ rfl ?_)
    show wpAny _ A.in1 (tryCatch (pyNext (.ref I)) _ >>= _) _ _ _
    refine wpAny_bind (wpAny_tryCatch (Wk.done _ _ _ st₄ fun h₅ tk₅ k₅ => ?_))
    change ∀ b o, b ∉ [I] → h₄.get? b = some o → h₅.get? b = some o at k₅
    have hS₅ := k₅ S _ (nw nS) hS₄
    show wpAny _ A.in1 (updateSeq S (fun _ => #[]) >>= _) _ _ _
    refine wpAny_bind ?_
    refine wpAny_updateSeq hS₅ rfl (wpAny_bind (wpAny_letGo (wpAny_pure ?_)))
    exact fin _ _ fun b o hb hs e => (Heap.get?_update_other _ _ (Ne.symm hs)).trans (k₅ b o (nw hb) (kk₄ b o hb hs e))
  cases hb : lexLt ys xs with
  | true =>
    simp only [if_true]
    refine wpAny_bind ?_
    refine wpAny_updateSeq hS₃ rfl (wpAny_bind (wpAny_letGo ?_))
    rw [hname]
    have hS₄ := Heap.get?_update_self (Obj.mapSeq fun _ => #[Value.ref q, Value.ref q]) hS₃ rfl
    have k₄ : ∀ b o, b ≠ S → h₃.get? b = some o → (h₃.update S (Obj.mapSeq fun _ => #[Value.ref q, Value.ref q])).get? b = some o := fun b o hb e => (Heap.get?_update_other _ _ (Ne.symm hb)).trans e
    refine wpAny_pure ⟨plainId_quiet F.plain_min_loop _, last (.ref q) _ _ _ hS₄ ⟨st₃.1.at fun o e => k₄ I o (Ne.symm nS) e, st₃.2.at fun o e => k₄ ax o (Ne.symm nSx) e⟩ (fun b o h1 h2 e => k₄ b o h2 (kk₃ b o h1 h2 e)) fun h' tk k => ?_⟩
    have := hR h' tk k
    rw [hb] at this; simpa using this
  | false =>
    simp only [Bool.false_eq_true, if_false]
    refine wpAny_bind (wpAny_letGo ?_)
    rw [hname]
    refine wpAny_pure ⟨plainId_quiet F.plain_min_loop _, last (.ref p) _ _ _ hS₃ st₃ kk₃ fun h' tk k => ?_⟩
    have := hR h' tk k
    rw [hb] at this; simpa using this
theorem min2_ok {W : Wd} {A : Around} {lf : List Env} {n : Nat} {X : List Addr} {s : Shared} {v : Value} {xs ys : List Str} (a : AOk (n + 1) A lf) (lv : Live s.heap X) (x : Rep s.heap X (.list [.list (xs.map D.str), .list (ys.map D.str)]) v) :
    Pu W A s (call (.builtin "min") [v]) (fun z h' => Rep h' X (.list ((if lexLt ys xs = true then ys else xs).map D.str)) z) := by
  unfold Pu
  rw [Rep_list] at x
  obtain ⟨ax, ws, rfl, hax, hl, hr⟩ := x
  rw [RepL_cons] at hr
  obtain ⟨v1, r1, rfl, h1, h2⟩ := hr
  rw [RepL_cons] at h2
  obtain ⟨v2, r2, rfl, h2, h3⟩ := h2
  rw [RepL_nil] at h3
  subst h3
  have h1' := h1; have h2' := h2
  rw [Rep_list] at h1 h2
  obtain ⟨p, vs, rfl, hpX, hp, rp⟩ := h1
  obtain ⟨q, us, rfl, hqX, hq, rq⟩ := h2
  have hname : (toString "min" ++ toString ".loop" : String) = "min.loop" := by decide
  refine call_function_tree F.kind_min F.plain_min F.entry_min (F.args_min1 _) ?_
  show wpAny _ A.in1 (Builtin.Builtins.bindParams "min" ["key", "default"] 0 ⟨[], []⟩ >>= _) _ _ s
  refine wpAny_bind (wpAny_of_eq (show Builtin.Builtins.bindParams "min" ["key", "default"] 0 ⟨[], []⟩ = pure [none, none] from rfl) ?_)
  refine wpAny_bind (wpAny_pure ?_)
  refine wpAny_bind (wpAny_pyIter_list hl.is ?_)
  refine wpAny_bind (wpAny_newObj_type ?_)
  rw [hname]
  have hz : (s.heap.push { cls := .type "list_iterator", data := .fields #[.ref ax, .int 0 0] }).objs.size = s.heap.objs.size + 1 := Heap.size_push ..
  have lt : ∀ {b : Addr} {ws : List Value}, IsL s.heap b ws → b ≠ s.heap.objs.size ∧ b ≠ s.heap.objs.size + 1 := fun l => by
    obtain ⟨_, e⟩ := l; have := Heap.lt_size e; exact ⟨Nat.ne_of_lt this, Nat.ne_of_lt (Nat.lt_succ_of_lt this)⟩
  have up : ∀ b o, s.heap.get? b = some o → ((s.heap.push { cls := .type "list_iterator", data := .fields #[.ref ax, .int 0 0] }).push { cls := .type "list", data := .seq ([] : List Value).toArray }).get? b = some o := fun b o e => Heap.get?_push_of_some _ (Heap.get?_push_of_some _ e)
  have upL : ∀ {b : Addr} {ws : List Value}, IsL s.heap b ws → IsL ((s.heap.push { cls := .type "list_iterator", data := .fields #[.ref ax, .int 0 0] }).push { cls := .type "list", data := .seq ([] : List Value).toArray }) b ws := fun ⟨n, e⟩ => ⟨n, up _ _ e⟩
  have upG := Gr.of_keep up
  refine wpAny_pure ⟨plainId_quiet F.plain_min_loop _, ?_⟩
  rw [show ({ s with heap := s.heap.push { cls := .type "list_iterator", data := .fields #[.ref ax, .int 0 0] } } : Shared).heap.objs.size = s.heap.objs.size + 1 from hz]
  refine min_loop2 (s := { s with heap := (s.heap.push { cls := .type "list_iterator", data := .fields #[.ref ax, .int 0 0] }).push { cls := .type "list", data := .seq ([] : List Value).toArray } }) (I := s.heap.objs.size) (S := s.heap.objs.size + 1) (ax := ax) (p := p) (q := q) (xs := xs) (ys := ys) (X := X) (a.1 (Nat.succ_pos _)) a.room ⟨_, Heap.get?_push_of_some _ (Heap.get?_push_size _ rfl), rfl, rfl⟩ (upL hl).is (lt hl).1 (Nat.succ_ne_self _) (Ne.symm (lt hl).2)
    (by have := Heap.get?_push_size (s.heap.push { cls := .type "list_iterator", data := .fields #[.ref ax, .int 0 0] }) (o := { cls := .type "list", data := .seq ([] : List Value).toArray }) rfl; rw [hz] at this; exact this)
    (upL hp) (upL hq) (rp.gr upG) (rq.gr upG) (lt hp).1 (lt hp).2 (lt hq).1 (lt hq).2 fun h' tk k => ?_
  have keep : ∀ b o, s.heap.get? b = some o → h'.get? b = some o := fun b o e => k b o (Nat.ne_of_lt (Heap.lt_size e)) (Nat.ne_of_lt (Nat.lt_succ_of_lt (Heap.lt_size e))) (up b o e)
  refine ⟨h', tk, rfl, Gr.of_keep keep, fun b c o e => keep c o (b c o e), ?_⟩
  split
  · exact h2'.gr (Gr.of_keep keep)
  · exact h1'.gr (Gr.of_keep keep)

theorem max_loop2 {A : Around} {R : Result → Shared → Prop} {s : Shared} {I S ax p q : Addr} {vs us : List Value} {xs ys : List Str} {c : Nat} {X : List Addr} (hh : A.handled = none) (hu : A.units + 10 < cLine) (hit : s.heap.IsListIter I ax 0) (hax : s.heap.IsList ax #[.ref p, .ref q]) (nx : ax ≠ I) (nS : S ≠ I) (nSx : S ≠ ax)
    (hS : s.heap.get? S = some { cls := .type "list", dict := none, data := .seq #[] c, slots := #[] }) (hp : IsL s.heap p vs) (hq : IsL s.heap q us) (rp : RepL s.heap X (xs.map D.str) vs) (rq : RepL s.heap X (ys.map D.str) us) (npI : p ≠ I) (npS : p ≠ S) (nqI : q ≠ I) (nqS : q ≠ S)
    (hR : ∀ h' tk, (∀ b o, b ≠ I → b ≠ S → s.heap.get? b = some o → h'.get? b = some o) → R (.ok (.ret (if lexGt ys xs = true then .ref q else .ref p))) { s with heap := h', toks := tk }) :
    codeAny (model prog w) A (.builtin "max.loop" ⟨[.ref I, .none, .ref S], []⟩) R s := by
  have hname : (toString "max" ++ toString ".loop" : String) = "max.loop" := by decide
  have Wk := Walks.list (prog := prog) (w := w) (A := A.in1) hh I ax nx #[.ref p, .ref q]
  have flatS : ∀ (zs : List Str), ∀ d ∈ zs.map D.str, flat d = true := fun zs d hd => by obtain ⟨z, _, rfl⟩ := List.mem_map.mp hd; rfl
  have nw : ∀ {b : Addr}, b ≠ I → b ∉ [I] := fun hb hm => hb (List.mem_singleton.mp hm)
  refine codeAny_builtin F.entry_max_loop ?_
  rw [Around.under_plainId F.plain_max_loop _]
  show wpAny _ A.in1 (seqItems? (.ref S) >>= _) _ _ s
  refine wpAny_bind (wpAny_seqItems hS rfl ?_)
  show wpAny _ A.in1 (tryCatch (pyNext (.ref I)) _ >>= _) _ _ s
  refine wpAny_bind (wpAny_tryCatch (Wk.item 0 s _ _ (by simp) ⟨hit, hax⟩ fun v h₁ tk₁ hP st₁ k₁ => ?_))
  have hv : v = .ref p := by simpa using hP.symm
  subst hv
  have hS₁ := k₁ S _ (nw nS) hS
  show wpAny _ A.in1 (updateSeq S (fun _ => #[Value.ref p, Value.ref p]) >>= _) _ _ _
  refine wpAny_bind ?_
  refine wpAny_updateSeq hS₁ rfl ?_
  rw [hname]
  have hS₂ := Heap.get?_update_self (Obj.mapSeq fun _ => #[Value.ref p, Value.ref p]) hS₁ rfl
  have k₂ : ∀ b o, b ≠ S → h₁.get? b = some o → (h₁.update S (Obj.mapSeq fun _ => #[Value.ref p, Value.ref p])).get? b = some o := fun b o hb e => (Heap.get?_update_other _ _ (Ne.symm hb)).trans e
  generalize h₁.update S (Obj.mapSeq fun _ => #[Value.ref p, Value.ref p]) = h₂ at hS₂ k₂
  have st₂ : h₂.IsListIter I ax 1 ∧ h₂.IsList ax #[.ref p, .ref q] := ⟨st₁.1.at fun o e => k₂ I o (Ne.symm nS) e, st₁.2.at fun o e => k₂ ax o (Ne.symm nSx) e⟩
  have kk₂ : ∀ b o, b ≠ I → b ≠ S → s.heap.get? b = some o → h₂.get? b = some o := fun b o hb hs e => k₂ b o hs (k₁ b o (nw hb) e)
  refine wpAny_pure ⟨plainId_quiet F.plain_max_loop _, ?_⟩
  -- the second
  refine codeAny_builtin F.entry_max_loop ?_
  rw [Around.under_plainId F.plain_max_loop _]
  show wpAny _ A.in1 (seqItems? (.ref S) >>= _) _ _ _
  refine wpAny_bind (wpAny_seqItems hS₂ rfl ?_)
  show wpAny _ A.in1 (tryCatch (pyNext (.ref I)) _ >>= _) _ _ _
  refine wpAny_bind (wpAny_tryCatch (Wk.item 1 _ _ _ (by simp) st₂ fun v h₃ tk₃ hP st₃ k₃ => ?_))
  have hv : v = .ref q := by simpa using hP.symm
  subst hv
  change ∀ b o, b ∉ [I] → h₂.get? b = some o → h₃.get? b = some o at k₃
  have hS₃ := k₃ S _ (nw nS) hS₂
  have kk₃ : ∀ b o, b ≠ I → b ≠ S → s.heap.get? b = some o → h₃.get? b = some o := fun b o hb hs e => k₃ b o (nw hb) (kk₂ b o hb hs e)
  show wpAny _ A.in1 (tryCatch (holding [Value.ref q, Value.ref q] (richCompare .Gt (.ref q) (.ref p) >>= _)) _ >>= _) _ _ _
  have lp : IsL h₃ p vs := let ⟨n, e⟩ := hp; ⟨n, kk₃ p _ npI npS e⟩
  have lq : IsL h₃ q us := let ⟨n, e⟩ := hq; ⟨n, kk₃ q _ nqI nqS e⟩
  refine wpAny_bind (wpAny_tryCatch (wpAny_holding (wpAny_bind (rcGt (s := { s with heap := h₃, toks := tk₃ }) (X := X) (Y := X) (xs := ys) (ys := xs) lq lp (rq.flatAll (flatS ys)) (rp.flatAll (flatS xs)) (by show A.units + 1 < cLine; omega) ?_))))
  refine wpAny_bind (wpAny_holding (wpAny_truthy_bool ?_))
  refine wpAny_bind (wpAny_letGo (wpAny_pure ?_))
  have last : ∀ (r : Value) (h₄ : Heap) (c₄ tk₄ : Nat), h₄.get? S = some { cls := .type "list", dict := none, data := .seq #[r, r] c₄, slots := #[] } → (h₄.IsListIter I ax 2 ∧ h₄.IsList ax #[.ref p, .ref q]) → (∀ b o, b ≠ I → b ≠ S → s.heap.get? b = some o → h₄.get? b = some o) →
      (∀ h' tk, (∀ b o, b ≠ I → b ≠ S → s.heap.get? b = some o → h'.get? b = some o) → R (.ok (.ret r)) { s with heap := h', toks := tk }) → codeAny (model prog w) A (.builtin "max.loop" ⟨[.ref I, .none, .ref S], []⟩) R { s with heap := h₄, toks := tk₄ } := fun r h₄ c₄ tk₄ hS₄ st₄ kk₄ fin => by
    refine codeAny_builtin F.entry_max_loop ?_
    rw [Around.under_plainId F.plain_max_loop _]
    show wpAny _ A.in1 (seqItems? (.ref S) >>= _) _ _ _
    refine wpAny_bind (wpAny_seqItems hS₄ rfl ?_)
    show wpAny _ A.in1 (tryCatch (pyNext (.ref I)) _ >>= _) _ _ _
    refine wpAny_bind (wpAny_tryCatch (Wk.done _ _ _ st₄ fun h₅ tk₅ k₅ => ?_))
    change ∀ b o, b ∉ [I] → h₄.get? b = some o → h₅.get? b = some o at k₅
    have hS₅ := k₅ S _ (nw nS) hS₄
    show wpAny _ A.in1 (updateSeq S (fun _ => #[]) >>= _) _ _ _
    refine wpAny_bind ?_
    refine wpAny_updateSeq hS₅ rfl (wpAny_bind (wpAny_letGo (wpAny_pure ?_)))
    exact fin _ _ fun b o hb hs e => (Heap.get?_update_other _ _ (Ne.symm hs)).trans (k₅ b o (nw hb) (kk₄ b o hb hs e))
  cases hb : lexGt ys xs with
  | true =>
    simp only [if_true]
    refine wpAny_bind ?_
    refine wpAny_updateSeq hS₃ rfl (wpAny_bind (wpAny_letGo ?_))
    rw [hname]
    have hS₄ := Heap.get?_update_self (Obj.mapSeq fun _ => #[Value.ref q, Value.ref q]) hS₃ rfl
    have k₄ : ∀ b o, b ≠ S → h₃.get? b = some o → (h₃.update S (Obj.mapSeq fun _ => #[Value.ref q, Value.ref q])).get? b = some o := fun b o hb e => (Heap.get?_update_other _ _ (Ne.symm hb)).trans e
    refine wpAny_pure ⟨plainId_quiet F.plain_max_loop _, last (.ref q) _ _ _ hS₄ ⟨st₃.1.at fun o e => k₄ I o (Ne.symm nS) e, st₃.2.at fun o e => k₄ ax o (Ne.symm nSx) e⟩ (fun b o h1 h2 e => k₄ b o h2 (kk₃ b o h1 h2 e)) fun h' tk k => ?_⟩
    have := hR h' tk k
    rw [hb] at this; simpa using this
  | false =>
    simp only [Bool.false_eq_true, if_false]
    refine wpAny_bind (wpAny_letGo ?_)
    rw [hname]
    refine wpAny_pure ⟨plainId_quiet F.plain_max_loop _, last (.ref p) _ _ _ hS₃ st₃ kk₃ fun h' tk k => ?_⟩
    have := hR h' tk k
    rw [hb] at this; simpa using this
theorem max2_ok {W : Wd} {A : Around} {lf : List Env} {n : Nat} {X : List Addr} {s : Shared} {v : Value} {xs ys : List Str} (a : AOk (n + 1) A lf) (lv : Live s.heap X) (x : Rep s.heap X (.list [.list (xs.map D.str), .list (ys.map D.str)]) v) :
    Pu W A s (call (.builtin "max") [v]) (fun z h' => Rep h' X (.list ((if lexGt ys xs = true then ys else xs).map D.str)) z) := by
  unfold Pu
  rw [Rep_list] at x
  obtain ⟨ax, ws, rfl, hax, hl, hr⟩ := x
  rw [RepL_cons] at hr
  obtain ⟨v1, r1, rfl, h1, h2⟩ := hr
  rw [RepL_cons] at h2
  obtain ⟨v2, r2, rfl, h2, h3⟩ := h2
  rw [RepL_nil] at h3
  subst h3
  have h1' := h1; have h2' := h2
  rw [Rep_list] at h1 h2
  obtain ⟨p, vs, rfl, hpX, hp, rp⟩ := h1
  obtain ⟨q, us, rfl, hqX, hq, rq⟩ := h2
  have hname : (toString "max" ++ toString ".loop" : String) = "max.loop" := by decide
  refine call_function_tree F.kind_max F.plain_max F.entry_max (F.args_max1 _) ?_
  show wpAny _ A.in1 (Builtin.Builtins.bindParams "max" ["key", "default"] 0 ⟨[], []⟩ >>= _) _ _ s
  refine wpAny_bind (wpAny_of_eq (show Builtin.Builtins.bindParams "max" ["key", "default"] 0 ⟨[], []⟩ = pure [none, none] from rfl) ?_)
  refine wpAny_bind (wpAny_pure ?_)
  refine wpAny_bind (wpAny_pyIter_list hl.is ?_)
  refine wpAny_bind (wpAny_newObj_type ?_)
  rw [hname]
  have hz : (s.heap.push { cls := .type "list_iterator", data := .fields #[.ref ax, .int 0 0] }).objs.size = s.heap.objs.size + 1 := Heap.size_push ..
  have lt : ∀ {b : Addr} {ws : List Value}, IsL s.heap b ws → b ≠ s.heap.objs.size ∧ b ≠ s.heap.objs.size + 1 := fun l => by
    obtain ⟨_, e⟩ := l; have := Heap.lt_size e; exact ⟨Nat.ne_of_lt this, Nat.ne_of_lt (Nat.lt_succ_of_lt this)⟩
  have up : ∀ b o, s.heap.get? b = some o → ((s.heap.push { cls := .type "list_iterator", data := .fields #[.ref ax, .int 0 0] }).push { cls := .type "list", data := .seq ([] : List Value).toArray }).get? b = some o := fun b o e => Heap.get?_push_of_some _ (Heap.get?_push_of_some _ e)
  have upL : ∀ {b : Addr} {ws : List Value}, IsL s.heap b ws → IsL ((s.heap.push { cls := .type "list_iterator", data := .fields #[.ref ax, .int 0 0] }).push { cls := .type "list", data := .seq ([] : List Value).toArray }) b ws := fun ⟨n, e⟩ => ⟨n, up _ _ e⟩
  have upG := Gr.of_keep up
  refine wpAny_pure ⟨plainId_quiet F.plain_max_loop _, ?_⟩
  rw [show ({ s with heap := s.heap.push { cls := .type "list_iterator", data := .fields #[.ref ax, .int 0 0] } } : Shared).heap.objs.size = s.heap.objs.size + 1 from hz]
  refine max_loop2 (s := { s with heap := (s.heap.push { cls := .type "list_iterator", data := .fields #[.ref ax, .int 0 0] }).push { cls := .type "list", data := .seq ([] : List Value).toArray } }) (I := s.heap.objs.size) (S := s.heap.objs.size + 1) (ax := ax) (p := p) (q := q) (xs := xs) (ys := ys) (X := X) (a.1 (Nat.succ_pos _)) a.room ⟨_, Heap.get?_push_of_some _ (Heap.get?_push_size _ rfl), rfl, rfl⟩ (upL hl).is (lt hl).1 (Nat.succ_ne_self _) (Ne.symm (lt hl).2)
    (by have := Heap.get?_push_size (s.heap.push { cls := .type "list_iterator", data := .fields #[.ref ax, .int 0 0] }) (o := { cls := .type "list", data := .seq ([] : List Value).toArray }) rfl; rw [hz] at this; exact this)
    (upL hp) (upL hq) (rp.gr upG) (rq.gr upG) (lt hp).1 (lt hp).2 (lt hq).1 (lt hq).2 fun h' tk k => ?_
  have keep : ∀ b o, s.heap.get? b = some o → h'.get? b = some o := fun b o e => k b o (Nat.ne_of_lt (Heap.lt_size e)) (Nat.ne_of_lt (Nat.lt_succ_of_lt (Heap.lt_size e))) (up b o e)
  refine ⟨h', tk, rfl, Gr.of_keep keep, fun b c o e => keep c o (b c o e), ?_⟩
  split
  · exact h2'.gr (Gr.of_keep keep)
  · exact h1'.gr (Gr.of_keep keep)
end Mine
open AutoSeq1 (wpAny_loadPart')
namespace Mine
theorem owner_map : Manifest.owners.lookup (String.ofList ['p', 'a', 'm'].reverse) = some Manifest.sig_map := by kernel_rfl
theorem mro_map : mroOf (.type "map") = pure [.type "map", .type "object"] := by rw [mroOf_type]; kernel_rfl
theorem lookup_map_new : typeLookup (.type "map") "__new__" = pure (some (.builtin "map.__new__")) := by rw [typeLookup_type, builtinLookup_eq_fast]; kernel_rfl
theorem slot_map_init : PySem.Slot "map" "__init__" "object.__init__" :=
  .of (owner := "object") (n := "__init__") (by rw [typeLookup_type, builtinLookup_eq_fast]; kernel_rfl) (by decide +kernel) (by decide +kernel) (by decide +kernel)
    (by first | exact .inl (by decide +kernel) | exact .inr (by decide +kernel)) (by rw [isSubtype_type]; kernel_rfl)
theorem slot_map_iter : PySem.Slot "map" "__iter__" "map.__iter__" :=
  .of (owner := "map") (n := "__iter__") (by rw [typeLookup_type, builtinLookup_eq_fast]; kernel_rfl) (by decide +kernel) (by decide +kernel) (by decide +kernel)
    (by first | exact .inl (by decide +kernel) | exact .inr (by decide +kernel)) (by rw [isSubtype_type]; kernel_rfl)
theorem args_map_iter (a : Value) : argsOk "map.__iter__" ⟨[a], []⟩ := by
  unfold argsOk; rw [signature?_of (id := "map.__iter__") (n := ['_', '_', 'r', 'e', 't', 'i', '_', '_']) (o := ['p', 'a', 'm']) (by kernel_rfl) owner_map]; kernel_rfl
theorem slot_map_next : PySem.Slot "map" "__next__" "map.__next__" :=
  .of (owner := "map") (n := "__next__") (by rw [typeLookup_type, builtinLookup_eq_fast]; kernel_rfl) (by decide +kernel) (by decide +kernel) (by decide +kernel)
    (by first | exact .inl (by decide +kernel) | exact .inr (by decide +kernel)) (by rw [isSubtype_type]; kernel_rfl)
theorem args_map_next (a : Value) : argsOk "map.__next__" ⟨[a], []⟩ := by
  unfold argsOk; rw [signature?_of (id := "map.__next__") (n := ['_', '_', 't', 'x', 'e', 'n', '_', '_']) (o := ['p', 'a', 'm']) (by kernel_rfl) owner_map]; kernel_rfl
theorem entry_map_next : entryFor table "map.__next__" = some Builtin.«map.__next__» := entryFor_of_fast (by kernel_rfl)
theorem entry_map_new : entryFor table "map.__new__" = some Builtin.«map.__new__» := entryFor_of_fast (by kernel_rfl)
theorem entry_map_iter : entryFor table "map.__iter__" = some Builtin.«dict_keyiterator.__iter__» :=
  entryFor_alias (id' := "dict_keyiterator.__iter__") (by kernel_rfl) (by first | rfl | decide +kernel | (unfold String.splitOn; simp +decide [String.splitOnAux])) (by decide +kernel) (by kernel_rfl)
theorem called_map : TypeCalled "map" "map.__new__" "object.__init__" :=
  ⟨by decide +kernel, by decide +kernel, ⟨_, _, mro_map⟩, madeBy_type mro_map lookup_map_new (by decide +kernel), by decide +kernel, by rw [isSubtype_type]; kernel_rfl, slot_map_init⟩
theorem typeCall_map (a b : Value) : checkTypeCall "map" ⟨[a, b], []⟩ = pure () := by kernel_rfl
theorem newCall_map (a b : Value) : checkBuiltinCall "map.__new__" ⟨[.type "map", a, b], []⟩ = pure () := by kernel_rfl
theorem map_no_len : typeLookup (.type "map") "__len__" = pure none := by rw [typeLookup_type, builtinLookup_eq_fast]; kernel_rfl
theorem map_no_hint : typeLookup (.type "map") "__length_hint__" = pure none := by rw [typeLookup_type, builtinLookup_eq_fast]; kernel_rfl
theorem sub_map : isSubtype (.type "map") (.type "map") = pure true := by rw [isSubtype_type]; kernel_rfl
theorem meets_map_new (f l : Addr) (items : Array Value) (n : Nat) :
    Meets (Builtin.«map.__new__» ⟨[.type "map", .ref f, .ref l], []⟩) (fun _ R s => s.heap.get? l = some { cls := .type "list", dict := none, data := .seq items n, slots := #[] } ∧
      R (.ok (.ret (.ref ((s.heap.push { cls := .type "list_iterator", data := .fields #[.ref l, .int 0 0] }).push { cls := .type "tuple", data := .seq #[.ref s.heap.objs.size] }).objs.size)))
        { s with heap := ((s.heap.push { cls := .type "list_iterator", data := .fields #[.ref l, .int 0 0] }).push { cls := .type "tuple", data := .seq #[.ref s.heap.objs.size] }).push { cls := .type "map", data := .fields #[.ref (s.heap.push { cls := .type "list_iterator", data := .fields #[.ref l, .int 0 0] }).objs.size, .ref f] } }) :=
  .of_wp fun prog w A R s h => by
    obtain ⟨hp, g, d, tk, os⟩ := s; obtain ⟨hl, h⟩ := h
    have hsub := sub_map
    have hL : Heap.IsList (Shared.heap ⟨hp, g, d, tk, os⟩) l items := ⟨_, hl, rfl, n, rfl⟩
    wp_walk using wpAny_loadPart' hl, wpAny_pyIter_list hL
    exact ⟨_, rfl, h⟩
end Mine
open AutoSeq1 (wpAny_loadPart')
namespace Mine
section
variable {prog : Program} {w : World} {A : Around} {E : Value → Shared → Prop} {s : Shared}
noncomputable abbrev mapObj (tp f : Addr) : Obj := { cls := .type "map", dict := none, data := .fields #[.ref tp, .ref f], slots := #[] }
theorem call_map {f l : Addr} {vs : List Value} {Q : Value → Shared → Prop} (hl : IsL s.heap l vs)
    (h : ∀ h', h'.IsListIter s.heap.objs.size l 0 → IsT h' (s.heap.objs.size + 1) [.ref s.heap.objs.size] → h'.get? (s.heap.objs.size + 2) = some (mapObj (s.heap.objs.size + 1) f) → (∀ b o, s.heap.get? b = some o → h'.get? b = some o) → Q (.ref (s.heap.objs.size + 2)) { s with heap := h' }) :
    wpAny (model prog w) A (call (.type "map") [.ref f, .ref l]) Q E s := by
  obtain ⟨n, hl⟩ := hl
  refine callType_new called_map (by decide) (typeCall_map _ _) (newCall_map _ _) (fun obj => F.args_object_init_3 obj _ _) entry_map_new (meets_map_new f l vs.toArray n) ⟨hl, ?_⟩
  have z1 : (s.heap.push { cls := .type "list_iterator", data := .fields #[.ref l, .int 0 0] }).objs.size = s.heap.objs.size + 1 := Heap.size_push ..
  have z2 : ((s.heap.push { cls := .type "list_iterator", data := .fields #[.ref l, .int 0 0] }).push { cls := .type "tuple", data := .seq #[.ref s.heap.objs.size] }).objs.size = s.heap.objs.size + 2 := by rw [Heap.size_push, z1]
  show _ ∧ _
  rw [z1, z2]
  have p1 := Heap.get?_push_size s.heap (o := { cls := .type "list_iterator", data := .fields #[.ref l, .int 0 0] }) rfl
  have p2 := Heap.get?_push_size (s.heap.push { cls := .type "list_iterator", data := .fields #[.ref l, .int 0 0] }) (o := { cls := .type "tuple", data := .seq #[.ref s.heap.objs.size] }) rfl
  have p3 := Heap.get?_push_size ((s.heap.push { cls := .type "list_iterator", data := .fields #[.ref l, .int 0 0] }).push { cls := .type "tuple", data := .seq #[.ref s.heap.objs.size] }) (o := { cls := .type "map", data := .fields #[.ref (s.heap.objs.size + 1), .ref f] }) rfl
  rw [z1] at p2
  rw [z2] at p3
  exact ⟨⟨_, p3, rfl⟩, h _ ⟨_, Heap.get?_push_of_some _ (Heap.get?_push_of_some _ p1), rfl, rfl⟩ ⟨_, Heap.get?_push_of_some _ p2⟩ p3 fun b o x => Heap.get?_push_of_some _ (Heap.get?_push_of_some _ (Heap.get?_push_of_some _ x))⟩
theorem map_iter {m tp f : Addr} {Q : Value → Shared → Prop} (hm : s.heap.get? m = some (mapObj tp f)) (h : Q (.ref m) s) : wpAny (model prog w) A (pyIter (.ref m)) Q E s := by
  have hT : s.TypeIs (.ref m) "map" := ⟨_, hm, rfl⟩
  refine wpAny_pyIter_slot hT slot_map_iter (wpAny_call_entry slot_map_iter hT entry_map_iter ?_ (args_map_iter _))
  show wpAny _ _ (ret (.ref m)) _ _ s
  exact wpAny_pure ⟨_, rfl, "map", _, hT, slot_map_next.lookup, h⟩
theorem map_next {m tp f it ax : Addr} {i : Nat} {items : Array Value} {x : Value} {Q : Option Value → Shared → Prop} (hm : s.heap.get? m = some (mapObj tp f)) (ht : IsT s.heap tp [.ref it]) (hit : s.heap.IsListIter it ax i) (hax : s.heap.IsList ax items) (hx : items[i]? = some x)
    (hc : ∀ h₁, h₁.IsListIter it ax (i + 1) → Heap.SameBut it s.heap h₁ → wpAny (model prog w) A.in1 (call (.ref f) [x]) (fun v s' => Q (some v) s') (fun _ _ => False) { s with heap := h₁ }) :
    wpAny (model prog w) A (pyNext (.ref m)) Q E s := by
  have hT : s.TypeIs (.ref m) "map" := ⟨_, hm, rfl⟩
  obtain ⟨k, ht⟩ := ht
  unfold pyNext
  refine wpAny_bind (wpAny_attempt (wpAny_callSpecial?_slot (name := Str.ofString "__next__") hT slot_map_next
    (wpAny_call_entry slot_map_next hT entry_map_next ?_ (args_map_next _))))
  show wpAny _ _ (field (.ref m) 0 >>= _) _ _ _
  refine wpAny_bind (wpAny_field hm rfl (x := .ref tp) rfl ?_)
  show wpAny _ _ (seqItems? (.ref tp) >>= _) _ _ _
  refine wpAny_bind (wpAny_seqItems ht rfl ?_)
  simp only []
  rw [← Array.forIn_toList]
  simp only [List.forIn_cons]
  refine wpAny_bind (wpAny_bind (wpAny_bind (wpAny_holding (wpAny_nextOf_list_item hit hax hx fun h₁ hit₁ hs₁ => ?_))))
  have hne : m ≠ it := by rintro rfl; obtain ⟨o, e, c, _⟩ := hit; rw [hm] at e; cases e; simp at c
  have hm₁ : h₁.get? m = some (mapObj tp f) := (hs₁.2 m hne).trans hm
  refine wpAny_pure ?_
  simp only [List.forIn_nil]
  refine wpAny_pure ?_
  show wpAny _ _ (field (.ref m) 1 >>= _) _ _ _
  refine wpAny_bind (wpAny_field hm₁ rfl (x := .ref f) rfl ?_)
  refine wpAny_bind (wpAny_holding ?_)
  refine wpAny_mono (hc h₁ hit₁ hs₁) (fun v s' q => ?_) fun _ _ e => e.elim
  refine wpAny_bind (wpAny_letGo ?_)
  refine wpAny_pure ⟨v, rfl, wpAny_pure q⟩
theorem map_done {m tp f it ax : Addr} {i : Nat} {items : Array Value} {Q : Option Value → Shared → Prop} (hh : A.handled = none) (hm : s.heap.get? m = some (mapObj tp f)) (ht : IsT s.heap tp [.ref it]) (hit : s.heap.IsListIter it ax i) (hax : s.heap.IsList ax items) (hx : items[i]? = none)
    (hQ : ∀ h', Heap.ExtBut it s.heap h' → Q none { s with heap := h' }) : wpAny (model prog w) A (pyNext (.ref m)) Q E s := by
  have hT : s.TypeIs (.ref m) "map" := ⟨_, hm, rfl⟩
  obtain ⟨k, ht⟩ := ht
  unfold pyNext
  refine wpAny_bind (wpAny_attempt (wpAny_callSpecial?_slot (name := Str.ofString "__next__") hT slot_map_next
    (wpAny_call_entry slot_map_next hT entry_map_next ?_ (args_map_next _))))
  show wpAny _ _ (field (.ref m) 0 >>= _) _ _ _
  refine wpAny_bind (wpAny_field hm rfl (x := .ref tp) rfl ?_)
  show wpAny _ _ (seqItems? (.ref tp) >>= _) _ _ _
  refine wpAny_bind (wpAny_seqItems ht rfl ?_)
  simp only []
  rw [← Array.forIn_toList]
  simp only [List.forIn_cons]
  refine wpAny_bind (wpAny_bind (wpAny_bind (wpAny_holding (wpAny_nextOf_list_end hh hit hax hx fun h₁ e hs₁ he => ?_))))
  obtain ⟨o, ho, hc⟩ := he
  refine wpAny_bind (wpAny_isInstance (T := "StopIteration") (b := true) ⟨o, ho, hc⟩ isSubtype_stop ?_)
  exact wpAny_pure (hQ _ hs₁)
end
end Mine
open AutoSeq1 (wpAny_loadPart')
namespace Mine
section
variable {W : Wd} {n : Nat} {A : Around} {lf : List Env} {s : Shared} {X : List Addr}
theorem AOk.in1 (a : AOk (n + 1) A lf) : AOk n A.in1 lf := ⟨fun _ => a.1 (Nat.succ_pos _), a.2.1, by have := a.2.2.1; show A.depth + 20 * n ≤ 800; omega, by have := a.2.2.2; show A.units + 1 + 100 * n ≤ 9000; omega⟩

/-- the walk of a map over a list, into the list S -/
structure MapSt (W : Wd) (H0 h : Heap) (m tp f it ax S : Addr) (vs acc : List Value) (i : Nat) : Prop where
  gr : Gr H0 h
  base : W.hB.StaysIn h
  hm : h.get? m = some (mapObj tp f)
  ht : IsT h tp [.ref it]
  hit : h.IsListIter it ax i
  hax : IsL h ax vs
  hS : IsL h S acc
theorem MapSt.ne {H0 h : Heap} {m tp f it ax S : Addr} {vs acc : List Value} {i : Nat} (q : MapSt W H0 h m tp f it ax S vs acc i) : m ≠ it ∧ tp ≠ it ∧ ax ≠ it ∧ S ≠ it ∧ m ≠ S ∧ tp ≠ S ∧ it ≠ S := by
  obtain ⟨oi, ei, ci, di⟩ := q.hit
  obtain ⟨k1, e1⟩ := q.ht
  obtain ⟨k2, e2⟩ := q.hax
  obtain ⟨k3, e3⟩ := q.hS
  have hm := q.hm
  refine ⟨?_, ?_, ?_, ?_, ?_, ?_, ?_⟩ <;> rintro rfl
  · rw [hm] at ei; cases ei; simp at ci
  · rw [e1] at ei; cases ei; simp at ci
  · rw [e2] at ei; cases ei; simp at ci
  · rw [e3] at ei; cases ei; simp at ci
  · rw [hm] at e3; simp at e3
  · rw [e1] at e3; simp at e3
  · rw [ei] at e3; cases e3; simp at ci
theorem MapSt.turn {H0 : Heap} {m tp f it ax S : Addr} {vs acc : List Value} {i : Nat} {x : Str} {t : Tok} {res : Value} {R : Result → Shared → Prop} {h : Heap} {tk : Nat} (a : AOk (n + 2) A lf) (hn1 : H0.get? it = none) (hn2 : H0.get? S = none) (b1 : W.hB.get? it = none) (b2 : W.hB.get? S = none) (g0 : Gd W lf H0 X)
    (c : CallOk W n f [.str x] (.str x)) (q : MapSt W H0 h m tp f it ax S vs acc i) (hx : vs[i]? = some (.str x t)) (hsz : acc.length < 100) (hne : ax ≠ S)
    (hR : ∀ h' tk' t', MapSt W H0 h' m tp f it ax S vs (acc ++ [.str x t']) (i + 1) → codeAny (model W.prog W.w) A (.builtin "list.extend.loop" ⟨[.ref S, .ref m, res], []⟩) R { s with heap := h', toks := tk' }) :
    codeAny (model W.prog W.w) A (.builtin "list.extend.loop" ⟨[.ref S, .ref m, res], []⟩) R { s with heap := h, toks := tk } := by
  obtain ⟨n1, n2, n3, n4, n5, n6, n7⟩ := q.ne
  refine codeAny_builtin F.entry_extend_loop ?_
  rw [Around.under_plainId F.plain_extend_loop _]
  show wpAny _ A.in1 (pyNext (.ref m) >>= _) _ _ _
  refine wpAny_bind (map_next (i := i) (items := vs.toArray) (x := .str x t) q.hm q.ht q.hit q.hax.is (by simpa using hx) fun h₁ hit₁ hs₁ => ?_)
  change Heap.SameBut it h h₁ at hs₁
  have k₁ : ∀ b o, b ≠ it → h.get? b = some o → h₁.get? b = some o := fun b o hb e => (hs₁.2 b hb).trans e
  have gr₁ : Gr H0 h₁ := fun b o e => by
    obtain ⟨o', e', z⟩ := q.gr b o e
    exact ⟨o', k₁ b o' (fun z => by rw [z, hn1] at e; cases e) e', z⟩
  have base₁ : W.hB.StaysIn h₁ := fun b o e => k₁ b o (fun z => by rw [z, b1] at e; cases e) (q.base b o e)
  refine (c A.in1.in1 lf X { s with heap := h₁, toks := tk } [.str x t] a.in1.in1 (g0.gr gr₁ fun _ => base₁) (.mkCons .mkStr .mkNil)).to fun v h₂ tk₂ g₂ b₂ r₂ => ?_
  change Gr h₁ h₂ at g₂
  rw [Rep_str] at r₂
  obtain ⟨t', rfl⟩ := r₂
  have kf : ∀ b o, b ≠ it → h.get? b = some o → (∀ es ep, o.data ≠ .dict es ep) → h₂.get? b = some o := fun b o hb e hd => g₂.get (k₁ b o hb e) hd
  have hS₂ : IsL h₂ S acc := let ⟨k, e⟩ := q.hS; ⟨k, kf S _ n4 e fun _ _ z => by cases z⟩
  obtain ⟨k, eS⟩ := id hS₂
  show wpAny _ A.in1 (updateSeq S (·.push (.str x t')) >>= _) _ _ _
  refine wpAny_bind ?_
  refine wpAny_updateSeq eS rfl (wpAny_pure ⟨plainId_quiet F.plain_extend_loop _, hR _ _ t' ?_⟩) (by simp [sizeLine]; omega) (by show (acc.toArray.push _).size ≤ sizeLine + 1; simp [sizeLine]; omega)
  have k₃ : ∀ b o, b ≠ S → h₂.get? b = some o → (h₂.update S (Obj.mapSeq (·.push (.str x t')))).get? b = some o := fun b o hb e => (Heap.get?_update_other _ _ (Ne.symm hb)).trans e
  refine ⟨fun b o e => ?_, fun b o e => k₃ b o (fun z => by rw [z, b2] at e; cases e) (b₂ base₁ b o e), k₃ m _ n5 (kf m _ n1 q.hm fun _ _ z => by cases z), ?_, ?_, ?_, ?_⟩
  · obtain ⟨o', e', z⟩ := gr₁ b o e
    obtain ⟨o2, e2, z2⟩ := g₂ b o' e'
    exact ⟨o2, k₃ b o2 (fun z => by rw [z, hn2] at e; cases e) e2, z.trans z2⟩
  · obtain ⟨k, e⟩ := q.ht; exact ⟨k, k₃ tp _ n6 (kf tp _ n2 e fun _ _ z => by cases z)⟩
  · obtain ⟨o, e, c1, d1⟩ := hit₁
    exact ⟨o, k₃ it o n7 (g₂.get e fun _ _ z => by rw [d1] at z; cases z), c1, d1⟩
  · obtain ⟨k, e⟩ := q.hax; exact ⟨k, k₃ ax _ hne (kf ax _ n3 e fun _ _ z => by cases z)⟩
  · have := upd_list (fun xs => xs.push (.str x t')) hS₂
    simpa using this
theorem MapSt.end {H0 : Heap} {m tp f it ax S : Addr} {vs acc : List Value} {i : Nat} {res : Value} {R : Result → Shared → Prop} {h : Heap} {tk : Nat} (hh : A.handled = none) (hn1 : H0.get? it = none) (b1 : W.hB.get? it = none)
    (q : MapSt W H0 h m tp f it ax S vs acc i) (hx : vs[i]? = none) (hR : ∀ h' tk', Gr H0 h' → W.hB.StaysIn h' → IsL h' S acc → R (.ok (.ret res)) { s with heap := h', toks := tk' }) :
    codeAny (model W.prog W.w) A (.builtin "list.extend.loop" ⟨[.ref S, .ref m, res], []⟩) R { s with heap := h, toks := tk } := by
  obtain ⟨n1, n2, n3, n4, n5, n6, n7⟩ := q.ne
  refine codeAny_builtin F.entry_extend_loop ?_
  rw [Around.under_plainId F.plain_extend_loop _]
  show wpAny _ A.in1 (pyNext (.ref m) >>= _) _ _ _
  refine wpAny_bind (map_done (i := i) (items := vs.toArray) hh q.hm q.ht q.hit q.hax.is (by simpa using hx) fun h₁ hx₁ => ?_)
  change Heap.ExtBut it h h₁ at hx₁
  refine wpAny_pure (hR h₁ tk (fun b o e => ?_) (fun b o e => hx₁ b o (fun z => by rw [z, b1] at e; cases e) (q.base b o e)) ?_)
  · obtain ⟨o', e', z⟩ := q.gr b o e
    exact ⟨o', hx₁ b o' (fun z => by rw [z, hn1] at e; cases e) e', z⟩
  · obtain ⟨k, e⟩ := q.hS; exact ⟨k, hx₁ S _ n4 e⟩
theorem collect_map2 {H0 : Heap} {m tp f it ax : Addr} {x y : Str} {t1 t2 : Tok} {Q : List Value → Shared → Prop} {E : Value → Shared → Prop} (a : AOk (n + 4) A lf) (hn1 : H0.get? it = none) (b1 : W.hB.get? it = none) (g0 : Gd W lf H0 X) (c : ∀ x, CallOk W n f [.str x] (.str x))
    (gr : Gr H0 s.heap) (base : W.hB.StaysIn s.heap) (hm : s.heap.get? m = some (mapObj tp f)) (ht : IsT s.heap tp [.ref it]) (hit : s.heap.IsListIter it ax 0) (hax : IsL s.heap ax [.str x t1, .str y t2])
    (hQ : ∀ h' tk u1 u2, Gr H0 h' → W.hB.StaysIn h' → Q [.str x u1, .str y u2] { s with heap := h', toks := tk }) : wpAny (model W.prog W.w) A (collect (.ref m)) Q E s := by
  have hh : A.handled = none := a.1 (Nat.succ_pos _)
  have hT : ∀ {h : Heap}, h.get? m = some (mapObj tp f) → ({ s with heap := h } : Shared).TypeIs (.ref m) "map" := fun e => ⟨_, e, rfl⟩
  have hm' := Heap.get?_push_of_some { cls := .type "list", data := .seq ([] : List Value).toArray } hm
  have hSm : s.heap.objs.size ≠ m := Nat.ne_of_gt (Heap.lt_size hm)
  unfold collect
  refine wpAny_bind (wpAny_runValue (codeAny_builtin F.entry_proto_collect ?_))
  rw [Around.under_plainId F.plain_proto_collect _]
  show wpAny _ A.in1 (newList [] >>= fun l => again (.builtin "list.__iadd__" ⟨[l, .ref m], []⟩)) _ _ s
  refine wpAny_bind (wpAny_newObj_type ?_)
  refine wpAny_pure ⟨plainId_quiet F.plain_list_iadd _, codeAny_builtin F.entry_list_iadd ?_⟩
  rw [Around.under_plainId F.plain_list_iadd _]
  show wpAny _ A.in1 (Builtin.List.listExtendWith (.ref s.heap.objs.size) (.ref m) (.ref s.heap.objs.size)) _ _ _
  unfold Builtin.List.listExtendWith
  refine wpAny_bind (wpAny_typeOf (hT hm') ?_)
  have h1 : Builtin.List.listSameRef (.ref s.heap.objs.size) (.ref m) = false := by simp [Builtin.List.listSameRef, hSm]
  have h2 : (Value.type "map" == Value.type "list") = false := by decide
  have h3 : (Value.type "map" == Value.type "tuple") = false := by decide
  simp only [h1, h2, h3, Bool.or_false, Bool.false_eq_true, if_false]
  refine wpAny_bind (map_iter hm' ?_)
  refine wpAny_bind (wpAny_holding ?_)
  unfold Builtin.List.listLengthHint
  refine wpAny_bind (wpAny_specialOf (hT hm') map_no_len ?_)
  show wpAny _ A.in1 (specialOf (Value.ref m) (Str.ofString "__length_hint__") >>= _) _ _ _
  refine wpAny_bind (wpAny_specialOf (hT hm') map_no_hint ?_)
  refine wpAny_pure ?_
  show wpAny _ A.in1 (rule "list.extend.makes-room" >>= fun _ => Builtin.List.listTouch (.ref s.heap.objs.size) >>= fun _ =>
    again (.builtin "list.extend.loop" ⟨[.ref s.heap.objs.size, .ref m, .ref s.heap.objs.size], []⟩)) _ _ _
  refine wpAny_bind (wpAny_rule ?_)
  have hS₁ : (s.heap.push { cls := .type "list", data := .seq ([] : List Value).toArray }).get? s.heap.objs.size = some { cls := .type "list", data := .seq ([] : List Value).toArray } := Heap.get?_push_size _ rfl
  refine wpAny_bind ?_
  show wpAny _ A.in1 (updateSeq s.heap.objs.size (·.push .none) >>= fun _ => updateSeq s.heap.objs.size (·.pop)) _ _ _
  refine wpAny_bind (wpAny_updateSeq hS₁ rfl ?_)
  have hS₂ := Heap.get?_update_self (Obj.mapSeq (·.push Value.none)) hS₁ rfl
  refine wpAny_updateSeq hS₂ rfl ?_
  have hS₃ := Heap.get?_update_self (Obj.mapSeq (·.pop)) hS₂ rfl
  have oth : ∀ b o, b ≠ s.heap.objs.size → (s.heap.push { cls := .type "list", data := .seq ([] : List Value).toArray }).get? b = some o →
      (((s.heap.push { cls := .type "list", data := .seq ([] : List Value).toArray }).update s.heap.objs.size (Obj.mapSeq (·.push Value.none))).update s.heap.objs.size (Obj.mapSeq (·.pop))).get? b = some o :=
    fun b o hb e => (Heap.get?_update_other _ _ (Ne.symm hb)).trans ((Heap.get?_update_other _ _ (Ne.symm hb)).trans e)
  have kp : ∀ b o, s.heap.get? b = some o → (((s.heap.push { cls := .type "list", data := .seq ([] : List Value).toArray }).update s.heap.objs.size (Obj.mapSeq (·.push Value.none))).update s.heap.objs.size (Obj.mapSeq (·.pop))).get? b = some o :=
    fun b o e => oth b o (Nat.ne_of_lt (Heap.lt_size e)) (Heap.get?_push_of_some _ e)
  have hn2 : H0.get? s.heap.objs.size = none := by
    cases e : H0.get? s.heap.objs.size with
    | none => rfl
    | some o => obtain ⟨o', e', _⟩ := gr _ o e; exact absurd (Heap.lt_size e') (Nat.lt_irrefl _)
  have b2 : W.hB.get? s.heap.objs.size = none := by
    cases e : W.hB.get? s.heap.objs.size with
    | none => rfl
    | some o => have := base _ o e; exact absurd (Heap.lt_size this) (Nat.lt_irrefl _)
  have hxS : ax ≠ s.heap.objs.size := by obtain ⟨_, e⟩ := hax; exact Nat.ne_of_lt (Heap.lt_size e)
  refine wpAny_pure ⟨plainId_quiet F.plain_extend_loop _, ?_⟩
  refine MapSt.turn (s := s) (n := n) (x := x) (t := t1) (i := 0) (acc := []) (vs := [.str x t1, .str y t2]) (X := X) (a.le (by omega)) hn1 hn2 b1 b2 g0 (c x) ⟨gr.trans (Gr.of_keep kp), fun b o e => kp b o (base b o e), kp m _ hm, let ⟨k, e⟩ := ht; ⟨k, kp tp _ e⟩, let ⟨o, e, r⟩ := hit; ⟨o, kp it o e, r⟩, let ⟨k, e⟩ := hax; ⟨k, kp ax _ e⟩, ⟨_, hS₃⟩⟩ rfl (by decide) hxS fun h₄ tk₄ u1 q₄ => ?_
  refine MapSt.turn (s := s) (n := n) (x := y) (t := t2) (i := 1) (X := X) (a.le (by omega)) hn1 hn2 b1 b2 g0 (c y) q₄ rfl (by simp) hxS fun h₅ tk₅ u2 q₅ => ?_
  refine MapSt.end (s := s) hh hn1 b1 q₅ rfl fun h₆ tk₆ g₆ b₆ l₆ => ?_
  obtain ⟨k, e⟩ := l₆
  show wpAny _ A (load s.heap.objs.size >>= _) _ _ _
  refine wpAny_bind (wpAny_load e ?_)
  refine wpAny_pure ?_
  have := hQ h₆ tk₆ u1 u2 g₆ b₆
  simpa using this
end
end Mine
open AutoSeq1 (wpAny_loadPart')
namespace Mine
section
variable {W : Wd} {n : Nat} {A : Around} {lf : List Env} {s : Shared} {X : List Addr} {env : Env} {ρ : Rho}
theorem code_tuple_map {Q₁ : Value → Shared → Prop} {E : Value → Shared → Prop} {m : Addr} {x y : Str} {P : Heap → Prop} (hTI : s.TypeIs (.ref m) "map")
    (hcol : ∀ {Q : List Value → Shared → Prop} {E : Value → Shared → Prop}, (∀ h' tk (u1 u2 : Tok), P h' → Q [.str x u1, .str y u2] { s with heap := h', toks := tk }) → wpAny (model W.prog W.w) A.in1 (collect (.ref m)) Q E s)
    (h : ∀ h' tk (u1 u2 : Tok), P h' → Q₁ (.ref h'.objs.size) { s with heap := h'.push { cls := .type "tuple", data := .seq #[.str x u1, .str y u2] }, toks := tk }) :
    codeAny (model W.prog W.w) A (.call (.builtin "tuple.__new__") ⟨[.type "tuple", .ref m], []⟩) (wants Q₁ E) s := by
  refine codeAny_of_tree ?_
  show wpAny _ A.in1 (do checkBuiltinCall "tuple.__new__" ⟨[.type "tuple", .ref m], []⟩; again (.builtin "tuple.__new__" ⟨[.type "tuple", .ref m], []⟩)) _ _ s
  refine wpAny_bind (wpAny_of_eq (F.newCall_tuple_1 _) (wpAny_pure ⟨plainId_quiet F.plain_tuple_new _, codeAny_builtin F.entry_tuple_new ?_⟩))
  rw [Around.under_plainId F.plain_tuple_new _]
  have hsub := sub_tuple_self
  have hinit := init_tuple_lookup
  have hmh := madeHere_tuple
  wp_walk using wpAny_typeOf hTI, hcol
  intro h' tk u1 u2 hp
  show wpAny _ _ (Builtin.Tuple.tupleExact [Value.str x u1, .str y u2].toArray >>= fun v => ret v) _ _ _
  unfold Builtin.Tuple.tupleExact
  refine wpAny_bind (wpAny_newObj_type ?_)
  exact wpAny_pure (h h' tk u1 u2 hp)
theorem call_tuple_map {Q : Value → Shared → Prop} {E : Value → Shared → Prop} {H0 : Heap} {m tp f it ax : Addr} {x y : Str} {t1 t2 : Tok} (a : AOk (n + 7) A lf) (hn1 : H0.get? it = none) (b1 : W.hB.get? it = none) (g0 : Gd W lf H0 X) (c : ∀ x, CallOk W n f [.str x] (.str x))
    (gr : Gr H0 s.heap) (base : W.hB.StaysIn s.heap) (hm : s.heap.get? m = some (mapObj tp f)) (ht : IsT s.heap tp [.ref it]) (hit : s.heap.IsListIter it ax 0) (hax : IsL s.heap ax [.str x t1, .str y t2])
    (hQ : ∀ h' tk (u1 u2 : Tok), Gr H0 h' → W.hB.StaysIn h' → Q (.ref h'.objs.size) { s with heap := h'.push { cls := .type "tuple", data := .seq #[.str x u1, .str y u2] }, toks := tk }) :
    wpAny (model W.prog W.w) A (call (.type "tuple") [.ref m]) Q E s := by
  have hTI : s.TypeIs (.ref m) "map" := ⟨_, hm, rfl⟩
  refine callType_codes (Q₁ := fun obj s₁ => s₁.TypeIs obj "tuple" ∧ Q obj s₁) F.called_tuple (F.typeCall_tuple_1 _) F.entry_object_init
    (code_tuple_map (P := fun h' => Gr H0 h' ∧ W.hB.StaysIn h') hTI (fun hq => collect_map2 (lf := lf) (X := X) (n := n) (a.le (Nat.le_succ (n + 6))).in1.in1 hn1 b1 g0 c gr base hm ht hit hax fun h' tk u1 u2 g b => hq h' tk u1 u2 ⟨g, b⟩) fun h' tk u1 u2 p => ⟨⟨_, Heap.get?_push_size _ rfl, rfl⟩, hQ h' tk u1 u2 p.1 p.2⟩) fun obj s₁ h₁ => ?_
  exact ⟨h₁.1, F.args_object_init_2 obj _, object_init_meets F.called_tuple.init.lookup F.called_tuple.made (by decide) W.prog W.w A.in1 _ s₁ ⟨h₁.1, rfl, h₁.2⟩⟩
theorem Ev.tupMap {f : Str} {a : Addr} {fd : FuncData} {p1 p2 p3 q1 q2 : Pos} {e : Expr} {x y : Str} {s1 st : Bool} (B : Bs W) (k : EnvOk env) (hx : env.kindOf "tuple" = some .globalImplicit) (hx2 : env.kindOf "map" = some .globalImplicit) (hxf : env.kindOf f = some .globalImplicit) (hd : (f == ("__debug__" : Str)) = false)
    (F : FnAt W f a fd) (c : ∀ x, CallOk W n a [.str x] (.str x)) (he : starEach [.Name f p3, e] env = [(false, eval (.Name f p3) env), (false, eval e env)]) (h : Ev W (n + 7) env ρ e (.list [.str x, .str y]) s1) :
    Ev W (n + 7) env ρ (.Call (.Name "tuple" p1) [.Call (.Name "map" p2) [.Name f p3, e] [] q2] [] q1) (.tup [.str x, .str y]) st := by
  intro A lf X s ak R
  refine wpAny_Call_NameR (name_blt B.base k hx (by decide) B.tuple R.gd.base ?_)
  show wpAny _ A (callWith q1 (.type "tuple") [] (backTo q1 [(false, eval (.Call (.Name "map" p2) [.Name f p3, e] [] q2) env)]) []) _ _ s
  refine PySem.callWith_type1 ?_
  refine wpAny_Call_NameR (name_blt B.base k hx2 (by decide) B.map R.gd.base ?_)
  show wpAny _ A (callWith q2 (.type "map") [] (backTo q2 (starEach [.Name f p3, e] env)) []) _ _ s
  rw [he]
  refine PySem.callWith_type rfl (Calls.evalArgs_plain (Calls.spliced_cons (name_glob B.base k hxf hd F.name R.gd.base (Calls.spliced_cons ((h A lf X s ak R).to fun v h1 t1 g1 b1 r1 => Calls.spliced_nil ?_)))))
  rw [Rep_list] at r1
  obtain ⟨ax, vs, rfl, _, hl, hr⟩ := r1
  rw [RepL_cons] at hr
  obtain ⟨v1, r1, rfl, k1, hr⟩ := hr
  rw [RepL_cons] at hr
  obtain ⟨v2, r2, rfl, k2, hr⟩ := hr
  rw [RepL_nil] at hr; subst hr
  rw [Rep_str] at k1 k2
  obtain ⟨u1, rfl⟩ := k1
  obtain ⟨u2, rfl⟩ := k2
  have gd := R.gd.gr g1 b1
  refine call_map hl fun h2 hit ht hm keep => ?_
  change ∀ b o, h1.get? b = some o → h2.get? b = some o at keep
  have hn1 : h1.get? h1.objs.size = none := Heap.get?_none_of_le (Nat.le_refl _)
  have hb1 : W.hB.get? h1.objs.size = none := by
    cases e : W.hB.get? h1.objs.size with
    | none => rfl
    | some o => have := gd.base _ o e; rw [hn1] at this; cases this
  refine call_tuple_map (s := { s with heap := h2, toks := t1 }) (n := n) (lf := lf) (X := X) ak hn1 hb1 gd c (Gr.of_keep keep) (fun b o e => keep b o (gd.base b o e)) hm ht hit (let ⟨k, e⟩ := hl; ⟨k, keep ax _ e⟩) fun h3 tk3 w1 w2 g3 b3 => ?_
  refine ⟨_, tk3, rfl, (g1.trans g3).trans (Gr.push _ _), fun _ c o e => Heap.get?_push_of_some _ (b3 c o e), Rep.to_hid ?_⟩
  rw [Rep_tup]
  exact ⟨_, [.str x w1, .str y w2], rfl, (gd.live.gr g3).fresh, ⟨_, Heap.get?_push_size _ rfl⟩, .mkCons .mkStr (.mkCons .mkStr .mkNil)⟩
end
end Mine
namespace Mine
noncomputable def isTrueV : Value → Bool
  | .bool true => true
  | _ => false
theorem isTrueV_shape {v : Value} (h : isTrueV v = true) : v = .bool true := by
  unfold isTrueV at h
  split at h
  · rfl
  · cases h
theorem hash_true {prog : Program} {w : World} {A : Around} {E : Value → Shared → Prop} {s : Shared} {Q : Int → Shared → Prop} (h : Q 1 { s with toks := s.toks + 1 }) : wpAny (model prog w) A (PySem.pyHash (.bool true)) Q E s := by
  unfold PySem.pyHash
  have hv : [Value.bool true].any Value.onHeap = false := rfl
  have hT : s.TypeIs (.bool true) "bool" := rfl
  refine wpAny_bind ?_
  rw [cRoomFor, if_neg (by rw [hv]; exact Bool.false_ne_true)]; refine wpAny_pure ?_
  refine wpAny_bind (wpAny_specialOf hT F.slot_bool_hash.lookup ?_)
  show wpAny _ _ (if (some (Value.builtin "int.__hash__") == some Value.none) = true then _ else _) Q E s
  rw [if_neg (by rw [beq_builtin_none]; exact Bool.false_ne_true)]
  refine wpAny_bind (wpAny_specialOf hT F.slot_bool_hash.lookup ?_)
  show wpAny _ _ (callSpecialIfBoundUnlessNone? (.bool true) "__hash__" _ >>= _) Q E s
  refine wpAny_bind (wpAny_callSpecialIfBoundUnlessNone?_slot hT F.slot_bool_hash
    (wpAny_call_entry F.slot_bool_hash hT F.entry_int_hash
      (show wpAny _ _ (do ret (← mkInt 1)) _ _ s from wpAny_ret_mkInt ?_) (F.args_int_hash_1 _)))
  exact wpAny_pure h
theorem eq_true {prog : Program} {w : World} {A : Around} {E : Value → Shared → Prop} {s : Shared} {a b : Unit} {u v : Value} {Q : Bool → Shared → Prop} (hu : isTrueV u = true) (hv : isTrueV v = true) (h : Q (decide (a = b)) s) : wpAny (model prog w) A (PySem.eqBool u v) Q E s := by
  rw [isTrueV_shape hu, isTrueV_shape hv]
  exact PySem.SeqAt.EqAt.same (A := A) (s := s) (.bool true) prog w E Q h
theorem hash_trueV {prog : Program} {w : World} {A : Around} {E : Value → Shared → Prop} {s : Shared} {v : Value} {Q : Int → Shared → Prop} (hv : isTrueV v = true) (h : Q 1 { s with toks := s.toks + 1 }) : wpAny (model prog w) A (PySem.pyHash v) Q E s := by
  rw [isTrueV_shape hv]; exact hash_true h
noncomputable def trueKind (prog : Program) (w : World) : KeyKind prog w Unit :=
  { is := fun _ v => isTrueV v, hash := fun _ => 1, inj := fun _ _ _ _ _ => rfl, byValue := fun k v h => (by rw [isTrueV_shape h]; rfl), pyHash := fun hv h => hash_trueV hv h, eqBool := fun hu hv h => eq_true hu hv h, «strs» := fun k x t v h => (by cases h) }
noncomputable def ents : Bool → Array (Int × Value)
  | true => #[(1, .bool true)]
  | false => #[]
noncomputable def tab : Bool → Bool → SetTable
  | true, led => { mask := 7, place := #[1], dummies := #[], finger := 0, led, moves := 0, plain := true }
  | false, led => .fresh 0 0 led
noncomputable def IsS (h : Heap) (a : Addr) (b led : Bool) : Prop := ∃ ep, h.get? a = some { cls := .type "set", dict := none, data := .set (ents b) ep (tab b led), slots := #[] }
theorem layNew_tab (led : Bool) : layNew (tab false led) (ents false) 1 (.bool true) = (ents true, tab true led, false, false) := by cases led <;> rfl
theorem fits_tab (b led : Bool) : (tab b led).fits (ents b).size = true := by cases b <;> cases led <;> rfl
theorem tooFull_tab (led : Bool) : (tab true led).tooFull = false := by cases led <;> rfl
section
variable {prog : Program} {w : World} {A : Around} {E : Value → Shared → Prop} {s : Shared}
theorem elems_tab (b : Bool) : ElemsOf (trueKind prog w) (ents b).toList := by
  cases b
  · exact fun e he => nomatch he
  · intro e he
    rw [List.mem_singleton.mp he]
    exact ⟨⟨(), rfl, rfl⟩, rfl⟩
theorem set_add {a : Addr} {b led : Bool} {Q : Value → Shared → Prop} (hS : IsS s.heap a b led)
    (h : ∀ h' tk, Heap.SameBut a s.heap h' → IsS h' a true led → Q .none { s with heap := h', toks := tk }) : wpAny (model prog w) A (call (.builtin "set.add") [.ref a, .bool true]) Q E s := by
  obtain ⟨ep, ho⟩ := id hS
  have hT : s.TypeIs (.ref a) "set" := ⟨_, ho, rfl⟩
  have hkey : (trueKind prog w).is () (.bool true) = true := rfl
  refine wpAny_call_entry F.slot_set_add hT F.entry_set_add ?_ (F.args_set_add_2 _ _)
  unfold Builtin.«set.add» Builtin.Frozenset.oneOther
  simp only [List.isEmpty_nil, bind_assoc]
  unfold Builtin.Frozenset.addrOf setAdd
  refine wpAny_bind (wpAny_pure ?_)
  try dsimp only
  refine wpAny_bind (wpAny_pure ?_)
  try dsimp only
  refine wpAny_bind ?_
  refine wpAny_holding ?_
  refine wpAny_bind ((trueKind prog w).pyHash hkey ?_)
  unfold setAddHashed setAddHashedIn
  refine wpAny_holding (wpAny_bind (wpAny_setState_of (s := { s with toks := s.toks + 1 }) ho rfl (fits_tab b led) ?_))
  dsimp only
  rw [byScan_of (knd := trueKind prog w) (by rfl) (by cases b <;> decide) (elems_tab b)]
  simp only [↓reduceIte]
  unfold setAddByScan
  refine wpAny_bind ?_
  refine wpAny_bind (wpAny_rule ?_)
  refine wpAny_bind (wpAny_setScan_of (knd := trueKind prog w) hkey ho rfl (fits_tab b led) (elems_tab b) ?_)
  cases b with
  | true =>
    show wpAny _ _ (pure (some false) : Sem (Option Bool)) _ _ _
    refine wpAny_pure ?_
    refine wpAny_pure ?_
    exact wpAny_pure ⟨_, rfl, h s.heap _ (Heap.SameBut.refl a s.heap) hS⟩
  | false =>
    have e : (layNew (tab false led) (ents false) 1 (.bool true)) = (ents true, tab true led, false, false) := layNew_tab led
    dsimp only [trueKind]
    rw [e]
    refine wpAny_bind (m := (pure () : Sem Unit)) (wpAny_pure ?_)
    rw [if_pos (show (ents true, tab true led, false, false).2.fst.plain = true from rfl)]
    refine wpAny_bind (m := (pure true : Sem Bool)) (wpAny_pure ?_)
    rw [if_pos rfl]
    refine wpAny_bind (wpAny_storeSet_of (s := { s with toks := s.toks + 1 }) ho rfl ?_ (by show (1 : Nat) ≤ sizeLine; unfold sizeLine; omega))
    have htf : (!(ents true, tab true led, false, false).2.2.fst && (ents true, tab true led, false, false).2.fst.tooFull) = false := by
      show (!false && (tab true led).tooFull) = false
      rw [tooFull_tab]; rfl
    rw [if_neg (show ¬ ((!(ents true, tab true led, false, false).2.2.fst && (ents true, tab true led, false, false).2.fst.tooFull) = true) from by rw [htf]; exact Bool.false_ne_true)]
    refine wpAny_pure ?_
    refine wpAny_pure ?_
    exact wpAny_pure ⟨_, rfl, h _ _ (Heap.SameBut.update s.heap a _) ⟨ep + 1, Heap.get?_update_self _ ho rfl⟩⟩
end
end Mine
namespace Mine
theorem owner_setit : Manifest.owners.lookup (String.ofList ['r', 'o', 't', 'a', 'r', 'e', 't', 'i', '_', 't', 'e', 's'].reverse) = some Manifest.sig_set_iterator := by kernel_rfl
theorem slot_setit_next : PySem.Slot "set_iterator" "__next__" "set_iterator.__next__" :=
  .of (owner := "set_iterator") (n := "__next__") (by rw [typeLookup_type, builtinLookup_eq_fast]; kernel_rfl) (by decide +kernel) (by decide +kernel) (by decide +kernel)
    (by first | exact .inl (by decide +kernel) | exact .inr (by decide +kernel)) (by rw [isSubtype_type]; kernel_rfl)
theorem args_setit_next (a : Value) : argsOk "set_iterator.__next__" ⟨[a], []⟩ := by
  unfold argsOk; rw [signature?_of (id := "set_iterator.__next__") (n := ['_', '_', 't', 'x', 'e', 'n', '_', '_']) (o := ['r', 'o', 't', 'a', 'r', 'e', 't', 'i', '_', 't', 'e', 's']) (by kernel_rfl) owner_setit]; kernel_rfl
theorem entry_setit_next : entryFor table "set_iterator.__next__" = some Builtin.«set_iterator.__next__» := entryFor_of_fast (by kernel_rfl)
theorem entry_set_iter : entryFor table "set.__iter__" = some Builtin.«frozenset.__iter__» :=
  entryFor_alias (id' := "frozenset.__iter__") (by kernel_rfl) rfl (by decide +kernel) (by kernel_rfl)
noncomputable def byT (w : World) : Bool := w.params.followText "set-order"
section
variable {prog : Program} {w : World} {A : Around} {E : Value → Shared → Prop} {s : Shared}
noncomputable abbrev setItObj (a b : Int) (S : Value) (ep : Nat) : Obj := { cls := .type "set_iterator", dict := none, data := .fields #[rawInt a, rawInt b, S, rawInt 1, rawInt ep], slots := #[] }
noncomputable abbrev setObj (ep : Nat) (led : Bool) : Obj := { cls := .type "set", dict := none, data := .set (ents true) ep (tab true led), slots := #[] }
theorem set_new {Q : Value → Shared → Prop} (h : Q (.ref s.heap.objs.size) { s with heap := s.heap.push { cls := .type "set", dict := none, data := .set (ents false) 0 (tab false (!byT w)) } }) : wpAny (model prog w) A (newSet (.type "set")) Q E s := by
  unfold newSet setsByText
  refine wpAny_bind (wpAny_bind (wpAny_askSetting (wpAny_pure ?_)))
  dsimp only
  simp only [newObj]
  exact wpAny_bind (wpAny_alloc (wpAny_pure h))
theorem set_iter {a : Addr} {ep : Nat} {led : Bool} {Q : Value → Shared → Prop} (hS : s.heap.get? a = some (setObj ep led)) (h : Q (.ref s.heap.objs.size) { s with heap := s.heap.push (setItObj 0 0 (.ref a) ep) }) : wpAny (model prog w) A (pyIter (.ref a)) Q E s := by
  have hT : s.TypeIs (.ref a) "set" := ⟨_, hS, rfl⟩
  refine wpAny_pyIter_slot hT F.slot_set_iter (wpAny_call_entry F.slot_set_iter hT entry_set_iter ?_ (F.args_set_iter_1 _))
  show wpAny _ _ (Builtin.Frozenset.sizeOf a >>= _) _ _ s
  unfold Builtin.Frozenset.sizeOf
  refine wpAny_bind (wpAny_bind (wpAny_setEntries_of hS rfl (fits_tab true led) (wpAny_pure ?_)))
  refine wpAny_bind ?_
  unfold setDrawn
  refine wpAny_bind (wpAny_setState_of hS rfl (fits_tab true led) ?_)
  dsimp only
  unfold setsByText
  refine wpAny_bind (wpAny_bind (wpAny_askSetting (wpAny_pure (wpAny_pure ?_))))
  show wpAny _ _ (if (!byT w && false) = true then _ else _) _ _ _
  rw [if_neg (show ¬ ((!byT w && false) = true) from by simp)]
  refine wpAny_bind (wpAny_pure ?_)
  unfold setEpoch
  refine wpAny_bind (wpAny_bind (wpAny_setState_of hS rfl (fits_tab true led) (wpAny_pure ?_)))
  unfold newFields
  refine wpAny_bind (wpAny_newObj_type ?_)
  refine wpAny_pure ⟨_, rfl, "set_iterator", _, ⟨_, Heap.get?_push_size _ rfl, rfl⟩, slot_setit_next.lookup, h⟩
theorem walk_one (next : Nat → Nat) (e : Int × Value) : pickOrder next #[e] = #[e] := by
  show pickOrder.go next 1 0 [e] #[] = #[e]
  unfold pickOrder.go
  simp only [List.length_singleton, Nat.mod_one]
  rfl
theorem set_next {a I : Addr} {ep : Nat} {Q : Option Value → Shared → Prop} (hS : s.heap.get? a = some (setObj ep (!byT w))) (hI : s.heap.get? I = some (setItObj 0 0 (.ref a) ep))
    (h : ∀ h' (nx : Int), Heap.SameBut I s.heap h' → h'.get? I = some (setItObj nx 1 (.ref a) ep) → (byT w = false → nx = 2) → 0 ≤ nx → Q (some (.bool true)) { s with heap := h' }) : wpAny (model prog w) A (pyNext (.ref I)) Q E s := by
  have hT : s.TypeIs (.ref I) "set_iterator" := ⟨_, hI, rfl⟩
  unfold pyNext
  refine wpAny_bind (wpAny_attempt (wpAny_callSpecial?_slot (name := Str.ofString "__next__") hT slot_setit_next
    (wpAny_call_entry slot_setit_next hT entry_setit_next ?_ (args_setit_next _))))
  show wpAny _ _ (fieldsOf (.ref I) >>= _) _ _ s
  refine wpAny_bind (wpAny_fieldsOf hI rfl ?_)
  show wpAny _ _ (setEntries a >>= _) _ _ s
  refine wpAny_bind (wpAny_setEntries_of hS rfl (fits_tab true _) ?_)
  rw [if_neg (show ¬ ((((ents true).size : Int) != 1) = true) from by decide)]
  show wpAny _ _ (setNext a 0 0 ep >>= _) _ _ s
  have key : ∀ {Q' : Option (Value × Nat) → Shared → Prop} {E' : Value → Shared → Prop} {B : Around}, (∀ nx : Nat, (byT w = false → nx = 2) → Q' (some (.bool true, nx)) s) → wpAny (model prog w) B (setNext a 0 0 ep) Q' E' s := fun {Q' E' B} hq => by
    unfold setNext
    refine wpAny_bind (wpAny_setState_of hS rfl (fits_tab true _) ?_)
    dsimp only
    unfold setsByText
    refine wpAny_bind (wpAny_bind (wpAny_askSetting (wpAny_pure ?_)))
    show wpAny _ _ (if byT w = true then _ else _) _ _ _
    cases hb : byT w with
    | true =>
      rw [if_pos rfl]
      rw [if_neg (show ¬ ((ep != ep) = true) from by simp)]
      unfold setWalk
      refine wpAny_bind (wpAny_bind (wpAny_setState_of hS rfl (fits_tab true _) ?_))
      dsimp only
      unfold setsByText
      refine wpAny_bind (wpAny_bind (wpAny_askSetting (wpAny_pure ?_)))
      show wpAny _ _ (if byT w = true then _ else _) _ _ _
      rw [hb, if_pos rfl]
      refine wpAny_bind (wpAny_askSetting (wpAny_pure ?_))
      refine wpAny_pure ?_
      rw [show ents true = #[(1, .bool true)] from rfl, walk_one]
      exact hq 0 (fun z => by rw [hb] at z; cases z)
    | false =>
      rw [if_neg Bool.false_ne_true]
      show wpAny _ _ (if false = true then _ else _) _ _ _
      rw [if_neg Bool.false_ne_true]
      refine wpAny_bind (m := (pure () : Sem Unit)) (wpAny_pure ?_)
      refine wpAny_pure ?_
      exact hq 2 (fun _ => rfl)
  refine wpAny_bind (key fun nx hnx => ?_)
  show wpAny _ _ (setField (.ref I) 0 (rawInt nx) >>= _) _ _ s
  refine wpAny_bind (wpAny_setField hI rfl (by simp) ?_)
  have e1 := Heap.get?_update_self (Obj.mapFields (·.setIfInBounds 0 (rawInt nx))) hI rfl
  show wpAny _ _ (setField (.ref I) 1 (rawInt 1) >>= _) _ _ _
  refine wpAny_bind (wpAny_setField e1 rfl (by simp) ?_)
  have e2 := Heap.get?_update_self (Obj.mapFields (·.setIfInBounds 1 (rawInt 1))) e1 rfl
  exact wpAny_pure ⟨_, rfl, wpAny_pure (h _ nx ((Heap.SameBut.update _ I _).trans (Heap.SameBut.update _ I _)) e2 (fun z => by rw [hnx z]; rfl) (by omega))⟩
theorem set_end {a I : Addr} {ep : Nat} {nx : Int} {Q : Option Value → Shared → Prop} (hh : A.handled = none) (hS : s.heap.get? a = some (setObj ep (!byT w))) (hI : s.heap.get? I = some (setItObj nx 1 (.ref a) ep)) (hnx : byT w = false → nx = 2)
    (h : ∀ h', Heap.ExtBut I s.heap h' → Q none { s with heap := h' }) : wpAny (model prog w) A (pyNext (.ref I)) Q E s := by
  have hT : s.TypeIs (.ref I) "set_iterator" := ⟨_, hI, rfl⟩
  unfold pyNext
  refine wpAny_bind (wpAny_attempt (wpAny_callSpecial?_slot (name := Str.ofString "__next__") hT slot_setit_next
    (wpAny_call_entry slot_setit_next hT entry_setit_next ?_ (args_setit_next _))))
  show wpAny _ _ (fieldsOf (.ref I) >>= _) _ _ s
  refine wpAny_bind (wpAny_fieldsOf hI rfl ?_)
  show wpAny _ _ (setEntries a >>= _) _ _ s
  refine wpAny_bind (wpAny_setEntries_of hS rfl (fits_tab true _) ?_)
  rw [if_neg (show ¬ ((((ents true).size : Int) != 1) = true) from by decide)]
  show wpAny _ _ (setNext a nx.toNat 1 ep >>= _) _ _ s
  have key : ∀ {Q' : Option (Value × Nat) → Shared → Prop} {E' : Value → Shared → Prop} {B : Around}, Q' none s → wpAny (model prog w) B (setNext a nx.toNat 1 ep) Q' E' s := fun {Q' E' B} hq => by
    unfold setNext
    refine wpAny_bind (wpAny_setState_of hS rfl (fits_tab true _) ?_)
    dsimp only
    unfold setsByText
    refine wpAny_bind (wpAny_bind (wpAny_askSetting (wpAny_pure ?_)))
    show wpAny _ _ (if byT w = true then _ else _) _ _ _
    cases hb : byT w with
    | true =>
      rw [if_pos rfl]
      rw [if_neg (show ¬ ((ep != ep) = true) from by simp)]
      unfold setWalk
      refine wpAny_bind (wpAny_bind (wpAny_setState_of hS rfl (fits_tab true _) ?_))
      dsimp only
      unfold setsByText
      refine wpAny_bind (wpAny_bind (wpAny_askSetting (wpAny_pure ?_)))
      show wpAny _ _ (if byT w = true then _ else _) _ _ _
      rw [hb, if_pos rfl]
      refine wpAny_bind (wpAny_askSetting (wpAny_pure ?_))
      refine wpAny_pure ?_
      rw [show ents true = #[(1, .bool true)] from rfl, walk_one]
      exact hq
    | false =>
      rw [if_neg Bool.false_ne_true]
      show wpAny _ _ (if false = true then _ else _) _ _ _
      rw [if_neg Bool.false_ne_true]
      refine wpAny_bind (m := (pure () : Sem Unit)) (wpAny_pure ?_)
      refine wpAny_pure ?_
      rw [hnx hb]
      exact hq
  refine wpAny_bind (key ?_)
  show wpAny _ _ (setField (.ref I) 2 .none >>= _) _ _ s
  refine wpAny_bind (wpAny_setField hI rfl (by simp) ?_)
  show wpAny _ _ (newExc (.type "StopIteration") [] >>= _) _ _ _
  refine wpAny_bind ?_
  simp only [newExc, newTuple]
  refine wpAny_bind (wpAny_newObj_type ?_ (by size_fits))
  refine wpAny_bind (m := firstArgMember _ _) (wpAny_of_eq (a := Value.none) (by first | rfl | (simp only [firstArgMember]; rfl)) ?_)
  refine wpAny_newObj_type ?_ (by size_fits)
  simp only [raiseNew]
  refine wpAny_bind (wpAny_handled ?_)
  first | rw [show A.in1.handled = none from hh] | rw [hh]
  refine wpAny_bind (wpAny_pure (wpAny_throw ?_))
  refine wpAny_bind (wpAny_isInstance (T := "StopIteration") (b := true) ⟨_, Heap.get?_push_size _ rfl, rfl⟩ isSubtype_stop ?_)
  exact wpAny_pure (h _ (((Heap.SameBut.update ..).extBut.push _).push _))
end
end Mine
namespace Mine
section
variable {prog : Program} {w : World} {A : Around} {E : Value → Shared → Prop} {R : Result → Shared → Prop} {s : Shared}
theorem compTurn_set (elt target iter : Expr) (scope : Scope) (pos : Pos) (it acc : Value) (env : Env) :
    compTurn (.SetComp elt [⟨target, iter, [], 0⟩] scope pos) 0 it acc env = (standAt iter.pos >>= fun _ => pyNext it >>= fun r => match r with
      | none => pure (.done .next)
      | some v => letOwnedTupleGo target it v >>= fun _ => assign target env v >>= fun _ =>
        (eval elt env >>= fun x => standAt elt.pos >>= fun _ => call (.builtin "set.add") [acc, x] >>= fun _ => pure ()) >>= fun _ =>
          again (.compLoop (.SetComp elt [⟨target, iter, [], 0⟩] scope pos) 0 it acc env)) := by rfl
theorem codeAny_compLoop_set {elt target iter : Expr} {scope : Scope} {pos : Pos} {it acc : Value} {env : Env} (I : Nat → Shared → Prop)
    (turn : ∀ n s, I n s → wpAny (model prog w) A (pyNext it) (fun r s₁ => match r with
      | none => R (.ok .next) s₁
      | some v => wpAny (model prog w) A (assign target env v) (fun _ s₂ => wpAny (model prog w) A (eval elt env) (fun x s₃ =>
          wpAny (model prog w) A (call (.builtin "set.add") [acc, x]) (fun _ s₄ => ∃ m, m < n ∧ I m s₄) (notedBy (model prog w) A env fun e s' => R (.error e) s') s₃)
          (notedBy (model prog w) A env fun e s' => R (.error e) s') s₂) (notedBy (model prog w) A env fun e s' => R (.error e) s') s₁) (notedBy (model prog w) A env fun e s' => R (.error e) s') s)
    (n : Nat) (h : I n s) (ht : ∀ v, letOwnedTupleGo target it v = pure () := by intro _; rfl) :
    codeAny (model prog w) A (.compLoop (.SetComp elt [⟨target, iter, [], 0⟩] scope pos) 0 it acc env) R s := by
  refine codeAny_loop rfl I (fun n s hI => ?_) n h
  show wpAny _ A ((compTurn (.SetComp elt [⟨target, iter, [], 0⟩] scope pos) 0 it acc env).onRaise (fun x => do noteFrame x env; theTreesLotGoes x)) _ _ s
  refine wpAny_noted ?_
  rw [compTurn_set]
  refine wpAny_bind (wpAny_standAt (wpAny_bind (wpAny_mono (turn n s hI) (fun r s₁ h₁ => ?_) fun _ _ h' => h')))
  cases r with
  | none => exact wpAny_pure h₁
  | some v =>
    refine wpAny_bind (wpAny_of_eq (ht v) ?_)
    refine wpAny_bind (wpAny_mono h₁ (fun _ s₂ h₂ => ?_) fun _ _ h' => h')
    exact wpAny_bind (wpAny_bind (wpAny_mono h₂ (fun x s₃ h₃ => wpAny_bind (wpAny_standAt (wpAny_bind (wpAny_mono h₃ (fun _ s₄ h₄ => wpAny_pure (wpAny_pure ⟨rfl, h₄⟩)) fun _ _ h' => h')))) fun _ _ h' => h'))
theorem codeAny_compStart_set {elt iter : Expr} {target : Expr} {scope : Scope} {pos : Pos} {it acc : Value} {env : Env}
    (h0 : codeAny (model prog w) A (.compLoop (.SetComp elt [⟨target, iter, [], 0⟩] scope pos) 0 it acc env) R s)
    (h : wpAny (model prog w) A (pyIter it) (fun it' s' => codeAny (model prog w) A (.compLoop (.SetComp elt [⟨target, iter, [], 0⟩] scope pos) 0 it' acc env) R s')
      (notedBy (model prog w) A env fun x s' => R (.error x) s') s) :
    codeAny (model prog w) A (.compStart (.SetComp elt [⟨target, iter, [], 0⟩] scope pos) 0 it acc env) R s := by
  refine codeAny_of_tree ?_
  show wpAny _ _ ((compStart (.SetComp elt [⟨target, iter, [], 0⟩] scope pos) 0 it acc env).onRaise (fun x => do noteFrame x env; standAt theWindowsPlace)) _ _ s
  refine wpAny_notedAt ?_
  unfold compStart
  show wpAny _ _ (ask >>= _) _ _ s
  refine wpAny_bind (wpAny_askSetting (wpAny_ite ?_))
  split
  · first
      | exact wpAny_bind (wpAny_pure (wpAny_pure (And.intro rfl h0)))
      | exact wpAny_pure (And.intro rfl h0)
  · first
      | exact wpAny_bind (wpAny_rule (wpAny_bind (wpAny_standAt (wpAny_bind (wpAny_mono h (fun it' s' h' => wpAny_pure (And.intro rfl h')) fun _ _ x => x)))))
      | (refine wpAny_bind (wpAny_rule ?_); show wpAny _ _ (standAt iter.pos >>= _) _ _ s; exact wpAny_bind (wpAny_standAt (wpAny_bind (wpAny_mono h (fun it' s' h' => wpAny_pure (And.intro rfl h')) fun _ _ x => x))))
end
section
variable {W : Wd} {n : Nat} {env : Env} {ρ ρx : Rho}
theorem comp_coreS {elt iter : Expr} {x : Str} {px : Pos} {scope : Scope} {pos : Pos} {A : Around} {lf : List Env} {X : List Addr} {s : Shared} {H : Heap} {tk : Nat} {I : Addr} {fp wr : List Addr} {P : Nat → Value → Prop} {St : Nat → Heap → Prop}
    {ds : List D} {cl : List (Str × Addr)} {E : Value → Shared → Prop} {RR : Value → Addr → Result → Shared → Prop} (a : AOk n A lf) (R : Rd W env lf s.heap X ρ) (k : EnvOk env) (S : Sees env scope x ρ ρx) (hcl : closOf env.cells scope.names [] = some cl)
    (gH : Gr s.heap H) (bH : W.hB.StaysIn H) (Wk : Walks W.prog W.w A I fp wr ds.length P St) (st0 : St 0 H) (hfp : ∀ b ∈ fp, b < H.objs.size) (hwr : ∀ b ∈ wr, s.heap.get? b = none)
    (hfr : ∀ i g g', St i g → Gr g g' → St i g') (hlv : ∀ i g, St i g → Live g wr) (hP : ∀ i v, P i v → ∃ d, ds[i]? = some d ∧ Rep H (wr ++ X) d v) (hsz : ds.length ≤ 100000)
    (helt : ∀ cenv : Env, cenv.scope = relabel scope env → EnvOk cenv → ∀ d ∈ ds, Ev W n cenv ((x, (d, true)) :: ρx) elt (.bool true) true) (hds : 0 < ds.length)
    (hRR : ∀ D C h' tk' m, s.heap.get? D = none → s.heap.get? C = none → D ≠ C → D ∉ X → h'.Ns C m → IsS h' D true (!byT W.w) → Gr s.heap h' → W.hB.StaysIn h' → RR (.ref D) C (.ok .next) { s with heap := h', toks := tk' }) :
    wpAny (model W.prog W.w) A (newSet (.type "set")) (fun acc s₃ => wpAny (model W.prog W.w) A (newFunctionEnv scope env.globals cl [] env.qual none .none (some env)) (fun cenv s₄ =>
      codeAny (model W.prog W.w) A (.compStart (.SetComp elt [⟨.Name x px, iter, [], 0⟩] scope pos) 0 (.ref I) acc { cenv with scope := relabel scope env }) (RR acc cenv.locals) s₄) E s₃) E { s with heap := H, toks := tk } := by
  refine set_new (newEnv_comp ?_)
  dsimp only
  generalize hH2 : H.push { cls := .type "set", dict := none, data := .set (ents false) 0 (tab false (!byT W.w)) } = H2
  have hC : H2.objs.size = H.objs.size + 1 := by rw [← hH2, Heap.size_push]
  -- the names
  generalize hDD : H.objs.size = DD
  generalize hCC : H2.objs.size = CC
  have hCD : CC = DD + 1 := by rw [← hCC, ← hDD]; exact hC
  let cenv : Env := compE scope CC (cellsFrom (CC + 1) scope.names cl) env
  have ck : EnvOk cenv := ⟨S.kind, k.glob, k.blt, fun y hy => by
    have hy' := relabel_inv (scope := scope) (env := env) (names := scope.names) hy
    show ∃ c, (cellsFrom (CC + 1) scope.names cl).lookup y = some c
    rw [cellsFrom_append, List.lookup_append]
    rcases hy' with e | e
    · obtain ⟨c, hc⟩ := Option.isSome_iff_exists.mp (cellsFrom_some scope.names (CC + 1) [] (.inl e))
      exact ⟨c, by rw [hc]; rfl⟩
    · obtain ⟨_, s2⟩ := closOf_spec hcl (fun _ _ q => by simp at q)
      obtain ⟨c, hc⟩ := Option.isSome_iff_exists.mp (s2 y (.inl (mem_of_lookup e)))
      cases hl : (cellsFrom (CC + 1) scope.names []).lookup y with
      | none => exact ⟨c, by rw [hc]; rfl⟩
      | some c' => exact ⟨c', rfl⟩⟩
  generalize hH3 : pushCells (H2.push { cls := .type "dict", data := .dict #[] }) scope.names = H3
  have keep23 : ∀ b o, H2.get? b = some o → H3.get? b = some o := fun b o e => by rw [← hH3]; exact pushCells_keeps _ _ _ _ (Heap.get?_push_of_some _ e)
  have keepH : ∀ b o, H.get? b = some o → H3.get? b = some o := fun b o e => keep23 b o (by rw [← hH2]; exact Heap.get?_push_of_some _ e)
  have hD3 : IsS H3 DD false (!byT W.w) := by rw [← hDD]; exact ⟨_, keep23 _ _ (by rw [← hH2]; exact Heap.get?_push_size _ rfl)⟩
  have hN3 : H3.Ns CC fun _ => none := by
    rw [← hH3, ← hCC]; exact (Heap.Ns.new H2 (.type "dict")).keeps (pushCells_keeps _ _)
  have cok : CellsOk H3 (CC + 1) (cellsFrom (CC + 1) scope.names []) := by
    have ok := cellsFrom_ok scope.names (H2.push { cls := .type "dict", data := .dict #[] }) (CC + 1) [] ⟨fun _ _ hm => (nomatch hm), List.Pairwise.nil⟩ (by rw [Heap.size_push, hCC]; exact Nat.le_refl _)
    rw [Heap.size_push, hCC, hH3] at ok; exact ok
  -- the variable's place
  have hvar : ∃ ax, VSlot cenv x ax H3 ∧ CC ≤ ax := by
    rcases S.var with hx | hx
    · exact ⟨CC, .inl ⟨lookup_relabel_local hx, rfl, _, hN3⟩, Nat.le_refl _⟩
    · have hs : ((cellsFrom (CC + 1) scope.names []).lookup x).isSome = true := cellsFrom_some _ _ _ (.inl hx)
      obtain ⟨c, hc⟩ := Option.isSome_iff_exists.mp hs
      obtain ⟨hi, hle⟩ := cok.empty x c (mem_of_lookup hc)
      refine ⟨c, .inr ⟨relabel_cell (scope := scope) hx, ?_, _, hi⟩, Nat.le_of_succ_le hle⟩
      show (cellsFrom (CC + 1) scope.names cl).lookup x = some c
      rw [cellsFrom_append, List.lookup_append, hc]; rfl
  obtain ⟨ax, hax, haxC⟩ := hvar
  have fresh0 : ∀ b, DD ≤ b → s.heap.get? b = none := fun b hb => by
    cases e : s.heap.get? b with
    | none => rfl
    | some o => obtain ⟨o', e', _⟩ := gH b o e; exact absurd (Heap.lt_size e') (Nat.not_lt.mpr (hDD ▸ hb))
  have freshH : ∀ b, DD ≤ b → H.get? b = none := fun b hb => Heap.get?_none_of_le (hDD ▸ hb)
  have hDC : DD ≤ CC := hCD ▸ Nat.le_succ _
  have hDax : DD ≤ ax := Nat.le_trans hDC haxC
  have nDC : DD ≠ CC := by rw [hCD]; exact Nat.ne_of_lt (Nat.lt_succ_self _)
  have nDax : DD ≠ ax := fun e => by
    have : CC ≤ DD := e ▸ haxC
    rw [hCD] at this; exact absurd this (Nat.not_succ_le_self _)
  have fpD : ∀ b ∈ fp, b ≠ DD ∧ b ≠ CC ∧ b ≠ ax := fun b hb => by
    have h1 : b < DD := hDD ▸ hfp b hb
    exact ⟨Nat.ne_of_lt h1, Nat.ne_of_lt (Nat.lt_of_lt_of_le h1 hDC), Nat.ne_of_lt (Nat.lt_of_lt_of_le h1 hDax)⟩
  have wrD : ∀ b ∈ wr, b ≠ DD ∧ b ≠ CC ∧ b ≠ ax := fun b hb => fpD b (Wk.sub b hb)
  generalize hX : ax :: CC :: DD :: (wr ++ X) = X'
  have inX : ∀ b, b ∈ X' → b ∈ X ∨ s.heap.get? b = none := fun b hb => by
    rw [← hX] at hb
    rcases List.mem_cons.mp hb with rfl | hb
    · exact .inr (fresh0 _ hDax)
    rcases List.mem_cons.mp hb with rfl | hb
    · exact .inr (fresh0 _ hDC)
    rcases List.mem_cons.mp hb with rfl | hb
    · exact .inr (fresh0 _ (Nat.le_refl _))
    rcases List.mem_append.mp hb with hb | hb
    · exact .inr (hwr b hb)
    · exact .inl hb
  have inXH : ∀ b, b ∈ X' → b ∈ wr ++ X ∨ H.get? b = none := fun b hb => by
    rw [← hX] at hb
    rcases List.mem_cons.mp hb with rfl | hb
    · exact .inr (freshH _ hDax)
    rcases List.mem_cons.mp hb with rfl | hb
    · exact .inr (freshH _ hDC)
    rcases List.mem_cons.mp hb with rfl | hb
    · exact .inr (freshH _ (Nat.le_refl _))
    · exact .inl hb
  have mAx : ax ∈ X' := by rw [← hX]; exact .head _
  have mD : DD ∈ X' := by rw [← hX]; exact .tail _ (.tail _ (.head _))
  have mWr : ∀ b ∈ wr, b ∈ X' := fun b hb => by rw [← hX]; exact .tail _ (.tail _ (.tail _ (List.mem_append_left _ hb)))
  have mX : ∀ b ∈ CC :: DD :: X, b ∈ X' := fun b hb => by
    rw [← hX]
    rcases List.mem_cons.mp hb with rfl | hb
    · exact .tail _ (.head _)
    rcases List.mem_cons.mp hb with rfl | hb
    · exact .tail _ (.tail _ (.head _))
    · exact .tail _ (.tail _ (.tail _ (List.mem_append_right _ hb)))
  have loop : ∀ s₃ : Shared, s₃ = { s with heap := H3, toks := tk } →
      codeAny (model W.prog W.w) A (.compLoop (.SetComp elt [⟨.Name x px, iter, [], 0⟩] scope pos) 0 (.ref I) (.ref DD) cenv) (RR (.ref DD) CC) s₃ := by
    rintro s₃ rfl
    refine codeAny_compLoop_set (fun j s' => ∃ h' tk' i, s' = { s with heap := h', toks := tk' } ∧ i ≤ ds.length ∧ j = ds.length + 1 - i ∧ St i h' ∧ IsS h' DD (decide (0 < i)) (!byT W.w) ∧
      VSlot cenv x ax h' ∧ (∃ m, h'.Ns CC m) ∧ Gr s.heap h' ∧ GrX X' H h' ∧ W.hB.StaysIn h' ∧ Live h' X') ?_ (ds.length + 1)
      ⟨H3, tk, 0, rfl, Nat.zero_le _, rfl, hfr 0 _ _ st0 (Gr.of_keep keepH), hD3, hax, ⟨_, hN3⟩, gH.trans (Gr.of_keep keepH), (Gr.of_keep keepH).x _, fun b o e => keepH b o (bH b o e), ?_⟩
    rotate_left
    · intro b hb
      rw [← hX] at hb
      rcases List.mem_cons.mp hb with rfl | hb
      · exact hax.live
      rcases List.mem_cons.mp hb with rfl | hb
      · obtain ⟨o, _, _, e, _⟩ := hN3; exact ⟨o, e⟩
      rcases List.mem_cons.mp hb with rfl | hb
      · obtain ⟨_, e⟩ := hD3; exact ⟨_, e⟩
      rcases List.mem_append.mp hb with hb | hb
      · obtain ⟨o, e⟩ := hlv _ _ st0 b hb; exact ⟨o, keepH _ _ e⟩
      · obtain ⟨o, e⟩ := R.gd.live b hb
        obtain ⟨o', e', _⟩ := gH _ _ e
        exact ⟨o', keepH _ _ e'⟩
    rintro j s' ⟨h, tk', i, rfl, hi, rfl, hst, hl, hv, ⟨m, hn⟩, hg, hgx, hb, hlive⟩
    by_cases hlt : i < ds.length
    · refine Wk.item i _ _ _ hlt hst fun v h₁ tk₁ hPv hst₁ hk₁ => ?_
      obtain ⟨d, hd, hrep⟩ := hP i v hPv
      have hdm : d ∈ ds := List.mem_of_getElem? hd
      -- h₁: the iterator has gone on
      have old₁ : ∀ b o, b ∉ wr → h.get? b = some o → h₁.get? b = some o := hk₁
      have g₁ : Gr s.heap h₁ := fun b o e => by
        obtain ⟨o', e', q⟩ := hg b o e
        exact ⟨o', old₁ b o' (fun hm => by rw [hwr b hm] at e; cases e) e', q⟩
      have gx₁ : GrX X' H h₁ := hgx.trans (GrX.of_keep fun b o hb e => old₁ b o (fun hm => hb (mWr b hm)) e)
      have b₁ : W.hB.StaysIn h₁ := fun b o e => old₁ b o (fun hm => by have := R.gd.base b o e; rw [hwr b hm] at this; cases this) (hb b o e)
      have live₁ : Live h₁ X' := fun b hb => by
        by_cases hm : b ∈ wr
        · exact hlv _ _ hst₁ b hm
        · obtain ⟨o, e⟩ := hlive b hb; exact ⟨o, old₁ b o hm e⟩
      have l₁ : IsS h₁ DD (decide (0 < i)) (!byT W.w) := let ⟨q, e⟩ := hl; ⟨q, old₁ _ _ (fun hm => (wrD _ hm).1 rfl) e⟩
      have v₁ : VSlot cenv x ax h₁ := by
        have nax : ax ∉ wr := fun hm => (wrD _ hm).2.2 rfl
        exact hv.imp (fun ⟨q1, q2, q3, q4⟩ => ⟨q1, q2, q3, q4.at' fun o e => old₁ _ o nax e⟩) (fun ⟨q1, q2, q3, ⟨o, q4, q5⟩⟩ => ⟨q1, q2, q3, ⟨o, old₁ _ o nax q4, q5⟩⟩)
      have n₁ : h₁.Ns CC m := hn.at' fun o e => old₁ _ o (fun hm => (wrD _ hm).2.1 rfl) e
      refine wpAny_assign_Name (store_ok ck v₁ fun h₂ tk₂ hvar₂ v₂ hs₂ _ => ?_)
      have off₂ : ∀ b o, b ≠ ax → h₁.get? b = some o → h₂.get? b = some o := fun b o hb e => (hs₂.2 b hb).trans e
      have g₂ : Gr s.heap h₂ := fun b o e => by
        obtain ⟨o', e', q⟩ := g₁ b o e
        exact ⟨o', off₂ b o' (fun q => by rw [q, fresh0 _ hDax] at e; cases e) e', q⟩
      have gx₂ : GrX X' H h₂ := gx₁.trans (GrX.of_keep fun b o hb e => off₂ b o (fun q => hb (q ▸ mAx)) e)
      have b₂ : W.hB.StaysIn h₂ := fun b o e => off₂ b o (fun q => by have := R.gd.base b o e; rw [q, fresh0 _ hDax] at this; cases this) (b₁ b o e)
      have live₂ : Live h₂ X' := fun b hb => by
        by_cases hm : b = ax
        · rw [hm]; exact v₂.live
        · obtain ⟨o, e⟩ := live₁ b hb; exact ⟨o, off₂ b o hm e⟩
      have l₂ : IsS h₂ DD (decide (0 < i)) (!byT W.w) := let ⟨q, e⟩ := l₁; ⟨q, off₂ _ _ nDax e⟩
      have st₂ : St (i + 1) h₂ := Wk.frame _ _ _ hst₁ fun b hb o e => off₂ b o (fpD b hb).2.2 e
      have n₂ : ∃ m, h₂.Ns CC m := by
        by_cases e : CC = ax
        · rcases v₂ with ⟨_, q, m', hn'⟩ | ⟨kd2, _, v', hi'⟩
          · exact ⟨m', e ▸ hn'⟩
          · obtain ⟨o, _, _, e1, e2, _⟩ := n₁
            rcases v₁ with ⟨kd, _⟩ | ⟨_, _, v', o', e3, e4⟩
            · rw [kd] at kd2; cases kd2
            · rw [← e, e1] at e3; cases e3; rw [e2] at e4; cases e4
        · exact ⟨m, n₁.at' fun o e' => off₂ _ o e e'⟩
      have rep₂ : Rep h₂ X' d v := Rep.mono (Y := X') gx₂ inXH inXH hrep
      have R₂ : Rd W cenv lf h₂ X' ((x, (d, true)) :: ρx) := by
        refine ⟨⟨b₂, live₂, R.gd.ff.gr g₂⟩, fun z dz st e => ?_⟩
        rw [List.lookup_cons] at e
        cases hz : z == x with
        | true => rw [hz] at e; cases e; rw [beq_iff_eq.mp hz]; exact ⟨v, hvar₂, rep₂⟩
        | false =>
          rw [hz] at e
          have R' := R.to g₂ b₂ live₂ inX
          obtain ⟨u, q, r⟩ := R'.vars z dz st (S.free z dz st e).1
          exact ⟨u, sees_var k S hcl e q, r⟩
      refine (helt cenv rfl ck d hdm A lf X' _ a R₂).to fun y h₄ tk₄ g₄ c₄ hy => ?_
      rw [show hid true X' = X' from rfl, Rep_bool] at hy
      subst hy
      · have l₄ : IsS h₄ DD (decide (0 < i)) (!byT W.w) := let ⟨q, e⟩ := l₂; ⟨q, g₄.get e fun _ _ z => by cases z⟩
        refine set_add (s := { s with heap := h₄, toks := tk₄ }) l₄ fun h₅ tk₅ hs₅ hl₅ => ?_
        change Heap.SameBut DD h₄ h₅ at hs₅
        have off₅ : ∀ b o, b ≠ DD → h₄.get? b = some o → h₅.get? b = some o := fun b o hb e => (hs₅.2 b hb).trans e
        refine ⟨ds.length + 1 - (i + 1), by omega, h₅, tk₅, i + 1, rfl, hlt, rfl, ?_, by rw [show decide (0 < i + 1) = true from by simp]; exact hl₅, ?_, ?_, ?_, ?_, ?_, ?_⟩
        · exact Wk.frame _ _ _ (hfr _ _ _ st₂ g₄) fun b hb o e => off₅ b o (fpD b hb).1 e
        · exact (v₂.gr g₄).sameBut hs₅ (Ne.symm nDax)
        · obtain ⟨m', hn'⟩ := n₂; exact ⟨m', (g₄.ns hn').sameBut hs₅ (Ne.symm nDC)⟩
        · intro b o e
          obtain ⟨o', e', q⟩ := (g₂.trans g₄) b o e
          exact ⟨o', off₅ b o' (fun q => by rw [q, fresh0 _ (Nat.le_refl _)] at e; cases e) e', q⟩
        · exact (gx₂.trans (g₄.x _)).trans (GrX.of_keep fun b o hb e => off₅ b o (fun q => hb (q ▸ mD)) e)
        · exact fun b o e => off₅ b o (fun q => by have := R.gd.base b o e; rw [q, fresh0 _ (Nat.le_refl _)] at this; cases this) (c₄ b₂ b o e)
        · intro b hb
          by_cases hm : b = DD
          · rw [hm]; obtain ⟨_, e⟩ := hl₅; exact ⟨_, e⟩
          · obtain ⟨o, e⟩ := (live₂.gr g₄) b hb; exact ⟨o, off₅ b o hm e⟩
    · have hin : i = ds.length := by omega
      subst hin
      refine Wk.done _ _ _ hst fun h₁ tk₁ hk₁ => ?_
      rw [show decide (0 < ds.length) = true from by simpa using hds] at hl
      refine hRR DD CC h₁ tk₁ m (fresh0 _ (Nat.le_refl _)) (fresh0 _ hDC) nDC ?_ (hn.at' fun o e => hk₁ _ o (fun hm => (wrD _ hm).2.1 rfl) e) ?_ ?_ ?_
      · intro hm
        obtain ⟨o, e⟩ := R.gd.live _ hm
        rw [fresh0 _ (Nat.le_refl _)] at e; cases e
      · exact let ⟨q, e⟩ := hl; ⟨q, hk₁ _ _ (fun hm => (wrD _ hm).1 rfl) e⟩
      · intro b o e
        obtain ⟨o', e', q⟩ := hg b o e
        exact ⟨o', hk₁ b o' (fun hm => by rw [hwr b hm] at e; cases e) e', q⟩
      · exact fun b o e => hk₁ b o (fun hm => by have := R.gd.base b o e; rw [hwr b hm] at this; cases this) (hb b o e)
  exact codeAny_compStart_set (loop _ rfl) (Wk.self 0 _ _ _ (hfr 0 _ _ st0 (Gr.of_keep keepH)) (loop _ rfl))
end
end Mine
namespace Mine
section
variable {W : Wd} {n : Nat} {env : Env} {ρ ρx : Rho} {σ : Sig}
theorem Src.tup {iter : Expr} {ds : List D} (x : Ev W n env ρ iter (.tup ds) true) (hn0 : 0 < n := by exact Nat.succ_pos _) : Src W n env ρ iter ds := by
  intro A lf X s Q E a R hQ
  refine (x A lf X s a R).to fun v h1 t1 g1 b1 r1 => ?_
  rw [show hid true X = X from rfl, Rep_tup] at r1
  obtain ⟨b, vs, rfl, hb, hl, hr⟩ := r1
  refine wpAny_pyIter_tuple hl.isTuple ?_
  have hlt : b < h1.objs.size := by obtain ⟨_, e⟩ := hl; exact Heap.lt_size e
  have Wk := Walks.tuple (prog := W.prog) (w := W.w) (A := A) (a.1 hn0) h1.objs.size b (Nat.ne_of_lt hlt) vs.toArray
  rw [show vs.toArray.size = ds.length by simp [hr.length]] at Wk
  refine hQ _ _ _ _ _ _ _ (g1.trans (Gr.push _ _)) (fun q c o e => Heap.get?_push_of_some _ (b1 q c o e)) Wk ⟨⟨_, Heap.get?_push_size _ rfl, rfl, rfl⟩, let ⟨k, e⟩ := hl; ⟨_, Heap.get?_push_of_some _ e, rfl, k, rfl⟩⟩ ?_ ?_ ?_ ?_ ?_ ?_ ?_
  · intro c hc
    rcases List.mem_cons.mp hc with rfl | hc
    · exact ⟨_, Heap.get?_push_size _ rfl⟩
    · rw [List.mem_singleton.mp hc]
      obtain ⟨_, e⟩ := hl
      exact ⟨_, Heap.get?_push_of_some _ e⟩
  · intro c hc
    rcases List.mem_cons.mp hc with rfl | hc
    · exact (R.gd.live.gr g1).fresh
    · rw [List.mem_singleton.mp hc]; exact hb
  · intro c hc
    rw [List.mem_singleton.mp hc]
    cases e : s.heap.get? h1.objs.size with
    | none => rfl
    | some o => obtain ⟨o', e', _⟩ := g1 _ o e; exact absurd (Heap.lt_size e') (Nat.lt_irrefl _)
  · intro i g g' st gg
    obtain ⟨⟨o1, e1, c1, d1⟩, ⟨o2, e2, c2, k2, d2⟩⟩ := st
    obtain ⟨p1, f1, s1⟩ := gg _ (.head _) _ e1
    obtain ⟨p2, f2, s2⟩ := gg _ (.tail _ (.head _)) _ e2
    exact ⟨⟨p1, f1, s1.1.trans c1, s1.2.2.1.trans d1⟩, ⟨p2, f2, s2.1.trans c2, k2, s2.2.2.1.trans d2⟩⟩
  · intro i g st c hc
    rw [List.mem_singleton.mp hc]
    obtain ⟨⟨o1, e1, _⟩, _⟩ := st
    exact ⟨o1, e1⟩
  · intro i v hv
    have hv' : vs[i]? = some v := by simpa using hv
    have hi : i < ds.length := by have := (List.getElem?_eq_some_iff.mp hv').1; rw [hr.length] at this; exact this
    obtain ⟨v', e1, e2⟩ := hr.get (i := i) (d := ds[i]) (by simp [hi])
    rw [hv'] at e1; cases e1
    refine ⟨ds[i], by simp [hi], Rep.mono (Y := []) ((Gr.push _ _).x []) (fun _ q => nomatch q) (fun c hc => ?_) e2⟩
    rcases List.mem_append.mp hc with hc | hc
    · rw [List.mem_singleton.mp hc]
      exact .inr (Heap.get?_none_of_le (Nat.le_refl _))
    · exact .inl hc
  · intro i g v target Q' E' st hq
    obtain ⟨⟨o1, e1, c1, d1⟩, _⟩ := st
    exact go_trivial e1 c1 d1 (by decide) hq

theorem unpack_set {A : Around} {E : Value → Shared → Prop} {s : Shared} {a : Addr} {ep : Nat} {Q : List Value → Shared → Prop} (hh : A.handled = none) (hS : s.heap.get? a = some (setObj ep (!byT W.w)))
    (h : ∀ h', (∀ b o, s.heap.get? b = some o → h'.get? b = some o) → Q [.bool true] { s with heap := h' }) : wpAny (model W.prog W.w) A (unpackItems (.ref a) 1 none) Q E s := by
  have hT : s.TypeIs (.ref a) "set" := ⟨_, hS, rfl⟩
  unfold unpackItems
  refine wpAny_bind ?_
  unfold notIterableAtAll
  refine wpAny_bind (wpAny_specialOf hT F.slot_set_iter.lookup ?_)
  refine wpAny_pure ?_
  simp only [Bool.false_eq_true, if_false]
  refine wpAny_bind (wpAny_holding (set_iter hS ?_))
  have hI : (s.heap.push (setItObj 0 0 (.ref a) ep)).get? s.heap.objs.size = some (setItObj 0 0 (.ref a) ep) := Heap.get?_push_size _ rfl
  have hS1 := Heap.get?_push_of_some (setItObj 0 0 (.ref a) ep) hS
  have keep1 : ∀ b o, s.heap.get? b = some o → (s.heap.push (setItObj 0 0 (.ref a) ep)).get? b = some o := fun b o e => Heap.get?_push_of_some _ e
  generalize s.heap.push (setItObj 0 0 (.ref a) ep) = H1 at *
  have haI : a ≠ s.heap.objs.size := Nat.ne_of_lt (Heap.lt_size hS)
  refine wpAny_bind (wpAny_holding ?_)
  unfold draw
  refine wpAny_bind (set_next hS1 hI fun h' nx hs' hI' hnx _ => ?_)
  have hs' : Heap.SameBut s.heap.objs.size H1 h' := hs'
  refine wpAny_bind (wpAny_holding ?_)
  unfold draw
  refine wpAny_pure ?_
  refine wpAny_pure ?_
  have hS2 : h'.get? a = some (setObj ep (!byT W.w)) := (hs'.2 a haI).trans hS1
  refine wpAny_bind (wpAny_holding (set_end hh hS2 hI' hnx fun h'' hx => ?_))
  refine wpAny_pure (h h'' fun b o e => ?_)
  have hne : b ≠ s.heap.objs.size := Nat.ne_of_lt (Heap.lt_size e)
  exact hx b o hne ((hs'.2 b hne).trans (keep1 b o e))

/-- y, = {elt for x in iter}, every elt True -/
theorem Ex.setOne {elt iter : Expr} {x y : Str} {px py pos p spos : Pos} {kt : Nat} {scope : Scope} {ds : List D} (fe : FEnv env) (sy : Storable env y) (S : Sees env scope x (rho σ) ρx) (src : Src W (n + 1) env (rho σ) iter ds) (hds : 0 < ds.length) (hsz : ds.length ≤ 100000)
    (helt : ∀ cenv : Env, cenv.scope = relabel scope env → EnvOk cenv → ∀ d ∈ ds, Ev W (n + 1) cenv ((x, (d, true)) :: ρx) elt (.bool true) true)
    (hs : ∀ x, foldedSetIterable iter env x = pure x) (h1 : swapsWithSole [.Tuple [.Name y py] kt p] (.SetComp elt [⟨.Name x px, iter, [], 0⟩] scope pos) spos.line env = pure false) (h2 : swappedStores [.Tuple [.Name y py] kt p] (.SetComp elt [⟨.Name x px, iter, [], 0⟩] scope pos) env = pure none) :
    Ex W (n + 1) env σ (exec (.Assign [.Tuple [.Name y py] kt p] (.SetComp elt [⟨.Name x px, iter, [], 0⟩] scope pos) spos) env) .next (put y (.fz (.bool true)) σ) := by
  intro A lf hE Xo Y al s a q
  obtain ⟨cl, hcl⟩ := S.clos
  refine Assign_Tuple ?_ h1 h2
  rw [arm_eval_SetComp]
  have R := q.rd
  refine wpAny_comprehension_free (use := none) rfl hs (closureFor_of hcl) S.kind S.names (src A lf (Y ++ Xo) s _ _ a R fun H tk I fp wr P St gH bH Wk st0 hfp hfx hwr hfr hlv hP hgo => ?_)
  refine comp_coreS (RR := fun acc C => compPost (model W.prog W.w) A (fun _ _ => False) none _ acc C) a R fe.ok S hcl gH (bH R.gd.base) Wk st0 (fun b hb => let ⟨_, e⟩ := hfp b hb; Heap.lt_size e) hwr (fun i g g' st gg => hfr i g g' st fun b _ o e => gg b o e) hlv hP hsz helt hds ?_
  intro DD CC h' tk' m hD hC hDC hX hn hS g b
  refine ⟨m, hn, fun h'' hs'' => ?_⟩
  have off : ∀ b o, b ≠ CC → h'.get? b = some o → h''.get? b = some o := fun b o hb e => (hs''.2 b hb).trans e
  have g2 : Gr s.heap h'' := fun c o e => by
    obtain ⟨o', e', z⟩ := g c o e
    exact ⟨o', off c o' (fun z => by rw [z, hC] at e; cases e) e', z⟩
  have b2 : W.hB.StaysIn h'' := fun c o e => off c o (fun z => by have := q.base c o e; rw [z, hC] at this; cases this) (b c o e)
  obtain ⟨ep, eS⟩ := hS
  have eS2 := off DD _ hDC eS
  show wpAny (model W.prog W.w) A (PySem.assign (Expr.Tuple [Expr.Name y py] kt p) env (.ref DD)) _ _ _
  rw [arm_assign_Tuple]
  refine wpAny_bind (wpAny_standAt ?_)
  unfold unpack
  show wpAny _ A (holding [Value.ref DD] (unpackItems (.ref DD) 1 none) >>= fun items => assignInOrder [PySem.assign (.Name y py) env] items) _ _ _
  refine wpAny_bind (wpAny_holding (unpack_set (s := { s with heap := h'', toks := tk' }) (a.1 (Nat.succ_pos _)) eS2 fun h3 k3 => ?_))
  have q3 := (q.up g2 fun _ => b2).up (h' := h3) (Gr.of_keep k3) fun bb c o e => k3 c o (bb c o e)
  refine wpAny_assignInOrder_more (wpAny_assign_Name (st_store fe q3 sy (d := .bool true) (by rw [Rep_bool]) fun h4 tk4 q4 => ?_))
  exact wpAny_assignInOrder_none ⟨h4, tk4, rfl, rfl, Y, al, q4⟩
end
end Mine
namespace Mine
section
variable {W : Wd} {n : Nat} {env : Env} {ρ ρx : Rho} {σ : Sig}
theorem closOf_some {cells : List (Str × Addr)} : ∀ {names : List (Str × NameKind)} {acc : List (Str × Addr)}, (∀ y, (y, NameKind.free) ∈ names → ∃ c, cells.lookup y = some c) → ∃ cl, closOf cells names acc = some cl
  | [], acc, _ => ⟨acc, rfl⟩
  | (x, k) :: r, acc, h => by
    simp only [closOf]
    split
    · rename_i hk
      obtain ⟨c, hc⟩ := h x (by rw [← beq_iff_eq.mp hk]; exact .head _)
      rw [hc]
      exact closOf_some fun y hy => h y (.tail _ hy)
    · exact closOf_some fun y hy => h y (.tail _ hy)
noncomputable def relN (scope sc : Scope) : Scope := { scope with names := scope.names.map fun (n, k) => if (k == .free && sc.kind == .function && sc.names.lookup n == some .cell) then (n, .cell) else (n, k) }
theorem relabel_eq {scope sc : Scope} (h : env.scope = sc) : relabel scope env = relN scope sc := by subst h; rfl
noncomputable def SubR : Rho → Rho → Prop
  | [], _ => True
  | (x, p) :: r, ρ => ρ.lookup x = some p ∧ SubR r ρ
theorem SubR.lookup : ∀ {ρx ρ : Rho}, SubR ρx ρ → ∀ y p, ρx.lookup y = some p → ρ.lookup y = some p ∧ y ∈ ρx.map (·.1)
  | [], _, _, y, p, e => by simp at e
  | (x, q) :: r, ρ, h, y, p, e => by
    rw [List.lookup_cons] at e
    cases hz : y == x with
    | true => rw [hz] at e; cases e; rw [beq_iff_eq.mp hz]; exact ⟨h.1, .head _⟩
    | false => rw [hz] at e; obtain ⟨h1, h2⟩ := h.2.lookup y p e; exact ⟨h1, .tail _ h2⟩
noncomputable def seesB (scope sc : Scope) (x : Str) (fs : List Str) : Bool :=
  scope.kind == .function && scope.names.all (fun y => !(y.2 == .local) || scope.names.lookup y.1 == some .local) && scope.names.all (fun y => !(y.2 == .cell) || scope.names.lookup y.1 == some .cell) &&
  (scope.names.lookup x == some .local || scope.names.lookup x == some .cell) && scope.names.all (fun y => !(y.2 == .free) || (sc.names.lookup y.1 == some .cell || sc.names.lookup y.1 == some .free)) &&
  fs.all (fun y => scope.names.lookup y == some .free && !(y == ("__classdict__" : Str)))
theorem Sees.of {scope sc : Scope} {x : Str} (k : EnvOk env) (hsc : env.scope = sc) (hb : seesB scope sc x (ρx.map (·.1)) = true) (hs : SubR ρx ρ) : Sees env scope x ρ ρx := by
  subst hsc
  simp only [seesB, Bool.and_eq_true, List.all_eq_true, Bool.or_eq_true, Bool.not_eq_true', beq_iff_eq, beq_eq_false_iff_ne] at hb
  obtain ⟨⟨⟨⟨⟨h1, h2⟩, h3⟩, h4⟩, h5⟩, h6⟩ := hb
  have fr : ∀ y, (y, NameKind.free) ∈ scope.names → env.kindOf y = some .cell ∨ env.kindOf y = some .free := fun y hy => (h5 _ hy).resolve_left fun z => z rfl
  refine ⟨h1, fun y hy e => (h2 y hy).resolve_left fun z => z e, fun y hy e => (h3 y hy).resolve_left fun z => z e, h4, fun y d st e => ?_, closOf_some fun y hy => k.cells y (fr y hy)⟩
  obtain ⟨e1, e2⟩ := hs.lookup y _ e
  obtain ⟨f1, f2⟩ := h6 y e2
  exact ⟨e1, f1, fr y (mem_of_lookup f1), beq_eq_false_iff_ne.mpr f2⟩
theorem stoC {sc : Scope} (fe : FEnv env) (h : env.scope = sc) {x : Str} (e : sc.names.lookup x = some .cell) : Storable env x := .inr ⟨kd h e, fe.ok.cells _ (.inl (kd h e))⟩
end
end Mine
namespace Mine
section
variable {W : Wd} {n : Nat} {env : Env} {σ σ₁ σ₂ : Sig} {ρ ρx : Rho}

noncomputable def lcpS : List Str → List Str → List Str
  | x :: r, y :: t => if (x == y) = true then x :: lcpS r t else []
  | _, _ => []
theorem lcpS_comm : ∀ (a b : List Str), lcpS a b = lcpS b a
  | [], [] => rfl
  | [], _ :: _ => rfl
  | _ :: _, [] => rfl
  | x :: r, y :: t => by
    simp only [lcpS]
    by_cases h : x = y
    · subst h; simp [lcpS_comm r t]
    · have h' : ¬ y = x := fun e => h e.symm
      simp [h, h']
theorem strLt_irrefl (x : Str) : strLt x x = false := by unfold strLt; simp
theorem lexLt_self : ∀ a : List Str, lexLt a a = false
  | [] => rfl
  | x :: r => by simp only [lexLt, beq_self_eq_true, if_true]; exact lexLt_self r
theorem strLt_asymm {x y : Str} (h : strLt x y = true) : strLt y x = false := by
  have a := leS_total x y
  rcases a with a | a
  · unfold leS at a; simpa using a
  · unfold leS at a; rw [h] at a; cases a
theorem lexLt_asymm : ∀ {a b : List Str}, lexLt a b = true → lexLt b a = false
  | [], [], h => by simp [lexLt] at h
  | [], y :: t, _ => by simp [lexLt]
  | x :: r, [], h => by simp [lexLt] at h
  | x :: r, y :: t, h => by
    simp only [lexLt] at h ⊢
    by_cases e : x = y
    · subst e; simp only [beq_self_eq_true, if_true] at h ⊢; exact lexLt_asymm h
    · have e' : ¬ y = x := fun z => e z.symm
      rw [if_neg (by simpa using e)] at h
      rw [if_neg (by simpa using e')]
      exact strLt_asymm h
theorem lexGt_eq : ∀ (a b : List Str), lexGt a b = lexLt b a
  | [], [] => by simp [lexLt, lexGt]
  | [], y :: t => by simp [lexLt, lexGt]
  | x :: r, [] => by simp [lexLt, lexGt]
  | x :: r, y :: t => by
    simp only [lexLt, lexGt]
    by_cases e : x = y
    · subst e; simp only [beq_self_eq_true, if_true]; exact lexGt_eq r t
    · have e' : ¬ y = x := fun z => e z.symm
      rw [if_neg (by simpa using e), if_neg (by simpa using e')]
theorem pick_ok (a b : List Str) : lexLt (if lexGt b a = true then b else a) (if lexLt b a = true then b else a) = false ∧ lcpS (if lexLt b a = true then b else a) (if lexGt b a = true then b else a) = lcpS a b ∧ ((if lexLt b a = true then b else a) = a ∨ (if lexLt b a = true then b else a) = b) ∧ ((if lexGt b a = true then b else a) = a ∨ (if lexGt b a = true then b else a) = b) := by
  rw [lexGt_eq]
  cases h : lexLt b a with
  | true =>
    have := lexLt_asymm h
    simp [this, lcpS_comm b a]
  | false =>
    cases h' : lexLt a b with
    | true => simp [h]
    | false => 
      simp only [Bool.false_eq_true, if_false, lexLt_self, true_and]
      refine ⟨?_, .inl trivial, .inl trivial⟩
      -- neither is less: they are alike
      have key : ∀ (a b : List Str), lexLt a b = false → lexLt b a = false → a = b := by
        intro a
        induction a with
        | nil => intro b h1 h2; cases b with
          | nil => rfl
          | cons y t => simp [lexLt] at h1
        | cons x r ih => intro b h1 h2; cases b with
          | nil => simp [lexLt] at h2
          | cons y t =>
            simp only [lexLt] at h1 h2
            by_cases e : x = y
            · subst e; simp only [beq_self_eq_true, if_true] at h1 h2; rw [ih t h1 h2]
            · have e' : ¬ y = x := fun z => e z.symm
              rw [if_neg (by simpa using e)] at h1
              rw [if_neg (by simpa using e')] at h2
              exact absurd (leS_antisymm (by unfold leS; rw [h2]; rfl) (by unfold leS; rw [h1]; rfl)) e
      rw [key a b h' h]
noncomputable def goodS (c : Str) : Bool := decide (0 < c.length) && (c != (".": Str))
noncomputable def fC : D → Option D
  | .str c => if goodS c = true then some (.str c) else none
  | _ => none
theorem fC_map (ps : List Str) : (strsD ps).filterMap fC = strsD (ps.filter goodS) := by
  induction ps with
  | nil => rfl
  | cons c r ih =>
    simp only [strsD, List.map_cons, List.filterMap_cons, List.filter_cons, fC]
    cases h : goodS c <;> simp [strsD] at ih ⊢ <;> exact ih
theorem truthS' {c : Str} (h : c.length ≤ 1000) : truth (.str c) = some (decide (0 < c.length)) := by
  simp only [truth]; rw [if_pos (by omega)]; congr 1
  rcases Nat.eq_zero_or_pos c.length with h | h
  · rw [h]; rfl
  · have h' : c.length ≠ 0 := by omega
    rw [decide_eq_true h]; simp [h']

/-- the two inner comprehensions -/
theorem goodTest {cenv : Env} {c : Str} {b : Bool} {p1 p2 p3 q1 q2 : Pos} (k : EnvOk cenv) (hl : c.length ≤ 1000) (h1 : ρ.lookup ("c" : Str) = some (D.str c, b)) (h2 : ρ.lookup ("curdir" : Str) = some (D.str ".", true)) :
    Tests W n cenv ρ [.BoolOp .And [.Name "c" p1, .Compare (.Name "c" p2) [.NotEq] [.Name "curdir" p3] q1] q2] (fC (.str c)).isSome := by
  have e : (fC (.str c)).isSome = goodS c := by simp only [fC]; cases goodS c <;> rfl
  rw [e]
  unfold goodS
  cases hp : decide (0 < c.length) with
  | false =>
    rw [Bool.false_and]
    exact Tr.boolop (TrA.and_stop (Tr.val (Ev.name k h1 rfl) ((truthS' hl).trans (congrArg some hp)) rfl))
  | true =>
    rw [Bool.true_and]
    have t1 : Tr W n cenv ρ (.Name "c" p1) true := Tr.val (Ev.name k h1 rfl) ((truthS' hl).trans (congrArg some hp)) rfl
    have t2 : Tr W n cenv ρ (.Compare (.Name "c" p2) [.NotEq] [.Name "curdir" p3] q1) (c != (".": Str)) := Tr.cmp (op := .ne) (Ev.name k h1 rfl) (Ev.name k h2 rfl) rfl rfl
    cases hq : (c != (".": Str)) with
    | false => rw [hq] at t2; exact Tr.boolop (TrA.and_on t1 (TrA.and_stop t2))
    | true => rw [hq] at t2; exact Tr.boolop (TrA.and_on t1 (TrA.and_on t2 TrA.and_nil))
noncomputable abbrev cpT : Stmt := (dBody (stAt 17)).getD 3 pass0
noncomputable abbrev cpB : List Stmt := tryB cpT
/-- what the frame knows -/
noncomputable abbrev cpS (x y : Str) (rest : Sig) : Sig := ("paths", .fz (.tup [.str x, .str y])) :: ("sep", .fz (.str "/")) :: ("curdir", .fz (.str ".")) :: rest
theorem mem2 {α : Type} {a b d : α} {P : α → Prop} (h1 : P a) (h2 : P b) (h : d ∈ [a, b]) : P d := by
  rcases List.mem_cons.mp h with rfl | h
  · exact h1
  · rw [List.mem_singleton.mp h]; exact h2
theorem cp_split (fe : FEnv env) (hsc : env.scope = dScope (stAt 17)) {x y : Str} {px py : List Str} (hx : meth .split (.str x) (.str "/") = some (.list (strsD px))) (hy : meth .split (.str y) (.str "/") = some (.list (strsD py))) :
    Ex W (n + 2) env (cpS x y []) (exec (cpB.getD 0 pass0) env) .next (cpS x y [("split_paths", .own [.list (strsD px), .list (strsD py)])]) := by
  refine Ex.assignComp (ds := [.str x, .str y]) (ρx := [("sep", (.str "/", true))]) (fun d => match d with | .str p => (meth .split (.str p) (.str "/")) | _ => none) fe (sto hsc rfl) (Sees.of fe.ok hsc rfl ⟨rfl, trivial⟩) (Src.tup (Ev.name fe.ok rfl rfl)) ⟨by simp, fun cenv hc ck d hd => ?_, fun cenv hc ck d hd r hr => ?_⟩ (fun _ => rfl) ?_ |>.to ?_
  · refine mem2 (P := fun d => Tests W (n + 2) cenv (("path", (d, true)) :: [("sep", (.str "/", true))]) [] (match d with | .str p => (meth .split (.str p) (.str "/")) | _ => none).isSome) ?_ ?_ hd
    · show Option.isSome (meth .split (.str x) (.str "/")) = true; rw [hx]; rfl
    · show Option.isSome (meth .split (.str y) (.str "/")) = true; rw [hy]; rfl
  · revert hr
    refine mem2 (P := fun d => (match d with | .str p => (meth .split (.str p) (.str "/")) | _ => none) = some r → Ev W (n + 2) cenv (("path", (d, true)) :: [("sep", (.str "/", true))]) _ r true) ?_ ?_ hd
    · intro hr; exact Ev.meth (m := .split) (fun _ => rfl) rfl rfl (Ev.name ck rfl rfl) (Ev.name ck rfl rfl) hr
    · intro hr; exact Ev.meth (m := .split) (fun _ => rfl) rfl rfl (Ev.name ck rfl rfl) (Ev.name ck rfl rfl) hr
  · obtain ⟨sc, _⟩ := env; simp only at hsc; subst hsc; rfl
  · have : [D.str x, .str y].filterMap (fun d => match d with | .str p => (meth .split (.str p) (.str "/")) | _ => none) = [.list (strsD px), .list (strsD py)] := by simp [hx, hy]
    rw [this]
    exact ⟨rfl, rfl, rfl, rfl, trivial⟩

theorem cp_isabs (fe : FEnv env) (hsc : env.scope = dScope (stAt 17)) {x y : Str} {sp : D} (hx : Txt.startswith x "/" = true) (hy : Txt.startswith y "/" = true) :
    Ex W (n + 2) env (cpS x y [("split_paths", .fz sp)]) (exec (cpB.getD 1 pass0) env) .next (cpS x y [("split_paths", .fz sp), ("isabs", .fz (.bool true))]) := by
  refine Ex.tryOk (Ex.cons (Ex.setOne (n := n + 1) (ds := [.str x, .str y]) (ρx := [("sep", (.str "/", true))]) fe (sto hsc rfl) (Sees.of fe.ok hsc rfl ⟨rfl, trivial⟩) (Src.tup (Ev.name fe.ok rfl rfl)) (by simp) (by simp) (fun cenv hc ck d hd => ?_) (fun _ => rfl) rfl rfl) (Ex.to Ex.nil ⟨rfl, rfl, rfl, rfl, rfl, trivial⟩))
  refine mem2 (P := fun d => Ev W (n + 2) cenv (("p", (d, true)) :: [("sep", (.str "/", true))]) _ (.bool true) true) ?_ ?_ hd
  · exact Ev.meth (m := .startswith) (fun _ => rfl) rfl rfl (Ev.name ck rfl rfl) (Ev.name ck rfl rfl) (congrArg (fun b => some (D.bool b)) hx)
  · exact Ev.meth (m := .startswith) (fun _ => rfl) rfl rfl (Ev.name ck rfl rfl) (Ev.name ck rfl rfl) (congrArg (fun b => some (D.bool b)) hy)
theorem cp_inner {cenv : Env} {ps : List Str} {b : Bool} {px p1 p2 p3 p4 p5 q1 q2 pos : Pos} (ck : EnvOk cenv) (hc : cenv.scope = relN { kind := .function, names := [(".0", .local), ("s", .local), ("curdir", .free)], isGenerator := false, isCoroutine := false } (dScope (stAt 17)))
    (hl : ∀ c ∈ ps, c.length ≤ 1000) (hn : ps.length ≤ 1000) :
    Ev W (n + 2) cenv (("s", (.list (strsD ps), true)) :: [("curdir", (.str ".", true))]) (.ListComp (.Name "c" p1) [⟨.Name "c" p2, .Name "s" p3, [.BoolOp .And [.Name "c" p4, .Compare (.Name "c" p5) [.NotEq] [.Name "curdir" px] q1] q2], 0⟩] { kind := .function, names := [(".0", .local), ("c", .local), ("curdir", .free)], isGenerator := false, isCoroutine := false } pos) (.list (strsD (ps.filter goodS))) b := by
  rw [← fC_map]
  refine (EvN.comp fC ck (Sees.of (ρx := [("curdir", (.str ".", true))]) ck hc rfl ⟨rfl, trivial⟩) (Src.list (Ev.name ck rfl rfl)) ⟨by simp; omega, fun cenv2 hc2 ck2 d hd => ?_, fun cenv2 hc2 ck2 d hd r hr => ?_⟩ fun _ => rfl).ev
  · obtain ⟨c, hcm, rfl⟩ := List.mem_map.mp hd
    exact goodTest ck2 (hl c hcm) rfl rfl
  · obtain ⟨c, hcm, rfl⟩ := List.mem_map.mp hd
    simp only [fC] at hr
    split at hr
    · cases hr; exact Ev.name ck2 rfl rfl
    · cases hr
theorem cp_filter (fe : FEnv env) (hsc : env.scope = dScope (stAt 17)) {x y : Str} {px py : List Str} (lx : ∀ c ∈ px, c.length ≤ 1000) (ly : ∀ c ∈ py, c.length ≤ 1000) (nx : px.length ≤ 1000) (ny : py.length ≤ 1000) :
    Ex W (n + 2) env (cpS x y [("split_paths", .fz (.list [.list (strsD px), .list (strsD py)])), ("isabs", .fz (.bool true))]) (exec (cpB.getD 2 pass0) env) .next (cpS x y [("split_paths", .own [.list (strsD (px.filter goodS)), .list (strsD (py.filter goodS))]), ("isabs", .fz (.bool true))]) := by
  refine Ex.assignComp (ds := [.list (strsD px), .list (strsD py)]) (ρx := [("curdir", (.str ".", true))]) (fun d => match d with | .list ds => some (.list (ds.filterMap fC)) | _ => none) fe (sto hsc rfl) (Sees.of fe.ok hsc rfl ⟨rfl, trivial⟩) (Src.list (Ev.name fe.ok rfl rfl)) ⟨by simp, fun cenv hc ck d hd => ?_, fun cenv hc ck d hd r hr => ?_⟩ (fun _ => rfl) ?_ |>.to ?_
  · refine mem2 (P := fun d => Tests W (n + 2) cenv (("s", (d, true)) :: [("curdir", (.str ".", true))]) [] (match d with | .list ds => some (D.list (ds.filterMap fC)) | _ => none).isSome) ?_ ?_ hd
    · exact rfl
    · exact rfl
  · have hc' := hc.trans (relabel_eq hsc)
    revert hr
    refine mem2 (P := fun d => (match d with | .list ds => some (D.list (ds.filterMap fC)) | _ => none) = some r → Ev W (n + 2) cenv (("s", (d, true)) :: [("curdir", (.str ".", true))]) _ r true) ?_ ?_ hd
    · intro hr; cases hr; rw [fC_map]; exact cp_inner ck hc' lx nx
    · intro hr; cases hr; rw [fC_map]; exact cp_inner ck hc' ly ny
  · obtain ⟨sc, _⟩ := env; simp only at hsc; subst hsc; rfl
  · have : [D.list (strsD px), .list (strsD py)].filterMap (fun d => match d with | .list ds => some (D.list (ds.filterMap fC)) | _ => none) = [.list (strsD (px.filter goodS)), .list (strsD (py.filter goodS))] := by
      simp only [List.filterMap_cons, List.filterMap_nil, fC_map]
    rw [this]
    exact ⟨rfl, rfl, rfl, rfl, rfl, trivial⟩

theorem Ev.min2 {p pos : Pos} {e : Expr} {xs ys : List Str} (B : Bs W) (k : EnvOk env) (hx : env.kindOf "min" = some .globalImplicit) (he : starEach [e] env = [(false, eval e env)]) (h : Ev W (n + 1) env ρ e (.list [.list (strsD xs), .list (strsD ys)]) true) :
    Ev W (n + 1) env ρ (.Call (.Name "min" p) [e] [] pos) (.list (strsD (if lexLt ys xs = true then ys else xs))) true :=
  Ev.call1 B.base k hx rfl B.min he h fun A lf X s v a g r => min2_ok a g.live r
theorem Ev.max2 {p pos : Pos} {e : Expr} {xs ys : List Str} (B : Bs W) (k : EnvOk env) (hx : env.kindOf "max" = some .globalImplicit) (he : starEach [e] env = [(false, eval e env)]) (h : Ev W (n + 1) env ρ e (.list [.list (strsD xs), .list (strsD ys)]) true) :
    Ev W (n + 1) env ρ (.Call (.Name "max" p) [e] [] pos) (.list (strsD (if lexGt ys xs = true then ys else xs))) true :=
  Ev.call1 B.base k hx rfl B.max he h fun A lf X s v a g r => max2_ok a g.live r
noncomputable abbrev cpL (x y : Str) (s1 s2 com : List Str) : Sig := cpS x y [("isabs", .fz (.bool true)), ("s1", .fz (.list (strsD s1))), ("s2", .fz (.list (strsD s2))), ("common", .fz (.list (strsD com)))]
theorem idxPre {pre r : List Str} {d : Str} (h : (pre ++ d :: r).length < 1000) : idx (.list (strsD (pre ++ d :: r))) (.int (pre.length : Int)) = some (.str d) := by
  refine idxAt (es := r) ?_ h
  simp
theorem slPre {pre r : List Str} (h : (pre ++ r).length < 1000) : sl (.list (strsD (pre ++ r))) none (some (pre.length : Int)) none = some (.list (strsD pre)) := by
  rw [sl_list (by simp at h ⊢; omega) (by decide), slD_to _ (by simp)]
  simp [strsD]
theorem cp_turns (fe : FEnv env) (hsc : env.scope = dScope (stAt 17)) {x y : Str} : ∀ (r1 r2 pre : List Str), lexLt r2 r1 = false → (pre ++ r1).length < 1000 → (pre ++ r2).length < 1000 →
    Turns W (n + 1) env (forTgt (cpB.getD 6 pass0)) (forBody (cpB.getD 6 pass0)) (enumD pre.length (strsD r1)) (cpL x y (pre ++ r1) (pre ++ r2) (pre ++ r1)) .next (cpL x y (pre ++ r1) (pre ++ r2) (pre ++ lcpS r1 r2))
  | [], r2, pre, _, _, _ => by
    rw [show lcpS [] r2 = [] from rfl]
    exact .done
  | c :: r1, [], pre, h, _, _ => by simp [lexLt] at h
  | c :: r1, d :: r2, pre, h, l1, l2 => by
    have tgt : Tgt W (n + 1) env (cpL x y (pre ++ c :: r1) (pre ++ d :: r2) (pre ++ c :: r1)) (forTgt (cpB.getD 6 pass0)) (.tup [.int (pre.length : Int), .str c]) (putAll ["i", "c"] [.int (pre.length : Int), .str c] (cpL x y (pre ++ c :: r1) (pre ++ d :: r2) (pre ++ c :: r1))) :=
      Tgt.tup (ps := [("i", ⟨136, 12, 136, 13⟩), ("c", ⟨136, 15, 136, 16⟩)]) fe rfl (fun z hz => by
        simp only [List.map_cons, List.map_nil, List.mem_cons, List.not_mem_nil, or_false] at hz
        rcases hz with rfl | rfl <;> exact sto hsc rfl)
    have test : ∀ b, (c != d) = b → Tr W (n + 1) env (rho (putAll ["i", "c"] [.int (pre.length : Int), .str c] (cpL x y (pre ++ c :: r1) (pre ++ d :: r2) (pre ++ c :: r1)))) (match ((forBody (cpB.getD 6 pass0)).getD 0 pass0) with | .If t _ _ _ => t | _ => .Constant .none 0 ⟨0, 0, 0, 0⟩) b := fun b hb =>
      Tr.cmp (op := .ne) (s1 := true) (Ev.name fe.ok rfl rfl) (Ev.sub (s2 := true) (Ev.name fe.ok rfl rfl) (Ev.name fe.ok rfl rfl) (idxPre l2)) (congrArg some hb) rfl
    simp only [lcpS]
    by_cases e : c = d
    · subst e
      simp only [beq_self_eq_true, if_true]
      simp only [lexLt, beq_self_eq_true, if_true] at h
      have ih := cp_turns fe hsc (x := x) (y := y) r1 r2 (pre ++ [c]) h (by simpa using l1) (by simpa using l2)
      simp only [List.append_assoc, List.singleton_append, List.length_append, List.length_singleton] at ih
      exact .next (σ₁ := cpL x y (pre ++ c :: r1) (pre ++ c :: r2) (pre ++ c :: r1)) tgt (Ex.cons (Ex.ifF (test false (by simp)) Ex.nil) (Ex.to Ex.nil ⟨rfl, rfl, rfl, rfl, rfl, rfl, rfl, trivial⟩)) ih
    · have hb : (c == d) = false := by simpa using e
      rw [hb, if_neg Bool.false_ne_true, List.append_nil]
      refine .brk tgt (Ex.stop (Ex.ifT (test true (by simpa using e)) (Ex.cons (Ex.assign fe (sto hsc rfl) (Ev.slice (s1 := true) (Ev.name fe.ok rfl rfl) .none (.some (Ev.name fe.ok rfl rfl)) .none (slPre l1)) rfl) (Ex.to (Ex.stop Ex.brk trivial) ⟨rfl, rfl, rfl, rfl, rfl, rfl, rfl, trivial⟩))) trivial)
theorem commonpath_ok {a af : Addr} (B : Bs W) (F : Dfn W "commonpath" a 17) (Ff : Dfn W "fspath" af 9) {x y j r : Str} {px py : List Str} (hx : meth .split (.str x) (.str "/") = some (.list (strsD px))) (hy : meth .split (.str y) (.str "/") = some (.list (strsD py)))
    (sx : Txt.startswith x "/" = true) (sy : Txt.startswith y "/" = true) (lx : ∀ c ∈ px, c.length ≤ 1000) (ly : ∀ c ∈ py, c.length ≤ 1000) (nx : px.length < 1000) (ny : py.length < 1000)
    (hj : meth .join (.str "/") (.list (strsD (lcpS (px.filter goodS) (py.filter goodS)))) = some (.str j)) (hr : bin .add (.str "/") (.str j) = some (.str r)) : CallOk W (n + 9) a [.list [.str x, .str y]] (.str r) := by
  obtain ⟨fd, Fa⟩ := Ff.at
  obtain ⟨q1, q2, q3, q4⟩ := pick_ok (px.filter goodS) (py.filter goodS)
  have m1 : (px.filter goodS).length < 1000 := Nat.lt_of_le_of_lt (List.length_filter_le _ _) nx
  have m2 : (py.filter goodS).length < 1000 := Nat.lt_of_le_of_lt (List.length_filter_le _ _) ny
  refine CallOk.ofC B.base F (ps := ["paths"]) rfl rfl (binds1 fun _ _ _ _ => rfl) rfl rfl rfl (by decide +kernel) fun env hsc fe => ⟨[], ?_⟩
  refine Ex.cons (Ex.assign fe (sto hsc rfl) (Ev.tupMap (n := n + 1) B fe.ok (kd hsc rfl) (kd hsc rfl) (kd hsc rfl) rfl Fa (fun x => fspath_ok B Ff x) rfl (Ev.name (st := true) fe.ok rfl rfl)) rfl) ?_
  refine Ex.cons (Ex.ifF (Tr.not (b := true) (Tr.val (Ev.name fe.ok rfl rfl) rfl rfl)) Ex.nil) ?_
  refine Ex.cons (Ex.ifF (Tr.val (Ev.isBytes (st := true) B.base fe.ok (kd hsc rfl) (kd hsc rfl) B.isinstance B.bytes rfl (Ev.sub (s2 := true) (Ev.name fe.ok rfl rfl) Ev.int rfl)) rfl rfl) (Ex.cons (Ex.assign fe (stoC fe hsc rfl) Ev.str rfl) (Ex.cons (Ex.assign fe (stoC fe hsc rfl) Ev.str rfl) Ex.nil))) ?_
  refine Ex.stop (Ex.tryRet ?_) trivial
  refine Ex.pre (σ₁ := cpS x y []) ?_ ⟨rfl, rfl, rfl, trivial⟩
  refine Ex.cons (cp_split fe hsc hx hy) (Ex.freeze (x := "split_paths") rfl ?_)
  refine Ex.cons (cp_isabs fe hsc sx sy) ?_
  refine Ex.cons (cp_filter fe hsc lx ly (by omega) (by omega)) (Ex.freeze (x := "split_paths") rfl ?_)
  refine Ex.cons (Ex.assign fe (sto hsc rfl) (Ev.min2 B fe.ok (kd hsc rfl) rfl (Ev.name fe.ok rfl rfl)) rfl) ?_
  refine Ex.cons (Ex.assign fe (sto hsc rfl) (Ev.max2 B fe.ok (kd hsc rfl) rfl (Ev.name fe.ok rfl rfl)) rfl) ?_
  refine Ex.cons (Ex.assign fe (sto hsc rfl) (Ev.name fe.ok rfl rfl) rfl) ?_
  generalize (if lexLt (py.filter goodS) (px.filter goodS) = true then py.filter goodS else px.filter goodS) = s1 at *
  generalize (if lexGt (py.filter goodS) (px.filter goodS) = true then py.filter goodS else px.filter goodS) = s2 at *
  have l1 : s1.length < 1000 := by rcases q3 with rfl | rfl <;> assumption
  have l2 : s2.length < 1000 := by rcases q4 with rfl | rfl <;> assumption
  refine Ex.pre (σ₁ := cpL x y s1 s2 s1) ?_ ⟨rfl, rfl, rfl, rfl, rfl, rfl, rfl, trivial⟩
  have T := cp_turns (W := W) (n := n + 7) fe hsc (x := x) (y := y) s1 s2 [] q1 l1 l2
  rw [List.nil_append, List.nil_append, List.nil_append, q2] at T
  refine Ex.cons (Ex.forEnum (ds := strsD s1) B fe (Nat.succ_pos _) (kd hsc rfl) rfl (Ev.name fe.ok rfl rfl) (fun d hd => by obtain ⟨z, _, rfl⟩ := List.mem_map.mp hd; rfl) T) ?_
  refine Ex.cons (Ex.assign fe (sto hsc rfl) (Ev.ite_true (Tr.val (Ev.name fe.ok rfl rfl) rfl rfl) (Ev.name fe.ok rfl rfl)) rfl) ?_
  exact Ex.stop (Ex.ret (Ev.bin (op := .add) (Ev.name fe.ok rfl rfl) (Ev.meth (st := true) (m := .join) (fun _ => rfl) rfl rfl (Ev.name fe.ok rfl rfl) (Ev.name fe.ok rfl rfl) hj) hr)) trivial
end
end Mine
namespace Mine
noncomputable def letters : List Str := ["a", "b", "c"]
noncomputable def pieces : List Str := ["a", "b", "..", "c"]
noncomputable def allN : List (List Str) := [[]] ++ letters.map (fun x => [x]) ++ letters.flatMap (fun x => letters.map fun y => [x, y]) ++ letters.flatMap (fun x => letters.flatMap fun y => letters.map fun z => [x, y, z])
noncomputable def allR : List (List Str) := pieces.flatMap fun x => pieces.flatMap fun y => pieces.map fun z => [x, y, z]
noncomputable def enc (ns : List Str) : Str := ("/" : Str) ++ Txt.join "/" ns
noncomputable def nm (r : List Str) : List Str := nmGo r.reverse 0 []
noncomputable def lns (ns : List Str) : List Str := (List.range (ns.length + 1)).map fun k => enc (ns.take k)
/-- normpath, as far as it is asked -/
noncomputable def normC (p : Str) : Option Str :=
  match truth (.str p), rootC p with
  | some true, some c => match meth .split (.str c) (.str "/") with
    | some (.list ds) => match strs? ds with
      | some cs => if cs.all (fun c => decide (0 < c.length ∧ c.length ≤ 1000)) = true ∧ cs.length ≤ 1000 then
          (match meth .join (.str "/") (.list (strsD (npGo cs []))) with
          | some (.str j) => match bin .add (.str "/") (.str j) with
            | some (.str r) => if truth (.str r) = some true then some r else none
            | _ => none
          | _ => none) else none
      | none => none
    | _ => none
  | _, _ => none
/-- the parts of a place -/
noncomputable def partC (p : Str) : Option (List Str) :=
  match meth .split (.str p) (.str "/") with
  | some (.list ds) => match strs? ds with
    | some cs => if Txt.startswith p "/" = true ∧ cs.all (fun c => decide (c.length ≤ 1000)) = true ∧ cs.length < 1000 then some (cs.filter goodS) else none
    | none => none
  | _ => none
noncomputable def textC (r : List Str) : Option Str :=
  match meth .join (.str "/") (.list (strsD r)) with
  | some (.str j) => match bin .add (.str "/./") (.str j) with
    | some (.str t) => some t
    | _ => none
  | _ => none
noncomputable def encC (ns : List Str) : Option Str :=
  match meth .join (.str "/") (.list (strsD ns)) with
  | some (.str j) => match bin .add (.str "/") (.str j) with
    | some (.str t) => some t
    | _ => none
  | _ => none
theorem row_facts : ∀ r ∈ allR, ((textC r).bind normC) = some (enc (nm r)) ∧ nm r ∈ allN := by decide +kernel
theorem part_facts : ∀ a ∈ allN, partC (enc a) = some a := by decide +kernel
theorem line_facts : ∀ a ∈ allN, lineGo 6 (enc a) [] = some (lns a) := by decide +kernel
theorem enc_facts : ∀ a ∈ allN, encC a = some (enc a) ∧ a.length ≤ 3 ∧ (enc a).length ≤ 10 := by decide +kernel
theorem take_facts : ∀ a ∈ allN, ∀ k ∈ [0, 1, 2, 3, 4], a.take k ∈ allN := by decide +kernel
theorem order_facts : ∀ a ∈ allN, ∀ i ∈ [0, 1, 2, 3, 4], ∀ j ∈ [0, 1, 2, 3, 4], i ≤ j → leS (enc (a.take i)) (enc (a.take j)) = true := by decide +kernel
end Mine
namespace Mine
noncomputable def cc (a b : List Str) : Nat := (lcpS a b).length
theorem cc_comm (a b : List Str) : cc a b = cc b a := by unfold cc; rw [lcpS_comm]
theorem lcp_take : ∀ (a b : List Str), lcpS a b = a.take (cc a b)
  | [], b => by simp [cc, lcpS]
  | x :: r, [] => by simp [cc, lcpS]
  | x :: r, y :: t => by
    unfold cc
    simp only [lcpS]
    by_cases e : x = y
    · subst e
      simp only [beq_self_eq_true, if_true, List.length_cons, List.take_succ_cons]
      congr 1
      exact lcp_take r t
    · rw [if_neg (by simpa using e)]; simp
theorem lcp_take' (a b : List Str) : lcpS a b = b.take (cc a b) := by rw [lcpS_comm, cc_comm]; exact lcp_take b a
theorem take_eq (a b : List Str) : a.take (cc a b) = b.take (cc a b) := (lcp_take a b).symm.trans (lcp_take' a b)
theorem cc_le (a b : List Str) : cc a b ≤ a.length := by
  have := congrArg List.length (lcp_take a b)
  rw [List.length_take] at this
  unfold cc at this ⊢; omega
theorem cc_le' (a b : List Str) : cc a b ≤ b.length := by rw [cc_comm]; exact cc_le b a
/-- alike as far as k: then k is at most the common length -/
theorem le_cc : ∀ (k : Nat) (a b : List Str), k ≤ a.length → a.take k = b.take k → k ≤ cc a b
  | 0, _, _, _, _ => Nat.zero_le _
  | k + 1, [], b, h, _ => by simp at h
  | k + 1, x :: r, [], _, e => by simp at e
  | k + 1, x :: r, y :: t, h, e => by
    simp only [List.take_succ_cons, List.cons.injEq] at e
    obtain ⟨rfl, e⟩ := e
    have := le_cc k r t (by simpa using h) e
    unfold cc at this ⊢
    simp only [lcpS, beq_self_eq_true, if_true, List.length_cons]
    omega
theorem take_le {a b : List Str} {k : Nat} (h : k ≤ cc a b) : a.take k = b.take k := by
  have e := congrArg (List.take k) (take_eq a b)
  rw [List.take_take, List.take_take, Nat.min_eq_left h] at e
  exact e
theorem cc_self (a : List Str) : cc a a = a.length := Nat.le_antisymm (cc_le a a) (le_cc _ a a (Nat.le_refl _) rfl)
theorem ultra (x y z : List Str) : min (cc x y) (cc y z) ≤ cc x z := by
  refine le_cc _ x z (Nat.le_trans (Nat.min_le_left _ _) (cc_le x y)) ?_
  rw [take_le (a := x) (b := y) (Nat.min_le_left _ _), take_le (a := y) (b := z) (Nat.min_le_right _ _)]
theorem cc_take {a b : List Str} {k : Nat} (h : k ≤ a.length) : cc (a.take k) b = min k (cc a b) := by
  apply Nat.le_antisymm
  · have h1 : cc (a.take k) b ≤ k := by have := cc_le (a.take k) b; rw [List.length_take] at this; omega
    refine Nat.le_min.mpr ⟨h1, le_cc _ a b (Nat.le_trans h1 h) ?_⟩
    have := take_eq (a.take k) b
    rwa [List.take_take, Nat.min_eq_left h1] at this
  · refine le_cc _ (a.take k) b (by rw [List.length_take]; omega) ?_
    rw [List.take_take, Nat.min_eq_left (Nat.min_le_left _ _)]
    exact take_le (Nat.min_le_right _ _)
theorem isos_nat {a b c : Nat} (h1 : min a c ≤ b) (h2 : min b c ≤ a) (h3 : min a b ≤ c) : (a = b ∧ a ≤ c) ∨ (a = c ∧ a ≤ b) ∨ (b = c ∧ b ≤ a) := by
  rcases Nat.le_total a b with h | h
  · rw [Nat.min_eq_left h] at h3
    rcases Nat.le_total b c with k | k
    · rw [Nat.min_eq_left k] at h2; exact .inl ⟨Nat.le_antisymm h h2, h3⟩
    · rw [Nat.min_eq_right k] at h2; exact .inr (.inl ⟨Nat.le_antisymm h3 h2, h⟩)
  · rw [Nat.min_eq_right h] at h3
    rcases Nat.le_total a c with k | k
    · rw [Nat.min_eq_left k] at h1; exact .inl ⟨Nat.le_antisymm h1 h, Nat.le_trans h1 h3⟩
    · rw [Nat.min_eq_right k] at h1; exact .inr (.inr ⟨Nat.le_antisymm h3 h1, h⟩)
theorem isos (x y z : List Str) : (cc x y = cc x z ∧ cc x y ≤ cc y z) ∨ (cc x y = cc y z ∧ cc x y ≤ cc x z) ∨ (cc x z = cc y z ∧ cc x z ≤ cc x y) := by
  have h2 := ultra x z y
  have h3 := ultra y x z
  rw [cc_comm z y] at h2
  rw [cc_comm y x] at h3
  exact isos_nat (ultra x y z) h2 h3
theorem eq_of_cc {a b : List Str} (h1 : cc a b = a.length) (h2 : cc a b = b.length) : a = b := by
  have := take_eq a b
  rw [List.take_of_length_le (by omega), List.take_of_length_le (by omega)] at this
  exact this
/-- how far two are apart -/
noncomputable def dist (a b : List Str) : Int := (a.length : Int) + b.length - 2 * (cc a b : Int)
theorem dist_comm (a b : List Str) : dist a b = dist b a := by unfold dist; rw [cc_comm]; omega

theorem four_max {ab ac ad bc bd cd : Nat} (h1 : ac ≤ ab) (h2 : ad ≤ ab) (h3 : bc ≤ ab) (h4 : bd ≤ ab) (u1 : min ab bc ≤ ac) (u2 : min ab ac ≤ bc) (u3 : min ab bd ≤ ad) (u4 : min ab ad ≤ bd) (u5 : min ac ad ≤ cd) : ac + bd = ad + bc ∧ ac + bd ≤ ab + cd := by
  rw [Nat.min_eq_right h3] at u1
  rw [Nat.min_eq_right h1] at u2
  rw [Nat.min_eq_right h4] at u3
  rw [Nat.min_eq_right h2] at u4
  have e1 := Nat.le_antisymm u2 u1
  have e2 := Nat.le_antisymm u4 u3
  subst e1; subst e2
  refine ⟨Nat.add_comm _ _, ?_⟩
  rcases Nat.le_total ac ad with h | h
  · rw [Nat.min_eq_left h] at u5
    rw [Nat.add_comm]; exact Nat.add_le_add h2 u5
  · rw [Nat.min_eq_right h] at u5
    exact Nat.add_le_add h1 u5
theorem four_one (a b c d : List Str) (h1 : cc a c ≤ cc a b) (h2 : cc a d ≤ cc a b) (h3 : cc b c ≤ cc a b) (h4 : cc b d ≤ cc a b) : cc a c + cc b d = cc a d + cc b c ∧ cc a c + cc b d ≤ cc a b + cc c d :=
  four_max h1 h2 h3 h4 (ultra a b c) (by have := ultra b a c; rwa [cc_comm b a] at this) (ultra a b d) (by have := ultra b a d; rwa [cc_comm b a] at this) (by have := ultra c a d; rwa [cc_comm c a] at this)
theorem top2 (a b : Nat) : ∃ m, (m = a ∨ m = b) ∧ a ≤ m ∧ b ≤ m :=
  (Nat.le_total a b).elim (fun h => ⟨b, .inr rfl, h, Nat.le_refl b⟩) fun h => ⟨a, .inl rfl, Nat.le_refl a, h⟩
theorem top3 (a b c : Nat) : ∃ m, (m = a ∨ m = b ∨ m = c) ∧ a ≤ m ∧ b ≤ m ∧ c ≤ m :=
  let ⟨x, hx, h1, h2⟩ := top2 b c
  let ⟨m, hm, h3, h4⟩ := top2 a x
  ⟨m, hm.imp id (fun q => by rw [q]; exact hx), h3, Nat.le_trans h1 h4, Nat.le_trans h2 h4⟩
theorem top6 (a b c d e f : Nat) : ∃ m, ((m = a ∨ m = b ∨ m = c) ∨ (m = d ∨ m = e ∨ m = f)) ∧ a ≤ m ∧ b ≤ m ∧ c ≤ m ∧ d ≤ m ∧ e ≤ m ∧ f ≤ m :=
  let ⟨x, hx, h1, h2, h3⟩ := top3 a b c
  let ⟨y, hy, h4, h5, h6⟩ := top3 d e f
  let ⟨m, hm, h7, h8⟩ := top2 x y
  ⟨m, hm.imp (fun q => by rw [q]; exact hx) (fun q => by rw [q]; exact hy), Nat.le_trans h1 h7, Nat.le_trans h2 h7, Nat.le_trans h3 h7, Nat.le_trans h4 h8, Nat.le_trans h5 h8, Nat.le_trans h6 h8⟩
theorem four_cc (a b c d : List Str) : (cc a b + cc c d = cc a c + cc b d ∧ cc a b + cc c d ≤ cc a d + cc b c) ∨ (cc a b + cc c d = cc a d + cc b c ∧ cc a b + cc c d ≤ cc a c + cc b d) ∨ (cc a c + cc b d = cc a d + cc b c ∧ cc a c + cc b d ≤ cc a b + cc c d) := by
  obtain ⟨m, hm, l1, l2, l3, l4, l5, l6⟩ := top6 (cc a b) (cc a c) (cc a d) (cc b c) (cc b d) (cc c d)
  rcases hm with (rfl | rfl | rfl) | (rfl | rfl | rfl)
  · exact .inr (.inr (four_one a b c d l2 l3 l4 l5))
  · have := four_one a c b d l1 l3 (by rwa [cc_comm c b]) (by rwa [cc_comm c d] at *)
    rw [cc_comm c b] at this
    exact .inr (.inl this)
  · have := four_one a d b c l1 l2 (by rwa [cc_comm d b]) (by rwa [cc_comm d c])
    rw [cc_comm d c, cc_comm d b] at this
    exact .inl this
  · have := four_one b c a d (by rwa [cc_comm b a]) l5 (by rwa [cc_comm c a]) l6
    rw [cc_comm b a, cc_comm c a] at this
    exact .inl ⟨by omega, by omega⟩
  · have := four_one b d a c (by rwa [cc_comm b a]) l4 (by rwa [cc_comm d a]) (by rwa [cc_comm d c])
    rw [cc_comm b a, cc_comm d a, cc_comm d c] at this
    exact .inr (.inl ⟨by omega, by omega⟩)
  · have := four_one c d a b (by rwa [cc_comm c a]) (by rwa [cc_comm c b]) (by rwa [cc_comm d a]) (by rwa [cc_comm d b])
    rw [cc_comm c a, cc_comm c b, cc_comm d a, cc_comm d b] at this
    exact .inr (.inr ⟨by omega, by omega⟩)
theorem four (a b c d : List Str) : let s1 := dist a b + dist c d; let s2 := dist a c + dist b d; let s3 := dist a d + dist b c; (s1 = s2 ∧ s3 ≤ s1) ∨ (s1 = s3 ∧ s2 ≤ s1) ∨ (s2 = s3 ∧ s1 ≤ s2) := by
  intro s1 s2 s3
  have f : ∀ {l1 l2 l3 l4 : Int} {p q : Nat}, (l1 + l2 - 2 * (p : Int)) + (l3 + l4 - 2 * (q : Int)) = (l1 + l2 + l3 + l4) - 2 * ((p + q : Nat) : Int) := fun {l1 l2 l3 l4 p q} => by omega
  have e1 : s1 = (a.length + b.length + c.length + d.length : Int) - 2 * ((cc a b + cc c d : Nat) : Int) := f
  have e2 : s2 = (a.length + c.length + b.length + d.length : Int) - 2 * ((cc a c + cc b d : Nat) : Int) := f
  have e3 : s3 = (a.length + d.length + b.length + c.length : Int) - 2 * ((cc a d + cc b c : Nat) : Int) := f
  clear_value s1 s2 s3
  rcases four_cc a b c d with ⟨e, l⟩ | ⟨e, l⟩ | ⟨e, l⟩
  · rw [e] at e1; exact .inl ⟨by omega, by omega⟩
  · rw [e] at e1; exact .inr (.inl ⟨by omega, by omega⟩)
  · rw [e] at e2; exact .inr (.inr ⟨by omega, by omega⟩)
theorem sortI_eq {l l' : List Int} (hp : l'.Perm l) (hs : l'.Pairwise (· ≤ ·)) : sortI l = l' := (sortI_unique hp hs).symm
theorem sortS_eq {l l' : List Str} (hp : l'.Perm l) (hs : l'.Pairwise (leS · ·)) : sortS l = l' :=
  (List.Perm.eq_of_pairwise (fun _ _ _ _ => leS_antisymm) hs (sortS_sorted l) (hp.trans (sortS_perm l).symm)).symm
theorem sums_ok {s1 s2 s3 : Int} (h : (s1 = s2 ∧ s3 ≤ s1) ∨ (s1 = s3 ∧ s2 ≤ s1) ∨ (s2 = s3 ∧ s1 ≤ s2)) : ∃ m M, sortI [s1, s2, s3] = [m, M, M] := by
  rcases h with ⟨rfl, h⟩ | ⟨rfl, h⟩ | ⟨rfl, h⟩
  · refine ⟨s3, s1, sortI_eq ?_ (by simp [h])⟩
    exact ((List.Perm.swap s1 s3 [s1]).trans ((List.Perm.swap s1 s3 []).cons s1))
  · refine ⟨s2, s1, sortI_eq ?_ (by simp [h])⟩
    exact List.Perm.swap s1 s2 [s1]
  · exact ⟨s1, s2, sortI_eq (.refl _) (by simp [h])⟩

theorem enc_inj {a b : List Str} (ha : a ∈ allN) (hb : b ∈ allN) (h : enc a = enc b) : a = b := by
  have h1 := part_facts a ha
  have h2 := part_facts b hb
  rw [h, h2] at h1
  exact (Option.some.inj h1).symm
theorem take_mem {a : List Str} (ha : a ∈ allN) (k : Nat) : a.take k ∈ allN := by
  have hl := (enc_facts a ha).2.1
  by_cases h : k ≤ 4
  · exact take_facts a ha k (by have : k = 0 ∨ k = 1 ∨ k = 2 ∨ k = 3 ∨ k = 4 := by omega
                                simp; omega)
  · rw [List.take_of_length_le (by omega)]; exact ha
theorem order_ok {a : List Str} (ha : a ∈ allN) {i j : Nat} (h : i ≤ j) : leS (enc (a.take i)) (enc (a.take j)) = true := by
  have hl := (enc_facts a ha).2.1
  have cut : ∀ k, a.take k = a.take (min k 4) := fun k => by
    by_cases hk : k ≤ 4
    · rw [Nat.min_eq_left hk]
    · rw [List.take_of_length_le (by omega), List.take_of_length_le (by omega)]
  rw [cut i, cut j]
  exact order_facts a ha (min i 4) (by simp; omega) (min j 4) (by simp; omega) (by omega)

/-! the lines' difference -/
theorem strLt_total {x y : Str} (h : x ≠ y) (h' : strLt x y = false) : strLt y x = true := by
  cases e : strLt y x with
  | true => rfl
  | false => exact absurd (leS_antisymm (x := x) (y := y) (by unfold leS; rw [e]; rfl) (by unfold leS; rw [h']; rfl)) h
theorem sld_same (x : Str) (es as M U : List Str) : sldGo (x :: es) (x :: as) M U = sldGo es as M U := by
  rw [sldGo, if_neg (by rw [strLt_irrefl]; exact Bool.false_ne_true), if_neg (by rw [strLt_irrefl]; exact Bool.false_ne_true)]
theorem sld_pre : ∀ (p es as M U : List Str), sldGo (p ++ es) (p ++ as) M U = sldGo es as M U
  | [], _, _, _, _ => rfl
  | x :: p, es, as, M, U => by rw [List.cons_append, List.cons_append, sld_same]; exact sld_pre p es as M U
theorem sld_len : ∀ (n : Nat) (es as M U : List Str), es.length + as.length ≤ n → (∀ x ∈ es, ∀ y ∈ as, x ≠ y) → (sldGo es as M U).1.length = M.length + es.length ∧ (sldGo es as M U).2.length = U.length + as.length
  | _, [], as, M, U, _, _ => by rw [sldGo]; simp
  | _, e :: es, [], M, U, _, _ => by rw [sldGo]; simp
  | 0, e :: es, a :: as, M, U, h, _ => by simp at h
  | n + 1, e :: es, a :: as, M, U, h, hd => by
    simp only [List.length_cons] at h
    rw [sldGo]
    split
    · obtain ⟨h1, h2⟩ := sld_len n es (a :: as) (M ++ [e]) U (by simp only [List.length_cons]; omega) (fun x hx y hy => hd x (.tail _ hx) y hy)
      simp only [List.length_append, List.length_cons, List.length_nil] at h1 h2 ⊢
      omega
    · rename_i hlt
      rw [if_pos (strLt_total (hd e (.head _) a (.head _)) (by simpa using hlt))]
      obtain ⟨h1, h2⟩ := sld_len n (e :: es) as M (U ++ [a]) (by simp only [List.length_cons]; omega) (fun x hx y hy => hd x hx y (.tail _ hy))
      simp only [List.length_append, List.length_cons, List.length_nil] at h1 h2 ⊢
      omega
theorem lns_split (a : List Str) (m : Nat) (h : m ≤ a.length) : lns a = (List.range (m + 1)).map (fun k => enc (a.take k)) ++ (List.range (a.length - m)).map (fun k => enc (a.take (m + 1 + k))) := by
  unfold lns
  rw [show a.length + 1 = (m + 1) + (a.length - m) by omega, List.range_add, List.map_append, List.map_map]
  rfl
theorem far_len {a b : List Str} (ha : a ∈ allN) (hb : b ∈ allN) : (sldGo (lns a) (lns b) [] []).1.length = a.length - cc a b ∧ (sldGo (lns a) (lns b) [] []).2.length = b.length - cc a b := by
  have e1 := lns_split a (cc a b) (cc_le a b)
  have e2 := lns_split b (cc a b) (cc_le' a b)
  have e3 : (List.range (cc a b + 1)).map (fun k => enc (b.take k)) = (List.range (cc a b + 1)).map (fun k => enc (a.take k)) := by
    refine List.map_congr_left fun k hk => ?_
    rw [take_le (a := a) (b := b) (k := k) (by have := List.mem_range.mp hk; omega)]
  rw [e1, e2, e3, sld_pre]
  have := sld_len _ ((List.range (a.length - cc a b)).map (fun k => enc (a.take (cc a b + 1 + k)))) ((List.range (b.length - cc a b)).map (fun k => enc (b.take (cc a b + 1 + k)))) [] [] (Nat.le_refl _) (fun x hx y hy => by
    obtain ⟨i, hi, rfl⟩ := List.mem_map.mp hx
    obtain ⟨j, hj, rfl⟩ := List.mem_map.mp hy
    intro e
    have e' := enc_inj (take_mem ha _) (take_mem hb _) e
    have hi' := List.mem_range.mp hi
    have hj' := List.mem_range.mp hj
    have el := congrArg List.length e'
    rw [List.length_take, List.length_take] at el
    have hij : i = j := by omega
    subst hij
    have := le_cc _ a b (by omega) e'
    omega)
  simpa using this
theorem far_dist {a b : List Str} (ha : a ∈ allN) (hb : b ∈ allN) : ((sldGo (lns a) (lns b) [] []).1.length : Int) + ((sldGo (lns a) (lns b) [] []).2.length : Int) = dist a b := by
  obtain ⟨h1, h2⟩ := far_len ha hb
  have := cc_le a b; have := cc_le' a b
  rw [h1, h2]; unfold dist; omega
theorem apart_of : ∀ l : List Str, l.Nodup → apartS l = true
  | [], _ => rfl
  | [_], _ => rfl
  | x :: y :: r, h => by
    obtain ⟨h1, h2⟩ := List.nodup_cons.mp h
    simp only [apartS, Bool.and_eq_true, Bool.not_eq_true', beq_eq_false_iff_ne]
    exact ⟨fun e => h1 (e ▸ .head _), apart_of _ h2⟩
theorem lns_nodup {a : List Str} (ha : a ∈ allN) : (lns a).Nodup := by
  unfold lns
  rw [List.Nodup, List.pairwise_map]
  refine List.Pairwise.imp_of_mem (fun {i j} hi hj hlt e => ?_) (List.pairwise_lt_range (n := a.length + 1))
  have hi' := List.mem_range.mp hi; have hj' := List.mem_range.mp hj
  have el := congrArg List.length (enc_inj (take_mem ha _) (take_mem ha _) e)
  rw [List.length_take, List.length_take] at el
  omega
theorem lns_len {a : List Str} (ha : a ∈ allN) : (lns a).length < 50 := by
  have := (enc_facts a ha).2.1
  unfold lns; simp; omega
end Mine
namespace Mine
noncomputable def inits (a : List Str) : List (List Str) := (List.range (a.length + 1)).map fun k => a.take k
theorem lns_eq (a : List Str) : lns a = (inits a).map enc := by unfold lns inits; rw [List.map_map]; rfl
theorem mem_inits {a s : List Str} : s ∈ inits a ↔ ∃ k, k ≤ a.length ∧ s = a.take k := by
  unfold inits
  rw [List.mem_map]
  constructor
  · rintro ⟨k, hk, rfl⟩; exact ⟨k, by have := List.mem_range.mp hk; omega, rfl⟩
  · rintro ⟨k, hk, rfl⟩; exact ⟨k, List.mem_range.mpr (by omega), rfl⟩
theorem inits_mem {a s : List Str} (ha : a ∈ allN) (h : s ∈ inits a) : s ∈ allN := by
  obtain ⟨k, _, rfl⟩ := mem_inits.mp h; exact take_mem ha k
theorem inits_nodup (a : List Str) : (inits a).Nodup := by
  unfold inits
  rw [List.Nodup, List.pairwise_map]
  refine List.Pairwise.imp_of_mem (fun {i j} hi hj hlt e => ?_) (List.pairwise_lt_range (n := a.length + 1))
  have hi' := List.mem_range.mp hi; have hj' := List.mem_range.mp hj
  have el := congrArg List.length e
  rw [List.length_take, List.length_take] at el
  omega
noncomputable def growS (t l : List Str) : List Str := t ++ l.filter fun s => !t.any (· == s)
noncomputable def growN (t : List (List Str)) (a : List Str) : List (List Str) := t ++ (inits a).filter fun s => !decide (s ∈ t)
noncomputable def treeN (N : List (List Str)) : List (List Str) := N.foldl growN []
theorem any_enc {t : List (List Str)} {s : List Str} (ht : ∀ u ∈ t, u ∈ allN) (hs : s ∈ allN) : (t.map enc).any (· == enc s) = decide (s ∈ t) := by
  rw [Bool.eq_iff_iff, List.any_eq_true, decide_eq_true_eq]
  constructor
  · rintro ⟨x, hx, e⟩
    obtain ⟨u, hu, rfl⟩ := List.mem_map.mp hx
    rw [enc_inj hs (ht u hu) (beq_iff_eq.mp e).symm]; exact hu
  · intro h; exact ⟨enc s, List.mem_map.mpr ⟨s, h, rfl⟩, by simp⟩
theorem grow_eq {t : List (List Str)} {a : List Str} (ht : ∀ u ∈ t, u ∈ allN) (ha : a ∈ allN) : growS (t.map enc) (lns a) = (growN t a).map enc := by
  unfold growS growN
  rw [lns_eq, List.map_append, List.filter_map]
  congr 2
  refine List.filter_congr fun s hs => ?_
  show (!(t.map enc).any (· == enc s)) = _
  rw [any_enc ht (inits_mem ha hs)]
theorem grow_mem {t : List (List Str)} {a s : List Str} : s ∈ growN t a ↔ s ∈ t ∨ s ∈ inits a := by
  unfold growN
  rw [List.mem_append, List.mem_filter]
  constructor
  · rintro (h | h)
    · exact .inl h
    · exact .inr h.1
  · rintro (h | h)
    · exact .inl h
    · by_cases e : s ∈ t
      · exact .inl e
      · exact .inr ⟨h, by simp [e]⟩
theorem grow_all {t : List (List Str)} {a : List Str} (ht : ∀ u ∈ t, u ∈ allN) (ha : a ∈ allN) : ∀ u ∈ growN t a, u ∈ allN := fun u hu => (grow_mem.mp hu).elim (ht u) (inits_mem ha)
theorem grow_nodup {t : List (List Str)} {a : List Str} (h : t.Nodup) : (growN t a).Nodup := by
  unfold growN
  refine List.nodup_append.mpr ⟨h, (inits_nodup a).filter _, fun x hx y hy e => ?_⟩
  have := (List.mem_filter.mp hy).2
  rw [← e] at this
  simp [hx] at this
theorem grow_len {t : List (List Str)} {a : List Str} (ha : a ∈ allN) : (growN t a).length ≤ t.length + 4 := by
  unfold growN
  have h1 := List.length_filter_le (fun s => !decide (s ∈ t)) (inits a)
  have h2 : (inits a).length = a.length + 1 := by unfold inits; simp
  have h3 := (enc_facts a ha).2.1
  rw [List.length_append]; omega
structure TreeOk (N T : List (List Str)) : Prop where
  all : ∀ u ∈ T, u ∈ allN
  nodup : T.Nodup
  has : ∀ a ∈ N, ∀ s ∈ inits a, s ∈ T
  only : ∀ s ∈ T, ∃ a ∈ N, s ∈ inits a
theorem fold_has : ∀ (N : List (List Str)) (t : List (List Str)) (s : List Str), s ∈ N.foldl growN t ↔ s ∈ t ∨ ∃ a ∈ N, s ∈ inits a
  | [], t, s => by simp
  | a :: N, t, s => by
    rw [List.foldl_cons, fold_has N (growN t a) s, grow_mem]
    simp only [List.mem_cons, exists_eq_or_imp, or_assoc]
theorem fold_all : ∀ (N : List (List Str)) (t : List (List Str)), (∀ a ∈ N, a ∈ allN) → (∀ u ∈ t, u ∈ allN) → ∀ u ∈ N.foldl growN t, u ∈ allN
  | [], t, _, ht => ht
  | a :: N, t, hN, ht => fold_all N _ (fun b hb => hN b (.tail _ hb)) (grow_all ht (hN a (.head _)))
theorem fold_nodup : ∀ (N : List (List Str)) (t : List (List Str)), t.Nodup → (N.foldl growN t).Nodup
  | [], t, h => h
  | a :: N, t, h => fold_nodup N _ (grow_nodup h)
theorem fold_len : ∀ (N : List (List Str)) (t : List (List Str)), (∀ a ∈ N, a ∈ allN) → (N.foldl growN t).length ≤ t.length + 4 * N.length
  | [], t, _ => by simp
  | a :: N, t, h => by
    have h1 := fold_len N (growN t a) (fun b hb => h b (.tail _ hb))
    have h2 := grow_len (t := t) (h a (.head _))
    rw [List.foldl_cons, List.length_cons]; omega
theorem treeOk {N : List (List Str)} (hN : ∀ a ∈ N, a ∈ allN) : TreeOk N (treeN N) :=
  ⟨fold_all N [] hN (fun _ h => nomatch h), fold_nodup N [] .nil, fun a ha s hs => (fold_has N [] s).mpr (.inr ⟨a, ha, hs⟩), fun s hs => ((fold_has N [] s).mp hs).resolve_left (fun h => nomatch h)⟩

/-! the median -/
noncomputable def Mid (x y z s : List Str) : Prop := dist s x + dist s y = dist x y ∧ dist s x + dist s z = dist x z ∧ dist s y + dist s z = dist y z
noncomputable def midB (x y z s : List Str) : Bool := (dist s x + dist s y == dist x y) && ((dist s x + dist s z == dist x z) && (dist s y + dist s z == dist y z))
theorem midB_iff {x y z s : List Str} : midB x y z s = true ↔ Mid x y z s := by simp [midB, Mid]
theorem med {x y z : List Str} (h1 : cc x z = cc y z) (h2 : cc x z ≤ cc x y) (s : List Str) : Mid x y z s ↔ s = x.take (cc x y) := by
  have hM := cc_le x y
  constructor
  · rintro ⟨e1, e2, e3⟩
    unfold dist at e1 e2 e3
    have a1 := cc_le s x; have a2 := cc_le s y
    have u := ultra x s y
    rw [cc_comm x s] at u
    have ex : cc s x = s.length := by omega
    have el : s.length = cc x y := by omega
    have := take_eq s x
    rw [ex, List.take_of_length_le (Nat.le_refl _), el] at this
    exact this
  · rintro rfl
    have c1 : cc (x.take (cc x y)) x = cc x y := by rw [cc_take hM, cc_self]; omega
    have c2 : cc (x.take (cc x y)) y = cc x y := by rw [cc_take hM]; omega
    have c3 : cc (x.take (cc x y)) z = cc x z := by rw [cc_take hM]; omega
    have cl : (x.take (cc x y)).length = cc x y := by rw [List.length_take]; omega
    refine ⟨?_, ?_, ?_⟩ <;> unfold dist <;> rw [cl] <;> omega
/-- what is said of three places -/
structure MedOk (x y z L : List Str) (m : Nat) : Prop where
  sorted : sortS [enc (lcpS x y), enc (lcpS x z), enc (lcpS y z)] = [enc (L.take m), enc (L.take m), enc L]
  le : m ≤ L.length
  mem : L ∈ allN
  on : L ∈ inits x ∨ L ∈ inits y
  iff : ∀ s, Mid x y z s ↔ s = L
theorem pair_sorted {L : List Str} (hL : L ∈ allN) (m : Nat) : [enc (L.take m), enc (L.take m), enc L].Pairwise (leS · ·) := by
  have h1 : leS (enc (L.take m)) (enc (L.take m)) = true := order_ok hL (Nat.le_refl m)
  have h2 : leS (enc (L.take m)) (enc L) = true := by
    by_cases hm : m ≤ L.length
    · have := order_ok hL hm; rwa [List.take_of_length_le (Nat.le_refl _)] at this
    · rw [List.take_of_length_le (by omega)]
      have := order_ok hL (Nat.le_refl L.length); rwa [List.take_of_length_le (Nat.le_refl _)] at this
  simp [h1, h2]
theorem median {x y z : List Str} (hx : x ∈ allN) (hy : y ∈ allN) : ∃ L m, MedOk x y z L m := by
  rcases isos x y z with ⟨h1, h2⟩ | ⟨h1, h2⟩ | ⟨h1, h2⟩
  · -- y and z part last
    have hL := take_mem hy (cc y z)
    have eS : lcpS x y = (y.take (cc y z)).take (cc x y) := by rw [lcp_take', List.take_take, Nat.min_eq_left h2]
    have eS' : lcpS x z = (y.take (cc y z)).take (cc x y) := by rw [lcp_take, ← h1, take_le (Nat.le_refl _), List.take_take, Nat.min_eq_left h2]
    refine ⟨y.take (cc y z), cc x y, ?_, by rw [List.length_take]; have := cc_le y z; omega, hL, .inr (mem_inits.mpr ⟨_, cc_le y z, rfl⟩), fun s => ?_⟩
    · rw [eS, eS', lcp_take y z]
      exact sortS_eq (.refl _) (pair_sorted hL _)
    · rw [← med (x := y) (y := z) (z := x) (by rw [cc_comm y x, cc_comm z x]; exact h1) (by rw [cc_comm y x]; exact h2) s]
      unfold Mid
      rw [dist_comm y x, dist_comm z x]
      constructor
      · rintro ⟨a, b, c⟩; exact ⟨c, by omega, by omega⟩
      · rintro ⟨a, b, c⟩; exact ⟨by omega, by omega, a⟩
  · -- x and z part last
    have hL := take_mem hx (cc x z)
    have eS : lcpS x y = (x.take (cc x z)).take (cc x y) := by rw [lcp_take, List.take_take, Nat.min_eq_left h2]
    have eS' : lcpS y z = (x.take (cc x z)).take (cc x y) := by rw [lcp_take, ← h1, ← take_le (a := x) (b := y) (Nat.le_refl _), List.take_take, Nat.min_eq_left h2]
    refine ⟨x.take (cc x z), cc x y, ?_, by rw [List.length_take]; have := cc_le x z; omega, hL, .inl (mem_inits.mpr ⟨_, cc_le x z, rfl⟩), fun s => ?_⟩
    · rw [eS, eS', lcp_take x z]
      exact sortS_eq ((List.Perm.swap _ _ []).cons _) (pair_sorted hL _)
    · rw [← med (x := x) (y := z) (z := y) (by rw [cc_comm z y]; exact h1) h2 s]
      unfold Mid
      rw [dist_comm z y]
      constructor
      · rintro ⟨a, b, c⟩; exact ⟨b, a, by omega⟩
      · rintro ⟨a, b, c⟩; exact ⟨b, a, by omega⟩
  · -- x and y part last
    have hL := take_mem hx (cc x y)
    have eS : lcpS x z = (x.take (cc x y)).take (cc x z) := by rw [lcp_take, List.take_take, Nat.min_eq_left h2]
    have eS' : lcpS y z = (x.take (cc x y)).take (cc x z) := by rw [lcp_take', ← h1, ← take_le (a := x) (b := z) (Nat.le_refl _), List.take_take, Nat.min_eq_left h2]
    refine ⟨x.take (cc x y), cc x z, ?_, by rw [List.length_take]; have := cc_le x y; omega, hL, .inl (mem_inits.mpr ⟨_, cc_le x y, rfl⟩), fun s => med h1 h2 s⟩
    rw [eS, eS', lcp_take x y]
    exact sortS_eq (((List.Perm.swap _ _ []).cons _).trans (List.Perm.swap _ _ [_])) (pair_sorted hL _)
theorem filter_one {T : List (List Str)} {P : List Str → Bool} {L : List Str} (h : T.Nodup) (hL : L ∈ T) (hP : ∀ s, P s = true ↔ s = L) : T.filter P = [L] := by
  induction T with
  | nil => exact nomatch hL
  | cons t T ih =>
    obtain ⟨n1, n2⟩ := List.nodup_cons.mp h
    by_cases e : t = L
    · subst e
      rw [List.filter_cons_of_pos ((hP t).mpr rfl)]
      congr 1
      rw [List.filter_eq_nil_iff]
      intro s hs hp
      rw [(hP s).mp hp] at hs
      exact n1 hs
    · rw [List.filter_cons_of_neg (fun hp => e ((hP t).mp hp))]
      exact ih n2 ((List.mem_cons.mp hL).resolve_left fun z => e z.symm)
end Mine
namespace Mine
section
variable {W : Wd} {n : Nat} {env : Env} {σ σ₁ σ₂ : Sig} {ρ ρx : Rho}
theorem encC_spec {ns : List Str} {t : Str} (h : encC ns = some t) : ∃ j, meth .join (.str "/") (.list (strsD ns)) = some (.str j) ∧ bin .add (.str "/") (.str j) = some (.str t) := by
  unfold encC at h
  split at h
  · rename_i j e1
    split at h
    · rename_i t' e2; cases h; exact ⟨j, e1, e2⟩
    · cases h
  · cases h
theorem textC_spec {ns : List Str} {t : Str} (h : textC ns = some t) : ∃ j, meth .join (.str "/") (.list (strsD ns)) = some (.str j) ∧ bin .add (.str "/./") (.str j) = some (.str t) := by
  unfold textC at h
  split at h
  · rename_i j e1
    split at h
    · rename_i t' e2; cases h; exact ⟨j, e1, e2⟩
    · cases h
  · cases h
theorem partC_spec {p : Str} {cs : List Str} (h : partC p = some cs) : ∃ ps, meth .split (.str p) (.str "/") = some (.list (strsD ps)) ∧ Txt.startswith p "/" = true ∧ (∀ c ∈ ps, c.length ≤ 1000) ∧ ps.length < 1000 ∧ ps.filter goodS = cs := by
  unfold partC at h
  split at h
  · rename_i ds e1
    split at h
    · rename_i ps e2
      split at h
      · rename_i hh; cases h
        refine ⟨ps, by rw [e1, strs_eq e2], hh.1, fun c hc => by simpa using List.all_eq_true.mp hh.2.1 c hc, hh.2.2, rfl⟩
      · cases h
    · cases h
  · cases h
theorem normpath_of {a af as : Addr} (B : Bs W) (F : Dfn W "normpath" a 16) (Ff : Dfn W "fspath" af 9) (Fs : Dfn W "splitroot" as 15) {p r : Str} (h : normC p = some r) : CallOk W (n + 3) a [.str p] (.str r) := by
  unfold normC at h
  split at h
  · rename_i c e1 e2
    split at h
    · rename_i ds e3
      split at h
      · rename_i cs e4
        split at h
        · rename_i hh
          split at h
          · rename_i j e5
            split at h
            · rename_i r' e6
              split at h
              · rename_i e7; cases h
                exact normpath_ok B F Ff Fs e1 e2 (by rw [e3, strs_eq e4]) (fun c hc => by simpa using List.all_eq_true.mp hh.1 c hc) hh.2 e5 e6 e7
              · cases h
            · cases h
          · cases h
        · cases h
      · cases h
    · cases h
  · cases h
/-- the text's defs -/
structure Fns (W : Wd) where
  fs : Addr
  gs : Addr
  sp : Addr
  sr : Addr
  np : Addr
  cp : Addr
  sl : Addr
  nmA : Addr
  li : Addr
  fa : Addr
  fsOk : Dfn W "fspath" fs 9
  gsOk : Dfn W "_get_sep" gs 13
  spOk : Dfn W "split" sp 14
  srOk : Dfn W "splitroot" sr 15
  npOk : Dfn W "normpath" np 16
  cpOk : Dfn W "commonpath" cp 17
  slOk : Dfn W "sorted_list_difference" sl 19
  nmOk : Dfn W "_law_names" nmA 21
  liOk : Dfn W "_law_line" li 22
  faOk : Dfn W "_law_far" fa 23
variable (B : Bs W) (F : Fns W)
include B
theorem c_names {r : List Str} (h : r ∈ allR) : CallOk W (n + 2) F.nmA [.list (strsD r)] (.list (strsD (nm r))) := by
  have : ∃ x y z, r = [x, y, z] := by
    unfold allR at h
    obtain ⟨x, _, h⟩ := List.mem_flatMap.mp h
    obtain ⟨y, _, h⟩ := List.mem_flatMap.mp h
    obtain ⟨z, _, h⟩ := List.mem_map.mp h
    exact ⟨x, y, z, h.symm⟩
  obtain ⟨x, y, z, rfl⟩ := this
  exact names_ok B.base F.nmOk x y z
theorem c_line {a : List Str} (h : a ∈ allN) : CallOk W (n + 3) F.li [.str (enc a)] (.list (strsD (lns a))) := line_ok B F.liOk F.spOk F.fsOk F.gsOk (line_facts a h)
theorem c_far {a b : List Str} (ha : a ∈ allN) (hb : b ∈ allN) : CallOk W (n + 3) F.fa [.list (strsD (lns a)), .list (strsD (lns b))] (.int (dist a b)) := by
  rw [← far_dist ha hb]
  have h1 := far_len ha hb
  have la := (enc_facts a ha).2.1
  have lb := (enc_facts b hb).2.1
  exact far_ok B F.faOk F.slOk (lns_len ha) (lns_len hb) (apart_of _ (lns_nodup ha)) (apart_of _ (lns_nodup hb)) (by omega) (by omega)
omit B in
theorem lcp_mem {a b : List Str} (ha : a ∈ allN) : lcpS a b ∈ allN := by rw [lcp_take]; exact take_mem ha _
theorem c_common {a b : List Str} (ha : a ∈ allN) (hb : b ∈ allN) : CallOk W (n + 9) F.cp [.list [.str (enc a), .str (enc b)]] (.str (enc (lcpS a b))) := by
  obtain ⟨pa, a1, a2, a3, a4, a5⟩ := partC_spec (part_facts a ha)
  obtain ⟨pb, b1, b2, b3, b4, b5⟩ := partC_spec (part_facts b hb)
  obtain ⟨j, j1, j2⟩ := encC_spec (enc_facts _ (lcp_mem (b := b) ha)).1
  exact commonpath_ok B F.cpOk F.fsOk a1 b1 a2 b2 a3 b3 a4 b4 (by rw [a5, b5]; exact j1) j2
end
end Mine
namespace Mine
section
variable {W : Wd} {n : Nat} {env : Env} {σ σ₁ σ₂ : Sig} {ρ ρx : Rho}
noncomputable abbrev lawB : List Stmt := dBody (stAt 24)
noncomputable abbrev lawS (i : Nat) : Stmt := lawB.getD i pass0
theorem slD_any (ds : List D) (b : Nat) : slD ds none (some (b : Int)) none = ds.take b := by
  unfold slD
  rw [sliceBounds_plain]
  simp only [Option.elim_some, Option.elim_none, clipAt_nat]
  rw [show ((0 : Nat) : Int) = ((0 : Nat) : Int) from rfl, sliceRange_one, pickRun]
  rcases Nat.le_total b ds.length with h | h
  · rw [Nat.min_eq_left h]; simp
  · rw [Nat.min_eq_right h, List.take_of_length_le (i := b) h]; simp
theorem slD_ints (xs : List Int) (lo hi st : Option Int) : ∃ ys : List Int, slD (xs.map D.int) lo hi st = ys.map D.int := by
  refine ⟨(sliceRange (sliceBounds lo hi st (xs.map D.int).length).1 (sliceBounds lo hi st (xs.map D.int).length).2.1 (sliceBounds lo hi st (xs.map D.int).length).2.2).filterMap (xs[·]?), ?_⟩
  unfold slD
  rw [List.map_filterMap]
  congr 1
  funext i
  rw [List.getElem?_map]
noncomputable def seedSig (ns xs : List Int) : Sig := [("script", .fz (.list (ns.map D.int))), ("seeds", .own (xs.map D.int))]
theorem seed_turns (B : Bs W) (fe : FEnv env) (hsc : env.scope = dScope (stAt 24)) (ns : List Int) (hn : ns.length ≤ 1000) : ∀ (ks : List Nat) (xs : List Int), xs.length = 4 → (∀ k ∈ ks, k < 4) →
    ∃ xs' : List Int, xs'.length = 4 ∧ Turns W (n + 1) env (forTgt (lawS 1)) (forBody (lawS 1)) (ks.map fun k : Nat => D.int (k : Int)) (seedSig ns xs) .next (seedSig ns xs')
  | [], xs, hx, _ => ⟨xs, hx, .done⟩
  | k :: ks, xs, hx, hk => by
    have hk4 := hk k (.head _)
    obtain ⟨ys, hy⟩ := slD_ints (ns.take 24) (some (k : Int)) none (some 4)
    have e1 : sl (.list (ns.map D.int)) none (some 24) none = some (.list ((ns.take 24).map D.int)) := by
      rw [sl_list (by simp; omega) (by decide)]
      have := slD_any (ns.map D.int) 24
      rw [show ((24 : Nat) : Int) = 24 from rfl] at this
      rw [this, List.map_take]
    have e2 : sl (.list ((ns.take 24).map D.int)) (some (k : Int)) none (some 4) = some (.list (ys.map D.int)) := by
      rw [sl_list (by simp; omega) (by decide), hy]
    have e3 : fn1 .sum (.list (ys.map D.int)) = some (.int (sumI ys)) := by simp only [fn1, ints_map]; rfl
    have hi : (xs.map D.int)[k]? = some (D.int xs[k]) := by simp [hx, hk4]
    obtain ⟨xs', h1, h2⟩ := seed_turns B fe hsc ns hn ks (xs.set k (xs[k] + (if sumI ys < 0 then -sumI ys else sumI ys))) (by simpa using hx) (fun j hj => hk j (.tail _ hj))
    refine ⟨xs', h1, .next (σ₁ := seedSig ns (xs.set k (xs[k] + (if sumI ys < 0 then -sumI ys else sumI ys)))) (Tgt.name fe (sto hsc rfl)) (Ex.cons (Ex.augItem (ds := xs.map D.int) (k := (k : Int)) (i := xs[k]) (s1 := true) (s2 := true) fe rfl rfl (Ev.name fe.ok rfl rfl)
      (Ev.fn1 (f := .abs) B.base fe.ok (kd hsc rfl) B.abs rfl (Ev.fn1 (st := true) (f := .sum) B.base fe.ok (kd hsc rfl) B.sum rfl (Ev.slice (s1 := true) (Ev.slice (Ev.name fe.ok rfl rfl) .none (.some (Ev.int (st := true))) .none e1) (.some (Ev.name fe.ok rfl rfl)) .none (.some (Ev.int (st := true))) e2) e3 (fun _ => Nat.succ_pos _)) rfl) (by omega) (by omega) hi (fun _ _ _ => rfl)) (Ex.to Ex.nil ⟨rfl, ?_, trivial⟩)) h2⟩
    show some (Slot.own ((xs.map D.int).set (Int.toNat (k : Int)) _)) = some (Slot.own ((xs.set k _).map D.int))
    rw [List.map_set]; rfl
end
end Mine
namespace Mine
section
variable {W : Wd} {n : Nat} {env : Env} {σ σ₁ σ₂ : Sig} {ρ ρx : Rho}
/-- a comprehension without tests over a mapped list -/
theorem mapOk {α : Type} {scope : Scope} {x : Str} {elt : Expr} {xs : List α} {g : α → D} {H : D → D} (hl : xs.length ≤ 100000)
    (h : ∀ cenv : Env, cenv.scope = relabel scope env → EnvOk cenv → ∀ a ∈ xs, Ev W n cenv ((x, (g a, true)) :: ρx) elt (H (g a)) true) : CompOk W n env scope x ρx [] elt (xs.map g) (fun d => some (H d)) :=
  ⟨by simpa using hl, fun _ _ _ _ _ => rfl, fun cenv h1 h2 d hd r hr => by
    obtain ⟨a, ha, rfl⟩ := List.mem_map.mp hd
    cases hr
    exact h cenv h1 h2 a ha⟩
theorem mapEq {α : Type} {xs : List α} {g : α → D} {H : D → D} {k : α → D} (h : ∀ a ∈ xs, H (g a) = k a) : (xs.map g).filterMap (fun d => some (H d)) = xs.map k := by
  rw [show (fun d => some (H d)) = some ∘ H from rfl, List.filterMap_eq_map, List.map_map]
  exact List.map_congr_left h
noncomputable def dStr : D → Str
  | .str s => s
  | _ => Str.empty
noncomputable def dInt : D → Int
  | .int i => i
  | _ => 0
noncomputable def dStrs : D → List Str
  | .list ds => (strs? ds).getD []
  | _ => []
theorem dStrs_list (xs : List Str) : dStrs (.list (strsD xs)) = xs := by
  show (strs? (xs.map D.str)).getD [] = xs
  rw [strs_map]; rfl
noncomputable def decP (d : D) : List Str := (partC (dStr d)).getD []
theorem decP_enc {a : List Str} (h : a ∈ allN) : decP (.str (enc a)) = a := by
  show (partC (enc a)).getD [] = a
  rw [part_facts a h]; rfl
noncomputable def decL (d : D) : List Str := (partC ((dStrs d).getLastD Str.empty)).getD []
theorem decL_lns {a : List Str} (h : a ∈ allN) : decL (.list (strsD (lns a))) = a := by
  unfold decL
  rw [dStrs_list]
  have : (lns a).getLastD Str.empty = enc a := by
    unfold lns
    rw [List.range_succ, List.map_append]
    simp
  rw [this, part_facts a h]; rfl
theorem CallOk.le {a : Addr} {ds : List D} {d : D} {k : Nat} (c : CallOk W k a ds d) (h : k ≤ n) : CallOk W n a ds d := fun A lf X s vs ak g r => c A lf X s vs (ak.le h) g r

/-! rows -/
noncomputable def menu (i : Int) : Str := if i = 0 then "a" else if i = 1 then "b" else if i = 2 then "a" else if i = 3 then ".." else "c"
theorem menu_idx {i : Int} (h : 0 ≤ i ∧ i < 5) : idx (.list [.str "a", .str "b", .str "a", .str "..", .str "c"]) (.int i) = some (.str (menu i)) := by
  have : i = 0 ∨ i = 1 ∨ i = 2 ∨ i = 3 ∨ i = 4 := by omega
  rcases this with rfl | rfl | rfl | rfl | rfl <;> rfl
theorem menu_mem (i : Int) : menu i ∈ pieces := by
  unfold menu
  split
  · decide
  split
  · decide
  split
  · decide
  split
  · decide
  · decide
noncomputable def pick5 (x q : Int) : Str := menu ((x.fdiv q).fmod 5)
noncomputable def rowOf (x : Int) : List Str := [pick5 x 1, pick5 x 5, pick5 x 25]
theorem row_mem (x : Int) : rowOf x ∈ allR := by
  unfold allR
  exact List.mem_flatMap.mpr ⟨_, menu_mem _, List.mem_flatMap.mpr ⟨_, menu_mem _, List.mem_map.mpr ⟨_, menu_mem _, rfl⟩⟩⟩
noncomputable def rowF (x : Int) : D → Option D
  | .int k => some (.str (pick5 x (5 ^ k.toNat)))
  | _ => none
theorem row_inner (B : Bs W) {cenv : Env} {x : Int} {b : Bool} {p0 p1 p2 p3 p4 p5 p6 p7 p8 p9 q1 q2 q3 q4 q5 q6 q7 q8 q9 : Pos} {k1 k2 k3 k4 k5 k6 k7 k8 : Nat} (ck : EnvOk cenv)
    (hc : cenv.scope = relN { kind := .function, names := [(".0", .local), ("x", .cell), ("range", .globalImplicit)], isGenerator := false, isCoroutine := false } (dScope (stAt 24))) :
    Ev W (n + 2) cenv [("x", (.int x, true))] (.ListComp (.Subscript (.List [.Constant (.str "a") k1 p1, .Constant (.str "b") k2 p2, .Constant (.str "a") k3 p3, .Constant (.str "..") k4 p4, .Constant (.str "c") k5 p5] p6)
      (.BinOp (.BinOp (.Name "x" p7) .FloorDiv (.BinOp (.Constant (.int 5) k6 p8) .Pow (.Name "k" p9) q1) q2) .Mod (.Constant (.int 5) k7 q3) q4) q5) [⟨.Name "k" q6, .Call (.Name "range" q7) [.Constant (.int 3) k8 q8] [] q9, [], 0⟩]
      { kind := .function, names := [(".0", .local), ("k", .local), ("x", .free)], isGenerator := false, isCoroutine := false } p0) (.list (strsD (rowOf x))) b := by
  have e : (rngD 0 3).filterMap (rowF x) = strsD (rowOf x) := rfl
  rw [← e]
  refine (EvN.comp (rowF x) ck (Sees.of (ρx := [("x", (.int x, true))]) ck hc rfl ⟨rfl, trivial⟩) (Src.range1 (st := true) B.base ck (kd hc rfl) B.range rfl Ev.int (by omega)) ⟨by decide, fun cenv2 hc2 ck2 d hd => ?_, fun cenv2 hc2 ck2 d hd r hr => ?_⟩ fun _ => rfl).ev
  · obtain ⟨i, hi, rfl⟩ := List.mem_map.mp hd; rfl
  · obtain ⟨i, hi, rfl⟩ := List.mem_map.mp hd
    simp only [rowF] at hr
    cases hr
    have hi' : i < 3 := by have := List.mem_range.mp hi; omega
    have hp : bin .pow (.int 5) (.int (0 + (i : Int))) = some (.int (5 ^ (0 + (i : Int)).toNat)) := by
      simp only [bin]; rw [if_pos ⟨by omega, by omega, by decide⟩]
    have hq : (5 : Int) ^ (0 + (i : Int)).toNat = 1 ∨ (5 : Int) ^ (0 + (i : Int)).toNat = 5 ∨ (5 : Int) ^ (0 + (i : Int)).toNat = 25 := by
      have : i = 0 ∨ i = 1 ∨ i = 2 := by omega
      rcases this with rfl | rfl | rfl <;> decide
    generalize (5 : Int) ^ (0 + (i : Int)).toNat = q at hp hq
    have hd' : bin .div (.int x) (.int q) = some (.int (x.fdiv q)) := by simp only [bin]; rw [if_neg (by omega)]
    have hm : bin .mod (.int (x.fdiv q)) (.int 5) = some (.int ((x.fdiv q).fmod 5)) := rfl
    have hf := Int.fmod_nonneg_of_pos (x.fdiv q) (b := 5) (by decide)
    have hf' := Int.fmod_lt_of_pos (x.fdiv q) (b := 5) (by decide)
    exact Ev.flat (st := true) (Ev.sub (s2 := true) (Ev.list (EvL.cons Ev.str (EvL.cons Ev.str (EvL.cons Ev.str (EvL.cons Ev.str (EvL.cons Ev.str EvL.nil rfl) rfl) rfl) rfl) rfl) (by simp))
      (Ev.bin (op := .mod) (s1 := true) (s2 := true) (Ev.bin (op := .div) (s2 := true) (Ev.name ck2 rfl rfl) (Ev.bin (op := .pow) (s1 := true) Ev.int (Ev.name ck2 rfl rfl) hp) hd') Ev.int hm) (menu_idx ⟨hf, hf'⟩)) rfl
end
end Mine
namespace Mine
section
variable {W : Wd} {n : Nat} {env : Env} {σ σ₁ σ₂ : Sig} {ρ ρx : Rho}
theorem swp {e : Expr} {t : Option Expr} {l : Nat} {b : Bool} {sc : Scope} (hsc : env.scope = sc) (h : ∀ env : Env, env.scope = sc → swapsWith e t l env = pure b) : swapsWith e t l env = pure b := h env hsc
theorem EvN.q {e : Expr} {ds : List D} (x : EvN W n env ρ e ds) : EvQ W n env ρ e (.list ds) true := fun A lf X s a R => (x A lf X s a R).mono fun v h' _ ⟨b, vs, e1, e2, e3, e4, e5⟩ =>
  ⟨by rw [Rep_list]; exact ⟨b, vs, e1, e2, e4, e5.sub fun _ q => .tail _ q⟩, fun _ => ⟨b, e1, e3⟩⟩
variable (B : Bs W) (F : Fns W) (fe : FEnv env) (hsc : env.scope = dScope (stAt 24))
include B F fe hsc
theorem st_rows {xs : List Int} (hl : xs.length = 4) (h : σ.lookup ("seeds" : Str) = some (.fz (.list (xs.map D.int)))) :
    Ex W (n + 3) env σ (exec (lawS 2) env) .next (put "rows" (.own (xs.map fun x => D.list (strsD (rowOf x)))) σ) := by
  have e := mapEq (xs := xs) (g := D.int) (H := fun d => .list (strsD (rowOf (dInt d)))) (k := fun x => D.list (strsD (rowOf x))) (fun a _ => rfl)
  rw [← e]
  refine Ex.assignComp (ρx := []) (fun d => some (D.list (strsD (rowOf (dInt d))))) fe (sto hsc rfl) (Sees.of fe.ok hsc rfl trivial) (Src.list (Ev.name fe.ok (rho_of h) rfl)) (mapOk (H := fun d => .list (strsD (rowOf (dInt d)))) (by omega) fun cenv hc ck x _ => ?_) (fun _ => rfl) ?_
  · exact row_inner (n := n + 1) B ck (hc.trans (relabel_eq hsc))
  · obtain ⟨sc, _⟩ := env; simp only at hsc; subst hsc; rfl
theorem st_places {rs : List (List Str)} (hl : rs.length = 4) (hr : ∀ r ∈ rs, r ∈ allR) (h : σ.lookup ("rows" : Str) = some (.fz (.list (rs.map fun r => D.list (strsD r))))) :
    Ex W (n + 3) env σ (exec (lawS 3) env) .next (put "places" (.own (rs.map fun r => D.str (enc (nm r)))) σ) := by
  obtain ⟨fd, Fa⟩ := F.npOk.at
  have e := mapEq (xs := rs) (g := fun r => D.list (strsD r)) (H := fun d => .str (enc (nm (dStrs d)))) (k := fun r => D.str (enc (nm r))) (fun a _ => by rw [dStrs_list])
  rw [← e]
  refine Ex.assignComp (ρx := []) (fun d => some (D.str (enc (nm (dStrs d))))) fe (sto hsc rfl) (Sees.of fe.ok hsc rfl trivial) (Src.list (Ev.name fe.ok (rho_of h) rfl)) (mapOk (H := fun d => .str (enc (nm (dStrs d)))) (by omega) fun cenv hc ck r hrm => ?_) (fun _ => rfl) ?_
  · rw [dStrs_list]
    have hc' := hc.trans (relabel_eq hsc)
    obtain ⟨t, ht, hn⟩ := Option.bind_eq_some_iff.mp (row_facts r (hr r hrm)).1
    obtain ⟨j, j1, j2⟩ := textC_spec ht
    exact Ev.callU B.base ck (kd hc' rfl) rfl Fa rfl (EvL.cons (Ev.bin (op := .add) (s1 := true) Ev.str (Ev.meth (st := true) (m := .join) (fun _ => rfl) rfl rfl (Ev.str (st := true)) (Ev.name ck rfl rfl) j1) j2) EvL.nil rfl) (normpath_of B F.npOk F.fsOk F.srOk hn)
  · obtain ⟨sc, _⟩ := env; simp only at hsc; subst hsc; rfl
theorem st_lines {N : List (List Str)} (hl : N.length = 4) (hN : ∀ a ∈ N, a ∈ allN) (h : σ.lookup ("places" : Str) = some (.fz (.list (N.map fun a => D.str (enc a))))) :
    Ex W (n + 3) env σ (exec (lawS 4) env) .next (put "lines" (.own (N.map fun a => D.list (strsD (lns a)))) σ) := by
  obtain ⟨fd, Fa⟩ := F.liOk.at
  have e := mapEq (xs := N) (g := fun a => D.str (enc a)) (H := fun d => .list (strsD (lns (decP d)))) (k := fun a => D.list (strsD (lns a))) (fun a ha => by rw [decP_enc (hN a ha)])
  rw [← e]
  refine Ex.assignN fe (stoC fe hsc rfl) (EvN.comp (ρx := []) (fun d => some (D.list (strsD (lns (decP d))))) fe.ok (Sees.of fe.ok hsc rfl trivial) (Src.list (Ev.name fe.ok (rho_of h) rfl)) (mapOk (H := fun d => .list (strsD (lns (decP d)))) (by omega) fun cenv hc ck a ha => ?_) (fun _ => rfl)) ?_
  · rw [decP_enc (hN a ha)]
    have hc' := hc.trans (relabel_eq hsc)
    exact Ev.callU B.base ck (kd hc' rfl) rfl Fa rfl (EvL.cons (Ev.name ck rfl rfl) EvL.nil rfl) (c_line B F (hN a ha))
  · obtain ⟨sc, _⟩ := env; simp only at hsc; subst hsc; rfl
theorem st_names {rs : List (List Str)} (hl : rs.length = 4) (hr : ∀ r ∈ rs, r ∈ allR) (h : σ.lookup ("rows" : Str) = some (.fz (.list (rs.map fun r => D.list (strsD r))))) :
    Ex W (n + 3) env σ (exec (lawS 9) env) .next (put "names" (.own (rs.map fun r => D.list (strsD (nm r)))) σ) := by
  obtain ⟨fd, Fa⟩ := F.nmOk.at
  have e := mapEq (xs := rs) (g := fun r => D.list (strsD r)) (H := fun d => .list (strsD (nm (dStrs d)))) (k := fun r => D.list (strsD (nm r))) (fun a _ => by rw [dStrs_list])
  rw [← e]
  refine Ex.assignComp (ρx := []) (fun d => some (D.list (strsD (nm (dStrs d))))) fe (sto hsc rfl) (Sees.of fe.ok hsc rfl trivial) (Src.list (Ev.name fe.ok (rho_of h) rfl)) (mapOk (H := fun d => .list (strsD (nm (dStrs d)))) (by omega) fun cenv hc ck r hrm => ?_) (fun _ => rfl) ?_
  · rw [dStrs_list]
    have hc' := hc.trans (relabel_eq hsc)
    exact Ev.callU B.base ck (kd hc' rfl) rfl Fa rfl (EvL.cons (Ev.name ck rfl rfl) EvL.nil rfl) ((c_names (n := n) B F (hr r hrm)).le (by omega))
  · obtain ⟨sc, _⟩ := env; simp only at hsc; subst hsc; rfl
theorem st_common : Ex W (n + 3) env σ (exec (lawS 10) env) .next (put "common" (.grid (List.replicate 4 (List.replicate 4 (.str "")))) σ) := by
  refine Ex.gridNew (ρx := []) (ds := rngD 0 4) (fun _ => some (.list (List.replicate 4 (.str "")))) fe (sto hsc rfl) (Sees.of fe.ok hsc rfl trivial) (Src.range1 (st := true) B.base fe.ok (kd hsc rfl) B.range rfl Ev.int (by omega)) ⟨by decide, fun _ _ _ _ _ => rfl, fun cenv _ ck d _ r hr => ?_⟩ (fun cenv _ ck d _ r hr => ?_) rfl (fun es he d hd => ?_) (fun _ => rfl) ?_
  · cases hr; exact Ev.list (EvL.cons Ev.str (EvL.cons Ev.str (EvL.cons Ev.str (EvL.cons Ev.str EvL.nil rfl) rfl) rfl) rfl) (by simp)
  · cases hr
    exact (EvN.list (EvL.cons Ev.str (EvL.cons Ev.str (EvL.cons Ev.str (EvL.cons Ev.str EvL.nil rfl) rfl) rfl) rfl) (by simp)).q
  · rw [List.eq_of_mem_replicate he] at hd
    rw [List.eq_of_mem_replicate hd]; rfl
  · obtain ⟨sc, _⟩ := env; simp only at hsc; subst hsc; rfl
end
end Mine
namespace Mine
section
variable {W : Wd} {n : Nat} {env : Env} {σ σ₁ σ₂ : Sig} {ρ ρx : Rho}
noncomputable def linesD (N : List (List Str)) : D := .list (N.map fun a => D.list (strsD (lns a)))
noncomputable def placesD (N : List (List Str)) : D := .list (N.map fun a => D.str (enc a))
noncomputable def rowD (N : List (List Str)) (t : List Str) : D := .list (N.map fun a => D.int (dist t a))
noncomputable def treeD (T : List (List Str)) : List D := strsD (T.map enc)
noncomputable def farD (N T : List (List Str)) : D := .list (T.map (rowD N))
noncomputable def apartD (N : List (List Str)) : D := .list (N.map (rowD N))
noncomputable def namesD (N : List (List Str)) : D := .list (N.map fun a => D.list (strsD a))
noncomputable def sigA (R : D) (N t : List (List Str)) : Sig := [("rows", .fz R), ("places", .fz (placesD N)), ("lines", .fz (linesD N)), ("tree", .own (treeD t))]
theorem treeF (ts : List Str) : ∀ xs : List Str, (strsD xs).filterMap (fun d => match d with | .str s => if ts.any (· == s) = true then none else some (D.str s) | _ => none) = strsD (xs.filter fun s => !ts.any (· == s))
  | [] => rfl
  | x :: r => by
    show List.filterMap _ (D.str x :: strsD r) = _
    cases h : ts.any (· == x) with
    | true =>
      rw [List.filterMap_cons_none (by simp only [h, if_true]), List.filter_cons_of_neg (by rw [h]; decide)]
      exact treeF ts r
    | false =>
      rw [List.filterMap_cons_some (b := D.str x) (by simp only [h, Bool.false_eq_true, if_false]), List.filter_cons_of_pos (by rw [h]; rfl)]
      exact congrArg (D.str x :: ·) (treeF ts r)
theorem idx_nat {ds : List D} {j : Nat} {d : D} (h : ds[j]? = some d) (hj : j < 100000) : idx (.list ds) (.int (j : Int)) = some d := by
  simp only [idx]
  rw [if_pos ⟨by omega, by omega⟩]
  simpa using h
theorem tree_turns (fe : FEnv env) (hsc : env.scope = dScope (stAt 24)) (R : D) (N : List (List Str)) : ∀ (M t : List (List Str)), (∀ a ∈ M, a ∈ allN) → (∀ u ∈ t, u ∈ allN) → t.length + 4 * M.length ≤ 1000 →
    Turns W (n + 2) env (forTgt (lawS 6)) (forBody (lawS 6)) (M.map fun a => D.list (strsD (lns a))) (sigA R N t) .next (sigA R N (M.foldl growN t))
  | [], t, _, _, _ => .done
  | a :: M, t, hM, ht, hl => by
    have ha := hM a (.head _)
    have gl := grow_len (t := t) ha
    simp only [List.length_cons] at hl
    have l1 : (lns a).length < 50 := lns_len ha
    have e : treeD t ++ (strsD (lns a)).filterMap (fun d => match d with | .str s => if (t.map enc).any (· == s) = true then none else some (D.str s) | _ => none) = treeD (growN t a) := by
      rw [treeF]
      unfold treeD
      rw [← grow_eq ht ha, growS]
      simp [strsD]
    have fl : ((strsD (lns a)).filterMap (fun d => match d with | .str s => if (t.map enc).any (· == s) = true then none else some (D.str s) | _ => none)).length ≤ 50 := by
      have := List.length_filterMap_le (fun d => match d with | .str s => if (t.map enc).any (· == s) = true then none else some (D.str s) | _ => none) (strsD (lns a))
      simp only [strsD, List.length_map] at this ⊢; omega
    refine .next (σ₁ := sigA R N (growN t a)) (Tgt.name fe (sto hsc rfl)) (Ex.cons (Ex.augList (ds := treeD t) fe (stoC fe hsc rfl) rfl (EvN.comp (ρx := [("tree", (.list (treeD t), false))]) (fun d => match d with | .str s => if (t.map enc).any (· == s) = true then none else some (D.str s) | _ => none) fe.ok (Sees.of fe.ok hsc rfl ⟨rfl, trivial⟩) (Src.list (Ev.name fe.ok rfl rfl)) ⟨by simp; omega, fun cenv hc ck d hd => ?_, fun cenv hc ck d hd r hr => ?_⟩ (fun _ => rfl)).ev ?_) (Ex.to Ex.nil ⟨rfl, rfl, rfl, ?_, trivial⟩)) (tree_turns fe hsc R N M (growN t a) (fun b hb => hM b (.tail _ hb)) (grow_all ht ha) (by omega))
    · obtain ⟨s, _, rfl⟩ := List.mem_map.mp hd
      have hc : cmp .nin (.str s) (.list (treeD t)) = some (!(t.map enc).any (· == s)) := by
        show (strs? (treeD t)).map (fun ys => !ys.any (· == s)) = _
        rw [treeD, strs_map]; rfl
      have eb : (if (t.map enc).any (· == s) = true then none else some (D.str s)).isSome = !(t.map enc).any (· == s) := by cases (t.map enc).any (· == s) <;> rfl
      show Tr W (n + 2) cenv (("spot", (D.str s, true)) :: [("tree", (.list (treeD t), false))]) _ (if (t.map enc).any (· == s) = true then none else some (D.str s)).isSome
      rw [eb]
      exact Tr.cmp (op := .nin) (s1 := true) (Ev.name ck rfl rfl) (Ev.name ck rfl rfl) hc rfl
    · obtain ⟨s, _, rfl⟩ := List.mem_map.mp hd
      dsimp only at hr
      split at hr
      · cases hr
      · cases hr; exact Ev.name ck rfl rfl
    · simp only [treeD, strsD, List.length_map] at fl ⊢; omega
    · show some (Slot.own _) = some (Slot.own _)
      rw [e]
variable (B : Bs W) (F : Fns W) (fe : FEnv env) (hsc : env.scope = dScope (stAt 24))
include B F fe hsc
omit fe hsc in
theorem far_inner {cenv : Env} {N : List (List Str)} {t : List Str} {b : Bool} {p0 p1 p2 p3 p4 q1 q2 q3 q4 : Pos} (hl : N.length = 4) (hN : ∀ a ∈ N, a ∈ allN) (ht : t ∈ allN) (ck : EnvOk cenv)
    (hc : cenv.scope = relN { kind := .function, names := [(".0", .local), ("spot", .cell), ("lines", .free)], isGenerator := false, isCoroutine := false } (dScope (stAt 24))) :
    Ev W (n + 3) cenv (("spot", (.str (enc t), true)) :: [("lines", (linesD N, true))]) (.ListComp (.Call (.Name "_law_far" p1) [.Call (.Name "_law_line" p2) [.Name "spot" p3] [] q1, .Name "line" p4] [] q2) [⟨.Name "line" q3, .Name "lines" q4, [], 0⟩]
      { kind := .function, names := [(".0", .local), ("line", .local), ("_law_far", .globalImplicit), ("_law_line", .globalImplicit), ("spot", .free)], isGenerator := false, isCoroutine := false } p0) (rowD N t) b := by
  obtain ⟨fd, Fa⟩ := F.liOk.at
  obtain ⟨fd2, Fa2⟩ := F.faOk.at
  have e := mapEq (xs := N) (g := fun a => D.list (strsD (lns a))) (H := fun d => .int (dist t (decL d))) (k := fun a => D.int (dist t a)) (fun a ha => by rw [decL_lns (hN a ha)])
  unfold rowD
  rw [← e]
  refine (EvN.comp (ρx := [("spot", (.str (enc t), true))]) (fun d => some (D.int (dist t (decL d)))) ck (Sees.of ck hc rfl ⟨rfl, trivial⟩) (Src.list (Ev.name ck rfl rfl)) (mapOk (H := fun d => .int (dist t (decL d))) (by omega) fun cenv2 hc2 ck2 a ha => ?_) fun _ => rfl).ev
  rw [decL_lns (hN a ha)]
  have hc2' := hc2.trans (relabel_eq hc)
  refine Ev.callU B.base ck2 (kd hc2' rfl) rfl Fa2 rfl (EvL.cons ?_ (EvL.cons (Ev.name ck2 rfl rfl) EvL.nil rfl) rfl) (c_far B F ht (hN a ha))
  exact Ev.callU B.base ck2 (kd hc2' rfl) rfl Fa rfl (EvL.cons (Ev.name ck2 rfl rfl) EvL.nil rfl) (c_line B F ht)
theorem st_far {N T : List (List Str)} (hl : N.length = 4) (hN : ∀ a ∈ N, a ∈ allN) (lT : T.length ≤ 1000) (hT : ∀ a ∈ T, a ∈ allN) (h1 : σ.lookup ("lines" : Str) = some (.fz (linesD N))) (h2 : σ.lookup ("tree" : Str) = some (.fz (.list (treeD T)))) :
    Ex W (n + 3) env σ (exec (lawS 7) env) .next (put "far" (.own (T.map (rowD N))) σ) := by
  have et : treeD T = T.map fun t => D.str (enc t) := by unfold treeD strsD; rw [List.map_map]; rfl
  rw [et] at h2
  have e := mapEq (xs := T) (g := fun t => D.str (enc t)) (H := fun d => rowD N (decP d)) (k := rowD N) (fun a ha => by rw [decP_enc (hT a ha)])
  rw [← e]
  refine Ex.assignN fe (stoC fe hsc rfl) (EvN.comp (ρx := [("lines", (linesD N, true))]) (fun d => some (rowD N (decP d))) fe.ok (Sees.of fe.ok hsc rfl ⟨rho_of h1, trivial⟩) (Src.list (Ev.name fe.ok (rho_of h2) rfl)) (mapOk (H := fun d => rowD N (decP d)) (by omega) fun cenv hc ck t ht => ?_) (fun _ => rfl)) ?_
  · rw [decP_enc (hT t ht)]
    exact far_inner B F hl hN (hT t ht) ck (hc.trans (relabel_eq hsc))
  · obtain ⟨sc, _⟩ := env; simp only at hsc; subst hsc; rfl
omit B F fe hsc in
theorem idx_enc {a : List Str} (ha : a ∈ allN) : ∀ (T : List (List Str)), (∀ t ∈ T, t ∈ allN) → a ∈ T → ∃ j : Nat, idxS (enc a) (T.map enc) = some j ∧ T[j]? = some a
  | [], _, h => nomatch h
  | t :: T, hT, h => by
    simp only [List.map_cons, idxS]
    by_cases e : t = a
    · subst e; exact ⟨0, by simp, rfl⟩
    · have : (enc t == enc a) = false := by
        rw [beq_eq_false_iff_ne]; exact fun z => e (enc_inj (hT t (.head _)) ha z)
      rw [this]
      obtain ⟨j, h1, h2⟩ := idx_enc ha T (fun u hu => hT u (.tail _ hu)) ((List.mem_cons.mp h).resolve_left fun z => e z.symm)
      exact ⟨j + 1, by rw [if_neg Bool.false_ne_true, h1]; rfl, by simpa using h2⟩
theorem st_apart {N T : List (List Str)} (hl : N.length = 4) (hN : ∀ a ∈ N, a ∈ allN) (lT : T.length ≤ 1000) (hT : ∀ a ∈ T, a ∈ allN) (hNT : ∀ a ∈ N, a ∈ T) (h1 : σ.lookup ("places" : Str) = some (.fz (placesD N))) (h2 : σ.lookup ("tree" : Str) = some (.fz (.list (treeD T)))) (h3 : σ.lookup ("far" : Str) = some (.fz (farD N T))) :
    Ex W (n + 3) env σ (exec (lawS 8) env) .next (put "apart" (.own (N.map (rowD N))) σ) := by
  have e := mapEq (xs := N) (g := fun t => D.str (enc t)) (H := fun d => rowD N (decP d)) (k := rowD N) (fun a ha => by rw [decP_enc (hN a ha)])
  rw [← e]
  refine Ex.assignComp (ρx := [("far", (farD N T, true)), ("tree", (.list (treeD T), true))]) (fun d => some (rowD N (decP d))) fe (sto hsc rfl) (Sees.of fe.ok hsc rfl ⟨rho_of h3, rho_of h2, trivial⟩) (Src.list (Ev.name fe.ok (rho_of h1) rfl)) (mapOk (H := fun d => rowD N (decP d)) (by omega) fun cenv hc ck a ha => ?_) (fun _ => rfl) ?_
  · rw [decP_enc (hN a ha)]
    obtain ⟨j, j1, j2⟩ := idx_enc (hN a ha) T hT (hNT a ha)
    have hj : j < T.length := (List.getElem?_eq_some_iff.mp j2).1
    have m1 : meth .index (.list (treeD T)) (.str (enc a)) = some (.int (j : Int)) := by
      show (strs? (treeD T)).bind (fun ys => if ys.length ≤ 100000 then (idxS (enc a) ys).map (fun j : Nat => D.int (j : Int)) else none) = _
      rw [treeD, strs_map]
      show (if (T.map enc).length ≤ 100000 then (idxS (enc a) (T.map enc)).map (fun j : Nat => D.int (j : Int)) else none) = _
      rw [if_pos (by simp; omega), j1]; rfl
    have m2 : idx (farD N T) (.int (j : Int)) = some (rowD N a) := idx_nat (by rw [List.getElem?_map, j2]; rfl) (by omega)
    exact Ev.sub (s2 := true) (Ev.name ck rfl rfl) (Ev.meth (m := .index) (s1 := true) (s2 := true) (fun _ => rfl) rfl rfl (Ev.name ck rfl rfl) (Ev.name ck rfl rfl) m1) m2
  · obtain ⟨sc, _⟩ := env; simp only at hsc; subst hsc; rfl
end
end Mine
namespace Mine
section
variable {W : Wd} {n : Nat} {env : Env} {σ σ₁ σ₂ : Sig} {ρ ρx : Rho}
noncomputable abbrev lawG (N T : List (List Str)) (G : List (List D)) (rest : Sig) : Sig :=
  ("places", .fz (placesD N)) :: ("lines", .fz (linesD N)) :: ("tree", .fz (.list (treeD T))) :: ("far", .fz (farD N T)) :: ("apart", .fz (apartD N)) :: ("names", .fz (namesD N)) :: ("common", .grid G) :: rest
noncomputable abbrev inI : Stmt := (forBody (lawS 11)).getD 0 pass0
noncomputable abbrev inB : List Stmt := forBody inI
theorem cmpL_eq (x y : List Str) : cmp .eq (.list (strsD x)) (.list (strsD y)) = some (x == y) := by
  show (strs? (x.map D.str)).bind (fun xs => (strs? (y.map D.str)).map fun ys => xs == ys) = _
  rw [strs_map, strs_map]; rfl
theorem cmpL_ne (x y : List Str) : cmp .ne (.list (strsD x)) (.list (strsD y)) = some (x != y) := by
  show (strs? (x.map D.str)).bind (fun xs => (strs? (y.map D.str)).map fun ys => xs != ys) = _
  rw [strs_map, strs_map]; rfl
theorem names_at {N : List (List Str)} {a : List Str} {i : Nat} (h : N[i]? = some a) (hi : i < 1000) : idx (namesD N) (.int (i : Int)) = some (.list (strsD a)) := idx_nat (by rw [List.getElem?_map, h]; rfl) (by omega)
theorem sl_one {a : List Str} {k : Nat} (ha : a.length ≤ 1000) : sl (.list (strsD a)) (some (k : Int)) (some ((k : Int) + 1)) none = some (.list (strsD ((a.drop k).take 1))) := by
  rw [sl_list (by simp; omega) (by decide)]
  have := slD_two (ds := strsD a) k (k + 1)
  rw [show ((k + 1 : Nat) : Int) = (k : Int) + 1 from rfl] at this
  rw [this]
  simp [strsD, List.map_drop, List.map_take]
noncomputable abbrev sigW (N T : List (List Str)) (G : List (List D)) (i j s : Nat) : Sig := lawG N T G [("i", .fz (.int (i : Int))), ("j", .fz (.int (j : Int))), ("same", .fz (.int (s : Int)))]
theorem same_whl (fe : FEnv env) (hsc : env.scope = dScope (stAt 24)) {N T : List (List Str)} {G : List (List D)} {i j : Nat} {a b : List Str} (hi : i < 4) (hj : j < 4) (ha : N[i]? = some a) (hb : N[j]? = some b) (la : a.length ≤ 1000) (lb : b.length ≤ 1000) :
    ∀ (k s : Nat) (r1 r2 : List Str), a.drop s = r1 → b.drop s = r2 → r1.length ≤ k → Whl W (n + 1) env (whTest (inB.getD 1 pass0)) (whBody (inB.getD 1 pass0)) k (sigW N T G i j s) .next (sigW N T G i j (s + cc r1 r2)) := by
  have e1 := names_at (N := N) ha (by omega)
  have e2 := names_at (N := N) hb (by omega)
  have l1 : ∀ {p1 p2 p3 p4 p5 p6 p7 p8 p9 : Pos} (s : Nat), Ev W (n + 1) env (rho (sigW N T G i j s)) _ (.list (strsD ((a.drop s).take 1))) true := fun {p1 p2 p3 p4 p5 p6 p7 p8 p9} s =>
    Ev.slice (v := .Subscript (.Name "names" p1) (.Name "i" p2) p3) (lo := some (.Name "same" p4)) (hi := some (.BinOp (.Name "same" p5) .Add (.Constant (.int 1) 0 p6) p7)) (p := p8) (pos := p9) (s1 := true) (Ev.sub (s2 := true) (Ev.name fe.ok rfl rfl) (Ev.name fe.ok rfl rfl) e1) (.some (st := true) (Ev.name fe.ok rfl rfl)) (.some (st := true) (Ev.bin (op := .add) (s1 := true) (s2 := true) (Ev.name fe.ok rfl rfl) Ev.int rfl)) .none (sl_one la)
  have l2 : ∀ {p1 p2 p3 p4 p5 p6 p7 p8 p9 : Pos} (s : Nat), Ev W (n + 1) env (rho (sigW N T G i j s)) _ (.list (strsD ((b.drop s).take 1))) true := fun {p1 p2 p3 p4 p5 p6 p7 p8 p9} s =>
    Ev.slice (v := .Subscript (.Name "names" p1) (.Name "j" p2) p3) (lo := some (.Name "same" p4)) (hi := some (.BinOp (.Name "same" p5) .Add (.Constant (.int 1) 0 p6) p7)) (p := p8) (pos := p9) (s1 := true) (Ev.sub (s2 := true) (Ev.name fe.ok rfl rfl) (Ev.name fe.ok rfl rfl) e2) (.some (st := true) (Ev.name fe.ok rfl rfl)) (.some (st := true) (Ev.bin (op := .add) (s1 := true) (s2 := true) (Ev.name fe.ok rfl rfl) Ev.int rfl)) .none (sl_one lb)
  have no : ∀ s : Nat, ((a.drop s).take 1 == (b.drop s).take 1) = false → Tr W (n + 1) env (rho (sigW N T G i j s)) (whTest (inB.getD 1 pass0)) false := fun s h =>
    Tr.chainF (o1 := .eq) (o2 := .ne) (l1 s) (l2 s) ((cmpL_eq _ _).trans (congrArg some h)) rfl
  have ye : ∀ s : Nat, ((a.drop s).take 1 == (b.drop s).take 1) = true → Tr W (n + 1) env (rho (sigW N T G i j s)) (whTest (inB.getD 1 pass0)) ((b.drop s).take 1 != []) := fun s h =>
    Tr.chainT (o1 := .eq) (o2 := .ne) (s3 := true) (d3 := .list (strsD [])) (l1 s) (l2 s) (Ev.list EvL.nil (by simp)) ((cmpL_eq _ _).trans (congrArg some h)) (cmpL_ne _ _) rfl
  have stay : ∀ (k s : Nat) (r1 r2 : List Str), cc r1 r2 = 0 → Tr W (n + 1) env (rho (sigW N T G i j s)) (whTest (inB.getD 1 pass0)) false → Whl W (n + 1) env (whTest (inB.getD 1 pass0)) (whBody (inB.getD 1 pass0)) k (sigW N T G i j s) .next (sigW N T G i j (s + cc r1 r2)) := fun k s r1 r2 hz t => by
    rw [hz]; exact .done t
  intro k
  induction k with
  | zero =>
    intro s r1 r2 d1 d2 hk
    have : r1 = [] := List.length_eq_zero_iff.mp (by omega)
    subst this
    refine stay _ s _ _ (by simp [cc, lcpS]) ?_
    cases r2 with
    | nil => have := ye s (by rw [d1, d2]; rfl); rw [d2] at this; exact this
    | cons y t => exact no s (by rw [d1, d2]; rfl)
  | succ k ih =>
    intro s r1 r2 d1 d2 hk
    cases r1 with
    | nil =>
      refine stay _ s _ _ (by simp [cc, lcpS]) ?_
      cases r2 with
      | nil => have := ye s (by rw [d1, d2]; rfl); rw [d2] at this; exact this
      | cons y t => exact no s (by rw [d1, d2]; rfl)
    | cons x r =>
      cases r2 with
      | nil => exact stay _ s _ _ (by simp [cc, lcpS]) (no s (by rw [d1, d2]; rfl))
      | cons y t =>
        cases h : x == y with
        | false => exact stay _ s _ _ (by simp [cc, lcpS, h]) (no s (by rw [d1, d2]; simpa using h))
        | true =>
          have tt := ye s (by rw [d1, d2]; simpa using h)
          rw [d2] at tt
          have d1' : a.drop (s + 1) = r := by rw [← List.drop_drop, d1]; rfl
          have d2' : b.drop (s + 1) = t := by rw [← List.drop_drop, d2]; rfl
          have w := ih (s + 1) r t d1' d2' (by simpa using hk)
          have e : s + cc (x :: r) (y :: t) = s + 1 + cc r t := by
            simp only [cc, lcpS, h, if_true, List.length_cons]; omega
          rw [e]
          refine .next tt (Ex.cons (Ex.augInt (op := .add) (.inl rfl) fe (sto hsc rfl) rfl (Ev.int (st := true))) (Ex.to Ex.nil ?_)) w
          exact ⟨rfl, rfl, rfl, rfl, rfl, rfl, rfl, rfl, rfl, rfl, trivial⟩
end
end Mine
namespace Mine
section
variable {W : Wd} {n : Nat} {env : Env} {σ σ₁ σ₂ : Sig} {ρ ρx : Rho}
noncomputable abbrev sigI (N T : List (List Str)) (G : List (List D)) (i : Nat) : Sig := lawG N T G [("i", .fz (.int (i : Int)))]
noncomputable abbrev sigJ (N T : List (List Str)) (G : List (List D)) (i j : Nat) : Sig := lawG N T G [("i", .fz (.int (i : Int))), ("j", .fz (.int (j : Int)))]
theorem cmp_neS (x : Str) : Mine.cmp .ne (.str x) (.str x) = some false := by
  show some (x != x) = some false
  simp
theorem cmp_neI {x y : Int} (h : x = y) : Mine.cmp .ne (.int x) (.int y) = some false := by
  subst h
  show some (x != x) = some false
  simp
theorem sl_to {a : List Str} {k : Nat} (ha : a.length ≤ 1000) : sl (.list (strsD a)) none (some (k : Int)) none = some (.list (strsD (a.take k))) := by
  rw [sl_list (by simp; omega) (by decide), slD_any]
  simp [strsD, List.map_take]
theorem lens {a : List Str} (ha : a.length ≤ 1000) : fn1 .len (.list (strsD a)) = some (.int (a.length : Int)) := by
  simp only [fn1]
  rw [if_pos (by simp [strsD]; omega)]
  simp [strsD]
theorem row_at {N : List (List Str)} {t b : List Str} {j : Nat} (h : N[j]? = some b) (hj : j < 1000) : idx (rowD N t) (.int (j : Int)) = some (.int (dist t b)) := idx_nat (by rw [List.getElem?_map, h]; rfl) (by omega)
theorem apart_at {N : List (List Str)} {a : List Str} {i : Nat} (h : N[i]? = some a) (hi : i < 1000) : idx (apartD N) (.int (i : Int)) = some (rowD N a) := idx_nat (by rw [List.getElem?_map, h]; rfl) (by omega)
theorem places_at {N : List (List Str)} {a : List Str} {i : Nat} (h : N[i]? = some a) (hi : i < 1000) : idx (placesD N) (.int (i : Int)) = some (.str (enc a)) := idx_nat (by rw [List.getElem?_map, h]; rfl) (by omega)
theorem lines_at {N : List (List Str)} {a : List Str} {i : Nat} (h : N[i]? = some a) (hi : i < 1000) : idx (linesD N) (.int (i : Int)) = some (.list (strsD (lns a))) := idx_nat (by rw [List.getElem?_map, h]; rfl) (by omega)
theorem line_at {a : List Str} {k : Nat} (h : k ≤ a.length) (hk : k < 100000) : idx (.list (strsD (lns a))) (.int (k : Int)) = some (.str (enc (a.take k))) := idx_nat (by
  unfold lns strsD
  rw [List.map_map, List.getElem?_map, List.getElem?_range (by omega)]; rfl) (by omega)
theorem grid_at {G : List (List D)} {row : List D} {i : Nat} (h : G[i]? = some row) (hi : i < 1000) : idx (.list (G.map D.list)) (.int (i : Int)) = some (.list row) := idx_nat (by rw [List.getElem?_map, h]; rfl) (by omega)
theorem pair (B : Bs W) (F : Fns W) (fe : FEnv env) (hsc : env.scope = dScope (stAt 24)) {N T : List (List Str)} {G : List (List D)} {row : List D} {i j : Nat} {a b : List Str} (hi : i < 4) (hj : j < 4) (ha : N[i]? = some a) (hb : N[j]? = some b) (am : a ∈ allN) (bm : b ∈ allN)
    (hG : G[i]? = some row) (hr : j < row.length) : Ex W (n + 9) env (sigJ N T G i j) (execs inB env) .next (sigI N T (G.set i (row.set j (.str (enc (lcpS a b))))) i) := by
  have la : a.length ≤ 1000 := by have := lns_len am; unfold lns at this; simp at this; omega
  have lb : b.length ≤ 1000 := by have := lns_len bm; unfold lns at this; simp at this; omega
  have c1 := cc_le a b
  have w := same_whl (W := W) (n := n + 8) (G := G) (T := T) fe hsc hi hj ha hb la lb a.length 0 a b rfl rfl (Nat.le_refl _)
  rw [Nat.zero_add] at w
  obtain ⟨jn, j1, j2⟩ := encC_spec (enc_facts _ (take_mem am (cc a b))).1
  obtain ⟨fd, Fa⟩ := F.cpOk.at
  generalize hc : cc a b = c at *
  have eG : (G.set i (row.set j (.str (enc (a.take c)))))[i]? = some (row.set j (.str (enc (a.take c)))) := by
    rw [List.getElem?_set]; simp; exact (List.getElem?_eq_some_iff.mp hG).1
  have eR : (row.set j (D.str (enc (a.take c))))[j]? = some (.str (enc (a.take c))) := by
    rw [List.getElem?_set]; simp; exact hr
  have hl : lcpS a b = a.take c := by rw [lcp_take, hc]
  have hd : dist a b = (a.length : Int) + b.length - 2 * (c : Int) := by unfold dist; rw [hc]
  rw [hl]
  refine Ex.cons ((Ex.assign fe (sto hsc rfl) Ev.int rfl).to (σ₁ := sigW N T G i j 0) ⟨rfl, rfl, rfl, rfl, rfl, rfl, rfl, rfl, rfl, rfl, trivial⟩) (Ex.cons (Ex.while w) (Ex.cons ((Ex.gridSet (i := (i : Int)) (j := (j : Int)) (dss := G) (ds := row) (d := .str (enc (a.take c))) (s1 := true) (s2 := true) fe rfl rfl ?_ (Ev.name fe.ok rfl rfl) (Ev.name fe.ok rfl rfl) (by omega) (by omega) (by omega) (by omega) (by simpa using hG) (by simpa using hr) ?_).to (σ₁ := sigW N T (G.set i (row.set j (.str (enc (a.take c))))) i j c) ⟨rfl, rfl, rfl, rfl, rfl, rfl, ?_, rfl, rfl, rfl, trivial⟩) (Ex.cons (Ex.ifF (Tr.boolop (TrA.or_on ?_ (TrA.or_on ?_ TrA.or_nil))) Ex.nil) (Ex.cons (Ex.ifF (Tr.boolop (TrA.or_on ?_ (TrA.or_on ?_ TrA.or_nil))) Ex.nil) (Ex.to Ex.nil ⟨rfl, rfl, rfl, rfl, rfl, rfl, rfl, rfl, trivial⟩)))))
  · have k := c_common (n := n) B F am bm
    rw [hl] at k
    exact Ev.callU B.base fe.ok (kd hsc rfl) rfl Fa rfl (EvL.cons (Ev.list (EvL.cons (Ev.sub (s1 := true) (s2 := true) (Ev.name fe.ok rfl rfl) (Ev.name fe.ok rfl rfl) (places_at ha (by omega))) (EvL.cons (Ev.sub (s1 := true) (s2 := true) (Ev.name fe.ok rfl rfl) (Ev.name fe.ok rfl rfl) (places_at hb (by omega))) EvL.nil rfl) rfl) (by simp)) EvL.nil rfl) k
  · obtain ⟨sc, _⟩ := env; simp only at hsc; subst hsc; rfl
  · rfl
  · exact Tr.cmp (op := .ne) (s1 := false) (s2 := true) (Ev.sub (s2 := true) (Ev.sub (s2 := true) (Ev.name fe.ok rfl rfl) (Ev.name fe.ok rfl rfl) (grid_at eG (by omega))) (Ev.name fe.ok rfl rfl) (idx_nat eR (by omega))) (Ev.bin (op := .add) (s1 := true) Ev.str (Ev.meth (st := true) (m := .join) (fun _ => rfl) rfl rfl (Ev.str (st := true)) (Ev.slice (s1 := true) (Ev.sub (s2 := true) (Ev.name fe.ok rfl rfl) (Ev.name fe.ok rfl rfl) (names_at ha (by omega))) .none (.some (st := true) (Ev.name fe.ok rfl rfl)) .none (sl_to la)) j1) j2) (cmp_neS _) rfl
  · exact Tr.cmp (op := .ne) (s1 := false) (s2 := true) (Ev.sub (s2 := true) (Ev.sub (s2 := true) (Ev.name fe.ok rfl rfl) (Ev.name fe.ok rfl rfl) (grid_at eG (by omega))) (Ev.name fe.ok rfl rfl) (idx_nat eR (by omega))) (Ev.sub (s1 := true) (s2 := true) (Ev.sub (s2 := true) (Ev.name fe.ok rfl rfl) (Ev.name fe.ok rfl rfl) (lines_at ha (by omega))) (Ev.name fe.ok rfl rfl) (line_at c1 (by omega))) (cmp_neS _) rfl
  · exact Tr.cmp (op := .ne) (s1 := true) (s2 := true) (Ev.sub (s1 := true) (s2 := true) (Ev.sub (s2 := true) (Ev.name fe.ok rfl rfl) (Ev.name fe.ok rfl rfl) (apart_at ha (by omega))) (Ev.name fe.ok rfl rfl) (row_at hb (by omega))) (Ev.bin (op := .sub) (s1 := true) (s2 := true) (Ev.bin (op := .add) (s1 := true) (s2 := true) (Ev.fn1 (s1 := true) (f := .len) B.base fe.ok (kd hsc rfl) B.len rfl (Ev.sub (s2 := true) (Ev.name fe.ok rfl rfl) (Ev.name fe.ok rfl rfl) (names_at ha (by omega))) (lens la)) (Ev.fn1 (s1 := true) (f := .len) B.base fe.ok (kd hsc rfl) B.len rfl (Ev.sub (s2 := true) (Ev.name fe.ok rfl rfl) (Ev.name fe.ok rfl rfl) (names_at hb (by omega))) (lens lb)) rfl) (Ev.bin (op := .mul) (s1 := true) (s2 := true) Ev.int (Ev.name fe.ok rfl rfl) rfl) rfl) (cmp_neI hd) rfl
  · exact Tr.cmp (op := .ne) (s1 := true) (s2 := true) (Ev.sub (s1 := true) (s2 := true) (Ev.sub (s2 := true) (Ev.name fe.ok rfl rfl) (Ev.name fe.ok rfl rfl) (apart_at hb (by omega))) (Ev.name fe.ok rfl rfl) (row_at ha (by omega))) (Ev.sub (s1 := true) (s2 := true) (Ev.sub (s2 := true) (Ev.name fe.ok rfl rfl) (Ev.name fe.ok rfl rfl) (apart_at ha (by omega))) (Ev.name fe.ok rfl rfl) (row_at hb (by omega))) (cmp_neI (dist_comm b a)) rfl
end
end Mine
namespace Mine
section
variable {W : Wd} {n : Nat} {env : Env} {σ σ₁ σ₂ : Sig} {ρ ρx : Rho}
noncomputable def Sh (G : List (List D)) : Prop := G.length = 4 ∧ ∀ r ∈ G, r.length = 4
noncomputable def fill1 (N : List (List Str)) (i : Nat) (G : List (List D)) (j : Nat) : List (List D) := G.set i ((G.getD i []).set j (.str (enc (lcpS (N.getD i []) (N.getD j [])))))
noncomputable def fillR (N : List (List Str)) (i : Nat) (js : List Nat) (G : List (List D)) : List (List D) := js.foldl (fill1 N i) G
noncomputable def jsOf (i : Nat) : List Nat := (List.range (3 - i)).map (i + 1 + ·)
noncomputable def fillN (N : List (List Str)) (is : List Nat) (G : List (List D)) : List (List D) := is.foldl (fun G i => fillR N i (jsOf i) G) G
theorem Sh.fill1 {N : List (List Str)} {i j : Nat} {G : List (List D)} (h : Sh G) (hi : i < 4) : Sh (fill1 N i G j) := by
  obtain ⟨h1, h2⟩ := h
  refine ⟨by simpa [Mine.fill1] using h1, fun r hr => ?_⟩
  rcases List.mem_or_eq_of_mem_set hr with h | h
  · exact h2 r h
  · rw [h, List.length_set]
    have e : G[i]? = some G[i] := List.getElem?_eq_getElem (by omega)
    rw [List.getD_eq_getElem?_getD, e]
    exact h2 _ (List.getElem_mem _)
theorem Sh.fillR {N : List (List Str)} {i : Nat} (hi : i < 4) : ∀ {js : List Nat} {G : List (List D)}, Sh G → Sh (fillR N i js G)
  | [], _, h => h
  | j :: js, G, h => Sh.fillR hi (js := js) (h.fill1 (j := j) hi)
theorem inner_turns (B : Bs W) (F : Fns W) (fe : FEnv env) (hsc : env.scope = dScope (stAt 24)) {N T : List (List Str)} {i : Nat} (hi : i < 4) (hN : N.length = 4) (hm : ∀ a ∈ N, a ∈ allN) : ∀ (js : List Nat) (G : List (List D)), Sh G → (∀ j ∈ js, j < 4) →
    Turns W (n + 9) env (forTgt inI) (forBody inI) (js.map fun j : Nat => D.int (j : Int)) (sigI N T G i) .next (sigI N T (fillR N i js G) i)
  | [], G, _, _ => .done
  | j :: js, G, h, hj => by
    have hj4 := hj j (.head _)
    have ea : N[i]? = some (N.getD i []) := by rw [List.getD_eq_getElem?_getD, List.getElem?_eq_getElem (by omega)]; rfl
    have eb : N[j]? = some (N.getD j []) := by rw [List.getD_eq_getElem?_getD, List.getElem?_eq_getElem (by omega)]; rfl
    have eg : G[i]? = some (G.getD i []) := by rw [List.getD_eq_getElem?_getD, List.getElem?_eq_getElem (by have := h.1; omega)]; rfl
    refine .next (σ₁ := sigI N T (fill1 N i G j) i) (Tgt.name fe (sto hsc rfl)) (Ex.pre (σ₁ := sigJ N T G i j) (pair B F fe hsc hi hj4 ea eb (hm _ (List.mem_of_getElem? ea)) (hm _ (List.mem_of_getElem? eb)) eg (by rw [h.2 _ (List.mem_of_getElem? eg)]; exact hj4)) ⟨rfl, rfl, rfl, rfl, rfl, rfl, rfl, rfl, rfl, trivial⟩) (inner_turns B F fe hsc hi hN hm js _ (h.fill1 hi) fun k hk => hj k (.tail _ hk))
theorem jsOf_eq {i : Nat} (hi : i < 4) : rngD ((i : Int) + 1) (4 - ((i : Int) + 1)).toNat = (jsOf i).map fun j : Nat => D.int (j : Int) := by
  have : (4 - ((i : Int) + 1)).toNat = 3 - i := by omega
  rw [this]
  unfold rngD jsOf
  rw [List.map_map]
  refine List.map_congr_left fun k _ => ?_
  simp
theorem outer_turns (B : Bs W) (F : Fns W) (fe : FEnv env) (hsc : env.scope = dScope (stAt 24)) {N T : List (List Str)} (hN : N.length = 4) (hm : ∀ a ∈ N, a ∈ allN) : ∀ (is : List Nat) (G : List (List D)), Sh G → (∀ i ∈ is, i < 4) →
    Turns W (n + 9) env (forTgt (lawS 11)) (forBody (lawS 11)) (is.map fun j : Nat => D.int (j : Int)) (lawG N T G []) .next (lawG N T (fillN N is G) [])
  | [], G, _, _ => .done
  | i :: is, G, h, hi => by
    have hi4 := hi i (.head _)
    have t := inner_turns (n := n) B F fe hsc (T := T) hi4 hN hm (jsOf i) G h (fun j hj => by
      obtain ⟨k, hk, rfl⟩ := List.mem_map.mp hj
      have := List.mem_range.mp hk; omega)
    rw [← jsOf_eq hi4] at t
    refine .next (σ₁ := lawG N T (fillR N i (jsOf i) G) []) (Tgt.name fe (sto hsc rfl)) (Ex.pre (σ₁ := sigI N T G i) (Ex.cons (Ex.for (Src.range2 (st := true) (st' := true) B.base fe.ok (kd hsc rfl) B.range rfl (Ev.bin (op := .add) (s1 := true) (s2 := true) (Ev.name fe.ok rfl rfl) Ev.int rfl) Ev.int (by omega)) t (fun _ => rfl)) (Ex.to Ex.nil ⟨rfl, rfl, rfl, rfl, rfl, rfl, rfl, trivial⟩)) ⟨rfl, rfl, rfl, rfl, rfl, rfl, rfl, rfl, trivial⟩) (outer_turns B F fe hsc hN hm is _ (h.fillR hi4) fun k hk => hi k (.tail _ hk))
noncomputable abbrev gr0 : List (List D) := List.replicate 4 (List.replicate 4 (.str ""))
noncomputable def lcpD (a b : List Str) : D := .str (enc (lcpS a b))
noncomputable def gridD (a b c d : List Str) : List (List D) := [[.str "", lcpD a b, lcpD a c, lcpD a d], [.str "", .str "", lcpD b c, lcpD b d], [.str "", .str "", .str "", lcpD c d], [.str "", .str "", .str "", .str ""]]
theorem fill_all (a b c d : List Str) : fillN [a, b, c, d] [0, 1, 2, 3] gr0 = gridD a b c d := rfl
theorem st_loops (B : Bs W) (F : Fns W) (fe : FEnv env) (hsc : env.scope = dScope (stAt 24)) {a b c d : List Str} {T : List (List Str)} (hm : ∀ x ∈ [a, b, c, d], x ∈ allN) :
    Ex W (n + 9) env (lawG [a, b, c, d] T gr0 []) (exec (lawS 11) env) .next (lawG [a, b, c, d] T (gridD a b c d) []) := by
  have t := outer_turns (n := n) B F fe hsc (T := T) rfl hm [0, 1, 2, 3] gr0 ⟨rfl, fun r hr => by rw [List.eq_of_mem_replicate hr]; rfl⟩ (fun i hi => by simp at hi; omega)
  rw [fill_all] at t
  exact Ex.for (Src.range1 (st := true) B.base fe.ok (kd hsc rfl) B.range rfl Ev.int (by omega)) t (fun _ => rfl)
end
end Mine
namespace Mine
section
variable {W : Wd} {n : Nat} {env : Env} {σ σ₁ σ₂ : Sig} {ρ ρx : Rho}
theorem sorted_int (xs : List Int) (h : xs.length < 64) : fn1 .sorted (.list (xs.map D.int)) = some (.list ((sortI xs).map D.int)) := by
  simp only [fn1, ints_map]; rw [if_pos h]
theorem sorted_str (x : Str) (xs : List Str) (h : (x :: xs).length < 64) : fn1 .sorted (.list (strsD (x :: xs))) = some (.list (strsD (sortS (x :: xs)))) := by
  have e : ints? (strsD (x :: xs)) = none := rfl
  simp only [fn1, e]
  rw [show strs? (strsD (x :: xs)) = some (x :: xs) from strs_map _]
  show (if (x :: xs).length < 64 then _ else _) = _
  rw [if_pos h]
theorem st_sums (B : Bs W) (fe : FEnv env) (hsc : env.scope = dScope (stAt 24)) {a b c d : List Str} {T : List (List Str)} {G : List (List D)} {rest : List Stmt} {fl : Fl}
    (y : Ex W (n + 1) env (lawG [a, b, c, d] T G []) (execs rest env) fl σ₁) : Ex W (n + 1) env (lawG [a, b, c, d] T G []) (execs (lawS 12 :: lawS 13 :: rest) env) fl σ₁ := by
  obtain ⟨m, M, hs⟩ := sums_ok (four a b c d)
  have at2 : ∀ {i j : Nat} {p1 p2 p3 p4 p5 : Pos} {x y : List Str} (hi : [a, b, c, d][i]? = some x) (hj : [a, b, c, d][j]? = some y), Ev W (n + 1) env (rho (lawG [a, b, c, d] T G [])) (.Subscript (.Subscript (.Name "apart" p1) (.Constant (.int (i : Int)) 0 p2) p3) (.Constant (.int (j : Int)) 0 p4) p5) (.int (dist x y)) true := fun {i j p1 p2 p3 p4 p5 x y} hi hj => by
    have li : i < 4 := (List.getElem?_eq_some_iff.mp hi).1
    have lj : j < 4 := (List.getElem?_eq_some_iff.mp hj).1
    exact Ev.sub (s1 := true) (s2 := true) (Ev.sub (s1 := true) (s2 := true) (Ev.name fe.ok rfl rfl) Ev.int (apart_at hi (by omega))) Ev.int (row_at hj (by omega))
  have e1 : fn1 .sorted (.list ([dist a b + dist c d, dist a c + dist b d, dist a d + dist b c].map D.int)) = some (.list ([m, M, M].map D.int)) := by rw [sorted_int _ (by simp), hs]
  refine Ex.cons ((Ex.assign (d := .list ([m, M, M].map D.int)) fe (sto hsc rfl) (Ev.fn1 (s1 := true) (f := .sorted) B.base fe.ok (kd hsc rfl) B.sorted rfl (Ev.list (EvL.cons (Ev.bin (op := .add) (s1 := true) (s2 := true) (at2 (i := 0) (j := 1) rfl rfl) (at2 (i := 2) (j := 3) rfl rfl) rfl) (EvL.cons (Ev.bin (op := .add) (s1 := true) (s2 := true) (at2 (i := 0) (j := 2) rfl rfl) (at2 (i := 1) (j := 3) rfl rfl) rfl) (EvL.cons (Ev.bin (op := .add) (s1 := true) (s2 := true) (at2 (i := 0) (j := 3) rfl rfl) (at2 (i := 1) (j := 2) rfl rfl) rfl) EvL.nil rfl) rfl) rfl) (by simp)) e1) ?_).to (σ₁ := lawG [a, b, c, d] T G [("sums", .fz (.list ([m, M, M].map D.int)))]) ⟨rfl, rfl, rfl, rfl, rfl, rfl, rfl, rfl, trivial⟩) (Ex.cons (Ex.ifF (Tr.cmp (op := .ne) (s1 := true) (s2 := true) (Ev.sub (s1 := true) (s2 := true) (d := .int M) (Ev.name fe.ok rfl rfl) Ev.int rfl) (Ev.sub (s1 := true) (s2 := true) (d := .int M) (Ev.name fe.ok rfl rfl) Ev.int rfl) (cmp_neI rfl) rfl) Ex.nil) (Ex.pre y ⟨rfl, rfl, rfl, rfl, rfl, rfl, rfl, trivial⟩))
  obtain ⟨sc, _⟩ := env; simp only at hsc; subst hsc; rfl
noncomputable abbrev inT (i : Nat) : Stmt := (forBody (lawS 14)).getD i pass0
noncomputable abbrev sigT (N T : List (List Str)) (G : List (List D)) (i j k : Nat) (rest : Sig) : Sig := lawG N T G (("i", .fz (.int (i : Int))) :: ("j", .fz (.int (j : Int))) :: ("k", .fz (.int (k : Int))) :: rest)
noncomputable abbrev sigB (N T : List (List Str)) (G : List (List D)) (i j k : Nat) (hd bs : List Str) : Sig := sigT N T G i j k [("heads", .fz (.list (strsD hd))), ("between", .own (strsD bs))]
theorem far_at {N T : List (List Str)} {s : List Str} {i : Nat} (h : T[i]? = some s) (hi : i < 100000) : idx (farD N T) (.int (i : Int)) = some (rowD N s) := idx_nat (by rw [List.getElem?_map, h]; rfl) (by omega)
theorem tree_at {T : List (List Str)} {s : List Str} {i : Nat} (h : T[i]? = some s) (hi : i < 100000) : idx (.list (treeD T)) (.int (i : Int)) = some (.str (enc s)) := idx_nat (by unfold treeD strsD; rw [List.getElem?_map, List.getElem?_map, h]; rfl) (by omega)
theorem TrA.and3 {e1 e2 e3 : Expr} {b1 b2 b3 : Bool} (h1 : Tr W n env ρ e1 b1) (h2 : Tr W n env ρ e2 b2) (h3 : Tr W n env ρ e3 b3) : TrA W n env ρ .And [e1, e2, e3] (b1 && (b2 && b3)) := by
  cases b1 with
  | false => exact TrA.and_stop h1
  | true => cases b2 with
    | false => exact TrA.and_on h1 (TrA.and_stop h2)
    | true => cases b3 with
      | false => exact TrA.and_on h1 (TrA.and_on h2 (TrA.and_stop h3))
      | true => exact TrA.and_on h1 (TrA.and_on h2 (TrA.and_on h3 TrA.and_nil))
noncomputable abbrev ifC : Stmt → Expr
  | .If t _ _ _ => t
  | _ => .Constant .none 0 ⟨0, 0, 0, 0⟩
theorem cmp_eqI (x y : Int) : Mine.cmp .eq (.int x) (.int y) = some (x == y) := rfl
theorem spot_turns (fe : FEnv env) (hsc : env.scope = dScope (stAt 24)) {N T : List (List Str)} {G : List (List D)} {i j k : Nat} {x y z : List Str} {hd : List Str} (hi : i < 4) (hj : j < 4) (hk : k < 4) (ex : N[i]? = some x) (ey : N[j]? = some y) (ez : N[k]? = some z) (hT : T.length ≤ 1000) :
    ∀ (ss : List Nat) (bs : List Str), (∀ s ∈ ss, s < T.length) → bs.length + ss.length ≤ 1000 →
    Turns W (n + 1) env (forTgt (inT 3)) (forBody (inT 3)) (ss.map fun j : Nat => D.int (j : Int)) (sigB N T G i j k hd bs) .next (sigB N T G i j k hd (bs ++ (((ss.map fun s => T.getD s []).filter (midB x y z)).map enc)))
  | [], bs, _, _ => by simp only [List.map_nil, List.filter_nil, List.append_nil]; exact .done
  | s :: ss, bs, hs, hl => by
    simp only [List.length_cons] at hl
    have hs1 := hs s (.head _)
    have es : T[s]? = some (T.getD s []) := by rw [List.getD_eq_getElem?_getD, List.getElem?_eq_getElem hs1]; rfl
    have ih := fun bs' hb => spot_turns (G := G) (hd := hd) fe hsc hi hj hk ex ey ez hT ss bs' (fun q hq => hs q (.tail _ hq)) hb
    generalize T.getD s [] = u at es
    have eq : bs ++ (((s :: ss).map fun s => T.getD s []).filter (midB x y z)).map enc = (bs ++ if midB x y z u = true then [enc u] else []) ++ ((ss.map fun s => T.getD s []).filter (midB x y z)).map enc := by
      have : T.getD s [] = u := by rw [List.getD_eq_getElem?_getD, es]; rfl
      rw [List.map_cons, List.filter_cons, this]
      cases midB x y z u <;> simp
    rw [eq]
    have at2 : ∀ {ρ : Rho} {i : Nat} {v : Str} {p1 p2 p3 p4 p5 : Pos} {x : List Str} (hi : i < 4) (e : N[i]? = some x) (h1 : ρ.lookup ("far" : Str) = some (farD N T, true)) (h2 : ρ.lookup ("spot" : Str) = some (.int (s : Int), true)) (h3 : ρ.lookup v = some (.int (i : Int), true)) (h4 : (v == ("__debug__" : Str)) = false), Ev W (n + 1) env ρ (.Subscript (.Subscript (.Name "far" p1) (.Name "spot" p2) p3) (.Name v p4) p5) (.int (dist u x)) true := fun {ρ i v p1 p2 p3 p4 p5 x} hi e h1 h2 h3 h4 =>
      Ev.sub (s1 := true) (s2 := true) (Ev.sub (s1 := true) (s2 := true) (Ev.name fe.ok h1 rfl) (Ev.name fe.ok h2 rfl) (far_at es (by omega))) (Ev.name fe.ok h3 h4) (row_at e (by omega))
    have ap2 : ∀ {ρ : Rho} {i j : Nat} {v w : Str} {p1 p2 p3 p4 p5 : Pos} {x y : List Str} (hi : i < 4) (hj : j < 4) (e : N[i]? = some x) (e' : N[j]? = some y) (h1 : ρ.lookup ("apart" : Str) = some (apartD N, true)) (h2 : ρ.lookup v = some (.int (i : Int), true)) (h2' : (v == ("__debug__" : Str)) = false) (h3 : ρ.lookup w = some (.int (j : Int), true)) (h4 : (w == ("__debug__" : Str)) = false), Ev W (n + 1) env ρ (.Subscript (.Subscript (.Name "apart" p1) (.Name v p2) p3) (.Name w p4) p5) (.int (dist x y)) true := fun {ρ i j v w p1 p2 p3 p4 p5 x y} hi hj e e' h1 h2 h2' h3 h4 =>
      Ev.sub (s1 := true) (s2 := true) (Ev.sub (s1 := true) (s2 := true) (Ev.name fe.ok h1 rfl) (Ev.name fe.ok h2 h2') (apart_at e (by omega))) (Ev.name fe.ok h3 h4) (row_at e' (by omega))
    refine .next (σ₁ := sigB N T G i j k hd (bs ++ if midB x y z u = true then [enc u] else [])) (Tgt.name fe (sto hsc rfl)) (Ex.cons ((Ex.assignSwap (xs := ["one", "two", "three"]) (ds := [.int (dist u x), .int (dist u y), .int (dist u z)]) fe rfl (fun q hq => by
      simp only [List.mem_cons, List.not_mem_nil, or_false] at hq
      rcases hq with rfl | rfl | rfl <;> exact sto hsc rfl) (Ev.tup (EvL.cons (at2 hi ex rfl rfl rfl rfl) (EvL.cons (at2 hj ey rfl rfl rfl rfl) (EvL.cons (at2 hk ez rfl rfl rfl rfl) EvL.nil rfl) rfl) rfl) (by simp)) rfl (by obtain ⟨sc, _⟩ := env; simp only at hsc; subst hsc; rfl)).to
      (σ₁ := sigT N T G i j k [("heads", .fz (.list (strsD hd))), ("between", .own (strsD bs)), ("spot", .fz (.int (s : Int))), ("one", .fz (.int (dist u x))), ("two", .fz (.int (dist u y))), ("three", .fz (.int (dist u z)))]) ⟨rfl, rfl, rfl, rfl, rfl, rfl, rfl, rfl, rfl, rfl, rfl, rfl, rfl, rfl, rfl, rfl, trivial⟩) ?_) (ih _ ?_)
    · have tt : Tr W (n + 1) env (rho (sigT N T G i j k [("heads", .fz (.list (strsD hd))), ("between", .own (strsD bs)), ("spot", .fz (.int (s : Int))), ("one", .fz (.int (dist u x))), ("two", .fz (.int (dist u y))), ("three", .fz (.int (dist u z)))])) (ifC ((forBody (inT 3)).getD 1 pass0)) (midB x y z u) :=
        Tr.boolop (TrA.and3 (Tr.cmp (op := .eq) (s1 := true) (s2 := true) (Ev.bin (op := .add) (s1 := true) (s2 := true) (Ev.name fe.ok rfl rfl) (Ev.name fe.ok rfl rfl) rfl) (ap2 (v := "i") (w := "j") hi hj ex ey rfl rfl rfl rfl rfl) (cmp_eqI _ _) rfl)
          (Tr.cmp (op := .eq) (s1 := true) (s2 := true) (Ev.bin (op := .add) (s1 := true) (s2 := true) (Ev.name fe.ok rfl rfl) (Ev.name fe.ok rfl rfl) rfl) (ap2 (v := "i") (w := "k") hi hk ex ez rfl rfl rfl rfl rfl) (cmp_eqI _ _) rfl)
          (Tr.cmp (op := .eq) (s1 := true) (s2 := true) (Ev.bin (op := .add) (s1 := true) (s2 := true) (Ev.name fe.ok rfl rfl) (Ev.name fe.ok rfl rfl) rfl) (ap2 (v := "j") (w := "k") hj hk ey ez rfl rfl rfl rfl rfl) (cmp_eqI _ _) rfl))
      cases hm : midB x y z u with
      | false =>
        rw [hm] at tt
        refine Ex.cons (Ex.ifF tt Ex.nil) (Ex.to Ex.nil ⟨rfl, rfl, rfl, rfl, rfl, rfl, rfl, rfl, rfl, rfl, rfl, ?_, trivial⟩)
        simp only [Bool.false_eq_true, if_false, List.append_nil]; rfl
      | true =>
        rw [hm] at tt
        refine Ex.cons (Ex.ifT tt (Ex.cons (Ex.lop (o := .append) (ds := strsD bs) (es := [.str (enc u)]) (rs := strsD (bs ++ [enc u])) fe (fun q => nomatch q) rfl rfl rfl (by decide) rfl (notI fe) (EvL.cons (Ev.sub (s1 := true) (s2 := true) (Ev.name fe.ok rfl rfl) (Ev.name fe.ok rfl rfl) (tree_at es (by omega))) EvL.nil rfl) (by simp only [lop]; rw [if_pos (by simp; omega)]; simp)) Ex.nil)) (Ex.to Ex.nil ⟨rfl, rfl, rfl, rfl, rfl, rfl, rfl, rfl, rfl, rfl, rfl, ?_, trivial⟩)
        simp only [if_true]; rfl
    · simp only [List.length_append]
      split <;> simp <;> omega
end
end Mine
namespace Mine
section
variable {W : Wd} {n : Nat} {env : Env} {σ σ₁ σ₂ : Sig} {ρ ρx : Rho}
theorem range_getD (T : List (List Str)) : (List.range T.length).map (fun s => T.getD s []) = T := by
  refine List.ext_getElem (by simp) fun i h1 h2 => ?_
  simp only [List.getElem_map, List.getElem_range, List.getD_eq_getElem?_getD]
  rw [List.getElem?_eq_getElem h2]; rfl
theorem range_ints (k : Nat) : rngD 0 k = (List.range k).map fun j : Nat => D.int (j : Int) := by
  unfold rngD
  exact List.map_congr_left fun i _ => by rw [Int.zero_add]
theorem triple (B : Bs W) (F : Fns W) (fe : FEnv env) (hsc : env.scope = dScope (stAt 24)) {N T : List (List Str)} {G : List (List D)} {ri rj : List D} {i j k : Nat} {x y z : List Str} (hi : i < 4) (hj : j < 4) (hk : k < 4) (ex : N[i]? = some x) (ey : N[j]? = some y) (ez : N[k]? = some z) (xm : x ∈ allN) (ym : y ∈ allN)
    (gi : G[i]? = some ri) (gj : G[j]? = some rj) (g1 : ri[j]? = some (lcpD x y)) (g2 : ri[k]? = some (lcpD x z)) (g3 : rj[k]? = some (lcpD y z)) (hT : T.length ≤ 1000) (hn : T.Nodup) (hx : ∀ s ∈ inits x, s ∈ T) (hy : ∀ s ∈ inits y, s ∈ T) :
    Ex W (n + 3) env (sigT N T G i j k []) (execs (forBody (lawS 14)) env) .next (lawG N T G []) := by
  obtain ⟨L, m, so, le, mem, on, iff⟩ := median (z := z) xm ym
  have LT : L ∈ T := on.elim (hx L) (hy L)
  have fo : T.filter (midB x y z) = [L] := filter_one hn LT fun s => midB_iff.trans (iff s)
  obtain ⟨fd, Fa⟩ := F.liOk.at
  have eh : fn1 .sorted (.list (strsD [enc (lcpS x y), enc (lcpS x z), enc (lcpS y z)])) = some (.list (strsD [enc (L.take m), enc (L.take m), enc L])) := by rw [sorted_str _ _ (by simp), so]
  have t := spot_turns (W := W) (n := n + 2) (G := G) (hd := [enc (L.take m), enc (L.take m), enc L]) fe hsc hi hj hk ex ey ez hT (List.range T.length) [] (fun s h => List.mem_range.mp h) (by simp; omega)
  rw [range_getD, fo, ← range_ints, List.nil_append] at t
  have com : ∀ {rest : Sig} {p1 p2 p3 p4 p5 : Pos} {v w : Str} {a b : Nat} {row : List D} {d : D} (ha : a < 4) (hb : b < 4) (e1 : G[a]? = some row) (e2 : row[b]? = some d) (h1 : (rho (sigT N T G i j k rest)).lookup v = some (.int (a : Int), true)) (h1' : (v == ("__debug__" : Str)) = false) (h2 : (rho (sigT N T G i j k rest)).lookup w = some (.int (b : Int), true)) (h2' : (w == ("__debug__" : Str)) = false) (hf : Mine.flat d = true),
      Ev W (n + 3) env (rho (sigT N T G i j k rest)) (.Subscript (.Subscript (.Name "common" p1) (.Name v p2) p3) (.Name w p4) p5) d true := fun {rest p1 p2 p3 p4 p5 v w a b row d} ha hb e1 e2 h1 h1' h2 h2' hf =>
    (Ev.sub (s2 := true) (Ev.sub (s2 := true) (Ev.name fe.ok rfl rfl) (Ev.name fe.ok h1 h1') (grid_at e1 (by omega))) (Ev.name fe.ok h2 h2') (idx_nat e2 (by omega))).flat hf
  have hm : cmp .nin (.str (enc (L.take m))) (.list (strsD (lns L))) = some false := by
    show (strs? (strsD (lns L))).map (fun ys => !ys.any (· == enc (L.take m))) = _
    rw [show strs? (strsD (lns L)) = some (lns L) from strs_map _]
    have : (lns L).any (· == enc (L.take m)) = true := List.any_eq_true.mpr ⟨enc (L.take m), by rw [lns_eq]; exact List.mem_map.mpr ⟨_, mem_inits.mpr ⟨m, le, rfl⟩, rfl⟩, by simp⟩
    show some (!(lns L).any (· == enc (L.take m))) = _
    rw [this]; rfl
  refine Ex.cons ((Ex.assign (d := .list (strsD [enc (L.take m), enc (L.take m), enc L])) fe (sto hsc rfl) (Ev.fn1 (s1 := true) (f := .sorted) B.base fe.ok (kd hsc rfl) B.sorted rfl (Ev.list (EvL.cons (com (rest := []) (v := "i") (w := "j") hi hj gi g1 rfl rfl rfl rfl rfl) (EvL.cons (com (rest := []) (v := "i") (w := "k") hi hk gi g2 rfl rfl rfl rfl rfl) (EvL.cons (com (rest := []) (v := "j") (w := "k") hj hk gj g3 rfl rfl rfl rfl rfl) EvL.nil rfl) rfl) rfl) (by simp)) eh) ?_).to (σ₁ := sigT N T G i j k [("heads", .fz (.list (strsD [enc (L.take m), enc (L.take m), enc L])))]) ⟨rfl, rfl, rfl, rfl, rfl, rfl, rfl, rfl, rfl, rfl, rfl, trivial⟩)
    (Ex.cons (Ex.ifF (Tr.boolop (TrA.or_on (Tr.cmp (op := .ne) (s1 := true) (s2 := true) (Ev.sub (s1 := true) (s2 := true) (d := .str (enc (L.take m))) (Ev.name fe.ok rfl rfl) Ev.int rfl) (Ev.sub (s1 := true) (s2 := true) (d := .str (enc (L.take m))) (Ev.name fe.ok rfl rfl) Ev.int rfl) (cmp_neS _) rfl) (TrA.or_on (Tr.cmp (op := .nin) (s1 := true) (s2 := true) (Ev.sub (s1 := true) (s2 := true) (d := .str (enc (L.take m))) (Ev.name fe.ok rfl rfl) Ev.int rfl) (Ev.callU B.base fe.ok (kd hsc rfl) rfl Fa rfl (EvL.cons (Ev.sub (s1 := true) (s2 := true) (d := .str (enc L)) (Ev.name fe.ok rfl rfl) Ev.int rfl) EvL.nil rfl) (c_line (n := n) B F mem)) hm rfl) TrA.or_nil))) Ex.nil)
    (Ex.cons ((Ex.assignN (ds := []) fe (sto hsc rfl) (EvN.list EvL.nil (by simp)) ?_).to (σ₁ := sigB N T G i j k [enc (L.take m), enc (L.take m), enc L] []) ⟨rfl, rfl, rfl, rfl, rfl, rfl, rfl, rfl, rfl, rfl, rfl, rfl, trivial⟩)
    (Ex.cons (Ex.for (Src.range1 (st := true) (hi := (T.length : Int)) B.base fe.ok (kd hsc rfl) B.range rfl (Ev.fn1 (s1 := true) (f := .len) B.base fe.ok (kd hsc rfl) B.len rfl (Ev.name (d := .list (treeD T)) fe.ok rfl rfl) ?_) (by omega)) t (fun _ => rfl))
    (Ex.cons (Ex.ifF (Tr.cmp (op := .ne) (s1 := false) (s2 := true) (d1 := .list (strsD [enc L])) (d2 := .list (strsD [enc L])) (Ev.name fe.ok rfl rfl) (Ev.list (EvL.cons (Ev.sub (s1 := true) (s2 := true) (d := .str (enc L)) (Ev.name fe.ok rfl rfl) Ev.int rfl) EvL.nil rfl) (by simp)) ((cmpL_ne _ _).trans (by simp)) rfl) Ex.nil) (Ex.to Ex.nil ⟨rfl, rfl, rfl, rfl, rfl, rfl, rfl, trivial⟩)))))
  · obtain ⟨sc, _⟩ := env; simp only at hsc; subst hsc; rfl
  · obtain ⟨sc, _⟩ := env; simp only at hsc; subst hsc; rfl
  · simp only [fn1]
    rw [if_pos (by simp [treeD, strsD]; omega)]
    simp [treeD, strsD]
noncomputable abbrev tripD : List D := [.tup [.int ((0 : Nat) : Int), .int ((1 : Nat) : Int), .int ((2 : Nat) : Int)], .tup [.int ((0 : Nat) : Int), .int ((1 : Nat) : Int), .int ((3 : Nat) : Int)], .tup [.int ((0 : Nat) : Int), .int ((2 : Nat) : Int), .int ((3 : Nat) : Int)], .tup [.int ((1 : Nat) : Int), .int ((2 : Nat) : Int), .int ((3 : Nat) : Int)]]
theorem trip_tgt (fe : FEnv env) (hsc : env.scope = dScope (stAt 24)) {N T : List (List Str)} {G : List (List D)} (i j k : Nat) : Tgt W (n + 3) env (lawG N T G []) (forTgt (lawS 14)) (.tup [.int (i : Int), .int (j : Int), .int (k : Int)]) (sigT N T G i j k []) :=
  Tgt.tup (ps := [("i", _), ("j", _), ("k", _)]) (ds := [.int (i : Int), .int (j : Int), .int (k : Int)]) fe rfl (fun q hq => by
      simp only [List.map_cons, List.map_nil, List.mem_cons, List.not_mem_nil, or_false] at hq
      rcases hq with rfl | rfl | rfl <;> exact sto hsc rfl)
end
end Mine
namespace Mine
section
variable {W : Wd} {n : Nat} {env : Env} {σ σ₁ σ₂ : Sig} {ρ ρx : Rho}
theorem Turns.four {tgt : Expr} {body : List Stmt} {d1 d2 d3 d4 : D} {s1 s2 s3 s4 σ : Sig} (g1 : Tgt W n env σ tgt d1 s1) (t1 : Ex W n env s1 (execs body env) .next σ) (g2 : Tgt W n env σ tgt d2 s2) (t2 : Ex W n env s2 (execs body env) .next σ) (g3 : Tgt W n env σ tgt d3 s3) (t3 : Ex W n env s3 (execs body env) .next σ) (g4 : Tgt W n env σ tgt d4 s4) (t4 : Ex W n env s4 (execs body env) .next σ) :
    Turns W n env tgt body [d1, d2, d3, d4] σ .next σ := .next g1 t1 (.next g2 t2 (.next g3 t3 (.next g4 t4 .done)))
theorem trip_turns (B : Bs W) (F : Fns W) (fe : FEnv env) (hsc : env.scope = dScope (stAt 24)) {a b c d : List Str} {T : List (List Str)} (ha : a ∈ allN) (hb : b ∈ allN) (hc : c ∈ allN) (hT : T.length ≤ 1000) (hn : T.Nodup) (ia : ∀ s ∈ inits a, s ∈ T) (ib : ∀ s ∈ inits b, s ∈ T) (ic : ∀ s ∈ inits c, s ∈ T) :
    Turns W (n + 3) env (forTgt (lawS 14)) (forBody (lawS 14)) tripD (lawG [a, b, c, d] T (gridD a b c d) []) .next (lawG [a, b, c, d] T (gridD a b c d) []) := by
  have t1 := triple (n := n) (N := [a, b, c, d]) (G := gridD a b c d) (i := 0) (j := 1) (k := 2) (x := a) (y := b) (z := c) (ri := (gridD a b c d).getD 0 []) (rj := (gridD a b c d).getD 1 []) B F fe hsc (by omega) (by omega) (by omega) rfl rfl rfl ha hb rfl rfl rfl rfl rfl hT hn ia ib
  have t2 := triple (n := n) (N := [a, b, c, d]) (G := gridD a b c d) (i := 0) (j := 1) (k := 3) (x := a) (y := b) (z := d) (ri := (gridD a b c d).getD 0 []) (rj := (gridD a b c d).getD 1 []) B F fe hsc (by omega) (by omega) (by omega) rfl rfl rfl ha hb rfl rfl rfl rfl rfl hT hn ia ib
  have t3 := triple (n := n) (N := [a, b, c, d]) (G := gridD a b c d) (i := 0) (j := 2) (k := 3) (x := a) (y := c) (z := d) (ri := (gridD a b c d).getD 0 []) (rj := (gridD a b c d).getD 2 []) B F fe hsc (by omega) (by omega) (by omega) rfl rfl rfl ha hc rfl rfl rfl rfl rfl hT hn ia ic
  have t4 := triple (n := n) (N := [a, b, c, d]) (G := gridD a b c d) (i := 1) (j := 2) (k := 3) (x := b) (y := c) (z := d) (ri := (gridD a b c d).getD 1 []) (rj := (gridD a b c d).getD 2 []) B F fe hsc (by omega) (by omega) (by omega) rfl rfl rfl hb hc rfl rfl rfl rfl rfl hT hn ib ic
  exact Turns.four (trip_tgt fe hsc 0 1 2) t1 (trip_tgt fe hsc 0 1 3) t2 (trip_tgt fe hsc 0 2 3) t3 (trip_tgt fe hsc 1 2 3) t4

noncomputable abbrev forIter : Stmt → Expr
  | .For _ b _ _ _ => b
  | _ => .Constant .none 0 ⟨0, 0, 0, 0⟩

noncomputable abbrev forPos : Stmt → Pos
  | .For _ _ _ _ p => p
  | _ => ⟨0, 0, 0, 0⟩
theorem s14 : lawS 14 = .For (forTgt (lawS 14)) (forIter (lawS 14)) (forBody (lawS 14)) [] (forPos (lawS 14)) := rfl

theorem st_gen {s : Stmt} {tgt it : Expr} {body : List Stmt} {pos : Pos} {ds : List D} {fl : Fl} {σ σ₁ : Sig} (e : s = .For tgt it body [] pos) (S : Src W n env (rho σ) it ds) (t : Turns W n env tgt body ds σ fl σ₁) (hs : ∀ x, foldedSetIterable it env x = pure x) : Ex W n env σ (exec s env) fl σ₁ := by
  subst e; exact Ex.for S t hs
theorem st_b : (∀ x, foldedSetIterable (forIter (lawS 14)) env x = pure x) := fun _ => rfl

theorem ev_tup3 {ρ : Rho} {i j k : Int} {a b c d : Nat} {p1 p2 p3 p4 : Pos} : Ev W (n + 3) env ρ (.Tuple [.Constant (.int i) a p1, .Constant (.int j) b p2, .Constant (.int k) c p3] d p4) (.tup [.int i, .int j, .int k]) true :=
  Ev.tup (EvL.cons Ev.int (EvL.cons Ev.int (EvL.cons Ev.int EvL.nil rfl) rfl) rfl) (by simp)
theorem st4 {a b c d : Expr} (h : ∀ e ∈ [a, b, c, d], ∀ es, starEach (e :: es) env = (false, eval e env) :: starEach es env) {da db dc dd : D} {ρ : Rho} {p : Pos} (e1 : Ev W (n + 3) env ρ a da true) (e2 : Ev W (n + 3) env ρ b db true) (e3 : Ev W (n + 3) env ρ c dc true) (e4 : Ev W (n + 3) env ρ d dd true) : Src W (n + 3) env ρ (.List [a, b, c, d] p) [da, db, dc, dd] :=
  Src.list (Ev.list (EvL.cons e1 (EvL.cons e2 (EvL.cons e3 (EvL.cons e4 EvL.nil (h _ (by simp) _)) (h _ (by simp) _)) (h _ (by simp) _)) (h _ (by simp) _)) (by simp))
theorem tup_star {es es' : List Expr} {k : Nat} {p : Pos} : starEach (.Tuple es k p :: es') env = (false, eval (.Tuple es k p) env) :: starEach es' env := rfl
theorem src_trip {ρ : Rho} {a1 a2 a3 a4 a5 a6 a7 a8 a9 a10 a11 a12 k1 k2 k3 k4 : Nat} {p1 p2 p3 p4 p5 p6 p7 p8 p9 p10 p11 p12 q1 q2 q3 q4 q : Pos} : Src W (n + 3) env ρ (.List [.Tuple [.Constant (.int ((0 : Nat) : Int)) a1 p1, .Constant (.int ((1 : Nat) : Int)) a2 p2, .Constant (.int ((2 : Nat) : Int)) a3 p3] k1 q1, .Tuple [.Constant (.int ((0 : Nat) : Int)) a4 p4, .Constant (.int ((1 : Nat) : Int)) a5 p5, .Constant (.int ((3 : Nat) : Int)) a6 p6] k2 q2,
    .Tuple [.Constant (.int ((0 : Nat) : Int)) a7 p7, .Constant (.int ((2 : Nat) : Int)) a8 p8, .Constant (.int ((3 : Nat) : Int)) a9 p9] k3 q3, .Tuple [.Constant (.int ((1 : Nat) : Int)) a10 p10, .Constant (.int ((2 : Nat) : Int)) a11 p11, .Constant (.int ((3 : Nat) : Int)) a12 p12] k4 q4] q) tripD :=
by
  refine st4 ?_ ?_ ?_ ?_ ?_
  · intro e he es
    simp only [List.mem_cons, List.not_mem_nil, or_false] at he
    rcases he with rfl | rfl | rfl | rfl
    · exact tup_star
    · exact tup_star
    · exact tup_star
    · exact tup_star
  · exact ev_tup3
  · exact ev_tup3
  · exact ev_tup3
  · exact ev_tup3

theorem src_it {ρ : Rho} : Src W (n + 3) env ρ (forIter (lawS 14)) tripD := by
  have e : ∃ a1 a2 a3 a4 a5 a6 a7 a8 a9 a10 a11 a12 k1 k2 k3 k4 p1 p2 p3 p4 p5 p6 p7 p8 p9 p10 p11 p12 q1 q2 q3 q4 q, forIter (lawS 14) = (.List [.Tuple [.Constant (.int ((0 : Nat) : Int)) a1 p1, .Constant (.int ((1 : Nat) : Int)) a2 p2, .Constant (.int ((2 : Nat) : Int)) a3 p3] k1 q1, .Tuple [.Constant (.int ((0 : Nat) : Int)) a4 p4, .Constant (.int ((1 : Nat) : Int)) a5 p5, .Constant (.int ((3 : Nat) : Int)) a6 p6] k2 q2,
    .Tuple [.Constant (.int ((0 : Nat) : Int)) a7 p7, .Constant (.int ((2 : Nat) : Int)) a8 p8, .Constant (.int ((3 : Nat) : Int)) a9 p9] k3 q3, .Tuple [.Constant (.int ((1 : Nat) : Int)) a10 p10, .Constant (.int ((2 : Nat) : Int)) a11 p11, .Constant (.int ((3 : Nat) : Int)) a12 p12] k4 q4] q) :=
    ⟨_, _, _, _, _, _, _, _, _, _, _, _, _, _, _, _, _, _, _, _, _, _, _, _, _, _, _, _, _, _, _, _, _, rfl⟩
  obtain ⟨a1, a2, a3, a4, a5, a6, a7, a8, a9, a10, a11, a12, k1, k2, k3, k4, p1, p2, p3, p4, p5, p6, p7, p8, p9, p10, p11, p12, q1, q2, q3, q4, q, e⟩ := e
  rw [e]
  exact src_trip
theorem st_trips {σ σ₁ : Sig} (t : Turns W (n + 3) env (forTgt (lawS 14)) (forBody (lawS 14)) tripD σ .next σ₁) : Ex W (n + 3) env σ (exec (lawS 14) env) .next σ₁ :=
  @st_gen W (n+3) env (lawS 14) (forTgt (lawS 14)) (forIter (lawS 14)) (forBody (lawS 14)) (forPos (lawS 14)) tripD .next σ σ₁ s14 (@src_it W n env (rho σ)) t (@st_b env)
end
end Mine
namespace Mine
section
variable {W : Wd} {n : Nat} {env : Env} {σ σ₁ σ₂ : Sig} {ρ ρx : Rho}
theorem split16 {α : Type} (z : α) : ∀ l : List α, l.length = 16 → l = [l.getD 0 z, l.getD 1 z, l.getD 2 z, l.getD 3 z, l.getD 4 z, l.getD 5 z, l.getD 6 z, l.getD 7 z, l.getD 8 z, l.getD 9 z, l.getD 10 z, l.getD 11 z, l.getD 12 z, l.getD 13 z, l.getD 14 z, l.getD 15 z]
  | [_, _, _, _, _, _, _, _, _, _, _, _, _, _, _, _], _ => rfl
theorem law_len : lawB.length = 16 := rfl
theorem law_split : lawB = [lawS 0, lawS 1, lawS 2, lawS 3, lawS 4, lawS 5, lawS 6, lawS 7, lawS 8, lawS 9, lawS 10, lawS 11, lawS 12, lawS 13, lawS 14, lawS 15] := split16 pass0 lawB law_len
theorem law_ret : Ex W n env σ (execs [lawS 15] env) (.ret (.bool true)) σ₁ := Ex.stop (Ex.ret Ev.bool) trivial
/-- from the grid on -/
theorem law_end0 (B : Bs W) (F : Fns W) (fe : FEnv env) (hsc : env.scope = dScope (stAt 24)) {a b c d : List Str} {T : List (List Str)} (hm : ∀ x ∈ [a, b, c, d], x ∈ allN) (lT : T.length ≤ 1000) (hnd : T.Nodup) (has : ∀ x ∈ [a, b, c, d], ∀ s ∈ inits x, s ∈ T) :
    Ex W (n + 9) env (lawG [a, b, c, d] T gr0 []) (execs [lawS 11, lawS 12, lawS 13, lawS 14, lawS 15] env) (.ret (.bool true)) [] := by
  have ma : a ∈ [a, b, c, d] := .head _
  have mb : b ∈ [a, b, c, d] := .tail _ (.head _)
  have mc : c ∈ [a, b, c, d] := .tail _ (.tail _ (.head _))
  have t := trip_turns (n := n + 6) B F fe hsc (d := d) (T := T) (hm _ ma) (hm _ mb) (hm _ mc) lT hnd (has _ ma) (has _ mb) (has _ mc)
  have s1 := st_loops (n := n) B F fe hsc (T := T) hm
  have s2 : Ex W (n + 9) env (lawG [a, b, c, d] T (gridD a b c d) []) (exec (lawS 14) env) .next (lawG [a, b, c, d] T (gridD a b c d) []) := @st_trips W (n + 6) env _ _ t
  have s3 : Ex W (n + 9) env (lawG [a, b, c, d] T (gridD a b c d) []) (execs [lawS 15] env) (.ret (.bool true)) [] := law_ret
  have y : Ex W (n + 9) env (lawG [a, b, c, d] T (gridD a b c d) []) (execs [lawS 14, lawS 15] env) (.ret (.bool true)) [] := @Ex.cons W (n + 9) env _ _ _ (lawS 14) [lawS 15] (.ret (.bool true)) (@s2) (@s3)
  have s4 : Ex W (n + 9) env (lawG [a, b, c, d] T (gridD a b c d) []) (execs [lawS 12, lawS 13, lawS 14, lawS 15] env) (.ret (.bool true)) [] := @st_sums W (n + 8) env [] B fe hsc a b c d T (gridD a b c d) [lawS 14, lawS 15] (.ret (.bool true)) (@y)
  exact @Ex.cons W (n + 9) env _ _ _ (lawS 11) [lawS 12, lawS 13, lawS 14, lawS 15] (.ret (.bool true)) (@s1) (@s4)
theorem law_end (B : Bs W) (F : Fns W) (fe : FEnv env) (hsc : env.scope = dScope (stAt 24)) {a b c d : List Str} (hm : ∀ x ∈ [a, b, c, d], x ∈ allN) :
    Ex W (n + 9) env (lawG [a, b, c, d] (treeN [a, b, c, d]) gr0 []) (execs [lawS 11, lawS 12, lawS 13, lawS 14, lawS 15] env) (.ret (.bool true)) [] := by
  have tk := treeOk hm
  have l := fold_len [a, b, c, d] [] hm
  simp only [List.length_cons, List.length_nil] at l
  exact law_end0 B F fe hsc hm (by unfold treeN; omega) tk.nodup tk.has
end
end Mine
namespace Mine
section
variable {W : Wd} {n : Nat} {env : Env} {σ σ₁ σ₂ : Sig} {ρ ρx : Rho}
noncomputable abbrev tgtP : Stmt → Pos
  | .Assign [.Name _ p] _ _ => p
  | _ => ⟨0, 0, 0, 0⟩
noncomputable abbrev asgP : Stmt → Pos
  | .Assign _ _ p => p
  | _ => ⟨0, 0, 0, 0⟩
noncomputable abbrev valP : Stmt → Pos
  | .Assign _ (.List _ p) _ => p
  | _ => ⟨0, 0, 0, 0⟩
theorem own_step {σ σ' σ₂ : Sig} {x : Str} {ds : List D} {st : Stmt} {rest : List Stmt} {fl : Fl} (s : Ex W n env σ (exec st env) .next (put x (.own ds) σ)) (y : Ex W n env σ' (execs rest env) fl σ₂) (h : Sub σ' (put x (.fz (.list ds)) (put x (.own ds) σ))) : Ex W n env σ (execs (st :: rest) env) fl σ₂ :=
  @Ex.cons W n env _ _ _ st rest fl (@s) (Ex.freeze (x := x) (by rw [put_lookup]; simp) (Ex.pre (@y) h))
theorem law_mid (B : Bs W) (F : Fns W) (fe : FEnv env) (hsc : env.scope = dScope (stAt 24)) {r0 r1 r2 r3 : List Str} (hr : ∀ r ∈ [r0, r1, r2, r3], r ∈ allR) :
    Ex W (n + 9) env [("rows", .fz (.list ([r0, r1, r2, r3].map fun r => D.list (strsD r))))] (execs [lawS 3, lawS 4, lawS 5, lawS 6, lawS 7, lawS 8, lawS 9, lawS 10, lawS 11, lawS 12, lawS 13, lawS 14, lawS 15] env) (.ret (.bool true)) [] := by
  have hm : ∀ x ∈ [nm r0, nm r1, nm r2, nm r3], x ∈ allN := fun x hx => by
    obtain ⟨r, h1, rfl⟩ := List.mem_map.mp (show x ∈ [r0, r1, r2, r3].map nm from hx)
    exact (row_facts r (hr r h1)).2
  have e11 := law_end (n := n) B F fe hsc hm
  have tk := treeOk hm
  have lT : (treeN [nm r0, nm r1, nm r2, nm r3]).length ≤ 1000 := by
    have l := fold_len [nm r0, nm r1, nm r2, nm r3] [] hm
    simp only [List.length_cons, List.length_nil] at l
    unfold treeN; omega
  have e10 := Ex.cons (st_common (n := n + 6) (σ := [("rows", .fz (.list ([r0, r1, r2, r3].map fun r => D.list (strsD r)))), ("places", .fz (placesD [nm r0, nm r1, nm r2, nm r3])), ("lines", .fz (linesD [nm r0, nm r1, nm r2, nm r3])), ("tree", .fz (.list (treeD (treeN [nm r0, nm r1, nm r2, nm r3])))), ("far", .fz (farD [nm r0, nm r1, nm r2, nm r3] (treeN [nm r0, nm r1, nm r2, nm r3]))), ("apart", .fz (apartD [nm r0, nm r1, nm r2, nm r3])), ("names", .fz (namesD [nm r0, nm r1, nm r2, nm r3]))]) B F fe hsc) (Ex.pre (@e11) ⟨rfl, rfl, rfl, rfl, rfl, rfl, rfl, trivial⟩)
  have hNT : ∀ a ∈ [nm r0, nm r1, nm r2, nm r3], a ∈ treeN [nm r0, nm r1, nm r2, nm r3] := fun a ha => tk.has a ha a (mem_inits.mpr ⟨a.length, Nat.le_refl _, (List.take_of_length_le (Nat.le_refl _)).symm⟩)
  have e9 := own_step (st_names (n := n + 6) (σ := [("rows", .fz (.list ([r0, r1, r2, r3].map fun r => D.list (strsD r)))), ("places", .fz (placesD [nm r0, nm r1, nm r2, nm r3])), ("lines", .fz (linesD [nm r0, nm r1, nm r2, nm r3])), ("tree", .fz (.list (treeD (treeN [nm r0, nm r1, nm r2, nm r3])))), ("far", .fz (farD [nm r0, nm r1, nm r2, nm r3] (treeN [nm r0, nm r1, nm r2, nm r3]))), ("apart", .fz (apartD [nm r0, nm r1, nm r2, nm r3]))]) B F fe hsc rfl hr rfl) (@e10) ⟨rfl, rfl, rfl, rfl, rfl, rfl, rfl, trivial⟩
  have e8 := own_step (st_apart (n := n + 6) (T := treeN [nm r0, nm r1, nm r2, nm r3]) (σ := [("rows", .fz (.list ([r0, r1, r2, r3].map fun r => D.list (strsD r)))), ("places", .fz (placesD [nm r0, nm r1, nm r2, nm r3])), ("lines", .fz (linesD [nm r0, nm r1, nm r2, nm r3])), ("tree", .fz (.list (treeD (treeN [nm r0, nm r1, nm r2, nm r3])))), ("far", .fz (farD [nm r0, nm r1, nm r2, nm r3] (treeN [nm r0, nm r1, nm r2, nm r3])))]) B F fe hsc (N := [nm r0, nm r1, nm r2, nm r3]) rfl hm lT tk.all hNT rfl rfl rfl) (@e9) ⟨rfl, rfl, rfl, rfl, rfl, rfl, trivial⟩
  have e7 := own_step (st_far (n := n + 6) (T := treeN [nm r0, nm r1, nm r2, nm r3]) (σ := [("rows", .fz (.list ([r0, r1, r2, r3].map fun r => D.list (strsD r)))), ("places", .fz (placesD [nm r0, nm r1, nm r2, nm r3])), ("lines", .fz (linesD [nm r0, nm r1, nm r2, nm r3])), ("tree", .fz (.list (treeD (treeN [nm r0, nm r1, nm r2, nm r3]))))]) B F fe hsc (N := [nm r0, nm r1, nm r2, nm r3]) rfl hm lT tk.all rfl rfl) (@e8) ⟨rfl, rfl, rfl, rfl, rfl, trivial⟩
  have tt := tree_turns (W := W) (n := n + 7) fe hsc (.list ([r0, r1, r2, r3].map fun r => D.list (strsD r))) [nm r0, nm r1, nm r2, nm r3] [nm r0, nm r1, nm r2, nm r3] [] hm (fun _ h => nomatch h) (by simp)
  have e6 := Ex.cons (Ex.for (iter := forIter (lawS 6)) (pos := forPos (lawS 6)) (Src.list (Ev.name fe.ok rfl rfl)) tt (fun _ => rfl)) (Ex.freeze (x := "tree") rfl (Ex.pre (@e7) ⟨rfl, rfl, rfl, rfl, trivial⟩))
  have s5 := (Ex.assignN (W := W) (n := n + 9) (σ := [("rows", .fz (.list ([r0, r1, r2, r3].map fun r => D.list (strsD r)))), ("places", .fz (placesD [nm r0, nm r1, nm r2, nm r3])), ("lines", .fz (linesD [nm r0, nm r1, nm r2, nm r3]))]) (x := "tree") (ds := []) (p := tgtP (lawS 5)) (pos := asgP (lawS 5)) fe (stoC fe hsc rfl) (EvN.list (pos := valP (lawS 5)) EvL.nil (by simp)) (by obtain ⟨sc, _⟩ := env; simp only at hsc; subst hsc; rfl))
  have e5 := Ex.cons s5 (@e6)
  have e4 := own_step (st_lines (n := n + 6) (σ := [("rows", .fz (.list ([r0, r1, r2, r3].map fun r => D.list (strsD r)))), ("places", .fz (placesD [nm r0, nm r1, nm r2, nm r3]))]) B F fe hsc (N := [nm r0, nm r1, nm r2, nm r3]) rfl hm rfl) (@e5) ⟨rfl, rfl, rfl, trivial⟩
  have e3 := own_step (st_places (n := n + 6) (σ := [("rows", .fz (.list ([r0, r1, r2, r3].map fun r => D.list (strsD r))))]) B F fe hsc rfl hr rfl) (@e4) ⟨rfl, rfl, trivial⟩
  exact @e3
end
end Mine
namespace Mine
section
variable {W : Wd} {n : Nat} {env : Env} {σ σ₁ σ₂ : Sig} {ρ ρx : Rho}
theorem st_seeds (fe : FEnv env) (hsc : env.scope = dScope (stAt 24)) : Ex W n env σ (exec (lawS 0) env) .next (put "seeds" (.own ([105, 5, 95, 116].map D.int)) σ) := by
  refine Ex.assignN fe (sto hsc rfl) (EvN.list (EvL.cons Ev.int (EvL.cons Ev.int (EvL.cons Ev.int (EvL.cons Ev.int EvL.nil rfl) rfl) rfl) rfl) (by simp)) ?_
  obtain ⟨sc, _⟩ := env; simp only at hsc; subst hsc; rfl
theorem law_ok (B : Bs W) (F : Fns W) (fe : FEnv env) (hsc : env.scope = dScope (stAt 24)) (ns : List Int) (hn : ns.length ≤ 1000) :
    Ex W (n + 9) env [("script", .fz (.list (ns.map D.int)))] (execs lawB env) (.ret (.bool true)) [] := by
  rw [law_split]
  obtain ⟨xs, hx, tt⟩ := seed_turns (W := W) (n := n + 8) B fe hsc ns hn [0, 1, 2, 3] [105, 5, 95, 116] rfl (by intro k hk; simp at hk; omega)
  obtain ⟨x0, x1, x2, x3, rfl⟩ : ∃ x0 x1 x2 x3, xs = [x0, x1, x2, x3] := by
    match xs, hx with
    | [a, b, c, d], _ => exact ⟨a, b, c, d, rfl⟩
  have e3 := law_mid (n := n) B F fe hsc (r0 := rowOf x0) (r1 := rowOf x1) (r2 := rowOf x2) (r3 := rowOf x3) (fun r hr => by
    obtain ⟨x, _, rfl⟩ := List.mem_map.mp (show r ∈ [x0, x1, x2, x3].map rowOf from hr)
    exact row_mem x)
  have e2 := own_step (st_rows (n := n + 6) (σ := [("script", .fz (.list (ns.map D.int))), ("seeds", .fz (.list ([x0, x1, x2, x3].map D.int)))]) (xs := [x0, x1, x2, x3]) B F fe hsc rfl rfl) (@e3) ⟨rfl, trivial⟩
  have e1 := Ex.cons (Ex.for (iter := forIter (lawS 1)) (pos := forPos (lawS 1)) (Src.range1 (st := true) (hi := 4) B.base fe.ok (kd hsc rfl) B.range rfl Ev.int (by omega)) tt (fun _ => rfl)) (Ex.freeze (x := "seeds") rfl (Ex.pre (@e2) ⟨rfl, rfl, trivial⟩))
  have s0 := st_seeds (W := W) (n := n + 9) (σ := [("script", .fz (.list (ns.map D.int)))]) fe hsc
  have e0 := Ex.cons s0 (@e1)
  exact @e0
end
end Mine
namespace Mine
section
theorem dfn_of {p : Program} {loose : List Str} {mean : ExcName → Option Value} {W : Wd} (T : Top p loose mean W.mg W.mb W.hB) {x : Str} {ps : Arguments} {b : List Stmt} {sc : Scope}
    (e : ((recsOf p).find? (fun d => d.name == x)).map (fun d => (d.name, d.params, d.body, d.scope)) = some (x, ps, b, sc)) : ∃ a, FnOk W x a ps b sc := by
  obtain ⟨d, h1, h2⟩ := Option.map_eq_some_iff.mp e
  have hm := List.mem_of_find?_eq_some h1
  obtain ⟨a, o, pm, code, doc, f1, f2, f3, f4⟩ := T.fn d hm
  cases h2
  exact ⟨a, f1, o, pm, code, doc, f2, f3, f4⟩
theorem well_ints {P : Params} {h : Heap} {X : List Addr} : ∀ (ns : List Int) (vs : List Value), WellAll P h vs (ofPys (ns.map PyData.int)) → RepL h X (ns.map D.int) vs
  | [], vs, w => by
    cases w
    rw [List.map_nil, RepL_nil]
  | i :: ns, vs, w => by
    cases w with
    | cons a r =>
      cases a
      rw [List.map_cons, RepL_cons]
      exact ⟨_, _, rfl, Rep.mkInt, well_ints ns _ r⟩
theorem well_list {P : Params} {h : Heap} {a : Addr} {ns : List Int} (w : Well P h (.ref a) (ofPy (.list (ns.map PyData.int)))) : RepL h [] [.list (ns.map D.int)] [.ref a] := by
  rw [show ofPy (.list (ns.map PyData.int)) = .list (ofPys (ns.map PyData.int)) from rfl] at w
  cases w with
  | list e r =>
    refine RepL.one ?_
    rw [Rep_list]
    exact ⟨a, _, rfl, fun q => (nomatch q), ⟨0, e⟩, well_ints ns _ r⟩
theorem law_call {W : Wd} {fa : Addr} (B : Bs W) (F : Fns W) (L : Dfn W "law" fa 24) {ns : List Int} (hn : ns.length ≤ 1000) {P : Params} {a : Addr} {s : Shared} (hs : s.heap = W.hB) (w : Well P s.heap (.ref a) (ofPy (.list (ns.map PyData.int)))) :
    Pu W callerA s (call (.ref fa) [.ref a]) (fun v _ => v = .bool true) := by
  have c : CallOk W 10 fa [.list (ns.map D.int)] (.bool true) := CallOk.ofC B.base L (ps := ["script"]) rfl rfl (binds1 fun _ _ _ _ => rfl) rfl rfl rfl (by decide +kernel) fun env hsc fe => ⟨[], law_ok (n := 0) B F fe hsc ns hn⟩
  have k := c callerA [] [] s [.ref a] ⟨fun _ => rfl, rfl, by decide, by decide⟩ ⟨by rw [hs]; exact fun _ _ e => e, fun _ q => (nomatch q), fun _ q => (nomatch q)⟩ (well_list w)
  exact k.mono fun _ _ _ r => by rw [Rep_bool] at r; exact r
end
end Mine
namespace Mine
noncomputable def bltNames : List (Str × Value) := [("type", .type "type"), ("str", .type "str"), ("bytes", .type "bytes"), ("issubclass", .builtin "issubclass"), ("isinstance", .builtin "isinstance"), ("len", .builtin "len"), ("abs", .builtin "abs"), ("sum", .builtin "sum"), ("sorted", .builtin "sorted"), ("range", .type "range"), ("tuple", .type "tuple"), ("map", .type "map"), ("min", .builtin "min"), ("max", .builtin "max"), ("enumerate", .type "enumerate"), ("IndexError", .type "IndexError")]
/-- no built-in's name is one of the top's -/
noncomputable def noTop (p : Program) (loose : List Str) : Bool := bltNames.all fun q => !(startupNames.contains q.1 || loose.contains q.1 || ((recsOf p).map (·.name)).contains q.1 || ((litsOf p).map (·.1)).contains q.1 || ((clssOf p loose).map (·.name)).contains q.1)
section
variable {w : World} {h : Heap} {mg mb : Str → Option Value} {loose : List Str} {mean : ExcName → Option Value} {p : Program}
theorem boot_at : ∀ q ∈ bltNames, bootBuiltins q.1 = some q.2 := by
  intro q hq
  simp only [bltNames, List.mem_cons, List.not_mem_nil, or_false] at hq
  rcases hq with rfl | rfl | rfl | rfl | rfl | rfl | rfl | rfl | rfl | rfl | rfl | rfl | rfl | rfl | rfl | rfl <;> kernel_rfl
theorem blt_of (T : PyProof.Rows.Top p loose mean mg mb h) (e : noTop p loose = true) (pr : Program) (q : Str × Value) (hq : q ∈ bltNames) (hn : q.1 ≠ "__name__") : Blt ⟨pr, w, h, mg, mb⟩ q.1 q.2 := by
  have := List.all_eq_true.mp e q hq
  simp only [Bool.not_eq_true', Bool.or_eq_false_iff] at this
  obtain ⟨⟨⟨⟨h1, h2⟩, h3⟩, h4⟩, h5⟩ := this
  have no : ∀ {l : List Str}, l.contains q.1 = false → q.1 ∉ l := fun {l} z m => by
    rw [List.contains_iff_mem.mpr m] at z; cases z
  exact ⟨T.free q.1 (no h1) (no h2) (no h3) (no h4) (no h5), (T.builtins q.1 hn).trans (boot_at q hq)⟩
theorem bs_of (T : PyProof.Rows.Top p loose mean mg mb h) (e : noTop p loose = true) (pr : Program) : Bs ⟨pr, w, h, mg, mb⟩ := by
  have b : ∀ (i : Nat) (q : Str × Value), bltNames[i]? = some q → q.1 ≠ "__name__" → Blt ⟨pr, w, h, mg, mb⟩ q.1 q.2 := fun i q hq => blt_of T e pr q (List.mem_of_getElem? hq)
  exact { base := ⟨T.g, T.b, T.nolimit⟩
          type := b 0 ("type", .type "type") rfl (by decide)
          str := b 1 ("str", .type "str") rfl (by decide)
          bytes := b 2 ("bytes", .type "bytes") rfl (by decide)
          issubclass := b 3 ("issubclass", .builtin "issubclass") rfl (by decide)
          isinstance := b 4 ("isinstance", .builtin "isinstance") rfl (by decide)
          len := b 5 ("len", .builtin "len") rfl (by decide)
          abs := b 6 ("abs", .builtin "abs") rfl (by decide)
          sum := b 7 ("sum", .builtin "sum") rfl (by decide)
          sorted := b 8 ("sorted", .builtin "sorted") rfl (by decide)
          range := b 9 ("range", .type "range") rfl (by decide)
          tuple := b 10 ("tuple", .type "tuple") rfl (by decide)
          map := b 11 ("map", .type "map") rfl (by decide)
          min := b 12 ("min", .builtin "min") rfl (by decide)
          max := b 13 ("max", .builtin "max") rfl (by decide)
          enumerate := b 14 ("enumerate", .type "enumerate") rfl (by decide)
          IndexError := b 15 ("IndexError", .type "IndexError") rfl (by decide) }
/-- the text's def at place i is the top's def of that name -/
noncomputable abbrev DefAt (p : Program) (x : Str) (i : Nat) : Prop := ((recsOf p).find? (fun d => d.name == x)).map (fun d => (d.name, d.params, d.body, d.scope)) = some (x, dArgs (stAt i), dBody (stAt i), dScope (stAt i))
theorem fns_of (T : PyProof.Rows.Top p loose mean mg mb h) (pr : Program) (e1 : DefAt p "fspath" 9) (e2 : DefAt p "_get_sep" 13) (e3 : DefAt p "split" 14) (e4 : DefAt p "splitroot" 15) (e5 : DefAt p "normpath" 16) (e6 : DefAt p "commonpath" 17) (e7 : DefAt p "sorted_list_difference" 19) (e8 : DefAt p "_law_names" 21) (e9 : DefAt p "_law_line" 22) (e10 : DefAt p "_law_far" 23) : Nonempty (Fns ⟨pr, w, h, mg, mb⟩) := by
  have T' : PyProof.Rows.Top p loose mean (Wd.mk pr w h mg mb).mg (Wd.mk pr w h mg mb).mb (Wd.mk pr w h mg mb).hB := T
  obtain ⟨a1, f1⟩ := dfn_of T' e1
  obtain ⟨a2, f2⟩ := dfn_of T' e2
  obtain ⟨a3, f3⟩ := dfn_of T' e3
  obtain ⟨a4, f4⟩ := dfn_of T' e4
  obtain ⟨a5, f5⟩ := dfn_of T' e5
  obtain ⟨a6, f6⟩ := dfn_of T' e6
  obtain ⟨a7, f7⟩ := dfn_of T' e7
  obtain ⟨a8, f8⟩ := dfn_of T' e8
  obtain ⟨a9, f9⟩ := dfn_of T' e9
  obtain ⟨a10, f10⟩ := dfn_of T' e10
  exact ⟨{ fs := a1, gs := a2, sp := a3, sr := a4, np := a5, cp := a6, sl := a7, nmA := a8, li := a9, fa := a10, fsOk := f1, gsOk := f2, spOk := f3, srOk := f4, npOk := f5, cpOk := f6, slOk := f7, nmOk := f8, liOk := f9, faOk := f10 }⟩
theorem call_end {p pr : Program} {w : World} {mg mb : Str → Option Value} {loose : List Str} {mean mean' : ExcName → Option Value} {s₁ : Shared} {fa a : Addr} {ns : List Int} {P : Params} {c : ClaimW} {cl : Str → Option Addr}
    (T : PyProof.Rows.Top p loose mean mg mb s₁.heap) (L : Dfn ⟨pr, w, s₁.heap, mg, mb⟩ "law" fa 24) (hg : s₁.gens = #[]) (hn : ¬ (63 : Int) < (ns.length : Int))
    (wl : Well P s₁.heap (.ref a) (ofPy (.list (ns.map PyData.int)))) {args : List WData} (hr : ∀ cls, c.raises args cls = false) (hp : c.post args (.bool true) args = true) (e : noTop p loose = true) (e1 : DefAt p "fspath" 9) (e2 : DefAt p "_get_sep" 13) (e3 : DefAt p "split" 14) (e4 : DefAt p "splitroot" 15) (e5 : DefAt p "normpath" 16) (e6 : DefAt p "commonpath" 17) (e7 : DefAt p "sorted_list_difference" 19) (e8 : DefAt p "_law_names" 21) (e9 : DefAt p "_law_line" 22) (e10 : DefAt p "_law_far" 23) :
    wpAny (model pr w) callerA (call (.ref fa) [.ref a]) (fun v s' => GoodWG c cl mean' args s₁ (.ok (.ret v)) s') (fun e s' => GoodWG c cl mean' args s₁ (.error e) s') s₁ := by
  obtain ⟨F⟩ := fns_of (w := w) T pr e1 e2 e3 e4 e5 e6 e7 e8 e9 e10
  have B := bs_of (w := w) T e pr
  have k := law_call (W := ⟨pr, w, s₁.heap, mg, mb⟩) B F L (ns := ns) (by omega) rfl wl
  refine wpAny_mono k (fun v s' q => ?_) fun _ _ e => e.elim
  obtain ⟨h', tk, rfl, _, st, rfl⟩ := q
  refine GoodW.toG ⟨.inl ⟨_, .bool true, [], rfl, hr, .bool true, hp, fun _ => ⟨.nil, fun _ q => nomatch q⟩⟩, st fun _ _ e => e, rfl, hg⟩
end
end Mine
namespace Mine
/-- the view: the text's defs and classes -/
noncomputable def vw : Program := { PySem.Challenge.pw_pd0051_01 with main := { PySem.Challenge.pw_pd0051_01.main with body := PySem.Challenge.pw_pd0051_01.main.body.filter fun s => match s with | .Assign _ _ _ => false | _ => true } }
noncomputable abbrev row : OpenRow := OpenLaw.row PySem.Challenge.rw_pd0051_01
noncomputable def dPos : Stmt → Pos
  | .FunctionDef _ _ _ _ _ _ _ _ _ q => q
  | _ => ⟨0, 0, 0, 0⟩
noncomputable def lawRec : DefRec := ⟨"law", dArgs (stAt 24), dBody (stAt 24), dScope (stAt 24), dPos (stAt 24)⟩
noncomputable abbrev seenX (s : Shared) : Bool := xlAt vw [] s && recOk (RowW.records (OpenRow.toRowW row)) s
theorem left : LeftO row.prog vw [] seenX (Hook.obs Hook.none) (Hook.val Hook.none) 2238 := fun w => by kernel_rfl
theorem look1 : namesResolve row.prog = true := by decide +kernel
theorem look2 : noRoadLSs { strict := !(importedModules row.prog.main.body).all cThrough.contains, foot := none, bare := (["vars", "dir", "locals"] : List Str).filter (readsOut row.prog row.prog.main.body) } row.prog.main.body = true := by decide +kernel
theorem look3 : (namesMeet row.prog row.prog.main.body fun _ n => attrL n) = true := by decide +kernel
theorem looks : looksOpen row.prog = true := look_both (look_both (look_both (look_both (by decide +kernel) look1) (by decide +kernel)) look2) look3
theorem partIs : row.partSaid = true := by
  unfold OpenRow.partSaid
  rw [looks]
  decide +kernel
theorem rowIs : row.wellSaid = true := look_both (look_both partIs (by decide +kernel)) (by decide +kernel)
theorem said : OpenLaw.wellSaid PySem.Challenge.rw_pd0051_01 = true := by
  unfold OpenLaw.wellSaid
  rw [rowIs]
  decide +kernel
theorem isOk : (chainsOk vw && opensWell row.prog && (frees row.toRowW && row.within.isEmpty)) = true := by decide +kernel
theorem isDef : defOf vw row.name = some (lawRec, []) := by kernel_rfl
theorem isThe : row.prog.theDef row.name = some (lawRec.params, lawRec.body, lawRec.scope) := by kernel_rfl
theorem isKw : kwWritten? lawRec.params.kwonlyargs lawRec.params.kw_defaults = some [] := by kernel_rfl
end Mine
theorem PySem.Challenge.cw_pd0051_01_holds : PySem.Challenge.rw_pd0051_01.Holds := by
  refine holds_law Mine.said fun sd => ?_
  refine holds_open (q := Mine.vw) (loose := []) (Xt := Mine.seenX) (XP := XL Mine.vw []) (Yf := Hook.obs Hook.none) (Ya := Hook.val Hook.none) (YP := Hook.says Hook.none) (N := 2238) Mine.left (Hook.of Hook.none) (Hook.keeps Hook.none) (fun s e => xl_of s (Bool.and_eq_true_iff.mp e).1) XL.keeps Mine.isDef Mine.isThe Mine.isKw (fun s e => recFacts_of (Bool.and_eq_true_iff.mp e).2) (by rfl) sd Mine.isOk ⟨rfl, rfl, rfl, rfl, rfl, by decide +kernel⟩ ?hw ?hc
  case hw => w_witness2
  w_strict (
  intro w s₀ s₁ mg mb G Y fa o pm cd doc dV kV ho hd hcd hD hmg hg args vals as hpre hlay hrd hwl hlo
  refine Ground.open G ?_
  intro T B D TE TW
  wrow_args hpre hlay hrd hwl hlo
  have e1 : dV = .none := hD.pos.elim (·.2) fun q => absurd rfl q.1
  have e2 : kV = .none := hD.kw.elim (·.2) fun q => absurd rfl q.1
  subst e1; subst e2
  refine Mine.call_end T ⟨hmg, o, pm, cd, doc, ho, hd, hcd⟩ hg (by assumption) (by assumption) (fun _ => rfl) (by kernel_rfl) (by kernel_rfl) (by kernel_rfl) (by kernel_rfl) (by kernel_rfl) (by kernel_rfl) (by kernel_rfl) (by kernel_rfl) (by kernel_rfl) (by kernel_rfl) (by kernel_rfl) (by kernel_rfl))
